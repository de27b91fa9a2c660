import JvmDerived
import JvmDerived.Pilot.@@N@@Statement
import JvmDerived.Pilot.@@N@@Code
set_option linter.unusedVariables false
set_option linter.unusedSimpArgs false
@@BLOCK:NumsL.lean.txt@@
namespace Jvm.RoadKit
open Sem ClassFile Op Lib Jvm.Stand Jvm.Free Jvm.LawKit
section New
variable {p : Program} {l : Launch} {e : Env} {R : Room} {s : State} {m : MethodId} {args : Array Value} {below : List Frame} {meth : Method} {c : Code} {T : State} {locs : List Loc} {cells slots : Nat}
theorem retI (X : Stand p l e R s m args below meth c T locs cells slots) (hx : p.tables.exec = Jvm.exec) {pc : Nat} {Ls : Array Slot} {z : Int32} {rest : List Value} (hret : meth.sig.returnType = some .int) (hd : decode c.code pc = .ok (.ireturn, 1)) {fs : List Frame}
    (hl : ∀ (f : JFrame) (acts : List Action), f.method = m → f.locked = none → f.entered = [] → (doReturn e (T.setTop f) acts (some (.int z))).1 = T.setFrames fs) : Steps p.tables e below (T.setTop (mkF m pc Ls (.int z :: rest))) (T.setFrames fs) := by
  have hm' : T.vm.method? m = some meth := X.method'
  have hn : narrow .int (.int z) = .int z := rfl
  show Steps p.tables e below (T.setTop { method := m, pc := pc, locals := Ls, stack := _ :: rest, locked := none }) _
  jvm_step X.here [X.here.top, hx, hd, hm', hret, hn]
  first | (intro acts; rw [hl _ acts rfl rfl rfl]) | rw [hl _ _ rfl rfl rfl]
  exact Steps.refl _
/-- the walk's goal, at any point of it -/
def Gl (p : Program) (e : Env) (below : List Frame) (s : State) (Q : Option Value → Heap → List Loc → Prop) (C N : Nat) (T : State) (g : JFrame) : Prop :=
  ∃ s₂ o, Steps p.tables e below (T.setTop g) s₂ ∧ s₂.status = .running ∧ Ended s₂ below o ∧ ∃ v L, o = .returned v ∧ Q v s₂.heap L ∧ FrameEnd s o s₂ L C N
variable {Q : Option Value → Heap → List Loc → Prop} {C N : Nat} {T' : State} {g g' : JFrame} {h : Heap}
theorem Gl.st (f : ∀ t, Steps p.tables e below (T'.setTop g') t → Steps p.tables e below (T.setTop g) t) (k : Gl p e below s Q C N T' g') : Gl p e below s Q C N T g := by
  obtain ⟨s₂, o, h1, r⟩ := k
  exact ⟨s₂, o, f _ h1, r⟩
theorem Gl.ret (X : Stand p l e R s m args below meth c T locs cells slots) (hlk : meth.locks = false) {v : Option Value} (hv : meth.sig.returnType = none → v = none) (eT : T.heap = h)
    (f : ∀ fs, (∀ (f : JFrame) (acts : List Action), f.method = m → f.locked = none → f.entered = [] → (doReturn e (T.setTop f) acts v).1 = T.setFrames fs) → Steps p.tables e below (T.setTop g) (T.setFrames fs)) (hc : cells ≤ C) (hn : slots ≤ N) (hQ : Q v h locs) : Gl p e below s Q C N T g := by
  obtain ⟨fs, hr, hrun, hended, hW, hsame⟩ := X.leave (v := v) hv hlk
  exact ⟨_, _, f fs hr, hrun, hended, _, _, rfl, by show Q v T.heap _; rw [eT]; exact hQ, ⟨_, rfl⟩, hW, hsame.mono hc hn⟩
theorem Arv.cellX {Z : State} {h : Heap} {a : Addr} {k : ClassId} {ty : FieldType} {z : Int32} {vs : List Value} {dv : Value} (F : Arv Z h a k ty z vs dv) : ∃ c : Cell, h[a]? = some c ∧ ∀ q, c.vm ≠ .statics q := by
  obtain ⟨c, A, -⟩ := F; exact ⟨c, A.1, A.2.1.1⟩
theorem selPrivate {s : State} {args : Array Value} {y z : MethodName} (hzy : z.cls = y.cls) (hsel : (Cond.selects z.cls z z).before args s = true) (hpriv : s.PrivateAt y) (hinst : (Cond.instanceMethod y).before args s = true) (hy : y.cls ≠ "java/lang/invoke/MethodHandle" ∧ y.cls ≠ "java/lang/invoke/VarHandle") : (Cond.selects y.cls y y).before args s = true := by
  obtain ⟨c2, r2, m2, -, -, q3, -, kP, hkP, hkPi⟩ := Cond.selects_spec hsel
  exact selects_self_of_private (by rw [← hzy]; exact findClass_of_methodNamed q3) hkP hkPi hpriv hinst hy
theorem Sta.keepX {Z : State} {h h' : Heap} {C n d : String} {v : Value} {ws : List Addr} (F : Sta Z h C n d v) (K : Keep h h' ws) (q : ∀ x ∈ ws, ∃ c : Cell, h[x]? = some c ∧ ∀ q, c.vm ≠ .statics q) : Sta Z h' C n d v := by
  obtain ⟨cf, i, k, f, st, cell, h1, h2, h3, h4, h5, h6, h7⟩ := F
  refine ⟨cf, i, k, f, st, cell, h1, h2, h3, h4, K.2.1 st cell h5 fun z => ?_, h6, h7⟩
  obtain ⟨c, e1, e2⟩ := q st z
  cases h5.symm.trans e1
  cases hv : cell.vm <;> simp [hv, VmData.isStatics] at h6
  exact e2 _ hv
end New
end Jvm.RoadKit
namespace Jvm.Pilot.@@N@@
open Jvm Jvm.ClassFile Sem Op Lib Jvm.Free Jvm.Stand Jvm.LawKit Jvm.RoadKit Bundle Jvm.Pilot.@@N@@.Jvm.D

theorem own_upd (vs : List Value) (j : Nat) (v dv : Value) : ∃ vs' : List Value, ∀ i, vs'.getD i dv = if i = j then v else vs.getD i dv := by
  refine ⟨(vs ++ List.replicate (j + 1) dv).set j v, fun i => ?_⟩
  rw [List.getD_eq_getElem?_getD, List.getElem?_set]
  by_cases e : j = i
  · subst e
    have hl : j < (vs ++ List.replicate (j + 1) dv).length := by rw [List.length_append, List.length_replicate]; omega
    simp only [if_true, hl, Option.getD_some]
  · have e' : ¬ i = j := fun h => e h.symm
    rw [if_neg e, if_neg e', ← List.getD_eq_getElem?_getD]; exact pad_rep vs dv (j + 1) i
theorem own_set {Z : State} {h h' : Heap} {a : Addr} {c : Cell} {ty : FieldType} {k : ClassId} {z : Int32} {vs vs' : List Value} {dv v : Value} {j : Nat} (A : Arr Z h a c ty) (q1 : c.cls = k) (S : c.slots.size = z.toNatClampNeg) (q3 : ¬ z < 0) (H : Has c vs dv) (G : ∀ i, i < c.slots.size → fits ty (vs.getD i dv) = true) (hv : fits ty v = true) (W : Wr h h' a j v)
    (e : ∀ i, vs'.getD i dv = if i = j then v else vs.getD i dv) : Arv Z h' a k ty z vs' dv := by
  refine ⟨c.setSlot j v, A.same W, q1, by rw [sz_set]; exact S, q3, fun i hi => ?_, fun i hi => ?_⟩
  · rw [sz_set] at hi
    rw [e]
    show (c.slots.setIfInBounds j v)[i]? = _
    rw [Array.getElem?_setIfInBounds]
    by_cases q : j = i
    · subst q; simp [hi]
    · rw [if_neg q, if_neg (fun h => q h.symm)]; exact H i hi
  · rw [sz_set] at hi
    rw [e]
    by_cases q : i = j
    · rw [if_pos q]; exact hv
    · rw [if_neg q]; exact G i hi
theorem own_four (x : Int32) : (x &&& (3 : Int32)) = (0 : Int32) ∨ (x &&& (3 : Int32)) = (1 : Int32) ∨ (x &&& (3 : Int32)) = (2 : Int32) ∨ (x &&& (3 : Int32)) = (3 : Int32) := by
  have h := c_mask x 3 2 (by decide) (by decide)
  simp only [← Int32.toInt_inj, show (0 : Int32).toInt = 0 from rfl, show (1 : Int32).toInt = 1 from rfl, show (2 : Int32).toInt = 2 from rfl, show (3 : Int32).toInt = 3 from rfl]
  omega
def own_max (a b : Int32) : Int32 := if a < b then b else a
theorem d13_0 : decode jdk_29_method_65_code 0 = .ok (.iload_n 0, 1) := by decide +kernel
theorem d13_1 : decode jdk_29_method_65_code 1 = .ok (.iload_n 1, 1) := by decide +kernel
theorem d13_2 : decode jdk_29_method_65_code 2 = .ok (.if_icmp .lt 7, 3) := by decide +kernel
theorem d13_9 : decode jdk_29_method_65_code 9 = .ok (.iload_n 1, 1) := by decide +kernel
theorem d13_10 : decode jdk_29_method_65_code 10 = .ok (.ireturn, 1) := by decide +kernel
theorem d13_5 : decode jdk_29_method_65_code 5 = .ok (.iload_n 0, 1) := by decide +kernel
theorem d13_6 : decode jdk_29_method_65_code 6 = .ok (.goto 4, 3) := by decide +kernel
theorem ef_rm13 (m : MethodId) (pa : Int32) (qa : Int32) : entryFrame m #[(.int pa), (.int qa)] 2 = mkF m 0 #[.val (.int pa), .val (.int qa)] [] := by first | (simp [entryFrame, mkF, argsToLocals, Value.category]; done) | rfl
def Q_rm13 (Z : State) (pa : Int32) (qa : Int32)  (h0 : Heap) (n0 : Nat) (v : Option Value) (h : Heap) (L : List Loc) : Prop := v = some (.int (own_max pa qa)) ∧ Fr n0 L ∧ h = h0
set_option maxRecDepth 65536 in
set_option maxHeartbeats 40000000 in
theorem rm13 (l : Launch) (Z : State) (a0 : Array Value) (hw : ∀ d ∈ tables_1, d.before a0 Z = true) (ws : List Jvm.Cond) (pa : Int32) (qa : Int32)  (h0 : Heap) (n0 : Nat) (Z0 : n0 ≤ h0.size)  :
    MetFree l (⟨"java/lang/Math", "max", "(II)I"⟩ : MethodName) (head1 (Jvm.Cond.code (⟨"java/lang/Math", "max", "(II)I"⟩ : MethodName) jdk_29_method_65_code 2 (some .int) :: ws) ({ frames := 0, cells := 0, slots := 0, locals := 0 } : Room)) (fun aα Uα => aα = #[(.int pa), (.int qa)] ∧ Z.Warmed39 Uα.vm ∧ Uα.heap = h0) (fun _ _ _ _ _ => True) (fun _ Uα oα Uβ => ∃ vα Lα, oα = .returned vα ∧ Q_rm13 Z pa qa  h0 n0 vα Uβ.heap Lα ∧ FrameEnd Uα oα Uβ Lα ({ frames := 0, cells := 0, slots := 0, locals := 0 } : Room).cells ({ frames := 0, cells := 0, slots := 0, locals := 0 } : Room).slots) := by
  refine MetFree.of_bodySF (Jvm.Free.JP.mathPlain rfl (by decide +kernel)) hisR ?_
  intro p e s m args below meth c s₁ Bd hml0 hP hKα
  obtain ⟨rfl, hZ, hh⟩ := hP
  have hx := Bd.exec
  have hby := Bd.bytes
  have hml : c.maxLocals = 2 := hml0
  have hown : s.vm.findClass "java/lang/Math" = some m.cls := findClass_of_methodNamed Bd.named
  have hnm := (name_of_methodNamed Bd.named Bd.method).1
  have X0 : Stand p l e ({ frames := 0, cells := 0, slots := 0, locals := 0 } : Room) s m #[(.int pa), (.int qa)] below meth c s₁ [] 0 0 := Stand.of_body Bd
  have e0 : s₁.heap = h0 := by rw [← hh, Bd.state]; rfl
  have N0 := Fr.nil n0
  suffices k0 : Gl p e below s (Q_rm13 Z pa qa  h0 n0) ({ frames := 0, cells := 0, slots := 0, locals := 0 } : Room).cells ({ frames := 0, cells := 0, slots := 0, locals := 0 } : Room).slots s₁ (mkF m 0 #[.val (.int pa), .val (.int qa)] []) from Gl.st (fun τ κ => castTop (ef_rm13 m pa qa) κ) k0
  refine Gl.st (g' := (mkF m 1 #[.val (.int pa), .val (.int qa)] [(.int pa)])) (fun τ κ => XS.iloadN X0.here hx rfl (hb hby d13_0) rfl κ) ?_
  refine Gl.st (g' := (mkF m 2 #[.val (.int pa), .val (.int qa)] [(.int qa), (.int pa)])) (fun τ κ => XS.iloadN X0.here hx rfl (hb hby d13_1) rfl κ) ?_
  by_cases hc1 : pa < qa
  · -- pc 2: pa < qa
    refine Gl.st (g' := (mkF m 9 #[.val (.int pa), .val (.int qa)] [])) (fun τ κ => XS.icmpYes X0.here hx rfl (pc0 := 2) (pc' := 9) rfl (hb hby d13_2) rfl (tlt hc1).1 (by decide) (by decide) κ) ?_
    refine Gl.st (g' := (mkF m 10 #[.val (.int pa), .val (.int qa)] [(.int qa)])) (fun τ κ => XS.iloadN X0.here hx rfl (hb hby d13_9) rfl κ) ?_
    exact Gl.ret (v := some (.int qa)) X0 Bd.notSynchronized (fun h => by rw [Bd.returns] at h; cases h) e0 (fun fs hr => retI X0 hx Bd.returns (hb hby d13_10) hr) (by decide) (by decide) ⟨by simp only [own_max, hc1, if_true, if_false], N0, rfl⟩
  · -- pc 2: not pa < qa
    refine Gl.st (g' := (mkF m 5 #[.val (.int pa), .val (.int qa)] [])) (fun τ κ => XS.icmpNo X0.here hx rfl (hb hby d13_2) rfl (flt hc1).1 κ) ?_
    refine Gl.st (g' := (mkF m 6 #[.val (.int pa), .val (.int qa)] [(.int pa)])) (fun τ κ => XS.iloadN X0.here hx rfl (hb hby d13_5) rfl κ) ?_
    refine Gl.st (g' := (mkF m 10 #[.val (.int pa), .val (.int qa)] [(.int pa)])) (fun τ κ => XS.goto X0.here hx rfl (pc0 := 6) (pc' := 10) rfl (hb hby d13_6) (by decide) (by decide) κ) ?_
    exact Gl.ret (v := some (.int pa)) X0 Bd.notSynchronized (fun h => by rw [Bd.returns] at h; cases h) e0 (fun fs hr => retI X0 hx Bd.returns (hb hby d13_10) hr) (by decide) (by decide) ⟨by simp only [own_max, hc1, if_true, if_false], N0, rfl⟩
theorem d4_0 : decode jdk_71_method_1_code 0 = .ok (.aload_n 0, 1) := by decide +kernel
theorem d4_1 : decode jdk_71_method_1_code 1 = .ok (.invokespecial 1, 3) := by decide +kernel
theorem d4_4 : decode jdk_71_method_1_code 4 = .ok (.return_, 1) := by decide +kernel
theorem pn_java_util_AbstractMap : plainName "java/util/AbstractMap" = true := by first | (simp [plainName, overriddenIn]; done) | decide +kernel
theorem ef_rm4 (m : MethodId) (a : Addr) : entryFrame m #[(.ref a)] 1 = mkF m 0 #[.val (.ref a)] [] := by first | (simp [entryFrame, mkF, argsToLocals, Value.category]; done) | rfl
def Q_rm4 (Z : State) (a : Addr)  (h0 : Heap) (n0 : Nat) (v : Option Value) (h : Heap) (L : List Loc) : Prop := v = none ∧ Fr n0 L ∧ h = h0
set_option maxRecDepth 65536 in
set_option maxHeartbeats 40000000 in
theorem rm4 (l : Launch) (Z : State) (a0 : Array Value) (hw : ∀ d ∈ tables_1, d.before a0 Z = true) (ws : List Jvm.Cond) (a : Addr)  (h0 : Heap) (n0 : Nat) (Z0 : n0 ≤ h0.size)  :
    MetFree l (⟨"java/util/AbstractMap", "<init>", "()V"⟩ : MethodName) (head1 (Jvm.Cond.code (⟨"java/util/AbstractMap", "<init>", "()V"⟩ : MethodName) jdk_71_method_1_code 1 none :: ws) ({ frames := 1, cells := 0, slots := 0, locals := 12 } : Room)) (fun aα Uα => aα = #[(.ref a)] ∧ Z.Warmed39 Uα.vm ∧ Uα.heap = h0) (fun _ _ _ _ _ => True) (fun _ Uα oα Uβ => ∃ vα Lα, oα = .returned vα ∧ Q_rm4 Z a  h0 n0 vα Uβ.heap Lα ∧ FrameEnd Uα oα Uβ Lα ({ frames := 1, cells := 0, slots := 0, locals := 12 } : Room).cells ({ frames := 1, cells := 0, slots := 0, locals := 12 } : Room).slots) := by
  refine MetFree.of_bodySF (plainFor_of_name pn_java_util_AbstractMap) hisR ?_
  intro p e s m args below meth c s₁ Bd hml0 hP hKα
  obtain ⟨rfl, hZ, hh⟩ := hP
  have hx := Bd.exec
  have hby := Bd.bytes
  have hml : c.maxLocals = 1 := hml0
  have hown : s.vm.findClass "java/util/AbstractMap" = some m.cls := findClass_of_methodNamed Bd.named
  have hnm := (name_of_methodNamed Bd.named Bd.method).1
  have X0 : Stand p l e ({ frames := 1, cells := 0, slots := 0, locals := 12 } : Room) s m #[(.ref a)] below meth c s₁ [] 0 0 := Stand.of_body Bd
  have e0 : s₁.heap = h0 := by rw [← hh, Bd.state]; rfl
  have N0 := Fr.nil n0
  suffices k0 : Gl p e below s (Q_rm4 Z a  h0 n0) ({ frames := 1, cells := 0, slots := 0, locals := 12 } : Room).cells ({ frames := 1, cells := 0, slots := 0, locals := 12 } : Room).slots s₁ (mkF m 0 #[.val (.ref a)] []) from Gl.st (fun τ κ => castTop (ef_rm4 m a) κ) k0
  refine Gl.st (g' := (mkF m 1 #[.val (.ref a)] [(.ref a)])) (fun τ κ => XS.aloadN X0.here hx rfl (hb hby d4_0) rfl rfl κ) ?_
  obtain ⟨T2, X2, e2, st2⟩ := initO X0 hx hZ hown (hw _ (List.mem_of_getElem? (i := 23) rfl)) (hw _ (List.mem_of_getElem? (i := 9) rfl)) (hw _ (List.mem_of_getElem? (i := 10) rfl)) e0 (g := (mkF m 1 #[.val (.ref a)] [(.ref a)])) rfl (by rw [hml]; rfl) rfl (hb hby d4_1) (by decide) (W := 0) (by show 2 * 0 + _ ≤ _; exact Nat.le_of_eq rfl) (by decide)
  refine Gl.st (g' := (mkF m 4 #[.val (.ref a)] [])) (fun τ κ => st2 _ κ) ?_
  exact Gl.ret (v := none) X2 Bd.notSynchronized (fun _ => rfl) e2 (fun fs hr => X2.returnOut hx Bd.returns (hb hby d4_4) hr) (by decide) (by decide) ⟨rfl, N0, rfl⟩
theorem d7_0 : decode jdk_22_method_1_code 0 = .ok (.aload_n 0, 1) := by decide +kernel
theorem d7_1 : decode jdk_22_method_1_code 1 = .ok (.invokespecial 1, 3) := by decide +kernel
theorem d7_4 : decode jdk_22_method_1_code 4 = .ok (.return_, 1) := by decide +kernel
theorem pn_java_util_AbstractCollection : plainName "java/util/AbstractCollection" = true := by first | (simp [plainName, overriddenIn]; done) | decide +kernel
theorem ef_rm7 (m : MethodId) (a : Addr) : entryFrame m #[(.ref a)] 1 = mkF m 0 #[.val (.ref a)] [] := by first | (simp [entryFrame, mkF, argsToLocals, Value.category]; done) | rfl
def Q_rm7 (Z : State) (a : Addr)  (h0 : Heap) (n0 : Nat) (v : Option Value) (h : Heap) (L : List Loc) : Prop := v = none ∧ Fr n0 L ∧ h = h0
set_option maxRecDepth 65536 in
set_option maxHeartbeats 40000000 in
theorem rm7 (l : Launch) (Z : State) (a0 : Array Value) (hw : ∀ d ∈ tables_1, d.before a0 Z = true) (ws : List Jvm.Cond) (a : Addr)  (h0 : Heap) (n0 : Nat) (Z0 : n0 ≤ h0.size)  :
    MetFree l (⟨"java/util/AbstractCollection", "<init>", "()V"⟩ : MethodName) (head1 (Jvm.Cond.code (⟨"java/util/AbstractCollection", "<init>", "()V"⟩ : MethodName) jdk_22_method_1_code 1 none :: ws) ({ frames := 1, cells := 0, slots := 0, locals := 12 } : Room)) (fun aα Uα => aα = #[(.ref a)] ∧ Z.Warmed39 Uα.vm ∧ Uα.heap = h0) (fun _ _ _ _ _ => True) (fun _ Uα oα Uβ => ∃ vα Lα, oα = .returned vα ∧ Q_rm7 Z a  h0 n0 vα Uβ.heap Lα ∧ FrameEnd Uα oα Uβ Lα ({ frames := 1, cells := 0, slots := 0, locals := 12 } : Room).cells ({ frames := 1, cells := 0, slots := 0, locals := 12 } : Room).slots) := by
  refine MetFree.of_bodySF (plainFor_of_name pn_java_util_AbstractCollection) hisR ?_
  intro p e s m args below meth c s₁ Bd hml0 hP hKα
  obtain ⟨rfl, hZ, hh⟩ := hP
  have hx := Bd.exec
  have hby := Bd.bytes
  have hml : c.maxLocals = 1 := hml0
  have hown : s.vm.findClass "java/util/AbstractCollection" = some m.cls := findClass_of_methodNamed Bd.named
  have hnm := (name_of_methodNamed Bd.named Bd.method).1
  have X0 : Stand p l e ({ frames := 1, cells := 0, slots := 0, locals := 12 } : Room) s m #[(.ref a)] below meth c s₁ [] 0 0 := Stand.of_body Bd
  have e0 : s₁.heap = h0 := by rw [← hh, Bd.state]; rfl
  have N0 := Fr.nil n0
  suffices k0 : Gl p e below s (Q_rm7 Z a  h0 n0) ({ frames := 1, cells := 0, slots := 0, locals := 12 } : Room).cells ({ frames := 1, cells := 0, slots := 0, locals := 12 } : Room).slots s₁ (mkF m 0 #[.val (.ref a)] []) from Gl.st (fun τ κ => castTop (ef_rm7 m a) κ) k0
  refine Gl.st (g' := (mkF m 1 #[.val (.ref a)] [(.ref a)])) (fun τ κ => XS.aloadN X0.here hx rfl (hb hby d7_0) rfl rfl κ) ?_
  obtain ⟨T3, X3, e3, st3⟩ := initO X0 hx hZ hown (hw _ (List.mem_of_getElem? (i := 50) rfl)) (hw _ (List.mem_of_getElem? (i := 9) rfl)) (hw _ (List.mem_of_getElem? (i := 10) rfl)) e0 (g := (mkF m 1 #[.val (.ref a)] [(.ref a)])) rfl (by rw [hml]; rfl) rfl (hb hby d7_1) (by decide) (W := 0) (by show 2 * 0 + _ ≤ _; exact Nat.le_of_eq rfl) (by decide)
  refine Gl.st (g' := (mkF m 4 #[.val (.ref a)] [])) (fun τ κ => st3 _ κ) ?_
  exact Gl.ret (v := none) X3 Bd.notSynchronized (fun _ => rfl) e3 (fun fs hr => X3.returnOut hx Bd.returns (hb hby d7_4) hr) (by decide) (by decide) ⟨rfl, N0, rfl⟩
theorem d3_0 : decode jdk_2729_method_1_code 0 = .ok (.aload_n 0, 1) := by decide +kernel
theorem d3_1 : decode jdk_2729_method_1_code 1 = .ok (.invokespecial 1, 3) := by decide +kernel
theorem pd_0 : parseMethodDescriptor "()V" = some ⟨[], none⟩ := by decide +kernel
theorem d3_4 : decode jdk_2729_method_1_code 4 = .ok (.aload_n 0, 1) := by decide +kernel
theorem d3_5 : decode jdk_2729_method_1_code 5 = .ok (.iconst 0, 1) := by decide +kernel
theorem d3_6 : decode jdk_2729_method_1_code 6 = .ok (.putfield 7, 3) := by decide +kernel
theorem d3_9 : decode jdk_2729_method_1_code 9 = .ok (.aload_n 0, 1) := by decide +kernel
theorem d3_10 : decode jdk_2729_method_1_code 10 = .ok (.iconst 0, 1) := by decide +kernel
theorem d3_11 : decode jdk_2729_method_1_code 11 = .ok (.putfield 13, 3) := by decide +kernel
theorem d3_14 : decode jdk_2729_method_1_code 14 = .ok (.aload_n 0, 1) := by decide +kernel
theorem d3_15 : decode jdk_2729_method_1_code 15 = .ok (.aconst_null, 1) := by decide +kernel
theorem d3_16 : decode jdk_2729_method_1_code 16 = .ok (.putfield 16, 3) := by decide +kernel
theorem d3_19 : decode jdk_2729_method_1_code 19 = .ok (.return_, 1) := by decide +kernel
theorem pn_java_util_TreeMap : plainName "java/util/TreeMap" = true := by first | (simp [plainName, overriddenIn]; done) | decide +kernel
theorem ef_rm3 (m : MethodId) (a : Addr) : entryFrame m #[(.ref a)] 1 = mkF m 0 #[.val (.ref a)] [] := by first | (simp [entryFrame, mkF, argsToLocals, Value.category]; done) | rfl
def Q_rm3 (Z : State) (a : Addr)  (h0 : Heap) (n0 : Nat) (v : Option Value) (h : Heap) (L : List Loc) : Prop := v = none ∧ Fr n0 L ∧ Keep h0 h [a] ∧ Exa Z h a "java/util/TreeMap" ∧ Fld Z h a "java/util/TreeMap" "size" "I" (.int (0 : Int32)) ∧ Fld Z h a "java/util/TreeMap" "modCount" "I" (.int (0 : Int32)) ∧ Fld Z h a "java/util/TreeMap" "comparator" "Ljava/util/Comparator;" .null
set_option maxRecDepth 65536 in
set_option maxHeartbeats 40000000 in
theorem rm3 (l : Launch) (Z : State) (a0 : Array Value) (hw : ∀ d ∈ tables_1, d.before a0 Z = true) (ws : List Jvm.Cond) (a : Addr)  (h0 : Heap) (n0 : Nat) (Z0 : n0 ≤ h0.size) (E0 : Exa Z h0 a "java/util/TreeMap") (g0 : n0 ≤ a) (F0 : Fld Z h0 a "java/util/TreeMap" "size" "I" (.int (0 : Int32))) (F1 : Fld Z h0 a "java/util/TreeMap" "modCount" "I" (.int (0 : Int32))) (F2 : Fld Z h0 a "java/util/TreeMap" "comparator" "Ljava/util/Comparator;" .null) :
    MetFree l (⟨"java/util/TreeMap", "<init>", "()V"⟩ : MethodName) (head1 (Jvm.Cond.code (⟨"java/util/TreeMap", "<init>", "()V"⟩ : MethodName) jdk_2729_method_1_code 1 none :: ws) ({ frames := 2, cells := 0, slots := 0, locals := 24 } : Room)) (fun aα Uα => aα = #[(.ref a)] ∧ Z.Warmed39 Uα.vm ∧ Uα.heap = h0) (fun _ _ _ _ _ => True) (fun _ Uα oα Uβ => ∃ vα Lα, oα = .returned vα ∧ Q_rm3 Z a  h0 n0 vα Uβ.heap Lα ∧ FrameEnd Uα oα Uβ Lα ({ frames := 2, cells := 0, slots := 0, locals := 24 } : Room).cells ({ frames := 2, cells := 0, slots := 0, locals := 24 } : Room).slots) := by
  refine MetFree.of_bodySF (plainFor_of_name pn_java_util_TreeMap) hisR ?_
  intro p e s m args below meth c s₁ Bd hml0 hP hKα
  obtain ⟨rfl, hZ, hh⟩ := hP
  have hx := Bd.exec
  have hby := Bd.bytes
  have hml : c.maxLocals = 1 := hml0
  have hown : s.vm.findClass "java/util/TreeMap" = some m.cls := findClass_of_methodNamed Bd.named
  have hnm := (name_of_methodNamed Bd.named Bd.method).1
  have X0 : Stand p l e ({ frames := 2, cells := 0, slots := 0, locals := 24 } : Room) s m #[(.ref a)] below meth c s₁ [] 0 0 := Stand.of_body Bd
  have e0 : s₁.heap = h0 := by rw [← hh, Bd.state]; rfl
  have N0 := Fr.nil n0
  suffices k0 : Gl p e below s (Q_rm3 Z a  h0 n0) ({ frames := 2, cells := 0, slots := 0, locals := 24 } : Room).cells ({ frames := 2, cells := 0, slots := 0, locals := 24 } : Room).slots s₁ (mkF m 0 #[.val (.ref a)] []) from Gl.st (fun τ κ => castTop (ef_rm3 m a) κ) k0
  refine Gl.st (g' := (mkF m 1 #[.val (.ref a)] [(.ref a)])) (fun τ κ => XS.aloadN X0.here hx rfl (hb hby d3_0) rfl rfl κ) ?_
  obtain ⟨rv4, _, ⟨T4, L4, k4, n4⟩, -, X4, ⟨Lc4, hQ4, l4, y4, z4⟩, st4⟩ := X0.specialBack hx (y := (⟨"java/util/AbstractMap", "<init>", "()V"⟩ : MethodName)) rfl hown (mvT hZ (hw _ (List.mem_of_getElem? (i := 17) rfl))) (mvT hZ (hw _ (List.mem_of_getElem? (i := 18) rfl))) (mvT hZ (hw _ (List.mem_of_getElem? (i := 22) rfl))) (by decide) (backOf (W := 0) (rm4 l Z a0 hw [] a h0 n0 Z0 ) hZ (hw _ (List.mem_of_getElem? (i := 22) rfl)) (hw _ (List.mem_of_getElem? (i := 21) rfl)) (by decide) (by decide)) (g := (mkF m 1 #[.val (.ref a)] [(.ref a)])) rfl (by rw [hml]; rfl) (Steps.refl _) (a := a) (argsL := []) (rest := []) (lenOf pd_0 rfl) rfl (by show 2 * 0 + _ ≤ _; exact Nat.le_of_eq rfl) (hb hby d3_1) (fun _ _ => ⟨rfl, e0, (by decide : 0 + 0 ≤ _), (by decide : 0 + 0 ≤ _)⟩)
  dsimp only [Pt.U, Pt.locs, Pt.cells, Pt.slots] at X4 l4 y4 z4 st4 hQ4
  subst l4 y4 z4
  obtain ⟨rfl, N4q, e4⟩ := hQ4
  have N4 := Fr.app N0 N4q
  refine Gl.st (g' := (mkF m 4 #[.val (.ref a)] [])) (fun τ κ => st4.trans κ) ?_
  refine Gl.st (g' := (mkF m 5 #[.val (.ref a)] [(.ref a)])) (fun τ κ => XS.aloadN X4.here hx rfl (hb hby d3_4) rfl rfl κ) ?_
  refine Gl.st (g' := (mkF m 6 #[.val (.ref a)] [(.int (0 : Int32)), (.ref a)])) (fun τ κ => XS.iconst X4.here hx rfl (hb hby d3_5) κ) ?_
  obtain ⟨T5, h5, X5, e5, W5, st5⟩ := putF X4 hx hZ hown (host := "") (Or.inl (hw _ (List.mem_of_getElem? (i := 24) rfl))) Via.refl e4 F0 E0 (Or.inl (hw _ (List.mem_of_getElem? (i := 25) rfl))) (hw _ (List.mem_of_getElem? (i := 12) rfl)) (ty := .int) (by decide) rfl rfl (g := (mkF m 6 #[.val (.ref a)] [(.int (0 : Int32)), (.ref a)])) rfl rfl (hb hby d3_6)
  have E_6 := E0.wr W5
  have F_8 := F1.other W5 (Or.inr (slot_ne (Or.inl (hw _ (List.mem_of_getElem? (i := 27) rfl))) (Or.inl (hw _ (List.mem_of_getElem? (i := 25) rfl))) (by decide) (t := .int) (t' := .int) (by decide) (by decide)))
  have F_9 := F2.other W5 (Or.inr (slot_ne (Or.inr (hw _ (List.mem_of_getElem? (i := 29) rfl))) (Or.inl (hw _ (List.mem_of_getElem? (i := 25) rfl))) (by decide) (t := (.object "java/util/Comparator")) (t' := .int) (by decide) (by decide)))
  have N5 := Fr.snoc X5 N4 g0
  have Z5 : n0 ≤ h5.size := Nat.le_trans Z0 (Nat.le_of_eq W5.size.symm)
  have K5 : Keep h0 h5 [a] := (Keep.refl h0 [a]).wr W5 (Or.inl (List.mem_of_getElem? (i := 0) rfl))
  have F_10 := F0.same W5
  refine Gl.st (g' := (mkF m 9 #[.val (.ref a)] [])) (fun τ κ => st5 _ κ) ?_
  refine Gl.st (g' := (mkF m 10 #[.val (.ref a)] [(.ref a)])) (fun τ κ => XS.aloadN X5.here hx rfl (hb hby d3_9) rfl rfl κ) ?_
  refine Gl.st (g' := (mkF m 11 #[.val (.ref a)] [(.int (0 : Int32)), (.ref a)])) (fun τ κ => XS.iconst X5.here hx rfl (hb hby d3_10) κ) ?_
  obtain ⟨T11, h11, X11, e11, W11, st11⟩ := putF X5 hx hZ hown (host := "") (Or.inl (hw _ (List.mem_of_getElem? (i := 26) rfl))) Via.refl e5 F_8 E_6 (Or.inl (hw _ (List.mem_of_getElem? (i := 27) rfl))) (hw _ (List.mem_of_getElem? (i := 12) rfl)) (ty := .int) (by decide) rfl rfl (g := (mkF m 11 #[.val (.ref a)] [(.int (0 : Int32)), (.ref a)])) rfl rfl (hb hby d3_11)
  have E_12 := E_6.wr W11
  have F_13 := F_10.other W11 (Or.inr (slot_ne (Or.inl (hw _ (List.mem_of_getElem? (i := 25) rfl))) (Or.inl (hw _ (List.mem_of_getElem? (i := 27) rfl))) (by decide) (t := .int) (t' := .int) (by decide) (by decide)))
  have F_15 := F_9.other W11 (Or.inr (slot_ne (Or.inr (hw _ (List.mem_of_getElem? (i := 29) rfl))) (Or.inl (hw _ (List.mem_of_getElem? (i := 27) rfl))) (by decide) (t := (.object "java/util/Comparator")) (t' := .int) (by decide) (by decide)))
  have N11 := Fr.snoc X11 N5 g0
  have Z11 : n0 ≤ h11.size := Nat.le_trans Z5 (Nat.le_of_eq W11.size.symm)
  have K11 : Keep h0 h11 [a] := K5.wr W11 (Or.inl (List.mem_of_getElem? (i := 0) rfl))
  have F_16 := F_8.same W11
  refine Gl.st (g' := (mkF m 14 #[.val (.ref a)] [])) (fun τ κ => st11 _ κ) ?_
  refine Gl.st (g' := (mkF m 15 #[.val (.ref a)] [(.ref a)])) (fun τ κ => XS.aloadN X11.here hx rfl (hb hby d3_14) rfl rfl κ) ?_
  refine Gl.st (g' := (mkF m 16 #[.val (.ref a)] [.null, (.ref a)])) (fun τ κ => XS.aconstNull X11.here hx rfl (hb hby d3_15) κ) ?_
  obtain ⟨T17, h17, X17, e17, W17, st17⟩ := putF X11 hx hZ hown (host := "") (Or.inl (hw _ (List.mem_of_getElem? (i := 28) rfl))) Via.refl e11 F_15 E_12 (Or.inr ⟨(hw _ (List.mem_of_getElem? (i := 29) rfl)), rfl, hnm⟩) (hw _ (List.mem_of_getElem? (i := 12) rfl)) (ty := (.object "java/util/Comparator")) (by decide) rfl rfl (g := (mkF m 16 #[.val (.ref a)] [.null, (.ref a)])) rfl rfl (hb hby d3_16)
  have E_18 := E_12.wr W17
  have F_19 := F_13.other W17 (Or.inr (slot_ne (Or.inl (hw _ (List.mem_of_getElem? (i := 25) rfl))) (Or.inr (hw _ (List.mem_of_getElem? (i := 29) rfl))) (by decide) (t := .int) (t' := (.object "java/util/Comparator")) (by decide) (by decide)))
  have F_20 := F_16.other W17 (Or.inr (slot_ne (Or.inl (hw _ (List.mem_of_getElem? (i := 27) rfl))) (Or.inr (hw _ (List.mem_of_getElem? (i := 29) rfl))) (by decide) (t := .int) (t' := (.object "java/util/Comparator")) (by decide) (by decide)))
  have N17 := Fr.snoc X17 N11 g0
  have Z17 : n0 ≤ h17.size := Nat.le_trans Z11 (Nat.le_of_eq W17.size.symm)
  have K17 : Keep h0 h17 [a] := K11.wr W17 (Or.inl (List.mem_of_getElem? (i := 0) rfl))
  have F_22 := F_15.same W17
  refine Gl.st (g' := (mkF m 19 #[.val (.ref a)] [])) (fun τ κ => st17 _ κ) ?_
  exact Gl.ret (v := none) X17 Bd.notSynchronized (fun _ => rfl) e17 (fun fs hr => X17.returnOut hx Bd.returns (hb hby d3_19) hr) (by decide) (by decide) ⟨rfl, N17, K17, E_18, F_19, F_20, F_22⟩
theorem d6_0 : decode jdk_39_method_1_code 0 = .ok (.aload_n 0, 1) := by decide +kernel
theorem d6_1 : decode jdk_39_method_1_code 1 = .ok (.invokespecial 1, 3) := by decide +kernel
theorem d6_4 : decode jdk_39_method_1_code 4 = .ok (.aload_n 0, 1) := by decide +kernel
theorem d6_5 : decode jdk_39_method_1_code 5 = .ok (.iconst 0, 1) := by decide +kernel
theorem d6_6 : decode jdk_39_method_1_code 6 = .ok (.putfield 7, 3) := by decide +kernel
theorem d6_9 : decode jdk_39_method_1_code 9 = .ok (.return_, 1) := by decide +kernel
theorem pn_java_util_AbstractList : plainName "java/util/AbstractList" = true := by first | (simp [plainName, overriddenIn]; done) | decide +kernel
theorem ef_rm6 (m : MethodId) (a : Addr) : entryFrame m #[(.ref a)] 1 = mkF m 0 #[.val (.ref a)] [] := by first | (simp [entryFrame, mkF, argsToLocals, Value.category]; done) | rfl
def Q_rm6 (Z : State) (a : Addr)  (h0 : Heap) (n0 : Nat) (v : Option Value) (h : Heap) (L : List Loc) : Prop := v = none ∧ Fr n0 L ∧ Keep h0 h [a] ∧ Exa Z h a "java/util/ArrayList" ∧ Fld Z h a "java/util/AbstractList" "modCount" "I" (.int (0 : Int32)) ∧ Fld Z h a "java/util/ArrayList" "elementData" "[Ljava/lang/Object;" .null ∧ Fld Z h a "java/util/ArrayList" "size" "I" (.int (0 : Int32))
set_option maxRecDepth 65536 in
set_option maxHeartbeats 40000000 in
theorem rm6 (l : Launch) (Z : State) (a0 : Array Value) (hw : ∀ d ∈ tables_1, d.before a0 Z = true) (ws : List Jvm.Cond) (a : Addr)  (h0 : Heap) (n0 : Nat) (Z0 : n0 ≤ h0.size) (E0 : Exa Z h0 a "java/util/ArrayList") (g0 : n0 ≤ a) (F0 : Fld Z h0 a "java/util/AbstractList" "modCount" "I" (.int (0 : Int32))) (F1 : Fld Z h0 a "java/util/ArrayList" "elementData" "[Ljava/lang/Object;" .null) (F2 : Fld Z h0 a "java/util/ArrayList" "size" "I" (.int (0 : Int32))) :
    MetFree l (⟨"java/util/AbstractList", "<init>", "()V"⟩ : MethodName) (head1 (Jvm.Cond.code (⟨"java/util/AbstractList", "<init>", "()V"⟩ : MethodName) jdk_39_method_1_code 1 none :: ws) ({ frames := 2, cells := 0, slots := 0, locals := 24 } : Room)) (fun aα Uα => aα = #[(.ref a)] ∧ Z.Warmed39 Uα.vm ∧ Uα.heap = h0) (fun _ _ _ _ _ => True) (fun _ Uα oα Uβ => ∃ vα Lα, oα = .returned vα ∧ Q_rm6 Z a  h0 n0 vα Uβ.heap Lα ∧ FrameEnd Uα oα Uβ Lα ({ frames := 2, cells := 0, slots := 0, locals := 24 } : Room).cells ({ frames := 2, cells := 0, slots := 0, locals := 24 } : Room).slots) := by
  refine MetFree.of_bodySF (plainFor_of_name pn_java_util_AbstractList) hisR ?_
  intro p e s m args below meth c s₁ Bd hml0 hP hKα
  obtain ⟨rfl, hZ, hh⟩ := hP
  have hx := Bd.exec
  have hby := Bd.bytes
  have hml : c.maxLocals = 1 := hml0
  have hown : s.vm.findClass "java/util/AbstractList" = some m.cls := findClass_of_methodNamed Bd.named
  have hnm := (name_of_methodNamed Bd.named Bd.method).1
  have X0 : Stand p l e ({ frames := 2, cells := 0, slots := 0, locals := 24 } : Room) s m #[(.ref a)] below meth c s₁ [] 0 0 := Stand.of_body Bd
  have e0 : s₁.heap = h0 := by rw [← hh, Bd.state]; rfl
  have N0 := Fr.nil n0
  suffices k0 : Gl p e below s (Q_rm6 Z a  h0 n0) ({ frames := 2, cells := 0, slots := 0, locals := 24 } : Room).cells ({ frames := 2, cells := 0, slots := 0, locals := 24 } : Room).slots s₁ (mkF m 0 #[.val (.ref a)] []) from Gl.st (fun τ κ => castTop (ef_rm6 m a) κ) k0
  refine Gl.st (g' := (mkF m 1 #[.val (.ref a)] [(.ref a)])) (fun τ κ => XS.aloadN X0.here hx rfl (hb hby d6_0) rfl rfl κ) ?_
  obtain ⟨rv23, _, ⟨T23, L23, k23, n23⟩, -, X23, ⟨Lc23, hQ23, l23, y23, z23⟩, st23⟩ := X0.specialBack hx (y := (⟨"java/util/AbstractCollection", "<init>", "()V"⟩ : MethodName)) rfl hown (mvT hZ (hw _ (List.mem_of_getElem? (i := 44) rfl))) (mvT hZ (hw _ (List.mem_of_getElem? (i := 45) rfl))) (mvT hZ (hw _ (List.mem_of_getElem? (i := 49) rfl))) (by decide) (backOf (W := 0) (rm7 l Z a0 hw [] a h0 n0 Z0 ) hZ (hw _ (List.mem_of_getElem? (i := 49) rfl)) (hw _ (List.mem_of_getElem? (i := 48) rfl)) (by decide) (by decide)) (g := (mkF m 1 #[.val (.ref a)] [(.ref a)])) rfl (by rw [hml]; rfl) (Steps.refl _) (a := a) (argsL := []) (rest := []) (lenOf pd_0 rfl) rfl (by show 2 * 0 + _ ≤ _; exact Nat.le_of_eq rfl) (hb hby d6_1) (fun _ _ => ⟨rfl, e0, (by decide : 0 + 0 ≤ _), (by decide : 0 + 0 ≤ _)⟩)
  dsimp only [Pt.U, Pt.locs, Pt.cells, Pt.slots] at X23 l23 y23 z23 st23 hQ23
  subst l23 y23 z23
  obtain ⟨rfl, N23q, e23⟩ := hQ23
  have N23 := Fr.app N0 N23q
  refine Gl.st (g' := (mkF m 4 #[.val (.ref a)] [])) (fun τ κ => st23.trans κ) ?_
  refine Gl.st (g' := (mkF m 5 #[.val (.ref a)] [(.ref a)])) (fun τ κ => XS.aloadN X23.here hx rfl (hb hby d6_4) rfl rfl κ) ?_
  refine Gl.st (g' := (mkF m 6 #[.val (.ref a)] [(.int (0 : Int32)), (.ref a)])) (fun τ κ => XS.iconst X23.here hx rfl (hb hby d6_5) κ) ?_
  obtain ⟨T24, h24, X24, e24, W24, st24⟩ := putF X23 hx hZ hown (host := "") (Or.inl (hw _ (List.mem_of_getElem? (i := 51) rfl))) Via.refl e23 F0 E0 (Or.inl (hw _ (List.mem_of_getElem? (i := 52) rfl))) (hw _ (List.mem_of_getElem? (i := 33) rfl)) (ty := .int) (by decide) rfl rfl (g := (mkF m 6 #[.val (.ref a)] [(.int (0 : Int32)), (.ref a)])) rfl rfl (hb hby d6_6)
  have E_25 := E0.wr W24
  have F_27 := F1.other W24 (Or.inr (slot_ne (Or.inl (hw _ (List.mem_of_getElem? (i := 55) rfl))) (Or.inl (hw _ (List.mem_of_getElem? (i := 52) rfl))) (by decide) (t := (.array (.object "java/lang/Object"))) (t' := .int) (by decide) (by decide)))
  have F_28 := F2.other W24 (Or.inr (slot_ne (Or.inl (hw _ (List.mem_of_getElem? (i := 80) rfl))) (Or.inl (hw _ (List.mem_of_getElem? (i := 52) rfl))) (by decide) (t := .int) (t' := .int) (by decide) (by decide)))
  have N24 := Fr.snoc X24 N23 g0
  have Z24 : n0 ≤ h24.size := Nat.le_trans Z0 (Nat.le_of_eq W24.size.symm)
  have K24 : Keep h0 h24 [a] := (Keep.refl h0 [a]).wr W24 (Or.inl (List.mem_of_getElem? (i := 0) rfl))
  have F_29 := F0.same W24
  refine Gl.st (g' := (mkF m 9 #[.val (.ref a)] [])) (fun τ κ => st24 _ κ) ?_
  exact Gl.ret (v := none) X24 Bd.notSynchronized (fun _ => rfl) e24 (fun fs hr => X24.returnOut hx Bd.returns (hb hby d6_9) hr) (by decide) (by decide) ⟨rfl, N24, K24, E_25, F_29, F_27, F_28⟩
theorem d5_0 : decode jdk_38_method_2_code 0 = .ok (.aload_n 0, 1) := by decide +kernel
theorem d5_1 : decode jdk_38_method_2_code 1 = .ok (.invokespecial 1, 3) := by decide +kernel
theorem d5_4 : decode jdk_38_method_2_code 4 = .ok (.aload_n 0, 1) := by decide +kernel
theorem d5_5 : decode jdk_38_method_2_code 5 = .ok (.getstatic 39, 3) := by decide +kernel
theorem d5_8 : decode jdk_38_method_2_code 8 = .ok (.putfield 9, 3) := by decide +kernel
theorem d5_11 : decode jdk_38_method_2_code 11 = .ok (.return_, 1) := by decide +kernel
theorem pn_java_util_ArrayList : plainName "java/util/ArrayList" = true := by first | (simp [plainName, overriddenIn]; done) | decide +kernel
theorem ef_rm5 (m : MethodId) (a : Addr) : entryFrame m #[(.ref a)] 1 = mkF m 0 #[.val (.ref a)] [] := by first | (simp [entryFrame, mkF, argsToLocals, Value.category]; done) | rfl
def Q_rm5 (Z : State) (a : Addr) (de : Addr) (h0 : Heap) (n0 : Nat) (v : Option Value) (h : Heap) (L : List Loc) : Prop := v = none ∧ Fr n0 L ∧ Keep h0 h [a] ∧ Exa Z h a "java/util/ArrayList" ∧ Fld Z h a "java/util/AbstractList" "modCount" "I" (.int (0 : Int32)) ∧ Fld Z h a "java/util/ArrayList" "elementData" "[Ljava/lang/Object;" (.ref de) ∧ Fld Z h a "java/util/ArrayList" "size" "I" (.int (0 : Int32))
set_option maxRecDepth 65536 in
set_option maxHeartbeats 40000000 in
theorem rm5 (l : Launch) (Z : State) (a0 : Array Value) (hw : ∀ d ∈ tables_1, d.before a0 Z = true) (ws : List Jvm.Cond) (a : Addr) (de : Addr) (h0 : Heap) (n0 : Nat) (Z0 : n0 ≤ h0.size) (E0 : Exa Z h0 a "java/util/ArrayList") (g0 : n0 ≤ a) (S0 : Sta Z h0 "java/util/ArrayList" "DEFAULTCAPACITY_EMPTY_ELEMENTDATA" "[Ljava/lang/Object;" (.ref de)) (FM : Fld Z h0 a "java/util/AbstractList" "modCount" "I" (.int (0 : Int32))) (FE : Fld Z h0 a "java/util/ArrayList" "elementData" "[Ljava/lang/Object;" .null) (FS : Fld Z h0 a "java/util/ArrayList" "size" "I" (.int (0 : Int32))) :
    MetFree l (⟨"java/util/ArrayList", "<init>", "()V"⟩ : MethodName) (head1 (Jvm.Cond.code (⟨"java/util/ArrayList", "<init>", "()V"⟩ : MethodName) jdk_38_method_2_code 1 none :: ws) ({ frames := 3, cells := 0, slots := 0, locals := 36 } : Room)) (fun aα Uα => aα = #[(.ref a)] ∧ Z.Warmed39 Uα.vm ∧ Uα.heap = h0) (fun _ _ _ _ _ => True) (fun _ Uα oα Uβ => ∃ vα Lα, oα = .returned vα ∧ Q_rm5 Z a de h0 n0 vα Uβ.heap Lα ∧ FrameEnd Uα oα Uβ Lα ({ frames := 3, cells := 0, slots := 0, locals := 36 } : Room).cells ({ frames := 3, cells := 0, slots := 0, locals := 36 } : Room).slots) := by
  refine MetFree.of_bodySF (plainFor_of_name pn_java_util_ArrayList) hisR ?_
  intro p e s m args below meth c s₁ Bd hml0 hP hKα
  obtain ⟨rfl, hZ, hh⟩ := hP
  have hx := Bd.exec
  have hby := Bd.bytes
  have hml : c.maxLocals = 1 := hml0
  have hown : s.vm.findClass "java/util/ArrayList" = some m.cls := findClass_of_methodNamed Bd.named
  have hnm := (name_of_methodNamed Bd.named Bd.method).1
  have X0 : Stand p l e ({ frames := 3, cells := 0, slots := 0, locals := 36 } : Room) s m #[(.ref a)] below meth c s₁ [] 0 0 := Stand.of_body Bd
  have e0 : s₁.heap = h0 := by rw [← hh, Bd.state]; rfl
  have N0 := Fr.nil n0
  suffices k0 : Gl p e below s (Q_rm5 Z a de h0 n0) ({ frames := 3, cells := 0, slots := 0, locals := 36 } : Room).cells ({ frames := 3, cells := 0, slots := 0, locals := 36 } : Room).slots s₁ (mkF m 0 #[.val (.ref a)] []) from Gl.st (fun τ κ => castTop (ef_rm5 m a) κ) k0
  refine Gl.st (g' := (mkF m 1 #[.val (.ref a)] [(.ref a)])) (fun τ κ => XS.aloadN X0.here hx rfl (hb hby d5_0) rfl rfl κ) ?_
  obtain ⟨rv30, _, ⟨T30, L30, k30, n30⟩, -, X30, ⟨Lc30, hQ30, l30, y30, z30⟩, st30⟩ := X0.specialBack hx (y := (⟨"java/util/AbstractList", "<init>", "()V"⟩ : MethodName)) rfl hown (mvT hZ (hw _ (List.mem_of_getElem? (i := 38) rfl))) (mvT hZ (hw _ (List.mem_of_getElem? (i := 39) rfl))) (mvT hZ (hw _ (List.mem_of_getElem? (i := 43) rfl))) (by decide) (backOf (W := 0) (rm6 l Z a0 hw [] a h0 n0 Z0 E0 g0 FM FE FS) hZ (hw _ (List.mem_of_getElem? (i := 43) rfl)) (hw _ (List.mem_of_getElem? (i := 42) rfl)) (by decide) (by decide)) (g := (mkF m 1 #[.val (.ref a)] [(.ref a)])) rfl (by rw [hml]; rfl) (Steps.refl _) (a := a) (argsL := []) (rest := []) (lenOf pd_0 rfl) rfl (by show 2 * 0 + _ ≤ _; exact Nat.le_of_eq rfl) (hb hby d5_1) (fun _ _ => ⟨rfl, e0, (by decide : 0 + 0 ≤ _), (by decide : 0 + 0 ≤ _)⟩)
  dsimp only [Pt.U, Pt.locs, Pt.cells, Pt.slots] at X30 l30 y30 z30 st30 hQ30
  subst l30 y30 z30
  obtain ⟨rfl, N30q, Kc30, Ec30, Fc30_0, Fc30_1, Fc30_2⟩ := hQ30
  have E_31 := E0.keep Kc30
  have S_32 := Sta.keepX S0 Kc30 (allS (P := fun x => ∃ c : Cell, h0[x]? = some c ∧ ∀ q, c.vm ≠ .statics q) E0.cell all0)
  have N30 := Fr.app N0 N30q
  have Z30 : n0 ≤ T30.heap.size := Nat.le_trans Z0 Kc30.1
  have K30 : Keep h0 T30.heap [a] := (Keep.refl h0 [a]).trans Kc30 (allS (Or.inl (List.mem_of_getElem? (i := 0) rfl)) all0)
  refine Gl.st (g' := (mkF m 4 #[.val (.ref a)] [])) (fun τ κ => st30.trans κ) ?_
  refine Gl.st (g' := (mkF m 5 #[.val (.ref a)] [(.ref a)])) (fun τ κ => XS.aloadN X30.here hx rfl (hb hby d5_4) rfl rfl κ) ?_
  obtain ⟨T36, X36, e36, st36⟩ := getS2 X30 hx hZ hown (host := "") (Or.inl (hw _ (List.mem_of_getElem? (i := 53) rfl))) Via.refl rfl S_32 (g := (mkF m 5 #[.val (.ref a)] [(.ref a)])) rfl (hb hby d5_5)
  refine Gl.st (g' := (mkF m 8 #[.val (.ref a)] [(.ref de), (.ref a)])) (fun τ κ => st36 _ κ) ?_
  obtain ⟨T37, h37, X37, e37, W37, st37⟩ := putF X36 hx hZ hown (host := "") (Or.inl (hw _ (List.mem_of_getElem? (i := 54) rfl))) Via.refl e36 Fc30_1 Ec30 (Or.inl (hw _ (List.mem_of_getElem? (i := 55) rfl))) (hw _ (List.mem_of_getElem? (i := 33) rfl)) (ty := (.array (.object "java/lang/Object"))) (by decide) rfl rfl (g := (mkF m 8 #[.val (.ref a)] [(.ref de), (.ref a)])) rfl rfl (hb hby d5_8)
  have E_38 := Ec30.wr W37
  have S_39 := S_32.wr W37
  have F_40 := Fc30_0.other W37 (Or.inr (slot_ne (Or.inl (hw _ (List.mem_of_getElem? (i := 52) rfl))) (Or.inl (hw _ (List.mem_of_getElem? (i := 55) rfl))) (by decide) (t := .int) (t' := (.array (.object "java/lang/Object"))) (by decide) (by decide)))
  have F_42 := Fc30_2.other W37 (Or.inr (slot_ne (Or.inl (hw _ (List.mem_of_getElem? (i := 80) rfl))) (Or.inl (hw _ (List.mem_of_getElem? (i := 55) rfl))) (by decide) (t := .int) (t' := (.array (.object "java/lang/Object"))) (by decide) (by decide)))
  have N37 := Fr.snoc X37 N30 g0
  have Z37 : n0 ≤ h37.size := Nat.le_trans Z30 (Nat.le_of_eq W37.size.symm)
  have K37 : Keep h0 h37 [a] := K30.wr W37 (Or.inl (List.mem_of_getElem? (i := 0) rfl))
  have F_43 := Fc30_1.same W37
  refine Gl.st (g' := (mkF m 11 #[.val (.ref a)] [])) (fun τ κ => st37 _ κ) ?_
  exact Gl.ret (v := none) X37 Bd.notSynchronized (fun _ => rfl) e37 (fun fs hr => X37.returnOut hx Bd.returns (hb hby d5_11) hr) (by decide) (by decide) ⟨rfl, N37, K37, E_38, F_40, F_43, F_42⟩
theorem d12_0 : decode jdk_38_method_6_code 0 = .ok (.aload_n 0, 1) := by decide +kernel
theorem d12_1 : decode jdk_38_method_6_code 1 = .ok (.getfield 9, 3) := by decide +kernel
theorem d12_4 : decode jdk_38_method_6_code 4 = .ok (.arraylength, 1) := by decide +kernel
theorem d12_5 : decode jdk_38_method_6_code 5 = .ok (.istore_n 2, 1) := by decide +kernel
theorem d12_6 : decode jdk_38_method_6_code 6 = .ok (.iload_n 2, 1) := by decide +kernel
theorem d12_7 : decode jdk_38_method_6_code 7 = .ok (.ifCond .gt 13, 3) := by decide +kernel
theorem d12_10 : decode jdk_38_method_6_code 10 = .ok (.aload_n 0, 1) := by decide +kernel
theorem d12_11 : decode jdk_38_method_6_code 11 = .ok (.getfield 9, 3) := by decide +kernel
theorem d12_14 : decode jdk_38_method_6_code 14 = .ok (.getstatic 39, 3) := by decide +kernel
theorem d12_17 : decode jdk_38_method_6_code 17 = .ok (.if_acmp .eq 28, 3) := by decide +kernel
theorem d12_45 : decode jdk_38_method_6_code 45 = .ok (.aload_n 0, 1) := by decide +kernel
theorem d12_46 : decode jdk_38_method_6_code 46 = .ok (.bipush 10, 2) := by decide +kernel
theorem d12_48 : decode jdk_38_method_6_code 48 = .ok (.iload_n 1, 1) := by decide +kernel
theorem d12_49 : decode jdk_38_method_6_code 49 = .ok (.invokestatic 79, 3) := by decide +kernel
theorem pd_1 : parseMethodDescriptor "(II)I" = some ⟨[.int, .int], some .int⟩ := by decide +kernel
theorem d12_52 : decode jdk_38_method_6_code 52 = .ok (.anewarray 7, 3) := by decide +kernel
theorem d12_55 : decode jdk_38_method_6_code 55 = .ok (.dup_x1, 1) := by decide +kernel
theorem d12_56 : decode jdk_38_method_6_code 56 = .ok (.putfield 9, 3) := by decide +kernel
theorem d12_59 : decode jdk_38_method_6_code 59 = .ok (.areturn, 1) := by decide +kernel
theorem ef_rm12 (m : MethodId) (a : Addr) : entryFrame m #[(.ref a), (.int (1 : Int32))] 4 = mkF m 0 #[.val (.ref a), .val (.int (1 : Int32)), .unset, .unset] [] := by first | (simp [entryFrame, mkF, argsToLocals, Value.category]; done) | rfl
def Q_rm12 (Z : State) (a : Addr) (de : Addr) (kd : ClassId) (mc : Int32) (h0 : Heap) (n0 : Nat) (v : Option Value) (h : Heap) (L : List Loc) : Prop := ∃ b k, v = some (.ref b) ∧ Fr n0 L ∧ Keep h0 h [a] ∧ h0.size ≤ b ∧ Exa Z h a "java/util/ArrayList" ∧ Fld Z h a "java/util/AbstractList" "modCount" "I" (.int mc) ∧ Fld Z h a "java/util/ArrayList" "elementData" "[Ljava/lang/Object;" (.ref b) ∧ Fld Z h a "java/util/ArrayList" "size" "I" (.int (0 : Int32)) ∧ Arv Z h b k (.object "java/lang/Object") (10 : Int32) [.null, .null, .null, .null, .null, .null, .null, .null, .null, .null] .null ∧ Ovr Z k "java/lang/Object"
set_option maxRecDepth 65536 in
set_option maxHeartbeats 40000000 in
theorem rm12 (l : Launch) (Z : State) (a0 : Array Value) (hw : ∀ d ∈ tables_1, d.before a0 Z = true) (ws : List Jvm.Cond) (a : Addr) (de : Addr) (kd : ClassId) (mc : Int32) (h0 : Heap) (n0 : Nat) (Z0 : n0 ≤ h0.size) (E0 : Exa Z h0 a "java/util/ArrayList") (g0 : n0 ≤ a) (FM : Fld Z h0 a "java/util/AbstractList" "modCount" "I" (.int mc)) (FE : Fld Z h0 a "java/util/ArrayList" "elementData" "[Ljava/lang/Object;" (.ref de)) (FS : Fld Z h0 a "java/util/ArrayList" "size" "I" (.int (0 : Int32))) (S0 : Sta Z h0 "java/util/ArrayList" "DEFAULTCAPACITY_EMPTY_ELEMENTDATA" "[Ljava/lang/Object;" (.ref de)) (V0 : Arv Z h0 de kd (.object "java/lang/Object") (0 : Int32) [] .null) (hde : a ≠ de) :
    MetFree l (⟨"java/util/ArrayList", "grow", "(I)[Ljava/lang/Object;"⟩ : MethodName) (head1 (Jvm.Cond.code (⟨"java/util/ArrayList", "grow", "(I)[Ljava/lang/Object;"⟩ : MethodName) jdk_38_method_6_code 4 (some (.array (.object "java/lang/Object"))) :: ws) ({ frames := 1, cells := 1, slots := 10, locals := 14 } : Room)) (fun aα Uα => aα = #[(.ref a), (.int (1 : Int32))] ∧ Z.Warmed39 Uα.vm ∧ Uα.heap = h0) (fun _ _ _ _ _ => True) (fun _ Uα oα Uβ => ∃ vα Lα, oα = .returned vα ∧ Q_rm12 Z a de kd mc h0 n0 vα Uβ.heap Lα ∧ FrameEnd Uα oα Uβ Lα ({ frames := 1, cells := 1, slots := 10, locals := 14 } : Room).cells ({ frames := 1, cells := 1, slots := 10, locals := 14 } : Room).slots) := by
  refine MetFree.of_bodySF (plainFor_of_name pn_java_util_ArrayList) hisR ?_
  intro p e s m args below meth c s₁ Bd hml0 hP hKα
  obtain ⟨rfl, hZ, hh⟩ := hP
  have hx := Bd.exec
  have hby := Bd.bytes
  have hml : c.maxLocals = 4 := hml0
  have hown : s.vm.findClass "java/util/ArrayList" = some m.cls := findClass_of_methodNamed Bd.named
  have hnm := (name_of_methodNamed Bd.named Bd.method).1
  have X0 : Stand p l e ({ frames := 1, cells := 1, slots := 10, locals := 14 } : Room) s m #[(.ref a), (.int (1 : Int32))] below meth c s₁ [] 0 0 := Stand.of_body Bd
  have e0 : s₁.heap = h0 := by rw [← hh, Bd.state]; rfl
  have N0 := Fr.nil n0
  suffices k0 : Gl p e below s (Q_rm12 Z a de kd mc h0 n0) ({ frames := 1, cells := 1, slots := 10, locals := 14 } : Room).cells ({ frames := 1, cells := 1, slots := 10, locals := 14 } : Room).slots s₁ (mkF m 0 #[.val (.ref a), .val (.int (1 : Int32)), .unset, .unset] []) from Gl.st (fun τ κ => castTop (ef_rm12 m a) κ) k0
  refine Gl.st (g' := (mkF m 1 #[.val (.ref a), .val (.int (1 : Int32)), .unset, .unset] [(.ref a)])) (fun τ κ => XS.aloadN X0.here hx rfl (hb hby d12_0) rfl rfl κ) ?_
  obtain ⟨T44, X44, e44, st44⟩ := getF X0 hx hZ hown (host := "") (Or.inl (hw _ (List.mem_of_getElem? (i := 54) rfl))) Via.refl e0 FE (g := (mkF m 1 #[.val (.ref a), .val (.int (1 : Int32)), .unset, .unset] [(.ref a)])) rfl rfl (hb hby d12_1)
  refine Gl.st (g' := (mkF m 4 #[.val (.ref a), .val (.int (1 : Int32)), .unset, .unset] [(.ref de)])) (fun τ κ => st44 _ κ) ?_
  obtain ⟨cl_o45, Ar_o45, q_o45, S_o45, M_o45, H_o45, G_o45⟩ := id V0
  refine Gl.st (g' := (mkF m 5 #[.val (.ref a), .val (.int (1 : Int32)), .unset, .unset] [(.int (0 : Int32))])) (fun τ κ => X44.arraylength hx (by rw [e44]; exact Ar_o45.1) (State.isArrayOf_alike hZ.alike Ar_o45.2.1) (g := (mkF m 4 #[.val (.ref a), .val (.int (1 : Int32)), .unset, .unset] [(.ref de)])) rfl rfl (hb hby d12_4) _ (by rw [len_of S_o45 M_o45]; exact κ)) ?_
  refine Gl.st (g' := (mkF m 6 #[.val (.ref a), .val (.int (1 : Int32)), .val (.int (0 : Int32)), .unset] [])) (fun τ κ => XS.istoreN X44.here hx rfl (hb hby d12_5) rfl (l' := #[.val (.ref a), .val (.int (1 : Int32)), .val (.int (0 : Int32)), .unset]) rfl κ) ?_
  refine Gl.st (g' := (mkF m 7 #[.val (.ref a), .val (.int (1 : Int32)), .val (.int (0 : Int32)), .unset] [(.int (0 : Int32))])) (fun τ κ => XS.iloadN X44.here hx rfl (hb hby d12_6) rfl κ) ?_
  have hc46 : ¬ ((0 : Int32) < (0 : Int32)) := by decide
  refine Gl.st (g' := (mkF m 10 #[.val (.ref a), .val (.int (1 : Int32)), .val (.int (0 : Int32)), .unset] [])) (fun τ κ => XS.ifNo X44.here hx rfl (hb hby d12_7) rfl ((if0 _ _).trans (flt hc46).2.2.1) κ) ?_
  refine Gl.st (g' := (mkF m 11 #[.val (.ref a), .val (.int (1 : Int32)), .val (.int (0 : Int32)), .unset] [(.ref a)])) (fun τ κ => XS.aloadN X44.here hx rfl (hb hby d12_10) rfl rfl κ) ?_
  obtain ⟨T47, X47, e47, st47⟩ := getF X44 hx hZ hown (host := "") (Or.inl (hw _ (List.mem_of_getElem? (i := 54) rfl))) Via.refl e44 FE (g := (mkF m 11 #[.val (.ref a), .val (.int (1 : Int32)), .val (.int (0 : Int32)), .unset] [(.ref a)])) rfl rfl (hb hby d12_11)
  refine Gl.st (g' := (mkF m 14 #[.val (.ref a), .val (.int (1 : Int32)), .val (.int (0 : Int32)), .unset] [(.ref de)])) (fun τ κ => st47 _ κ) ?_
  obtain ⟨T48, X48, e48, st48⟩ := getS2 X47 hx hZ hown (host := "") (Or.inl (hw _ (List.mem_of_getElem? (i := 53) rfl))) Via.refl e47 S0 (g := (mkF m 14 #[.val (.ref a), .val (.int (1 : Int32)), .val (.int (0 : Int32)), .unset] [(.ref de)])) rfl (hb hby d12_14)
  refine Gl.st (g' := (mkF m 17 #[.val (.ref a), .val (.int (1 : Int32)), .val (.int (0 : Int32)), .unset] [(.ref de), (.ref de)])) (fun τ κ => st48 _ κ) ?_
  refine Gl.st (g' := (mkF m 45 #[.val (.ref a), .val (.int (1 : Int32)), .val (.int (0 : Int32)), .unset] [])) (fun τ κ => Jvm.RoadKit.acmp (g := (mkF m 17 #[.val (.ref a), .val (.int (1 : Int32)), .val (.int (0 : Int32)), .unset] [(.ref de), (.ref de)])) X48 hx rfl rfl rfl (pc0 := 17) (pc' := 45) (same := true) rfl (hb hby d12_17) rfl (decide_eq_true rfl) (by decide) (by decide) κ) ?_
  refine Gl.st (g' := (mkF m 46 #[.val (.ref a), .val (.int (1 : Int32)), .val (.int (0 : Int32)), .unset] [(.ref a)])) (fun τ κ => XS.aloadN X48.here hx rfl (hb hby d12_45) rfl rfl κ) ?_
  refine Gl.st (g' := (mkF m 48 #[.val (.ref a), .val (.int (1 : Int32)), .val (.int (0 : Int32)), .unset] [(.int (10 : Int32)), (.ref a)])) (fun τ κ => XS.bipush X48.here hx rfl (hb hby d12_46) κ) ?_
  refine Gl.st (g' := (mkF m 49 #[.val (.ref a), .val (.int (1 : Int32)), .val (.int (0 : Int32)), .unset] [(.int (1 : Int32)), (.int (10 : Int32)), (.ref a)])) (fun τ κ => XS.iloadN X48.here hx rfl (hb hby d12_48) rfl κ) ?_
  obtain ⟨rv49, _, ⟨T49, L49, k49, n49⟩, -, X49, ⟨Lc49, hQ49, l49, y49, z49⟩, st49⟩ := Jvm.LawKit.callS X48 hx (y := (⟨"java/lang/Math", "max", "(II)I"⟩ : MethodName)) hown (mvT hZ (hw _ (List.mem_of_getElem? (i := 96) rfl))) (mvT hZ (hw _ (List.mem_of_getElem? (i := 97) rfl))) (mvT hZ (hw _ (List.mem_of_getElem? (i := 98) rfl))) (mvT hZ (hw _ (List.mem_of_getElem? (i := 99) rfl))) (by decide) (backOf (W := 1) (rm13 l Z a0 hw [] (10 : Int32) (1 : Int32) h0 n0 Z0 ) hZ (hw _ (List.mem_of_getElem? (i := 99) rfl)) (hw _ (List.mem_of_getElem? (i := 98) rfl)) (by decide) (by decide)) (g := (mkF m 49 #[.val (.ref a), .val (.int (1 : Int32)), .val (.int (0 : Int32)), .unset] [(.int (1 : Int32)), (.int (10 : Int32)), (.ref a)])) rfl (by rw [hml]; rfl) (argsL := [(.int (10 : Int32)), (.int (1 : Int32))]) (rest := [(.ref a)]) (lenOf pd_1 rfl) rfl (by show 2 * 0 + _ ≤ _; exact Nat.le_of_eq rfl) (hb hby d12_49) (fun _ _ => ⟨rfl, e48, (by decide : 0 + 0 ≤ _), (by decide : 0 + 0 ≤ _)⟩)
  dsimp only [Pt.U, Pt.locs, Pt.cells, Pt.slots] at X49 l49 y49 z49 st49 hQ49
  subst l49 y49 z49
  obtain ⟨rfl, N49q, e49⟩ := hQ49
  have N49 := Fr.app N0 N49q
  refine Gl.st (g' := (mkF m 52 #[.val (.ref a), .val (.int (1 : Int32)), .val (.int (0 : Int32)), .unset] [(.int (own_max (10 : Int32) (1 : Int32))), (.ref a)])) (fun τ κ => st49 _ κ) ?_
  rw [show own_max (10 : Int32) (1 : Int32) = (10 : Int32) from by decide]
  obtain ⟨T50, h50, k50, X50, e50, E50, A50, O50, st50⟩ := newR X49 hx hZ hown (hw _ (List.mem_of_getElem? (i := 100) rfl)) (hw _ (List.mem_of_getElem? (i := 101) rfl)) e49 (g := (mkF m 52 #[.val (.ref a), .val (.int (1 : Int32)), .val (.int (0 : Int32)), .unset] [(.int (10 : Int32)), (.ref a)])) rfl (hb hby d12_52) rfl (by decide) (cap := 10) (by decide) (by decide) (by decide) (by decide)
  obtain ⟨b50, g50⟩ : ∃ z, z = h0.size := ⟨_, rfl⟩
  rw [← g50] at A50 st50
  have ne_a_b50 : a ≠ b50 := Nat.ne_of_lt (Nat.lt_of_lt_of_le E0.lt (Nat.le_of_eq g50.symm))
  have ne_de_b50 : de ≠ b50 := Nat.ne_of_lt (Nat.lt_of_lt_of_le V0.lt (Nat.le_of_eq g50.symm))
  have E_51 := E0.ext E50
  have S_52 := S0.ext E50
  have V_53 := V0.ext E50
  have F_54 := FM.ext E50
  have F_55 := FE.ext E50
  have F_56 := FS.ext E50
  have g_b50 : n0 ≤ b50 := Nat.le_trans Z0 (Nat.le_of_eq g50.symm)
  have sz_b50 : h0.size ≤ b50 := Nat.le_trans (Keep.refl h0 [a]).1 (Nat.le_of_eq g50.symm)
  have Z50 : n0 ≤ h50.size := Nat.le_trans Z0 E50.1
  have K50 : Keep h0 h50 [a] := (Keep.refl h0 [a]).ext E50
  have V_b50 : Arv Z h50 b50 k50 (.object "java/lang/Object") (10 : Int32) [.null, .null, .null, .null, .null, .null, .null, .null, .null, .null] .null := (Arv.new A50 (by decide)).pad (pad_rep [] .null 10)
  refine Gl.st (g' := (mkF m 55 #[.val (.ref a), .val (.int (1 : Int32)), .val (.int (0 : Int32)), .unset] [(.ref b50), (.ref a)])) (fun τ κ => st50 _ κ) ?_
  refine Gl.st (g' := (mkF m 56 #[.val (.ref a), .val (.int (1 : Int32)), .val (.int (0 : Int32)), .unset] [(.ref b50), (.ref a), (.ref b50)])) (fun τ κ => XS.dupX1 X50.here hx rfl (hb hby d12_55) rfl rfl rfl κ) ?_
  obtain ⟨T57, h57, X57, e57, W57, st57⟩ := putF X50 hx hZ hown (host := "") (Or.inl (hw _ (List.mem_of_getElem? (i := 54) rfl))) Via.refl e50 F_55 E_51 (Or.inl (hw _ (List.mem_of_getElem? (i := 55) rfl))) (hw _ (List.mem_of_getElem? (i := 33) rfl)) (ty := (.array (.object "java/lang/Object"))) (by decide) rfl rfl (g := (mkF m 56 #[.val (.ref a), .val (.int (1 : Int32)), .val (.int (0 : Int32)), .unset] [(.ref b50), (.ref a), (.ref b50)])) rfl rfl (hb hby d12_56)
  have E_58 := E_51.wr W57
  have S_59 := S_52.wr W57
  have V_60 := V_53.other W57 (Ne.symm hde)
  have F_61 := F_54.other W57 (Or.inr (slot_ne (Or.inl (hw _ (List.mem_of_getElem? (i := 52) rfl))) (Or.inl (hw _ (List.mem_of_getElem? (i := 55) rfl))) (by decide) (t := .int) (t' := (.array (.object "java/lang/Object"))) (by decide) (by decide)))
  have F_63 := F_56.other W57 (Or.inr (slot_ne (Or.inl (hw _ (List.mem_of_getElem? (i := 80) rfl))) (Or.inl (hw _ (List.mem_of_getElem? (i := 55) rfl))) (by decide) (t := .int) (t' := (.array (.object "java/lang/Object"))) (by decide) (by decide)))
  have V_64 := V_b50.other W57 (Ne.symm ne_a_b50)
  have N57 := Fr.snoc X57 N49 g0
  have Z57 : n0 ≤ h57.size := Nat.le_trans Z50 (Nat.le_of_eq W57.size.symm)
  have K57 : Keep h0 h57 [a] := K50.wr W57 (Or.inl (List.mem_of_getElem? (i := 0) rfl))
  have F_65 := F_55.same W57
  refine Gl.st (g' := (mkF m 59 #[.val (.ref a), .val (.int (1 : Int32)), .val (.int (0 : Int32)), .unset] [(.ref b50)])) (fun τ κ => st57 _ κ) ?_
  exact Gl.ret (v := some (.ref b50)) X57 Bd.notSynchronized (fun h => by rw [Bd.returns] at h; cases h) e57 (fun fs hr => (by
      jvm_step X57.here [X57.here.top, hx, (hb hby d12_59), X57.method', Bd.returns, Value.isRef, FieldType.isReference]
      first | (intro acts; rw [hr _ acts rfl rfl rfl]) | rw [hr _ _ rfl rfl rfl]
      exact Steps.refl _)) (by decide) (by decide) ⟨b50, k50, rfl, N57, K57, sz_b50, E_58, F_61, F_65, F_63, V_64, O50⟩
theorem d11_0 : decode jdk_38_method_7_code 0 = .ok (.aload_n 0, 1) := by decide +kernel
theorem d11_1 : decode jdk_38_method_7_code 1 = .ok (.aload_n 0, 1) := by decide +kernel
theorem d11_2 : decode jdk_38_method_7_code 2 = .ok (.getfield 48, 3) := by decide +kernel
theorem d11_5 : decode jdk_38_method_7_code 5 = .ok (.iconst 1, 1) := by decide +kernel
theorem d11_6 : decode jdk_38_method_7_code 6 = .ok (.iadd, 1) := by decide +kernel
theorem d11_7 : decode jdk_38_method_7_code 7 = .ok (.invokevirtual 69, 3) := by decide +kernel
theorem pd_2 : parseMethodDescriptor "(I)[Ljava/lang/Object;" = some ⟨[.int], some (.array (.object "java/lang/Object"))⟩ := by decide +kernel
theorem d11_10 : decode jdk_38_method_7_code 10 = .ok (.areturn, 1) := by decide +kernel
theorem ef_rm11 (m : MethodId) (a : Addr) : entryFrame m #[(.ref a)] 1 = mkF m 0 #[.val (.ref a)] [] := by first | (simp [entryFrame, mkF, argsToLocals, Value.category]; done) | rfl
def Q_rm11 (Z : State) (a : Addr) (de : Addr) (kd : ClassId) (mc : Int32) (h0 : Heap) (n0 : Nat) (v : Option Value) (h : Heap) (L : List Loc) : Prop := ∃ b k, v = some (.ref b) ∧ Fr n0 L ∧ Keep h0 h [a] ∧ h0.size ≤ b ∧ Exa Z h a "java/util/ArrayList" ∧ Fld Z h a "java/util/AbstractList" "modCount" "I" (.int mc) ∧ Fld Z h a "java/util/ArrayList" "elementData" "[Ljava/lang/Object;" (.ref b) ∧ Fld Z h a "java/util/ArrayList" "size" "I" (.int (0 : Int32)) ∧ Arv Z h b k (.object "java/lang/Object") (10 : Int32) [.null, .null, .null, .null, .null, .null, .null, .null, .null, .null] .null ∧ Ovr Z k "java/lang/Object"
set_option maxRecDepth 65536 in
set_option maxHeartbeats 40000000 in
theorem rm11 (l : Launch) (Z : State) (a0 : Array Value) (hw : ∀ d ∈ tables_1, d.before a0 Z = true) (ws : List Jvm.Cond) (a : Addr) (de : Addr) (kd : ClassId) (mc : Int32) (h0 : Heap) (n0 : Nat) (Z0 : n0 ≤ h0.size) (E0 : Exa Z h0 a "java/util/ArrayList") (g0 : n0 ≤ a) (FM : Fld Z h0 a "java/util/AbstractList" "modCount" "I" (.int mc)) (FE : Fld Z h0 a "java/util/ArrayList" "elementData" "[Ljava/lang/Object;" (.ref de)) (FS : Fld Z h0 a "java/util/ArrayList" "size" "I" (.int (0 : Int32))) (S0 : Sta Z h0 "java/util/ArrayList" "DEFAULTCAPACITY_EMPTY_ELEMENTDATA" "[Ljava/lang/Object;" (.ref de)) (V0 : Arv Z h0 de kd (.object "java/lang/Object") (0 : Int32) [] .null) (hde : a ≠ de) :
    MetFree l (⟨"java/util/ArrayList", "grow", "()[Ljava/lang/Object;"⟩ : MethodName) (head1 (Jvm.Cond.code (⟨"java/util/ArrayList", "grow", "()[Ljava/lang/Object;"⟩ : MethodName) jdk_38_method_7_code 1 (some (.array (.object "java/lang/Object"))) :: ws) ({ frames := 2, cells := 1, slots := 10, locals := 29 } : Room)) (fun aα Uα => aα = #[(.ref a)] ∧ Z.Warmed39 Uα.vm ∧ Uα.heap = h0) (fun _ _ _ _ _ => True) (fun _ Uα oα Uβ => ∃ vα Lα, oα = .returned vα ∧ Q_rm11 Z a de kd mc h0 n0 vα Uβ.heap Lα ∧ FrameEnd Uα oα Uβ Lα ({ frames := 2, cells := 1, slots := 10, locals := 29 } : Room).cells ({ frames := 2, cells := 1, slots := 10, locals := 29 } : Room).slots) := by
  refine MetFree.of_bodySF (plainFor_of_name pn_java_util_ArrayList) hisR ?_
  intro p e s m args below meth c s₁ Bd hml0 hP hKα
  obtain ⟨rfl, hZ, hh⟩ := hP
  have hx := Bd.exec
  have hby := Bd.bytes
  have hml : c.maxLocals = 1 := hml0
  have hown : s.vm.findClass "java/util/ArrayList" = some m.cls := findClass_of_methodNamed Bd.named
  have hnm := (name_of_methodNamed Bd.named Bd.method).1
  have X0 : Stand p l e ({ frames := 2, cells := 1, slots := 10, locals := 29 } : Room) s m #[(.ref a)] below meth c s₁ [] 0 0 := Stand.of_body Bd
  have e0 : s₁.heap = h0 := by rw [← hh, Bd.state]; rfl
  have N0 := Fr.nil n0
  suffices k0 : Gl p e below s (Q_rm11 Z a de kd mc h0 n0) ({ frames := 2, cells := 1, slots := 10, locals := 29 } : Room).cells ({ frames := 2, cells := 1, slots := 10, locals := 29 } : Room).slots s₁ (mkF m 0 #[.val (.ref a)] []) from Gl.st (fun τ κ => castTop (ef_rm11 m a) κ) k0
  refine Gl.st (g' := (mkF m 1 #[.val (.ref a)] [(.ref a)])) (fun τ κ => XS.aloadN X0.here hx rfl (hb hby d11_0) rfl rfl κ) ?_
  refine Gl.st (g' := (mkF m 2 #[.val (.ref a)] [(.ref a), (.ref a)])) (fun τ κ => XS.aloadN X0.here hx rfl (hb hby d11_1) rfl rfl κ) ?_
  obtain ⟨T66, X66, e66, st66⟩ := getF X0 hx hZ hown (host := "") (Or.inl (hw _ (List.mem_of_getElem? (i := 79) rfl))) Via.refl e0 FS (g := (mkF m 2 #[.val (.ref a)] [(.ref a), (.ref a)])) rfl rfl (hb hby d11_2)
  refine Gl.st (g' := (mkF m 5 #[.val (.ref a)] [(.int (0 : Int32)), (.ref a)])) (fun τ κ => st66 _ κ) ?_
  refine Gl.st (g' := (mkF m 6 #[.val (.ref a)] [(.int (1 : Int32)), (.int (0 : Int32)), (.ref a)])) (fun τ κ => XS.iconst X66.here hx rfl (hb hby d11_5) κ) ?_
  refine Gl.st (g' := (mkF m 7 #[.val (.ref a)] [(.int (1 : Int32)), (.ref a)])) (fun τ κ => XS.iadd X66.here hx rfl (hb hby d11_6) rfl κ) ?_
  obtain ⟨cq67, q67, q67'⟩ := E0.cell
  obtain ⟨rv67, _, ⟨T67, L67, k67, n67⟩, -, X67, ⟨Lc67, hQ67, l67, y67, z67⟩, st67⟩ := X66.privateBack hx (y := (⟨"java/util/ArrayList", "grow", "(I)[Ljava/lang/Object;"⟩ : MethodName)) hown (mvT hZ (hw _ (List.mem_of_getElem? (i := 91) rfl))) (mvT hZ (hw _ (List.mem_of_getElem? (i := 92) rfl))) (mvT hZ (hw _ (List.mem_of_getElem? (i := 94) rfl))) (Cond.privateMethod_at (mvP hZ (hw _ (List.mem_of_getElem? (i := 93) rfl)) (args := #[]))) (mvT hZ (hw _ (List.mem_of_getElem? (i := 95) rfl))) (by decide) (backOf (W := 0) (rm12 l Z a0 hw [] a de kd mc h0 n0 Z0 E0 g0 FM FE FS S0 V0 hde) hZ (hw _ (List.mem_of_getElem? (i := 95) rfl)) (hw _ (List.mem_of_getElem? (i := 34) rfl)) (by decide) (by decide)) (g := (mkF m 7 #[.val (.ref a)] [(.int (1 : Int32)), (.ref a)])) rfl (by rw [hml]; rfl) (Steps.refl _) (a := a) (by rw [e66]; exact q67) q67' (argsL := [(.int (1 : Int32))]) (rest := []) (lenOf pd_2 rfl) rfl (by show 2 * 0 + _ ≤ _; exact Nat.le_of_eq rfl) (hb hby d11_7) (fun _ _ => ⟨rfl, e66, (by decide : 0 + 1 ≤ _), (by decide : 0 + 10 ≤ _)⟩)
  dsimp only [Pt.U, Pt.locs, Pt.cells, Pt.slots] at X67 l67 y67 z67 st67 hQ67
  subst l67 y67 z67
  obtain ⟨b67, kk67, rfl, N67q, Kc67, s67, Ec67, FM67, FE67, FS67, V67, O67⟩ := hQ67
  have ne_a_b67 : a ≠ b67 := Nat.ne_of_lt (Nat.lt_of_lt_of_le E0.lt s67)
  have ne_de_b67 : de ≠ b67 := Nat.ne_of_lt (Nat.lt_of_lt_of_le V0.lt s67)
  have g_b67 : n0 ≤ b67 := Nat.le_trans Z0 s67
  have sz_b67 : h0.size ≤ b67 := Nat.le_trans (Keep.refl h0 [a]).1 s67
  have E_68 := E0.keep Kc67
  have S_69 := Sta.keepX S0 Kc67 (allS (P := fun x => ∃ c : Cell, h0[x]? = some c ∧ ∀ q, c.vm ≠ .statics q) E0.cell all0)
  have V_70 := V0.keep Kc67 (ninS (Ne.symm hde) nin0)
  have N67 := Fr.app N0 N67q
  have Z67 : n0 ≤ T67.heap.size := Nat.le_trans Z0 Kc67.1
  have K67 : Keep h0 T67.heap [a] := (Keep.refl h0 [a]).trans Kc67 (allS (Or.inl (List.mem_of_getElem? (i := 0) rfl)) all0)
  refine Gl.st (g' := (mkF m 10 #[.val (.ref a)] [(.ref b67)])) (fun τ κ => st67.trans κ) ?_
  exact Gl.ret (v := some (.ref b67)) X67 Bd.notSynchronized (fun h => by rw [Bd.returns] at h; cases h) rfl (fun fs hr => (by
      jvm_step X67.here [X67.here.top, hx, (hb hby d11_10), X67.method', Bd.returns, Value.isRef, FieldType.isReference]
      first | (intro acts; rw [hr _ acts rfl rfl rfl]) | rw [hr _ _ rfl rfl rfl]
      exact Steps.refl _)) (by decide) (by decide) ⟨b67, kk67, rfl, N67, K67, sz_b67, Ec67, FM67, FE67, FS67, V67, O67⟩
theorem d10_0 : decode jdk_38_method_24_code 0 = .ok (.iload_n 3, 1) := by decide +kernel
theorem d10_1 : decode jdk_38_method_24_code 1 = .ok (.aload_n 2, 1) := by decide +kernel
theorem d10_2 : decode jdk_38_method_24_code 2 = .ok (.arraylength, 1) := by decide +kernel
theorem d10_3 : decode jdk_38_method_24_code 3 = .ok (.if_icmp .ne 8, 3) := by decide +kernel
theorem d10_6 : decode jdk_38_method_24_code 6 = .ok (.aload_n 0, 1) := by decide +kernel
theorem d10_7 : decode jdk_38_method_24_code 7 = .ok (.invokevirtual 129, 3) := by decide +kernel
theorem pd_3 : parseMethodDescriptor "()[Ljava/lang/Object;" = some ⟨[], some (.array (.object "java/lang/Object"))⟩ := by decide +kernel
theorem d10_10 : decode jdk_38_method_24_code 10 = .ok (.astore_n 2, 1) := by decide +kernel
theorem d10_11 : decode jdk_38_method_24_code 11 = .ok (.aload_n 2, 1) := by decide +kernel
theorem d10_12 : decode jdk_38_method_24_code 12 = .ok (.iload_n 3, 1) := by decide +kernel
theorem d10_13 : decode jdk_38_method_24_code 13 = .ok (.aload_n 1, 1) := by decide +kernel
theorem d10_14 : decode jdk_38_method_24_code 14 = .ok (.aastore, 1) := by decide +kernel
theorem d10_15 : decode jdk_38_method_24_code 15 = .ok (.aload_n 0, 1) := by decide +kernel
theorem d10_16 : decode jdk_38_method_24_code 16 = .ok (.iload_n 3, 1) := by decide +kernel
theorem d10_17 : decode jdk_38_method_24_code 17 = .ok (.iconst 1, 1) := by decide +kernel
theorem d10_18 : decode jdk_38_method_24_code 18 = .ok (.iadd, 1) := by decide +kernel
theorem d10_19 : decode jdk_38_method_24_code 19 = .ok (.putfield 48, 3) := by decide +kernel
theorem d10_22 : decode jdk_38_method_24_code 22 = .ok (.return_, 1) := by decide +kernel
theorem ef_rm_Ah (m : MethodId) (a : Addr) (el : Addr) (de : Addr) : entryFrame m #[(.ref a), (.ref el), (.ref de), (.int (0 : Int32))] 4 = mkF m 0 #[.val (.ref a), .val (.ref el), .val (.ref de), .val (.int (0 : Int32))] [] := by first | (simp [entryFrame, mkF, argsToLocals, Value.category]; done) | rfl
def Q_rm_Ah (Z : State) (a : Addr) (el : Addr) (de : Addr) (kd : ClassId) (mc : Int32) (h0 : Heap) (n0 : Nat) (v : Option Value) (h : Heap) (L : List Loc) : Prop := ∃ b k vs, v = none ∧ Fr n0 L ∧ Keep h0 h [a] ∧ h0.size ≤ b ∧ Exa Z h a "java/util/ArrayList" ∧ Fld Z h a "java/util/AbstractList" "modCount" "I" (.int mc) ∧ Fld Z h a "java/util/ArrayList" "elementData" "[Ljava/lang/Object;" (.ref b) ∧ Fld Z h a "java/util/ArrayList" "size" "I" (.int (1 : Int32)) ∧ Arv Z h b k (.object "java/lang/Object") (10 : Int32) vs .null ∧ Ovr Z k "java/lang/Object"
set_option maxRecDepth 65536 in
set_option maxHeartbeats 40000000 in
theorem rm_Ah (l : Launch) (Z : State) (a0 : Array Value) (hw : ∀ d ∈ tables_1, d.before a0 Z = true) (ws : List Jvm.Cond) (a : Addr) (el : Addr) (de : Addr) (kd : ClassId) (mc : Int32) (h0 : Heap) (n0 : Nat) (Z0 : n0 ≤ h0.size) (E0 : Exa Z h0 a "java/util/ArrayList") (g0 : n0 ≤ a) (FM : Fld Z h0 a "java/util/AbstractList" "modCount" "I" (.int mc)) (FE : Fld Z h0 a "java/util/ArrayList" "elementData" "[Ljava/lang/Object;" (.ref de)) (FS : Fld Z h0 a "java/util/ArrayList" "size" "I" (.int (0 : Int32))) (S0 : Sta Z h0 "java/util/ArrayList" "DEFAULTCAPACITY_EMPTY_ELEMENTDATA" "[Ljava/lang/Object;" (.ref de)) (V0 : Arv Z h0 de kd (.object "java/lang/Object") (0 : Int32) [] .null) (hde : a ≠ de) (E1 : Exa Z h0 el "java/util/ArrayList") :
    MetFree l (⟨"java/util/ArrayList", "add", "(Ljava/lang/Object;[Ljava/lang/Object;I)V"⟩ : MethodName) (head1 (Jvm.Cond.code (⟨"java/util/ArrayList", "add", "(Ljava/lang/Object;[Ljava/lang/Object;I)V"⟩ : MethodName) jdk_38_method_24_code 4 none :: ws) ({ frames := 3, cells := 1, slots := 10, locals := 41 } : Room)) (fun aα Uα => aα = #[(.ref a), (.ref el), (.ref de), (.int (0 : Int32))] ∧ Z.Warmed39 Uα.vm ∧ Uα.heap = h0) (fun _ _ _ _ _ => True) (fun _ Uα oα Uβ => ∃ vα Lα, oα = .returned vα ∧ Q_rm_Ah Z a el de kd mc h0 n0 vα Uβ.heap Lα ∧ FrameEnd Uα oα Uβ Lα ({ frames := 3, cells := 1, slots := 10, locals := 41 } : Room).cells ({ frames := 3, cells := 1, slots := 10, locals := 41 } : Room).slots) := by
  refine MetFree.of_bodySF (plainFor_of_name pn_java_util_ArrayList) hisR ?_
  intro p e s m args below meth c s₁ Bd hml0 hP hKα
  obtain ⟨rfl, hZ, hh⟩ := hP
  have hx := Bd.exec
  have hby := Bd.bytes
  have hml : c.maxLocals = 4 := hml0
  have hown : s.vm.findClass "java/util/ArrayList" = some m.cls := findClass_of_methodNamed Bd.named
  have hnm := (name_of_methodNamed Bd.named Bd.method).1
  have X0 : Stand p l e ({ frames := 3, cells := 1, slots := 10, locals := 41 } : Room) s m #[(.ref a), (.ref el), (.ref de), (.int (0 : Int32))] below meth c s₁ [] 0 0 := Stand.of_body Bd
  have e0 : s₁.heap = h0 := by rw [← hh, Bd.state]; rfl
  have N0 := Fr.nil n0
  suffices k0 : Gl p e below s (Q_rm_Ah Z a el de kd mc h0 n0) ({ frames := 3, cells := 1, slots := 10, locals := 41 } : Room).cells ({ frames := 3, cells := 1, slots := 10, locals := 41 } : Room).slots s₁ (mkF m 0 #[.val (.ref a), .val (.ref el), .val (.ref de), .val (.int (0 : Int32))] []) from Gl.st (fun τ κ => castTop (ef_rm_Ah m a el de) κ) k0
  refine Gl.st (g' := (mkF m 1 #[.val (.ref a), .val (.ref el), .val (.ref de), .val (.int (0 : Int32))] [(.int (0 : Int32))])) (fun τ κ => XS.iloadN X0.here hx rfl (hb hby d10_0) rfl κ) ?_
  refine Gl.st (g' := (mkF m 2 #[.val (.ref a), .val (.ref el), .val (.ref de), .val (.int (0 : Int32))] [(.ref de), (.int (0 : Int32))])) (fun τ κ => XS.aloadN X0.here hx rfl (hb hby d10_1) rfl rfl κ) ?_
  obtain ⟨cl_o74, Ar_o74, q_o74, S_o74, M_o74, H_o74, G_o74⟩ := id V0
  refine Gl.st (g' := (mkF m 3 #[.val (.ref a), .val (.ref el), .val (.ref de), .val (.int (0 : Int32))] [(.int (0 : Int32)), (.int (0 : Int32))])) (fun τ κ => X0.arraylength hx (by rw [e0]; exact Ar_o74.1) (State.isArrayOf_alike hZ.alike Ar_o74.2.1) (g := (mkF m 2 #[.val (.ref a), .val (.ref el), .val (.ref de), .val (.int (0 : Int32))] [(.ref de), (.int (0 : Int32))])) rfl rfl (hb hby d10_2) _ (by rw [len_of S_o74 M_o74]; exact κ)) ?_
  have hc75 : (0 : Int32) = (0 : Int32) := by decide
  refine Gl.st (g' := (mkF m 6 #[.val (.ref a), .val (.ref el), .val (.ref de), .val (.int (0 : Int32))] [])) (fun τ κ => XS.icmpNo X0.here hx rfl (hb hby d10_3) rfl (teq hc75).2 κ) ?_
  refine Gl.st (g' := (mkF m 7 #[.val (.ref a), .val (.ref el), .val (.ref de), .val (.int (0 : Int32))] [(.ref a)])) (fun τ κ => XS.aloadN X0.here hx rfl (hb hby d10_6) rfl rfl κ) ?_
  obtain ⟨cq76, q76, q76'⟩ := E0.cell
  obtain ⟨rv76, _, ⟨T76, L76, k76, n76⟩, -, X76, ⟨Lc76, hQ76, l76, y76, z76⟩, st76⟩ := X0.privateBack hx (y := (⟨"java/util/ArrayList", "grow", "()[Ljava/lang/Object;"⟩ : MethodName)) hown (mvT hZ (hw _ (List.mem_of_getElem? (i := 86) rfl))) (mvT hZ (hw _ (List.mem_of_getElem? (i := 87) rfl))) (mvT hZ (hw _ (List.mem_of_getElem? (i := 89) rfl))) (Cond.privateMethod_at (mvP hZ (hw _ (List.mem_of_getElem? (i := 88) rfl)) (args := #[]))) (mvT hZ (hw _ (List.mem_of_getElem? (i := 90) rfl))) (by decide) (backOf (W := 0) (rm11 l Z a0 hw [] a de kd mc h0 n0 Z0 E0 g0 FM FE FS S0 V0 hde) hZ (hw _ (List.mem_of_getElem? (i := 90) rfl)) (hw _ (List.mem_of_getElem? (i := 34) rfl)) (by decide) (by decide)) (g := (mkF m 7 #[.val (.ref a), .val (.ref el), .val (.ref de), .val (.int (0 : Int32))] [(.ref a)])) rfl (by rw [hml]; rfl) (Steps.refl _) (a := a) (by rw [e0]; exact q76) q76' (argsL := []) (rest := []) (lenOf pd_3 rfl) rfl (by show 2 * 0 + _ ≤ _; exact Nat.le_of_eq rfl) (hb hby d10_7) (fun _ _ => ⟨rfl, e0, (by decide : 0 + 1 ≤ _), (by decide : 0 + 10 ≤ _)⟩)
  dsimp only [Pt.U, Pt.locs, Pt.cells, Pt.slots] at X76 l76 y76 z76 st76 hQ76
  subst l76 y76 z76
  obtain ⟨b76, kk76, rfl, N76q, Kc76, s76, Ec76, FM76, FE76, FS76, V76, O76⟩ := hQ76
  have ne_a_b76 : a ≠ b76 := Nat.ne_of_lt (Nat.lt_of_lt_of_le E0.lt s76)
  have ne_de_b76 : de ≠ b76 := Nat.ne_of_lt (Nat.lt_of_lt_of_le V0.lt s76)
  have ne_el_b76 : el ≠ b76 := Nat.ne_of_lt (Nat.lt_of_lt_of_le E1.lt s76)
  have g_b76 : n0 ≤ b76 := Nat.le_trans Z0 s76
  have sz_b76 : h0.size ≤ b76 := Nat.le_trans (Keep.refl h0 [a]).1 s76
  have E_77 := E0.keep Kc76
  have S_78 := Sta.keepX S0 Kc76 (allS (P := fun x => ∃ c : Cell, h0[x]? = some c ∧ ∀ q, c.vm ≠ .statics q) E0.cell all0)
  have V_79 := V0.keep Kc76 (ninS (Ne.symm hde) nin0)
  have E_83 := E1.keep Kc76
  have N76 := Fr.app N0 N76q
  have Z76 : n0 ≤ T76.heap.size := Nat.le_trans Z0 Kc76.1
  have K76 : Keep h0 T76.heap [a] := (Keep.refl h0 [a]).trans Kc76 (allS (Or.inl (List.mem_of_getElem? (i := 0) rfl)) all0)
  refine Gl.st (g' := (mkF m 10 #[.val (.ref a), .val (.ref el), .val (.ref de), .val (.int (0 : Int32))] [(.ref b76)])) (fun τ κ => st76.trans κ) ?_
  refine Gl.st (g' := (mkF m 11 #[.val (.ref a), .val (.ref el), .val (.ref b76), .val (.int (0 : Int32))] [])) (fun τ κ => XS.astoreN X76.here hx rfl (hb hby d10_10) rfl rfl (l' := #[.val (.ref a), .val (.ref el), .val (.ref b76), .val (.int (0 : Int32))]) rfl κ) ?_
  refine Gl.st (g' := (mkF m 12 #[.val (.ref a), .val (.ref el), .val (.ref b76), .val (.int (0 : Int32))] [(.ref b76)])) (fun τ κ => XS.aloadN X76.here hx rfl (hb hby d10_11) rfl rfl κ) ?_
  refine Gl.st (g' := (mkF m 13 #[.val (.ref a), .val (.ref el), .val (.ref b76), .val (.int (0 : Int32))] [(.int (0 : Int32)), (.ref b76)])) (fun τ κ => XS.iloadN X76.here hx rfl (hb hby d10_12) rfl κ) ?_
  refine Gl.st (g' := (mkF m 14 #[.val (.ref a), .val (.ref el), .val (.ref b76), .val (.int (0 : Int32))] [(.ref el), (.int (0 : Int32)), (.ref b76)])) (fun τ κ => XS.aloadN X76.here hx rfl (hb hby d10_13) rfl rfl κ) ?_
  obtain ⟨cl_o84, Ar_o84, q_o84, S_o84, M_o84, H_o84, G_o84⟩ := id V76
  have hin_o84 : ¬ ((0 : Int32) < 0 ∨ cl_o84.slots.size ≤ ((0 : Int32)).toNatClampNeg) := inb_of S_o84 ⟨by decide, by decide⟩
  obtain ⟨T85, h85, X85, e85, W85, st85⟩ := stR X76 hx hZ rfl Ar_o84 (j := (0 : Int32)) hin_o84 rfl (Sto.ofV Ar_o84 q_o84 O76 (Ins.of_exa E_83 (hw _ (List.mem_of_getElem? (i := 102) rfl)))) (g := (mkF m 14 #[.val (.ref a), .val (.ref el), .val (.ref b76), .val (.int (0 : Int32))] [(.ref el), (.int (0 : Int32)), (.ref b76)])) rfl rfl (hb hby d10_14)
  have E_86 := Ec76.wr W85
  have S_87 := S_78.wr W85
  have V_88 := V_79.other W85 ne_de_b76
  have E_89 := E_83.wr W85
  have F_90 := FM76.other W85 (Or.inl ne_a_b76)
  have F_91 := FE76.other W85 (Or.inl ne_a_b76)
  have F_92 := FS76.other W85 (Or.inl ne_a_b76)
  have N85 := Fr.snoc X85 N76 g_b76
  have Z85 : n0 ≤ h85.size := Nat.le_trans Z76 (Nat.le_of_eq W85.size.symm)
  have K85 : Keep h0 h85 [a] := K76.wr W85 (Or.inr sz_b76)
  have V_b76_85 : Arv Z h85 b76 kk76 (.object "java/lang/Object") (10 : Int32) [(.ref el), .null, .null, .null, .null, .null, .null, .null, .null, .null] .null := Arv.set Ar_o84 q_o84 S_o84 M_o84 H_o84 G_o84 rfl W85 0 rfl (Nat.le_of_ble_eq_true rfl)
  refine Gl.st (g' := (mkF m 15 #[.val (.ref a), .val (.ref el), .val (.ref b76), .val (.int (0 : Int32))] [])) (fun τ κ => st85 _ κ) ?_
  refine Gl.st (g' := (mkF m 16 #[.val (.ref a), .val (.ref el), .val (.ref b76), .val (.int (0 : Int32))] [(.ref a)])) (fun τ κ => XS.aloadN X85.here hx rfl (hb hby d10_15) rfl rfl κ) ?_
  refine Gl.st (g' := (mkF m 17 #[.val (.ref a), .val (.ref el), .val (.ref b76), .val (.int (0 : Int32))] [(.int (0 : Int32)), (.ref a)])) (fun τ κ => XS.iloadN X85.here hx rfl (hb hby d10_16) rfl κ) ?_
  refine Gl.st (g' := (mkF m 18 #[.val (.ref a), .val (.ref el), .val (.ref b76), .val (.int (0 : Int32))] [(.int (1 : Int32)), (.int (0 : Int32)), (.ref a)])) (fun τ κ => XS.iconst X85.here hx rfl (hb hby d10_17) κ) ?_
  refine Gl.st (g' := (mkF m 19 #[.val (.ref a), .val (.ref el), .val (.ref b76), .val (.int (0 : Int32))] [(.int (1 : Int32)), (.ref a)])) (fun τ κ => XS.iadd X85.here hx rfl (hb hby d10_18) rfl κ) ?_
  obtain ⟨T94, h94, X94, e94, W94, st94⟩ := putF X85 hx hZ hown (host := "") (Or.inl (hw _ (List.mem_of_getElem? (i := 79) rfl))) Via.refl e85 F_92 E_86 (Or.inl (hw _ (List.mem_of_getElem? (i := 80) rfl))) (hw _ (List.mem_of_getElem? (i := 33) rfl)) (ty := .int) (by decide) rfl rfl (g := (mkF m 19 #[.val (.ref a), .val (.ref el), .val (.ref b76), .val (.int (0 : Int32))] [(.int (1 : Int32)), (.ref a)])) rfl rfl (hb hby d10_19)
  have E_95 := E_86.wr W94
  have S_96 := S_87.wr W94
  have V_97 := V_88.other W94 (Ne.symm hde)
  have E_98 := E_89.wr W94
  have F_99 := F_90.other W94 (Or.inr (slot_ne (Or.inl (hw _ (List.mem_of_getElem? (i := 52) rfl))) (Or.inl (hw _ (List.mem_of_getElem? (i := 80) rfl))) (by decide) (t := .int) (t' := .int) (by decide) (by decide)))
  have F_100 := F_91.other W94 (Or.inr (slot_ne (Or.inl (hw _ (List.mem_of_getElem? (i := 55) rfl))) (Or.inl (hw _ (List.mem_of_getElem? (i := 80) rfl))) (by decide) (t := (.array (.object "java/lang/Object"))) (t' := .int) (by decide) (by decide)))
  have V_102 := V_b76_85.other W94 (Ne.symm ne_a_b76)
  have N94 := Fr.snoc X94 N85 g0
  have Z94 : n0 ≤ h94.size := Nat.le_trans Z85 (Nat.le_of_eq W94.size.symm)
  have K94 : Keep h0 h94 [a] := K85.wr W94 (Or.inl (List.mem_of_getElem? (i := 0) rfl))
  have F_103 := F_92.same W94
  refine Gl.st (g' := (mkF m 22 #[.val (.ref a), .val (.ref el), .val (.ref b76), .val (.int (0 : Int32))] [])) (fun τ κ => st94 _ κ) ?_
  exact Gl.ret (v := none) X94 Bd.notSynchronized (fun _ => rfl) e94 (fun fs hr => X94.returnOut hx Bd.returns (hb hby d10_22) hr) (by decide) (by decide) ⟨b76, kk76, [(.ref el), .null, .null, .null, .null, .null, .null, .null, .null, .null], rfl, N94, K94, sz_b76, E_95, F_99, F_100, F_103, V_102, O76⟩
theorem ef_rm_Bh1 (m : MethodId) (a : Addr) (el : Addr) (ar : Addr) : entryFrame m #[(.ref a), (.ref el), (.ref ar), (.int (1 : Int32))] 4 = mkF m 0 #[.val (.ref a), .val (.ref el), .val (.ref ar), .val (.int (1 : Int32))] [] := by first | (simp [entryFrame, mkF, argsToLocals, Value.category]; done) | rfl
def Q_rm_Bh1 (Z : State) (a : Addr) (el : Addr) (ar : Addr) (ka : ClassId) (mc : Int32) (vs : List Value) (h0 : Heap) (n0 : Nat) (v : Option Value) (h : Heap) (L : List Loc) : Prop := ∃ vs', v = none ∧ Fr n0 L ∧ Keep h0 h [a, ar] ∧ Exa Z h a "java/util/ArrayList" ∧ Fld Z h a "java/util/AbstractList" "modCount" "I" (.int mc) ∧ Fld Z h a "java/util/ArrayList" "elementData" "[Ljava/lang/Object;" (.ref ar) ∧ Fld Z h a "java/util/ArrayList" "size" "I" (.int (2 : Int32)) ∧ Arv Z h ar ka (.object "java/lang/Object") (10 : Int32) vs' .null
set_option maxRecDepth 65536 in
set_option maxHeartbeats 40000000 in
theorem rm_Bh1 (l : Launch) (Z : State) (a0 : Array Value) (hw : ∀ d ∈ tables_1, d.before a0 Z = true) (ws : List Jvm.Cond) (a : Addr) (el : Addr) (ar : Addr) (ka : ClassId) (mc : Int32) (vs : List Value) (h0 : Heap) (n0 : Nat) (Z0 : n0 ≤ h0.size) (E0 : Exa Z h0 a "java/util/ArrayList") (g0 : n0 ≤ a) (FM : Fld Z h0 a "java/util/AbstractList" "modCount" "I" (.int mc)) (FE : Fld Z h0 a "java/util/ArrayList" "elementData" "[Ljava/lang/Object;" (.ref ar)) (FS : Fld Z h0 a "java/util/ArrayList" "size" "I" (.int (1 : Int32))) (gar : n0 ≤ ar) (har : a ≠ ar) (V0 : Arv Z h0 ar ka (.object "java/lang/Object") (10 : Int32) vs .null) (OV : Ovr Z ka "java/lang/Object") (E1 : Exa Z h0 el "java/util/ArrayList") :
    MetFree l (⟨"java/util/ArrayList", "add", "(Ljava/lang/Object;[Ljava/lang/Object;I)V"⟩ : MethodName) (head1 (Jvm.Cond.code (⟨"java/util/ArrayList", "add", "(Ljava/lang/Object;[Ljava/lang/Object;I)V"⟩ : MethodName) jdk_38_method_24_code 4 none :: ws) ({ frames := 0, cells := 0, slots := 0, locals := 0 } : Room)) (fun aα Uα => aα = #[(.ref a), (.ref el), (.ref ar), (.int (1 : Int32))] ∧ Z.Warmed39 Uα.vm ∧ Uα.heap = h0) (fun _ _ _ _ _ => True) (fun _ Uα oα Uβ => ∃ vα Lα, oα = .returned vα ∧ Q_rm_Bh1 Z a el ar ka mc vs h0 n0 vα Uβ.heap Lα ∧ FrameEnd Uα oα Uβ Lα ({ frames := 0, cells := 0, slots := 0, locals := 0 } : Room).cells ({ frames := 0, cells := 0, slots := 0, locals := 0 } : Room).slots) := by
  refine MetFree.of_bodySF (plainFor_of_name pn_java_util_ArrayList) hisR ?_
  intro p e s m args below meth c s₁ Bd hml0 hP hKα
  obtain ⟨rfl, hZ, hh⟩ := hP
  have hx := Bd.exec
  have hby := Bd.bytes
  have hml : c.maxLocals = 4 := hml0
  have hown : s.vm.findClass "java/util/ArrayList" = some m.cls := findClass_of_methodNamed Bd.named
  have hnm := (name_of_methodNamed Bd.named Bd.method).1
  have X0 : Stand p l e ({ frames := 0, cells := 0, slots := 0, locals := 0 } : Room) s m #[(.ref a), (.ref el), (.ref ar), (.int (1 : Int32))] below meth c s₁ [] 0 0 := Stand.of_body Bd
  have e0 : s₁.heap = h0 := by rw [← hh, Bd.state]; rfl
  have N0 := Fr.nil n0
  suffices k0 : Gl p e below s (Q_rm_Bh1 Z a el ar ka mc vs h0 n0) ({ frames := 0, cells := 0, slots := 0, locals := 0 } : Room).cells ({ frames := 0, cells := 0, slots := 0, locals := 0 } : Room).slots s₁ (mkF m 0 #[.val (.ref a), .val (.ref el), .val (.ref ar), .val (.int (1 : Int32))] []) from Gl.st (fun τ κ => castTop (ef_rm_Bh1 m a el ar) κ) k0
  refine Gl.st (g' := (mkF m 1 #[.val (.ref a), .val (.ref el), .val (.ref ar), .val (.int (1 : Int32))] [(.int (1 : Int32))])) (fun τ κ => XS.iloadN X0.here hx rfl (hb hby d10_0) rfl κ) ?_
  refine Gl.st (g' := (mkF m 2 #[.val (.ref a), .val (.ref el), .val (.ref ar), .val (.int (1 : Int32))] [(.ref ar), (.int (1 : Int32))])) (fun τ κ => XS.aloadN X0.here hx rfl (hb hby d10_1) rfl rfl κ) ?_
  obtain ⟨cl_o104, Ar_o104, q_o104, S_o104, M_o104, H_o104, G_o104⟩ := id V0
  refine Gl.st (g' := (mkF m 3 #[.val (.ref a), .val (.ref el), .val (.ref ar), .val (.int (1 : Int32))] [(.int (10 : Int32)), (.int (1 : Int32))])) (fun τ κ => X0.arraylength hx (by rw [e0]; exact Ar_o104.1) (State.isArrayOf_alike hZ.alike Ar_o104.2.1) (g := (mkF m 2 #[.val (.ref a), .val (.ref el), .val (.ref ar), .val (.int (1 : Int32))] [(.ref ar), (.int (1 : Int32))])) rfl rfl (hb hby d10_2) _ (by rw [len_of S_o104 M_o104]; exact κ)) ?_
  have hc105 : ¬ ((1 : Int32) = (10 : Int32)) := by decide
  refine Gl.st (g' := (mkF m 11 #[.val (.ref a), .val (.ref el), .val (.ref ar), .val (.int (1 : Int32))] [])) (fun τ κ => XS.icmpYes X0.here hx rfl (pc0 := 3) (pc' := 11) rfl (hb hby d10_3) rfl (feq hc105).2 (by decide) (by decide) κ) ?_
  refine Gl.st (g' := (mkF m 12 #[.val (.ref a), .val (.ref el), .val (.ref ar), .val (.int (1 : Int32))] [(.ref ar)])) (fun τ κ => XS.aloadN X0.here hx rfl (hb hby d10_11) rfl rfl κ) ?_
  refine Gl.st (g' := (mkF m 13 #[.val (.ref a), .val (.ref el), .val (.ref ar), .val (.int (1 : Int32))] [(.int (1 : Int32)), (.ref ar)])) (fun τ κ => XS.iloadN X0.here hx rfl (hb hby d10_12) rfl κ) ?_
  refine Gl.st (g' := (mkF m 14 #[.val (.ref a), .val (.ref el), .val (.ref ar), .val (.int (1 : Int32))] [(.ref el), (.int (1 : Int32)), (.ref ar)])) (fun τ κ => XS.aloadN X0.here hx rfl (hb hby d10_13) rfl rfl κ) ?_
  obtain ⟨cl_o106, Ar_o106, q_o106, S_o106, M_o106, H_o106, G_o106⟩ := id V0
  have hin_o106 : ¬ ((1 : Int32) < 0 ∨ cl_o106.slots.size ≤ ((1 : Int32)).toNatClampNeg) := inb_of S_o106 ⟨by decide, by decide⟩
  obtain ⟨T107, h107, X107, e107, W107, st107⟩ := stR X0 hx hZ e0 Ar_o106 (j := (1 : Int32)) hin_o106 rfl (Sto.ofV Ar_o106 q_o106 OV (Ins.of_exa E1 (hw _ (List.mem_of_getElem? (i := 102) rfl)))) (g := (mkF m 14 #[.val (.ref a), .val (.ref el), .val (.ref ar), .val (.int (1 : Int32))] [(.ref el), (.int (1 : Int32)), (.ref ar)])) rfl rfl (hb hby d10_14)
  obtain ⟨vs107, hvs107⟩ := own_upd vs ((1 : Int32)).toNatClampNeg (.ref el) .null
  have E_108 := E0.wr W107
  have E_109 := E1.wr W107
  have F_111 := FM.other W107 (Or.inl har)
  have F_112 := FE.other W107 (Or.inl har)
  have F_113 := FS.other W107 (Or.inl har)
  have N107 := Fr.snoc X107 N0 gar
  have Z107 : n0 ≤ h107.size := Nat.le_trans Z0 (Nat.le_of_eq W107.size.symm)
  have K107 : Keep h0 h107 [a, ar] := (Keep.refl h0 [a, ar]).wr W107 (Or.inl (List.mem_of_getElem? (i := 1) rfl))
  have V_ar_107 : Arv Z h107 ar ka (.object "java/lang/Object") (10 : Int32) vs107 .null := own_set Ar_o106 q_o106 S_o106 M_o106 H_o106 G_o106 rfl W107 hvs107
  refine Gl.st (g' := (mkF m 15 #[.val (.ref a), .val (.ref el), .val (.ref ar), .val (.int (1 : Int32))] [])) (fun τ κ => st107 _ κ) ?_
  refine Gl.st (g' := (mkF m 16 #[.val (.ref a), .val (.ref el), .val (.ref ar), .val (.int (1 : Int32))] [(.ref a)])) (fun τ κ => XS.aloadN X107.here hx rfl (hb hby d10_15) rfl rfl κ) ?_
  refine Gl.st (g' := (mkF m 17 #[.val (.ref a), .val (.ref el), .val (.ref ar), .val (.int (1 : Int32))] [(.int (1 : Int32)), (.ref a)])) (fun τ κ => XS.iloadN X107.here hx rfl (hb hby d10_16) rfl κ) ?_
  refine Gl.st (g' := (mkF m 18 #[.val (.ref a), .val (.ref el), .val (.ref ar), .val (.int (1 : Int32))] [(.int (1 : Int32)), (.int (1 : Int32)), (.ref a)])) (fun τ κ => XS.iconst X107.here hx rfl (hb hby d10_17) κ) ?_
  refine Gl.st (g' := (mkF m 19 #[.val (.ref a), .val (.ref el), .val (.ref ar), .val (.int (1 : Int32))] [(.int (2 : Int32)), (.ref a)])) (fun τ κ => XS.iadd X107.here hx rfl (hb hby d10_18) rfl κ) ?_
  obtain ⟨T114, h114, X114, e114, W114, st114⟩ := putF X107 hx hZ hown (host := "") (Or.inl (hw _ (List.mem_of_getElem? (i := 79) rfl))) Via.refl e107 F_113 E_108 (Or.inl (hw _ (List.mem_of_getElem? (i := 80) rfl))) (hw _ (List.mem_of_getElem? (i := 33) rfl)) (ty := .int) (by decide) rfl rfl (g := (mkF m 19 #[.val (.ref a), .val (.ref el), .val (.ref ar), .val (.int (1 : Int32))] [(.int (2 : Int32)), (.ref a)])) rfl rfl (hb hby d10_19)
  have E_115 := E_108.wr W114
  have E_116 := E_109.wr W114
  have V_117 := V_ar_107.other W114 (Ne.symm har)
  have F_118 := F_111.other W114 (Or.inr (slot_ne (Or.inl (hw _ (List.mem_of_getElem? (i := 52) rfl))) (Or.inl (hw _ (List.mem_of_getElem? (i := 80) rfl))) (by decide) (t := .int) (t' := .int) (by decide) (by decide)))
  have F_119 := F_112.other W114 (Or.inr (slot_ne (Or.inl (hw _ (List.mem_of_getElem? (i := 55) rfl))) (Or.inl (hw _ (List.mem_of_getElem? (i := 80) rfl))) (by decide) (t := (.array (.object "java/lang/Object"))) (t' := .int) (by decide) (by decide)))
  have N114 := Fr.snoc X114 N107 g0
  have Z114 : n0 ≤ h114.size := Nat.le_trans Z107 (Nat.le_of_eq W114.size.symm)
  have K114 : Keep h0 h114 [a, ar] := K107.wr W114 (Or.inl (List.mem_of_getElem? (i := 0) rfl))
  have F_121 := F_113.same W114
  refine Gl.st (g' := (mkF m 22 #[.val (.ref a), .val (.ref el), .val (.ref ar), .val (.int (1 : Int32))] [])) (fun τ κ => st114 _ κ) ?_
  exact Gl.ret (v := none) X114 Bd.notSynchronized (fun _ => rfl) e114 (fun fs hr => X114.returnOut hx Bd.returns (hb hby d10_22) hr) (by decide) (by decide) ⟨vs107, rfl, N114, K114, E_115, F_118, F_119, F_121, V_117⟩
theorem ef_rm_Bh2 (m : MethodId) (a : Addr) (el : Addr) (ar : Addr) : entryFrame m #[(.ref a), (.ref el), (.ref ar), (.int (2 : Int32))] 4 = mkF m 0 #[.val (.ref a), .val (.ref el), .val (.ref ar), .val (.int (2 : Int32))] [] := by first | (simp [entryFrame, mkF, argsToLocals, Value.category]; done) | rfl
def Q_rm_Bh2 (Z : State) (a : Addr) (el : Addr) (ar : Addr) (ka : ClassId) (mc : Int32) (vs : List Value) (h0 : Heap) (n0 : Nat) (v : Option Value) (h : Heap) (L : List Loc) : Prop := ∃ vs', v = none ∧ Fr n0 L ∧ Keep h0 h [a, ar] ∧ Exa Z h a "java/util/ArrayList" ∧ Fld Z h a "java/util/AbstractList" "modCount" "I" (.int mc) ∧ Fld Z h a "java/util/ArrayList" "elementData" "[Ljava/lang/Object;" (.ref ar) ∧ Fld Z h a "java/util/ArrayList" "size" "I" (.int (3 : Int32)) ∧ Arv Z h ar ka (.object "java/lang/Object") (10 : Int32) vs' .null
set_option maxRecDepth 65536 in
set_option maxHeartbeats 40000000 in
theorem rm_Bh2 (l : Launch) (Z : State) (a0 : Array Value) (hw : ∀ d ∈ tables_1, d.before a0 Z = true) (ws : List Jvm.Cond) (a : Addr) (el : Addr) (ar : Addr) (ka : ClassId) (mc : Int32) (vs : List Value) (h0 : Heap) (n0 : Nat) (Z0 : n0 ≤ h0.size) (E0 : Exa Z h0 a "java/util/ArrayList") (g0 : n0 ≤ a) (FM : Fld Z h0 a "java/util/AbstractList" "modCount" "I" (.int mc)) (FE : Fld Z h0 a "java/util/ArrayList" "elementData" "[Ljava/lang/Object;" (.ref ar)) (FS : Fld Z h0 a "java/util/ArrayList" "size" "I" (.int (2 : Int32))) (gar : n0 ≤ ar) (har : a ≠ ar) (V0 : Arv Z h0 ar ka (.object "java/lang/Object") (10 : Int32) vs .null) (OV : Ovr Z ka "java/lang/Object") (E1 : Exa Z h0 el "java/util/ArrayList") :
    MetFree l (⟨"java/util/ArrayList", "add", "(Ljava/lang/Object;[Ljava/lang/Object;I)V"⟩ : MethodName) (head1 (Jvm.Cond.code (⟨"java/util/ArrayList", "add", "(Ljava/lang/Object;[Ljava/lang/Object;I)V"⟩ : MethodName) jdk_38_method_24_code 4 none :: ws) ({ frames := 0, cells := 0, slots := 0, locals := 0 } : Room)) (fun aα Uα => aα = #[(.ref a), (.ref el), (.ref ar), (.int (2 : Int32))] ∧ Z.Warmed39 Uα.vm ∧ Uα.heap = h0) (fun _ _ _ _ _ => True) (fun _ Uα oα Uβ => ∃ vα Lα, oα = .returned vα ∧ Q_rm_Bh2 Z a el ar ka mc vs h0 n0 vα Uβ.heap Lα ∧ FrameEnd Uα oα Uβ Lα ({ frames := 0, cells := 0, slots := 0, locals := 0 } : Room).cells ({ frames := 0, cells := 0, slots := 0, locals := 0 } : Room).slots) := by
  refine MetFree.of_bodySF (plainFor_of_name pn_java_util_ArrayList) hisR ?_
  intro p e s m args below meth c s₁ Bd hml0 hP hKα
  obtain ⟨rfl, hZ, hh⟩ := hP
  have hx := Bd.exec
  have hby := Bd.bytes
  have hml : c.maxLocals = 4 := hml0
  have hown : s.vm.findClass "java/util/ArrayList" = some m.cls := findClass_of_methodNamed Bd.named
  have hnm := (name_of_methodNamed Bd.named Bd.method).1
  have X0 : Stand p l e ({ frames := 0, cells := 0, slots := 0, locals := 0 } : Room) s m #[(.ref a), (.ref el), (.ref ar), (.int (2 : Int32))] below meth c s₁ [] 0 0 := Stand.of_body Bd
  have e0 : s₁.heap = h0 := by rw [← hh, Bd.state]; rfl
  have N0 := Fr.nil n0
  suffices k0 : Gl p e below s (Q_rm_Bh2 Z a el ar ka mc vs h0 n0) ({ frames := 0, cells := 0, slots := 0, locals := 0 } : Room).cells ({ frames := 0, cells := 0, slots := 0, locals := 0 } : Room).slots s₁ (mkF m 0 #[.val (.ref a), .val (.ref el), .val (.ref ar), .val (.int (2 : Int32))] []) from Gl.st (fun τ κ => castTop (ef_rm_Bh2 m a el ar) κ) k0
  refine Gl.st (g' := (mkF m 1 #[.val (.ref a), .val (.ref el), .val (.ref ar), .val (.int (2 : Int32))] [(.int (2 : Int32))])) (fun τ κ => XS.iloadN X0.here hx rfl (hb hby d10_0) rfl κ) ?_
  refine Gl.st (g' := (mkF m 2 #[.val (.ref a), .val (.ref el), .val (.ref ar), .val (.int (2 : Int32))] [(.ref ar), (.int (2 : Int32))])) (fun τ κ => XS.aloadN X0.here hx rfl (hb hby d10_1) rfl rfl κ) ?_
  obtain ⟨cl_o122, Ar_o122, q_o122, S_o122, M_o122, H_o122, G_o122⟩ := id V0
  refine Gl.st (g' := (mkF m 3 #[.val (.ref a), .val (.ref el), .val (.ref ar), .val (.int (2 : Int32))] [(.int (10 : Int32)), (.int (2 : Int32))])) (fun τ κ => X0.arraylength hx (by rw [e0]; exact Ar_o122.1) (State.isArrayOf_alike hZ.alike Ar_o122.2.1) (g := (mkF m 2 #[.val (.ref a), .val (.ref el), .val (.ref ar), .val (.int (2 : Int32))] [(.ref ar), (.int (2 : Int32))])) rfl rfl (hb hby d10_2) _ (by rw [len_of S_o122 M_o122]; exact κ)) ?_
  have hc123 : ¬ ((2 : Int32) = (10 : Int32)) := by decide
  refine Gl.st (g' := (mkF m 11 #[.val (.ref a), .val (.ref el), .val (.ref ar), .val (.int (2 : Int32))] [])) (fun τ κ => XS.icmpYes X0.here hx rfl (pc0 := 3) (pc' := 11) rfl (hb hby d10_3) rfl (feq hc123).2 (by decide) (by decide) κ) ?_
  refine Gl.st (g' := (mkF m 12 #[.val (.ref a), .val (.ref el), .val (.ref ar), .val (.int (2 : Int32))] [(.ref ar)])) (fun τ κ => XS.aloadN X0.here hx rfl (hb hby d10_11) rfl rfl κ) ?_
  refine Gl.st (g' := (mkF m 13 #[.val (.ref a), .val (.ref el), .val (.ref ar), .val (.int (2 : Int32))] [(.int (2 : Int32)), (.ref ar)])) (fun τ κ => XS.iloadN X0.here hx rfl (hb hby d10_12) rfl κ) ?_
  refine Gl.st (g' := (mkF m 14 #[.val (.ref a), .val (.ref el), .val (.ref ar), .val (.int (2 : Int32))] [(.ref el), (.int (2 : Int32)), (.ref ar)])) (fun τ κ => XS.aloadN X0.here hx rfl (hb hby d10_13) rfl rfl κ) ?_
  obtain ⟨cl_o124, Ar_o124, q_o124, S_o124, M_o124, H_o124, G_o124⟩ := id V0
  have hin_o124 : ¬ ((2 : Int32) < 0 ∨ cl_o124.slots.size ≤ ((2 : Int32)).toNatClampNeg) := inb_of S_o124 ⟨by decide, by decide⟩
  obtain ⟨T125, h125, X125, e125, W125, st125⟩ := stR X0 hx hZ e0 Ar_o124 (j := (2 : Int32)) hin_o124 rfl (Sto.ofV Ar_o124 q_o124 OV (Ins.of_exa E1 (hw _ (List.mem_of_getElem? (i := 102) rfl)))) (g := (mkF m 14 #[.val (.ref a), .val (.ref el), .val (.ref ar), .val (.int (2 : Int32))] [(.ref el), (.int (2 : Int32)), (.ref ar)])) rfl rfl (hb hby d10_14)
  obtain ⟨vs125, hvs125⟩ := own_upd vs ((2 : Int32)).toNatClampNeg (.ref el) .null
  have E_126 := E0.wr W125
  have E_127 := E1.wr W125
  have F_129 := FM.other W125 (Or.inl har)
  have F_130 := FE.other W125 (Or.inl har)
  have F_131 := FS.other W125 (Or.inl har)
  have N125 := Fr.snoc X125 N0 gar
  have Z125 : n0 ≤ h125.size := Nat.le_trans Z0 (Nat.le_of_eq W125.size.symm)
  have K125 : Keep h0 h125 [a, ar] := (Keep.refl h0 [a, ar]).wr W125 (Or.inl (List.mem_of_getElem? (i := 1) rfl))
  have V_ar_125 : Arv Z h125 ar ka (.object "java/lang/Object") (10 : Int32) vs125 .null := own_set Ar_o124 q_o124 S_o124 M_o124 H_o124 G_o124 rfl W125 hvs125
  refine Gl.st (g' := (mkF m 15 #[.val (.ref a), .val (.ref el), .val (.ref ar), .val (.int (2 : Int32))] [])) (fun τ κ => st125 _ κ) ?_
  refine Gl.st (g' := (mkF m 16 #[.val (.ref a), .val (.ref el), .val (.ref ar), .val (.int (2 : Int32))] [(.ref a)])) (fun τ κ => XS.aloadN X125.here hx rfl (hb hby d10_15) rfl rfl κ) ?_
  refine Gl.st (g' := (mkF m 17 #[.val (.ref a), .val (.ref el), .val (.ref ar), .val (.int (2 : Int32))] [(.int (2 : Int32)), (.ref a)])) (fun τ κ => XS.iloadN X125.here hx rfl (hb hby d10_16) rfl κ) ?_
  refine Gl.st (g' := (mkF m 18 #[.val (.ref a), .val (.ref el), .val (.ref ar), .val (.int (2 : Int32))] [(.int (1 : Int32)), (.int (2 : Int32)), (.ref a)])) (fun τ κ => XS.iconst X125.here hx rfl (hb hby d10_17) κ) ?_
  refine Gl.st (g' := (mkF m 19 #[.val (.ref a), .val (.ref el), .val (.ref ar), .val (.int (2 : Int32))] [(.int (3 : Int32)), (.ref a)])) (fun τ κ => XS.iadd X125.here hx rfl (hb hby d10_18) rfl κ) ?_
  obtain ⟨T132, h132, X132, e132, W132, st132⟩ := putF X125 hx hZ hown (host := "") (Or.inl (hw _ (List.mem_of_getElem? (i := 79) rfl))) Via.refl e125 F_131 E_126 (Or.inl (hw _ (List.mem_of_getElem? (i := 80) rfl))) (hw _ (List.mem_of_getElem? (i := 33) rfl)) (ty := .int) (by decide) rfl rfl (g := (mkF m 19 #[.val (.ref a), .val (.ref el), .val (.ref ar), .val (.int (2 : Int32))] [(.int (3 : Int32)), (.ref a)])) rfl rfl (hb hby d10_19)
  have E_133 := E_126.wr W132
  have E_134 := E_127.wr W132
  have V_135 := V_ar_125.other W132 (Ne.symm har)
  have F_136 := F_129.other W132 (Or.inr (slot_ne (Or.inl (hw _ (List.mem_of_getElem? (i := 52) rfl))) (Or.inl (hw _ (List.mem_of_getElem? (i := 80) rfl))) (by decide) (t := .int) (t' := .int) (by decide) (by decide)))
  have F_137 := F_130.other W132 (Or.inr (slot_ne (Or.inl (hw _ (List.mem_of_getElem? (i := 55) rfl))) (Or.inl (hw _ (List.mem_of_getElem? (i := 80) rfl))) (by decide) (t := (.array (.object "java/lang/Object"))) (t' := .int) (by decide) (by decide)))
  have N132 := Fr.snoc X132 N125 g0
  have Z132 : n0 ≤ h132.size := Nat.le_trans Z125 (Nat.le_of_eq W132.size.symm)
  have K132 : Keep h0 h132 [a, ar] := K125.wr W132 (Or.inl (List.mem_of_getElem? (i := 0) rfl))
  have F_139 := F_131.same W132
  refine Gl.st (g' := (mkF m 22 #[.val (.ref a), .val (.ref el), .val (.ref ar), .val (.int (2 : Int32))] [])) (fun τ κ => st132 _ κ) ?_
  exact Gl.ret (v := none) X132 Bd.notSynchronized (fun _ => rfl) e132 (fun fs hr => X132.returnOut hx Bd.returns (hb hby d10_22) hr) (by decide) (by decide) ⟨vs125, rfl, N132, K132, E_133, F_136, F_137, F_139, V_135⟩
theorem ef_rm_Bh3 (m : MethodId) (a : Addr) (el : Addr) (ar : Addr) : entryFrame m #[(.ref a), (.ref el), (.ref ar), (.int (3 : Int32))] 4 = mkF m 0 #[.val (.ref a), .val (.ref el), .val (.ref ar), .val (.int (3 : Int32))] [] := by first | (simp [entryFrame, mkF, argsToLocals, Value.category]; done) | rfl
def Q_rm_Bh3 (Z : State) (a : Addr) (el : Addr) (ar : Addr) (ka : ClassId) (mc : Int32) (vs : List Value) (h0 : Heap) (n0 : Nat) (v : Option Value) (h : Heap) (L : List Loc) : Prop := ∃ vs', v = none ∧ Fr n0 L ∧ Keep h0 h [a, ar] ∧ Exa Z h a "java/util/ArrayList" ∧ Fld Z h a "java/util/AbstractList" "modCount" "I" (.int mc) ∧ Fld Z h a "java/util/ArrayList" "elementData" "[Ljava/lang/Object;" (.ref ar) ∧ Fld Z h a "java/util/ArrayList" "size" "I" (.int (4 : Int32)) ∧ Arv Z h ar ka (.object "java/lang/Object") (10 : Int32) vs' .null
set_option maxRecDepth 65536 in
set_option maxHeartbeats 40000000 in
theorem rm_Bh3 (l : Launch) (Z : State) (a0 : Array Value) (hw : ∀ d ∈ tables_1, d.before a0 Z = true) (ws : List Jvm.Cond) (a : Addr) (el : Addr) (ar : Addr) (ka : ClassId) (mc : Int32) (vs : List Value) (h0 : Heap) (n0 : Nat) (Z0 : n0 ≤ h0.size) (E0 : Exa Z h0 a "java/util/ArrayList") (g0 : n0 ≤ a) (FM : Fld Z h0 a "java/util/AbstractList" "modCount" "I" (.int mc)) (FE : Fld Z h0 a "java/util/ArrayList" "elementData" "[Ljava/lang/Object;" (.ref ar)) (FS : Fld Z h0 a "java/util/ArrayList" "size" "I" (.int (3 : Int32))) (gar : n0 ≤ ar) (har : a ≠ ar) (V0 : Arv Z h0 ar ka (.object "java/lang/Object") (10 : Int32) vs .null) (OV : Ovr Z ka "java/lang/Object") (E1 : Exa Z h0 el "java/util/ArrayList") :
    MetFree l (⟨"java/util/ArrayList", "add", "(Ljava/lang/Object;[Ljava/lang/Object;I)V"⟩ : MethodName) (head1 (Jvm.Cond.code (⟨"java/util/ArrayList", "add", "(Ljava/lang/Object;[Ljava/lang/Object;I)V"⟩ : MethodName) jdk_38_method_24_code 4 none :: ws) ({ frames := 0, cells := 0, slots := 0, locals := 0 } : Room)) (fun aα Uα => aα = #[(.ref a), (.ref el), (.ref ar), (.int (3 : Int32))] ∧ Z.Warmed39 Uα.vm ∧ Uα.heap = h0) (fun _ _ _ _ _ => True) (fun _ Uα oα Uβ => ∃ vα Lα, oα = .returned vα ∧ Q_rm_Bh3 Z a el ar ka mc vs h0 n0 vα Uβ.heap Lα ∧ FrameEnd Uα oα Uβ Lα ({ frames := 0, cells := 0, slots := 0, locals := 0 } : Room).cells ({ frames := 0, cells := 0, slots := 0, locals := 0 } : Room).slots) := by
  refine MetFree.of_bodySF (plainFor_of_name pn_java_util_ArrayList) hisR ?_
  intro p e s m args below meth c s₁ Bd hml0 hP hKα
  obtain ⟨rfl, hZ, hh⟩ := hP
  have hx := Bd.exec
  have hby := Bd.bytes
  have hml : c.maxLocals = 4 := hml0
  have hown : s.vm.findClass "java/util/ArrayList" = some m.cls := findClass_of_methodNamed Bd.named
  have hnm := (name_of_methodNamed Bd.named Bd.method).1
  have X0 : Stand p l e ({ frames := 0, cells := 0, slots := 0, locals := 0 } : Room) s m #[(.ref a), (.ref el), (.ref ar), (.int (3 : Int32))] below meth c s₁ [] 0 0 := Stand.of_body Bd
  have e0 : s₁.heap = h0 := by rw [← hh, Bd.state]; rfl
  have N0 := Fr.nil n0
  suffices k0 : Gl p e below s (Q_rm_Bh3 Z a el ar ka mc vs h0 n0) ({ frames := 0, cells := 0, slots := 0, locals := 0 } : Room).cells ({ frames := 0, cells := 0, slots := 0, locals := 0 } : Room).slots s₁ (mkF m 0 #[.val (.ref a), .val (.ref el), .val (.ref ar), .val (.int (3 : Int32))] []) from Gl.st (fun τ κ => castTop (ef_rm_Bh3 m a el ar) κ) k0
  refine Gl.st (g' := (mkF m 1 #[.val (.ref a), .val (.ref el), .val (.ref ar), .val (.int (3 : Int32))] [(.int (3 : Int32))])) (fun τ κ => XS.iloadN X0.here hx rfl (hb hby d10_0) rfl κ) ?_
  refine Gl.st (g' := (mkF m 2 #[.val (.ref a), .val (.ref el), .val (.ref ar), .val (.int (3 : Int32))] [(.ref ar), (.int (3 : Int32))])) (fun τ κ => XS.aloadN X0.here hx rfl (hb hby d10_1) rfl rfl κ) ?_
  obtain ⟨cl_o140, Ar_o140, q_o140, S_o140, M_o140, H_o140, G_o140⟩ := id V0
  refine Gl.st (g' := (mkF m 3 #[.val (.ref a), .val (.ref el), .val (.ref ar), .val (.int (3 : Int32))] [(.int (10 : Int32)), (.int (3 : Int32))])) (fun τ κ => X0.arraylength hx (by rw [e0]; exact Ar_o140.1) (State.isArrayOf_alike hZ.alike Ar_o140.2.1) (g := (mkF m 2 #[.val (.ref a), .val (.ref el), .val (.ref ar), .val (.int (3 : Int32))] [(.ref ar), (.int (3 : Int32))])) rfl rfl (hb hby d10_2) _ (by rw [len_of S_o140 M_o140]; exact κ)) ?_
  have hc141 : ¬ ((3 : Int32) = (10 : Int32)) := by decide
  refine Gl.st (g' := (mkF m 11 #[.val (.ref a), .val (.ref el), .val (.ref ar), .val (.int (3 : Int32))] [])) (fun τ κ => XS.icmpYes X0.here hx rfl (pc0 := 3) (pc' := 11) rfl (hb hby d10_3) rfl (feq hc141).2 (by decide) (by decide) κ) ?_
  refine Gl.st (g' := (mkF m 12 #[.val (.ref a), .val (.ref el), .val (.ref ar), .val (.int (3 : Int32))] [(.ref ar)])) (fun τ κ => XS.aloadN X0.here hx rfl (hb hby d10_11) rfl rfl κ) ?_
  refine Gl.st (g' := (mkF m 13 #[.val (.ref a), .val (.ref el), .val (.ref ar), .val (.int (3 : Int32))] [(.int (3 : Int32)), (.ref ar)])) (fun τ κ => XS.iloadN X0.here hx rfl (hb hby d10_12) rfl κ) ?_
  refine Gl.st (g' := (mkF m 14 #[.val (.ref a), .val (.ref el), .val (.ref ar), .val (.int (3 : Int32))] [(.ref el), (.int (3 : Int32)), (.ref ar)])) (fun τ κ => XS.aloadN X0.here hx rfl (hb hby d10_13) rfl rfl κ) ?_
  obtain ⟨cl_o142, Ar_o142, q_o142, S_o142, M_o142, H_o142, G_o142⟩ := id V0
  have hin_o142 : ¬ ((3 : Int32) < 0 ∨ cl_o142.slots.size ≤ ((3 : Int32)).toNatClampNeg) := inb_of S_o142 ⟨by decide, by decide⟩
  obtain ⟨T143, h143, X143, e143, W143, st143⟩ := stR X0 hx hZ e0 Ar_o142 (j := (3 : Int32)) hin_o142 rfl (Sto.ofV Ar_o142 q_o142 OV (Ins.of_exa E1 (hw _ (List.mem_of_getElem? (i := 102) rfl)))) (g := (mkF m 14 #[.val (.ref a), .val (.ref el), .val (.ref ar), .val (.int (3 : Int32))] [(.ref el), (.int (3 : Int32)), (.ref ar)])) rfl rfl (hb hby d10_14)
  obtain ⟨vs143, hvs143⟩ := own_upd vs ((3 : Int32)).toNatClampNeg (.ref el) .null
  have E_144 := E0.wr W143
  have E_145 := E1.wr W143
  have F_147 := FM.other W143 (Or.inl har)
  have F_148 := FE.other W143 (Or.inl har)
  have F_149 := FS.other W143 (Or.inl har)
  have N143 := Fr.snoc X143 N0 gar
  have Z143 : n0 ≤ h143.size := Nat.le_trans Z0 (Nat.le_of_eq W143.size.symm)
  have K143 : Keep h0 h143 [a, ar] := (Keep.refl h0 [a, ar]).wr W143 (Or.inl (List.mem_of_getElem? (i := 1) rfl))
  have V_ar_143 : Arv Z h143 ar ka (.object "java/lang/Object") (10 : Int32) vs143 .null := own_set Ar_o142 q_o142 S_o142 M_o142 H_o142 G_o142 rfl W143 hvs143
  refine Gl.st (g' := (mkF m 15 #[.val (.ref a), .val (.ref el), .val (.ref ar), .val (.int (3 : Int32))] [])) (fun τ κ => st143 _ κ) ?_
  refine Gl.st (g' := (mkF m 16 #[.val (.ref a), .val (.ref el), .val (.ref ar), .val (.int (3 : Int32))] [(.ref a)])) (fun τ κ => XS.aloadN X143.here hx rfl (hb hby d10_15) rfl rfl κ) ?_
  refine Gl.st (g' := (mkF m 17 #[.val (.ref a), .val (.ref el), .val (.ref ar), .val (.int (3 : Int32))] [(.int (3 : Int32)), (.ref a)])) (fun τ κ => XS.iloadN X143.here hx rfl (hb hby d10_16) rfl κ) ?_
  refine Gl.st (g' := (mkF m 18 #[.val (.ref a), .val (.ref el), .val (.ref ar), .val (.int (3 : Int32))] [(.int (1 : Int32)), (.int (3 : Int32)), (.ref a)])) (fun τ κ => XS.iconst X143.here hx rfl (hb hby d10_17) κ) ?_
  refine Gl.st (g' := (mkF m 19 #[.val (.ref a), .val (.ref el), .val (.ref ar), .val (.int (3 : Int32))] [(.int (4 : Int32)), (.ref a)])) (fun τ κ => XS.iadd X143.here hx rfl (hb hby d10_18) rfl κ) ?_
  obtain ⟨T150, h150, X150, e150, W150, st150⟩ := putF X143 hx hZ hown (host := "") (Or.inl (hw _ (List.mem_of_getElem? (i := 79) rfl))) Via.refl e143 F_149 E_144 (Or.inl (hw _ (List.mem_of_getElem? (i := 80) rfl))) (hw _ (List.mem_of_getElem? (i := 33) rfl)) (ty := .int) (by decide) rfl rfl (g := (mkF m 19 #[.val (.ref a), .val (.ref el), .val (.ref ar), .val (.int (3 : Int32))] [(.int (4 : Int32)), (.ref a)])) rfl rfl (hb hby d10_19)
  have E_151 := E_144.wr W150
  have E_152 := E_145.wr W150
  have V_153 := V_ar_143.other W150 (Ne.symm har)
  have F_154 := F_147.other W150 (Or.inr (slot_ne (Or.inl (hw _ (List.mem_of_getElem? (i := 52) rfl))) (Or.inl (hw _ (List.mem_of_getElem? (i := 80) rfl))) (by decide) (t := .int) (t' := .int) (by decide) (by decide)))
  have F_155 := F_148.other W150 (Or.inr (slot_ne (Or.inl (hw _ (List.mem_of_getElem? (i := 55) rfl))) (Or.inl (hw _ (List.mem_of_getElem? (i := 80) rfl))) (by decide) (t := (.array (.object "java/lang/Object"))) (t' := .int) (by decide) (by decide)))
  have N150 := Fr.snoc X150 N143 g0
  have Z150 : n0 ≤ h150.size := Nat.le_trans Z143 (Nat.le_of_eq W150.size.symm)
  have K150 : Keep h0 h150 [a, ar] := K143.wr W150 (Or.inl (List.mem_of_getElem? (i := 0) rfl))
  have F_157 := F_149.same W150
  refine Gl.st (g' := (mkF m 22 #[.val (.ref a), .val (.ref el), .val (.ref ar), .val (.int (3 : Int32))] [])) (fun τ κ => st150 _ κ) ?_
  exact Gl.ret (v := none) X150 Bd.notSynchronized (fun _ => rfl) e150 (fun fs hr => X150.returnOut hx Bd.returns (hb hby d10_22) hr) (by decide) (by decide) ⟨vs143, rfl, N150, K150, E_151, F_154, F_155, F_157, V_153⟩
theorem d9_0 : decode jdk_38_method_25_code 0 = .ok (.aload_n 0, 1) := by decide +kernel
theorem d9_1 : decode jdk_38_method_25_code 1 = .ok (.dup, 1) := by decide +kernel
theorem d9_2 : decode jdk_38_method_25_code 2 = .ok (.getfield 63, 3) := by decide +kernel
theorem d9_5 : decode jdk_38_method_25_code 5 = .ok (.iconst 1, 1) := by decide +kernel
theorem d9_6 : decode jdk_38_method_25_code 6 = .ok (.iadd, 1) := by decide +kernel
theorem d9_7 : decode jdk_38_method_25_code 7 = .ok (.putfield 63, 3) := by decide +kernel
theorem d9_10 : decode jdk_38_method_25_code 10 = .ok (.aload_n 0, 1) := by decide +kernel
theorem d9_11 : decode jdk_38_method_25_code 11 = .ok (.aload_n 1, 1) := by decide +kernel
theorem d9_12 : decode jdk_38_method_25_code 12 = .ok (.aload_n 0, 1) := by decide +kernel
theorem d9_13 : decode jdk_38_method_25_code 13 = .ok (.getfield 9, 3) := by decide +kernel
theorem d9_16 : decode jdk_38_method_25_code 16 = .ok (.aload_n 0, 1) := by decide +kernel
theorem d9_17 : decode jdk_38_method_25_code 17 = .ok (.getfield 48, 3) := by decide +kernel
theorem d9_20 : decode jdk_38_method_25_code 20 = .ok (.invokevirtual 131, 3) := by decide +kernel
theorem pd_4 : parseMethodDescriptor "(Ljava/lang/Object;[Ljava/lang/Object;I)V" = some ⟨[(.object "java/lang/Object"), (.array (.object "java/lang/Object")), .int], none⟩ := by decide +kernel
theorem d9_23 : decode jdk_38_method_25_code 23 = .ok (.iconst 1, 1) := by decide +kernel
theorem d9_24 : decode jdk_38_method_25_code 24 = .ok (.ireturn, 1) := by decide +kernel
theorem ef_rm_Ae (m : MethodId) (a : Addr) (el : Addr) : entryFrame m #[(.ref a), (.ref el)] 2 = mkF m 0 #[.val (.ref a), .val (.ref el)] [] := by first | (simp [entryFrame, mkF, argsToLocals, Value.category]; done) | rfl
def Q_rm_Ae (Z : State) (a : Addr) (el : Addr) (de : Addr) (kd : ClassId) (mc : Int32) (h0 : Heap) (n0 : Nat) (v : Option Value) (h : Heap) (L : List Loc) : Prop := ∃ b k vs, v = some (.int (1 : Int32)) ∧ Fr n0 L ∧ Keep h0 h [a] ∧ h0.size ≤ b ∧ Exa Z h a "java/util/ArrayList" ∧ Fld Z h a "java/util/AbstractList" "modCount" "I" (.int (mc + (1 : Int32))) ∧ Fld Z h a "java/util/ArrayList" "elementData" "[Ljava/lang/Object;" (.ref b) ∧ Fld Z h a "java/util/ArrayList" "size" "I" (.int (1 : Int32)) ∧ Arv Z h b k (.object "java/lang/Object") (10 : Int32) vs .null ∧ Ovr Z k "java/lang/Object"
set_option maxRecDepth 65536 in
set_option maxHeartbeats 40000000 in
theorem rm_Ae (l : Launch) (Z : State) (a0 : Array Value) (hw : ∀ d ∈ tables_1, d.before a0 Z = true) (ws : List Jvm.Cond) (a : Addr) (el : Addr) (de : Addr) (kd : ClassId) (mc : Int32) (h0 : Heap) (n0 : Nat) (Z0 : n0 ≤ h0.size) (E0 : Exa Z h0 a "java/util/ArrayList") (g0 : n0 ≤ a) (FM : Fld Z h0 a "java/util/AbstractList" "modCount" "I" (.int mc)) (FE : Fld Z h0 a "java/util/ArrayList" "elementData" "[Ljava/lang/Object;" (.ref de)) (FS : Fld Z h0 a "java/util/ArrayList" "size" "I" (.int (0 : Int32))) (S0 : Sta Z h0 "java/util/ArrayList" "DEFAULTCAPACITY_EMPTY_ELEMENTDATA" "[Ljava/lang/Object;" (.ref de)) (V0 : Arv Z h0 de kd (.object "java/lang/Object") (0 : Int32) [] .null) (hde : a ≠ de) (E1 : Exa Z h0 el "java/util/ArrayList") :
    MetFree l (⟨"java/util/ArrayList", "add", "(Ljava/lang/Object;)Z"⟩ : MethodName) (head1 (Jvm.Cond.code (⟨"java/util/ArrayList", "add", "(Ljava/lang/Object;)Z"⟩ : MethodName) jdk_38_method_25_code 2 (some .boolean) :: ws) ({ frames := 4, cells := 1, slots := 10, locals := 56 } : Room)) (fun aα Uα => aα = #[(.ref a), (.ref el)] ∧ Z.Warmed39 Uα.vm ∧ Uα.heap = h0) (fun _ _ _ _ _ => True) (fun _ Uα oα Uβ => ∃ vα Lα, oα = .returned vα ∧ Q_rm_Ae Z a el de kd mc h0 n0 vα Uβ.heap Lα ∧ FrameEnd Uα oα Uβ Lα ({ frames := 4, cells := 1, slots := 10, locals := 56 } : Room).cells ({ frames := 4, cells := 1, slots := 10, locals := 56 } : Room).slots) := by
  refine MetFree.of_bodySF (plainFor_of_name pn_java_util_ArrayList) hisR ?_
  intro p e s m args below meth c s₁ Bd hml0 hP hKα
  obtain ⟨rfl, hZ, hh⟩ := hP
  have hx := Bd.exec
  have hby := Bd.bytes
  have hml : c.maxLocals = 2 := hml0
  have hown : s.vm.findClass "java/util/ArrayList" = some m.cls := findClass_of_methodNamed Bd.named
  have hnm := (name_of_methodNamed Bd.named Bd.method).1
  have X0 : Stand p l e ({ frames := 4, cells := 1, slots := 10, locals := 56 } : Room) s m #[(.ref a), (.ref el)] below meth c s₁ [] 0 0 := Stand.of_body Bd
  have e0 : s₁.heap = h0 := by rw [← hh, Bd.state]; rfl
  have N0 := Fr.nil n0
  suffices k0 : Gl p e below s (Q_rm_Ae Z a el de kd mc h0 n0) ({ frames := 4, cells := 1, slots := 10, locals := 56 } : Room).cells ({ frames := 4, cells := 1, slots := 10, locals := 56 } : Room).slots s₁ (mkF m 0 #[.val (.ref a), .val (.ref el)] []) from Gl.st (fun τ κ => castTop (ef_rm_Ae m a el) κ) k0
  refine Gl.st (g' := (mkF m 1 #[.val (.ref a), .val (.ref el)] [(.ref a)])) (fun τ κ => XS.aloadN X0.here hx rfl (hb hby d9_0) rfl rfl κ) ?_
  refine Gl.st (g' := (mkF m 2 #[.val (.ref a), .val (.ref el)] [(.ref a), (.ref a)])) (fun τ κ => XS.dup X0.here hx rfl (hb hby d9_1) rfl rfl κ) ?_
  obtain ⟨T158, X158, e158, st158⟩ := getF X0 hx hZ hown (host := "") (Or.inl (hw _ (List.mem_of_getElem? (i := 77) rfl))) (Via.of (hw _ (List.mem_of_getElem? (i := 78) rfl))) e0 FM (g := (mkF m 2 #[.val (.ref a), .val (.ref el)] [(.ref a), (.ref a)])) rfl rfl (hb hby d9_2)
  refine Gl.st (g' := (mkF m 5 #[.val (.ref a), .val (.ref el)] [(.int mc), (.ref a)])) (fun τ κ => st158 _ κ) ?_
  refine Gl.st (g' := (mkF m 6 #[.val (.ref a), .val (.ref el)] [(.int (1 : Int32)), (.int mc), (.ref a)])) (fun τ κ => XS.iconst X158.here hx rfl (hb hby d9_5) κ) ?_
  refine Gl.st (g' := (mkF m 7 #[.val (.ref a), .val (.ref el)] [(.int (mc + (1 : Int32))), (.ref a)])) (fun τ κ => XS.iadd X158.here hx rfl (hb hby d9_6) rfl κ) ?_
  obtain ⟨T159, h159, X159, e159, W159, st159⟩ := putF X158 hx hZ hown (host := "") (Or.inl (hw _ (List.mem_of_getElem? (i := 77) rfl))) (Via.of (hw _ (List.mem_of_getElem? (i := 78) rfl))) e158 FM E0 (Or.inl (hw _ (List.mem_of_getElem? (i := 52) rfl))) (hw _ (List.mem_of_getElem? (i := 33) rfl)) (ty := .int) (by decide) rfl rfl (g := (mkF m 7 #[.val (.ref a), .val (.ref el)] [(.int (mc + (1 : Int32))), (.ref a)])) rfl rfl (hb hby d9_7)
  have E_160 := E0.wr W159
  have S_161 := S0.wr W159
  have V_162 := V0.other W159 (Ne.symm hde)
  have F_164 := FE.other W159 (Or.inr (slot_ne (Or.inl (hw _ (List.mem_of_getElem? (i := 55) rfl))) (Or.inl (hw _ (List.mem_of_getElem? (i := 52) rfl))) (by decide) (t := (.array (.object "java/lang/Object"))) (t' := .int) (by decide) (by decide)))
  have F_165 := FS.other W159 (Or.inr (slot_ne (Or.inl (hw _ (List.mem_of_getElem? (i := 80) rfl))) (Or.inl (hw _ (List.mem_of_getElem? (i := 52) rfl))) (by decide) (t := .int) (t' := .int) (by decide) (by decide)))
  have E_166 := E1.wr W159
  have N159 := Fr.snoc X159 N0 g0
  have Z159 : n0 ≤ h159.size := Nat.le_trans Z0 (Nat.le_of_eq W159.size.symm)
  have K159 : Keep h0 h159 [a] := (Keep.refl h0 [a]).wr W159 (Or.inl (List.mem_of_getElem? (i := 0) rfl))
  have F_167 := FM.same W159
  refine Gl.st (g' := (mkF m 10 #[.val (.ref a), .val (.ref el)] [])) (fun τ κ => st159 _ κ) ?_
  refine Gl.st (g' := (mkF m 11 #[.val (.ref a), .val (.ref el)] [(.ref a)])) (fun τ κ => XS.aloadN X159.here hx rfl (hb hby d9_10) rfl rfl κ) ?_
  refine Gl.st (g' := (mkF m 12 #[.val (.ref a), .val (.ref el)] [(.ref el), (.ref a)])) (fun τ κ => XS.aloadN X159.here hx rfl (hb hby d9_11) rfl rfl κ) ?_
  refine Gl.st (g' := (mkF m 13 #[.val (.ref a), .val (.ref el)] [(.ref a), (.ref el), (.ref a)])) (fun τ κ => XS.aloadN X159.here hx rfl (hb hby d9_12) rfl rfl κ) ?_
  obtain ⟨T168, X168, e168, st168⟩ := getF X159 hx hZ hown (host := "") (Or.inl (hw _ (List.mem_of_getElem? (i := 54) rfl))) Via.refl e159 F_164 (g := (mkF m 13 #[.val (.ref a), .val (.ref el)] [(.ref a), (.ref el), (.ref a)])) rfl rfl (hb hby d9_13)
  refine Gl.st (g' := (mkF m 16 #[.val (.ref a), .val (.ref el)] [(.ref de), (.ref el), (.ref a)])) (fun τ κ => st168 _ κ) ?_
  refine Gl.st (g' := (mkF m 17 #[.val (.ref a), .val (.ref el)] [(.ref a), (.ref de), (.ref el), (.ref a)])) (fun τ κ => XS.aloadN X168.here hx rfl (hb hby d9_16) rfl rfl κ) ?_
  obtain ⟨T169, X169, e169, st169⟩ := getF X168 hx hZ hown (host := "") (Or.inl (hw _ (List.mem_of_getElem? (i := 79) rfl))) Via.refl e168 F_165 (g := (mkF m 17 #[.val (.ref a), .val (.ref el)] [(.ref a), (.ref de), (.ref el), (.ref a)])) rfl rfl (hb hby d9_17)
  refine Gl.st (g' := (mkF m 20 #[.val (.ref a), .val (.ref el)] [(.int (0 : Int32)), (.ref de), (.ref el), (.ref a)])) (fun τ κ => st169 _ κ) ?_
  obtain ⟨cq170, q170, q170'⟩ := E_160.cell
  obtain ⟨rv170, _, ⟨T170, L170, k170, n170⟩, -, X170, ⟨Lc170, hQ170, l170, y170, z170⟩, st170⟩ := X169.privateBack hx (y := (⟨"java/util/ArrayList", "add", "(Ljava/lang/Object;[Ljava/lang/Object;I)V"⟩ : MethodName)) hown (mvT hZ (hw _ (List.mem_of_getElem? (i := 81) rfl))) (mvT hZ (hw _ (List.mem_of_getElem? (i := 82) rfl))) (mvT hZ (hw _ (List.mem_of_getElem? (i := 84) rfl))) (Cond.privateMethod_at (mvP hZ (hw _ (List.mem_of_getElem? (i := 83) rfl)) (args := #[]))) (mvT hZ (hw _ (List.mem_of_getElem? (i := 85) rfl))) (by decide) (backOf (W := 0) (rm_Ah l Z a0 hw [] a el de kd (mc + (1 : Int32)) h159 n0 Z159 E_160 g0 F_167 F_164 F_165 S_161 V_162 hde E_166) hZ (hw _ (List.mem_of_getElem? (i := 85) rfl)) (hw _ (List.mem_of_getElem? (i := 34) rfl)) (by decide) (by decide)) (g := (mkF m 20 #[.val (.ref a), .val (.ref el)] [(.int (0 : Int32)), (.ref de), (.ref el), (.ref a)])) rfl (by rw [hml]; rfl) (Steps.refl _) (a := a) (by rw [e169]; exact q170) q170' (argsL := [(.ref el), (.ref de), (.int (0 : Int32))]) (rest := []) (lenOf pd_4 rfl) rfl (by show 2 * 0 + _ ≤ _; exact Nat.le_of_eq rfl) (hb hby d9_20) (fun _ _ => ⟨rfl, e169, (by decide : 0 + 1 ≤ _), (by decide : 0 + 10 ≤ _)⟩)
  dsimp only [Pt.U, Pt.locs, Pt.cells, Pt.slots] at X170 l170 y170 z170 st170 hQ170
  subst l170 y170 z170
  obtain ⟨b170, kk170, vs170, rfl, N170q, Kc170, s170, Ec170, FM170, FE170, FS170, V170, O170⟩ := hQ170
  have ne_a_b170 : a ≠ b170 := Nat.ne_of_lt (Nat.lt_of_lt_of_le E_160.lt s170)
  have ne_de_b170 : de ≠ b170 := Nat.ne_of_lt (Nat.lt_of_lt_of_le V_162.lt s170)
  have ne_el_b170 : el ≠ b170 := Nat.ne_of_lt (Nat.lt_of_lt_of_le E_166.lt s170)
  have g_b170 : n0 ≤ b170 := Nat.le_trans Z159 s170
  have sz_b170 : h0.size ≤ b170 := Nat.le_trans K159.1 s170
  have E_171 := E_160.keep Kc170
  have S_172 := Sta.keepX S_161 Kc170 (allS (P := fun x => ∃ c : Cell, h159[x]? = some c ∧ ∀ q, c.vm ≠ .statics q) E_160.cell all0)
  have V_173 := V_162.keep Kc170 (ninS (Ne.symm hde) nin0)
  have E_177 := E_166.keep Kc170
  have N170 := Fr.app N159 N170q
  have Z170 : n0 ≤ T170.heap.size := Nat.le_trans Z159 Kc170.1
  have K170 : Keep h0 T170.heap [a] := K159.trans Kc170 (allS (Or.inl (List.mem_of_getElem? (i := 0) rfl)) all0)
  refine Gl.st (g' := (mkF m 23 #[.val (.ref a), .val (.ref el)] [])) (fun τ κ => st170.trans κ) ?_
  refine Gl.st (g' := (mkF m 24 #[.val (.ref a), .val (.ref el)] [(.int (1 : Int32))])) (fun τ κ => XS.iconst X170.here hx rfl (hb hby d9_23) κ) ?_
  exact Gl.ret (v := some (.int (1 : Int32))) X170 Bd.notSynchronized (fun h => by rw [Bd.returns] at h; cases h) rfl (fun fs hr => retN X170 hx (t := .boolean) Bd.returns (by simp) (hb hby d9_24) hr) (by decide) (by decide) ⟨b170, kk170, vs170, rfl, N170, K170, sz_b170, Ec170, FM170, FE170, FS170, V170, O170⟩
theorem ef_rm_Be1 (m : MethodId) (a : Addr) (el : Addr) : entryFrame m #[(.ref a), (.ref el)] 2 = mkF m 0 #[.val (.ref a), .val (.ref el)] [] := by first | (simp [entryFrame, mkF, argsToLocals, Value.category]; done) | rfl
def Q_rm_Be1 (Z : State) (a : Addr) (el : Addr) (ar : Addr) (ka : ClassId) (mc : Int32) (vs : List Value) (h0 : Heap) (n0 : Nat) (v : Option Value) (h : Heap) (L : List Loc) : Prop := ∃ vs', v = some (.int (1 : Int32)) ∧ Fr n0 L ∧ Keep h0 h [a, ar] ∧ Exa Z h a "java/util/ArrayList" ∧ Fld Z h a "java/util/AbstractList" "modCount" "I" (.int (mc + (1 : Int32))) ∧ Fld Z h a "java/util/ArrayList" "elementData" "[Ljava/lang/Object;" (.ref ar) ∧ Fld Z h a "java/util/ArrayList" "size" "I" (.int (2 : Int32)) ∧ Arv Z h ar ka (.object "java/lang/Object") (10 : Int32) vs' .null
set_option maxRecDepth 65536 in
set_option maxHeartbeats 40000000 in
theorem rm_Be1 (l : Launch) (Z : State) (a0 : Array Value) (hw : ∀ d ∈ tables_1, d.before a0 Z = true) (ws : List Jvm.Cond) (a : Addr) (el : Addr) (ar : Addr) (ka : ClassId) (mc : Int32) (vs : List Value) (h0 : Heap) (n0 : Nat) (Z0 : n0 ≤ h0.size) (E0 : Exa Z h0 a "java/util/ArrayList") (g0 : n0 ≤ a) (FM : Fld Z h0 a "java/util/AbstractList" "modCount" "I" (.int mc)) (FE : Fld Z h0 a "java/util/ArrayList" "elementData" "[Ljava/lang/Object;" (.ref ar)) (FS : Fld Z h0 a "java/util/ArrayList" "size" "I" (.int (1 : Int32))) (gar : n0 ≤ ar) (har : a ≠ ar) (V0 : Arv Z h0 ar ka (.object "java/lang/Object") (10 : Int32) vs .null) (OV : Ovr Z ka "java/lang/Object") (E1 : Exa Z h0 el "java/util/ArrayList") :
    MetFree l (⟨"java/util/ArrayList", "add", "(Ljava/lang/Object;)Z"⟩ : MethodName) (head1 (Jvm.Cond.code (⟨"java/util/ArrayList", "add", "(Ljava/lang/Object;)Z"⟩ : MethodName) jdk_38_method_25_code 2 (some .boolean) :: ws) ({ frames := 1, cells := 0, slots := 0, locals := 15 } : Room)) (fun aα Uα => aα = #[(.ref a), (.ref el)] ∧ Z.Warmed39 Uα.vm ∧ Uα.heap = h0) (fun _ _ _ _ _ => True) (fun _ Uα oα Uβ => ∃ vα Lα, oα = .returned vα ∧ Q_rm_Be1 Z a el ar ka mc vs h0 n0 vα Uβ.heap Lα ∧ FrameEnd Uα oα Uβ Lα ({ frames := 1, cells := 0, slots := 0, locals := 15 } : Room).cells ({ frames := 1, cells := 0, slots := 0, locals := 15 } : Room).slots) := by
  refine MetFree.of_bodySF (plainFor_of_name pn_java_util_ArrayList) hisR ?_
  intro p e s m args below meth c s₁ Bd hml0 hP hKα
  obtain ⟨rfl, hZ, hh⟩ := hP
  have hx := Bd.exec
  have hby := Bd.bytes
  have hml : c.maxLocals = 2 := hml0
  have hown : s.vm.findClass "java/util/ArrayList" = some m.cls := findClass_of_methodNamed Bd.named
  have hnm := (name_of_methodNamed Bd.named Bd.method).1
  have X0 : Stand p l e ({ frames := 1, cells := 0, slots := 0, locals := 15 } : Room) s m #[(.ref a), (.ref el)] below meth c s₁ [] 0 0 := Stand.of_body Bd
  have e0 : s₁.heap = h0 := by rw [← hh, Bd.state]; rfl
  have N0 := Fr.nil n0
  suffices k0 : Gl p e below s (Q_rm_Be1 Z a el ar ka mc vs h0 n0) ({ frames := 1, cells := 0, slots := 0, locals := 15 } : Room).cells ({ frames := 1, cells := 0, slots := 0, locals := 15 } : Room).slots s₁ (mkF m 0 #[.val (.ref a), .val (.ref el)] []) from Gl.st (fun τ κ => castTop (ef_rm_Be1 m a el) κ) k0
  refine Gl.st (g' := (mkF m 1 #[.val (.ref a), .val (.ref el)] [(.ref a)])) (fun τ κ => XS.aloadN X0.here hx rfl (hb hby d9_0) rfl rfl κ) ?_
  refine Gl.st (g' := (mkF m 2 #[.val (.ref a), .val (.ref el)] [(.ref a), (.ref a)])) (fun τ κ => XS.dup X0.here hx rfl (hb hby d9_1) rfl rfl κ) ?_
  obtain ⟨T178, X178, e178, st178⟩ := getF X0 hx hZ hown (host := "") (Or.inl (hw _ (List.mem_of_getElem? (i := 77) rfl))) (Via.of (hw _ (List.mem_of_getElem? (i := 78) rfl))) e0 FM (g := (mkF m 2 #[.val (.ref a), .val (.ref el)] [(.ref a), (.ref a)])) rfl rfl (hb hby d9_2)
  refine Gl.st (g' := (mkF m 5 #[.val (.ref a), .val (.ref el)] [(.int mc), (.ref a)])) (fun τ κ => st178 _ κ) ?_
  refine Gl.st (g' := (mkF m 6 #[.val (.ref a), .val (.ref el)] [(.int (1 : Int32)), (.int mc), (.ref a)])) (fun τ κ => XS.iconst X178.here hx rfl (hb hby d9_5) κ) ?_
  refine Gl.st (g' := (mkF m 7 #[.val (.ref a), .val (.ref el)] [(.int (mc + (1 : Int32))), (.ref a)])) (fun τ κ => XS.iadd X178.here hx rfl (hb hby d9_6) rfl κ) ?_
  obtain ⟨T179, h179, X179, e179, W179, st179⟩ := putF X178 hx hZ hown (host := "") (Or.inl (hw _ (List.mem_of_getElem? (i := 77) rfl))) (Via.of (hw _ (List.mem_of_getElem? (i := 78) rfl))) e178 FM E0 (Or.inl (hw _ (List.mem_of_getElem? (i := 52) rfl))) (hw _ (List.mem_of_getElem? (i := 33) rfl)) (ty := .int) (by decide) rfl rfl (g := (mkF m 7 #[.val (.ref a), .val (.ref el)] [(.int (mc + (1 : Int32))), (.ref a)])) rfl rfl (hb hby d9_7)
  have E_180 := E0.wr W179
  have E_181 := E1.wr W179
  have V_182 := V0.other W179 (Ne.symm har)
  have F_184 := FE.other W179 (Or.inr (slot_ne (Or.inl (hw _ (List.mem_of_getElem? (i := 55) rfl))) (Or.inl (hw _ (List.mem_of_getElem? (i := 52) rfl))) (by decide) (t := (.array (.object "java/lang/Object"))) (t' := .int) (by decide) (by decide)))
  have F_185 := FS.other W179 (Or.inr (slot_ne (Or.inl (hw _ (List.mem_of_getElem? (i := 80) rfl))) (Or.inl (hw _ (List.mem_of_getElem? (i := 52) rfl))) (by decide) (t := .int) (t' := .int) (by decide) (by decide)))
  have N179 := Fr.snoc X179 N0 g0
  have Z179 : n0 ≤ h179.size := Nat.le_trans Z0 (Nat.le_of_eq W179.size.symm)
  have K179 : Keep h0 h179 [a, ar] := (Keep.refl h0 [a, ar]).wr W179 (Or.inl (List.mem_of_getElem? (i := 0) rfl))
  have F_186 := FM.same W179
  refine Gl.st (g' := (mkF m 10 #[.val (.ref a), .val (.ref el)] [])) (fun τ κ => st179 _ κ) ?_
  refine Gl.st (g' := (mkF m 11 #[.val (.ref a), .val (.ref el)] [(.ref a)])) (fun τ κ => XS.aloadN X179.here hx rfl (hb hby d9_10) rfl rfl κ) ?_
  refine Gl.st (g' := (mkF m 12 #[.val (.ref a), .val (.ref el)] [(.ref el), (.ref a)])) (fun τ κ => XS.aloadN X179.here hx rfl (hb hby d9_11) rfl rfl κ) ?_
  refine Gl.st (g' := (mkF m 13 #[.val (.ref a), .val (.ref el)] [(.ref a), (.ref el), (.ref a)])) (fun τ κ => XS.aloadN X179.here hx rfl (hb hby d9_12) rfl rfl κ) ?_
  obtain ⟨T187, X187, e187, st187⟩ := getF X179 hx hZ hown (host := "") (Or.inl (hw _ (List.mem_of_getElem? (i := 54) rfl))) Via.refl e179 F_184 (g := (mkF m 13 #[.val (.ref a), .val (.ref el)] [(.ref a), (.ref el), (.ref a)])) rfl rfl (hb hby d9_13)
  refine Gl.st (g' := (mkF m 16 #[.val (.ref a), .val (.ref el)] [(.ref ar), (.ref el), (.ref a)])) (fun τ κ => st187 _ κ) ?_
  refine Gl.st (g' := (mkF m 17 #[.val (.ref a), .val (.ref el)] [(.ref a), (.ref ar), (.ref el), (.ref a)])) (fun τ κ => XS.aloadN X187.here hx rfl (hb hby d9_16) rfl rfl κ) ?_
  obtain ⟨T188, X188, e188, st188⟩ := getF X187 hx hZ hown (host := "") (Or.inl (hw _ (List.mem_of_getElem? (i := 79) rfl))) Via.refl e187 F_185 (g := (mkF m 17 #[.val (.ref a), .val (.ref el)] [(.ref a), (.ref ar), (.ref el), (.ref a)])) rfl rfl (hb hby d9_17)
  refine Gl.st (g' := (mkF m 20 #[.val (.ref a), .val (.ref el)] [(.int (1 : Int32)), (.ref ar), (.ref el), (.ref a)])) (fun τ κ => st188 _ κ) ?_
  obtain ⟨cq189, q189, q189'⟩ := E_180.cell
  obtain ⟨rv189, _, ⟨T189, L189, k189, n189⟩, -, X189, ⟨Lc189, hQ189, l189, y189, z189⟩, st189⟩ := X188.privateBack hx (y := (⟨"java/util/ArrayList", "add", "(Ljava/lang/Object;[Ljava/lang/Object;I)V"⟩ : MethodName)) hown (mvT hZ (hw _ (List.mem_of_getElem? (i := 81) rfl))) (mvT hZ (hw _ (List.mem_of_getElem? (i := 82) rfl))) (mvT hZ (hw _ (List.mem_of_getElem? (i := 84) rfl))) (Cond.privateMethod_at (mvP hZ (hw _ (List.mem_of_getElem? (i := 83) rfl)) (args := #[]))) (mvT hZ (hw _ (List.mem_of_getElem? (i := 85) rfl))) (by decide) (backOf (W := 0) (rm_Bh1 l Z a0 hw [] a el ar ka (mc + (1 : Int32)) vs h179 n0 Z179 E_180 g0 F_186 F_184 F_185 gar har V_182 OV E_181) hZ (hw _ (List.mem_of_getElem? (i := 85) rfl)) (hw _ (List.mem_of_getElem? (i := 34) rfl)) (by decide) (by decide)) (g := (mkF m 20 #[.val (.ref a), .val (.ref el)] [(.int (1 : Int32)), (.ref ar), (.ref el), (.ref a)])) rfl (by rw [hml]; rfl) (Steps.refl _) (a := a) (by rw [e188]; exact q189) q189' (argsL := [(.ref el), (.ref ar), (.int (1 : Int32))]) (rest := []) (lenOf pd_4 rfl) rfl (by show 2 * 0 + _ ≤ _; exact Nat.le_of_eq rfl) (hb hby d9_20) (fun _ _ => ⟨rfl, e188, (by decide : 0 + 0 ≤ _), (by decide : 0 + 0 ≤ _)⟩)
  dsimp only [Pt.U, Pt.locs, Pt.cells, Pt.slots] at X189 l189 y189 z189 st189 hQ189
  subst l189 y189 z189
  obtain ⟨vs189, rfl, N189q, Kc189, Ec189, FM189, FE189, FS189, V189⟩ := hQ189
  have E_190 := E_180.keep Kc189
  have E_191 := E_181.keep Kc189
  have N189 := Fr.app N179 N189q
  have Z189 : n0 ≤ T189.heap.size := Nat.le_trans Z179 Kc189.1
  have K189 : Keep h0 T189.heap [a, ar] := K179.trans Kc189 (allS (Or.inl (List.mem_of_getElem? (i := 0) rfl)) (allS (Or.inl (List.mem_of_getElem? (i := 1) rfl)) all0))
  refine Gl.st (g' := (mkF m 23 #[.val (.ref a), .val (.ref el)] [])) (fun τ κ => st189.trans κ) ?_
  refine Gl.st (g' := (mkF m 24 #[.val (.ref a), .val (.ref el)] [(.int (1 : Int32))])) (fun τ κ => XS.iconst X189.here hx rfl (hb hby d9_23) κ) ?_
  exact Gl.ret (v := some (.int (1 : Int32))) X189 Bd.notSynchronized (fun h => by rw [Bd.returns] at h; cases h) rfl (fun fs hr => retN X189 hx (t := .boolean) Bd.returns (by simp) (hb hby d9_24) hr) (by decide) (by decide) ⟨vs189, rfl, N189, K189, Ec189, FM189, FE189, FS189, V189⟩
theorem ef_rm_Be2 (m : MethodId) (a : Addr) (el : Addr) : entryFrame m #[(.ref a), (.ref el)] 2 = mkF m 0 #[.val (.ref a), .val (.ref el)] [] := by first | (simp [entryFrame, mkF, argsToLocals, Value.category]; done) | rfl
def Q_rm_Be2 (Z : State) (a : Addr) (el : Addr) (ar : Addr) (ka : ClassId) (mc : Int32) (vs : List Value) (h0 : Heap) (n0 : Nat) (v : Option Value) (h : Heap) (L : List Loc) : Prop := ∃ vs', v = some (.int (1 : Int32)) ∧ Fr n0 L ∧ Keep h0 h [a, ar] ∧ Exa Z h a "java/util/ArrayList" ∧ Fld Z h a "java/util/AbstractList" "modCount" "I" (.int (mc + (1 : Int32))) ∧ Fld Z h a "java/util/ArrayList" "elementData" "[Ljava/lang/Object;" (.ref ar) ∧ Fld Z h a "java/util/ArrayList" "size" "I" (.int (3 : Int32)) ∧ Arv Z h ar ka (.object "java/lang/Object") (10 : Int32) vs' .null
set_option maxRecDepth 65536 in
set_option maxHeartbeats 40000000 in
theorem rm_Be2 (l : Launch) (Z : State) (a0 : Array Value) (hw : ∀ d ∈ tables_1, d.before a0 Z = true) (ws : List Jvm.Cond) (a : Addr) (el : Addr) (ar : Addr) (ka : ClassId) (mc : Int32) (vs : List Value) (h0 : Heap) (n0 : Nat) (Z0 : n0 ≤ h0.size) (E0 : Exa Z h0 a "java/util/ArrayList") (g0 : n0 ≤ a) (FM : Fld Z h0 a "java/util/AbstractList" "modCount" "I" (.int mc)) (FE : Fld Z h0 a "java/util/ArrayList" "elementData" "[Ljava/lang/Object;" (.ref ar)) (FS : Fld Z h0 a "java/util/ArrayList" "size" "I" (.int (2 : Int32))) (gar : n0 ≤ ar) (har : a ≠ ar) (V0 : Arv Z h0 ar ka (.object "java/lang/Object") (10 : Int32) vs .null) (OV : Ovr Z ka "java/lang/Object") (E1 : Exa Z h0 el "java/util/ArrayList") :
    MetFree l (⟨"java/util/ArrayList", "add", "(Ljava/lang/Object;)Z"⟩ : MethodName) (head1 (Jvm.Cond.code (⟨"java/util/ArrayList", "add", "(Ljava/lang/Object;)Z"⟩ : MethodName) jdk_38_method_25_code 2 (some .boolean) :: ws) ({ frames := 1, cells := 0, slots := 0, locals := 15 } : Room)) (fun aα Uα => aα = #[(.ref a), (.ref el)] ∧ Z.Warmed39 Uα.vm ∧ Uα.heap = h0) (fun _ _ _ _ _ => True) (fun _ Uα oα Uβ => ∃ vα Lα, oα = .returned vα ∧ Q_rm_Be2 Z a el ar ka mc vs h0 n0 vα Uβ.heap Lα ∧ FrameEnd Uα oα Uβ Lα ({ frames := 1, cells := 0, slots := 0, locals := 15 } : Room).cells ({ frames := 1, cells := 0, slots := 0, locals := 15 } : Room).slots) := by
  refine MetFree.of_bodySF (plainFor_of_name pn_java_util_ArrayList) hisR ?_
  intro p e s m args below meth c s₁ Bd hml0 hP hKα
  obtain ⟨rfl, hZ, hh⟩ := hP
  have hx := Bd.exec
  have hby := Bd.bytes
  have hml : c.maxLocals = 2 := hml0
  have hown : s.vm.findClass "java/util/ArrayList" = some m.cls := findClass_of_methodNamed Bd.named
  have hnm := (name_of_methodNamed Bd.named Bd.method).1
  have X0 : Stand p l e ({ frames := 1, cells := 0, slots := 0, locals := 15 } : Room) s m #[(.ref a), (.ref el)] below meth c s₁ [] 0 0 := Stand.of_body Bd
  have e0 : s₁.heap = h0 := by rw [← hh, Bd.state]; rfl
  have N0 := Fr.nil n0
  suffices k0 : Gl p e below s (Q_rm_Be2 Z a el ar ka mc vs h0 n0) ({ frames := 1, cells := 0, slots := 0, locals := 15 } : Room).cells ({ frames := 1, cells := 0, slots := 0, locals := 15 } : Room).slots s₁ (mkF m 0 #[.val (.ref a), .val (.ref el)] []) from Gl.st (fun τ κ => castTop (ef_rm_Be2 m a el) κ) k0
  refine Gl.st (g' := (mkF m 1 #[.val (.ref a), .val (.ref el)] [(.ref a)])) (fun τ κ => XS.aloadN X0.here hx rfl (hb hby d9_0) rfl rfl κ) ?_
  refine Gl.st (g' := (mkF m 2 #[.val (.ref a), .val (.ref el)] [(.ref a), (.ref a)])) (fun τ κ => XS.dup X0.here hx rfl (hb hby d9_1) rfl rfl κ) ?_
  obtain ⟨T196, X196, e196, st196⟩ := getF X0 hx hZ hown (host := "") (Or.inl (hw _ (List.mem_of_getElem? (i := 77) rfl))) (Via.of (hw _ (List.mem_of_getElem? (i := 78) rfl))) e0 FM (g := (mkF m 2 #[.val (.ref a), .val (.ref el)] [(.ref a), (.ref a)])) rfl rfl (hb hby d9_2)
  refine Gl.st (g' := (mkF m 5 #[.val (.ref a), .val (.ref el)] [(.int mc), (.ref a)])) (fun τ κ => st196 _ κ) ?_
  refine Gl.st (g' := (mkF m 6 #[.val (.ref a), .val (.ref el)] [(.int (1 : Int32)), (.int mc), (.ref a)])) (fun τ κ => XS.iconst X196.here hx rfl (hb hby d9_5) κ) ?_
  refine Gl.st (g' := (mkF m 7 #[.val (.ref a), .val (.ref el)] [(.int (mc + (1 : Int32))), (.ref a)])) (fun τ κ => XS.iadd X196.here hx rfl (hb hby d9_6) rfl κ) ?_
  obtain ⟨T197, h197, X197, e197, W197, st197⟩ := putF X196 hx hZ hown (host := "") (Or.inl (hw _ (List.mem_of_getElem? (i := 77) rfl))) (Via.of (hw _ (List.mem_of_getElem? (i := 78) rfl))) e196 FM E0 (Or.inl (hw _ (List.mem_of_getElem? (i := 52) rfl))) (hw _ (List.mem_of_getElem? (i := 33) rfl)) (ty := .int) (by decide) rfl rfl (g := (mkF m 7 #[.val (.ref a), .val (.ref el)] [(.int (mc + (1 : Int32))), (.ref a)])) rfl rfl (hb hby d9_7)
  have E_198 := E0.wr W197
  have E_199 := E1.wr W197
  have V_200 := V0.other W197 (Ne.symm har)
  have F_202 := FE.other W197 (Or.inr (slot_ne (Or.inl (hw _ (List.mem_of_getElem? (i := 55) rfl))) (Or.inl (hw _ (List.mem_of_getElem? (i := 52) rfl))) (by decide) (t := (.array (.object "java/lang/Object"))) (t' := .int) (by decide) (by decide)))
  have F_203 := FS.other W197 (Or.inr (slot_ne (Or.inl (hw _ (List.mem_of_getElem? (i := 80) rfl))) (Or.inl (hw _ (List.mem_of_getElem? (i := 52) rfl))) (by decide) (t := .int) (t' := .int) (by decide) (by decide)))
  have N197 := Fr.snoc X197 N0 g0
  have Z197 : n0 ≤ h197.size := Nat.le_trans Z0 (Nat.le_of_eq W197.size.symm)
  have K197 : Keep h0 h197 [a, ar] := (Keep.refl h0 [a, ar]).wr W197 (Or.inl (List.mem_of_getElem? (i := 0) rfl))
  have F_204 := FM.same W197
  refine Gl.st (g' := (mkF m 10 #[.val (.ref a), .val (.ref el)] [])) (fun τ κ => st197 _ κ) ?_
  refine Gl.st (g' := (mkF m 11 #[.val (.ref a), .val (.ref el)] [(.ref a)])) (fun τ κ => XS.aloadN X197.here hx rfl (hb hby d9_10) rfl rfl κ) ?_
  refine Gl.st (g' := (mkF m 12 #[.val (.ref a), .val (.ref el)] [(.ref el), (.ref a)])) (fun τ κ => XS.aloadN X197.here hx rfl (hb hby d9_11) rfl rfl κ) ?_
  refine Gl.st (g' := (mkF m 13 #[.val (.ref a), .val (.ref el)] [(.ref a), (.ref el), (.ref a)])) (fun τ κ => XS.aloadN X197.here hx rfl (hb hby d9_12) rfl rfl κ) ?_
  obtain ⟨T205, X205, e205, st205⟩ := getF X197 hx hZ hown (host := "") (Or.inl (hw _ (List.mem_of_getElem? (i := 54) rfl))) Via.refl e197 F_202 (g := (mkF m 13 #[.val (.ref a), .val (.ref el)] [(.ref a), (.ref el), (.ref a)])) rfl rfl (hb hby d9_13)
  refine Gl.st (g' := (mkF m 16 #[.val (.ref a), .val (.ref el)] [(.ref ar), (.ref el), (.ref a)])) (fun τ κ => st205 _ κ) ?_
  refine Gl.st (g' := (mkF m 17 #[.val (.ref a), .val (.ref el)] [(.ref a), (.ref ar), (.ref el), (.ref a)])) (fun τ κ => XS.aloadN X205.here hx rfl (hb hby d9_16) rfl rfl κ) ?_
  obtain ⟨T206, X206, e206, st206⟩ := getF X205 hx hZ hown (host := "") (Or.inl (hw _ (List.mem_of_getElem? (i := 79) rfl))) Via.refl e205 F_203 (g := (mkF m 17 #[.val (.ref a), .val (.ref el)] [(.ref a), (.ref ar), (.ref el), (.ref a)])) rfl rfl (hb hby d9_17)
  refine Gl.st (g' := (mkF m 20 #[.val (.ref a), .val (.ref el)] [(.int (2 : Int32)), (.ref ar), (.ref el), (.ref a)])) (fun τ κ => st206 _ κ) ?_
  obtain ⟨cq207, q207, q207'⟩ := E_198.cell
  obtain ⟨rv207, _, ⟨T207, L207, k207, n207⟩, -, X207, ⟨Lc207, hQ207, l207, y207, z207⟩, st207⟩ := X206.privateBack hx (y := (⟨"java/util/ArrayList", "add", "(Ljava/lang/Object;[Ljava/lang/Object;I)V"⟩ : MethodName)) hown (mvT hZ (hw _ (List.mem_of_getElem? (i := 81) rfl))) (mvT hZ (hw _ (List.mem_of_getElem? (i := 82) rfl))) (mvT hZ (hw _ (List.mem_of_getElem? (i := 84) rfl))) (Cond.privateMethod_at (mvP hZ (hw _ (List.mem_of_getElem? (i := 83) rfl)) (args := #[]))) (mvT hZ (hw _ (List.mem_of_getElem? (i := 85) rfl))) (by decide) (backOf (W := 0) (rm_Bh2 l Z a0 hw [] a el ar ka (mc + (1 : Int32)) vs h197 n0 Z197 E_198 g0 F_204 F_202 F_203 gar har V_200 OV E_199) hZ (hw _ (List.mem_of_getElem? (i := 85) rfl)) (hw _ (List.mem_of_getElem? (i := 34) rfl)) (by decide) (by decide)) (g := (mkF m 20 #[.val (.ref a), .val (.ref el)] [(.int (2 : Int32)), (.ref ar), (.ref el), (.ref a)])) rfl (by rw [hml]; rfl) (Steps.refl _) (a := a) (by rw [e206]; exact q207) q207' (argsL := [(.ref el), (.ref ar), (.int (2 : Int32))]) (rest := []) (lenOf pd_4 rfl) rfl (by show 2 * 0 + _ ≤ _; exact Nat.le_of_eq rfl) (hb hby d9_20) (fun _ _ => ⟨rfl, e206, (by decide : 0 + 0 ≤ _), (by decide : 0 + 0 ≤ _)⟩)
  dsimp only [Pt.U, Pt.locs, Pt.cells, Pt.slots] at X207 l207 y207 z207 st207 hQ207
  subst l207 y207 z207
  obtain ⟨vs207, rfl, N207q, Kc207, Ec207, FM207, FE207, FS207, V207⟩ := hQ207
  have E_208 := E_198.keep Kc207
  have E_209 := E_199.keep Kc207
  have N207 := Fr.app N197 N207q
  have Z207 : n0 ≤ T207.heap.size := Nat.le_trans Z197 Kc207.1
  have K207 : Keep h0 T207.heap [a, ar] := K197.trans Kc207 (allS (Or.inl (List.mem_of_getElem? (i := 0) rfl)) (allS (Or.inl (List.mem_of_getElem? (i := 1) rfl)) all0))
  refine Gl.st (g' := (mkF m 23 #[.val (.ref a), .val (.ref el)] [])) (fun τ κ => st207.trans κ) ?_
  refine Gl.st (g' := (mkF m 24 #[.val (.ref a), .val (.ref el)] [(.int (1 : Int32))])) (fun τ κ => XS.iconst X207.here hx rfl (hb hby d9_23) κ) ?_
  exact Gl.ret (v := some (.int (1 : Int32))) X207 Bd.notSynchronized (fun h => by rw [Bd.returns] at h; cases h) rfl (fun fs hr => retN X207 hx (t := .boolean) Bd.returns (by simp) (hb hby d9_24) hr) (by decide) (by decide) ⟨vs207, rfl, N207, K207, Ec207, FM207, FE207, FS207, V207⟩
theorem ef_rm_Be3 (m : MethodId) (a : Addr) (el : Addr) : entryFrame m #[(.ref a), (.ref el)] 2 = mkF m 0 #[.val (.ref a), .val (.ref el)] [] := by first | (simp [entryFrame, mkF, argsToLocals, Value.category]; done) | rfl
def Q_rm_Be3 (Z : State) (a : Addr) (el : Addr) (ar : Addr) (ka : ClassId) (mc : Int32) (vs : List Value) (h0 : Heap) (n0 : Nat) (v : Option Value) (h : Heap) (L : List Loc) : Prop := ∃ vs', v = some (.int (1 : Int32)) ∧ Fr n0 L ∧ Keep h0 h [a, ar] ∧ Exa Z h a "java/util/ArrayList" ∧ Fld Z h a "java/util/AbstractList" "modCount" "I" (.int (mc + (1 : Int32))) ∧ Fld Z h a "java/util/ArrayList" "elementData" "[Ljava/lang/Object;" (.ref ar) ∧ Fld Z h a "java/util/ArrayList" "size" "I" (.int (4 : Int32)) ∧ Arv Z h ar ka (.object "java/lang/Object") (10 : Int32) vs' .null
set_option maxRecDepth 65536 in
set_option maxHeartbeats 40000000 in
theorem rm_Be3 (l : Launch) (Z : State) (a0 : Array Value) (hw : ∀ d ∈ tables_1, d.before a0 Z = true) (ws : List Jvm.Cond) (a : Addr) (el : Addr) (ar : Addr) (ka : ClassId) (mc : Int32) (vs : List Value) (h0 : Heap) (n0 : Nat) (Z0 : n0 ≤ h0.size) (E0 : Exa Z h0 a "java/util/ArrayList") (g0 : n0 ≤ a) (FM : Fld Z h0 a "java/util/AbstractList" "modCount" "I" (.int mc)) (FE : Fld Z h0 a "java/util/ArrayList" "elementData" "[Ljava/lang/Object;" (.ref ar)) (FS : Fld Z h0 a "java/util/ArrayList" "size" "I" (.int (3 : Int32))) (gar : n0 ≤ ar) (har : a ≠ ar) (V0 : Arv Z h0 ar ka (.object "java/lang/Object") (10 : Int32) vs .null) (OV : Ovr Z ka "java/lang/Object") (E1 : Exa Z h0 el "java/util/ArrayList") :
    MetFree l (⟨"java/util/ArrayList", "add", "(Ljava/lang/Object;)Z"⟩ : MethodName) (head1 (Jvm.Cond.code (⟨"java/util/ArrayList", "add", "(Ljava/lang/Object;)Z"⟩ : MethodName) jdk_38_method_25_code 2 (some .boolean) :: ws) ({ frames := 1, cells := 0, slots := 0, locals := 15 } : Room)) (fun aα Uα => aα = #[(.ref a), (.ref el)] ∧ Z.Warmed39 Uα.vm ∧ Uα.heap = h0) (fun _ _ _ _ _ => True) (fun _ Uα oα Uβ => ∃ vα Lα, oα = .returned vα ∧ Q_rm_Be3 Z a el ar ka mc vs h0 n0 vα Uβ.heap Lα ∧ FrameEnd Uα oα Uβ Lα ({ frames := 1, cells := 0, slots := 0, locals := 15 } : Room).cells ({ frames := 1, cells := 0, slots := 0, locals := 15 } : Room).slots) := by
  refine MetFree.of_bodySF (plainFor_of_name pn_java_util_ArrayList) hisR ?_
  intro p e s m args below meth c s₁ Bd hml0 hP hKα
  obtain ⟨rfl, hZ, hh⟩ := hP
  have hx := Bd.exec
  have hby := Bd.bytes
  have hml : c.maxLocals = 2 := hml0
  have hown : s.vm.findClass "java/util/ArrayList" = some m.cls := findClass_of_methodNamed Bd.named
  have hnm := (name_of_methodNamed Bd.named Bd.method).1
  have X0 : Stand p l e ({ frames := 1, cells := 0, slots := 0, locals := 15 } : Room) s m #[(.ref a), (.ref el)] below meth c s₁ [] 0 0 := Stand.of_body Bd
  have e0 : s₁.heap = h0 := by rw [← hh, Bd.state]; rfl
  have N0 := Fr.nil n0
  suffices k0 : Gl p e below s (Q_rm_Be3 Z a el ar ka mc vs h0 n0) ({ frames := 1, cells := 0, slots := 0, locals := 15 } : Room).cells ({ frames := 1, cells := 0, slots := 0, locals := 15 } : Room).slots s₁ (mkF m 0 #[.val (.ref a), .val (.ref el)] []) from Gl.st (fun τ κ => castTop (ef_rm_Be3 m a el) κ) k0
  refine Gl.st (g' := (mkF m 1 #[.val (.ref a), .val (.ref el)] [(.ref a)])) (fun τ κ => XS.aloadN X0.here hx rfl (hb hby d9_0) rfl rfl κ) ?_
  refine Gl.st (g' := (mkF m 2 #[.val (.ref a), .val (.ref el)] [(.ref a), (.ref a)])) (fun τ κ => XS.dup X0.here hx rfl (hb hby d9_1) rfl rfl κ) ?_
  obtain ⟨T214, X214, e214, st214⟩ := getF X0 hx hZ hown (host := "") (Or.inl (hw _ (List.mem_of_getElem? (i := 77) rfl))) (Via.of (hw _ (List.mem_of_getElem? (i := 78) rfl))) e0 FM (g := (mkF m 2 #[.val (.ref a), .val (.ref el)] [(.ref a), (.ref a)])) rfl rfl (hb hby d9_2)
  refine Gl.st (g' := (mkF m 5 #[.val (.ref a), .val (.ref el)] [(.int mc), (.ref a)])) (fun τ κ => st214 _ κ) ?_
  refine Gl.st (g' := (mkF m 6 #[.val (.ref a), .val (.ref el)] [(.int (1 : Int32)), (.int mc), (.ref a)])) (fun τ κ => XS.iconst X214.here hx rfl (hb hby d9_5) κ) ?_
  refine Gl.st (g' := (mkF m 7 #[.val (.ref a), .val (.ref el)] [(.int (mc + (1 : Int32))), (.ref a)])) (fun τ κ => XS.iadd X214.here hx rfl (hb hby d9_6) rfl κ) ?_
  obtain ⟨T215, h215, X215, e215, W215, st215⟩ := putF X214 hx hZ hown (host := "") (Or.inl (hw _ (List.mem_of_getElem? (i := 77) rfl))) (Via.of (hw _ (List.mem_of_getElem? (i := 78) rfl))) e214 FM E0 (Or.inl (hw _ (List.mem_of_getElem? (i := 52) rfl))) (hw _ (List.mem_of_getElem? (i := 33) rfl)) (ty := .int) (by decide) rfl rfl (g := (mkF m 7 #[.val (.ref a), .val (.ref el)] [(.int (mc + (1 : Int32))), (.ref a)])) rfl rfl (hb hby d9_7)
  have E_216 := E0.wr W215
  have E_217 := E1.wr W215
  have V_218 := V0.other W215 (Ne.symm har)
  have F_220 := FE.other W215 (Or.inr (slot_ne (Or.inl (hw _ (List.mem_of_getElem? (i := 55) rfl))) (Or.inl (hw _ (List.mem_of_getElem? (i := 52) rfl))) (by decide) (t := (.array (.object "java/lang/Object"))) (t' := .int) (by decide) (by decide)))
  have F_221 := FS.other W215 (Or.inr (slot_ne (Or.inl (hw _ (List.mem_of_getElem? (i := 80) rfl))) (Or.inl (hw _ (List.mem_of_getElem? (i := 52) rfl))) (by decide) (t := .int) (t' := .int) (by decide) (by decide)))
  have N215 := Fr.snoc X215 N0 g0
  have Z215 : n0 ≤ h215.size := Nat.le_trans Z0 (Nat.le_of_eq W215.size.symm)
  have K215 : Keep h0 h215 [a, ar] := (Keep.refl h0 [a, ar]).wr W215 (Or.inl (List.mem_of_getElem? (i := 0) rfl))
  have F_222 := FM.same W215
  refine Gl.st (g' := (mkF m 10 #[.val (.ref a), .val (.ref el)] [])) (fun τ κ => st215 _ κ) ?_
  refine Gl.st (g' := (mkF m 11 #[.val (.ref a), .val (.ref el)] [(.ref a)])) (fun τ κ => XS.aloadN X215.here hx rfl (hb hby d9_10) rfl rfl κ) ?_
  refine Gl.st (g' := (mkF m 12 #[.val (.ref a), .val (.ref el)] [(.ref el), (.ref a)])) (fun τ κ => XS.aloadN X215.here hx rfl (hb hby d9_11) rfl rfl κ) ?_
  refine Gl.st (g' := (mkF m 13 #[.val (.ref a), .val (.ref el)] [(.ref a), (.ref el), (.ref a)])) (fun τ κ => XS.aloadN X215.here hx rfl (hb hby d9_12) rfl rfl κ) ?_
  obtain ⟨T223, X223, e223, st223⟩ := getF X215 hx hZ hown (host := "") (Or.inl (hw _ (List.mem_of_getElem? (i := 54) rfl))) Via.refl e215 F_220 (g := (mkF m 13 #[.val (.ref a), .val (.ref el)] [(.ref a), (.ref el), (.ref a)])) rfl rfl (hb hby d9_13)
  refine Gl.st (g' := (mkF m 16 #[.val (.ref a), .val (.ref el)] [(.ref ar), (.ref el), (.ref a)])) (fun τ κ => st223 _ κ) ?_
  refine Gl.st (g' := (mkF m 17 #[.val (.ref a), .val (.ref el)] [(.ref a), (.ref ar), (.ref el), (.ref a)])) (fun τ κ => XS.aloadN X223.here hx rfl (hb hby d9_16) rfl rfl κ) ?_
  obtain ⟨T224, X224, e224, st224⟩ := getF X223 hx hZ hown (host := "") (Or.inl (hw _ (List.mem_of_getElem? (i := 79) rfl))) Via.refl e223 F_221 (g := (mkF m 17 #[.val (.ref a), .val (.ref el)] [(.ref a), (.ref ar), (.ref el), (.ref a)])) rfl rfl (hb hby d9_17)
  refine Gl.st (g' := (mkF m 20 #[.val (.ref a), .val (.ref el)] [(.int (3 : Int32)), (.ref ar), (.ref el), (.ref a)])) (fun τ κ => st224 _ κ) ?_
  obtain ⟨cq225, q225, q225'⟩ := E_216.cell
  obtain ⟨rv225, _, ⟨T225, L225, k225, n225⟩, -, X225, ⟨Lc225, hQ225, l225, y225, z225⟩, st225⟩ := X224.privateBack hx (y := (⟨"java/util/ArrayList", "add", "(Ljava/lang/Object;[Ljava/lang/Object;I)V"⟩ : MethodName)) hown (mvT hZ (hw _ (List.mem_of_getElem? (i := 81) rfl))) (mvT hZ (hw _ (List.mem_of_getElem? (i := 82) rfl))) (mvT hZ (hw _ (List.mem_of_getElem? (i := 84) rfl))) (Cond.privateMethod_at (mvP hZ (hw _ (List.mem_of_getElem? (i := 83) rfl)) (args := #[]))) (mvT hZ (hw _ (List.mem_of_getElem? (i := 85) rfl))) (by decide) (backOf (W := 0) (rm_Bh3 l Z a0 hw [] a el ar ka (mc + (1 : Int32)) vs h215 n0 Z215 E_216 g0 F_222 F_220 F_221 gar har V_218 OV E_217) hZ (hw _ (List.mem_of_getElem? (i := 85) rfl)) (hw _ (List.mem_of_getElem? (i := 34) rfl)) (by decide) (by decide)) (g := (mkF m 20 #[.val (.ref a), .val (.ref el)] [(.int (3 : Int32)), (.ref ar), (.ref el), (.ref a)])) rfl (by rw [hml]; rfl) (Steps.refl _) (a := a) (by rw [e224]; exact q225) q225' (argsL := [(.ref el), (.ref ar), (.int (3 : Int32))]) (rest := []) (lenOf pd_4 rfl) rfl (by show 2 * 0 + _ ≤ _; exact Nat.le_of_eq rfl) (hb hby d9_20) (fun _ _ => ⟨rfl, e224, (by decide : 0 + 0 ≤ _), (by decide : 0 + 0 ≤ _)⟩)
  dsimp only [Pt.U, Pt.locs, Pt.cells, Pt.slots] at X225 l225 y225 z225 st225 hQ225
  subst l225 y225 z225
  obtain ⟨vs225, rfl, N225q, Kc225, Ec225, FM225, FE225, FS225, V225⟩ := hQ225
  have E_226 := E_216.keep Kc225
  have E_227 := E_217.keep Kc225
  have N225 := Fr.app N215 N225q
  have Z225 : n0 ≤ T225.heap.size := Nat.le_trans Z215 Kc225.1
  have K225 : Keep h0 T225.heap [a, ar] := K215.trans Kc225 (allS (Or.inl (List.mem_of_getElem? (i := 0) rfl)) (allS (Or.inl (List.mem_of_getElem? (i := 1) rfl)) all0))
  refine Gl.st (g' := (mkF m 23 #[.val (.ref a), .val (.ref el)] [])) (fun τ κ => st225.trans κ) ?_
  refine Gl.st (g' := (mkF m 24 #[.val (.ref a), .val (.ref el)] [(.int (1 : Int32))])) (fun τ κ => XS.iconst X225.here hx rfl (hb hby d9_23) κ) ?_
  exact Gl.ret (v := some (.int (1 : Int32))) X225 Bd.notSynchronized (fun h => by rw [Bd.returns] at h; cases h) rfl (fun fs hr => retN X225 hx (t := .boolean) Bd.returns (by simp) (hb hby d9_24) hr) (by decide) (by decide) ⟨vs225, rfl, N225, K225, Ec225, FM225, FE225, FS225, V225⟩
theorem d8_0 : decode jdk_65_method_101_code 0 = .ok (.iconst 0, 1) := by decide +kernel
theorem d8_1 : decode jdk_65_method_101_code 1 = .ok (.istore_n 3, 1) := by decide +kernel
theorem d8_2 : decode jdk_65_method_101_code 2 = .ok (.aload_n 0, 1) := by decide +kernel
theorem d8_3 : decode jdk_65_method_101_code 3 = .ok (.arraylength, 1) := by decide +kernel
theorem d8_4 : decode jdk_65_method_101_code 4 = .ok (.istore 4, 2) := by decide +kernel
theorem d8_6 : decode jdk_65_method_101_code 6 = .ok (.iload_n 3, 1) := by decide +kernel
theorem d8_7 : decode jdk_65_method_101_code 7 = .ok (.iload 4, 2) := by decide +kernel
theorem d8_9 : decode jdk_65_method_101_code 9 = .ok (.if_icmp .ge 13, 3) := by decide +kernel
theorem d8_12 : decode jdk_65_method_101_code 12 = .ok (.aload_n 0, 1) := by decide +kernel
theorem d8_13 : decode jdk_65_method_101_code 13 = .ok (.iload_n 3, 1) := by decide +kernel
theorem d8_14 : decode jdk_65_method_101_code 14 = .ok (.lload_n 1, 1) := by decide +kernel
theorem d8_15 : decode jdk_65_method_101_code 15 = .ok (.lastore, 1) := by decide +kernel
theorem d8_16 : decode jdk_65_method_101_code 16 = .ok (.iinc 3 1, 3) := by decide +kernel
theorem d8_19 : decode jdk_65_method_101_code 19 = .ok (.goto (-13), 3) := by decide +kernel
theorem d8_22 : decode jdk_65_method_101_code 22 = .ok (.return_, 1) := by decide +kernel
theorem pn_java_util_Arrays : plainName "java/util/Arrays" = true := by first | (simp [plainName, overriddenIn]; done) | decide +kernel
theorem ef_rm_fill1 (m : MethodId) (t : Addr) (x : Int64) : entryFrame m #[(.ref t), (.long x)] 5 = mkF m 0 #[.val (.ref t), .val (.long x), .second, .unset, .unset] [] := by first | (simp [entryFrame, mkF, argsToLocals, Value.category]; done) | rfl
def Q_rm_fill1 (Z : State) (t : Addr) (x : Int64) (kc : ClassId) (h0 : Heap) (n0 : Nat) (v : Option Value) (h : Heap) (L : List Loc) : Prop := v = none ∧ Fr n0 L ∧ Keep h0 h [t] ∧ Arv Z h t kc .long (1 : Int32) [(.long x)] (.long (0 : Int64))
set_option maxRecDepth 65536 in
set_option maxHeartbeats 40000000 in
theorem rm_fill1 (l : Launch) (Z : State) (a0 : Array Value) (hw : ∀ d ∈ tables_1, d.before a0 Z = true) (ws : List Jvm.Cond) (t : Addr) (x : Int64) (kc : ClassId) (h0 : Heap) (n0 : Nat) (Z0 : n0 ≤ h0.size) (V0 : Arv Z h0 t kc .long (1 : Int32) [(.long (0 : Int64))] (.long (0 : Int64))) (gt : n0 ≤ t) :
    MetFree l (⟨"java/util/Arrays", "fill", "([JJ)V"⟩ : MethodName) (head1 (Jvm.Cond.code (⟨"java/util/Arrays", "fill", "([JJ)V"⟩ : MethodName) jdk_65_method_101_code 5 none :: ws) ({ frames := 0, cells := 0, slots := 0, locals := 0 } : Room)) (fun aα Uα => aα = #[(.ref t), (.long x)] ∧ Z.Warmed39 Uα.vm ∧ Uα.heap = h0) (fun _ _ _ _ _ => True) (fun _ Uα oα Uβ => ∃ vα Lα, oα = .returned vα ∧ Q_rm_fill1 Z t x kc h0 n0 vα Uβ.heap Lα ∧ FrameEnd Uα oα Uβ Lα ({ frames := 0, cells := 0, slots := 0, locals := 0 } : Room).cells ({ frames := 0, cells := 0, slots := 0, locals := 0 } : Room).slots) := by
  refine MetFree.of_bodySF (plainFor_of_name pn_java_util_Arrays) hisR ?_
  intro p e s m args below meth c s₁ Bd hml0 hP hKα
  obtain ⟨rfl, hZ, hh⟩ := hP
  have hx := Bd.exec
  have hby := Bd.bytes
  have hml : c.maxLocals = 5 := hml0
  have hown : s.vm.findClass "java/util/Arrays" = some m.cls := findClass_of_methodNamed Bd.named
  have hnm := (name_of_methodNamed Bd.named Bd.method).1
  have X0 : Stand p l e ({ frames := 0, cells := 0, slots := 0, locals := 0 } : Room) s m #[(.ref t), (.long x)] below meth c s₁ [] 0 0 := Stand.of_body Bd
  have e0 : s₁.heap = h0 := by rw [← hh, Bd.state]; rfl
  have N0 := Fr.nil n0
  suffices k0 : Gl p e below s (Q_rm_fill1 Z t x kc h0 n0) ({ frames := 0, cells := 0, slots := 0, locals := 0 } : Room).cells ({ frames := 0, cells := 0, slots := 0, locals := 0 } : Room).slots s₁ (mkF m 0 #[.val (.ref t), .val (.long x), .second, .unset, .unset] []) from Gl.st (fun τ κ => castTop (ef_rm_fill1 m t x) κ) k0
  refine Gl.st (g' := (mkF m 1 #[.val (.ref t), .val (.long x), .second, .unset, .unset] [(.int (0 : Int32))])) (fun τ κ => XS.iconst X0.here hx rfl (hb hby d8_0) κ) ?_
  refine Gl.st (g' := (mkF m 2 #[.val (.ref t), .val (.long x), .second, .val (.int (0 : Int32)), .unset] [])) (fun τ κ => XS.istoreN X0.here hx rfl (hb hby d8_1) rfl (l' := #[.val (.ref t), .val (.long x), .second, .val (.int (0 : Int32)), .unset]) rfl κ) ?_
  refine Gl.st (g' := (mkF m 3 #[.val (.ref t), .val (.long x), .second, .val (.int (0 : Int32)), .unset] [(.ref t)])) (fun τ κ => XS.aloadN X0.here hx rfl (hb hby d8_2) rfl rfl κ) ?_
  obtain ⟨cl_o232, Ar_o232, q_o232, S_o232, M_o232, H_o232, G_o232⟩ := id V0
  refine Gl.st (g' := (mkF m 4 #[.val (.ref t), .val (.long x), .second, .val (.int (0 : Int32)), .unset] [(.int (1 : Int32))])) (fun τ κ => X0.arraylength hx (by rw [e0]; exact Ar_o232.1) (State.isArrayOf_alike hZ.alike Ar_o232.2.1) (g := (mkF m 3 #[.val (.ref t), .val (.long x), .second, .val (.int (0 : Int32)), .unset] [(.ref t)])) rfl rfl (hb hby d8_3) _ (by rw [len_of S_o232 M_o232]; exact κ)) ?_
  refine Gl.st (g' := (mkF m 6 #[.val (.ref t), .val (.long x), .second, .val (.int (0 : Int32)), .val (.int (1 : Int32))] [])) (fun τ κ => XS.istore X0.here hx rfl (hb hby d8_4) rfl (l' := #[.val (.ref t), .val (.long x), .second, .val (.int (0 : Int32)), .val (.int (1 : Int32))]) rfl κ) ?_
  refine Gl.st (g' := (mkF m 7 #[.val (.ref t), .val (.long x), .second, .val (.int (0 : Int32)), .val (.int (1 : Int32))] [(.int (0 : Int32))])) (fun τ κ => XS.iloadN X0.here hx rfl (hb hby d8_6) rfl κ) ?_
  refine Gl.st (g' := (mkF m 9 #[.val (.ref t), .val (.long x), .second, .val (.int (0 : Int32)), .val (.int (1 : Int32))] [(.int (1 : Int32)), (.int (0 : Int32))])) (fun τ κ => XS.iload X0.here hx rfl (hb hby d8_7) rfl κ) ?_
  have hc233 : (0 : Int32) < (1 : Int32) := by decide
  refine Gl.st (g' := (mkF m 12 #[.val (.ref t), .val (.long x), .second, .val (.int (0 : Int32)), .val (.int (1 : Int32))] [])) (fun τ κ => XS.icmpNo X0.here hx rfl (hb hby d8_9) rfl (tlt hc233).2.1 κ) ?_
  refine Gl.st (g' := (mkF m 13 #[.val (.ref t), .val (.long x), .second, .val (.int (0 : Int32)), .val (.int (1 : Int32))] [(.ref t)])) (fun τ κ => XS.aloadN X0.here hx rfl (hb hby d8_12) rfl rfl κ) ?_
  refine Gl.st (g' := (mkF m 14 #[.val (.ref t), .val (.long x), .second, .val (.int (0 : Int32)), .val (.int (1 : Int32))] [(.int (0 : Int32)), (.ref t)])) (fun τ κ => XS.iloadN X0.here hx rfl (hb hby d8_13) rfl κ) ?_
  refine Gl.st (g' := (mkF m 15 #[.val (.ref t), .val (.long x), .second, .val (.int (0 : Int32)), .val (.int (1 : Int32))] [(.long x), (.int (0 : Int32)), (.ref t)])) (fun τ κ => XS.lloadN X0.here hx rfl (hb hby d8_14) rfl κ) ?_
  obtain ⟨cl_o234, Ar_o234, q_o234, S_o234, M_o234, H_o234, G_o234⟩ := id V0
  have hin_o234 : ¬ ((0 : Int32) < 0 ∨ cl_o234.slots.size ≤ ((0 : Int32)).toNatClampNeg) := inb_of S_o234 ⟨by decide, by decide⟩
  obtain ⟨T235, h235, X235, e235, W235, st235⟩ := stJ X0 hx hZ e0 Ar_o234 (j := (0 : Int32)) hin_o234 (g := (mkF m 15 #[.val (.ref t), .val (.long x), .second, .val (.int (0 : Int32)), .val (.int (1 : Int32))] [(.long x), (.int (0 : Int32)), (.ref t)])) rfl rfl (hb hby d8_15)
  have N235 := Fr.snoc X235 N0 gt
  have Z235 : n0 ≤ h235.size := Nat.le_trans Z0 (Nat.le_of_eq W235.size.symm)
  have K235 : Keep h0 h235 [t] := (Keep.refl h0 [t]).wr W235 (Or.inl (List.mem_of_getElem? (i := 0) rfl))
  have V_t_235 : Arv Z h235 t kc .long (1 : Int32) [(.long x)] (.long (0 : Int64)) := Arv.set Ar_o234 q_o234 S_o234 M_o234 H_o234 G_o234 rfl W235 0 rfl (Nat.le_of_ble_eq_true rfl)
  refine Gl.st (g' := (mkF m 16 #[.val (.ref t), .val (.long x), .second, .val (.int (0 : Int32)), .val (.int (1 : Int32))] [])) (fun τ κ => st235 _ κ) ?_
  refine Gl.st (g' := (mkF m 19 #[.val (.ref t), .val (.long x), .second, .val (.int (1 : Int32)), .val (.int (1 : Int32))] [])) (fun τ κ => XS.iinc X235.here hx rfl (hb hby d8_16) rfl (l' := #[.val (.ref t), .val (.long x), .second, .val (.int (1 : Int32)), .val (.int (1 : Int32))]) rfl κ) ?_
  refine Gl.st (g' := (mkF m 6 #[.val (.ref t), .val (.long x), .second, .val (.int (1 : Int32)), .val (.int (1 : Int32))] [])) (fun τ κ => XS.goto X235.here hx rfl (pc0 := 19) (pc' := 6) rfl (hb hby d8_19) (by decide) (by decide) κ) ?_
  refine Gl.st (g' := (mkF m 7 #[.val (.ref t), .val (.long x), .second, .val (.int (1 : Int32)), .val (.int (1 : Int32))] [(.int (1 : Int32))])) (fun τ κ => XS.iloadN X235.here hx rfl (hb hby d8_6) rfl κ) ?_
  refine Gl.st (g' := (mkF m 9 #[.val (.ref t), .val (.long x), .second, .val (.int (1 : Int32)), .val (.int (1 : Int32))] [(.int (1 : Int32)), (.int (1 : Int32))])) (fun τ κ => XS.iload X235.here hx rfl (hb hby d8_7) rfl κ) ?_
  have hc237 : ¬ ((1 : Int32) < (1 : Int32)) := by decide
  refine Gl.st (g' := (mkF m 22 #[.val (.ref t), .val (.long x), .second, .val (.int (1 : Int32)), .val (.int (1 : Int32))] [])) (fun τ κ => XS.icmpYes X235.here hx rfl (pc0 := 9) (pc' := 22) rfl (hb hby d8_9) rfl (flt hc237).2.1 (by decide) (by decide) κ) ?_
  exact Gl.ret (v := none) X235 Bd.notSynchronized (fun _ => rfl) e235 (fun fs hr => X235.returnOut hx Bd.returns (hb hby d8_22) hr) (by decide) (by decide) ⟨rfl, N235, K235, V_t_235⟩
theorem ef_rm_fill2 (m : MethodId) (t : Addr) (x : Int64) : entryFrame m #[(.ref t), (.long x)] 5 = mkF m 0 #[.val (.ref t), .val (.long x), .second, .unset, .unset] [] := by first | (simp [entryFrame, mkF, argsToLocals, Value.category]; done) | rfl
def Q_rm_fill2 (Z : State) (t : Addr) (x : Int64) (kc : ClassId) (h0 : Heap) (n0 : Nat) (v : Option Value) (h : Heap) (L : List Loc) : Prop := v = none ∧ Fr n0 L ∧ Keep h0 h [t] ∧ Arv Z h t kc .long (2 : Int32) [(.long x), (.long x)] (.long (0 : Int64))
set_option maxRecDepth 65536 in
set_option maxHeartbeats 40000000 in
theorem rm_fill2 (l : Launch) (Z : State) (a0 : Array Value) (hw : ∀ d ∈ tables_1, d.before a0 Z = true) (ws : List Jvm.Cond) (t : Addr) (x : Int64) (kc : ClassId) (h0 : Heap) (n0 : Nat) (Z0 : n0 ≤ h0.size) (V0 : Arv Z h0 t kc .long (2 : Int32) [(.long (0 : Int64)), (.long (0 : Int64))] (.long (0 : Int64))) (gt : n0 ≤ t) :
    MetFree l (⟨"java/util/Arrays", "fill", "([JJ)V"⟩ : MethodName) (head1 (Jvm.Cond.code (⟨"java/util/Arrays", "fill", "([JJ)V"⟩ : MethodName) jdk_65_method_101_code 5 none :: ws) ({ frames := 0, cells := 0, slots := 0, locals := 0 } : Room)) (fun aα Uα => aα = #[(.ref t), (.long x)] ∧ Z.Warmed39 Uα.vm ∧ Uα.heap = h0) (fun _ _ _ _ _ => True) (fun _ Uα oα Uβ => ∃ vα Lα, oα = .returned vα ∧ Q_rm_fill2 Z t x kc h0 n0 vα Uβ.heap Lα ∧ FrameEnd Uα oα Uβ Lα ({ frames := 0, cells := 0, slots := 0, locals := 0 } : Room).cells ({ frames := 0, cells := 0, slots := 0, locals := 0 } : Room).slots) := by
  refine MetFree.of_bodySF (plainFor_of_name pn_java_util_Arrays) hisR ?_
  intro p e s m args below meth c s₁ Bd hml0 hP hKα
  obtain ⟨rfl, hZ, hh⟩ := hP
  have hx := Bd.exec
  have hby := Bd.bytes
  have hml : c.maxLocals = 5 := hml0
  have hown : s.vm.findClass "java/util/Arrays" = some m.cls := findClass_of_methodNamed Bd.named
  have hnm := (name_of_methodNamed Bd.named Bd.method).1
  have X0 : Stand p l e ({ frames := 0, cells := 0, slots := 0, locals := 0 } : Room) s m #[(.ref t), (.long x)] below meth c s₁ [] 0 0 := Stand.of_body Bd
  have e0 : s₁.heap = h0 := by rw [← hh, Bd.state]; rfl
  have N0 := Fr.nil n0
  suffices k0 : Gl p e below s (Q_rm_fill2 Z t x kc h0 n0) ({ frames := 0, cells := 0, slots := 0, locals := 0 } : Room).cells ({ frames := 0, cells := 0, slots := 0, locals := 0 } : Room).slots s₁ (mkF m 0 #[.val (.ref t), .val (.long x), .second, .unset, .unset] []) from Gl.st (fun τ κ => castTop (ef_rm_fill2 m t x) κ) k0
  refine Gl.st (g' := (mkF m 1 #[.val (.ref t), .val (.long x), .second, .unset, .unset] [(.int (0 : Int32))])) (fun τ κ => XS.iconst X0.here hx rfl (hb hby d8_0) κ) ?_
  refine Gl.st (g' := (mkF m 2 #[.val (.ref t), .val (.long x), .second, .val (.int (0 : Int32)), .unset] [])) (fun τ κ => XS.istoreN X0.here hx rfl (hb hby d8_1) rfl (l' := #[.val (.ref t), .val (.long x), .second, .val (.int (0 : Int32)), .unset]) rfl κ) ?_
  refine Gl.st (g' := (mkF m 3 #[.val (.ref t), .val (.long x), .second, .val (.int (0 : Int32)), .unset] [(.ref t)])) (fun τ κ => XS.aloadN X0.here hx rfl (hb hby d8_2) rfl rfl κ) ?_
  obtain ⟨cl_o238, Ar_o238, q_o238, S_o238, M_o238, H_o238, G_o238⟩ := id V0
  refine Gl.st (g' := (mkF m 4 #[.val (.ref t), .val (.long x), .second, .val (.int (0 : Int32)), .unset] [(.int (2 : Int32))])) (fun τ κ => X0.arraylength hx (by rw [e0]; exact Ar_o238.1) (State.isArrayOf_alike hZ.alike Ar_o238.2.1) (g := (mkF m 3 #[.val (.ref t), .val (.long x), .second, .val (.int (0 : Int32)), .unset] [(.ref t)])) rfl rfl (hb hby d8_3) _ (by rw [len_of S_o238 M_o238]; exact κ)) ?_
  refine Gl.st (g' := (mkF m 6 #[.val (.ref t), .val (.long x), .second, .val (.int (0 : Int32)), .val (.int (2 : Int32))] [])) (fun τ κ => XS.istore X0.here hx rfl (hb hby d8_4) rfl (l' := #[.val (.ref t), .val (.long x), .second, .val (.int (0 : Int32)), .val (.int (2 : Int32))]) rfl κ) ?_
  refine Gl.st (g' := (mkF m 7 #[.val (.ref t), .val (.long x), .second, .val (.int (0 : Int32)), .val (.int (2 : Int32))] [(.int (0 : Int32))])) (fun τ κ => XS.iloadN X0.here hx rfl (hb hby d8_6) rfl κ) ?_
  refine Gl.st (g' := (mkF m 9 #[.val (.ref t), .val (.long x), .second, .val (.int (0 : Int32)), .val (.int (2 : Int32))] [(.int (2 : Int32)), (.int (0 : Int32))])) (fun τ κ => XS.iload X0.here hx rfl (hb hby d8_7) rfl κ) ?_
  have hc239 : (0 : Int32) < (2 : Int32) := by decide
  refine Gl.st (g' := (mkF m 12 #[.val (.ref t), .val (.long x), .second, .val (.int (0 : Int32)), .val (.int (2 : Int32))] [])) (fun τ κ => XS.icmpNo X0.here hx rfl (hb hby d8_9) rfl (tlt hc239).2.1 κ) ?_
  refine Gl.st (g' := (mkF m 13 #[.val (.ref t), .val (.long x), .second, .val (.int (0 : Int32)), .val (.int (2 : Int32))] [(.ref t)])) (fun τ κ => XS.aloadN X0.here hx rfl (hb hby d8_12) rfl rfl κ) ?_
  refine Gl.st (g' := (mkF m 14 #[.val (.ref t), .val (.long x), .second, .val (.int (0 : Int32)), .val (.int (2 : Int32))] [(.int (0 : Int32)), (.ref t)])) (fun τ κ => XS.iloadN X0.here hx rfl (hb hby d8_13) rfl κ) ?_
  refine Gl.st (g' := (mkF m 15 #[.val (.ref t), .val (.long x), .second, .val (.int (0 : Int32)), .val (.int (2 : Int32))] [(.long x), (.int (0 : Int32)), (.ref t)])) (fun τ κ => XS.lloadN X0.here hx rfl (hb hby d8_14) rfl κ) ?_
  obtain ⟨cl_o240, Ar_o240, q_o240, S_o240, M_o240, H_o240, G_o240⟩ := id V0
  have hin_o240 : ¬ ((0 : Int32) < 0 ∨ cl_o240.slots.size ≤ ((0 : Int32)).toNatClampNeg) := inb_of S_o240 ⟨by decide, by decide⟩
  obtain ⟨T241, h241, X241, e241, W241, st241⟩ := stJ X0 hx hZ e0 Ar_o240 (j := (0 : Int32)) hin_o240 (g := (mkF m 15 #[.val (.ref t), .val (.long x), .second, .val (.int (0 : Int32)), .val (.int (2 : Int32))] [(.long x), (.int (0 : Int32)), (.ref t)])) rfl rfl (hb hby d8_15)
  have N241 := Fr.snoc X241 N0 gt
  have Z241 : n0 ≤ h241.size := Nat.le_trans Z0 (Nat.le_of_eq W241.size.symm)
  have K241 : Keep h0 h241 [t] := (Keep.refl h0 [t]).wr W241 (Or.inl (List.mem_of_getElem? (i := 0) rfl))
  have V_t_241 : Arv Z h241 t kc .long (2 : Int32) [(.long x), (.long (0 : Int64))] (.long (0 : Int64)) := Arv.set Ar_o240 q_o240 S_o240 M_o240 H_o240 G_o240 rfl W241 0 rfl (Nat.le_of_ble_eq_true rfl)
  refine Gl.st (g' := (mkF m 16 #[.val (.ref t), .val (.long x), .second, .val (.int (0 : Int32)), .val (.int (2 : Int32))] [])) (fun τ κ => st241 _ κ) ?_
  refine Gl.st (g' := (mkF m 19 #[.val (.ref t), .val (.long x), .second, .val (.int (1 : Int32)), .val (.int (2 : Int32))] [])) (fun τ κ => XS.iinc X241.here hx rfl (hb hby d8_16) rfl (l' := #[.val (.ref t), .val (.long x), .second, .val (.int (1 : Int32)), .val (.int (2 : Int32))]) rfl κ) ?_
  refine Gl.st (g' := (mkF m 6 #[.val (.ref t), .val (.long x), .second, .val (.int (1 : Int32)), .val (.int (2 : Int32))] [])) (fun τ κ => XS.goto X241.here hx rfl (pc0 := 19) (pc' := 6) rfl (hb hby d8_19) (by decide) (by decide) κ) ?_
  refine Gl.st (g' := (mkF m 7 #[.val (.ref t), .val (.long x), .second, .val (.int (1 : Int32)), .val (.int (2 : Int32))] [(.int (1 : Int32))])) (fun τ κ => XS.iloadN X241.here hx rfl (hb hby d8_6) rfl κ) ?_
  refine Gl.st (g' := (mkF m 9 #[.val (.ref t), .val (.long x), .second, .val (.int (1 : Int32)), .val (.int (2 : Int32))] [(.int (2 : Int32)), (.int (1 : Int32))])) (fun τ κ => XS.iload X241.here hx rfl (hb hby d8_7) rfl κ) ?_
  have hc243 : (1 : Int32) < (2 : Int32) := by decide
  refine Gl.st (g' := (mkF m 12 #[.val (.ref t), .val (.long x), .second, .val (.int (1 : Int32)), .val (.int (2 : Int32))] [])) (fun τ κ => XS.icmpNo X241.here hx rfl (hb hby d8_9) rfl (tlt hc243).2.1 κ) ?_
  refine Gl.st (g' := (mkF m 13 #[.val (.ref t), .val (.long x), .second, .val (.int (1 : Int32)), .val (.int (2 : Int32))] [(.ref t)])) (fun τ κ => XS.aloadN X241.here hx rfl (hb hby d8_12) rfl rfl κ) ?_
  refine Gl.st (g' := (mkF m 14 #[.val (.ref t), .val (.long x), .second, .val (.int (1 : Int32)), .val (.int (2 : Int32))] [(.int (1 : Int32)), (.ref t)])) (fun τ κ => XS.iloadN X241.here hx rfl (hb hby d8_13) rfl κ) ?_
  refine Gl.st (g' := (mkF m 15 #[.val (.ref t), .val (.long x), .second, .val (.int (1 : Int32)), .val (.int (2 : Int32))] [(.long x), (.int (1 : Int32)), (.ref t)])) (fun τ κ => XS.lloadN X241.here hx rfl (hb hby d8_14) rfl κ) ?_
  obtain ⟨cl_o244, Ar_o244, q_o244, S_o244, M_o244, H_o244, G_o244⟩ := id V_t_241
  have hin_o244 : ¬ ((1 : Int32) < 0 ∨ cl_o244.slots.size ≤ ((1 : Int32)).toNatClampNeg) := inb_of S_o244 ⟨by decide, by decide⟩
  obtain ⟨T245, h245, X245, e245, W245, st245⟩ := stJ X241 hx hZ e241 Ar_o244 (j := (1 : Int32)) hin_o244 (g := (mkF m 15 #[.val (.ref t), .val (.long x), .second, .val (.int (1 : Int32)), .val (.int (2 : Int32))] [(.long x), (.int (1 : Int32)), (.ref t)])) rfl rfl (hb hby d8_15)
  have N245 := Fr.snoc X245 N241 gt
  have Z245 : n0 ≤ h245.size := Nat.le_trans Z241 (Nat.le_of_eq W245.size.symm)
  have K245 : Keep h0 h245 [t] := K241.wr W245 (Or.inl (List.mem_of_getElem? (i := 0) rfl))
  have V_t_245 : Arv Z h245 t kc .long (2 : Int32) [(.long x), (.long x)] (.long (0 : Int64)) := Arv.set Ar_o244 q_o244 S_o244 M_o244 H_o244 G_o244 rfl W245 1 rfl (Nat.le_of_ble_eq_true rfl)
  refine Gl.st (g' := (mkF m 16 #[.val (.ref t), .val (.long x), .second, .val (.int (1 : Int32)), .val (.int (2 : Int32))] [])) (fun τ κ => st245 _ κ) ?_
  refine Gl.st (g' := (mkF m 19 #[.val (.ref t), .val (.long x), .second, .val (.int (2 : Int32)), .val (.int (2 : Int32))] [])) (fun τ κ => XS.iinc X245.here hx rfl (hb hby d8_16) rfl (l' := #[.val (.ref t), .val (.long x), .second, .val (.int (2 : Int32)), .val (.int (2 : Int32))]) rfl κ) ?_
  refine Gl.st (g' := (mkF m 6 #[.val (.ref t), .val (.long x), .second, .val (.int (2 : Int32)), .val (.int (2 : Int32))] [])) (fun τ κ => XS.goto X245.here hx rfl (pc0 := 19) (pc' := 6) rfl (hb hby d8_19) (by decide) (by decide) κ) ?_
  refine Gl.st (g' := (mkF m 7 #[.val (.ref t), .val (.long x), .second, .val (.int (2 : Int32)), .val (.int (2 : Int32))] [(.int (2 : Int32))])) (fun τ κ => XS.iloadN X245.here hx rfl (hb hby d8_6) rfl κ) ?_
  refine Gl.st (g' := (mkF m 9 #[.val (.ref t), .val (.long x), .second, .val (.int (2 : Int32)), .val (.int (2 : Int32))] [(.int (2 : Int32)), (.int (2 : Int32))])) (fun τ κ => XS.iload X245.here hx rfl (hb hby d8_7) rfl κ) ?_
  have hc247 : ¬ ((2 : Int32) < (2 : Int32)) := by decide
  refine Gl.st (g' := (mkF m 22 #[.val (.ref t), .val (.long x), .second, .val (.int (2 : Int32)), .val (.int (2 : Int32))] [])) (fun τ κ => XS.icmpYes X245.here hx rfl (pc0 := 9) (pc' := 22) rfl (hb hby d8_9) rfl (flt hc247).2.1 (by decide) (by decide) κ) ?_
  exact Gl.ret (v := none) X245 Bd.notSynchronized (fun _ => rfl) e245 (fun fs hr => X245.returnOut hx Bd.returns (hb hby d8_22) hr) (by decide) (by decide) ⟨rfl, N245, K245, V_t_245⟩
theorem ef_rm_fill3 (m : MethodId) (t : Addr) (x : Int64) : entryFrame m #[(.ref t), (.long x)] 5 = mkF m 0 #[.val (.ref t), .val (.long x), .second, .unset, .unset] [] := by first | (simp [entryFrame, mkF, argsToLocals, Value.category]; done) | rfl
def Q_rm_fill3 (Z : State) (t : Addr) (x : Int64) (kc : ClassId) (h0 : Heap) (n0 : Nat) (v : Option Value) (h : Heap) (L : List Loc) : Prop := v = none ∧ Fr n0 L ∧ Keep h0 h [t] ∧ Arv Z h t kc .long (3 : Int32) [(.long x), (.long x), (.long x)] (.long (0 : Int64))
set_option maxRecDepth 65536 in
set_option maxHeartbeats 40000000 in
theorem rm_fill3 (l : Launch) (Z : State) (a0 : Array Value) (hw : ∀ d ∈ tables_1, d.before a0 Z = true) (ws : List Jvm.Cond) (t : Addr) (x : Int64) (kc : ClassId) (h0 : Heap) (n0 : Nat) (Z0 : n0 ≤ h0.size) (V0 : Arv Z h0 t kc .long (3 : Int32) [(.long (0 : Int64)), (.long (0 : Int64)), (.long (0 : Int64))] (.long (0 : Int64))) (gt : n0 ≤ t) :
    MetFree l (⟨"java/util/Arrays", "fill", "([JJ)V"⟩ : MethodName) (head1 (Jvm.Cond.code (⟨"java/util/Arrays", "fill", "([JJ)V"⟩ : MethodName) jdk_65_method_101_code 5 none :: ws) ({ frames := 0, cells := 0, slots := 0, locals := 0 } : Room)) (fun aα Uα => aα = #[(.ref t), (.long x)] ∧ Z.Warmed39 Uα.vm ∧ Uα.heap = h0) (fun _ _ _ _ _ => True) (fun _ Uα oα Uβ => ∃ vα Lα, oα = .returned vα ∧ Q_rm_fill3 Z t x kc h0 n0 vα Uβ.heap Lα ∧ FrameEnd Uα oα Uβ Lα ({ frames := 0, cells := 0, slots := 0, locals := 0 } : Room).cells ({ frames := 0, cells := 0, slots := 0, locals := 0 } : Room).slots) := by
  refine MetFree.of_bodySF (plainFor_of_name pn_java_util_Arrays) hisR ?_
  intro p e s m args below meth c s₁ Bd hml0 hP hKα
  obtain ⟨rfl, hZ, hh⟩ := hP
  have hx := Bd.exec
  have hby := Bd.bytes
  have hml : c.maxLocals = 5 := hml0
  have hown : s.vm.findClass "java/util/Arrays" = some m.cls := findClass_of_methodNamed Bd.named
  have hnm := (name_of_methodNamed Bd.named Bd.method).1
  have X0 : Stand p l e ({ frames := 0, cells := 0, slots := 0, locals := 0 } : Room) s m #[(.ref t), (.long x)] below meth c s₁ [] 0 0 := Stand.of_body Bd
  have e0 : s₁.heap = h0 := by rw [← hh, Bd.state]; rfl
  have N0 := Fr.nil n0
  suffices k0 : Gl p e below s (Q_rm_fill3 Z t x kc h0 n0) ({ frames := 0, cells := 0, slots := 0, locals := 0 } : Room).cells ({ frames := 0, cells := 0, slots := 0, locals := 0 } : Room).slots s₁ (mkF m 0 #[.val (.ref t), .val (.long x), .second, .unset, .unset] []) from Gl.st (fun τ κ => castTop (ef_rm_fill3 m t x) κ) k0
  refine Gl.st (g' := (mkF m 1 #[.val (.ref t), .val (.long x), .second, .unset, .unset] [(.int (0 : Int32))])) (fun τ κ => XS.iconst X0.here hx rfl (hb hby d8_0) κ) ?_
  refine Gl.st (g' := (mkF m 2 #[.val (.ref t), .val (.long x), .second, .val (.int (0 : Int32)), .unset] [])) (fun τ κ => XS.istoreN X0.here hx rfl (hb hby d8_1) rfl (l' := #[.val (.ref t), .val (.long x), .second, .val (.int (0 : Int32)), .unset]) rfl κ) ?_
  refine Gl.st (g' := (mkF m 3 #[.val (.ref t), .val (.long x), .second, .val (.int (0 : Int32)), .unset] [(.ref t)])) (fun τ κ => XS.aloadN X0.here hx rfl (hb hby d8_2) rfl rfl κ) ?_
  obtain ⟨cl_o248, Ar_o248, q_o248, S_o248, M_o248, H_o248, G_o248⟩ := id V0
  refine Gl.st (g' := (mkF m 4 #[.val (.ref t), .val (.long x), .second, .val (.int (0 : Int32)), .unset] [(.int (3 : Int32))])) (fun τ κ => X0.arraylength hx (by rw [e0]; exact Ar_o248.1) (State.isArrayOf_alike hZ.alike Ar_o248.2.1) (g := (mkF m 3 #[.val (.ref t), .val (.long x), .second, .val (.int (0 : Int32)), .unset] [(.ref t)])) rfl rfl (hb hby d8_3) _ (by rw [len_of S_o248 M_o248]; exact κ)) ?_
  refine Gl.st (g' := (mkF m 6 #[.val (.ref t), .val (.long x), .second, .val (.int (0 : Int32)), .val (.int (3 : Int32))] [])) (fun τ κ => XS.istore X0.here hx rfl (hb hby d8_4) rfl (l' := #[.val (.ref t), .val (.long x), .second, .val (.int (0 : Int32)), .val (.int (3 : Int32))]) rfl κ) ?_
  refine Gl.st (g' := (mkF m 7 #[.val (.ref t), .val (.long x), .second, .val (.int (0 : Int32)), .val (.int (3 : Int32))] [(.int (0 : Int32))])) (fun τ κ => XS.iloadN X0.here hx rfl (hb hby d8_6) rfl κ) ?_
  refine Gl.st (g' := (mkF m 9 #[.val (.ref t), .val (.long x), .second, .val (.int (0 : Int32)), .val (.int (3 : Int32))] [(.int (3 : Int32)), (.int (0 : Int32))])) (fun τ κ => XS.iload X0.here hx rfl (hb hby d8_7) rfl κ) ?_
  have hc249 : (0 : Int32) < (3 : Int32) := by decide
  refine Gl.st (g' := (mkF m 12 #[.val (.ref t), .val (.long x), .second, .val (.int (0 : Int32)), .val (.int (3 : Int32))] [])) (fun τ κ => XS.icmpNo X0.here hx rfl (hb hby d8_9) rfl (tlt hc249).2.1 κ) ?_
  refine Gl.st (g' := (mkF m 13 #[.val (.ref t), .val (.long x), .second, .val (.int (0 : Int32)), .val (.int (3 : Int32))] [(.ref t)])) (fun τ κ => XS.aloadN X0.here hx rfl (hb hby d8_12) rfl rfl κ) ?_
  refine Gl.st (g' := (mkF m 14 #[.val (.ref t), .val (.long x), .second, .val (.int (0 : Int32)), .val (.int (3 : Int32))] [(.int (0 : Int32)), (.ref t)])) (fun τ κ => XS.iloadN X0.here hx rfl (hb hby d8_13) rfl κ) ?_
  refine Gl.st (g' := (mkF m 15 #[.val (.ref t), .val (.long x), .second, .val (.int (0 : Int32)), .val (.int (3 : Int32))] [(.long x), (.int (0 : Int32)), (.ref t)])) (fun τ κ => XS.lloadN X0.here hx rfl (hb hby d8_14) rfl κ) ?_
  obtain ⟨cl_o250, Ar_o250, q_o250, S_o250, M_o250, H_o250, G_o250⟩ := id V0
  have hin_o250 : ¬ ((0 : Int32) < 0 ∨ cl_o250.slots.size ≤ ((0 : Int32)).toNatClampNeg) := inb_of S_o250 ⟨by decide, by decide⟩
  obtain ⟨T251, h251, X251, e251, W251, st251⟩ := stJ X0 hx hZ e0 Ar_o250 (j := (0 : Int32)) hin_o250 (g := (mkF m 15 #[.val (.ref t), .val (.long x), .second, .val (.int (0 : Int32)), .val (.int (3 : Int32))] [(.long x), (.int (0 : Int32)), (.ref t)])) rfl rfl (hb hby d8_15)
  have N251 := Fr.snoc X251 N0 gt
  have Z251 : n0 ≤ h251.size := Nat.le_trans Z0 (Nat.le_of_eq W251.size.symm)
  have K251 : Keep h0 h251 [t] := (Keep.refl h0 [t]).wr W251 (Or.inl (List.mem_of_getElem? (i := 0) rfl))
  have V_t_251 : Arv Z h251 t kc .long (3 : Int32) [(.long x), (.long (0 : Int64)), (.long (0 : Int64))] (.long (0 : Int64)) := Arv.set Ar_o250 q_o250 S_o250 M_o250 H_o250 G_o250 rfl W251 0 rfl (Nat.le_of_ble_eq_true rfl)
  refine Gl.st (g' := (mkF m 16 #[.val (.ref t), .val (.long x), .second, .val (.int (0 : Int32)), .val (.int (3 : Int32))] [])) (fun τ κ => st251 _ κ) ?_
  refine Gl.st (g' := (mkF m 19 #[.val (.ref t), .val (.long x), .second, .val (.int (1 : Int32)), .val (.int (3 : Int32))] [])) (fun τ κ => XS.iinc X251.here hx rfl (hb hby d8_16) rfl (l' := #[.val (.ref t), .val (.long x), .second, .val (.int (1 : Int32)), .val (.int (3 : Int32))]) rfl κ) ?_
  refine Gl.st (g' := (mkF m 6 #[.val (.ref t), .val (.long x), .second, .val (.int (1 : Int32)), .val (.int (3 : Int32))] [])) (fun τ κ => XS.goto X251.here hx rfl (pc0 := 19) (pc' := 6) rfl (hb hby d8_19) (by decide) (by decide) κ) ?_
  refine Gl.st (g' := (mkF m 7 #[.val (.ref t), .val (.long x), .second, .val (.int (1 : Int32)), .val (.int (3 : Int32))] [(.int (1 : Int32))])) (fun τ κ => XS.iloadN X251.here hx rfl (hb hby d8_6) rfl κ) ?_
  refine Gl.st (g' := (mkF m 9 #[.val (.ref t), .val (.long x), .second, .val (.int (1 : Int32)), .val (.int (3 : Int32))] [(.int (3 : Int32)), (.int (1 : Int32))])) (fun τ κ => XS.iload X251.here hx rfl (hb hby d8_7) rfl κ) ?_
  have hc253 : (1 : Int32) < (3 : Int32) := by decide
  refine Gl.st (g' := (mkF m 12 #[.val (.ref t), .val (.long x), .second, .val (.int (1 : Int32)), .val (.int (3 : Int32))] [])) (fun τ κ => XS.icmpNo X251.here hx rfl (hb hby d8_9) rfl (tlt hc253).2.1 κ) ?_
  refine Gl.st (g' := (mkF m 13 #[.val (.ref t), .val (.long x), .second, .val (.int (1 : Int32)), .val (.int (3 : Int32))] [(.ref t)])) (fun τ κ => XS.aloadN X251.here hx rfl (hb hby d8_12) rfl rfl κ) ?_
  refine Gl.st (g' := (mkF m 14 #[.val (.ref t), .val (.long x), .second, .val (.int (1 : Int32)), .val (.int (3 : Int32))] [(.int (1 : Int32)), (.ref t)])) (fun τ κ => XS.iloadN X251.here hx rfl (hb hby d8_13) rfl κ) ?_
  refine Gl.st (g' := (mkF m 15 #[.val (.ref t), .val (.long x), .second, .val (.int (1 : Int32)), .val (.int (3 : Int32))] [(.long x), (.int (1 : Int32)), (.ref t)])) (fun τ κ => XS.lloadN X251.here hx rfl (hb hby d8_14) rfl κ) ?_
  obtain ⟨cl_o254, Ar_o254, q_o254, S_o254, M_o254, H_o254, G_o254⟩ := id V_t_251
  have hin_o254 : ¬ ((1 : Int32) < 0 ∨ cl_o254.slots.size ≤ ((1 : Int32)).toNatClampNeg) := inb_of S_o254 ⟨by decide, by decide⟩
  obtain ⟨T255, h255, X255, e255, W255, st255⟩ := stJ X251 hx hZ e251 Ar_o254 (j := (1 : Int32)) hin_o254 (g := (mkF m 15 #[.val (.ref t), .val (.long x), .second, .val (.int (1 : Int32)), .val (.int (3 : Int32))] [(.long x), (.int (1 : Int32)), (.ref t)])) rfl rfl (hb hby d8_15)
  have N255 := Fr.snoc X255 N251 gt
  have Z255 : n0 ≤ h255.size := Nat.le_trans Z251 (Nat.le_of_eq W255.size.symm)
  have K255 : Keep h0 h255 [t] := K251.wr W255 (Or.inl (List.mem_of_getElem? (i := 0) rfl))
  have V_t_255 : Arv Z h255 t kc .long (3 : Int32) [(.long x), (.long x), (.long (0 : Int64))] (.long (0 : Int64)) := Arv.set Ar_o254 q_o254 S_o254 M_o254 H_o254 G_o254 rfl W255 1 rfl (Nat.le_of_ble_eq_true rfl)
  refine Gl.st (g' := (mkF m 16 #[.val (.ref t), .val (.long x), .second, .val (.int (1 : Int32)), .val (.int (3 : Int32))] [])) (fun τ κ => st255 _ κ) ?_
  refine Gl.st (g' := (mkF m 19 #[.val (.ref t), .val (.long x), .second, .val (.int (2 : Int32)), .val (.int (3 : Int32))] [])) (fun τ κ => XS.iinc X255.here hx rfl (hb hby d8_16) rfl (l' := #[.val (.ref t), .val (.long x), .second, .val (.int (2 : Int32)), .val (.int (3 : Int32))]) rfl κ) ?_
  refine Gl.st (g' := (mkF m 6 #[.val (.ref t), .val (.long x), .second, .val (.int (2 : Int32)), .val (.int (3 : Int32))] [])) (fun τ κ => XS.goto X255.here hx rfl (pc0 := 19) (pc' := 6) rfl (hb hby d8_19) (by decide) (by decide) κ) ?_
  refine Gl.st (g' := (mkF m 7 #[.val (.ref t), .val (.long x), .second, .val (.int (2 : Int32)), .val (.int (3 : Int32))] [(.int (2 : Int32))])) (fun τ κ => XS.iloadN X255.here hx rfl (hb hby d8_6) rfl κ) ?_
  refine Gl.st (g' := (mkF m 9 #[.val (.ref t), .val (.long x), .second, .val (.int (2 : Int32)), .val (.int (3 : Int32))] [(.int (3 : Int32)), (.int (2 : Int32))])) (fun τ κ => XS.iload X255.here hx rfl (hb hby d8_7) rfl κ) ?_
  have hc257 : (2 : Int32) < (3 : Int32) := by decide
  refine Gl.st (g' := (mkF m 12 #[.val (.ref t), .val (.long x), .second, .val (.int (2 : Int32)), .val (.int (3 : Int32))] [])) (fun τ κ => XS.icmpNo X255.here hx rfl (hb hby d8_9) rfl (tlt hc257).2.1 κ) ?_
  refine Gl.st (g' := (mkF m 13 #[.val (.ref t), .val (.long x), .second, .val (.int (2 : Int32)), .val (.int (3 : Int32))] [(.ref t)])) (fun τ κ => XS.aloadN X255.here hx rfl (hb hby d8_12) rfl rfl κ) ?_
  refine Gl.st (g' := (mkF m 14 #[.val (.ref t), .val (.long x), .second, .val (.int (2 : Int32)), .val (.int (3 : Int32))] [(.int (2 : Int32)), (.ref t)])) (fun τ κ => XS.iloadN X255.here hx rfl (hb hby d8_13) rfl κ) ?_
  refine Gl.st (g' := (mkF m 15 #[.val (.ref t), .val (.long x), .second, .val (.int (2 : Int32)), .val (.int (3 : Int32))] [(.long x), (.int (2 : Int32)), (.ref t)])) (fun τ κ => XS.lloadN X255.here hx rfl (hb hby d8_14) rfl κ) ?_
  obtain ⟨cl_o258, Ar_o258, q_o258, S_o258, M_o258, H_o258, G_o258⟩ := id V_t_255
  have hin_o258 : ¬ ((2 : Int32) < 0 ∨ cl_o258.slots.size ≤ ((2 : Int32)).toNatClampNeg) := inb_of S_o258 ⟨by decide, by decide⟩
  obtain ⟨T259, h259, X259, e259, W259, st259⟩ := stJ X255 hx hZ e255 Ar_o258 (j := (2 : Int32)) hin_o258 (g := (mkF m 15 #[.val (.ref t), .val (.long x), .second, .val (.int (2 : Int32)), .val (.int (3 : Int32))] [(.long x), (.int (2 : Int32)), (.ref t)])) rfl rfl (hb hby d8_15)
  have N259 := Fr.snoc X259 N255 gt
  have Z259 : n0 ≤ h259.size := Nat.le_trans Z255 (Nat.le_of_eq W259.size.symm)
  have K259 : Keep h0 h259 [t] := K255.wr W259 (Or.inl (List.mem_of_getElem? (i := 0) rfl))
  have V_t_259 : Arv Z h259 t kc .long (3 : Int32) [(.long x), (.long x), (.long x)] (.long (0 : Int64)) := Arv.set Ar_o258 q_o258 S_o258 M_o258 H_o258 G_o258 rfl W259 2 rfl (Nat.le_of_ble_eq_true rfl)
  refine Gl.st (g' := (mkF m 16 #[.val (.ref t), .val (.long x), .second, .val (.int (2 : Int32)), .val (.int (3 : Int32))] [])) (fun τ κ => st259 _ κ) ?_
  refine Gl.st (g' := (mkF m 19 #[.val (.ref t), .val (.long x), .second, .val (.int (3 : Int32)), .val (.int (3 : Int32))] [])) (fun τ κ => XS.iinc X259.here hx rfl (hb hby d8_16) rfl (l' := #[.val (.ref t), .val (.long x), .second, .val (.int (3 : Int32)), .val (.int (3 : Int32))]) rfl κ) ?_
  refine Gl.st (g' := (mkF m 6 #[.val (.ref t), .val (.long x), .second, .val (.int (3 : Int32)), .val (.int (3 : Int32))] [])) (fun τ κ => XS.goto X259.here hx rfl (pc0 := 19) (pc' := 6) rfl (hb hby d8_19) (by decide) (by decide) κ) ?_
  refine Gl.st (g' := (mkF m 7 #[.val (.ref t), .val (.long x), .second, .val (.int (3 : Int32)), .val (.int (3 : Int32))] [(.int (3 : Int32))])) (fun τ κ => XS.iloadN X259.here hx rfl (hb hby d8_6) rfl κ) ?_
  refine Gl.st (g' := (mkF m 9 #[.val (.ref t), .val (.long x), .second, .val (.int (3 : Int32)), .val (.int (3 : Int32))] [(.int (3 : Int32)), (.int (3 : Int32))])) (fun τ κ => XS.iload X259.here hx rfl (hb hby d8_7) rfl κ) ?_
  have hc261 : ¬ ((3 : Int32) < (3 : Int32)) := by decide
  refine Gl.st (g' := (mkF m 22 #[.val (.ref t), .val (.long x), .second, .val (.int (3 : Int32)), .val (.int (3 : Int32))] [])) (fun τ κ => XS.icmpYes X259.here hx rfl (pc0 := 9) (pc' := 22) rfl (hb hby d8_9) rfl (flt hc261).2.1 (by decide) (by decide) κ) ?_
  exact Gl.ret (v := none) X259 Bd.notSynchronized (fun _ => rfl) e259 (fun fs hr => X259.returnOut hx Bd.returns (hb hby d8_22) hr) (by decide) (by decide) ⟨rfl, N259, K259, V_t_259⟩
theorem ef_rm_fill4 (m : MethodId) (t : Addr) (x : Int64) : entryFrame m #[(.ref t), (.long x)] 5 = mkF m 0 #[.val (.ref t), .val (.long x), .second, .unset, .unset] [] := by first | (simp [entryFrame, mkF, argsToLocals, Value.category]; done) | rfl
def Q_rm_fill4 (Z : State) (t : Addr) (x : Int64) (kc : ClassId) (h0 : Heap) (n0 : Nat) (v : Option Value) (h : Heap) (L : List Loc) : Prop := v = none ∧ Fr n0 L ∧ Keep h0 h [t] ∧ Arv Z h t kc .long (4 : Int32) [(.long x), (.long x), (.long x), (.long x)] (.long (0 : Int64))
set_option maxRecDepth 65536 in
set_option maxHeartbeats 40000000 in
theorem rm_fill4 (l : Launch) (Z : State) (a0 : Array Value) (hw : ∀ d ∈ tables_1, d.before a0 Z = true) (ws : List Jvm.Cond) (t : Addr) (x : Int64) (kc : ClassId) (h0 : Heap) (n0 : Nat) (Z0 : n0 ≤ h0.size) (V0 : Arv Z h0 t kc .long (4 : Int32) [(.long (0 : Int64)), (.long (0 : Int64)), (.long (0 : Int64)), (.long (0 : Int64))] (.long (0 : Int64))) (gt : n0 ≤ t) :
    MetFree l (⟨"java/util/Arrays", "fill", "([JJ)V"⟩ : MethodName) (head1 (Jvm.Cond.code (⟨"java/util/Arrays", "fill", "([JJ)V"⟩ : MethodName) jdk_65_method_101_code 5 none :: ws) ({ frames := 0, cells := 0, slots := 0, locals := 0 } : Room)) (fun aα Uα => aα = #[(.ref t), (.long x)] ∧ Z.Warmed39 Uα.vm ∧ Uα.heap = h0) (fun _ _ _ _ _ => True) (fun _ Uα oα Uβ => ∃ vα Lα, oα = .returned vα ∧ Q_rm_fill4 Z t x kc h0 n0 vα Uβ.heap Lα ∧ FrameEnd Uα oα Uβ Lα ({ frames := 0, cells := 0, slots := 0, locals := 0 } : Room).cells ({ frames := 0, cells := 0, slots := 0, locals := 0 } : Room).slots) := by
  refine MetFree.of_bodySF (plainFor_of_name pn_java_util_Arrays) hisR ?_
  intro p e s m args below meth c s₁ Bd hml0 hP hKα
  obtain ⟨rfl, hZ, hh⟩ := hP
  have hx := Bd.exec
  have hby := Bd.bytes
  have hml : c.maxLocals = 5 := hml0
  have hown : s.vm.findClass "java/util/Arrays" = some m.cls := findClass_of_methodNamed Bd.named
  have hnm := (name_of_methodNamed Bd.named Bd.method).1
  have X0 : Stand p l e ({ frames := 0, cells := 0, slots := 0, locals := 0 } : Room) s m #[(.ref t), (.long x)] below meth c s₁ [] 0 0 := Stand.of_body Bd
  have e0 : s₁.heap = h0 := by rw [← hh, Bd.state]; rfl
  have N0 := Fr.nil n0
  suffices k0 : Gl p e below s (Q_rm_fill4 Z t x kc h0 n0) ({ frames := 0, cells := 0, slots := 0, locals := 0 } : Room).cells ({ frames := 0, cells := 0, slots := 0, locals := 0 } : Room).slots s₁ (mkF m 0 #[.val (.ref t), .val (.long x), .second, .unset, .unset] []) from Gl.st (fun τ κ => castTop (ef_rm_fill4 m t x) κ) k0
  refine Gl.st (g' := (mkF m 1 #[.val (.ref t), .val (.long x), .second, .unset, .unset] [(.int (0 : Int32))])) (fun τ κ => XS.iconst X0.here hx rfl (hb hby d8_0) κ) ?_
  refine Gl.st (g' := (mkF m 2 #[.val (.ref t), .val (.long x), .second, .val (.int (0 : Int32)), .unset] [])) (fun τ κ => XS.istoreN X0.here hx rfl (hb hby d8_1) rfl (l' := #[.val (.ref t), .val (.long x), .second, .val (.int (0 : Int32)), .unset]) rfl κ) ?_
  refine Gl.st (g' := (mkF m 3 #[.val (.ref t), .val (.long x), .second, .val (.int (0 : Int32)), .unset] [(.ref t)])) (fun τ κ => XS.aloadN X0.here hx rfl (hb hby d8_2) rfl rfl κ) ?_
  obtain ⟨cl_o262, Ar_o262, q_o262, S_o262, M_o262, H_o262, G_o262⟩ := id V0
  refine Gl.st (g' := (mkF m 4 #[.val (.ref t), .val (.long x), .second, .val (.int (0 : Int32)), .unset] [(.int (4 : Int32))])) (fun τ κ => X0.arraylength hx (by rw [e0]; exact Ar_o262.1) (State.isArrayOf_alike hZ.alike Ar_o262.2.1) (g := (mkF m 3 #[.val (.ref t), .val (.long x), .second, .val (.int (0 : Int32)), .unset] [(.ref t)])) rfl rfl (hb hby d8_3) _ (by rw [len_of S_o262 M_o262]; exact κ)) ?_
  refine Gl.st (g' := (mkF m 6 #[.val (.ref t), .val (.long x), .second, .val (.int (0 : Int32)), .val (.int (4 : Int32))] [])) (fun τ κ => XS.istore X0.here hx rfl (hb hby d8_4) rfl (l' := #[.val (.ref t), .val (.long x), .second, .val (.int (0 : Int32)), .val (.int (4 : Int32))]) rfl κ) ?_
  refine Gl.st (g' := (mkF m 7 #[.val (.ref t), .val (.long x), .second, .val (.int (0 : Int32)), .val (.int (4 : Int32))] [(.int (0 : Int32))])) (fun τ κ => XS.iloadN X0.here hx rfl (hb hby d8_6) rfl κ) ?_
  refine Gl.st (g' := (mkF m 9 #[.val (.ref t), .val (.long x), .second, .val (.int (0 : Int32)), .val (.int (4 : Int32))] [(.int (4 : Int32)), (.int (0 : Int32))])) (fun τ κ => XS.iload X0.here hx rfl (hb hby d8_7) rfl κ) ?_
  have hc263 : (0 : Int32) < (4 : Int32) := by decide
  refine Gl.st (g' := (mkF m 12 #[.val (.ref t), .val (.long x), .second, .val (.int (0 : Int32)), .val (.int (4 : Int32))] [])) (fun τ κ => XS.icmpNo X0.here hx rfl (hb hby d8_9) rfl (tlt hc263).2.1 κ) ?_
  refine Gl.st (g' := (mkF m 13 #[.val (.ref t), .val (.long x), .second, .val (.int (0 : Int32)), .val (.int (4 : Int32))] [(.ref t)])) (fun τ κ => XS.aloadN X0.here hx rfl (hb hby d8_12) rfl rfl κ) ?_
  refine Gl.st (g' := (mkF m 14 #[.val (.ref t), .val (.long x), .second, .val (.int (0 : Int32)), .val (.int (4 : Int32))] [(.int (0 : Int32)), (.ref t)])) (fun τ κ => XS.iloadN X0.here hx rfl (hb hby d8_13) rfl κ) ?_
  refine Gl.st (g' := (mkF m 15 #[.val (.ref t), .val (.long x), .second, .val (.int (0 : Int32)), .val (.int (4 : Int32))] [(.long x), (.int (0 : Int32)), (.ref t)])) (fun τ κ => XS.lloadN X0.here hx rfl (hb hby d8_14) rfl κ) ?_
  obtain ⟨cl_o264, Ar_o264, q_o264, S_o264, M_o264, H_o264, G_o264⟩ := id V0
  have hin_o264 : ¬ ((0 : Int32) < 0 ∨ cl_o264.slots.size ≤ ((0 : Int32)).toNatClampNeg) := inb_of S_o264 ⟨by decide, by decide⟩
  obtain ⟨T265, h265, X265, e265, W265, st265⟩ := stJ X0 hx hZ e0 Ar_o264 (j := (0 : Int32)) hin_o264 (g := (mkF m 15 #[.val (.ref t), .val (.long x), .second, .val (.int (0 : Int32)), .val (.int (4 : Int32))] [(.long x), (.int (0 : Int32)), (.ref t)])) rfl rfl (hb hby d8_15)
  have N265 := Fr.snoc X265 N0 gt
  have Z265 : n0 ≤ h265.size := Nat.le_trans Z0 (Nat.le_of_eq W265.size.symm)
  have K265 : Keep h0 h265 [t] := (Keep.refl h0 [t]).wr W265 (Or.inl (List.mem_of_getElem? (i := 0) rfl))
  have V_t_265 : Arv Z h265 t kc .long (4 : Int32) [(.long x), (.long (0 : Int64)), (.long (0 : Int64)), (.long (0 : Int64))] (.long (0 : Int64)) := Arv.set Ar_o264 q_o264 S_o264 M_o264 H_o264 G_o264 rfl W265 0 rfl (Nat.le_of_ble_eq_true rfl)
  refine Gl.st (g' := (mkF m 16 #[.val (.ref t), .val (.long x), .second, .val (.int (0 : Int32)), .val (.int (4 : Int32))] [])) (fun τ κ => st265 _ κ) ?_
  refine Gl.st (g' := (mkF m 19 #[.val (.ref t), .val (.long x), .second, .val (.int (1 : Int32)), .val (.int (4 : Int32))] [])) (fun τ κ => XS.iinc X265.here hx rfl (hb hby d8_16) rfl (l' := #[.val (.ref t), .val (.long x), .second, .val (.int (1 : Int32)), .val (.int (4 : Int32))]) rfl κ) ?_
  refine Gl.st (g' := (mkF m 6 #[.val (.ref t), .val (.long x), .second, .val (.int (1 : Int32)), .val (.int (4 : Int32))] [])) (fun τ κ => XS.goto X265.here hx rfl (pc0 := 19) (pc' := 6) rfl (hb hby d8_19) (by decide) (by decide) κ) ?_
  refine Gl.st (g' := (mkF m 7 #[.val (.ref t), .val (.long x), .second, .val (.int (1 : Int32)), .val (.int (4 : Int32))] [(.int (1 : Int32))])) (fun τ κ => XS.iloadN X265.here hx rfl (hb hby d8_6) rfl κ) ?_
  refine Gl.st (g' := (mkF m 9 #[.val (.ref t), .val (.long x), .second, .val (.int (1 : Int32)), .val (.int (4 : Int32))] [(.int (4 : Int32)), (.int (1 : Int32))])) (fun τ κ => XS.iload X265.here hx rfl (hb hby d8_7) rfl κ) ?_
  have hc267 : (1 : Int32) < (4 : Int32) := by decide
  refine Gl.st (g' := (mkF m 12 #[.val (.ref t), .val (.long x), .second, .val (.int (1 : Int32)), .val (.int (4 : Int32))] [])) (fun τ κ => XS.icmpNo X265.here hx rfl (hb hby d8_9) rfl (tlt hc267).2.1 κ) ?_
  refine Gl.st (g' := (mkF m 13 #[.val (.ref t), .val (.long x), .second, .val (.int (1 : Int32)), .val (.int (4 : Int32))] [(.ref t)])) (fun τ κ => XS.aloadN X265.here hx rfl (hb hby d8_12) rfl rfl κ) ?_
  refine Gl.st (g' := (mkF m 14 #[.val (.ref t), .val (.long x), .second, .val (.int (1 : Int32)), .val (.int (4 : Int32))] [(.int (1 : Int32)), (.ref t)])) (fun τ κ => XS.iloadN X265.here hx rfl (hb hby d8_13) rfl κ) ?_
  refine Gl.st (g' := (mkF m 15 #[.val (.ref t), .val (.long x), .second, .val (.int (1 : Int32)), .val (.int (4 : Int32))] [(.long x), (.int (1 : Int32)), (.ref t)])) (fun τ κ => XS.lloadN X265.here hx rfl (hb hby d8_14) rfl κ) ?_
  obtain ⟨cl_o268, Ar_o268, q_o268, S_o268, M_o268, H_o268, G_o268⟩ := id V_t_265
  have hin_o268 : ¬ ((1 : Int32) < 0 ∨ cl_o268.slots.size ≤ ((1 : Int32)).toNatClampNeg) := inb_of S_o268 ⟨by decide, by decide⟩
  obtain ⟨T269, h269, X269, e269, W269, st269⟩ := stJ X265 hx hZ e265 Ar_o268 (j := (1 : Int32)) hin_o268 (g := (mkF m 15 #[.val (.ref t), .val (.long x), .second, .val (.int (1 : Int32)), .val (.int (4 : Int32))] [(.long x), (.int (1 : Int32)), (.ref t)])) rfl rfl (hb hby d8_15)
  have N269 := Fr.snoc X269 N265 gt
  have Z269 : n0 ≤ h269.size := Nat.le_trans Z265 (Nat.le_of_eq W269.size.symm)
  have K269 : Keep h0 h269 [t] := K265.wr W269 (Or.inl (List.mem_of_getElem? (i := 0) rfl))
  have V_t_269 : Arv Z h269 t kc .long (4 : Int32) [(.long x), (.long x), (.long (0 : Int64)), (.long (0 : Int64))] (.long (0 : Int64)) := Arv.set Ar_o268 q_o268 S_o268 M_o268 H_o268 G_o268 rfl W269 1 rfl (Nat.le_of_ble_eq_true rfl)
  refine Gl.st (g' := (mkF m 16 #[.val (.ref t), .val (.long x), .second, .val (.int (1 : Int32)), .val (.int (4 : Int32))] [])) (fun τ κ => st269 _ κ) ?_
  refine Gl.st (g' := (mkF m 19 #[.val (.ref t), .val (.long x), .second, .val (.int (2 : Int32)), .val (.int (4 : Int32))] [])) (fun τ κ => XS.iinc X269.here hx rfl (hb hby d8_16) rfl (l' := #[.val (.ref t), .val (.long x), .second, .val (.int (2 : Int32)), .val (.int (4 : Int32))]) rfl κ) ?_
  refine Gl.st (g' := (mkF m 6 #[.val (.ref t), .val (.long x), .second, .val (.int (2 : Int32)), .val (.int (4 : Int32))] [])) (fun τ κ => XS.goto X269.here hx rfl (pc0 := 19) (pc' := 6) rfl (hb hby d8_19) (by decide) (by decide) κ) ?_
  refine Gl.st (g' := (mkF m 7 #[.val (.ref t), .val (.long x), .second, .val (.int (2 : Int32)), .val (.int (4 : Int32))] [(.int (2 : Int32))])) (fun τ κ => XS.iloadN X269.here hx rfl (hb hby d8_6) rfl κ) ?_
  refine Gl.st (g' := (mkF m 9 #[.val (.ref t), .val (.long x), .second, .val (.int (2 : Int32)), .val (.int (4 : Int32))] [(.int (4 : Int32)), (.int (2 : Int32))])) (fun τ κ => XS.iload X269.here hx rfl (hb hby d8_7) rfl κ) ?_
  have hc271 : (2 : Int32) < (4 : Int32) := by decide
  refine Gl.st (g' := (mkF m 12 #[.val (.ref t), .val (.long x), .second, .val (.int (2 : Int32)), .val (.int (4 : Int32))] [])) (fun τ κ => XS.icmpNo X269.here hx rfl (hb hby d8_9) rfl (tlt hc271).2.1 κ) ?_
  refine Gl.st (g' := (mkF m 13 #[.val (.ref t), .val (.long x), .second, .val (.int (2 : Int32)), .val (.int (4 : Int32))] [(.ref t)])) (fun τ κ => XS.aloadN X269.here hx rfl (hb hby d8_12) rfl rfl κ) ?_
  refine Gl.st (g' := (mkF m 14 #[.val (.ref t), .val (.long x), .second, .val (.int (2 : Int32)), .val (.int (4 : Int32))] [(.int (2 : Int32)), (.ref t)])) (fun τ κ => XS.iloadN X269.here hx rfl (hb hby d8_13) rfl κ) ?_
  refine Gl.st (g' := (mkF m 15 #[.val (.ref t), .val (.long x), .second, .val (.int (2 : Int32)), .val (.int (4 : Int32))] [(.long x), (.int (2 : Int32)), (.ref t)])) (fun τ κ => XS.lloadN X269.here hx rfl (hb hby d8_14) rfl κ) ?_
  obtain ⟨cl_o272, Ar_o272, q_o272, S_o272, M_o272, H_o272, G_o272⟩ := id V_t_269
  have hin_o272 : ¬ ((2 : Int32) < 0 ∨ cl_o272.slots.size ≤ ((2 : Int32)).toNatClampNeg) := inb_of S_o272 ⟨by decide, by decide⟩
  obtain ⟨T273, h273, X273, e273, W273, st273⟩ := stJ X269 hx hZ e269 Ar_o272 (j := (2 : Int32)) hin_o272 (g := (mkF m 15 #[.val (.ref t), .val (.long x), .second, .val (.int (2 : Int32)), .val (.int (4 : Int32))] [(.long x), (.int (2 : Int32)), (.ref t)])) rfl rfl (hb hby d8_15)
  have N273 := Fr.snoc X273 N269 gt
  have Z273 : n0 ≤ h273.size := Nat.le_trans Z269 (Nat.le_of_eq W273.size.symm)
  have K273 : Keep h0 h273 [t] := K269.wr W273 (Or.inl (List.mem_of_getElem? (i := 0) rfl))
  have V_t_273 : Arv Z h273 t kc .long (4 : Int32) [(.long x), (.long x), (.long x), (.long (0 : Int64))] (.long (0 : Int64)) := Arv.set Ar_o272 q_o272 S_o272 M_o272 H_o272 G_o272 rfl W273 2 rfl (Nat.le_of_ble_eq_true rfl)
  refine Gl.st (g' := (mkF m 16 #[.val (.ref t), .val (.long x), .second, .val (.int (2 : Int32)), .val (.int (4 : Int32))] [])) (fun τ κ => st273 _ κ) ?_
  refine Gl.st (g' := (mkF m 19 #[.val (.ref t), .val (.long x), .second, .val (.int (3 : Int32)), .val (.int (4 : Int32))] [])) (fun τ κ => XS.iinc X273.here hx rfl (hb hby d8_16) rfl (l' := #[.val (.ref t), .val (.long x), .second, .val (.int (3 : Int32)), .val (.int (4 : Int32))]) rfl κ) ?_
  refine Gl.st (g' := (mkF m 6 #[.val (.ref t), .val (.long x), .second, .val (.int (3 : Int32)), .val (.int (4 : Int32))] [])) (fun τ κ => XS.goto X273.here hx rfl (pc0 := 19) (pc' := 6) rfl (hb hby d8_19) (by decide) (by decide) κ) ?_
  refine Gl.st (g' := (mkF m 7 #[.val (.ref t), .val (.long x), .second, .val (.int (3 : Int32)), .val (.int (4 : Int32))] [(.int (3 : Int32))])) (fun τ κ => XS.iloadN X273.here hx rfl (hb hby d8_6) rfl κ) ?_
  refine Gl.st (g' := (mkF m 9 #[.val (.ref t), .val (.long x), .second, .val (.int (3 : Int32)), .val (.int (4 : Int32))] [(.int (4 : Int32)), (.int (3 : Int32))])) (fun τ κ => XS.iload X273.here hx rfl (hb hby d8_7) rfl κ) ?_
  have hc275 : (3 : Int32) < (4 : Int32) := by decide
  refine Gl.st (g' := (mkF m 12 #[.val (.ref t), .val (.long x), .second, .val (.int (3 : Int32)), .val (.int (4 : Int32))] [])) (fun τ κ => XS.icmpNo X273.here hx rfl (hb hby d8_9) rfl (tlt hc275).2.1 κ) ?_
  refine Gl.st (g' := (mkF m 13 #[.val (.ref t), .val (.long x), .second, .val (.int (3 : Int32)), .val (.int (4 : Int32))] [(.ref t)])) (fun τ κ => XS.aloadN X273.here hx rfl (hb hby d8_12) rfl rfl κ) ?_
  refine Gl.st (g' := (mkF m 14 #[.val (.ref t), .val (.long x), .second, .val (.int (3 : Int32)), .val (.int (4 : Int32))] [(.int (3 : Int32)), (.ref t)])) (fun τ κ => XS.iloadN X273.here hx rfl (hb hby d8_13) rfl κ) ?_
  refine Gl.st (g' := (mkF m 15 #[.val (.ref t), .val (.long x), .second, .val (.int (3 : Int32)), .val (.int (4 : Int32))] [(.long x), (.int (3 : Int32)), (.ref t)])) (fun τ κ => XS.lloadN X273.here hx rfl (hb hby d8_14) rfl κ) ?_
  obtain ⟨cl_o276, Ar_o276, q_o276, S_o276, M_o276, H_o276, G_o276⟩ := id V_t_273
  have hin_o276 : ¬ ((3 : Int32) < 0 ∨ cl_o276.slots.size ≤ ((3 : Int32)).toNatClampNeg) := inb_of S_o276 ⟨by decide, by decide⟩
  obtain ⟨T277, h277, X277, e277, W277, st277⟩ := stJ X273 hx hZ e273 Ar_o276 (j := (3 : Int32)) hin_o276 (g := (mkF m 15 #[.val (.ref t), .val (.long x), .second, .val (.int (3 : Int32)), .val (.int (4 : Int32))] [(.long x), (.int (3 : Int32)), (.ref t)])) rfl rfl (hb hby d8_15)
  have N277 := Fr.snoc X277 N273 gt
  have Z277 : n0 ≤ h277.size := Nat.le_trans Z273 (Nat.le_of_eq W277.size.symm)
  have K277 : Keep h0 h277 [t] := K273.wr W277 (Or.inl (List.mem_of_getElem? (i := 0) rfl))
  have V_t_277 : Arv Z h277 t kc .long (4 : Int32) [(.long x), (.long x), (.long x), (.long x)] (.long (0 : Int64)) := Arv.set Ar_o276 q_o276 S_o276 M_o276 H_o276 G_o276 rfl W277 3 rfl (Nat.le_of_ble_eq_true rfl)
  refine Gl.st (g' := (mkF m 16 #[.val (.ref t), .val (.long x), .second, .val (.int (3 : Int32)), .val (.int (4 : Int32))] [])) (fun τ κ => st277 _ κ) ?_
  refine Gl.st (g' := (mkF m 19 #[.val (.ref t), .val (.long x), .second, .val (.int (4 : Int32)), .val (.int (4 : Int32))] [])) (fun τ κ => XS.iinc X277.here hx rfl (hb hby d8_16) rfl (l' := #[.val (.ref t), .val (.long x), .second, .val (.int (4 : Int32)), .val (.int (4 : Int32))]) rfl κ) ?_
  refine Gl.st (g' := (mkF m 6 #[.val (.ref t), .val (.long x), .second, .val (.int (4 : Int32)), .val (.int (4 : Int32))] [])) (fun τ κ => XS.goto X277.here hx rfl (pc0 := 19) (pc' := 6) rfl (hb hby d8_19) (by decide) (by decide) κ) ?_
  refine Gl.st (g' := (mkF m 7 #[.val (.ref t), .val (.long x), .second, .val (.int (4 : Int32)), .val (.int (4 : Int32))] [(.int (4 : Int32))])) (fun τ κ => XS.iloadN X277.here hx rfl (hb hby d8_6) rfl κ) ?_
  refine Gl.st (g' := (mkF m 9 #[.val (.ref t), .val (.long x), .second, .val (.int (4 : Int32)), .val (.int (4 : Int32))] [(.int (4 : Int32)), (.int (4 : Int32))])) (fun τ κ => XS.iload X277.here hx rfl (hb hby d8_7) rfl κ) ?_
  have hc279 : ¬ ((4 : Int32) < (4 : Int32)) := by decide
  refine Gl.st (g' := (mkF m 22 #[.val (.ref t), .val (.long x), .second, .val (.int (4 : Int32)), .val (.int (4 : Int32))] [])) (fun τ κ => XS.icmpYes X277.here hx rfl (pc0 := 9) (pc' := 22) rfl (hb hby d8_9) rfl (flt hc279).2.1 (by decide) (by decide) κ) ?_
  exact Gl.ret (v := none) X277 Bd.notSynchronized (fun _ => rfl) e277 (fun fs hr => X277.returnOut hx Bd.returns (hb hby d8_22) hr) (by decide) (by decide) ⟨rfl, N277, K277, V_t_277⟩
theorem d1_0 : decode prog_35_method_1_code 0 = .ok (.aload_n 0, 1) := by decide +kernel
theorem d1_1 : decode prog_35_method_1_code 1 = .ok (.invokespecial 1, 3) := by decide +kernel
theorem d1_4 : decode prog_35_method_1_code 4 = .ok (.aload_n 0, 1) := by decide +kernel
theorem d1_5 : decode prog_35_method_1_code 5 = .ok (.new 7, 3) := by decide +kernel
theorem d1_8 : decode prog_35_method_1_code 8 = .ok (.dup, 1) := by decide +kernel
theorem d1_9 : decode prog_35_method_1_code 9 = .ok (.invokespecial 9, 3) := by decide +kernel
theorem d1_12 : decode prog_35_method_1_code 12 = .ok (.putfield 10, 3) := by decide +kernel
theorem d1_15 : decode prog_35_method_1_code 15 = .ok (.aload_n 0, 1) := by decide +kernel
theorem d1_16 : decode prog_35_method_1_code 16 = .ok (.new 16, 3) := by decide +kernel
theorem d1_19 : decode prog_35_method_1_code 19 = .ok (.dup, 1) := by decide +kernel
theorem d1_20 : decode prog_35_method_1_code 20 = .ok (.invokespecial 18, 3) := by decide +kernel
theorem d1_23 : decode prog_35_method_1_code 23 = .ok (.putfield 19, 3) := by decide +kernel
theorem d1_26 : decode prog_35_method_1_code 26 = .ok (.aload_n 0, 1) := by decide +kernel
theorem d1_27 : decode prog_35_method_1_code 27 = .ok (.new 16, 3) := by decide +kernel
theorem d1_30 : decode prog_35_method_1_code 30 = .ok (.dup, 1) := by decide +kernel
theorem d1_31 : decode prog_35_method_1_code 31 = .ok (.invokespecial 18, 3) := by decide +kernel
theorem d1_34 : decode prog_35_method_1_code 34 = .ok (.putfield 23, 3) := by decide +kernel
theorem d1_37 : decode prog_35_method_1_code 37 = .ok (.aload_n 0, 1) := by decide +kernel
theorem d1_38 : decode prog_35_method_1_code 38 = .ok (.iload_n 1, 1) := by decide +kernel
theorem d1_39 : decode prog_35_method_1_code 39 = .ok (.newarray .long, 2) := by decide +kernel
theorem d1_41 : decode prog_35_method_1_code 41 = .ok (.putfield 26, 3) := by decide +kernel
theorem d1_44 : decode prog_35_method_1_code 44 = .ok (.aload_n 0, 1) := by decide +kernel
theorem d1_45 : decode prog_35_method_1_code 45 = .ok (.getfield 26, 3) := by decide +kernel
theorem d1_48 : decode prog_35_method_1_code 48 = .ok (.ldc2_w 30, 3) := by decide +kernel
theorem d1_51 : decode prog_35_method_1_code 51 = .ok (.invokestatic 32, 3) := by decide +kernel
theorem pd_5 : parseMethodDescriptor "([JJ)V" = some ⟨[(.array .long), .long], none⟩ := by decide +kernel
theorem d1_54 : decode prog_35_method_1_code 54 = .ok (.iconst 0, 1) := by decide +kernel
theorem d1_55 : decode prog_35_method_1_code 55 = .ok (.istore_n 2, 1) := by decide +kernel
theorem d1_56 : decode prog_35_method_1_code 56 = .ok (.iload_n 2, 1) := by decide +kernel
theorem d1_57 : decode prog_35_method_1_code 57 = .ok (.iload_n 1, 1) := by decide +kernel
theorem d1_58 : decode prog_35_method_1_code 58 = .ok (.if_icmp .ge 26, 3) := by decide +kernel
theorem d1_61 : decode prog_35_method_1_code 61 = .ok (.aload_n 0, 1) := by decide +kernel
theorem d1_62 : decode prog_35_method_1_code 62 = .ok (.getfield 19, 3) := by decide +kernel
theorem d1_65 : decode prog_35_method_1_code 65 = .ok (.new 16, 3) := by decide +kernel
theorem d1_68 : decode prog_35_method_1_code 68 = .ok (.dup, 1) := by decide +kernel
theorem d1_69 : decode prog_35_method_1_code 69 = .ok (.invokespecial 18, 3) := by decide +kernel
theorem d1_72 : decode prog_35_method_1_code 72 = .ok (.invokeinterface 38 2, 5) := by decide +kernel
theorem pd_6 : parseMethodDescriptor "(Ljava/lang/Object;)Z" = some ⟨[(.object "java/lang/Object")], some .boolean⟩ := by decide +kernel
theorem d1_77 : decode prog_35_method_1_code 77 = .ok (.pop, 1) := by decide +kernel
theorem d1_78 : decode prog_35_method_1_code 78 = .ok (.iinc 2 1, 3) := by decide +kernel
theorem d1_81 : decode prog_35_method_1_code 81 = .ok (.goto (-25), 3) := by decide +kernel
theorem d1_84 : decode prog_35_method_1_code 84 = .ok (.return_, 1) := by decide +kernel
theorem pn_org_precedence_Takeover : plainName "org/precedence/Takeover" = true := by first | (simp [plainName, overriddenIn]; done) | decide +kernel
theorem ef_rm_init1 (m : MethodId) (a : Addr) : entryFrame m #[(.ref a), (.int (1 : Int32))] 3 = mkF m 0 #[.val (.ref a), .val (.int (1 : Int32)), .unset] [] := by first | (simp [entryFrame, mkF, argsToLocals, Value.category]; done) | rfl
def Q_rm_init1 (Z : State) (a : Addr) (de : Addr) (kd : ClassId) (h0 : Heap) (n0 : Nat) (v : Option Value) (h : Heap) (L : List Loc) : Prop := ∃ t kc, v = none ∧ Fr n0 L ∧ Keep h0 h [a] ∧ h0.size ≤ t ∧ Exa Z h a "org/precedence/Takeover" ∧ Fld Z h a "org/precedence/Takeover" "next" "[J" (.ref t) ∧ Arv Z h t kc .long (1 : Int32) [(.long (-1 : Int64))] (.long (0 : Int64))
set_option maxRecDepth 65536 in
set_option maxHeartbeats 40000000 in
theorem rm_init1 (l : Launch) (Z : State) (a0 : Array Value) (hw : ∀ d ∈ tables_1, d.before a0 Z = true) (ws : List Jvm.Cond) (a : Addr) (de : Addr) (kd : ClassId) (h0 : Heap) (n0 : Nat) (Z0 : n0 ≤ h0.size) (E0 : Exa Z h0 a "org/precedence/Takeover") (g0 : n0 ≤ a) (S0 : Sta Z h0 "java/util/ArrayList" "DEFAULTCAPACITY_EMPTY_ELEMENTDATA" "[Ljava/lang/Object;" (.ref de)) (V0 : Arv Z h0 de kd (.object "java/lang/Object") (0 : Int32) [] .null) (hde : a ≠ de) (F0 : Fld Z h0 a "org/precedence/Takeover" "stamped" "Ljava/util/TreeMap;" .null) (F1 : Fld Z h0 a "org/precedence/Takeover" "unstamped" "Ljava/util/List;" .null) (F2 : Fld Z h0 a "org/precedence/Takeover" "submitted" "Ljava/util/List;" .null) (F3 : Fld Z h0 a "org/precedence/Takeover" "next" "[J" .null) :
    MetFree l (⟨"org/precedence/Takeover", "<init>", "(I)V"⟩ : MethodName) (head1 (Jvm.Cond.code (⟨"org/precedence/Takeover", "<init>", "(I)V"⟩ : MethodName) prog_35_method_1_code 3 none :: ws) ({ frames := 5, cells := 10, slots := 41, locals := 90 } : Room)) (fun aα Uα => aα = #[(.ref a), (.int (1 : Int32))] ∧ Z.Warmed39 Uα.vm ∧ Uα.heap = h0) (fun _ _ _ _ _ => True) (fun _ Uα oα Uβ => ∃ vα Lα, oα = .returned vα ∧ Q_rm_init1 Z a de kd h0 n0 vα Uβ.heap Lα ∧ FrameEnd Uα oα Uβ Lα ({ frames := 5, cells := 10, slots := 41, locals := 90 } : Room).cells ({ frames := 5, cells := 10, slots := 41, locals := 90 } : Room).slots) := by
  refine MetFree.of_bodySF (plainFor_of_name pn_org_precedence_Takeover) hisR ?_
  intro p e s m args below meth c s₁ Bd hml0 hP hKα
  obtain ⟨rfl, hZ, hh⟩ := hP
  have hx := Bd.exec
  have hby := Bd.bytes
  have hml : c.maxLocals = 3 := hml0
  have hown : s.vm.findClass "org/precedence/Takeover" = some m.cls := findClass_of_methodNamed Bd.named
  have hnm := (name_of_methodNamed Bd.named Bd.method).1
  have X0 : Stand p l e ({ frames := 5, cells := 10, slots := 41, locals := 90 } : Room) s m #[(.ref a), (.int (1 : Int32))] below meth c s₁ [] 0 0 := Stand.of_body Bd
  have e0 : s₁.heap = h0 := by rw [← hh, Bd.state]; rfl
  have N0 := Fr.nil n0
  suffices k0 : Gl p e below s (Q_rm_init1 Z a de kd h0 n0) ({ frames := 5, cells := 10, slots := 41, locals := 90 } : Room).cells ({ frames := 5, cells := 10, slots := 41, locals := 90 } : Room).slots s₁ (mkF m 0 #[.val (.ref a), .val (.int (1 : Int32)), .unset] []) from Gl.st (fun τ κ => castTop (ef_rm_init1 m a) κ) k0
  refine Gl.st (g' := (mkF m 1 #[.val (.ref a), .val (.int (1 : Int32)), .unset] [(.ref a)])) (fun τ κ => XS.aloadN X0.here hx rfl (hb hby d1_0) rfl rfl κ) ?_
  obtain ⟨T280, X280, e280, st280⟩ := initO X0 hx hZ hown (hw _ (List.mem_of_getElem? (i := 8) rfl)) (hw _ (List.mem_of_getElem? (i := 9) rfl)) (hw _ (List.mem_of_getElem? (i := 10) rfl)) e0 (g := (mkF m 1 #[.val (.ref a), .val (.int (1 : Int32)), .unset] [(.ref a)])) rfl (by rw [hml]; rfl) rfl (hb hby d1_1) (by decide) (W := 0) (by show 2 * 0 + _ ≤ _; exact Nat.le_of_eq rfl) (by decide)
  refine Gl.st (g' := (mkF m 4 #[.val (.ref a), .val (.int (1 : Int32)), .unset] [])) (fun τ κ => st280 _ κ) ?_
  refine Gl.st (g' := (mkF m 5 #[.val (.ref a), .val (.int (1 : Int32)), .unset] [(.ref a)])) (fun τ κ => XS.aloadN X280.here hx rfl (hb hby d1_4) rfl rfl κ) ?_
  obtain ⟨T281, h281, X281, e281, E281, A281, D281, -, st281⟩ := newO X280 hx hZ hown (hw _ (List.mem_of_getElem? (i := 11) rfl)) (hw _ (List.mem_of_getElem? (i := 12) rfl)) (hw _ (List.mem_of_getElem? (i := 13) rfl)) e280 (g := (mkF m 5 #[.val (.ref a), .val (.int (1 : Int32)), .unset] [(.ref a)])) rfl (hb hby d1_5) (by decide) (by decide)
  obtain ⟨b281, g281⟩ : ∃ z, z = h0.size := ⟨_, rfl⟩
  rw [← g281] at A281 D281 st281
  have ne_a_b281 : a ≠ b281 := Nat.ne_of_lt (Nat.lt_of_lt_of_le E0.lt (Nat.le_of_eq g281.symm))
  have ne_de_b281 : de ≠ b281 := Nat.ne_of_lt (Nat.lt_of_lt_of_le V0.lt (Nat.le_of_eq g281.symm))
  have E_282 := E0.ext E281
  have S_283 := S0.ext E281
  have V_284 := V0.ext E281
  have F_285 := F0.ext E281
  have F_286 := F1.ext E281
  have F_287 := F2.ext E281
  have F_288 := F3.ext E281
  have g_b281 : n0 ≤ b281 := Nat.le_trans Z0 (Nat.le_of_eq g281.symm)
  have sz_b281 : h0.size ≤ b281 := Nat.le_trans (Keep.refl h0 [a]).1 (Nat.le_of_eq g281.symm)
  have Z281 : n0 ≤ h281.size := Nat.le_trans Z0 E281.1
  have K281 : Keep h0 h281 [a] := (Keep.refl h0 [a]).ext E281
  have F_289 : Fld Z h281 b281 "java/util/TreeMap" "size" "I" (.int (0 : Int32)) := D281 (Or.inl (hw _ (List.mem_of_getElem? (i := 25) rfl))) (ty := .int) (by decide)
  have F_290 : Fld Z h281 b281 "java/util/TreeMap" "modCount" "I" (.int (0 : Int32)) := D281 (Or.inl (hw _ (List.mem_of_getElem? (i := 27) rfl))) (ty := .int) (by decide)
  have F_291 : Fld Z h281 b281 "java/util/TreeMap" "comparator" "Ljava/util/Comparator;" .null := D281 (Or.inr (hw _ (List.mem_of_getElem? (i := 29) rfl))) (ty := (.object "java/util/Comparator")) (by decide)
  refine Gl.st (g' := (mkF m 8 #[.val (.ref a), .val (.int (1 : Int32)), .unset] [(.ref b281), (.ref a)])) (fun τ κ => st281 _ κ) ?_
  refine Gl.st (g' := (mkF m 9 #[.val (.ref a), .val (.int (1 : Int32)), .unset] [(.ref b281), (.ref b281), (.ref a)])) (fun τ κ => XS.dup X281.here hx rfl (hb hby d1_8) rfl rfl κ) ?_
  obtain ⟨rv292, _, ⟨T292, L292, k292, n292⟩, -, X292, ⟨Lc292, hQ292, l292, y292, z292⟩, st292⟩ := X281.specialBack hx (y := (⟨"java/util/TreeMap", "<init>", "()V"⟩ : MethodName)) rfl hown (mvT hZ (hw _ (List.mem_of_getElem? (i := 14) rfl))) (mvT hZ (hw _ (List.mem_of_getElem? (i := 15) rfl))) (mvT hZ (hw _ (List.mem_of_getElem? (i := 16) rfl))) (by decide) (backOf (W := 2) (rm3 l Z a0 hw [] b281 h281 n0 Z281 A281 g_b281 F_289 F_290 F_291) hZ (hw _ (List.mem_of_getElem? (i := 16) rfl)) (hw _ (List.mem_of_getElem? (i := 13) rfl)) (by decide) (by decide)) (g := (mkF m 9 #[.val (.ref a), .val (.int (1 : Int32)), .unset] [(.ref b281), (.ref b281), (.ref a)])) rfl (by rw [hml]; rfl) (Steps.refl _) (a := b281) (argsL := []) (rest := [(.ref b281), (.ref a)]) (lenOf pd_0 rfl) rfl (by show 2 * 0 + _ ≤ _; exact Nat.le_of_eq rfl) (hb hby d1_9) (fun _ _ => ⟨rfl, e281, (by decide : 1 + 0 ≤ _), (by decide : 9 + 0 ≤ _)⟩)
  dsimp only [Pt.U, Pt.locs, Pt.cells, Pt.slots] at X292 l292 y292 z292 st292 hQ292
  subst l292 y292 z292
  obtain ⟨rfl, N292q, Kc292, Ec292, Fc292_0, Fc292_1, Fc292_2⟩ := hQ292
  have E_293 := E_282.keep Kc292
  have S_294 := Sta.keepX S_283 Kc292 (allS (P := fun x => ∃ c : Cell, h281[x]? = some c ∧ ∀ q, c.vm ≠ .statics q) A281.cell all0)
  have V_295 := V_284.keep Kc292 (ninS ne_de_b281 nin0)
  have F_296 := F_285.keep Kc292 (ninS ne_a_b281 nin0)
  have F_297 := F_286.keep Kc292 (ninS ne_a_b281 nin0)
  have F_298 := F_287.keep Kc292 (ninS ne_a_b281 nin0)
  have F_299 := F_288.keep Kc292 (ninS ne_a_b281 nin0)
  have E_300 := A281.keep Kc292
  have N292 := Fr.app N0 N292q
  have Z292 : n0 ≤ T292.heap.size := Nat.le_trans Z281 Kc292.1
  have K292 : Keep h0 T292.heap [a] := K281.trans Kc292 (allS (Or.inr sz_b281) all0)
  refine Gl.st (g' := (mkF m 12 #[.val (.ref a), .val (.int (1 : Int32)), .unset] [(.ref b281), (.ref a)])) (fun τ κ => st292.trans κ) ?_
  obtain ⟨T304, h304, X304, e304, W304, st304⟩ := putF X292 hx hZ hown (host := "") (Or.inl (hw _ (List.mem_of_getElem? (i := 30) rfl))) Via.refl rfl F_296 E_293 (Or.inr ⟨(hw _ (List.mem_of_getElem? (i := 31) rfl)), rfl, hnm⟩) (hw _ (List.mem_of_getElem? (i := 3) rfl)) (ty := (.object "java/util/TreeMap")) (by decide) rfl rfl (g := (mkF m 12 #[.val (.ref a), .val (.int (1 : Int32)), .unset] [(.ref b281), (.ref a)])) rfl rfl (hb hby d1_12)
  have E_305 := E_293.wr W304
  have S_306 := S_294.wr W304
  have V_307 := V_295.other W304 (Ne.symm hde)
  have F_309 := F_297.other W304 (Or.inr (slot_ne (Or.inr (hw _ (List.mem_of_getElem? (i := 57) rfl))) (Or.inr (hw _ (List.mem_of_getElem? (i := 31) rfl))) (by decide) (t := (.object "java/util/List")) (t' := (.object "java/util/TreeMap")) (by decide) (by decide)))
  have F_310 := F_298.other W304 (Or.inr (slot_ne (Or.inr (hw _ (List.mem_of_getElem? (i := 59) rfl))) (Or.inr (hw _ (List.mem_of_getElem? (i := 31) rfl))) (by decide) (t := (.object "java/util/List")) (t' := (.object "java/util/TreeMap")) (by decide) (by decide)))
  have F_311 := F_299.other W304 (Or.inr (slot_ne (Or.inr (hw _ (List.mem_of_getElem? (i := 62) rfl))) (Or.inr (hw _ (List.mem_of_getElem? (i := 31) rfl))) (by decide) (t := (.array .long)) (t' := (.object "java/util/TreeMap")) (by decide) (by decide)))
  have E_312 := Ec292.wr W304
  have F_313 := Fc292_0.other W304 (Or.inl (Ne.symm ne_a_b281))
  have F_314 := Fc292_1.other W304 (Or.inl (Ne.symm ne_a_b281))
  have F_315 := Fc292_2.other W304 (Or.inl (Ne.symm ne_a_b281))
  have N304 := Fr.snoc X304 N292 g0
  have Z304 : n0 ≤ h304.size := Nat.le_trans Z292 (Nat.le_of_eq W304.size.symm)
  have K304 : Keep h0 h304 [a] := K292.wr W304 (Or.inl (List.mem_of_getElem? (i := 0) rfl))
  have F_316 := F_296.same W304
  refine Gl.st (g' := (mkF m 15 #[.val (.ref a), .val (.int (1 : Int32)), .unset] [])) (fun τ κ => st304 _ κ) ?_
  refine Gl.st (g' := (mkF m 16 #[.val (.ref a), .val (.int (1 : Int32)), .unset] [(.ref a)])) (fun τ κ => XS.aloadN X304.here hx rfl (hb hby d1_15) rfl rfl κ) ?_
  obtain ⟨T317, h317, X317, e317, E317, A317, D317, -, st317⟩ := newO X304 hx hZ hown (hw _ (List.mem_of_getElem? (i := 32) rfl)) (hw _ (List.mem_of_getElem? (i := 33) rfl)) (hw _ (List.mem_of_getElem? (i := 34) rfl)) e304 (g := (mkF m 16 #[.val (.ref a), .val (.int (1 : Int32)), .unset] [(.ref a)])) rfl (hb hby d1_16) (by decide) (by decide)
  obtain ⟨b317, g317⟩ : ∃ z, z = h304.size := ⟨_, rfl⟩
  rw [← g317] at A317 D317 st317
  have ne_a_b317 : a ≠ b317 := Nat.ne_of_lt (Nat.lt_of_lt_of_le E_305.lt (Nat.le_of_eq g317.symm))
  have ne_de_b317 : de ≠ b317 := Nat.ne_of_lt (Nat.lt_of_lt_of_le V_307.lt (Nat.le_of_eq g317.symm))
  have ne_b281_b317 : b281 ≠ b317 := Nat.ne_of_lt (Nat.lt_of_lt_of_le E_312.lt (Nat.le_of_eq g317.symm))
  have E_318 := E_305.ext E317
  have S_319 := S_306.ext E317
  have V_320 := V_307.ext E317
  have F_321 := F_316.ext E317
  have F_322 := F_309.ext E317
  have F_323 := F_310.ext E317
  have F_324 := F_311.ext E317
  have E_325 := E_312.ext E317
  have F_326 := F_313.ext E317
  have F_327 := F_314.ext E317
  have F_328 := F_315.ext E317
  have g_b317 : n0 ≤ b317 := Nat.le_trans Z304 (Nat.le_of_eq g317.symm)
  have sz_b317 : h0.size ≤ b317 := Nat.le_trans K304.1 (Nat.le_of_eq g317.symm)
  have Z317 : n0 ≤ h317.size := Nat.le_trans Z304 E317.1
  have K317 : Keep h0 h317 [a] := K304.ext E317
  have F_329 : Fld Z h317 b317 "java/util/AbstractList" "modCount" "I" (.int (0 : Int32)) := D317 (Or.inl (hw _ (List.mem_of_getElem? (i := 52) rfl))) (ty := .int) (by decide)
  have F_330 : Fld Z h317 b317 "java/util/ArrayList" "elementData" "[Ljava/lang/Object;" .null := D317 (Or.inl (hw _ (List.mem_of_getElem? (i := 55) rfl))) (ty := (.array (.object "java/lang/Object"))) (by decide)
  have F_331 : Fld Z h317 b317 "java/util/ArrayList" "size" "I" (.int (0 : Int32)) := D317 (Or.inl (hw _ (List.mem_of_getElem? (i := 80) rfl))) (ty := .int) (by decide)
  refine Gl.st (g' := (mkF m 19 #[.val (.ref a), .val (.int (1 : Int32)), .unset] [(.ref b317), (.ref a)])) (fun τ κ => st317 _ κ) ?_
  refine Gl.st (g' := (mkF m 20 #[.val (.ref a), .val (.int (1 : Int32)), .unset] [(.ref b317), (.ref b317), (.ref a)])) (fun τ κ => XS.dup X317.here hx rfl (hb hby d1_19) rfl rfl κ) ?_
  obtain ⟨rv332, _, ⟨T332, L332, k332, n332⟩, -, X332, ⟨Lc332, hQ332, l332, y332, z332⟩, st332⟩ := X317.specialBack hx (y := (⟨"java/util/ArrayList", "<init>", "()V"⟩ : MethodName)) rfl hown (mvT hZ (hw _ (List.mem_of_getElem? (i := 35) rfl))) (mvT hZ (hw _ (List.mem_of_getElem? (i := 36) rfl))) (mvT hZ (hw _ (List.mem_of_getElem? (i := 37) rfl))) (by decide) (backOf (W := 2) (rm5 l Z a0 hw [] b317 de h317 n0 Z317 A317 g_b317 S_319 F_329 F_330 F_331) hZ (hw _ (List.mem_of_getElem? (i := 37) rfl)) (hw _ (List.mem_of_getElem? (i := 34) rfl)) (by decide) (by decide)) (g := (mkF m 20 #[.val (.ref a), .val (.int (1 : Int32)), .unset] [(.ref b317), (.ref b317), (.ref a)])) rfl (by rw [hml]; rfl) (Steps.refl _) (a := b317) (argsL := []) (rest := [(.ref b317), (.ref a)]) (lenOf pd_0 rfl) rfl (by show 2 * 0 + _ ≤ _; exact Nat.le_of_eq rfl) (hb hby d1_20) (fun _ _ => ⟨rfl, e317, (by decide : 2 + 0 ≤ _), (by decide : 12 + 0 ≤ _)⟩)
  dsimp only [Pt.U, Pt.locs, Pt.cells, Pt.slots] at X332 l332 y332 z332 st332 hQ332
  subst l332 y332 z332
  obtain ⟨rfl, N332q, Kc332, Ec332, FM332, FE332, FS332⟩ := hQ332
  have E_333 := E_318.keep Kc332
  have S_334 := Sta.keepX S_319 Kc332 (allS (P := fun x => ∃ c : Cell, h317[x]? = some c ∧ ∀ q, c.vm ≠ .statics q) A317.cell all0)
  have V_335 := V_320.keep Kc332 (ninS ne_de_b317 nin0)
  have F_336 := F_321.keep Kc332 (ninS ne_a_b317 nin0)
  have F_337 := F_322.keep Kc332 (ninS ne_a_b317 nin0)
  have F_338 := F_323.keep Kc332 (ninS ne_a_b317 nin0)
  have F_339 := F_324.keep Kc332 (ninS ne_a_b317 nin0)
  have E_340 := E_325.keep Kc332
  have F_341 := F_326.keep Kc332 (ninS ne_b281_b317 nin0)
  have F_342 := F_327.keep Kc332 (ninS ne_b281_b317 nin0)
  have F_343 := F_328.keep Kc332 (ninS ne_b281_b317 nin0)
  have E_344 := A317.keep Kc332
  have N332 := Fr.app N304 N332q
  have Z332 : n0 ≤ T332.heap.size := Nat.le_trans Z317 Kc332.1
  have K332 : Keep h0 T332.heap [a] := K317.trans Kc332 (allS (Or.inr sz_b317) all0)
  refine Gl.st (g' := (mkF m 23 #[.val (.ref a), .val (.int (1 : Int32)), .unset] [(.ref b317), (.ref a)])) (fun τ κ => st332.trans κ) ?_
  obtain ⟨T348, h348, X348, e348, W348, st348⟩ := putF X332 hx hZ hown (host := "") (Or.inl (hw _ (List.mem_of_getElem? (i := 56) rfl))) Via.refl rfl F_337 E_333 (Or.inr ⟨(hw _ (List.mem_of_getElem? (i := 57) rfl)), rfl, hnm⟩) (hw _ (List.mem_of_getElem? (i := 3) rfl)) (ty := (.object "java/util/List")) (by decide) rfl rfl (g := (mkF m 23 #[.val (.ref a), .val (.int (1 : Int32)), .unset] [(.ref b317), (.ref a)])) rfl rfl (hb hby d1_23)
  have E_349 := E_333.wr W348
  have S_350 := S_334.wr W348
  have V_351 := V_335.other W348 (Ne.symm hde)
  have F_352 := F_336.other W348 (Or.inr (slot_ne (Or.inr (hw _ (List.mem_of_getElem? (i := 31) rfl))) (Or.inr (hw _ (List.mem_of_getElem? (i := 57) rfl))) (by decide) (t := (.object "java/util/TreeMap")) (t' := (.object "java/util/List")) (by decide) (by decide)))
  have F_354 := F_338.other W348 (Or.inr (slot_ne (Or.inr (hw _ (List.mem_of_getElem? (i := 59) rfl))) (Or.inr (hw _ (List.mem_of_getElem? (i := 57) rfl))) (by decide) (t := (.object "java/util/List")) (t' := (.object "java/util/List")) (by decide) (by decide)))
  have F_355 := F_339.other W348 (Or.inr (slot_ne (Or.inr (hw _ (List.mem_of_getElem? (i := 62) rfl))) (Or.inr (hw _ (List.mem_of_getElem? (i := 57) rfl))) (by decide) (t := (.array .long)) (t' := (.object "java/util/List")) (by decide) (by decide)))
  have E_356 := E_340.wr W348
  have F_357 := F_341.other W348 (Or.inl (Ne.symm ne_a_b281))
  have F_358 := F_342.other W348 (Or.inl (Ne.symm ne_a_b281))
  have F_359 := F_343.other W348 (Or.inl (Ne.symm ne_a_b281))
  have E_360 := Ec332.wr W348
  have F_361 := FM332.other W348 (Or.inl (Ne.symm ne_a_b317))
  have F_362 := FE332.other W348 (Or.inl (Ne.symm ne_a_b317))
  have F_363 := FS332.other W348 (Or.inl (Ne.symm ne_a_b317))
  have N348 := Fr.snoc X348 N332 g0
  have Z348 : n0 ≤ h348.size := Nat.le_trans Z332 (Nat.le_of_eq W348.size.symm)
  have K348 : Keep h0 h348 [a] := K332.wr W348 (Or.inl (List.mem_of_getElem? (i := 0) rfl))
  have F_364 := F_337.same W348
  refine Gl.st (g' := (mkF m 26 #[.val (.ref a), .val (.int (1 : Int32)), .unset] [])) (fun τ κ => st348 _ κ) ?_
  refine Gl.st (g' := (mkF m 27 #[.val (.ref a), .val (.int (1 : Int32)), .unset] [(.ref a)])) (fun τ κ => XS.aloadN X348.here hx rfl (hb hby d1_26) rfl rfl κ) ?_
  obtain ⟨T365, h365, X365, e365, E365, A365, D365, -, st365⟩ := newO X348 hx hZ hown (hw _ (List.mem_of_getElem? (i := 32) rfl)) (hw _ (List.mem_of_getElem? (i := 33) rfl)) (hw _ (List.mem_of_getElem? (i := 34) rfl)) e348 (g := (mkF m 27 #[.val (.ref a), .val (.int (1 : Int32)), .unset] [(.ref a)])) rfl (hb hby d1_27) (by decide) (by decide)
  obtain ⟨b365, g365⟩ : ∃ z, z = h348.size := ⟨_, rfl⟩
  rw [← g365] at A365 D365 st365
  have ne_a_b365 : a ≠ b365 := Nat.ne_of_lt (Nat.lt_of_lt_of_le E_349.lt (Nat.le_of_eq g365.symm))
  have ne_de_b365 : de ≠ b365 := Nat.ne_of_lt (Nat.lt_of_lt_of_le V_351.lt (Nat.le_of_eq g365.symm))
  have ne_b281_b365 : b281 ≠ b365 := Nat.ne_of_lt (Nat.lt_of_lt_of_le E_356.lt (Nat.le_of_eq g365.symm))
  have ne_b317_b365 : b317 ≠ b365 := Nat.ne_of_lt (Nat.lt_of_lt_of_le E_360.lt (Nat.le_of_eq g365.symm))
  have E_366 := E_349.ext E365
  have S_367 := S_350.ext E365
  have V_368 := V_351.ext E365
  have F_369 := F_352.ext E365
  have F_370 := F_364.ext E365
  have F_371 := F_354.ext E365
  have F_372 := F_355.ext E365
  have E_373 := E_356.ext E365
  have F_374 := F_357.ext E365
  have F_375 := F_358.ext E365
  have F_376 := F_359.ext E365
  have E_377 := E_360.ext E365
  have F_378 := F_361.ext E365
  have F_379 := F_362.ext E365
  have F_380 := F_363.ext E365
  have g_b365 : n0 ≤ b365 := Nat.le_trans Z348 (Nat.le_of_eq g365.symm)
  have sz_b365 : h0.size ≤ b365 := Nat.le_trans K348.1 (Nat.le_of_eq g365.symm)
  have Z365 : n0 ≤ h365.size := Nat.le_trans Z348 E365.1
  have K365 : Keep h0 h365 [a] := K348.ext E365
  have F_381 : Fld Z h365 b365 "java/util/AbstractList" "modCount" "I" (.int (0 : Int32)) := D365 (Or.inl (hw _ (List.mem_of_getElem? (i := 52) rfl))) (ty := .int) (by decide)
  have F_382 : Fld Z h365 b365 "java/util/ArrayList" "elementData" "[Ljava/lang/Object;" .null := D365 (Or.inl (hw _ (List.mem_of_getElem? (i := 55) rfl))) (ty := (.array (.object "java/lang/Object"))) (by decide)
  have F_383 : Fld Z h365 b365 "java/util/ArrayList" "size" "I" (.int (0 : Int32)) := D365 (Or.inl (hw _ (List.mem_of_getElem? (i := 80) rfl))) (ty := .int) (by decide)
  refine Gl.st (g' := (mkF m 30 #[.val (.ref a), .val (.int (1 : Int32)), .unset] [(.ref b365), (.ref a)])) (fun τ κ => st365 _ κ) ?_
  refine Gl.st (g' := (mkF m 31 #[.val (.ref a), .val (.int (1 : Int32)), .unset] [(.ref b365), (.ref b365), (.ref a)])) (fun τ κ => XS.dup X365.here hx rfl (hb hby d1_30) rfl rfl κ) ?_
  obtain ⟨rv384, _, ⟨T384, L384, k384, n384⟩, -, X384, ⟨Lc384, hQ384, l384, y384, z384⟩, st384⟩ := X365.specialBack hx (y := (⟨"java/util/ArrayList", "<init>", "()V"⟩ : MethodName)) rfl hown (mvT hZ (hw _ (List.mem_of_getElem? (i := 35) rfl))) (mvT hZ (hw _ (List.mem_of_getElem? (i := 36) rfl))) (mvT hZ (hw _ (List.mem_of_getElem? (i := 37) rfl))) (by decide) (backOf (W := 2) (rm5 l Z a0 hw [] b365 de h365 n0 Z365 A365 g_b365 S_367 F_381 F_382 F_383) hZ (hw _ (List.mem_of_getElem? (i := 37) rfl)) (hw _ (List.mem_of_getElem? (i := 34) rfl)) (by decide) (by decide)) (g := (mkF m 31 #[.val (.ref a), .val (.int (1 : Int32)), .unset] [(.ref b365), (.ref b365), (.ref a)])) rfl (by rw [hml]; rfl) (Steps.refl _) (a := b365) (argsL := []) (rest := [(.ref b365), (.ref a)]) (lenOf pd_0 rfl) rfl (by show 2 * 0 + _ ≤ _; exact Nat.le_of_eq rfl) (hb hby d1_31) (fun _ _ => ⟨rfl, e365, (by decide : 3 + 0 ≤ _), (by decide : 15 + 0 ≤ _)⟩)
  dsimp only [Pt.U, Pt.locs, Pt.cells, Pt.slots] at X384 l384 y384 z384 st384 hQ384
  subst l384 y384 z384
  obtain ⟨rfl, N384q, Kc384, Ec384, FM384, FE384, FS384⟩ := hQ384
  have E_385 := E_366.keep Kc384
  have S_386 := Sta.keepX S_367 Kc384 (allS (P := fun x => ∃ c : Cell, h365[x]? = some c ∧ ∀ q, c.vm ≠ .statics q) A365.cell all0)
  have V_387 := V_368.keep Kc384 (ninS ne_de_b365 nin0)
  have F_388 := F_369.keep Kc384 (ninS ne_a_b365 nin0)
  have F_389 := F_370.keep Kc384 (ninS ne_a_b365 nin0)
  have F_390 := F_371.keep Kc384 (ninS ne_a_b365 nin0)
  have F_391 := F_372.keep Kc384 (ninS ne_a_b365 nin0)
  have E_392 := E_373.keep Kc384
  have F_393 := F_374.keep Kc384 (ninS ne_b281_b365 nin0)
  have F_394 := F_375.keep Kc384 (ninS ne_b281_b365 nin0)
  have F_395 := F_376.keep Kc384 (ninS ne_b281_b365 nin0)
  have E_396 := E_377.keep Kc384
  have F_397 := F_378.keep Kc384 (ninS ne_b317_b365 nin0)
  have F_398 := F_379.keep Kc384 (ninS ne_b317_b365 nin0)
  have F_399 := F_380.keep Kc384 (ninS ne_b317_b365 nin0)
  have E_400 := A365.keep Kc384
  have N384 := Fr.app N348 N384q
  have Z384 : n0 ≤ T384.heap.size := Nat.le_trans Z365 Kc384.1
  have K384 : Keep h0 T384.heap [a] := K365.trans Kc384 (allS (Or.inr sz_b365) all0)
  refine Gl.st (g' := (mkF m 34 #[.val (.ref a), .val (.int (1 : Int32)), .unset] [(.ref b365), (.ref a)])) (fun τ κ => st384.trans κ) ?_
  obtain ⟨T404, h404, X404, e404, W404, st404⟩ := putF X384 hx hZ hown (host := "") (Or.inl (hw _ (List.mem_of_getElem? (i := 58) rfl))) Via.refl rfl F_390 E_385 (Or.inr ⟨(hw _ (List.mem_of_getElem? (i := 59) rfl)), rfl, hnm⟩) (hw _ (List.mem_of_getElem? (i := 3) rfl)) (ty := (.object "java/util/List")) (by decide) rfl rfl (g := (mkF m 34 #[.val (.ref a), .val (.int (1 : Int32)), .unset] [(.ref b365), (.ref a)])) rfl rfl (hb hby d1_34)
  have E_405 := E_385.wr W404
  have S_406 := S_386.wr W404
  have V_407 := V_387.other W404 (Ne.symm hde)
  have F_408 := F_388.other W404 (Or.inr (slot_ne (Or.inr (hw _ (List.mem_of_getElem? (i := 31) rfl))) (Or.inr (hw _ (List.mem_of_getElem? (i := 59) rfl))) (by decide) (t := (.object "java/util/TreeMap")) (t' := (.object "java/util/List")) (by decide) (by decide)))
  have F_409 := F_389.other W404 (Or.inr (slot_ne (Or.inr (hw _ (List.mem_of_getElem? (i := 57) rfl))) (Or.inr (hw _ (List.mem_of_getElem? (i := 59) rfl))) (by decide) (t := (.object "java/util/List")) (t' := (.object "java/util/List")) (by decide) (by decide)))
  have F_411 := F_391.other W404 (Or.inr (slot_ne (Or.inr (hw _ (List.mem_of_getElem? (i := 62) rfl))) (Or.inr (hw _ (List.mem_of_getElem? (i := 59) rfl))) (by decide) (t := (.array .long)) (t' := (.object "java/util/List")) (by decide) (by decide)))
  have E_412 := E_392.wr W404
  have F_413 := F_393.other W404 (Or.inl (Ne.symm ne_a_b281))
  have F_414 := F_394.other W404 (Or.inl (Ne.symm ne_a_b281))
  have F_415 := F_395.other W404 (Or.inl (Ne.symm ne_a_b281))
  have E_416 := E_396.wr W404
  have F_417 := F_397.other W404 (Or.inl (Ne.symm ne_a_b317))
  have F_418 := F_398.other W404 (Or.inl (Ne.symm ne_a_b317))
  have F_419 := F_399.other W404 (Or.inl (Ne.symm ne_a_b317))
  have E_420 := Ec384.wr W404
  have F_421 := FM384.other W404 (Or.inl (Ne.symm ne_a_b365))
  have F_422 := FE384.other W404 (Or.inl (Ne.symm ne_a_b365))
  have F_423 := FS384.other W404 (Or.inl (Ne.symm ne_a_b365))
  have N404 := Fr.snoc X404 N384 g0
  have Z404 : n0 ≤ h404.size := Nat.le_trans Z384 (Nat.le_of_eq W404.size.symm)
  have K404 : Keep h0 h404 [a] := K384.wr W404 (Or.inl (List.mem_of_getElem? (i := 0) rfl))
  have F_424 := F_390.same W404
  refine Gl.st (g' := (mkF m 37 #[.val (.ref a), .val (.int (1 : Int32)), .unset] [])) (fun τ κ => st404 _ κ) ?_
  refine Gl.st (g' := (mkF m 38 #[.val (.ref a), .val (.int (1 : Int32)), .unset] [(.ref a)])) (fun τ κ => XS.aloadN X404.here hx rfl (hb hby d1_37) rfl rfl κ) ?_
  refine Gl.st (g' := (mkF m 39 #[.val (.ref a), .val (.int (1 : Int32)), .unset] [(.int (1 : Int32)), (.ref a)])) (fun τ κ => XS.iloadN X404.here hx rfl (hb hby d1_38) rfl κ) ?_
  obtain ⟨T425, h425, k425, X425, e425, E425, A425, st425⟩ := newP X404 hx hZ (hw _ (List.mem_of_getElem? (i := 60) rfl)) e404 (g := (mkF m 39 #[.val (.ref a), .val (.int (1 : Int32)), .unset] [(.int (1 : Int32)), (.ref a)])) rfl (hb hby d1_39) rfl (by decide) (cap := 1) (by decide) (by decide) (by decide) (by decide)
  obtain ⟨b425, g425⟩ : ∃ z, z = h404.size := ⟨_, rfl⟩
  rw [← g425] at A425 st425
  have ne_a_b425 : a ≠ b425 := Nat.ne_of_lt (Nat.lt_of_lt_of_le E_405.lt (Nat.le_of_eq g425.symm))
  have ne_de_b425 : de ≠ b425 := Nat.ne_of_lt (Nat.lt_of_lt_of_le V_407.lt (Nat.le_of_eq g425.symm))
  have ne_b281_b425 : b281 ≠ b425 := Nat.ne_of_lt (Nat.lt_of_lt_of_le E_412.lt (Nat.le_of_eq g425.symm))
  have ne_b317_b425 : b317 ≠ b425 := Nat.ne_of_lt (Nat.lt_of_lt_of_le E_416.lt (Nat.le_of_eq g425.symm))
  have ne_b365_b425 : b365 ≠ b425 := Nat.ne_of_lt (Nat.lt_of_lt_of_le E_420.lt (Nat.le_of_eq g425.symm))
  have E_426 := E_405.ext E425
  have S_427 := S_406.ext E425
  have V_428 := V_407.ext E425
  have F_429 := F_408.ext E425
  have F_430 := F_409.ext E425
  have F_431 := F_424.ext E425
  have F_432 := F_411.ext E425
  have E_433 := E_412.ext E425
  have F_434 := F_413.ext E425
  have F_435 := F_414.ext E425
  have F_436 := F_415.ext E425
  have E_437 := E_416.ext E425
  have F_438 := F_417.ext E425
  have F_439 := F_418.ext E425
  have F_440 := F_419.ext E425
  have E_441 := E_420.ext E425
  have F_442 := F_421.ext E425
  have F_443 := F_422.ext E425
  have F_444 := F_423.ext E425
  have g_b425 : n0 ≤ b425 := Nat.le_trans Z404 (Nat.le_of_eq g425.symm)
  have sz_b425 : h0.size ≤ b425 := Nat.le_trans K404.1 (Nat.le_of_eq g425.symm)
  have Z425 : n0 ≤ h425.size := Nat.le_trans Z404 E425.1
  have K425 : Keep h0 h425 [a] := K404.ext E425
  have V_b425 : Arv Z h425 b425 k425 .long (1 : Int32) [(.long (0 : Int64))] (.long (0 : Int64)) := (Arv.new A425 (by decide)).pad (pad_rep [] (.long (0 : Int64)) 1)
  refine Gl.st (g' := (mkF m 41 #[.val (.ref a), .val (.int (1 : Int32)), .unset] [(.ref b425), (.ref a)])) (fun τ κ => st425 _ κ) ?_
  obtain ⟨T445, h445, X445, e445, W445, st445⟩ := putF X425 hx hZ hown (host := "") (Or.inl (hw _ (List.mem_of_getElem? (i := 61) rfl))) Via.refl e425 F_432 E_426 (Or.inr ⟨(hw _ (List.mem_of_getElem? (i := 62) rfl)), rfl, hnm⟩) (hw _ (List.mem_of_getElem? (i := 3) rfl)) (ty := (.array .long)) (by decide) rfl rfl (g := (mkF m 41 #[.val (.ref a), .val (.int (1 : Int32)), .unset] [(.ref b425), (.ref a)])) rfl rfl (hb hby d1_41)
  have E_446 := E_426.wr W445
  have S_447 := S_427.wr W445
  have V_448 := V_428.other W445 (Ne.symm hde)
  have F_449 := F_429.other W445 (Or.inr (slot_ne (Or.inr (hw _ (List.mem_of_getElem? (i := 31) rfl))) (Or.inr (hw _ (List.mem_of_getElem? (i := 62) rfl))) (by decide) (t := (.object "java/util/TreeMap")) (t' := (.array .long)) (by decide) (by decide)))
  have F_450 := F_430.other W445 (Or.inr (slot_ne (Or.inr (hw _ (List.mem_of_getElem? (i := 57) rfl))) (Or.inr (hw _ (List.mem_of_getElem? (i := 62) rfl))) (by decide) (t := (.object "java/util/List")) (t' := (.array .long)) (by decide) (by decide)))
  have F_451 := F_431.other W445 (Or.inr (slot_ne (Or.inr (hw _ (List.mem_of_getElem? (i := 59) rfl))) (Or.inr (hw _ (List.mem_of_getElem? (i := 62) rfl))) (by decide) (t := (.object "java/util/List")) (t' := (.array .long)) (by decide) (by decide)))
  have E_453 := E_433.wr W445
  have F_454 := F_434.other W445 (Or.inl (Ne.symm ne_a_b281))
  have F_455 := F_435.other W445 (Or.inl (Ne.symm ne_a_b281))
  have F_456 := F_436.other W445 (Or.inl (Ne.symm ne_a_b281))
  have E_457 := E_437.wr W445
  have F_458 := F_438.other W445 (Or.inl (Ne.symm ne_a_b317))
  have F_459 := F_439.other W445 (Or.inl (Ne.symm ne_a_b317))
  have F_460 := F_440.other W445 (Or.inl (Ne.symm ne_a_b317))
  have E_461 := E_441.wr W445
  have F_462 := F_442.other W445 (Or.inl (Ne.symm ne_a_b365))
  have F_463 := F_443.other W445 (Or.inl (Ne.symm ne_a_b365))
  have F_464 := F_444.other W445 (Or.inl (Ne.symm ne_a_b365))
  have V_465 := V_b425.other W445 (Ne.symm ne_a_b425)
  have N445 := Fr.snoc X445 N404 g0
  have Z445 : n0 ≤ h445.size := Nat.le_trans Z425 (Nat.le_of_eq W445.size.symm)
  have K445 : Keep h0 h445 [a] := K425.wr W445 (Or.inl (List.mem_of_getElem? (i := 0) rfl))
  have F_466 := F_432.same W445
  refine Gl.st (g' := (mkF m 44 #[.val (.ref a), .val (.int (1 : Int32)), .unset] [])) (fun τ κ => st445 _ κ) ?_
  refine Gl.st (g' := (mkF m 45 #[.val (.ref a), .val (.int (1 : Int32)), .unset] [(.ref a)])) (fun τ κ => XS.aloadN X445.here hx rfl (hb hby d1_44) rfl rfl κ) ?_
  obtain ⟨T467, X467, e467, st467⟩ := getF X445 hx hZ hown (host := "") (Or.inl (hw _ (List.mem_of_getElem? (i := 61) rfl))) Via.refl e445 F_466 (g := (mkF m 45 #[.val (.ref a), .val (.int (1 : Int32)), .unset] [(.ref a)])) rfl rfl (hb hby d1_45)
  refine Gl.st (g' := (mkF m 48 #[.val (.ref a), .val (.int (1 : Int32)), .unset] [(.ref b425)])) (fun τ κ => st467 _ κ) ?_
  refine Gl.st (g' := (mkF m 51 #[.val (.ref a), .val (.int (1 : Int32)), .unset] [(.long (-1 : Int64)), (.ref b425)])) (fun τ κ => X467.ldc2Long hx hown (mvT hZ (hw _ (List.mem_of_getElem? (i := 63) rfl))) (g := (mkF m 48 #[.val (.ref a), .val (.int (1 : Int32)), .unset] [(.ref b425)])) rfl (hb hby d1_48) _ κ) ?_
  obtain ⟨rv468, _, ⟨T468, L468, k468, n468⟩, -, X468, ⟨Lc468, hQ468, l468, y468, z468⟩, st468⟩ := Jvm.LawKit.callS X467 hx (y := (⟨"java/util/Arrays", "fill", "([JJ)V"⟩ : MethodName)) hown (mvT hZ (hw _ (List.mem_of_getElem? (i := 64) rfl))) (mvT hZ (hw _ (List.mem_of_getElem? (i := 65) rfl))) (mvT hZ (hw _ (List.mem_of_getElem? (i := 66) rfl))) (mvT hZ (hw _ (List.mem_of_getElem? (i := 67) rfl))) (by decide) (backOf (W := 0) (rm_fill1 l Z a0 hw [] b425 (-1 : Int64) k425 h445 n0 Z445 V_465 g_b425) hZ (hw _ (List.mem_of_getElem? (i := 67) rfl)) (hw _ (List.mem_of_getElem? (i := 66) rfl)) (by decide) (by decide)) (g := (mkF m 51 #[.val (.ref a), .val (.int (1 : Int32)), .unset] [(.long (-1 : Int64)), (.ref b425)])) rfl (by rw [hml]; rfl) (argsL := [(.ref b425), (.long (-1 : Int64))]) (rest := []) (lenOf pd_5 rfl) rfl (by show 2 * 0 + _ ≤ _; exact Nat.le_of_eq rfl) (hb hby d1_51) (fun _ _ => ⟨rfl, e467, (by decide : 4 + 0 ≤ _), (by decide : 16 + 0 ≤ _)⟩)
  dsimp only [Pt.U, Pt.locs, Pt.cells, Pt.slots] at X468 l468 y468 z468 st468 hQ468
  subst l468 y468 z468
  obtain ⟨rfl, N468q, Kc468, V468⟩ := hQ468
  have E_469 := E_446.keep Kc468
  have S_470 := Sta.keepX S_447 Kc468 (allS (P := fun x => ∃ c : Cell, h445[x]? = some c ∧ ∀ q, c.vm ≠ .statics q) (Arv.cellX V_465) all0)
  have V_471 := V_448.keep Kc468 (ninS ne_de_b425 nin0)
  have F_472 := F_449.keep Kc468 (ninS ne_a_b425 nin0)
  have F_473 := F_450.keep Kc468 (ninS ne_a_b425 nin0)
  have F_474 := F_451.keep Kc468 (ninS ne_a_b425 nin0)
  have F_475 := F_466.keep Kc468 (ninS ne_a_b425 nin0)
  have E_476 := E_453.keep Kc468
  have F_477 := F_454.keep Kc468 (ninS ne_b281_b425 nin0)
  have F_478 := F_455.keep Kc468 (ninS ne_b281_b425 nin0)
  have F_479 := F_456.keep Kc468 (ninS ne_b281_b425 nin0)
  have E_480 := E_457.keep Kc468
  have F_481 := F_458.keep Kc468 (ninS ne_b317_b425 nin0)
  have F_482 := F_459.keep Kc468 (ninS ne_b317_b425 nin0)
  have F_483 := F_460.keep Kc468 (ninS ne_b317_b425 nin0)
  have E_484 := E_461.keep Kc468
  have F_485 := F_462.keep Kc468 (ninS ne_b365_b425 nin0)
  have F_486 := F_463.keep Kc468 (ninS ne_b365_b425 nin0)
  have F_487 := F_464.keep Kc468 (ninS ne_b365_b425 nin0)
  have N468 := Fr.app N445 N468q
  have Z468 : n0 ≤ T468.heap.size := Nat.le_trans Z445 Kc468.1
  have K468 : Keep h0 T468.heap [a] := K445.trans Kc468 (allS (Or.inr sz_b425) all0)
  refine Gl.st (g' := (mkF m 54 #[.val (.ref a), .val (.int (1 : Int32)), .unset] [])) (fun τ κ => st468 _ κ) ?_
  refine Gl.st (g' := (mkF m 55 #[.val (.ref a), .val (.int (1 : Int32)), .unset] [(.int (0 : Int32))])) (fun τ κ => XS.iconst X468.here hx rfl (hb hby d1_54) κ) ?_
  refine Gl.st (g' := (mkF m 56 #[.val (.ref a), .val (.int (1 : Int32)), .val (.int (0 : Int32))] [])) (fun τ κ => XS.istoreN X468.here hx rfl (hb hby d1_55) rfl (l' := #[.val (.ref a), .val (.int (1 : Int32)), .val (.int (0 : Int32))]) rfl κ) ?_
  refine Gl.st (g' := (mkF m 57 #[.val (.ref a), .val (.int (1 : Int32)), .val (.int (0 : Int32))] [(.int (0 : Int32))])) (fun τ κ => XS.iloadN X468.here hx rfl (hb hby d1_56) rfl κ) ?_
  refine Gl.st (g' := (mkF m 58 #[.val (.ref a), .val (.int (1 : Int32)), .val (.int (0 : Int32))] [(.int (1 : Int32)), (.int (0 : Int32))])) (fun τ κ => XS.iloadN X468.here hx rfl (hb hby d1_57) rfl κ) ?_
  have hc489 : (0 : Int32) < (1 : Int32) := by decide
  refine Gl.st (g' := (mkF m 61 #[.val (.ref a), .val (.int (1 : Int32)), .val (.int (0 : Int32))] [])) (fun τ κ => XS.icmpNo X468.here hx rfl (hb hby d1_58) rfl (tlt hc489).2.1 κ) ?_
  refine Gl.st (g' := (mkF m 62 #[.val (.ref a), .val (.int (1 : Int32)), .val (.int (0 : Int32))] [(.ref a)])) (fun τ κ => XS.aloadN X468.here hx rfl (hb hby d1_61) rfl rfl κ) ?_
  obtain ⟨T490, X490, e490, st490⟩ := getF X468 hx hZ hown (host := "") (Or.inl (hw _ (List.mem_of_getElem? (i := 56) rfl))) Via.refl rfl F_473 (g := (mkF m 62 #[.val (.ref a), .val (.int (1 : Int32)), .val (.int (0 : Int32))] [(.ref a)])) rfl rfl (hb hby d1_62)
  refine Gl.st (g' := (mkF m 65 #[.val (.ref a), .val (.int (1 : Int32)), .val (.int (0 : Int32))] [(.ref b317)])) (fun τ κ => st490 _ κ) ?_
  obtain ⟨T491, h491, X491, e491, E491, A491, D491, -, st491⟩ := newO X490 hx hZ hown (hw _ (List.mem_of_getElem? (i := 32) rfl)) (hw _ (List.mem_of_getElem? (i := 33) rfl)) (hw _ (List.mem_of_getElem? (i := 34) rfl)) e490 (g := (mkF m 65 #[.val (.ref a), .val (.int (1 : Int32)), .val (.int (0 : Int32))] [(.ref b317)])) rfl (hb hby d1_65) (by decide) (by decide)
  obtain ⟨b491, g491⟩ : ∃ z, z = T468.heap.size := ⟨_, rfl⟩
  rw [← g491] at A491 D491 st491
  have ne_a_b491 : a ≠ b491 := Nat.ne_of_lt (Nat.lt_of_lt_of_le E_469.lt (Nat.le_of_eq g491.symm))
  have ne_de_b491 : de ≠ b491 := Nat.ne_of_lt (Nat.lt_of_lt_of_le V_471.lt (Nat.le_of_eq g491.symm))
  have ne_b281_b491 : b281 ≠ b491 := Nat.ne_of_lt (Nat.lt_of_lt_of_le E_476.lt (Nat.le_of_eq g491.symm))
  have ne_b317_b491 : b317 ≠ b491 := Nat.ne_of_lt (Nat.lt_of_lt_of_le E_480.lt (Nat.le_of_eq g491.symm))
  have ne_b365_b491 : b365 ≠ b491 := Nat.ne_of_lt (Nat.lt_of_lt_of_le E_484.lt (Nat.le_of_eq g491.symm))
  have ne_b425_b491 : b425 ≠ b491 := Nat.ne_of_lt (Nat.lt_of_lt_of_le V468.lt (Nat.le_of_eq g491.symm))
  have E_492 := E_469.ext E491
  have S_493 := S_470.ext E491
  have V_494 := V_471.ext E491
  have F_495 := F_472.ext E491
  have F_496 := F_473.ext E491
  have F_497 := F_474.ext E491
  have F_498 := F_475.ext E491
  have E_499 := E_476.ext E491
  have F_500 := F_477.ext E491
  have F_501 := F_478.ext E491
  have F_502 := F_479.ext E491
  have E_503 := E_480.ext E491
  have F_504 := F_481.ext E491
  have F_505 := F_482.ext E491
  have F_506 := F_483.ext E491
  have E_507 := E_484.ext E491
  have F_508 := F_485.ext E491
  have F_509 := F_486.ext E491
  have F_510 := F_487.ext E491
  have V_511 := V468.ext E491
  have g_b491 : n0 ≤ b491 := Nat.le_trans Z468 (Nat.le_of_eq g491.symm)
  have sz_b491 : h0.size ≤ b491 := Nat.le_trans K468.1 (Nat.le_of_eq g491.symm)
  have Z491 : n0 ≤ h491.size := Nat.le_trans Z468 E491.1
  have K491 : Keep h0 h491 [a] := K468.ext E491
  have F_512 : Fld Z h491 b491 "java/util/AbstractList" "modCount" "I" (.int (0 : Int32)) := D491 (Or.inl (hw _ (List.mem_of_getElem? (i := 52) rfl))) (ty := .int) (by decide)
  have F_513 : Fld Z h491 b491 "java/util/ArrayList" "elementData" "[Ljava/lang/Object;" .null := D491 (Or.inl (hw _ (List.mem_of_getElem? (i := 55) rfl))) (ty := (.array (.object "java/lang/Object"))) (by decide)
  have F_514 : Fld Z h491 b491 "java/util/ArrayList" "size" "I" (.int (0 : Int32)) := D491 (Or.inl (hw _ (List.mem_of_getElem? (i := 80) rfl))) (ty := .int) (by decide)
  refine Gl.st (g' := (mkF m 68 #[.val (.ref a), .val (.int (1 : Int32)), .val (.int (0 : Int32))] [(.ref b491), (.ref b317)])) (fun τ κ => st491 _ κ) ?_
  refine Gl.st (g' := (mkF m 69 #[.val (.ref a), .val (.int (1 : Int32)), .val (.int (0 : Int32))] [(.ref b491), (.ref b491), (.ref b317)])) (fun τ κ => XS.dup X491.here hx rfl (hb hby d1_68) rfl rfl κ) ?_
  obtain ⟨rv515, _, ⟨T515, L515, k515, n515⟩, -, X515, ⟨Lc515, hQ515, l515, y515, z515⟩, st515⟩ := X491.specialBack hx (y := (⟨"java/util/ArrayList", "<init>", "()V"⟩ : MethodName)) rfl hown (mvT hZ (hw _ (List.mem_of_getElem? (i := 35) rfl))) (mvT hZ (hw _ (List.mem_of_getElem? (i := 36) rfl))) (mvT hZ (hw _ (List.mem_of_getElem? (i := 37) rfl))) (by decide) (backOf (W := 2) (rm5 l Z a0 hw [] b491 de h491 n0 Z491 A491 g_b491 S_493 F_512 F_513 F_514) hZ (hw _ (List.mem_of_getElem? (i := 37) rfl)) (hw _ (List.mem_of_getElem? (i := 34) rfl)) (by decide) (by decide)) (g := (mkF m 69 #[.val (.ref a), .val (.int (1 : Int32)), .val (.int (0 : Int32))] [(.ref b491), (.ref b491), (.ref b317)])) rfl (by rw [hml]; rfl) (Steps.refl _) (a := b491) (argsL := []) (rest := [(.ref b491), (.ref b317)]) (lenOf pd_0 rfl) rfl (by show 2 * 0 + _ ≤ _; exact Nat.le_of_eq rfl) (hb hby d1_69) (fun _ _ => ⟨rfl, e491, (by decide : 5 + 0 ≤ _), (by decide : 19 + 0 ≤ _)⟩)
  dsimp only [Pt.U, Pt.locs, Pt.cells, Pt.slots] at X515 l515 y515 z515 st515 hQ515
  subst l515 y515 z515
  obtain ⟨rfl, N515q, Kc515, Ec515, FM515, FE515, FS515⟩ := hQ515
  have E_516 := E_492.keep Kc515
  have S_517 := Sta.keepX S_493 Kc515 (allS (P := fun x => ∃ c : Cell, h491[x]? = some c ∧ ∀ q, c.vm ≠ .statics q) A491.cell all0)
  have V_518 := V_494.keep Kc515 (ninS ne_de_b491 nin0)
  have F_519 := F_495.keep Kc515 (ninS ne_a_b491 nin0)
  have F_520 := F_496.keep Kc515 (ninS ne_a_b491 nin0)
  have F_521 := F_497.keep Kc515 (ninS ne_a_b491 nin0)
  have F_522 := F_498.keep Kc515 (ninS ne_a_b491 nin0)
  have E_523 := E_499.keep Kc515
  have F_524 := F_500.keep Kc515 (ninS ne_b281_b491 nin0)
  have F_525 := F_501.keep Kc515 (ninS ne_b281_b491 nin0)
  have F_526 := F_502.keep Kc515 (ninS ne_b281_b491 nin0)
  have E_527 := E_503.keep Kc515
  have F_528 := F_504.keep Kc515 (ninS ne_b317_b491 nin0)
  have F_529 := F_505.keep Kc515 (ninS ne_b317_b491 nin0)
  have F_530 := F_506.keep Kc515 (ninS ne_b317_b491 nin0)
  have E_531 := E_507.keep Kc515
  have F_532 := F_508.keep Kc515 (ninS ne_b365_b491 nin0)
  have F_533 := F_509.keep Kc515 (ninS ne_b365_b491 nin0)
  have F_534 := F_510.keep Kc515 (ninS ne_b365_b491 nin0)
  have V_535 := V_511.keep Kc515 (ninS ne_b425_b491 nin0)
  have E_536 := A491.keep Kc515
  have N515 := Fr.app N468 N515q
  have Z515 : n0 ≤ T515.heap.size := Nat.le_trans Z491 Kc515.1
  have K515 : Keep h0 T515.heap [a] := K491.trans Kc515 (allS (Or.inr sz_b491) all0)
  refine Gl.st (g' := (mkF m 72 #[.val (.ref a), .val (.int (1 : Int32)), .val (.int (0 : Int32))] [(.ref b491), (.ref b317)])) (fun τ κ => st515.trans κ) ?_
  obtain ⟨cq540, kq540, q540a, q540b, q540c⟩ := isOf hZ rfl E_527
  obtain ⟨rv540, _, ⟨T540, L540, k540, n540⟩, -, X540, ⟨Lc540, hQ540, l540, y540, z540⟩, st540⟩ := X515.interfaceBack hx (xi := (⟨"java/util/List", "add", "(Ljava/lang/Object;)Z"⟩ : MethodName)) (y := (⟨"java/util/ArrayList", "add", "(Ljava/lang/Object;)Z"⟩ : MethodName)) hown (mvT hZ (hw _ (List.mem_of_getElem? (i := 68) rfl))) (mvT hZ (hw _ (List.mem_of_getElem? (i := 69) rfl))) (mvT hZ (hw _ (List.mem_of_getElem? (i := 70) rfl))) (mvT hZ (hw _ (List.mem_of_getElem? (i := 71) rfl))) (mvT hZ (hw _ (List.mem_of_getElem? (i := 72) rfl))) (mvT hZ (hw _ (List.mem_of_getElem? (i := 73) rfl))) (mvT hZ (hw _ (List.mem_of_getElem? (i := 74) rfl))) (mvT hZ (hw _ (List.mem_of_getElem? (i := 75) rfl))) (by decide) (backOf (W := 0) (rm_Ae l Z a0 hw [] b317 b491 de kd (0 : Int32) T515.heap n0 Z515 E_527 g_b317 F_528 F_529 F_530 S_517 V_518 (Ne.symm ne_de_b317) Ec515) hZ (hw _ (List.mem_of_getElem? (i := 76) rfl)) (hw _ (List.mem_of_getElem? (i := 34) rfl)) (by decide) (by decide)) q540a q540b q540c (g := (mkF m 72 #[.val (.ref a), .val (.int (1 : Int32)), .val (.int (0 : Int32))] [(.ref b491), (.ref b317)])) rfl (by rw [hml]; rfl) (Steps.refl _) (argsL := [(.ref b491)]) (rest := []) (lenOf pd_6 rfl) rfl (by show 2 * 0 + _ ≤ _; exact Nat.le_of_eq rfl) (hb hby d1_72) (fun _ _ => ⟨rfl, rfl, (by decide : 5 + 1 ≤ _), (by decide : 19 + 10 ≤ _)⟩)
  dsimp only [Pt.U, Pt.locs, Pt.cells, Pt.slots] at X540 l540 y540 z540 st540 hQ540
  subst l540 y540 z540
  obtain ⟨b540, kk540, vs540, rfl, N540q, Kc540, s540, Ec540, FM540, FE540, FS540, V540, O540⟩ := hQ540
  have ne_a_b540 : a ≠ b540 := Nat.ne_of_lt (Nat.lt_of_lt_of_le E_516.lt s540)
  have ne_de_b540 : de ≠ b540 := Nat.ne_of_lt (Nat.lt_of_lt_of_le V_518.lt s540)
  have ne_b281_b540 : b281 ≠ b540 := Nat.ne_of_lt (Nat.lt_of_lt_of_le E_523.lt s540)
  have ne_b317_b540 : b317 ≠ b540 := Nat.ne_of_lt (Nat.lt_of_lt_of_le E_527.lt s540)
  have ne_b365_b540 : b365 ≠ b540 := Nat.ne_of_lt (Nat.lt_of_lt_of_le E_531.lt s540)
  have ne_b425_b540 : b425 ≠ b540 := Nat.ne_of_lt (Nat.lt_of_lt_of_le V_535.lt s540)
  have ne_b491_b540 : b491 ≠ b540 := Nat.ne_of_lt (Nat.lt_of_lt_of_le Ec515.lt s540)
  have g_b540 : n0 ≤ b540 := Nat.le_trans Z515 s540
  have sz_b540 : h0.size ≤ b540 := Nat.le_trans K515.1 s540
  have E_541 := E_516.keep Kc540
  have S_542 := Sta.keepX S_517 Kc540 (allS (P := fun x => ∃ c : Cell, T515.heap[x]? = some c ∧ ∀ q, c.vm ≠ .statics q) E_527.cell all0)
  have V_543 := V_518.keep Kc540 (ninS ne_de_b317 nin0)
  have F_544 := F_519.keep Kc540 (ninS ne_a_b317 nin0)
  have F_545 := F_520.keep Kc540 (ninS ne_a_b317 nin0)
  have F_546 := F_521.keep Kc540 (ninS ne_a_b317 nin0)
  have F_547 := F_522.keep Kc540 (ninS ne_a_b317 nin0)
  have E_548 := E_523.keep Kc540
  have F_549 := F_524.keep Kc540 (ninS ne_b281_b317 nin0)
  have F_550 := F_525.keep Kc540 (ninS ne_b281_b317 nin0)
  have F_551 := F_526.keep Kc540 (ninS ne_b281_b317 nin0)
  have E_552 := E_527.keep Kc540
  have E_556 := E_531.keep Kc540
  have F_557 := F_532.keep Kc540 (ninS (Ne.symm ne_b317_b365) nin0)
  have F_558 := F_533.keep Kc540 (ninS (Ne.symm ne_b317_b365) nin0)
  have F_559 := F_534.keep Kc540 (ninS (Ne.symm ne_b317_b365) nin0)
  have V_560 := V_535.keep Kc540 (ninS (Ne.symm ne_b317_b425) nin0)
  have E_561 := Ec515.keep Kc540
  have F_562 := FM515.keep Kc540 (ninS (Ne.symm ne_b317_b491) nin0)
  have F_563 := FE515.keep Kc540 (ninS (Ne.symm ne_b317_b491) nin0)
  have F_564 := FS515.keep Kc540 (ninS (Ne.symm ne_b317_b491) nin0)
  have N540 := Fr.app N515 N540q
  have Z540 : n0 ≤ T540.heap.size := Nat.le_trans Z515 Kc540.1
  have K540 : Keep h0 T540.heap [a] := K515.trans Kc540 (allS (Or.inr sz_b317) all0)
  refine Gl.st (g' := (mkF m 77 #[.val (.ref a), .val (.int (1 : Int32)), .val (.int (0 : Int32))] [(.int (1 : Int32))])) (fun τ κ => st540.trans κ) ?_
  refine Gl.st (g' := (mkF m 78 #[.val (.ref a), .val (.int (1 : Int32)), .val (.int (0 : Int32))] [])) (fun τ κ => XS.pop X540.here hx rfl (hb hby d1_77) rfl rfl κ) ?_
  refine Gl.st (g' := (mkF m 81 #[.val (.ref a), .val (.int (1 : Int32)), .val (.int (1 : Int32))] [])) (fun τ κ => XS.iinc X540.here hx rfl (hb hby d1_78) rfl (l' := #[.val (.ref a), .val (.int (1 : Int32)), .val (.int (1 : Int32))]) rfl κ) ?_
  refine Gl.st (g' := (mkF m 56 #[.val (.ref a), .val (.int (1 : Int32)), .val (.int (1 : Int32))] [])) (fun τ κ => XS.goto X540.here hx rfl (pc0 := 81) (pc' := 56) rfl (hb hby d1_81) (by decide) (by decide) κ) ?_
  refine Gl.st (g' := (mkF m 57 #[.val (.ref a), .val (.int (1 : Int32)), .val (.int (1 : Int32))] [(.int (1 : Int32))])) (fun τ κ => XS.iloadN X540.here hx rfl (hb hby d1_56) rfl κ) ?_
  refine Gl.st (g' := (mkF m 58 #[.val (.ref a), .val (.int (1 : Int32)), .val (.int (1 : Int32))] [(.int (1 : Int32)), (.int (1 : Int32))])) (fun τ κ => XS.iloadN X540.here hx rfl (hb hby d1_57) rfl κ) ?_
  have hc565 : ¬ ((1 : Int32) < (1 : Int32)) := by decide
  refine Gl.st (g' := (mkF m 84 #[.val (.ref a), .val (.int (1 : Int32)), .val (.int (1 : Int32))] [])) (fun τ κ => XS.icmpYes X540.here hx rfl (pc0 := 58) (pc' := 84) rfl (hb hby d1_58) rfl (flt hc565).2.1 (by decide) (by decide) κ) ?_
  exact Gl.ret (v := none) X540 Bd.notSynchronized (fun _ => rfl) rfl (fun fs hr => X540.returnOut hx Bd.returns (hb hby d1_84) hr) (by decide) (by decide) ⟨b425, k425, rfl, N540, K540, sz_b425, E_541, F_547, V_560⟩
theorem ef_rm_init2 (m : MethodId) (a : Addr) : entryFrame m #[(.ref a), (.int (2 : Int32))] 3 = mkF m 0 #[.val (.ref a), .val (.int (2 : Int32)), .unset] [] := by first | (simp [entryFrame, mkF, argsToLocals, Value.category]; done) | rfl
def Q_rm_init2 (Z : State) (a : Addr) (de : Addr) (kd : ClassId) (h0 : Heap) (n0 : Nat) (v : Option Value) (h : Heap) (L : List Loc) : Prop := ∃ t kc, v = none ∧ Fr n0 L ∧ Keep h0 h [a] ∧ h0.size ≤ t ∧ Exa Z h a "org/precedence/Takeover" ∧ Fld Z h a "org/precedence/Takeover" "next" "[J" (.ref t) ∧ Arv Z h t kc .long (2 : Int32) [(.long (-1 : Int64)), (.long (-1 : Int64))] (.long (0 : Int64))
set_option maxRecDepth 65536 in
set_option maxHeartbeats 40000000 in
theorem rm_init2 (l : Launch) (Z : State) (a0 : Array Value) (hw : ∀ d ∈ tables_1, d.before a0 Z = true) (ws : List Jvm.Cond) (a : Addr) (de : Addr) (kd : ClassId) (h0 : Heap) (n0 : Nat) (Z0 : n0 ≤ h0.size) (E0 : Exa Z h0 a "org/precedence/Takeover") (g0 : n0 ≤ a) (S0 : Sta Z h0 "java/util/ArrayList" "DEFAULTCAPACITY_EMPTY_ELEMENTDATA" "[Ljava/lang/Object;" (.ref de)) (V0 : Arv Z h0 de kd (.object "java/lang/Object") (0 : Int32) [] .null) (hde : a ≠ de) (F0 : Fld Z h0 a "org/precedence/Takeover" "stamped" "Ljava/util/TreeMap;" .null) (F1 : Fld Z h0 a "org/precedence/Takeover" "unstamped" "Ljava/util/List;" .null) (F2 : Fld Z h0 a "org/precedence/Takeover" "submitted" "Ljava/util/List;" .null) (F3 : Fld Z h0 a "org/precedence/Takeover" "next" "[J" .null) :
    MetFree l (⟨"org/precedence/Takeover", "<init>", "(I)V"⟩ : MethodName) (head1 (Jvm.Cond.code (⟨"org/precedence/Takeover", "<init>", "(I)V"⟩ : MethodName) prog_35_method_1_code 3 none :: ws) ({ frames := 5, cells := 10, slots := 41, locals := 90 } : Room)) (fun aα Uα => aα = #[(.ref a), (.int (2 : Int32))] ∧ Z.Warmed39 Uα.vm ∧ Uα.heap = h0) (fun _ _ _ _ _ => True) (fun _ Uα oα Uβ => ∃ vα Lα, oα = .returned vα ∧ Q_rm_init2 Z a de kd h0 n0 vα Uβ.heap Lα ∧ FrameEnd Uα oα Uβ Lα ({ frames := 5, cells := 10, slots := 41, locals := 90 } : Room).cells ({ frames := 5, cells := 10, slots := 41, locals := 90 } : Room).slots) := by
  refine MetFree.of_bodySF (plainFor_of_name pn_org_precedence_Takeover) hisR ?_
  intro p e s m args below meth c s₁ Bd hml0 hP hKα
  obtain ⟨rfl, hZ, hh⟩ := hP
  have hx := Bd.exec
  have hby := Bd.bytes
  have hml : c.maxLocals = 3 := hml0
  have hown : s.vm.findClass "org/precedence/Takeover" = some m.cls := findClass_of_methodNamed Bd.named
  have hnm := (name_of_methodNamed Bd.named Bd.method).1
  have X0 : Stand p l e ({ frames := 5, cells := 10, slots := 41, locals := 90 } : Room) s m #[(.ref a), (.int (2 : Int32))] below meth c s₁ [] 0 0 := Stand.of_body Bd
  have e0 : s₁.heap = h0 := by rw [← hh, Bd.state]; rfl
  have N0 := Fr.nil n0
  suffices k0 : Gl p e below s (Q_rm_init2 Z a de kd h0 n0) ({ frames := 5, cells := 10, slots := 41, locals := 90 } : Room).cells ({ frames := 5, cells := 10, slots := 41, locals := 90 } : Room).slots s₁ (mkF m 0 #[.val (.ref a), .val (.int (2 : Int32)), .unset] []) from Gl.st (fun τ κ => castTop (ef_rm_init2 m a) κ) k0
  refine Gl.st (g' := (mkF m 1 #[.val (.ref a), .val (.int (2 : Int32)), .unset] [(.ref a)])) (fun τ κ => XS.aloadN X0.here hx rfl (hb hby d1_0) rfl rfl κ) ?_
  obtain ⟨T566, X566, e566, st566⟩ := initO X0 hx hZ hown (hw _ (List.mem_of_getElem? (i := 8) rfl)) (hw _ (List.mem_of_getElem? (i := 9) rfl)) (hw _ (List.mem_of_getElem? (i := 10) rfl)) e0 (g := (mkF m 1 #[.val (.ref a), .val (.int (2 : Int32)), .unset] [(.ref a)])) rfl (by rw [hml]; rfl) rfl (hb hby d1_1) (by decide) (W := 0) (by show 2 * 0 + _ ≤ _; exact Nat.le_of_eq rfl) (by decide)
  refine Gl.st (g' := (mkF m 4 #[.val (.ref a), .val (.int (2 : Int32)), .unset] [])) (fun τ κ => st566 _ κ) ?_
  refine Gl.st (g' := (mkF m 5 #[.val (.ref a), .val (.int (2 : Int32)), .unset] [(.ref a)])) (fun τ κ => XS.aloadN X566.here hx rfl (hb hby d1_4) rfl rfl κ) ?_
  obtain ⟨T567, h567, X567, e567, E567, A567, D567, -, st567⟩ := newO X566 hx hZ hown (hw _ (List.mem_of_getElem? (i := 11) rfl)) (hw _ (List.mem_of_getElem? (i := 12) rfl)) (hw _ (List.mem_of_getElem? (i := 13) rfl)) e566 (g := (mkF m 5 #[.val (.ref a), .val (.int (2 : Int32)), .unset] [(.ref a)])) rfl (hb hby d1_5) (by decide) (by decide)
  obtain ⟨b567, g567⟩ : ∃ z, z = h0.size := ⟨_, rfl⟩
  rw [← g567] at A567 D567 st567
  have ne_a_b567 : a ≠ b567 := Nat.ne_of_lt (Nat.lt_of_lt_of_le E0.lt (Nat.le_of_eq g567.symm))
  have ne_de_b567 : de ≠ b567 := Nat.ne_of_lt (Nat.lt_of_lt_of_le V0.lt (Nat.le_of_eq g567.symm))
  have E_568 := E0.ext E567
  have S_569 := S0.ext E567
  have V_570 := V0.ext E567
  have F_571 := F0.ext E567
  have F_572 := F1.ext E567
  have F_573 := F2.ext E567
  have F_574 := F3.ext E567
  have g_b567 : n0 ≤ b567 := Nat.le_trans Z0 (Nat.le_of_eq g567.symm)
  have sz_b567 : h0.size ≤ b567 := Nat.le_trans (Keep.refl h0 [a]).1 (Nat.le_of_eq g567.symm)
  have Z567 : n0 ≤ h567.size := Nat.le_trans Z0 E567.1
  have K567 : Keep h0 h567 [a] := (Keep.refl h0 [a]).ext E567
  have F_575 : Fld Z h567 b567 "java/util/TreeMap" "size" "I" (.int (0 : Int32)) := D567 (Or.inl (hw _ (List.mem_of_getElem? (i := 25) rfl))) (ty := .int) (by decide)
  have F_576 : Fld Z h567 b567 "java/util/TreeMap" "modCount" "I" (.int (0 : Int32)) := D567 (Or.inl (hw _ (List.mem_of_getElem? (i := 27) rfl))) (ty := .int) (by decide)
  have F_577 : Fld Z h567 b567 "java/util/TreeMap" "comparator" "Ljava/util/Comparator;" .null := D567 (Or.inr (hw _ (List.mem_of_getElem? (i := 29) rfl))) (ty := (.object "java/util/Comparator")) (by decide)
  refine Gl.st (g' := (mkF m 8 #[.val (.ref a), .val (.int (2 : Int32)), .unset] [(.ref b567), (.ref a)])) (fun τ κ => st567 _ κ) ?_
  refine Gl.st (g' := (mkF m 9 #[.val (.ref a), .val (.int (2 : Int32)), .unset] [(.ref b567), (.ref b567), (.ref a)])) (fun τ κ => XS.dup X567.here hx rfl (hb hby d1_8) rfl rfl κ) ?_
  obtain ⟨rv578, _, ⟨T578, L578, k578, n578⟩, -, X578, ⟨Lc578, hQ578, l578, y578, z578⟩, st578⟩ := X567.specialBack hx (y := (⟨"java/util/TreeMap", "<init>", "()V"⟩ : MethodName)) rfl hown (mvT hZ (hw _ (List.mem_of_getElem? (i := 14) rfl))) (mvT hZ (hw _ (List.mem_of_getElem? (i := 15) rfl))) (mvT hZ (hw _ (List.mem_of_getElem? (i := 16) rfl))) (by decide) (backOf (W := 2) (rm3 l Z a0 hw [] b567 h567 n0 Z567 A567 g_b567 F_575 F_576 F_577) hZ (hw _ (List.mem_of_getElem? (i := 16) rfl)) (hw _ (List.mem_of_getElem? (i := 13) rfl)) (by decide) (by decide)) (g := (mkF m 9 #[.val (.ref a), .val (.int (2 : Int32)), .unset] [(.ref b567), (.ref b567), (.ref a)])) rfl (by rw [hml]; rfl) (Steps.refl _) (a := b567) (argsL := []) (rest := [(.ref b567), (.ref a)]) (lenOf pd_0 rfl) rfl (by show 2 * 0 + _ ≤ _; exact Nat.le_of_eq rfl) (hb hby d1_9) (fun _ _ => ⟨rfl, e567, (by decide : 1 + 0 ≤ _), (by decide : 9 + 0 ≤ _)⟩)
  dsimp only [Pt.U, Pt.locs, Pt.cells, Pt.slots] at X578 l578 y578 z578 st578 hQ578
  subst l578 y578 z578
  obtain ⟨rfl, N578q, Kc578, Ec578, Fc578_0, Fc578_1, Fc578_2⟩ := hQ578
  have E_579 := E_568.keep Kc578
  have S_580 := Sta.keepX S_569 Kc578 (allS (P := fun x => ∃ c : Cell, h567[x]? = some c ∧ ∀ q, c.vm ≠ .statics q) A567.cell all0)
  have V_581 := V_570.keep Kc578 (ninS ne_de_b567 nin0)
  have F_582 := F_571.keep Kc578 (ninS ne_a_b567 nin0)
  have F_583 := F_572.keep Kc578 (ninS ne_a_b567 nin0)
  have F_584 := F_573.keep Kc578 (ninS ne_a_b567 nin0)
  have F_585 := F_574.keep Kc578 (ninS ne_a_b567 nin0)
  have E_586 := A567.keep Kc578
  have N578 := Fr.app N0 N578q
  have Z578 : n0 ≤ T578.heap.size := Nat.le_trans Z567 Kc578.1
  have K578 : Keep h0 T578.heap [a] := K567.trans Kc578 (allS (Or.inr sz_b567) all0)
  refine Gl.st (g' := (mkF m 12 #[.val (.ref a), .val (.int (2 : Int32)), .unset] [(.ref b567), (.ref a)])) (fun τ κ => st578.trans κ) ?_
  obtain ⟨T590, h590, X590, e590, W590, st590⟩ := putF X578 hx hZ hown (host := "") (Or.inl (hw _ (List.mem_of_getElem? (i := 30) rfl))) Via.refl rfl F_582 E_579 (Or.inr ⟨(hw _ (List.mem_of_getElem? (i := 31) rfl)), rfl, hnm⟩) (hw _ (List.mem_of_getElem? (i := 3) rfl)) (ty := (.object "java/util/TreeMap")) (by decide) rfl rfl (g := (mkF m 12 #[.val (.ref a), .val (.int (2 : Int32)), .unset] [(.ref b567), (.ref a)])) rfl rfl (hb hby d1_12)
  have E_591 := E_579.wr W590
  have S_592 := S_580.wr W590
  have V_593 := V_581.other W590 (Ne.symm hde)
  have F_595 := F_583.other W590 (Or.inr (slot_ne (Or.inr (hw _ (List.mem_of_getElem? (i := 57) rfl))) (Or.inr (hw _ (List.mem_of_getElem? (i := 31) rfl))) (by decide) (t := (.object "java/util/List")) (t' := (.object "java/util/TreeMap")) (by decide) (by decide)))
  have F_596 := F_584.other W590 (Or.inr (slot_ne (Or.inr (hw _ (List.mem_of_getElem? (i := 59) rfl))) (Or.inr (hw _ (List.mem_of_getElem? (i := 31) rfl))) (by decide) (t := (.object "java/util/List")) (t' := (.object "java/util/TreeMap")) (by decide) (by decide)))
  have F_597 := F_585.other W590 (Or.inr (slot_ne (Or.inr (hw _ (List.mem_of_getElem? (i := 62) rfl))) (Or.inr (hw _ (List.mem_of_getElem? (i := 31) rfl))) (by decide) (t := (.array .long)) (t' := (.object "java/util/TreeMap")) (by decide) (by decide)))
  have E_598 := Ec578.wr W590
  have F_599 := Fc578_0.other W590 (Or.inl (Ne.symm ne_a_b567))
  have F_600 := Fc578_1.other W590 (Or.inl (Ne.symm ne_a_b567))
  have F_601 := Fc578_2.other W590 (Or.inl (Ne.symm ne_a_b567))
  have N590 := Fr.snoc X590 N578 g0
  have Z590 : n0 ≤ h590.size := Nat.le_trans Z578 (Nat.le_of_eq W590.size.symm)
  have K590 : Keep h0 h590 [a] := K578.wr W590 (Or.inl (List.mem_of_getElem? (i := 0) rfl))
  have F_602 := F_582.same W590
  refine Gl.st (g' := (mkF m 15 #[.val (.ref a), .val (.int (2 : Int32)), .unset] [])) (fun τ κ => st590 _ κ) ?_
  refine Gl.st (g' := (mkF m 16 #[.val (.ref a), .val (.int (2 : Int32)), .unset] [(.ref a)])) (fun τ κ => XS.aloadN X590.here hx rfl (hb hby d1_15) rfl rfl κ) ?_
  obtain ⟨T603, h603, X603, e603, E603, A603, D603, -, st603⟩ := newO X590 hx hZ hown (hw _ (List.mem_of_getElem? (i := 32) rfl)) (hw _ (List.mem_of_getElem? (i := 33) rfl)) (hw _ (List.mem_of_getElem? (i := 34) rfl)) e590 (g := (mkF m 16 #[.val (.ref a), .val (.int (2 : Int32)), .unset] [(.ref a)])) rfl (hb hby d1_16) (by decide) (by decide)
  obtain ⟨b603, g603⟩ : ∃ z, z = h590.size := ⟨_, rfl⟩
  rw [← g603] at A603 D603 st603
  have ne_a_b603 : a ≠ b603 := Nat.ne_of_lt (Nat.lt_of_lt_of_le E_591.lt (Nat.le_of_eq g603.symm))
  have ne_de_b603 : de ≠ b603 := Nat.ne_of_lt (Nat.lt_of_lt_of_le V_593.lt (Nat.le_of_eq g603.symm))
  have ne_b567_b603 : b567 ≠ b603 := Nat.ne_of_lt (Nat.lt_of_lt_of_le E_598.lt (Nat.le_of_eq g603.symm))
  have E_604 := E_591.ext E603
  have S_605 := S_592.ext E603
  have V_606 := V_593.ext E603
  have F_607 := F_602.ext E603
  have F_608 := F_595.ext E603
  have F_609 := F_596.ext E603
  have F_610 := F_597.ext E603
  have E_611 := E_598.ext E603
  have F_612 := F_599.ext E603
  have F_613 := F_600.ext E603
  have F_614 := F_601.ext E603
  have g_b603 : n0 ≤ b603 := Nat.le_trans Z590 (Nat.le_of_eq g603.symm)
  have sz_b603 : h0.size ≤ b603 := Nat.le_trans K590.1 (Nat.le_of_eq g603.symm)
  have Z603 : n0 ≤ h603.size := Nat.le_trans Z590 E603.1
  have K603 : Keep h0 h603 [a] := K590.ext E603
  have F_615 : Fld Z h603 b603 "java/util/AbstractList" "modCount" "I" (.int (0 : Int32)) := D603 (Or.inl (hw _ (List.mem_of_getElem? (i := 52) rfl))) (ty := .int) (by decide)
  have F_616 : Fld Z h603 b603 "java/util/ArrayList" "elementData" "[Ljava/lang/Object;" .null := D603 (Or.inl (hw _ (List.mem_of_getElem? (i := 55) rfl))) (ty := (.array (.object "java/lang/Object"))) (by decide)
  have F_617 : Fld Z h603 b603 "java/util/ArrayList" "size" "I" (.int (0 : Int32)) := D603 (Or.inl (hw _ (List.mem_of_getElem? (i := 80) rfl))) (ty := .int) (by decide)
  refine Gl.st (g' := (mkF m 19 #[.val (.ref a), .val (.int (2 : Int32)), .unset] [(.ref b603), (.ref a)])) (fun τ κ => st603 _ κ) ?_
  refine Gl.st (g' := (mkF m 20 #[.val (.ref a), .val (.int (2 : Int32)), .unset] [(.ref b603), (.ref b603), (.ref a)])) (fun τ κ => XS.dup X603.here hx rfl (hb hby d1_19) rfl rfl κ) ?_
  obtain ⟨rv618, _, ⟨T618, L618, k618, n618⟩, -, X618, ⟨Lc618, hQ618, l618, y618, z618⟩, st618⟩ := X603.specialBack hx (y := (⟨"java/util/ArrayList", "<init>", "()V"⟩ : MethodName)) rfl hown (mvT hZ (hw _ (List.mem_of_getElem? (i := 35) rfl))) (mvT hZ (hw _ (List.mem_of_getElem? (i := 36) rfl))) (mvT hZ (hw _ (List.mem_of_getElem? (i := 37) rfl))) (by decide) (backOf (W := 2) (rm5 l Z a0 hw [] b603 de h603 n0 Z603 A603 g_b603 S_605 F_615 F_616 F_617) hZ (hw _ (List.mem_of_getElem? (i := 37) rfl)) (hw _ (List.mem_of_getElem? (i := 34) rfl)) (by decide) (by decide)) (g := (mkF m 20 #[.val (.ref a), .val (.int (2 : Int32)), .unset] [(.ref b603), (.ref b603), (.ref a)])) rfl (by rw [hml]; rfl) (Steps.refl _) (a := b603) (argsL := []) (rest := [(.ref b603), (.ref a)]) (lenOf pd_0 rfl) rfl (by show 2 * 0 + _ ≤ _; exact Nat.le_of_eq rfl) (hb hby d1_20) (fun _ _ => ⟨rfl, e603, (by decide : 2 + 0 ≤ _), (by decide : 12 + 0 ≤ _)⟩)
  dsimp only [Pt.U, Pt.locs, Pt.cells, Pt.slots] at X618 l618 y618 z618 st618 hQ618
  subst l618 y618 z618
  obtain ⟨rfl, N618q, Kc618, Ec618, FM618, FE618, FS618⟩ := hQ618
  have E_619 := E_604.keep Kc618
  have S_620 := Sta.keepX S_605 Kc618 (allS (P := fun x => ∃ c : Cell, h603[x]? = some c ∧ ∀ q, c.vm ≠ .statics q) A603.cell all0)
  have V_621 := V_606.keep Kc618 (ninS ne_de_b603 nin0)
  have F_622 := F_607.keep Kc618 (ninS ne_a_b603 nin0)
  have F_623 := F_608.keep Kc618 (ninS ne_a_b603 nin0)
  have F_624 := F_609.keep Kc618 (ninS ne_a_b603 nin0)
  have F_625 := F_610.keep Kc618 (ninS ne_a_b603 nin0)
  have E_626 := E_611.keep Kc618
  have F_627 := F_612.keep Kc618 (ninS ne_b567_b603 nin0)
  have F_628 := F_613.keep Kc618 (ninS ne_b567_b603 nin0)
  have F_629 := F_614.keep Kc618 (ninS ne_b567_b603 nin0)
  have E_630 := A603.keep Kc618
  have N618 := Fr.app N590 N618q
  have Z618 : n0 ≤ T618.heap.size := Nat.le_trans Z603 Kc618.1
  have K618 : Keep h0 T618.heap [a] := K603.trans Kc618 (allS (Or.inr sz_b603) all0)
  refine Gl.st (g' := (mkF m 23 #[.val (.ref a), .val (.int (2 : Int32)), .unset] [(.ref b603), (.ref a)])) (fun τ κ => st618.trans κ) ?_
  obtain ⟨T634, h634, X634, e634, W634, st634⟩ := putF X618 hx hZ hown (host := "") (Or.inl (hw _ (List.mem_of_getElem? (i := 56) rfl))) Via.refl rfl F_623 E_619 (Or.inr ⟨(hw _ (List.mem_of_getElem? (i := 57) rfl)), rfl, hnm⟩) (hw _ (List.mem_of_getElem? (i := 3) rfl)) (ty := (.object "java/util/List")) (by decide) rfl rfl (g := (mkF m 23 #[.val (.ref a), .val (.int (2 : Int32)), .unset] [(.ref b603), (.ref a)])) rfl rfl (hb hby d1_23)
  have E_635 := E_619.wr W634
  have S_636 := S_620.wr W634
  have V_637 := V_621.other W634 (Ne.symm hde)
  have F_638 := F_622.other W634 (Or.inr (slot_ne (Or.inr (hw _ (List.mem_of_getElem? (i := 31) rfl))) (Or.inr (hw _ (List.mem_of_getElem? (i := 57) rfl))) (by decide) (t := (.object "java/util/TreeMap")) (t' := (.object "java/util/List")) (by decide) (by decide)))
  have F_640 := F_624.other W634 (Or.inr (slot_ne (Or.inr (hw _ (List.mem_of_getElem? (i := 59) rfl))) (Or.inr (hw _ (List.mem_of_getElem? (i := 57) rfl))) (by decide) (t := (.object "java/util/List")) (t' := (.object "java/util/List")) (by decide) (by decide)))
  have F_641 := F_625.other W634 (Or.inr (slot_ne (Or.inr (hw _ (List.mem_of_getElem? (i := 62) rfl))) (Or.inr (hw _ (List.mem_of_getElem? (i := 57) rfl))) (by decide) (t := (.array .long)) (t' := (.object "java/util/List")) (by decide) (by decide)))
  have E_642 := E_626.wr W634
  have F_643 := F_627.other W634 (Or.inl (Ne.symm ne_a_b567))
  have F_644 := F_628.other W634 (Or.inl (Ne.symm ne_a_b567))
  have F_645 := F_629.other W634 (Or.inl (Ne.symm ne_a_b567))
  have E_646 := Ec618.wr W634
  have F_647 := FM618.other W634 (Or.inl (Ne.symm ne_a_b603))
  have F_648 := FE618.other W634 (Or.inl (Ne.symm ne_a_b603))
  have F_649 := FS618.other W634 (Or.inl (Ne.symm ne_a_b603))
  have N634 := Fr.snoc X634 N618 g0
  have Z634 : n0 ≤ h634.size := Nat.le_trans Z618 (Nat.le_of_eq W634.size.symm)
  have K634 : Keep h0 h634 [a] := K618.wr W634 (Or.inl (List.mem_of_getElem? (i := 0) rfl))
  have F_650 := F_623.same W634
  refine Gl.st (g' := (mkF m 26 #[.val (.ref a), .val (.int (2 : Int32)), .unset] [])) (fun τ κ => st634 _ κ) ?_
  refine Gl.st (g' := (mkF m 27 #[.val (.ref a), .val (.int (2 : Int32)), .unset] [(.ref a)])) (fun τ κ => XS.aloadN X634.here hx rfl (hb hby d1_26) rfl rfl κ) ?_
  obtain ⟨T651, h651, X651, e651, E651, A651, D651, -, st651⟩ := newO X634 hx hZ hown (hw _ (List.mem_of_getElem? (i := 32) rfl)) (hw _ (List.mem_of_getElem? (i := 33) rfl)) (hw _ (List.mem_of_getElem? (i := 34) rfl)) e634 (g := (mkF m 27 #[.val (.ref a), .val (.int (2 : Int32)), .unset] [(.ref a)])) rfl (hb hby d1_27) (by decide) (by decide)
  obtain ⟨b651, g651⟩ : ∃ z, z = h634.size := ⟨_, rfl⟩
  rw [← g651] at A651 D651 st651
  have ne_a_b651 : a ≠ b651 := Nat.ne_of_lt (Nat.lt_of_lt_of_le E_635.lt (Nat.le_of_eq g651.symm))
  have ne_de_b651 : de ≠ b651 := Nat.ne_of_lt (Nat.lt_of_lt_of_le V_637.lt (Nat.le_of_eq g651.symm))
  have ne_b567_b651 : b567 ≠ b651 := Nat.ne_of_lt (Nat.lt_of_lt_of_le E_642.lt (Nat.le_of_eq g651.symm))
  have ne_b603_b651 : b603 ≠ b651 := Nat.ne_of_lt (Nat.lt_of_lt_of_le E_646.lt (Nat.le_of_eq g651.symm))
  have E_652 := E_635.ext E651
  have S_653 := S_636.ext E651
  have V_654 := V_637.ext E651
  have F_655 := F_638.ext E651
  have F_656 := F_650.ext E651
  have F_657 := F_640.ext E651
  have F_658 := F_641.ext E651
  have E_659 := E_642.ext E651
  have F_660 := F_643.ext E651
  have F_661 := F_644.ext E651
  have F_662 := F_645.ext E651
  have E_663 := E_646.ext E651
  have F_664 := F_647.ext E651
  have F_665 := F_648.ext E651
  have F_666 := F_649.ext E651
  have g_b651 : n0 ≤ b651 := Nat.le_trans Z634 (Nat.le_of_eq g651.symm)
  have sz_b651 : h0.size ≤ b651 := Nat.le_trans K634.1 (Nat.le_of_eq g651.symm)
  have Z651 : n0 ≤ h651.size := Nat.le_trans Z634 E651.1
  have K651 : Keep h0 h651 [a] := K634.ext E651
  have F_667 : Fld Z h651 b651 "java/util/AbstractList" "modCount" "I" (.int (0 : Int32)) := D651 (Or.inl (hw _ (List.mem_of_getElem? (i := 52) rfl))) (ty := .int) (by decide)
  have F_668 : Fld Z h651 b651 "java/util/ArrayList" "elementData" "[Ljava/lang/Object;" .null := D651 (Or.inl (hw _ (List.mem_of_getElem? (i := 55) rfl))) (ty := (.array (.object "java/lang/Object"))) (by decide)
  have F_669 : Fld Z h651 b651 "java/util/ArrayList" "size" "I" (.int (0 : Int32)) := D651 (Or.inl (hw _ (List.mem_of_getElem? (i := 80) rfl))) (ty := .int) (by decide)
  refine Gl.st (g' := (mkF m 30 #[.val (.ref a), .val (.int (2 : Int32)), .unset] [(.ref b651), (.ref a)])) (fun τ κ => st651 _ κ) ?_
  refine Gl.st (g' := (mkF m 31 #[.val (.ref a), .val (.int (2 : Int32)), .unset] [(.ref b651), (.ref b651), (.ref a)])) (fun τ κ => XS.dup X651.here hx rfl (hb hby d1_30) rfl rfl κ) ?_
  obtain ⟨rv670, _, ⟨T670, L670, k670, n670⟩, -, X670, ⟨Lc670, hQ670, l670, y670, z670⟩, st670⟩ := X651.specialBack hx (y := (⟨"java/util/ArrayList", "<init>", "()V"⟩ : MethodName)) rfl hown (mvT hZ (hw _ (List.mem_of_getElem? (i := 35) rfl))) (mvT hZ (hw _ (List.mem_of_getElem? (i := 36) rfl))) (mvT hZ (hw _ (List.mem_of_getElem? (i := 37) rfl))) (by decide) (backOf (W := 2) (rm5 l Z a0 hw [] b651 de h651 n0 Z651 A651 g_b651 S_653 F_667 F_668 F_669) hZ (hw _ (List.mem_of_getElem? (i := 37) rfl)) (hw _ (List.mem_of_getElem? (i := 34) rfl)) (by decide) (by decide)) (g := (mkF m 31 #[.val (.ref a), .val (.int (2 : Int32)), .unset] [(.ref b651), (.ref b651), (.ref a)])) rfl (by rw [hml]; rfl) (Steps.refl _) (a := b651) (argsL := []) (rest := [(.ref b651), (.ref a)]) (lenOf pd_0 rfl) rfl (by show 2 * 0 + _ ≤ _; exact Nat.le_of_eq rfl) (hb hby d1_31) (fun _ _ => ⟨rfl, e651, (by decide : 3 + 0 ≤ _), (by decide : 15 + 0 ≤ _)⟩)
  dsimp only [Pt.U, Pt.locs, Pt.cells, Pt.slots] at X670 l670 y670 z670 st670 hQ670
  subst l670 y670 z670
  obtain ⟨rfl, N670q, Kc670, Ec670, FM670, FE670, FS670⟩ := hQ670
  have E_671 := E_652.keep Kc670
  have S_672 := Sta.keepX S_653 Kc670 (allS (P := fun x => ∃ c : Cell, h651[x]? = some c ∧ ∀ q, c.vm ≠ .statics q) A651.cell all0)
  have V_673 := V_654.keep Kc670 (ninS ne_de_b651 nin0)
  have F_674 := F_655.keep Kc670 (ninS ne_a_b651 nin0)
  have F_675 := F_656.keep Kc670 (ninS ne_a_b651 nin0)
  have F_676 := F_657.keep Kc670 (ninS ne_a_b651 nin0)
  have F_677 := F_658.keep Kc670 (ninS ne_a_b651 nin0)
  have E_678 := E_659.keep Kc670
  have F_679 := F_660.keep Kc670 (ninS ne_b567_b651 nin0)
  have F_680 := F_661.keep Kc670 (ninS ne_b567_b651 nin0)
  have F_681 := F_662.keep Kc670 (ninS ne_b567_b651 nin0)
  have E_682 := E_663.keep Kc670
  have F_683 := F_664.keep Kc670 (ninS ne_b603_b651 nin0)
  have F_684 := F_665.keep Kc670 (ninS ne_b603_b651 nin0)
  have F_685 := F_666.keep Kc670 (ninS ne_b603_b651 nin0)
  have E_686 := A651.keep Kc670
  have N670 := Fr.app N634 N670q
  have Z670 : n0 ≤ T670.heap.size := Nat.le_trans Z651 Kc670.1
  have K670 : Keep h0 T670.heap [a] := K651.trans Kc670 (allS (Or.inr sz_b651) all0)
  refine Gl.st (g' := (mkF m 34 #[.val (.ref a), .val (.int (2 : Int32)), .unset] [(.ref b651), (.ref a)])) (fun τ κ => st670.trans κ) ?_
  obtain ⟨T690, h690, X690, e690, W690, st690⟩ := putF X670 hx hZ hown (host := "") (Or.inl (hw _ (List.mem_of_getElem? (i := 58) rfl))) Via.refl rfl F_676 E_671 (Or.inr ⟨(hw _ (List.mem_of_getElem? (i := 59) rfl)), rfl, hnm⟩) (hw _ (List.mem_of_getElem? (i := 3) rfl)) (ty := (.object "java/util/List")) (by decide) rfl rfl (g := (mkF m 34 #[.val (.ref a), .val (.int (2 : Int32)), .unset] [(.ref b651), (.ref a)])) rfl rfl (hb hby d1_34)
  have E_691 := E_671.wr W690
  have S_692 := S_672.wr W690
  have V_693 := V_673.other W690 (Ne.symm hde)
  have F_694 := F_674.other W690 (Or.inr (slot_ne (Or.inr (hw _ (List.mem_of_getElem? (i := 31) rfl))) (Or.inr (hw _ (List.mem_of_getElem? (i := 59) rfl))) (by decide) (t := (.object "java/util/TreeMap")) (t' := (.object "java/util/List")) (by decide) (by decide)))
  have F_695 := F_675.other W690 (Or.inr (slot_ne (Or.inr (hw _ (List.mem_of_getElem? (i := 57) rfl))) (Or.inr (hw _ (List.mem_of_getElem? (i := 59) rfl))) (by decide) (t := (.object "java/util/List")) (t' := (.object "java/util/List")) (by decide) (by decide)))
  have F_697 := F_677.other W690 (Or.inr (slot_ne (Or.inr (hw _ (List.mem_of_getElem? (i := 62) rfl))) (Or.inr (hw _ (List.mem_of_getElem? (i := 59) rfl))) (by decide) (t := (.array .long)) (t' := (.object "java/util/List")) (by decide) (by decide)))
  have E_698 := E_678.wr W690
  have F_699 := F_679.other W690 (Or.inl (Ne.symm ne_a_b567))
  have F_700 := F_680.other W690 (Or.inl (Ne.symm ne_a_b567))
  have F_701 := F_681.other W690 (Or.inl (Ne.symm ne_a_b567))
  have E_702 := E_682.wr W690
  have F_703 := F_683.other W690 (Or.inl (Ne.symm ne_a_b603))
  have F_704 := F_684.other W690 (Or.inl (Ne.symm ne_a_b603))
  have F_705 := F_685.other W690 (Or.inl (Ne.symm ne_a_b603))
  have E_706 := Ec670.wr W690
  have F_707 := FM670.other W690 (Or.inl (Ne.symm ne_a_b651))
  have F_708 := FE670.other W690 (Or.inl (Ne.symm ne_a_b651))
  have F_709 := FS670.other W690 (Or.inl (Ne.symm ne_a_b651))
  have N690 := Fr.snoc X690 N670 g0
  have Z690 : n0 ≤ h690.size := Nat.le_trans Z670 (Nat.le_of_eq W690.size.symm)
  have K690 : Keep h0 h690 [a] := K670.wr W690 (Or.inl (List.mem_of_getElem? (i := 0) rfl))
  have F_710 := F_676.same W690
  refine Gl.st (g' := (mkF m 37 #[.val (.ref a), .val (.int (2 : Int32)), .unset] [])) (fun τ κ => st690 _ κ) ?_
  refine Gl.st (g' := (mkF m 38 #[.val (.ref a), .val (.int (2 : Int32)), .unset] [(.ref a)])) (fun τ κ => XS.aloadN X690.here hx rfl (hb hby d1_37) rfl rfl κ) ?_
  refine Gl.st (g' := (mkF m 39 #[.val (.ref a), .val (.int (2 : Int32)), .unset] [(.int (2 : Int32)), (.ref a)])) (fun τ κ => XS.iloadN X690.here hx rfl (hb hby d1_38) rfl κ) ?_
  obtain ⟨T711, h711, k711, X711, e711, E711, A711, st711⟩ := newP X690 hx hZ (hw _ (List.mem_of_getElem? (i := 60) rfl)) e690 (g := (mkF m 39 #[.val (.ref a), .val (.int (2 : Int32)), .unset] [(.int (2 : Int32)), (.ref a)])) rfl (hb hby d1_39) rfl (by decide) (cap := 2) (by decide) (by decide) (by decide) (by decide)
  obtain ⟨b711, g711⟩ : ∃ z, z = h690.size := ⟨_, rfl⟩
  rw [← g711] at A711 st711
  have ne_a_b711 : a ≠ b711 := Nat.ne_of_lt (Nat.lt_of_lt_of_le E_691.lt (Nat.le_of_eq g711.symm))
  have ne_de_b711 : de ≠ b711 := Nat.ne_of_lt (Nat.lt_of_lt_of_le V_693.lt (Nat.le_of_eq g711.symm))
  have ne_b567_b711 : b567 ≠ b711 := Nat.ne_of_lt (Nat.lt_of_lt_of_le E_698.lt (Nat.le_of_eq g711.symm))
  have ne_b603_b711 : b603 ≠ b711 := Nat.ne_of_lt (Nat.lt_of_lt_of_le E_702.lt (Nat.le_of_eq g711.symm))
  have ne_b651_b711 : b651 ≠ b711 := Nat.ne_of_lt (Nat.lt_of_lt_of_le E_706.lt (Nat.le_of_eq g711.symm))
  have E_712 := E_691.ext E711
  have S_713 := S_692.ext E711
  have V_714 := V_693.ext E711
  have F_715 := F_694.ext E711
  have F_716 := F_695.ext E711
  have F_717 := F_710.ext E711
  have F_718 := F_697.ext E711
  have E_719 := E_698.ext E711
  have F_720 := F_699.ext E711
  have F_721 := F_700.ext E711
  have F_722 := F_701.ext E711
  have E_723 := E_702.ext E711
  have F_724 := F_703.ext E711
  have F_725 := F_704.ext E711
  have F_726 := F_705.ext E711
  have E_727 := E_706.ext E711
  have F_728 := F_707.ext E711
  have F_729 := F_708.ext E711
  have F_730 := F_709.ext E711
  have g_b711 : n0 ≤ b711 := Nat.le_trans Z690 (Nat.le_of_eq g711.symm)
  have sz_b711 : h0.size ≤ b711 := Nat.le_trans K690.1 (Nat.le_of_eq g711.symm)
  have Z711 : n0 ≤ h711.size := Nat.le_trans Z690 E711.1
  have K711 : Keep h0 h711 [a] := K690.ext E711
  have V_b711 : Arv Z h711 b711 k711 .long (2 : Int32) [(.long (0 : Int64)), (.long (0 : Int64))] (.long (0 : Int64)) := (Arv.new A711 (by decide)).pad (pad_rep [] (.long (0 : Int64)) 2)
  refine Gl.st (g' := (mkF m 41 #[.val (.ref a), .val (.int (2 : Int32)), .unset] [(.ref b711), (.ref a)])) (fun τ κ => st711 _ κ) ?_
  obtain ⟨T731, h731, X731, e731, W731, st731⟩ := putF X711 hx hZ hown (host := "") (Or.inl (hw _ (List.mem_of_getElem? (i := 61) rfl))) Via.refl e711 F_718 E_712 (Or.inr ⟨(hw _ (List.mem_of_getElem? (i := 62) rfl)), rfl, hnm⟩) (hw _ (List.mem_of_getElem? (i := 3) rfl)) (ty := (.array .long)) (by decide) rfl rfl (g := (mkF m 41 #[.val (.ref a), .val (.int (2 : Int32)), .unset] [(.ref b711), (.ref a)])) rfl rfl (hb hby d1_41)
  have E_732 := E_712.wr W731
  have S_733 := S_713.wr W731
  have V_734 := V_714.other W731 (Ne.symm hde)
  have F_735 := F_715.other W731 (Or.inr (slot_ne (Or.inr (hw _ (List.mem_of_getElem? (i := 31) rfl))) (Or.inr (hw _ (List.mem_of_getElem? (i := 62) rfl))) (by decide) (t := (.object "java/util/TreeMap")) (t' := (.array .long)) (by decide) (by decide)))
  have F_736 := F_716.other W731 (Or.inr (slot_ne (Or.inr (hw _ (List.mem_of_getElem? (i := 57) rfl))) (Or.inr (hw _ (List.mem_of_getElem? (i := 62) rfl))) (by decide) (t := (.object "java/util/List")) (t' := (.array .long)) (by decide) (by decide)))
  have F_737 := F_717.other W731 (Or.inr (slot_ne (Or.inr (hw _ (List.mem_of_getElem? (i := 59) rfl))) (Or.inr (hw _ (List.mem_of_getElem? (i := 62) rfl))) (by decide) (t := (.object "java/util/List")) (t' := (.array .long)) (by decide) (by decide)))
  have E_739 := E_719.wr W731
  have F_740 := F_720.other W731 (Or.inl (Ne.symm ne_a_b567))
  have F_741 := F_721.other W731 (Or.inl (Ne.symm ne_a_b567))
  have F_742 := F_722.other W731 (Or.inl (Ne.symm ne_a_b567))
  have E_743 := E_723.wr W731
  have F_744 := F_724.other W731 (Or.inl (Ne.symm ne_a_b603))
  have F_745 := F_725.other W731 (Or.inl (Ne.symm ne_a_b603))
  have F_746 := F_726.other W731 (Or.inl (Ne.symm ne_a_b603))
  have E_747 := E_727.wr W731
  have F_748 := F_728.other W731 (Or.inl (Ne.symm ne_a_b651))
  have F_749 := F_729.other W731 (Or.inl (Ne.symm ne_a_b651))
  have F_750 := F_730.other W731 (Or.inl (Ne.symm ne_a_b651))
  have V_751 := V_b711.other W731 (Ne.symm ne_a_b711)
  have N731 := Fr.snoc X731 N690 g0
  have Z731 : n0 ≤ h731.size := Nat.le_trans Z711 (Nat.le_of_eq W731.size.symm)
  have K731 : Keep h0 h731 [a] := K711.wr W731 (Or.inl (List.mem_of_getElem? (i := 0) rfl))
  have F_752 := F_718.same W731
  refine Gl.st (g' := (mkF m 44 #[.val (.ref a), .val (.int (2 : Int32)), .unset] [])) (fun τ κ => st731 _ κ) ?_
  refine Gl.st (g' := (mkF m 45 #[.val (.ref a), .val (.int (2 : Int32)), .unset] [(.ref a)])) (fun τ κ => XS.aloadN X731.here hx rfl (hb hby d1_44) rfl rfl κ) ?_
  obtain ⟨T753, X753, e753, st753⟩ := getF X731 hx hZ hown (host := "") (Or.inl (hw _ (List.mem_of_getElem? (i := 61) rfl))) Via.refl e731 F_752 (g := (mkF m 45 #[.val (.ref a), .val (.int (2 : Int32)), .unset] [(.ref a)])) rfl rfl (hb hby d1_45)
  refine Gl.st (g' := (mkF m 48 #[.val (.ref a), .val (.int (2 : Int32)), .unset] [(.ref b711)])) (fun τ κ => st753 _ κ) ?_
  refine Gl.st (g' := (mkF m 51 #[.val (.ref a), .val (.int (2 : Int32)), .unset] [(.long (-1 : Int64)), (.ref b711)])) (fun τ κ => X753.ldc2Long hx hown (mvT hZ (hw _ (List.mem_of_getElem? (i := 63) rfl))) (g := (mkF m 48 #[.val (.ref a), .val (.int (2 : Int32)), .unset] [(.ref b711)])) rfl (hb hby d1_48) _ κ) ?_
  obtain ⟨rv754, _, ⟨T754, L754, k754, n754⟩, -, X754, ⟨Lc754, hQ754, l754, y754, z754⟩, st754⟩ := Jvm.LawKit.callS X753 hx (y := (⟨"java/util/Arrays", "fill", "([JJ)V"⟩ : MethodName)) hown (mvT hZ (hw _ (List.mem_of_getElem? (i := 64) rfl))) (mvT hZ (hw _ (List.mem_of_getElem? (i := 65) rfl))) (mvT hZ (hw _ (List.mem_of_getElem? (i := 66) rfl))) (mvT hZ (hw _ (List.mem_of_getElem? (i := 67) rfl))) (by decide) (backOf (W := 0) (rm_fill2 l Z a0 hw [] b711 (-1 : Int64) k711 h731 n0 Z731 V_751 g_b711) hZ (hw _ (List.mem_of_getElem? (i := 67) rfl)) (hw _ (List.mem_of_getElem? (i := 66) rfl)) (by decide) (by decide)) (g := (mkF m 51 #[.val (.ref a), .val (.int (2 : Int32)), .unset] [(.long (-1 : Int64)), (.ref b711)])) rfl (by rw [hml]; rfl) (argsL := [(.ref b711), (.long (-1 : Int64))]) (rest := []) (lenOf pd_5 rfl) rfl (by show 2 * 0 + _ ≤ _; exact Nat.le_of_eq rfl) (hb hby d1_51) (fun _ _ => ⟨rfl, e753, (by decide : 4 + 0 ≤ _), (by decide : 17 + 0 ≤ _)⟩)
  dsimp only [Pt.U, Pt.locs, Pt.cells, Pt.slots] at X754 l754 y754 z754 st754 hQ754
  subst l754 y754 z754
  obtain ⟨rfl, N754q, Kc754, V754⟩ := hQ754
  have E_755 := E_732.keep Kc754
  have S_756 := Sta.keepX S_733 Kc754 (allS (P := fun x => ∃ c : Cell, h731[x]? = some c ∧ ∀ q, c.vm ≠ .statics q) (Arv.cellX V_751) all0)
  have V_757 := V_734.keep Kc754 (ninS ne_de_b711 nin0)
  have F_758 := F_735.keep Kc754 (ninS ne_a_b711 nin0)
  have F_759 := F_736.keep Kc754 (ninS ne_a_b711 nin0)
  have F_760 := F_737.keep Kc754 (ninS ne_a_b711 nin0)
  have F_761 := F_752.keep Kc754 (ninS ne_a_b711 nin0)
  have E_762 := E_739.keep Kc754
  have F_763 := F_740.keep Kc754 (ninS ne_b567_b711 nin0)
  have F_764 := F_741.keep Kc754 (ninS ne_b567_b711 nin0)
  have F_765 := F_742.keep Kc754 (ninS ne_b567_b711 nin0)
  have E_766 := E_743.keep Kc754
  have F_767 := F_744.keep Kc754 (ninS ne_b603_b711 nin0)
  have F_768 := F_745.keep Kc754 (ninS ne_b603_b711 nin0)
  have F_769 := F_746.keep Kc754 (ninS ne_b603_b711 nin0)
  have E_770 := E_747.keep Kc754
  have F_771 := F_748.keep Kc754 (ninS ne_b651_b711 nin0)
  have F_772 := F_749.keep Kc754 (ninS ne_b651_b711 nin0)
  have F_773 := F_750.keep Kc754 (ninS ne_b651_b711 nin0)
  have N754 := Fr.app N731 N754q
  have Z754 : n0 ≤ T754.heap.size := Nat.le_trans Z731 Kc754.1
  have K754 : Keep h0 T754.heap [a] := K731.trans Kc754 (allS (Or.inr sz_b711) all0)
  refine Gl.st (g' := (mkF m 54 #[.val (.ref a), .val (.int (2 : Int32)), .unset] [])) (fun τ κ => st754 _ κ) ?_
  refine Gl.st (g' := (mkF m 55 #[.val (.ref a), .val (.int (2 : Int32)), .unset] [(.int (0 : Int32))])) (fun τ κ => XS.iconst X754.here hx rfl (hb hby d1_54) κ) ?_
  refine Gl.st (g' := (mkF m 56 #[.val (.ref a), .val (.int (2 : Int32)), .val (.int (0 : Int32))] [])) (fun τ κ => XS.istoreN X754.here hx rfl (hb hby d1_55) rfl (l' := #[.val (.ref a), .val (.int (2 : Int32)), .val (.int (0 : Int32))]) rfl κ) ?_
  refine Gl.st (g' := (mkF m 57 #[.val (.ref a), .val (.int (2 : Int32)), .val (.int (0 : Int32))] [(.int (0 : Int32))])) (fun τ κ => XS.iloadN X754.here hx rfl (hb hby d1_56) rfl κ) ?_
  refine Gl.st (g' := (mkF m 58 #[.val (.ref a), .val (.int (2 : Int32)), .val (.int (0 : Int32))] [(.int (2 : Int32)), (.int (0 : Int32))])) (fun τ κ => XS.iloadN X754.here hx rfl (hb hby d1_57) rfl κ) ?_
  have hc775 : (0 : Int32) < (2 : Int32) := by decide
  refine Gl.st (g' := (mkF m 61 #[.val (.ref a), .val (.int (2 : Int32)), .val (.int (0 : Int32))] [])) (fun τ κ => XS.icmpNo X754.here hx rfl (hb hby d1_58) rfl (tlt hc775).2.1 κ) ?_
  refine Gl.st (g' := (mkF m 62 #[.val (.ref a), .val (.int (2 : Int32)), .val (.int (0 : Int32))] [(.ref a)])) (fun τ κ => XS.aloadN X754.here hx rfl (hb hby d1_61) rfl rfl κ) ?_
  obtain ⟨T776, X776, e776, st776⟩ := getF X754 hx hZ hown (host := "") (Or.inl (hw _ (List.mem_of_getElem? (i := 56) rfl))) Via.refl rfl F_759 (g := (mkF m 62 #[.val (.ref a), .val (.int (2 : Int32)), .val (.int (0 : Int32))] [(.ref a)])) rfl rfl (hb hby d1_62)
  refine Gl.st (g' := (mkF m 65 #[.val (.ref a), .val (.int (2 : Int32)), .val (.int (0 : Int32))] [(.ref b603)])) (fun τ κ => st776 _ κ) ?_
  obtain ⟨T777, h777, X777, e777, E777, A777, D777, -, st777⟩ := newO X776 hx hZ hown (hw _ (List.mem_of_getElem? (i := 32) rfl)) (hw _ (List.mem_of_getElem? (i := 33) rfl)) (hw _ (List.mem_of_getElem? (i := 34) rfl)) e776 (g := (mkF m 65 #[.val (.ref a), .val (.int (2 : Int32)), .val (.int (0 : Int32))] [(.ref b603)])) rfl (hb hby d1_65) (by decide) (by decide)
  obtain ⟨b777, g777⟩ : ∃ z, z = T754.heap.size := ⟨_, rfl⟩
  rw [← g777] at A777 D777 st777
  have ne_a_b777 : a ≠ b777 := Nat.ne_of_lt (Nat.lt_of_lt_of_le E_755.lt (Nat.le_of_eq g777.symm))
  have ne_de_b777 : de ≠ b777 := Nat.ne_of_lt (Nat.lt_of_lt_of_le V_757.lt (Nat.le_of_eq g777.symm))
  have ne_b567_b777 : b567 ≠ b777 := Nat.ne_of_lt (Nat.lt_of_lt_of_le E_762.lt (Nat.le_of_eq g777.symm))
  have ne_b603_b777 : b603 ≠ b777 := Nat.ne_of_lt (Nat.lt_of_lt_of_le E_766.lt (Nat.le_of_eq g777.symm))
  have ne_b651_b777 : b651 ≠ b777 := Nat.ne_of_lt (Nat.lt_of_lt_of_le E_770.lt (Nat.le_of_eq g777.symm))
  have ne_b711_b777 : b711 ≠ b777 := Nat.ne_of_lt (Nat.lt_of_lt_of_le V754.lt (Nat.le_of_eq g777.symm))
  have E_778 := E_755.ext E777
  have S_779 := S_756.ext E777
  have V_780 := V_757.ext E777
  have F_781 := F_758.ext E777
  have F_782 := F_759.ext E777
  have F_783 := F_760.ext E777
  have F_784 := F_761.ext E777
  have E_785 := E_762.ext E777
  have F_786 := F_763.ext E777
  have F_787 := F_764.ext E777
  have F_788 := F_765.ext E777
  have E_789 := E_766.ext E777
  have F_790 := F_767.ext E777
  have F_791 := F_768.ext E777
  have F_792 := F_769.ext E777
  have E_793 := E_770.ext E777
  have F_794 := F_771.ext E777
  have F_795 := F_772.ext E777
  have F_796 := F_773.ext E777
  have V_797 := V754.ext E777
  have g_b777 : n0 ≤ b777 := Nat.le_trans Z754 (Nat.le_of_eq g777.symm)
  have sz_b777 : h0.size ≤ b777 := Nat.le_trans K754.1 (Nat.le_of_eq g777.symm)
  have Z777 : n0 ≤ h777.size := Nat.le_trans Z754 E777.1
  have K777 : Keep h0 h777 [a] := K754.ext E777
  have F_798 : Fld Z h777 b777 "java/util/AbstractList" "modCount" "I" (.int (0 : Int32)) := D777 (Or.inl (hw _ (List.mem_of_getElem? (i := 52) rfl))) (ty := .int) (by decide)
  have F_799 : Fld Z h777 b777 "java/util/ArrayList" "elementData" "[Ljava/lang/Object;" .null := D777 (Or.inl (hw _ (List.mem_of_getElem? (i := 55) rfl))) (ty := (.array (.object "java/lang/Object"))) (by decide)
  have F_800 : Fld Z h777 b777 "java/util/ArrayList" "size" "I" (.int (0 : Int32)) := D777 (Or.inl (hw _ (List.mem_of_getElem? (i := 80) rfl))) (ty := .int) (by decide)
  refine Gl.st (g' := (mkF m 68 #[.val (.ref a), .val (.int (2 : Int32)), .val (.int (0 : Int32))] [(.ref b777), (.ref b603)])) (fun τ κ => st777 _ κ) ?_
  refine Gl.st (g' := (mkF m 69 #[.val (.ref a), .val (.int (2 : Int32)), .val (.int (0 : Int32))] [(.ref b777), (.ref b777), (.ref b603)])) (fun τ κ => XS.dup X777.here hx rfl (hb hby d1_68) rfl rfl κ) ?_
  obtain ⟨rv801, _, ⟨T801, L801, k801, n801⟩, -, X801, ⟨Lc801, hQ801, l801, y801, z801⟩, st801⟩ := X777.specialBack hx (y := (⟨"java/util/ArrayList", "<init>", "()V"⟩ : MethodName)) rfl hown (mvT hZ (hw _ (List.mem_of_getElem? (i := 35) rfl))) (mvT hZ (hw _ (List.mem_of_getElem? (i := 36) rfl))) (mvT hZ (hw _ (List.mem_of_getElem? (i := 37) rfl))) (by decide) (backOf (W := 2) (rm5 l Z a0 hw [] b777 de h777 n0 Z777 A777 g_b777 S_779 F_798 F_799 F_800) hZ (hw _ (List.mem_of_getElem? (i := 37) rfl)) (hw _ (List.mem_of_getElem? (i := 34) rfl)) (by decide) (by decide)) (g := (mkF m 69 #[.val (.ref a), .val (.int (2 : Int32)), .val (.int (0 : Int32))] [(.ref b777), (.ref b777), (.ref b603)])) rfl (by rw [hml]; rfl) (Steps.refl _) (a := b777) (argsL := []) (rest := [(.ref b777), (.ref b603)]) (lenOf pd_0 rfl) rfl (by show 2 * 0 + _ ≤ _; exact Nat.le_of_eq rfl) (hb hby d1_69) (fun _ _ => ⟨rfl, e777, (by decide : 5 + 0 ≤ _), (by decide : 20 + 0 ≤ _)⟩)
  dsimp only [Pt.U, Pt.locs, Pt.cells, Pt.slots] at X801 l801 y801 z801 st801 hQ801
  subst l801 y801 z801
  obtain ⟨rfl, N801q, Kc801, Ec801, FM801, FE801, FS801⟩ := hQ801
  have E_802 := E_778.keep Kc801
  have S_803 := Sta.keepX S_779 Kc801 (allS (P := fun x => ∃ c : Cell, h777[x]? = some c ∧ ∀ q, c.vm ≠ .statics q) A777.cell all0)
  have V_804 := V_780.keep Kc801 (ninS ne_de_b777 nin0)
  have F_805 := F_781.keep Kc801 (ninS ne_a_b777 nin0)
  have F_806 := F_782.keep Kc801 (ninS ne_a_b777 nin0)
  have F_807 := F_783.keep Kc801 (ninS ne_a_b777 nin0)
  have F_808 := F_784.keep Kc801 (ninS ne_a_b777 nin0)
  have E_809 := E_785.keep Kc801
  have F_810 := F_786.keep Kc801 (ninS ne_b567_b777 nin0)
  have F_811 := F_787.keep Kc801 (ninS ne_b567_b777 nin0)
  have F_812 := F_788.keep Kc801 (ninS ne_b567_b777 nin0)
  have E_813 := E_789.keep Kc801
  have F_814 := F_790.keep Kc801 (ninS ne_b603_b777 nin0)
  have F_815 := F_791.keep Kc801 (ninS ne_b603_b777 nin0)
  have F_816 := F_792.keep Kc801 (ninS ne_b603_b777 nin0)
  have E_817 := E_793.keep Kc801
  have F_818 := F_794.keep Kc801 (ninS ne_b651_b777 nin0)
  have F_819 := F_795.keep Kc801 (ninS ne_b651_b777 nin0)
  have F_820 := F_796.keep Kc801 (ninS ne_b651_b777 nin0)
  have V_821 := V_797.keep Kc801 (ninS ne_b711_b777 nin0)
  have E_822 := A777.keep Kc801
  have N801 := Fr.app N754 N801q
  have Z801 : n0 ≤ T801.heap.size := Nat.le_trans Z777 Kc801.1
  have K801 : Keep h0 T801.heap [a] := K777.trans Kc801 (allS (Or.inr sz_b777) all0)
  refine Gl.st (g' := (mkF m 72 #[.val (.ref a), .val (.int (2 : Int32)), .val (.int (0 : Int32))] [(.ref b777), (.ref b603)])) (fun τ κ => st801.trans κ) ?_
  obtain ⟨cq826, kq826, q826a, q826b, q826c⟩ := isOf hZ rfl E_813
  obtain ⟨rv826, _, ⟨T826, L826, k826, n826⟩, -, X826, ⟨Lc826, hQ826, l826, y826, z826⟩, st826⟩ := X801.interfaceBack hx (xi := (⟨"java/util/List", "add", "(Ljava/lang/Object;)Z"⟩ : MethodName)) (y := (⟨"java/util/ArrayList", "add", "(Ljava/lang/Object;)Z"⟩ : MethodName)) hown (mvT hZ (hw _ (List.mem_of_getElem? (i := 68) rfl))) (mvT hZ (hw _ (List.mem_of_getElem? (i := 69) rfl))) (mvT hZ (hw _ (List.mem_of_getElem? (i := 70) rfl))) (mvT hZ (hw _ (List.mem_of_getElem? (i := 71) rfl))) (mvT hZ (hw _ (List.mem_of_getElem? (i := 72) rfl))) (mvT hZ (hw _ (List.mem_of_getElem? (i := 73) rfl))) (mvT hZ (hw _ (List.mem_of_getElem? (i := 74) rfl))) (mvT hZ (hw _ (List.mem_of_getElem? (i := 75) rfl))) (by decide) (backOf (W := 0) (rm_Ae l Z a0 hw [] b603 b777 de kd (0 : Int32) T801.heap n0 Z801 E_813 g_b603 F_814 F_815 F_816 S_803 V_804 (Ne.symm ne_de_b603) Ec801) hZ (hw _ (List.mem_of_getElem? (i := 76) rfl)) (hw _ (List.mem_of_getElem? (i := 34) rfl)) (by decide) (by decide)) q826a q826b q826c (g := (mkF m 72 #[.val (.ref a), .val (.int (2 : Int32)), .val (.int (0 : Int32))] [(.ref b777), (.ref b603)])) rfl (by rw [hml]; rfl) (Steps.refl _) (argsL := [(.ref b777)]) (rest := []) (lenOf pd_6 rfl) rfl (by show 2 * 0 + _ ≤ _; exact Nat.le_of_eq rfl) (hb hby d1_72) (fun _ _ => ⟨rfl, rfl, (by decide : 5 + 1 ≤ _), (by decide : 20 + 10 ≤ _)⟩)
  dsimp only [Pt.U, Pt.locs, Pt.cells, Pt.slots] at X826 l826 y826 z826 st826 hQ826
  subst l826 y826 z826
  obtain ⟨b826, kk826, vs826, rfl, N826q, Kc826, s826, Ec826, FM826, FE826, FS826, V826, O826⟩ := hQ826
  have ne_a_b826 : a ≠ b826 := Nat.ne_of_lt (Nat.lt_of_lt_of_le E_802.lt s826)
  have ne_de_b826 : de ≠ b826 := Nat.ne_of_lt (Nat.lt_of_lt_of_le V_804.lt s826)
  have ne_b567_b826 : b567 ≠ b826 := Nat.ne_of_lt (Nat.lt_of_lt_of_le E_809.lt s826)
  have ne_b603_b826 : b603 ≠ b826 := Nat.ne_of_lt (Nat.lt_of_lt_of_le E_813.lt s826)
  have ne_b651_b826 : b651 ≠ b826 := Nat.ne_of_lt (Nat.lt_of_lt_of_le E_817.lt s826)
  have ne_b711_b826 : b711 ≠ b826 := Nat.ne_of_lt (Nat.lt_of_lt_of_le V_821.lt s826)
  have ne_b777_b826 : b777 ≠ b826 := Nat.ne_of_lt (Nat.lt_of_lt_of_le Ec801.lt s826)
  have g_b826 : n0 ≤ b826 := Nat.le_trans Z801 s826
  have sz_b826 : h0.size ≤ b826 := Nat.le_trans K801.1 s826
  have E_827 := E_802.keep Kc826
  have S_828 := Sta.keepX S_803 Kc826 (allS (P := fun x => ∃ c : Cell, T801.heap[x]? = some c ∧ ∀ q, c.vm ≠ .statics q) E_813.cell all0)
  have V_829 := V_804.keep Kc826 (ninS ne_de_b603 nin0)
  have F_830 := F_805.keep Kc826 (ninS ne_a_b603 nin0)
  have F_831 := F_806.keep Kc826 (ninS ne_a_b603 nin0)
  have F_832 := F_807.keep Kc826 (ninS ne_a_b603 nin0)
  have F_833 := F_808.keep Kc826 (ninS ne_a_b603 nin0)
  have E_834 := E_809.keep Kc826
  have F_835 := F_810.keep Kc826 (ninS ne_b567_b603 nin0)
  have F_836 := F_811.keep Kc826 (ninS ne_b567_b603 nin0)
  have F_837 := F_812.keep Kc826 (ninS ne_b567_b603 nin0)
  have E_838 := E_813.keep Kc826
  have E_842 := E_817.keep Kc826
  have F_843 := F_818.keep Kc826 (ninS (Ne.symm ne_b603_b651) nin0)
  have F_844 := F_819.keep Kc826 (ninS (Ne.symm ne_b603_b651) nin0)
  have F_845 := F_820.keep Kc826 (ninS (Ne.symm ne_b603_b651) nin0)
  have V_846 := V_821.keep Kc826 (ninS (Ne.symm ne_b603_b711) nin0)
  have E_847 := Ec801.keep Kc826
  have F_848 := FM801.keep Kc826 (ninS (Ne.symm ne_b603_b777) nin0)
  have F_849 := FE801.keep Kc826 (ninS (Ne.symm ne_b603_b777) nin0)
  have F_850 := FS801.keep Kc826 (ninS (Ne.symm ne_b603_b777) nin0)
  have N826 := Fr.app N801 N826q
  have Z826 : n0 ≤ T826.heap.size := Nat.le_trans Z801 Kc826.1
  have K826 : Keep h0 T826.heap [a] := K801.trans Kc826 (allS (Or.inr sz_b603) all0)
  refine Gl.st (g' := (mkF m 77 #[.val (.ref a), .val (.int (2 : Int32)), .val (.int (0 : Int32))] [(.int (1 : Int32))])) (fun τ κ => st826.trans κ) ?_
  refine Gl.st (g' := (mkF m 78 #[.val (.ref a), .val (.int (2 : Int32)), .val (.int (0 : Int32))] [])) (fun τ κ => XS.pop X826.here hx rfl (hb hby d1_77) rfl rfl κ) ?_
  refine Gl.st (g' := (mkF m 81 #[.val (.ref a), .val (.int (2 : Int32)), .val (.int (1 : Int32))] [])) (fun τ κ => XS.iinc X826.here hx rfl (hb hby d1_78) rfl (l' := #[.val (.ref a), .val (.int (2 : Int32)), .val (.int (1 : Int32))]) rfl κ) ?_
  refine Gl.st (g' := (mkF m 56 #[.val (.ref a), .val (.int (2 : Int32)), .val (.int (1 : Int32))] [])) (fun τ κ => XS.goto X826.here hx rfl (pc0 := 81) (pc' := 56) rfl (hb hby d1_81) (by decide) (by decide) κ) ?_
  refine Gl.st (g' := (mkF m 57 #[.val (.ref a), .val (.int (2 : Int32)), .val (.int (1 : Int32))] [(.int (1 : Int32))])) (fun τ κ => XS.iloadN X826.here hx rfl (hb hby d1_56) rfl κ) ?_
  refine Gl.st (g' := (mkF m 58 #[.val (.ref a), .val (.int (2 : Int32)), .val (.int (1 : Int32))] [(.int (2 : Int32)), (.int (1 : Int32))])) (fun τ κ => XS.iloadN X826.here hx rfl (hb hby d1_57) rfl κ) ?_
  have hc851 : (1 : Int32) < (2 : Int32) := by decide
  refine Gl.st (g' := (mkF m 61 #[.val (.ref a), .val (.int (2 : Int32)), .val (.int (1 : Int32))] [])) (fun τ κ => XS.icmpNo X826.here hx rfl (hb hby d1_58) rfl (tlt hc851).2.1 κ) ?_
  refine Gl.st (g' := (mkF m 62 #[.val (.ref a), .val (.int (2 : Int32)), .val (.int (1 : Int32))] [(.ref a)])) (fun τ κ => XS.aloadN X826.here hx rfl (hb hby d1_61) rfl rfl κ) ?_
  obtain ⟨T852, X852, e852, st852⟩ := getF X826 hx hZ hown (host := "") (Or.inl (hw _ (List.mem_of_getElem? (i := 56) rfl))) Via.refl rfl F_831 (g := (mkF m 62 #[.val (.ref a), .val (.int (2 : Int32)), .val (.int (1 : Int32))] [(.ref a)])) rfl rfl (hb hby d1_62)
  refine Gl.st (g' := (mkF m 65 #[.val (.ref a), .val (.int (2 : Int32)), .val (.int (1 : Int32))] [(.ref b603)])) (fun τ κ => st852 _ κ) ?_
  obtain ⟨T853, h853, X853, e853, E853, A853, D853, -, st853⟩ := newO X852 hx hZ hown (hw _ (List.mem_of_getElem? (i := 32) rfl)) (hw _ (List.mem_of_getElem? (i := 33) rfl)) (hw _ (List.mem_of_getElem? (i := 34) rfl)) e852 (g := (mkF m 65 #[.val (.ref a), .val (.int (2 : Int32)), .val (.int (1 : Int32))] [(.ref b603)])) rfl (hb hby d1_65) (by decide) (by decide)
  obtain ⟨b853, g853⟩ : ∃ z, z = T826.heap.size := ⟨_, rfl⟩
  rw [← g853] at A853 D853 st853
  have ne_a_b853 : a ≠ b853 := Nat.ne_of_lt (Nat.lt_of_lt_of_le E_827.lt (Nat.le_of_eq g853.symm))
  have ne_de_b853 : de ≠ b853 := Nat.ne_of_lt (Nat.lt_of_lt_of_le V_829.lt (Nat.le_of_eq g853.symm))
  have ne_b567_b853 : b567 ≠ b853 := Nat.ne_of_lt (Nat.lt_of_lt_of_le E_834.lt (Nat.le_of_eq g853.symm))
  have ne_b603_b853 : b603 ≠ b853 := Nat.ne_of_lt (Nat.lt_of_lt_of_le Ec826.lt (Nat.le_of_eq g853.symm))
  have ne_b651_b853 : b651 ≠ b853 := Nat.ne_of_lt (Nat.lt_of_lt_of_le E_842.lt (Nat.le_of_eq g853.symm))
  have ne_b711_b853 : b711 ≠ b853 := Nat.ne_of_lt (Nat.lt_of_lt_of_le V_846.lt (Nat.le_of_eq g853.symm))
  have ne_b777_b853 : b777 ≠ b853 := Nat.ne_of_lt (Nat.lt_of_lt_of_le E_847.lt (Nat.le_of_eq g853.symm))
  have ne_b826_b853 : b826 ≠ b853 := Nat.ne_of_lt (Nat.lt_of_lt_of_le V826.lt (Nat.le_of_eq g853.symm))
  have E_854 := E_827.ext E853
  have S_855 := S_828.ext E853
  have V_856 := V_829.ext E853
  have F_857 := F_830.ext E853
  have F_858 := F_831.ext E853
  have F_859 := F_832.ext E853
  have F_860 := F_833.ext E853
  have E_861 := E_834.ext E853
  have F_862 := F_835.ext E853
  have F_863 := F_836.ext E853
  have F_864 := F_837.ext E853
  have E_865 := Ec826.ext E853
  have E_866 := E_842.ext E853
  have F_867 := F_843.ext E853
  have F_868 := F_844.ext E853
  have F_869 := F_845.ext E853
  have V_870 := V_846.ext E853
  have E_871 := E_847.ext E853
  have F_872 := F_848.ext E853
  have F_873 := F_849.ext E853
  have F_874 := F_850.ext E853
  have F_875 := FM826.ext E853
  have F_876 := FE826.ext E853
  have F_877 := FS826.ext E853
  have V_878 := V826.ext E853
  have g_b853 : n0 ≤ b853 := Nat.le_trans Z826 (Nat.le_of_eq g853.symm)
  have sz_b853 : h0.size ≤ b853 := Nat.le_trans K826.1 (Nat.le_of_eq g853.symm)
  have Z853 : n0 ≤ h853.size := Nat.le_trans Z826 E853.1
  have K853 : Keep h0 h853 [a] := K826.ext E853
  have F_879 : Fld Z h853 b853 "java/util/AbstractList" "modCount" "I" (.int (0 : Int32)) := D853 (Or.inl (hw _ (List.mem_of_getElem? (i := 52) rfl))) (ty := .int) (by decide)
  have F_880 : Fld Z h853 b853 "java/util/ArrayList" "elementData" "[Ljava/lang/Object;" .null := D853 (Or.inl (hw _ (List.mem_of_getElem? (i := 55) rfl))) (ty := (.array (.object "java/lang/Object"))) (by decide)
  have F_881 : Fld Z h853 b853 "java/util/ArrayList" "size" "I" (.int (0 : Int32)) := D853 (Or.inl (hw _ (List.mem_of_getElem? (i := 80) rfl))) (ty := .int) (by decide)
  refine Gl.st (g' := (mkF m 68 #[.val (.ref a), .val (.int (2 : Int32)), .val (.int (1 : Int32))] [(.ref b853), (.ref b603)])) (fun τ κ => st853 _ κ) ?_
  refine Gl.st (g' := (mkF m 69 #[.val (.ref a), .val (.int (2 : Int32)), .val (.int (1 : Int32))] [(.ref b853), (.ref b853), (.ref b603)])) (fun τ κ => XS.dup X853.here hx rfl (hb hby d1_68) rfl rfl κ) ?_
  obtain ⟨rv882, _, ⟨T882, L882, k882, n882⟩, -, X882, ⟨Lc882, hQ882, l882, y882, z882⟩, st882⟩ := X853.specialBack hx (y := (⟨"java/util/ArrayList", "<init>", "()V"⟩ : MethodName)) rfl hown (mvT hZ (hw _ (List.mem_of_getElem? (i := 35) rfl))) (mvT hZ (hw _ (List.mem_of_getElem? (i := 36) rfl))) (mvT hZ (hw _ (List.mem_of_getElem? (i := 37) rfl))) (by decide) (backOf (W := 2) (rm5 l Z a0 hw [] b853 de h853 n0 Z853 A853 g_b853 S_855 F_879 F_880 F_881) hZ (hw _ (List.mem_of_getElem? (i := 37) rfl)) (hw _ (List.mem_of_getElem? (i := 34) rfl)) (by decide) (by decide)) (g := (mkF m 69 #[.val (.ref a), .val (.int (2 : Int32)), .val (.int (1 : Int32))] [(.ref b853), (.ref b853), (.ref b603)])) rfl (by rw [hml]; rfl) (Steps.refl _) (a := b853) (argsL := []) (rest := [(.ref b853), (.ref b603)]) (lenOf pd_0 rfl) rfl (by show 2 * 0 + _ ≤ _; exact Nat.le_of_eq rfl) (hb hby d1_69) (fun _ _ => ⟨rfl, e853, (by decide : 7 + 0 ≤ _), (by decide : 33 + 0 ≤ _)⟩)
  dsimp only [Pt.U, Pt.locs, Pt.cells, Pt.slots] at X882 l882 y882 z882 st882 hQ882
  subst l882 y882 z882
  obtain ⟨rfl, N882q, Kc882, Ec882, FM882, FE882, FS882⟩ := hQ882
  have E_883 := E_854.keep Kc882
  have S_884 := Sta.keepX S_855 Kc882 (allS (P := fun x => ∃ c : Cell, h853[x]? = some c ∧ ∀ q, c.vm ≠ .statics q) A853.cell all0)
  have V_885 := V_856.keep Kc882 (ninS ne_de_b853 nin0)
  have F_886 := F_857.keep Kc882 (ninS ne_a_b853 nin0)
  have F_887 := F_858.keep Kc882 (ninS ne_a_b853 nin0)
  have F_888 := F_859.keep Kc882 (ninS ne_a_b853 nin0)
  have F_889 := F_860.keep Kc882 (ninS ne_a_b853 nin0)
  have E_890 := E_861.keep Kc882
  have F_891 := F_862.keep Kc882 (ninS ne_b567_b853 nin0)
  have F_892 := F_863.keep Kc882 (ninS ne_b567_b853 nin0)
  have F_893 := F_864.keep Kc882 (ninS ne_b567_b853 nin0)
  have E_894 := E_865.keep Kc882
  have E_895 := E_866.keep Kc882
  have F_896 := F_867.keep Kc882 (ninS ne_b651_b853 nin0)
  have F_897 := F_868.keep Kc882 (ninS ne_b651_b853 nin0)
  have F_898 := F_869.keep Kc882 (ninS ne_b651_b853 nin0)
  have V_899 := V_870.keep Kc882 (ninS ne_b711_b853 nin0)
  have E_900 := E_871.keep Kc882
  have F_901 := F_872.keep Kc882 (ninS ne_b777_b853 nin0)
  have F_902 := F_873.keep Kc882 (ninS ne_b777_b853 nin0)
  have F_903 := F_874.keep Kc882 (ninS ne_b777_b853 nin0)
  have F_904 := F_875.keep Kc882 (ninS ne_b603_b853 nin0)
  have F_905 := F_876.keep Kc882 (ninS ne_b603_b853 nin0)
  have F_906 := F_877.keep Kc882 (ninS ne_b603_b853 nin0)
  have V_907 := V_878.keep Kc882 (ninS ne_b826_b853 nin0)
  have E_908 := A853.keep Kc882
  have N882 := Fr.app N826 N882q
  have Z882 : n0 ≤ T882.heap.size := Nat.le_trans Z853 Kc882.1
  have K882 : Keep h0 T882.heap [a] := K853.trans Kc882 (allS (Or.inr sz_b853) all0)
  refine Gl.st (g' := (mkF m 72 #[.val (.ref a), .val (.int (2 : Int32)), .val (.int (1 : Int32))] [(.ref b853), (.ref b603)])) (fun τ κ => st882.trans κ) ?_
  obtain ⟨cq912, kq912, q912a, q912b, q912c⟩ := isOf hZ rfl E_894
  obtain ⟨rv912, _, ⟨T912, L912, k912, n912⟩, -, X912, ⟨Lc912, hQ912, l912, y912, z912⟩, st912⟩ := X882.interfaceBack hx (xi := (⟨"java/util/List", "add", "(Ljava/lang/Object;)Z"⟩ : MethodName)) (y := (⟨"java/util/ArrayList", "add", "(Ljava/lang/Object;)Z"⟩ : MethodName)) hown (mvT hZ (hw _ (List.mem_of_getElem? (i := 68) rfl))) (mvT hZ (hw _ (List.mem_of_getElem? (i := 69) rfl))) (mvT hZ (hw _ (List.mem_of_getElem? (i := 70) rfl))) (mvT hZ (hw _ (List.mem_of_getElem? (i := 71) rfl))) (mvT hZ (hw _ (List.mem_of_getElem? (i := 72) rfl))) (mvT hZ (hw _ (List.mem_of_getElem? (i := 73) rfl))) (mvT hZ (hw _ (List.mem_of_getElem? (i := 74) rfl))) (mvT hZ (hw _ (List.mem_of_getElem? (i := 75) rfl))) (by decide) (backOf (W := 0) (rm_Be1 l Z a0 hw [] b603 b853 b826 kk826 (1 : Int32) vs826 T882.heap n0 Z882 E_894 g_b603 F_904 F_905 F_906 g_b826 ne_b603_b826 V_907 O826 Ec882) hZ (hw _ (List.mem_of_getElem? (i := 76) rfl)) (hw _ (List.mem_of_getElem? (i := 34) rfl)) (by decide) (by decide)) q912a q912b q912c (g := (mkF m 72 #[.val (.ref a), .val (.int (2 : Int32)), .val (.int (1 : Int32))] [(.ref b853), (.ref b603)])) rfl (by rw [hml]; rfl) (Steps.refl _) (argsL := [(.ref b853)]) (rest := []) (lenOf pd_6 rfl) rfl (by show 2 * 0 + _ ≤ _; exact Nat.le_of_eq rfl) (hb hby d1_72) (fun _ _ => ⟨rfl, rfl, (by decide : 7 + 0 ≤ _), (by decide : 33 + 0 ≤ _)⟩)
  dsimp only [Pt.U, Pt.locs, Pt.cells, Pt.slots] at X912 l912 y912 z912 st912 hQ912
  subst l912 y912 z912
  obtain ⟨vs912, rfl, N912q, Kc912, Ec912, FM912, FE912, FS912, V912⟩ := hQ912
  have E_913 := E_883.keep Kc912
  have S_914 := Sta.keepX S_884 Kc912 (allS (P := fun x => ∃ c : Cell, T882.heap[x]? = some c ∧ ∀ q, c.vm ≠ .statics q) E_894.cell (allS (P := fun x => ∃ c : Cell, T882.heap[x]? = some c ∧ ∀ q, c.vm ≠ .statics q) (Arv.cellX V_907) all0))
  have V_915 := V_885.keep Kc912 (ninS ne_de_b603 (ninS ne_de_b826 nin0))
  have F_916 := F_886.keep Kc912 (ninS ne_a_b603 (ninS ne_a_b826 nin0))
  have F_917 := F_887.keep Kc912 (ninS ne_a_b603 (ninS ne_a_b826 nin0))
  have F_918 := F_888.keep Kc912 (ninS ne_a_b603 (ninS ne_a_b826 nin0))
  have F_919 := F_889.keep Kc912 (ninS ne_a_b603 (ninS ne_a_b826 nin0))
  have E_920 := E_890.keep Kc912
  have F_921 := F_891.keep Kc912 (ninS ne_b567_b603 (ninS ne_b567_b826 nin0))
  have F_922 := F_892.keep Kc912 (ninS ne_b567_b603 (ninS ne_b567_b826 nin0))
  have F_923 := F_893.keep Kc912 (ninS ne_b567_b603 (ninS ne_b567_b826 nin0))
  have E_924 := E_894.keep Kc912
  have E_925 := E_895.keep Kc912
  have F_926 := F_896.keep Kc912 (ninS (Ne.symm ne_b603_b651) (ninS ne_b651_b826 nin0))
  have F_927 := F_897.keep Kc912 (ninS (Ne.symm ne_b603_b651) (ninS ne_b651_b826 nin0))
  have F_928 := F_898.keep Kc912 (ninS (Ne.symm ne_b603_b651) (ninS ne_b651_b826 nin0))
  have V_929 := V_899.keep Kc912 (ninS (Ne.symm ne_b603_b711) (ninS ne_b711_b826 nin0))
  have E_930 := E_900.keep Kc912
  have F_931 := F_901.keep Kc912 (ninS (Ne.symm ne_b603_b777) (ninS ne_b777_b826 nin0))
  have F_932 := F_902.keep Kc912 (ninS (Ne.symm ne_b603_b777) (ninS ne_b777_b826 nin0))
  have F_933 := F_903.keep Kc912 (ninS (Ne.symm ne_b603_b777) (ninS ne_b777_b826 nin0))
  have E_938 := Ec882.keep Kc912
  have F_939 := FM882.keep Kc912 (ninS (Ne.symm ne_b603_b853) (ninS (Ne.symm ne_b826_b853) nin0))
  have F_940 := FE882.keep Kc912 (ninS (Ne.symm ne_b603_b853) (ninS (Ne.symm ne_b826_b853) nin0))
  have F_941 := FS882.keep Kc912 (ninS (Ne.symm ne_b603_b853) (ninS (Ne.symm ne_b826_b853) nin0))
  have N912 := Fr.app N882 N912q
  have Z912 : n0 ≤ T912.heap.size := Nat.le_trans Z882 Kc912.1
  have K912 : Keep h0 T912.heap [a] := K882.trans Kc912 (allS (Or.inr sz_b603) (allS (Or.inr sz_b826) all0))
  refine Gl.st (g' := (mkF m 77 #[.val (.ref a), .val (.int (2 : Int32)), .val (.int (1 : Int32))] [(.int (1 : Int32))])) (fun τ κ => st912.trans κ) ?_
  refine Gl.st (g' := (mkF m 78 #[.val (.ref a), .val (.int (2 : Int32)), .val (.int (1 : Int32))] [])) (fun τ κ => XS.pop X912.here hx rfl (hb hby d1_77) rfl rfl κ) ?_
  refine Gl.st (g' := (mkF m 81 #[.val (.ref a), .val (.int (2 : Int32)), .val (.int (2 : Int32))] [])) (fun τ κ => XS.iinc X912.here hx rfl (hb hby d1_78) rfl (l' := #[.val (.ref a), .val (.int (2 : Int32)), .val (.int (2 : Int32))]) rfl κ) ?_
  refine Gl.st (g' := (mkF m 56 #[.val (.ref a), .val (.int (2 : Int32)), .val (.int (2 : Int32))] [])) (fun τ κ => XS.goto X912.here hx rfl (pc0 := 81) (pc' := 56) rfl (hb hby d1_81) (by decide) (by decide) κ) ?_
  refine Gl.st (g' := (mkF m 57 #[.val (.ref a), .val (.int (2 : Int32)), .val (.int (2 : Int32))] [(.int (2 : Int32))])) (fun τ κ => XS.iloadN X912.here hx rfl (hb hby d1_56) rfl κ) ?_
  refine Gl.st (g' := (mkF m 58 #[.val (.ref a), .val (.int (2 : Int32)), .val (.int (2 : Int32))] [(.int (2 : Int32)), (.int (2 : Int32))])) (fun τ κ => XS.iloadN X912.here hx rfl (hb hby d1_57) rfl κ) ?_
  have hc942 : ¬ ((2 : Int32) < (2 : Int32)) := by decide
  refine Gl.st (g' := (mkF m 84 #[.val (.ref a), .val (.int (2 : Int32)), .val (.int (2 : Int32))] [])) (fun τ κ => XS.icmpYes X912.here hx rfl (pc0 := 58) (pc' := 84) rfl (hb hby d1_58) rfl (flt hc942).2.1 (by decide) (by decide) κ) ?_
  exact Gl.ret (v := none) X912 Bd.notSynchronized (fun _ => rfl) rfl (fun fs hr => X912.returnOut hx Bd.returns (hb hby d1_84) hr) (by decide) (by decide) ⟨b711, k711, rfl, N912, K912, sz_b711, E_913, F_919, V_929⟩
theorem ef_rm_init3 (m : MethodId) (a : Addr) : entryFrame m #[(.ref a), (.int (3 : Int32))] 3 = mkF m 0 #[.val (.ref a), .val (.int (3 : Int32)), .unset] [] := by first | (simp [entryFrame, mkF, argsToLocals, Value.category]; done) | rfl
def Q_rm_init3 (Z : State) (a : Addr) (de : Addr) (kd : ClassId) (h0 : Heap) (n0 : Nat) (v : Option Value) (h : Heap) (L : List Loc) : Prop := ∃ t kc, v = none ∧ Fr n0 L ∧ Keep h0 h [a] ∧ h0.size ≤ t ∧ Exa Z h a "org/precedence/Takeover" ∧ Fld Z h a "org/precedence/Takeover" "next" "[J" (.ref t) ∧ Arv Z h t kc .long (3 : Int32) [(.long (-1 : Int64)), (.long (-1 : Int64)), (.long (-1 : Int64))] (.long (0 : Int64))
set_option maxRecDepth 65536 in
set_option maxHeartbeats 40000000 in
theorem rm_init3 (l : Launch) (Z : State) (a0 : Array Value) (hw : ∀ d ∈ tables_1, d.before a0 Z = true) (ws : List Jvm.Cond) (a : Addr) (de : Addr) (kd : ClassId) (h0 : Heap) (n0 : Nat) (Z0 : n0 ≤ h0.size) (E0 : Exa Z h0 a "org/precedence/Takeover") (g0 : n0 ≤ a) (S0 : Sta Z h0 "java/util/ArrayList" "DEFAULTCAPACITY_EMPTY_ELEMENTDATA" "[Ljava/lang/Object;" (.ref de)) (V0 : Arv Z h0 de kd (.object "java/lang/Object") (0 : Int32) [] .null) (hde : a ≠ de) (F0 : Fld Z h0 a "org/precedence/Takeover" "stamped" "Ljava/util/TreeMap;" .null) (F1 : Fld Z h0 a "org/precedence/Takeover" "unstamped" "Ljava/util/List;" .null) (F2 : Fld Z h0 a "org/precedence/Takeover" "submitted" "Ljava/util/List;" .null) (F3 : Fld Z h0 a "org/precedence/Takeover" "next" "[J" .null) :
    MetFree l (⟨"org/precedence/Takeover", "<init>", "(I)V"⟩ : MethodName) (head1 (Jvm.Cond.code (⟨"org/precedence/Takeover", "<init>", "(I)V"⟩ : MethodName) prog_35_method_1_code 3 none :: ws) ({ frames := 5, cells := 10, slots := 41, locals := 90 } : Room)) (fun aα Uα => aα = #[(.ref a), (.int (3 : Int32))] ∧ Z.Warmed39 Uα.vm ∧ Uα.heap = h0) (fun _ _ _ _ _ => True) (fun _ Uα oα Uβ => ∃ vα Lα, oα = .returned vα ∧ Q_rm_init3 Z a de kd h0 n0 vα Uβ.heap Lα ∧ FrameEnd Uα oα Uβ Lα ({ frames := 5, cells := 10, slots := 41, locals := 90 } : Room).cells ({ frames := 5, cells := 10, slots := 41, locals := 90 } : Room).slots) := by
  refine MetFree.of_bodySF (plainFor_of_name pn_org_precedence_Takeover) hisR ?_
  intro p e s m args below meth c s₁ Bd hml0 hP hKα
  obtain ⟨rfl, hZ, hh⟩ := hP
  have hx := Bd.exec
  have hby := Bd.bytes
  have hml : c.maxLocals = 3 := hml0
  have hown : s.vm.findClass "org/precedence/Takeover" = some m.cls := findClass_of_methodNamed Bd.named
  have hnm := (name_of_methodNamed Bd.named Bd.method).1
  have X0 : Stand p l e ({ frames := 5, cells := 10, slots := 41, locals := 90 } : Room) s m #[(.ref a), (.int (3 : Int32))] below meth c s₁ [] 0 0 := Stand.of_body Bd
  have e0 : s₁.heap = h0 := by rw [← hh, Bd.state]; rfl
  have N0 := Fr.nil n0
  suffices k0 : Gl p e below s (Q_rm_init3 Z a de kd h0 n0) ({ frames := 5, cells := 10, slots := 41, locals := 90 } : Room).cells ({ frames := 5, cells := 10, slots := 41, locals := 90 } : Room).slots s₁ (mkF m 0 #[.val (.ref a), .val (.int (3 : Int32)), .unset] []) from Gl.st (fun τ κ => castTop (ef_rm_init3 m a) κ) k0
  refine Gl.st (g' := (mkF m 1 #[.val (.ref a), .val (.int (3 : Int32)), .unset] [(.ref a)])) (fun τ κ => XS.aloadN X0.here hx rfl (hb hby d1_0) rfl rfl κ) ?_
  obtain ⟨T943, X943, e943, st943⟩ := initO X0 hx hZ hown (hw _ (List.mem_of_getElem? (i := 8) rfl)) (hw _ (List.mem_of_getElem? (i := 9) rfl)) (hw _ (List.mem_of_getElem? (i := 10) rfl)) e0 (g := (mkF m 1 #[.val (.ref a), .val (.int (3 : Int32)), .unset] [(.ref a)])) rfl (by rw [hml]; rfl) rfl (hb hby d1_1) (by decide) (W := 0) (by show 2 * 0 + _ ≤ _; exact Nat.le_of_eq rfl) (by decide)
  refine Gl.st (g' := (mkF m 4 #[.val (.ref a), .val (.int (3 : Int32)), .unset] [])) (fun τ κ => st943 _ κ) ?_
  refine Gl.st (g' := (mkF m 5 #[.val (.ref a), .val (.int (3 : Int32)), .unset] [(.ref a)])) (fun τ κ => XS.aloadN X943.here hx rfl (hb hby d1_4) rfl rfl κ) ?_
  obtain ⟨T944, h944, X944, e944, E944, A944, D944, -, st944⟩ := newO X943 hx hZ hown (hw _ (List.mem_of_getElem? (i := 11) rfl)) (hw _ (List.mem_of_getElem? (i := 12) rfl)) (hw _ (List.mem_of_getElem? (i := 13) rfl)) e943 (g := (mkF m 5 #[.val (.ref a), .val (.int (3 : Int32)), .unset] [(.ref a)])) rfl (hb hby d1_5) (by decide) (by decide)
  obtain ⟨b944, g944⟩ : ∃ z, z = h0.size := ⟨_, rfl⟩
  rw [← g944] at A944 D944 st944
  have ne_a_b944 : a ≠ b944 := Nat.ne_of_lt (Nat.lt_of_lt_of_le E0.lt (Nat.le_of_eq g944.symm))
  have ne_de_b944 : de ≠ b944 := Nat.ne_of_lt (Nat.lt_of_lt_of_le V0.lt (Nat.le_of_eq g944.symm))
  have E_945 := E0.ext E944
  have S_946 := S0.ext E944
  have V_947 := V0.ext E944
  have F_948 := F0.ext E944
  have F_949 := F1.ext E944
  have F_950 := F2.ext E944
  have F_951 := F3.ext E944
  have g_b944 : n0 ≤ b944 := Nat.le_trans Z0 (Nat.le_of_eq g944.symm)
  have sz_b944 : h0.size ≤ b944 := Nat.le_trans (Keep.refl h0 [a]).1 (Nat.le_of_eq g944.symm)
  have Z944 : n0 ≤ h944.size := Nat.le_trans Z0 E944.1
  have K944 : Keep h0 h944 [a] := (Keep.refl h0 [a]).ext E944
  have F_952 : Fld Z h944 b944 "java/util/TreeMap" "size" "I" (.int (0 : Int32)) := D944 (Or.inl (hw _ (List.mem_of_getElem? (i := 25) rfl))) (ty := .int) (by decide)
  have F_953 : Fld Z h944 b944 "java/util/TreeMap" "modCount" "I" (.int (0 : Int32)) := D944 (Or.inl (hw _ (List.mem_of_getElem? (i := 27) rfl))) (ty := .int) (by decide)
  have F_954 : Fld Z h944 b944 "java/util/TreeMap" "comparator" "Ljava/util/Comparator;" .null := D944 (Or.inr (hw _ (List.mem_of_getElem? (i := 29) rfl))) (ty := (.object "java/util/Comparator")) (by decide)
  refine Gl.st (g' := (mkF m 8 #[.val (.ref a), .val (.int (3 : Int32)), .unset] [(.ref b944), (.ref a)])) (fun τ κ => st944 _ κ) ?_
  refine Gl.st (g' := (mkF m 9 #[.val (.ref a), .val (.int (3 : Int32)), .unset] [(.ref b944), (.ref b944), (.ref a)])) (fun τ κ => XS.dup X944.here hx rfl (hb hby d1_8) rfl rfl κ) ?_
  obtain ⟨rv955, _, ⟨T955, L955, k955, n955⟩, -, X955, ⟨Lc955, hQ955, l955, y955, z955⟩, st955⟩ := X944.specialBack hx (y := (⟨"java/util/TreeMap", "<init>", "()V"⟩ : MethodName)) rfl hown (mvT hZ (hw _ (List.mem_of_getElem? (i := 14) rfl))) (mvT hZ (hw _ (List.mem_of_getElem? (i := 15) rfl))) (mvT hZ (hw _ (List.mem_of_getElem? (i := 16) rfl))) (by decide) (backOf (W := 2) (rm3 l Z a0 hw [] b944 h944 n0 Z944 A944 g_b944 F_952 F_953 F_954) hZ (hw _ (List.mem_of_getElem? (i := 16) rfl)) (hw _ (List.mem_of_getElem? (i := 13) rfl)) (by decide) (by decide)) (g := (mkF m 9 #[.val (.ref a), .val (.int (3 : Int32)), .unset] [(.ref b944), (.ref b944), (.ref a)])) rfl (by rw [hml]; rfl) (Steps.refl _) (a := b944) (argsL := []) (rest := [(.ref b944), (.ref a)]) (lenOf pd_0 rfl) rfl (by show 2 * 0 + _ ≤ _; exact Nat.le_of_eq rfl) (hb hby d1_9) (fun _ _ => ⟨rfl, e944, (by decide : 1 + 0 ≤ _), (by decide : 9 + 0 ≤ _)⟩)
  dsimp only [Pt.U, Pt.locs, Pt.cells, Pt.slots] at X955 l955 y955 z955 st955 hQ955
  subst l955 y955 z955
  obtain ⟨rfl, N955q, Kc955, Ec955, Fc955_0, Fc955_1, Fc955_2⟩ := hQ955
  have E_956 := E_945.keep Kc955
  have S_957 := Sta.keepX S_946 Kc955 (allS (P := fun x => ∃ c : Cell, h944[x]? = some c ∧ ∀ q, c.vm ≠ .statics q) A944.cell all0)
  have V_958 := V_947.keep Kc955 (ninS ne_de_b944 nin0)
  have F_959 := F_948.keep Kc955 (ninS ne_a_b944 nin0)
  have F_960 := F_949.keep Kc955 (ninS ne_a_b944 nin0)
  have F_961 := F_950.keep Kc955 (ninS ne_a_b944 nin0)
  have F_962 := F_951.keep Kc955 (ninS ne_a_b944 nin0)
  have E_963 := A944.keep Kc955
  have N955 := Fr.app N0 N955q
  have Z955 : n0 ≤ T955.heap.size := Nat.le_trans Z944 Kc955.1
  have K955 : Keep h0 T955.heap [a] := K944.trans Kc955 (allS (Or.inr sz_b944) all0)
  refine Gl.st (g' := (mkF m 12 #[.val (.ref a), .val (.int (3 : Int32)), .unset] [(.ref b944), (.ref a)])) (fun τ κ => st955.trans κ) ?_
  obtain ⟨T967, h967, X967, e967, W967, st967⟩ := putF X955 hx hZ hown (host := "") (Or.inl (hw _ (List.mem_of_getElem? (i := 30) rfl))) Via.refl rfl F_959 E_956 (Or.inr ⟨(hw _ (List.mem_of_getElem? (i := 31) rfl)), rfl, hnm⟩) (hw _ (List.mem_of_getElem? (i := 3) rfl)) (ty := (.object "java/util/TreeMap")) (by decide) rfl rfl (g := (mkF m 12 #[.val (.ref a), .val (.int (3 : Int32)), .unset] [(.ref b944), (.ref a)])) rfl rfl (hb hby d1_12)
  have E_968 := E_956.wr W967
  have S_969 := S_957.wr W967
  have V_970 := V_958.other W967 (Ne.symm hde)
  have F_972 := F_960.other W967 (Or.inr (slot_ne (Or.inr (hw _ (List.mem_of_getElem? (i := 57) rfl))) (Or.inr (hw _ (List.mem_of_getElem? (i := 31) rfl))) (by decide) (t := (.object "java/util/List")) (t' := (.object "java/util/TreeMap")) (by decide) (by decide)))
  have F_973 := F_961.other W967 (Or.inr (slot_ne (Or.inr (hw _ (List.mem_of_getElem? (i := 59) rfl))) (Or.inr (hw _ (List.mem_of_getElem? (i := 31) rfl))) (by decide) (t := (.object "java/util/List")) (t' := (.object "java/util/TreeMap")) (by decide) (by decide)))
  have F_974 := F_962.other W967 (Or.inr (slot_ne (Or.inr (hw _ (List.mem_of_getElem? (i := 62) rfl))) (Or.inr (hw _ (List.mem_of_getElem? (i := 31) rfl))) (by decide) (t := (.array .long)) (t' := (.object "java/util/TreeMap")) (by decide) (by decide)))
  have E_975 := Ec955.wr W967
  have F_976 := Fc955_0.other W967 (Or.inl (Ne.symm ne_a_b944))
  have F_977 := Fc955_1.other W967 (Or.inl (Ne.symm ne_a_b944))
  have F_978 := Fc955_2.other W967 (Or.inl (Ne.symm ne_a_b944))
  have N967 := Fr.snoc X967 N955 g0
  have Z967 : n0 ≤ h967.size := Nat.le_trans Z955 (Nat.le_of_eq W967.size.symm)
  have K967 : Keep h0 h967 [a] := K955.wr W967 (Or.inl (List.mem_of_getElem? (i := 0) rfl))
  have F_979 := F_959.same W967
  refine Gl.st (g' := (mkF m 15 #[.val (.ref a), .val (.int (3 : Int32)), .unset] [])) (fun τ κ => st967 _ κ) ?_
  refine Gl.st (g' := (mkF m 16 #[.val (.ref a), .val (.int (3 : Int32)), .unset] [(.ref a)])) (fun τ κ => XS.aloadN X967.here hx rfl (hb hby d1_15) rfl rfl κ) ?_
  obtain ⟨T980, h980, X980, e980, E980, A980, D980, -, st980⟩ := newO X967 hx hZ hown (hw _ (List.mem_of_getElem? (i := 32) rfl)) (hw _ (List.mem_of_getElem? (i := 33) rfl)) (hw _ (List.mem_of_getElem? (i := 34) rfl)) e967 (g := (mkF m 16 #[.val (.ref a), .val (.int (3 : Int32)), .unset] [(.ref a)])) rfl (hb hby d1_16) (by decide) (by decide)
  obtain ⟨b980, g980⟩ : ∃ z, z = h967.size := ⟨_, rfl⟩
  rw [← g980] at A980 D980 st980
  have ne_a_b980 : a ≠ b980 := Nat.ne_of_lt (Nat.lt_of_lt_of_le E_968.lt (Nat.le_of_eq g980.symm))
  have ne_de_b980 : de ≠ b980 := Nat.ne_of_lt (Nat.lt_of_lt_of_le V_970.lt (Nat.le_of_eq g980.symm))
  have ne_b944_b980 : b944 ≠ b980 := Nat.ne_of_lt (Nat.lt_of_lt_of_le E_975.lt (Nat.le_of_eq g980.symm))
  have E_981 := E_968.ext E980
  have S_982 := S_969.ext E980
  have V_983 := V_970.ext E980
  have F_984 := F_979.ext E980
  have F_985 := F_972.ext E980
  have F_986 := F_973.ext E980
  have F_987 := F_974.ext E980
  have E_988 := E_975.ext E980
  have F_989 := F_976.ext E980
  have F_990 := F_977.ext E980
  have F_991 := F_978.ext E980
  have g_b980 : n0 ≤ b980 := Nat.le_trans Z967 (Nat.le_of_eq g980.symm)
  have sz_b980 : h0.size ≤ b980 := Nat.le_trans K967.1 (Nat.le_of_eq g980.symm)
  have Z980 : n0 ≤ h980.size := Nat.le_trans Z967 E980.1
  have K980 : Keep h0 h980 [a] := K967.ext E980
  have F_992 : Fld Z h980 b980 "java/util/AbstractList" "modCount" "I" (.int (0 : Int32)) := D980 (Or.inl (hw _ (List.mem_of_getElem? (i := 52) rfl))) (ty := .int) (by decide)
  have F_993 : Fld Z h980 b980 "java/util/ArrayList" "elementData" "[Ljava/lang/Object;" .null := D980 (Or.inl (hw _ (List.mem_of_getElem? (i := 55) rfl))) (ty := (.array (.object "java/lang/Object"))) (by decide)
  have F_994 : Fld Z h980 b980 "java/util/ArrayList" "size" "I" (.int (0 : Int32)) := D980 (Or.inl (hw _ (List.mem_of_getElem? (i := 80) rfl))) (ty := .int) (by decide)
  refine Gl.st (g' := (mkF m 19 #[.val (.ref a), .val (.int (3 : Int32)), .unset] [(.ref b980), (.ref a)])) (fun τ κ => st980 _ κ) ?_
  refine Gl.st (g' := (mkF m 20 #[.val (.ref a), .val (.int (3 : Int32)), .unset] [(.ref b980), (.ref b980), (.ref a)])) (fun τ κ => XS.dup X980.here hx rfl (hb hby d1_19) rfl rfl κ) ?_
  obtain ⟨rv995, _, ⟨T995, L995, k995, n995⟩, -, X995, ⟨Lc995, hQ995, l995, y995, z995⟩, st995⟩ := X980.specialBack hx (y := (⟨"java/util/ArrayList", "<init>", "()V"⟩ : MethodName)) rfl hown (mvT hZ (hw _ (List.mem_of_getElem? (i := 35) rfl))) (mvT hZ (hw _ (List.mem_of_getElem? (i := 36) rfl))) (mvT hZ (hw _ (List.mem_of_getElem? (i := 37) rfl))) (by decide) (backOf (W := 2) (rm5 l Z a0 hw [] b980 de h980 n0 Z980 A980 g_b980 S_982 F_992 F_993 F_994) hZ (hw _ (List.mem_of_getElem? (i := 37) rfl)) (hw _ (List.mem_of_getElem? (i := 34) rfl)) (by decide) (by decide)) (g := (mkF m 20 #[.val (.ref a), .val (.int (3 : Int32)), .unset] [(.ref b980), (.ref b980), (.ref a)])) rfl (by rw [hml]; rfl) (Steps.refl _) (a := b980) (argsL := []) (rest := [(.ref b980), (.ref a)]) (lenOf pd_0 rfl) rfl (by show 2 * 0 + _ ≤ _; exact Nat.le_of_eq rfl) (hb hby d1_20) (fun _ _ => ⟨rfl, e980, (by decide : 2 + 0 ≤ _), (by decide : 12 + 0 ≤ _)⟩)
  dsimp only [Pt.U, Pt.locs, Pt.cells, Pt.slots] at X995 l995 y995 z995 st995 hQ995
  subst l995 y995 z995
  obtain ⟨rfl, N995q, Kc995, Ec995, FM995, FE995, FS995⟩ := hQ995
  have E_996 := E_981.keep Kc995
  have S_997 := Sta.keepX S_982 Kc995 (allS (P := fun x => ∃ c : Cell, h980[x]? = some c ∧ ∀ q, c.vm ≠ .statics q) A980.cell all0)
  have V_998 := V_983.keep Kc995 (ninS ne_de_b980 nin0)
  have F_999 := F_984.keep Kc995 (ninS ne_a_b980 nin0)
  have F_1000 := F_985.keep Kc995 (ninS ne_a_b980 nin0)
  have F_1001 := F_986.keep Kc995 (ninS ne_a_b980 nin0)
  have F_1002 := F_987.keep Kc995 (ninS ne_a_b980 nin0)
  have E_1003 := E_988.keep Kc995
  have F_1004 := F_989.keep Kc995 (ninS ne_b944_b980 nin0)
  have F_1005 := F_990.keep Kc995 (ninS ne_b944_b980 nin0)
  have F_1006 := F_991.keep Kc995 (ninS ne_b944_b980 nin0)
  have E_1007 := A980.keep Kc995
  have N995 := Fr.app N967 N995q
  have Z995 : n0 ≤ T995.heap.size := Nat.le_trans Z980 Kc995.1
  have K995 : Keep h0 T995.heap [a] := K980.trans Kc995 (allS (Or.inr sz_b980) all0)
  refine Gl.st (g' := (mkF m 23 #[.val (.ref a), .val (.int (3 : Int32)), .unset] [(.ref b980), (.ref a)])) (fun τ κ => st995.trans κ) ?_
  obtain ⟨T1011, h1011, X1011, e1011, W1011, st1011⟩ := putF X995 hx hZ hown (host := "") (Or.inl (hw _ (List.mem_of_getElem? (i := 56) rfl))) Via.refl rfl F_1000 E_996 (Or.inr ⟨(hw _ (List.mem_of_getElem? (i := 57) rfl)), rfl, hnm⟩) (hw _ (List.mem_of_getElem? (i := 3) rfl)) (ty := (.object "java/util/List")) (by decide) rfl rfl (g := (mkF m 23 #[.val (.ref a), .val (.int (3 : Int32)), .unset] [(.ref b980), (.ref a)])) rfl rfl (hb hby d1_23)
  have E_1012 := E_996.wr W1011
  have S_1013 := S_997.wr W1011
  have V_1014 := V_998.other W1011 (Ne.symm hde)
  have F_1015 := F_999.other W1011 (Or.inr (slot_ne (Or.inr (hw _ (List.mem_of_getElem? (i := 31) rfl))) (Or.inr (hw _ (List.mem_of_getElem? (i := 57) rfl))) (by decide) (t := (.object "java/util/TreeMap")) (t' := (.object "java/util/List")) (by decide) (by decide)))
  have F_1017 := F_1001.other W1011 (Or.inr (slot_ne (Or.inr (hw _ (List.mem_of_getElem? (i := 59) rfl))) (Or.inr (hw _ (List.mem_of_getElem? (i := 57) rfl))) (by decide) (t := (.object "java/util/List")) (t' := (.object "java/util/List")) (by decide) (by decide)))
  have F_1018 := F_1002.other W1011 (Or.inr (slot_ne (Or.inr (hw _ (List.mem_of_getElem? (i := 62) rfl))) (Or.inr (hw _ (List.mem_of_getElem? (i := 57) rfl))) (by decide) (t := (.array .long)) (t' := (.object "java/util/List")) (by decide) (by decide)))
  have E_1019 := E_1003.wr W1011
  have F_1020 := F_1004.other W1011 (Or.inl (Ne.symm ne_a_b944))
  have F_1021 := F_1005.other W1011 (Or.inl (Ne.symm ne_a_b944))
  have F_1022 := F_1006.other W1011 (Or.inl (Ne.symm ne_a_b944))
  have E_1023 := Ec995.wr W1011
  have F_1024 := FM995.other W1011 (Or.inl (Ne.symm ne_a_b980))
  have F_1025 := FE995.other W1011 (Or.inl (Ne.symm ne_a_b980))
  have F_1026 := FS995.other W1011 (Or.inl (Ne.symm ne_a_b980))
  have N1011 := Fr.snoc X1011 N995 g0
  have Z1011 : n0 ≤ h1011.size := Nat.le_trans Z995 (Nat.le_of_eq W1011.size.symm)
  have K1011 : Keep h0 h1011 [a] := K995.wr W1011 (Or.inl (List.mem_of_getElem? (i := 0) rfl))
  have F_1027 := F_1000.same W1011
  refine Gl.st (g' := (mkF m 26 #[.val (.ref a), .val (.int (3 : Int32)), .unset] [])) (fun τ κ => st1011 _ κ) ?_
  refine Gl.st (g' := (mkF m 27 #[.val (.ref a), .val (.int (3 : Int32)), .unset] [(.ref a)])) (fun τ κ => XS.aloadN X1011.here hx rfl (hb hby d1_26) rfl rfl κ) ?_
  obtain ⟨T1028, h1028, X1028, e1028, E1028, A1028, D1028, -, st1028⟩ := newO X1011 hx hZ hown (hw _ (List.mem_of_getElem? (i := 32) rfl)) (hw _ (List.mem_of_getElem? (i := 33) rfl)) (hw _ (List.mem_of_getElem? (i := 34) rfl)) e1011 (g := (mkF m 27 #[.val (.ref a), .val (.int (3 : Int32)), .unset] [(.ref a)])) rfl (hb hby d1_27) (by decide) (by decide)
  obtain ⟨b1028, g1028⟩ : ∃ z, z = h1011.size := ⟨_, rfl⟩
  rw [← g1028] at A1028 D1028 st1028
  have ne_a_b1028 : a ≠ b1028 := Nat.ne_of_lt (Nat.lt_of_lt_of_le E_1012.lt (Nat.le_of_eq g1028.symm))
  have ne_de_b1028 : de ≠ b1028 := Nat.ne_of_lt (Nat.lt_of_lt_of_le V_1014.lt (Nat.le_of_eq g1028.symm))
  have ne_b944_b1028 : b944 ≠ b1028 := Nat.ne_of_lt (Nat.lt_of_lt_of_le E_1019.lt (Nat.le_of_eq g1028.symm))
  have ne_b980_b1028 : b980 ≠ b1028 := Nat.ne_of_lt (Nat.lt_of_lt_of_le E_1023.lt (Nat.le_of_eq g1028.symm))
  have E_1029 := E_1012.ext E1028
  have S_1030 := S_1013.ext E1028
  have V_1031 := V_1014.ext E1028
  have F_1032 := F_1015.ext E1028
  have F_1033 := F_1027.ext E1028
  have F_1034 := F_1017.ext E1028
  have F_1035 := F_1018.ext E1028
  have E_1036 := E_1019.ext E1028
  have F_1037 := F_1020.ext E1028
  have F_1038 := F_1021.ext E1028
  have F_1039 := F_1022.ext E1028
  have E_1040 := E_1023.ext E1028
  have F_1041 := F_1024.ext E1028
  have F_1042 := F_1025.ext E1028
  have F_1043 := F_1026.ext E1028
  have g_b1028 : n0 ≤ b1028 := Nat.le_trans Z1011 (Nat.le_of_eq g1028.symm)
  have sz_b1028 : h0.size ≤ b1028 := Nat.le_trans K1011.1 (Nat.le_of_eq g1028.symm)
  have Z1028 : n0 ≤ h1028.size := Nat.le_trans Z1011 E1028.1
  have K1028 : Keep h0 h1028 [a] := K1011.ext E1028
  have F_1044 : Fld Z h1028 b1028 "java/util/AbstractList" "modCount" "I" (.int (0 : Int32)) := D1028 (Or.inl (hw _ (List.mem_of_getElem? (i := 52) rfl))) (ty := .int) (by decide)
  have F_1045 : Fld Z h1028 b1028 "java/util/ArrayList" "elementData" "[Ljava/lang/Object;" .null := D1028 (Or.inl (hw _ (List.mem_of_getElem? (i := 55) rfl))) (ty := (.array (.object "java/lang/Object"))) (by decide)
  have F_1046 : Fld Z h1028 b1028 "java/util/ArrayList" "size" "I" (.int (0 : Int32)) := D1028 (Or.inl (hw _ (List.mem_of_getElem? (i := 80) rfl))) (ty := .int) (by decide)
  refine Gl.st (g' := (mkF m 30 #[.val (.ref a), .val (.int (3 : Int32)), .unset] [(.ref b1028), (.ref a)])) (fun τ κ => st1028 _ κ) ?_
  refine Gl.st (g' := (mkF m 31 #[.val (.ref a), .val (.int (3 : Int32)), .unset] [(.ref b1028), (.ref b1028), (.ref a)])) (fun τ κ => XS.dup X1028.here hx rfl (hb hby d1_30) rfl rfl κ) ?_
  obtain ⟨rv1047, _, ⟨T1047, L1047, k1047, n1047⟩, -, X1047, ⟨Lc1047, hQ1047, l1047, y1047, z1047⟩, st1047⟩ := X1028.specialBack hx (y := (⟨"java/util/ArrayList", "<init>", "()V"⟩ : MethodName)) rfl hown (mvT hZ (hw _ (List.mem_of_getElem? (i := 35) rfl))) (mvT hZ (hw _ (List.mem_of_getElem? (i := 36) rfl))) (mvT hZ (hw _ (List.mem_of_getElem? (i := 37) rfl))) (by decide) (backOf (W := 2) (rm5 l Z a0 hw [] b1028 de h1028 n0 Z1028 A1028 g_b1028 S_1030 F_1044 F_1045 F_1046) hZ (hw _ (List.mem_of_getElem? (i := 37) rfl)) (hw _ (List.mem_of_getElem? (i := 34) rfl)) (by decide) (by decide)) (g := (mkF m 31 #[.val (.ref a), .val (.int (3 : Int32)), .unset] [(.ref b1028), (.ref b1028), (.ref a)])) rfl (by rw [hml]; rfl) (Steps.refl _) (a := b1028) (argsL := []) (rest := [(.ref b1028), (.ref a)]) (lenOf pd_0 rfl) rfl (by show 2 * 0 + _ ≤ _; exact Nat.le_of_eq rfl) (hb hby d1_31) (fun _ _ => ⟨rfl, e1028, (by decide : 3 + 0 ≤ _), (by decide : 15 + 0 ≤ _)⟩)
  dsimp only [Pt.U, Pt.locs, Pt.cells, Pt.slots] at X1047 l1047 y1047 z1047 st1047 hQ1047
  subst l1047 y1047 z1047
  obtain ⟨rfl, N1047q, Kc1047, Ec1047, FM1047, FE1047, FS1047⟩ := hQ1047
  have E_1048 := E_1029.keep Kc1047
  have S_1049 := Sta.keepX S_1030 Kc1047 (allS (P := fun x => ∃ c : Cell, h1028[x]? = some c ∧ ∀ q, c.vm ≠ .statics q) A1028.cell all0)
  have V_1050 := V_1031.keep Kc1047 (ninS ne_de_b1028 nin0)
  have F_1051 := F_1032.keep Kc1047 (ninS ne_a_b1028 nin0)
  have F_1052 := F_1033.keep Kc1047 (ninS ne_a_b1028 nin0)
  have F_1053 := F_1034.keep Kc1047 (ninS ne_a_b1028 nin0)
  have F_1054 := F_1035.keep Kc1047 (ninS ne_a_b1028 nin0)
  have E_1055 := E_1036.keep Kc1047
  have F_1056 := F_1037.keep Kc1047 (ninS ne_b944_b1028 nin0)
  have F_1057 := F_1038.keep Kc1047 (ninS ne_b944_b1028 nin0)
  have F_1058 := F_1039.keep Kc1047 (ninS ne_b944_b1028 nin0)
  have E_1059 := E_1040.keep Kc1047
  have F_1060 := F_1041.keep Kc1047 (ninS ne_b980_b1028 nin0)
  have F_1061 := F_1042.keep Kc1047 (ninS ne_b980_b1028 nin0)
  have F_1062 := F_1043.keep Kc1047 (ninS ne_b980_b1028 nin0)
  have E_1063 := A1028.keep Kc1047
  have N1047 := Fr.app N1011 N1047q
  have Z1047 : n0 ≤ T1047.heap.size := Nat.le_trans Z1028 Kc1047.1
  have K1047 : Keep h0 T1047.heap [a] := K1028.trans Kc1047 (allS (Or.inr sz_b1028) all0)
  refine Gl.st (g' := (mkF m 34 #[.val (.ref a), .val (.int (3 : Int32)), .unset] [(.ref b1028), (.ref a)])) (fun τ κ => st1047.trans κ) ?_
  obtain ⟨T1067, h1067, X1067, e1067, W1067, st1067⟩ := putF X1047 hx hZ hown (host := "") (Or.inl (hw _ (List.mem_of_getElem? (i := 58) rfl))) Via.refl rfl F_1053 E_1048 (Or.inr ⟨(hw _ (List.mem_of_getElem? (i := 59) rfl)), rfl, hnm⟩) (hw _ (List.mem_of_getElem? (i := 3) rfl)) (ty := (.object "java/util/List")) (by decide) rfl rfl (g := (mkF m 34 #[.val (.ref a), .val (.int (3 : Int32)), .unset] [(.ref b1028), (.ref a)])) rfl rfl (hb hby d1_34)
  have E_1068 := E_1048.wr W1067
  have S_1069 := S_1049.wr W1067
  have V_1070 := V_1050.other W1067 (Ne.symm hde)
  have F_1071 := F_1051.other W1067 (Or.inr (slot_ne (Or.inr (hw _ (List.mem_of_getElem? (i := 31) rfl))) (Or.inr (hw _ (List.mem_of_getElem? (i := 59) rfl))) (by decide) (t := (.object "java/util/TreeMap")) (t' := (.object "java/util/List")) (by decide) (by decide)))
  have F_1072 := F_1052.other W1067 (Or.inr (slot_ne (Or.inr (hw _ (List.mem_of_getElem? (i := 57) rfl))) (Or.inr (hw _ (List.mem_of_getElem? (i := 59) rfl))) (by decide) (t := (.object "java/util/List")) (t' := (.object "java/util/List")) (by decide) (by decide)))
  have F_1074 := F_1054.other W1067 (Or.inr (slot_ne (Or.inr (hw _ (List.mem_of_getElem? (i := 62) rfl))) (Or.inr (hw _ (List.mem_of_getElem? (i := 59) rfl))) (by decide) (t := (.array .long)) (t' := (.object "java/util/List")) (by decide) (by decide)))
  have E_1075 := E_1055.wr W1067
  have F_1076 := F_1056.other W1067 (Or.inl (Ne.symm ne_a_b944))
  have F_1077 := F_1057.other W1067 (Or.inl (Ne.symm ne_a_b944))
  have F_1078 := F_1058.other W1067 (Or.inl (Ne.symm ne_a_b944))
  have E_1079 := E_1059.wr W1067
  have F_1080 := F_1060.other W1067 (Or.inl (Ne.symm ne_a_b980))
  have F_1081 := F_1061.other W1067 (Or.inl (Ne.symm ne_a_b980))
  have F_1082 := F_1062.other W1067 (Or.inl (Ne.symm ne_a_b980))
  have E_1083 := Ec1047.wr W1067
  have F_1084 := FM1047.other W1067 (Or.inl (Ne.symm ne_a_b1028))
  have F_1085 := FE1047.other W1067 (Or.inl (Ne.symm ne_a_b1028))
  have F_1086 := FS1047.other W1067 (Or.inl (Ne.symm ne_a_b1028))
  have N1067 := Fr.snoc X1067 N1047 g0
  have Z1067 : n0 ≤ h1067.size := Nat.le_trans Z1047 (Nat.le_of_eq W1067.size.symm)
  have K1067 : Keep h0 h1067 [a] := K1047.wr W1067 (Or.inl (List.mem_of_getElem? (i := 0) rfl))
  have F_1087 := F_1053.same W1067
  refine Gl.st (g' := (mkF m 37 #[.val (.ref a), .val (.int (3 : Int32)), .unset] [])) (fun τ κ => st1067 _ κ) ?_
  refine Gl.st (g' := (mkF m 38 #[.val (.ref a), .val (.int (3 : Int32)), .unset] [(.ref a)])) (fun τ κ => XS.aloadN X1067.here hx rfl (hb hby d1_37) rfl rfl κ) ?_
  refine Gl.st (g' := (mkF m 39 #[.val (.ref a), .val (.int (3 : Int32)), .unset] [(.int (3 : Int32)), (.ref a)])) (fun τ κ => XS.iloadN X1067.here hx rfl (hb hby d1_38) rfl κ) ?_
  obtain ⟨T1088, h1088, k1088, X1088, e1088, E1088, A1088, st1088⟩ := newP X1067 hx hZ (hw _ (List.mem_of_getElem? (i := 60) rfl)) e1067 (g := (mkF m 39 #[.val (.ref a), .val (.int (3 : Int32)), .unset] [(.int (3 : Int32)), (.ref a)])) rfl (hb hby d1_39) rfl (by decide) (cap := 3) (by decide) (by decide) (by decide) (by decide)
  obtain ⟨b1088, g1088⟩ : ∃ z, z = h1067.size := ⟨_, rfl⟩
  rw [← g1088] at A1088 st1088
  have ne_a_b1088 : a ≠ b1088 := Nat.ne_of_lt (Nat.lt_of_lt_of_le E_1068.lt (Nat.le_of_eq g1088.symm))
  have ne_de_b1088 : de ≠ b1088 := Nat.ne_of_lt (Nat.lt_of_lt_of_le V_1070.lt (Nat.le_of_eq g1088.symm))
  have ne_b944_b1088 : b944 ≠ b1088 := Nat.ne_of_lt (Nat.lt_of_lt_of_le E_1075.lt (Nat.le_of_eq g1088.symm))
  have ne_b980_b1088 : b980 ≠ b1088 := Nat.ne_of_lt (Nat.lt_of_lt_of_le E_1079.lt (Nat.le_of_eq g1088.symm))
  have ne_b1028_b1088 : b1028 ≠ b1088 := Nat.ne_of_lt (Nat.lt_of_lt_of_le E_1083.lt (Nat.le_of_eq g1088.symm))
  have E_1089 := E_1068.ext E1088
  have S_1090 := S_1069.ext E1088
  have V_1091 := V_1070.ext E1088
  have F_1092 := F_1071.ext E1088
  have F_1093 := F_1072.ext E1088
  have F_1094 := F_1087.ext E1088
  have F_1095 := F_1074.ext E1088
  have E_1096 := E_1075.ext E1088
  have F_1097 := F_1076.ext E1088
  have F_1098 := F_1077.ext E1088
  have F_1099 := F_1078.ext E1088
  have E_1100 := E_1079.ext E1088
  have F_1101 := F_1080.ext E1088
  have F_1102 := F_1081.ext E1088
  have F_1103 := F_1082.ext E1088
  have E_1104 := E_1083.ext E1088
  have F_1105 := F_1084.ext E1088
  have F_1106 := F_1085.ext E1088
  have F_1107 := F_1086.ext E1088
  have g_b1088 : n0 ≤ b1088 := Nat.le_trans Z1067 (Nat.le_of_eq g1088.symm)
  have sz_b1088 : h0.size ≤ b1088 := Nat.le_trans K1067.1 (Nat.le_of_eq g1088.symm)
  have Z1088 : n0 ≤ h1088.size := Nat.le_trans Z1067 E1088.1
  have K1088 : Keep h0 h1088 [a] := K1067.ext E1088
  have V_b1088 : Arv Z h1088 b1088 k1088 .long (3 : Int32) [(.long (0 : Int64)), (.long (0 : Int64)), (.long (0 : Int64))] (.long (0 : Int64)) := (Arv.new A1088 (by decide)).pad (pad_rep [] (.long (0 : Int64)) 3)
  refine Gl.st (g' := (mkF m 41 #[.val (.ref a), .val (.int (3 : Int32)), .unset] [(.ref b1088), (.ref a)])) (fun τ κ => st1088 _ κ) ?_
  obtain ⟨T1108, h1108, X1108, e1108, W1108, st1108⟩ := putF X1088 hx hZ hown (host := "") (Or.inl (hw _ (List.mem_of_getElem? (i := 61) rfl))) Via.refl e1088 F_1095 E_1089 (Or.inr ⟨(hw _ (List.mem_of_getElem? (i := 62) rfl)), rfl, hnm⟩) (hw _ (List.mem_of_getElem? (i := 3) rfl)) (ty := (.array .long)) (by decide) rfl rfl (g := (mkF m 41 #[.val (.ref a), .val (.int (3 : Int32)), .unset] [(.ref b1088), (.ref a)])) rfl rfl (hb hby d1_41)
  have E_1109 := E_1089.wr W1108
  have S_1110 := S_1090.wr W1108
  have V_1111 := V_1091.other W1108 (Ne.symm hde)
  have F_1112 := F_1092.other W1108 (Or.inr (slot_ne (Or.inr (hw _ (List.mem_of_getElem? (i := 31) rfl))) (Or.inr (hw _ (List.mem_of_getElem? (i := 62) rfl))) (by decide) (t := (.object "java/util/TreeMap")) (t' := (.array .long)) (by decide) (by decide)))
  have F_1113 := F_1093.other W1108 (Or.inr (slot_ne (Or.inr (hw _ (List.mem_of_getElem? (i := 57) rfl))) (Or.inr (hw _ (List.mem_of_getElem? (i := 62) rfl))) (by decide) (t := (.object "java/util/List")) (t' := (.array .long)) (by decide) (by decide)))
  have F_1114 := F_1094.other W1108 (Or.inr (slot_ne (Or.inr (hw _ (List.mem_of_getElem? (i := 59) rfl))) (Or.inr (hw _ (List.mem_of_getElem? (i := 62) rfl))) (by decide) (t := (.object "java/util/List")) (t' := (.array .long)) (by decide) (by decide)))
  have E_1116 := E_1096.wr W1108
  have F_1117 := F_1097.other W1108 (Or.inl (Ne.symm ne_a_b944))
  have F_1118 := F_1098.other W1108 (Or.inl (Ne.symm ne_a_b944))
  have F_1119 := F_1099.other W1108 (Or.inl (Ne.symm ne_a_b944))
  have E_1120 := E_1100.wr W1108
  have F_1121 := F_1101.other W1108 (Or.inl (Ne.symm ne_a_b980))
  have F_1122 := F_1102.other W1108 (Or.inl (Ne.symm ne_a_b980))
  have F_1123 := F_1103.other W1108 (Or.inl (Ne.symm ne_a_b980))
  have E_1124 := E_1104.wr W1108
  have F_1125 := F_1105.other W1108 (Or.inl (Ne.symm ne_a_b1028))
  have F_1126 := F_1106.other W1108 (Or.inl (Ne.symm ne_a_b1028))
  have F_1127 := F_1107.other W1108 (Or.inl (Ne.symm ne_a_b1028))
  have V_1128 := V_b1088.other W1108 (Ne.symm ne_a_b1088)
  have N1108 := Fr.snoc X1108 N1067 g0
  have Z1108 : n0 ≤ h1108.size := Nat.le_trans Z1088 (Nat.le_of_eq W1108.size.symm)
  have K1108 : Keep h0 h1108 [a] := K1088.wr W1108 (Or.inl (List.mem_of_getElem? (i := 0) rfl))
  have F_1129 := F_1095.same W1108
  refine Gl.st (g' := (mkF m 44 #[.val (.ref a), .val (.int (3 : Int32)), .unset] [])) (fun τ κ => st1108 _ κ) ?_
  refine Gl.st (g' := (mkF m 45 #[.val (.ref a), .val (.int (3 : Int32)), .unset] [(.ref a)])) (fun τ κ => XS.aloadN X1108.here hx rfl (hb hby d1_44) rfl rfl κ) ?_
  obtain ⟨T1130, X1130, e1130, st1130⟩ := getF X1108 hx hZ hown (host := "") (Or.inl (hw _ (List.mem_of_getElem? (i := 61) rfl))) Via.refl e1108 F_1129 (g := (mkF m 45 #[.val (.ref a), .val (.int (3 : Int32)), .unset] [(.ref a)])) rfl rfl (hb hby d1_45)
  refine Gl.st (g' := (mkF m 48 #[.val (.ref a), .val (.int (3 : Int32)), .unset] [(.ref b1088)])) (fun τ κ => st1130 _ κ) ?_
  refine Gl.st (g' := (mkF m 51 #[.val (.ref a), .val (.int (3 : Int32)), .unset] [(.long (-1 : Int64)), (.ref b1088)])) (fun τ κ => X1130.ldc2Long hx hown (mvT hZ (hw _ (List.mem_of_getElem? (i := 63) rfl))) (g := (mkF m 48 #[.val (.ref a), .val (.int (3 : Int32)), .unset] [(.ref b1088)])) rfl (hb hby d1_48) _ κ) ?_
  obtain ⟨rv1131, _, ⟨T1131, L1131, k1131, n1131⟩, -, X1131, ⟨Lc1131, hQ1131, l1131, y1131, z1131⟩, st1131⟩ := Jvm.LawKit.callS X1130 hx (y := (⟨"java/util/Arrays", "fill", "([JJ)V"⟩ : MethodName)) hown (mvT hZ (hw _ (List.mem_of_getElem? (i := 64) rfl))) (mvT hZ (hw _ (List.mem_of_getElem? (i := 65) rfl))) (mvT hZ (hw _ (List.mem_of_getElem? (i := 66) rfl))) (mvT hZ (hw _ (List.mem_of_getElem? (i := 67) rfl))) (by decide) (backOf (W := 0) (rm_fill3 l Z a0 hw [] b1088 (-1 : Int64) k1088 h1108 n0 Z1108 V_1128 g_b1088) hZ (hw _ (List.mem_of_getElem? (i := 67) rfl)) (hw _ (List.mem_of_getElem? (i := 66) rfl)) (by decide) (by decide)) (g := (mkF m 51 #[.val (.ref a), .val (.int (3 : Int32)), .unset] [(.long (-1 : Int64)), (.ref b1088)])) rfl (by rw [hml]; rfl) (argsL := [(.ref b1088), (.long (-1 : Int64))]) (rest := []) (lenOf pd_5 rfl) rfl (by show 2 * 0 + _ ≤ _; exact Nat.le_of_eq rfl) (hb hby d1_51) (fun _ _ => ⟨rfl, e1130, (by decide : 4 + 0 ≤ _), (by decide : 18 + 0 ≤ _)⟩)
  dsimp only [Pt.U, Pt.locs, Pt.cells, Pt.slots] at X1131 l1131 y1131 z1131 st1131 hQ1131
  subst l1131 y1131 z1131
  obtain ⟨rfl, N1131q, Kc1131, V1131⟩ := hQ1131
  have E_1132 := E_1109.keep Kc1131
  have S_1133 := Sta.keepX S_1110 Kc1131 (allS (P := fun x => ∃ c : Cell, h1108[x]? = some c ∧ ∀ q, c.vm ≠ .statics q) (Arv.cellX V_1128) all0)
  have V_1134 := V_1111.keep Kc1131 (ninS ne_de_b1088 nin0)
  have F_1135 := F_1112.keep Kc1131 (ninS ne_a_b1088 nin0)
  have F_1136 := F_1113.keep Kc1131 (ninS ne_a_b1088 nin0)
  have F_1137 := F_1114.keep Kc1131 (ninS ne_a_b1088 nin0)
  have F_1138 := F_1129.keep Kc1131 (ninS ne_a_b1088 nin0)
  have E_1139 := E_1116.keep Kc1131
  have F_1140 := F_1117.keep Kc1131 (ninS ne_b944_b1088 nin0)
  have F_1141 := F_1118.keep Kc1131 (ninS ne_b944_b1088 nin0)
  have F_1142 := F_1119.keep Kc1131 (ninS ne_b944_b1088 nin0)
  have E_1143 := E_1120.keep Kc1131
  have F_1144 := F_1121.keep Kc1131 (ninS ne_b980_b1088 nin0)
  have F_1145 := F_1122.keep Kc1131 (ninS ne_b980_b1088 nin0)
  have F_1146 := F_1123.keep Kc1131 (ninS ne_b980_b1088 nin0)
  have E_1147 := E_1124.keep Kc1131
  have F_1148 := F_1125.keep Kc1131 (ninS ne_b1028_b1088 nin0)
  have F_1149 := F_1126.keep Kc1131 (ninS ne_b1028_b1088 nin0)
  have F_1150 := F_1127.keep Kc1131 (ninS ne_b1028_b1088 nin0)
  have N1131 := Fr.app N1108 N1131q
  have Z1131 : n0 ≤ T1131.heap.size := Nat.le_trans Z1108 Kc1131.1
  have K1131 : Keep h0 T1131.heap [a] := K1108.trans Kc1131 (allS (Or.inr sz_b1088) all0)
  refine Gl.st (g' := (mkF m 54 #[.val (.ref a), .val (.int (3 : Int32)), .unset] [])) (fun τ κ => st1131 _ κ) ?_
  refine Gl.st (g' := (mkF m 55 #[.val (.ref a), .val (.int (3 : Int32)), .unset] [(.int (0 : Int32))])) (fun τ κ => XS.iconst X1131.here hx rfl (hb hby d1_54) κ) ?_
  refine Gl.st (g' := (mkF m 56 #[.val (.ref a), .val (.int (3 : Int32)), .val (.int (0 : Int32))] [])) (fun τ κ => XS.istoreN X1131.here hx rfl (hb hby d1_55) rfl (l' := #[.val (.ref a), .val (.int (3 : Int32)), .val (.int (0 : Int32))]) rfl κ) ?_
  refine Gl.st (g' := (mkF m 57 #[.val (.ref a), .val (.int (3 : Int32)), .val (.int (0 : Int32))] [(.int (0 : Int32))])) (fun τ κ => XS.iloadN X1131.here hx rfl (hb hby d1_56) rfl κ) ?_
  refine Gl.st (g' := (mkF m 58 #[.val (.ref a), .val (.int (3 : Int32)), .val (.int (0 : Int32))] [(.int (3 : Int32)), (.int (0 : Int32))])) (fun τ κ => XS.iloadN X1131.here hx rfl (hb hby d1_57) rfl κ) ?_
  have hc1152 : (0 : Int32) < (3 : Int32) := by decide
  refine Gl.st (g' := (mkF m 61 #[.val (.ref a), .val (.int (3 : Int32)), .val (.int (0 : Int32))] [])) (fun τ κ => XS.icmpNo X1131.here hx rfl (hb hby d1_58) rfl (tlt hc1152).2.1 κ) ?_
  refine Gl.st (g' := (mkF m 62 #[.val (.ref a), .val (.int (3 : Int32)), .val (.int (0 : Int32))] [(.ref a)])) (fun τ κ => XS.aloadN X1131.here hx rfl (hb hby d1_61) rfl rfl κ) ?_
  obtain ⟨T1153, X1153, e1153, st1153⟩ := getF X1131 hx hZ hown (host := "") (Or.inl (hw _ (List.mem_of_getElem? (i := 56) rfl))) Via.refl rfl F_1136 (g := (mkF m 62 #[.val (.ref a), .val (.int (3 : Int32)), .val (.int (0 : Int32))] [(.ref a)])) rfl rfl (hb hby d1_62)
  refine Gl.st (g' := (mkF m 65 #[.val (.ref a), .val (.int (3 : Int32)), .val (.int (0 : Int32))] [(.ref b980)])) (fun τ κ => st1153 _ κ) ?_
  obtain ⟨T1154, h1154, X1154, e1154, E1154, A1154, D1154, -, st1154⟩ := newO X1153 hx hZ hown (hw _ (List.mem_of_getElem? (i := 32) rfl)) (hw _ (List.mem_of_getElem? (i := 33) rfl)) (hw _ (List.mem_of_getElem? (i := 34) rfl)) e1153 (g := (mkF m 65 #[.val (.ref a), .val (.int (3 : Int32)), .val (.int (0 : Int32))] [(.ref b980)])) rfl (hb hby d1_65) (by decide) (by decide)
  obtain ⟨b1154, g1154⟩ : ∃ z, z = T1131.heap.size := ⟨_, rfl⟩
  rw [← g1154] at A1154 D1154 st1154
  have ne_a_b1154 : a ≠ b1154 := Nat.ne_of_lt (Nat.lt_of_lt_of_le E_1132.lt (Nat.le_of_eq g1154.symm))
  have ne_de_b1154 : de ≠ b1154 := Nat.ne_of_lt (Nat.lt_of_lt_of_le V_1134.lt (Nat.le_of_eq g1154.symm))
  have ne_b944_b1154 : b944 ≠ b1154 := Nat.ne_of_lt (Nat.lt_of_lt_of_le E_1139.lt (Nat.le_of_eq g1154.symm))
  have ne_b980_b1154 : b980 ≠ b1154 := Nat.ne_of_lt (Nat.lt_of_lt_of_le E_1143.lt (Nat.le_of_eq g1154.symm))
  have ne_b1028_b1154 : b1028 ≠ b1154 := Nat.ne_of_lt (Nat.lt_of_lt_of_le E_1147.lt (Nat.le_of_eq g1154.symm))
  have ne_b1088_b1154 : b1088 ≠ b1154 := Nat.ne_of_lt (Nat.lt_of_lt_of_le V1131.lt (Nat.le_of_eq g1154.symm))
  have E_1155 := E_1132.ext E1154
  have S_1156 := S_1133.ext E1154
  have V_1157 := V_1134.ext E1154
  have F_1158 := F_1135.ext E1154
  have F_1159 := F_1136.ext E1154
  have F_1160 := F_1137.ext E1154
  have F_1161 := F_1138.ext E1154
  have E_1162 := E_1139.ext E1154
  have F_1163 := F_1140.ext E1154
  have F_1164 := F_1141.ext E1154
  have F_1165 := F_1142.ext E1154
  have E_1166 := E_1143.ext E1154
  have F_1167 := F_1144.ext E1154
  have F_1168 := F_1145.ext E1154
  have F_1169 := F_1146.ext E1154
  have E_1170 := E_1147.ext E1154
  have F_1171 := F_1148.ext E1154
  have F_1172 := F_1149.ext E1154
  have F_1173 := F_1150.ext E1154
  have V_1174 := V1131.ext E1154
  have g_b1154 : n0 ≤ b1154 := Nat.le_trans Z1131 (Nat.le_of_eq g1154.symm)
  have sz_b1154 : h0.size ≤ b1154 := Nat.le_trans K1131.1 (Nat.le_of_eq g1154.symm)
  have Z1154 : n0 ≤ h1154.size := Nat.le_trans Z1131 E1154.1
  have K1154 : Keep h0 h1154 [a] := K1131.ext E1154
  have F_1175 : Fld Z h1154 b1154 "java/util/AbstractList" "modCount" "I" (.int (0 : Int32)) := D1154 (Or.inl (hw _ (List.mem_of_getElem? (i := 52) rfl))) (ty := .int) (by decide)
  have F_1176 : Fld Z h1154 b1154 "java/util/ArrayList" "elementData" "[Ljava/lang/Object;" .null := D1154 (Or.inl (hw _ (List.mem_of_getElem? (i := 55) rfl))) (ty := (.array (.object "java/lang/Object"))) (by decide)
  have F_1177 : Fld Z h1154 b1154 "java/util/ArrayList" "size" "I" (.int (0 : Int32)) := D1154 (Or.inl (hw _ (List.mem_of_getElem? (i := 80) rfl))) (ty := .int) (by decide)
  refine Gl.st (g' := (mkF m 68 #[.val (.ref a), .val (.int (3 : Int32)), .val (.int (0 : Int32))] [(.ref b1154), (.ref b980)])) (fun τ κ => st1154 _ κ) ?_
  refine Gl.st (g' := (mkF m 69 #[.val (.ref a), .val (.int (3 : Int32)), .val (.int (0 : Int32))] [(.ref b1154), (.ref b1154), (.ref b980)])) (fun τ κ => XS.dup X1154.here hx rfl (hb hby d1_68) rfl rfl κ) ?_
  obtain ⟨rv1178, _, ⟨T1178, L1178, k1178, n1178⟩, -, X1178, ⟨Lc1178, hQ1178, l1178, y1178, z1178⟩, st1178⟩ := X1154.specialBack hx (y := (⟨"java/util/ArrayList", "<init>", "()V"⟩ : MethodName)) rfl hown (mvT hZ (hw _ (List.mem_of_getElem? (i := 35) rfl))) (mvT hZ (hw _ (List.mem_of_getElem? (i := 36) rfl))) (mvT hZ (hw _ (List.mem_of_getElem? (i := 37) rfl))) (by decide) (backOf (W := 2) (rm5 l Z a0 hw [] b1154 de h1154 n0 Z1154 A1154 g_b1154 S_1156 F_1175 F_1176 F_1177) hZ (hw _ (List.mem_of_getElem? (i := 37) rfl)) (hw _ (List.mem_of_getElem? (i := 34) rfl)) (by decide) (by decide)) (g := (mkF m 69 #[.val (.ref a), .val (.int (3 : Int32)), .val (.int (0 : Int32))] [(.ref b1154), (.ref b1154), (.ref b980)])) rfl (by rw [hml]; rfl) (Steps.refl _) (a := b1154) (argsL := []) (rest := [(.ref b1154), (.ref b980)]) (lenOf pd_0 rfl) rfl (by show 2 * 0 + _ ≤ _; exact Nat.le_of_eq rfl) (hb hby d1_69) (fun _ _ => ⟨rfl, e1154, (by decide : 5 + 0 ≤ _), (by decide : 21 + 0 ≤ _)⟩)
  dsimp only [Pt.U, Pt.locs, Pt.cells, Pt.slots] at X1178 l1178 y1178 z1178 st1178 hQ1178
  subst l1178 y1178 z1178
  obtain ⟨rfl, N1178q, Kc1178, Ec1178, FM1178, FE1178, FS1178⟩ := hQ1178
  have E_1179 := E_1155.keep Kc1178
  have S_1180 := Sta.keepX S_1156 Kc1178 (allS (P := fun x => ∃ c : Cell, h1154[x]? = some c ∧ ∀ q, c.vm ≠ .statics q) A1154.cell all0)
  have V_1181 := V_1157.keep Kc1178 (ninS ne_de_b1154 nin0)
  have F_1182 := F_1158.keep Kc1178 (ninS ne_a_b1154 nin0)
  have F_1183 := F_1159.keep Kc1178 (ninS ne_a_b1154 nin0)
  have F_1184 := F_1160.keep Kc1178 (ninS ne_a_b1154 nin0)
  have F_1185 := F_1161.keep Kc1178 (ninS ne_a_b1154 nin0)
  have E_1186 := E_1162.keep Kc1178
  have F_1187 := F_1163.keep Kc1178 (ninS ne_b944_b1154 nin0)
  have F_1188 := F_1164.keep Kc1178 (ninS ne_b944_b1154 nin0)
  have F_1189 := F_1165.keep Kc1178 (ninS ne_b944_b1154 nin0)
  have E_1190 := E_1166.keep Kc1178
  have F_1191 := F_1167.keep Kc1178 (ninS ne_b980_b1154 nin0)
  have F_1192 := F_1168.keep Kc1178 (ninS ne_b980_b1154 nin0)
  have F_1193 := F_1169.keep Kc1178 (ninS ne_b980_b1154 nin0)
  have E_1194 := E_1170.keep Kc1178
  have F_1195 := F_1171.keep Kc1178 (ninS ne_b1028_b1154 nin0)
  have F_1196 := F_1172.keep Kc1178 (ninS ne_b1028_b1154 nin0)
  have F_1197 := F_1173.keep Kc1178 (ninS ne_b1028_b1154 nin0)
  have V_1198 := V_1174.keep Kc1178 (ninS ne_b1088_b1154 nin0)
  have E_1199 := A1154.keep Kc1178
  have N1178 := Fr.app N1131 N1178q
  have Z1178 : n0 ≤ T1178.heap.size := Nat.le_trans Z1154 Kc1178.1
  have K1178 : Keep h0 T1178.heap [a] := K1154.trans Kc1178 (allS (Or.inr sz_b1154) all0)
  refine Gl.st (g' := (mkF m 72 #[.val (.ref a), .val (.int (3 : Int32)), .val (.int (0 : Int32))] [(.ref b1154), (.ref b980)])) (fun τ κ => st1178.trans κ) ?_
  obtain ⟨cq1203, kq1203, q1203a, q1203b, q1203c⟩ := isOf hZ rfl E_1190
  obtain ⟨rv1203, _, ⟨T1203, L1203, k1203, n1203⟩, -, X1203, ⟨Lc1203, hQ1203, l1203, y1203, z1203⟩, st1203⟩ := X1178.interfaceBack hx (xi := (⟨"java/util/List", "add", "(Ljava/lang/Object;)Z"⟩ : MethodName)) (y := (⟨"java/util/ArrayList", "add", "(Ljava/lang/Object;)Z"⟩ : MethodName)) hown (mvT hZ (hw _ (List.mem_of_getElem? (i := 68) rfl))) (mvT hZ (hw _ (List.mem_of_getElem? (i := 69) rfl))) (mvT hZ (hw _ (List.mem_of_getElem? (i := 70) rfl))) (mvT hZ (hw _ (List.mem_of_getElem? (i := 71) rfl))) (mvT hZ (hw _ (List.mem_of_getElem? (i := 72) rfl))) (mvT hZ (hw _ (List.mem_of_getElem? (i := 73) rfl))) (mvT hZ (hw _ (List.mem_of_getElem? (i := 74) rfl))) (mvT hZ (hw _ (List.mem_of_getElem? (i := 75) rfl))) (by decide) (backOf (W := 0) (rm_Ae l Z a0 hw [] b980 b1154 de kd (0 : Int32) T1178.heap n0 Z1178 E_1190 g_b980 F_1191 F_1192 F_1193 S_1180 V_1181 (Ne.symm ne_de_b980) Ec1178) hZ (hw _ (List.mem_of_getElem? (i := 76) rfl)) (hw _ (List.mem_of_getElem? (i := 34) rfl)) (by decide) (by decide)) q1203a q1203b q1203c (g := (mkF m 72 #[.val (.ref a), .val (.int (3 : Int32)), .val (.int (0 : Int32))] [(.ref b1154), (.ref b980)])) rfl (by rw [hml]; rfl) (Steps.refl _) (argsL := [(.ref b1154)]) (rest := []) (lenOf pd_6 rfl) rfl (by show 2 * 0 + _ ≤ _; exact Nat.le_of_eq rfl) (hb hby d1_72) (fun _ _ => ⟨rfl, rfl, (by decide : 5 + 1 ≤ _), (by decide : 21 + 10 ≤ _)⟩)
  dsimp only [Pt.U, Pt.locs, Pt.cells, Pt.slots] at X1203 l1203 y1203 z1203 st1203 hQ1203
  subst l1203 y1203 z1203
  obtain ⟨b1203, kk1203, vs1203, rfl, N1203q, Kc1203, s1203, Ec1203, FM1203, FE1203, FS1203, V1203, O1203⟩ := hQ1203
  have ne_a_b1203 : a ≠ b1203 := Nat.ne_of_lt (Nat.lt_of_lt_of_le E_1179.lt s1203)
  have ne_de_b1203 : de ≠ b1203 := Nat.ne_of_lt (Nat.lt_of_lt_of_le V_1181.lt s1203)
  have ne_b944_b1203 : b944 ≠ b1203 := Nat.ne_of_lt (Nat.lt_of_lt_of_le E_1186.lt s1203)
  have ne_b980_b1203 : b980 ≠ b1203 := Nat.ne_of_lt (Nat.lt_of_lt_of_le E_1190.lt s1203)
  have ne_b1028_b1203 : b1028 ≠ b1203 := Nat.ne_of_lt (Nat.lt_of_lt_of_le E_1194.lt s1203)
  have ne_b1088_b1203 : b1088 ≠ b1203 := Nat.ne_of_lt (Nat.lt_of_lt_of_le V_1198.lt s1203)
  have ne_b1154_b1203 : b1154 ≠ b1203 := Nat.ne_of_lt (Nat.lt_of_lt_of_le Ec1178.lt s1203)
  have g_b1203 : n0 ≤ b1203 := Nat.le_trans Z1178 s1203
  have sz_b1203 : h0.size ≤ b1203 := Nat.le_trans K1178.1 s1203
  have E_1204 := E_1179.keep Kc1203
  have S_1205 := Sta.keepX S_1180 Kc1203 (allS (P := fun x => ∃ c : Cell, T1178.heap[x]? = some c ∧ ∀ q, c.vm ≠ .statics q) E_1190.cell all0)
  have V_1206 := V_1181.keep Kc1203 (ninS ne_de_b980 nin0)
  have F_1207 := F_1182.keep Kc1203 (ninS ne_a_b980 nin0)
  have F_1208 := F_1183.keep Kc1203 (ninS ne_a_b980 nin0)
  have F_1209 := F_1184.keep Kc1203 (ninS ne_a_b980 nin0)
  have F_1210 := F_1185.keep Kc1203 (ninS ne_a_b980 nin0)
  have E_1211 := E_1186.keep Kc1203
  have F_1212 := F_1187.keep Kc1203 (ninS ne_b944_b980 nin0)
  have F_1213 := F_1188.keep Kc1203 (ninS ne_b944_b980 nin0)
  have F_1214 := F_1189.keep Kc1203 (ninS ne_b944_b980 nin0)
  have E_1215 := E_1190.keep Kc1203
  have E_1219 := E_1194.keep Kc1203
  have F_1220 := F_1195.keep Kc1203 (ninS (Ne.symm ne_b980_b1028) nin0)
  have F_1221 := F_1196.keep Kc1203 (ninS (Ne.symm ne_b980_b1028) nin0)
  have F_1222 := F_1197.keep Kc1203 (ninS (Ne.symm ne_b980_b1028) nin0)
  have V_1223 := V_1198.keep Kc1203 (ninS (Ne.symm ne_b980_b1088) nin0)
  have E_1224 := Ec1178.keep Kc1203
  have F_1225 := FM1178.keep Kc1203 (ninS (Ne.symm ne_b980_b1154) nin0)
  have F_1226 := FE1178.keep Kc1203 (ninS (Ne.symm ne_b980_b1154) nin0)
  have F_1227 := FS1178.keep Kc1203 (ninS (Ne.symm ne_b980_b1154) nin0)
  have N1203 := Fr.app N1178 N1203q
  have Z1203 : n0 ≤ T1203.heap.size := Nat.le_trans Z1178 Kc1203.1
  have K1203 : Keep h0 T1203.heap [a] := K1178.trans Kc1203 (allS (Or.inr sz_b980) all0)
  refine Gl.st (g' := (mkF m 77 #[.val (.ref a), .val (.int (3 : Int32)), .val (.int (0 : Int32))] [(.int (1 : Int32))])) (fun τ κ => st1203.trans κ) ?_
  refine Gl.st (g' := (mkF m 78 #[.val (.ref a), .val (.int (3 : Int32)), .val (.int (0 : Int32))] [])) (fun τ κ => XS.pop X1203.here hx rfl (hb hby d1_77) rfl rfl κ) ?_
  refine Gl.st (g' := (mkF m 81 #[.val (.ref a), .val (.int (3 : Int32)), .val (.int (1 : Int32))] [])) (fun τ κ => XS.iinc X1203.here hx rfl (hb hby d1_78) rfl (l' := #[.val (.ref a), .val (.int (3 : Int32)), .val (.int (1 : Int32))]) rfl κ) ?_
  refine Gl.st (g' := (mkF m 56 #[.val (.ref a), .val (.int (3 : Int32)), .val (.int (1 : Int32))] [])) (fun τ κ => XS.goto X1203.here hx rfl (pc0 := 81) (pc' := 56) rfl (hb hby d1_81) (by decide) (by decide) κ) ?_
  refine Gl.st (g' := (mkF m 57 #[.val (.ref a), .val (.int (3 : Int32)), .val (.int (1 : Int32))] [(.int (1 : Int32))])) (fun τ κ => XS.iloadN X1203.here hx rfl (hb hby d1_56) rfl κ) ?_
  refine Gl.st (g' := (mkF m 58 #[.val (.ref a), .val (.int (3 : Int32)), .val (.int (1 : Int32))] [(.int (3 : Int32)), (.int (1 : Int32))])) (fun τ κ => XS.iloadN X1203.here hx rfl (hb hby d1_57) rfl κ) ?_
  have hc1228 : (1 : Int32) < (3 : Int32) := by decide
  refine Gl.st (g' := (mkF m 61 #[.val (.ref a), .val (.int (3 : Int32)), .val (.int (1 : Int32))] [])) (fun τ κ => XS.icmpNo X1203.here hx rfl (hb hby d1_58) rfl (tlt hc1228).2.1 κ) ?_
  refine Gl.st (g' := (mkF m 62 #[.val (.ref a), .val (.int (3 : Int32)), .val (.int (1 : Int32))] [(.ref a)])) (fun τ κ => XS.aloadN X1203.here hx rfl (hb hby d1_61) rfl rfl κ) ?_
  obtain ⟨T1229, X1229, e1229, st1229⟩ := getF X1203 hx hZ hown (host := "") (Or.inl (hw _ (List.mem_of_getElem? (i := 56) rfl))) Via.refl rfl F_1208 (g := (mkF m 62 #[.val (.ref a), .val (.int (3 : Int32)), .val (.int (1 : Int32))] [(.ref a)])) rfl rfl (hb hby d1_62)
  refine Gl.st (g' := (mkF m 65 #[.val (.ref a), .val (.int (3 : Int32)), .val (.int (1 : Int32))] [(.ref b980)])) (fun τ κ => st1229 _ κ) ?_
  obtain ⟨T1230, h1230, X1230, e1230, E1230, A1230, D1230, -, st1230⟩ := newO X1229 hx hZ hown (hw _ (List.mem_of_getElem? (i := 32) rfl)) (hw _ (List.mem_of_getElem? (i := 33) rfl)) (hw _ (List.mem_of_getElem? (i := 34) rfl)) e1229 (g := (mkF m 65 #[.val (.ref a), .val (.int (3 : Int32)), .val (.int (1 : Int32))] [(.ref b980)])) rfl (hb hby d1_65) (by decide) (by decide)
  obtain ⟨b1230, g1230⟩ : ∃ z, z = T1203.heap.size := ⟨_, rfl⟩
  rw [← g1230] at A1230 D1230 st1230
  have ne_a_b1230 : a ≠ b1230 := Nat.ne_of_lt (Nat.lt_of_lt_of_le E_1204.lt (Nat.le_of_eq g1230.symm))
  have ne_de_b1230 : de ≠ b1230 := Nat.ne_of_lt (Nat.lt_of_lt_of_le V_1206.lt (Nat.le_of_eq g1230.symm))
  have ne_b944_b1230 : b944 ≠ b1230 := Nat.ne_of_lt (Nat.lt_of_lt_of_le E_1211.lt (Nat.le_of_eq g1230.symm))
  have ne_b980_b1230 : b980 ≠ b1230 := Nat.ne_of_lt (Nat.lt_of_lt_of_le Ec1203.lt (Nat.le_of_eq g1230.symm))
  have ne_b1028_b1230 : b1028 ≠ b1230 := Nat.ne_of_lt (Nat.lt_of_lt_of_le E_1219.lt (Nat.le_of_eq g1230.symm))
  have ne_b1088_b1230 : b1088 ≠ b1230 := Nat.ne_of_lt (Nat.lt_of_lt_of_le V_1223.lt (Nat.le_of_eq g1230.symm))
  have ne_b1154_b1230 : b1154 ≠ b1230 := Nat.ne_of_lt (Nat.lt_of_lt_of_le E_1224.lt (Nat.le_of_eq g1230.symm))
  have ne_b1203_b1230 : b1203 ≠ b1230 := Nat.ne_of_lt (Nat.lt_of_lt_of_le V1203.lt (Nat.le_of_eq g1230.symm))
  have E_1231 := E_1204.ext E1230
  have S_1232 := S_1205.ext E1230
  have V_1233 := V_1206.ext E1230
  have F_1234 := F_1207.ext E1230
  have F_1235 := F_1208.ext E1230
  have F_1236 := F_1209.ext E1230
  have F_1237 := F_1210.ext E1230
  have E_1238 := E_1211.ext E1230
  have F_1239 := F_1212.ext E1230
  have F_1240 := F_1213.ext E1230
  have F_1241 := F_1214.ext E1230
  have E_1242 := Ec1203.ext E1230
  have E_1243 := E_1219.ext E1230
  have F_1244 := F_1220.ext E1230
  have F_1245 := F_1221.ext E1230
  have F_1246 := F_1222.ext E1230
  have V_1247 := V_1223.ext E1230
  have E_1248 := E_1224.ext E1230
  have F_1249 := F_1225.ext E1230
  have F_1250 := F_1226.ext E1230
  have F_1251 := F_1227.ext E1230
  have F_1252 := FM1203.ext E1230
  have F_1253 := FE1203.ext E1230
  have F_1254 := FS1203.ext E1230
  have V_1255 := V1203.ext E1230
  have g_b1230 : n0 ≤ b1230 := Nat.le_trans Z1203 (Nat.le_of_eq g1230.symm)
  have sz_b1230 : h0.size ≤ b1230 := Nat.le_trans K1203.1 (Nat.le_of_eq g1230.symm)
  have Z1230 : n0 ≤ h1230.size := Nat.le_trans Z1203 E1230.1
  have K1230 : Keep h0 h1230 [a] := K1203.ext E1230
  have F_1256 : Fld Z h1230 b1230 "java/util/AbstractList" "modCount" "I" (.int (0 : Int32)) := D1230 (Or.inl (hw _ (List.mem_of_getElem? (i := 52) rfl))) (ty := .int) (by decide)
  have F_1257 : Fld Z h1230 b1230 "java/util/ArrayList" "elementData" "[Ljava/lang/Object;" .null := D1230 (Or.inl (hw _ (List.mem_of_getElem? (i := 55) rfl))) (ty := (.array (.object "java/lang/Object"))) (by decide)
  have F_1258 : Fld Z h1230 b1230 "java/util/ArrayList" "size" "I" (.int (0 : Int32)) := D1230 (Or.inl (hw _ (List.mem_of_getElem? (i := 80) rfl))) (ty := .int) (by decide)
  refine Gl.st (g' := (mkF m 68 #[.val (.ref a), .val (.int (3 : Int32)), .val (.int (1 : Int32))] [(.ref b1230), (.ref b980)])) (fun τ κ => st1230 _ κ) ?_
  refine Gl.st (g' := (mkF m 69 #[.val (.ref a), .val (.int (3 : Int32)), .val (.int (1 : Int32))] [(.ref b1230), (.ref b1230), (.ref b980)])) (fun τ κ => XS.dup X1230.here hx rfl (hb hby d1_68) rfl rfl κ) ?_
  obtain ⟨rv1259, _, ⟨T1259, L1259, k1259, n1259⟩, -, X1259, ⟨Lc1259, hQ1259, l1259, y1259, z1259⟩, st1259⟩ := X1230.specialBack hx (y := (⟨"java/util/ArrayList", "<init>", "()V"⟩ : MethodName)) rfl hown (mvT hZ (hw _ (List.mem_of_getElem? (i := 35) rfl))) (mvT hZ (hw _ (List.mem_of_getElem? (i := 36) rfl))) (mvT hZ (hw _ (List.mem_of_getElem? (i := 37) rfl))) (by decide) (backOf (W := 2) (rm5 l Z a0 hw [] b1230 de h1230 n0 Z1230 A1230 g_b1230 S_1232 F_1256 F_1257 F_1258) hZ (hw _ (List.mem_of_getElem? (i := 37) rfl)) (hw _ (List.mem_of_getElem? (i := 34) rfl)) (by decide) (by decide)) (g := (mkF m 69 #[.val (.ref a), .val (.int (3 : Int32)), .val (.int (1 : Int32))] [(.ref b1230), (.ref b1230), (.ref b980)])) rfl (by rw [hml]; rfl) (Steps.refl _) (a := b1230) (argsL := []) (rest := [(.ref b1230), (.ref b980)]) (lenOf pd_0 rfl) rfl (by show 2 * 0 + _ ≤ _; exact Nat.le_of_eq rfl) (hb hby d1_69) (fun _ _ => ⟨rfl, e1230, (by decide : 7 + 0 ≤ _), (by decide : 34 + 0 ≤ _)⟩)
  dsimp only [Pt.U, Pt.locs, Pt.cells, Pt.slots] at X1259 l1259 y1259 z1259 st1259 hQ1259
  subst l1259 y1259 z1259
  obtain ⟨rfl, N1259q, Kc1259, Ec1259, FM1259, FE1259, FS1259⟩ := hQ1259
  have E_1260 := E_1231.keep Kc1259
  have S_1261 := Sta.keepX S_1232 Kc1259 (allS (P := fun x => ∃ c : Cell, h1230[x]? = some c ∧ ∀ q, c.vm ≠ .statics q) A1230.cell all0)
  have V_1262 := V_1233.keep Kc1259 (ninS ne_de_b1230 nin0)
  have F_1263 := F_1234.keep Kc1259 (ninS ne_a_b1230 nin0)
  have F_1264 := F_1235.keep Kc1259 (ninS ne_a_b1230 nin0)
  have F_1265 := F_1236.keep Kc1259 (ninS ne_a_b1230 nin0)
  have F_1266 := F_1237.keep Kc1259 (ninS ne_a_b1230 nin0)
  have E_1267 := E_1238.keep Kc1259
  have F_1268 := F_1239.keep Kc1259 (ninS ne_b944_b1230 nin0)
  have F_1269 := F_1240.keep Kc1259 (ninS ne_b944_b1230 nin0)
  have F_1270 := F_1241.keep Kc1259 (ninS ne_b944_b1230 nin0)
  have E_1271 := E_1242.keep Kc1259
  have E_1272 := E_1243.keep Kc1259
  have F_1273 := F_1244.keep Kc1259 (ninS ne_b1028_b1230 nin0)
  have F_1274 := F_1245.keep Kc1259 (ninS ne_b1028_b1230 nin0)
  have F_1275 := F_1246.keep Kc1259 (ninS ne_b1028_b1230 nin0)
  have V_1276 := V_1247.keep Kc1259 (ninS ne_b1088_b1230 nin0)
  have E_1277 := E_1248.keep Kc1259
  have F_1278 := F_1249.keep Kc1259 (ninS ne_b1154_b1230 nin0)
  have F_1279 := F_1250.keep Kc1259 (ninS ne_b1154_b1230 nin0)
  have F_1280 := F_1251.keep Kc1259 (ninS ne_b1154_b1230 nin0)
  have F_1281 := F_1252.keep Kc1259 (ninS ne_b980_b1230 nin0)
  have F_1282 := F_1253.keep Kc1259 (ninS ne_b980_b1230 nin0)
  have F_1283 := F_1254.keep Kc1259 (ninS ne_b980_b1230 nin0)
  have V_1284 := V_1255.keep Kc1259 (ninS ne_b1203_b1230 nin0)
  have E_1285 := A1230.keep Kc1259
  have N1259 := Fr.app N1203 N1259q
  have Z1259 : n0 ≤ T1259.heap.size := Nat.le_trans Z1230 Kc1259.1
  have K1259 : Keep h0 T1259.heap [a] := K1230.trans Kc1259 (allS (Or.inr sz_b1230) all0)
  refine Gl.st (g' := (mkF m 72 #[.val (.ref a), .val (.int (3 : Int32)), .val (.int (1 : Int32))] [(.ref b1230), (.ref b980)])) (fun τ κ => st1259.trans κ) ?_
  obtain ⟨cq1289, kq1289, q1289a, q1289b, q1289c⟩ := isOf hZ rfl E_1271
  obtain ⟨rv1289, _, ⟨T1289, L1289, k1289, n1289⟩, -, X1289, ⟨Lc1289, hQ1289, l1289, y1289, z1289⟩, st1289⟩ := X1259.interfaceBack hx (xi := (⟨"java/util/List", "add", "(Ljava/lang/Object;)Z"⟩ : MethodName)) (y := (⟨"java/util/ArrayList", "add", "(Ljava/lang/Object;)Z"⟩ : MethodName)) hown (mvT hZ (hw _ (List.mem_of_getElem? (i := 68) rfl))) (mvT hZ (hw _ (List.mem_of_getElem? (i := 69) rfl))) (mvT hZ (hw _ (List.mem_of_getElem? (i := 70) rfl))) (mvT hZ (hw _ (List.mem_of_getElem? (i := 71) rfl))) (mvT hZ (hw _ (List.mem_of_getElem? (i := 72) rfl))) (mvT hZ (hw _ (List.mem_of_getElem? (i := 73) rfl))) (mvT hZ (hw _ (List.mem_of_getElem? (i := 74) rfl))) (mvT hZ (hw _ (List.mem_of_getElem? (i := 75) rfl))) (by decide) (backOf (W := 0) (rm_Be1 l Z a0 hw [] b980 b1230 b1203 kk1203 (1 : Int32) vs1203 T1259.heap n0 Z1259 E_1271 g_b980 F_1281 F_1282 F_1283 g_b1203 ne_b980_b1203 V_1284 O1203 Ec1259) hZ (hw _ (List.mem_of_getElem? (i := 76) rfl)) (hw _ (List.mem_of_getElem? (i := 34) rfl)) (by decide) (by decide)) q1289a q1289b q1289c (g := (mkF m 72 #[.val (.ref a), .val (.int (3 : Int32)), .val (.int (1 : Int32))] [(.ref b1230), (.ref b980)])) rfl (by rw [hml]; rfl) (Steps.refl _) (argsL := [(.ref b1230)]) (rest := []) (lenOf pd_6 rfl) rfl (by show 2 * 0 + _ ≤ _; exact Nat.le_of_eq rfl) (hb hby d1_72) (fun _ _ => ⟨rfl, rfl, (by decide : 7 + 0 ≤ _), (by decide : 34 + 0 ≤ _)⟩)
  dsimp only [Pt.U, Pt.locs, Pt.cells, Pt.slots] at X1289 l1289 y1289 z1289 st1289 hQ1289
  subst l1289 y1289 z1289
  obtain ⟨vs1289, rfl, N1289q, Kc1289, Ec1289, FM1289, FE1289, FS1289, V1289⟩ := hQ1289
  have E_1290 := E_1260.keep Kc1289
  have S_1291 := Sta.keepX S_1261 Kc1289 (allS (P := fun x => ∃ c : Cell, T1259.heap[x]? = some c ∧ ∀ q, c.vm ≠ .statics q) E_1271.cell (allS (P := fun x => ∃ c : Cell, T1259.heap[x]? = some c ∧ ∀ q, c.vm ≠ .statics q) (Arv.cellX V_1284) all0))
  have V_1292 := V_1262.keep Kc1289 (ninS ne_de_b980 (ninS ne_de_b1203 nin0))
  have F_1293 := F_1263.keep Kc1289 (ninS ne_a_b980 (ninS ne_a_b1203 nin0))
  have F_1294 := F_1264.keep Kc1289 (ninS ne_a_b980 (ninS ne_a_b1203 nin0))
  have F_1295 := F_1265.keep Kc1289 (ninS ne_a_b980 (ninS ne_a_b1203 nin0))
  have F_1296 := F_1266.keep Kc1289 (ninS ne_a_b980 (ninS ne_a_b1203 nin0))
  have E_1297 := E_1267.keep Kc1289
  have F_1298 := F_1268.keep Kc1289 (ninS ne_b944_b980 (ninS ne_b944_b1203 nin0))
  have F_1299 := F_1269.keep Kc1289 (ninS ne_b944_b980 (ninS ne_b944_b1203 nin0))
  have F_1300 := F_1270.keep Kc1289 (ninS ne_b944_b980 (ninS ne_b944_b1203 nin0))
  have E_1301 := E_1271.keep Kc1289
  have E_1302 := E_1272.keep Kc1289
  have F_1303 := F_1273.keep Kc1289 (ninS (Ne.symm ne_b980_b1028) (ninS ne_b1028_b1203 nin0))
  have F_1304 := F_1274.keep Kc1289 (ninS (Ne.symm ne_b980_b1028) (ninS ne_b1028_b1203 nin0))
  have F_1305 := F_1275.keep Kc1289 (ninS (Ne.symm ne_b980_b1028) (ninS ne_b1028_b1203 nin0))
  have V_1306 := V_1276.keep Kc1289 (ninS (Ne.symm ne_b980_b1088) (ninS ne_b1088_b1203 nin0))
  have E_1307 := E_1277.keep Kc1289
  have F_1308 := F_1278.keep Kc1289 (ninS (Ne.symm ne_b980_b1154) (ninS ne_b1154_b1203 nin0))
  have F_1309 := F_1279.keep Kc1289 (ninS (Ne.symm ne_b980_b1154) (ninS ne_b1154_b1203 nin0))
  have F_1310 := F_1280.keep Kc1289 (ninS (Ne.symm ne_b980_b1154) (ninS ne_b1154_b1203 nin0))
  have E_1315 := Ec1259.keep Kc1289
  have F_1316 := FM1259.keep Kc1289 (ninS (Ne.symm ne_b980_b1230) (ninS (Ne.symm ne_b1203_b1230) nin0))
  have F_1317 := FE1259.keep Kc1289 (ninS (Ne.symm ne_b980_b1230) (ninS (Ne.symm ne_b1203_b1230) nin0))
  have F_1318 := FS1259.keep Kc1289 (ninS (Ne.symm ne_b980_b1230) (ninS (Ne.symm ne_b1203_b1230) nin0))
  have N1289 := Fr.app N1259 N1289q
  have Z1289 : n0 ≤ T1289.heap.size := Nat.le_trans Z1259 Kc1289.1
  have K1289 : Keep h0 T1289.heap [a] := K1259.trans Kc1289 (allS (Or.inr sz_b980) (allS (Or.inr sz_b1203) all0))
  refine Gl.st (g' := (mkF m 77 #[.val (.ref a), .val (.int (3 : Int32)), .val (.int (1 : Int32))] [(.int (1 : Int32))])) (fun τ κ => st1289.trans κ) ?_
  refine Gl.st (g' := (mkF m 78 #[.val (.ref a), .val (.int (3 : Int32)), .val (.int (1 : Int32))] [])) (fun τ κ => XS.pop X1289.here hx rfl (hb hby d1_77) rfl rfl κ) ?_
  refine Gl.st (g' := (mkF m 81 #[.val (.ref a), .val (.int (3 : Int32)), .val (.int (2 : Int32))] [])) (fun τ κ => XS.iinc X1289.here hx rfl (hb hby d1_78) rfl (l' := #[.val (.ref a), .val (.int (3 : Int32)), .val (.int (2 : Int32))]) rfl κ) ?_
  refine Gl.st (g' := (mkF m 56 #[.val (.ref a), .val (.int (3 : Int32)), .val (.int (2 : Int32))] [])) (fun τ κ => XS.goto X1289.here hx rfl (pc0 := 81) (pc' := 56) rfl (hb hby d1_81) (by decide) (by decide) κ) ?_
  refine Gl.st (g' := (mkF m 57 #[.val (.ref a), .val (.int (3 : Int32)), .val (.int (2 : Int32))] [(.int (2 : Int32))])) (fun τ κ => XS.iloadN X1289.here hx rfl (hb hby d1_56) rfl κ) ?_
  refine Gl.st (g' := (mkF m 58 #[.val (.ref a), .val (.int (3 : Int32)), .val (.int (2 : Int32))] [(.int (3 : Int32)), (.int (2 : Int32))])) (fun τ κ => XS.iloadN X1289.here hx rfl (hb hby d1_57) rfl κ) ?_
  have hc1319 : (2 : Int32) < (3 : Int32) := by decide
  refine Gl.st (g' := (mkF m 61 #[.val (.ref a), .val (.int (3 : Int32)), .val (.int (2 : Int32))] [])) (fun τ κ => XS.icmpNo X1289.here hx rfl (hb hby d1_58) rfl (tlt hc1319).2.1 κ) ?_
  refine Gl.st (g' := (mkF m 62 #[.val (.ref a), .val (.int (3 : Int32)), .val (.int (2 : Int32))] [(.ref a)])) (fun τ κ => XS.aloadN X1289.here hx rfl (hb hby d1_61) rfl rfl κ) ?_
  obtain ⟨T1320, X1320, e1320, st1320⟩ := getF X1289 hx hZ hown (host := "") (Or.inl (hw _ (List.mem_of_getElem? (i := 56) rfl))) Via.refl rfl F_1294 (g := (mkF m 62 #[.val (.ref a), .val (.int (3 : Int32)), .val (.int (2 : Int32))] [(.ref a)])) rfl rfl (hb hby d1_62)
  refine Gl.st (g' := (mkF m 65 #[.val (.ref a), .val (.int (3 : Int32)), .val (.int (2 : Int32))] [(.ref b980)])) (fun τ κ => st1320 _ κ) ?_
  obtain ⟨T1321, h1321, X1321, e1321, E1321, A1321, D1321, -, st1321⟩ := newO X1320 hx hZ hown (hw _ (List.mem_of_getElem? (i := 32) rfl)) (hw _ (List.mem_of_getElem? (i := 33) rfl)) (hw _ (List.mem_of_getElem? (i := 34) rfl)) e1320 (g := (mkF m 65 #[.val (.ref a), .val (.int (3 : Int32)), .val (.int (2 : Int32))] [(.ref b980)])) rfl (hb hby d1_65) (by decide) (by decide)
  obtain ⟨b1321, g1321⟩ : ∃ z, z = T1289.heap.size := ⟨_, rfl⟩
  rw [← g1321] at A1321 D1321 st1321
  have ne_a_b1321 : a ≠ b1321 := Nat.ne_of_lt (Nat.lt_of_lt_of_le E_1290.lt (Nat.le_of_eq g1321.symm))
  have ne_de_b1321 : de ≠ b1321 := Nat.ne_of_lt (Nat.lt_of_lt_of_le V_1292.lt (Nat.le_of_eq g1321.symm))
  have ne_b944_b1321 : b944 ≠ b1321 := Nat.ne_of_lt (Nat.lt_of_lt_of_le E_1297.lt (Nat.le_of_eq g1321.symm))
  have ne_b980_b1321 : b980 ≠ b1321 := Nat.ne_of_lt (Nat.lt_of_lt_of_le Ec1289.lt (Nat.le_of_eq g1321.symm))
  have ne_b1028_b1321 : b1028 ≠ b1321 := Nat.ne_of_lt (Nat.lt_of_lt_of_le E_1302.lt (Nat.le_of_eq g1321.symm))
  have ne_b1088_b1321 : b1088 ≠ b1321 := Nat.ne_of_lt (Nat.lt_of_lt_of_le V_1306.lt (Nat.le_of_eq g1321.symm))
  have ne_b1154_b1321 : b1154 ≠ b1321 := Nat.ne_of_lt (Nat.lt_of_lt_of_le E_1307.lt (Nat.le_of_eq g1321.symm))
  have ne_b1230_b1321 : b1230 ≠ b1321 := Nat.ne_of_lt (Nat.lt_of_lt_of_le E_1315.lt (Nat.le_of_eq g1321.symm))
  have ne_b1203_b1321 : b1203 ≠ b1321 := Nat.ne_of_lt (Nat.lt_of_lt_of_le V1289.lt (Nat.le_of_eq g1321.symm))
  have E_1322 := E_1290.ext E1321
  have S_1323 := S_1291.ext E1321
  have V_1324 := V_1292.ext E1321
  have F_1325 := F_1293.ext E1321
  have F_1326 := F_1294.ext E1321
  have F_1327 := F_1295.ext E1321
  have F_1328 := F_1296.ext E1321
  have E_1329 := E_1297.ext E1321
  have F_1330 := F_1298.ext E1321
  have F_1331 := F_1299.ext E1321
  have F_1332 := F_1300.ext E1321
  have E_1333 := Ec1289.ext E1321
  have E_1334 := E_1302.ext E1321
  have F_1335 := F_1303.ext E1321
  have F_1336 := F_1304.ext E1321
  have F_1337 := F_1305.ext E1321
  have V_1338 := V_1306.ext E1321
  have E_1339 := E_1307.ext E1321
  have F_1340 := F_1308.ext E1321
  have F_1341 := F_1309.ext E1321
  have F_1342 := F_1310.ext E1321
  have E_1343 := E_1315.ext E1321
  have F_1344 := F_1316.ext E1321
  have F_1345 := F_1317.ext E1321
  have F_1346 := F_1318.ext E1321
  have F_1347 := FM1289.ext E1321
  have F_1348 := FE1289.ext E1321
  have F_1349 := FS1289.ext E1321
  have V_1350 := V1289.ext E1321
  have g_b1321 : n0 ≤ b1321 := Nat.le_trans Z1289 (Nat.le_of_eq g1321.symm)
  have sz_b1321 : h0.size ≤ b1321 := Nat.le_trans K1289.1 (Nat.le_of_eq g1321.symm)
  have Z1321 : n0 ≤ h1321.size := Nat.le_trans Z1289 E1321.1
  have K1321 : Keep h0 h1321 [a] := K1289.ext E1321
  have F_1351 : Fld Z h1321 b1321 "java/util/AbstractList" "modCount" "I" (.int (0 : Int32)) := D1321 (Or.inl (hw _ (List.mem_of_getElem? (i := 52) rfl))) (ty := .int) (by decide)
  have F_1352 : Fld Z h1321 b1321 "java/util/ArrayList" "elementData" "[Ljava/lang/Object;" .null := D1321 (Or.inl (hw _ (List.mem_of_getElem? (i := 55) rfl))) (ty := (.array (.object "java/lang/Object"))) (by decide)
  have F_1353 : Fld Z h1321 b1321 "java/util/ArrayList" "size" "I" (.int (0 : Int32)) := D1321 (Or.inl (hw _ (List.mem_of_getElem? (i := 80) rfl))) (ty := .int) (by decide)
  refine Gl.st (g' := (mkF m 68 #[.val (.ref a), .val (.int (3 : Int32)), .val (.int (2 : Int32))] [(.ref b1321), (.ref b980)])) (fun τ κ => st1321 _ κ) ?_
  refine Gl.st (g' := (mkF m 69 #[.val (.ref a), .val (.int (3 : Int32)), .val (.int (2 : Int32))] [(.ref b1321), (.ref b1321), (.ref b980)])) (fun τ κ => XS.dup X1321.here hx rfl (hb hby d1_68) rfl rfl κ) ?_
  obtain ⟨rv1354, _, ⟨T1354, L1354, k1354, n1354⟩, -, X1354, ⟨Lc1354, hQ1354, l1354, y1354, z1354⟩, st1354⟩ := X1321.specialBack hx (y := (⟨"java/util/ArrayList", "<init>", "()V"⟩ : MethodName)) rfl hown (mvT hZ (hw _ (List.mem_of_getElem? (i := 35) rfl))) (mvT hZ (hw _ (List.mem_of_getElem? (i := 36) rfl))) (mvT hZ (hw _ (List.mem_of_getElem? (i := 37) rfl))) (by decide) (backOf (W := 2) (rm5 l Z a0 hw [] b1321 de h1321 n0 Z1321 A1321 g_b1321 S_1323 F_1351 F_1352 F_1353) hZ (hw _ (List.mem_of_getElem? (i := 37) rfl)) (hw _ (List.mem_of_getElem? (i := 34) rfl)) (by decide) (by decide)) (g := (mkF m 69 #[.val (.ref a), .val (.int (3 : Int32)), .val (.int (2 : Int32))] [(.ref b1321), (.ref b1321), (.ref b980)])) rfl (by rw [hml]; rfl) (Steps.refl _) (a := b1321) (argsL := []) (rest := [(.ref b1321), (.ref b980)]) (lenOf pd_0 rfl) rfl (by show 2 * 0 + _ ≤ _; exact Nat.le_of_eq rfl) (hb hby d1_69) (fun _ _ => ⟨rfl, e1321, (by decide : 8 + 0 ≤ _), (by decide : 37 + 0 ≤ _)⟩)
  dsimp only [Pt.U, Pt.locs, Pt.cells, Pt.slots] at X1354 l1354 y1354 z1354 st1354 hQ1354
  subst l1354 y1354 z1354
  obtain ⟨rfl, N1354q, Kc1354, Ec1354, FM1354, FE1354, FS1354⟩ := hQ1354
  have E_1355 := E_1322.keep Kc1354
  have S_1356 := Sta.keepX S_1323 Kc1354 (allS (P := fun x => ∃ c : Cell, h1321[x]? = some c ∧ ∀ q, c.vm ≠ .statics q) A1321.cell all0)
  have V_1357 := V_1324.keep Kc1354 (ninS ne_de_b1321 nin0)
  have F_1358 := F_1325.keep Kc1354 (ninS ne_a_b1321 nin0)
  have F_1359 := F_1326.keep Kc1354 (ninS ne_a_b1321 nin0)
  have F_1360 := F_1327.keep Kc1354 (ninS ne_a_b1321 nin0)
  have F_1361 := F_1328.keep Kc1354 (ninS ne_a_b1321 nin0)
  have E_1362 := E_1329.keep Kc1354
  have F_1363 := F_1330.keep Kc1354 (ninS ne_b944_b1321 nin0)
  have F_1364 := F_1331.keep Kc1354 (ninS ne_b944_b1321 nin0)
  have F_1365 := F_1332.keep Kc1354 (ninS ne_b944_b1321 nin0)
  have E_1366 := E_1333.keep Kc1354
  have E_1367 := E_1334.keep Kc1354
  have F_1368 := F_1335.keep Kc1354 (ninS ne_b1028_b1321 nin0)
  have F_1369 := F_1336.keep Kc1354 (ninS ne_b1028_b1321 nin0)
  have F_1370 := F_1337.keep Kc1354 (ninS ne_b1028_b1321 nin0)
  have V_1371 := V_1338.keep Kc1354 (ninS ne_b1088_b1321 nin0)
  have E_1372 := E_1339.keep Kc1354
  have F_1373 := F_1340.keep Kc1354 (ninS ne_b1154_b1321 nin0)
  have F_1374 := F_1341.keep Kc1354 (ninS ne_b1154_b1321 nin0)
  have F_1375 := F_1342.keep Kc1354 (ninS ne_b1154_b1321 nin0)
  have E_1376 := E_1343.keep Kc1354
  have F_1377 := F_1344.keep Kc1354 (ninS ne_b1230_b1321 nin0)
  have F_1378 := F_1345.keep Kc1354 (ninS ne_b1230_b1321 nin0)
  have F_1379 := F_1346.keep Kc1354 (ninS ne_b1230_b1321 nin0)
  have F_1380 := F_1347.keep Kc1354 (ninS ne_b980_b1321 nin0)
  have F_1381 := F_1348.keep Kc1354 (ninS ne_b980_b1321 nin0)
  have F_1382 := F_1349.keep Kc1354 (ninS ne_b980_b1321 nin0)
  have V_1383 := V_1350.keep Kc1354 (ninS ne_b1203_b1321 nin0)
  have E_1384 := A1321.keep Kc1354
  have N1354 := Fr.app N1289 N1354q
  have Z1354 : n0 ≤ T1354.heap.size := Nat.le_trans Z1321 Kc1354.1
  have K1354 : Keep h0 T1354.heap [a] := K1321.trans Kc1354 (allS (Or.inr sz_b1321) all0)
  refine Gl.st (g' := (mkF m 72 #[.val (.ref a), .val (.int (3 : Int32)), .val (.int (2 : Int32))] [(.ref b1321), (.ref b980)])) (fun τ κ => st1354.trans κ) ?_
  obtain ⟨cq1388, kq1388, q1388a, q1388b, q1388c⟩ := isOf hZ rfl E_1366
  obtain ⟨rv1388, _, ⟨T1388, L1388, k1388, n1388⟩, -, X1388, ⟨Lc1388, hQ1388, l1388, y1388, z1388⟩, st1388⟩ := X1354.interfaceBack hx (xi := (⟨"java/util/List", "add", "(Ljava/lang/Object;)Z"⟩ : MethodName)) (y := (⟨"java/util/ArrayList", "add", "(Ljava/lang/Object;)Z"⟩ : MethodName)) hown (mvT hZ (hw _ (List.mem_of_getElem? (i := 68) rfl))) (mvT hZ (hw _ (List.mem_of_getElem? (i := 69) rfl))) (mvT hZ (hw _ (List.mem_of_getElem? (i := 70) rfl))) (mvT hZ (hw _ (List.mem_of_getElem? (i := 71) rfl))) (mvT hZ (hw _ (List.mem_of_getElem? (i := 72) rfl))) (mvT hZ (hw _ (List.mem_of_getElem? (i := 73) rfl))) (mvT hZ (hw _ (List.mem_of_getElem? (i := 74) rfl))) (mvT hZ (hw _ (List.mem_of_getElem? (i := 75) rfl))) (by decide) (backOf (W := 0) (rm_Be2 l Z a0 hw [] b980 b1321 b1203 kk1203 (2 : Int32) vs1289 T1354.heap n0 Z1354 E_1366 g_b980 F_1380 F_1381 F_1382 g_b1203 ne_b980_b1203 V_1383 O1203 Ec1354) hZ (hw _ (List.mem_of_getElem? (i := 76) rfl)) (hw _ (List.mem_of_getElem? (i := 34) rfl)) (by decide) (by decide)) q1388a q1388b q1388c (g := (mkF m 72 #[.val (.ref a), .val (.int (3 : Int32)), .val (.int (2 : Int32))] [(.ref b1321), (.ref b980)])) rfl (by rw [hml]; rfl) (Steps.refl _) (argsL := [(.ref b1321)]) (rest := []) (lenOf pd_6 rfl) rfl (by show 2 * 0 + _ ≤ _; exact Nat.le_of_eq rfl) (hb hby d1_72) (fun _ _ => ⟨rfl, rfl, (by decide : 8 + 0 ≤ _), (by decide : 37 + 0 ≤ _)⟩)
  dsimp only [Pt.U, Pt.locs, Pt.cells, Pt.slots] at X1388 l1388 y1388 z1388 st1388 hQ1388
  subst l1388 y1388 z1388
  obtain ⟨vs1388, rfl, N1388q, Kc1388, Ec1388, FM1388, FE1388, FS1388, V1388⟩ := hQ1388
  have E_1389 := E_1355.keep Kc1388
  have S_1390 := Sta.keepX S_1356 Kc1388 (allS (P := fun x => ∃ c : Cell, T1354.heap[x]? = some c ∧ ∀ q, c.vm ≠ .statics q) E_1366.cell (allS (P := fun x => ∃ c : Cell, T1354.heap[x]? = some c ∧ ∀ q, c.vm ≠ .statics q) (Arv.cellX V_1383) all0))
  have V_1391 := V_1357.keep Kc1388 (ninS ne_de_b980 (ninS ne_de_b1203 nin0))
  have F_1392 := F_1358.keep Kc1388 (ninS ne_a_b980 (ninS ne_a_b1203 nin0))
  have F_1393 := F_1359.keep Kc1388 (ninS ne_a_b980 (ninS ne_a_b1203 nin0))
  have F_1394 := F_1360.keep Kc1388 (ninS ne_a_b980 (ninS ne_a_b1203 nin0))
  have F_1395 := F_1361.keep Kc1388 (ninS ne_a_b980 (ninS ne_a_b1203 nin0))
  have E_1396 := E_1362.keep Kc1388
  have F_1397 := F_1363.keep Kc1388 (ninS ne_b944_b980 (ninS ne_b944_b1203 nin0))
  have F_1398 := F_1364.keep Kc1388 (ninS ne_b944_b980 (ninS ne_b944_b1203 nin0))
  have F_1399 := F_1365.keep Kc1388 (ninS ne_b944_b980 (ninS ne_b944_b1203 nin0))
  have E_1400 := E_1366.keep Kc1388
  have E_1401 := E_1367.keep Kc1388
  have F_1402 := F_1368.keep Kc1388 (ninS (Ne.symm ne_b980_b1028) (ninS ne_b1028_b1203 nin0))
  have F_1403 := F_1369.keep Kc1388 (ninS (Ne.symm ne_b980_b1028) (ninS ne_b1028_b1203 nin0))
  have F_1404 := F_1370.keep Kc1388 (ninS (Ne.symm ne_b980_b1028) (ninS ne_b1028_b1203 nin0))
  have V_1405 := V_1371.keep Kc1388 (ninS (Ne.symm ne_b980_b1088) (ninS ne_b1088_b1203 nin0))
  have E_1406 := E_1372.keep Kc1388
  have F_1407 := F_1373.keep Kc1388 (ninS (Ne.symm ne_b980_b1154) (ninS ne_b1154_b1203 nin0))
  have F_1408 := F_1374.keep Kc1388 (ninS (Ne.symm ne_b980_b1154) (ninS ne_b1154_b1203 nin0))
  have F_1409 := F_1375.keep Kc1388 (ninS (Ne.symm ne_b980_b1154) (ninS ne_b1154_b1203 nin0))
  have E_1410 := E_1376.keep Kc1388
  have F_1411 := F_1377.keep Kc1388 (ninS (Ne.symm ne_b980_b1230) (ninS (Ne.symm ne_b1203_b1230) nin0))
  have F_1412 := F_1378.keep Kc1388 (ninS (Ne.symm ne_b980_b1230) (ninS (Ne.symm ne_b1203_b1230) nin0))
  have F_1413 := F_1379.keep Kc1388 (ninS (Ne.symm ne_b980_b1230) (ninS (Ne.symm ne_b1203_b1230) nin0))
  have E_1418 := Ec1354.keep Kc1388
  have F_1419 := FM1354.keep Kc1388 (ninS (Ne.symm ne_b980_b1321) (ninS (Ne.symm ne_b1203_b1321) nin0))
  have F_1420 := FE1354.keep Kc1388 (ninS (Ne.symm ne_b980_b1321) (ninS (Ne.symm ne_b1203_b1321) nin0))
  have F_1421 := FS1354.keep Kc1388 (ninS (Ne.symm ne_b980_b1321) (ninS (Ne.symm ne_b1203_b1321) nin0))
  have N1388 := Fr.app N1354 N1388q
  have Z1388 : n0 ≤ T1388.heap.size := Nat.le_trans Z1354 Kc1388.1
  have K1388 : Keep h0 T1388.heap [a] := K1354.trans Kc1388 (allS (Or.inr sz_b980) (allS (Or.inr sz_b1203) all0))
  refine Gl.st (g' := (mkF m 77 #[.val (.ref a), .val (.int (3 : Int32)), .val (.int (2 : Int32))] [(.int (1 : Int32))])) (fun τ κ => st1388.trans κ) ?_
  refine Gl.st (g' := (mkF m 78 #[.val (.ref a), .val (.int (3 : Int32)), .val (.int (2 : Int32))] [])) (fun τ κ => XS.pop X1388.here hx rfl (hb hby d1_77) rfl rfl κ) ?_
  refine Gl.st (g' := (mkF m 81 #[.val (.ref a), .val (.int (3 : Int32)), .val (.int (3 : Int32))] [])) (fun τ κ => XS.iinc X1388.here hx rfl (hb hby d1_78) rfl (l' := #[.val (.ref a), .val (.int (3 : Int32)), .val (.int (3 : Int32))]) rfl κ) ?_
  refine Gl.st (g' := (mkF m 56 #[.val (.ref a), .val (.int (3 : Int32)), .val (.int (3 : Int32))] [])) (fun τ κ => XS.goto X1388.here hx rfl (pc0 := 81) (pc' := 56) rfl (hb hby d1_81) (by decide) (by decide) κ) ?_
  refine Gl.st (g' := (mkF m 57 #[.val (.ref a), .val (.int (3 : Int32)), .val (.int (3 : Int32))] [(.int (3 : Int32))])) (fun τ κ => XS.iloadN X1388.here hx rfl (hb hby d1_56) rfl κ) ?_
  refine Gl.st (g' := (mkF m 58 #[.val (.ref a), .val (.int (3 : Int32)), .val (.int (3 : Int32))] [(.int (3 : Int32)), (.int (3 : Int32))])) (fun τ κ => XS.iloadN X1388.here hx rfl (hb hby d1_57) rfl κ) ?_
  have hc1422 : ¬ ((3 : Int32) < (3 : Int32)) := by decide
  refine Gl.st (g' := (mkF m 84 #[.val (.ref a), .val (.int (3 : Int32)), .val (.int (3 : Int32))] [])) (fun τ κ => XS.icmpYes X1388.here hx rfl (pc0 := 58) (pc' := 84) rfl (hb hby d1_58) rfl (flt hc1422).2.1 (by decide) (by decide) κ) ?_
  exact Gl.ret (v := none) X1388 Bd.notSynchronized (fun _ => rfl) rfl (fun fs hr => X1388.returnOut hx Bd.returns (hb hby d1_84) hr) (by decide) (by decide) ⟨b1088, k1088, rfl, N1388, K1388, sz_b1088, E_1389, F_1395, V_1405⟩
theorem ef_rm_init4 (m : MethodId) (a : Addr) : entryFrame m #[(.ref a), (.int (4 : Int32))] 3 = mkF m 0 #[.val (.ref a), .val (.int (4 : Int32)), .unset] [] := by first | (simp [entryFrame, mkF, argsToLocals, Value.category]; done) | rfl
def Q_rm_init4 (Z : State) (a : Addr) (de : Addr) (kd : ClassId) (h0 : Heap) (n0 : Nat) (v : Option Value) (h : Heap) (L : List Loc) : Prop := ∃ t kc, v = none ∧ Fr n0 L ∧ Keep h0 h [a] ∧ h0.size ≤ t ∧ Exa Z h a "org/precedence/Takeover" ∧ Fld Z h a "org/precedence/Takeover" "next" "[J" (.ref t) ∧ Arv Z h t kc .long (4 : Int32) [(.long (-1 : Int64)), (.long (-1 : Int64)), (.long (-1 : Int64)), (.long (-1 : Int64))] (.long (0 : Int64))
set_option maxRecDepth 65536 in
set_option maxHeartbeats 40000000 in
theorem rm_init4 (l : Launch) (Z : State) (a0 : Array Value) (hw : ∀ d ∈ tables_1, d.before a0 Z = true) (ws : List Jvm.Cond) (a : Addr) (de : Addr) (kd : ClassId) (h0 : Heap) (n0 : Nat) (Z0 : n0 ≤ h0.size) (E0 : Exa Z h0 a "org/precedence/Takeover") (g0 : n0 ≤ a) (S0 : Sta Z h0 "java/util/ArrayList" "DEFAULTCAPACITY_EMPTY_ELEMENTDATA" "[Ljava/lang/Object;" (.ref de)) (V0 : Arv Z h0 de kd (.object "java/lang/Object") (0 : Int32) [] .null) (hde : a ≠ de) (F0 : Fld Z h0 a "org/precedence/Takeover" "stamped" "Ljava/util/TreeMap;" .null) (F1 : Fld Z h0 a "org/precedence/Takeover" "unstamped" "Ljava/util/List;" .null) (F2 : Fld Z h0 a "org/precedence/Takeover" "submitted" "Ljava/util/List;" .null) (F3 : Fld Z h0 a "org/precedence/Takeover" "next" "[J" .null) :
    MetFree l (⟨"org/precedence/Takeover", "<init>", "(I)V"⟩ : MethodName) (head1 (Jvm.Cond.code (⟨"org/precedence/Takeover", "<init>", "(I)V"⟩ : MethodName) prog_35_method_1_code 3 none :: ws) ({ frames := 5, cells := 10, slots := 41, locals := 90 } : Room)) (fun aα Uα => aα = #[(.ref a), (.int (4 : Int32))] ∧ Z.Warmed39 Uα.vm ∧ Uα.heap = h0) (fun _ _ _ _ _ => True) (fun _ Uα oα Uβ => ∃ vα Lα, oα = .returned vα ∧ Q_rm_init4 Z a de kd h0 n0 vα Uβ.heap Lα ∧ FrameEnd Uα oα Uβ Lα ({ frames := 5, cells := 10, slots := 41, locals := 90 } : Room).cells ({ frames := 5, cells := 10, slots := 41, locals := 90 } : Room).slots) := by
  refine MetFree.of_bodySF (plainFor_of_name pn_org_precedence_Takeover) hisR ?_
  intro p e s m args below meth c s₁ Bd hml0 hP hKα
  obtain ⟨rfl, hZ, hh⟩ := hP
  have hx := Bd.exec
  have hby := Bd.bytes
  have hml : c.maxLocals = 3 := hml0
  have hown : s.vm.findClass "org/precedence/Takeover" = some m.cls := findClass_of_methodNamed Bd.named
  have hnm := (name_of_methodNamed Bd.named Bd.method).1
  have X0 : Stand p l e ({ frames := 5, cells := 10, slots := 41, locals := 90 } : Room) s m #[(.ref a), (.int (4 : Int32))] below meth c s₁ [] 0 0 := Stand.of_body Bd
  have e0 : s₁.heap = h0 := by rw [← hh, Bd.state]; rfl
  have N0 := Fr.nil n0
  suffices k0 : Gl p e below s (Q_rm_init4 Z a de kd h0 n0) ({ frames := 5, cells := 10, slots := 41, locals := 90 } : Room).cells ({ frames := 5, cells := 10, slots := 41, locals := 90 } : Room).slots s₁ (mkF m 0 #[.val (.ref a), .val (.int (4 : Int32)), .unset] []) from Gl.st (fun τ κ => castTop (ef_rm_init4 m a) κ) k0
  refine Gl.st (g' := (mkF m 1 #[.val (.ref a), .val (.int (4 : Int32)), .unset] [(.ref a)])) (fun τ κ => XS.aloadN X0.here hx rfl (hb hby d1_0) rfl rfl κ) ?_
  obtain ⟨T1423, X1423, e1423, st1423⟩ := initO X0 hx hZ hown (hw _ (List.mem_of_getElem? (i := 8) rfl)) (hw _ (List.mem_of_getElem? (i := 9) rfl)) (hw _ (List.mem_of_getElem? (i := 10) rfl)) e0 (g := (mkF m 1 #[.val (.ref a), .val (.int (4 : Int32)), .unset] [(.ref a)])) rfl (by rw [hml]; rfl) rfl (hb hby d1_1) (by decide) (W := 0) (by show 2 * 0 + _ ≤ _; exact Nat.le_of_eq rfl) (by decide)
  refine Gl.st (g' := (mkF m 4 #[.val (.ref a), .val (.int (4 : Int32)), .unset] [])) (fun τ κ => st1423 _ κ) ?_
  refine Gl.st (g' := (mkF m 5 #[.val (.ref a), .val (.int (4 : Int32)), .unset] [(.ref a)])) (fun τ κ => XS.aloadN X1423.here hx rfl (hb hby d1_4) rfl rfl κ) ?_
  obtain ⟨T1424, h1424, X1424, e1424, E1424, A1424, D1424, -, st1424⟩ := newO X1423 hx hZ hown (hw _ (List.mem_of_getElem? (i := 11) rfl)) (hw _ (List.mem_of_getElem? (i := 12) rfl)) (hw _ (List.mem_of_getElem? (i := 13) rfl)) e1423 (g := (mkF m 5 #[.val (.ref a), .val (.int (4 : Int32)), .unset] [(.ref a)])) rfl (hb hby d1_5) (by decide) (by decide)
  obtain ⟨b1424, g1424⟩ : ∃ z, z = h0.size := ⟨_, rfl⟩
  rw [← g1424] at A1424 D1424 st1424
  have ne_a_b1424 : a ≠ b1424 := Nat.ne_of_lt (Nat.lt_of_lt_of_le E0.lt (Nat.le_of_eq g1424.symm))
  have ne_de_b1424 : de ≠ b1424 := Nat.ne_of_lt (Nat.lt_of_lt_of_le V0.lt (Nat.le_of_eq g1424.symm))
  have E_1425 := E0.ext E1424
  have S_1426 := S0.ext E1424
  have V_1427 := V0.ext E1424
  have F_1428 := F0.ext E1424
  have F_1429 := F1.ext E1424
  have F_1430 := F2.ext E1424
  have F_1431 := F3.ext E1424
  have g_b1424 : n0 ≤ b1424 := Nat.le_trans Z0 (Nat.le_of_eq g1424.symm)
  have sz_b1424 : h0.size ≤ b1424 := Nat.le_trans (Keep.refl h0 [a]).1 (Nat.le_of_eq g1424.symm)
  have Z1424 : n0 ≤ h1424.size := Nat.le_trans Z0 E1424.1
  have K1424 : Keep h0 h1424 [a] := (Keep.refl h0 [a]).ext E1424
  have F_1432 : Fld Z h1424 b1424 "java/util/TreeMap" "size" "I" (.int (0 : Int32)) := D1424 (Or.inl (hw _ (List.mem_of_getElem? (i := 25) rfl))) (ty := .int) (by decide)
  have F_1433 : Fld Z h1424 b1424 "java/util/TreeMap" "modCount" "I" (.int (0 : Int32)) := D1424 (Or.inl (hw _ (List.mem_of_getElem? (i := 27) rfl))) (ty := .int) (by decide)
  have F_1434 : Fld Z h1424 b1424 "java/util/TreeMap" "comparator" "Ljava/util/Comparator;" .null := D1424 (Or.inr (hw _ (List.mem_of_getElem? (i := 29) rfl))) (ty := (.object "java/util/Comparator")) (by decide)
  refine Gl.st (g' := (mkF m 8 #[.val (.ref a), .val (.int (4 : Int32)), .unset] [(.ref b1424), (.ref a)])) (fun τ κ => st1424 _ κ) ?_
  refine Gl.st (g' := (mkF m 9 #[.val (.ref a), .val (.int (4 : Int32)), .unset] [(.ref b1424), (.ref b1424), (.ref a)])) (fun τ κ => XS.dup X1424.here hx rfl (hb hby d1_8) rfl rfl κ) ?_
  obtain ⟨rv1435, _, ⟨T1435, L1435, k1435, n1435⟩, -, X1435, ⟨Lc1435, hQ1435, l1435, y1435, z1435⟩, st1435⟩ := X1424.specialBack hx (y := (⟨"java/util/TreeMap", "<init>", "()V"⟩ : MethodName)) rfl hown (mvT hZ (hw _ (List.mem_of_getElem? (i := 14) rfl))) (mvT hZ (hw _ (List.mem_of_getElem? (i := 15) rfl))) (mvT hZ (hw _ (List.mem_of_getElem? (i := 16) rfl))) (by decide) (backOf (W := 2) (rm3 l Z a0 hw [] b1424 h1424 n0 Z1424 A1424 g_b1424 F_1432 F_1433 F_1434) hZ (hw _ (List.mem_of_getElem? (i := 16) rfl)) (hw _ (List.mem_of_getElem? (i := 13) rfl)) (by decide) (by decide)) (g := (mkF m 9 #[.val (.ref a), .val (.int (4 : Int32)), .unset] [(.ref b1424), (.ref b1424), (.ref a)])) rfl (by rw [hml]; rfl) (Steps.refl _) (a := b1424) (argsL := []) (rest := [(.ref b1424), (.ref a)]) (lenOf pd_0 rfl) rfl (by show 2 * 0 + _ ≤ _; exact Nat.le_of_eq rfl) (hb hby d1_9) (fun _ _ => ⟨rfl, e1424, (by decide : 1 + 0 ≤ _), (by decide : 9 + 0 ≤ _)⟩)
  dsimp only [Pt.U, Pt.locs, Pt.cells, Pt.slots] at X1435 l1435 y1435 z1435 st1435 hQ1435
  subst l1435 y1435 z1435
  obtain ⟨rfl, N1435q, Kc1435, Ec1435, Fc1435_0, Fc1435_1, Fc1435_2⟩ := hQ1435
  have E_1436 := E_1425.keep Kc1435
  have S_1437 := Sta.keepX S_1426 Kc1435 (allS (P := fun x => ∃ c : Cell, h1424[x]? = some c ∧ ∀ q, c.vm ≠ .statics q) A1424.cell all0)
  have V_1438 := V_1427.keep Kc1435 (ninS ne_de_b1424 nin0)
  have F_1439 := F_1428.keep Kc1435 (ninS ne_a_b1424 nin0)
  have F_1440 := F_1429.keep Kc1435 (ninS ne_a_b1424 nin0)
  have F_1441 := F_1430.keep Kc1435 (ninS ne_a_b1424 nin0)
  have F_1442 := F_1431.keep Kc1435 (ninS ne_a_b1424 nin0)
  have E_1443 := A1424.keep Kc1435
  have N1435 := Fr.app N0 N1435q
  have Z1435 : n0 ≤ T1435.heap.size := Nat.le_trans Z1424 Kc1435.1
  have K1435 : Keep h0 T1435.heap [a] := K1424.trans Kc1435 (allS (Or.inr sz_b1424) all0)
  refine Gl.st (g' := (mkF m 12 #[.val (.ref a), .val (.int (4 : Int32)), .unset] [(.ref b1424), (.ref a)])) (fun τ κ => st1435.trans κ) ?_
  obtain ⟨T1447, h1447, X1447, e1447, W1447, st1447⟩ := putF X1435 hx hZ hown (host := "") (Or.inl (hw _ (List.mem_of_getElem? (i := 30) rfl))) Via.refl rfl F_1439 E_1436 (Or.inr ⟨(hw _ (List.mem_of_getElem? (i := 31) rfl)), rfl, hnm⟩) (hw _ (List.mem_of_getElem? (i := 3) rfl)) (ty := (.object "java/util/TreeMap")) (by decide) rfl rfl (g := (mkF m 12 #[.val (.ref a), .val (.int (4 : Int32)), .unset] [(.ref b1424), (.ref a)])) rfl rfl (hb hby d1_12)
  have E_1448 := E_1436.wr W1447
  have S_1449 := S_1437.wr W1447
  have V_1450 := V_1438.other W1447 (Ne.symm hde)
  have F_1452 := F_1440.other W1447 (Or.inr (slot_ne (Or.inr (hw _ (List.mem_of_getElem? (i := 57) rfl))) (Or.inr (hw _ (List.mem_of_getElem? (i := 31) rfl))) (by decide) (t := (.object "java/util/List")) (t' := (.object "java/util/TreeMap")) (by decide) (by decide)))
  have F_1453 := F_1441.other W1447 (Or.inr (slot_ne (Or.inr (hw _ (List.mem_of_getElem? (i := 59) rfl))) (Or.inr (hw _ (List.mem_of_getElem? (i := 31) rfl))) (by decide) (t := (.object "java/util/List")) (t' := (.object "java/util/TreeMap")) (by decide) (by decide)))
  have F_1454 := F_1442.other W1447 (Or.inr (slot_ne (Or.inr (hw _ (List.mem_of_getElem? (i := 62) rfl))) (Or.inr (hw _ (List.mem_of_getElem? (i := 31) rfl))) (by decide) (t := (.array .long)) (t' := (.object "java/util/TreeMap")) (by decide) (by decide)))
  have E_1455 := Ec1435.wr W1447
  have F_1456 := Fc1435_0.other W1447 (Or.inl (Ne.symm ne_a_b1424))
  have F_1457 := Fc1435_1.other W1447 (Or.inl (Ne.symm ne_a_b1424))
  have F_1458 := Fc1435_2.other W1447 (Or.inl (Ne.symm ne_a_b1424))
  have N1447 := Fr.snoc X1447 N1435 g0
  have Z1447 : n0 ≤ h1447.size := Nat.le_trans Z1435 (Nat.le_of_eq W1447.size.symm)
  have K1447 : Keep h0 h1447 [a] := K1435.wr W1447 (Or.inl (List.mem_of_getElem? (i := 0) rfl))
  have F_1459 := F_1439.same W1447
  refine Gl.st (g' := (mkF m 15 #[.val (.ref a), .val (.int (4 : Int32)), .unset] [])) (fun τ κ => st1447 _ κ) ?_
  refine Gl.st (g' := (mkF m 16 #[.val (.ref a), .val (.int (4 : Int32)), .unset] [(.ref a)])) (fun τ κ => XS.aloadN X1447.here hx rfl (hb hby d1_15) rfl rfl κ) ?_
  obtain ⟨T1460, h1460, X1460, e1460, E1460, A1460, D1460, -, st1460⟩ := newO X1447 hx hZ hown (hw _ (List.mem_of_getElem? (i := 32) rfl)) (hw _ (List.mem_of_getElem? (i := 33) rfl)) (hw _ (List.mem_of_getElem? (i := 34) rfl)) e1447 (g := (mkF m 16 #[.val (.ref a), .val (.int (4 : Int32)), .unset] [(.ref a)])) rfl (hb hby d1_16) (by decide) (by decide)
  obtain ⟨b1460, g1460⟩ : ∃ z, z = h1447.size := ⟨_, rfl⟩
  rw [← g1460] at A1460 D1460 st1460
  have ne_a_b1460 : a ≠ b1460 := Nat.ne_of_lt (Nat.lt_of_lt_of_le E_1448.lt (Nat.le_of_eq g1460.symm))
  have ne_de_b1460 : de ≠ b1460 := Nat.ne_of_lt (Nat.lt_of_lt_of_le V_1450.lt (Nat.le_of_eq g1460.symm))
  have ne_b1424_b1460 : b1424 ≠ b1460 := Nat.ne_of_lt (Nat.lt_of_lt_of_le E_1455.lt (Nat.le_of_eq g1460.symm))
  have E_1461 := E_1448.ext E1460
  have S_1462 := S_1449.ext E1460
  have V_1463 := V_1450.ext E1460
  have F_1464 := F_1459.ext E1460
  have F_1465 := F_1452.ext E1460
  have F_1466 := F_1453.ext E1460
  have F_1467 := F_1454.ext E1460
  have E_1468 := E_1455.ext E1460
  have F_1469 := F_1456.ext E1460
  have F_1470 := F_1457.ext E1460
  have F_1471 := F_1458.ext E1460
  have g_b1460 : n0 ≤ b1460 := Nat.le_trans Z1447 (Nat.le_of_eq g1460.symm)
  have sz_b1460 : h0.size ≤ b1460 := Nat.le_trans K1447.1 (Nat.le_of_eq g1460.symm)
  have Z1460 : n0 ≤ h1460.size := Nat.le_trans Z1447 E1460.1
  have K1460 : Keep h0 h1460 [a] := K1447.ext E1460
  have F_1472 : Fld Z h1460 b1460 "java/util/AbstractList" "modCount" "I" (.int (0 : Int32)) := D1460 (Or.inl (hw _ (List.mem_of_getElem? (i := 52) rfl))) (ty := .int) (by decide)
  have F_1473 : Fld Z h1460 b1460 "java/util/ArrayList" "elementData" "[Ljava/lang/Object;" .null := D1460 (Or.inl (hw _ (List.mem_of_getElem? (i := 55) rfl))) (ty := (.array (.object "java/lang/Object"))) (by decide)
  have F_1474 : Fld Z h1460 b1460 "java/util/ArrayList" "size" "I" (.int (0 : Int32)) := D1460 (Or.inl (hw _ (List.mem_of_getElem? (i := 80) rfl))) (ty := .int) (by decide)
  refine Gl.st (g' := (mkF m 19 #[.val (.ref a), .val (.int (4 : Int32)), .unset] [(.ref b1460), (.ref a)])) (fun τ κ => st1460 _ κ) ?_
  refine Gl.st (g' := (mkF m 20 #[.val (.ref a), .val (.int (4 : Int32)), .unset] [(.ref b1460), (.ref b1460), (.ref a)])) (fun τ κ => XS.dup X1460.here hx rfl (hb hby d1_19) rfl rfl κ) ?_
  obtain ⟨rv1475, _, ⟨T1475, L1475, k1475, n1475⟩, -, X1475, ⟨Lc1475, hQ1475, l1475, y1475, z1475⟩, st1475⟩ := X1460.specialBack hx (y := (⟨"java/util/ArrayList", "<init>", "()V"⟩ : MethodName)) rfl hown (mvT hZ (hw _ (List.mem_of_getElem? (i := 35) rfl))) (mvT hZ (hw _ (List.mem_of_getElem? (i := 36) rfl))) (mvT hZ (hw _ (List.mem_of_getElem? (i := 37) rfl))) (by decide) (backOf (W := 2) (rm5 l Z a0 hw [] b1460 de h1460 n0 Z1460 A1460 g_b1460 S_1462 F_1472 F_1473 F_1474) hZ (hw _ (List.mem_of_getElem? (i := 37) rfl)) (hw _ (List.mem_of_getElem? (i := 34) rfl)) (by decide) (by decide)) (g := (mkF m 20 #[.val (.ref a), .val (.int (4 : Int32)), .unset] [(.ref b1460), (.ref b1460), (.ref a)])) rfl (by rw [hml]; rfl) (Steps.refl _) (a := b1460) (argsL := []) (rest := [(.ref b1460), (.ref a)]) (lenOf pd_0 rfl) rfl (by show 2 * 0 + _ ≤ _; exact Nat.le_of_eq rfl) (hb hby d1_20) (fun _ _ => ⟨rfl, e1460, (by decide : 2 + 0 ≤ _), (by decide : 12 + 0 ≤ _)⟩)
  dsimp only [Pt.U, Pt.locs, Pt.cells, Pt.slots] at X1475 l1475 y1475 z1475 st1475 hQ1475
  subst l1475 y1475 z1475
  obtain ⟨rfl, N1475q, Kc1475, Ec1475, FM1475, FE1475, FS1475⟩ := hQ1475
  have E_1476 := E_1461.keep Kc1475
  have S_1477 := Sta.keepX S_1462 Kc1475 (allS (P := fun x => ∃ c : Cell, h1460[x]? = some c ∧ ∀ q, c.vm ≠ .statics q) A1460.cell all0)
  have V_1478 := V_1463.keep Kc1475 (ninS ne_de_b1460 nin0)
  have F_1479 := F_1464.keep Kc1475 (ninS ne_a_b1460 nin0)
  have F_1480 := F_1465.keep Kc1475 (ninS ne_a_b1460 nin0)
  have F_1481 := F_1466.keep Kc1475 (ninS ne_a_b1460 nin0)
  have F_1482 := F_1467.keep Kc1475 (ninS ne_a_b1460 nin0)
  have E_1483 := E_1468.keep Kc1475
  have F_1484 := F_1469.keep Kc1475 (ninS ne_b1424_b1460 nin0)
  have F_1485 := F_1470.keep Kc1475 (ninS ne_b1424_b1460 nin0)
  have F_1486 := F_1471.keep Kc1475 (ninS ne_b1424_b1460 nin0)
  have E_1487 := A1460.keep Kc1475
  have N1475 := Fr.app N1447 N1475q
  have Z1475 : n0 ≤ T1475.heap.size := Nat.le_trans Z1460 Kc1475.1
  have K1475 : Keep h0 T1475.heap [a] := K1460.trans Kc1475 (allS (Or.inr sz_b1460) all0)
  refine Gl.st (g' := (mkF m 23 #[.val (.ref a), .val (.int (4 : Int32)), .unset] [(.ref b1460), (.ref a)])) (fun τ κ => st1475.trans κ) ?_
  obtain ⟨T1491, h1491, X1491, e1491, W1491, st1491⟩ := putF X1475 hx hZ hown (host := "") (Or.inl (hw _ (List.mem_of_getElem? (i := 56) rfl))) Via.refl rfl F_1480 E_1476 (Or.inr ⟨(hw _ (List.mem_of_getElem? (i := 57) rfl)), rfl, hnm⟩) (hw _ (List.mem_of_getElem? (i := 3) rfl)) (ty := (.object "java/util/List")) (by decide) rfl rfl (g := (mkF m 23 #[.val (.ref a), .val (.int (4 : Int32)), .unset] [(.ref b1460), (.ref a)])) rfl rfl (hb hby d1_23)
  have E_1492 := E_1476.wr W1491
  have S_1493 := S_1477.wr W1491
  have V_1494 := V_1478.other W1491 (Ne.symm hde)
  have F_1495 := F_1479.other W1491 (Or.inr (slot_ne (Or.inr (hw _ (List.mem_of_getElem? (i := 31) rfl))) (Or.inr (hw _ (List.mem_of_getElem? (i := 57) rfl))) (by decide) (t := (.object "java/util/TreeMap")) (t' := (.object "java/util/List")) (by decide) (by decide)))
  have F_1497 := F_1481.other W1491 (Or.inr (slot_ne (Or.inr (hw _ (List.mem_of_getElem? (i := 59) rfl))) (Or.inr (hw _ (List.mem_of_getElem? (i := 57) rfl))) (by decide) (t := (.object "java/util/List")) (t' := (.object "java/util/List")) (by decide) (by decide)))
  have F_1498 := F_1482.other W1491 (Or.inr (slot_ne (Or.inr (hw _ (List.mem_of_getElem? (i := 62) rfl))) (Or.inr (hw _ (List.mem_of_getElem? (i := 57) rfl))) (by decide) (t := (.array .long)) (t' := (.object "java/util/List")) (by decide) (by decide)))
  have E_1499 := E_1483.wr W1491
  have F_1500 := F_1484.other W1491 (Or.inl (Ne.symm ne_a_b1424))
  have F_1501 := F_1485.other W1491 (Or.inl (Ne.symm ne_a_b1424))
  have F_1502 := F_1486.other W1491 (Or.inl (Ne.symm ne_a_b1424))
  have E_1503 := Ec1475.wr W1491
  have F_1504 := FM1475.other W1491 (Or.inl (Ne.symm ne_a_b1460))
  have F_1505 := FE1475.other W1491 (Or.inl (Ne.symm ne_a_b1460))
  have F_1506 := FS1475.other W1491 (Or.inl (Ne.symm ne_a_b1460))
  have N1491 := Fr.snoc X1491 N1475 g0
  have Z1491 : n0 ≤ h1491.size := Nat.le_trans Z1475 (Nat.le_of_eq W1491.size.symm)
  have K1491 : Keep h0 h1491 [a] := K1475.wr W1491 (Or.inl (List.mem_of_getElem? (i := 0) rfl))
  have F_1507 := F_1480.same W1491
  refine Gl.st (g' := (mkF m 26 #[.val (.ref a), .val (.int (4 : Int32)), .unset] [])) (fun τ κ => st1491 _ κ) ?_
  refine Gl.st (g' := (mkF m 27 #[.val (.ref a), .val (.int (4 : Int32)), .unset] [(.ref a)])) (fun τ κ => XS.aloadN X1491.here hx rfl (hb hby d1_26) rfl rfl κ) ?_
  obtain ⟨T1508, h1508, X1508, e1508, E1508, A1508, D1508, -, st1508⟩ := newO X1491 hx hZ hown (hw _ (List.mem_of_getElem? (i := 32) rfl)) (hw _ (List.mem_of_getElem? (i := 33) rfl)) (hw _ (List.mem_of_getElem? (i := 34) rfl)) e1491 (g := (mkF m 27 #[.val (.ref a), .val (.int (4 : Int32)), .unset] [(.ref a)])) rfl (hb hby d1_27) (by decide) (by decide)
  obtain ⟨b1508, g1508⟩ : ∃ z, z = h1491.size := ⟨_, rfl⟩
  rw [← g1508] at A1508 D1508 st1508
  have ne_a_b1508 : a ≠ b1508 := Nat.ne_of_lt (Nat.lt_of_lt_of_le E_1492.lt (Nat.le_of_eq g1508.symm))
  have ne_de_b1508 : de ≠ b1508 := Nat.ne_of_lt (Nat.lt_of_lt_of_le V_1494.lt (Nat.le_of_eq g1508.symm))
  have ne_b1424_b1508 : b1424 ≠ b1508 := Nat.ne_of_lt (Nat.lt_of_lt_of_le E_1499.lt (Nat.le_of_eq g1508.symm))
  have ne_b1460_b1508 : b1460 ≠ b1508 := Nat.ne_of_lt (Nat.lt_of_lt_of_le E_1503.lt (Nat.le_of_eq g1508.symm))
  have E_1509 := E_1492.ext E1508
  have S_1510 := S_1493.ext E1508
  have V_1511 := V_1494.ext E1508
  have F_1512 := F_1495.ext E1508
  have F_1513 := F_1507.ext E1508
  have F_1514 := F_1497.ext E1508
  have F_1515 := F_1498.ext E1508
  have E_1516 := E_1499.ext E1508
  have F_1517 := F_1500.ext E1508
  have F_1518 := F_1501.ext E1508
  have F_1519 := F_1502.ext E1508
  have E_1520 := E_1503.ext E1508
  have F_1521 := F_1504.ext E1508
  have F_1522 := F_1505.ext E1508
  have F_1523 := F_1506.ext E1508
  have g_b1508 : n0 ≤ b1508 := Nat.le_trans Z1491 (Nat.le_of_eq g1508.symm)
  have sz_b1508 : h0.size ≤ b1508 := Nat.le_trans K1491.1 (Nat.le_of_eq g1508.symm)
  have Z1508 : n0 ≤ h1508.size := Nat.le_trans Z1491 E1508.1
  have K1508 : Keep h0 h1508 [a] := K1491.ext E1508
  have F_1524 : Fld Z h1508 b1508 "java/util/AbstractList" "modCount" "I" (.int (0 : Int32)) := D1508 (Or.inl (hw _ (List.mem_of_getElem? (i := 52) rfl))) (ty := .int) (by decide)
  have F_1525 : Fld Z h1508 b1508 "java/util/ArrayList" "elementData" "[Ljava/lang/Object;" .null := D1508 (Or.inl (hw _ (List.mem_of_getElem? (i := 55) rfl))) (ty := (.array (.object "java/lang/Object"))) (by decide)
  have F_1526 : Fld Z h1508 b1508 "java/util/ArrayList" "size" "I" (.int (0 : Int32)) := D1508 (Or.inl (hw _ (List.mem_of_getElem? (i := 80) rfl))) (ty := .int) (by decide)
  refine Gl.st (g' := (mkF m 30 #[.val (.ref a), .val (.int (4 : Int32)), .unset] [(.ref b1508), (.ref a)])) (fun τ κ => st1508 _ κ) ?_
  refine Gl.st (g' := (mkF m 31 #[.val (.ref a), .val (.int (4 : Int32)), .unset] [(.ref b1508), (.ref b1508), (.ref a)])) (fun τ κ => XS.dup X1508.here hx rfl (hb hby d1_30) rfl rfl κ) ?_
  obtain ⟨rv1527, _, ⟨T1527, L1527, k1527, n1527⟩, -, X1527, ⟨Lc1527, hQ1527, l1527, y1527, z1527⟩, st1527⟩ := X1508.specialBack hx (y := (⟨"java/util/ArrayList", "<init>", "()V"⟩ : MethodName)) rfl hown (mvT hZ (hw _ (List.mem_of_getElem? (i := 35) rfl))) (mvT hZ (hw _ (List.mem_of_getElem? (i := 36) rfl))) (mvT hZ (hw _ (List.mem_of_getElem? (i := 37) rfl))) (by decide) (backOf (W := 2) (rm5 l Z a0 hw [] b1508 de h1508 n0 Z1508 A1508 g_b1508 S_1510 F_1524 F_1525 F_1526) hZ (hw _ (List.mem_of_getElem? (i := 37) rfl)) (hw _ (List.mem_of_getElem? (i := 34) rfl)) (by decide) (by decide)) (g := (mkF m 31 #[.val (.ref a), .val (.int (4 : Int32)), .unset] [(.ref b1508), (.ref b1508), (.ref a)])) rfl (by rw [hml]; rfl) (Steps.refl _) (a := b1508) (argsL := []) (rest := [(.ref b1508), (.ref a)]) (lenOf pd_0 rfl) rfl (by show 2 * 0 + _ ≤ _; exact Nat.le_of_eq rfl) (hb hby d1_31) (fun _ _ => ⟨rfl, e1508, (by decide : 3 + 0 ≤ _), (by decide : 15 + 0 ≤ _)⟩)
  dsimp only [Pt.U, Pt.locs, Pt.cells, Pt.slots] at X1527 l1527 y1527 z1527 st1527 hQ1527
  subst l1527 y1527 z1527
  obtain ⟨rfl, N1527q, Kc1527, Ec1527, FM1527, FE1527, FS1527⟩ := hQ1527
  have E_1528 := E_1509.keep Kc1527
  have S_1529 := Sta.keepX S_1510 Kc1527 (allS (P := fun x => ∃ c : Cell, h1508[x]? = some c ∧ ∀ q, c.vm ≠ .statics q) A1508.cell all0)
  have V_1530 := V_1511.keep Kc1527 (ninS ne_de_b1508 nin0)
  have F_1531 := F_1512.keep Kc1527 (ninS ne_a_b1508 nin0)
  have F_1532 := F_1513.keep Kc1527 (ninS ne_a_b1508 nin0)
  have F_1533 := F_1514.keep Kc1527 (ninS ne_a_b1508 nin0)
  have F_1534 := F_1515.keep Kc1527 (ninS ne_a_b1508 nin0)
  have E_1535 := E_1516.keep Kc1527
  have F_1536 := F_1517.keep Kc1527 (ninS ne_b1424_b1508 nin0)
  have F_1537 := F_1518.keep Kc1527 (ninS ne_b1424_b1508 nin0)
  have F_1538 := F_1519.keep Kc1527 (ninS ne_b1424_b1508 nin0)
  have E_1539 := E_1520.keep Kc1527
  have F_1540 := F_1521.keep Kc1527 (ninS ne_b1460_b1508 nin0)
  have F_1541 := F_1522.keep Kc1527 (ninS ne_b1460_b1508 nin0)
  have F_1542 := F_1523.keep Kc1527 (ninS ne_b1460_b1508 nin0)
  have E_1543 := A1508.keep Kc1527
  have N1527 := Fr.app N1491 N1527q
  have Z1527 : n0 ≤ T1527.heap.size := Nat.le_trans Z1508 Kc1527.1
  have K1527 : Keep h0 T1527.heap [a] := K1508.trans Kc1527 (allS (Or.inr sz_b1508) all0)
  refine Gl.st (g' := (mkF m 34 #[.val (.ref a), .val (.int (4 : Int32)), .unset] [(.ref b1508), (.ref a)])) (fun τ κ => st1527.trans κ) ?_
  obtain ⟨T1547, h1547, X1547, e1547, W1547, st1547⟩ := putF X1527 hx hZ hown (host := "") (Or.inl (hw _ (List.mem_of_getElem? (i := 58) rfl))) Via.refl rfl F_1533 E_1528 (Or.inr ⟨(hw _ (List.mem_of_getElem? (i := 59) rfl)), rfl, hnm⟩) (hw _ (List.mem_of_getElem? (i := 3) rfl)) (ty := (.object "java/util/List")) (by decide) rfl rfl (g := (mkF m 34 #[.val (.ref a), .val (.int (4 : Int32)), .unset] [(.ref b1508), (.ref a)])) rfl rfl (hb hby d1_34)
  have E_1548 := E_1528.wr W1547
  have S_1549 := S_1529.wr W1547
  have V_1550 := V_1530.other W1547 (Ne.symm hde)
  have F_1551 := F_1531.other W1547 (Or.inr (slot_ne (Or.inr (hw _ (List.mem_of_getElem? (i := 31) rfl))) (Or.inr (hw _ (List.mem_of_getElem? (i := 59) rfl))) (by decide) (t := (.object "java/util/TreeMap")) (t' := (.object "java/util/List")) (by decide) (by decide)))
  have F_1552 := F_1532.other W1547 (Or.inr (slot_ne (Or.inr (hw _ (List.mem_of_getElem? (i := 57) rfl))) (Or.inr (hw _ (List.mem_of_getElem? (i := 59) rfl))) (by decide) (t := (.object "java/util/List")) (t' := (.object "java/util/List")) (by decide) (by decide)))
  have F_1554 := F_1534.other W1547 (Or.inr (slot_ne (Or.inr (hw _ (List.mem_of_getElem? (i := 62) rfl))) (Or.inr (hw _ (List.mem_of_getElem? (i := 59) rfl))) (by decide) (t := (.array .long)) (t' := (.object "java/util/List")) (by decide) (by decide)))
  have E_1555 := E_1535.wr W1547
  have F_1556 := F_1536.other W1547 (Or.inl (Ne.symm ne_a_b1424))
  have F_1557 := F_1537.other W1547 (Or.inl (Ne.symm ne_a_b1424))
  have F_1558 := F_1538.other W1547 (Or.inl (Ne.symm ne_a_b1424))
  have E_1559 := E_1539.wr W1547
  have F_1560 := F_1540.other W1547 (Or.inl (Ne.symm ne_a_b1460))
  have F_1561 := F_1541.other W1547 (Or.inl (Ne.symm ne_a_b1460))
  have F_1562 := F_1542.other W1547 (Or.inl (Ne.symm ne_a_b1460))
  have E_1563 := Ec1527.wr W1547
  have F_1564 := FM1527.other W1547 (Or.inl (Ne.symm ne_a_b1508))
  have F_1565 := FE1527.other W1547 (Or.inl (Ne.symm ne_a_b1508))
  have F_1566 := FS1527.other W1547 (Or.inl (Ne.symm ne_a_b1508))
  have N1547 := Fr.snoc X1547 N1527 g0
  have Z1547 : n0 ≤ h1547.size := Nat.le_trans Z1527 (Nat.le_of_eq W1547.size.symm)
  have K1547 : Keep h0 h1547 [a] := K1527.wr W1547 (Or.inl (List.mem_of_getElem? (i := 0) rfl))
  have F_1567 := F_1533.same W1547
  refine Gl.st (g' := (mkF m 37 #[.val (.ref a), .val (.int (4 : Int32)), .unset] [])) (fun τ κ => st1547 _ κ) ?_
  refine Gl.st (g' := (mkF m 38 #[.val (.ref a), .val (.int (4 : Int32)), .unset] [(.ref a)])) (fun τ κ => XS.aloadN X1547.here hx rfl (hb hby d1_37) rfl rfl κ) ?_
  refine Gl.st (g' := (mkF m 39 #[.val (.ref a), .val (.int (4 : Int32)), .unset] [(.int (4 : Int32)), (.ref a)])) (fun τ κ => XS.iloadN X1547.here hx rfl (hb hby d1_38) rfl κ) ?_
  obtain ⟨T1568, h1568, k1568, X1568, e1568, E1568, A1568, st1568⟩ := newP X1547 hx hZ (hw _ (List.mem_of_getElem? (i := 60) rfl)) e1547 (g := (mkF m 39 #[.val (.ref a), .val (.int (4 : Int32)), .unset] [(.int (4 : Int32)), (.ref a)])) rfl (hb hby d1_39) rfl (by decide) (cap := 4) (by decide) (by decide) (by decide) (by decide)
  obtain ⟨b1568, g1568⟩ : ∃ z, z = h1547.size := ⟨_, rfl⟩
  rw [← g1568] at A1568 st1568
  have ne_a_b1568 : a ≠ b1568 := Nat.ne_of_lt (Nat.lt_of_lt_of_le E_1548.lt (Nat.le_of_eq g1568.symm))
  have ne_de_b1568 : de ≠ b1568 := Nat.ne_of_lt (Nat.lt_of_lt_of_le V_1550.lt (Nat.le_of_eq g1568.symm))
  have ne_b1424_b1568 : b1424 ≠ b1568 := Nat.ne_of_lt (Nat.lt_of_lt_of_le E_1555.lt (Nat.le_of_eq g1568.symm))
  have ne_b1460_b1568 : b1460 ≠ b1568 := Nat.ne_of_lt (Nat.lt_of_lt_of_le E_1559.lt (Nat.le_of_eq g1568.symm))
  have ne_b1508_b1568 : b1508 ≠ b1568 := Nat.ne_of_lt (Nat.lt_of_lt_of_le E_1563.lt (Nat.le_of_eq g1568.symm))
  have E_1569 := E_1548.ext E1568
  have S_1570 := S_1549.ext E1568
  have V_1571 := V_1550.ext E1568
  have F_1572 := F_1551.ext E1568
  have F_1573 := F_1552.ext E1568
  have F_1574 := F_1567.ext E1568
  have F_1575 := F_1554.ext E1568
  have E_1576 := E_1555.ext E1568
  have F_1577 := F_1556.ext E1568
  have F_1578 := F_1557.ext E1568
  have F_1579 := F_1558.ext E1568
  have E_1580 := E_1559.ext E1568
  have F_1581 := F_1560.ext E1568
  have F_1582 := F_1561.ext E1568
  have F_1583 := F_1562.ext E1568
  have E_1584 := E_1563.ext E1568
  have F_1585 := F_1564.ext E1568
  have F_1586 := F_1565.ext E1568
  have F_1587 := F_1566.ext E1568
  have g_b1568 : n0 ≤ b1568 := Nat.le_trans Z1547 (Nat.le_of_eq g1568.symm)
  have sz_b1568 : h0.size ≤ b1568 := Nat.le_trans K1547.1 (Nat.le_of_eq g1568.symm)
  have Z1568 : n0 ≤ h1568.size := Nat.le_trans Z1547 E1568.1
  have K1568 : Keep h0 h1568 [a] := K1547.ext E1568
  have V_b1568 : Arv Z h1568 b1568 k1568 .long (4 : Int32) [(.long (0 : Int64)), (.long (0 : Int64)), (.long (0 : Int64)), (.long (0 : Int64))] (.long (0 : Int64)) := (Arv.new A1568 (by decide)).pad (pad_rep [] (.long (0 : Int64)) 4)
  refine Gl.st (g' := (mkF m 41 #[.val (.ref a), .val (.int (4 : Int32)), .unset] [(.ref b1568), (.ref a)])) (fun τ κ => st1568 _ κ) ?_
  obtain ⟨T1588, h1588, X1588, e1588, W1588, st1588⟩ := putF X1568 hx hZ hown (host := "") (Or.inl (hw _ (List.mem_of_getElem? (i := 61) rfl))) Via.refl e1568 F_1575 E_1569 (Or.inr ⟨(hw _ (List.mem_of_getElem? (i := 62) rfl)), rfl, hnm⟩) (hw _ (List.mem_of_getElem? (i := 3) rfl)) (ty := (.array .long)) (by decide) rfl rfl (g := (mkF m 41 #[.val (.ref a), .val (.int (4 : Int32)), .unset] [(.ref b1568), (.ref a)])) rfl rfl (hb hby d1_41)
  have E_1589 := E_1569.wr W1588
  have S_1590 := S_1570.wr W1588
  have V_1591 := V_1571.other W1588 (Ne.symm hde)
  have F_1592 := F_1572.other W1588 (Or.inr (slot_ne (Or.inr (hw _ (List.mem_of_getElem? (i := 31) rfl))) (Or.inr (hw _ (List.mem_of_getElem? (i := 62) rfl))) (by decide) (t := (.object "java/util/TreeMap")) (t' := (.array .long)) (by decide) (by decide)))
  have F_1593 := F_1573.other W1588 (Or.inr (slot_ne (Or.inr (hw _ (List.mem_of_getElem? (i := 57) rfl))) (Or.inr (hw _ (List.mem_of_getElem? (i := 62) rfl))) (by decide) (t := (.object "java/util/List")) (t' := (.array .long)) (by decide) (by decide)))
  have F_1594 := F_1574.other W1588 (Or.inr (slot_ne (Or.inr (hw _ (List.mem_of_getElem? (i := 59) rfl))) (Or.inr (hw _ (List.mem_of_getElem? (i := 62) rfl))) (by decide) (t := (.object "java/util/List")) (t' := (.array .long)) (by decide) (by decide)))
  have E_1596 := E_1576.wr W1588
  have F_1597 := F_1577.other W1588 (Or.inl (Ne.symm ne_a_b1424))
  have F_1598 := F_1578.other W1588 (Or.inl (Ne.symm ne_a_b1424))
  have F_1599 := F_1579.other W1588 (Or.inl (Ne.symm ne_a_b1424))
  have E_1600 := E_1580.wr W1588
  have F_1601 := F_1581.other W1588 (Or.inl (Ne.symm ne_a_b1460))
  have F_1602 := F_1582.other W1588 (Or.inl (Ne.symm ne_a_b1460))
  have F_1603 := F_1583.other W1588 (Or.inl (Ne.symm ne_a_b1460))
  have E_1604 := E_1584.wr W1588
  have F_1605 := F_1585.other W1588 (Or.inl (Ne.symm ne_a_b1508))
  have F_1606 := F_1586.other W1588 (Or.inl (Ne.symm ne_a_b1508))
  have F_1607 := F_1587.other W1588 (Or.inl (Ne.symm ne_a_b1508))
  have V_1608 := V_b1568.other W1588 (Ne.symm ne_a_b1568)
  have N1588 := Fr.snoc X1588 N1547 g0
  have Z1588 : n0 ≤ h1588.size := Nat.le_trans Z1568 (Nat.le_of_eq W1588.size.symm)
  have K1588 : Keep h0 h1588 [a] := K1568.wr W1588 (Or.inl (List.mem_of_getElem? (i := 0) rfl))
  have F_1609 := F_1575.same W1588
  refine Gl.st (g' := (mkF m 44 #[.val (.ref a), .val (.int (4 : Int32)), .unset] [])) (fun τ κ => st1588 _ κ) ?_
  refine Gl.st (g' := (mkF m 45 #[.val (.ref a), .val (.int (4 : Int32)), .unset] [(.ref a)])) (fun τ κ => XS.aloadN X1588.here hx rfl (hb hby d1_44) rfl rfl κ) ?_
  obtain ⟨T1610, X1610, e1610, st1610⟩ := getF X1588 hx hZ hown (host := "") (Or.inl (hw _ (List.mem_of_getElem? (i := 61) rfl))) Via.refl e1588 F_1609 (g := (mkF m 45 #[.val (.ref a), .val (.int (4 : Int32)), .unset] [(.ref a)])) rfl rfl (hb hby d1_45)
  refine Gl.st (g' := (mkF m 48 #[.val (.ref a), .val (.int (4 : Int32)), .unset] [(.ref b1568)])) (fun τ κ => st1610 _ κ) ?_
  refine Gl.st (g' := (mkF m 51 #[.val (.ref a), .val (.int (4 : Int32)), .unset] [(.long (-1 : Int64)), (.ref b1568)])) (fun τ κ => X1610.ldc2Long hx hown (mvT hZ (hw _ (List.mem_of_getElem? (i := 63) rfl))) (g := (mkF m 48 #[.val (.ref a), .val (.int (4 : Int32)), .unset] [(.ref b1568)])) rfl (hb hby d1_48) _ κ) ?_
  obtain ⟨rv1611, _, ⟨T1611, L1611, k1611, n1611⟩, -, X1611, ⟨Lc1611, hQ1611, l1611, y1611, z1611⟩, st1611⟩ := Jvm.LawKit.callS X1610 hx (y := (⟨"java/util/Arrays", "fill", "([JJ)V"⟩ : MethodName)) hown (mvT hZ (hw _ (List.mem_of_getElem? (i := 64) rfl))) (mvT hZ (hw _ (List.mem_of_getElem? (i := 65) rfl))) (mvT hZ (hw _ (List.mem_of_getElem? (i := 66) rfl))) (mvT hZ (hw _ (List.mem_of_getElem? (i := 67) rfl))) (by decide) (backOf (W := 0) (rm_fill4 l Z a0 hw [] b1568 (-1 : Int64) k1568 h1588 n0 Z1588 V_1608 g_b1568) hZ (hw _ (List.mem_of_getElem? (i := 67) rfl)) (hw _ (List.mem_of_getElem? (i := 66) rfl)) (by decide) (by decide)) (g := (mkF m 51 #[.val (.ref a), .val (.int (4 : Int32)), .unset] [(.long (-1 : Int64)), (.ref b1568)])) rfl (by rw [hml]; rfl) (argsL := [(.ref b1568), (.long (-1 : Int64))]) (rest := []) (lenOf pd_5 rfl) rfl (by show 2 * 0 + _ ≤ _; exact Nat.le_of_eq rfl) (hb hby d1_51) (fun _ _ => ⟨rfl, e1610, (by decide : 4 + 0 ≤ _), (by decide : 19 + 0 ≤ _)⟩)
  dsimp only [Pt.U, Pt.locs, Pt.cells, Pt.slots] at X1611 l1611 y1611 z1611 st1611 hQ1611
  subst l1611 y1611 z1611
  obtain ⟨rfl, N1611q, Kc1611, V1611⟩ := hQ1611
  have E_1612 := E_1589.keep Kc1611
  have S_1613 := Sta.keepX S_1590 Kc1611 (allS (P := fun x => ∃ c : Cell, h1588[x]? = some c ∧ ∀ q, c.vm ≠ .statics q) (Arv.cellX V_1608) all0)
  have V_1614 := V_1591.keep Kc1611 (ninS ne_de_b1568 nin0)
  have F_1615 := F_1592.keep Kc1611 (ninS ne_a_b1568 nin0)
  have F_1616 := F_1593.keep Kc1611 (ninS ne_a_b1568 nin0)
  have F_1617 := F_1594.keep Kc1611 (ninS ne_a_b1568 nin0)
  have F_1618 := F_1609.keep Kc1611 (ninS ne_a_b1568 nin0)
  have E_1619 := E_1596.keep Kc1611
  have F_1620 := F_1597.keep Kc1611 (ninS ne_b1424_b1568 nin0)
  have F_1621 := F_1598.keep Kc1611 (ninS ne_b1424_b1568 nin0)
  have F_1622 := F_1599.keep Kc1611 (ninS ne_b1424_b1568 nin0)
  have E_1623 := E_1600.keep Kc1611
  have F_1624 := F_1601.keep Kc1611 (ninS ne_b1460_b1568 nin0)
  have F_1625 := F_1602.keep Kc1611 (ninS ne_b1460_b1568 nin0)
  have F_1626 := F_1603.keep Kc1611 (ninS ne_b1460_b1568 nin0)
  have E_1627 := E_1604.keep Kc1611
  have F_1628 := F_1605.keep Kc1611 (ninS ne_b1508_b1568 nin0)
  have F_1629 := F_1606.keep Kc1611 (ninS ne_b1508_b1568 nin0)
  have F_1630 := F_1607.keep Kc1611 (ninS ne_b1508_b1568 nin0)
  have N1611 := Fr.app N1588 N1611q
  have Z1611 : n0 ≤ T1611.heap.size := Nat.le_trans Z1588 Kc1611.1
  have K1611 : Keep h0 T1611.heap [a] := K1588.trans Kc1611 (allS (Or.inr sz_b1568) all0)
  refine Gl.st (g' := (mkF m 54 #[.val (.ref a), .val (.int (4 : Int32)), .unset] [])) (fun τ κ => st1611 _ κ) ?_
  refine Gl.st (g' := (mkF m 55 #[.val (.ref a), .val (.int (4 : Int32)), .unset] [(.int (0 : Int32))])) (fun τ κ => XS.iconst X1611.here hx rfl (hb hby d1_54) κ) ?_
  refine Gl.st (g' := (mkF m 56 #[.val (.ref a), .val (.int (4 : Int32)), .val (.int (0 : Int32))] [])) (fun τ κ => XS.istoreN X1611.here hx rfl (hb hby d1_55) rfl (l' := #[.val (.ref a), .val (.int (4 : Int32)), .val (.int (0 : Int32))]) rfl κ) ?_
  refine Gl.st (g' := (mkF m 57 #[.val (.ref a), .val (.int (4 : Int32)), .val (.int (0 : Int32))] [(.int (0 : Int32))])) (fun τ κ => XS.iloadN X1611.here hx rfl (hb hby d1_56) rfl κ) ?_
  refine Gl.st (g' := (mkF m 58 #[.val (.ref a), .val (.int (4 : Int32)), .val (.int (0 : Int32))] [(.int (4 : Int32)), (.int (0 : Int32))])) (fun τ κ => XS.iloadN X1611.here hx rfl (hb hby d1_57) rfl κ) ?_
  have hc1632 : (0 : Int32) < (4 : Int32) := by decide
  refine Gl.st (g' := (mkF m 61 #[.val (.ref a), .val (.int (4 : Int32)), .val (.int (0 : Int32))] [])) (fun τ κ => XS.icmpNo X1611.here hx rfl (hb hby d1_58) rfl (tlt hc1632).2.1 κ) ?_
  refine Gl.st (g' := (mkF m 62 #[.val (.ref a), .val (.int (4 : Int32)), .val (.int (0 : Int32))] [(.ref a)])) (fun τ κ => XS.aloadN X1611.here hx rfl (hb hby d1_61) rfl rfl κ) ?_
  obtain ⟨T1633, X1633, e1633, st1633⟩ := getF X1611 hx hZ hown (host := "") (Or.inl (hw _ (List.mem_of_getElem? (i := 56) rfl))) Via.refl rfl F_1616 (g := (mkF m 62 #[.val (.ref a), .val (.int (4 : Int32)), .val (.int (0 : Int32))] [(.ref a)])) rfl rfl (hb hby d1_62)
  refine Gl.st (g' := (mkF m 65 #[.val (.ref a), .val (.int (4 : Int32)), .val (.int (0 : Int32))] [(.ref b1460)])) (fun τ κ => st1633 _ κ) ?_
  obtain ⟨T1634, h1634, X1634, e1634, E1634, A1634, D1634, -, st1634⟩ := newO X1633 hx hZ hown (hw _ (List.mem_of_getElem? (i := 32) rfl)) (hw _ (List.mem_of_getElem? (i := 33) rfl)) (hw _ (List.mem_of_getElem? (i := 34) rfl)) e1633 (g := (mkF m 65 #[.val (.ref a), .val (.int (4 : Int32)), .val (.int (0 : Int32))] [(.ref b1460)])) rfl (hb hby d1_65) (by decide) (by decide)
  obtain ⟨b1634, g1634⟩ : ∃ z, z = T1611.heap.size := ⟨_, rfl⟩
  rw [← g1634] at A1634 D1634 st1634
  have ne_a_b1634 : a ≠ b1634 := Nat.ne_of_lt (Nat.lt_of_lt_of_le E_1612.lt (Nat.le_of_eq g1634.symm))
  have ne_de_b1634 : de ≠ b1634 := Nat.ne_of_lt (Nat.lt_of_lt_of_le V_1614.lt (Nat.le_of_eq g1634.symm))
  have ne_b1424_b1634 : b1424 ≠ b1634 := Nat.ne_of_lt (Nat.lt_of_lt_of_le E_1619.lt (Nat.le_of_eq g1634.symm))
  have ne_b1460_b1634 : b1460 ≠ b1634 := Nat.ne_of_lt (Nat.lt_of_lt_of_le E_1623.lt (Nat.le_of_eq g1634.symm))
  have ne_b1508_b1634 : b1508 ≠ b1634 := Nat.ne_of_lt (Nat.lt_of_lt_of_le E_1627.lt (Nat.le_of_eq g1634.symm))
  have ne_b1568_b1634 : b1568 ≠ b1634 := Nat.ne_of_lt (Nat.lt_of_lt_of_le V1611.lt (Nat.le_of_eq g1634.symm))
  have E_1635 := E_1612.ext E1634
  have S_1636 := S_1613.ext E1634
  have V_1637 := V_1614.ext E1634
  have F_1638 := F_1615.ext E1634
  have F_1639 := F_1616.ext E1634
  have F_1640 := F_1617.ext E1634
  have F_1641 := F_1618.ext E1634
  have E_1642 := E_1619.ext E1634
  have F_1643 := F_1620.ext E1634
  have F_1644 := F_1621.ext E1634
  have F_1645 := F_1622.ext E1634
  have E_1646 := E_1623.ext E1634
  have F_1647 := F_1624.ext E1634
  have F_1648 := F_1625.ext E1634
  have F_1649 := F_1626.ext E1634
  have E_1650 := E_1627.ext E1634
  have F_1651 := F_1628.ext E1634
  have F_1652 := F_1629.ext E1634
  have F_1653 := F_1630.ext E1634
  have V_1654 := V1611.ext E1634
  have g_b1634 : n0 ≤ b1634 := Nat.le_trans Z1611 (Nat.le_of_eq g1634.symm)
  have sz_b1634 : h0.size ≤ b1634 := Nat.le_trans K1611.1 (Nat.le_of_eq g1634.symm)
  have Z1634 : n0 ≤ h1634.size := Nat.le_trans Z1611 E1634.1
  have K1634 : Keep h0 h1634 [a] := K1611.ext E1634
  have F_1655 : Fld Z h1634 b1634 "java/util/AbstractList" "modCount" "I" (.int (0 : Int32)) := D1634 (Or.inl (hw _ (List.mem_of_getElem? (i := 52) rfl))) (ty := .int) (by decide)
  have F_1656 : Fld Z h1634 b1634 "java/util/ArrayList" "elementData" "[Ljava/lang/Object;" .null := D1634 (Or.inl (hw _ (List.mem_of_getElem? (i := 55) rfl))) (ty := (.array (.object "java/lang/Object"))) (by decide)
  have F_1657 : Fld Z h1634 b1634 "java/util/ArrayList" "size" "I" (.int (0 : Int32)) := D1634 (Or.inl (hw _ (List.mem_of_getElem? (i := 80) rfl))) (ty := .int) (by decide)
  refine Gl.st (g' := (mkF m 68 #[.val (.ref a), .val (.int (4 : Int32)), .val (.int (0 : Int32))] [(.ref b1634), (.ref b1460)])) (fun τ κ => st1634 _ κ) ?_
  refine Gl.st (g' := (mkF m 69 #[.val (.ref a), .val (.int (4 : Int32)), .val (.int (0 : Int32))] [(.ref b1634), (.ref b1634), (.ref b1460)])) (fun τ κ => XS.dup X1634.here hx rfl (hb hby d1_68) rfl rfl κ) ?_
  obtain ⟨rv1658, _, ⟨T1658, L1658, k1658, n1658⟩, -, X1658, ⟨Lc1658, hQ1658, l1658, y1658, z1658⟩, st1658⟩ := X1634.specialBack hx (y := (⟨"java/util/ArrayList", "<init>", "()V"⟩ : MethodName)) rfl hown (mvT hZ (hw _ (List.mem_of_getElem? (i := 35) rfl))) (mvT hZ (hw _ (List.mem_of_getElem? (i := 36) rfl))) (mvT hZ (hw _ (List.mem_of_getElem? (i := 37) rfl))) (by decide) (backOf (W := 2) (rm5 l Z a0 hw [] b1634 de h1634 n0 Z1634 A1634 g_b1634 S_1636 F_1655 F_1656 F_1657) hZ (hw _ (List.mem_of_getElem? (i := 37) rfl)) (hw _ (List.mem_of_getElem? (i := 34) rfl)) (by decide) (by decide)) (g := (mkF m 69 #[.val (.ref a), .val (.int (4 : Int32)), .val (.int (0 : Int32))] [(.ref b1634), (.ref b1634), (.ref b1460)])) rfl (by rw [hml]; rfl) (Steps.refl _) (a := b1634) (argsL := []) (rest := [(.ref b1634), (.ref b1460)]) (lenOf pd_0 rfl) rfl (by show 2 * 0 + _ ≤ _; exact Nat.le_of_eq rfl) (hb hby d1_69) (fun _ _ => ⟨rfl, e1634, (by decide : 5 + 0 ≤ _), (by decide : 22 + 0 ≤ _)⟩)
  dsimp only [Pt.U, Pt.locs, Pt.cells, Pt.slots] at X1658 l1658 y1658 z1658 st1658 hQ1658
  subst l1658 y1658 z1658
  obtain ⟨rfl, N1658q, Kc1658, Ec1658, FM1658, FE1658, FS1658⟩ := hQ1658
  have E_1659 := E_1635.keep Kc1658
  have S_1660 := Sta.keepX S_1636 Kc1658 (allS (P := fun x => ∃ c : Cell, h1634[x]? = some c ∧ ∀ q, c.vm ≠ .statics q) A1634.cell all0)
  have V_1661 := V_1637.keep Kc1658 (ninS ne_de_b1634 nin0)
  have F_1662 := F_1638.keep Kc1658 (ninS ne_a_b1634 nin0)
  have F_1663 := F_1639.keep Kc1658 (ninS ne_a_b1634 nin0)
  have F_1664 := F_1640.keep Kc1658 (ninS ne_a_b1634 nin0)
  have F_1665 := F_1641.keep Kc1658 (ninS ne_a_b1634 nin0)
  have E_1666 := E_1642.keep Kc1658
  have F_1667 := F_1643.keep Kc1658 (ninS ne_b1424_b1634 nin0)
  have F_1668 := F_1644.keep Kc1658 (ninS ne_b1424_b1634 nin0)
  have F_1669 := F_1645.keep Kc1658 (ninS ne_b1424_b1634 nin0)
  have E_1670 := E_1646.keep Kc1658
  have F_1671 := F_1647.keep Kc1658 (ninS ne_b1460_b1634 nin0)
  have F_1672 := F_1648.keep Kc1658 (ninS ne_b1460_b1634 nin0)
  have F_1673 := F_1649.keep Kc1658 (ninS ne_b1460_b1634 nin0)
  have E_1674 := E_1650.keep Kc1658
  have F_1675 := F_1651.keep Kc1658 (ninS ne_b1508_b1634 nin0)
  have F_1676 := F_1652.keep Kc1658 (ninS ne_b1508_b1634 nin0)
  have F_1677 := F_1653.keep Kc1658 (ninS ne_b1508_b1634 nin0)
  have V_1678 := V_1654.keep Kc1658 (ninS ne_b1568_b1634 nin0)
  have E_1679 := A1634.keep Kc1658
  have N1658 := Fr.app N1611 N1658q
  have Z1658 : n0 ≤ T1658.heap.size := Nat.le_trans Z1634 Kc1658.1
  have K1658 : Keep h0 T1658.heap [a] := K1634.trans Kc1658 (allS (Or.inr sz_b1634) all0)
  refine Gl.st (g' := (mkF m 72 #[.val (.ref a), .val (.int (4 : Int32)), .val (.int (0 : Int32))] [(.ref b1634), (.ref b1460)])) (fun τ κ => st1658.trans κ) ?_
  obtain ⟨cq1683, kq1683, q1683a, q1683b, q1683c⟩ := isOf hZ rfl E_1670
  obtain ⟨rv1683, _, ⟨T1683, L1683, k1683, n1683⟩, -, X1683, ⟨Lc1683, hQ1683, l1683, y1683, z1683⟩, st1683⟩ := X1658.interfaceBack hx (xi := (⟨"java/util/List", "add", "(Ljava/lang/Object;)Z"⟩ : MethodName)) (y := (⟨"java/util/ArrayList", "add", "(Ljava/lang/Object;)Z"⟩ : MethodName)) hown (mvT hZ (hw _ (List.mem_of_getElem? (i := 68) rfl))) (mvT hZ (hw _ (List.mem_of_getElem? (i := 69) rfl))) (mvT hZ (hw _ (List.mem_of_getElem? (i := 70) rfl))) (mvT hZ (hw _ (List.mem_of_getElem? (i := 71) rfl))) (mvT hZ (hw _ (List.mem_of_getElem? (i := 72) rfl))) (mvT hZ (hw _ (List.mem_of_getElem? (i := 73) rfl))) (mvT hZ (hw _ (List.mem_of_getElem? (i := 74) rfl))) (mvT hZ (hw _ (List.mem_of_getElem? (i := 75) rfl))) (by decide) (backOf (W := 0) (rm_Ae l Z a0 hw [] b1460 b1634 de kd (0 : Int32) T1658.heap n0 Z1658 E_1670 g_b1460 F_1671 F_1672 F_1673 S_1660 V_1661 (Ne.symm ne_de_b1460) Ec1658) hZ (hw _ (List.mem_of_getElem? (i := 76) rfl)) (hw _ (List.mem_of_getElem? (i := 34) rfl)) (by decide) (by decide)) q1683a q1683b q1683c (g := (mkF m 72 #[.val (.ref a), .val (.int (4 : Int32)), .val (.int (0 : Int32))] [(.ref b1634), (.ref b1460)])) rfl (by rw [hml]; rfl) (Steps.refl _) (argsL := [(.ref b1634)]) (rest := []) (lenOf pd_6 rfl) rfl (by show 2 * 0 + _ ≤ _; exact Nat.le_of_eq rfl) (hb hby d1_72) (fun _ _ => ⟨rfl, rfl, (by decide : 5 + 1 ≤ _), (by decide : 22 + 10 ≤ _)⟩)
  dsimp only [Pt.U, Pt.locs, Pt.cells, Pt.slots] at X1683 l1683 y1683 z1683 st1683 hQ1683
  subst l1683 y1683 z1683
  obtain ⟨b1683, kk1683, vs1683, rfl, N1683q, Kc1683, s1683, Ec1683, FM1683, FE1683, FS1683, V1683, O1683⟩ := hQ1683
  have ne_a_b1683 : a ≠ b1683 := Nat.ne_of_lt (Nat.lt_of_lt_of_le E_1659.lt s1683)
  have ne_de_b1683 : de ≠ b1683 := Nat.ne_of_lt (Nat.lt_of_lt_of_le V_1661.lt s1683)
  have ne_b1424_b1683 : b1424 ≠ b1683 := Nat.ne_of_lt (Nat.lt_of_lt_of_le E_1666.lt s1683)
  have ne_b1460_b1683 : b1460 ≠ b1683 := Nat.ne_of_lt (Nat.lt_of_lt_of_le E_1670.lt s1683)
  have ne_b1508_b1683 : b1508 ≠ b1683 := Nat.ne_of_lt (Nat.lt_of_lt_of_le E_1674.lt s1683)
  have ne_b1568_b1683 : b1568 ≠ b1683 := Nat.ne_of_lt (Nat.lt_of_lt_of_le V_1678.lt s1683)
  have ne_b1634_b1683 : b1634 ≠ b1683 := Nat.ne_of_lt (Nat.lt_of_lt_of_le Ec1658.lt s1683)
  have g_b1683 : n0 ≤ b1683 := Nat.le_trans Z1658 s1683
  have sz_b1683 : h0.size ≤ b1683 := Nat.le_trans K1658.1 s1683
  have E_1684 := E_1659.keep Kc1683
  have S_1685 := Sta.keepX S_1660 Kc1683 (allS (P := fun x => ∃ c : Cell, T1658.heap[x]? = some c ∧ ∀ q, c.vm ≠ .statics q) E_1670.cell all0)
  have V_1686 := V_1661.keep Kc1683 (ninS ne_de_b1460 nin0)
  have F_1687 := F_1662.keep Kc1683 (ninS ne_a_b1460 nin0)
  have F_1688 := F_1663.keep Kc1683 (ninS ne_a_b1460 nin0)
  have F_1689 := F_1664.keep Kc1683 (ninS ne_a_b1460 nin0)
  have F_1690 := F_1665.keep Kc1683 (ninS ne_a_b1460 nin0)
  have E_1691 := E_1666.keep Kc1683
  have F_1692 := F_1667.keep Kc1683 (ninS ne_b1424_b1460 nin0)
  have F_1693 := F_1668.keep Kc1683 (ninS ne_b1424_b1460 nin0)
  have F_1694 := F_1669.keep Kc1683 (ninS ne_b1424_b1460 nin0)
  have E_1695 := E_1670.keep Kc1683
  have E_1699 := E_1674.keep Kc1683
  have F_1700 := F_1675.keep Kc1683 (ninS (Ne.symm ne_b1460_b1508) nin0)
  have F_1701 := F_1676.keep Kc1683 (ninS (Ne.symm ne_b1460_b1508) nin0)
  have F_1702 := F_1677.keep Kc1683 (ninS (Ne.symm ne_b1460_b1508) nin0)
  have V_1703 := V_1678.keep Kc1683 (ninS (Ne.symm ne_b1460_b1568) nin0)
  have E_1704 := Ec1658.keep Kc1683
  have F_1705 := FM1658.keep Kc1683 (ninS (Ne.symm ne_b1460_b1634) nin0)
  have F_1706 := FE1658.keep Kc1683 (ninS (Ne.symm ne_b1460_b1634) nin0)
  have F_1707 := FS1658.keep Kc1683 (ninS (Ne.symm ne_b1460_b1634) nin0)
  have N1683 := Fr.app N1658 N1683q
  have Z1683 : n0 ≤ T1683.heap.size := Nat.le_trans Z1658 Kc1683.1
  have K1683 : Keep h0 T1683.heap [a] := K1658.trans Kc1683 (allS (Or.inr sz_b1460) all0)
  refine Gl.st (g' := (mkF m 77 #[.val (.ref a), .val (.int (4 : Int32)), .val (.int (0 : Int32))] [(.int (1 : Int32))])) (fun τ κ => st1683.trans κ) ?_
  refine Gl.st (g' := (mkF m 78 #[.val (.ref a), .val (.int (4 : Int32)), .val (.int (0 : Int32))] [])) (fun τ κ => XS.pop X1683.here hx rfl (hb hby d1_77) rfl rfl κ) ?_
  refine Gl.st (g' := (mkF m 81 #[.val (.ref a), .val (.int (4 : Int32)), .val (.int (1 : Int32))] [])) (fun τ κ => XS.iinc X1683.here hx rfl (hb hby d1_78) rfl (l' := #[.val (.ref a), .val (.int (4 : Int32)), .val (.int (1 : Int32))]) rfl κ) ?_
  refine Gl.st (g' := (mkF m 56 #[.val (.ref a), .val (.int (4 : Int32)), .val (.int (1 : Int32))] [])) (fun τ κ => XS.goto X1683.here hx rfl (pc0 := 81) (pc' := 56) rfl (hb hby d1_81) (by decide) (by decide) κ) ?_
  refine Gl.st (g' := (mkF m 57 #[.val (.ref a), .val (.int (4 : Int32)), .val (.int (1 : Int32))] [(.int (1 : Int32))])) (fun τ κ => XS.iloadN X1683.here hx rfl (hb hby d1_56) rfl κ) ?_
  refine Gl.st (g' := (mkF m 58 #[.val (.ref a), .val (.int (4 : Int32)), .val (.int (1 : Int32))] [(.int (4 : Int32)), (.int (1 : Int32))])) (fun τ κ => XS.iloadN X1683.here hx rfl (hb hby d1_57) rfl κ) ?_
  have hc1708 : (1 : Int32) < (4 : Int32) := by decide
  refine Gl.st (g' := (mkF m 61 #[.val (.ref a), .val (.int (4 : Int32)), .val (.int (1 : Int32))] [])) (fun τ κ => XS.icmpNo X1683.here hx rfl (hb hby d1_58) rfl (tlt hc1708).2.1 κ) ?_
  refine Gl.st (g' := (mkF m 62 #[.val (.ref a), .val (.int (4 : Int32)), .val (.int (1 : Int32))] [(.ref a)])) (fun τ κ => XS.aloadN X1683.here hx rfl (hb hby d1_61) rfl rfl κ) ?_
  obtain ⟨T1709, X1709, e1709, st1709⟩ := getF X1683 hx hZ hown (host := "") (Or.inl (hw _ (List.mem_of_getElem? (i := 56) rfl))) Via.refl rfl F_1688 (g := (mkF m 62 #[.val (.ref a), .val (.int (4 : Int32)), .val (.int (1 : Int32))] [(.ref a)])) rfl rfl (hb hby d1_62)
  refine Gl.st (g' := (mkF m 65 #[.val (.ref a), .val (.int (4 : Int32)), .val (.int (1 : Int32))] [(.ref b1460)])) (fun τ κ => st1709 _ κ) ?_
  obtain ⟨T1710, h1710, X1710, e1710, E1710, A1710, D1710, -, st1710⟩ := newO X1709 hx hZ hown (hw _ (List.mem_of_getElem? (i := 32) rfl)) (hw _ (List.mem_of_getElem? (i := 33) rfl)) (hw _ (List.mem_of_getElem? (i := 34) rfl)) e1709 (g := (mkF m 65 #[.val (.ref a), .val (.int (4 : Int32)), .val (.int (1 : Int32))] [(.ref b1460)])) rfl (hb hby d1_65) (by decide) (by decide)
  obtain ⟨b1710, g1710⟩ : ∃ z, z = T1683.heap.size := ⟨_, rfl⟩
  rw [← g1710] at A1710 D1710 st1710
  have ne_a_b1710 : a ≠ b1710 := Nat.ne_of_lt (Nat.lt_of_lt_of_le E_1684.lt (Nat.le_of_eq g1710.symm))
  have ne_de_b1710 : de ≠ b1710 := Nat.ne_of_lt (Nat.lt_of_lt_of_le V_1686.lt (Nat.le_of_eq g1710.symm))
  have ne_b1424_b1710 : b1424 ≠ b1710 := Nat.ne_of_lt (Nat.lt_of_lt_of_le E_1691.lt (Nat.le_of_eq g1710.symm))
  have ne_b1460_b1710 : b1460 ≠ b1710 := Nat.ne_of_lt (Nat.lt_of_lt_of_le Ec1683.lt (Nat.le_of_eq g1710.symm))
  have ne_b1508_b1710 : b1508 ≠ b1710 := Nat.ne_of_lt (Nat.lt_of_lt_of_le E_1699.lt (Nat.le_of_eq g1710.symm))
  have ne_b1568_b1710 : b1568 ≠ b1710 := Nat.ne_of_lt (Nat.lt_of_lt_of_le V_1703.lt (Nat.le_of_eq g1710.symm))
  have ne_b1634_b1710 : b1634 ≠ b1710 := Nat.ne_of_lt (Nat.lt_of_lt_of_le E_1704.lt (Nat.le_of_eq g1710.symm))
  have ne_b1683_b1710 : b1683 ≠ b1710 := Nat.ne_of_lt (Nat.lt_of_lt_of_le V1683.lt (Nat.le_of_eq g1710.symm))
  have E_1711 := E_1684.ext E1710
  have S_1712 := S_1685.ext E1710
  have V_1713 := V_1686.ext E1710
  have F_1714 := F_1687.ext E1710
  have F_1715 := F_1688.ext E1710
  have F_1716 := F_1689.ext E1710
  have F_1717 := F_1690.ext E1710
  have E_1718 := E_1691.ext E1710
  have F_1719 := F_1692.ext E1710
  have F_1720 := F_1693.ext E1710
  have F_1721 := F_1694.ext E1710
  have E_1722 := Ec1683.ext E1710
  have E_1723 := E_1699.ext E1710
  have F_1724 := F_1700.ext E1710
  have F_1725 := F_1701.ext E1710
  have F_1726 := F_1702.ext E1710
  have V_1727 := V_1703.ext E1710
  have E_1728 := E_1704.ext E1710
  have F_1729 := F_1705.ext E1710
  have F_1730 := F_1706.ext E1710
  have F_1731 := F_1707.ext E1710
  have F_1732 := FM1683.ext E1710
  have F_1733 := FE1683.ext E1710
  have F_1734 := FS1683.ext E1710
  have V_1735 := V1683.ext E1710
  have g_b1710 : n0 ≤ b1710 := Nat.le_trans Z1683 (Nat.le_of_eq g1710.symm)
  have sz_b1710 : h0.size ≤ b1710 := Nat.le_trans K1683.1 (Nat.le_of_eq g1710.symm)
  have Z1710 : n0 ≤ h1710.size := Nat.le_trans Z1683 E1710.1
  have K1710 : Keep h0 h1710 [a] := K1683.ext E1710
  have F_1736 : Fld Z h1710 b1710 "java/util/AbstractList" "modCount" "I" (.int (0 : Int32)) := D1710 (Or.inl (hw _ (List.mem_of_getElem? (i := 52) rfl))) (ty := .int) (by decide)
  have F_1737 : Fld Z h1710 b1710 "java/util/ArrayList" "elementData" "[Ljava/lang/Object;" .null := D1710 (Or.inl (hw _ (List.mem_of_getElem? (i := 55) rfl))) (ty := (.array (.object "java/lang/Object"))) (by decide)
  have F_1738 : Fld Z h1710 b1710 "java/util/ArrayList" "size" "I" (.int (0 : Int32)) := D1710 (Or.inl (hw _ (List.mem_of_getElem? (i := 80) rfl))) (ty := .int) (by decide)
  refine Gl.st (g' := (mkF m 68 #[.val (.ref a), .val (.int (4 : Int32)), .val (.int (1 : Int32))] [(.ref b1710), (.ref b1460)])) (fun τ κ => st1710 _ κ) ?_
  refine Gl.st (g' := (mkF m 69 #[.val (.ref a), .val (.int (4 : Int32)), .val (.int (1 : Int32))] [(.ref b1710), (.ref b1710), (.ref b1460)])) (fun τ κ => XS.dup X1710.here hx rfl (hb hby d1_68) rfl rfl κ) ?_
  obtain ⟨rv1739, _, ⟨T1739, L1739, k1739, n1739⟩, -, X1739, ⟨Lc1739, hQ1739, l1739, y1739, z1739⟩, st1739⟩ := X1710.specialBack hx (y := (⟨"java/util/ArrayList", "<init>", "()V"⟩ : MethodName)) rfl hown (mvT hZ (hw _ (List.mem_of_getElem? (i := 35) rfl))) (mvT hZ (hw _ (List.mem_of_getElem? (i := 36) rfl))) (mvT hZ (hw _ (List.mem_of_getElem? (i := 37) rfl))) (by decide) (backOf (W := 2) (rm5 l Z a0 hw [] b1710 de h1710 n0 Z1710 A1710 g_b1710 S_1712 F_1736 F_1737 F_1738) hZ (hw _ (List.mem_of_getElem? (i := 37) rfl)) (hw _ (List.mem_of_getElem? (i := 34) rfl)) (by decide) (by decide)) (g := (mkF m 69 #[.val (.ref a), .val (.int (4 : Int32)), .val (.int (1 : Int32))] [(.ref b1710), (.ref b1710), (.ref b1460)])) rfl (by rw [hml]; rfl) (Steps.refl _) (a := b1710) (argsL := []) (rest := [(.ref b1710), (.ref b1460)]) (lenOf pd_0 rfl) rfl (by show 2 * 0 + _ ≤ _; exact Nat.le_of_eq rfl) (hb hby d1_69) (fun _ _ => ⟨rfl, e1710, (by decide : 7 + 0 ≤ _), (by decide : 35 + 0 ≤ _)⟩)
  dsimp only [Pt.U, Pt.locs, Pt.cells, Pt.slots] at X1739 l1739 y1739 z1739 st1739 hQ1739
  subst l1739 y1739 z1739
  obtain ⟨rfl, N1739q, Kc1739, Ec1739, FM1739, FE1739, FS1739⟩ := hQ1739
  have E_1740 := E_1711.keep Kc1739
  have S_1741 := Sta.keepX S_1712 Kc1739 (allS (P := fun x => ∃ c : Cell, h1710[x]? = some c ∧ ∀ q, c.vm ≠ .statics q) A1710.cell all0)
  have V_1742 := V_1713.keep Kc1739 (ninS ne_de_b1710 nin0)
  have F_1743 := F_1714.keep Kc1739 (ninS ne_a_b1710 nin0)
  have F_1744 := F_1715.keep Kc1739 (ninS ne_a_b1710 nin0)
  have F_1745 := F_1716.keep Kc1739 (ninS ne_a_b1710 nin0)
  have F_1746 := F_1717.keep Kc1739 (ninS ne_a_b1710 nin0)
  have E_1747 := E_1718.keep Kc1739
  have F_1748 := F_1719.keep Kc1739 (ninS ne_b1424_b1710 nin0)
  have F_1749 := F_1720.keep Kc1739 (ninS ne_b1424_b1710 nin0)
  have F_1750 := F_1721.keep Kc1739 (ninS ne_b1424_b1710 nin0)
  have E_1751 := E_1722.keep Kc1739
  have E_1752 := E_1723.keep Kc1739
  have F_1753 := F_1724.keep Kc1739 (ninS ne_b1508_b1710 nin0)
  have F_1754 := F_1725.keep Kc1739 (ninS ne_b1508_b1710 nin0)
  have F_1755 := F_1726.keep Kc1739 (ninS ne_b1508_b1710 nin0)
  have V_1756 := V_1727.keep Kc1739 (ninS ne_b1568_b1710 nin0)
  have E_1757 := E_1728.keep Kc1739
  have F_1758 := F_1729.keep Kc1739 (ninS ne_b1634_b1710 nin0)
  have F_1759 := F_1730.keep Kc1739 (ninS ne_b1634_b1710 nin0)
  have F_1760 := F_1731.keep Kc1739 (ninS ne_b1634_b1710 nin0)
  have F_1761 := F_1732.keep Kc1739 (ninS ne_b1460_b1710 nin0)
  have F_1762 := F_1733.keep Kc1739 (ninS ne_b1460_b1710 nin0)
  have F_1763 := F_1734.keep Kc1739 (ninS ne_b1460_b1710 nin0)
  have V_1764 := V_1735.keep Kc1739 (ninS ne_b1683_b1710 nin0)
  have E_1765 := A1710.keep Kc1739
  have N1739 := Fr.app N1683 N1739q
  have Z1739 : n0 ≤ T1739.heap.size := Nat.le_trans Z1710 Kc1739.1
  have K1739 : Keep h0 T1739.heap [a] := K1710.trans Kc1739 (allS (Or.inr sz_b1710) all0)
  refine Gl.st (g' := (mkF m 72 #[.val (.ref a), .val (.int (4 : Int32)), .val (.int (1 : Int32))] [(.ref b1710), (.ref b1460)])) (fun τ κ => st1739.trans κ) ?_
  obtain ⟨cq1769, kq1769, q1769a, q1769b, q1769c⟩ := isOf hZ rfl E_1751
  obtain ⟨rv1769, _, ⟨T1769, L1769, k1769, n1769⟩, -, X1769, ⟨Lc1769, hQ1769, l1769, y1769, z1769⟩, st1769⟩ := X1739.interfaceBack hx (xi := (⟨"java/util/List", "add", "(Ljava/lang/Object;)Z"⟩ : MethodName)) (y := (⟨"java/util/ArrayList", "add", "(Ljava/lang/Object;)Z"⟩ : MethodName)) hown (mvT hZ (hw _ (List.mem_of_getElem? (i := 68) rfl))) (mvT hZ (hw _ (List.mem_of_getElem? (i := 69) rfl))) (mvT hZ (hw _ (List.mem_of_getElem? (i := 70) rfl))) (mvT hZ (hw _ (List.mem_of_getElem? (i := 71) rfl))) (mvT hZ (hw _ (List.mem_of_getElem? (i := 72) rfl))) (mvT hZ (hw _ (List.mem_of_getElem? (i := 73) rfl))) (mvT hZ (hw _ (List.mem_of_getElem? (i := 74) rfl))) (mvT hZ (hw _ (List.mem_of_getElem? (i := 75) rfl))) (by decide) (backOf (W := 0) (rm_Be1 l Z a0 hw [] b1460 b1710 b1683 kk1683 (1 : Int32) vs1683 T1739.heap n0 Z1739 E_1751 g_b1460 F_1761 F_1762 F_1763 g_b1683 ne_b1460_b1683 V_1764 O1683 Ec1739) hZ (hw _ (List.mem_of_getElem? (i := 76) rfl)) (hw _ (List.mem_of_getElem? (i := 34) rfl)) (by decide) (by decide)) q1769a q1769b q1769c (g := (mkF m 72 #[.val (.ref a), .val (.int (4 : Int32)), .val (.int (1 : Int32))] [(.ref b1710), (.ref b1460)])) rfl (by rw [hml]; rfl) (Steps.refl _) (argsL := [(.ref b1710)]) (rest := []) (lenOf pd_6 rfl) rfl (by show 2 * 0 + _ ≤ _; exact Nat.le_of_eq rfl) (hb hby d1_72) (fun _ _ => ⟨rfl, rfl, (by decide : 7 + 0 ≤ _), (by decide : 35 + 0 ≤ _)⟩)
  dsimp only [Pt.U, Pt.locs, Pt.cells, Pt.slots] at X1769 l1769 y1769 z1769 st1769 hQ1769
  subst l1769 y1769 z1769
  obtain ⟨vs1769, rfl, N1769q, Kc1769, Ec1769, FM1769, FE1769, FS1769, V1769⟩ := hQ1769
  have E_1770 := E_1740.keep Kc1769
  have S_1771 := Sta.keepX S_1741 Kc1769 (allS (P := fun x => ∃ c : Cell, T1739.heap[x]? = some c ∧ ∀ q, c.vm ≠ .statics q) E_1751.cell (allS (P := fun x => ∃ c : Cell, T1739.heap[x]? = some c ∧ ∀ q, c.vm ≠ .statics q) (Arv.cellX V_1764) all0))
  have V_1772 := V_1742.keep Kc1769 (ninS ne_de_b1460 (ninS ne_de_b1683 nin0))
  have F_1773 := F_1743.keep Kc1769 (ninS ne_a_b1460 (ninS ne_a_b1683 nin0))
  have F_1774 := F_1744.keep Kc1769 (ninS ne_a_b1460 (ninS ne_a_b1683 nin0))
  have F_1775 := F_1745.keep Kc1769 (ninS ne_a_b1460 (ninS ne_a_b1683 nin0))
  have F_1776 := F_1746.keep Kc1769 (ninS ne_a_b1460 (ninS ne_a_b1683 nin0))
  have E_1777 := E_1747.keep Kc1769
  have F_1778 := F_1748.keep Kc1769 (ninS ne_b1424_b1460 (ninS ne_b1424_b1683 nin0))
  have F_1779 := F_1749.keep Kc1769 (ninS ne_b1424_b1460 (ninS ne_b1424_b1683 nin0))
  have F_1780 := F_1750.keep Kc1769 (ninS ne_b1424_b1460 (ninS ne_b1424_b1683 nin0))
  have E_1781 := E_1751.keep Kc1769
  have E_1782 := E_1752.keep Kc1769
  have F_1783 := F_1753.keep Kc1769 (ninS (Ne.symm ne_b1460_b1508) (ninS ne_b1508_b1683 nin0))
  have F_1784 := F_1754.keep Kc1769 (ninS (Ne.symm ne_b1460_b1508) (ninS ne_b1508_b1683 nin0))
  have F_1785 := F_1755.keep Kc1769 (ninS (Ne.symm ne_b1460_b1508) (ninS ne_b1508_b1683 nin0))
  have V_1786 := V_1756.keep Kc1769 (ninS (Ne.symm ne_b1460_b1568) (ninS ne_b1568_b1683 nin0))
  have E_1787 := E_1757.keep Kc1769
  have F_1788 := F_1758.keep Kc1769 (ninS (Ne.symm ne_b1460_b1634) (ninS ne_b1634_b1683 nin0))
  have F_1789 := F_1759.keep Kc1769 (ninS (Ne.symm ne_b1460_b1634) (ninS ne_b1634_b1683 nin0))
  have F_1790 := F_1760.keep Kc1769 (ninS (Ne.symm ne_b1460_b1634) (ninS ne_b1634_b1683 nin0))
  have E_1795 := Ec1739.keep Kc1769
  have F_1796 := FM1739.keep Kc1769 (ninS (Ne.symm ne_b1460_b1710) (ninS (Ne.symm ne_b1683_b1710) nin0))
  have F_1797 := FE1739.keep Kc1769 (ninS (Ne.symm ne_b1460_b1710) (ninS (Ne.symm ne_b1683_b1710) nin0))
  have F_1798 := FS1739.keep Kc1769 (ninS (Ne.symm ne_b1460_b1710) (ninS (Ne.symm ne_b1683_b1710) nin0))
  have N1769 := Fr.app N1739 N1769q
  have Z1769 : n0 ≤ T1769.heap.size := Nat.le_trans Z1739 Kc1769.1
  have K1769 : Keep h0 T1769.heap [a] := K1739.trans Kc1769 (allS (Or.inr sz_b1460) (allS (Or.inr sz_b1683) all0))
  refine Gl.st (g' := (mkF m 77 #[.val (.ref a), .val (.int (4 : Int32)), .val (.int (1 : Int32))] [(.int (1 : Int32))])) (fun τ κ => st1769.trans κ) ?_
  refine Gl.st (g' := (mkF m 78 #[.val (.ref a), .val (.int (4 : Int32)), .val (.int (1 : Int32))] [])) (fun τ κ => XS.pop X1769.here hx rfl (hb hby d1_77) rfl rfl κ) ?_
  refine Gl.st (g' := (mkF m 81 #[.val (.ref a), .val (.int (4 : Int32)), .val (.int (2 : Int32))] [])) (fun τ κ => XS.iinc X1769.here hx rfl (hb hby d1_78) rfl (l' := #[.val (.ref a), .val (.int (4 : Int32)), .val (.int (2 : Int32))]) rfl κ) ?_
  refine Gl.st (g' := (mkF m 56 #[.val (.ref a), .val (.int (4 : Int32)), .val (.int (2 : Int32))] [])) (fun τ κ => XS.goto X1769.here hx rfl (pc0 := 81) (pc' := 56) rfl (hb hby d1_81) (by decide) (by decide) κ) ?_
  refine Gl.st (g' := (mkF m 57 #[.val (.ref a), .val (.int (4 : Int32)), .val (.int (2 : Int32))] [(.int (2 : Int32))])) (fun τ κ => XS.iloadN X1769.here hx rfl (hb hby d1_56) rfl κ) ?_
  refine Gl.st (g' := (mkF m 58 #[.val (.ref a), .val (.int (4 : Int32)), .val (.int (2 : Int32))] [(.int (4 : Int32)), (.int (2 : Int32))])) (fun τ κ => XS.iloadN X1769.here hx rfl (hb hby d1_57) rfl κ) ?_
  have hc1799 : (2 : Int32) < (4 : Int32) := by decide
  refine Gl.st (g' := (mkF m 61 #[.val (.ref a), .val (.int (4 : Int32)), .val (.int (2 : Int32))] [])) (fun τ κ => XS.icmpNo X1769.here hx rfl (hb hby d1_58) rfl (tlt hc1799).2.1 κ) ?_
  refine Gl.st (g' := (mkF m 62 #[.val (.ref a), .val (.int (4 : Int32)), .val (.int (2 : Int32))] [(.ref a)])) (fun τ κ => XS.aloadN X1769.here hx rfl (hb hby d1_61) rfl rfl κ) ?_
  obtain ⟨T1800, X1800, e1800, st1800⟩ := getF X1769 hx hZ hown (host := "") (Or.inl (hw _ (List.mem_of_getElem? (i := 56) rfl))) Via.refl rfl F_1774 (g := (mkF m 62 #[.val (.ref a), .val (.int (4 : Int32)), .val (.int (2 : Int32))] [(.ref a)])) rfl rfl (hb hby d1_62)
  refine Gl.st (g' := (mkF m 65 #[.val (.ref a), .val (.int (4 : Int32)), .val (.int (2 : Int32))] [(.ref b1460)])) (fun τ κ => st1800 _ κ) ?_
  obtain ⟨T1801, h1801, X1801, e1801, E1801, A1801, D1801, -, st1801⟩ := newO X1800 hx hZ hown (hw _ (List.mem_of_getElem? (i := 32) rfl)) (hw _ (List.mem_of_getElem? (i := 33) rfl)) (hw _ (List.mem_of_getElem? (i := 34) rfl)) e1800 (g := (mkF m 65 #[.val (.ref a), .val (.int (4 : Int32)), .val (.int (2 : Int32))] [(.ref b1460)])) rfl (hb hby d1_65) (by decide) (by decide)
  obtain ⟨b1801, g1801⟩ : ∃ z, z = T1769.heap.size := ⟨_, rfl⟩
  rw [← g1801] at A1801 D1801 st1801
  have ne_a_b1801 : a ≠ b1801 := Nat.ne_of_lt (Nat.lt_of_lt_of_le E_1770.lt (Nat.le_of_eq g1801.symm))
  have ne_de_b1801 : de ≠ b1801 := Nat.ne_of_lt (Nat.lt_of_lt_of_le V_1772.lt (Nat.le_of_eq g1801.symm))
  have ne_b1424_b1801 : b1424 ≠ b1801 := Nat.ne_of_lt (Nat.lt_of_lt_of_le E_1777.lt (Nat.le_of_eq g1801.symm))
  have ne_b1460_b1801 : b1460 ≠ b1801 := Nat.ne_of_lt (Nat.lt_of_lt_of_le Ec1769.lt (Nat.le_of_eq g1801.symm))
  have ne_b1508_b1801 : b1508 ≠ b1801 := Nat.ne_of_lt (Nat.lt_of_lt_of_le E_1782.lt (Nat.le_of_eq g1801.symm))
  have ne_b1568_b1801 : b1568 ≠ b1801 := Nat.ne_of_lt (Nat.lt_of_lt_of_le V_1786.lt (Nat.le_of_eq g1801.symm))
  have ne_b1634_b1801 : b1634 ≠ b1801 := Nat.ne_of_lt (Nat.lt_of_lt_of_le E_1787.lt (Nat.le_of_eq g1801.symm))
  have ne_b1710_b1801 : b1710 ≠ b1801 := Nat.ne_of_lt (Nat.lt_of_lt_of_le E_1795.lt (Nat.le_of_eq g1801.symm))
  have ne_b1683_b1801 : b1683 ≠ b1801 := Nat.ne_of_lt (Nat.lt_of_lt_of_le V1769.lt (Nat.le_of_eq g1801.symm))
  have E_1802 := E_1770.ext E1801
  have S_1803 := S_1771.ext E1801
  have V_1804 := V_1772.ext E1801
  have F_1805 := F_1773.ext E1801
  have F_1806 := F_1774.ext E1801
  have F_1807 := F_1775.ext E1801
  have F_1808 := F_1776.ext E1801
  have E_1809 := E_1777.ext E1801
  have F_1810 := F_1778.ext E1801
  have F_1811 := F_1779.ext E1801
  have F_1812 := F_1780.ext E1801
  have E_1813 := Ec1769.ext E1801
  have E_1814 := E_1782.ext E1801
  have F_1815 := F_1783.ext E1801
  have F_1816 := F_1784.ext E1801
  have F_1817 := F_1785.ext E1801
  have V_1818 := V_1786.ext E1801
  have E_1819 := E_1787.ext E1801
  have F_1820 := F_1788.ext E1801
  have F_1821 := F_1789.ext E1801
  have F_1822 := F_1790.ext E1801
  have E_1823 := E_1795.ext E1801
  have F_1824 := F_1796.ext E1801
  have F_1825 := F_1797.ext E1801
  have F_1826 := F_1798.ext E1801
  have F_1827 := FM1769.ext E1801
  have F_1828 := FE1769.ext E1801
  have F_1829 := FS1769.ext E1801
  have V_1830 := V1769.ext E1801
  have g_b1801 : n0 ≤ b1801 := Nat.le_trans Z1769 (Nat.le_of_eq g1801.symm)
  have sz_b1801 : h0.size ≤ b1801 := Nat.le_trans K1769.1 (Nat.le_of_eq g1801.symm)
  have Z1801 : n0 ≤ h1801.size := Nat.le_trans Z1769 E1801.1
  have K1801 : Keep h0 h1801 [a] := K1769.ext E1801
  have F_1831 : Fld Z h1801 b1801 "java/util/AbstractList" "modCount" "I" (.int (0 : Int32)) := D1801 (Or.inl (hw _ (List.mem_of_getElem? (i := 52) rfl))) (ty := .int) (by decide)
  have F_1832 : Fld Z h1801 b1801 "java/util/ArrayList" "elementData" "[Ljava/lang/Object;" .null := D1801 (Or.inl (hw _ (List.mem_of_getElem? (i := 55) rfl))) (ty := (.array (.object "java/lang/Object"))) (by decide)
  have F_1833 : Fld Z h1801 b1801 "java/util/ArrayList" "size" "I" (.int (0 : Int32)) := D1801 (Or.inl (hw _ (List.mem_of_getElem? (i := 80) rfl))) (ty := .int) (by decide)
  refine Gl.st (g' := (mkF m 68 #[.val (.ref a), .val (.int (4 : Int32)), .val (.int (2 : Int32))] [(.ref b1801), (.ref b1460)])) (fun τ κ => st1801 _ κ) ?_
  refine Gl.st (g' := (mkF m 69 #[.val (.ref a), .val (.int (4 : Int32)), .val (.int (2 : Int32))] [(.ref b1801), (.ref b1801), (.ref b1460)])) (fun τ κ => XS.dup X1801.here hx rfl (hb hby d1_68) rfl rfl κ) ?_
  obtain ⟨rv1834, _, ⟨T1834, L1834, k1834, n1834⟩, -, X1834, ⟨Lc1834, hQ1834, l1834, y1834, z1834⟩, st1834⟩ := X1801.specialBack hx (y := (⟨"java/util/ArrayList", "<init>", "()V"⟩ : MethodName)) rfl hown (mvT hZ (hw _ (List.mem_of_getElem? (i := 35) rfl))) (mvT hZ (hw _ (List.mem_of_getElem? (i := 36) rfl))) (mvT hZ (hw _ (List.mem_of_getElem? (i := 37) rfl))) (by decide) (backOf (W := 2) (rm5 l Z a0 hw [] b1801 de h1801 n0 Z1801 A1801 g_b1801 S_1803 F_1831 F_1832 F_1833) hZ (hw _ (List.mem_of_getElem? (i := 37) rfl)) (hw _ (List.mem_of_getElem? (i := 34) rfl)) (by decide) (by decide)) (g := (mkF m 69 #[.val (.ref a), .val (.int (4 : Int32)), .val (.int (2 : Int32))] [(.ref b1801), (.ref b1801), (.ref b1460)])) rfl (by rw [hml]; rfl) (Steps.refl _) (a := b1801) (argsL := []) (rest := [(.ref b1801), (.ref b1460)]) (lenOf pd_0 rfl) rfl (by show 2 * 0 + _ ≤ _; exact Nat.le_of_eq rfl) (hb hby d1_69) (fun _ _ => ⟨rfl, e1801, (by decide : 8 + 0 ≤ _), (by decide : 38 + 0 ≤ _)⟩)
  dsimp only [Pt.U, Pt.locs, Pt.cells, Pt.slots] at X1834 l1834 y1834 z1834 st1834 hQ1834
  subst l1834 y1834 z1834
  obtain ⟨rfl, N1834q, Kc1834, Ec1834, FM1834, FE1834, FS1834⟩ := hQ1834
  have E_1835 := E_1802.keep Kc1834
  have S_1836 := Sta.keepX S_1803 Kc1834 (allS (P := fun x => ∃ c : Cell, h1801[x]? = some c ∧ ∀ q, c.vm ≠ .statics q) A1801.cell all0)
  have V_1837 := V_1804.keep Kc1834 (ninS ne_de_b1801 nin0)
  have F_1838 := F_1805.keep Kc1834 (ninS ne_a_b1801 nin0)
  have F_1839 := F_1806.keep Kc1834 (ninS ne_a_b1801 nin0)
  have F_1840 := F_1807.keep Kc1834 (ninS ne_a_b1801 nin0)
  have F_1841 := F_1808.keep Kc1834 (ninS ne_a_b1801 nin0)
  have E_1842 := E_1809.keep Kc1834
  have F_1843 := F_1810.keep Kc1834 (ninS ne_b1424_b1801 nin0)
  have F_1844 := F_1811.keep Kc1834 (ninS ne_b1424_b1801 nin0)
  have F_1845 := F_1812.keep Kc1834 (ninS ne_b1424_b1801 nin0)
  have E_1846 := E_1813.keep Kc1834
  have E_1847 := E_1814.keep Kc1834
  have F_1848 := F_1815.keep Kc1834 (ninS ne_b1508_b1801 nin0)
  have F_1849 := F_1816.keep Kc1834 (ninS ne_b1508_b1801 nin0)
  have F_1850 := F_1817.keep Kc1834 (ninS ne_b1508_b1801 nin0)
  have V_1851 := V_1818.keep Kc1834 (ninS ne_b1568_b1801 nin0)
  have E_1852 := E_1819.keep Kc1834
  have F_1853 := F_1820.keep Kc1834 (ninS ne_b1634_b1801 nin0)
  have F_1854 := F_1821.keep Kc1834 (ninS ne_b1634_b1801 nin0)
  have F_1855 := F_1822.keep Kc1834 (ninS ne_b1634_b1801 nin0)
  have E_1856 := E_1823.keep Kc1834
  have F_1857 := F_1824.keep Kc1834 (ninS ne_b1710_b1801 nin0)
  have F_1858 := F_1825.keep Kc1834 (ninS ne_b1710_b1801 nin0)
  have F_1859 := F_1826.keep Kc1834 (ninS ne_b1710_b1801 nin0)
  have F_1860 := F_1827.keep Kc1834 (ninS ne_b1460_b1801 nin0)
  have F_1861 := F_1828.keep Kc1834 (ninS ne_b1460_b1801 nin0)
  have F_1862 := F_1829.keep Kc1834 (ninS ne_b1460_b1801 nin0)
  have V_1863 := V_1830.keep Kc1834 (ninS ne_b1683_b1801 nin0)
  have E_1864 := A1801.keep Kc1834
  have N1834 := Fr.app N1769 N1834q
  have Z1834 : n0 ≤ T1834.heap.size := Nat.le_trans Z1801 Kc1834.1
  have K1834 : Keep h0 T1834.heap [a] := K1801.trans Kc1834 (allS (Or.inr sz_b1801) all0)
  refine Gl.st (g' := (mkF m 72 #[.val (.ref a), .val (.int (4 : Int32)), .val (.int (2 : Int32))] [(.ref b1801), (.ref b1460)])) (fun τ κ => st1834.trans κ) ?_
  obtain ⟨cq1868, kq1868, q1868a, q1868b, q1868c⟩ := isOf hZ rfl E_1846
  obtain ⟨rv1868, _, ⟨T1868, L1868, k1868, n1868⟩, -, X1868, ⟨Lc1868, hQ1868, l1868, y1868, z1868⟩, st1868⟩ := X1834.interfaceBack hx (xi := (⟨"java/util/List", "add", "(Ljava/lang/Object;)Z"⟩ : MethodName)) (y := (⟨"java/util/ArrayList", "add", "(Ljava/lang/Object;)Z"⟩ : MethodName)) hown (mvT hZ (hw _ (List.mem_of_getElem? (i := 68) rfl))) (mvT hZ (hw _ (List.mem_of_getElem? (i := 69) rfl))) (mvT hZ (hw _ (List.mem_of_getElem? (i := 70) rfl))) (mvT hZ (hw _ (List.mem_of_getElem? (i := 71) rfl))) (mvT hZ (hw _ (List.mem_of_getElem? (i := 72) rfl))) (mvT hZ (hw _ (List.mem_of_getElem? (i := 73) rfl))) (mvT hZ (hw _ (List.mem_of_getElem? (i := 74) rfl))) (mvT hZ (hw _ (List.mem_of_getElem? (i := 75) rfl))) (by decide) (backOf (W := 0) (rm_Be2 l Z a0 hw [] b1460 b1801 b1683 kk1683 (2 : Int32) vs1769 T1834.heap n0 Z1834 E_1846 g_b1460 F_1860 F_1861 F_1862 g_b1683 ne_b1460_b1683 V_1863 O1683 Ec1834) hZ (hw _ (List.mem_of_getElem? (i := 76) rfl)) (hw _ (List.mem_of_getElem? (i := 34) rfl)) (by decide) (by decide)) q1868a q1868b q1868c (g := (mkF m 72 #[.val (.ref a), .val (.int (4 : Int32)), .val (.int (2 : Int32))] [(.ref b1801), (.ref b1460)])) rfl (by rw [hml]; rfl) (Steps.refl _) (argsL := [(.ref b1801)]) (rest := []) (lenOf pd_6 rfl) rfl (by show 2 * 0 + _ ≤ _; exact Nat.le_of_eq rfl) (hb hby d1_72) (fun _ _ => ⟨rfl, rfl, (by decide : 8 + 0 ≤ _), (by decide : 38 + 0 ≤ _)⟩)
  dsimp only [Pt.U, Pt.locs, Pt.cells, Pt.slots] at X1868 l1868 y1868 z1868 st1868 hQ1868
  subst l1868 y1868 z1868
  obtain ⟨vs1868, rfl, N1868q, Kc1868, Ec1868, FM1868, FE1868, FS1868, V1868⟩ := hQ1868
  have E_1869 := E_1835.keep Kc1868
  have S_1870 := Sta.keepX S_1836 Kc1868 (allS (P := fun x => ∃ c : Cell, T1834.heap[x]? = some c ∧ ∀ q, c.vm ≠ .statics q) E_1846.cell (allS (P := fun x => ∃ c : Cell, T1834.heap[x]? = some c ∧ ∀ q, c.vm ≠ .statics q) (Arv.cellX V_1863) all0))
  have V_1871 := V_1837.keep Kc1868 (ninS ne_de_b1460 (ninS ne_de_b1683 nin0))
  have F_1872 := F_1838.keep Kc1868 (ninS ne_a_b1460 (ninS ne_a_b1683 nin0))
  have F_1873 := F_1839.keep Kc1868 (ninS ne_a_b1460 (ninS ne_a_b1683 nin0))
  have F_1874 := F_1840.keep Kc1868 (ninS ne_a_b1460 (ninS ne_a_b1683 nin0))
  have F_1875 := F_1841.keep Kc1868 (ninS ne_a_b1460 (ninS ne_a_b1683 nin0))
  have E_1876 := E_1842.keep Kc1868
  have F_1877 := F_1843.keep Kc1868 (ninS ne_b1424_b1460 (ninS ne_b1424_b1683 nin0))
  have F_1878 := F_1844.keep Kc1868 (ninS ne_b1424_b1460 (ninS ne_b1424_b1683 nin0))
  have F_1879 := F_1845.keep Kc1868 (ninS ne_b1424_b1460 (ninS ne_b1424_b1683 nin0))
  have E_1880 := E_1846.keep Kc1868
  have E_1881 := E_1847.keep Kc1868
  have F_1882 := F_1848.keep Kc1868 (ninS (Ne.symm ne_b1460_b1508) (ninS ne_b1508_b1683 nin0))
  have F_1883 := F_1849.keep Kc1868 (ninS (Ne.symm ne_b1460_b1508) (ninS ne_b1508_b1683 nin0))
  have F_1884 := F_1850.keep Kc1868 (ninS (Ne.symm ne_b1460_b1508) (ninS ne_b1508_b1683 nin0))
  have V_1885 := V_1851.keep Kc1868 (ninS (Ne.symm ne_b1460_b1568) (ninS ne_b1568_b1683 nin0))
  have E_1886 := E_1852.keep Kc1868
  have F_1887 := F_1853.keep Kc1868 (ninS (Ne.symm ne_b1460_b1634) (ninS ne_b1634_b1683 nin0))
  have F_1888 := F_1854.keep Kc1868 (ninS (Ne.symm ne_b1460_b1634) (ninS ne_b1634_b1683 nin0))
  have F_1889 := F_1855.keep Kc1868 (ninS (Ne.symm ne_b1460_b1634) (ninS ne_b1634_b1683 nin0))
  have E_1890 := E_1856.keep Kc1868
  have F_1891 := F_1857.keep Kc1868 (ninS (Ne.symm ne_b1460_b1710) (ninS (Ne.symm ne_b1683_b1710) nin0))
  have F_1892 := F_1858.keep Kc1868 (ninS (Ne.symm ne_b1460_b1710) (ninS (Ne.symm ne_b1683_b1710) nin0))
  have F_1893 := F_1859.keep Kc1868 (ninS (Ne.symm ne_b1460_b1710) (ninS (Ne.symm ne_b1683_b1710) nin0))
  have E_1898 := Ec1834.keep Kc1868
  have F_1899 := FM1834.keep Kc1868 (ninS (Ne.symm ne_b1460_b1801) (ninS (Ne.symm ne_b1683_b1801) nin0))
  have F_1900 := FE1834.keep Kc1868 (ninS (Ne.symm ne_b1460_b1801) (ninS (Ne.symm ne_b1683_b1801) nin0))
  have F_1901 := FS1834.keep Kc1868 (ninS (Ne.symm ne_b1460_b1801) (ninS (Ne.symm ne_b1683_b1801) nin0))
  have N1868 := Fr.app N1834 N1868q
  have Z1868 : n0 ≤ T1868.heap.size := Nat.le_trans Z1834 Kc1868.1
  have K1868 : Keep h0 T1868.heap [a] := K1834.trans Kc1868 (allS (Or.inr sz_b1460) (allS (Or.inr sz_b1683) all0))
  refine Gl.st (g' := (mkF m 77 #[.val (.ref a), .val (.int (4 : Int32)), .val (.int (2 : Int32))] [(.int (1 : Int32))])) (fun τ κ => st1868.trans κ) ?_
  refine Gl.st (g' := (mkF m 78 #[.val (.ref a), .val (.int (4 : Int32)), .val (.int (2 : Int32))] [])) (fun τ κ => XS.pop X1868.here hx rfl (hb hby d1_77) rfl rfl κ) ?_
  refine Gl.st (g' := (mkF m 81 #[.val (.ref a), .val (.int (4 : Int32)), .val (.int (3 : Int32))] [])) (fun τ κ => XS.iinc X1868.here hx rfl (hb hby d1_78) rfl (l' := #[.val (.ref a), .val (.int (4 : Int32)), .val (.int (3 : Int32))]) rfl κ) ?_
  refine Gl.st (g' := (mkF m 56 #[.val (.ref a), .val (.int (4 : Int32)), .val (.int (3 : Int32))] [])) (fun τ κ => XS.goto X1868.here hx rfl (pc0 := 81) (pc' := 56) rfl (hb hby d1_81) (by decide) (by decide) κ) ?_
  refine Gl.st (g' := (mkF m 57 #[.val (.ref a), .val (.int (4 : Int32)), .val (.int (3 : Int32))] [(.int (3 : Int32))])) (fun τ κ => XS.iloadN X1868.here hx rfl (hb hby d1_56) rfl κ) ?_
  refine Gl.st (g' := (mkF m 58 #[.val (.ref a), .val (.int (4 : Int32)), .val (.int (3 : Int32))] [(.int (4 : Int32)), (.int (3 : Int32))])) (fun τ κ => XS.iloadN X1868.here hx rfl (hb hby d1_57) rfl κ) ?_
  have hc1902 : (3 : Int32) < (4 : Int32) := by decide
  refine Gl.st (g' := (mkF m 61 #[.val (.ref a), .val (.int (4 : Int32)), .val (.int (3 : Int32))] [])) (fun τ κ => XS.icmpNo X1868.here hx rfl (hb hby d1_58) rfl (tlt hc1902).2.1 κ) ?_
  refine Gl.st (g' := (mkF m 62 #[.val (.ref a), .val (.int (4 : Int32)), .val (.int (3 : Int32))] [(.ref a)])) (fun τ κ => XS.aloadN X1868.here hx rfl (hb hby d1_61) rfl rfl κ) ?_
  obtain ⟨T1903, X1903, e1903, st1903⟩ := getF X1868 hx hZ hown (host := "") (Or.inl (hw _ (List.mem_of_getElem? (i := 56) rfl))) Via.refl rfl F_1873 (g := (mkF m 62 #[.val (.ref a), .val (.int (4 : Int32)), .val (.int (3 : Int32))] [(.ref a)])) rfl rfl (hb hby d1_62)
  refine Gl.st (g' := (mkF m 65 #[.val (.ref a), .val (.int (4 : Int32)), .val (.int (3 : Int32))] [(.ref b1460)])) (fun τ κ => st1903 _ κ) ?_
  obtain ⟨T1904, h1904, X1904, e1904, E1904, A1904, D1904, -, st1904⟩ := newO X1903 hx hZ hown (hw _ (List.mem_of_getElem? (i := 32) rfl)) (hw _ (List.mem_of_getElem? (i := 33) rfl)) (hw _ (List.mem_of_getElem? (i := 34) rfl)) e1903 (g := (mkF m 65 #[.val (.ref a), .val (.int (4 : Int32)), .val (.int (3 : Int32))] [(.ref b1460)])) rfl (hb hby d1_65) (by decide) (by decide)
  obtain ⟨b1904, g1904⟩ : ∃ z, z = T1868.heap.size := ⟨_, rfl⟩
  rw [← g1904] at A1904 D1904 st1904
  have ne_a_b1904 : a ≠ b1904 := Nat.ne_of_lt (Nat.lt_of_lt_of_le E_1869.lt (Nat.le_of_eq g1904.symm))
  have ne_de_b1904 : de ≠ b1904 := Nat.ne_of_lt (Nat.lt_of_lt_of_le V_1871.lt (Nat.le_of_eq g1904.symm))
  have ne_b1424_b1904 : b1424 ≠ b1904 := Nat.ne_of_lt (Nat.lt_of_lt_of_le E_1876.lt (Nat.le_of_eq g1904.symm))
  have ne_b1460_b1904 : b1460 ≠ b1904 := Nat.ne_of_lt (Nat.lt_of_lt_of_le Ec1868.lt (Nat.le_of_eq g1904.symm))
  have ne_b1508_b1904 : b1508 ≠ b1904 := Nat.ne_of_lt (Nat.lt_of_lt_of_le E_1881.lt (Nat.le_of_eq g1904.symm))
  have ne_b1568_b1904 : b1568 ≠ b1904 := Nat.ne_of_lt (Nat.lt_of_lt_of_le V_1885.lt (Nat.le_of_eq g1904.symm))
  have ne_b1634_b1904 : b1634 ≠ b1904 := Nat.ne_of_lt (Nat.lt_of_lt_of_le E_1886.lt (Nat.le_of_eq g1904.symm))
  have ne_b1710_b1904 : b1710 ≠ b1904 := Nat.ne_of_lt (Nat.lt_of_lt_of_le E_1890.lt (Nat.le_of_eq g1904.symm))
  have ne_b1801_b1904 : b1801 ≠ b1904 := Nat.ne_of_lt (Nat.lt_of_lt_of_le E_1898.lt (Nat.le_of_eq g1904.symm))
  have ne_b1683_b1904 : b1683 ≠ b1904 := Nat.ne_of_lt (Nat.lt_of_lt_of_le V1868.lt (Nat.le_of_eq g1904.symm))
  have E_1905 := E_1869.ext E1904
  have S_1906 := S_1870.ext E1904
  have V_1907 := V_1871.ext E1904
  have F_1908 := F_1872.ext E1904
  have F_1909 := F_1873.ext E1904
  have F_1910 := F_1874.ext E1904
  have F_1911 := F_1875.ext E1904
  have E_1912 := E_1876.ext E1904
  have F_1913 := F_1877.ext E1904
  have F_1914 := F_1878.ext E1904
  have F_1915 := F_1879.ext E1904
  have E_1916 := Ec1868.ext E1904
  have E_1917 := E_1881.ext E1904
  have F_1918 := F_1882.ext E1904
  have F_1919 := F_1883.ext E1904
  have F_1920 := F_1884.ext E1904
  have V_1921 := V_1885.ext E1904
  have E_1922 := E_1886.ext E1904
  have F_1923 := F_1887.ext E1904
  have F_1924 := F_1888.ext E1904
  have F_1925 := F_1889.ext E1904
  have E_1926 := E_1890.ext E1904
  have F_1927 := F_1891.ext E1904
  have F_1928 := F_1892.ext E1904
  have F_1929 := F_1893.ext E1904
  have E_1930 := E_1898.ext E1904
  have F_1931 := F_1899.ext E1904
  have F_1932 := F_1900.ext E1904
  have F_1933 := F_1901.ext E1904
  have F_1934 := FM1868.ext E1904
  have F_1935 := FE1868.ext E1904
  have F_1936 := FS1868.ext E1904
  have V_1937 := V1868.ext E1904
  have g_b1904 : n0 ≤ b1904 := Nat.le_trans Z1868 (Nat.le_of_eq g1904.symm)
  have sz_b1904 : h0.size ≤ b1904 := Nat.le_trans K1868.1 (Nat.le_of_eq g1904.symm)
  have Z1904 : n0 ≤ h1904.size := Nat.le_trans Z1868 E1904.1
  have K1904 : Keep h0 h1904 [a] := K1868.ext E1904
  have F_1938 : Fld Z h1904 b1904 "java/util/AbstractList" "modCount" "I" (.int (0 : Int32)) := D1904 (Or.inl (hw _ (List.mem_of_getElem? (i := 52) rfl))) (ty := .int) (by decide)
  have F_1939 : Fld Z h1904 b1904 "java/util/ArrayList" "elementData" "[Ljava/lang/Object;" .null := D1904 (Or.inl (hw _ (List.mem_of_getElem? (i := 55) rfl))) (ty := (.array (.object "java/lang/Object"))) (by decide)
  have F_1940 : Fld Z h1904 b1904 "java/util/ArrayList" "size" "I" (.int (0 : Int32)) := D1904 (Or.inl (hw _ (List.mem_of_getElem? (i := 80) rfl))) (ty := .int) (by decide)
  refine Gl.st (g' := (mkF m 68 #[.val (.ref a), .val (.int (4 : Int32)), .val (.int (3 : Int32))] [(.ref b1904), (.ref b1460)])) (fun τ κ => st1904 _ κ) ?_
  refine Gl.st (g' := (mkF m 69 #[.val (.ref a), .val (.int (4 : Int32)), .val (.int (3 : Int32))] [(.ref b1904), (.ref b1904), (.ref b1460)])) (fun τ κ => XS.dup X1904.here hx rfl (hb hby d1_68) rfl rfl κ) ?_
  obtain ⟨rv1941, _, ⟨T1941, L1941, k1941, n1941⟩, -, X1941, ⟨Lc1941, hQ1941, l1941, y1941, z1941⟩, st1941⟩ := X1904.specialBack hx (y := (⟨"java/util/ArrayList", "<init>", "()V"⟩ : MethodName)) rfl hown (mvT hZ (hw _ (List.mem_of_getElem? (i := 35) rfl))) (mvT hZ (hw _ (List.mem_of_getElem? (i := 36) rfl))) (mvT hZ (hw _ (List.mem_of_getElem? (i := 37) rfl))) (by decide) (backOf (W := 2) (rm5 l Z a0 hw [] b1904 de h1904 n0 Z1904 A1904 g_b1904 S_1906 F_1938 F_1939 F_1940) hZ (hw _ (List.mem_of_getElem? (i := 37) rfl)) (hw _ (List.mem_of_getElem? (i := 34) rfl)) (by decide) (by decide)) (g := (mkF m 69 #[.val (.ref a), .val (.int (4 : Int32)), .val (.int (3 : Int32))] [(.ref b1904), (.ref b1904), (.ref b1460)])) rfl (by rw [hml]; rfl) (Steps.refl _) (a := b1904) (argsL := []) (rest := [(.ref b1904), (.ref b1460)]) (lenOf pd_0 rfl) rfl (by show 2 * 0 + _ ≤ _; exact Nat.le_of_eq rfl) (hb hby d1_69) (fun _ _ => ⟨rfl, e1904, (by decide : 9 + 0 ≤ _), (by decide : 41 + 0 ≤ _)⟩)
  dsimp only [Pt.U, Pt.locs, Pt.cells, Pt.slots] at X1941 l1941 y1941 z1941 st1941 hQ1941
  subst l1941 y1941 z1941
  obtain ⟨rfl, N1941q, Kc1941, Ec1941, FM1941, FE1941, FS1941⟩ := hQ1941
  have E_1942 := E_1905.keep Kc1941
  have S_1943 := Sta.keepX S_1906 Kc1941 (allS (P := fun x => ∃ c : Cell, h1904[x]? = some c ∧ ∀ q, c.vm ≠ .statics q) A1904.cell all0)
  have V_1944 := V_1907.keep Kc1941 (ninS ne_de_b1904 nin0)
  have F_1945 := F_1908.keep Kc1941 (ninS ne_a_b1904 nin0)
  have F_1946 := F_1909.keep Kc1941 (ninS ne_a_b1904 nin0)
  have F_1947 := F_1910.keep Kc1941 (ninS ne_a_b1904 nin0)
  have F_1948 := F_1911.keep Kc1941 (ninS ne_a_b1904 nin0)
  have E_1949 := E_1912.keep Kc1941
  have F_1950 := F_1913.keep Kc1941 (ninS ne_b1424_b1904 nin0)
  have F_1951 := F_1914.keep Kc1941 (ninS ne_b1424_b1904 nin0)
  have F_1952 := F_1915.keep Kc1941 (ninS ne_b1424_b1904 nin0)
  have E_1953 := E_1916.keep Kc1941
  have E_1954 := E_1917.keep Kc1941
  have F_1955 := F_1918.keep Kc1941 (ninS ne_b1508_b1904 nin0)
  have F_1956 := F_1919.keep Kc1941 (ninS ne_b1508_b1904 nin0)
  have F_1957 := F_1920.keep Kc1941 (ninS ne_b1508_b1904 nin0)
  have V_1958 := V_1921.keep Kc1941 (ninS ne_b1568_b1904 nin0)
  have E_1959 := E_1922.keep Kc1941
  have F_1960 := F_1923.keep Kc1941 (ninS ne_b1634_b1904 nin0)
  have F_1961 := F_1924.keep Kc1941 (ninS ne_b1634_b1904 nin0)
  have F_1962 := F_1925.keep Kc1941 (ninS ne_b1634_b1904 nin0)
  have E_1963 := E_1926.keep Kc1941
  have F_1964 := F_1927.keep Kc1941 (ninS ne_b1710_b1904 nin0)
  have F_1965 := F_1928.keep Kc1941 (ninS ne_b1710_b1904 nin0)
  have F_1966 := F_1929.keep Kc1941 (ninS ne_b1710_b1904 nin0)
  have E_1967 := E_1930.keep Kc1941
  have F_1968 := F_1931.keep Kc1941 (ninS ne_b1801_b1904 nin0)
  have F_1969 := F_1932.keep Kc1941 (ninS ne_b1801_b1904 nin0)
  have F_1970 := F_1933.keep Kc1941 (ninS ne_b1801_b1904 nin0)
  have F_1971 := F_1934.keep Kc1941 (ninS ne_b1460_b1904 nin0)
  have F_1972 := F_1935.keep Kc1941 (ninS ne_b1460_b1904 nin0)
  have F_1973 := F_1936.keep Kc1941 (ninS ne_b1460_b1904 nin0)
  have V_1974 := V_1937.keep Kc1941 (ninS ne_b1683_b1904 nin0)
  have E_1975 := A1904.keep Kc1941
  have N1941 := Fr.app N1868 N1941q
  have Z1941 : n0 ≤ T1941.heap.size := Nat.le_trans Z1904 Kc1941.1
  have K1941 : Keep h0 T1941.heap [a] := K1904.trans Kc1941 (allS (Or.inr sz_b1904) all0)
  refine Gl.st (g' := (mkF m 72 #[.val (.ref a), .val (.int (4 : Int32)), .val (.int (3 : Int32))] [(.ref b1904), (.ref b1460)])) (fun τ κ => st1941.trans κ) ?_
  obtain ⟨cq1979, kq1979, q1979a, q1979b, q1979c⟩ := isOf hZ rfl E_1953
  obtain ⟨rv1979, _, ⟨T1979, L1979, k1979, n1979⟩, -, X1979, ⟨Lc1979, hQ1979, l1979, y1979, z1979⟩, st1979⟩ := X1941.interfaceBack hx (xi := (⟨"java/util/List", "add", "(Ljava/lang/Object;)Z"⟩ : MethodName)) (y := (⟨"java/util/ArrayList", "add", "(Ljava/lang/Object;)Z"⟩ : MethodName)) hown (mvT hZ (hw _ (List.mem_of_getElem? (i := 68) rfl))) (mvT hZ (hw _ (List.mem_of_getElem? (i := 69) rfl))) (mvT hZ (hw _ (List.mem_of_getElem? (i := 70) rfl))) (mvT hZ (hw _ (List.mem_of_getElem? (i := 71) rfl))) (mvT hZ (hw _ (List.mem_of_getElem? (i := 72) rfl))) (mvT hZ (hw _ (List.mem_of_getElem? (i := 73) rfl))) (mvT hZ (hw _ (List.mem_of_getElem? (i := 74) rfl))) (mvT hZ (hw _ (List.mem_of_getElem? (i := 75) rfl))) (by decide) (backOf (W := 0) (rm_Be3 l Z a0 hw [] b1460 b1904 b1683 kk1683 (3 : Int32) vs1868 T1941.heap n0 Z1941 E_1953 g_b1460 F_1971 F_1972 F_1973 g_b1683 ne_b1460_b1683 V_1974 O1683 Ec1941) hZ (hw _ (List.mem_of_getElem? (i := 76) rfl)) (hw _ (List.mem_of_getElem? (i := 34) rfl)) (by decide) (by decide)) q1979a q1979b q1979c (g := (mkF m 72 #[.val (.ref a), .val (.int (4 : Int32)), .val (.int (3 : Int32))] [(.ref b1904), (.ref b1460)])) rfl (by rw [hml]; rfl) (Steps.refl _) (argsL := [(.ref b1904)]) (rest := []) (lenOf pd_6 rfl) rfl (by show 2 * 0 + _ ≤ _; exact Nat.le_of_eq rfl) (hb hby d1_72) (fun _ _ => ⟨rfl, rfl, (by decide : 9 + 0 ≤ _), (by decide : 41 + 0 ≤ _)⟩)
  dsimp only [Pt.U, Pt.locs, Pt.cells, Pt.slots] at X1979 l1979 y1979 z1979 st1979 hQ1979
  subst l1979 y1979 z1979
  obtain ⟨vs1979, rfl, N1979q, Kc1979, Ec1979, FM1979, FE1979, FS1979, V1979⟩ := hQ1979
  have E_1980 := E_1942.keep Kc1979
  have S_1981 := Sta.keepX S_1943 Kc1979 (allS (P := fun x => ∃ c : Cell, T1941.heap[x]? = some c ∧ ∀ q, c.vm ≠ .statics q) E_1953.cell (allS (P := fun x => ∃ c : Cell, T1941.heap[x]? = some c ∧ ∀ q, c.vm ≠ .statics q) (Arv.cellX V_1974) all0))
  have V_1982 := V_1944.keep Kc1979 (ninS ne_de_b1460 (ninS ne_de_b1683 nin0))
  have F_1983 := F_1945.keep Kc1979 (ninS ne_a_b1460 (ninS ne_a_b1683 nin0))
  have F_1984 := F_1946.keep Kc1979 (ninS ne_a_b1460 (ninS ne_a_b1683 nin0))
  have F_1985 := F_1947.keep Kc1979 (ninS ne_a_b1460 (ninS ne_a_b1683 nin0))
  have F_1986 := F_1948.keep Kc1979 (ninS ne_a_b1460 (ninS ne_a_b1683 nin0))
  have E_1987 := E_1949.keep Kc1979
  have F_1988 := F_1950.keep Kc1979 (ninS ne_b1424_b1460 (ninS ne_b1424_b1683 nin0))
  have F_1989 := F_1951.keep Kc1979 (ninS ne_b1424_b1460 (ninS ne_b1424_b1683 nin0))
  have F_1990 := F_1952.keep Kc1979 (ninS ne_b1424_b1460 (ninS ne_b1424_b1683 nin0))
  have E_1991 := E_1953.keep Kc1979
  have E_1992 := E_1954.keep Kc1979
  have F_1993 := F_1955.keep Kc1979 (ninS (Ne.symm ne_b1460_b1508) (ninS ne_b1508_b1683 nin0))
  have F_1994 := F_1956.keep Kc1979 (ninS (Ne.symm ne_b1460_b1508) (ninS ne_b1508_b1683 nin0))
  have F_1995 := F_1957.keep Kc1979 (ninS (Ne.symm ne_b1460_b1508) (ninS ne_b1508_b1683 nin0))
  have V_1996 := V_1958.keep Kc1979 (ninS (Ne.symm ne_b1460_b1568) (ninS ne_b1568_b1683 nin0))
  have E_1997 := E_1959.keep Kc1979
  have F_1998 := F_1960.keep Kc1979 (ninS (Ne.symm ne_b1460_b1634) (ninS ne_b1634_b1683 nin0))
  have F_1999 := F_1961.keep Kc1979 (ninS (Ne.symm ne_b1460_b1634) (ninS ne_b1634_b1683 nin0))
  have F_2000 := F_1962.keep Kc1979 (ninS (Ne.symm ne_b1460_b1634) (ninS ne_b1634_b1683 nin0))
  have E_2001 := E_1963.keep Kc1979
  have F_2002 := F_1964.keep Kc1979 (ninS (Ne.symm ne_b1460_b1710) (ninS (Ne.symm ne_b1683_b1710) nin0))
  have F_2003 := F_1965.keep Kc1979 (ninS (Ne.symm ne_b1460_b1710) (ninS (Ne.symm ne_b1683_b1710) nin0))
  have F_2004 := F_1966.keep Kc1979 (ninS (Ne.symm ne_b1460_b1710) (ninS (Ne.symm ne_b1683_b1710) nin0))
  have E_2005 := E_1967.keep Kc1979
  have F_2006 := F_1968.keep Kc1979 (ninS (Ne.symm ne_b1460_b1801) (ninS (Ne.symm ne_b1683_b1801) nin0))
  have F_2007 := F_1969.keep Kc1979 (ninS (Ne.symm ne_b1460_b1801) (ninS (Ne.symm ne_b1683_b1801) nin0))
  have F_2008 := F_1970.keep Kc1979 (ninS (Ne.symm ne_b1460_b1801) (ninS (Ne.symm ne_b1683_b1801) nin0))
  have E_2013 := Ec1941.keep Kc1979
  have F_2014 := FM1941.keep Kc1979 (ninS (Ne.symm ne_b1460_b1904) (ninS (Ne.symm ne_b1683_b1904) nin0))
  have F_2015 := FE1941.keep Kc1979 (ninS (Ne.symm ne_b1460_b1904) (ninS (Ne.symm ne_b1683_b1904) nin0))
  have F_2016 := FS1941.keep Kc1979 (ninS (Ne.symm ne_b1460_b1904) (ninS (Ne.symm ne_b1683_b1904) nin0))
  have N1979 := Fr.app N1941 N1979q
  have Z1979 : n0 ≤ T1979.heap.size := Nat.le_trans Z1941 Kc1979.1
  have K1979 : Keep h0 T1979.heap [a] := K1941.trans Kc1979 (allS (Or.inr sz_b1460) (allS (Or.inr sz_b1683) all0))
  refine Gl.st (g' := (mkF m 77 #[.val (.ref a), .val (.int (4 : Int32)), .val (.int (3 : Int32))] [(.int (1 : Int32))])) (fun τ κ => st1979.trans κ) ?_
  refine Gl.st (g' := (mkF m 78 #[.val (.ref a), .val (.int (4 : Int32)), .val (.int (3 : Int32))] [])) (fun τ κ => XS.pop X1979.here hx rfl (hb hby d1_77) rfl rfl κ) ?_
  refine Gl.st (g' := (mkF m 81 #[.val (.ref a), .val (.int (4 : Int32)), .val (.int (4 : Int32))] [])) (fun τ κ => XS.iinc X1979.here hx rfl (hb hby d1_78) rfl (l' := #[.val (.ref a), .val (.int (4 : Int32)), .val (.int (4 : Int32))]) rfl κ) ?_
  refine Gl.st (g' := (mkF m 56 #[.val (.ref a), .val (.int (4 : Int32)), .val (.int (4 : Int32))] [])) (fun τ κ => XS.goto X1979.here hx rfl (pc0 := 81) (pc' := 56) rfl (hb hby d1_81) (by decide) (by decide) κ) ?_
  refine Gl.st (g' := (mkF m 57 #[.val (.ref a), .val (.int (4 : Int32)), .val (.int (4 : Int32))] [(.int (4 : Int32))])) (fun τ κ => XS.iloadN X1979.here hx rfl (hb hby d1_56) rfl κ) ?_
  refine Gl.st (g' := (mkF m 58 #[.val (.ref a), .val (.int (4 : Int32)), .val (.int (4 : Int32))] [(.int (4 : Int32)), (.int (4 : Int32))])) (fun τ κ => XS.iloadN X1979.here hx rfl (hb hby d1_57) rfl κ) ?_
  have hc2017 : ¬ ((4 : Int32) < (4 : Int32)) := by decide
  refine Gl.st (g' := (mkF m 84 #[.val (.ref a), .val (.int (4 : Int32)), .val (.int (4 : Int32))] [])) (fun τ κ => XS.icmpYes X1979.here hx rfl (pc0 := 58) (pc' := 84) rfl (hb hby d1_58) rfl (flt hc2017).2.1 (by decide) (by decide) κ) ?_
  exact Gl.ret (v := none) X1979 Bd.notSynchronized (fun _ => rfl) rfl (fun fs hr => X1979.returnOut hx Bd.returns (hb hby d1_84) hr) (by decide) (by decide) ⟨b1568, k1568, rfl, N1979, K1979, sz_b1568, E_1980, F_1986, V_1996⟩
def Q_initS (Z : State) (a : Addr) (sz : Int32) (h0 : Heap) (n0 : Nat) (v : Option Value) (h : Heap) (L : List Loc) : Prop := ∃ t kc vs, v = none ∧ Fr n0 L ∧ Keep h0 h [a] ∧ h0.size ≤ t ∧ Exa Z h a "org/precedence/Takeover" ∧ Fld Z h a "org/precedence/Takeover" "next" "[J" (.ref t) ∧ Arv Z h t kc .long sz vs (.long (0 : Int64)) ∧ ∀ i, i < sz.toNatClampNeg → vs.getD i (.long (0 : Int64)) = (.long (-1 : Int64))
theorem own_rep1 {n i : Nat} (h : i < n) : (List.replicate n (Value.long (-1 : Int64))).getD i (.long (0 : Int64)) = (.long (-1 : Int64)) := by
  rw [List.getD_eq_getElem?_getD, List.getElem?_replicate, if_pos h]; rfl
theorem rm_initS (l : Launch) (Z : State) (a0 : Array Value) (hw : ∀ d ∈ tables_1, d.before a0 Z = true) (ws : List Jvm.Cond) (a : Addr) (sz : Int32) (de : Addr) (kd : ClassId) (h0 : Heap) (n0 : Nat) (Z0 : n0 ≤ h0.size) (E0 : Exa Z h0 a "org/precedence/Takeover") (g0 : n0 ≤ a) (S0 : Sta Z h0 "java/util/ArrayList" "DEFAULTCAPACITY_EMPTY_ELEMENTDATA" "[Ljava/lang/Object;" (.ref de)) (V0 : Arv Z h0 de kd (.object "java/lang/Object") (0 : Int32) [] .null) (hde : a ≠ de) (F0 : Fld Z h0 a "org/precedence/Takeover" "stamped" "Ljava/util/TreeMap;" .null) (F1 : Fld Z h0 a "org/precedence/Takeover" "unstamped" "Ljava/util/List;" .null) (F2 : Fld Z h0 a "org/precedence/Takeover" "submitted" "Ljava/util/List;" .null) (F3 : Fld Z h0 a "org/precedence/Takeover" "next" "[J" .null) (hsz : sz = 1 ∨ sz = 2 ∨ sz = 3 ∨ sz = 4) :
    MetFree l (⟨"org/precedence/Takeover", "<init>", "(I)V"⟩ : MethodName) (head1 (Jvm.Cond.code (⟨"org/precedence/Takeover", "<init>", "(I)V"⟩ : MethodName) prog_35_method_1_code 3 none :: ws) ({ frames := 5, cells := 10, slots := 41, locals := 90 } : Room)) (fun aα Uα => aα = #[(.ref a), (.int sz)] ∧ Z.Warmed39 Uα.vm ∧ Uα.heap = h0) (fun _ _ _ _ _ => True) (fun _ Uα oα Uβ => ∃ vα Lα, oα = .returned vα ∧ Q_initS Z a sz h0 n0 vα Uβ.heap Lα ∧ FrameEnd Uα oα Uβ Lα ({ frames := 5, cells := 10, slots := 41, locals := 90 } : Room).cells ({ frames := 5, cells := 10, slots := 41, locals := 90 } : Room).slots) := by
  rcases hsz with rfl | rfl | rfl | rfl
  · intro p e ha hc hk s m args below hf happ hP hK
    obtain ⟨n, o, h1, h2, h3, v, L, e1, ⟨t, kc, q1, q2, q3, q4, q5, q6, q7⟩, hF⟩ := rm_init1 l Z a0 hw ws a de kd h0 n0 Z0 E0 g0 S0 V0 hde F0 F1 F2 F3 p e ha hc hk s m args below hf happ hP hK
    exact ⟨n, o, h1, h2, h3, v, L, e1, ⟨t, kc, _, q1, q2, q3, q4, q5, q6, q7, fun i hi => own_rep1 (n := 1) hi⟩, hF⟩
  · intro p e ha hc hk s m args below hf happ hP hK
    obtain ⟨n, o, h1, h2, h3, v, L, e1, ⟨t, kc, q1, q2, q3, q4, q5, q6, q7⟩, hF⟩ := rm_init2 l Z a0 hw ws a de kd h0 n0 Z0 E0 g0 S0 V0 hde F0 F1 F2 F3 p e ha hc hk s m args below hf happ hP hK
    exact ⟨n, o, h1, h2, h3, v, L, e1, ⟨t, kc, _, q1, q2, q3, q4, q5, q6, q7, fun i hi => own_rep1 (n := 2) hi⟩, hF⟩
  · intro p e ha hc hk s m args below hf happ hP hK
    obtain ⟨n, o, h1, h2, h3, v, L, e1, ⟨t, kc, q1, q2, q3, q4, q5, q6, q7⟩, hF⟩ := rm_init3 l Z a0 hw ws a de kd h0 n0 Z0 E0 g0 S0 V0 hde F0 F1 F2 F3 p e ha hc hk s m args below hf happ hP hK
    exact ⟨n, o, h1, h2, h3, v, L, e1, ⟨t, kc, _, q1, q2, q3, q4, q5, q6, q7, fun i hi => own_rep1 (n := 3) hi⟩, hF⟩
  · intro p e ha hc hk s m args below hf happ hP hK
    obtain ⟨n, o, h1, h2, h3, v, L, e1, ⟨t, kc, q1, q2, q3, q4, q5, q6, q7⟩, hF⟩ := rm_init4 l Z a0 hw ws a de kd h0 n0 Z0 E0 g0 S0 V0 hde F0 F1 F2 F3 p e ha hc hk s m args below hf happ hP hK
    exact ⟨n, o, h1, h2, h3, v, L, e1, ⟨t, kc, _, q1, q2, q3, q4, q5, q6, q7, fun i hi => own_rep1 (n := 4) hi⟩, hF⟩
def own_at (vs : List Value) (i : Int32) : Int64 := match vs.getD i.toNatClampNeg (.long (0 : Int64)) with | .long x => x | _ => 0
def own_rep (vs : List Value) (i : Int32) : Int32 := if own_at vs i < 0 then 0 else 1
theorem own_get {vs : List Value} {i : Int32} (h : fits .long (vs.getD i.toNatClampNeg (.long (0 : Int64))) = true) : vs.getD i.toNatClampNeg (.long (0 : Int64)) = .long (own_at vs i) := by
  unfold own_at
  cases hv : vs.getD i.toNatClampNeg (.long (0 : Int64)) <;> rw [hv] at h <;> simp [fits] at h ⊢
theorem own_natI {x : Int32} (h : ¬ x < 0) : (x.toNatClampNeg : Int) = x.toInt := by
  rw [Int32.lt_iff_toInt_lt, show (0 : Int32).toInt = 0 from rfl] at h; simp only [Int32.toNatClampNeg]; omega
theorem own_natE {x y : Int32} (hx : ¬ x < 0) (hy : ¬ y < 0) : x.toNatClampNeg = y.toNatClampNeg ↔ x = y := by
  have a := own_natI hx; have b := own_natI hy
  rw [← Int32.toInt_inj]; omega
theorem own_A0 {vs : List Value} {sz : Int32} (h : ∀ i, i < sz.toNatClampNeg → vs.getD i (.long (0 : Int64)) = (.long (-1 : Int64))) : ∀ ii, ¬ ii < 0 → ii < sz → own_at vs ii = -1 := by
  intro ii h1 h2
  have h3 : ¬ sz < 0 := by rw [Int32.lt_iff_toInt_lt] at *; rw [show (0 : Int32).toInt = 0 from rfl] at *; omega
  have a := own_natI h1; have b := own_natI h3
  rw [Int32.lt_iff_toInt_lt] at h2
  unfold own_at; rw [h _ (by omega)]
theorem own_A {vs vs' : List Value} {i : Int32} {x : Int64} (hi : ¬ i < 0) (h : ∀ j, vs'.getD j (.long (0 : Int64)) = if j = i.toNatClampNeg then (.long x) else vs.getD j (.long (0 : Int64))) : ∀ ii, ¬ ii < 0 → own_at vs' ii = if ii = i then x else own_at vs ii := by
  intro ii h1
  unfold own_at; rw [h]
  by_cases e : ii = i
  · rw [if_pos e, if_pos (by rw [e])]
  · rw [if_neg e, if_neg (mt (own_natE h1 hi).mp e)]
theorem own_r0 {vs : List Value} {i : Int32} (h : own_at vs i = -1) : own_rep vs i = 0 := by unfold own_rep; rw [h]; decide
theorem own_n0 {vs : List Value} {i : Int32} (h : own_at vs i = -1) : own_at vs i < 0 := by rw [h]; decide
theorem own_r1 {vs : List Value} {i : Int32} {x : Int64} (h : own_at vs i = x) (hx : ¬ x < 0) : ¬ own_rep vs i = 0 := by unfold own_rep; rw [h, if_neg hx]; decide
theorem own_hs2 {vs : List Value} {sz k1 k2 : Int32} {x1 x2 : Int64} (h1 : ¬ x1 < 0) (h2 : ¬ x2 < 0) (P : ∀ ii, ¬ ii < 0 → ii < sz → own_at vs ii = if ii = k2 then x2 else if ii = k1 then x1 else -1) : ∀ ii, ¬ ii < 0 → ii < sz → own_rep vs ii = if (ii = k2 ∨ ii = k1) then 1 else 0 := by
  intro ii a b
  unfold own_rep; rw [P ii a b]
  by_cases e2 : ii = k2
  · rw [if_pos e2, if_neg h2, if_pos (Or.inl e2)]
  · rw [if_neg e2]
    by_cases e1 : ii = k1
    · rw [if_pos e1, if_neg h1, if_pos (Or.inr e1)]
    · rw [if_neg e1, if_neg (show ¬ (ii = k2 ∨ ii = k1) from fun q => q.elim e2 e1)]; decide
theorem own_hs2' {vs : List Value} {sz k1 k2 : Int32} {x1 x2 : Int64} (h1 : ¬ x1 < 0) (h2 : ¬ x2 < 0) (P : ∀ ii, ¬ ii < 0 → ii < sz → own_at vs ii = if ii = k2 then x2 else if ii = k1 then x1 else -1) : ∀ ii, ¬ ii < 0 → ii < sz → own_rep vs ii = if (ii = k1 ∨ ii = k2) then 1 else 0 := by
  intro ii a b
  rw [own_hs2 h1 h2 P ii a b]
  by_cases e : ii = k2 ∨ ii = k1
  · rw [if_pos e, if_pos e.symm]
  · rw [if_neg e, if_neg (fun q => e q.symm)]
theorem own_hs1 {vs : List Value} {sz k1 : Int32} {x1 : Int64} (h1 : ¬ x1 < 0) (P : ∀ ii, ¬ ii < 0 → ii < sz → own_at vs ii = if ii = k1 then x1 else -1) : ∀ ii, ¬ ii < 0 → ii < sz → own_rep vs ii = if (ii = k1 ∨ ii = (-1 : Int32)) then 1 else 0 := by
  intro ii a b
  unfold own_rep; rw [P ii a b]
  have n : ¬ ii = (-1 : Int32) := fun e => by subst e; exact a (by decide)
  by_cases e1 : ii = k1
  · rw [if_pos e1, if_neg h1, if_pos (Or.inl e1)]
  · rw [if_neg e1, if_neg (show ¬ (ii = k1 ∨ ii = (-1 : Int32)) from fun q => q.elim e1 n)]; decide
theorem own_sz (x : Int32) : ((1 : Int32) + (x &&& (3 : Int32))) = 1 ∨ ((1 : Int32) + (x &&& (3 : Int32))) = 2 ∨ ((1 : Int32) + (x &&& (3 : Int32))) = 3 ∨ ((1 : Int32) + (x &&& (3 : Int32))) = 4 := by
  rcases own_four x with h | h | h | h <;> rw [h] <;> decide
theorem own_szb {sz : Int32} (h : sz = 1 ∨ sz = 2 ∨ sz = 3 ∨ sz = 4) : 1 ≤ sz.toInt ∧ sz.toInt ≤ 4 := by rcases h with rfl | rfl | rfl | rfl <;> decide
theorem own_nz {x : Int32} (h : 1 ≤ x.toInt) : ¬ x = 0 := fun e => by subst e; exact absurd h (by decide)
theorem own_m {x sz : Int32} (h : 1 ≤ sz.toInt) : ¬ ((x &&& (2147483647 : Int32)) % sz) < 0 ∧ ((x &&& (2147483647 : Int32)) % sz) < sz := by
  have m := c_mask x 2147483647 31 (by decide) (by decide)
  have q := (c_iremV (x &&& 2147483647) sz).1 (by rw [m]; omega) (by omega)
  rw [Int32.lt_iff_toInt_lt, Int32.lt_iff_toInt_lt, show (0 : Int32).toInt = 0 from rfl]; omega
theorem own_j (x : Int64) : ¬ (x &&& (9223372036854775807 : Int64)) < 0 := by
  have h := c_maskL x 9223372036854775807 63 (by decide) (by decide)
  rw [Int64.lt_iff_toInt_lt, h, show (0 : Int64).toInt = 0 from rfl]; omega
theorem own_d {sz : Int32} (h : (1 : Int32) < sz) (h4 : sz.toInt ≤ 4) : (sz - (1 : Int32)).toInt = sz.toInt - 1 := by
  rw [Int32.lt_iff_toInt_lt, show (1 : Int32).toInt = 1 from rfl] at h
  rw [Jvm.Kit.i32_sub] <;> rw [show (1 : Int32).toInt = 1 from rfl] <;> omega
theorem own_o {cc mm sz : Int32} (h : (1 : Int32) < sz) (h4 : sz.toInt ≤ 4) (m0 : ¬ mm < 0) (m1 : mm < sz) : ¬ (((mm + (1 : Int32)) + (((cc.toUInt32 >>> ((2 : Int32) &&& 31).toUInt32).toInt32) % (sz - (1 : Int32)))) % sz) < 0 ∧ (((mm + (1 : Int32)) + (((cc.toUInt32 >>> ((2 : Int32) &&& 31).toUInt32).toInt32) % (sz - (1 : Int32)))) % sz) < sz ∧ ¬ mm = (((mm + (1 : Int32)) + (((cc.toUInt32 >>> ((2 : Int32) &&& 31).toUInt32).toInt32) % (sz - (1 : Int32)))) % sz) := by
  have d := own_d h h4
  have u := c_iushr cc 2 2 (by decide) (by decide)
  rw [Int32.lt_iff_toInt_lt, show (1 : Int32).toInt = 1 from rfl] at h
  rw [Int32.lt_iff_toInt_lt, show (0 : Int32).toInt = 0 from rfl] at m0
  rw [Int32.lt_iff_toInt_lt] at m1
  have q := (c_iremV ((cc.toUInt32 >>> ((2 : Int32) &&& 31).toUInt32).toInt32) (sz - (1 : Int32))).1 (by rw [u]; omega) (by omega)
  generalize ((cc.toUInt32 >>> ((2 : Int32) &&& 31).toUInt32).toInt32) % (sz - (1 : Int32)) = k at *
  have e1 : (mm + (1 : Int32)).toInt = mm.toInt + 1 := by rw [Jvm.Kit.i32_add] <;> rw [show (1 : Int32).toInt = 1 from rfl] <;> omega
  have e2 : ((mm + (1 : Int32)) + k).toInt = mm.toInt + 1 + k.toInt := by rw [Jvm.Kit.i32_add] <;> rw [e1] <;> omega
  have r := (c_iremV ((mm + (1 : Int32)) + k) sz).1 (by omega) (by omega)
  rw [Int32.lt_iff_toInt_lt, Int32.lt_iff_toInt_lt, ← Int32.toInt_inj, show (0 : Int32).toInt = 0 from rfl]
  generalize ((mm + (1 : Int32)) + k) % sz = w at *
  by_cases z : mm.toInt + 1 + k.toInt < sz.toInt
  · have := r.2.2.2.1 (by omega); omega
  · have := r.2.2.2.2 (by omega) (by omega); omega
theorem d14_0 : decode prog_35_method_5_code 0 = .ok (.aload_n 0, 1) := by decide +kernel
theorem d14_1 : decode prog_35_method_5_code 1 = .ok (.getfield 26, 3) := by decide +kernel
theorem d14_4 : decode prog_35_method_5_code 4 = .ok (.iload_n 1, 1) := by decide +kernel
theorem d14_5 : decode prog_35_method_5_code 5 = .ok (.laload, 1) := by decide +kernel
theorem d14_6 : decode prog_35_method_5_code 6 = .ok (.lconst 0, 1) := by decide +kernel
theorem d14_7 : decode prog_35_method_5_code 7 = .ok (.lcmp, 1) := by decide +kernel
theorem d14_8 : decode prog_35_method_5_code 8 = .ok (.ifCond .lt 7, 3) := by decide +kernel
theorem d14_15 : decode prog_35_method_5_code 15 = .ok (.iconst 0, 1) := by decide +kernel
theorem d14_16 : decode prog_35_method_5_code 16 = .ok (.ireturn, 1) := by decide +kernel
theorem d14_11 : decode prog_35_method_5_code 11 = .ok (.iconst 1, 1) := by decide +kernel
theorem d14_12 : decode prog_35_method_5_code 12 = .ok (.goto 4, 3) := by decide +kernel
theorem ef_rm14 (m : MethodId) (a : Addr) (ii : Int32) : entryFrame m #[(.ref a), (.int ii)] 2 = mkF m 0 #[.val (.ref a), .val (.int ii)] [] := by first | (simp [entryFrame, mkF, argsToLocals, Value.category]; done) | rfl
def Q_rm14 (Z : State) (a : Addr) (ii : Int32) (t : Addr) (kc : ClassId) (n : Int32) (vs : List Value) (h0 : Heap) (n0 : Nat) (v : Option Value) (h : Heap) (L : List Loc) : Prop := v = some (.int (own_rep vs ii)) ∧ Fr n0 L ∧ h = h0
set_option maxRecDepth 65536 in
set_option maxHeartbeats 40000000 in
theorem rm14 (l : Launch) (Z : State) (a0 : Array Value) (hw : ∀ d ∈ tables_1, d.before a0 Z = true) (ws : List Jvm.Cond) (a : Addr) (ii : Int32) (t : Addr) (kc : ClassId) (n : Int32) (vs : List Value) (h0 : Heap) (n0 : Nat) (Z0 : n0 ≤ h0.size) (F0 : Fld Z h0 a "org/precedence/Takeover" "next" "[J" (.ref t)) (V0 : Arv Z h0 t kc .long n vs (.long (0 : Int64))) (h1 : ¬ ii < 0) (h2 : ii < n) :
    MetFree l (⟨"org/precedence/Takeover", "hasReported", "(I)Z"⟩ : MethodName) (head1 (Jvm.Cond.code (⟨"org/precedence/Takeover", "hasReported", "(I)Z"⟩ : MethodName) prog_35_method_5_code 2 (some .boolean) :: ws) ({ frames := 0, cells := 0, slots := 0, locals := 0 } : Room)) (fun aα Uα => aα = #[(.ref a), (.int ii)] ∧ Z.Warmed39 Uα.vm ∧ Uα.heap = h0) (fun _ _ _ _ _ => True) (fun _ Uα oα Uβ => ∃ vα Lα, oα = .returned vα ∧ Q_rm14 Z a ii t kc n vs h0 n0 vα Uβ.heap Lα ∧ FrameEnd Uα oα Uβ Lα ({ frames := 0, cells := 0, slots := 0, locals := 0 } : Room).cells ({ frames := 0, cells := 0, slots := 0, locals := 0 } : Room).slots) := by
  refine MetFree.of_bodySF (plainFor_of_name pn_org_precedence_Takeover) hisR ?_
  intro p e s m args below meth c s₁ Bd hml0 hP hKα
  obtain ⟨rfl, hZ, hh⟩ := hP
  have hx := Bd.exec
  have hby := Bd.bytes
  have hml : c.maxLocals = 2 := hml0
  have hown : s.vm.findClass "org/precedence/Takeover" = some m.cls := findClass_of_methodNamed Bd.named
  have hnm := (name_of_methodNamed Bd.named Bd.method).1
  have X0 : Stand p l e ({ frames := 0, cells := 0, slots := 0, locals := 0 } : Room) s m #[(.ref a), (.int ii)] below meth c s₁ [] 0 0 := Stand.of_body Bd
  have e0 : s₁.heap = h0 := by rw [← hh, Bd.state]; rfl
  have N0 := Fr.nil n0
  suffices k0 : Gl p e below s (Q_rm14 Z a ii t kc n vs h0 n0) ({ frames := 0, cells := 0, slots := 0, locals := 0 } : Room).cells ({ frames := 0, cells := 0, slots := 0, locals := 0 } : Room).slots s₁ (mkF m 0 #[.val (.ref a), .val (.int ii)] []) from Gl.st (fun τ κ => castTop (ef_rm14 m a ii) κ) k0
  refine Gl.st (g' := (mkF m 1 #[.val (.ref a), .val (.int ii)] [(.ref a)])) (fun τ κ => XS.aloadN X0.here hx rfl (hb hby d14_0) rfl rfl κ) ?_
  obtain ⟨T2018, X2018, e2018, st2018⟩ := getF X0 hx hZ hown (host := "") (Or.inl (hw _ (List.mem_of_getElem? (i := 61) rfl))) Via.refl e0 F0 (g := (mkF m 1 #[.val (.ref a), .val (.int ii)] [(.ref a)])) rfl rfl (hb hby d14_1)
  refine Gl.st (g' := (mkF m 4 #[.val (.ref a), .val (.int ii)] [(.ref t)])) (fun τ κ => st2018 _ κ) ?_
  refine Gl.st (g' := (mkF m 5 #[.val (.ref a), .val (.int ii)] [(.int ii), (.ref t)])) (fun τ κ => XS.iloadN X2018.here hx rfl (hb hby d14_4) rfl κ) ?_
  obtain ⟨cl_o2019, Ar_o2019, q_o2019, S_o2019, M_o2019, H_o2019, G_o2019⟩ := id V0
  have hin_o2019 : ¬ (ii < 0 ∨ cl_o2019.slots.size ≤ (ii).toNatClampNeg) := inb_of S_o2019 ⟨h1, h2⟩
  refine Gl.st (g' := (mkF m 6 #[.val (.ref a), .val (.int ii)] [(.long (own_at vs ii))])) (fun τ κ => X2018.laload hx (j := ii) (v := (.long (own_at vs ii))) (by rw [e2018]; exact Ar_o2019.1) (State.isArrayOf_alike hZ.alike Ar_o2019.2.1) Ar_o2019.2.2 hin_o2019 ((H_o2019 _ (Nat.lt_of_not_le fun q => hin_o2019 (Or.inr q))).trans (congrArg some (own_get (G_o2019 _ (Nat.lt_of_not_le fun q => hin_o2019 (Or.inr q)))))) (g := (mkF m 5 #[.val (.ref a), .val (.int ii)] [(.int ii), (.ref t)])) rfl rfl (hb hby d14_5) _ κ) ?_
  refine Gl.st (g' := (mkF m 7 #[.val (.ref a), .val (.int ii)] [(.long (0 : Int64)), (.long (own_at vs ii))])) (fun τ κ => XS.lconst X2018.here hx rfl (hb hby d14_6) κ) ?_
  refine Gl.st (g' := (mkF m 8 #[.val (.ref a), .val (.int ii)] [(.int (lcmpW (own_at vs ii) (0 : Int64)))])) (fun τ κ => XS.lcmp X2018.here hx rfl (hb hby d14_7) rfl κ) ?_
  by_cases hc2020 : (own_at vs ii) < (0 : Int64)
  · -- pc 8: (own_at vs ii) < (0 : Int64)
    refine Gl.st (g' := (mkF m 15 #[.val (.ref a), .val (.int ii)] [])) (fun τ κ => XS.ifYes X2018.here hx rfl (pc0 := 8) (pc' := 15) rfl (hb hby d14_8) rfl ((if0 _ _).trans (tlt ((lw_lt (own_at vs ii) (0 : Int64)).mpr hc2020)).1) (by decide) (by decide) κ) ?_
    refine Gl.st (g' := (mkF m 16 #[.val (.ref a), .val (.int ii)] [(.int (0 : Int32))])) (fun τ κ => XS.iconst X2018.here hx rfl (hb hby d14_15) κ) ?_
    exact Gl.ret (v := some (.int (0 : Int32))) X2018 Bd.notSynchronized (fun h => by rw [Bd.returns] at h; cases h) e2018 (fun fs hr => retN X2018 hx (t := .boolean) Bd.returns (by simp) (hb hby d14_16) hr) (by decide) (by decide) ⟨by simp only [own_rep, hc2020, if_true, if_false], N0, rfl⟩
  · -- pc 8: not (own_at vs ii) < (0 : Int64)
    refine Gl.st (g' := (mkF m 11 #[.val (.ref a), .val (.int ii)] [])) (fun τ κ => XS.ifNo X2018.here hx rfl (hb hby d14_8) rfl ((if0 _ _).trans (flt (mt (lw_lt (own_at vs ii) (0 : Int64)).mp hc2020)).1) κ) ?_
    refine Gl.st (g' := (mkF m 12 #[.val (.ref a), .val (.int ii)] [(.int (1 : Int32))])) (fun τ κ => XS.iconst X2018.here hx rfl (hb hby d14_11) κ) ?_
    refine Gl.st (g' := (mkF m 16 #[.val (.ref a), .val (.int ii)] [(.int (1 : Int32))])) (fun τ κ => XS.goto X2018.here hx rfl (pc0 := 12) (pc' := 16) rfl (hb hby d14_12) (by decide) (by decide) κ) ?_
    exact Gl.ret (v := some (.int (1 : Int32))) X2018 Bd.notSynchronized (fun h => by rw [Bd.returns] at h; cases h) e2018 (fun fs hr => retN X2018 hx (t := .boolean) Bd.returns (by simp) (hb hby d14_16) hr) (by decide) (by decide) ⟨by simp only [own_rep, hc2020, if_true, if_false], N0, rfl⟩
theorem d16_0 : decode prog_35_method_6_code 0 = .ok (.aload_n 0, 1) := by decide +kernel
theorem d16_1 : decode prog_35_method_6_code 1 = .ok (.getfield 26, 3) := by decide +kernel
theorem d16_4 : decode prog_35_method_6_code 4 = .ok (.iload_n 1, 1) := by decide +kernel
theorem d16_5 : decode prog_35_method_6_code 5 = .ok (.laload, 1) := by decide +kernel
theorem d16_6 : decode prog_35_method_6_code 6 = .ok (.lreturn, 1) := by decide +kernel
theorem ef_rm16 (m : MethodId) (a : Addr) (ii : Int32) : entryFrame m #[(.ref a), (.int ii)] 2 = mkF m 0 #[.val (.ref a), .val (.int ii)] [] := by first | (simp [entryFrame, mkF, argsToLocals, Value.category]; done) | rfl
def Q_rm16 (Z : State) (a : Addr) (ii : Int32) (t : Addr) (kc : ClassId) (n : Int32) (vs : List Value) (h0 : Heap) (n0 : Nat) (v : Option Value) (h : Heap) (L : List Loc) : Prop := v = some (.long (own_at vs ii)) ∧ Fr n0 L ∧ h = h0
set_option maxRecDepth 65536 in
set_option maxHeartbeats 40000000 in
theorem rm16 (l : Launch) (Z : State) (a0 : Array Value) (hw : ∀ d ∈ tables_1, d.before a0 Z = true) (ws : List Jvm.Cond) (a : Addr) (ii : Int32) (t : Addr) (kc : ClassId) (n : Int32) (vs : List Value) (h0 : Heap) (n0 : Nat) (Z0 : n0 ≤ h0.size) (F0 : Fld Z h0 a "org/precedence/Takeover" "next" "[J" (.ref t)) (V0 : Arv Z h0 t kc .long n vs (.long (0 : Int64))) (h1 : ¬ ii < 0) (h2 : ii < n) :
    MetFree l (⟨"org/precedence/Takeover", "next", "(I)J"⟩ : MethodName) (head1 (Jvm.Cond.code (⟨"org/precedence/Takeover", "next", "(I)J"⟩ : MethodName) prog_35_method_6_code 2 (some .long) :: ws) ({ frames := 0, cells := 0, slots := 0, locals := 0 } : Room)) (fun aα Uα => aα = #[(.ref a), (.int ii)] ∧ Z.Warmed39 Uα.vm ∧ Uα.heap = h0) (fun _ _ _ _ _ => True) (fun _ Uα oα Uβ => ∃ vα Lα, oα = .returned vα ∧ Q_rm16 Z a ii t kc n vs h0 n0 vα Uβ.heap Lα ∧ FrameEnd Uα oα Uβ Lα ({ frames := 0, cells := 0, slots := 0, locals := 0 } : Room).cells ({ frames := 0, cells := 0, slots := 0, locals := 0 } : Room).slots) := by
  refine MetFree.of_bodySF (plainFor_of_name pn_org_precedence_Takeover) hisR ?_
  intro p e s m args below meth c s₁ Bd hml0 hP hKα
  obtain ⟨rfl, hZ, hh⟩ := hP
  have hx := Bd.exec
  have hby := Bd.bytes
  have hml : c.maxLocals = 2 := hml0
  have hown : s.vm.findClass "org/precedence/Takeover" = some m.cls := findClass_of_methodNamed Bd.named
  have hnm := (name_of_methodNamed Bd.named Bd.method).1
  have X0 : Stand p l e ({ frames := 0, cells := 0, slots := 0, locals := 0 } : Room) s m #[(.ref a), (.int ii)] below meth c s₁ [] 0 0 := Stand.of_body Bd
  have e0 : s₁.heap = h0 := by rw [← hh, Bd.state]; rfl
  have N0 := Fr.nil n0
  suffices k0 : Gl p e below s (Q_rm16 Z a ii t kc n vs h0 n0) ({ frames := 0, cells := 0, slots := 0, locals := 0 } : Room).cells ({ frames := 0, cells := 0, slots := 0, locals := 0 } : Room).slots s₁ (mkF m 0 #[.val (.ref a), .val (.int ii)] []) from Gl.st (fun τ κ => castTop (ef_rm16 m a ii) κ) k0
  refine Gl.st (g' := (mkF m 1 #[.val (.ref a), .val (.int ii)] [(.ref a)])) (fun τ κ => XS.aloadN X0.here hx rfl (hb hby d16_0) rfl rfl κ) ?_
  obtain ⟨T2021, X2021, e2021, st2021⟩ := getF X0 hx hZ hown (host := "") (Or.inl (hw _ (List.mem_of_getElem? (i := 61) rfl))) Via.refl e0 F0 (g := (mkF m 1 #[.val (.ref a), .val (.int ii)] [(.ref a)])) rfl rfl (hb hby d16_1)
  refine Gl.st (g' := (mkF m 4 #[.val (.ref a), .val (.int ii)] [(.ref t)])) (fun τ κ => st2021 _ κ) ?_
  refine Gl.st (g' := (mkF m 5 #[.val (.ref a), .val (.int ii)] [(.int ii), (.ref t)])) (fun τ κ => XS.iloadN X2021.here hx rfl (hb hby d16_4) rfl κ) ?_
  obtain ⟨cl_o2022, Ar_o2022, q_o2022, S_o2022, M_o2022, H_o2022, G_o2022⟩ := id V0
  have hin_o2022 : ¬ (ii < 0 ∨ cl_o2022.slots.size ≤ (ii).toNatClampNeg) := inb_of S_o2022 ⟨h1, h2⟩
  refine Gl.st (g' := (mkF m 6 #[.val (.ref a), .val (.int ii)] [(.long (own_at vs ii))])) (fun τ κ => X2021.laload hx (j := ii) (v := (.long (own_at vs ii))) (by rw [e2021]; exact Ar_o2022.1) (State.isArrayOf_alike hZ.alike Ar_o2022.2.1) Ar_o2022.2.2 hin_o2022 ((H_o2022 _ (Nat.lt_of_not_le fun q => hin_o2022 (Or.inr q))).trans (congrArg some (own_get (G_o2022 _ (Nat.lt_of_not_le fun q => hin_o2022 (Or.inr q)))))) (g := (mkF m 5 #[.val (.ref a), .val (.int ii)] [(.int ii), (.ref t)])) rfl rfl (hb hby d16_5) _ κ) ?_
  exact Gl.ret (v := some (.long (own_at vs ii))) X2021 Bd.notSynchronized (fun h => by rw [Bd.returns] at h; cases h) e2021 (fun fs hr => X2021.lreturnOut hx Bd.returns (hb hby d16_6) hr) (by decide) (by decide) ⟨rfl, N0, rfl⟩
theorem d15_0 : decode prog_35_method_4_code 0 = .ok (.aload_n 0, 1) := by decide +kernel
theorem d15_1 : decode prog_35_method_4_code 1 = .ok (.getfield 26, 3) := by decide +kernel
theorem d15_4 : decode prog_35_method_4_code 4 = .ok (.iload_n 1, 1) := by decide +kernel
theorem d15_5 : decode prog_35_method_4_code 5 = .ok (.laload, 1) := by decide +kernel
theorem d15_6 : decode prog_35_method_4_code 6 = .ok (.lconst 0, 1) := by decide +kernel
theorem d15_7 : decode prog_35_method_4_code 7 = .ok (.lcmp, 1) := by decide +kernel
theorem d15_8 : decode prog_35_method_4_code 8 = .ok (.ifCond .lt 17, 3) := by decide +kernel
theorem d15_25 : decode prog_35_method_4_code 25 = .ok (.lload_n 2, 1) := by decide +kernel
theorem d15_26 : decode prog_35_method_4_code 26 = .ok (.lconst 0, 1) := by decide +kernel
theorem d15_27 : decode prog_35_method_4_code 27 = .ok (.lcmp, 1) := by decide +kernel
theorem d15_28 : decode prog_35_method_4_code 28 = .ok (.ifCond .ge 18, 3) := by decide +kernel
theorem d15_46 : decode prog_35_method_4_code 46 = .ok (.aload_n 0, 1) := by decide +kernel
theorem d15_47 : decode prog_35_method_4_code 47 = .ok (.getfield 26, 3) := by decide +kernel
theorem d15_50 : decode prog_35_method_4_code 50 = .ok (.iload_n 1, 1) := by decide +kernel
theorem d15_51 : decode prog_35_method_4_code 51 = .ok (.lload_n 2, 1) := by decide +kernel
theorem d15_52 : decode prog_35_method_4_code 52 = .ok (.lastore, 1) := by decide +kernel
theorem d15_53 : decode prog_35_method_4_code 53 = .ok (.return_, 1) := by decide +kernel
theorem ef_rm15 (m : MethodId) (a : Addr) (ii : Int32) (xx : Int64) : entryFrame m #[(.ref a), (.int ii), (.long xx)] 4 = mkF m 0 #[.val (.ref a), .val (.int ii), .val (.long xx), .second] [] := by first | (simp [entryFrame, mkF, argsToLocals, Value.category]; done) | rfl
def Q_rm15 (Z : State) (a : Addr) (ii : Int32) (xx : Int64) (t : Addr) (kc : ClassId) (n : Int32) (vs : List Value) (h0 : Heap) (n0 : Nat) (v : Option Value) (h : Heap) (L : List Loc) : Prop := ∃ vs', v = none ∧ Fr n0 L ∧ Keep h0 h [t] ∧ Arv Z h t kc .long n vs' (.long (0 : Int64)) ∧ ∀ j, vs'.getD j (.long (0 : Int64)) = if j = ii.toNatClampNeg then (.long xx) else vs.getD j (.long (0 : Int64))
set_option maxRecDepth 65536 in
set_option maxHeartbeats 40000000 in
theorem rm15 (l : Launch) (Z : State) (a0 : Array Value) (hw : ∀ d ∈ tables_1, d.before a0 Z = true) (ws : List Jvm.Cond) (a : Addr) (ii : Int32) (xx : Int64) (t : Addr) (kc : ClassId) (n : Int32) (vs : List Value) (h0 : Heap) (n0 : Nat) (Z0 : n0 ≤ h0.size) (F0 : Fld Z h0 a "org/precedence/Takeover" "next" "[J" (.ref t)) (V0 : Arv Z h0 t kc .long n vs (.long (0 : Int64))) (h1 : ¬ ii < 0) (h2 : ii < n) (gt : n0 ≤ t) (hneg : own_at vs ii < 0) (hx0 : ¬ xx < 0) (hat : a ≠ t) :
    MetFree l (⟨"org/precedence/Takeover", "reported", "(IJ)V"⟩ : MethodName) (head1 (Jvm.Cond.code (⟨"org/precedence/Takeover", "reported", "(IJ)V"⟩ : MethodName) prog_35_method_4_code 4 none :: ws) ({ frames := 0, cells := 0, slots := 0, locals := 0 } : Room)) (fun aα Uα => aα = #[(.ref a), (.int ii), (.long xx)] ∧ Z.Warmed39 Uα.vm ∧ Uα.heap = h0) (fun _ _ _ _ _ => True) (fun _ Uα oα Uβ => ∃ vα Lα, oα = .returned vα ∧ Q_rm15 Z a ii xx t kc n vs h0 n0 vα Uβ.heap Lα ∧ FrameEnd Uα oα Uβ Lα ({ frames := 0, cells := 0, slots := 0, locals := 0 } : Room).cells ({ frames := 0, cells := 0, slots := 0, locals := 0 } : Room).slots) := by
  refine MetFree.of_bodySF (plainFor_of_name pn_org_precedence_Takeover) hisR ?_
  intro p e s m args below meth c s₁ Bd hml0 hP hKα
  obtain ⟨rfl, hZ, hh⟩ := hP
  have hx := Bd.exec
  have hby := Bd.bytes
  have hml : c.maxLocals = 4 := hml0
  have hown : s.vm.findClass "org/precedence/Takeover" = some m.cls := findClass_of_methodNamed Bd.named
  have hnm := (name_of_methodNamed Bd.named Bd.method).1
  have X0 : Stand p l e ({ frames := 0, cells := 0, slots := 0, locals := 0 } : Room) s m #[(.ref a), (.int ii), (.long xx)] below meth c s₁ [] 0 0 := Stand.of_body Bd
  have e0 : s₁.heap = h0 := by rw [← hh, Bd.state]; rfl
  have N0 := Fr.nil n0
  suffices k0 : Gl p e below s (Q_rm15 Z a ii xx t kc n vs h0 n0) ({ frames := 0, cells := 0, slots := 0, locals := 0 } : Room).cells ({ frames := 0, cells := 0, slots := 0, locals := 0 } : Room).slots s₁ (mkF m 0 #[.val (.ref a), .val (.int ii), .val (.long xx), .second] []) from Gl.st (fun τ κ => castTop (ef_rm15 m a ii xx) κ) k0
  refine Gl.st (g' := (mkF m 1 #[.val (.ref a), .val (.int ii), .val (.long xx), .second] [(.ref a)])) (fun τ κ => XS.aloadN X0.here hx rfl (hb hby d15_0) rfl rfl κ) ?_
  obtain ⟨T2023, X2023, e2023, st2023⟩ := getF X0 hx hZ hown (host := "") (Or.inl (hw _ (List.mem_of_getElem? (i := 61) rfl))) Via.refl e0 F0 (g := (mkF m 1 #[.val (.ref a), .val (.int ii), .val (.long xx), .second] [(.ref a)])) rfl rfl (hb hby d15_1)
  refine Gl.st (g' := (mkF m 4 #[.val (.ref a), .val (.int ii), .val (.long xx), .second] [(.ref t)])) (fun τ κ => st2023 _ κ) ?_
  refine Gl.st (g' := (mkF m 5 #[.val (.ref a), .val (.int ii), .val (.long xx), .second] [(.int ii), (.ref t)])) (fun τ κ => XS.iloadN X2023.here hx rfl (hb hby d15_4) rfl κ) ?_
  obtain ⟨cl_o2024, Ar_o2024, q_o2024, S_o2024, M_o2024, H_o2024, G_o2024⟩ := id V0
  have hin_o2024 : ¬ (ii < 0 ∨ cl_o2024.slots.size ≤ (ii).toNatClampNeg) := inb_of S_o2024 ⟨h1, h2⟩
  refine Gl.st (g' := (mkF m 6 #[.val (.ref a), .val (.int ii), .val (.long xx), .second] [(.long (own_at vs ii))])) (fun τ κ => X2023.laload hx (j := ii) (v := (.long (own_at vs ii))) (by rw [e2023]; exact Ar_o2024.1) (State.isArrayOf_alike hZ.alike Ar_o2024.2.1) Ar_o2024.2.2 hin_o2024 ((H_o2024 _ (Nat.lt_of_not_le fun q => hin_o2024 (Or.inr q))).trans (congrArg some (own_get (G_o2024 _ (Nat.lt_of_not_le fun q => hin_o2024 (Or.inr q)))))) (g := (mkF m 5 #[.val (.ref a), .val (.int ii), .val (.long xx), .second] [(.int ii), (.ref t)])) rfl rfl (hb hby d15_5) _ κ) ?_
  refine Gl.st (g' := (mkF m 7 #[.val (.ref a), .val (.int ii), .val (.long xx), .second] [(.long (0 : Int64)), (.long (own_at vs ii))])) (fun τ κ => XS.lconst X2023.here hx rfl (hb hby d15_6) κ) ?_
  refine Gl.st (g' := (mkF m 8 #[.val (.ref a), .val (.int ii), .val (.long xx), .second] [(.int (lcmpW (own_at vs ii) (0 : Int64)))])) (fun τ κ => XS.lcmp X2023.here hx rfl (hb hby d15_7) rfl κ) ?_
  have hc2025 : (own_at vs ii) < (0 : Int64) := hneg
  refine Gl.st (g' := (mkF m 25 #[.val (.ref a), .val (.int ii), .val (.long xx), .second] [])) (fun τ κ => XS.ifYes X2023.here hx rfl (pc0 := 8) (pc' := 25) rfl (hb hby d15_8) rfl ((if0 _ _).trans (tlt ((lw_lt (own_at vs ii) (0 : Int64)).mpr hc2025)).1) (by decide) (by decide) κ) ?_
  refine Gl.st (g' := (mkF m 26 #[.val (.ref a), .val (.int ii), .val (.long xx), .second] [(.long xx)])) (fun τ κ => XS.lloadN X2023.here hx rfl (hb hby d15_25) rfl κ) ?_
  refine Gl.st (g' := (mkF m 27 #[.val (.ref a), .val (.int ii), .val (.long xx), .second] [(.long (0 : Int64)), (.long xx)])) (fun τ κ => XS.lconst X2023.here hx rfl (hb hby d15_26) κ) ?_
  refine Gl.st (g' := (mkF m 28 #[.val (.ref a), .val (.int ii), .val (.long xx), .second] [(.int (lcmpW xx (0 : Int64)))])) (fun τ κ => XS.lcmp X2023.here hx rfl (hb hby d15_27) rfl κ) ?_
  have hc2026 : ¬ (xx < (0 : Int64)) := hx0
  refine Gl.st (g' := (mkF m 46 #[.val (.ref a), .val (.int ii), .val (.long xx), .second] [])) (fun τ κ => XS.ifYes X2023.here hx rfl (pc0 := 28) (pc' := 46) rfl (hb hby d15_28) rfl ((if0 _ _).trans (flt (mt (lw_lt xx (0 : Int64)).mp hc2026)).2.1) (by decide) (by decide) κ) ?_
  refine Gl.st (g' := (mkF m 47 #[.val (.ref a), .val (.int ii), .val (.long xx), .second] [(.ref a)])) (fun τ κ => XS.aloadN X2023.here hx rfl (hb hby d15_46) rfl rfl κ) ?_
  obtain ⟨T2027, X2027, e2027, st2027⟩ := getF X2023 hx hZ hown (host := "") (Or.inl (hw _ (List.mem_of_getElem? (i := 61) rfl))) Via.refl e2023 F0 (g := (mkF m 47 #[.val (.ref a), .val (.int ii), .val (.long xx), .second] [(.ref a)])) rfl rfl (hb hby d15_47)
  refine Gl.st (g' := (mkF m 50 #[.val (.ref a), .val (.int ii), .val (.long xx), .second] [(.ref t)])) (fun τ κ => st2027 _ κ) ?_
  refine Gl.st (g' := (mkF m 51 #[.val (.ref a), .val (.int ii), .val (.long xx), .second] [(.int ii), (.ref t)])) (fun τ κ => XS.iloadN X2027.here hx rfl (hb hby d15_50) rfl κ) ?_
  refine Gl.st (g' := (mkF m 52 #[.val (.ref a), .val (.int ii), .val (.long xx), .second] [(.long xx), (.int ii), (.ref t)])) (fun τ κ => XS.lloadN X2027.here hx rfl (hb hby d15_51) rfl κ) ?_
  obtain ⟨cl_o2028, Ar_o2028, q_o2028, S_o2028, M_o2028, H_o2028, G_o2028⟩ := id V0
  have hin_o2028 : ¬ (ii < 0 ∨ cl_o2028.slots.size ≤ (ii).toNatClampNeg) := inb_of S_o2028 ⟨h1, h2⟩
  obtain ⟨T2029, h2029, X2029, e2029, W2029, st2029⟩ := stJ X2027 hx hZ e2027 Ar_o2028 (j := ii) hin_o2028 (g := (mkF m 52 #[.val (.ref a), .val (.int ii), .val (.long xx), .second] [(.long xx), (.int ii), (.ref t)])) rfl rfl (hb hby d15_52)
  obtain ⟨vs2029, hvs2029⟩ := own_upd vs (ii).toNatClampNeg (.long xx) (.long (0 : Int64))
  have F_2030 := F0.other W2029 (Or.inl hat)
  have N2029 := Fr.snoc X2029 N0 gt
  have Z2029 : n0 ≤ h2029.size := Nat.le_trans Z0 (Nat.le_of_eq W2029.size.symm)
  have K2029 : Keep h0 h2029 [t] := (Keep.refl h0 [t]).wr W2029 (Or.inl (List.mem_of_getElem? (i := 0) rfl))
  have V_t_2029 : Arv Z h2029 t kc .long n vs2029 (.long (0 : Int64)) := own_set Ar_o2028 q_o2028 S_o2028 M_o2028 H_o2028 G_o2028 rfl W2029 hvs2029
  refine Gl.st (g' := (mkF m 53 #[.val (.ref a), .val (.int ii), .val (.long xx), .second] [])) (fun τ κ => st2029 _ κ) ?_
  exact Gl.ret (v := none) X2029 Bd.notSynchronized (fun _ => rfl) e2029 (fun fs hr => X2029.returnOut hx Bd.returns (hb hby d15_53) hr) (by decide) (by decide) ⟨vs2029, rfl, N2029, K2029, V_t_2029, hvs2029⟩
theorem d17_0 : decode method_3_code 0 = .ok (.iload_n 1, 1) := by decide +kernel
theorem d17_1 : decode method_3_code 1 = .ok (.iload_n 2, 1) := by decide +kernel
theorem d17_2 : decode method_3_code 2 = .ok (.if_icmp .lt 5, 3) := by decide +kernel
theorem d17_7 : decode method_3_code 7 = .ok (.aload_n 0, 1) := by decide +kernel
theorem d17_8 : decode method_3_code 8 = .ok (.iload_n 1, 1) := by decide +kernel
theorem d17_9 : decode method_3_code 9 = .ok (.invokevirtual 21, 3) := by decide +kernel
theorem pd_7 : parseMethodDescriptor "(I)Z" = some ⟨[.int], some .boolean⟩ := by decide +kernel
theorem d17_12 : decode method_3_code 12 = .ok (.iload_n 1, 1) := by decide +kernel
theorem d17_13 : decode method_3_code 13 = .ok (.iload_n 3, 1) := by decide +kernel
theorem d17_14 : decode method_3_code 14 = .ok (.if_icmp .eq 9, 3) := by decide +kernel
theorem d17_23 : decode method_3_code 23 = .ok (.iconst 1, 1) := by decide +kernel
theorem d17_24 : decode method_3_code 24 = .ok (.goto 4, 3) := by decide +kernel
theorem d17_28 : decode method_3_code 28 = .ok (.if_icmp .ne 7, 3) := by decide +kernel
theorem d17_31 : decode method_3_code 31 = .ok (.iconst 1, 1) := by decide +kernel
theorem d17_32 : decode method_3_code 32 = .ok (.goto 4, 3) := by decide +kernel
theorem d17_36 : decode method_3_code 36 = .ok (.ireturn, 1) := by decide +kernel
theorem d17_17 : decode method_3_code 17 = .ok (.iload_n 1, 1) := by decide +kernel
theorem d17_18 : decode method_3_code 18 = .ok (.iload 4, 2) := by decide +kernel
theorem d17_20 : decode method_3_code 20 = .ok (.if_icmp .ne 7, 3) := by decide +kernel
theorem d17_27 : decode method_3_code 27 = .ok (.iconst 0, 1) := by decide +kernel
theorem d17_5 : decode method_3_code 5 = .ok (.iconst 1, 1) := by decide +kernel
theorem d17_6 : decode method_3_code 6 = .ok (.ireturn, 1) := by decide +kernel
theorem pn_org_precedence_TakeoverReportedPinLaw : plainName "org/precedence/TakeoverReportedPinLaw" = true := by first | (simp [plainName, overriddenIn]; done) | decide +kernel
theorem ef_rm17 (m : MethodId) (a : Addr) (ii : Int32) (sz : Int32) (mm : Int32) (oo : Int32) : entryFrame m #[(.ref a), (.int ii), (.int sz), (.int mm), (.int oo)] 5 = mkF m 0 #[.val (.ref a), .val (.int ii), .val (.int sz), .val (.int mm), .val (.int oo)] [] := by first | (simp [entryFrame, mkF, argsToLocals, Value.category]; done) | rfl
def Q_rm17 (Z : State) (a : Addr) (ii : Int32) (sz : Int32) (mm : Int32) (oo : Int32) (t : Addr) (kc : ClassId) (vs : List Value) (h0 : Heap) (n0 : Nat) (v : Option Value) (h : Heap) (L : List Loc) : Prop := v = some (.int 1) ∧ Fr n0 L ∧ h = h0
set_option maxRecDepth 65536 in
set_option maxHeartbeats 40000000 in
theorem rm17 (l : Launch) (Z : State) (a0 : Array Value) (hw : ∀ d ∈ tables_1, d.before a0 Z = true) (ws : List Jvm.Cond) (a : Addr) (ii : Int32) (sz : Int32) (mm : Int32) (oo : Int32) (t : Addr) (kc : ClassId) (vs : List Value) (h0 : Heap) (n0 : Nat) (Z0 : n0 ≤ h0.size) (E0 : Exa Z h0 a "org/precedence/Takeover") (F0 : Fld Z h0 a "org/precedence/Takeover" "next" "[J" (.ref t)) (V0 : Arv Z h0 t kc .long sz vs (.long (0 : Int64))) (h1 : ¬ ii < 0) (hS : ¬ ii < 0 → ii < sz → own_rep vs ii = if (ii = mm ∨ ii = oo) then 1 else 0) :
    MetFree l (⟨"org/precedence/TakeoverReportedPinLaw", "slot", "(Lorg/precedence/Takeover;IIII)Z"⟩ : MethodName) (head1 (Jvm.Cond.code (⟨"org/precedence/TakeoverReportedPinLaw", "slot", "(Lorg/precedence/Takeover;IIII)Z"⟩ : MethodName) method_3_code 5 (some .boolean) :: ws) ({ frames := 1, cells := 0, slots := 0, locals := 13 } : Room)) (fun aα Uα => aα = #[(.ref a), (.int ii), (.int sz), (.int mm), (.int oo)] ∧ Z.Warmed39 Uα.vm ∧ Uα.heap = h0) (fun _ _ _ _ _ => True) (fun _ Uα oα Uβ => ∃ vα Lα, oα = .returned vα ∧ Q_rm17 Z a ii sz mm oo t kc vs h0 n0 vα Uβ.heap Lα ∧ FrameEnd Uα oα Uβ Lα ({ frames := 1, cells := 0, slots := 0, locals := 13 } : Room).cells ({ frames := 1, cells := 0, slots := 0, locals := 13 } : Room).slots) := by
  refine MetFree.of_bodySF (plainFor_of_name pn_org_precedence_TakeoverReportedPinLaw) hisR ?_
  intro p e s m args below meth c s₁ Bd hml0 hP hKα
  obtain ⟨rfl, hZ, hh⟩ := hP
  have hx := Bd.exec
  have hby := Bd.bytes
  have hml : c.maxLocals = 5 := hml0
  have hown : s.vm.findClass "org/precedence/TakeoverReportedPinLaw" = some m.cls := findClass_of_methodNamed Bd.named
  have hnm := (name_of_methodNamed Bd.named Bd.method).1
  have X0 : Stand p l e ({ frames := 1, cells := 0, slots := 0, locals := 13 } : Room) s m #[(.ref a), (.int ii), (.int sz), (.int mm), (.int oo)] below meth c s₁ [] 0 0 := Stand.of_body Bd
  have e0 : s₁.heap = h0 := by rw [← hh, Bd.state]; rfl
  have N0 := Fr.nil n0
  suffices k0 : Gl p e below s (Q_rm17 Z a ii sz mm oo t kc vs h0 n0) ({ frames := 1, cells := 0, slots := 0, locals := 13 } : Room).cells ({ frames := 1, cells := 0, slots := 0, locals := 13 } : Room).slots s₁ (mkF m 0 #[.val (.ref a), .val (.int ii), .val (.int sz), .val (.int mm), .val (.int oo)] []) from Gl.st (fun τ κ => castTop (ef_rm17 m a ii sz mm oo) κ) k0
  refine Gl.st (g' := (mkF m 1 #[.val (.ref a), .val (.int ii), .val (.int sz), .val (.int mm), .val (.int oo)] [(.int ii)])) (fun τ κ => XS.iloadN X0.here hx rfl (hb hby d17_0) rfl κ) ?_
  refine Gl.st (g' := (mkF m 2 #[.val (.ref a), .val (.int ii), .val (.int sz), .val (.int mm), .val (.int oo)] [(.int sz), (.int ii)])) (fun τ κ => XS.iloadN X0.here hx rfl (hb hby d17_1) rfl κ) ?_
  by_cases hc2032 : ii < sz
  · -- pc 2: ii < sz
    refine Gl.st (g' := (mkF m 7 #[.val (.ref a), .val (.int ii), .val (.int sz), .val (.int mm), .val (.int oo)] [])) (fun τ κ => XS.icmpYes X0.here hx rfl (pc0 := 2) (pc' := 7) rfl (hb hby d17_2) rfl (tlt hc2032).1 (by decide) (by decide) κ) ?_
    refine Gl.st (g' := (mkF m 8 #[.val (.ref a), .val (.int ii), .val (.int sz), .val (.int mm), .val (.int oo)] [(.ref a)])) (fun τ κ => XS.aloadN X0.here hx rfl (hb hby d17_7) rfl rfl κ) ?_
    refine Gl.st (g' := (mkF m 9 #[.val (.ref a), .val (.int ii), .val (.int sz), .val (.int mm), .val (.int oo)] [(.int ii), (.ref a)])) (fun τ κ => XS.iloadN X0.here hx rfl (hb hby d17_8) rfl κ) ?_
    obtain ⟨cq2033, kq2033, q2033a, q2033b, q2033c⟩ := isOf hZ e0 E0
    obtain ⟨rv2033, _, ⟨T2033, L2033, k2033, n2033⟩, -, X2033, ⟨Lc2033, hQ2033, l2033, y2033, z2033⟩, st2033⟩ := X0.virtualBack hx (y := (⟨"org/precedence/Takeover", "hasReported", "(I)Z"⟩ : MethodName)) (z := (⟨"org/precedence/Takeover", "hasReported", "(I)Z"⟩ : MethodName)) hown (mvT hZ (hw _ (List.mem_of_getElem? (i := 103) rfl))) (mvT hZ (hw _ (List.mem_of_getElem? (i := 104) rfl))) (notFace_of_selects (args := #[]) (mvT hZ (hw _ (List.mem_of_getElem? (i := 106) rfl)))) (mvT hZ (hw _ (List.mem_of_getElem? (i := 106) rfl))) (mvT hZ (hw _ (List.mem_of_getElem? (i := 105) rfl))) (by decide) (backOf (W := 0) (rm14 l Z a0 hw [] a ii t kc sz vs h0 n0 Z0 F0 V0 h1 hc2032) hZ (hw _ (List.mem_of_getElem? (i := 107) rfl)) (hw _ (List.mem_of_getElem? (i := 4) rfl)) (by decide) (by decide)) q2033a q2033c (g := (mkF m 9 #[.val (.ref a), .val (.int ii), .val (.int sz), .val (.int mm), .val (.int oo)] [(.int ii), (.ref a)])) rfl (by rw [hml]; rfl) (Steps.refl _) (argsL := [(.int ii)]) (rest := []) (lenOf pd_7 rfl) rfl (by show 2 * 0 + _ ≤ _; exact Nat.le_of_eq rfl) (hb hby d17_9) (fun _ _ => ⟨rfl, e0, (by decide : 0 + 0 ≤ _), (by decide : 0 + 0 ≤ _)⟩)
    dsimp only [Pt.U, Pt.locs, Pt.cells, Pt.slots] at X2033 l2033 y2033 z2033 st2033 hQ2033
    subst l2033 y2033 z2033
    obtain ⟨rfl, N2033q, e2033⟩ := hQ2033
    have N2033 := Fr.app N0 N2033q
    refine Gl.st (g' := (mkF m 12 #[.val (.ref a), .val (.int ii), .val (.int sz), .val (.int mm), .val (.int oo)] [(.int (own_rep vs ii))])) (fun τ κ => st2033.trans κ) ?_
    refine Gl.st (g' := (mkF m 13 #[.val (.ref a), .val (.int ii), .val (.int sz), .val (.int mm), .val (.int oo)] [(.int ii), (.int (own_rep vs ii))])) (fun τ κ => XS.iloadN X2033.here hx rfl (hb hby d17_12) rfl κ) ?_
    refine Gl.st (g' := (mkF m 14 #[.val (.ref a), .val (.int ii), .val (.int sz), .val (.int mm), .val (.int oo)] [(.int mm), (.int ii), (.int (own_rep vs ii))])) (fun τ κ => XS.iloadN X2033.here hx rfl (hb hby d17_13) rfl κ) ?_
    by_cases hc2034 : ii = mm
    · -- pc 14: ii = mm
      refine Gl.st (g' := (mkF m 23 #[.val (.ref a), .val (.int ii), .val (.int sz), .val (.int mm), .val (.int oo)] [(.int (own_rep vs ii))])) (fun τ κ => XS.icmpYes X2033.here hx rfl (pc0 := 14) (pc' := 23) rfl (hb hby d17_14) rfl (teq hc2034).1 (by decide) (by decide) κ) ?_
      refine Gl.st (g' := (mkF m 24 #[.val (.ref a), .val (.int ii), .val (.int sz), .val (.int mm), .val (.int oo)] [(.int (1 : Int32)), (.int (own_rep vs ii))])) (fun τ κ => XS.iconst X2033.here hx rfl (hb hby d17_23) κ) ?_
      refine Gl.st (g' := (mkF m 28 #[.val (.ref a), .val (.int ii), .val (.int sz), .val (.int mm), .val (.int oo)] [(.int (1 : Int32)), (.int (own_rep vs ii))])) (fun τ κ => XS.goto X2033.here hx rfl (pc0 := 24) (pc' := 28) rfl (hb hby d17_24) (by decide) (by decide) κ) ?_
      have hc2035 : (own_rep vs ii) = (1 : Int32) := (hS h1 hc2032).trans (if_pos (Or.inl hc2034))
      refine Gl.st (g' := (mkF m 31 #[.val (.ref a), .val (.int ii), .val (.int sz), .val (.int mm), .val (.int oo)] [])) (fun τ κ => XS.icmpNo X2033.here hx rfl (hb hby d17_28) rfl (teq hc2035).2 κ) ?_
      refine Gl.st (g' := (mkF m 32 #[.val (.ref a), .val (.int ii), .val (.int sz), .val (.int mm), .val (.int oo)] [(.int (1 : Int32))])) (fun τ κ => XS.iconst X2033.here hx rfl (hb hby d17_31) κ) ?_
      refine Gl.st (g' := (mkF m 36 #[.val (.ref a), .val (.int ii), .val (.int sz), .val (.int mm), .val (.int oo)] [(.int (1 : Int32))])) (fun τ κ => XS.goto X2033.here hx rfl (pc0 := 32) (pc' := 36) rfl (hb hby d17_32) (by decide) (by decide) κ) ?_
      exact Gl.ret (v := some (.int (1 : Int32))) X2033 Bd.notSynchronized (fun h => by rw [Bd.returns] at h; cases h) e2033 (fun fs hr => retN X2033 hx (t := .boolean) Bd.returns (by simp) (hb hby d17_36) hr) (by decide) (by decide) ⟨rfl, N2033, rfl⟩
    · -- pc 14: not ii = mm
      refine Gl.st (g' := (mkF m 17 #[.val (.ref a), .val (.int ii), .val (.int sz), .val (.int mm), .val (.int oo)] [(.int (own_rep vs ii))])) (fun τ κ => XS.icmpNo X2033.here hx rfl (hb hby d17_14) rfl (feq hc2034).1 κ) ?_
      refine Gl.st (g' := (mkF m 18 #[.val (.ref a), .val (.int ii), .val (.int sz), .val (.int mm), .val (.int oo)] [(.int ii), (.int (own_rep vs ii))])) (fun τ κ => XS.iloadN X2033.here hx rfl (hb hby d17_17) rfl κ) ?_
      refine Gl.st (g' := (mkF m 20 #[.val (.ref a), .val (.int ii), .val (.int sz), .val (.int mm), .val (.int oo)] [(.int oo), (.int ii), (.int (own_rep vs ii))])) (fun τ κ => XS.iload X2033.here hx rfl (hb hby d17_18) rfl κ) ?_
      by_cases hc2036 : ii = oo
      · -- pc 20: ii = oo
        refine Gl.st (g' := (mkF m 23 #[.val (.ref a), .val (.int ii), .val (.int sz), .val (.int mm), .val (.int oo)] [(.int (own_rep vs ii))])) (fun τ κ => XS.icmpNo X2033.here hx rfl (hb hby d17_20) rfl (teq hc2036).2 κ) ?_
        refine Gl.st (g' := (mkF m 24 #[.val (.ref a), .val (.int ii), .val (.int sz), .val (.int mm), .val (.int oo)] [(.int (1 : Int32)), (.int (own_rep vs ii))])) (fun τ κ => XS.iconst X2033.here hx rfl (hb hby d17_23) κ) ?_
        refine Gl.st (g' := (mkF m 28 #[.val (.ref a), .val (.int ii), .val (.int sz), .val (.int mm), .val (.int oo)] [(.int (1 : Int32)), (.int (own_rep vs ii))])) (fun τ κ => XS.goto X2033.here hx rfl (pc0 := 24) (pc' := 28) rfl (hb hby d17_24) (by decide) (by decide) κ) ?_
        have hc2037 : (own_rep vs ii) = (1 : Int32) := (hS h1 hc2032).trans (if_pos (Or.inr hc2036))
        refine Gl.st (g' := (mkF m 31 #[.val (.ref a), .val (.int ii), .val (.int sz), .val (.int mm), .val (.int oo)] [])) (fun τ κ => XS.icmpNo X2033.here hx rfl (hb hby d17_28) rfl (teq hc2037).2 κ) ?_
        refine Gl.st (g' := (mkF m 32 #[.val (.ref a), .val (.int ii), .val (.int sz), .val (.int mm), .val (.int oo)] [(.int (1 : Int32))])) (fun τ κ => XS.iconst X2033.here hx rfl (hb hby d17_31) κ) ?_
        refine Gl.st (g' := (mkF m 36 #[.val (.ref a), .val (.int ii), .val (.int sz), .val (.int mm), .val (.int oo)] [(.int (1 : Int32))])) (fun τ κ => XS.goto X2033.here hx rfl (pc0 := 32) (pc' := 36) rfl (hb hby d17_32) (by decide) (by decide) κ) ?_
        exact Gl.ret (v := some (.int (1 : Int32))) X2033 Bd.notSynchronized (fun h => by rw [Bd.returns] at h; cases h) e2033 (fun fs hr => retN X2033 hx (t := .boolean) Bd.returns (by simp) (hb hby d17_36) hr) (by decide) (by decide) ⟨rfl, N2033, rfl⟩
      · -- pc 20: not ii = oo
        refine Gl.st (g' := (mkF m 27 #[.val (.ref a), .val (.int ii), .val (.int sz), .val (.int mm), .val (.int oo)] [(.int (own_rep vs ii))])) (fun τ κ => XS.icmpYes X2033.here hx rfl (pc0 := 20) (pc' := 27) rfl (hb hby d17_20) rfl (feq hc2036).2 (by decide) (by decide) κ) ?_
        refine Gl.st (g' := (mkF m 28 #[.val (.ref a), .val (.int ii), .val (.int sz), .val (.int mm), .val (.int oo)] [(.int (0 : Int32)), (.int (own_rep vs ii))])) (fun τ κ => XS.iconst X2033.here hx rfl (hb hby d17_27) κ) ?_
        have hc2038 : (own_rep vs ii) = (0 : Int32) := (hS h1 hc2032).trans (if_neg (fun q => q.elim hc2034 hc2036))
        refine Gl.st (g' := (mkF m 31 #[.val (.ref a), .val (.int ii), .val (.int sz), .val (.int mm), .val (.int oo)] [])) (fun τ κ => XS.icmpNo X2033.here hx rfl (hb hby d17_28) rfl (teq hc2038).2 κ) ?_
        refine Gl.st (g' := (mkF m 32 #[.val (.ref a), .val (.int ii), .val (.int sz), .val (.int mm), .val (.int oo)] [(.int (1 : Int32))])) (fun τ κ => XS.iconst X2033.here hx rfl (hb hby d17_31) κ) ?_
        refine Gl.st (g' := (mkF m 36 #[.val (.ref a), .val (.int ii), .val (.int sz), .val (.int mm), .val (.int oo)] [(.int (1 : Int32))])) (fun τ κ => XS.goto X2033.here hx rfl (pc0 := 32) (pc' := 36) rfl (hb hby d17_32) (by decide) (by decide) κ) ?_
        exact Gl.ret (v := some (.int (1 : Int32))) X2033 Bd.notSynchronized (fun h => by rw [Bd.returns] at h; cases h) e2033 (fun fs hr => retN X2033 hx (t := .boolean) Bd.returns (by simp) (hb hby d17_36) hr) (by decide) (by decide) ⟨rfl, N2033, rfl⟩
  · -- pc 2: not ii < sz
    refine Gl.st (g' := (mkF m 5 #[.val (.ref a), .val (.int ii), .val (.int sz), .val (.int mm), .val (.int oo)] [])) (fun τ κ => XS.icmpNo X0.here hx rfl (hb hby d17_2) rfl (flt hc2032).1 κ) ?_
    refine Gl.st (g' := (mkF m 6 #[.val (.ref a), .val (.int ii), .val (.int sz), .val (.int mm), .val (.int oo)] [(.int (1 : Int32))])) (fun τ κ => XS.iconst X0.here hx rfl (hb hby d17_5) κ) ?_
    exact Gl.ret (v := some (.int (1 : Int32))) X0 Bd.notSynchronized (fun h => by rw [Bd.returns] at h; cases h) e0 (fun fs hr => retN X0 hx (t := .boolean) Bd.returns (by simp) (hb hby d17_6) hr) (by decide) (by decide) ⟨rfl, N0, rfl⟩
theorem pd_8 : parseMethodDescriptor "(Lorg/precedence/Takeover;IIII)Z" = some ⟨[(.object "org/precedence/Takeover"), .int, .int, .int, .int], some .boolean⟩ := by decide +kernel
set_option maxRecDepth 65536 in
set_option maxHeartbeats 40000000 in
theorem own_tail {p : Program} {l : Launch} {e : Env} {s : State} {m : MethodId} {args : Array Value} {below : List Frame} {meth : Method} {c : Code} {Z : State} {a0 : Array Value} {QQ : Option Value → Heap → List Loc → Prop} {CC NN : Nat} (hx : p.tables.exec = Jvm.exec) (hZ : Z.Warmed39 s.vm) (hw : ∀ d ∈ tables_1, d.before a0 Z = true) (hby : c.code = code) (hml : c.maxLocals = 19) (hown : s.vm.findClass "org/precedence/TakeoverReportedPinLaw" = some m.cls) {l0 : Slot} {l1 : Slot} {l2 : Slot} {l3 : Slot} {l4 : Slot} {l5 : Slot} {l6 : Slot} {l9 : Slot} {l10 : Slot} {l11 : Slot} {l12 : Slot} {l13 : Slot} {l14 : Slot} {tk t : Addr} {kc : ClassId} {sz mm oo : Int32} {vs : List Value} {n0 : Nat} {T0 : State} {h1 : Heap} {locs : List Loc} (X0 : Stand p l e room_1 s m args below meth c T0 locs 11 45) (e1 : T0.heap = h1) (N0 : Fr n0 locs) (Z0 : n0 ≤ h1.size) (E0 : Exa Z h1 tk "org/precedence/Takeover") (F0 : Fld Z h1 tk "org/precedence/Takeover" "next" "[J" (.ref t)) (V0 : Arv Z h1 t kc .long sz vs (.long (0 : Int64))) (hS : ∀ ii, ¬ ii < 0 → ii < sz → own_rep vs ii = if (ii = mm ∨ ii = oo) then 1 else 0)
    (cont : ∀ (T' : State) (h' : Heap) (locs' : List Loc), Stand p l e room_1 s m args below meth c T' locs' 11 45 → T'.heap = h' → Fr n0 locs' → Gl p e below s QQ CC NN T' (mkF m 347 #[l0, l1, l2, l3, l4, l5, l6, .val (.int sz), .val (.int mm), l9, l10, l11, l12, l13, l14, .val (.int oo), .val (.ref tk), .val (.int (1 : Int32)), .val (.int (1 : Int32))] [])) :
    Gl p e below s QQ CC NN T0 (mkF m 239 #[l0, l1, l2, l3, l4, l5, l6, .val (.int sz), .val (.int mm), l9, l10, l11, l12, l13, l14, .val (.int oo), .val (.ref tk), .val (.int (1 : Int32)), .val (.int (1 : Int32))] []) := by
  refine Gl.st (g' := (mkF m 241 #[l0, l1, l2, l3, l4, l5, l6, .val (.int sz), .val (.int mm), l9, l10, l11, l12, l13, l14, .val (.int oo), .val (.ref tk), .val (.int (1 : Int32)), .val (.int (1 : Int32))] [(.int (1 : Int32))])) (fun τ κ => XS.iload X0.here hx rfl (hb hby at_239) rfl κ) ?_
  have hc2039 : ¬ ((1 : Int32) = (0 : Int32)) := by decide
  refine Gl.st (g' := (mkF m 244 #[l0, l1, l2, l3, l4, l5, l6, .val (.int sz), .val (.int mm), l9, l10, l11, l12, l13, l14, .val (.int oo), .val (.ref tk), .val (.int (1 : Int32)), .val (.int (1 : Int32))] [])) (fun τ κ => XS.ifNo X0.here hx rfl (hb hby at_241) rfl ((if0 _ _).trans (feq hc2039).1) κ) ?_
  refine Gl.st (g' := (mkF m 246 #[l0, l1, l2, l3, l4, l5, l6, .val (.int sz), .val (.int mm), l9, l10, l11, l12, l13, l14, .val (.int oo), .val (.ref tk), .val (.int (1 : Int32)), .val (.int (1 : Int32))] [(.ref tk)])) (fun τ κ => XS.aload X0.here hx rfl (hb hby at_244) rfl rfl κ) ?_
  refine Gl.st (g' := (mkF m 247 #[l0, l1, l2, l3, l4, l5, l6, .val (.int sz), .val (.int mm), l9, l10, l11, l12, l13, l14, .val (.int oo), .val (.ref tk), .val (.int (1 : Int32)), .val (.int (1 : Int32))] [(.int (0 : Int32)), (.ref tk)])) (fun τ κ => XS.iconst X0.here hx rfl (hb hby at_246) κ) ?_
  refine Gl.st (g' := (mkF m 249 #[l0, l1, l2, l3, l4, l5, l6, .val (.int sz), .val (.int mm), l9, l10, l11, l12, l13, l14, .val (.int oo), .val (.ref tk), .val (.int (1 : Int32)), .val (.int (1 : Int32))] [(.int sz), (.int (0 : Int32)), (.ref tk)])) (fun τ κ => XS.iload X0.here hx rfl (hb hby at_247) rfl κ) ?_
  refine Gl.st (g' := (mkF m 251 #[l0, l1, l2, l3, l4, l5, l6, .val (.int sz), .val (.int mm), l9, l10, l11, l12, l13, l14, .val (.int oo), .val (.ref tk), .val (.int (1 : Int32)), .val (.int (1 : Int32))] [(.int mm), (.int sz), (.int (0 : Int32)), (.ref tk)])) (fun τ κ => XS.iload X0.here hx rfl (hb hby at_249) rfl κ) ?_
  refine Gl.st (g' := (mkF m 253 #[l0, l1, l2, l3, l4, l5, l6, .val (.int sz), .val (.int mm), l9, l10, l11, l12, l13, l14, .val (.int oo), .val (.ref tk), .val (.int (1 : Int32)), .val (.int (1 : Int32))] [(.int oo), (.int mm), (.int sz), (.int (0 : Int32)), (.ref tk)])) (fun τ κ => XS.iload X0.here hx rfl (hb hby at_251) rfl κ) ?_
  obtain ⟨rv2040, _, ⟨T2040, L2040, k2040, n2040⟩, -, X2040, ⟨Lc2040, hQ2040, l2040, y2040, z2040⟩, st2040⟩ := Jvm.LawKit.callS X0 hx (y := (⟨"org/precedence/TakeoverReportedPinLaw", "slot", "(Lorg/precedence/Takeover;IIII)Z"⟩ : MethodName)) hown (mvT hZ (hw _ (List.mem_of_getElem? (i := 118) rfl))) (mvT hZ (hw _ (List.mem_of_getElem? (i := 119) rfl))) (mvT hZ (hw _ (List.mem_of_getElem? (i := 120) rfl))) (mvT hZ (hw _ (List.mem_of_getElem? (i := 121) rfl))) (by decide) (backOf (W := 0) (rm17 l Z a0 hw [] tk (0 : Int32) sz mm oo t kc vs h1 n0 Z0 E0 F0 V0 (by decide) (hS _)) hZ (hw _ (List.mem_of_getElem? (i := 121) rfl)) (hw _ (List.mem_of_getElem? (i := 120) rfl)) (by decide) (by decide)) (g := (mkF m 253 #[l0, l1, l2, l3, l4, l5, l6, .val (.int sz), .val (.int mm), l9, l10, l11, l12, l13, l14, .val (.int oo), .val (.ref tk), .val (.int (1 : Int32)), .val (.int (1 : Int32))] [(.int oo), (.int mm), (.int sz), (.int (0 : Int32)), (.ref tk)])) rfl (by rw [hml]; rfl) (argsL := [(.ref tk), (.int (0 : Int32)), (.int sz), (.int mm), (.int oo)]) (rest := []) (lenOf pd_8 rfl) rfl (by show 2 * 0 + _ ≤ _; exact Nat.le_of_eq rfl) (hb hby at_253) (fun _ _ => ⟨rfl, e1, (by decide : 11 + 0 ≤ _), (by decide : 45 + 0 ≤ _)⟩)
  dsimp only [Pt.U, Pt.locs, Pt.cells, Pt.slots] at X2040 l2040 y2040 z2040 st2040 hQ2040
  subst l2040 y2040 z2040
  obtain ⟨rfl, N2040q, e2040⟩ := hQ2040
  have N2040 := Fr.app N0 N2040q
  refine Gl.st (g' := (mkF m 256 #[l0, l1, l2, l3, l4, l5, l6, .val (.int sz), .val (.int mm), l9, l10, l11, l12, l13, l14, .val (.int oo), .val (.ref tk), .val (.int (1 : Int32)), .val (.int (1 : Int32))] [(.int (1 : Int32))])) (fun τ κ => st2040 _ κ) ?_
  have hc2041 : ¬ ((1 : Int32) = (0 : Int32)) := by decide
  refine Gl.st (g' := (mkF m 259 #[l0, l1, l2, l3, l4, l5, l6, .val (.int sz), .val (.int mm), l9, l10, l11, l12, l13, l14, .val (.int oo), .val (.ref tk), .val (.int (1 : Int32)), .val (.int (1 : Int32))] [])) (fun τ κ => XS.ifNo X2040.here hx rfl (hb hby at_256) rfl ((if0 _ _).trans (feq hc2041).1) κ) ?_
  refine Gl.st (g' := (mkF m 260 #[l0, l1, l2, l3, l4, l5, l6, .val (.int sz), .val (.int mm), l9, l10, l11, l12, l13, l14, .val (.int oo), .val (.ref tk), .val (.int (1 : Int32)), .val (.int (1 : Int32))] [(.int (1 : Int32))])) (fun τ κ => XS.iconst X2040.here hx rfl (hb hby at_259) κ) ?_
  refine Gl.st (g' := (mkF m 264 #[l0, l1, l2, l3, l4, l5, l6, .val (.int sz), .val (.int mm), l9, l10, l11, l12, l13, l14, .val (.int oo), .val (.ref tk), .val (.int (1 : Int32)), .val (.int (1 : Int32))] [(.int (1 : Int32))])) (fun τ κ => XS.goto X2040.here hx rfl (pc0 := 260) (pc' := 264) rfl (hb hby at_260) (by decide) (by decide) κ) ?_
  refine Gl.st (g' := (mkF m 266 #[l0, l1, l2, l3, l4, l5, l6, .val (.int sz), .val (.int mm), l9, l10, l11, l12, l13, l14, .val (.int oo), .val (.ref tk), .val (.int (1 : Int32)), .val (.int (1 : Int32))] [])) (fun τ κ => XS.istore X2040.here hx rfl (hb hby at_264) rfl (l' := #[l0, l1, l2, l3, l4, l5, l6, .val (.int sz), .val (.int mm), l9, l10, l11, l12, l13, l14, .val (.int oo), .val (.ref tk), .val (.int (1 : Int32)), .val (.int (1 : Int32))]) rfl κ) ?_
  refine Gl.st (g' := (mkF m 268 #[l0, l1, l2, l3, l4, l5, l6, .val (.int sz), .val (.int mm), l9, l10, l11, l12, l13, l14, .val (.int oo), .val (.ref tk), .val (.int (1 : Int32)), .val (.int (1 : Int32))] [(.int (1 : Int32))])) (fun τ κ => XS.iload X2040.here hx rfl (hb hby at_266) rfl κ) ?_
  have hc2042 : ¬ ((1 : Int32) = (0 : Int32)) := by decide
  refine Gl.st (g' := (mkF m 271 #[l0, l1, l2, l3, l4, l5, l6, .val (.int sz), .val (.int mm), l9, l10, l11, l12, l13, l14, .val (.int oo), .val (.ref tk), .val (.int (1 : Int32)), .val (.int (1 : Int32))] [])) (fun τ κ => XS.ifNo X2040.here hx rfl (hb hby at_268) rfl ((if0 _ _).trans (feq hc2042).1) κ) ?_
  refine Gl.st (g' := (mkF m 273 #[l0, l1, l2, l3, l4, l5, l6, .val (.int sz), .val (.int mm), l9, l10, l11, l12, l13, l14, .val (.int oo), .val (.ref tk), .val (.int (1 : Int32)), .val (.int (1 : Int32))] [(.ref tk)])) (fun τ κ => XS.aload X2040.here hx rfl (hb hby at_271) rfl rfl κ) ?_
  refine Gl.st (g' := (mkF m 274 #[l0, l1, l2, l3, l4, l5, l6, .val (.int sz), .val (.int mm), l9, l10, l11, l12, l13, l14, .val (.int oo), .val (.ref tk), .val (.int (1 : Int32)), .val (.int (1 : Int32))] [(.int (1 : Int32)), (.ref tk)])) (fun τ κ => XS.iconst X2040.here hx rfl (hb hby at_273) κ) ?_
  refine Gl.st (g' := (mkF m 276 #[l0, l1, l2, l3, l4, l5, l6, .val (.int sz), .val (.int mm), l9, l10, l11, l12, l13, l14, .val (.int oo), .val (.ref tk), .val (.int (1 : Int32)), .val (.int (1 : Int32))] [(.int sz), (.int (1 : Int32)), (.ref tk)])) (fun τ κ => XS.iload X2040.here hx rfl (hb hby at_274) rfl κ) ?_
  refine Gl.st (g' := (mkF m 278 #[l0, l1, l2, l3, l4, l5, l6, .val (.int sz), .val (.int mm), l9, l10, l11, l12, l13, l14, .val (.int oo), .val (.ref tk), .val (.int (1 : Int32)), .val (.int (1 : Int32))] [(.int mm), (.int sz), (.int (1 : Int32)), (.ref tk)])) (fun τ κ => XS.iload X2040.here hx rfl (hb hby at_276) rfl κ) ?_
  refine Gl.st (g' := (mkF m 280 #[l0, l1, l2, l3, l4, l5, l6, .val (.int sz), .val (.int mm), l9, l10, l11, l12, l13, l14, .val (.int oo), .val (.ref tk), .val (.int (1 : Int32)), .val (.int (1 : Int32))] [(.int oo), (.int mm), (.int sz), (.int (1 : Int32)), (.ref tk)])) (fun τ κ => XS.iload X2040.here hx rfl (hb hby at_278) rfl κ) ?_
  obtain ⟨rv2043, _, ⟨T2043, L2043, k2043, n2043⟩, -, X2043, ⟨Lc2043, hQ2043, l2043, y2043, z2043⟩, st2043⟩ := Jvm.LawKit.callS X2040 hx (y := (⟨"org/precedence/TakeoverReportedPinLaw", "slot", "(Lorg/precedence/Takeover;IIII)Z"⟩ : MethodName)) hown (mvT hZ (hw _ (List.mem_of_getElem? (i := 118) rfl))) (mvT hZ (hw _ (List.mem_of_getElem? (i := 119) rfl))) (mvT hZ (hw _ (List.mem_of_getElem? (i := 120) rfl))) (mvT hZ (hw _ (List.mem_of_getElem? (i := 121) rfl))) (by decide) (backOf (W := 0) (rm17 l Z a0 hw [] tk (1 : Int32) sz mm oo t kc vs h1 n0 Z0 E0 F0 V0 (by decide) (hS _)) hZ (hw _ (List.mem_of_getElem? (i := 121) rfl)) (hw _ (List.mem_of_getElem? (i := 120) rfl)) (by decide) (by decide)) (g := (mkF m 280 #[l0, l1, l2, l3, l4, l5, l6, .val (.int sz), .val (.int mm), l9, l10, l11, l12, l13, l14, .val (.int oo), .val (.ref tk), .val (.int (1 : Int32)), .val (.int (1 : Int32))] [(.int oo), (.int mm), (.int sz), (.int (1 : Int32)), (.ref tk)])) rfl (by rw [hml]; rfl) (argsL := [(.ref tk), (.int (1 : Int32)), (.int sz), (.int mm), (.int oo)]) (rest := []) (lenOf pd_8 rfl) rfl (by show 2 * 0 + _ ≤ _; exact Nat.le_of_eq rfl) (hb hby at_280) (fun _ _ => ⟨rfl, e2040, (by decide : 11 + 0 ≤ _), (by decide : 45 + 0 ≤ _)⟩)
  dsimp only [Pt.U, Pt.locs, Pt.cells, Pt.slots] at X2043 l2043 y2043 z2043 st2043 hQ2043
  subst l2043 y2043 z2043
  obtain ⟨rfl, N2043q, e2043⟩ := hQ2043
  have N2043 := Fr.app N2040 N2043q
  refine Gl.st (g' := (mkF m 283 #[l0, l1, l2, l3, l4, l5, l6, .val (.int sz), .val (.int mm), l9, l10, l11, l12, l13, l14, .val (.int oo), .val (.ref tk), .val (.int (1 : Int32)), .val (.int (1 : Int32))] [(.int (1 : Int32))])) (fun τ κ => st2043 _ κ) ?_
  have hc2044 : ¬ ((1 : Int32) = (0 : Int32)) := by decide
  refine Gl.st (g' := (mkF m 286 #[l0, l1, l2, l3, l4, l5, l6, .val (.int sz), .val (.int mm), l9, l10, l11, l12, l13, l14, .val (.int oo), .val (.ref tk), .val (.int (1 : Int32)), .val (.int (1 : Int32))] [])) (fun τ κ => XS.ifNo X2043.here hx rfl (hb hby at_283) rfl ((if0 _ _).trans (feq hc2044).1) κ) ?_
  refine Gl.st (g' := (mkF m 287 #[l0, l1, l2, l3, l4, l5, l6, .val (.int sz), .val (.int mm), l9, l10, l11, l12, l13, l14, .val (.int oo), .val (.ref tk), .val (.int (1 : Int32)), .val (.int (1 : Int32))] [(.int (1 : Int32))])) (fun τ κ => XS.iconst X2043.here hx rfl (hb hby at_286) κ) ?_
  refine Gl.st (g' := (mkF m 291 #[l0, l1, l2, l3, l4, l5, l6, .val (.int sz), .val (.int mm), l9, l10, l11, l12, l13, l14, .val (.int oo), .val (.ref tk), .val (.int (1 : Int32)), .val (.int (1 : Int32))] [(.int (1 : Int32))])) (fun τ κ => XS.goto X2043.here hx rfl (pc0 := 287) (pc' := 291) rfl (hb hby at_287) (by decide) (by decide) κ) ?_
  refine Gl.st (g' := (mkF m 293 #[l0, l1, l2, l3, l4, l5, l6, .val (.int sz), .val (.int mm), l9, l10, l11, l12, l13, l14, .val (.int oo), .val (.ref tk), .val (.int (1 : Int32)), .val (.int (1 : Int32))] [])) (fun τ κ => XS.istore X2043.here hx rfl (hb hby at_291) rfl (l' := #[l0, l1, l2, l3, l4, l5, l6, .val (.int sz), .val (.int mm), l9, l10, l11, l12, l13, l14, .val (.int oo), .val (.ref tk), .val (.int (1 : Int32)), .val (.int (1 : Int32))]) rfl κ) ?_
  refine Gl.st (g' := (mkF m 295 #[l0, l1, l2, l3, l4, l5, l6, .val (.int sz), .val (.int mm), l9, l10, l11, l12, l13, l14, .val (.int oo), .val (.ref tk), .val (.int (1 : Int32)), .val (.int (1 : Int32))] [(.int (1 : Int32))])) (fun τ κ => XS.iload X2043.here hx rfl (hb hby at_293) rfl κ) ?_
  have hc2045 : ¬ ((1 : Int32) = (0 : Int32)) := by decide
  refine Gl.st (g' := (mkF m 298 #[l0, l1, l2, l3, l4, l5, l6, .val (.int sz), .val (.int mm), l9, l10, l11, l12, l13, l14, .val (.int oo), .val (.ref tk), .val (.int (1 : Int32)), .val (.int (1 : Int32))] [])) (fun τ κ => XS.ifNo X2043.here hx rfl (hb hby at_295) rfl ((if0 _ _).trans (feq hc2045).1) κ) ?_
  refine Gl.st (g' := (mkF m 300 #[l0, l1, l2, l3, l4, l5, l6, .val (.int sz), .val (.int mm), l9, l10, l11, l12, l13, l14, .val (.int oo), .val (.ref tk), .val (.int (1 : Int32)), .val (.int (1 : Int32))] [(.ref tk)])) (fun τ κ => XS.aload X2043.here hx rfl (hb hby at_298) rfl rfl κ) ?_
  refine Gl.st (g' := (mkF m 301 #[l0, l1, l2, l3, l4, l5, l6, .val (.int sz), .val (.int mm), l9, l10, l11, l12, l13, l14, .val (.int oo), .val (.ref tk), .val (.int (1 : Int32)), .val (.int (1 : Int32))] [(.int (2 : Int32)), (.ref tk)])) (fun τ κ => XS.iconst X2043.here hx rfl (hb hby at_300) κ) ?_
  refine Gl.st (g' := (mkF m 303 #[l0, l1, l2, l3, l4, l5, l6, .val (.int sz), .val (.int mm), l9, l10, l11, l12, l13, l14, .val (.int oo), .val (.ref tk), .val (.int (1 : Int32)), .val (.int (1 : Int32))] [(.int sz), (.int (2 : Int32)), (.ref tk)])) (fun τ κ => XS.iload X2043.here hx rfl (hb hby at_301) rfl κ) ?_
  refine Gl.st (g' := (mkF m 305 #[l0, l1, l2, l3, l4, l5, l6, .val (.int sz), .val (.int mm), l9, l10, l11, l12, l13, l14, .val (.int oo), .val (.ref tk), .val (.int (1 : Int32)), .val (.int (1 : Int32))] [(.int mm), (.int sz), (.int (2 : Int32)), (.ref tk)])) (fun τ κ => XS.iload X2043.here hx rfl (hb hby at_303) rfl κ) ?_
  refine Gl.st (g' := (mkF m 307 #[l0, l1, l2, l3, l4, l5, l6, .val (.int sz), .val (.int mm), l9, l10, l11, l12, l13, l14, .val (.int oo), .val (.ref tk), .val (.int (1 : Int32)), .val (.int (1 : Int32))] [(.int oo), (.int mm), (.int sz), (.int (2 : Int32)), (.ref tk)])) (fun τ κ => XS.iload X2043.here hx rfl (hb hby at_305) rfl κ) ?_
  obtain ⟨rv2046, _, ⟨T2046, L2046, k2046, n2046⟩, -, X2046, ⟨Lc2046, hQ2046, l2046, y2046, z2046⟩, st2046⟩ := Jvm.LawKit.callS X2043 hx (y := (⟨"org/precedence/TakeoverReportedPinLaw", "slot", "(Lorg/precedence/Takeover;IIII)Z"⟩ : MethodName)) hown (mvT hZ (hw _ (List.mem_of_getElem? (i := 118) rfl))) (mvT hZ (hw _ (List.mem_of_getElem? (i := 119) rfl))) (mvT hZ (hw _ (List.mem_of_getElem? (i := 120) rfl))) (mvT hZ (hw _ (List.mem_of_getElem? (i := 121) rfl))) (by decide) (backOf (W := 0) (rm17 l Z a0 hw [] tk (2 : Int32) sz mm oo t kc vs h1 n0 Z0 E0 F0 V0 (by decide) (hS _)) hZ (hw _ (List.mem_of_getElem? (i := 121) rfl)) (hw _ (List.mem_of_getElem? (i := 120) rfl)) (by decide) (by decide)) (g := (mkF m 307 #[l0, l1, l2, l3, l4, l5, l6, .val (.int sz), .val (.int mm), l9, l10, l11, l12, l13, l14, .val (.int oo), .val (.ref tk), .val (.int (1 : Int32)), .val (.int (1 : Int32))] [(.int oo), (.int mm), (.int sz), (.int (2 : Int32)), (.ref tk)])) rfl (by rw [hml]; rfl) (argsL := [(.ref tk), (.int (2 : Int32)), (.int sz), (.int mm), (.int oo)]) (rest := []) (lenOf pd_8 rfl) rfl (by show 2 * 0 + _ ≤ _; exact Nat.le_of_eq rfl) (hb hby at_307) (fun _ _ => ⟨rfl, e2043, (by decide : 11 + 0 ≤ _), (by decide : 45 + 0 ≤ _)⟩)
  dsimp only [Pt.U, Pt.locs, Pt.cells, Pt.slots] at X2046 l2046 y2046 z2046 st2046 hQ2046
  subst l2046 y2046 z2046
  obtain ⟨rfl, N2046q, e2046⟩ := hQ2046
  have N2046 := Fr.app N2043 N2046q
  refine Gl.st (g' := (mkF m 310 #[l0, l1, l2, l3, l4, l5, l6, .val (.int sz), .val (.int mm), l9, l10, l11, l12, l13, l14, .val (.int oo), .val (.ref tk), .val (.int (1 : Int32)), .val (.int (1 : Int32))] [(.int (1 : Int32))])) (fun τ κ => st2046 _ κ) ?_
  have hc2047 : ¬ ((1 : Int32) = (0 : Int32)) := by decide
  refine Gl.st (g' := (mkF m 313 #[l0, l1, l2, l3, l4, l5, l6, .val (.int sz), .val (.int mm), l9, l10, l11, l12, l13, l14, .val (.int oo), .val (.ref tk), .val (.int (1 : Int32)), .val (.int (1 : Int32))] [])) (fun τ κ => XS.ifNo X2046.here hx rfl (hb hby at_310) rfl ((if0 _ _).trans (feq hc2047).1) κ) ?_
  refine Gl.st (g' := (mkF m 314 #[l0, l1, l2, l3, l4, l5, l6, .val (.int sz), .val (.int mm), l9, l10, l11, l12, l13, l14, .val (.int oo), .val (.ref tk), .val (.int (1 : Int32)), .val (.int (1 : Int32))] [(.int (1 : Int32))])) (fun τ κ => XS.iconst X2046.here hx rfl (hb hby at_313) κ) ?_
  refine Gl.st (g' := (mkF m 318 #[l0, l1, l2, l3, l4, l5, l6, .val (.int sz), .val (.int mm), l9, l10, l11, l12, l13, l14, .val (.int oo), .val (.ref tk), .val (.int (1 : Int32)), .val (.int (1 : Int32))] [(.int (1 : Int32))])) (fun τ κ => XS.goto X2046.here hx rfl (pc0 := 314) (pc' := 318) rfl (hb hby at_314) (by decide) (by decide) κ) ?_
  refine Gl.st (g' := (mkF m 320 #[l0, l1, l2, l3, l4, l5, l6, .val (.int sz), .val (.int mm), l9, l10, l11, l12, l13, l14, .val (.int oo), .val (.ref tk), .val (.int (1 : Int32)), .val (.int (1 : Int32))] [])) (fun τ κ => XS.istore X2046.here hx rfl (hb hby at_318) rfl (l' := #[l0, l1, l2, l3, l4, l5, l6, .val (.int sz), .val (.int mm), l9, l10, l11, l12, l13, l14, .val (.int oo), .val (.ref tk), .val (.int (1 : Int32)), .val (.int (1 : Int32))]) rfl κ) ?_
  refine Gl.st (g' := (mkF m 322 #[l0, l1, l2, l3, l4, l5, l6, .val (.int sz), .val (.int mm), l9, l10, l11, l12, l13, l14, .val (.int oo), .val (.ref tk), .val (.int (1 : Int32)), .val (.int (1 : Int32))] [(.int (1 : Int32))])) (fun τ κ => XS.iload X2046.here hx rfl (hb hby at_320) rfl κ) ?_
  have hc2048 : ¬ ((1 : Int32) = (0 : Int32)) := by decide
  refine Gl.st (g' := (mkF m 325 #[l0, l1, l2, l3, l4, l5, l6, .val (.int sz), .val (.int mm), l9, l10, l11, l12, l13, l14, .val (.int oo), .val (.ref tk), .val (.int (1 : Int32)), .val (.int (1 : Int32))] [])) (fun τ κ => XS.ifNo X2046.here hx rfl (hb hby at_322) rfl ((if0 _ _).trans (feq hc2048).1) κ) ?_
  refine Gl.st (g' := (mkF m 327 #[l0, l1, l2, l3, l4, l5, l6, .val (.int sz), .val (.int mm), l9, l10, l11, l12, l13, l14, .val (.int oo), .val (.ref tk), .val (.int (1 : Int32)), .val (.int (1 : Int32))] [(.ref tk)])) (fun τ κ => XS.aload X2046.here hx rfl (hb hby at_325) rfl rfl κ) ?_
  refine Gl.st (g' := (mkF m 328 #[l0, l1, l2, l3, l4, l5, l6, .val (.int sz), .val (.int mm), l9, l10, l11, l12, l13, l14, .val (.int oo), .val (.ref tk), .val (.int (1 : Int32)), .val (.int (1 : Int32))] [(.int (3 : Int32)), (.ref tk)])) (fun τ κ => XS.iconst X2046.here hx rfl (hb hby at_327) κ) ?_
  refine Gl.st (g' := (mkF m 330 #[l0, l1, l2, l3, l4, l5, l6, .val (.int sz), .val (.int mm), l9, l10, l11, l12, l13, l14, .val (.int oo), .val (.ref tk), .val (.int (1 : Int32)), .val (.int (1 : Int32))] [(.int sz), (.int (3 : Int32)), (.ref tk)])) (fun τ κ => XS.iload X2046.here hx rfl (hb hby at_328) rfl κ) ?_
  refine Gl.st (g' := (mkF m 332 #[l0, l1, l2, l3, l4, l5, l6, .val (.int sz), .val (.int mm), l9, l10, l11, l12, l13, l14, .val (.int oo), .val (.ref tk), .val (.int (1 : Int32)), .val (.int (1 : Int32))] [(.int mm), (.int sz), (.int (3 : Int32)), (.ref tk)])) (fun τ κ => XS.iload X2046.here hx rfl (hb hby at_330) rfl κ) ?_
  refine Gl.st (g' := (mkF m 334 #[l0, l1, l2, l3, l4, l5, l6, .val (.int sz), .val (.int mm), l9, l10, l11, l12, l13, l14, .val (.int oo), .val (.ref tk), .val (.int (1 : Int32)), .val (.int (1 : Int32))] [(.int oo), (.int mm), (.int sz), (.int (3 : Int32)), (.ref tk)])) (fun τ κ => XS.iload X2046.here hx rfl (hb hby at_332) rfl κ) ?_
  obtain ⟨rv2049, _, ⟨T2049, L2049, k2049, n2049⟩, -, X2049, ⟨Lc2049, hQ2049, l2049, y2049, z2049⟩, st2049⟩ := Jvm.LawKit.callS X2046 hx (y := (⟨"org/precedence/TakeoverReportedPinLaw", "slot", "(Lorg/precedence/Takeover;IIII)Z"⟩ : MethodName)) hown (mvT hZ (hw _ (List.mem_of_getElem? (i := 118) rfl))) (mvT hZ (hw _ (List.mem_of_getElem? (i := 119) rfl))) (mvT hZ (hw _ (List.mem_of_getElem? (i := 120) rfl))) (mvT hZ (hw _ (List.mem_of_getElem? (i := 121) rfl))) (by decide) (backOf (W := 0) (rm17 l Z a0 hw [] tk (3 : Int32) sz mm oo t kc vs h1 n0 Z0 E0 F0 V0 (by decide) (hS _)) hZ (hw _ (List.mem_of_getElem? (i := 121) rfl)) (hw _ (List.mem_of_getElem? (i := 120) rfl)) (by decide) (by decide)) (g := (mkF m 334 #[l0, l1, l2, l3, l4, l5, l6, .val (.int sz), .val (.int mm), l9, l10, l11, l12, l13, l14, .val (.int oo), .val (.ref tk), .val (.int (1 : Int32)), .val (.int (1 : Int32))] [(.int oo), (.int mm), (.int sz), (.int (3 : Int32)), (.ref tk)])) rfl (by rw [hml]; rfl) (argsL := [(.ref tk), (.int (3 : Int32)), (.int sz), (.int mm), (.int oo)]) (rest := []) (lenOf pd_8 rfl) rfl (by show 2 * 0 + _ ≤ _; exact Nat.le_of_eq rfl) (hb hby at_334) (fun _ _ => ⟨rfl, e2046, (by decide : 11 + 0 ≤ _), (by decide : 45 + 0 ≤ _)⟩)
  dsimp only [Pt.U, Pt.locs, Pt.cells, Pt.slots] at X2049 l2049 y2049 z2049 st2049 hQ2049
  subst l2049 y2049 z2049
  obtain ⟨rfl, N2049q, e2049⟩ := hQ2049
  have N2049 := Fr.app N2046 N2049q
  refine Gl.st (g' := (mkF m 337 #[l0, l1, l2, l3, l4, l5, l6, .val (.int sz), .val (.int mm), l9, l10, l11, l12, l13, l14, .val (.int oo), .val (.ref tk), .val (.int (1 : Int32)), .val (.int (1 : Int32))] [(.int (1 : Int32))])) (fun τ κ => st2049 _ κ) ?_
  have hc2050 : ¬ ((1 : Int32) = (0 : Int32)) := by decide
  refine Gl.st (g' := (mkF m 340 #[l0, l1, l2, l3, l4, l5, l6, .val (.int sz), .val (.int mm), l9, l10, l11, l12, l13, l14, .val (.int oo), .val (.ref tk), .val (.int (1 : Int32)), .val (.int (1 : Int32))] [])) (fun τ κ => XS.ifNo X2049.here hx rfl (hb hby at_337) rfl ((if0 _ _).trans (feq hc2050).1) κ) ?_
  refine Gl.st (g' := (mkF m 341 #[l0, l1, l2, l3, l4, l5, l6, .val (.int sz), .val (.int mm), l9, l10, l11, l12, l13, l14, .val (.int oo), .val (.ref tk), .val (.int (1 : Int32)), .val (.int (1 : Int32))] [(.int (1 : Int32))])) (fun τ κ => XS.iconst X2049.here hx rfl (hb hby at_340) κ) ?_
  refine Gl.st (g' := (mkF m 345 #[l0, l1, l2, l3, l4, l5, l6, .val (.int sz), .val (.int mm), l9, l10, l11, l12, l13, l14, .val (.int oo), .val (.ref tk), .val (.int (1 : Int32)), .val (.int (1 : Int32))] [(.int (1 : Int32))])) (fun τ κ => XS.goto X2049.here hx rfl (pc0 := 341) (pc' := 345) rfl (hb hby at_341) (by decide) (by decide) κ) ?_
  refine Gl.st (g' := (mkF m 347 #[l0, l1, l2, l3, l4, l5, l6, .val (.int sz), .val (.int mm), l9, l10, l11, l12, l13, l14, .val (.int oo), .val (.ref tk), .val (.int (1 : Int32)), .val (.int (1 : Int32))] [])) (fun τ κ => XS.istore X2049.here hx rfl (hb hby at_345) rfl (l' := #[l0, l1, l2, l3, l4, l5, l6, .val (.int sz), .val (.int mm), l9, l10, l11, l12, l13, l14, .val (.int oo), .val (.ref tk), .val (.int (1 : Int32)), .val (.int (1 : Int32))]) rfl κ) ?_
  exact cont T2049 h1 _ X2049 e2049 N2049
theorem pd_9 : parseMethodDescriptor "(I)V" = some ⟨[.int], none⟩ := by decide +kernel
theorem pd_10 : parseMethodDescriptor "(IJ)V" = some ⟨[.int, .long], none⟩ := by decide +kernel
theorem pd_11 : parseMethodDescriptor "(I)J" = some ⟨[.int], some .long⟩ := by decide +kernel
theorem ef_rm0 (m : MethodId) (x0 : Int32) (x1 : Int32) (x2 : Int32) (x3 : Int64) (x4 : Int64) : entryFrame m #[(.int x0), (.int x1), (.int x2), (.long x3), (.long x4)] maxLocals = mkF m 0 #[.val (.int x0), .val (.int x1), .val (.int x2), .val (.long x3), .second, .val (.long x4), .second, .unset, .unset, .unset, .unset, .unset, .unset, .unset, .unset, .unset, .unset, .unset, .unset] [] := by first | (simp [entryFrame, mkF, argsToLocals, Value.category, maxLocals]; done) | rfl
def Q_rm0 (Z : State) (x0 : Int32) (x1 : Int32) (x2 : Int32) (x3 : Int64) (x4 : Int64) (de : Addr) (kd : ClassId) (h0 : Heap) (n0 : Nat) (v : Option Value) (h : Heap) (L : List Loc) : Prop := v = some (.int 1) ∧ Fr n0 L
set_option maxRecDepth 65536 in
set_option maxHeartbeats 40000000 in
theorem rm0 (l : Launch) (Z : State) (a0 : Array Value) (hw : ∀ d ∈ tables_1, d.before a0 Z = true) (ws : List Jvm.Cond) (x0 : Int32) (x1 : Int32) (x2 : Int32) (x3 : Int64) (x4 : Int64) (de : Addr) (kd : ClassId) (h0 : Heap) (n0 : Nat) (Z0 : n0 ≤ h0.size) (S0 : Sta Z h0 "java/util/ArrayList" "DEFAULTCAPACITY_EMPTY_ELEMENTDATA" "[Ljava/lang/Object;" (.ref de)) (V0 : Arv Z h0 de kd (.object "java/lang/Object") (0 : Int32) [] .null) :
    MetFree l x (head1 (Jvm.Cond.code x code maxLocals ret :: ws) room_1) (fun aα Uα => aα = #[(.int x0), (.int x1), (.int x2), (.long x3), (.long x4)] ∧ Z.Warmed39 Uα.vm ∧ Uα.heap = h0) (fun _ _ _ _ _ => True) (fun _ Uα oα Uβ => ∃ vα Lα, oα = .returned vα ∧ Q_rm0 Z x0 x1 x2 x3 x4 de kd h0 n0 vα Uβ.heap Lα ∧ FrameEnd Uα oα Uβ Lα 11 45) := by
  refine MetFree.of_bodySF (plainFor_of_name pn_org_precedence_TakeoverReportedPinLaw) hisR ?_
  intro p e s m args below meth c s₁ Bd hml0 hP hKα
  obtain ⟨rfl, hZ, hh⟩ := hP
  have hx := Bd.exec
  have hby := Bd.bytes
  have hml : c.maxLocals = 19 := hml0
  have hown : s.vm.findClass "org/precedence/TakeoverReportedPinLaw" = some m.cls := findClass_of_methodNamed Bd.named
  have hnm := (name_of_methodNamed Bd.named Bd.method).1
  have X0 : Stand p l e room_1 s m #[(.int x0), (.int x1), (.int x2), (.long x3), (.long x4)] below meth c s₁ [] 0 0 := Stand.of_body Bd
  have e0 : s₁.heap = h0 := by rw [← hh, Bd.state]; rfl
  have N0 := Fr.nil n0
  suffices k0 : Gl p e below s (Q_rm0 Z x0 x1 x2 x3 x4 de kd h0 n0) 11 45 s₁ (mkF m 0 #[.val (.int x0), .val (.int x1), .val (.int x2), .val (.long x3), .second, .val (.long x4), .second, .unset, .unset, .unset, .unset, .unset, .unset, .unset, .unset, .unset, .unset, .unset, .unset] []) from Gl.st (fun τ κ => castTop (ef_rm0 m x0 x1 x2 x3 x4) κ) k0
  refine Gl.st (g' := (mkF m 1 #[.val (.int x0), .val (.int x1), .val (.int x2), .val (.long x3), .second, .val (.long x4), .second, .unset, .unset, .unset, .unset, .unset, .unset, .unset, .unset, .unset, .unset, .unset, .unset] [(.int (1 : Int32))])) (fun τ κ => XS.iconst X0.here hx rfl (hb hby at_0) κ) ?_
  refine Gl.st (g' := (mkF m 2 #[.val (.int x0), .val (.int x1), .val (.int x2), .val (.long x3), .second, .val (.long x4), .second, .unset, .unset, .unset, .unset, .unset, .unset, .unset, .unset, .unset, .unset, .unset, .unset] [(.int x0), (.int (1 : Int32))])) (fun τ κ => XS.iloadN X0.here hx rfl (hb hby at_1) rfl κ) ?_
  refine Gl.st (g' := (mkF m 3 #[.val (.int x0), .val (.int x1), .val (.int x2), .val (.long x3), .second, .val (.long x4), .second, .unset, .unset, .unset, .unset, .unset, .unset, .unset, .unset, .unset, .unset, .unset, .unset] [(.int (3 : Int32)), (.int x0), (.int (1 : Int32))])) (fun τ κ => XS.iconst X0.here hx rfl (hb hby at_2) κ) ?_
  refine Gl.st (g' := (mkF m 4 #[.val (.int x0), .val (.int x1), .val (.int x2), .val (.long x3), .second, .val (.long x4), .second, .unset, .unset, .unset, .unset, .unset, .unset, .unset, .unset, .unset, .unset, .unset, .unset] [(.int (x0 &&& (3 : Int32))), (.int (1 : Int32))])) (fun τ κ => XS.iand X0.here hx rfl (hb hby at_3) rfl κ) ?_
  refine Gl.st (g' := (mkF m 5 #[.val (.int x0), .val (.int x1), .val (.int x2), .val (.long x3), .second, .val (.long x4), .second, .unset, .unset, .unset, .unset, .unset, .unset, .unset, .unset, .unset, .unset, .unset, .unset] [(.int ((1 : Int32) + (x0 &&& (3 : Int32))))])) (fun τ κ => XS.iadd X0.here hx rfl (hb hby at_4) rfl κ) ?_
  have hsz := own_sz x0
  generalize ((1 : Int32) + (x0 &&& (3 : Int32))) = sz at hsz ⊢
  have bz := own_szb hsz
  refine Gl.st (g' := (mkF m 7 #[.val (.int x0), .val (.int x1), .val (.int x2), .val (.long x3), .second, .val (.long x4), .second, .val (.int sz), .unset, .unset, .unset, .unset, .unset, .unset, .unset, .unset, .unset, .unset, .unset] [])) (fun τ κ => XS.istore X0.here hx rfl (hb hby at_5) rfl (l' := #[.val (.int x0), .val (.int x1), .val (.int x2), .val (.long x3), .second, .val (.long x4), .second, .val (.int sz), .unset, .unset, .unset, .unset, .unset, .unset, .unset, .unset, .unset, .unset, .unset]) rfl κ) ?_
  refine Gl.st (g' := (mkF m 8 #[.val (.int x0), .val (.int x1), .val (.int x2), .val (.long x3), .second, .val (.long x4), .second, .val (.int sz), .unset, .unset, .unset, .unset, .unset, .unset, .unset, .unset, .unset, .unset, .unset] [(.int x1)])) (fun τ κ => XS.iloadN X0.here hx rfl (hb hby at_7) rfl κ) ?_
  refine Gl.st (g' := (mkF m 10 #[.val (.int x0), .val (.int x1), .val (.int x2), .val (.long x3), .second, .val (.long x4), .second, .val (.int sz), .unset, .unset, .unset, .unset, .unset, .unset, .unset, .unset, .unset, .unset, .unset] [(.int (2147483647 : Int32)), (.int x1)])) (fun τ κ => X0.ldcInt hx hown (mvT hZ (hw _ (List.mem_of_getElem? (i := 0) rfl))) (g := (mkF m 8 #[.val (.int x0), .val (.int x1), .val (.int x2), .val (.long x3), .second, .val (.long x4), .second, .val (.int sz), .unset, .unset, .unset, .unset, .unset, .unset, .unset, .unset, .unset, .unset, .unset] [(.int x1)])) rfl (hb hby at_8) _ κ) ?_
  refine Gl.st (g' := (mkF m 11 #[.val (.int x0), .val (.int x1), .val (.int x2), .val (.long x3), .second, .val (.long x4), .second, .val (.int sz), .unset, .unset, .unset, .unset, .unset, .unset, .unset, .unset, .unset, .unset, .unset] [(.int (x1 &&& (2147483647 : Int32)))])) (fun τ κ => XS.iand X0.here hx rfl (hb hby at_10) rfl κ) ?_
  refine Gl.st (g' := (mkF m 13 #[.val (.int x0), .val (.int x1), .val (.int x2), .val (.long x3), .second, .val (.long x4), .second, .val (.int sz), .unset, .unset, .unset, .unset, .unset, .unset, .unset, .unset, .unset, .unset, .unset] [(.int sz), (.int (x1 &&& (2147483647 : Int32)))])) (fun τ κ => XS.iload X0.here hx rfl (hb hby at_11) rfl κ) ?_
  refine Gl.st (g' := (mkF m 14 #[.val (.int x0), .val (.int x1), .val (.int x2), .val (.long x3), .second, .val (.long x4), .second, .val (.int sz), .unset, .unset, .unset, .unset, .unset, .unset, .unset, .unset, .unset, .unset, .unset] [(.int ((x1 &&& (2147483647 : Int32)) % sz))])) (fun τ κ => iremM (g := (mkF m 13 #[.val (.int x0), .val (.int x1), .val (.int x2), .val (.long x3), .second, .val (.long x4), .second, .val (.int sz), .unset, .unset, .unset, .unset, .unset, .unset, .unset, .unset, .unset, .unset, .unset] [(.int sz), (.int (x1 &&& (2147483647 : Int32)))])) X0 hx rfl (hb hby at_13) rfl (own_nz bz.1) κ) ?_
  have hm := own_m (x := x1) bz.1
  generalize ((x1 &&& (2147483647 : Int32)) % sz) = mm at hm ⊢
  refine Gl.st (g' := (mkF m 16 #[.val (.int x0), .val (.int x1), .val (.int x2), .val (.long x3), .second, .val (.long x4), .second, .val (.int sz), .val (.int mm), .unset, .unset, .unset, .unset, .unset, .unset, .unset, .unset, .unset, .unset] [])) (fun τ κ => XS.istore X0.here hx rfl (hb hby at_14) rfl (l' := #[.val (.int x0), .val (.int x1), .val (.int x2), .val (.long x3), .second, .val (.long x4), .second, .val (.int sz), .val (.int mm), .unset, .unset, .unset, .unset, .unset, .unset, .unset, .unset, .unset, .unset]) rfl κ) ?_
  refine Gl.st (g' := (mkF m 17 #[.val (.int x0), .val (.int x1), .val (.int x2), .val (.long x3), .second, .val (.long x4), .second, .val (.int sz), .val (.int mm), .unset, .unset, .unset, .unset, .unset, .unset, .unset, .unset, .unset, .unset] [(.long x3)])) (fun τ κ => XS.lloadN X0.here hx rfl (hb hby at_16) rfl κ) ?_
  refine Gl.st (g' := (mkF m 20 #[.val (.int x0), .val (.int x1), .val (.int x2), .val (.long x3), .second, .val (.long x4), .second, .val (.int sz), .val (.int mm), .unset, .unset, .unset, .unset, .unset, .unset, .unset, .unset, .unset, .unset] [(.long (9223372036854775807 : Int64)), (.long x3)])) (fun τ κ => X0.ldc2Long hx hown (mvT hZ (hw _ (List.mem_of_getElem? (i := 1) rfl))) (g := (mkF m 17 #[.val (.int x0), .val (.int x1), .val (.int x2), .val (.long x3), .second, .val (.long x4), .second, .val (.int sz), .val (.int mm), .unset, .unset, .unset, .unset, .unset, .unset, .unset, .unset, .unset, .unset] [(.long x3)])) rfl (hb hby at_17) _ κ) ?_
  refine Gl.st (g' := (mkF m 21 #[.val (.int x0), .val (.int x1), .val (.int x2), .val (.long x3), .second, .val (.long x4), .second, .val (.int sz), .val (.int mm), .unset, .unset, .unset, .unset, .unset, .unset, .unset, .unset, .unset, .unset] [(.long (x3 &&& (9223372036854775807 : Int64)))])) (fun τ κ => XS.land X0.here hx rfl (hb hby at_20) rfl κ) ?_
  have hss := own_j x3
  generalize (x3 &&& (9223372036854775807 : Int64)) = ss at hss ⊢
  refine Gl.st (g' := (mkF m 23 #[.val (.int x0), .val (.int x1), .val (.int x2), .val (.long x3), .second, .val (.long x4), .second, .val (.int sz), .val (.int mm), .val (.long ss), .second, .unset, .unset, .unset, .unset, .unset, .unset, .unset, .unset] [])) (fun τ κ => XS.lstore X0.here hx rfl (hb hby at_21) rfl (l' := #[.val (.int x0), .val (.int x1), .val (.int x2), .val (.long x3), .second, .val (.long x4), .second, .val (.int sz), .val (.int mm), .val (.long ss), .second, .unset, .unset, .unset, .unset, .unset, .unset, .unset, .unset]) rfl κ) ?_
  refine Gl.st (g' := (mkF m 25 #[.val (.int x0), .val (.int x1), .val (.int x2), .val (.long x3), .second, .val (.long x4), .second, .val (.int sz), .val (.int mm), .val (.long ss), .second, .unset, .unset, .unset, .unset, .unset, .unset, .unset, .unset] [(.long x4)])) (fun τ κ => XS.lload X0.here hx rfl (hb hby at_23) rfl κ) ?_
  refine Gl.st (g' := (mkF m 28 #[.val (.int x0), .val (.int x1), .val (.int x2), .val (.long x3), .second, .val (.long x4), .second, .val (.int sz), .val (.int mm), .val (.long ss), .second, .unset, .unset, .unset, .unset, .unset, .unset, .unset, .unset] [(.long (9223372036854775807 : Int64)), (.long x4)])) (fun τ κ => X0.ldc2Long hx hown (mvT hZ (hw _ (List.mem_of_getElem? (i := 1) rfl))) (g := (mkF m 25 #[.val (.int x0), .val (.int x1), .val (.int x2), .val (.long x3), .second, .val (.long x4), .second, .val (.int sz), .val (.int mm), .val (.long ss), .second, .unset, .unset, .unset, .unset, .unset, .unset, .unset, .unset] [(.long x4)])) rfl (hb hby at_25) _ κ) ?_
  refine Gl.st (g' := (mkF m 29 #[.val (.int x0), .val (.int x1), .val (.int x2), .val (.long x3), .second, .val (.long x4), .second, .val (.int sz), .val (.int mm), .val (.long ss), .second, .unset, .unset, .unset, .unset, .unset, .unset, .unset, .unset] [(.long (x4 &&& (9223372036854775807 : Int64)))])) (fun τ κ => XS.land X0.here hx rfl (hb hby at_28) rfl κ) ?_
  have htt := own_j x4
  generalize (x4 &&& (9223372036854775807 : Int64)) = tt at htt ⊢
  refine Gl.st (g' := (mkF m 31 #[.val (.int x0), .val (.int x1), .val (.int x2), .val (.long x3), .second, .val (.long x4), .second, .val (.int sz), .val (.int mm), .val (.long ss), .second, .val (.long tt), .second, .unset, .unset, .unset, .unset, .unset, .unset] [])) (fun τ κ => XS.lstore X0.here hx rfl (hb hby at_29) rfl (l' := #[.val (.int x0), .val (.int x1), .val (.int x2), .val (.long x3), .second, .val (.long x4), .second, .val (.int sz), .val (.int mm), .val (.long ss), .second, .val (.long tt), .second, .unset, .unset, .unset, .unset, .unset, .unset]) rfl κ) ?_
  refine Gl.st (g' := (mkF m 32 #[.val (.int x0), .val (.int x1), .val (.int x2), .val (.long x3), .second, .val (.long x4), .second, .val (.int sz), .val (.int mm), .val (.long ss), .second, .val (.long tt), .second, .unset, .unset, .unset, .unset, .unset, .unset] [(.int x2)])) (fun τ κ => XS.iloadN X0.here hx rfl (hb hby at_31) rfl κ) ?_
  refine Gl.st (g' := (mkF m 33 #[.val (.int x0), .val (.int x1), .val (.int x2), .val (.long x3), .second, .val (.long x4), .second, .val (.int sz), .val (.int mm), .val (.long ss), .second, .val (.long tt), .second, .unset, .unset, .unset, .unset, .unset, .unset] [(.int (1 : Int32)), (.int x2)])) (fun τ κ => XS.iconst X0.here hx rfl (hb hby at_32) κ) ?_
  refine Gl.st (g' := (mkF m 34 #[.val (.int x0), .val (.int x1), .val (.int x2), .val (.long x3), .second, .val (.long x4), .second, .val (.int sz), .val (.int mm), .val (.long ss), .second, .val (.long tt), .second, .unset, .unset, .unset, .unset, .unset, .unset] [(.int (x2 &&& (1 : Int32)))])) (fun τ κ => XS.iand X0.here hx rfl (hb hby at_33) rfl κ) ?_
  by_cases hc2051 : (x2 &&& (1 : Int32)) = (0 : Int32)
  · -- pc 34: (x2 &&& (1 : Int32)) = (0 : Int32)
    refine Gl.st (g' := (mkF m 47 #[.val (.int x0), .val (.int x1), .val (.int x2), .val (.long x3), .second, .val (.long x4), .second, .val (.int sz), .val (.int mm), .val (.long ss), .second, .val (.long tt), .second, .unset, .unset, .unset, .unset, .unset, .unset] [])) (fun τ κ => XS.ifYes X0.here hx rfl (pc0 := 34) (pc' := 47) rfl (hb hby at_34) rfl ((if0 _ _).trans (teq hc2051).1) (by decide) (by decide) κ) ?_
    refine Gl.st (g' := (mkF m 48 #[.val (.int x0), .val (.int x1), .val (.int x2), .val (.long x3), .second, .val (.long x4), .second, .val (.int sz), .val (.int mm), .val (.long ss), .second, .val (.long tt), .second, .unset, .unset, .unset, .unset, .unset, .unset] [(.int (0 : Int32))])) (fun τ κ => XS.iconst X0.here hx rfl (hb hby at_47) κ) ?_
    refine Gl.st (g' := (mkF m 50 #[.val (.int x0), .val (.int x1), .val (.int x2), .val (.long x3), .second, .val (.long x4), .second, .val (.int sz), .val (.int mm), .val (.long ss), .second, .val (.long tt), .second, .val (.int (0 : Int32)), .unset, .unset, .unset, .unset, .unset] [])) (fun τ κ => XS.istore X0.here hx rfl (hb hby at_48) rfl (l' := #[.val (.int x0), .val (.int x1), .val (.int x2), .val (.long x3), .second, .val (.long x4), .second, .val (.int sz), .val (.int mm), .val (.long ss), .second, .val (.long tt), .second, .val (.int (0 : Int32)), .unset, .unset, .unset, .unset, .unset]) rfl κ) ?_
    refine Gl.st (g' := (mkF m 51 #[.val (.int x0), .val (.int x1), .val (.int x2), .val (.long x3), .second, .val (.long x4), .second, .val (.int sz), .val (.int mm), .val (.long ss), .second, .val (.long tt), .second, .val (.int (0 : Int32)), .unset, .unset, .unset, .unset, .unset] [(.int x2)])) (fun τ κ => XS.iloadN X0.here hx rfl (hb hby at_50) rfl κ) ?_
    refine Gl.st (g' := (mkF m 52 #[.val (.int x0), .val (.int x1), .val (.int x2), .val (.long x3), .second, .val (.long x4), .second, .val (.int sz), .val (.int mm), .val (.long ss), .second, .val (.long tt), .second, .val (.int (0 : Int32)), .unset, .unset, .unset, .unset, .unset] [(.int (2 : Int32)), (.int x2)])) (fun τ κ => XS.iconst X0.here hx rfl (hb hby at_51) κ) ?_
    refine Gl.st (g' := (mkF m 53 #[.val (.int x0), .val (.int x1), .val (.int x2), .val (.long x3), .second, .val (.long x4), .second, .val (.int sz), .val (.int mm), .val (.long ss), .second, .val (.long tt), .second, .val (.int (0 : Int32)), .unset, .unset, .unset, .unset, .unset] [(.int (x2 &&& (2 : Int32)))])) (fun τ κ => XS.iand X0.here hx rfl (hb hby at_52) rfl κ) ?_
    by_cases hc2052 : (x2 &&& (2 : Int32)) = (0 : Int32)
    · -- pc 53: (x2 &&& (2 : Int32)) = (0 : Int32)
      refine Gl.st (g' := (mkF m 60 #[.val (.int x0), .val (.int x1), .val (.int x2), .val (.long x3), .second, .val (.long x4), .second, .val (.int sz), .val (.int mm), .val (.long ss), .second, .val (.long tt), .second, .val (.int (0 : Int32)), .unset, .unset, .unset, .unset, .unset] [])) (fun τ κ => XS.ifYes X0.here hx rfl (pc0 := 53) (pc' := 60) rfl (hb hby at_53) rfl ((if0 _ _).trans (teq hc2052).1) (by decide) (by decide) κ) ?_
      refine Gl.st (g' := (mkF m 61 #[.val (.int x0), .val (.int x1), .val (.int x2), .val (.long x3), .second, .val (.long x4), .second, .val (.int sz), .val (.int mm), .val (.long ss), .second, .val (.long tt), .second, .val (.int (0 : Int32)), .unset, .unset, .unset, .unset, .unset] [(.int (0 : Int32))])) (fun τ κ => XS.iconst X0.here hx rfl (hb hby at_60) κ) ?_
      refine Gl.st (g' := (mkF m 63 #[.val (.int x0), .val (.int x1), .val (.int x2), .val (.long x3), .second, .val (.long x4), .second, .val (.int sz), .val (.int mm), .val (.long ss), .second, .val (.long tt), .second, .val (.int (0 : Int32)), .val (.int (0 : Int32)), .unset, .unset, .unset, .unset] [])) (fun τ κ => XS.istore X0.here hx rfl (hb hby at_61) rfl (l' := #[.val (.int x0), .val (.int x1), .val (.int x2), .val (.long x3), .second, .val (.long x4), .second, .val (.int sz), .val (.int mm), .val (.long ss), .second, .val (.long tt), .second, .val (.int (0 : Int32)), .val (.int (0 : Int32)), .unset, .unset, .unset, .unset]) rfl κ) ?_
      refine Gl.st (g' := (mkF m 64 #[.val (.int x0), .val (.int x1), .val (.int x2), .val (.long x3), .second, .val (.long x4), .second, .val (.int sz), .val (.int mm), .val (.long ss), .second, .val (.long tt), .second, .val (.int (0 : Int32)), .val (.int (0 : Int32)), .unset, .unset, .unset, .unset] [(.int (-1 : Int32))])) (fun τ κ => XS.iconst X0.here hx rfl (hb hby at_63) κ) ?_
      refine Gl.st (g' := (mkF m 66 #[.val (.int x0), .val (.int x1), .val (.int x2), .val (.long x3), .second, .val (.long x4), .second, .val (.int sz), .val (.int mm), .val (.long ss), .second, .val (.long tt), .second, .val (.int (0 : Int32)), .val (.int (0 : Int32)), .val (.int (-1 : Int32)), .unset, .unset, .unset] [])) (fun τ κ => XS.istore X0.here hx rfl (hb hby at_64) rfl (l' := #[.val (.int x0), .val (.int x1), .val (.int x2), .val (.long x3), .second, .val (.long x4), .second, .val (.int sz), .val (.int mm), .val (.long ss), .second, .val (.long tt), .second, .val (.int (0 : Int32)), .val (.int (0 : Int32)), .val (.int (-1 : Int32)), .unset, .unset, .unset]) rfl κ) ?_
      refine Gl.st (g' := (mkF m 68 #[.val (.int x0), .val (.int x1), .val (.int x2), .val (.long x3), .second, .val (.long x4), .second, .val (.int sz), .val (.int mm), .val (.long ss), .second, .val (.long tt), .second, .val (.int (0 : Int32)), .val (.int (0 : Int32)), .val (.int (-1 : Int32)), .unset, .unset, .unset] [(.int (0 : Int32))])) (fun τ κ => XS.iload X0.here hx rfl (hb hby at_66) rfl κ) ?_
      have hc2053 : (0 : Int32) = (0 : Int32) := by decide
      refine Gl.st (g' := (mkF m 89 #[.val (.int x0), .val (.int x1), .val (.int x2), .val (.long x3), .second, .val (.long x4), .second, .val (.int sz), .val (.int mm), .val (.long ss), .second, .val (.long tt), .second, .val (.int (0 : Int32)), .val (.int (0 : Int32)), .val (.int (-1 : Int32)), .unset, .unset, .unset] [])) (fun τ κ => XS.ifYes X0.here hx rfl (pc0 := 68) (pc' := 89) rfl (hb hby at_68) rfl ((if0 _ _).trans (teq hc2053).1) (by decide) (by decide) κ) ?_
      obtain ⟨T2054, h2054, X2054, e2054, E2054, A2054, D2054, -, st2054⟩ := newO X0 hx hZ hown (hw _ (List.mem_of_getElem? (i := 2) rfl)) (hw _ (List.mem_of_getElem? (i := 3) rfl)) (hw _ (List.mem_of_getElem? (i := 4) rfl)) e0 (g := (mkF m 89 #[.val (.int x0), .val (.int x1), .val (.int x2), .val (.long x3), .second, .val (.long x4), .second, .val (.int sz), .val (.int mm), .val (.long ss), .second, .val (.long tt), .second, .val (.int (0 : Int32)), .val (.int (0 : Int32)), .val (.int (-1 : Int32)), .unset, .unset, .unset] [])) rfl (hb hby at_89) (by decide) (by decide)
      obtain ⟨b2054, g2054⟩ : ∃ z, z = h0.size := ⟨_, rfl⟩
      rw [← g2054] at A2054 D2054 st2054
      have ne_de_b2054 : de ≠ b2054 := Nat.ne_of_lt (Nat.lt_of_lt_of_le V0.lt (Nat.le_of_eq g2054.symm))
      have S_2055 := S0.ext E2054
      have V_2056 := V0.ext E2054
      have g_b2054 : n0 ≤ b2054 := Nat.le_trans Z0 (Nat.le_of_eq g2054.symm)
      have sz_b2054 : h0.size ≤ b2054 := Nat.le_trans (Keep.refl h0 []).1 (Nat.le_of_eq g2054.symm)
      have Z2054 : n0 ≤ h2054.size := Nat.le_trans Z0 E2054.1
      have K2054 : Keep h0 h2054 [] := (Keep.refl h0 []).ext E2054
      have F_2057 : Fld Z h2054 b2054 "org/precedence/Takeover" "stamped" "Ljava/util/TreeMap;" .null := D2054 (Or.inr (hw _ (List.mem_of_getElem? (i := 31) rfl))) (ty := (.object "java/util/TreeMap")) (by decide)
      have F_2058 : Fld Z h2054 b2054 "org/precedence/Takeover" "unstamped" "Ljava/util/List;" .null := D2054 (Or.inr (hw _ (List.mem_of_getElem? (i := 57) rfl))) (ty := (.object "java/util/List")) (by decide)
      have F_2059 : Fld Z h2054 b2054 "org/precedence/Takeover" "submitted" "Ljava/util/List;" .null := D2054 (Or.inr (hw _ (List.mem_of_getElem? (i := 59) rfl))) (ty := (.object "java/util/List")) (by decide)
      have F_2060 : Fld Z h2054 b2054 "org/precedence/Takeover" "next" "[J" .null := D2054 (Or.inr (hw _ (List.mem_of_getElem? (i := 62) rfl))) (ty := (.array .long)) (by decide)
      refine Gl.st (g' := (mkF m 92 #[.val (.int x0), .val (.int x1), .val (.int x2), .val (.long x3), .second, .val (.long x4), .second, .val (.int sz), .val (.int mm), .val (.long ss), .second, .val (.long tt), .second, .val (.int (0 : Int32)), .val (.int (0 : Int32)), .val (.int (-1 : Int32)), .unset, .unset, .unset] [(.ref b2054)])) (fun τ κ => st2054 _ κ) ?_
      refine Gl.st (g' := (mkF m 93 #[.val (.int x0), .val (.int x1), .val (.int x2), .val (.long x3), .second, .val (.long x4), .second, .val (.int sz), .val (.int mm), .val (.long ss), .second, .val (.long tt), .second, .val (.int (0 : Int32)), .val (.int (0 : Int32)), .val (.int (-1 : Int32)), .unset, .unset, .unset] [(.ref b2054), (.ref b2054)])) (fun τ κ => XS.dup X2054.here hx rfl (hb hby at_92) rfl rfl κ) ?_
      refine Gl.st (g' := (mkF m 95 #[.val (.int x0), .val (.int x1), .val (.int x2), .val (.long x3), .second, .val (.long x4), .second, .val (.int sz), .val (.int mm), .val (.long ss), .second, .val (.long tt), .second, .val (.int (0 : Int32)), .val (.int (0 : Int32)), .val (.int (-1 : Int32)), .unset, .unset, .unset] [(.int sz), (.ref b2054), (.ref b2054)])) (fun τ κ => XS.iload X2054.here hx rfl (hb hby at_93) rfl κ) ?_
      obtain ⟨rv2061, _, ⟨T2061, L2061, k2061, n2061⟩, -, X2061, ⟨Lc2061, hQ2061, l2061, y2061, z2061⟩, st2061⟩ := X2054.specialBack hx (y := (⟨"org/precedence/Takeover", "<init>", "(I)V"⟩ : MethodName)) rfl hown (mvT hZ (hw _ (List.mem_of_getElem? (i := 5) rfl))) (mvT hZ (hw _ (List.mem_of_getElem? (i := 6) rfl))) (mvT hZ (hw _ (List.mem_of_getElem? (i := 7) rfl))) (by decide) (backOf (W := 1) (rm_initS l Z a0 hw [] b2054 sz de kd h2054 n0 Z2054 A2054 g_b2054 S_2055 V_2056 (Ne.symm ne_de_b2054) F_2057 F_2058 F_2059 F_2060 hsz) hZ (hw _ (List.mem_of_getElem? (i := 7) rfl)) (hw _ (List.mem_of_getElem? (i := 4) rfl)) (by decide) (by decide)) (g := (mkF m 95 #[.val (.int x0), .val (.int x1), .val (.int x2), .val (.long x3), .second, .val (.long x4), .second, .val (.int sz), .val (.int mm), .val (.long ss), .second, .val (.long tt), .second, .val (.int (0 : Int32)), .val (.int (0 : Int32)), .val (.int (-1 : Int32)), .unset, .unset, .unset] [(.int sz), (.ref b2054), (.ref b2054)])) rfl (by rw [hml]; rfl) (Steps.refl _) (a := b2054) (argsL := [(.int sz)]) (rest := [(.ref b2054)]) (lenOf pd_9 rfl) rfl (by show 2 * 0 + _ ≤ _; exact Nat.le_of_eq rfl) (hb hby at_95) (fun _ _ => ⟨rfl, e2054, (by decide : 1 + 10 ≤ _), (by decide : 4 + 41 ≤ _)⟩)
      dsimp only [Pt.U, Pt.locs, Pt.cells, Pt.slots] at X2061 l2061 y2061 z2061 st2061 hQ2061
      subst l2061 y2061 z2061
      obtain ⟨t2061, kk2061, vs2061, rfl, N2061q, Kc2061, s2061, Ec2061, FN2061, V2061, hv2061⟩ := hQ2061
      have ne_de_t2061 : de ≠ t2061 := Nat.ne_of_lt (Nat.lt_of_lt_of_le V_2056.lt s2061)
      have ne_b2054_t2061 : b2054 ≠ t2061 := Nat.ne_of_lt (Nat.lt_of_lt_of_le A2054.lt s2061)
      have g_t2061 : n0 ≤ t2061 := Nat.le_trans Z2054 s2061
      have sz_t2061 : h0.size ≤ t2061 := Nat.le_trans K2054.1 s2061
      have E_2062 := A2054.keep Kc2061
      have N2061 := Fr.app N0 N2061q
      have Z2061 : n0 ≤ T2061.heap.size := Nat.le_trans Z2054 Kc2061.1
      have K2061 : Keep h0 T2061.heap [] := K2054.trans Kc2061 (allS (Or.inr sz_b2054) all0)
      have A0 := own_A0 hv2061
      refine Gl.st (g' := (mkF m 98 #[.val (.int x0), .val (.int x1), .val (.int x2), .val (.long x3), .second, .val (.long x4), .second, .val (.int sz), .val (.int mm), .val (.long ss), .second, .val (.long tt), .second, .val (.int (0 : Int32)), .val (.int (0 : Int32)), .val (.int (-1 : Int32)), .unset, .unset, .unset] [(.ref b2054)])) (fun τ κ => st2061.trans κ) ?_
      refine Gl.st (g' := (mkF m 100 #[.val (.int x0), .val (.int x1), .val (.int x2), .val (.long x3), .second, .val (.long x4), .second, .val (.int sz), .val (.int mm), .val (.long ss), .second, .val (.long tt), .second, .val (.int (0 : Int32)), .val (.int (0 : Int32)), .val (.int (-1 : Int32)), .val (.ref b2054), .unset, .unset] [])) (fun τ κ => XS.astore X2061.here hx rfl (hb hby at_98) rfl rfl (l' := #[.val (.int x0), .val (.int x1), .val (.int x2), .val (.long x3), .second, .val (.long x4), .second, .val (.int sz), .val (.int mm), .val (.long ss), .second, .val (.long tt), .second, .val (.int (0 : Int32)), .val (.int (0 : Int32)), .val (.int (-1 : Int32)), .val (.ref b2054), .unset, .unset]) rfl κ) ?_
      refine Gl.st (g' := (mkF m 102 #[.val (.int x0), .val (.int x1), .val (.int x2), .val (.long x3), .second, .val (.long x4), .second, .val (.int sz), .val (.int mm), .val (.long ss), .second, .val (.long tt), .second, .val (.int (0 : Int32)), .val (.int (0 : Int32)), .val (.int (-1 : Int32)), .val (.ref b2054), .unset, .unset] [(.int (0 : Int32))])) (fun τ κ => XS.iload X2061.here hx rfl (hb hby at_100) rfl κ) ?_
      have hc2067 : (0 : Int32) = (0 : Int32) := by decide
      refine Gl.st (g' := (mkF m 119 #[.val (.int x0), .val (.int x1), .val (.int x2), .val (.long x3), .second, .val (.long x4), .second, .val (.int sz), .val (.int mm), .val (.long ss), .second, .val (.long tt), .second, .val (.int (0 : Int32)), .val (.int (0 : Int32)), .val (.int (-1 : Int32)), .val (.ref b2054), .unset, .unset] [])) (fun τ κ => XS.ifYes X2061.here hx rfl (pc0 := 102) (pc' := 119) rfl (hb hby at_102) rfl ((if0 _ _).trans (teq hc2067).1) (by decide) (by decide) κ) ?_
      refine Gl.st (g' := (mkF m 121 #[.val (.int x0), .val (.int x1), .val (.int x2), .val (.long x3), .second, .val (.long x4), .second, .val (.int sz), .val (.int mm), .val (.long ss), .second, .val (.long tt), .second, .val (.int (0 : Int32)), .val (.int (0 : Int32)), .val (.int (-1 : Int32)), .val (.ref b2054), .unset, .unset] [(.ref b2054)])) (fun τ κ => XS.aload X2061.here hx rfl (hb hby at_119) rfl rfl κ) ?_
      refine Gl.st (g' := (mkF m 123 #[.val (.int x0), .val (.int x1), .val (.int x2), .val (.long x3), .second, .val (.long x4), .second, .val (.int sz), .val (.int mm), .val (.long ss), .second, .val (.long tt), .second, .val (.int (0 : Int32)), .val (.int (0 : Int32)), .val (.int (-1 : Int32)), .val (.ref b2054), .unset, .unset] [(.int mm), (.ref b2054)])) (fun τ κ => XS.iload X2061.here hx rfl (hb hby at_121) rfl κ) ?_
      obtain ⟨cq2068, kq2068, q2068a, q2068b, q2068c⟩ := isOf hZ rfl Ec2061
      obtain ⟨rv2068, _, ⟨T2068, L2068, k2068, n2068⟩, -, X2068, ⟨Lc2068, hQ2068, l2068, y2068, z2068⟩, st2068⟩ := X2061.virtualBack hx (y := (⟨"org/precedence/Takeover", "hasReported", "(I)Z"⟩ : MethodName)) (z := (⟨"org/precedence/Takeover", "hasReported", "(I)Z"⟩ : MethodName)) hown (mvT hZ (hw _ (List.mem_of_getElem? (i := 103) rfl))) (mvT hZ (hw _ (List.mem_of_getElem? (i := 104) rfl))) (notFace_of_selects (args := #[]) (mvT hZ (hw _ (List.mem_of_getElem? (i := 106) rfl)))) (mvT hZ (hw _ (List.mem_of_getElem? (i := 106) rfl))) (mvT hZ (hw _ (List.mem_of_getElem? (i := 105) rfl))) (by decide) (backOf (W := 0) (rm14 l Z a0 hw [] b2054 mm t2061 kk2061 sz vs2061 T2061.heap n0 Z2061 FN2061 V2061 hm.1 hm.2) hZ (hw _ (List.mem_of_getElem? (i := 107) rfl)) (hw _ (List.mem_of_getElem? (i := 4) rfl)) (by decide) (by decide)) q2068a q2068c (g := (mkF m 123 #[.val (.int x0), .val (.int x1), .val (.int x2), .val (.long x3), .second, .val (.long x4), .second, .val (.int sz), .val (.int mm), .val (.long ss), .second, .val (.long tt), .second, .val (.int (0 : Int32)), .val (.int (0 : Int32)), .val (.int (-1 : Int32)), .val (.ref b2054), .unset, .unset] [(.int mm), (.ref b2054)])) rfl (by rw [hml]; rfl) (Steps.refl _) (argsL := [(.int mm)]) (rest := []) (lenOf pd_7 rfl) rfl (by show 2 * 0 + _ ≤ _; exact Nat.le_of_eq rfl) (hb hby at_123) (fun _ _ => ⟨rfl, rfl, (by decide : 11 + 0 ≤ _), (by decide : 45 + 0 ≤ _)⟩)
      dsimp only [Pt.U, Pt.locs, Pt.cells, Pt.slots] at X2068 l2068 y2068 z2068 st2068 hQ2068
      subst l2068 y2068 z2068
      obtain ⟨rfl, N2068q, e2068⟩ := hQ2068
      have N2068 := Fr.app N2061 N2068q
      refine Gl.st (g' := (mkF m 126 #[.val (.int x0), .val (.int x1), .val (.int x2), .val (.long x3), .second, .val (.long x4), .second, .val (.int sz), .val (.int mm), .val (.long ss), .second, .val (.long tt), .second, .val (.int (0 : Int32)), .val (.int (0 : Int32)), .val (.int (-1 : Int32)), .val (.ref b2054), .unset, .unset] [(.int (own_rep vs2061 mm))])) (fun τ κ => st2068.trans κ) ?_
      have hc2069 : (own_rep vs2061 mm) = (0 : Int32) := own_r0 (A0 mm hm.1 hm.2)
      refine Gl.st (g' := (mkF m 129 #[.val (.int x0), .val (.int x1), .val (.int x2), .val (.long x3), .second, .val (.long x4), .second, .val (.int sz), .val (.int mm), .val (.long ss), .second, .val (.long tt), .second, .val (.int (0 : Int32)), .val (.int (0 : Int32)), .val (.int (-1 : Int32)), .val (.ref b2054), .unset, .unset] [])) (fun τ κ => XS.ifNo X2068.here hx rfl (hb hby at_126) rfl ((if0 _ _).trans (teq hc2069).2) κ) ?_
      refine Gl.st (g' := (mkF m 130 #[.val (.int x0), .val (.int x1), .val (.int x2), .val (.long x3), .second, .val (.long x4), .second, .val (.int sz), .val (.int mm), .val (.long ss), .second, .val (.long tt), .second, .val (.int (0 : Int32)), .val (.int (0 : Int32)), .val (.int (-1 : Int32)), .val (.ref b2054), .unset, .unset] [(.int (1 : Int32))])) (fun τ κ => XS.iconst X2068.here hx rfl (hb hby at_129) κ) ?_
      refine Gl.st (g' := (mkF m 134 #[.val (.int x0), .val (.int x1), .val (.int x2), .val (.long x3), .second, .val (.long x4), .second, .val (.int sz), .val (.int mm), .val (.long ss), .second, .val (.long tt), .second, .val (.int (0 : Int32)), .val (.int (0 : Int32)), .val (.int (-1 : Int32)), .val (.ref b2054), .unset, .unset] [(.int (1 : Int32))])) (fun τ κ => XS.goto X2068.here hx rfl (pc0 := 130) (pc' := 134) rfl (hb hby at_130) (by decide) (by decide) κ) ?_
      refine Gl.st (g' := (mkF m 136 #[.val (.int x0), .val (.int x1), .val (.int x2), .val (.long x3), .second, .val (.long x4), .second, .val (.int sz), .val (.int mm), .val (.long ss), .second, .val (.long tt), .second, .val (.int (0 : Int32)), .val (.int (0 : Int32)), .val (.int (-1 : Int32)), .val (.ref b2054), .val (.int (1 : Int32)), .unset] [])) (fun τ κ => XS.istore X2068.here hx rfl (hb hby at_134) rfl (l' := #[.val (.int x0), .val (.int x1), .val (.int x2), .val (.long x3), .second, .val (.long x4), .second, .val (.int sz), .val (.int mm), .val (.long ss), .second, .val (.long tt), .second, .val (.int (0 : Int32)), .val (.int (0 : Int32)), .val (.int (-1 : Int32)), .val (.ref b2054), .val (.int (1 : Int32)), .unset]) rfl κ) ?_
      refine Gl.st (g' := (mkF m 138 #[.val (.int x0), .val (.int x1), .val (.int x2), .val (.long x3), .second, .val (.long x4), .second, .val (.int sz), .val (.int mm), .val (.long ss), .second, .val (.long tt), .second, .val (.int (0 : Int32)), .val (.int (0 : Int32)), .val (.int (-1 : Int32)), .val (.ref b2054), .val (.int (1 : Int32)), .unset] [(.ref b2054)])) (fun τ κ => XS.aload X2068.here hx rfl (hb hby at_136) rfl rfl κ) ?_
      refine Gl.st (g' := (mkF m 140 #[.val (.int x0), .val (.int x1), .val (.int x2), .val (.long x3), .second, .val (.long x4), .second, .val (.int sz), .val (.int mm), .val (.long ss), .second, .val (.long tt), .second, .val (.int (0 : Int32)), .val (.int (0 : Int32)), .val (.int (-1 : Int32)), .val (.ref b2054), .val (.int (1 : Int32)), .unset] [(.int mm), (.ref b2054)])) (fun τ κ => XS.iload X2068.here hx rfl (hb hby at_138) rfl κ) ?_
      refine Gl.st (g' := (mkF m 142 #[.val (.int x0), .val (.int x1), .val (.int x2), .val (.long x3), .second, .val (.long x4), .second, .val (.int sz), .val (.int mm), .val (.long ss), .second, .val (.long tt), .second, .val (.int (0 : Int32)), .val (.int (0 : Int32)), .val (.int (-1 : Int32)), .val (.ref b2054), .val (.int (1 : Int32)), .unset] [(.long ss), (.int mm), (.ref b2054)])) (fun τ κ => XS.lload X2068.here hx rfl (hb hby at_140) rfl κ) ?_
      obtain ⟨cq2070, kq2070, q2070a, q2070b, q2070c⟩ := isOf hZ e2068 Ec2061
      obtain ⟨rv2070, _, ⟨T2070, L2070, k2070, n2070⟩, -, X2070, ⟨Lc2070, hQ2070, l2070, y2070, z2070⟩, st2070⟩ := X2068.virtualBack hx (y := (⟨"org/precedence/Takeover", "reported", "(IJ)V"⟩ : MethodName)) (z := (⟨"org/precedence/Takeover", "reported", "(IJ)V"⟩ : MethodName)) hown (mvT hZ (hw _ (List.mem_of_getElem? (i := 108) rfl))) (mvT hZ (hw _ (List.mem_of_getElem? (i := 109) rfl))) (notFace_of_selects (args := #[]) (mvT hZ (hw _ (List.mem_of_getElem? (i := 111) rfl)))) (mvT hZ (hw _ (List.mem_of_getElem? (i := 111) rfl))) (mvT hZ (hw _ (List.mem_of_getElem? (i := 110) rfl))) (by decide) (backOf (W := 0) (rm15 l Z a0 hw [] b2054 mm ss t2061 kk2061 sz vs2061 T2061.heap n0 Z2061 FN2061 V2061 hm.1 hm.2 g_t2061 (own_n0 (A0 mm hm.1 hm.2)) hss ne_b2054_t2061) hZ (hw _ (List.mem_of_getElem? (i := 112) rfl)) (hw _ (List.mem_of_getElem? (i := 4) rfl)) (by decide) (by decide)) q2070a q2070c (g := (mkF m 142 #[.val (.int x0), .val (.int x1), .val (.int x2), .val (.long x3), .second, .val (.long x4), .second, .val (.int sz), .val (.int mm), .val (.long ss), .second, .val (.long tt), .second, .val (.int (0 : Int32)), .val (.int (0 : Int32)), .val (.int (-1 : Int32)), .val (.ref b2054), .val (.int (1 : Int32)), .unset] [(.long ss), (.int mm), (.ref b2054)])) rfl (by rw [hml]; rfl) (Steps.refl _) (argsL := [(.int mm), (.long ss)]) (rest := []) (lenOf pd_10 rfl) rfl (by show 2 * 0 + _ ≤ _; exact Nat.le_of_eq rfl) (hb hby at_142) (fun _ _ => ⟨rfl, e2068, (by decide : 11 + 0 ≤ _), (by decide : 45 + 0 ≤ _)⟩)
      dsimp only [Pt.U, Pt.locs, Pt.cells, Pt.slots] at X2070 l2070 y2070 z2070 st2070 hQ2070
      subst l2070 y2070 z2070
      obtain ⟨vs2070, rfl, N2070q, Kc2070, V2070, hv2070⟩ := hQ2070
      have E_2071 := Ec2061.keep Kc2070
      have F_2072 := FN2061.keep Kc2070 (ninS ne_b2054_t2061 nin0)
      have N2070 := Fr.app N2068 N2070q
      have Z2070 : n0 ≤ T2070.heap.size := Nat.le_trans Z2061 Kc2070.1
      have K2070 : Keep h0 T2070.heap [] := K2061.trans Kc2070 (allS (Or.inr sz_t2061) all0)
      have A2070 := own_A hm.1 hv2070
      refine Gl.st (g' := (mkF m 145 #[.val (.int x0), .val (.int x1), .val (.int x2), .val (.long x3), .second, .val (.long x4), .second, .val (.int sz), .val (.int mm), .val (.long ss), .second, .val (.long tt), .second, .val (.int (0 : Int32)), .val (.int (0 : Int32)), .val (.int (-1 : Int32)), .val (.ref b2054), .val (.int (1 : Int32)), .unset] [])) (fun τ κ => st2070.trans κ) ?_
      refine Gl.st (g' := (mkF m 147 #[.val (.int x0), .val (.int x1), .val (.int x2), .val (.long x3), .second, .val (.long x4), .second, .val (.int sz), .val (.int mm), .val (.long ss), .second, .val (.long tt), .second, .val (.int (0 : Int32)), .val (.int (0 : Int32)), .val (.int (-1 : Int32)), .val (.ref b2054), .val (.int (1 : Int32)), .unset] [(.int (0 : Int32))])) (fun τ κ => XS.iload X2070.here hx rfl (hb hby at_145) rfl κ) ?_
      have hc2074 : (0 : Int32) = (0 : Int32) := by decide
      refine Gl.st (g' := (mkF m 164 #[.val (.int x0), .val (.int x1), .val (.int x2), .val (.long x3), .second, .val (.long x4), .second, .val (.int sz), .val (.int mm), .val (.long ss), .second, .val (.long tt), .second, .val (.int (0 : Int32)), .val (.int (0 : Int32)), .val (.int (-1 : Int32)), .val (.ref b2054), .val (.int (1 : Int32)), .unset] [])) (fun τ κ => XS.ifYes X2070.here hx rfl (pc0 := 147) (pc' := 164) rfl (hb hby at_147) rfl ((if0 _ _).trans (teq hc2074).1) (by decide) (by decide) κ) ?_
      refine Gl.st (g' := (mkF m 166 #[.val (.int x0), .val (.int x1), .val (.int x2), .val (.long x3), .second, .val (.long x4), .second, .val (.int sz), .val (.int mm), .val (.long ss), .second, .val (.long tt), .second, .val (.int (0 : Int32)), .val (.int (0 : Int32)), .val (.int (-1 : Int32)), .val (.ref b2054), .val (.int (1 : Int32)), .unset] [(.int (1 : Int32))])) (fun τ κ => XS.iload X2070.here hx rfl (hb hby at_164) rfl κ) ?_
      have hc2075 : ¬ ((1 : Int32) = (0 : Int32)) := by decide
      refine Gl.st (g' := (mkF m 169 #[.val (.int x0), .val (.int x1), .val (.int x2), .val (.long x3), .second, .val (.long x4), .second, .val (.int sz), .val (.int mm), .val (.long ss), .second, .val (.long tt), .second, .val (.int (0 : Int32)), .val (.int (0 : Int32)), .val (.int (-1 : Int32)), .val (.ref b2054), .val (.int (1 : Int32)), .unset] [])) (fun τ κ => XS.ifNo X2070.here hx rfl (hb hby at_166) rfl ((if0 _ _).trans (feq hc2075).1) κ) ?_
      refine Gl.st (g' := (mkF m 171 #[.val (.int x0), .val (.int x1), .val (.int x2), .val (.long x3), .second, .val (.long x4), .second, .val (.int sz), .val (.int mm), .val (.long ss), .second, .val (.long tt), .second, .val (.int (0 : Int32)), .val (.int (0 : Int32)), .val (.int (-1 : Int32)), .val (.ref b2054), .val (.int (1 : Int32)), .unset] [(.ref b2054)])) (fun τ κ => XS.aload X2070.here hx rfl (hb hby at_169) rfl rfl κ) ?_
      refine Gl.st (g' := (mkF m 173 #[.val (.int x0), .val (.int x1), .val (.int x2), .val (.long x3), .second, .val (.long x4), .second, .val (.int sz), .val (.int mm), .val (.long ss), .second, .val (.long tt), .second, .val (.int (0 : Int32)), .val (.int (0 : Int32)), .val (.int (-1 : Int32)), .val (.ref b2054), .val (.int (1 : Int32)), .unset] [(.int mm), (.ref b2054)])) (fun τ κ => XS.iload X2070.here hx rfl (hb hby at_171) rfl κ) ?_
      obtain ⟨cq2076, kq2076, q2076a, q2076b, q2076c⟩ := isOf hZ rfl E_2071
      obtain ⟨rv2076, _, ⟨T2076, L2076, k2076, n2076⟩, -, X2076, ⟨Lc2076, hQ2076, l2076, y2076, z2076⟩, st2076⟩ := X2070.virtualBack hx (y := (⟨"org/precedence/Takeover", "hasReported", "(I)Z"⟩ : MethodName)) (z := (⟨"org/precedence/Takeover", "hasReported", "(I)Z"⟩ : MethodName)) hown (mvT hZ (hw _ (List.mem_of_getElem? (i := 103) rfl))) (mvT hZ (hw _ (List.mem_of_getElem? (i := 104) rfl))) (notFace_of_selects (args := #[]) (mvT hZ (hw _ (List.mem_of_getElem? (i := 106) rfl)))) (mvT hZ (hw _ (List.mem_of_getElem? (i := 106) rfl))) (mvT hZ (hw _ (List.mem_of_getElem? (i := 105) rfl))) (by decide) (backOf (W := 0) (rm14 l Z a0 hw [] b2054 mm t2061 kk2061 sz vs2070 T2070.heap n0 Z2070 F_2072 V2070 hm.1 hm.2) hZ (hw _ (List.mem_of_getElem? (i := 107) rfl)) (hw _ (List.mem_of_getElem? (i := 4) rfl)) (by decide) (by decide)) q2076a q2076c (g := (mkF m 173 #[.val (.int x0), .val (.int x1), .val (.int x2), .val (.long x3), .second, .val (.long x4), .second, .val (.int sz), .val (.int mm), .val (.long ss), .second, .val (.long tt), .second, .val (.int (0 : Int32)), .val (.int (0 : Int32)), .val (.int (-1 : Int32)), .val (.ref b2054), .val (.int (1 : Int32)), .unset] [(.int mm), (.ref b2054)])) rfl (by rw [hml]; rfl) (Steps.refl _) (argsL := [(.int mm)]) (rest := []) (lenOf pd_7 rfl) rfl (by show 2 * 0 + _ ≤ _; exact Nat.le_of_eq rfl) (hb hby at_173) (fun _ _ => ⟨rfl, rfl, (by decide : 11 + 0 ≤ _), (by decide : 45 + 0 ≤ _)⟩)
      dsimp only [Pt.U, Pt.locs, Pt.cells, Pt.slots] at X2076 l2076 y2076 z2076 st2076 hQ2076
      subst l2076 y2076 z2076
      obtain ⟨rfl, N2076q, e2076⟩ := hQ2076
      have N2076 := Fr.app N2070 N2076q
      refine Gl.st (g' := (mkF m 176 #[.val (.int x0), .val (.int x1), .val (.int x2), .val (.long x3), .second, .val (.long x4), .second, .val (.int sz), .val (.int mm), .val (.long ss), .second, .val (.long tt), .second, .val (.int (0 : Int32)), .val (.int (0 : Int32)), .val (.int (-1 : Int32)), .val (.ref b2054), .val (.int (1 : Int32)), .unset] [(.int (own_rep vs2070 mm))])) (fun τ κ => st2076.trans κ) ?_
      have hc2077 : ¬ ((own_rep vs2070 mm) = (0 : Int32)) := own_r1 ((A2070 mm hm.1).trans (if_pos rfl)) hss
      refine Gl.st (g' := (mkF m 179 #[.val (.int x0), .val (.int x1), .val (.int x2), .val (.long x3), .second, .val (.long x4), .second, .val (.int sz), .val (.int mm), .val (.long ss), .second, .val (.long tt), .second, .val (.int (0 : Int32)), .val (.int (0 : Int32)), .val (.int (-1 : Int32)), .val (.ref b2054), .val (.int (1 : Int32)), .unset] [])) (fun τ κ => XS.ifNo X2076.here hx rfl (hb hby at_176) rfl ((if0 _ _).trans (feq hc2077).1) κ) ?_
      refine Gl.st (g' := (mkF m 181 #[.val (.int x0), .val (.int x1), .val (.int x2), .val (.long x3), .second, .val (.long x4), .second, .val (.int sz), .val (.int mm), .val (.long ss), .second, .val (.long tt), .second, .val (.int (0 : Int32)), .val (.int (0 : Int32)), .val (.int (-1 : Int32)), .val (.ref b2054), .val (.int (1 : Int32)), .unset] [(.ref b2054)])) (fun τ κ => XS.aload X2076.here hx rfl (hb hby at_179) rfl rfl κ) ?_
      refine Gl.st (g' := (mkF m 183 #[.val (.int x0), .val (.int x1), .val (.int x2), .val (.long x3), .second, .val (.long x4), .second, .val (.int sz), .val (.int mm), .val (.long ss), .second, .val (.long tt), .second, .val (.int (0 : Int32)), .val (.int (0 : Int32)), .val (.int (-1 : Int32)), .val (.ref b2054), .val (.int (1 : Int32)), .unset] [(.int mm), (.ref b2054)])) (fun τ κ => XS.iload X2076.here hx rfl (hb hby at_181) rfl κ) ?_
      obtain ⟨cq2078, kq2078, q2078a, q2078b, q2078c⟩ := isOf hZ e2076 E_2071
      obtain ⟨rv2078, _, ⟨T2078, L2078, k2078, n2078⟩, -, X2078, ⟨Lc2078, hQ2078, l2078, y2078, z2078⟩, st2078⟩ := X2076.virtualBack hx (y := (⟨"org/precedence/Takeover", "next", "(I)J"⟩ : MethodName)) (z := (⟨"org/precedence/Takeover", "next", "(I)J"⟩ : MethodName)) hown (mvT hZ (hw _ (List.mem_of_getElem? (i := 113) rfl))) (mvT hZ (hw _ (List.mem_of_getElem? (i := 114) rfl))) (notFace_of_selects (args := #[]) (mvT hZ (hw _ (List.mem_of_getElem? (i := 116) rfl)))) (mvT hZ (hw _ (List.mem_of_getElem? (i := 116) rfl))) (mvT hZ (hw _ (List.mem_of_getElem? (i := 115) rfl))) (by decide) (backOf (W := 0) (rm16 l Z a0 hw [] b2054 mm t2061 kk2061 sz vs2070 T2070.heap n0 Z2070 F_2072 V2070 hm.1 hm.2) hZ (hw _ (List.mem_of_getElem? (i := 117) rfl)) (hw _ (List.mem_of_getElem? (i := 4) rfl)) (by decide) (by decide)) q2078a q2078c (g := (mkF m 183 #[.val (.int x0), .val (.int x1), .val (.int x2), .val (.long x3), .second, .val (.long x4), .second, .val (.int sz), .val (.int mm), .val (.long ss), .second, .val (.long tt), .second, .val (.int (0 : Int32)), .val (.int (0 : Int32)), .val (.int (-1 : Int32)), .val (.ref b2054), .val (.int (1 : Int32)), .unset] [(.int mm), (.ref b2054)])) rfl (by rw [hml]; rfl) (Steps.refl _) (argsL := [(.int mm)]) (rest := []) (lenOf pd_11 rfl) rfl (by show 2 * 0 + _ ≤ _; exact Nat.le_of_eq rfl) (hb hby at_183) (fun _ _ => ⟨rfl, e2076, (by decide : 11 + 0 ≤ _), (by decide : 45 + 0 ≤ _)⟩)
      dsimp only [Pt.U, Pt.locs, Pt.cells, Pt.slots] at X2078 l2078 y2078 z2078 st2078 hQ2078
      subst l2078 y2078 z2078
      obtain ⟨rfl, N2078q, e2078⟩ := hQ2078
      have N2078 := Fr.app N2076 N2078q
      refine Gl.st (g' := (mkF m 186 #[.val (.int x0), .val (.int x1), .val (.int x2), .val (.long x3), .second, .val (.long x4), .second, .val (.int sz), .val (.int mm), .val (.long ss), .second, .val (.long tt), .second, .val (.int (0 : Int32)), .val (.int (0 : Int32)), .val (.int (-1 : Int32)), .val (.ref b2054), .val (.int (1 : Int32)), .unset] [(.long (own_at vs2070 mm))])) (fun τ κ => st2078.trans κ) ?_
      refine Gl.st (g' := (mkF m 188 #[.val (.int x0), .val (.int x1), .val (.int x2), .val (.long x3), .second, .val (.long x4), .second, .val (.int sz), .val (.int mm), .val (.long ss), .second, .val (.long tt), .second, .val (.int (0 : Int32)), .val (.int (0 : Int32)), .val (.int (-1 : Int32)), .val (.ref b2054), .val (.int (1 : Int32)), .unset] [(.long ss), (.long (own_at vs2070 mm))])) (fun τ κ => XS.lload X2078.here hx rfl (hb hby at_186) rfl κ) ?_
      refine Gl.st (g' := (mkF m 189 #[.val (.int x0), .val (.int x1), .val (.int x2), .val (.long x3), .second, .val (.long x4), .second, .val (.int sz), .val (.int mm), .val (.long ss), .second, .val (.long tt), .second, .val (.int (0 : Int32)), .val (.int (0 : Int32)), .val (.int (-1 : Int32)), .val (.ref b2054), .val (.int (1 : Int32)), .unset] [(.int (lcmpW (own_at vs2070 mm) ss))])) (fun τ κ => XS.lcmp X2078.here hx rfl (hb hby at_188) rfl κ) ?_
      have hc2079 : (own_at vs2070 mm) = ss := ((A2070 mm hm.1).trans (if_pos rfl))
      refine Gl.st (g' := (mkF m 192 #[.val (.int x0), .val (.int x1), .val (.int x2), .val (.long x3), .second, .val (.long x4), .second, .val (.int sz), .val (.int mm), .val (.long ss), .second, .val (.long tt), .second, .val (.int (0 : Int32)), .val (.int (0 : Int32)), .val (.int (-1 : Int32)), .val (.ref b2054), .val (.int (1 : Int32)), .unset] [])) (fun τ κ => XS.ifNo X2078.here hx rfl (hb hby at_189) rfl ((if0 _ _).trans (teq ((lw_eq (own_at vs2070 mm) ss).mpr hc2079)).2) κ) ?_
      refine Gl.st (g' := (mkF m 193 #[.val (.int x0), .val (.int x1), .val (.int x2), .val (.long x3), .second, .val (.long x4), .second, .val (.int sz), .val (.int mm), .val (.long ss), .second, .val (.long tt), .second, .val (.int (0 : Int32)), .val (.int (0 : Int32)), .val (.int (-1 : Int32)), .val (.ref b2054), .val (.int (1 : Int32)), .unset] [(.int (1 : Int32))])) (fun τ κ => XS.iconst X2078.here hx rfl (hb hby at_192) κ) ?_
      refine Gl.st (g' := (mkF m 197 #[.val (.int x0), .val (.int x1), .val (.int x2), .val (.long x3), .second, .val (.long x4), .second, .val (.int sz), .val (.int mm), .val (.long ss), .second, .val (.long tt), .second, .val (.int (0 : Int32)), .val (.int (0 : Int32)), .val (.int (-1 : Int32)), .val (.ref b2054), .val (.int (1 : Int32)), .unset] [(.int (1 : Int32))])) (fun τ κ => XS.goto X2078.here hx rfl (pc0 := 193) (pc' := 197) rfl (hb hby at_193) (by decide) (by decide) κ) ?_
      refine Gl.st (g' := (mkF m 199 #[.val (.int x0), .val (.int x1), .val (.int x2), .val (.long x3), .second, .val (.long x4), .second, .val (.int sz), .val (.int mm), .val (.long ss), .second, .val (.long tt), .second, .val (.int (0 : Int32)), .val (.int (0 : Int32)), .val (.int (-1 : Int32)), .val (.ref b2054), .val (.int (1 : Int32)), .val (.int (1 : Int32))] [])) (fun τ κ => XS.istore X2078.here hx rfl (hb hby at_197) rfl (l' := #[.val (.int x0), .val (.int x1), .val (.int x2), .val (.long x3), .second, .val (.long x4), .second, .val (.int sz), .val (.int mm), .val (.long ss), .second, .val (.long tt), .second, .val (.int (0 : Int32)), .val (.int (0 : Int32)), .val (.int (-1 : Int32)), .val (.ref b2054), .val (.int (1 : Int32)), .val (.int (1 : Int32))]) rfl κ) ?_
      refine Gl.st (g' := (mkF m 201 #[.val (.int x0), .val (.int x1), .val (.int x2), .val (.long x3), .second, .val (.long x4), .second, .val (.int sz), .val (.int mm), .val (.long ss), .second, .val (.long tt), .second, .val (.int (0 : Int32)), .val (.int (0 : Int32)), .val (.int (-1 : Int32)), .val (.ref b2054), .val (.int (1 : Int32)), .val (.int (1 : Int32))] [(.int (0 : Int32))])) (fun τ κ => XS.iload X2078.here hx rfl (hb hby at_199) rfl κ) ?_
      have hc2080 : (0 : Int32) = (0 : Int32) := by decide
      refine Gl.st (g' := (mkF m 239 #[.val (.int x0), .val (.int x1), .val (.int x2), .val (.long x3), .second, .val (.long x4), .second, .val (.int sz), .val (.int mm), .val (.long ss), .second, .val (.long tt), .second, .val (.int (0 : Int32)), .val (.int (0 : Int32)), .val (.int (-1 : Int32)), .val (.ref b2054), .val (.int (1 : Int32)), .val (.int (1 : Int32))] [])) (fun τ κ => XS.ifYes X2078.here hx rfl (pc0 := 201) (pc' := 239) rfl (hb hby at_201) rfl ((if0 _ _).trans (teq hc2080).1) (by decide) (by decide) κ) ?_
      have hS := own_hs1 (sz := sz) hss (fun ii a b => by rw [A2070 ii a, A0 ii a b])
      refine own_tail hx hZ hw hby hml hown X2078 e2078 N2078 Z2070 E_2071 F_2072 V2070 hS ?_
      intro T' h' locs' X' e' N'
      refine Gl.st (g' := (mkF m 349 #[.val (.int x0), .val (.int x1), .val (.int x2), .val (.long x3), .second, .val (.long x4), .second, .val (.int sz), .val (.int mm), .val (.long ss), .second, .val (.long tt), .second, .val (.int (0 : Int32)), .val (.int (0 : Int32)), .val (.int (-1 : Int32)), .val (.ref b2054), .val (.int (1 : Int32)), .val (.int (1 : Int32))] [(.int (1 : Int32))])) (fun τ κ => XS.iload X'.here hx rfl (hb hby at_347) rfl κ) ?_
      exact Gl.ret (v := some (.int (1 : Int32))) X' Bd.notSynchronized (fun h => by rw [Bd.returns] at h; cases h) e' (fun fs hr => retN X' hx (t := .boolean) Bd.returns (by simp) (hb hby at_349) hr) (by decide) (by decide) ⟨rfl, N'⟩
    · -- pc 53: not (x2 &&& (2 : Int32)) = (0 : Int32)
      refine Gl.st (g' := (mkF m 56 #[.val (.int x0), .val (.int x1), .val (.int x2), .val (.long x3), .second, .val (.long x4), .second, .val (.int sz), .val (.int mm), .val (.long ss), .second, .val (.long tt), .second, .val (.int (0 : Int32)), .unset, .unset, .unset, .unset, .unset] [])) (fun τ κ => XS.ifNo X0.here hx rfl (hb hby at_53) rfl ((if0 _ _).trans (feq hc2052).1) κ) ?_
      refine Gl.st (g' := (mkF m 57 #[.val (.int x0), .val (.int x1), .val (.int x2), .val (.long x3), .second, .val (.long x4), .second, .val (.int sz), .val (.int mm), .val (.long ss), .second, .val (.long tt), .second, .val (.int (0 : Int32)), .unset, .unset, .unset, .unset, .unset] [(.int (1 : Int32))])) (fun τ κ => XS.iconst X0.here hx rfl (hb hby at_56) κ) ?_
      refine Gl.st (g' := (mkF m 61 #[.val (.int x0), .val (.int x1), .val (.int x2), .val (.long x3), .second, .val (.long x4), .second, .val (.int sz), .val (.int mm), .val (.long ss), .second, .val (.long tt), .second, .val (.int (0 : Int32)), .unset, .unset, .unset, .unset, .unset] [(.int (1 : Int32))])) (fun τ κ => XS.goto X0.here hx rfl (pc0 := 57) (pc' := 61) rfl (hb hby at_57) (by decide) (by decide) κ) ?_
      refine Gl.st (g' := (mkF m 63 #[.val (.int x0), .val (.int x1), .val (.int x2), .val (.long x3), .second, .val (.long x4), .second, .val (.int sz), .val (.int mm), .val (.long ss), .second, .val (.long tt), .second, .val (.int (0 : Int32)), .val (.int (1 : Int32)), .unset, .unset, .unset, .unset] [])) (fun τ κ => XS.istore X0.here hx rfl (hb hby at_61) rfl (l' := #[.val (.int x0), .val (.int x1), .val (.int x2), .val (.long x3), .second, .val (.long x4), .second, .val (.int sz), .val (.int mm), .val (.long ss), .second, .val (.long tt), .second, .val (.int (0 : Int32)), .val (.int (1 : Int32)), .unset, .unset, .unset, .unset]) rfl κ) ?_
      refine Gl.st (g' := (mkF m 64 #[.val (.int x0), .val (.int x1), .val (.int x2), .val (.long x3), .second, .val (.long x4), .second, .val (.int sz), .val (.int mm), .val (.long ss), .second, .val (.long tt), .second, .val (.int (0 : Int32)), .val (.int (1 : Int32)), .unset, .unset, .unset, .unset] [(.int (-1 : Int32))])) (fun τ κ => XS.iconst X0.here hx rfl (hb hby at_63) κ) ?_
      refine Gl.st (g' := (mkF m 66 #[.val (.int x0), .val (.int x1), .val (.int x2), .val (.long x3), .second, .val (.long x4), .second, .val (.int sz), .val (.int mm), .val (.long ss), .second, .val (.long tt), .second, .val (.int (0 : Int32)), .val (.int (1 : Int32)), .val (.int (-1 : Int32)), .unset, .unset, .unset] [])) (fun τ κ => XS.istore X0.here hx rfl (hb hby at_64) rfl (l' := #[.val (.int x0), .val (.int x1), .val (.int x2), .val (.long x3), .second, .val (.long x4), .second, .val (.int sz), .val (.int mm), .val (.long ss), .second, .val (.long tt), .second, .val (.int (0 : Int32)), .val (.int (1 : Int32)), .val (.int (-1 : Int32)), .unset, .unset, .unset]) rfl κ) ?_
      refine Gl.st (g' := (mkF m 68 #[.val (.int x0), .val (.int x1), .val (.int x2), .val (.long x3), .second, .val (.long x4), .second, .val (.int sz), .val (.int mm), .val (.long ss), .second, .val (.long tt), .second, .val (.int (0 : Int32)), .val (.int (1 : Int32)), .val (.int (-1 : Int32)), .unset, .unset, .unset] [(.int (0 : Int32))])) (fun τ κ => XS.iload X0.here hx rfl (hb hby at_66) rfl κ) ?_
      have hc2081 : (0 : Int32) = (0 : Int32) := by decide
      refine Gl.st (g' := (mkF m 89 #[.val (.int x0), .val (.int x1), .val (.int x2), .val (.long x3), .second, .val (.long x4), .second, .val (.int sz), .val (.int mm), .val (.long ss), .second, .val (.long tt), .second, .val (.int (0 : Int32)), .val (.int (1 : Int32)), .val (.int (-1 : Int32)), .unset, .unset, .unset] [])) (fun τ κ => XS.ifYes X0.here hx rfl (pc0 := 68) (pc' := 89) rfl (hb hby at_68) rfl ((if0 _ _).trans (teq hc2081).1) (by decide) (by decide) κ) ?_
      obtain ⟨T2082, h2082, X2082, e2082, E2082, A2082, D2082, -, st2082⟩ := newO X0 hx hZ hown (hw _ (List.mem_of_getElem? (i := 2) rfl)) (hw _ (List.mem_of_getElem? (i := 3) rfl)) (hw _ (List.mem_of_getElem? (i := 4) rfl)) e0 (g := (mkF m 89 #[.val (.int x0), .val (.int x1), .val (.int x2), .val (.long x3), .second, .val (.long x4), .second, .val (.int sz), .val (.int mm), .val (.long ss), .second, .val (.long tt), .second, .val (.int (0 : Int32)), .val (.int (1 : Int32)), .val (.int (-1 : Int32)), .unset, .unset, .unset] [])) rfl (hb hby at_89) (by decide) (by decide)
      obtain ⟨b2082, g2082⟩ : ∃ z, z = h0.size := ⟨_, rfl⟩
      rw [← g2082] at A2082 D2082 st2082
      have ne_de_b2082 : de ≠ b2082 := Nat.ne_of_lt (Nat.lt_of_lt_of_le V0.lt (Nat.le_of_eq g2082.symm))
      have S_2083 := S0.ext E2082
      have V_2084 := V0.ext E2082
      have g_b2082 : n0 ≤ b2082 := Nat.le_trans Z0 (Nat.le_of_eq g2082.symm)
      have sz_b2082 : h0.size ≤ b2082 := Nat.le_trans (Keep.refl h0 []).1 (Nat.le_of_eq g2082.symm)
      have Z2082 : n0 ≤ h2082.size := Nat.le_trans Z0 E2082.1
      have K2082 : Keep h0 h2082 [] := (Keep.refl h0 []).ext E2082
      have F_2085 : Fld Z h2082 b2082 "org/precedence/Takeover" "stamped" "Ljava/util/TreeMap;" .null := D2082 (Or.inr (hw _ (List.mem_of_getElem? (i := 31) rfl))) (ty := (.object "java/util/TreeMap")) (by decide)
      have F_2086 : Fld Z h2082 b2082 "org/precedence/Takeover" "unstamped" "Ljava/util/List;" .null := D2082 (Or.inr (hw _ (List.mem_of_getElem? (i := 57) rfl))) (ty := (.object "java/util/List")) (by decide)
      have F_2087 : Fld Z h2082 b2082 "org/precedence/Takeover" "submitted" "Ljava/util/List;" .null := D2082 (Or.inr (hw _ (List.mem_of_getElem? (i := 59) rfl))) (ty := (.object "java/util/List")) (by decide)
      have F_2088 : Fld Z h2082 b2082 "org/precedence/Takeover" "next" "[J" .null := D2082 (Or.inr (hw _ (List.mem_of_getElem? (i := 62) rfl))) (ty := (.array .long)) (by decide)
      refine Gl.st (g' := (mkF m 92 #[.val (.int x0), .val (.int x1), .val (.int x2), .val (.long x3), .second, .val (.long x4), .second, .val (.int sz), .val (.int mm), .val (.long ss), .second, .val (.long tt), .second, .val (.int (0 : Int32)), .val (.int (1 : Int32)), .val (.int (-1 : Int32)), .unset, .unset, .unset] [(.ref b2082)])) (fun τ κ => st2082 _ κ) ?_
      refine Gl.st (g' := (mkF m 93 #[.val (.int x0), .val (.int x1), .val (.int x2), .val (.long x3), .second, .val (.long x4), .second, .val (.int sz), .val (.int mm), .val (.long ss), .second, .val (.long tt), .second, .val (.int (0 : Int32)), .val (.int (1 : Int32)), .val (.int (-1 : Int32)), .unset, .unset, .unset] [(.ref b2082), (.ref b2082)])) (fun τ κ => XS.dup X2082.here hx rfl (hb hby at_92) rfl rfl κ) ?_
      refine Gl.st (g' := (mkF m 95 #[.val (.int x0), .val (.int x1), .val (.int x2), .val (.long x3), .second, .val (.long x4), .second, .val (.int sz), .val (.int mm), .val (.long ss), .second, .val (.long tt), .second, .val (.int (0 : Int32)), .val (.int (1 : Int32)), .val (.int (-1 : Int32)), .unset, .unset, .unset] [(.int sz), (.ref b2082), (.ref b2082)])) (fun τ κ => XS.iload X2082.here hx rfl (hb hby at_93) rfl κ) ?_
      obtain ⟨rv2089, _, ⟨T2089, L2089, k2089, n2089⟩, -, X2089, ⟨Lc2089, hQ2089, l2089, y2089, z2089⟩, st2089⟩ := X2082.specialBack hx (y := (⟨"org/precedence/Takeover", "<init>", "(I)V"⟩ : MethodName)) rfl hown (mvT hZ (hw _ (List.mem_of_getElem? (i := 5) rfl))) (mvT hZ (hw _ (List.mem_of_getElem? (i := 6) rfl))) (mvT hZ (hw _ (List.mem_of_getElem? (i := 7) rfl))) (by decide) (backOf (W := 1) (rm_initS l Z a0 hw [] b2082 sz de kd h2082 n0 Z2082 A2082 g_b2082 S_2083 V_2084 (Ne.symm ne_de_b2082) F_2085 F_2086 F_2087 F_2088 hsz) hZ (hw _ (List.mem_of_getElem? (i := 7) rfl)) (hw _ (List.mem_of_getElem? (i := 4) rfl)) (by decide) (by decide)) (g := (mkF m 95 #[.val (.int x0), .val (.int x1), .val (.int x2), .val (.long x3), .second, .val (.long x4), .second, .val (.int sz), .val (.int mm), .val (.long ss), .second, .val (.long tt), .second, .val (.int (0 : Int32)), .val (.int (1 : Int32)), .val (.int (-1 : Int32)), .unset, .unset, .unset] [(.int sz), (.ref b2082), (.ref b2082)])) rfl (by rw [hml]; rfl) (Steps.refl _) (a := b2082) (argsL := [(.int sz)]) (rest := [(.ref b2082)]) (lenOf pd_9 rfl) rfl (by show 2 * 0 + _ ≤ _; exact Nat.le_of_eq rfl) (hb hby at_95) (fun _ _ => ⟨rfl, e2082, (by decide : 1 + 10 ≤ _), (by decide : 4 + 41 ≤ _)⟩)
      dsimp only [Pt.U, Pt.locs, Pt.cells, Pt.slots] at X2089 l2089 y2089 z2089 st2089 hQ2089
      subst l2089 y2089 z2089
      obtain ⟨t2089, kk2089, vs2089, rfl, N2089q, Kc2089, s2089, Ec2089, FN2089, V2089, hv2089⟩ := hQ2089
      have ne_de_t2089 : de ≠ t2089 := Nat.ne_of_lt (Nat.lt_of_lt_of_le V_2084.lt s2089)
      have ne_b2082_t2089 : b2082 ≠ t2089 := Nat.ne_of_lt (Nat.lt_of_lt_of_le A2082.lt s2089)
      have g_t2089 : n0 ≤ t2089 := Nat.le_trans Z2082 s2089
      have sz_t2089 : h0.size ≤ t2089 := Nat.le_trans K2082.1 s2089
      have E_2090 := A2082.keep Kc2089
      have N2089 := Fr.app N0 N2089q
      have Z2089 : n0 ≤ T2089.heap.size := Nat.le_trans Z2082 Kc2089.1
      have K2089 : Keep h0 T2089.heap [] := K2082.trans Kc2089 (allS (Or.inr sz_b2082) all0)
      have A0 := own_A0 hv2089
      refine Gl.st (g' := (mkF m 98 #[.val (.int x0), .val (.int x1), .val (.int x2), .val (.long x3), .second, .val (.long x4), .second, .val (.int sz), .val (.int mm), .val (.long ss), .second, .val (.long tt), .second, .val (.int (0 : Int32)), .val (.int (1 : Int32)), .val (.int (-1 : Int32)), .unset, .unset, .unset] [(.ref b2082)])) (fun τ κ => st2089.trans κ) ?_
      refine Gl.st (g' := (mkF m 100 #[.val (.int x0), .val (.int x1), .val (.int x2), .val (.long x3), .second, .val (.long x4), .second, .val (.int sz), .val (.int mm), .val (.long ss), .second, .val (.long tt), .second, .val (.int (0 : Int32)), .val (.int (1 : Int32)), .val (.int (-1 : Int32)), .val (.ref b2082), .unset, .unset] [])) (fun τ κ => XS.astore X2089.here hx rfl (hb hby at_98) rfl rfl (l' := #[.val (.int x0), .val (.int x1), .val (.int x2), .val (.long x3), .second, .val (.long x4), .second, .val (.int sz), .val (.int mm), .val (.long ss), .second, .val (.long tt), .second, .val (.int (0 : Int32)), .val (.int (1 : Int32)), .val (.int (-1 : Int32)), .val (.ref b2082), .unset, .unset]) rfl κ) ?_
      refine Gl.st (g' := (mkF m 102 #[.val (.int x0), .val (.int x1), .val (.int x2), .val (.long x3), .second, .val (.long x4), .second, .val (.int sz), .val (.int mm), .val (.long ss), .second, .val (.long tt), .second, .val (.int (0 : Int32)), .val (.int (1 : Int32)), .val (.int (-1 : Int32)), .val (.ref b2082), .unset, .unset] [(.int (0 : Int32))])) (fun τ κ => XS.iload X2089.here hx rfl (hb hby at_100) rfl κ) ?_
      have hc2095 : (0 : Int32) = (0 : Int32) := by decide
      refine Gl.st (g' := (mkF m 119 #[.val (.int x0), .val (.int x1), .val (.int x2), .val (.long x3), .second, .val (.long x4), .second, .val (.int sz), .val (.int mm), .val (.long ss), .second, .val (.long tt), .second, .val (.int (0 : Int32)), .val (.int (1 : Int32)), .val (.int (-1 : Int32)), .val (.ref b2082), .unset, .unset] [])) (fun τ κ => XS.ifYes X2089.here hx rfl (pc0 := 102) (pc' := 119) rfl (hb hby at_102) rfl ((if0 _ _).trans (teq hc2095).1) (by decide) (by decide) κ) ?_
      refine Gl.st (g' := (mkF m 121 #[.val (.int x0), .val (.int x1), .val (.int x2), .val (.long x3), .second, .val (.long x4), .second, .val (.int sz), .val (.int mm), .val (.long ss), .second, .val (.long tt), .second, .val (.int (0 : Int32)), .val (.int (1 : Int32)), .val (.int (-1 : Int32)), .val (.ref b2082), .unset, .unset] [(.ref b2082)])) (fun τ κ => XS.aload X2089.here hx rfl (hb hby at_119) rfl rfl κ) ?_
      refine Gl.st (g' := (mkF m 123 #[.val (.int x0), .val (.int x1), .val (.int x2), .val (.long x3), .second, .val (.long x4), .second, .val (.int sz), .val (.int mm), .val (.long ss), .second, .val (.long tt), .second, .val (.int (0 : Int32)), .val (.int (1 : Int32)), .val (.int (-1 : Int32)), .val (.ref b2082), .unset, .unset] [(.int mm), (.ref b2082)])) (fun τ κ => XS.iload X2089.here hx rfl (hb hby at_121) rfl κ) ?_
      obtain ⟨cq2096, kq2096, q2096a, q2096b, q2096c⟩ := isOf hZ rfl Ec2089
      obtain ⟨rv2096, _, ⟨T2096, L2096, k2096, n2096⟩, -, X2096, ⟨Lc2096, hQ2096, l2096, y2096, z2096⟩, st2096⟩ := X2089.virtualBack hx (y := (⟨"org/precedence/Takeover", "hasReported", "(I)Z"⟩ : MethodName)) (z := (⟨"org/precedence/Takeover", "hasReported", "(I)Z"⟩ : MethodName)) hown (mvT hZ (hw _ (List.mem_of_getElem? (i := 103) rfl))) (mvT hZ (hw _ (List.mem_of_getElem? (i := 104) rfl))) (notFace_of_selects (args := #[]) (mvT hZ (hw _ (List.mem_of_getElem? (i := 106) rfl)))) (mvT hZ (hw _ (List.mem_of_getElem? (i := 106) rfl))) (mvT hZ (hw _ (List.mem_of_getElem? (i := 105) rfl))) (by decide) (backOf (W := 0) (rm14 l Z a0 hw [] b2082 mm t2089 kk2089 sz vs2089 T2089.heap n0 Z2089 FN2089 V2089 hm.1 hm.2) hZ (hw _ (List.mem_of_getElem? (i := 107) rfl)) (hw _ (List.mem_of_getElem? (i := 4) rfl)) (by decide) (by decide)) q2096a q2096c (g := (mkF m 123 #[.val (.int x0), .val (.int x1), .val (.int x2), .val (.long x3), .second, .val (.long x4), .second, .val (.int sz), .val (.int mm), .val (.long ss), .second, .val (.long tt), .second, .val (.int (0 : Int32)), .val (.int (1 : Int32)), .val (.int (-1 : Int32)), .val (.ref b2082), .unset, .unset] [(.int mm), (.ref b2082)])) rfl (by rw [hml]; rfl) (Steps.refl _) (argsL := [(.int mm)]) (rest := []) (lenOf pd_7 rfl) rfl (by show 2 * 0 + _ ≤ _; exact Nat.le_of_eq rfl) (hb hby at_123) (fun _ _ => ⟨rfl, rfl, (by decide : 11 + 0 ≤ _), (by decide : 45 + 0 ≤ _)⟩)
      dsimp only [Pt.U, Pt.locs, Pt.cells, Pt.slots] at X2096 l2096 y2096 z2096 st2096 hQ2096
      subst l2096 y2096 z2096
      obtain ⟨rfl, N2096q, e2096⟩ := hQ2096
      have N2096 := Fr.app N2089 N2096q
      refine Gl.st (g' := (mkF m 126 #[.val (.int x0), .val (.int x1), .val (.int x2), .val (.long x3), .second, .val (.long x4), .second, .val (.int sz), .val (.int mm), .val (.long ss), .second, .val (.long tt), .second, .val (.int (0 : Int32)), .val (.int (1 : Int32)), .val (.int (-1 : Int32)), .val (.ref b2082), .unset, .unset] [(.int (own_rep vs2089 mm))])) (fun τ κ => st2096.trans κ) ?_
      have hc2097 : (own_rep vs2089 mm) = (0 : Int32) := own_r0 (A0 mm hm.1 hm.2)
      refine Gl.st (g' := (mkF m 129 #[.val (.int x0), .val (.int x1), .val (.int x2), .val (.long x3), .second, .val (.long x4), .second, .val (.int sz), .val (.int mm), .val (.long ss), .second, .val (.long tt), .second, .val (.int (0 : Int32)), .val (.int (1 : Int32)), .val (.int (-1 : Int32)), .val (.ref b2082), .unset, .unset] [])) (fun τ κ => XS.ifNo X2096.here hx rfl (hb hby at_126) rfl ((if0 _ _).trans (teq hc2097).2) κ) ?_
      refine Gl.st (g' := (mkF m 130 #[.val (.int x0), .val (.int x1), .val (.int x2), .val (.long x3), .second, .val (.long x4), .second, .val (.int sz), .val (.int mm), .val (.long ss), .second, .val (.long tt), .second, .val (.int (0 : Int32)), .val (.int (1 : Int32)), .val (.int (-1 : Int32)), .val (.ref b2082), .unset, .unset] [(.int (1 : Int32))])) (fun τ κ => XS.iconst X2096.here hx rfl (hb hby at_129) κ) ?_
      refine Gl.st (g' := (mkF m 134 #[.val (.int x0), .val (.int x1), .val (.int x2), .val (.long x3), .second, .val (.long x4), .second, .val (.int sz), .val (.int mm), .val (.long ss), .second, .val (.long tt), .second, .val (.int (0 : Int32)), .val (.int (1 : Int32)), .val (.int (-1 : Int32)), .val (.ref b2082), .unset, .unset] [(.int (1 : Int32))])) (fun τ κ => XS.goto X2096.here hx rfl (pc0 := 130) (pc' := 134) rfl (hb hby at_130) (by decide) (by decide) κ) ?_
      refine Gl.st (g' := (mkF m 136 #[.val (.int x0), .val (.int x1), .val (.int x2), .val (.long x3), .second, .val (.long x4), .second, .val (.int sz), .val (.int mm), .val (.long ss), .second, .val (.long tt), .second, .val (.int (0 : Int32)), .val (.int (1 : Int32)), .val (.int (-1 : Int32)), .val (.ref b2082), .val (.int (1 : Int32)), .unset] [])) (fun τ κ => XS.istore X2096.here hx rfl (hb hby at_134) rfl (l' := #[.val (.int x0), .val (.int x1), .val (.int x2), .val (.long x3), .second, .val (.long x4), .second, .val (.int sz), .val (.int mm), .val (.long ss), .second, .val (.long tt), .second, .val (.int (0 : Int32)), .val (.int (1 : Int32)), .val (.int (-1 : Int32)), .val (.ref b2082), .val (.int (1 : Int32)), .unset]) rfl κ) ?_
      refine Gl.st (g' := (mkF m 138 #[.val (.int x0), .val (.int x1), .val (.int x2), .val (.long x3), .second, .val (.long x4), .second, .val (.int sz), .val (.int mm), .val (.long ss), .second, .val (.long tt), .second, .val (.int (0 : Int32)), .val (.int (1 : Int32)), .val (.int (-1 : Int32)), .val (.ref b2082), .val (.int (1 : Int32)), .unset] [(.ref b2082)])) (fun τ κ => XS.aload X2096.here hx rfl (hb hby at_136) rfl rfl κ) ?_
      refine Gl.st (g' := (mkF m 140 #[.val (.int x0), .val (.int x1), .val (.int x2), .val (.long x3), .second, .val (.long x4), .second, .val (.int sz), .val (.int mm), .val (.long ss), .second, .val (.long tt), .second, .val (.int (0 : Int32)), .val (.int (1 : Int32)), .val (.int (-1 : Int32)), .val (.ref b2082), .val (.int (1 : Int32)), .unset] [(.int mm), (.ref b2082)])) (fun τ κ => XS.iload X2096.here hx rfl (hb hby at_138) rfl κ) ?_
      refine Gl.st (g' := (mkF m 142 #[.val (.int x0), .val (.int x1), .val (.int x2), .val (.long x3), .second, .val (.long x4), .second, .val (.int sz), .val (.int mm), .val (.long ss), .second, .val (.long tt), .second, .val (.int (0 : Int32)), .val (.int (1 : Int32)), .val (.int (-1 : Int32)), .val (.ref b2082), .val (.int (1 : Int32)), .unset] [(.long ss), (.int mm), (.ref b2082)])) (fun τ κ => XS.lload X2096.here hx rfl (hb hby at_140) rfl κ) ?_
      obtain ⟨cq2098, kq2098, q2098a, q2098b, q2098c⟩ := isOf hZ e2096 Ec2089
      obtain ⟨rv2098, _, ⟨T2098, L2098, k2098, n2098⟩, -, X2098, ⟨Lc2098, hQ2098, l2098, y2098, z2098⟩, st2098⟩ := X2096.virtualBack hx (y := (⟨"org/precedence/Takeover", "reported", "(IJ)V"⟩ : MethodName)) (z := (⟨"org/precedence/Takeover", "reported", "(IJ)V"⟩ : MethodName)) hown (mvT hZ (hw _ (List.mem_of_getElem? (i := 108) rfl))) (mvT hZ (hw _ (List.mem_of_getElem? (i := 109) rfl))) (notFace_of_selects (args := #[]) (mvT hZ (hw _ (List.mem_of_getElem? (i := 111) rfl)))) (mvT hZ (hw _ (List.mem_of_getElem? (i := 111) rfl))) (mvT hZ (hw _ (List.mem_of_getElem? (i := 110) rfl))) (by decide) (backOf (W := 0) (rm15 l Z a0 hw [] b2082 mm ss t2089 kk2089 sz vs2089 T2089.heap n0 Z2089 FN2089 V2089 hm.1 hm.2 g_t2089 (own_n0 (A0 mm hm.1 hm.2)) hss ne_b2082_t2089) hZ (hw _ (List.mem_of_getElem? (i := 112) rfl)) (hw _ (List.mem_of_getElem? (i := 4) rfl)) (by decide) (by decide)) q2098a q2098c (g := (mkF m 142 #[.val (.int x0), .val (.int x1), .val (.int x2), .val (.long x3), .second, .val (.long x4), .second, .val (.int sz), .val (.int mm), .val (.long ss), .second, .val (.long tt), .second, .val (.int (0 : Int32)), .val (.int (1 : Int32)), .val (.int (-1 : Int32)), .val (.ref b2082), .val (.int (1 : Int32)), .unset] [(.long ss), (.int mm), (.ref b2082)])) rfl (by rw [hml]; rfl) (Steps.refl _) (argsL := [(.int mm), (.long ss)]) (rest := []) (lenOf pd_10 rfl) rfl (by show 2 * 0 + _ ≤ _; exact Nat.le_of_eq rfl) (hb hby at_142) (fun _ _ => ⟨rfl, e2096, (by decide : 11 + 0 ≤ _), (by decide : 45 + 0 ≤ _)⟩)
      dsimp only [Pt.U, Pt.locs, Pt.cells, Pt.slots] at X2098 l2098 y2098 z2098 st2098 hQ2098
      subst l2098 y2098 z2098
      obtain ⟨vs2098, rfl, N2098q, Kc2098, V2098, hv2098⟩ := hQ2098
      have E_2099 := Ec2089.keep Kc2098
      have F_2100 := FN2089.keep Kc2098 (ninS ne_b2082_t2089 nin0)
      have N2098 := Fr.app N2096 N2098q
      have Z2098 : n0 ≤ T2098.heap.size := Nat.le_trans Z2089 Kc2098.1
      have K2098 : Keep h0 T2098.heap [] := K2089.trans Kc2098 (allS (Or.inr sz_t2089) all0)
      have A2098 := own_A hm.1 hv2098
      refine Gl.st (g' := (mkF m 145 #[.val (.int x0), .val (.int x1), .val (.int x2), .val (.long x3), .second, .val (.long x4), .second, .val (.int sz), .val (.int mm), .val (.long ss), .second, .val (.long tt), .second, .val (.int (0 : Int32)), .val (.int (1 : Int32)), .val (.int (-1 : Int32)), .val (.ref b2082), .val (.int (1 : Int32)), .unset] [])) (fun τ κ => st2098.trans κ) ?_
      refine Gl.st (g' := (mkF m 147 #[.val (.int x0), .val (.int x1), .val (.int x2), .val (.long x3), .second, .val (.long x4), .second, .val (.int sz), .val (.int mm), .val (.long ss), .second, .val (.long tt), .second, .val (.int (0 : Int32)), .val (.int (1 : Int32)), .val (.int (-1 : Int32)), .val (.ref b2082), .val (.int (1 : Int32)), .unset] [(.int (0 : Int32))])) (fun τ κ => XS.iload X2098.here hx rfl (hb hby at_145) rfl κ) ?_
      have hc2102 : (0 : Int32) = (0 : Int32) := by decide
      refine Gl.st (g' := (mkF m 164 #[.val (.int x0), .val (.int x1), .val (.int x2), .val (.long x3), .second, .val (.long x4), .second, .val (.int sz), .val (.int mm), .val (.long ss), .second, .val (.long tt), .second, .val (.int (0 : Int32)), .val (.int (1 : Int32)), .val (.int (-1 : Int32)), .val (.ref b2082), .val (.int (1 : Int32)), .unset] [])) (fun τ κ => XS.ifYes X2098.here hx rfl (pc0 := 147) (pc' := 164) rfl (hb hby at_147) rfl ((if0 _ _).trans (teq hc2102).1) (by decide) (by decide) κ) ?_
      refine Gl.st (g' := (mkF m 166 #[.val (.int x0), .val (.int x1), .val (.int x2), .val (.long x3), .second, .val (.long x4), .second, .val (.int sz), .val (.int mm), .val (.long ss), .second, .val (.long tt), .second, .val (.int (0 : Int32)), .val (.int (1 : Int32)), .val (.int (-1 : Int32)), .val (.ref b2082), .val (.int (1 : Int32)), .unset] [(.int (1 : Int32))])) (fun τ κ => XS.iload X2098.here hx rfl (hb hby at_164) rfl κ) ?_
      have hc2103 : ¬ ((1 : Int32) = (0 : Int32)) := by decide
      refine Gl.st (g' := (mkF m 169 #[.val (.int x0), .val (.int x1), .val (.int x2), .val (.long x3), .second, .val (.long x4), .second, .val (.int sz), .val (.int mm), .val (.long ss), .second, .val (.long tt), .second, .val (.int (0 : Int32)), .val (.int (1 : Int32)), .val (.int (-1 : Int32)), .val (.ref b2082), .val (.int (1 : Int32)), .unset] [])) (fun τ κ => XS.ifNo X2098.here hx rfl (hb hby at_166) rfl ((if0 _ _).trans (feq hc2103).1) κ) ?_
      refine Gl.st (g' := (mkF m 171 #[.val (.int x0), .val (.int x1), .val (.int x2), .val (.long x3), .second, .val (.long x4), .second, .val (.int sz), .val (.int mm), .val (.long ss), .second, .val (.long tt), .second, .val (.int (0 : Int32)), .val (.int (1 : Int32)), .val (.int (-1 : Int32)), .val (.ref b2082), .val (.int (1 : Int32)), .unset] [(.ref b2082)])) (fun τ κ => XS.aload X2098.here hx rfl (hb hby at_169) rfl rfl κ) ?_
      refine Gl.st (g' := (mkF m 173 #[.val (.int x0), .val (.int x1), .val (.int x2), .val (.long x3), .second, .val (.long x4), .second, .val (.int sz), .val (.int mm), .val (.long ss), .second, .val (.long tt), .second, .val (.int (0 : Int32)), .val (.int (1 : Int32)), .val (.int (-1 : Int32)), .val (.ref b2082), .val (.int (1 : Int32)), .unset] [(.int mm), (.ref b2082)])) (fun τ κ => XS.iload X2098.here hx rfl (hb hby at_171) rfl κ) ?_
      obtain ⟨cq2104, kq2104, q2104a, q2104b, q2104c⟩ := isOf hZ rfl E_2099
      obtain ⟨rv2104, _, ⟨T2104, L2104, k2104, n2104⟩, -, X2104, ⟨Lc2104, hQ2104, l2104, y2104, z2104⟩, st2104⟩ := X2098.virtualBack hx (y := (⟨"org/precedence/Takeover", "hasReported", "(I)Z"⟩ : MethodName)) (z := (⟨"org/precedence/Takeover", "hasReported", "(I)Z"⟩ : MethodName)) hown (mvT hZ (hw _ (List.mem_of_getElem? (i := 103) rfl))) (mvT hZ (hw _ (List.mem_of_getElem? (i := 104) rfl))) (notFace_of_selects (args := #[]) (mvT hZ (hw _ (List.mem_of_getElem? (i := 106) rfl)))) (mvT hZ (hw _ (List.mem_of_getElem? (i := 106) rfl))) (mvT hZ (hw _ (List.mem_of_getElem? (i := 105) rfl))) (by decide) (backOf (W := 0) (rm14 l Z a0 hw [] b2082 mm t2089 kk2089 sz vs2098 T2098.heap n0 Z2098 F_2100 V2098 hm.1 hm.2) hZ (hw _ (List.mem_of_getElem? (i := 107) rfl)) (hw _ (List.mem_of_getElem? (i := 4) rfl)) (by decide) (by decide)) q2104a q2104c (g := (mkF m 173 #[.val (.int x0), .val (.int x1), .val (.int x2), .val (.long x3), .second, .val (.long x4), .second, .val (.int sz), .val (.int mm), .val (.long ss), .second, .val (.long tt), .second, .val (.int (0 : Int32)), .val (.int (1 : Int32)), .val (.int (-1 : Int32)), .val (.ref b2082), .val (.int (1 : Int32)), .unset] [(.int mm), (.ref b2082)])) rfl (by rw [hml]; rfl) (Steps.refl _) (argsL := [(.int mm)]) (rest := []) (lenOf pd_7 rfl) rfl (by show 2 * 0 + _ ≤ _; exact Nat.le_of_eq rfl) (hb hby at_173) (fun _ _ => ⟨rfl, rfl, (by decide : 11 + 0 ≤ _), (by decide : 45 + 0 ≤ _)⟩)
      dsimp only [Pt.U, Pt.locs, Pt.cells, Pt.slots] at X2104 l2104 y2104 z2104 st2104 hQ2104
      subst l2104 y2104 z2104
      obtain ⟨rfl, N2104q, e2104⟩ := hQ2104
      have N2104 := Fr.app N2098 N2104q
      refine Gl.st (g' := (mkF m 176 #[.val (.int x0), .val (.int x1), .val (.int x2), .val (.long x3), .second, .val (.long x4), .second, .val (.int sz), .val (.int mm), .val (.long ss), .second, .val (.long tt), .second, .val (.int (0 : Int32)), .val (.int (1 : Int32)), .val (.int (-1 : Int32)), .val (.ref b2082), .val (.int (1 : Int32)), .unset] [(.int (own_rep vs2098 mm))])) (fun τ κ => st2104.trans κ) ?_
      have hc2105 : ¬ ((own_rep vs2098 mm) = (0 : Int32)) := own_r1 ((A2098 mm hm.1).trans (if_pos rfl)) hss
      refine Gl.st (g' := (mkF m 179 #[.val (.int x0), .val (.int x1), .val (.int x2), .val (.long x3), .second, .val (.long x4), .second, .val (.int sz), .val (.int mm), .val (.long ss), .second, .val (.long tt), .second, .val (.int (0 : Int32)), .val (.int (1 : Int32)), .val (.int (-1 : Int32)), .val (.ref b2082), .val (.int (1 : Int32)), .unset] [])) (fun τ κ => XS.ifNo X2104.here hx rfl (hb hby at_176) rfl ((if0 _ _).trans (feq hc2105).1) κ) ?_
      refine Gl.st (g' := (mkF m 181 #[.val (.int x0), .val (.int x1), .val (.int x2), .val (.long x3), .second, .val (.long x4), .second, .val (.int sz), .val (.int mm), .val (.long ss), .second, .val (.long tt), .second, .val (.int (0 : Int32)), .val (.int (1 : Int32)), .val (.int (-1 : Int32)), .val (.ref b2082), .val (.int (1 : Int32)), .unset] [(.ref b2082)])) (fun τ κ => XS.aload X2104.here hx rfl (hb hby at_179) rfl rfl κ) ?_
      refine Gl.st (g' := (mkF m 183 #[.val (.int x0), .val (.int x1), .val (.int x2), .val (.long x3), .second, .val (.long x4), .second, .val (.int sz), .val (.int mm), .val (.long ss), .second, .val (.long tt), .second, .val (.int (0 : Int32)), .val (.int (1 : Int32)), .val (.int (-1 : Int32)), .val (.ref b2082), .val (.int (1 : Int32)), .unset] [(.int mm), (.ref b2082)])) (fun τ κ => XS.iload X2104.here hx rfl (hb hby at_181) rfl κ) ?_
      obtain ⟨cq2106, kq2106, q2106a, q2106b, q2106c⟩ := isOf hZ e2104 E_2099
      obtain ⟨rv2106, _, ⟨T2106, L2106, k2106, n2106⟩, -, X2106, ⟨Lc2106, hQ2106, l2106, y2106, z2106⟩, st2106⟩ := X2104.virtualBack hx (y := (⟨"org/precedence/Takeover", "next", "(I)J"⟩ : MethodName)) (z := (⟨"org/precedence/Takeover", "next", "(I)J"⟩ : MethodName)) hown (mvT hZ (hw _ (List.mem_of_getElem? (i := 113) rfl))) (mvT hZ (hw _ (List.mem_of_getElem? (i := 114) rfl))) (notFace_of_selects (args := #[]) (mvT hZ (hw _ (List.mem_of_getElem? (i := 116) rfl)))) (mvT hZ (hw _ (List.mem_of_getElem? (i := 116) rfl))) (mvT hZ (hw _ (List.mem_of_getElem? (i := 115) rfl))) (by decide) (backOf (W := 0) (rm16 l Z a0 hw [] b2082 mm t2089 kk2089 sz vs2098 T2098.heap n0 Z2098 F_2100 V2098 hm.1 hm.2) hZ (hw _ (List.mem_of_getElem? (i := 117) rfl)) (hw _ (List.mem_of_getElem? (i := 4) rfl)) (by decide) (by decide)) q2106a q2106c (g := (mkF m 183 #[.val (.int x0), .val (.int x1), .val (.int x2), .val (.long x3), .second, .val (.long x4), .second, .val (.int sz), .val (.int mm), .val (.long ss), .second, .val (.long tt), .second, .val (.int (0 : Int32)), .val (.int (1 : Int32)), .val (.int (-1 : Int32)), .val (.ref b2082), .val (.int (1 : Int32)), .unset] [(.int mm), (.ref b2082)])) rfl (by rw [hml]; rfl) (Steps.refl _) (argsL := [(.int mm)]) (rest := []) (lenOf pd_11 rfl) rfl (by show 2 * 0 + _ ≤ _; exact Nat.le_of_eq rfl) (hb hby at_183) (fun _ _ => ⟨rfl, e2104, (by decide : 11 + 0 ≤ _), (by decide : 45 + 0 ≤ _)⟩)
      dsimp only [Pt.U, Pt.locs, Pt.cells, Pt.slots] at X2106 l2106 y2106 z2106 st2106 hQ2106
      subst l2106 y2106 z2106
      obtain ⟨rfl, N2106q, e2106⟩ := hQ2106
      have N2106 := Fr.app N2104 N2106q
      refine Gl.st (g' := (mkF m 186 #[.val (.int x0), .val (.int x1), .val (.int x2), .val (.long x3), .second, .val (.long x4), .second, .val (.int sz), .val (.int mm), .val (.long ss), .second, .val (.long tt), .second, .val (.int (0 : Int32)), .val (.int (1 : Int32)), .val (.int (-1 : Int32)), .val (.ref b2082), .val (.int (1 : Int32)), .unset] [(.long (own_at vs2098 mm))])) (fun τ κ => st2106.trans κ) ?_
      refine Gl.st (g' := (mkF m 188 #[.val (.int x0), .val (.int x1), .val (.int x2), .val (.long x3), .second, .val (.long x4), .second, .val (.int sz), .val (.int mm), .val (.long ss), .second, .val (.long tt), .second, .val (.int (0 : Int32)), .val (.int (1 : Int32)), .val (.int (-1 : Int32)), .val (.ref b2082), .val (.int (1 : Int32)), .unset] [(.long ss), (.long (own_at vs2098 mm))])) (fun τ κ => XS.lload X2106.here hx rfl (hb hby at_186) rfl κ) ?_
      refine Gl.st (g' := (mkF m 189 #[.val (.int x0), .val (.int x1), .val (.int x2), .val (.long x3), .second, .val (.long x4), .second, .val (.int sz), .val (.int mm), .val (.long ss), .second, .val (.long tt), .second, .val (.int (0 : Int32)), .val (.int (1 : Int32)), .val (.int (-1 : Int32)), .val (.ref b2082), .val (.int (1 : Int32)), .unset] [(.int (lcmpW (own_at vs2098 mm) ss))])) (fun τ κ => XS.lcmp X2106.here hx rfl (hb hby at_188) rfl κ) ?_
      have hc2107 : (own_at vs2098 mm) = ss := ((A2098 mm hm.1).trans (if_pos rfl))
      refine Gl.st (g' := (mkF m 192 #[.val (.int x0), .val (.int x1), .val (.int x2), .val (.long x3), .second, .val (.long x4), .second, .val (.int sz), .val (.int mm), .val (.long ss), .second, .val (.long tt), .second, .val (.int (0 : Int32)), .val (.int (1 : Int32)), .val (.int (-1 : Int32)), .val (.ref b2082), .val (.int (1 : Int32)), .unset] [])) (fun τ κ => XS.ifNo X2106.here hx rfl (hb hby at_189) rfl ((if0 _ _).trans (teq ((lw_eq (own_at vs2098 mm) ss).mpr hc2107)).2) κ) ?_
      refine Gl.st (g' := (mkF m 193 #[.val (.int x0), .val (.int x1), .val (.int x2), .val (.long x3), .second, .val (.long x4), .second, .val (.int sz), .val (.int mm), .val (.long ss), .second, .val (.long tt), .second, .val (.int (0 : Int32)), .val (.int (1 : Int32)), .val (.int (-1 : Int32)), .val (.ref b2082), .val (.int (1 : Int32)), .unset] [(.int (1 : Int32))])) (fun τ κ => XS.iconst X2106.here hx rfl (hb hby at_192) κ) ?_
      refine Gl.st (g' := (mkF m 197 #[.val (.int x0), .val (.int x1), .val (.int x2), .val (.long x3), .second, .val (.long x4), .second, .val (.int sz), .val (.int mm), .val (.long ss), .second, .val (.long tt), .second, .val (.int (0 : Int32)), .val (.int (1 : Int32)), .val (.int (-1 : Int32)), .val (.ref b2082), .val (.int (1 : Int32)), .unset] [(.int (1 : Int32))])) (fun τ κ => XS.goto X2106.here hx rfl (pc0 := 193) (pc' := 197) rfl (hb hby at_193) (by decide) (by decide) κ) ?_
      refine Gl.st (g' := (mkF m 199 #[.val (.int x0), .val (.int x1), .val (.int x2), .val (.long x3), .second, .val (.long x4), .second, .val (.int sz), .val (.int mm), .val (.long ss), .second, .val (.long tt), .second, .val (.int (0 : Int32)), .val (.int (1 : Int32)), .val (.int (-1 : Int32)), .val (.ref b2082), .val (.int (1 : Int32)), .val (.int (1 : Int32))] [])) (fun τ κ => XS.istore X2106.here hx rfl (hb hby at_197) rfl (l' := #[.val (.int x0), .val (.int x1), .val (.int x2), .val (.long x3), .second, .val (.long x4), .second, .val (.int sz), .val (.int mm), .val (.long ss), .second, .val (.long tt), .second, .val (.int (0 : Int32)), .val (.int (1 : Int32)), .val (.int (-1 : Int32)), .val (.ref b2082), .val (.int (1 : Int32)), .val (.int (1 : Int32))]) rfl κ) ?_
      refine Gl.st (g' := (mkF m 201 #[.val (.int x0), .val (.int x1), .val (.int x2), .val (.long x3), .second, .val (.long x4), .second, .val (.int sz), .val (.int mm), .val (.long ss), .second, .val (.long tt), .second, .val (.int (0 : Int32)), .val (.int (1 : Int32)), .val (.int (-1 : Int32)), .val (.ref b2082), .val (.int (1 : Int32)), .val (.int (1 : Int32))] [(.int (0 : Int32))])) (fun τ κ => XS.iload X2106.here hx rfl (hb hby at_199) rfl κ) ?_
      have hc2108 : (0 : Int32) = (0 : Int32) := by decide
      refine Gl.st (g' := (mkF m 239 #[.val (.int x0), .val (.int x1), .val (.int x2), .val (.long x3), .second, .val (.long x4), .second, .val (.int sz), .val (.int mm), .val (.long ss), .second, .val (.long tt), .second, .val (.int (0 : Int32)), .val (.int (1 : Int32)), .val (.int (-1 : Int32)), .val (.ref b2082), .val (.int (1 : Int32)), .val (.int (1 : Int32))] [])) (fun τ κ => XS.ifYes X2106.here hx rfl (pc0 := 201) (pc' := 239) rfl (hb hby at_201) rfl ((if0 _ _).trans (teq hc2108).1) (by decide) (by decide) κ) ?_
      have hS := own_hs1 (sz := sz) hss (fun ii a b => by rw [A2098 ii a, A0 ii a b])
      refine own_tail hx hZ hw hby hml hown X2106 e2106 N2106 Z2098 E_2099 F_2100 V2098 hS ?_
      intro T' h' locs' X' e' N'
      refine Gl.st (g' := (mkF m 349 #[.val (.int x0), .val (.int x1), .val (.int x2), .val (.long x3), .second, .val (.long x4), .second, .val (.int sz), .val (.int mm), .val (.long ss), .second, .val (.long tt), .second, .val (.int (0 : Int32)), .val (.int (1 : Int32)), .val (.int (-1 : Int32)), .val (.ref b2082), .val (.int (1 : Int32)), .val (.int (1 : Int32))] [(.int (1 : Int32))])) (fun τ κ => XS.iload X'.here hx rfl (hb hby at_347) rfl κ) ?_
      exact Gl.ret (v := some (.int (1 : Int32))) X' Bd.notSynchronized (fun h => by rw [Bd.returns] at h; cases h) e' (fun fs hr => retN X' hx (t := .boolean) Bd.returns (by simp) (hb hby at_349) hr) (by decide) (by decide) ⟨rfl, N'⟩
  · -- pc 34: not (x2 &&& (1 : Int32)) = (0 : Int32)
    refine Gl.st (g' := (mkF m 37 #[.val (.int x0), .val (.int x1), .val (.int x2), .val (.long x3), .second, .val (.long x4), .second, .val (.int sz), .val (.int mm), .val (.long ss), .second, .val (.long tt), .second, .unset, .unset, .unset, .unset, .unset, .unset] [])) (fun τ κ => XS.ifNo X0.here hx rfl (hb hby at_34) rfl ((if0 _ _).trans (feq hc2051).1) κ) ?_
    refine Gl.st (g' := (mkF m 39 #[.val (.int x0), .val (.int x1), .val (.int x2), .val (.long x3), .second, .val (.long x4), .second, .val (.int sz), .val (.int mm), .val (.long ss), .second, .val (.long tt), .second, .unset, .unset, .unset, .unset, .unset, .unset] [(.int sz)])) (fun τ κ => XS.iload X0.here hx rfl (hb hby at_37) rfl κ) ?_
    refine Gl.st (g' := (mkF m 40 #[.val (.int x0), .val (.int x1), .val (.int x2), .val (.long x3), .second, .val (.long x4), .second, .val (.int sz), .val (.int mm), .val (.long ss), .second, .val (.long tt), .second, .unset, .unset, .unset, .unset, .unset, .unset] [(.int (1 : Int32)), (.int sz)])) (fun τ κ => XS.iconst X0.here hx rfl (hb hby at_39) κ) ?_
    by_cases hc2109 : (1 : Int32) < sz
    · -- pc 40: (1 : Int32) < sz
      refine Gl.st (g' := (mkF m 43 #[.val (.int x0), .val (.int x1), .val (.int x2), .val (.long x3), .second, .val (.long x4), .second, .val (.int sz), .val (.int mm), .val (.long ss), .second, .val (.long tt), .second, .unset, .unset, .unset, .unset, .unset, .unset] [])) (fun τ κ => XS.icmpNo X0.here hx rfl (hb hby at_40) rfl (tlt hc2109).2.2.2 κ) ?_
      refine Gl.st (g' := (mkF m 44 #[.val (.int x0), .val (.int x1), .val (.int x2), .val (.long x3), .second, .val (.long x4), .second, .val (.int sz), .val (.int mm), .val (.long ss), .second, .val (.long tt), .second, .unset, .unset, .unset, .unset, .unset, .unset] [(.int (1 : Int32))])) (fun τ κ => XS.iconst X0.here hx rfl (hb hby at_43) κ) ?_
      refine Gl.st (g' := (mkF m 48 #[.val (.int x0), .val (.int x1), .val (.int x2), .val (.long x3), .second, .val (.long x4), .second, .val (.int sz), .val (.int mm), .val (.long ss), .second, .val (.long tt), .second, .unset, .unset, .unset, .unset, .unset, .unset] [(.int (1 : Int32))])) (fun τ κ => XS.goto X0.here hx rfl (pc0 := 44) (pc' := 48) rfl (hb hby at_44) (by decide) (by decide) κ) ?_
      refine Gl.st (g' := (mkF m 50 #[.val (.int x0), .val (.int x1), .val (.int x2), .val (.long x3), .second, .val (.long x4), .second, .val (.int sz), .val (.int mm), .val (.long ss), .second, .val (.long tt), .second, .val (.int (1 : Int32)), .unset, .unset, .unset, .unset, .unset] [])) (fun τ κ => XS.istore X0.here hx rfl (hb hby at_48) rfl (l' := #[.val (.int x0), .val (.int x1), .val (.int x2), .val (.long x3), .second, .val (.long x4), .second, .val (.int sz), .val (.int mm), .val (.long ss), .second, .val (.long tt), .second, .val (.int (1 : Int32)), .unset, .unset, .unset, .unset, .unset]) rfl κ) ?_
      refine Gl.st (g' := (mkF m 51 #[.val (.int x0), .val (.int x1), .val (.int x2), .val (.long x3), .second, .val (.long x4), .second, .val (.int sz), .val (.int mm), .val (.long ss), .second, .val (.long tt), .second, .val (.int (1 : Int32)), .unset, .unset, .unset, .unset, .unset] [(.int x2)])) (fun τ κ => XS.iloadN X0.here hx rfl (hb hby at_50) rfl κ) ?_
      refine Gl.st (g' := (mkF m 52 #[.val (.int x0), .val (.int x1), .val (.int x2), .val (.long x3), .second, .val (.long x4), .second, .val (.int sz), .val (.int mm), .val (.long ss), .second, .val (.long tt), .second, .val (.int (1 : Int32)), .unset, .unset, .unset, .unset, .unset] [(.int (2 : Int32)), (.int x2)])) (fun τ κ => XS.iconst X0.here hx rfl (hb hby at_51) κ) ?_
      refine Gl.st (g' := (mkF m 53 #[.val (.int x0), .val (.int x1), .val (.int x2), .val (.long x3), .second, .val (.long x4), .second, .val (.int sz), .val (.int mm), .val (.long ss), .second, .val (.long tt), .second, .val (.int (1 : Int32)), .unset, .unset, .unset, .unset, .unset] [(.int (x2 &&& (2 : Int32)))])) (fun τ κ => XS.iand X0.here hx rfl (hb hby at_52) rfl κ) ?_
      by_cases hc2110 : (x2 &&& (2 : Int32)) = (0 : Int32)
      · -- pc 53: (x2 &&& (2 : Int32)) = (0 : Int32)
        refine Gl.st (g' := (mkF m 60 #[.val (.int x0), .val (.int x1), .val (.int x2), .val (.long x3), .second, .val (.long x4), .second, .val (.int sz), .val (.int mm), .val (.long ss), .second, .val (.long tt), .second, .val (.int (1 : Int32)), .unset, .unset, .unset, .unset, .unset] [])) (fun τ κ => XS.ifYes X0.here hx rfl (pc0 := 53) (pc' := 60) rfl (hb hby at_53) rfl ((if0 _ _).trans (teq hc2110).1) (by decide) (by decide) κ) ?_
        refine Gl.st (g' := (mkF m 61 #[.val (.int x0), .val (.int x1), .val (.int x2), .val (.long x3), .second, .val (.long x4), .second, .val (.int sz), .val (.int mm), .val (.long ss), .second, .val (.long tt), .second, .val (.int (1 : Int32)), .unset, .unset, .unset, .unset, .unset] [(.int (0 : Int32))])) (fun τ κ => XS.iconst X0.here hx rfl (hb hby at_60) κ) ?_
        refine Gl.st (g' := (mkF m 63 #[.val (.int x0), .val (.int x1), .val (.int x2), .val (.long x3), .second, .val (.long x4), .second, .val (.int sz), .val (.int mm), .val (.long ss), .second, .val (.long tt), .second, .val (.int (1 : Int32)), .val (.int (0 : Int32)), .unset, .unset, .unset, .unset] [])) (fun τ κ => XS.istore X0.here hx rfl (hb hby at_61) rfl (l' := #[.val (.int x0), .val (.int x1), .val (.int x2), .val (.long x3), .second, .val (.long x4), .second, .val (.int sz), .val (.int mm), .val (.long ss), .second, .val (.long tt), .second, .val (.int (1 : Int32)), .val (.int (0 : Int32)), .unset, .unset, .unset, .unset]) rfl κ) ?_
        refine Gl.st (g' := (mkF m 64 #[.val (.int x0), .val (.int x1), .val (.int x2), .val (.long x3), .second, .val (.long x4), .second, .val (.int sz), .val (.int mm), .val (.long ss), .second, .val (.long tt), .second, .val (.int (1 : Int32)), .val (.int (0 : Int32)), .unset, .unset, .unset, .unset] [(.int (-1 : Int32))])) (fun τ κ => XS.iconst X0.here hx rfl (hb hby at_63) κ) ?_
        refine Gl.st (g' := (mkF m 66 #[.val (.int x0), .val (.int x1), .val (.int x2), .val (.long x3), .second, .val (.long x4), .second, .val (.int sz), .val (.int mm), .val (.long ss), .second, .val (.long tt), .second, .val (.int (1 : Int32)), .val (.int (0 : Int32)), .val (.int (-1 : Int32)), .unset, .unset, .unset] [])) (fun τ κ => XS.istore X0.here hx rfl (hb hby at_64) rfl (l' := #[.val (.int x0), .val (.int x1), .val (.int x2), .val (.long x3), .second, .val (.long x4), .second, .val (.int sz), .val (.int mm), .val (.long ss), .second, .val (.long tt), .second, .val (.int (1 : Int32)), .val (.int (0 : Int32)), .val (.int (-1 : Int32)), .unset, .unset, .unset]) rfl κ) ?_
        refine Gl.st (g' := (mkF m 68 #[.val (.int x0), .val (.int x1), .val (.int x2), .val (.long x3), .second, .val (.long x4), .second, .val (.int sz), .val (.int mm), .val (.long ss), .second, .val (.long tt), .second, .val (.int (1 : Int32)), .val (.int (0 : Int32)), .val (.int (-1 : Int32)), .unset, .unset, .unset] [(.int (1 : Int32))])) (fun τ κ => XS.iload X0.here hx rfl (hb hby at_66) rfl κ) ?_
        have hc2111 : ¬ ((1 : Int32) = (0 : Int32)) := by decide
        refine Gl.st (g' := (mkF m 71 #[.val (.int x0), .val (.int x1), .val (.int x2), .val (.long x3), .second, .val (.long x4), .second, .val (.int sz), .val (.int mm), .val (.long ss), .second, .val (.long tt), .second, .val (.int (1 : Int32)), .val (.int (0 : Int32)), .val (.int (-1 : Int32)), .unset, .unset, .unset] [])) (fun τ κ => XS.ifNo X0.here hx rfl (hb hby at_68) rfl ((if0 _ _).trans (feq hc2111).1) κ) ?_
        refine Gl.st (g' := (mkF m 73 #[.val (.int x0), .val (.int x1), .val (.int x2), .val (.long x3), .second, .val (.long x4), .second, .val (.int sz), .val (.int mm), .val (.long ss), .second, .val (.long tt), .second, .val (.int (1 : Int32)), .val (.int (0 : Int32)), .val (.int (-1 : Int32)), .unset, .unset, .unset] [(.int mm)])) (fun τ κ => XS.iload X0.here hx rfl (hb hby at_71) rfl κ) ?_
        refine Gl.st (g' := (mkF m 74 #[.val (.int x0), .val (.int x1), .val (.int x2), .val (.long x3), .second, .val (.long x4), .second, .val (.int sz), .val (.int mm), .val (.long ss), .second, .val (.long tt), .second, .val (.int (1 : Int32)), .val (.int (0 : Int32)), .val (.int (-1 : Int32)), .unset, .unset, .unset] [(.int (1 : Int32)), (.int mm)])) (fun τ κ => XS.iconst X0.here hx rfl (hb hby at_73) κ) ?_
        refine Gl.st (g' := (mkF m 75 #[.val (.int x0), .val (.int x1), .val (.int x2), .val (.long x3), .second, .val (.long x4), .second, .val (.int sz), .val (.int mm), .val (.long ss), .second, .val (.long tt), .second, .val (.int (1 : Int32)), .val (.int (0 : Int32)), .val (.int (-1 : Int32)), .unset, .unset, .unset] [(.int (mm + (1 : Int32)))])) (fun τ κ => XS.iadd X0.here hx rfl (hb hby at_74) rfl κ) ?_
        refine Gl.st (g' := (mkF m 76 #[.val (.int x0), .val (.int x1), .val (.int x2), .val (.long x3), .second, .val (.long x4), .second, .val (.int sz), .val (.int mm), .val (.long ss), .second, .val (.long tt), .second, .val (.int (1 : Int32)), .val (.int (0 : Int32)), .val (.int (-1 : Int32)), .unset, .unset, .unset] [(.int x2), (.int (mm + (1 : Int32)))])) (fun τ κ => XS.iloadN X0.here hx rfl (hb hby at_75) rfl κ) ?_
        refine Gl.st (g' := (mkF m 77 #[.val (.int x0), .val (.int x1), .val (.int x2), .val (.long x3), .second, .val (.long x4), .second, .val (.int sz), .val (.int mm), .val (.long ss), .second, .val (.long tt), .second, .val (.int (1 : Int32)), .val (.int (0 : Int32)), .val (.int (-1 : Int32)), .unset, .unset, .unset] [(.int (2 : Int32)), (.int x2), (.int (mm + (1 : Int32)))])) (fun τ κ => XS.iconst X0.here hx rfl (hb hby at_76) κ) ?_
        refine Gl.st (g' := (mkF m 78 #[.val (.int x0), .val (.int x1), .val (.int x2), .val (.long x3), .second, .val (.long x4), .second, .val (.int sz), .val (.int mm), .val (.long ss), .second, .val (.long tt), .second, .val (.int (1 : Int32)), .val (.int (0 : Int32)), .val (.int (-1 : Int32)), .unset, .unset, .unset] [(.int ((x2.toUInt32 >>> ((2 : Int32) &&& 31).toUInt32).toInt32)), (.int (mm + (1 : Int32)))])) (fun τ κ => XS.iushr X0.here hx rfl (hb hby at_77) rfl κ) ?_
        refine Gl.st (g' := (mkF m 80 #[.val (.int x0), .val (.int x1), .val (.int x2), .val (.long x3), .second, .val (.long x4), .second, .val (.int sz), .val (.int mm), .val (.long ss), .second, .val (.long tt), .second, .val (.int (1 : Int32)), .val (.int (0 : Int32)), .val (.int (-1 : Int32)), .unset, .unset, .unset] [(.int sz), (.int ((x2.toUInt32 >>> ((2 : Int32) &&& 31).toUInt32).toInt32)), (.int (mm + (1 : Int32)))])) (fun τ κ => XS.iload X0.here hx rfl (hb hby at_78) rfl κ) ?_
        refine Gl.st (g' := (mkF m 81 #[.val (.int x0), .val (.int x1), .val (.int x2), .val (.long x3), .second, .val (.long x4), .second, .val (.int sz), .val (.int mm), .val (.long ss), .second, .val (.long tt), .second, .val (.int (1 : Int32)), .val (.int (0 : Int32)), .val (.int (-1 : Int32)), .unset, .unset, .unset] [(.int (1 : Int32)), (.int sz), (.int ((x2.toUInt32 >>> ((2 : Int32) &&& 31).toUInt32).toInt32)), (.int (mm + (1 : Int32)))])) (fun τ κ => XS.iconst X0.here hx rfl (hb hby at_80) κ) ?_
        refine Gl.st (g' := (mkF m 82 #[.val (.int x0), .val (.int x1), .val (.int x2), .val (.long x3), .second, .val (.long x4), .second, .val (.int sz), .val (.int mm), .val (.long ss), .second, .val (.long tt), .second, .val (.int (1 : Int32)), .val (.int (0 : Int32)), .val (.int (-1 : Int32)), .unset, .unset, .unset] [(.int (sz - (1 : Int32))), (.int ((x2.toUInt32 >>> ((2 : Int32) &&& 31).toUInt32).toInt32)), (.int (mm + (1 : Int32)))])) (fun τ κ => XS.isub X0.here hx rfl (hb hby at_81) rfl κ) ?_
        refine Gl.st (g' := (mkF m 83 #[.val (.int x0), .val (.int x1), .val (.int x2), .val (.long x3), .second, .val (.long x4), .second, .val (.int sz), .val (.int mm), .val (.long ss), .second, .val (.long tt), .second, .val (.int (1 : Int32)), .val (.int (0 : Int32)), .val (.int (-1 : Int32)), .unset, .unset, .unset] [(.int (((x2.toUInt32 >>> ((2 : Int32) &&& 31).toUInt32).toInt32) % (sz - (1 : Int32)))), (.int (mm + (1 : Int32)))])) (fun τ κ => iremM (g := (mkF m 82 #[.val (.int x0), .val (.int x1), .val (.int x2), .val (.long x3), .second, .val (.long x4), .second, .val (.int sz), .val (.int mm), .val (.long ss), .second, .val (.long tt), .second, .val (.int (1 : Int32)), .val (.int (0 : Int32)), .val (.int (-1 : Int32)), .unset, .unset, .unset] [(.int (sz - (1 : Int32))), (.int ((x2.toUInt32 >>> ((2 : Int32) &&& 31).toUInt32).toInt32)), (.int (mm + (1 : Int32)))])) X0 hx rfl (hb hby at_82) rfl (own_nz (by have := own_d hc2109 bz.2; have q := hc2109; rw [Int32.lt_iff_toInt_lt, show (1 : Int32).toInt = 1 from rfl] at q; omega)) κ) ?_
        refine Gl.st (g' := (mkF m 84 #[.val (.int x0), .val (.int x1), .val (.int x2), .val (.long x3), .second, .val (.long x4), .second, .val (.int sz), .val (.int mm), .val (.long ss), .second, .val (.long tt), .second, .val (.int (1 : Int32)), .val (.int (0 : Int32)), .val (.int (-1 : Int32)), .unset, .unset, .unset] [(.int ((mm + (1 : Int32)) + (((x2.toUInt32 >>> ((2 : Int32) &&& 31).toUInt32).toInt32) % (sz - (1 : Int32)))))])) (fun τ κ => XS.iadd X0.here hx rfl (hb hby at_83) rfl κ) ?_
        refine Gl.st (g' := (mkF m 86 #[.val (.int x0), .val (.int x1), .val (.int x2), .val (.long x3), .second, .val (.long x4), .second, .val (.int sz), .val (.int mm), .val (.long ss), .second, .val (.long tt), .second, .val (.int (1 : Int32)), .val (.int (0 : Int32)), .val (.int (-1 : Int32)), .unset, .unset, .unset] [(.int sz), (.int ((mm + (1 : Int32)) + (((x2.toUInt32 >>> ((2 : Int32) &&& 31).toUInt32).toInt32) % (sz - (1 : Int32)))))])) (fun τ κ => XS.iload X0.here hx rfl (hb hby at_84) rfl κ) ?_
        refine Gl.st (g' := (mkF m 87 #[.val (.int x0), .val (.int x1), .val (.int x2), .val (.long x3), .second, .val (.long x4), .second, .val (.int sz), .val (.int mm), .val (.long ss), .second, .val (.long tt), .second, .val (.int (1 : Int32)), .val (.int (0 : Int32)), .val (.int (-1 : Int32)), .unset, .unset, .unset] [(.int (((mm + (1 : Int32)) + (((x2.toUInt32 >>> ((2 : Int32) &&& 31).toUInt32).toInt32) % (sz - (1 : Int32)))) % sz))])) (fun τ κ => iremM (g := (mkF m 86 #[.val (.int x0), .val (.int x1), .val (.int x2), .val (.long x3), .second, .val (.long x4), .second, .val (.int sz), .val (.int mm), .val (.long ss), .second, .val (.long tt), .second, .val (.int (1 : Int32)), .val (.int (0 : Int32)), .val (.int (-1 : Int32)), .unset, .unset, .unset] [(.int sz), (.int ((mm + (1 : Int32)) + (((x2.toUInt32 >>> ((2 : Int32) &&& 31).toUInt32).toInt32) % (sz - (1 : Int32)))))])) X0 hx rfl (hb hby at_86) rfl (own_nz bz.1) κ) ?_
        have ho := own_o (cc := x2) hc2109 bz.2 hm.1 hm.2
        generalize (((mm + (1 : Int32)) + (((x2.toUInt32 >>> ((2 : Int32) &&& 31).toUInt32).toInt32) % (sz - (1 : Int32)))) % sz) = oo at ho ⊢
        refine Gl.st (g' := (mkF m 89 #[.val (.int x0), .val (.int x1), .val (.int x2), .val (.long x3), .second, .val (.long x4), .second, .val (.int sz), .val (.int mm), .val (.long ss), .second, .val (.long tt), .second, .val (.int (1 : Int32)), .val (.int (0 : Int32)), .val (.int oo), .unset, .unset, .unset] [])) (fun τ κ => XS.istore X0.here hx rfl (hb hby at_87) rfl (l' := #[.val (.int x0), .val (.int x1), .val (.int x2), .val (.long x3), .second, .val (.long x4), .second, .val (.int sz), .val (.int mm), .val (.long ss), .second, .val (.long tt), .second, .val (.int (1 : Int32)), .val (.int (0 : Int32)), .val (.int oo), .unset, .unset, .unset]) rfl κ) ?_
        obtain ⟨T2112, h2112, X2112, e2112, E2112, A2112, D2112, -, st2112⟩ := newO X0 hx hZ hown (hw _ (List.mem_of_getElem? (i := 2) rfl)) (hw _ (List.mem_of_getElem? (i := 3) rfl)) (hw _ (List.mem_of_getElem? (i := 4) rfl)) e0 (g := (mkF m 89 #[.val (.int x0), .val (.int x1), .val (.int x2), .val (.long x3), .second, .val (.long x4), .second, .val (.int sz), .val (.int mm), .val (.long ss), .second, .val (.long tt), .second, .val (.int (1 : Int32)), .val (.int (0 : Int32)), .val (.int oo), .unset, .unset, .unset] [])) rfl (hb hby at_89) (by decide) (by decide)
        obtain ⟨b2112, g2112⟩ : ∃ z, z = h0.size := ⟨_, rfl⟩
        rw [← g2112] at A2112 D2112 st2112
        have ne_de_b2112 : de ≠ b2112 := Nat.ne_of_lt (Nat.lt_of_lt_of_le V0.lt (Nat.le_of_eq g2112.symm))
        have S_2113 := S0.ext E2112
        have V_2114 := V0.ext E2112
        have g_b2112 : n0 ≤ b2112 := Nat.le_trans Z0 (Nat.le_of_eq g2112.symm)
        have sz_b2112 : h0.size ≤ b2112 := Nat.le_trans (Keep.refl h0 []).1 (Nat.le_of_eq g2112.symm)
        have Z2112 : n0 ≤ h2112.size := Nat.le_trans Z0 E2112.1
        have K2112 : Keep h0 h2112 [] := (Keep.refl h0 []).ext E2112
        have F_2115 : Fld Z h2112 b2112 "org/precedence/Takeover" "stamped" "Ljava/util/TreeMap;" .null := D2112 (Or.inr (hw _ (List.mem_of_getElem? (i := 31) rfl))) (ty := (.object "java/util/TreeMap")) (by decide)
        have F_2116 : Fld Z h2112 b2112 "org/precedence/Takeover" "unstamped" "Ljava/util/List;" .null := D2112 (Or.inr (hw _ (List.mem_of_getElem? (i := 57) rfl))) (ty := (.object "java/util/List")) (by decide)
        have F_2117 : Fld Z h2112 b2112 "org/precedence/Takeover" "submitted" "Ljava/util/List;" .null := D2112 (Or.inr (hw _ (List.mem_of_getElem? (i := 59) rfl))) (ty := (.object "java/util/List")) (by decide)
        have F_2118 : Fld Z h2112 b2112 "org/precedence/Takeover" "next" "[J" .null := D2112 (Or.inr (hw _ (List.mem_of_getElem? (i := 62) rfl))) (ty := (.array .long)) (by decide)
        refine Gl.st (g' := (mkF m 92 #[.val (.int x0), .val (.int x1), .val (.int x2), .val (.long x3), .second, .val (.long x4), .second, .val (.int sz), .val (.int mm), .val (.long ss), .second, .val (.long tt), .second, .val (.int (1 : Int32)), .val (.int (0 : Int32)), .val (.int oo), .unset, .unset, .unset] [(.ref b2112)])) (fun τ κ => st2112 _ κ) ?_
        refine Gl.st (g' := (mkF m 93 #[.val (.int x0), .val (.int x1), .val (.int x2), .val (.long x3), .second, .val (.long x4), .second, .val (.int sz), .val (.int mm), .val (.long ss), .second, .val (.long tt), .second, .val (.int (1 : Int32)), .val (.int (0 : Int32)), .val (.int oo), .unset, .unset, .unset] [(.ref b2112), (.ref b2112)])) (fun τ κ => XS.dup X2112.here hx rfl (hb hby at_92) rfl rfl κ) ?_
        refine Gl.st (g' := (mkF m 95 #[.val (.int x0), .val (.int x1), .val (.int x2), .val (.long x3), .second, .val (.long x4), .second, .val (.int sz), .val (.int mm), .val (.long ss), .second, .val (.long tt), .second, .val (.int (1 : Int32)), .val (.int (0 : Int32)), .val (.int oo), .unset, .unset, .unset] [(.int sz), (.ref b2112), (.ref b2112)])) (fun τ κ => XS.iload X2112.here hx rfl (hb hby at_93) rfl κ) ?_
        obtain ⟨rv2119, _, ⟨T2119, L2119, k2119, n2119⟩, -, X2119, ⟨Lc2119, hQ2119, l2119, y2119, z2119⟩, st2119⟩ := X2112.specialBack hx (y := (⟨"org/precedence/Takeover", "<init>", "(I)V"⟩ : MethodName)) rfl hown (mvT hZ (hw _ (List.mem_of_getElem? (i := 5) rfl))) (mvT hZ (hw _ (List.mem_of_getElem? (i := 6) rfl))) (mvT hZ (hw _ (List.mem_of_getElem? (i := 7) rfl))) (by decide) (backOf (W := 1) (rm_initS l Z a0 hw [] b2112 sz de kd h2112 n0 Z2112 A2112 g_b2112 S_2113 V_2114 (Ne.symm ne_de_b2112) F_2115 F_2116 F_2117 F_2118 hsz) hZ (hw _ (List.mem_of_getElem? (i := 7) rfl)) (hw _ (List.mem_of_getElem? (i := 4) rfl)) (by decide) (by decide)) (g := (mkF m 95 #[.val (.int x0), .val (.int x1), .val (.int x2), .val (.long x3), .second, .val (.long x4), .second, .val (.int sz), .val (.int mm), .val (.long ss), .second, .val (.long tt), .second, .val (.int (1 : Int32)), .val (.int (0 : Int32)), .val (.int oo), .unset, .unset, .unset] [(.int sz), (.ref b2112), (.ref b2112)])) rfl (by rw [hml]; rfl) (Steps.refl _) (a := b2112) (argsL := [(.int sz)]) (rest := [(.ref b2112)]) (lenOf pd_9 rfl) rfl (by show 2 * 0 + _ ≤ _; exact Nat.le_of_eq rfl) (hb hby at_95) (fun _ _ => ⟨rfl, e2112, (by decide : 1 + 10 ≤ _), (by decide : 4 + 41 ≤ _)⟩)
        dsimp only [Pt.U, Pt.locs, Pt.cells, Pt.slots] at X2119 l2119 y2119 z2119 st2119 hQ2119
        subst l2119 y2119 z2119
        obtain ⟨t2119, kk2119, vs2119, rfl, N2119q, Kc2119, s2119, Ec2119, FN2119, V2119, hv2119⟩ := hQ2119
        have ne_de_t2119 : de ≠ t2119 := Nat.ne_of_lt (Nat.lt_of_lt_of_le V_2114.lt s2119)
        have ne_b2112_t2119 : b2112 ≠ t2119 := Nat.ne_of_lt (Nat.lt_of_lt_of_le A2112.lt s2119)
        have g_t2119 : n0 ≤ t2119 := Nat.le_trans Z2112 s2119
        have sz_t2119 : h0.size ≤ t2119 := Nat.le_trans K2112.1 s2119
        have E_2120 := A2112.keep Kc2119
        have N2119 := Fr.app N0 N2119q
        have Z2119 : n0 ≤ T2119.heap.size := Nat.le_trans Z2112 Kc2119.1
        have K2119 : Keep h0 T2119.heap [] := K2112.trans Kc2119 (allS (Or.inr sz_b2112) all0)
        have A0 := own_A0 hv2119
        refine Gl.st (g' := (mkF m 98 #[.val (.int x0), .val (.int x1), .val (.int x2), .val (.long x3), .second, .val (.long x4), .second, .val (.int sz), .val (.int mm), .val (.long ss), .second, .val (.long tt), .second, .val (.int (1 : Int32)), .val (.int (0 : Int32)), .val (.int oo), .unset, .unset, .unset] [(.ref b2112)])) (fun τ κ => st2119.trans κ) ?_
        refine Gl.st (g' := (mkF m 100 #[.val (.int x0), .val (.int x1), .val (.int x2), .val (.long x3), .second, .val (.long x4), .second, .val (.int sz), .val (.int mm), .val (.long ss), .second, .val (.long tt), .second, .val (.int (1 : Int32)), .val (.int (0 : Int32)), .val (.int oo), .val (.ref b2112), .unset, .unset] [])) (fun τ κ => XS.astore X2119.here hx rfl (hb hby at_98) rfl rfl (l' := #[.val (.int x0), .val (.int x1), .val (.int x2), .val (.long x3), .second, .val (.long x4), .second, .val (.int sz), .val (.int mm), .val (.long ss), .second, .val (.long tt), .second, .val (.int (1 : Int32)), .val (.int (0 : Int32)), .val (.int oo), .val (.ref b2112), .unset, .unset]) rfl κ) ?_
        refine Gl.st (g' := (mkF m 102 #[.val (.int x0), .val (.int x1), .val (.int x2), .val (.long x3), .second, .val (.long x4), .second, .val (.int sz), .val (.int mm), .val (.long ss), .second, .val (.long tt), .second, .val (.int (1 : Int32)), .val (.int (0 : Int32)), .val (.int oo), .val (.ref b2112), .unset, .unset] [(.int (1 : Int32))])) (fun τ κ => XS.iload X2119.here hx rfl (hb hby at_100) rfl κ) ?_
        have hc2125 : ¬ ((1 : Int32) = (0 : Int32)) := by decide
        refine Gl.st (g' := (mkF m 105 #[.val (.int x0), .val (.int x1), .val (.int x2), .val (.long x3), .second, .val (.long x4), .second, .val (.int sz), .val (.int mm), .val (.long ss), .second, .val (.long tt), .second, .val (.int (1 : Int32)), .val (.int (0 : Int32)), .val (.int oo), .val (.ref b2112), .unset, .unset] [])) (fun τ κ => XS.ifNo X2119.here hx rfl (hb hby at_102) rfl ((if0 _ _).trans (feq hc2125).1) κ) ?_
        refine Gl.st (g' := (mkF m 107 #[.val (.int x0), .val (.int x1), .val (.int x2), .val (.long x3), .second, .val (.long x4), .second, .val (.int sz), .val (.int mm), .val (.long ss), .second, .val (.long tt), .second, .val (.int (1 : Int32)), .val (.int (0 : Int32)), .val (.int oo), .val (.ref b2112), .unset, .unset] [(.int (0 : Int32))])) (fun τ κ => XS.iload X2119.here hx rfl (hb hby at_105) rfl κ) ?_
        have hc2126 : (0 : Int32) = (0 : Int32) := by decide
        refine Gl.st (g' := (mkF m 119 #[.val (.int x0), .val (.int x1), .val (.int x2), .val (.long x3), .second, .val (.long x4), .second, .val (.int sz), .val (.int mm), .val (.long ss), .second, .val (.long tt), .second, .val (.int (1 : Int32)), .val (.int (0 : Int32)), .val (.int oo), .val (.ref b2112), .unset, .unset] [])) (fun τ κ => XS.ifYes X2119.here hx rfl (pc0 := 107) (pc' := 119) rfl (hb hby at_107) rfl ((if0 _ _).trans (teq hc2126).1) (by decide) (by decide) κ) ?_
        refine Gl.st (g' := (mkF m 121 #[.val (.int x0), .val (.int x1), .val (.int x2), .val (.long x3), .second, .val (.long x4), .second, .val (.int sz), .val (.int mm), .val (.long ss), .second, .val (.long tt), .second, .val (.int (1 : Int32)), .val (.int (0 : Int32)), .val (.int oo), .val (.ref b2112), .unset, .unset] [(.ref b2112)])) (fun τ κ => XS.aload X2119.here hx rfl (hb hby at_119) rfl rfl κ) ?_
        refine Gl.st (g' := (mkF m 123 #[.val (.int x0), .val (.int x1), .val (.int x2), .val (.long x3), .second, .val (.long x4), .second, .val (.int sz), .val (.int mm), .val (.long ss), .second, .val (.long tt), .second, .val (.int (1 : Int32)), .val (.int (0 : Int32)), .val (.int oo), .val (.ref b2112), .unset, .unset] [(.int mm), (.ref b2112)])) (fun τ κ => XS.iload X2119.here hx rfl (hb hby at_121) rfl κ) ?_
        obtain ⟨cq2127, kq2127, q2127a, q2127b, q2127c⟩ := isOf hZ rfl Ec2119
        obtain ⟨rv2127, _, ⟨T2127, L2127, k2127, n2127⟩, -, X2127, ⟨Lc2127, hQ2127, l2127, y2127, z2127⟩, st2127⟩ := X2119.virtualBack hx (y := (⟨"org/precedence/Takeover", "hasReported", "(I)Z"⟩ : MethodName)) (z := (⟨"org/precedence/Takeover", "hasReported", "(I)Z"⟩ : MethodName)) hown (mvT hZ (hw _ (List.mem_of_getElem? (i := 103) rfl))) (mvT hZ (hw _ (List.mem_of_getElem? (i := 104) rfl))) (notFace_of_selects (args := #[]) (mvT hZ (hw _ (List.mem_of_getElem? (i := 106) rfl)))) (mvT hZ (hw _ (List.mem_of_getElem? (i := 106) rfl))) (mvT hZ (hw _ (List.mem_of_getElem? (i := 105) rfl))) (by decide) (backOf (W := 0) (rm14 l Z a0 hw [] b2112 mm t2119 kk2119 sz vs2119 T2119.heap n0 Z2119 FN2119 V2119 hm.1 hm.2) hZ (hw _ (List.mem_of_getElem? (i := 107) rfl)) (hw _ (List.mem_of_getElem? (i := 4) rfl)) (by decide) (by decide)) q2127a q2127c (g := (mkF m 123 #[.val (.int x0), .val (.int x1), .val (.int x2), .val (.long x3), .second, .val (.long x4), .second, .val (.int sz), .val (.int mm), .val (.long ss), .second, .val (.long tt), .second, .val (.int (1 : Int32)), .val (.int (0 : Int32)), .val (.int oo), .val (.ref b2112), .unset, .unset] [(.int mm), (.ref b2112)])) rfl (by rw [hml]; rfl) (Steps.refl _) (argsL := [(.int mm)]) (rest := []) (lenOf pd_7 rfl) rfl (by show 2 * 0 + _ ≤ _; exact Nat.le_of_eq rfl) (hb hby at_123) (fun _ _ => ⟨rfl, rfl, (by decide : 11 + 0 ≤ _), (by decide : 45 + 0 ≤ _)⟩)
        dsimp only [Pt.U, Pt.locs, Pt.cells, Pt.slots] at X2127 l2127 y2127 z2127 st2127 hQ2127
        subst l2127 y2127 z2127
        obtain ⟨rfl, N2127q, e2127⟩ := hQ2127
        have N2127 := Fr.app N2119 N2127q
        refine Gl.st (g' := (mkF m 126 #[.val (.int x0), .val (.int x1), .val (.int x2), .val (.long x3), .second, .val (.long x4), .second, .val (.int sz), .val (.int mm), .val (.long ss), .second, .val (.long tt), .second, .val (.int (1 : Int32)), .val (.int (0 : Int32)), .val (.int oo), .val (.ref b2112), .unset, .unset] [(.int (own_rep vs2119 mm))])) (fun τ κ => st2127.trans κ) ?_
        have hc2128 : (own_rep vs2119 mm) = (0 : Int32) := own_r0 (A0 mm hm.1 hm.2)
        refine Gl.st (g' := (mkF m 129 #[.val (.int x0), .val (.int x1), .val (.int x2), .val (.long x3), .second, .val (.long x4), .second, .val (.int sz), .val (.int mm), .val (.long ss), .second, .val (.long tt), .second, .val (.int (1 : Int32)), .val (.int (0 : Int32)), .val (.int oo), .val (.ref b2112), .unset, .unset] [])) (fun τ κ => XS.ifNo X2127.here hx rfl (hb hby at_126) rfl ((if0 _ _).trans (teq hc2128).2) κ) ?_
        refine Gl.st (g' := (mkF m 130 #[.val (.int x0), .val (.int x1), .val (.int x2), .val (.long x3), .second, .val (.long x4), .second, .val (.int sz), .val (.int mm), .val (.long ss), .second, .val (.long tt), .second, .val (.int (1 : Int32)), .val (.int (0 : Int32)), .val (.int oo), .val (.ref b2112), .unset, .unset] [(.int (1 : Int32))])) (fun τ κ => XS.iconst X2127.here hx rfl (hb hby at_129) κ) ?_
        refine Gl.st (g' := (mkF m 134 #[.val (.int x0), .val (.int x1), .val (.int x2), .val (.long x3), .second, .val (.long x4), .second, .val (.int sz), .val (.int mm), .val (.long ss), .second, .val (.long tt), .second, .val (.int (1 : Int32)), .val (.int (0 : Int32)), .val (.int oo), .val (.ref b2112), .unset, .unset] [(.int (1 : Int32))])) (fun τ κ => XS.goto X2127.here hx rfl (pc0 := 130) (pc' := 134) rfl (hb hby at_130) (by decide) (by decide) κ) ?_
        refine Gl.st (g' := (mkF m 136 #[.val (.int x0), .val (.int x1), .val (.int x2), .val (.long x3), .second, .val (.long x4), .second, .val (.int sz), .val (.int mm), .val (.long ss), .second, .val (.long tt), .second, .val (.int (1 : Int32)), .val (.int (0 : Int32)), .val (.int oo), .val (.ref b2112), .val (.int (1 : Int32)), .unset] [])) (fun τ κ => XS.istore X2127.here hx rfl (hb hby at_134) rfl (l' := #[.val (.int x0), .val (.int x1), .val (.int x2), .val (.long x3), .second, .val (.long x4), .second, .val (.int sz), .val (.int mm), .val (.long ss), .second, .val (.long tt), .second, .val (.int (1 : Int32)), .val (.int (0 : Int32)), .val (.int oo), .val (.ref b2112), .val (.int (1 : Int32)), .unset]) rfl κ) ?_
        refine Gl.st (g' := (mkF m 138 #[.val (.int x0), .val (.int x1), .val (.int x2), .val (.long x3), .second, .val (.long x4), .second, .val (.int sz), .val (.int mm), .val (.long ss), .second, .val (.long tt), .second, .val (.int (1 : Int32)), .val (.int (0 : Int32)), .val (.int oo), .val (.ref b2112), .val (.int (1 : Int32)), .unset] [(.ref b2112)])) (fun τ κ => XS.aload X2127.here hx rfl (hb hby at_136) rfl rfl κ) ?_
        refine Gl.st (g' := (mkF m 140 #[.val (.int x0), .val (.int x1), .val (.int x2), .val (.long x3), .second, .val (.long x4), .second, .val (.int sz), .val (.int mm), .val (.long ss), .second, .val (.long tt), .second, .val (.int (1 : Int32)), .val (.int (0 : Int32)), .val (.int oo), .val (.ref b2112), .val (.int (1 : Int32)), .unset] [(.int mm), (.ref b2112)])) (fun τ κ => XS.iload X2127.here hx rfl (hb hby at_138) rfl κ) ?_
        refine Gl.st (g' := (mkF m 142 #[.val (.int x0), .val (.int x1), .val (.int x2), .val (.long x3), .second, .val (.long x4), .second, .val (.int sz), .val (.int mm), .val (.long ss), .second, .val (.long tt), .second, .val (.int (1 : Int32)), .val (.int (0 : Int32)), .val (.int oo), .val (.ref b2112), .val (.int (1 : Int32)), .unset] [(.long ss), (.int mm), (.ref b2112)])) (fun τ κ => XS.lload X2127.here hx rfl (hb hby at_140) rfl κ) ?_
        obtain ⟨cq2129, kq2129, q2129a, q2129b, q2129c⟩ := isOf hZ e2127 Ec2119
        obtain ⟨rv2129, _, ⟨T2129, L2129, k2129, n2129⟩, -, X2129, ⟨Lc2129, hQ2129, l2129, y2129, z2129⟩, st2129⟩ := X2127.virtualBack hx (y := (⟨"org/precedence/Takeover", "reported", "(IJ)V"⟩ : MethodName)) (z := (⟨"org/precedence/Takeover", "reported", "(IJ)V"⟩ : MethodName)) hown (mvT hZ (hw _ (List.mem_of_getElem? (i := 108) rfl))) (mvT hZ (hw _ (List.mem_of_getElem? (i := 109) rfl))) (notFace_of_selects (args := #[]) (mvT hZ (hw _ (List.mem_of_getElem? (i := 111) rfl)))) (mvT hZ (hw _ (List.mem_of_getElem? (i := 111) rfl))) (mvT hZ (hw _ (List.mem_of_getElem? (i := 110) rfl))) (by decide) (backOf (W := 0) (rm15 l Z a0 hw [] b2112 mm ss t2119 kk2119 sz vs2119 T2119.heap n0 Z2119 FN2119 V2119 hm.1 hm.2 g_t2119 (own_n0 (A0 mm hm.1 hm.2)) hss ne_b2112_t2119) hZ (hw _ (List.mem_of_getElem? (i := 112) rfl)) (hw _ (List.mem_of_getElem? (i := 4) rfl)) (by decide) (by decide)) q2129a q2129c (g := (mkF m 142 #[.val (.int x0), .val (.int x1), .val (.int x2), .val (.long x3), .second, .val (.long x4), .second, .val (.int sz), .val (.int mm), .val (.long ss), .second, .val (.long tt), .second, .val (.int (1 : Int32)), .val (.int (0 : Int32)), .val (.int oo), .val (.ref b2112), .val (.int (1 : Int32)), .unset] [(.long ss), (.int mm), (.ref b2112)])) rfl (by rw [hml]; rfl) (Steps.refl _) (argsL := [(.int mm), (.long ss)]) (rest := []) (lenOf pd_10 rfl) rfl (by show 2 * 0 + _ ≤ _; exact Nat.le_of_eq rfl) (hb hby at_142) (fun _ _ => ⟨rfl, e2127, (by decide : 11 + 0 ≤ _), (by decide : 45 + 0 ≤ _)⟩)
        dsimp only [Pt.U, Pt.locs, Pt.cells, Pt.slots] at X2129 l2129 y2129 z2129 st2129 hQ2129
        subst l2129 y2129 z2129
        obtain ⟨vs2129, rfl, N2129q, Kc2129, V2129, hv2129⟩ := hQ2129
        have E_2130 := Ec2119.keep Kc2129
        have F_2131 := FN2119.keep Kc2129 (ninS ne_b2112_t2119 nin0)
        have N2129 := Fr.app N2127 N2129q
        have Z2129 : n0 ≤ T2129.heap.size := Nat.le_trans Z2119 Kc2129.1
        have K2129 : Keep h0 T2129.heap [] := K2119.trans Kc2129 (allS (Or.inr sz_t2119) all0)
        have A2129 := own_A hm.1 hv2129
        refine Gl.st (g' := (mkF m 145 #[.val (.int x0), .val (.int x1), .val (.int x2), .val (.long x3), .second, .val (.long x4), .second, .val (.int sz), .val (.int mm), .val (.long ss), .second, .val (.long tt), .second, .val (.int (1 : Int32)), .val (.int (0 : Int32)), .val (.int oo), .val (.ref b2112), .val (.int (1 : Int32)), .unset] [])) (fun τ κ => st2129.trans κ) ?_
        refine Gl.st (g' := (mkF m 147 #[.val (.int x0), .val (.int x1), .val (.int x2), .val (.long x3), .second, .val (.long x4), .second, .val (.int sz), .val (.int mm), .val (.long ss), .second, .val (.long tt), .second, .val (.int (1 : Int32)), .val (.int (0 : Int32)), .val (.int oo), .val (.ref b2112), .val (.int (1 : Int32)), .unset] [(.int (1 : Int32))])) (fun τ κ => XS.iload X2129.here hx rfl (hb hby at_145) rfl κ) ?_
        have hc2133 : ¬ ((1 : Int32) = (0 : Int32)) := by decide
        refine Gl.st (g' := (mkF m 150 #[.val (.int x0), .val (.int x1), .val (.int x2), .val (.long x3), .second, .val (.long x4), .second, .val (.int sz), .val (.int mm), .val (.long ss), .second, .val (.long tt), .second, .val (.int (1 : Int32)), .val (.int (0 : Int32)), .val (.int oo), .val (.ref b2112), .val (.int (1 : Int32)), .unset] [])) (fun τ κ => XS.ifNo X2129.here hx rfl (hb hby at_147) rfl ((if0 _ _).trans (feq hc2133).1) κ) ?_
        refine Gl.st (g' := (mkF m 152 #[.val (.int x0), .val (.int x1), .val (.int x2), .val (.long x3), .second, .val (.long x4), .second, .val (.int sz), .val (.int mm), .val (.long ss), .second, .val (.long tt), .second, .val (.int (1 : Int32)), .val (.int (0 : Int32)), .val (.int oo), .val (.ref b2112), .val (.int (1 : Int32)), .unset] [(.int (0 : Int32))])) (fun τ κ => XS.iload X2129.here hx rfl (hb hby at_150) rfl κ) ?_
        have hc2134 : (0 : Int32) = (0 : Int32) := by decide
        refine Gl.st (g' := (mkF m 155 #[.val (.int x0), .val (.int x1), .val (.int x2), .val (.long x3), .second, .val (.long x4), .second, .val (.int sz), .val (.int mm), .val (.long ss), .second, .val (.long tt), .second, .val (.int (1 : Int32)), .val (.int (0 : Int32)), .val (.int oo), .val (.ref b2112), .val (.int (1 : Int32)), .unset] [])) (fun τ κ => XS.ifNo X2129.here hx rfl (hb hby at_152) rfl ((if0 _ _).trans (teq hc2134).2) κ) ?_
        refine Gl.st (g' := (mkF m 157 #[.val (.int x0), .val (.int x1), .val (.int x2), .val (.long x3), .second, .val (.long x4), .second, .val (.int sz), .val (.int mm), .val (.long ss), .second, .val (.long tt), .second, .val (.int (1 : Int32)), .val (.int (0 : Int32)), .val (.int oo), .val (.ref b2112), .val (.int (1 : Int32)), .unset] [(.ref b2112)])) (fun τ κ => XS.aload X2129.here hx rfl (hb hby at_155) rfl rfl κ) ?_
        refine Gl.st (g' := (mkF m 159 #[.val (.int x0), .val (.int x1), .val (.int x2), .val (.long x3), .second, .val (.long x4), .second, .val (.int sz), .val (.int mm), .val (.long ss), .second, .val (.long tt), .second, .val (.int (1 : Int32)), .val (.int (0 : Int32)), .val (.int oo), .val (.ref b2112), .val (.int (1 : Int32)), .unset] [(.int oo), (.ref b2112)])) (fun τ κ => XS.iload X2129.here hx rfl (hb hby at_157) rfl κ) ?_
        refine Gl.st (g' := (mkF m 161 #[.val (.int x0), .val (.int x1), .val (.int x2), .val (.long x3), .second, .val (.long x4), .second, .val (.int sz), .val (.int mm), .val (.long ss), .second, .val (.long tt), .second, .val (.int (1 : Int32)), .val (.int (0 : Int32)), .val (.int oo), .val (.ref b2112), .val (.int (1 : Int32)), .unset] [(.long tt), (.int oo), (.ref b2112)])) (fun τ κ => XS.lload X2129.here hx rfl (hb hby at_159) rfl κ) ?_
        obtain ⟨cq2135, kq2135, q2135a, q2135b, q2135c⟩ := isOf hZ rfl E_2130
        obtain ⟨rv2135, _, ⟨T2135, L2135, k2135, n2135⟩, -, X2135, ⟨Lc2135, hQ2135, l2135, y2135, z2135⟩, st2135⟩ := X2129.virtualBack hx (y := (⟨"org/precedence/Takeover", "reported", "(IJ)V"⟩ : MethodName)) (z := (⟨"org/precedence/Takeover", "reported", "(IJ)V"⟩ : MethodName)) hown (mvT hZ (hw _ (List.mem_of_getElem? (i := 108) rfl))) (mvT hZ (hw _ (List.mem_of_getElem? (i := 109) rfl))) (notFace_of_selects (args := #[]) (mvT hZ (hw _ (List.mem_of_getElem? (i := 111) rfl)))) (mvT hZ (hw _ (List.mem_of_getElem? (i := 111) rfl))) (mvT hZ (hw _ (List.mem_of_getElem? (i := 110) rfl))) (by decide) (backOf (W := 0) (rm15 l Z a0 hw [] b2112 oo tt t2119 kk2119 sz vs2129 T2129.heap n0 Z2129 F_2131 V2129 ho.1 ho.2.1 g_t2119 (own_n0 (((A2129 oo ho.1).trans (if_neg (fun q => ho.2.2 q.symm))).trans (A0 oo ho.1 ho.2.1))) htt ne_b2112_t2119) hZ (hw _ (List.mem_of_getElem? (i := 112) rfl)) (hw _ (List.mem_of_getElem? (i := 4) rfl)) (by decide) (by decide)) q2135a q2135c (g := (mkF m 161 #[.val (.int x0), .val (.int x1), .val (.int x2), .val (.long x3), .second, .val (.long x4), .second, .val (.int sz), .val (.int mm), .val (.long ss), .second, .val (.long tt), .second, .val (.int (1 : Int32)), .val (.int (0 : Int32)), .val (.int oo), .val (.ref b2112), .val (.int (1 : Int32)), .unset] [(.long tt), (.int oo), (.ref b2112)])) rfl (by rw [hml]; rfl) (Steps.refl _) (argsL := [(.int oo), (.long tt)]) (rest := []) (lenOf pd_10 rfl) rfl (by show 2 * 0 + _ ≤ _; exact Nat.le_of_eq rfl) (hb hby at_161) (fun _ _ => ⟨rfl, rfl, (by decide : 11 + 0 ≤ _), (by decide : 45 + 0 ≤ _)⟩)
        dsimp only [Pt.U, Pt.locs, Pt.cells, Pt.slots] at X2135 l2135 y2135 z2135 st2135 hQ2135
        subst l2135 y2135 z2135
        obtain ⟨vs2135, rfl, N2135q, Kc2135, V2135, hv2135⟩ := hQ2135
        have E_2136 := E_2130.keep Kc2135
        have F_2137 := F_2131.keep Kc2135 (ninS ne_b2112_t2119 nin0)
        have N2135 := Fr.app N2129 N2135q
        have Z2135 : n0 ≤ T2135.heap.size := Nat.le_trans Z2129 Kc2135.1
        have K2135 : Keep h0 T2135.heap [] := K2129.trans Kc2135 (allS (Or.inr sz_t2119) all0)
        have A2135 := own_A ho.1 hv2135
        refine Gl.st (g' := (mkF m 164 #[.val (.int x0), .val (.int x1), .val (.int x2), .val (.long x3), .second, .val (.long x4), .second, .val (.int sz), .val (.int mm), .val (.long ss), .second, .val (.long tt), .second, .val (.int (1 : Int32)), .val (.int (0 : Int32)), .val (.int oo), .val (.ref b2112), .val (.int (1 : Int32)), .unset] [])) (fun τ κ => st2135.trans κ) ?_
        refine Gl.st (g' := (mkF m 166 #[.val (.int x0), .val (.int x1), .val (.int x2), .val (.long x3), .second, .val (.long x4), .second, .val (.int sz), .val (.int mm), .val (.long ss), .second, .val (.long tt), .second, .val (.int (1 : Int32)), .val (.int (0 : Int32)), .val (.int oo), .val (.ref b2112), .val (.int (1 : Int32)), .unset] [(.int (1 : Int32))])) (fun τ κ => XS.iload X2135.here hx rfl (hb hby at_164) rfl κ) ?_
        have hc2139 : ¬ ((1 : Int32) = (0 : Int32)) := by decide
        refine Gl.st (g' := (mkF m 169 #[.val (.int x0), .val (.int x1), .val (.int x2), .val (.long x3), .second, .val (.long x4), .second, .val (.int sz), .val (.int mm), .val (.long ss), .second, .val (.long tt), .second, .val (.int (1 : Int32)), .val (.int (0 : Int32)), .val (.int oo), .val (.ref b2112), .val (.int (1 : Int32)), .unset] [])) (fun τ κ => XS.ifNo X2135.here hx rfl (hb hby at_166) rfl ((if0 _ _).trans (feq hc2139).1) κ) ?_
        refine Gl.st (g' := (mkF m 171 #[.val (.int x0), .val (.int x1), .val (.int x2), .val (.long x3), .second, .val (.long x4), .second, .val (.int sz), .val (.int mm), .val (.long ss), .second, .val (.long tt), .second, .val (.int (1 : Int32)), .val (.int (0 : Int32)), .val (.int oo), .val (.ref b2112), .val (.int (1 : Int32)), .unset] [(.ref b2112)])) (fun τ κ => XS.aload X2135.here hx rfl (hb hby at_169) rfl rfl κ) ?_
        refine Gl.st (g' := (mkF m 173 #[.val (.int x0), .val (.int x1), .val (.int x2), .val (.long x3), .second, .val (.long x4), .second, .val (.int sz), .val (.int mm), .val (.long ss), .second, .val (.long tt), .second, .val (.int (1 : Int32)), .val (.int (0 : Int32)), .val (.int oo), .val (.ref b2112), .val (.int (1 : Int32)), .unset] [(.int mm), (.ref b2112)])) (fun τ κ => XS.iload X2135.here hx rfl (hb hby at_171) rfl κ) ?_
        obtain ⟨cq2140, kq2140, q2140a, q2140b, q2140c⟩ := isOf hZ rfl E_2136
        obtain ⟨rv2140, _, ⟨T2140, L2140, k2140, n2140⟩, -, X2140, ⟨Lc2140, hQ2140, l2140, y2140, z2140⟩, st2140⟩ := X2135.virtualBack hx (y := (⟨"org/precedence/Takeover", "hasReported", "(I)Z"⟩ : MethodName)) (z := (⟨"org/precedence/Takeover", "hasReported", "(I)Z"⟩ : MethodName)) hown (mvT hZ (hw _ (List.mem_of_getElem? (i := 103) rfl))) (mvT hZ (hw _ (List.mem_of_getElem? (i := 104) rfl))) (notFace_of_selects (args := #[]) (mvT hZ (hw _ (List.mem_of_getElem? (i := 106) rfl)))) (mvT hZ (hw _ (List.mem_of_getElem? (i := 106) rfl))) (mvT hZ (hw _ (List.mem_of_getElem? (i := 105) rfl))) (by decide) (backOf (W := 0) (rm14 l Z a0 hw [] b2112 mm t2119 kk2119 sz vs2135 T2135.heap n0 Z2135 F_2137 V2135 hm.1 hm.2) hZ (hw _ (List.mem_of_getElem? (i := 107) rfl)) (hw _ (List.mem_of_getElem? (i := 4) rfl)) (by decide) (by decide)) q2140a q2140c (g := (mkF m 173 #[.val (.int x0), .val (.int x1), .val (.int x2), .val (.long x3), .second, .val (.long x4), .second, .val (.int sz), .val (.int mm), .val (.long ss), .second, .val (.long tt), .second, .val (.int (1 : Int32)), .val (.int (0 : Int32)), .val (.int oo), .val (.ref b2112), .val (.int (1 : Int32)), .unset] [(.int mm), (.ref b2112)])) rfl (by rw [hml]; rfl) (Steps.refl _) (argsL := [(.int mm)]) (rest := []) (lenOf pd_7 rfl) rfl (by show 2 * 0 + _ ≤ _; exact Nat.le_of_eq rfl) (hb hby at_173) (fun _ _ => ⟨rfl, rfl, (by decide : 11 + 0 ≤ _), (by decide : 45 + 0 ≤ _)⟩)
        dsimp only [Pt.U, Pt.locs, Pt.cells, Pt.slots] at X2140 l2140 y2140 z2140 st2140 hQ2140
        subst l2140 y2140 z2140
        obtain ⟨rfl, N2140q, e2140⟩ := hQ2140
        have N2140 := Fr.app N2135 N2140q
        refine Gl.st (g' := (mkF m 176 #[.val (.int x0), .val (.int x1), .val (.int x2), .val (.long x3), .second, .val (.long x4), .second, .val (.int sz), .val (.int mm), .val (.long ss), .second, .val (.long tt), .second, .val (.int (1 : Int32)), .val (.int (0 : Int32)), .val (.int oo), .val (.ref b2112), .val (.int (1 : Int32)), .unset] [(.int (own_rep vs2135 mm))])) (fun τ κ => st2140.trans κ) ?_
        have hc2141 : ¬ ((own_rep vs2135 mm) = (0 : Int32)) := own_r1 (((A2135 mm hm.1).trans (if_neg ho.2.2)).trans ((A2129 mm hm.1).trans (if_pos rfl))) hss
        refine Gl.st (g' := (mkF m 179 #[.val (.int x0), .val (.int x1), .val (.int x2), .val (.long x3), .second, .val (.long x4), .second, .val (.int sz), .val (.int mm), .val (.long ss), .second, .val (.long tt), .second, .val (.int (1 : Int32)), .val (.int (0 : Int32)), .val (.int oo), .val (.ref b2112), .val (.int (1 : Int32)), .unset] [])) (fun τ κ => XS.ifNo X2140.here hx rfl (hb hby at_176) rfl ((if0 _ _).trans (feq hc2141).1) κ) ?_
        refine Gl.st (g' := (mkF m 181 #[.val (.int x0), .val (.int x1), .val (.int x2), .val (.long x3), .second, .val (.long x4), .second, .val (.int sz), .val (.int mm), .val (.long ss), .second, .val (.long tt), .second, .val (.int (1 : Int32)), .val (.int (0 : Int32)), .val (.int oo), .val (.ref b2112), .val (.int (1 : Int32)), .unset] [(.ref b2112)])) (fun τ κ => XS.aload X2140.here hx rfl (hb hby at_179) rfl rfl κ) ?_
        refine Gl.st (g' := (mkF m 183 #[.val (.int x0), .val (.int x1), .val (.int x2), .val (.long x3), .second, .val (.long x4), .second, .val (.int sz), .val (.int mm), .val (.long ss), .second, .val (.long tt), .second, .val (.int (1 : Int32)), .val (.int (0 : Int32)), .val (.int oo), .val (.ref b2112), .val (.int (1 : Int32)), .unset] [(.int mm), (.ref b2112)])) (fun τ κ => XS.iload X2140.here hx rfl (hb hby at_181) rfl κ) ?_
        obtain ⟨cq2142, kq2142, q2142a, q2142b, q2142c⟩ := isOf hZ e2140 E_2136
        obtain ⟨rv2142, _, ⟨T2142, L2142, k2142, n2142⟩, -, X2142, ⟨Lc2142, hQ2142, l2142, y2142, z2142⟩, st2142⟩ := X2140.virtualBack hx (y := (⟨"org/precedence/Takeover", "next", "(I)J"⟩ : MethodName)) (z := (⟨"org/precedence/Takeover", "next", "(I)J"⟩ : MethodName)) hown (mvT hZ (hw _ (List.mem_of_getElem? (i := 113) rfl))) (mvT hZ (hw _ (List.mem_of_getElem? (i := 114) rfl))) (notFace_of_selects (args := #[]) (mvT hZ (hw _ (List.mem_of_getElem? (i := 116) rfl)))) (mvT hZ (hw _ (List.mem_of_getElem? (i := 116) rfl))) (mvT hZ (hw _ (List.mem_of_getElem? (i := 115) rfl))) (by decide) (backOf (W := 0) (rm16 l Z a0 hw [] b2112 mm t2119 kk2119 sz vs2135 T2135.heap n0 Z2135 F_2137 V2135 hm.1 hm.2) hZ (hw _ (List.mem_of_getElem? (i := 117) rfl)) (hw _ (List.mem_of_getElem? (i := 4) rfl)) (by decide) (by decide)) q2142a q2142c (g := (mkF m 183 #[.val (.int x0), .val (.int x1), .val (.int x2), .val (.long x3), .second, .val (.long x4), .second, .val (.int sz), .val (.int mm), .val (.long ss), .second, .val (.long tt), .second, .val (.int (1 : Int32)), .val (.int (0 : Int32)), .val (.int oo), .val (.ref b2112), .val (.int (1 : Int32)), .unset] [(.int mm), (.ref b2112)])) rfl (by rw [hml]; rfl) (Steps.refl _) (argsL := [(.int mm)]) (rest := []) (lenOf pd_11 rfl) rfl (by show 2 * 0 + _ ≤ _; exact Nat.le_of_eq rfl) (hb hby at_183) (fun _ _ => ⟨rfl, e2140, (by decide : 11 + 0 ≤ _), (by decide : 45 + 0 ≤ _)⟩)
        dsimp only [Pt.U, Pt.locs, Pt.cells, Pt.slots] at X2142 l2142 y2142 z2142 st2142 hQ2142
        subst l2142 y2142 z2142
        obtain ⟨rfl, N2142q, e2142⟩ := hQ2142
        have N2142 := Fr.app N2140 N2142q
        refine Gl.st (g' := (mkF m 186 #[.val (.int x0), .val (.int x1), .val (.int x2), .val (.long x3), .second, .val (.long x4), .second, .val (.int sz), .val (.int mm), .val (.long ss), .second, .val (.long tt), .second, .val (.int (1 : Int32)), .val (.int (0 : Int32)), .val (.int oo), .val (.ref b2112), .val (.int (1 : Int32)), .unset] [(.long (own_at vs2135 mm))])) (fun τ κ => st2142.trans κ) ?_
        refine Gl.st (g' := (mkF m 188 #[.val (.int x0), .val (.int x1), .val (.int x2), .val (.long x3), .second, .val (.long x4), .second, .val (.int sz), .val (.int mm), .val (.long ss), .second, .val (.long tt), .second, .val (.int (1 : Int32)), .val (.int (0 : Int32)), .val (.int oo), .val (.ref b2112), .val (.int (1 : Int32)), .unset] [(.long ss), (.long (own_at vs2135 mm))])) (fun τ κ => XS.lload X2142.here hx rfl (hb hby at_186) rfl κ) ?_
        refine Gl.st (g' := (mkF m 189 #[.val (.int x0), .val (.int x1), .val (.int x2), .val (.long x3), .second, .val (.long x4), .second, .val (.int sz), .val (.int mm), .val (.long ss), .second, .val (.long tt), .second, .val (.int (1 : Int32)), .val (.int (0 : Int32)), .val (.int oo), .val (.ref b2112), .val (.int (1 : Int32)), .unset] [(.int (lcmpW (own_at vs2135 mm) ss))])) (fun τ κ => XS.lcmp X2142.here hx rfl (hb hby at_188) rfl κ) ?_
        have hc2143 : (own_at vs2135 mm) = ss := (((A2135 mm hm.1).trans (if_neg ho.2.2)).trans ((A2129 mm hm.1).trans (if_pos rfl)))
        refine Gl.st (g' := (mkF m 192 #[.val (.int x0), .val (.int x1), .val (.int x2), .val (.long x3), .second, .val (.long x4), .second, .val (.int sz), .val (.int mm), .val (.long ss), .second, .val (.long tt), .second, .val (.int (1 : Int32)), .val (.int (0 : Int32)), .val (.int oo), .val (.ref b2112), .val (.int (1 : Int32)), .unset] [])) (fun τ κ => XS.ifNo X2142.here hx rfl (hb hby at_189) rfl ((if0 _ _).trans (teq ((lw_eq (own_at vs2135 mm) ss).mpr hc2143)).2) κ) ?_
        refine Gl.st (g' := (mkF m 193 #[.val (.int x0), .val (.int x1), .val (.int x2), .val (.long x3), .second, .val (.long x4), .second, .val (.int sz), .val (.int mm), .val (.long ss), .second, .val (.long tt), .second, .val (.int (1 : Int32)), .val (.int (0 : Int32)), .val (.int oo), .val (.ref b2112), .val (.int (1 : Int32)), .unset] [(.int (1 : Int32))])) (fun τ κ => XS.iconst X2142.here hx rfl (hb hby at_192) κ) ?_
        refine Gl.st (g' := (mkF m 197 #[.val (.int x0), .val (.int x1), .val (.int x2), .val (.long x3), .second, .val (.long x4), .second, .val (.int sz), .val (.int mm), .val (.long ss), .second, .val (.long tt), .second, .val (.int (1 : Int32)), .val (.int (0 : Int32)), .val (.int oo), .val (.ref b2112), .val (.int (1 : Int32)), .unset] [(.int (1 : Int32))])) (fun τ κ => XS.goto X2142.here hx rfl (pc0 := 193) (pc' := 197) rfl (hb hby at_193) (by decide) (by decide) κ) ?_
        refine Gl.st (g' := (mkF m 199 #[.val (.int x0), .val (.int x1), .val (.int x2), .val (.long x3), .second, .val (.long x4), .second, .val (.int sz), .val (.int mm), .val (.long ss), .second, .val (.long tt), .second, .val (.int (1 : Int32)), .val (.int (0 : Int32)), .val (.int oo), .val (.ref b2112), .val (.int (1 : Int32)), .val (.int (1 : Int32))] [])) (fun τ κ => XS.istore X2142.here hx rfl (hb hby at_197) rfl (l' := #[.val (.int x0), .val (.int x1), .val (.int x2), .val (.long x3), .second, .val (.long x4), .second, .val (.int sz), .val (.int mm), .val (.long ss), .second, .val (.long tt), .second, .val (.int (1 : Int32)), .val (.int (0 : Int32)), .val (.int oo), .val (.ref b2112), .val (.int (1 : Int32)), .val (.int (1 : Int32))]) rfl κ) ?_
        refine Gl.st (g' := (mkF m 201 #[.val (.int x0), .val (.int x1), .val (.int x2), .val (.long x3), .second, .val (.long x4), .second, .val (.int sz), .val (.int mm), .val (.long ss), .second, .val (.long tt), .second, .val (.int (1 : Int32)), .val (.int (0 : Int32)), .val (.int oo), .val (.ref b2112), .val (.int (1 : Int32)), .val (.int (1 : Int32))] [(.int (1 : Int32))])) (fun τ κ => XS.iload X2142.here hx rfl (hb hby at_199) rfl κ) ?_
        have hc2144 : ¬ ((1 : Int32) = (0 : Int32)) := by decide
        refine Gl.st (g' := (mkF m 204 #[.val (.int x0), .val (.int x1), .val (.int x2), .val (.long x3), .second, .val (.long x4), .second, .val (.int sz), .val (.int mm), .val (.long ss), .second, .val (.long tt), .second, .val (.int (1 : Int32)), .val (.int (0 : Int32)), .val (.int oo), .val (.ref b2112), .val (.int (1 : Int32)), .val (.int (1 : Int32))] [])) (fun τ κ => XS.ifNo X2142.here hx rfl (hb hby at_201) rfl ((if0 _ _).trans (feq hc2144).1) κ) ?_
        refine Gl.st (g' := (mkF m 206 #[.val (.int x0), .val (.int x1), .val (.int x2), .val (.long x3), .second, .val (.long x4), .second, .val (.int sz), .val (.int mm), .val (.long ss), .second, .val (.long tt), .second, .val (.int (1 : Int32)), .val (.int (0 : Int32)), .val (.int oo), .val (.ref b2112), .val (.int (1 : Int32)), .val (.int (1 : Int32))] [(.int (1 : Int32))])) (fun τ κ => XS.iload X2142.here hx rfl (hb hby at_204) rfl κ) ?_
        have hc2145 : ¬ ((1 : Int32) = (0 : Int32)) := by decide
        refine Gl.st (g' := (mkF m 209 #[.val (.int x0), .val (.int x1), .val (.int x2), .val (.long x3), .second, .val (.long x4), .second, .val (.int sz), .val (.int mm), .val (.long ss), .second, .val (.long tt), .second, .val (.int (1 : Int32)), .val (.int (0 : Int32)), .val (.int oo), .val (.ref b2112), .val (.int (1 : Int32)), .val (.int (1 : Int32))] [])) (fun τ κ => XS.ifNo X2142.here hx rfl (hb hby at_206) rfl ((if0 _ _).trans (feq hc2145).1) κ) ?_
        refine Gl.st (g' := (mkF m 211 #[.val (.int x0), .val (.int x1), .val (.int x2), .val (.long x3), .second, .val (.long x4), .second, .val (.int sz), .val (.int mm), .val (.long ss), .second, .val (.long tt), .second, .val (.int (1 : Int32)), .val (.int (0 : Int32)), .val (.int oo), .val (.ref b2112), .val (.int (1 : Int32)), .val (.int (1 : Int32))] [(.ref b2112)])) (fun τ κ => XS.aload X2142.here hx rfl (hb hby at_209) rfl rfl κ) ?_
        refine Gl.st (g' := (mkF m 213 #[.val (.int x0), .val (.int x1), .val (.int x2), .val (.long x3), .second, .val (.long x4), .second, .val (.int sz), .val (.int mm), .val (.long ss), .second, .val (.long tt), .second, .val (.int (1 : Int32)), .val (.int (0 : Int32)), .val (.int oo), .val (.ref b2112), .val (.int (1 : Int32)), .val (.int (1 : Int32))] [(.int oo), (.ref b2112)])) (fun τ κ => XS.iload X2142.here hx rfl (hb hby at_211) rfl κ) ?_
        obtain ⟨cq2146, kq2146, q2146a, q2146b, q2146c⟩ := isOf hZ e2142 E_2136
        obtain ⟨rv2146, _, ⟨T2146, L2146, k2146, n2146⟩, -, X2146, ⟨Lc2146, hQ2146, l2146, y2146, z2146⟩, st2146⟩ := X2142.virtualBack hx (y := (⟨"org/precedence/Takeover", "hasReported", "(I)Z"⟩ : MethodName)) (z := (⟨"org/precedence/Takeover", "hasReported", "(I)Z"⟩ : MethodName)) hown (mvT hZ (hw _ (List.mem_of_getElem? (i := 103) rfl))) (mvT hZ (hw _ (List.mem_of_getElem? (i := 104) rfl))) (notFace_of_selects (args := #[]) (mvT hZ (hw _ (List.mem_of_getElem? (i := 106) rfl)))) (mvT hZ (hw _ (List.mem_of_getElem? (i := 106) rfl))) (mvT hZ (hw _ (List.mem_of_getElem? (i := 105) rfl))) (by decide) (backOf (W := 0) (rm14 l Z a0 hw [] b2112 oo t2119 kk2119 sz vs2135 T2135.heap n0 Z2135 F_2137 V2135 ho.1 ho.2.1) hZ (hw _ (List.mem_of_getElem? (i := 107) rfl)) (hw _ (List.mem_of_getElem? (i := 4) rfl)) (by decide) (by decide)) q2146a q2146c (g := (mkF m 213 #[.val (.int x0), .val (.int x1), .val (.int x2), .val (.long x3), .second, .val (.long x4), .second, .val (.int sz), .val (.int mm), .val (.long ss), .second, .val (.long tt), .second, .val (.int (1 : Int32)), .val (.int (0 : Int32)), .val (.int oo), .val (.ref b2112), .val (.int (1 : Int32)), .val (.int (1 : Int32))] [(.int oo), (.ref b2112)])) rfl (by rw [hml]; rfl) (Steps.refl _) (argsL := [(.int oo)]) (rest := []) (lenOf pd_7 rfl) rfl (by show 2 * 0 + _ ≤ _; exact Nat.le_of_eq rfl) (hb hby at_213) (fun _ _ => ⟨rfl, e2142, (by decide : 11 + 0 ≤ _), (by decide : 45 + 0 ≤ _)⟩)
        dsimp only [Pt.U, Pt.locs, Pt.cells, Pt.slots] at X2146 l2146 y2146 z2146 st2146 hQ2146
        subst l2146 y2146 z2146
        obtain ⟨rfl, N2146q, e2146⟩ := hQ2146
        have N2146 := Fr.app N2142 N2146q
        refine Gl.st (g' := (mkF m 216 #[.val (.int x0), .val (.int x1), .val (.int x2), .val (.long x3), .second, .val (.long x4), .second, .val (.int sz), .val (.int mm), .val (.long ss), .second, .val (.long tt), .second, .val (.int (1 : Int32)), .val (.int (0 : Int32)), .val (.int oo), .val (.ref b2112), .val (.int (1 : Int32)), .val (.int (1 : Int32))] [(.int (own_rep vs2135 oo))])) (fun τ κ => st2146.trans κ) ?_
        have hc2147 : ¬ ((own_rep vs2135 oo) = (0 : Int32)) := own_r1 ((A2135 oo ho.1).trans (if_pos rfl)) htt
        refine Gl.st (g' := (mkF m 219 #[.val (.int x0), .val (.int x1), .val (.int x2), .val (.long x3), .second, .val (.long x4), .second, .val (.int sz), .val (.int mm), .val (.long ss), .second, .val (.long tt), .second, .val (.int (1 : Int32)), .val (.int (0 : Int32)), .val (.int oo), .val (.ref b2112), .val (.int (1 : Int32)), .val (.int (1 : Int32))] [])) (fun τ κ => XS.ifNo X2146.here hx rfl (hb hby at_216) rfl ((if0 _ _).trans (feq hc2147).1) κ) ?_
        refine Gl.st (g' := (mkF m 221 #[.val (.int x0), .val (.int x1), .val (.int x2), .val (.long x3), .second, .val (.long x4), .second, .val (.int sz), .val (.int mm), .val (.long ss), .second, .val (.long tt), .second, .val (.int (1 : Int32)), .val (.int (0 : Int32)), .val (.int oo), .val (.ref b2112), .val (.int (1 : Int32)), .val (.int (1 : Int32))] [(.ref b2112)])) (fun τ κ => XS.aload X2146.here hx rfl (hb hby at_219) rfl rfl κ) ?_
        refine Gl.st (g' := (mkF m 223 #[.val (.int x0), .val (.int x1), .val (.int x2), .val (.long x3), .second, .val (.long x4), .second, .val (.int sz), .val (.int mm), .val (.long ss), .second, .val (.long tt), .second, .val (.int (1 : Int32)), .val (.int (0 : Int32)), .val (.int oo), .val (.ref b2112), .val (.int (1 : Int32)), .val (.int (1 : Int32))] [(.int oo), (.ref b2112)])) (fun τ κ => XS.iload X2146.here hx rfl (hb hby at_221) rfl κ) ?_
        obtain ⟨cq2148, kq2148, q2148a, q2148b, q2148c⟩ := isOf hZ e2146 E_2136
        obtain ⟨rv2148, _, ⟨T2148, L2148, k2148, n2148⟩, -, X2148, ⟨Lc2148, hQ2148, l2148, y2148, z2148⟩, st2148⟩ := X2146.virtualBack hx (y := (⟨"org/precedence/Takeover", "next", "(I)J"⟩ : MethodName)) (z := (⟨"org/precedence/Takeover", "next", "(I)J"⟩ : MethodName)) hown (mvT hZ (hw _ (List.mem_of_getElem? (i := 113) rfl))) (mvT hZ (hw _ (List.mem_of_getElem? (i := 114) rfl))) (notFace_of_selects (args := #[]) (mvT hZ (hw _ (List.mem_of_getElem? (i := 116) rfl)))) (mvT hZ (hw _ (List.mem_of_getElem? (i := 116) rfl))) (mvT hZ (hw _ (List.mem_of_getElem? (i := 115) rfl))) (by decide) (backOf (W := 0) (rm16 l Z a0 hw [] b2112 oo t2119 kk2119 sz vs2135 T2135.heap n0 Z2135 F_2137 V2135 ho.1 ho.2.1) hZ (hw _ (List.mem_of_getElem? (i := 117) rfl)) (hw _ (List.mem_of_getElem? (i := 4) rfl)) (by decide) (by decide)) q2148a q2148c (g := (mkF m 223 #[.val (.int x0), .val (.int x1), .val (.int x2), .val (.long x3), .second, .val (.long x4), .second, .val (.int sz), .val (.int mm), .val (.long ss), .second, .val (.long tt), .second, .val (.int (1 : Int32)), .val (.int (0 : Int32)), .val (.int oo), .val (.ref b2112), .val (.int (1 : Int32)), .val (.int (1 : Int32))] [(.int oo), (.ref b2112)])) rfl (by rw [hml]; rfl) (Steps.refl _) (argsL := [(.int oo)]) (rest := []) (lenOf pd_11 rfl) rfl (by show 2 * 0 + _ ≤ _; exact Nat.le_of_eq rfl) (hb hby at_223) (fun _ _ => ⟨rfl, e2146, (by decide : 11 + 0 ≤ _), (by decide : 45 + 0 ≤ _)⟩)
        dsimp only [Pt.U, Pt.locs, Pt.cells, Pt.slots] at X2148 l2148 y2148 z2148 st2148 hQ2148
        subst l2148 y2148 z2148
        obtain ⟨rfl, N2148q, e2148⟩ := hQ2148
        have N2148 := Fr.app N2146 N2148q
        refine Gl.st (g' := (mkF m 226 #[.val (.int x0), .val (.int x1), .val (.int x2), .val (.long x3), .second, .val (.long x4), .second, .val (.int sz), .val (.int mm), .val (.long ss), .second, .val (.long tt), .second, .val (.int (1 : Int32)), .val (.int (0 : Int32)), .val (.int oo), .val (.ref b2112), .val (.int (1 : Int32)), .val (.int (1 : Int32))] [(.long (own_at vs2135 oo))])) (fun τ κ => st2148.trans κ) ?_
        refine Gl.st (g' := (mkF m 228 #[.val (.int x0), .val (.int x1), .val (.int x2), .val (.long x3), .second, .val (.long x4), .second, .val (.int sz), .val (.int mm), .val (.long ss), .second, .val (.long tt), .second, .val (.int (1 : Int32)), .val (.int (0 : Int32)), .val (.int oo), .val (.ref b2112), .val (.int (1 : Int32)), .val (.int (1 : Int32))] [(.long tt), (.long (own_at vs2135 oo))])) (fun τ κ => XS.lload X2148.here hx rfl (hb hby at_226) rfl κ) ?_
        refine Gl.st (g' := (mkF m 229 #[.val (.int x0), .val (.int x1), .val (.int x2), .val (.long x3), .second, .val (.long x4), .second, .val (.int sz), .val (.int mm), .val (.long ss), .second, .val (.long tt), .second, .val (.int (1 : Int32)), .val (.int (0 : Int32)), .val (.int oo), .val (.ref b2112), .val (.int (1 : Int32)), .val (.int (1 : Int32))] [(.int (lcmpW (own_at vs2135 oo) tt))])) (fun τ κ => XS.lcmp X2148.here hx rfl (hb hby at_228) rfl κ) ?_
        have hc2149 : (own_at vs2135 oo) = tt := ((A2135 oo ho.1).trans (if_pos rfl))
        refine Gl.st (g' := (mkF m 232 #[.val (.int x0), .val (.int x1), .val (.int x2), .val (.long x3), .second, .val (.long x4), .second, .val (.int sz), .val (.int mm), .val (.long ss), .second, .val (.long tt), .second, .val (.int (1 : Int32)), .val (.int (0 : Int32)), .val (.int oo), .val (.ref b2112), .val (.int (1 : Int32)), .val (.int (1 : Int32))] [])) (fun τ κ => XS.ifNo X2148.here hx rfl (hb hby at_229) rfl ((if0 _ _).trans (teq ((lw_eq (own_at vs2135 oo) tt).mpr hc2149)).2) κ) ?_
        refine Gl.st (g' := (mkF m 233 #[.val (.int x0), .val (.int x1), .val (.int x2), .val (.long x3), .second, .val (.long x4), .second, .val (.int sz), .val (.int mm), .val (.long ss), .second, .val (.long tt), .second, .val (.int (1 : Int32)), .val (.int (0 : Int32)), .val (.int oo), .val (.ref b2112), .val (.int (1 : Int32)), .val (.int (1 : Int32))] [(.int (1 : Int32))])) (fun τ κ => XS.iconst X2148.here hx rfl (hb hby at_232) κ) ?_
        refine Gl.st (g' := (mkF m 237 #[.val (.int x0), .val (.int x1), .val (.int x2), .val (.long x3), .second, .val (.long x4), .second, .val (.int sz), .val (.int mm), .val (.long ss), .second, .val (.long tt), .second, .val (.int (1 : Int32)), .val (.int (0 : Int32)), .val (.int oo), .val (.ref b2112), .val (.int (1 : Int32)), .val (.int (1 : Int32))] [(.int (1 : Int32))])) (fun τ κ => XS.goto X2148.here hx rfl (pc0 := 233) (pc' := 237) rfl (hb hby at_233) (by decide) (by decide) κ) ?_
        refine Gl.st (g' := (mkF m 239 #[.val (.int x0), .val (.int x1), .val (.int x2), .val (.long x3), .second, .val (.long x4), .second, .val (.int sz), .val (.int mm), .val (.long ss), .second, .val (.long tt), .second, .val (.int (1 : Int32)), .val (.int (0 : Int32)), .val (.int oo), .val (.ref b2112), .val (.int (1 : Int32)), .val (.int (1 : Int32))] [])) (fun τ κ => XS.istore X2148.here hx rfl (hb hby at_237) rfl (l' := #[.val (.int x0), .val (.int x1), .val (.int x2), .val (.long x3), .second, .val (.long x4), .second, .val (.int sz), .val (.int mm), .val (.long ss), .second, .val (.long tt), .second, .val (.int (1 : Int32)), .val (.int (0 : Int32)), .val (.int oo), .val (.ref b2112), .val (.int (1 : Int32)), .val (.int (1 : Int32))]) rfl κ) ?_
        have hS := own_hs2' (sz := sz) hss htt (fun ii a b => by rw [A2135 ii a, A2129 ii a, A0 ii a b])
        refine own_tail hx hZ hw hby hml hown X2148 e2148 N2148 Z2135 E_2136 F_2137 V2135 hS ?_
        intro T' h' locs' X' e' N'
        refine Gl.st (g' := (mkF m 349 #[.val (.int x0), .val (.int x1), .val (.int x2), .val (.long x3), .second, .val (.long x4), .second, .val (.int sz), .val (.int mm), .val (.long ss), .second, .val (.long tt), .second, .val (.int (1 : Int32)), .val (.int (0 : Int32)), .val (.int oo), .val (.ref b2112), .val (.int (1 : Int32)), .val (.int (1 : Int32))] [(.int (1 : Int32))])) (fun τ κ => XS.iload X'.here hx rfl (hb hby at_347) rfl κ) ?_
        exact Gl.ret (v := some (.int (1 : Int32))) X' Bd.notSynchronized (fun h => by rw [Bd.returns] at h; cases h) e' (fun fs hr => retN X' hx (t := .boolean) Bd.returns (by simp) (hb hby at_349) hr) (by decide) (by decide) ⟨rfl, N'⟩
      · -- pc 53: not (x2 &&& (2 : Int32)) = (0 : Int32)
        refine Gl.st (g' := (mkF m 56 #[.val (.int x0), .val (.int x1), .val (.int x2), .val (.long x3), .second, .val (.long x4), .second, .val (.int sz), .val (.int mm), .val (.long ss), .second, .val (.long tt), .second, .val (.int (1 : Int32)), .unset, .unset, .unset, .unset, .unset] [])) (fun τ κ => XS.ifNo X0.here hx rfl (hb hby at_53) rfl ((if0 _ _).trans (feq hc2110).1) κ) ?_
        refine Gl.st (g' := (mkF m 57 #[.val (.int x0), .val (.int x1), .val (.int x2), .val (.long x3), .second, .val (.long x4), .second, .val (.int sz), .val (.int mm), .val (.long ss), .second, .val (.long tt), .second, .val (.int (1 : Int32)), .unset, .unset, .unset, .unset, .unset] [(.int (1 : Int32))])) (fun τ κ => XS.iconst X0.here hx rfl (hb hby at_56) κ) ?_
        refine Gl.st (g' := (mkF m 61 #[.val (.int x0), .val (.int x1), .val (.int x2), .val (.long x3), .second, .val (.long x4), .second, .val (.int sz), .val (.int mm), .val (.long ss), .second, .val (.long tt), .second, .val (.int (1 : Int32)), .unset, .unset, .unset, .unset, .unset] [(.int (1 : Int32))])) (fun τ κ => XS.goto X0.here hx rfl (pc0 := 57) (pc' := 61) rfl (hb hby at_57) (by decide) (by decide) κ) ?_
        refine Gl.st (g' := (mkF m 63 #[.val (.int x0), .val (.int x1), .val (.int x2), .val (.long x3), .second, .val (.long x4), .second, .val (.int sz), .val (.int mm), .val (.long ss), .second, .val (.long tt), .second, .val (.int (1 : Int32)), .val (.int (1 : Int32)), .unset, .unset, .unset, .unset] [])) (fun τ κ => XS.istore X0.here hx rfl (hb hby at_61) rfl (l' := #[.val (.int x0), .val (.int x1), .val (.int x2), .val (.long x3), .second, .val (.long x4), .second, .val (.int sz), .val (.int mm), .val (.long ss), .second, .val (.long tt), .second, .val (.int (1 : Int32)), .val (.int (1 : Int32)), .unset, .unset, .unset, .unset]) rfl κ) ?_
        refine Gl.st (g' := (mkF m 64 #[.val (.int x0), .val (.int x1), .val (.int x2), .val (.long x3), .second, .val (.long x4), .second, .val (.int sz), .val (.int mm), .val (.long ss), .second, .val (.long tt), .second, .val (.int (1 : Int32)), .val (.int (1 : Int32)), .unset, .unset, .unset, .unset] [(.int (-1 : Int32))])) (fun τ κ => XS.iconst X0.here hx rfl (hb hby at_63) κ) ?_
        refine Gl.st (g' := (mkF m 66 #[.val (.int x0), .val (.int x1), .val (.int x2), .val (.long x3), .second, .val (.long x4), .second, .val (.int sz), .val (.int mm), .val (.long ss), .second, .val (.long tt), .second, .val (.int (1 : Int32)), .val (.int (1 : Int32)), .val (.int (-1 : Int32)), .unset, .unset, .unset] [])) (fun τ κ => XS.istore X0.here hx rfl (hb hby at_64) rfl (l' := #[.val (.int x0), .val (.int x1), .val (.int x2), .val (.long x3), .second, .val (.long x4), .second, .val (.int sz), .val (.int mm), .val (.long ss), .second, .val (.long tt), .second, .val (.int (1 : Int32)), .val (.int (1 : Int32)), .val (.int (-1 : Int32)), .unset, .unset, .unset]) rfl κ) ?_
        refine Gl.st (g' := (mkF m 68 #[.val (.int x0), .val (.int x1), .val (.int x2), .val (.long x3), .second, .val (.long x4), .second, .val (.int sz), .val (.int mm), .val (.long ss), .second, .val (.long tt), .second, .val (.int (1 : Int32)), .val (.int (1 : Int32)), .val (.int (-1 : Int32)), .unset, .unset, .unset] [(.int (1 : Int32))])) (fun τ κ => XS.iload X0.here hx rfl (hb hby at_66) rfl κ) ?_
        have hc2150 : ¬ ((1 : Int32) = (0 : Int32)) := by decide
        refine Gl.st (g' := (mkF m 71 #[.val (.int x0), .val (.int x1), .val (.int x2), .val (.long x3), .second, .val (.long x4), .second, .val (.int sz), .val (.int mm), .val (.long ss), .second, .val (.long tt), .second, .val (.int (1 : Int32)), .val (.int (1 : Int32)), .val (.int (-1 : Int32)), .unset, .unset, .unset] [])) (fun τ κ => XS.ifNo X0.here hx rfl (hb hby at_68) rfl ((if0 _ _).trans (feq hc2150).1) κ) ?_
        refine Gl.st (g' := (mkF m 73 #[.val (.int x0), .val (.int x1), .val (.int x2), .val (.long x3), .second, .val (.long x4), .second, .val (.int sz), .val (.int mm), .val (.long ss), .second, .val (.long tt), .second, .val (.int (1 : Int32)), .val (.int (1 : Int32)), .val (.int (-1 : Int32)), .unset, .unset, .unset] [(.int mm)])) (fun τ κ => XS.iload X0.here hx rfl (hb hby at_71) rfl κ) ?_
        refine Gl.st (g' := (mkF m 74 #[.val (.int x0), .val (.int x1), .val (.int x2), .val (.long x3), .second, .val (.long x4), .second, .val (.int sz), .val (.int mm), .val (.long ss), .second, .val (.long tt), .second, .val (.int (1 : Int32)), .val (.int (1 : Int32)), .val (.int (-1 : Int32)), .unset, .unset, .unset] [(.int (1 : Int32)), (.int mm)])) (fun τ κ => XS.iconst X0.here hx rfl (hb hby at_73) κ) ?_
        refine Gl.st (g' := (mkF m 75 #[.val (.int x0), .val (.int x1), .val (.int x2), .val (.long x3), .second, .val (.long x4), .second, .val (.int sz), .val (.int mm), .val (.long ss), .second, .val (.long tt), .second, .val (.int (1 : Int32)), .val (.int (1 : Int32)), .val (.int (-1 : Int32)), .unset, .unset, .unset] [(.int (mm + (1 : Int32)))])) (fun τ κ => XS.iadd X0.here hx rfl (hb hby at_74) rfl κ) ?_
        refine Gl.st (g' := (mkF m 76 #[.val (.int x0), .val (.int x1), .val (.int x2), .val (.long x3), .second, .val (.long x4), .second, .val (.int sz), .val (.int mm), .val (.long ss), .second, .val (.long tt), .second, .val (.int (1 : Int32)), .val (.int (1 : Int32)), .val (.int (-1 : Int32)), .unset, .unset, .unset] [(.int x2), (.int (mm + (1 : Int32)))])) (fun τ κ => XS.iloadN X0.here hx rfl (hb hby at_75) rfl κ) ?_
        refine Gl.st (g' := (mkF m 77 #[.val (.int x0), .val (.int x1), .val (.int x2), .val (.long x3), .second, .val (.long x4), .second, .val (.int sz), .val (.int mm), .val (.long ss), .second, .val (.long tt), .second, .val (.int (1 : Int32)), .val (.int (1 : Int32)), .val (.int (-1 : Int32)), .unset, .unset, .unset] [(.int (2 : Int32)), (.int x2), (.int (mm + (1 : Int32)))])) (fun τ κ => XS.iconst X0.here hx rfl (hb hby at_76) κ) ?_
        refine Gl.st (g' := (mkF m 78 #[.val (.int x0), .val (.int x1), .val (.int x2), .val (.long x3), .second, .val (.long x4), .second, .val (.int sz), .val (.int mm), .val (.long ss), .second, .val (.long tt), .second, .val (.int (1 : Int32)), .val (.int (1 : Int32)), .val (.int (-1 : Int32)), .unset, .unset, .unset] [(.int ((x2.toUInt32 >>> ((2 : Int32) &&& 31).toUInt32).toInt32)), (.int (mm + (1 : Int32)))])) (fun τ κ => XS.iushr X0.here hx rfl (hb hby at_77) rfl κ) ?_
        refine Gl.st (g' := (mkF m 80 #[.val (.int x0), .val (.int x1), .val (.int x2), .val (.long x3), .second, .val (.long x4), .second, .val (.int sz), .val (.int mm), .val (.long ss), .second, .val (.long tt), .second, .val (.int (1 : Int32)), .val (.int (1 : Int32)), .val (.int (-1 : Int32)), .unset, .unset, .unset] [(.int sz), (.int ((x2.toUInt32 >>> ((2 : Int32) &&& 31).toUInt32).toInt32)), (.int (mm + (1 : Int32)))])) (fun τ κ => XS.iload X0.here hx rfl (hb hby at_78) rfl κ) ?_
        refine Gl.st (g' := (mkF m 81 #[.val (.int x0), .val (.int x1), .val (.int x2), .val (.long x3), .second, .val (.long x4), .second, .val (.int sz), .val (.int mm), .val (.long ss), .second, .val (.long tt), .second, .val (.int (1 : Int32)), .val (.int (1 : Int32)), .val (.int (-1 : Int32)), .unset, .unset, .unset] [(.int (1 : Int32)), (.int sz), (.int ((x2.toUInt32 >>> ((2 : Int32) &&& 31).toUInt32).toInt32)), (.int (mm + (1 : Int32)))])) (fun τ κ => XS.iconst X0.here hx rfl (hb hby at_80) κ) ?_
        refine Gl.st (g' := (mkF m 82 #[.val (.int x0), .val (.int x1), .val (.int x2), .val (.long x3), .second, .val (.long x4), .second, .val (.int sz), .val (.int mm), .val (.long ss), .second, .val (.long tt), .second, .val (.int (1 : Int32)), .val (.int (1 : Int32)), .val (.int (-1 : Int32)), .unset, .unset, .unset] [(.int (sz - (1 : Int32))), (.int ((x2.toUInt32 >>> ((2 : Int32) &&& 31).toUInt32).toInt32)), (.int (mm + (1 : Int32)))])) (fun τ κ => XS.isub X0.here hx rfl (hb hby at_81) rfl κ) ?_
        refine Gl.st (g' := (mkF m 83 #[.val (.int x0), .val (.int x1), .val (.int x2), .val (.long x3), .second, .val (.long x4), .second, .val (.int sz), .val (.int mm), .val (.long ss), .second, .val (.long tt), .second, .val (.int (1 : Int32)), .val (.int (1 : Int32)), .val (.int (-1 : Int32)), .unset, .unset, .unset] [(.int (((x2.toUInt32 >>> ((2 : Int32) &&& 31).toUInt32).toInt32) % (sz - (1 : Int32)))), (.int (mm + (1 : Int32)))])) (fun τ κ => iremM (g := (mkF m 82 #[.val (.int x0), .val (.int x1), .val (.int x2), .val (.long x3), .second, .val (.long x4), .second, .val (.int sz), .val (.int mm), .val (.long ss), .second, .val (.long tt), .second, .val (.int (1 : Int32)), .val (.int (1 : Int32)), .val (.int (-1 : Int32)), .unset, .unset, .unset] [(.int (sz - (1 : Int32))), (.int ((x2.toUInt32 >>> ((2 : Int32) &&& 31).toUInt32).toInt32)), (.int (mm + (1 : Int32)))])) X0 hx rfl (hb hby at_82) rfl (own_nz (by have := own_d hc2109 bz.2; have q := hc2109; rw [Int32.lt_iff_toInt_lt, show (1 : Int32).toInt = 1 from rfl] at q; omega)) κ) ?_
        refine Gl.st (g' := (mkF m 84 #[.val (.int x0), .val (.int x1), .val (.int x2), .val (.long x3), .second, .val (.long x4), .second, .val (.int sz), .val (.int mm), .val (.long ss), .second, .val (.long tt), .second, .val (.int (1 : Int32)), .val (.int (1 : Int32)), .val (.int (-1 : Int32)), .unset, .unset, .unset] [(.int ((mm + (1 : Int32)) + (((x2.toUInt32 >>> ((2 : Int32) &&& 31).toUInt32).toInt32) % (sz - (1 : Int32)))))])) (fun τ κ => XS.iadd X0.here hx rfl (hb hby at_83) rfl κ) ?_
        refine Gl.st (g' := (mkF m 86 #[.val (.int x0), .val (.int x1), .val (.int x2), .val (.long x3), .second, .val (.long x4), .second, .val (.int sz), .val (.int mm), .val (.long ss), .second, .val (.long tt), .second, .val (.int (1 : Int32)), .val (.int (1 : Int32)), .val (.int (-1 : Int32)), .unset, .unset, .unset] [(.int sz), (.int ((mm + (1 : Int32)) + (((x2.toUInt32 >>> ((2 : Int32) &&& 31).toUInt32).toInt32) % (sz - (1 : Int32)))))])) (fun τ κ => XS.iload X0.here hx rfl (hb hby at_84) rfl κ) ?_
        refine Gl.st (g' := (mkF m 87 #[.val (.int x0), .val (.int x1), .val (.int x2), .val (.long x3), .second, .val (.long x4), .second, .val (.int sz), .val (.int mm), .val (.long ss), .second, .val (.long tt), .second, .val (.int (1 : Int32)), .val (.int (1 : Int32)), .val (.int (-1 : Int32)), .unset, .unset, .unset] [(.int (((mm + (1 : Int32)) + (((x2.toUInt32 >>> ((2 : Int32) &&& 31).toUInt32).toInt32) % (sz - (1 : Int32)))) % sz))])) (fun τ κ => iremM (g := (mkF m 86 #[.val (.int x0), .val (.int x1), .val (.int x2), .val (.long x3), .second, .val (.long x4), .second, .val (.int sz), .val (.int mm), .val (.long ss), .second, .val (.long tt), .second, .val (.int (1 : Int32)), .val (.int (1 : Int32)), .val (.int (-1 : Int32)), .unset, .unset, .unset] [(.int sz), (.int ((mm + (1 : Int32)) + (((x2.toUInt32 >>> ((2 : Int32) &&& 31).toUInt32).toInt32) % (sz - (1 : Int32)))))])) X0 hx rfl (hb hby at_86) rfl (own_nz bz.1) κ) ?_
        have ho := own_o (cc := x2) hc2109 bz.2 hm.1 hm.2
        generalize (((mm + (1 : Int32)) + (((x2.toUInt32 >>> ((2 : Int32) &&& 31).toUInt32).toInt32) % (sz - (1 : Int32)))) % sz) = oo at ho ⊢
        refine Gl.st (g' := (mkF m 89 #[.val (.int x0), .val (.int x1), .val (.int x2), .val (.long x3), .second, .val (.long x4), .second, .val (.int sz), .val (.int mm), .val (.long ss), .second, .val (.long tt), .second, .val (.int (1 : Int32)), .val (.int (1 : Int32)), .val (.int oo), .unset, .unset, .unset] [])) (fun τ κ => XS.istore X0.here hx rfl (hb hby at_87) rfl (l' := #[.val (.int x0), .val (.int x1), .val (.int x2), .val (.long x3), .second, .val (.long x4), .second, .val (.int sz), .val (.int mm), .val (.long ss), .second, .val (.long tt), .second, .val (.int (1 : Int32)), .val (.int (1 : Int32)), .val (.int oo), .unset, .unset, .unset]) rfl κ) ?_
        obtain ⟨T2151, h2151, X2151, e2151, E2151, A2151, D2151, -, st2151⟩ := newO X0 hx hZ hown (hw _ (List.mem_of_getElem? (i := 2) rfl)) (hw _ (List.mem_of_getElem? (i := 3) rfl)) (hw _ (List.mem_of_getElem? (i := 4) rfl)) e0 (g := (mkF m 89 #[.val (.int x0), .val (.int x1), .val (.int x2), .val (.long x3), .second, .val (.long x4), .second, .val (.int sz), .val (.int mm), .val (.long ss), .second, .val (.long tt), .second, .val (.int (1 : Int32)), .val (.int (1 : Int32)), .val (.int oo), .unset, .unset, .unset] [])) rfl (hb hby at_89) (by decide) (by decide)
        obtain ⟨b2151, g2151⟩ : ∃ z, z = h0.size := ⟨_, rfl⟩
        rw [← g2151] at A2151 D2151 st2151
        have ne_de_b2151 : de ≠ b2151 := Nat.ne_of_lt (Nat.lt_of_lt_of_le V0.lt (Nat.le_of_eq g2151.symm))
        have S_2152 := S0.ext E2151
        have V_2153 := V0.ext E2151
        have g_b2151 : n0 ≤ b2151 := Nat.le_trans Z0 (Nat.le_of_eq g2151.symm)
        have sz_b2151 : h0.size ≤ b2151 := Nat.le_trans (Keep.refl h0 []).1 (Nat.le_of_eq g2151.symm)
        have Z2151 : n0 ≤ h2151.size := Nat.le_trans Z0 E2151.1
        have K2151 : Keep h0 h2151 [] := (Keep.refl h0 []).ext E2151
        have F_2154 : Fld Z h2151 b2151 "org/precedence/Takeover" "stamped" "Ljava/util/TreeMap;" .null := D2151 (Or.inr (hw _ (List.mem_of_getElem? (i := 31) rfl))) (ty := (.object "java/util/TreeMap")) (by decide)
        have F_2155 : Fld Z h2151 b2151 "org/precedence/Takeover" "unstamped" "Ljava/util/List;" .null := D2151 (Or.inr (hw _ (List.mem_of_getElem? (i := 57) rfl))) (ty := (.object "java/util/List")) (by decide)
        have F_2156 : Fld Z h2151 b2151 "org/precedence/Takeover" "submitted" "Ljava/util/List;" .null := D2151 (Or.inr (hw _ (List.mem_of_getElem? (i := 59) rfl))) (ty := (.object "java/util/List")) (by decide)
        have F_2157 : Fld Z h2151 b2151 "org/precedence/Takeover" "next" "[J" .null := D2151 (Or.inr (hw _ (List.mem_of_getElem? (i := 62) rfl))) (ty := (.array .long)) (by decide)
        refine Gl.st (g' := (mkF m 92 #[.val (.int x0), .val (.int x1), .val (.int x2), .val (.long x3), .second, .val (.long x4), .second, .val (.int sz), .val (.int mm), .val (.long ss), .second, .val (.long tt), .second, .val (.int (1 : Int32)), .val (.int (1 : Int32)), .val (.int oo), .unset, .unset, .unset] [(.ref b2151)])) (fun τ κ => st2151 _ κ) ?_
        refine Gl.st (g' := (mkF m 93 #[.val (.int x0), .val (.int x1), .val (.int x2), .val (.long x3), .second, .val (.long x4), .second, .val (.int sz), .val (.int mm), .val (.long ss), .second, .val (.long tt), .second, .val (.int (1 : Int32)), .val (.int (1 : Int32)), .val (.int oo), .unset, .unset, .unset] [(.ref b2151), (.ref b2151)])) (fun τ κ => XS.dup X2151.here hx rfl (hb hby at_92) rfl rfl κ) ?_
        refine Gl.st (g' := (mkF m 95 #[.val (.int x0), .val (.int x1), .val (.int x2), .val (.long x3), .second, .val (.long x4), .second, .val (.int sz), .val (.int mm), .val (.long ss), .second, .val (.long tt), .second, .val (.int (1 : Int32)), .val (.int (1 : Int32)), .val (.int oo), .unset, .unset, .unset] [(.int sz), (.ref b2151), (.ref b2151)])) (fun τ κ => XS.iload X2151.here hx rfl (hb hby at_93) rfl κ) ?_
        obtain ⟨rv2158, _, ⟨T2158, L2158, k2158, n2158⟩, -, X2158, ⟨Lc2158, hQ2158, l2158, y2158, z2158⟩, st2158⟩ := X2151.specialBack hx (y := (⟨"org/precedence/Takeover", "<init>", "(I)V"⟩ : MethodName)) rfl hown (mvT hZ (hw _ (List.mem_of_getElem? (i := 5) rfl))) (mvT hZ (hw _ (List.mem_of_getElem? (i := 6) rfl))) (mvT hZ (hw _ (List.mem_of_getElem? (i := 7) rfl))) (by decide) (backOf (W := 1) (rm_initS l Z a0 hw [] b2151 sz de kd h2151 n0 Z2151 A2151 g_b2151 S_2152 V_2153 (Ne.symm ne_de_b2151) F_2154 F_2155 F_2156 F_2157 hsz) hZ (hw _ (List.mem_of_getElem? (i := 7) rfl)) (hw _ (List.mem_of_getElem? (i := 4) rfl)) (by decide) (by decide)) (g := (mkF m 95 #[.val (.int x0), .val (.int x1), .val (.int x2), .val (.long x3), .second, .val (.long x4), .second, .val (.int sz), .val (.int mm), .val (.long ss), .second, .val (.long tt), .second, .val (.int (1 : Int32)), .val (.int (1 : Int32)), .val (.int oo), .unset, .unset, .unset] [(.int sz), (.ref b2151), (.ref b2151)])) rfl (by rw [hml]; rfl) (Steps.refl _) (a := b2151) (argsL := [(.int sz)]) (rest := [(.ref b2151)]) (lenOf pd_9 rfl) rfl (by show 2 * 0 + _ ≤ _; exact Nat.le_of_eq rfl) (hb hby at_95) (fun _ _ => ⟨rfl, e2151, (by decide : 1 + 10 ≤ _), (by decide : 4 + 41 ≤ _)⟩)
        dsimp only [Pt.U, Pt.locs, Pt.cells, Pt.slots] at X2158 l2158 y2158 z2158 st2158 hQ2158
        subst l2158 y2158 z2158
        obtain ⟨t2158, kk2158, vs2158, rfl, N2158q, Kc2158, s2158, Ec2158, FN2158, V2158, hv2158⟩ := hQ2158
        have ne_de_t2158 : de ≠ t2158 := Nat.ne_of_lt (Nat.lt_of_lt_of_le V_2153.lt s2158)
        have ne_b2151_t2158 : b2151 ≠ t2158 := Nat.ne_of_lt (Nat.lt_of_lt_of_le A2151.lt s2158)
        have g_t2158 : n0 ≤ t2158 := Nat.le_trans Z2151 s2158
        have sz_t2158 : h0.size ≤ t2158 := Nat.le_trans K2151.1 s2158
        have E_2159 := A2151.keep Kc2158
        have N2158 := Fr.app N0 N2158q
        have Z2158 : n0 ≤ T2158.heap.size := Nat.le_trans Z2151 Kc2158.1
        have K2158 : Keep h0 T2158.heap [] := K2151.trans Kc2158 (allS (Or.inr sz_b2151) all0)
        have A0 := own_A0 hv2158
        refine Gl.st (g' := (mkF m 98 #[.val (.int x0), .val (.int x1), .val (.int x2), .val (.long x3), .second, .val (.long x4), .second, .val (.int sz), .val (.int mm), .val (.long ss), .second, .val (.long tt), .second, .val (.int (1 : Int32)), .val (.int (1 : Int32)), .val (.int oo), .unset, .unset, .unset] [(.ref b2151)])) (fun τ κ => st2158.trans κ) ?_
        refine Gl.st (g' := (mkF m 100 #[.val (.int x0), .val (.int x1), .val (.int x2), .val (.long x3), .second, .val (.long x4), .second, .val (.int sz), .val (.int mm), .val (.long ss), .second, .val (.long tt), .second, .val (.int (1 : Int32)), .val (.int (1 : Int32)), .val (.int oo), .val (.ref b2151), .unset, .unset] [])) (fun τ κ => XS.astore X2158.here hx rfl (hb hby at_98) rfl rfl (l' := #[.val (.int x0), .val (.int x1), .val (.int x2), .val (.long x3), .second, .val (.long x4), .second, .val (.int sz), .val (.int mm), .val (.long ss), .second, .val (.long tt), .second, .val (.int (1 : Int32)), .val (.int (1 : Int32)), .val (.int oo), .val (.ref b2151), .unset, .unset]) rfl κ) ?_
        refine Gl.st (g' := (mkF m 102 #[.val (.int x0), .val (.int x1), .val (.int x2), .val (.long x3), .second, .val (.long x4), .second, .val (.int sz), .val (.int mm), .val (.long ss), .second, .val (.long tt), .second, .val (.int (1 : Int32)), .val (.int (1 : Int32)), .val (.int oo), .val (.ref b2151), .unset, .unset] [(.int (1 : Int32))])) (fun τ κ => XS.iload X2158.here hx rfl (hb hby at_100) rfl κ) ?_
        have hc2164 : ¬ ((1 : Int32) = (0 : Int32)) := by decide
        refine Gl.st (g' := (mkF m 105 #[.val (.int x0), .val (.int x1), .val (.int x2), .val (.long x3), .second, .val (.long x4), .second, .val (.int sz), .val (.int mm), .val (.long ss), .second, .val (.long tt), .second, .val (.int (1 : Int32)), .val (.int (1 : Int32)), .val (.int oo), .val (.ref b2151), .unset, .unset] [])) (fun τ κ => XS.ifNo X2158.here hx rfl (hb hby at_102) rfl ((if0 _ _).trans (feq hc2164).1) κ) ?_
        refine Gl.st (g' := (mkF m 107 #[.val (.int x0), .val (.int x1), .val (.int x2), .val (.long x3), .second, .val (.long x4), .second, .val (.int sz), .val (.int mm), .val (.long ss), .second, .val (.long tt), .second, .val (.int (1 : Int32)), .val (.int (1 : Int32)), .val (.int oo), .val (.ref b2151), .unset, .unset] [(.int (1 : Int32))])) (fun τ κ => XS.iload X2158.here hx rfl (hb hby at_105) rfl κ) ?_
        have hc2165 : ¬ ((1 : Int32) = (0 : Int32)) := by decide
        refine Gl.st (g' := (mkF m 110 #[.val (.int x0), .val (.int x1), .val (.int x2), .val (.long x3), .second, .val (.long x4), .second, .val (.int sz), .val (.int mm), .val (.long ss), .second, .val (.long tt), .second, .val (.int (1 : Int32)), .val (.int (1 : Int32)), .val (.int oo), .val (.ref b2151), .unset, .unset] [])) (fun τ κ => XS.ifNo X2158.here hx rfl (hb hby at_107) rfl ((if0 _ _).trans (feq hc2165).1) κ) ?_
        refine Gl.st (g' := (mkF m 112 #[.val (.int x0), .val (.int x1), .val (.int x2), .val (.long x3), .second, .val (.long x4), .second, .val (.int sz), .val (.int mm), .val (.long ss), .second, .val (.long tt), .second, .val (.int (1 : Int32)), .val (.int (1 : Int32)), .val (.int oo), .val (.ref b2151), .unset, .unset] [(.ref b2151)])) (fun τ κ => XS.aload X2158.here hx rfl (hb hby at_110) rfl rfl κ) ?_
        refine Gl.st (g' := (mkF m 114 #[.val (.int x0), .val (.int x1), .val (.int x2), .val (.long x3), .second, .val (.long x4), .second, .val (.int sz), .val (.int mm), .val (.long ss), .second, .val (.long tt), .second, .val (.int (1 : Int32)), .val (.int (1 : Int32)), .val (.int oo), .val (.ref b2151), .unset, .unset] [(.int oo), (.ref b2151)])) (fun τ κ => XS.iload X2158.here hx rfl (hb hby at_112) rfl κ) ?_
        refine Gl.st (g' := (mkF m 116 #[.val (.int x0), .val (.int x1), .val (.int x2), .val (.long x3), .second, .val (.long x4), .second, .val (.int sz), .val (.int mm), .val (.long ss), .second, .val (.long tt), .second, .val (.int (1 : Int32)), .val (.int (1 : Int32)), .val (.int oo), .val (.ref b2151), .unset, .unset] [(.long tt), (.int oo), (.ref b2151)])) (fun τ κ => XS.lload X2158.here hx rfl (hb hby at_114) rfl κ) ?_
        obtain ⟨cq2166, kq2166, q2166a, q2166b, q2166c⟩ := isOf hZ rfl Ec2158
        obtain ⟨rv2166, _, ⟨T2166, L2166, k2166, n2166⟩, -, X2166, ⟨Lc2166, hQ2166, l2166, y2166, z2166⟩, st2166⟩ := X2158.virtualBack hx (y := (⟨"org/precedence/Takeover", "reported", "(IJ)V"⟩ : MethodName)) (z := (⟨"org/precedence/Takeover", "reported", "(IJ)V"⟩ : MethodName)) hown (mvT hZ (hw _ (List.mem_of_getElem? (i := 108) rfl))) (mvT hZ (hw _ (List.mem_of_getElem? (i := 109) rfl))) (notFace_of_selects (args := #[]) (mvT hZ (hw _ (List.mem_of_getElem? (i := 111) rfl)))) (mvT hZ (hw _ (List.mem_of_getElem? (i := 111) rfl))) (mvT hZ (hw _ (List.mem_of_getElem? (i := 110) rfl))) (by decide) (backOf (W := 0) (rm15 l Z a0 hw [] b2151 oo tt t2158 kk2158 sz vs2158 T2158.heap n0 Z2158 FN2158 V2158 ho.1 ho.2.1 g_t2158 (own_n0 (A0 oo ho.1 ho.2.1)) htt ne_b2151_t2158) hZ (hw _ (List.mem_of_getElem? (i := 112) rfl)) (hw _ (List.mem_of_getElem? (i := 4) rfl)) (by decide) (by decide)) q2166a q2166c (g := (mkF m 116 #[.val (.int x0), .val (.int x1), .val (.int x2), .val (.long x3), .second, .val (.long x4), .second, .val (.int sz), .val (.int mm), .val (.long ss), .second, .val (.long tt), .second, .val (.int (1 : Int32)), .val (.int (1 : Int32)), .val (.int oo), .val (.ref b2151), .unset, .unset] [(.long tt), (.int oo), (.ref b2151)])) rfl (by rw [hml]; rfl) (Steps.refl _) (argsL := [(.int oo), (.long tt)]) (rest := []) (lenOf pd_10 rfl) rfl (by show 2 * 0 + _ ≤ _; exact Nat.le_of_eq rfl) (hb hby at_116) (fun _ _ => ⟨rfl, rfl, (by decide : 11 + 0 ≤ _), (by decide : 45 + 0 ≤ _)⟩)
        dsimp only [Pt.U, Pt.locs, Pt.cells, Pt.slots] at X2166 l2166 y2166 z2166 st2166 hQ2166
        subst l2166 y2166 z2166
        obtain ⟨vs2166, rfl, N2166q, Kc2166, V2166, hv2166⟩ := hQ2166
        have E_2167 := Ec2158.keep Kc2166
        have F_2168 := FN2158.keep Kc2166 (ninS ne_b2151_t2158 nin0)
        have N2166 := Fr.app N2158 N2166q
        have Z2166 : n0 ≤ T2166.heap.size := Nat.le_trans Z2158 Kc2166.1
        have K2166 : Keep h0 T2166.heap [] := K2158.trans Kc2166 (allS (Or.inr sz_t2158) all0)
        have A2166 := own_A ho.1 hv2166
        refine Gl.st (g' := (mkF m 119 #[.val (.int x0), .val (.int x1), .val (.int x2), .val (.long x3), .second, .val (.long x4), .second, .val (.int sz), .val (.int mm), .val (.long ss), .second, .val (.long tt), .second, .val (.int (1 : Int32)), .val (.int (1 : Int32)), .val (.int oo), .val (.ref b2151), .unset, .unset] [])) (fun τ κ => st2166.trans κ) ?_
        refine Gl.st (g' := (mkF m 121 #[.val (.int x0), .val (.int x1), .val (.int x2), .val (.long x3), .second, .val (.long x4), .second, .val (.int sz), .val (.int mm), .val (.long ss), .second, .val (.long tt), .second, .val (.int (1 : Int32)), .val (.int (1 : Int32)), .val (.int oo), .val (.ref b2151), .unset, .unset] [(.ref b2151)])) (fun τ κ => XS.aload X2166.here hx rfl (hb hby at_119) rfl rfl κ) ?_
        refine Gl.st (g' := (mkF m 123 #[.val (.int x0), .val (.int x1), .val (.int x2), .val (.long x3), .second, .val (.long x4), .second, .val (.int sz), .val (.int mm), .val (.long ss), .second, .val (.long tt), .second, .val (.int (1 : Int32)), .val (.int (1 : Int32)), .val (.int oo), .val (.ref b2151), .unset, .unset] [(.int mm), (.ref b2151)])) (fun τ κ => XS.iload X2166.here hx rfl (hb hby at_121) rfl κ) ?_
        obtain ⟨cq2170, kq2170, q2170a, q2170b, q2170c⟩ := isOf hZ rfl E_2167
        obtain ⟨rv2170, _, ⟨T2170, L2170, k2170, n2170⟩, -, X2170, ⟨Lc2170, hQ2170, l2170, y2170, z2170⟩, st2170⟩ := X2166.virtualBack hx (y := (⟨"org/precedence/Takeover", "hasReported", "(I)Z"⟩ : MethodName)) (z := (⟨"org/precedence/Takeover", "hasReported", "(I)Z"⟩ : MethodName)) hown (mvT hZ (hw _ (List.mem_of_getElem? (i := 103) rfl))) (mvT hZ (hw _ (List.mem_of_getElem? (i := 104) rfl))) (notFace_of_selects (args := #[]) (mvT hZ (hw _ (List.mem_of_getElem? (i := 106) rfl)))) (mvT hZ (hw _ (List.mem_of_getElem? (i := 106) rfl))) (mvT hZ (hw _ (List.mem_of_getElem? (i := 105) rfl))) (by decide) (backOf (W := 0) (rm14 l Z a0 hw [] b2151 mm t2158 kk2158 sz vs2166 T2166.heap n0 Z2166 F_2168 V2166 hm.1 hm.2) hZ (hw _ (List.mem_of_getElem? (i := 107) rfl)) (hw _ (List.mem_of_getElem? (i := 4) rfl)) (by decide) (by decide)) q2170a q2170c (g := (mkF m 123 #[.val (.int x0), .val (.int x1), .val (.int x2), .val (.long x3), .second, .val (.long x4), .second, .val (.int sz), .val (.int mm), .val (.long ss), .second, .val (.long tt), .second, .val (.int (1 : Int32)), .val (.int (1 : Int32)), .val (.int oo), .val (.ref b2151), .unset, .unset] [(.int mm), (.ref b2151)])) rfl (by rw [hml]; rfl) (Steps.refl _) (argsL := [(.int mm)]) (rest := []) (lenOf pd_7 rfl) rfl (by show 2 * 0 + _ ≤ _; exact Nat.le_of_eq rfl) (hb hby at_123) (fun _ _ => ⟨rfl, rfl, (by decide : 11 + 0 ≤ _), (by decide : 45 + 0 ≤ _)⟩)
        dsimp only [Pt.U, Pt.locs, Pt.cells, Pt.slots] at X2170 l2170 y2170 z2170 st2170 hQ2170
        subst l2170 y2170 z2170
        obtain ⟨rfl, N2170q, e2170⟩ := hQ2170
        have N2170 := Fr.app N2166 N2170q
        refine Gl.st (g' := (mkF m 126 #[.val (.int x0), .val (.int x1), .val (.int x2), .val (.long x3), .second, .val (.long x4), .second, .val (.int sz), .val (.int mm), .val (.long ss), .second, .val (.long tt), .second, .val (.int (1 : Int32)), .val (.int (1 : Int32)), .val (.int oo), .val (.ref b2151), .unset, .unset] [(.int (own_rep vs2166 mm))])) (fun τ κ => st2170.trans κ) ?_
        have hc2171 : (own_rep vs2166 mm) = (0 : Int32) := own_r0 (((A2166 mm hm.1).trans (if_neg ho.2.2)).trans (A0 mm hm.1 hm.2))
        refine Gl.st (g' := (mkF m 129 #[.val (.int x0), .val (.int x1), .val (.int x2), .val (.long x3), .second, .val (.long x4), .second, .val (.int sz), .val (.int mm), .val (.long ss), .second, .val (.long tt), .second, .val (.int (1 : Int32)), .val (.int (1 : Int32)), .val (.int oo), .val (.ref b2151), .unset, .unset] [])) (fun τ κ => XS.ifNo X2170.here hx rfl (hb hby at_126) rfl ((if0 _ _).trans (teq hc2171).2) κ) ?_
        refine Gl.st (g' := (mkF m 130 #[.val (.int x0), .val (.int x1), .val (.int x2), .val (.long x3), .second, .val (.long x4), .second, .val (.int sz), .val (.int mm), .val (.long ss), .second, .val (.long tt), .second, .val (.int (1 : Int32)), .val (.int (1 : Int32)), .val (.int oo), .val (.ref b2151), .unset, .unset] [(.int (1 : Int32))])) (fun τ κ => XS.iconst X2170.here hx rfl (hb hby at_129) κ) ?_
        refine Gl.st (g' := (mkF m 134 #[.val (.int x0), .val (.int x1), .val (.int x2), .val (.long x3), .second, .val (.long x4), .second, .val (.int sz), .val (.int mm), .val (.long ss), .second, .val (.long tt), .second, .val (.int (1 : Int32)), .val (.int (1 : Int32)), .val (.int oo), .val (.ref b2151), .unset, .unset] [(.int (1 : Int32))])) (fun τ κ => XS.goto X2170.here hx rfl (pc0 := 130) (pc' := 134) rfl (hb hby at_130) (by decide) (by decide) κ) ?_
        refine Gl.st (g' := (mkF m 136 #[.val (.int x0), .val (.int x1), .val (.int x2), .val (.long x3), .second, .val (.long x4), .second, .val (.int sz), .val (.int mm), .val (.long ss), .second, .val (.long tt), .second, .val (.int (1 : Int32)), .val (.int (1 : Int32)), .val (.int oo), .val (.ref b2151), .val (.int (1 : Int32)), .unset] [])) (fun τ κ => XS.istore X2170.here hx rfl (hb hby at_134) rfl (l' := #[.val (.int x0), .val (.int x1), .val (.int x2), .val (.long x3), .second, .val (.long x4), .second, .val (.int sz), .val (.int mm), .val (.long ss), .second, .val (.long tt), .second, .val (.int (1 : Int32)), .val (.int (1 : Int32)), .val (.int oo), .val (.ref b2151), .val (.int (1 : Int32)), .unset]) rfl κ) ?_
        refine Gl.st (g' := (mkF m 138 #[.val (.int x0), .val (.int x1), .val (.int x2), .val (.long x3), .second, .val (.long x4), .second, .val (.int sz), .val (.int mm), .val (.long ss), .second, .val (.long tt), .second, .val (.int (1 : Int32)), .val (.int (1 : Int32)), .val (.int oo), .val (.ref b2151), .val (.int (1 : Int32)), .unset] [(.ref b2151)])) (fun τ κ => XS.aload X2170.here hx rfl (hb hby at_136) rfl rfl κ) ?_
        refine Gl.st (g' := (mkF m 140 #[.val (.int x0), .val (.int x1), .val (.int x2), .val (.long x3), .second, .val (.long x4), .second, .val (.int sz), .val (.int mm), .val (.long ss), .second, .val (.long tt), .second, .val (.int (1 : Int32)), .val (.int (1 : Int32)), .val (.int oo), .val (.ref b2151), .val (.int (1 : Int32)), .unset] [(.int mm), (.ref b2151)])) (fun τ κ => XS.iload X2170.here hx rfl (hb hby at_138) rfl κ) ?_
        refine Gl.st (g' := (mkF m 142 #[.val (.int x0), .val (.int x1), .val (.int x2), .val (.long x3), .second, .val (.long x4), .second, .val (.int sz), .val (.int mm), .val (.long ss), .second, .val (.long tt), .second, .val (.int (1 : Int32)), .val (.int (1 : Int32)), .val (.int oo), .val (.ref b2151), .val (.int (1 : Int32)), .unset] [(.long ss), (.int mm), (.ref b2151)])) (fun τ κ => XS.lload X2170.here hx rfl (hb hby at_140) rfl κ) ?_
        obtain ⟨cq2172, kq2172, q2172a, q2172b, q2172c⟩ := isOf hZ e2170 E_2167
        obtain ⟨rv2172, _, ⟨T2172, L2172, k2172, n2172⟩, -, X2172, ⟨Lc2172, hQ2172, l2172, y2172, z2172⟩, st2172⟩ := X2170.virtualBack hx (y := (⟨"org/precedence/Takeover", "reported", "(IJ)V"⟩ : MethodName)) (z := (⟨"org/precedence/Takeover", "reported", "(IJ)V"⟩ : MethodName)) hown (mvT hZ (hw _ (List.mem_of_getElem? (i := 108) rfl))) (mvT hZ (hw _ (List.mem_of_getElem? (i := 109) rfl))) (notFace_of_selects (args := #[]) (mvT hZ (hw _ (List.mem_of_getElem? (i := 111) rfl)))) (mvT hZ (hw _ (List.mem_of_getElem? (i := 111) rfl))) (mvT hZ (hw _ (List.mem_of_getElem? (i := 110) rfl))) (by decide) (backOf (W := 0) (rm15 l Z a0 hw [] b2151 mm ss t2158 kk2158 sz vs2166 T2166.heap n0 Z2166 F_2168 V2166 hm.1 hm.2 g_t2158 (own_n0 (((A2166 mm hm.1).trans (if_neg ho.2.2)).trans (A0 mm hm.1 hm.2))) hss ne_b2151_t2158) hZ (hw _ (List.mem_of_getElem? (i := 112) rfl)) (hw _ (List.mem_of_getElem? (i := 4) rfl)) (by decide) (by decide)) q2172a q2172c (g := (mkF m 142 #[.val (.int x0), .val (.int x1), .val (.int x2), .val (.long x3), .second, .val (.long x4), .second, .val (.int sz), .val (.int mm), .val (.long ss), .second, .val (.long tt), .second, .val (.int (1 : Int32)), .val (.int (1 : Int32)), .val (.int oo), .val (.ref b2151), .val (.int (1 : Int32)), .unset] [(.long ss), (.int mm), (.ref b2151)])) rfl (by rw [hml]; rfl) (Steps.refl _) (argsL := [(.int mm), (.long ss)]) (rest := []) (lenOf pd_10 rfl) rfl (by show 2 * 0 + _ ≤ _; exact Nat.le_of_eq rfl) (hb hby at_142) (fun _ _ => ⟨rfl, e2170, (by decide : 11 + 0 ≤ _), (by decide : 45 + 0 ≤ _)⟩)
        dsimp only [Pt.U, Pt.locs, Pt.cells, Pt.slots] at X2172 l2172 y2172 z2172 st2172 hQ2172
        subst l2172 y2172 z2172
        obtain ⟨vs2172, rfl, N2172q, Kc2172, V2172, hv2172⟩ := hQ2172
        have E_2173 := E_2167.keep Kc2172
        have F_2174 := F_2168.keep Kc2172 (ninS ne_b2151_t2158 nin0)
        have N2172 := Fr.app N2170 N2172q
        have Z2172 : n0 ≤ T2172.heap.size := Nat.le_trans Z2166 Kc2172.1
        have K2172 : Keep h0 T2172.heap [] := K2166.trans Kc2172 (allS (Or.inr sz_t2158) all0)
        have A2172 := own_A hm.1 hv2172
        refine Gl.st (g' := (mkF m 145 #[.val (.int x0), .val (.int x1), .val (.int x2), .val (.long x3), .second, .val (.long x4), .second, .val (.int sz), .val (.int mm), .val (.long ss), .second, .val (.long tt), .second, .val (.int (1 : Int32)), .val (.int (1 : Int32)), .val (.int oo), .val (.ref b2151), .val (.int (1 : Int32)), .unset] [])) (fun τ κ => st2172.trans κ) ?_
        refine Gl.st (g' := (mkF m 147 #[.val (.int x0), .val (.int x1), .val (.int x2), .val (.long x3), .second, .val (.long x4), .second, .val (.int sz), .val (.int mm), .val (.long ss), .second, .val (.long tt), .second, .val (.int (1 : Int32)), .val (.int (1 : Int32)), .val (.int oo), .val (.ref b2151), .val (.int (1 : Int32)), .unset] [(.int (1 : Int32))])) (fun τ κ => XS.iload X2172.here hx rfl (hb hby at_145) rfl κ) ?_
        have hc2176 : ¬ ((1 : Int32) = (0 : Int32)) := by decide
        refine Gl.st (g' := (mkF m 150 #[.val (.int x0), .val (.int x1), .val (.int x2), .val (.long x3), .second, .val (.long x4), .second, .val (.int sz), .val (.int mm), .val (.long ss), .second, .val (.long tt), .second, .val (.int (1 : Int32)), .val (.int (1 : Int32)), .val (.int oo), .val (.ref b2151), .val (.int (1 : Int32)), .unset] [])) (fun τ κ => XS.ifNo X2172.here hx rfl (hb hby at_147) rfl ((if0 _ _).trans (feq hc2176).1) κ) ?_
        refine Gl.st (g' := (mkF m 152 #[.val (.int x0), .val (.int x1), .val (.int x2), .val (.long x3), .second, .val (.long x4), .second, .val (.int sz), .val (.int mm), .val (.long ss), .second, .val (.long tt), .second, .val (.int (1 : Int32)), .val (.int (1 : Int32)), .val (.int oo), .val (.ref b2151), .val (.int (1 : Int32)), .unset] [(.int (1 : Int32))])) (fun τ κ => XS.iload X2172.here hx rfl (hb hby at_150) rfl κ) ?_
        have hc2177 : ¬ ((1 : Int32) = (0 : Int32)) := by decide
        refine Gl.st (g' := (mkF m 164 #[.val (.int x0), .val (.int x1), .val (.int x2), .val (.long x3), .second, .val (.long x4), .second, .val (.int sz), .val (.int mm), .val (.long ss), .second, .val (.long tt), .second, .val (.int (1 : Int32)), .val (.int (1 : Int32)), .val (.int oo), .val (.ref b2151), .val (.int (1 : Int32)), .unset] [])) (fun τ κ => XS.ifYes X2172.here hx rfl (pc0 := 152) (pc' := 164) rfl (hb hby at_152) rfl ((if0 _ _).trans (feq hc2177).2) (by decide) (by decide) κ) ?_
        refine Gl.st (g' := (mkF m 166 #[.val (.int x0), .val (.int x1), .val (.int x2), .val (.long x3), .second, .val (.long x4), .second, .val (.int sz), .val (.int mm), .val (.long ss), .second, .val (.long tt), .second, .val (.int (1 : Int32)), .val (.int (1 : Int32)), .val (.int oo), .val (.ref b2151), .val (.int (1 : Int32)), .unset] [(.int (1 : Int32))])) (fun τ κ => XS.iload X2172.here hx rfl (hb hby at_164) rfl κ) ?_
        have hc2178 : ¬ ((1 : Int32) = (0 : Int32)) := by decide
        refine Gl.st (g' := (mkF m 169 #[.val (.int x0), .val (.int x1), .val (.int x2), .val (.long x3), .second, .val (.long x4), .second, .val (.int sz), .val (.int mm), .val (.long ss), .second, .val (.long tt), .second, .val (.int (1 : Int32)), .val (.int (1 : Int32)), .val (.int oo), .val (.ref b2151), .val (.int (1 : Int32)), .unset] [])) (fun τ κ => XS.ifNo X2172.here hx rfl (hb hby at_166) rfl ((if0 _ _).trans (feq hc2178).1) κ) ?_
        refine Gl.st (g' := (mkF m 171 #[.val (.int x0), .val (.int x1), .val (.int x2), .val (.long x3), .second, .val (.long x4), .second, .val (.int sz), .val (.int mm), .val (.long ss), .second, .val (.long tt), .second, .val (.int (1 : Int32)), .val (.int (1 : Int32)), .val (.int oo), .val (.ref b2151), .val (.int (1 : Int32)), .unset] [(.ref b2151)])) (fun τ κ => XS.aload X2172.here hx rfl (hb hby at_169) rfl rfl κ) ?_
        refine Gl.st (g' := (mkF m 173 #[.val (.int x0), .val (.int x1), .val (.int x2), .val (.long x3), .second, .val (.long x4), .second, .val (.int sz), .val (.int mm), .val (.long ss), .second, .val (.long tt), .second, .val (.int (1 : Int32)), .val (.int (1 : Int32)), .val (.int oo), .val (.ref b2151), .val (.int (1 : Int32)), .unset] [(.int mm), (.ref b2151)])) (fun τ κ => XS.iload X2172.here hx rfl (hb hby at_171) rfl κ) ?_
        obtain ⟨cq2179, kq2179, q2179a, q2179b, q2179c⟩ := isOf hZ rfl E_2173
        obtain ⟨rv2179, _, ⟨T2179, L2179, k2179, n2179⟩, -, X2179, ⟨Lc2179, hQ2179, l2179, y2179, z2179⟩, st2179⟩ := X2172.virtualBack hx (y := (⟨"org/precedence/Takeover", "hasReported", "(I)Z"⟩ : MethodName)) (z := (⟨"org/precedence/Takeover", "hasReported", "(I)Z"⟩ : MethodName)) hown (mvT hZ (hw _ (List.mem_of_getElem? (i := 103) rfl))) (mvT hZ (hw _ (List.mem_of_getElem? (i := 104) rfl))) (notFace_of_selects (args := #[]) (mvT hZ (hw _ (List.mem_of_getElem? (i := 106) rfl)))) (mvT hZ (hw _ (List.mem_of_getElem? (i := 106) rfl))) (mvT hZ (hw _ (List.mem_of_getElem? (i := 105) rfl))) (by decide) (backOf (W := 0) (rm14 l Z a0 hw [] b2151 mm t2158 kk2158 sz vs2172 T2172.heap n0 Z2172 F_2174 V2172 hm.1 hm.2) hZ (hw _ (List.mem_of_getElem? (i := 107) rfl)) (hw _ (List.mem_of_getElem? (i := 4) rfl)) (by decide) (by decide)) q2179a q2179c (g := (mkF m 173 #[.val (.int x0), .val (.int x1), .val (.int x2), .val (.long x3), .second, .val (.long x4), .second, .val (.int sz), .val (.int mm), .val (.long ss), .second, .val (.long tt), .second, .val (.int (1 : Int32)), .val (.int (1 : Int32)), .val (.int oo), .val (.ref b2151), .val (.int (1 : Int32)), .unset] [(.int mm), (.ref b2151)])) rfl (by rw [hml]; rfl) (Steps.refl _) (argsL := [(.int mm)]) (rest := []) (lenOf pd_7 rfl) rfl (by show 2 * 0 + _ ≤ _; exact Nat.le_of_eq rfl) (hb hby at_173) (fun _ _ => ⟨rfl, rfl, (by decide : 11 + 0 ≤ _), (by decide : 45 + 0 ≤ _)⟩)
        dsimp only [Pt.U, Pt.locs, Pt.cells, Pt.slots] at X2179 l2179 y2179 z2179 st2179 hQ2179
        subst l2179 y2179 z2179
        obtain ⟨rfl, N2179q, e2179⟩ := hQ2179
        have N2179 := Fr.app N2172 N2179q
        refine Gl.st (g' := (mkF m 176 #[.val (.int x0), .val (.int x1), .val (.int x2), .val (.long x3), .second, .val (.long x4), .second, .val (.int sz), .val (.int mm), .val (.long ss), .second, .val (.long tt), .second, .val (.int (1 : Int32)), .val (.int (1 : Int32)), .val (.int oo), .val (.ref b2151), .val (.int (1 : Int32)), .unset] [(.int (own_rep vs2172 mm))])) (fun τ κ => st2179.trans κ) ?_
        have hc2180 : ¬ ((own_rep vs2172 mm) = (0 : Int32)) := own_r1 ((A2172 mm hm.1).trans (if_pos rfl)) hss
        refine Gl.st (g' := (mkF m 179 #[.val (.int x0), .val (.int x1), .val (.int x2), .val (.long x3), .second, .val (.long x4), .second, .val (.int sz), .val (.int mm), .val (.long ss), .second, .val (.long tt), .second, .val (.int (1 : Int32)), .val (.int (1 : Int32)), .val (.int oo), .val (.ref b2151), .val (.int (1 : Int32)), .unset] [])) (fun τ κ => XS.ifNo X2179.here hx rfl (hb hby at_176) rfl ((if0 _ _).trans (feq hc2180).1) κ) ?_
        refine Gl.st (g' := (mkF m 181 #[.val (.int x0), .val (.int x1), .val (.int x2), .val (.long x3), .second, .val (.long x4), .second, .val (.int sz), .val (.int mm), .val (.long ss), .second, .val (.long tt), .second, .val (.int (1 : Int32)), .val (.int (1 : Int32)), .val (.int oo), .val (.ref b2151), .val (.int (1 : Int32)), .unset] [(.ref b2151)])) (fun τ κ => XS.aload X2179.here hx rfl (hb hby at_179) rfl rfl κ) ?_
        refine Gl.st (g' := (mkF m 183 #[.val (.int x0), .val (.int x1), .val (.int x2), .val (.long x3), .second, .val (.long x4), .second, .val (.int sz), .val (.int mm), .val (.long ss), .second, .val (.long tt), .second, .val (.int (1 : Int32)), .val (.int (1 : Int32)), .val (.int oo), .val (.ref b2151), .val (.int (1 : Int32)), .unset] [(.int mm), (.ref b2151)])) (fun τ κ => XS.iload X2179.here hx rfl (hb hby at_181) rfl κ) ?_
        obtain ⟨cq2181, kq2181, q2181a, q2181b, q2181c⟩ := isOf hZ e2179 E_2173
        obtain ⟨rv2181, _, ⟨T2181, L2181, k2181, n2181⟩, -, X2181, ⟨Lc2181, hQ2181, l2181, y2181, z2181⟩, st2181⟩ := X2179.virtualBack hx (y := (⟨"org/precedence/Takeover", "next", "(I)J"⟩ : MethodName)) (z := (⟨"org/precedence/Takeover", "next", "(I)J"⟩ : MethodName)) hown (mvT hZ (hw _ (List.mem_of_getElem? (i := 113) rfl))) (mvT hZ (hw _ (List.mem_of_getElem? (i := 114) rfl))) (notFace_of_selects (args := #[]) (mvT hZ (hw _ (List.mem_of_getElem? (i := 116) rfl)))) (mvT hZ (hw _ (List.mem_of_getElem? (i := 116) rfl))) (mvT hZ (hw _ (List.mem_of_getElem? (i := 115) rfl))) (by decide) (backOf (W := 0) (rm16 l Z a0 hw [] b2151 mm t2158 kk2158 sz vs2172 T2172.heap n0 Z2172 F_2174 V2172 hm.1 hm.2) hZ (hw _ (List.mem_of_getElem? (i := 117) rfl)) (hw _ (List.mem_of_getElem? (i := 4) rfl)) (by decide) (by decide)) q2181a q2181c (g := (mkF m 183 #[.val (.int x0), .val (.int x1), .val (.int x2), .val (.long x3), .second, .val (.long x4), .second, .val (.int sz), .val (.int mm), .val (.long ss), .second, .val (.long tt), .second, .val (.int (1 : Int32)), .val (.int (1 : Int32)), .val (.int oo), .val (.ref b2151), .val (.int (1 : Int32)), .unset] [(.int mm), (.ref b2151)])) rfl (by rw [hml]; rfl) (Steps.refl _) (argsL := [(.int mm)]) (rest := []) (lenOf pd_11 rfl) rfl (by show 2 * 0 + _ ≤ _; exact Nat.le_of_eq rfl) (hb hby at_183) (fun _ _ => ⟨rfl, e2179, (by decide : 11 + 0 ≤ _), (by decide : 45 + 0 ≤ _)⟩)
        dsimp only [Pt.U, Pt.locs, Pt.cells, Pt.slots] at X2181 l2181 y2181 z2181 st2181 hQ2181
        subst l2181 y2181 z2181
        obtain ⟨rfl, N2181q, e2181⟩ := hQ2181
        have N2181 := Fr.app N2179 N2181q
        refine Gl.st (g' := (mkF m 186 #[.val (.int x0), .val (.int x1), .val (.int x2), .val (.long x3), .second, .val (.long x4), .second, .val (.int sz), .val (.int mm), .val (.long ss), .second, .val (.long tt), .second, .val (.int (1 : Int32)), .val (.int (1 : Int32)), .val (.int oo), .val (.ref b2151), .val (.int (1 : Int32)), .unset] [(.long (own_at vs2172 mm))])) (fun τ κ => st2181.trans κ) ?_
        refine Gl.st (g' := (mkF m 188 #[.val (.int x0), .val (.int x1), .val (.int x2), .val (.long x3), .second, .val (.long x4), .second, .val (.int sz), .val (.int mm), .val (.long ss), .second, .val (.long tt), .second, .val (.int (1 : Int32)), .val (.int (1 : Int32)), .val (.int oo), .val (.ref b2151), .val (.int (1 : Int32)), .unset] [(.long ss), (.long (own_at vs2172 mm))])) (fun τ κ => XS.lload X2181.here hx rfl (hb hby at_186) rfl κ) ?_
        refine Gl.st (g' := (mkF m 189 #[.val (.int x0), .val (.int x1), .val (.int x2), .val (.long x3), .second, .val (.long x4), .second, .val (.int sz), .val (.int mm), .val (.long ss), .second, .val (.long tt), .second, .val (.int (1 : Int32)), .val (.int (1 : Int32)), .val (.int oo), .val (.ref b2151), .val (.int (1 : Int32)), .unset] [(.int (lcmpW (own_at vs2172 mm) ss))])) (fun τ κ => XS.lcmp X2181.here hx rfl (hb hby at_188) rfl κ) ?_
        have hc2182 : (own_at vs2172 mm) = ss := ((A2172 mm hm.1).trans (if_pos rfl))
        refine Gl.st (g' := (mkF m 192 #[.val (.int x0), .val (.int x1), .val (.int x2), .val (.long x3), .second, .val (.long x4), .second, .val (.int sz), .val (.int mm), .val (.long ss), .second, .val (.long tt), .second, .val (.int (1 : Int32)), .val (.int (1 : Int32)), .val (.int oo), .val (.ref b2151), .val (.int (1 : Int32)), .unset] [])) (fun τ κ => XS.ifNo X2181.here hx rfl (hb hby at_189) rfl ((if0 _ _).trans (teq ((lw_eq (own_at vs2172 mm) ss).mpr hc2182)).2) κ) ?_
        refine Gl.st (g' := (mkF m 193 #[.val (.int x0), .val (.int x1), .val (.int x2), .val (.long x3), .second, .val (.long x4), .second, .val (.int sz), .val (.int mm), .val (.long ss), .second, .val (.long tt), .second, .val (.int (1 : Int32)), .val (.int (1 : Int32)), .val (.int oo), .val (.ref b2151), .val (.int (1 : Int32)), .unset] [(.int (1 : Int32))])) (fun τ κ => XS.iconst X2181.here hx rfl (hb hby at_192) κ) ?_
        refine Gl.st (g' := (mkF m 197 #[.val (.int x0), .val (.int x1), .val (.int x2), .val (.long x3), .second, .val (.long x4), .second, .val (.int sz), .val (.int mm), .val (.long ss), .second, .val (.long tt), .second, .val (.int (1 : Int32)), .val (.int (1 : Int32)), .val (.int oo), .val (.ref b2151), .val (.int (1 : Int32)), .unset] [(.int (1 : Int32))])) (fun τ κ => XS.goto X2181.here hx rfl (pc0 := 193) (pc' := 197) rfl (hb hby at_193) (by decide) (by decide) κ) ?_
        refine Gl.st (g' := (mkF m 199 #[.val (.int x0), .val (.int x1), .val (.int x2), .val (.long x3), .second, .val (.long x4), .second, .val (.int sz), .val (.int mm), .val (.long ss), .second, .val (.long tt), .second, .val (.int (1 : Int32)), .val (.int (1 : Int32)), .val (.int oo), .val (.ref b2151), .val (.int (1 : Int32)), .val (.int (1 : Int32))] [])) (fun τ κ => XS.istore X2181.here hx rfl (hb hby at_197) rfl (l' := #[.val (.int x0), .val (.int x1), .val (.int x2), .val (.long x3), .second, .val (.long x4), .second, .val (.int sz), .val (.int mm), .val (.long ss), .second, .val (.long tt), .second, .val (.int (1 : Int32)), .val (.int (1 : Int32)), .val (.int oo), .val (.ref b2151), .val (.int (1 : Int32)), .val (.int (1 : Int32))]) rfl κ) ?_
        refine Gl.st (g' := (mkF m 201 #[.val (.int x0), .val (.int x1), .val (.int x2), .val (.long x3), .second, .val (.long x4), .second, .val (.int sz), .val (.int mm), .val (.long ss), .second, .val (.long tt), .second, .val (.int (1 : Int32)), .val (.int (1 : Int32)), .val (.int oo), .val (.ref b2151), .val (.int (1 : Int32)), .val (.int (1 : Int32))] [(.int (1 : Int32))])) (fun τ κ => XS.iload X2181.here hx rfl (hb hby at_199) rfl κ) ?_
        have hc2183 : ¬ ((1 : Int32) = (0 : Int32)) := by decide
        refine Gl.st (g' := (mkF m 204 #[.val (.int x0), .val (.int x1), .val (.int x2), .val (.long x3), .second, .val (.long x4), .second, .val (.int sz), .val (.int mm), .val (.long ss), .second, .val (.long tt), .second, .val (.int (1 : Int32)), .val (.int (1 : Int32)), .val (.int oo), .val (.ref b2151), .val (.int (1 : Int32)), .val (.int (1 : Int32))] [])) (fun τ κ => XS.ifNo X2181.here hx rfl (hb hby at_201) rfl ((if0 _ _).trans (feq hc2183).1) κ) ?_
        refine Gl.st (g' := (mkF m 206 #[.val (.int x0), .val (.int x1), .val (.int x2), .val (.long x3), .second, .val (.long x4), .second, .val (.int sz), .val (.int mm), .val (.long ss), .second, .val (.long tt), .second, .val (.int (1 : Int32)), .val (.int (1 : Int32)), .val (.int oo), .val (.ref b2151), .val (.int (1 : Int32)), .val (.int (1 : Int32))] [(.int (1 : Int32))])) (fun τ κ => XS.iload X2181.here hx rfl (hb hby at_204) rfl κ) ?_
        have hc2184 : ¬ ((1 : Int32) = (0 : Int32)) := by decide
        refine Gl.st (g' := (mkF m 209 #[.val (.int x0), .val (.int x1), .val (.int x2), .val (.long x3), .second, .val (.long x4), .second, .val (.int sz), .val (.int mm), .val (.long ss), .second, .val (.long tt), .second, .val (.int (1 : Int32)), .val (.int (1 : Int32)), .val (.int oo), .val (.ref b2151), .val (.int (1 : Int32)), .val (.int (1 : Int32))] [])) (fun τ κ => XS.ifNo X2181.here hx rfl (hb hby at_206) rfl ((if0 _ _).trans (feq hc2184).1) κ) ?_
        refine Gl.st (g' := (mkF m 211 #[.val (.int x0), .val (.int x1), .val (.int x2), .val (.long x3), .second, .val (.long x4), .second, .val (.int sz), .val (.int mm), .val (.long ss), .second, .val (.long tt), .second, .val (.int (1 : Int32)), .val (.int (1 : Int32)), .val (.int oo), .val (.ref b2151), .val (.int (1 : Int32)), .val (.int (1 : Int32))] [(.ref b2151)])) (fun τ κ => XS.aload X2181.here hx rfl (hb hby at_209) rfl rfl κ) ?_
        refine Gl.st (g' := (mkF m 213 #[.val (.int x0), .val (.int x1), .val (.int x2), .val (.long x3), .second, .val (.long x4), .second, .val (.int sz), .val (.int mm), .val (.long ss), .second, .val (.long tt), .second, .val (.int (1 : Int32)), .val (.int (1 : Int32)), .val (.int oo), .val (.ref b2151), .val (.int (1 : Int32)), .val (.int (1 : Int32))] [(.int oo), (.ref b2151)])) (fun τ κ => XS.iload X2181.here hx rfl (hb hby at_211) rfl κ) ?_
        obtain ⟨cq2185, kq2185, q2185a, q2185b, q2185c⟩ := isOf hZ e2181 E_2173
        obtain ⟨rv2185, _, ⟨T2185, L2185, k2185, n2185⟩, -, X2185, ⟨Lc2185, hQ2185, l2185, y2185, z2185⟩, st2185⟩ := X2181.virtualBack hx (y := (⟨"org/precedence/Takeover", "hasReported", "(I)Z"⟩ : MethodName)) (z := (⟨"org/precedence/Takeover", "hasReported", "(I)Z"⟩ : MethodName)) hown (mvT hZ (hw _ (List.mem_of_getElem? (i := 103) rfl))) (mvT hZ (hw _ (List.mem_of_getElem? (i := 104) rfl))) (notFace_of_selects (args := #[]) (mvT hZ (hw _ (List.mem_of_getElem? (i := 106) rfl)))) (mvT hZ (hw _ (List.mem_of_getElem? (i := 106) rfl))) (mvT hZ (hw _ (List.mem_of_getElem? (i := 105) rfl))) (by decide) (backOf (W := 0) (rm14 l Z a0 hw [] b2151 oo t2158 kk2158 sz vs2172 T2172.heap n0 Z2172 F_2174 V2172 ho.1 ho.2.1) hZ (hw _ (List.mem_of_getElem? (i := 107) rfl)) (hw _ (List.mem_of_getElem? (i := 4) rfl)) (by decide) (by decide)) q2185a q2185c (g := (mkF m 213 #[.val (.int x0), .val (.int x1), .val (.int x2), .val (.long x3), .second, .val (.long x4), .second, .val (.int sz), .val (.int mm), .val (.long ss), .second, .val (.long tt), .second, .val (.int (1 : Int32)), .val (.int (1 : Int32)), .val (.int oo), .val (.ref b2151), .val (.int (1 : Int32)), .val (.int (1 : Int32))] [(.int oo), (.ref b2151)])) rfl (by rw [hml]; rfl) (Steps.refl _) (argsL := [(.int oo)]) (rest := []) (lenOf pd_7 rfl) rfl (by show 2 * 0 + _ ≤ _; exact Nat.le_of_eq rfl) (hb hby at_213) (fun _ _ => ⟨rfl, e2181, (by decide : 11 + 0 ≤ _), (by decide : 45 + 0 ≤ _)⟩)
        dsimp only [Pt.U, Pt.locs, Pt.cells, Pt.slots] at X2185 l2185 y2185 z2185 st2185 hQ2185
        subst l2185 y2185 z2185
        obtain ⟨rfl, N2185q, e2185⟩ := hQ2185
        have N2185 := Fr.app N2181 N2185q
        refine Gl.st (g' := (mkF m 216 #[.val (.int x0), .val (.int x1), .val (.int x2), .val (.long x3), .second, .val (.long x4), .second, .val (.int sz), .val (.int mm), .val (.long ss), .second, .val (.long tt), .second, .val (.int (1 : Int32)), .val (.int (1 : Int32)), .val (.int oo), .val (.ref b2151), .val (.int (1 : Int32)), .val (.int (1 : Int32))] [(.int (own_rep vs2172 oo))])) (fun τ κ => st2185.trans κ) ?_
        have hc2186 : ¬ ((own_rep vs2172 oo) = (0 : Int32)) := own_r1 (((A2172 oo ho.1).trans (if_neg (fun q => ho.2.2 q.symm))).trans ((A2166 oo ho.1).trans (if_pos rfl))) htt
        refine Gl.st (g' := (mkF m 219 #[.val (.int x0), .val (.int x1), .val (.int x2), .val (.long x3), .second, .val (.long x4), .second, .val (.int sz), .val (.int mm), .val (.long ss), .second, .val (.long tt), .second, .val (.int (1 : Int32)), .val (.int (1 : Int32)), .val (.int oo), .val (.ref b2151), .val (.int (1 : Int32)), .val (.int (1 : Int32))] [])) (fun τ κ => XS.ifNo X2185.here hx rfl (hb hby at_216) rfl ((if0 _ _).trans (feq hc2186).1) κ) ?_
        refine Gl.st (g' := (mkF m 221 #[.val (.int x0), .val (.int x1), .val (.int x2), .val (.long x3), .second, .val (.long x4), .second, .val (.int sz), .val (.int mm), .val (.long ss), .second, .val (.long tt), .second, .val (.int (1 : Int32)), .val (.int (1 : Int32)), .val (.int oo), .val (.ref b2151), .val (.int (1 : Int32)), .val (.int (1 : Int32))] [(.ref b2151)])) (fun τ κ => XS.aload X2185.here hx rfl (hb hby at_219) rfl rfl κ) ?_
        refine Gl.st (g' := (mkF m 223 #[.val (.int x0), .val (.int x1), .val (.int x2), .val (.long x3), .second, .val (.long x4), .second, .val (.int sz), .val (.int mm), .val (.long ss), .second, .val (.long tt), .second, .val (.int (1 : Int32)), .val (.int (1 : Int32)), .val (.int oo), .val (.ref b2151), .val (.int (1 : Int32)), .val (.int (1 : Int32))] [(.int oo), (.ref b2151)])) (fun τ κ => XS.iload X2185.here hx rfl (hb hby at_221) rfl κ) ?_
        obtain ⟨cq2187, kq2187, q2187a, q2187b, q2187c⟩ := isOf hZ e2185 E_2173
        obtain ⟨rv2187, _, ⟨T2187, L2187, k2187, n2187⟩, -, X2187, ⟨Lc2187, hQ2187, l2187, y2187, z2187⟩, st2187⟩ := X2185.virtualBack hx (y := (⟨"org/precedence/Takeover", "next", "(I)J"⟩ : MethodName)) (z := (⟨"org/precedence/Takeover", "next", "(I)J"⟩ : MethodName)) hown (mvT hZ (hw _ (List.mem_of_getElem? (i := 113) rfl))) (mvT hZ (hw _ (List.mem_of_getElem? (i := 114) rfl))) (notFace_of_selects (args := #[]) (mvT hZ (hw _ (List.mem_of_getElem? (i := 116) rfl)))) (mvT hZ (hw _ (List.mem_of_getElem? (i := 116) rfl))) (mvT hZ (hw _ (List.mem_of_getElem? (i := 115) rfl))) (by decide) (backOf (W := 0) (rm16 l Z a0 hw [] b2151 oo t2158 kk2158 sz vs2172 T2172.heap n0 Z2172 F_2174 V2172 ho.1 ho.2.1) hZ (hw _ (List.mem_of_getElem? (i := 117) rfl)) (hw _ (List.mem_of_getElem? (i := 4) rfl)) (by decide) (by decide)) q2187a q2187c (g := (mkF m 223 #[.val (.int x0), .val (.int x1), .val (.int x2), .val (.long x3), .second, .val (.long x4), .second, .val (.int sz), .val (.int mm), .val (.long ss), .second, .val (.long tt), .second, .val (.int (1 : Int32)), .val (.int (1 : Int32)), .val (.int oo), .val (.ref b2151), .val (.int (1 : Int32)), .val (.int (1 : Int32))] [(.int oo), (.ref b2151)])) rfl (by rw [hml]; rfl) (Steps.refl _) (argsL := [(.int oo)]) (rest := []) (lenOf pd_11 rfl) rfl (by show 2 * 0 + _ ≤ _; exact Nat.le_of_eq rfl) (hb hby at_223) (fun _ _ => ⟨rfl, e2185, (by decide : 11 + 0 ≤ _), (by decide : 45 + 0 ≤ _)⟩)
        dsimp only [Pt.U, Pt.locs, Pt.cells, Pt.slots] at X2187 l2187 y2187 z2187 st2187 hQ2187
        subst l2187 y2187 z2187
        obtain ⟨rfl, N2187q, e2187⟩ := hQ2187
        have N2187 := Fr.app N2185 N2187q
        refine Gl.st (g' := (mkF m 226 #[.val (.int x0), .val (.int x1), .val (.int x2), .val (.long x3), .second, .val (.long x4), .second, .val (.int sz), .val (.int mm), .val (.long ss), .second, .val (.long tt), .second, .val (.int (1 : Int32)), .val (.int (1 : Int32)), .val (.int oo), .val (.ref b2151), .val (.int (1 : Int32)), .val (.int (1 : Int32))] [(.long (own_at vs2172 oo))])) (fun τ κ => st2187.trans κ) ?_
        refine Gl.st (g' := (mkF m 228 #[.val (.int x0), .val (.int x1), .val (.int x2), .val (.long x3), .second, .val (.long x4), .second, .val (.int sz), .val (.int mm), .val (.long ss), .second, .val (.long tt), .second, .val (.int (1 : Int32)), .val (.int (1 : Int32)), .val (.int oo), .val (.ref b2151), .val (.int (1 : Int32)), .val (.int (1 : Int32))] [(.long tt), (.long (own_at vs2172 oo))])) (fun τ κ => XS.lload X2187.here hx rfl (hb hby at_226) rfl κ) ?_
        refine Gl.st (g' := (mkF m 229 #[.val (.int x0), .val (.int x1), .val (.int x2), .val (.long x3), .second, .val (.long x4), .second, .val (.int sz), .val (.int mm), .val (.long ss), .second, .val (.long tt), .second, .val (.int (1 : Int32)), .val (.int (1 : Int32)), .val (.int oo), .val (.ref b2151), .val (.int (1 : Int32)), .val (.int (1 : Int32))] [(.int (lcmpW (own_at vs2172 oo) tt))])) (fun τ κ => XS.lcmp X2187.here hx rfl (hb hby at_228) rfl κ) ?_
        have hc2188 : (own_at vs2172 oo) = tt := (((A2172 oo ho.1).trans (if_neg (fun q => ho.2.2 q.symm))).trans ((A2166 oo ho.1).trans (if_pos rfl)))
        refine Gl.st (g' := (mkF m 232 #[.val (.int x0), .val (.int x1), .val (.int x2), .val (.long x3), .second, .val (.long x4), .second, .val (.int sz), .val (.int mm), .val (.long ss), .second, .val (.long tt), .second, .val (.int (1 : Int32)), .val (.int (1 : Int32)), .val (.int oo), .val (.ref b2151), .val (.int (1 : Int32)), .val (.int (1 : Int32))] [])) (fun τ κ => XS.ifNo X2187.here hx rfl (hb hby at_229) rfl ((if0 _ _).trans (teq ((lw_eq (own_at vs2172 oo) tt).mpr hc2188)).2) κ) ?_
        refine Gl.st (g' := (mkF m 233 #[.val (.int x0), .val (.int x1), .val (.int x2), .val (.long x3), .second, .val (.long x4), .second, .val (.int sz), .val (.int mm), .val (.long ss), .second, .val (.long tt), .second, .val (.int (1 : Int32)), .val (.int (1 : Int32)), .val (.int oo), .val (.ref b2151), .val (.int (1 : Int32)), .val (.int (1 : Int32))] [(.int (1 : Int32))])) (fun τ κ => XS.iconst X2187.here hx rfl (hb hby at_232) κ) ?_
        refine Gl.st (g' := (mkF m 237 #[.val (.int x0), .val (.int x1), .val (.int x2), .val (.long x3), .second, .val (.long x4), .second, .val (.int sz), .val (.int mm), .val (.long ss), .second, .val (.long tt), .second, .val (.int (1 : Int32)), .val (.int (1 : Int32)), .val (.int oo), .val (.ref b2151), .val (.int (1 : Int32)), .val (.int (1 : Int32))] [(.int (1 : Int32))])) (fun τ κ => XS.goto X2187.here hx rfl (pc0 := 233) (pc' := 237) rfl (hb hby at_233) (by decide) (by decide) κ) ?_
        refine Gl.st (g' := (mkF m 239 #[.val (.int x0), .val (.int x1), .val (.int x2), .val (.long x3), .second, .val (.long x4), .second, .val (.int sz), .val (.int mm), .val (.long ss), .second, .val (.long tt), .second, .val (.int (1 : Int32)), .val (.int (1 : Int32)), .val (.int oo), .val (.ref b2151), .val (.int (1 : Int32)), .val (.int (1 : Int32))] [])) (fun τ κ => XS.istore X2187.here hx rfl (hb hby at_237) rfl (l' := #[.val (.int x0), .val (.int x1), .val (.int x2), .val (.long x3), .second, .val (.long x4), .second, .val (.int sz), .val (.int mm), .val (.long ss), .second, .val (.long tt), .second, .val (.int (1 : Int32)), .val (.int (1 : Int32)), .val (.int oo), .val (.ref b2151), .val (.int (1 : Int32)), .val (.int (1 : Int32))]) rfl κ) ?_
        have hS := own_hs2 (sz := sz) htt hss (fun ii a b => by rw [A2172 ii a, A2166 ii a, A0 ii a b])
        refine own_tail hx hZ hw hby hml hown X2187 e2187 N2187 Z2172 E_2173 F_2174 V2172 hS ?_
        intro T' h' locs' X' e' N'
        refine Gl.st (g' := (mkF m 349 #[.val (.int x0), .val (.int x1), .val (.int x2), .val (.long x3), .second, .val (.long x4), .second, .val (.int sz), .val (.int mm), .val (.long ss), .second, .val (.long tt), .second, .val (.int (1 : Int32)), .val (.int (1 : Int32)), .val (.int oo), .val (.ref b2151), .val (.int (1 : Int32)), .val (.int (1 : Int32))] [(.int (1 : Int32))])) (fun τ κ => XS.iload X'.here hx rfl (hb hby at_347) rfl κ) ?_
        exact Gl.ret (v := some (.int (1 : Int32))) X' Bd.notSynchronized (fun h => by rw [Bd.returns] at h; cases h) e' (fun fs hr => retN X' hx (t := .boolean) Bd.returns (by simp) (hb hby at_349) hr) (by decide) (by decide) ⟨rfl, N'⟩
    · -- pc 40: not (1 : Int32) < sz
      refine Gl.st (g' := (mkF m 47 #[.val (.int x0), .val (.int x1), .val (.int x2), .val (.long x3), .second, .val (.long x4), .second, .val (.int sz), .val (.int mm), .val (.long ss), .second, .val (.long tt), .second, .unset, .unset, .unset, .unset, .unset, .unset] [])) (fun τ κ => XS.icmpYes X0.here hx rfl (pc0 := 40) (pc' := 47) rfl (hb hby at_40) rfl (flt hc2109).2.2.2 (by decide) (by decide) κ) ?_
      refine Gl.st (g' := (mkF m 48 #[.val (.int x0), .val (.int x1), .val (.int x2), .val (.long x3), .second, .val (.long x4), .second, .val (.int sz), .val (.int mm), .val (.long ss), .second, .val (.long tt), .second, .unset, .unset, .unset, .unset, .unset, .unset] [(.int (0 : Int32))])) (fun τ κ => XS.iconst X0.here hx rfl (hb hby at_47) κ) ?_
      refine Gl.st (g' := (mkF m 50 #[.val (.int x0), .val (.int x1), .val (.int x2), .val (.long x3), .second, .val (.long x4), .second, .val (.int sz), .val (.int mm), .val (.long ss), .second, .val (.long tt), .second, .val (.int (0 : Int32)), .unset, .unset, .unset, .unset, .unset] [])) (fun τ κ => XS.istore X0.here hx rfl (hb hby at_48) rfl (l' := #[.val (.int x0), .val (.int x1), .val (.int x2), .val (.long x3), .second, .val (.long x4), .second, .val (.int sz), .val (.int mm), .val (.long ss), .second, .val (.long tt), .second, .val (.int (0 : Int32)), .unset, .unset, .unset, .unset, .unset]) rfl κ) ?_
      refine Gl.st (g' := (mkF m 51 #[.val (.int x0), .val (.int x1), .val (.int x2), .val (.long x3), .second, .val (.long x4), .second, .val (.int sz), .val (.int mm), .val (.long ss), .second, .val (.long tt), .second, .val (.int (0 : Int32)), .unset, .unset, .unset, .unset, .unset] [(.int x2)])) (fun τ κ => XS.iloadN X0.here hx rfl (hb hby at_50) rfl κ) ?_
      refine Gl.st (g' := (mkF m 52 #[.val (.int x0), .val (.int x1), .val (.int x2), .val (.long x3), .second, .val (.long x4), .second, .val (.int sz), .val (.int mm), .val (.long ss), .second, .val (.long tt), .second, .val (.int (0 : Int32)), .unset, .unset, .unset, .unset, .unset] [(.int (2 : Int32)), (.int x2)])) (fun τ κ => XS.iconst X0.here hx rfl (hb hby at_51) κ) ?_
      refine Gl.st (g' := (mkF m 53 #[.val (.int x0), .val (.int x1), .val (.int x2), .val (.long x3), .second, .val (.long x4), .second, .val (.int sz), .val (.int mm), .val (.long ss), .second, .val (.long tt), .second, .val (.int (0 : Int32)), .unset, .unset, .unset, .unset, .unset] [(.int (x2 &&& (2 : Int32)))])) (fun τ κ => XS.iand X0.here hx rfl (hb hby at_52) rfl κ) ?_
      by_cases hc2189 : (x2 &&& (2 : Int32)) = (0 : Int32)
      · -- pc 53: (x2 &&& (2 : Int32)) = (0 : Int32)
        refine Gl.st (g' := (mkF m 60 #[.val (.int x0), .val (.int x1), .val (.int x2), .val (.long x3), .second, .val (.long x4), .second, .val (.int sz), .val (.int mm), .val (.long ss), .second, .val (.long tt), .second, .val (.int (0 : Int32)), .unset, .unset, .unset, .unset, .unset] [])) (fun τ κ => XS.ifYes X0.here hx rfl (pc0 := 53) (pc' := 60) rfl (hb hby at_53) rfl ((if0 _ _).trans (teq hc2189).1) (by decide) (by decide) κ) ?_
        refine Gl.st (g' := (mkF m 61 #[.val (.int x0), .val (.int x1), .val (.int x2), .val (.long x3), .second, .val (.long x4), .second, .val (.int sz), .val (.int mm), .val (.long ss), .second, .val (.long tt), .second, .val (.int (0 : Int32)), .unset, .unset, .unset, .unset, .unset] [(.int (0 : Int32))])) (fun τ κ => XS.iconst X0.here hx rfl (hb hby at_60) κ) ?_
        refine Gl.st (g' := (mkF m 63 #[.val (.int x0), .val (.int x1), .val (.int x2), .val (.long x3), .second, .val (.long x4), .second, .val (.int sz), .val (.int mm), .val (.long ss), .second, .val (.long tt), .second, .val (.int (0 : Int32)), .val (.int (0 : Int32)), .unset, .unset, .unset, .unset] [])) (fun τ κ => XS.istore X0.here hx rfl (hb hby at_61) rfl (l' := #[.val (.int x0), .val (.int x1), .val (.int x2), .val (.long x3), .second, .val (.long x4), .second, .val (.int sz), .val (.int mm), .val (.long ss), .second, .val (.long tt), .second, .val (.int (0 : Int32)), .val (.int (0 : Int32)), .unset, .unset, .unset, .unset]) rfl κ) ?_
        refine Gl.st (g' := (mkF m 64 #[.val (.int x0), .val (.int x1), .val (.int x2), .val (.long x3), .second, .val (.long x4), .second, .val (.int sz), .val (.int mm), .val (.long ss), .second, .val (.long tt), .second, .val (.int (0 : Int32)), .val (.int (0 : Int32)), .unset, .unset, .unset, .unset] [(.int (-1 : Int32))])) (fun τ κ => XS.iconst X0.here hx rfl (hb hby at_63) κ) ?_
        refine Gl.st (g' := (mkF m 66 #[.val (.int x0), .val (.int x1), .val (.int x2), .val (.long x3), .second, .val (.long x4), .second, .val (.int sz), .val (.int mm), .val (.long ss), .second, .val (.long tt), .second, .val (.int (0 : Int32)), .val (.int (0 : Int32)), .val (.int (-1 : Int32)), .unset, .unset, .unset] [])) (fun τ κ => XS.istore X0.here hx rfl (hb hby at_64) rfl (l' := #[.val (.int x0), .val (.int x1), .val (.int x2), .val (.long x3), .second, .val (.long x4), .second, .val (.int sz), .val (.int mm), .val (.long ss), .second, .val (.long tt), .second, .val (.int (0 : Int32)), .val (.int (0 : Int32)), .val (.int (-1 : Int32)), .unset, .unset, .unset]) rfl κ) ?_
        refine Gl.st (g' := (mkF m 68 #[.val (.int x0), .val (.int x1), .val (.int x2), .val (.long x3), .second, .val (.long x4), .second, .val (.int sz), .val (.int mm), .val (.long ss), .second, .val (.long tt), .second, .val (.int (0 : Int32)), .val (.int (0 : Int32)), .val (.int (-1 : Int32)), .unset, .unset, .unset] [(.int (0 : Int32))])) (fun τ κ => XS.iload X0.here hx rfl (hb hby at_66) rfl κ) ?_
        have hc2190 : (0 : Int32) = (0 : Int32) := by decide
        refine Gl.st (g' := (mkF m 89 #[.val (.int x0), .val (.int x1), .val (.int x2), .val (.long x3), .second, .val (.long x4), .second, .val (.int sz), .val (.int mm), .val (.long ss), .second, .val (.long tt), .second, .val (.int (0 : Int32)), .val (.int (0 : Int32)), .val (.int (-1 : Int32)), .unset, .unset, .unset] [])) (fun τ κ => XS.ifYes X0.here hx rfl (pc0 := 68) (pc' := 89) rfl (hb hby at_68) rfl ((if0 _ _).trans (teq hc2190).1) (by decide) (by decide) κ) ?_
        obtain ⟨T2191, h2191, X2191, e2191, E2191, A2191, D2191, -, st2191⟩ := newO X0 hx hZ hown (hw _ (List.mem_of_getElem? (i := 2) rfl)) (hw _ (List.mem_of_getElem? (i := 3) rfl)) (hw _ (List.mem_of_getElem? (i := 4) rfl)) e0 (g := (mkF m 89 #[.val (.int x0), .val (.int x1), .val (.int x2), .val (.long x3), .second, .val (.long x4), .second, .val (.int sz), .val (.int mm), .val (.long ss), .second, .val (.long tt), .second, .val (.int (0 : Int32)), .val (.int (0 : Int32)), .val (.int (-1 : Int32)), .unset, .unset, .unset] [])) rfl (hb hby at_89) (by decide) (by decide)
        obtain ⟨b2191, g2191⟩ : ∃ z, z = h0.size := ⟨_, rfl⟩
        rw [← g2191] at A2191 D2191 st2191
        have ne_de_b2191 : de ≠ b2191 := Nat.ne_of_lt (Nat.lt_of_lt_of_le V0.lt (Nat.le_of_eq g2191.symm))
        have S_2192 := S0.ext E2191
        have V_2193 := V0.ext E2191
        have g_b2191 : n0 ≤ b2191 := Nat.le_trans Z0 (Nat.le_of_eq g2191.symm)
        have sz_b2191 : h0.size ≤ b2191 := Nat.le_trans (Keep.refl h0 []).1 (Nat.le_of_eq g2191.symm)
        have Z2191 : n0 ≤ h2191.size := Nat.le_trans Z0 E2191.1
        have K2191 : Keep h0 h2191 [] := (Keep.refl h0 []).ext E2191
        have F_2194 : Fld Z h2191 b2191 "org/precedence/Takeover" "stamped" "Ljava/util/TreeMap;" .null := D2191 (Or.inr (hw _ (List.mem_of_getElem? (i := 31) rfl))) (ty := (.object "java/util/TreeMap")) (by decide)
        have F_2195 : Fld Z h2191 b2191 "org/precedence/Takeover" "unstamped" "Ljava/util/List;" .null := D2191 (Or.inr (hw _ (List.mem_of_getElem? (i := 57) rfl))) (ty := (.object "java/util/List")) (by decide)
        have F_2196 : Fld Z h2191 b2191 "org/precedence/Takeover" "submitted" "Ljava/util/List;" .null := D2191 (Or.inr (hw _ (List.mem_of_getElem? (i := 59) rfl))) (ty := (.object "java/util/List")) (by decide)
        have F_2197 : Fld Z h2191 b2191 "org/precedence/Takeover" "next" "[J" .null := D2191 (Or.inr (hw _ (List.mem_of_getElem? (i := 62) rfl))) (ty := (.array .long)) (by decide)
        refine Gl.st (g' := (mkF m 92 #[.val (.int x0), .val (.int x1), .val (.int x2), .val (.long x3), .second, .val (.long x4), .second, .val (.int sz), .val (.int mm), .val (.long ss), .second, .val (.long tt), .second, .val (.int (0 : Int32)), .val (.int (0 : Int32)), .val (.int (-1 : Int32)), .unset, .unset, .unset] [(.ref b2191)])) (fun τ κ => st2191 _ κ) ?_
        refine Gl.st (g' := (mkF m 93 #[.val (.int x0), .val (.int x1), .val (.int x2), .val (.long x3), .second, .val (.long x4), .second, .val (.int sz), .val (.int mm), .val (.long ss), .second, .val (.long tt), .second, .val (.int (0 : Int32)), .val (.int (0 : Int32)), .val (.int (-1 : Int32)), .unset, .unset, .unset] [(.ref b2191), (.ref b2191)])) (fun τ κ => XS.dup X2191.here hx rfl (hb hby at_92) rfl rfl κ) ?_
        refine Gl.st (g' := (mkF m 95 #[.val (.int x0), .val (.int x1), .val (.int x2), .val (.long x3), .second, .val (.long x4), .second, .val (.int sz), .val (.int mm), .val (.long ss), .second, .val (.long tt), .second, .val (.int (0 : Int32)), .val (.int (0 : Int32)), .val (.int (-1 : Int32)), .unset, .unset, .unset] [(.int sz), (.ref b2191), (.ref b2191)])) (fun τ κ => XS.iload X2191.here hx rfl (hb hby at_93) rfl κ) ?_
        obtain ⟨rv2198, _, ⟨T2198, L2198, k2198, n2198⟩, -, X2198, ⟨Lc2198, hQ2198, l2198, y2198, z2198⟩, st2198⟩ := X2191.specialBack hx (y := (⟨"org/precedence/Takeover", "<init>", "(I)V"⟩ : MethodName)) rfl hown (mvT hZ (hw _ (List.mem_of_getElem? (i := 5) rfl))) (mvT hZ (hw _ (List.mem_of_getElem? (i := 6) rfl))) (mvT hZ (hw _ (List.mem_of_getElem? (i := 7) rfl))) (by decide) (backOf (W := 1) (rm_initS l Z a0 hw [] b2191 sz de kd h2191 n0 Z2191 A2191 g_b2191 S_2192 V_2193 (Ne.symm ne_de_b2191) F_2194 F_2195 F_2196 F_2197 hsz) hZ (hw _ (List.mem_of_getElem? (i := 7) rfl)) (hw _ (List.mem_of_getElem? (i := 4) rfl)) (by decide) (by decide)) (g := (mkF m 95 #[.val (.int x0), .val (.int x1), .val (.int x2), .val (.long x3), .second, .val (.long x4), .second, .val (.int sz), .val (.int mm), .val (.long ss), .second, .val (.long tt), .second, .val (.int (0 : Int32)), .val (.int (0 : Int32)), .val (.int (-1 : Int32)), .unset, .unset, .unset] [(.int sz), (.ref b2191), (.ref b2191)])) rfl (by rw [hml]; rfl) (Steps.refl _) (a := b2191) (argsL := [(.int sz)]) (rest := [(.ref b2191)]) (lenOf pd_9 rfl) rfl (by show 2 * 0 + _ ≤ _; exact Nat.le_of_eq rfl) (hb hby at_95) (fun _ _ => ⟨rfl, e2191, (by decide : 1 + 10 ≤ _), (by decide : 4 + 41 ≤ _)⟩)
        dsimp only [Pt.U, Pt.locs, Pt.cells, Pt.slots] at X2198 l2198 y2198 z2198 st2198 hQ2198
        subst l2198 y2198 z2198
        obtain ⟨t2198, kk2198, vs2198, rfl, N2198q, Kc2198, s2198, Ec2198, FN2198, V2198, hv2198⟩ := hQ2198
        have ne_de_t2198 : de ≠ t2198 := Nat.ne_of_lt (Nat.lt_of_lt_of_le V_2193.lt s2198)
        have ne_b2191_t2198 : b2191 ≠ t2198 := Nat.ne_of_lt (Nat.lt_of_lt_of_le A2191.lt s2198)
        have g_t2198 : n0 ≤ t2198 := Nat.le_trans Z2191 s2198
        have sz_t2198 : h0.size ≤ t2198 := Nat.le_trans K2191.1 s2198
        have E_2199 := A2191.keep Kc2198
        have N2198 := Fr.app N0 N2198q
        have Z2198 : n0 ≤ T2198.heap.size := Nat.le_trans Z2191 Kc2198.1
        have K2198 : Keep h0 T2198.heap [] := K2191.trans Kc2198 (allS (Or.inr sz_b2191) all0)
        have A0 := own_A0 hv2198
        refine Gl.st (g' := (mkF m 98 #[.val (.int x0), .val (.int x1), .val (.int x2), .val (.long x3), .second, .val (.long x4), .second, .val (.int sz), .val (.int mm), .val (.long ss), .second, .val (.long tt), .second, .val (.int (0 : Int32)), .val (.int (0 : Int32)), .val (.int (-1 : Int32)), .unset, .unset, .unset] [(.ref b2191)])) (fun τ κ => st2198.trans κ) ?_
        refine Gl.st (g' := (mkF m 100 #[.val (.int x0), .val (.int x1), .val (.int x2), .val (.long x3), .second, .val (.long x4), .second, .val (.int sz), .val (.int mm), .val (.long ss), .second, .val (.long tt), .second, .val (.int (0 : Int32)), .val (.int (0 : Int32)), .val (.int (-1 : Int32)), .val (.ref b2191), .unset, .unset] [])) (fun τ κ => XS.astore X2198.here hx rfl (hb hby at_98) rfl rfl (l' := #[.val (.int x0), .val (.int x1), .val (.int x2), .val (.long x3), .second, .val (.long x4), .second, .val (.int sz), .val (.int mm), .val (.long ss), .second, .val (.long tt), .second, .val (.int (0 : Int32)), .val (.int (0 : Int32)), .val (.int (-1 : Int32)), .val (.ref b2191), .unset, .unset]) rfl κ) ?_
        refine Gl.st (g' := (mkF m 102 #[.val (.int x0), .val (.int x1), .val (.int x2), .val (.long x3), .second, .val (.long x4), .second, .val (.int sz), .val (.int mm), .val (.long ss), .second, .val (.long tt), .second, .val (.int (0 : Int32)), .val (.int (0 : Int32)), .val (.int (-1 : Int32)), .val (.ref b2191), .unset, .unset] [(.int (0 : Int32))])) (fun τ κ => XS.iload X2198.here hx rfl (hb hby at_100) rfl κ) ?_
        have hc2204 : (0 : Int32) = (0 : Int32) := by decide
        refine Gl.st (g' := (mkF m 119 #[.val (.int x0), .val (.int x1), .val (.int x2), .val (.long x3), .second, .val (.long x4), .second, .val (.int sz), .val (.int mm), .val (.long ss), .second, .val (.long tt), .second, .val (.int (0 : Int32)), .val (.int (0 : Int32)), .val (.int (-1 : Int32)), .val (.ref b2191), .unset, .unset] [])) (fun τ κ => XS.ifYes X2198.here hx rfl (pc0 := 102) (pc' := 119) rfl (hb hby at_102) rfl ((if0 _ _).trans (teq hc2204).1) (by decide) (by decide) κ) ?_
        refine Gl.st (g' := (mkF m 121 #[.val (.int x0), .val (.int x1), .val (.int x2), .val (.long x3), .second, .val (.long x4), .second, .val (.int sz), .val (.int mm), .val (.long ss), .second, .val (.long tt), .second, .val (.int (0 : Int32)), .val (.int (0 : Int32)), .val (.int (-1 : Int32)), .val (.ref b2191), .unset, .unset] [(.ref b2191)])) (fun τ κ => XS.aload X2198.here hx rfl (hb hby at_119) rfl rfl κ) ?_
        refine Gl.st (g' := (mkF m 123 #[.val (.int x0), .val (.int x1), .val (.int x2), .val (.long x3), .second, .val (.long x4), .second, .val (.int sz), .val (.int mm), .val (.long ss), .second, .val (.long tt), .second, .val (.int (0 : Int32)), .val (.int (0 : Int32)), .val (.int (-1 : Int32)), .val (.ref b2191), .unset, .unset] [(.int mm), (.ref b2191)])) (fun τ κ => XS.iload X2198.here hx rfl (hb hby at_121) rfl κ) ?_
        obtain ⟨cq2205, kq2205, q2205a, q2205b, q2205c⟩ := isOf hZ rfl Ec2198
        obtain ⟨rv2205, _, ⟨T2205, L2205, k2205, n2205⟩, -, X2205, ⟨Lc2205, hQ2205, l2205, y2205, z2205⟩, st2205⟩ := X2198.virtualBack hx (y := (⟨"org/precedence/Takeover", "hasReported", "(I)Z"⟩ : MethodName)) (z := (⟨"org/precedence/Takeover", "hasReported", "(I)Z"⟩ : MethodName)) hown (mvT hZ (hw _ (List.mem_of_getElem? (i := 103) rfl))) (mvT hZ (hw _ (List.mem_of_getElem? (i := 104) rfl))) (notFace_of_selects (args := #[]) (mvT hZ (hw _ (List.mem_of_getElem? (i := 106) rfl)))) (mvT hZ (hw _ (List.mem_of_getElem? (i := 106) rfl))) (mvT hZ (hw _ (List.mem_of_getElem? (i := 105) rfl))) (by decide) (backOf (W := 0) (rm14 l Z a0 hw [] b2191 mm t2198 kk2198 sz vs2198 T2198.heap n0 Z2198 FN2198 V2198 hm.1 hm.2) hZ (hw _ (List.mem_of_getElem? (i := 107) rfl)) (hw _ (List.mem_of_getElem? (i := 4) rfl)) (by decide) (by decide)) q2205a q2205c (g := (mkF m 123 #[.val (.int x0), .val (.int x1), .val (.int x2), .val (.long x3), .second, .val (.long x4), .second, .val (.int sz), .val (.int mm), .val (.long ss), .second, .val (.long tt), .second, .val (.int (0 : Int32)), .val (.int (0 : Int32)), .val (.int (-1 : Int32)), .val (.ref b2191), .unset, .unset] [(.int mm), (.ref b2191)])) rfl (by rw [hml]; rfl) (Steps.refl _) (argsL := [(.int mm)]) (rest := []) (lenOf pd_7 rfl) rfl (by show 2 * 0 + _ ≤ _; exact Nat.le_of_eq rfl) (hb hby at_123) (fun _ _ => ⟨rfl, rfl, (by decide : 11 + 0 ≤ _), (by decide : 45 + 0 ≤ _)⟩)
        dsimp only [Pt.U, Pt.locs, Pt.cells, Pt.slots] at X2205 l2205 y2205 z2205 st2205 hQ2205
        subst l2205 y2205 z2205
        obtain ⟨rfl, N2205q, e2205⟩ := hQ2205
        have N2205 := Fr.app N2198 N2205q
        refine Gl.st (g' := (mkF m 126 #[.val (.int x0), .val (.int x1), .val (.int x2), .val (.long x3), .second, .val (.long x4), .second, .val (.int sz), .val (.int mm), .val (.long ss), .second, .val (.long tt), .second, .val (.int (0 : Int32)), .val (.int (0 : Int32)), .val (.int (-1 : Int32)), .val (.ref b2191), .unset, .unset] [(.int (own_rep vs2198 mm))])) (fun τ κ => st2205.trans κ) ?_
        have hc2206 : (own_rep vs2198 mm) = (0 : Int32) := own_r0 (A0 mm hm.1 hm.2)
        refine Gl.st (g' := (mkF m 129 #[.val (.int x0), .val (.int x1), .val (.int x2), .val (.long x3), .second, .val (.long x4), .second, .val (.int sz), .val (.int mm), .val (.long ss), .second, .val (.long tt), .second, .val (.int (0 : Int32)), .val (.int (0 : Int32)), .val (.int (-1 : Int32)), .val (.ref b2191), .unset, .unset] [])) (fun τ κ => XS.ifNo X2205.here hx rfl (hb hby at_126) rfl ((if0 _ _).trans (teq hc2206).2) κ) ?_
        refine Gl.st (g' := (mkF m 130 #[.val (.int x0), .val (.int x1), .val (.int x2), .val (.long x3), .second, .val (.long x4), .second, .val (.int sz), .val (.int mm), .val (.long ss), .second, .val (.long tt), .second, .val (.int (0 : Int32)), .val (.int (0 : Int32)), .val (.int (-1 : Int32)), .val (.ref b2191), .unset, .unset] [(.int (1 : Int32))])) (fun τ κ => XS.iconst X2205.here hx rfl (hb hby at_129) κ) ?_
        refine Gl.st (g' := (mkF m 134 #[.val (.int x0), .val (.int x1), .val (.int x2), .val (.long x3), .second, .val (.long x4), .second, .val (.int sz), .val (.int mm), .val (.long ss), .second, .val (.long tt), .second, .val (.int (0 : Int32)), .val (.int (0 : Int32)), .val (.int (-1 : Int32)), .val (.ref b2191), .unset, .unset] [(.int (1 : Int32))])) (fun τ κ => XS.goto X2205.here hx rfl (pc0 := 130) (pc' := 134) rfl (hb hby at_130) (by decide) (by decide) κ) ?_
        refine Gl.st (g' := (mkF m 136 #[.val (.int x0), .val (.int x1), .val (.int x2), .val (.long x3), .second, .val (.long x4), .second, .val (.int sz), .val (.int mm), .val (.long ss), .second, .val (.long tt), .second, .val (.int (0 : Int32)), .val (.int (0 : Int32)), .val (.int (-1 : Int32)), .val (.ref b2191), .val (.int (1 : Int32)), .unset] [])) (fun τ κ => XS.istore X2205.here hx rfl (hb hby at_134) rfl (l' := #[.val (.int x0), .val (.int x1), .val (.int x2), .val (.long x3), .second, .val (.long x4), .second, .val (.int sz), .val (.int mm), .val (.long ss), .second, .val (.long tt), .second, .val (.int (0 : Int32)), .val (.int (0 : Int32)), .val (.int (-1 : Int32)), .val (.ref b2191), .val (.int (1 : Int32)), .unset]) rfl κ) ?_
        refine Gl.st (g' := (mkF m 138 #[.val (.int x0), .val (.int x1), .val (.int x2), .val (.long x3), .second, .val (.long x4), .second, .val (.int sz), .val (.int mm), .val (.long ss), .second, .val (.long tt), .second, .val (.int (0 : Int32)), .val (.int (0 : Int32)), .val (.int (-1 : Int32)), .val (.ref b2191), .val (.int (1 : Int32)), .unset] [(.ref b2191)])) (fun τ κ => XS.aload X2205.here hx rfl (hb hby at_136) rfl rfl κ) ?_
        refine Gl.st (g' := (mkF m 140 #[.val (.int x0), .val (.int x1), .val (.int x2), .val (.long x3), .second, .val (.long x4), .second, .val (.int sz), .val (.int mm), .val (.long ss), .second, .val (.long tt), .second, .val (.int (0 : Int32)), .val (.int (0 : Int32)), .val (.int (-1 : Int32)), .val (.ref b2191), .val (.int (1 : Int32)), .unset] [(.int mm), (.ref b2191)])) (fun τ κ => XS.iload X2205.here hx rfl (hb hby at_138) rfl κ) ?_
        refine Gl.st (g' := (mkF m 142 #[.val (.int x0), .val (.int x1), .val (.int x2), .val (.long x3), .second, .val (.long x4), .second, .val (.int sz), .val (.int mm), .val (.long ss), .second, .val (.long tt), .second, .val (.int (0 : Int32)), .val (.int (0 : Int32)), .val (.int (-1 : Int32)), .val (.ref b2191), .val (.int (1 : Int32)), .unset] [(.long ss), (.int mm), (.ref b2191)])) (fun τ κ => XS.lload X2205.here hx rfl (hb hby at_140) rfl κ) ?_
        obtain ⟨cq2207, kq2207, q2207a, q2207b, q2207c⟩ := isOf hZ e2205 Ec2198
        obtain ⟨rv2207, _, ⟨T2207, L2207, k2207, n2207⟩, -, X2207, ⟨Lc2207, hQ2207, l2207, y2207, z2207⟩, st2207⟩ := X2205.virtualBack hx (y := (⟨"org/precedence/Takeover", "reported", "(IJ)V"⟩ : MethodName)) (z := (⟨"org/precedence/Takeover", "reported", "(IJ)V"⟩ : MethodName)) hown (mvT hZ (hw _ (List.mem_of_getElem? (i := 108) rfl))) (mvT hZ (hw _ (List.mem_of_getElem? (i := 109) rfl))) (notFace_of_selects (args := #[]) (mvT hZ (hw _ (List.mem_of_getElem? (i := 111) rfl)))) (mvT hZ (hw _ (List.mem_of_getElem? (i := 111) rfl))) (mvT hZ (hw _ (List.mem_of_getElem? (i := 110) rfl))) (by decide) (backOf (W := 0) (rm15 l Z a0 hw [] b2191 mm ss t2198 kk2198 sz vs2198 T2198.heap n0 Z2198 FN2198 V2198 hm.1 hm.2 g_t2198 (own_n0 (A0 mm hm.1 hm.2)) hss ne_b2191_t2198) hZ (hw _ (List.mem_of_getElem? (i := 112) rfl)) (hw _ (List.mem_of_getElem? (i := 4) rfl)) (by decide) (by decide)) q2207a q2207c (g := (mkF m 142 #[.val (.int x0), .val (.int x1), .val (.int x2), .val (.long x3), .second, .val (.long x4), .second, .val (.int sz), .val (.int mm), .val (.long ss), .second, .val (.long tt), .second, .val (.int (0 : Int32)), .val (.int (0 : Int32)), .val (.int (-1 : Int32)), .val (.ref b2191), .val (.int (1 : Int32)), .unset] [(.long ss), (.int mm), (.ref b2191)])) rfl (by rw [hml]; rfl) (Steps.refl _) (argsL := [(.int mm), (.long ss)]) (rest := []) (lenOf pd_10 rfl) rfl (by show 2 * 0 + _ ≤ _; exact Nat.le_of_eq rfl) (hb hby at_142) (fun _ _ => ⟨rfl, e2205, (by decide : 11 + 0 ≤ _), (by decide : 45 + 0 ≤ _)⟩)
        dsimp only [Pt.U, Pt.locs, Pt.cells, Pt.slots] at X2207 l2207 y2207 z2207 st2207 hQ2207
        subst l2207 y2207 z2207
        obtain ⟨vs2207, rfl, N2207q, Kc2207, V2207, hv2207⟩ := hQ2207
        have E_2208 := Ec2198.keep Kc2207
        have F_2209 := FN2198.keep Kc2207 (ninS ne_b2191_t2198 nin0)
        have N2207 := Fr.app N2205 N2207q
        have Z2207 : n0 ≤ T2207.heap.size := Nat.le_trans Z2198 Kc2207.1
        have K2207 : Keep h0 T2207.heap [] := K2198.trans Kc2207 (allS (Or.inr sz_t2198) all0)
        have A2207 := own_A hm.1 hv2207
        refine Gl.st (g' := (mkF m 145 #[.val (.int x0), .val (.int x1), .val (.int x2), .val (.long x3), .second, .val (.long x4), .second, .val (.int sz), .val (.int mm), .val (.long ss), .second, .val (.long tt), .second, .val (.int (0 : Int32)), .val (.int (0 : Int32)), .val (.int (-1 : Int32)), .val (.ref b2191), .val (.int (1 : Int32)), .unset] [])) (fun τ κ => st2207.trans κ) ?_
        refine Gl.st (g' := (mkF m 147 #[.val (.int x0), .val (.int x1), .val (.int x2), .val (.long x3), .second, .val (.long x4), .second, .val (.int sz), .val (.int mm), .val (.long ss), .second, .val (.long tt), .second, .val (.int (0 : Int32)), .val (.int (0 : Int32)), .val (.int (-1 : Int32)), .val (.ref b2191), .val (.int (1 : Int32)), .unset] [(.int (0 : Int32))])) (fun τ κ => XS.iload X2207.here hx rfl (hb hby at_145) rfl κ) ?_
        have hc2211 : (0 : Int32) = (0 : Int32) := by decide
        refine Gl.st (g' := (mkF m 164 #[.val (.int x0), .val (.int x1), .val (.int x2), .val (.long x3), .second, .val (.long x4), .second, .val (.int sz), .val (.int mm), .val (.long ss), .second, .val (.long tt), .second, .val (.int (0 : Int32)), .val (.int (0 : Int32)), .val (.int (-1 : Int32)), .val (.ref b2191), .val (.int (1 : Int32)), .unset] [])) (fun τ κ => XS.ifYes X2207.here hx rfl (pc0 := 147) (pc' := 164) rfl (hb hby at_147) rfl ((if0 _ _).trans (teq hc2211).1) (by decide) (by decide) κ) ?_
        refine Gl.st (g' := (mkF m 166 #[.val (.int x0), .val (.int x1), .val (.int x2), .val (.long x3), .second, .val (.long x4), .second, .val (.int sz), .val (.int mm), .val (.long ss), .second, .val (.long tt), .second, .val (.int (0 : Int32)), .val (.int (0 : Int32)), .val (.int (-1 : Int32)), .val (.ref b2191), .val (.int (1 : Int32)), .unset] [(.int (1 : Int32))])) (fun τ κ => XS.iload X2207.here hx rfl (hb hby at_164) rfl κ) ?_
        have hc2212 : ¬ ((1 : Int32) = (0 : Int32)) := by decide
        refine Gl.st (g' := (mkF m 169 #[.val (.int x0), .val (.int x1), .val (.int x2), .val (.long x3), .second, .val (.long x4), .second, .val (.int sz), .val (.int mm), .val (.long ss), .second, .val (.long tt), .second, .val (.int (0 : Int32)), .val (.int (0 : Int32)), .val (.int (-1 : Int32)), .val (.ref b2191), .val (.int (1 : Int32)), .unset] [])) (fun τ κ => XS.ifNo X2207.here hx rfl (hb hby at_166) rfl ((if0 _ _).trans (feq hc2212).1) κ) ?_
        refine Gl.st (g' := (mkF m 171 #[.val (.int x0), .val (.int x1), .val (.int x2), .val (.long x3), .second, .val (.long x4), .second, .val (.int sz), .val (.int mm), .val (.long ss), .second, .val (.long tt), .second, .val (.int (0 : Int32)), .val (.int (0 : Int32)), .val (.int (-1 : Int32)), .val (.ref b2191), .val (.int (1 : Int32)), .unset] [(.ref b2191)])) (fun τ κ => XS.aload X2207.here hx rfl (hb hby at_169) rfl rfl κ) ?_
        refine Gl.st (g' := (mkF m 173 #[.val (.int x0), .val (.int x1), .val (.int x2), .val (.long x3), .second, .val (.long x4), .second, .val (.int sz), .val (.int mm), .val (.long ss), .second, .val (.long tt), .second, .val (.int (0 : Int32)), .val (.int (0 : Int32)), .val (.int (-1 : Int32)), .val (.ref b2191), .val (.int (1 : Int32)), .unset] [(.int mm), (.ref b2191)])) (fun τ κ => XS.iload X2207.here hx rfl (hb hby at_171) rfl κ) ?_
        obtain ⟨cq2213, kq2213, q2213a, q2213b, q2213c⟩ := isOf hZ rfl E_2208
        obtain ⟨rv2213, _, ⟨T2213, L2213, k2213, n2213⟩, -, X2213, ⟨Lc2213, hQ2213, l2213, y2213, z2213⟩, st2213⟩ := X2207.virtualBack hx (y := (⟨"org/precedence/Takeover", "hasReported", "(I)Z"⟩ : MethodName)) (z := (⟨"org/precedence/Takeover", "hasReported", "(I)Z"⟩ : MethodName)) hown (mvT hZ (hw _ (List.mem_of_getElem? (i := 103) rfl))) (mvT hZ (hw _ (List.mem_of_getElem? (i := 104) rfl))) (notFace_of_selects (args := #[]) (mvT hZ (hw _ (List.mem_of_getElem? (i := 106) rfl)))) (mvT hZ (hw _ (List.mem_of_getElem? (i := 106) rfl))) (mvT hZ (hw _ (List.mem_of_getElem? (i := 105) rfl))) (by decide) (backOf (W := 0) (rm14 l Z a0 hw [] b2191 mm t2198 kk2198 sz vs2207 T2207.heap n0 Z2207 F_2209 V2207 hm.1 hm.2) hZ (hw _ (List.mem_of_getElem? (i := 107) rfl)) (hw _ (List.mem_of_getElem? (i := 4) rfl)) (by decide) (by decide)) q2213a q2213c (g := (mkF m 173 #[.val (.int x0), .val (.int x1), .val (.int x2), .val (.long x3), .second, .val (.long x4), .second, .val (.int sz), .val (.int mm), .val (.long ss), .second, .val (.long tt), .second, .val (.int (0 : Int32)), .val (.int (0 : Int32)), .val (.int (-1 : Int32)), .val (.ref b2191), .val (.int (1 : Int32)), .unset] [(.int mm), (.ref b2191)])) rfl (by rw [hml]; rfl) (Steps.refl _) (argsL := [(.int mm)]) (rest := []) (lenOf pd_7 rfl) rfl (by show 2 * 0 + _ ≤ _; exact Nat.le_of_eq rfl) (hb hby at_173) (fun _ _ => ⟨rfl, rfl, (by decide : 11 + 0 ≤ _), (by decide : 45 + 0 ≤ _)⟩)
        dsimp only [Pt.U, Pt.locs, Pt.cells, Pt.slots] at X2213 l2213 y2213 z2213 st2213 hQ2213
        subst l2213 y2213 z2213
        obtain ⟨rfl, N2213q, e2213⟩ := hQ2213
        have N2213 := Fr.app N2207 N2213q
        refine Gl.st (g' := (mkF m 176 #[.val (.int x0), .val (.int x1), .val (.int x2), .val (.long x3), .second, .val (.long x4), .second, .val (.int sz), .val (.int mm), .val (.long ss), .second, .val (.long tt), .second, .val (.int (0 : Int32)), .val (.int (0 : Int32)), .val (.int (-1 : Int32)), .val (.ref b2191), .val (.int (1 : Int32)), .unset] [(.int (own_rep vs2207 mm))])) (fun τ κ => st2213.trans κ) ?_
        have hc2214 : ¬ ((own_rep vs2207 mm) = (0 : Int32)) := own_r1 ((A2207 mm hm.1).trans (if_pos rfl)) hss
        refine Gl.st (g' := (mkF m 179 #[.val (.int x0), .val (.int x1), .val (.int x2), .val (.long x3), .second, .val (.long x4), .second, .val (.int sz), .val (.int mm), .val (.long ss), .second, .val (.long tt), .second, .val (.int (0 : Int32)), .val (.int (0 : Int32)), .val (.int (-1 : Int32)), .val (.ref b2191), .val (.int (1 : Int32)), .unset] [])) (fun τ κ => XS.ifNo X2213.here hx rfl (hb hby at_176) rfl ((if0 _ _).trans (feq hc2214).1) κ) ?_
        refine Gl.st (g' := (mkF m 181 #[.val (.int x0), .val (.int x1), .val (.int x2), .val (.long x3), .second, .val (.long x4), .second, .val (.int sz), .val (.int mm), .val (.long ss), .second, .val (.long tt), .second, .val (.int (0 : Int32)), .val (.int (0 : Int32)), .val (.int (-1 : Int32)), .val (.ref b2191), .val (.int (1 : Int32)), .unset] [(.ref b2191)])) (fun τ κ => XS.aload X2213.here hx rfl (hb hby at_179) rfl rfl κ) ?_
        refine Gl.st (g' := (mkF m 183 #[.val (.int x0), .val (.int x1), .val (.int x2), .val (.long x3), .second, .val (.long x4), .second, .val (.int sz), .val (.int mm), .val (.long ss), .second, .val (.long tt), .second, .val (.int (0 : Int32)), .val (.int (0 : Int32)), .val (.int (-1 : Int32)), .val (.ref b2191), .val (.int (1 : Int32)), .unset] [(.int mm), (.ref b2191)])) (fun τ κ => XS.iload X2213.here hx rfl (hb hby at_181) rfl κ) ?_
        obtain ⟨cq2215, kq2215, q2215a, q2215b, q2215c⟩ := isOf hZ e2213 E_2208
        obtain ⟨rv2215, _, ⟨T2215, L2215, k2215, n2215⟩, -, X2215, ⟨Lc2215, hQ2215, l2215, y2215, z2215⟩, st2215⟩ := X2213.virtualBack hx (y := (⟨"org/precedence/Takeover", "next", "(I)J"⟩ : MethodName)) (z := (⟨"org/precedence/Takeover", "next", "(I)J"⟩ : MethodName)) hown (mvT hZ (hw _ (List.mem_of_getElem? (i := 113) rfl))) (mvT hZ (hw _ (List.mem_of_getElem? (i := 114) rfl))) (notFace_of_selects (args := #[]) (mvT hZ (hw _ (List.mem_of_getElem? (i := 116) rfl)))) (mvT hZ (hw _ (List.mem_of_getElem? (i := 116) rfl))) (mvT hZ (hw _ (List.mem_of_getElem? (i := 115) rfl))) (by decide) (backOf (W := 0) (rm16 l Z a0 hw [] b2191 mm t2198 kk2198 sz vs2207 T2207.heap n0 Z2207 F_2209 V2207 hm.1 hm.2) hZ (hw _ (List.mem_of_getElem? (i := 117) rfl)) (hw _ (List.mem_of_getElem? (i := 4) rfl)) (by decide) (by decide)) q2215a q2215c (g := (mkF m 183 #[.val (.int x0), .val (.int x1), .val (.int x2), .val (.long x3), .second, .val (.long x4), .second, .val (.int sz), .val (.int mm), .val (.long ss), .second, .val (.long tt), .second, .val (.int (0 : Int32)), .val (.int (0 : Int32)), .val (.int (-1 : Int32)), .val (.ref b2191), .val (.int (1 : Int32)), .unset] [(.int mm), (.ref b2191)])) rfl (by rw [hml]; rfl) (Steps.refl _) (argsL := [(.int mm)]) (rest := []) (lenOf pd_11 rfl) rfl (by show 2 * 0 + _ ≤ _; exact Nat.le_of_eq rfl) (hb hby at_183) (fun _ _ => ⟨rfl, e2213, (by decide : 11 + 0 ≤ _), (by decide : 45 + 0 ≤ _)⟩)
        dsimp only [Pt.U, Pt.locs, Pt.cells, Pt.slots] at X2215 l2215 y2215 z2215 st2215 hQ2215
        subst l2215 y2215 z2215
        obtain ⟨rfl, N2215q, e2215⟩ := hQ2215
        have N2215 := Fr.app N2213 N2215q
        refine Gl.st (g' := (mkF m 186 #[.val (.int x0), .val (.int x1), .val (.int x2), .val (.long x3), .second, .val (.long x4), .second, .val (.int sz), .val (.int mm), .val (.long ss), .second, .val (.long tt), .second, .val (.int (0 : Int32)), .val (.int (0 : Int32)), .val (.int (-1 : Int32)), .val (.ref b2191), .val (.int (1 : Int32)), .unset] [(.long (own_at vs2207 mm))])) (fun τ κ => st2215.trans κ) ?_
        refine Gl.st (g' := (mkF m 188 #[.val (.int x0), .val (.int x1), .val (.int x2), .val (.long x3), .second, .val (.long x4), .second, .val (.int sz), .val (.int mm), .val (.long ss), .second, .val (.long tt), .second, .val (.int (0 : Int32)), .val (.int (0 : Int32)), .val (.int (-1 : Int32)), .val (.ref b2191), .val (.int (1 : Int32)), .unset] [(.long ss), (.long (own_at vs2207 mm))])) (fun τ κ => XS.lload X2215.here hx rfl (hb hby at_186) rfl κ) ?_
        refine Gl.st (g' := (mkF m 189 #[.val (.int x0), .val (.int x1), .val (.int x2), .val (.long x3), .second, .val (.long x4), .second, .val (.int sz), .val (.int mm), .val (.long ss), .second, .val (.long tt), .second, .val (.int (0 : Int32)), .val (.int (0 : Int32)), .val (.int (-1 : Int32)), .val (.ref b2191), .val (.int (1 : Int32)), .unset] [(.int (lcmpW (own_at vs2207 mm) ss))])) (fun τ κ => XS.lcmp X2215.here hx rfl (hb hby at_188) rfl κ) ?_
        have hc2216 : (own_at vs2207 mm) = ss := ((A2207 mm hm.1).trans (if_pos rfl))
        refine Gl.st (g' := (mkF m 192 #[.val (.int x0), .val (.int x1), .val (.int x2), .val (.long x3), .second, .val (.long x4), .second, .val (.int sz), .val (.int mm), .val (.long ss), .second, .val (.long tt), .second, .val (.int (0 : Int32)), .val (.int (0 : Int32)), .val (.int (-1 : Int32)), .val (.ref b2191), .val (.int (1 : Int32)), .unset] [])) (fun τ κ => XS.ifNo X2215.here hx rfl (hb hby at_189) rfl ((if0 _ _).trans (teq ((lw_eq (own_at vs2207 mm) ss).mpr hc2216)).2) κ) ?_
        refine Gl.st (g' := (mkF m 193 #[.val (.int x0), .val (.int x1), .val (.int x2), .val (.long x3), .second, .val (.long x4), .second, .val (.int sz), .val (.int mm), .val (.long ss), .second, .val (.long tt), .second, .val (.int (0 : Int32)), .val (.int (0 : Int32)), .val (.int (-1 : Int32)), .val (.ref b2191), .val (.int (1 : Int32)), .unset] [(.int (1 : Int32))])) (fun τ κ => XS.iconst X2215.here hx rfl (hb hby at_192) κ) ?_
        refine Gl.st (g' := (mkF m 197 #[.val (.int x0), .val (.int x1), .val (.int x2), .val (.long x3), .second, .val (.long x4), .second, .val (.int sz), .val (.int mm), .val (.long ss), .second, .val (.long tt), .second, .val (.int (0 : Int32)), .val (.int (0 : Int32)), .val (.int (-1 : Int32)), .val (.ref b2191), .val (.int (1 : Int32)), .unset] [(.int (1 : Int32))])) (fun τ κ => XS.goto X2215.here hx rfl (pc0 := 193) (pc' := 197) rfl (hb hby at_193) (by decide) (by decide) κ) ?_
        refine Gl.st (g' := (mkF m 199 #[.val (.int x0), .val (.int x1), .val (.int x2), .val (.long x3), .second, .val (.long x4), .second, .val (.int sz), .val (.int mm), .val (.long ss), .second, .val (.long tt), .second, .val (.int (0 : Int32)), .val (.int (0 : Int32)), .val (.int (-1 : Int32)), .val (.ref b2191), .val (.int (1 : Int32)), .val (.int (1 : Int32))] [])) (fun τ κ => XS.istore X2215.here hx rfl (hb hby at_197) rfl (l' := #[.val (.int x0), .val (.int x1), .val (.int x2), .val (.long x3), .second, .val (.long x4), .second, .val (.int sz), .val (.int mm), .val (.long ss), .second, .val (.long tt), .second, .val (.int (0 : Int32)), .val (.int (0 : Int32)), .val (.int (-1 : Int32)), .val (.ref b2191), .val (.int (1 : Int32)), .val (.int (1 : Int32))]) rfl κ) ?_
        refine Gl.st (g' := (mkF m 201 #[.val (.int x0), .val (.int x1), .val (.int x2), .val (.long x3), .second, .val (.long x4), .second, .val (.int sz), .val (.int mm), .val (.long ss), .second, .val (.long tt), .second, .val (.int (0 : Int32)), .val (.int (0 : Int32)), .val (.int (-1 : Int32)), .val (.ref b2191), .val (.int (1 : Int32)), .val (.int (1 : Int32))] [(.int (0 : Int32))])) (fun τ κ => XS.iload X2215.here hx rfl (hb hby at_199) rfl κ) ?_
        have hc2217 : (0 : Int32) = (0 : Int32) := by decide
        refine Gl.st (g' := (mkF m 239 #[.val (.int x0), .val (.int x1), .val (.int x2), .val (.long x3), .second, .val (.long x4), .second, .val (.int sz), .val (.int mm), .val (.long ss), .second, .val (.long tt), .second, .val (.int (0 : Int32)), .val (.int (0 : Int32)), .val (.int (-1 : Int32)), .val (.ref b2191), .val (.int (1 : Int32)), .val (.int (1 : Int32))] [])) (fun τ κ => XS.ifYes X2215.here hx rfl (pc0 := 201) (pc' := 239) rfl (hb hby at_201) rfl ((if0 _ _).trans (teq hc2217).1) (by decide) (by decide) κ) ?_
        have hS := own_hs1 (sz := sz) hss (fun ii a b => by rw [A2207 ii a, A0 ii a b])
        refine own_tail hx hZ hw hby hml hown X2215 e2215 N2215 Z2207 E_2208 F_2209 V2207 hS ?_
        intro T' h' locs' X' e' N'
        refine Gl.st (g' := (mkF m 349 #[.val (.int x0), .val (.int x1), .val (.int x2), .val (.long x3), .second, .val (.long x4), .second, .val (.int sz), .val (.int mm), .val (.long ss), .second, .val (.long tt), .second, .val (.int (0 : Int32)), .val (.int (0 : Int32)), .val (.int (-1 : Int32)), .val (.ref b2191), .val (.int (1 : Int32)), .val (.int (1 : Int32))] [(.int (1 : Int32))])) (fun τ κ => XS.iload X'.here hx rfl (hb hby at_347) rfl κ) ?_
        exact Gl.ret (v := some (.int (1 : Int32))) X' Bd.notSynchronized (fun h => by rw [Bd.returns] at h; cases h) e' (fun fs hr => retN X' hx (t := .boolean) Bd.returns (by simp) (hb hby at_349) hr) (by decide) (by decide) ⟨rfl, N'⟩
      · -- pc 53: not (x2 &&& (2 : Int32)) = (0 : Int32)
        refine Gl.st (g' := (mkF m 56 #[.val (.int x0), .val (.int x1), .val (.int x2), .val (.long x3), .second, .val (.long x4), .second, .val (.int sz), .val (.int mm), .val (.long ss), .second, .val (.long tt), .second, .val (.int (0 : Int32)), .unset, .unset, .unset, .unset, .unset] [])) (fun τ κ => XS.ifNo X0.here hx rfl (hb hby at_53) rfl ((if0 _ _).trans (feq hc2189).1) κ) ?_
        refine Gl.st (g' := (mkF m 57 #[.val (.int x0), .val (.int x1), .val (.int x2), .val (.long x3), .second, .val (.long x4), .second, .val (.int sz), .val (.int mm), .val (.long ss), .second, .val (.long tt), .second, .val (.int (0 : Int32)), .unset, .unset, .unset, .unset, .unset] [(.int (1 : Int32))])) (fun τ κ => XS.iconst X0.here hx rfl (hb hby at_56) κ) ?_
        refine Gl.st (g' := (mkF m 61 #[.val (.int x0), .val (.int x1), .val (.int x2), .val (.long x3), .second, .val (.long x4), .second, .val (.int sz), .val (.int mm), .val (.long ss), .second, .val (.long tt), .second, .val (.int (0 : Int32)), .unset, .unset, .unset, .unset, .unset] [(.int (1 : Int32))])) (fun τ κ => XS.goto X0.here hx rfl (pc0 := 57) (pc' := 61) rfl (hb hby at_57) (by decide) (by decide) κ) ?_
        refine Gl.st (g' := (mkF m 63 #[.val (.int x0), .val (.int x1), .val (.int x2), .val (.long x3), .second, .val (.long x4), .second, .val (.int sz), .val (.int mm), .val (.long ss), .second, .val (.long tt), .second, .val (.int (0 : Int32)), .val (.int (1 : Int32)), .unset, .unset, .unset, .unset] [])) (fun τ κ => XS.istore X0.here hx rfl (hb hby at_61) rfl (l' := #[.val (.int x0), .val (.int x1), .val (.int x2), .val (.long x3), .second, .val (.long x4), .second, .val (.int sz), .val (.int mm), .val (.long ss), .second, .val (.long tt), .second, .val (.int (0 : Int32)), .val (.int (1 : Int32)), .unset, .unset, .unset, .unset]) rfl κ) ?_
        refine Gl.st (g' := (mkF m 64 #[.val (.int x0), .val (.int x1), .val (.int x2), .val (.long x3), .second, .val (.long x4), .second, .val (.int sz), .val (.int mm), .val (.long ss), .second, .val (.long tt), .second, .val (.int (0 : Int32)), .val (.int (1 : Int32)), .unset, .unset, .unset, .unset] [(.int (-1 : Int32))])) (fun τ κ => XS.iconst X0.here hx rfl (hb hby at_63) κ) ?_
        refine Gl.st (g' := (mkF m 66 #[.val (.int x0), .val (.int x1), .val (.int x2), .val (.long x3), .second, .val (.long x4), .second, .val (.int sz), .val (.int mm), .val (.long ss), .second, .val (.long tt), .second, .val (.int (0 : Int32)), .val (.int (1 : Int32)), .val (.int (-1 : Int32)), .unset, .unset, .unset] [])) (fun τ κ => XS.istore X0.here hx rfl (hb hby at_64) rfl (l' := #[.val (.int x0), .val (.int x1), .val (.int x2), .val (.long x3), .second, .val (.long x4), .second, .val (.int sz), .val (.int mm), .val (.long ss), .second, .val (.long tt), .second, .val (.int (0 : Int32)), .val (.int (1 : Int32)), .val (.int (-1 : Int32)), .unset, .unset, .unset]) rfl κ) ?_
        refine Gl.st (g' := (mkF m 68 #[.val (.int x0), .val (.int x1), .val (.int x2), .val (.long x3), .second, .val (.long x4), .second, .val (.int sz), .val (.int mm), .val (.long ss), .second, .val (.long tt), .second, .val (.int (0 : Int32)), .val (.int (1 : Int32)), .val (.int (-1 : Int32)), .unset, .unset, .unset] [(.int (0 : Int32))])) (fun τ κ => XS.iload X0.here hx rfl (hb hby at_66) rfl κ) ?_
        have hc2218 : (0 : Int32) = (0 : Int32) := by decide
        refine Gl.st (g' := (mkF m 89 #[.val (.int x0), .val (.int x1), .val (.int x2), .val (.long x3), .second, .val (.long x4), .second, .val (.int sz), .val (.int mm), .val (.long ss), .second, .val (.long tt), .second, .val (.int (0 : Int32)), .val (.int (1 : Int32)), .val (.int (-1 : Int32)), .unset, .unset, .unset] [])) (fun τ κ => XS.ifYes X0.here hx rfl (pc0 := 68) (pc' := 89) rfl (hb hby at_68) rfl ((if0 _ _).trans (teq hc2218).1) (by decide) (by decide) κ) ?_
        obtain ⟨T2219, h2219, X2219, e2219, E2219, A2219, D2219, -, st2219⟩ := newO X0 hx hZ hown (hw _ (List.mem_of_getElem? (i := 2) rfl)) (hw _ (List.mem_of_getElem? (i := 3) rfl)) (hw _ (List.mem_of_getElem? (i := 4) rfl)) e0 (g := (mkF m 89 #[.val (.int x0), .val (.int x1), .val (.int x2), .val (.long x3), .second, .val (.long x4), .second, .val (.int sz), .val (.int mm), .val (.long ss), .second, .val (.long tt), .second, .val (.int (0 : Int32)), .val (.int (1 : Int32)), .val (.int (-1 : Int32)), .unset, .unset, .unset] [])) rfl (hb hby at_89) (by decide) (by decide)
        obtain ⟨b2219, g2219⟩ : ∃ z, z = h0.size := ⟨_, rfl⟩
        rw [← g2219] at A2219 D2219 st2219
        have ne_de_b2219 : de ≠ b2219 := Nat.ne_of_lt (Nat.lt_of_lt_of_le V0.lt (Nat.le_of_eq g2219.symm))
        have S_2220 := S0.ext E2219
        have V_2221 := V0.ext E2219
        have g_b2219 : n0 ≤ b2219 := Nat.le_trans Z0 (Nat.le_of_eq g2219.symm)
        have sz_b2219 : h0.size ≤ b2219 := Nat.le_trans (Keep.refl h0 []).1 (Nat.le_of_eq g2219.symm)
        have Z2219 : n0 ≤ h2219.size := Nat.le_trans Z0 E2219.1
        have K2219 : Keep h0 h2219 [] := (Keep.refl h0 []).ext E2219
        have F_2222 : Fld Z h2219 b2219 "org/precedence/Takeover" "stamped" "Ljava/util/TreeMap;" .null := D2219 (Or.inr (hw _ (List.mem_of_getElem? (i := 31) rfl))) (ty := (.object "java/util/TreeMap")) (by decide)
        have F_2223 : Fld Z h2219 b2219 "org/precedence/Takeover" "unstamped" "Ljava/util/List;" .null := D2219 (Or.inr (hw _ (List.mem_of_getElem? (i := 57) rfl))) (ty := (.object "java/util/List")) (by decide)
        have F_2224 : Fld Z h2219 b2219 "org/precedence/Takeover" "submitted" "Ljava/util/List;" .null := D2219 (Or.inr (hw _ (List.mem_of_getElem? (i := 59) rfl))) (ty := (.object "java/util/List")) (by decide)
        have F_2225 : Fld Z h2219 b2219 "org/precedence/Takeover" "next" "[J" .null := D2219 (Or.inr (hw _ (List.mem_of_getElem? (i := 62) rfl))) (ty := (.array .long)) (by decide)
        refine Gl.st (g' := (mkF m 92 #[.val (.int x0), .val (.int x1), .val (.int x2), .val (.long x3), .second, .val (.long x4), .second, .val (.int sz), .val (.int mm), .val (.long ss), .second, .val (.long tt), .second, .val (.int (0 : Int32)), .val (.int (1 : Int32)), .val (.int (-1 : Int32)), .unset, .unset, .unset] [(.ref b2219)])) (fun τ κ => st2219 _ κ) ?_
        refine Gl.st (g' := (mkF m 93 #[.val (.int x0), .val (.int x1), .val (.int x2), .val (.long x3), .second, .val (.long x4), .second, .val (.int sz), .val (.int mm), .val (.long ss), .second, .val (.long tt), .second, .val (.int (0 : Int32)), .val (.int (1 : Int32)), .val (.int (-1 : Int32)), .unset, .unset, .unset] [(.ref b2219), (.ref b2219)])) (fun τ κ => XS.dup X2219.here hx rfl (hb hby at_92) rfl rfl κ) ?_
        refine Gl.st (g' := (mkF m 95 #[.val (.int x0), .val (.int x1), .val (.int x2), .val (.long x3), .second, .val (.long x4), .second, .val (.int sz), .val (.int mm), .val (.long ss), .second, .val (.long tt), .second, .val (.int (0 : Int32)), .val (.int (1 : Int32)), .val (.int (-1 : Int32)), .unset, .unset, .unset] [(.int sz), (.ref b2219), (.ref b2219)])) (fun τ κ => XS.iload X2219.here hx rfl (hb hby at_93) rfl κ) ?_
        obtain ⟨rv2226, _, ⟨T2226, L2226, k2226, n2226⟩, -, X2226, ⟨Lc2226, hQ2226, l2226, y2226, z2226⟩, st2226⟩ := X2219.specialBack hx (y := (⟨"org/precedence/Takeover", "<init>", "(I)V"⟩ : MethodName)) rfl hown (mvT hZ (hw _ (List.mem_of_getElem? (i := 5) rfl))) (mvT hZ (hw _ (List.mem_of_getElem? (i := 6) rfl))) (mvT hZ (hw _ (List.mem_of_getElem? (i := 7) rfl))) (by decide) (backOf (W := 1) (rm_initS l Z a0 hw [] b2219 sz de kd h2219 n0 Z2219 A2219 g_b2219 S_2220 V_2221 (Ne.symm ne_de_b2219) F_2222 F_2223 F_2224 F_2225 hsz) hZ (hw _ (List.mem_of_getElem? (i := 7) rfl)) (hw _ (List.mem_of_getElem? (i := 4) rfl)) (by decide) (by decide)) (g := (mkF m 95 #[.val (.int x0), .val (.int x1), .val (.int x2), .val (.long x3), .second, .val (.long x4), .second, .val (.int sz), .val (.int mm), .val (.long ss), .second, .val (.long tt), .second, .val (.int (0 : Int32)), .val (.int (1 : Int32)), .val (.int (-1 : Int32)), .unset, .unset, .unset] [(.int sz), (.ref b2219), (.ref b2219)])) rfl (by rw [hml]; rfl) (Steps.refl _) (a := b2219) (argsL := [(.int sz)]) (rest := [(.ref b2219)]) (lenOf pd_9 rfl) rfl (by show 2 * 0 + _ ≤ _; exact Nat.le_of_eq rfl) (hb hby at_95) (fun _ _ => ⟨rfl, e2219, (by decide : 1 + 10 ≤ _), (by decide : 4 + 41 ≤ _)⟩)
        dsimp only [Pt.U, Pt.locs, Pt.cells, Pt.slots] at X2226 l2226 y2226 z2226 st2226 hQ2226
        subst l2226 y2226 z2226
        obtain ⟨t2226, kk2226, vs2226, rfl, N2226q, Kc2226, s2226, Ec2226, FN2226, V2226, hv2226⟩ := hQ2226
        have ne_de_t2226 : de ≠ t2226 := Nat.ne_of_lt (Nat.lt_of_lt_of_le V_2221.lt s2226)
        have ne_b2219_t2226 : b2219 ≠ t2226 := Nat.ne_of_lt (Nat.lt_of_lt_of_le A2219.lt s2226)
        have g_t2226 : n0 ≤ t2226 := Nat.le_trans Z2219 s2226
        have sz_t2226 : h0.size ≤ t2226 := Nat.le_trans K2219.1 s2226
        have E_2227 := A2219.keep Kc2226
        have N2226 := Fr.app N0 N2226q
        have Z2226 : n0 ≤ T2226.heap.size := Nat.le_trans Z2219 Kc2226.1
        have K2226 : Keep h0 T2226.heap [] := K2219.trans Kc2226 (allS (Or.inr sz_b2219) all0)
        have A0 := own_A0 hv2226
        refine Gl.st (g' := (mkF m 98 #[.val (.int x0), .val (.int x1), .val (.int x2), .val (.long x3), .second, .val (.long x4), .second, .val (.int sz), .val (.int mm), .val (.long ss), .second, .val (.long tt), .second, .val (.int (0 : Int32)), .val (.int (1 : Int32)), .val (.int (-1 : Int32)), .unset, .unset, .unset] [(.ref b2219)])) (fun τ κ => st2226.trans κ) ?_
        refine Gl.st (g' := (mkF m 100 #[.val (.int x0), .val (.int x1), .val (.int x2), .val (.long x3), .second, .val (.long x4), .second, .val (.int sz), .val (.int mm), .val (.long ss), .second, .val (.long tt), .second, .val (.int (0 : Int32)), .val (.int (1 : Int32)), .val (.int (-1 : Int32)), .val (.ref b2219), .unset, .unset] [])) (fun τ κ => XS.astore X2226.here hx rfl (hb hby at_98) rfl rfl (l' := #[.val (.int x0), .val (.int x1), .val (.int x2), .val (.long x3), .second, .val (.long x4), .second, .val (.int sz), .val (.int mm), .val (.long ss), .second, .val (.long tt), .second, .val (.int (0 : Int32)), .val (.int (1 : Int32)), .val (.int (-1 : Int32)), .val (.ref b2219), .unset, .unset]) rfl κ) ?_
        refine Gl.st (g' := (mkF m 102 #[.val (.int x0), .val (.int x1), .val (.int x2), .val (.long x3), .second, .val (.long x4), .second, .val (.int sz), .val (.int mm), .val (.long ss), .second, .val (.long tt), .second, .val (.int (0 : Int32)), .val (.int (1 : Int32)), .val (.int (-1 : Int32)), .val (.ref b2219), .unset, .unset] [(.int (0 : Int32))])) (fun τ κ => XS.iload X2226.here hx rfl (hb hby at_100) rfl κ) ?_
        have hc2232 : (0 : Int32) = (0 : Int32) := by decide
        refine Gl.st (g' := (mkF m 119 #[.val (.int x0), .val (.int x1), .val (.int x2), .val (.long x3), .second, .val (.long x4), .second, .val (.int sz), .val (.int mm), .val (.long ss), .second, .val (.long tt), .second, .val (.int (0 : Int32)), .val (.int (1 : Int32)), .val (.int (-1 : Int32)), .val (.ref b2219), .unset, .unset] [])) (fun τ κ => XS.ifYes X2226.here hx rfl (pc0 := 102) (pc' := 119) rfl (hb hby at_102) rfl ((if0 _ _).trans (teq hc2232).1) (by decide) (by decide) κ) ?_
        refine Gl.st (g' := (mkF m 121 #[.val (.int x0), .val (.int x1), .val (.int x2), .val (.long x3), .second, .val (.long x4), .second, .val (.int sz), .val (.int mm), .val (.long ss), .second, .val (.long tt), .second, .val (.int (0 : Int32)), .val (.int (1 : Int32)), .val (.int (-1 : Int32)), .val (.ref b2219), .unset, .unset] [(.ref b2219)])) (fun τ κ => XS.aload X2226.here hx rfl (hb hby at_119) rfl rfl κ) ?_
        refine Gl.st (g' := (mkF m 123 #[.val (.int x0), .val (.int x1), .val (.int x2), .val (.long x3), .second, .val (.long x4), .second, .val (.int sz), .val (.int mm), .val (.long ss), .second, .val (.long tt), .second, .val (.int (0 : Int32)), .val (.int (1 : Int32)), .val (.int (-1 : Int32)), .val (.ref b2219), .unset, .unset] [(.int mm), (.ref b2219)])) (fun τ κ => XS.iload X2226.here hx rfl (hb hby at_121) rfl κ) ?_
        obtain ⟨cq2233, kq2233, q2233a, q2233b, q2233c⟩ := isOf hZ rfl Ec2226
        obtain ⟨rv2233, _, ⟨T2233, L2233, k2233, n2233⟩, -, X2233, ⟨Lc2233, hQ2233, l2233, y2233, z2233⟩, st2233⟩ := X2226.virtualBack hx (y := (⟨"org/precedence/Takeover", "hasReported", "(I)Z"⟩ : MethodName)) (z := (⟨"org/precedence/Takeover", "hasReported", "(I)Z"⟩ : MethodName)) hown (mvT hZ (hw _ (List.mem_of_getElem? (i := 103) rfl))) (mvT hZ (hw _ (List.mem_of_getElem? (i := 104) rfl))) (notFace_of_selects (args := #[]) (mvT hZ (hw _ (List.mem_of_getElem? (i := 106) rfl)))) (mvT hZ (hw _ (List.mem_of_getElem? (i := 106) rfl))) (mvT hZ (hw _ (List.mem_of_getElem? (i := 105) rfl))) (by decide) (backOf (W := 0) (rm14 l Z a0 hw [] b2219 mm t2226 kk2226 sz vs2226 T2226.heap n0 Z2226 FN2226 V2226 hm.1 hm.2) hZ (hw _ (List.mem_of_getElem? (i := 107) rfl)) (hw _ (List.mem_of_getElem? (i := 4) rfl)) (by decide) (by decide)) q2233a q2233c (g := (mkF m 123 #[.val (.int x0), .val (.int x1), .val (.int x2), .val (.long x3), .second, .val (.long x4), .second, .val (.int sz), .val (.int mm), .val (.long ss), .second, .val (.long tt), .second, .val (.int (0 : Int32)), .val (.int (1 : Int32)), .val (.int (-1 : Int32)), .val (.ref b2219), .unset, .unset] [(.int mm), (.ref b2219)])) rfl (by rw [hml]; rfl) (Steps.refl _) (argsL := [(.int mm)]) (rest := []) (lenOf pd_7 rfl) rfl (by show 2 * 0 + _ ≤ _; exact Nat.le_of_eq rfl) (hb hby at_123) (fun _ _ => ⟨rfl, rfl, (by decide : 11 + 0 ≤ _), (by decide : 45 + 0 ≤ _)⟩)
        dsimp only [Pt.U, Pt.locs, Pt.cells, Pt.slots] at X2233 l2233 y2233 z2233 st2233 hQ2233
        subst l2233 y2233 z2233
        obtain ⟨rfl, N2233q, e2233⟩ := hQ2233
        have N2233 := Fr.app N2226 N2233q
        refine Gl.st (g' := (mkF m 126 #[.val (.int x0), .val (.int x1), .val (.int x2), .val (.long x3), .second, .val (.long x4), .second, .val (.int sz), .val (.int mm), .val (.long ss), .second, .val (.long tt), .second, .val (.int (0 : Int32)), .val (.int (1 : Int32)), .val (.int (-1 : Int32)), .val (.ref b2219), .unset, .unset] [(.int (own_rep vs2226 mm))])) (fun τ κ => st2233.trans κ) ?_
        have hc2234 : (own_rep vs2226 mm) = (0 : Int32) := own_r0 (A0 mm hm.1 hm.2)
        refine Gl.st (g' := (mkF m 129 #[.val (.int x0), .val (.int x1), .val (.int x2), .val (.long x3), .second, .val (.long x4), .second, .val (.int sz), .val (.int mm), .val (.long ss), .second, .val (.long tt), .second, .val (.int (0 : Int32)), .val (.int (1 : Int32)), .val (.int (-1 : Int32)), .val (.ref b2219), .unset, .unset] [])) (fun τ κ => XS.ifNo X2233.here hx rfl (hb hby at_126) rfl ((if0 _ _).trans (teq hc2234).2) κ) ?_
        refine Gl.st (g' := (mkF m 130 #[.val (.int x0), .val (.int x1), .val (.int x2), .val (.long x3), .second, .val (.long x4), .second, .val (.int sz), .val (.int mm), .val (.long ss), .second, .val (.long tt), .second, .val (.int (0 : Int32)), .val (.int (1 : Int32)), .val (.int (-1 : Int32)), .val (.ref b2219), .unset, .unset] [(.int (1 : Int32))])) (fun τ κ => XS.iconst X2233.here hx rfl (hb hby at_129) κ) ?_
        refine Gl.st (g' := (mkF m 134 #[.val (.int x0), .val (.int x1), .val (.int x2), .val (.long x3), .second, .val (.long x4), .second, .val (.int sz), .val (.int mm), .val (.long ss), .second, .val (.long tt), .second, .val (.int (0 : Int32)), .val (.int (1 : Int32)), .val (.int (-1 : Int32)), .val (.ref b2219), .unset, .unset] [(.int (1 : Int32))])) (fun τ κ => XS.goto X2233.here hx rfl (pc0 := 130) (pc' := 134) rfl (hb hby at_130) (by decide) (by decide) κ) ?_
        refine Gl.st (g' := (mkF m 136 #[.val (.int x0), .val (.int x1), .val (.int x2), .val (.long x3), .second, .val (.long x4), .second, .val (.int sz), .val (.int mm), .val (.long ss), .second, .val (.long tt), .second, .val (.int (0 : Int32)), .val (.int (1 : Int32)), .val (.int (-1 : Int32)), .val (.ref b2219), .val (.int (1 : Int32)), .unset] [])) (fun τ κ => XS.istore X2233.here hx rfl (hb hby at_134) rfl (l' := #[.val (.int x0), .val (.int x1), .val (.int x2), .val (.long x3), .second, .val (.long x4), .second, .val (.int sz), .val (.int mm), .val (.long ss), .second, .val (.long tt), .second, .val (.int (0 : Int32)), .val (.int (1 : Int32)), .val (.int (-1 : Int32)), .val (.ref b2219), .val (.int (1 : Int32)), .unset]) rfl κ) ?_
        refine Gl.st (g' := (mkF m 138 #[.val (.int x0), .val (.int x1), .val (.int x2), .val (.long x3), .second, .val (.long x4), .second, .val (.int sz), .val (.int mm), .val (.long ss), .second, .val (.long tt), .second, .val (.int (0 : Int32)), .val (.int (1 : Int32)), .val (.int (-1 : Int32)), .val (.ref b2219), .val (.int (1 : Int32)), .unset] [(.ref b2219)])) (fun τ κ => XS.aload X2233.here hx rfl (hb hby at_136) rfl rfl κ) ?_
        refine Gl.st (g' := (mkF m 140 #[.val (.int x0), .val (.int x1), .val (.int x2), .val (.long x3), .second, .val (.long x4), .second, .val (.int sz), .val (.int mm), .val (.long ss), .second, .val (.long tt), .second, .val (.int (0 : Int32)), .val (.int (1 : Int32)), .val (.int (-1 : Int32)), .val (.ref b2219), .val (.int (1 : Int32)), .unset] [(.int mm), (.ref b2219)])) (fun τ κ => XS.iload X2233.here hx rfl (hb hby at_138) rfl κ) ?_
        refine Gl.st (g' := (mkF m 142 #[.val (.int x0), .val (.int x1), .val (.int x2), .val (.long x3), .second, .val (.long x4), .second, .val (.int sz), .val (.int mm), .val (.long ss), .second, .val (.long tt), .second, .val (.int (0 : Int32)), .val (.int (1 : Int32)), .val (.int (-1 : Int32)), .val (.ref b2219), .val (.int (1 : Int32)), .unset] [(.long ss), (.int mm), (.ref b2219)])) (fun τ κ => XS.lload X2233.here hx rfl (hb hby at_140) rfl κ) ?_
        obtain ⟨cq2235, kq2235, q2235a, q2235b, q2235c⟩ := isOf hZ e2233 Ec2226
        obtain ⟨rv2235, _, ⟨T2235, L2235, k2235, n2235⟩, -, X2235, ⟨Lc2235, hQ2235, l2235, y2235, z2235⟩, st2235⟩ := X2233.virtualBack hx (y := (⟨"org/precedence/Takeover", "reported", "(IJ)V"⟩ : MethodName)) (z := (⟨"org/precedence/Takeover", "reported", "(IJ)V"⟩ : MethodName)) hown (mvT hZ (hw _ (List.mem_of_getElem? (i := 108) rfl))) (mvT hZ (hw _ (List.mem_of_getElem? (i := 109) rfl))) (notFace_of_selects (args := #[]) (mvT hZ (hw _ (List.mem_of_getElem? (i := 111) rfl)))) (mvT hZ (hw _ (List.mem_of_getElem? (i := 111) rfl))) (mvT hZ (hw _ (List.mem_of_getElem? (i := 110) rfl))) (by decide) (backOf (W := 0) (rm15 l Z a0 hw [] b2219 mm ss t2226 kk2226 sz vs2226 T2226.heap n0 Z2226 FN2226 V2226 hm.1 hm.2 g_t2226 (own_n0 (A0 mm hm.1 hm.2)) hss ne_b2219_t2226) hZ (hw _ (List.mem_of_getElem? (i := 112) rfl)) (hw _ (List.mem_of_getElem? (i := 4) rfl)) (by decide) (by decide)) q2235a q2235c (g := (mkF m 142 #[.val (.int x0), .val (.int x1), .val (.int x2), .val (.long x3), .second, .val (.long x4), .second, .val (.int sz), .val (.int mm), .val (.long ss), .second, .val (.long tt), .second, .val (.int (0 : Int32)), .val (.int (1 : Int32)), .val (.int (-1 : Int32)), .val (.ref b2219), .val (.int (1 : Int32)), .unset] [(.long ss), (.int mm), (.ref b2219)])) rfl (by rw [hml]; rfl) (Steps.refl _) (argsL := [(.int mm), (.long ss)]) (rest := []) (lenOf pd_10 rfl) rfl (by show 2 * 0 + _ ≤ _; exact Nat.le_of_eq rfl) (hb hby at_142) (fun _ _ => ⟨rfl, e2233, (by decide : 11 + 0 ≤ _), (by decide : 45 + 0 ≤ _)⟩)
        dsimp only [Pt.U, Pt.locs, Pt.cells, Pt.slots] at X2235 l2235 y2235 z2235 st2235 hQ2235
        subst l2235 y2235 z2235
        obtain ⟨vs2235, rfl, N2235q, Kc2235, V2235, hv2235⟩ := hQ2235
        have E_2236 := Ec2226.keep Kc2235
        have F_2237 := FN2226.keep Kc2235 (ninS ne_b2219_t2226 nin0)
        have N2235 := Fr.app N2233 N2235q
        have Z2235 : n0 ≤ T2235.heap.size := Nat.le_trans Z2226 Kc2235.1
        have K2235 : Keep h0 T2235.heap [] := K2226.trans Kc2235 (allS (Or.inr sz_t2226) all0)
        have A2235 := own_A hm.1 hv2235
        refine Gl.st (g' := (mkF m 145 #[.val (.int x0), .val (.int x1), .val (.int x2), .val (.long x3), .second, .val (.long x4), .second, .val (.int sz), .val (.int mm), .val (.long ss), .second, .val (.long tt), .second, .val (.int (0 : Int32)), .val (.int (1 : Int32)), .val (.int (-1 : Int32)), .val (.ref b2219), .val (.int (1 : Int32)), .unset] [])) (fun τ κ => st2235.trans κ) ?_
        refine Gl.st (g' := (mkF m 147 #[.val (.int x0), .val (.int x1), .val (.int x2), .val (.long x3), .second, .val (.long x4), .second, .val (.int sz), .val (.int mm), .val (.long ss), .second, .val (.long tt), .second, .val (.int (0 : Int32)), .val (.int (1 : Int32)), .val (.int (-1 : Int32)), .val (.ref b2219), .val (.int (1 : Int32)), .unset] [(.int (0 : Int32))])) (fun τ κ => XS.iload X2235.here hx rfl (hb hby at_145) rfl κ) ?_
        have hc2239 : (0 : Int32) = (0 : Int32) := by decide
        refine Gl.st (g' := (mkF m 164 #[.val (.int x0), .val (.int x1), .val (.int x2), .val (.long x3), .second, .val (.long x4), .second, .val (.int sz), .val (.int mm), .val (.long ss), .second, .val (.long tt), .second, .val (.int (0 : Int32)), .val (.int (1 : Int32)), .val (.int (-1 : Int32)), .val (.ref b2219), .val (.int (1 : Int32)), .unset] [])) (fun τ κ => XS.ifYes X2235.here hx rfl (pc0 := 147) (pc' := 164) rfl (hb hby at_147) rfl ((if0 _ _).trans (teq hc2239).1) (by decide) (by decide) κ) ?_
        refine Gl.st (g' := (mkF m 166 #[.val (.int x0), .val (.int x1), .val (.int x2), .val (.long x3), .second, .val (.long x4), .second, .val (.int sz), .val (.int mm), .val (.long ss), .second, .val (.long tt), .second, .val (.int (0 : Int32)), .val (.int (1 : Int32)), .val (.int (-1 : Int32)), .val (.ref b2219), .val (.int (1 : Int32)), .unset] [(.int (1 : Int32))])) (fun τ κ => XS.iload X2235.here hx rfl (hb hby at_164) rfl κ) ?_
        have hc2240 : ¬ ((1 : Int32) = (0 : Int32)) := by decide
        refine Gl.st (g' := (mkF m 169 #[.val (.int x0), .val (.int x1), .val (.int x2), .val (.long x3), .second, .val (.long x4), .second, .val (.int sz), .val (.int mm), .val (.long ss), .second, .val (.long tt), .second, .val (.int (0 : Int32)), .val (.int (1 : Int32)), .val (.int (-1 : Int32)), .val (.ref b2219), .val (.int (1 : Int32)), .unset] [])) (fun τ κ => XS.ifNo X2235.here hx rfl (hb hby at_166) rfl ((if0 _ _).trans (feq hc2240).1) κ) ?_
        refine Gl.st (g' := (mkF m 171 #[.val (.int x0), .val (.int x1), .val (.int x2), .val (.long x3), .second, .val (.long x4), .second, .val (.int sz), .val (.int mm), .val (.long ss), .second, .val (.long tt), .second, .val (.int (0 : Int32)), .val (.int (1 : Int32)), .val (.int (-1 : Int32)), .val (.ref b2219), .val (.int (1 : Int32)), .unset] [(.ref b2219)])) (fun τ κ => XS.aload X2235.here hx rfl (hb hby at_169) rfl rfl κ) ?_
        refine Gl.st (g' := (mkF m 173 #[.val (.int x0), .val (.int x1), .val (.int x2), .val (.long x3), .second, .val (.long x4), .second, .val (.int sz), .val (.int mm), .val (.long ss), .second, .val (.long tt), .second, .val (.int (0 : Int32)), .val (.int (1 : Int32)), .val (.int (-1 : Int32)), .val (.ref b2219), .val (.int (1 : Int32)), .unset] [(.int mm), (.ref b2219)])) (fun τ κ => XS.iload X2235.here hx rfl (hb hby at_171) rfl κ) ?_
        obtain ⟨cq2241, kq2241, q2241a, q2241b, q2241c⟩ := isOf hZ rfl E_2236
        obtain ⟨rv2241, _, ⟨T2241, L2241, k2241, n2241⟩, -, X2241, ⟨Lc2241, hQ2241, l2241, y2241, z2241⟩, st2241⟩ := X2235.virtualBack hx (y := (⟨"org/precedence/Takeover", "hasReported", "(I)Z"⟩ : MethodName)) (z := (⟨"org/precedence/Takeover", "hasReported", "(I)Z"⟩ : MethodName)) hown (mvT hZ (hw _ (List.mem_of_getElem? (i := 103) rfl))) (mvT hZ (hw _ (List.mem_of_getElem? (i := 104) rfl))) (notFace_of_selects (args := #[]) (mvT hZ (hw _ (List.mem_of_getElem? (i := 106) rfl)))) (mvT hZ (hw _ (List.mem_of_getElem? (i := 106) rfl))) (mvT hZ (hw _ (List.mem_of_getElem? (i := 105) rfl))) (by decide) (backOf (W := 0) (rm14 l Z a0 hw [] b2219 mm t2226 kk2226 sz vs2235 T2235.heap n0 Z2235 F_2237 V2235 hm.1 hm.2) hZ (hw _ (List.mem_of_getElem? (i := 107) rfl)) (hw _ (List.mem_of_getElem? (i := 4) rfl)) (by decide) (by decide)) q2241a q2241c (g := (mkF m 173 #[.val (.int x0), .val (.int x1), .val (.int x2), .val (.long x3), .second, .val (.long x4), .second, .val (.int sz), .val (.int mm), .val (.long ss), .second, .val (.long tt), .second, .val (.int (0 : Int32)), .val (.int (1 : Int32)), .val (.int (-1 : Int32)), .val (.ref b2219), .val (.int (1 : Int32)), .unset] [(.int mm), (.ref b2219)])) rfl (by rw [hml]; rfl) (Steps.refl _) (argsL := [(.int mm)]) (rest := []) (lenOf pd_7 rfl) rfl (by show 2 * 0 + _ ≤ _; exact Nat.le_of_eq rfl) (hb hby at_173) (fun _ _ => ⟨rfl, rfl, (by decide : 11 + 0 ≤ _), (by decide : 45 + 0 ≤ _)⟩)
        dsimp only [Pt.U, Pt.locs, Pt.cells, Pt.slots] at X2241 l2241 y2241 z2241 st2241 hQ2241
        subst l2241 y2241 z2241
        obtain ⟨rfl, N2241q, e2241⟩ := hQ2241
        have N2241 := Fr.app N2235 N2241q
        refine Gl.st (g' := (mkF m 176 #[.val (.int x0), .val (.int x1), .val (.int x2), .val (.long x3), .second, .val (.long x4), .second, .val (.int sz), .val (.int mm), .val (.long ss), .second, .val (.long tt), .second, .val (.int (0 : Int32)), .val (.int (1 : Int32)), .val (.int (-1 : Int32)), .val (.ref b2219), .val (.int (1 : Int32)), .unset] [(.int (own_rep vs2235 mm))])) (fun τ κ => st2241.trans κ) ?_
        have hc2242 : ¬ ((own_rep vs2235 mm) = (0 : Int32)) := own_r1 ((A2235 mm hm.1).trans (if_pos rfl)) hss
        refine Gl.st (g' := (mkF m 179 #[.val (.int x0), .val (.int x1), .val (.int x2), .val (.long x3), .second, .val (.long x4), .second, .val (.int sz), .val (.int mm), .val (.long ss), .second, .val (.long tt), .second, .val (.int (0 : Int32)), .val (.int (1 : Int32)), .val (.int (-1 : Int32)), .val (.ref b2219), .val (.int (1 : Int32)), .unset] [])) (fun τ κ => XS.ifNo X2241.here hx rfl (hb hby at_176) rfl ((if0 _ _).trans (feq hc2242).1) κ) ?_
        refine Gl.st (g' := (mkF m 181 #[.val (.int x0), .val (.int x1), .val (.int x2), .val (.long x3), .second, .val (.long x4), .second, .val (.int sz), .val (.int mm), .val (.long ss), .second, .val (.long tt), .second, .val (.int (0 : Int32)), .val (.int (1 : Int32)), .val (.int (-1 : Int32)), .val (.ref b2219), .val (.int (1 : Int32)), .unset] [(.ref b2219)])) (fun τ κ => XS.aload X2241.here hx rfl (hb hby at_179) rfl rfl κ) ?_
        refine Gl.st (g' := (mkF m 183 #[.val (.int x0), .val (.int x1), .val (.int x2), .val (.long x3), .second, .val (.long x4), .second, .val (.int sz), .val (.int mm), .val (.long ss), .second, .val (.long tt), .second, .val (.int (0 : Int32)), .val (.int (1 : Int32)), .val (.int (-1 : Int32)), .val (.ref b2219), .val (.int (1 : Int32)), .unset] [(.int mm), (.ref b2219)])) (fun τ κ => XS.iload X2241.here hx rfl (hb hby at_181) rfl κ) ?_
        obtain ⟨cq2243, kq2243, q2243a, q2243b, q2243c⟩ := isOf hZ e2241 E_2236
        obtain ⟨rv2243, _, ⟨T2243, L2243, k2243, n2243⟩, -, X2243, ⟨Lc2243, hQ2243, l2243, y2243, z2243⟩, st2243⟩ := X2241.virtualBack hx (y := (⟨"org/precedence/Takeover", "next", "(I)J"⟩ : MethodName)) (z := (⟨"org/precedence/Takeover", "next", "(I)J"⟩ : MethodName)) hown (mvT hZ (hw _ (List.mem_of_getElem? (i := 113) rfl))) (mvT hZ (hw _ (List.mem_of_getElem? (i := 114) rfl))) (notFace_of_selects (args := #[]) (mvT hZ (hw _ (List.mem_of_getElem? (i := 116) rfl)))) (mvT hZ (hw _ (List.mem_of_getElem? (i := 116) rfl))) (mvT hZ (hw _ (List.mem_of_getElem? (i := 115) rfl))) (by decide) (backOf (W := 0) (rm16 l Z a0 hw [] b2219 mm t2226 kk2226 sz vs2235 T2235.heap n0 Z2235 F_2237 V2235 hm.1 hm.2) hZ (hw _ (List.mem_of_getElem? (i := 117) rfl)) (hw _ (List.mem_of_getElem? (i := 4) rfl)) (by decide) (by decide)) q2243a q2243c (g := (mkF m 183 #[.val (.int x0), .val (.int x1), .val (.int x2), .val (.long x3), .second, .val (.long x4), .second, .val (.int sz), .val (.int mm), .val (.long ss), .second, .val (.long tt), .second, .val (.int (0 : Int32)), .val (.int (1 : Int32)), .val (.int (-1 : Int32)), .val (.ref b2219), .val (.int (1 : Int32)), .unset] [(.int mm), (.ref b2219)])) rfl (by rw [hml]; rfl) (Steps.refl _) (argsL := [(.int mm)]) (rest := []) (lenOf pd_11 rfl) rfl (by show 2 * 0 + _ ≤ _; exact Nat.le_of_eq rfl) (hb hby at_183) (fun _ _ => ⟨rfl, e2241, (by decide : 11 + 0 ≤ _), (by decide : 45 + 0 ≤ _)⟩)
        dsimp only [Pt.U, Pt.locs, Pt.cells, Pt.slots] at X2243 l2243 y2243 z2243 st2243 hQ2243
        subst l2243 y2243 z2243
        obtain ⟨rfl, N2243q, e2243⟩ := hQ2243
        have N2243 := Fr.app N2241 N2243q
        refine Gl.st (g' := (mkF m 186 #[.val (.int x0), .val (.int x1), .val (.int x2), .val (.long x3), .second, .val (.long x4), .second, .val (.int sz), .val (.int mm), .val (.long ss), .second, .val (.long tt), .second, .val (.int (0 : Int32)), .val (.int (1 : Int32)), .val (.int (-1 : Int32)), .val (.ref b2219), .val (.int (1 : Int32)), .unset] [(.long (own_at vs2235 mm))])) (fun τ κ => st2243.trans κ) ?_
        refine Gl.st (g' := (mkF m 188 #[.val (.int x0), .val (.int x1), .val (.int x2), .val (.long x3), .second, .val (.long x4), .second, .val (.int sz), .val (.int mm), .val (.long ss), .second, .val (.long tt), .second, .val (.int (0 : Int32)), .val (.int (1 : Int32)), .val (.int (-1 : Int32)), .val (.ref b2219), .val (.int (1 : Int32)), .unset] [(.long ss), (.long (own_at vs2235 mm))])) (fun τ κ => XS.lload X2243.here hx rfl (hb hby at_186) rfl κ) ?_
        refine Gl.st (g' := (mkF m 189 #[.val (.int x0), .val (.int x1), .val (.int x2), .val (.long x3), .second, .val (.long x4), .second, .val (.int sz), .val (.int mm), .val (.long ss), .second, .val (.long tt), .second, .val (.int (0 : Int32)), .val (.int (1 : Int32)), .val (.int (-1 : Int32)), .val (.ref b2219), .val (.int (1 : Int32)), .unset] [(.int (lcmpW (own_at vs2235 mm) ss))])) (fun τ κ => XS.lcmp X2243.here hx rfl (hb hby at_188) rfl κ) ?_
        have hc2244 : (own_at vs2235 mm) = ss := ((A2235 mm hm.1).trans (if_pos rfl))
        refine Gl.st (g' := (mkF m 192 #[.val (.int x0), .val (.int x1), .val (.int x2), .val (.long x3), .second, .val (.long x4), .second, .val (.int sz), .val (.int mm), .val (.long ss), .second, .val (.long tt), .second, .val (.int (0 : Int32)), .val (.int (1 : Int32)), .val (.int (-1 : Int32)), .val (.ref b2219), .val (.int (1 : Int32)), .unset] [])) (fun τ κ => XS.ifNo X2243.here hx rfl (hb hby at_189) rfl ((if0 _ _).trans (teq ((lw_eq (own_at vs2235 mm) ss).mpr hc2244)).2) κ) ?_
        refine Gl.st (g' := (mkF m 193 #[.val (.int x0), .val (.int x1), .val (.int x2), .val (.long x3), .second, .val (.long x4), .second, .val (.int sz), .val (.int mm), .val (.long ss), .second, .val (.long tt), .second, .val (.int (0 : Int32)), .val (.int (1 : Int32)), .val (.int (-1 : Int32)), .val (.ref b2219), .val (.int (1 : Int32)), .unset] [(.int (1 : Int32))])) (fun τ κ => XS.iconst X2243.here hx rfl (hb hby at_192) κ) ?_
        refine Gl.st (g' := (mkF m 197 #[.val (.int x0), .val (.int x1), .val (.int x2), .val (.long x3), .second, .val (.long x4), .second, .val (.int sz), .val (.int mm), .val (.long ss), .second, .val (.long tt), .second, .val (.int (0 : Int32)), .val (.int (1 : Int32)), .val (.int (-1 : Int32)), .val (.ref b2219), .val (.int (1 : Int32)), .unset] [(.int (1 : Int32))])) (fun τ κ => XS.goto X2243.here hx rfl (pc0 := 193) (pc' := 197) rfl (hb hby at_193) (by decide) (by decide) κ) ?_
        refine Gl.st (g' := (mkF m 199 #[.val (.int x0), .val (.int x1), .val (.int x2), .val (.long x3), .second, .val (.long x4), .second, .val (.int sz), .val (.int mm), .val (.long ss), .second, .val (.long tt), .second, .val (.int (0 : Int32)), .val (.int (1 : Int32)), .val (.int (-1 : Int32)), .val (.ref b2219), .val (.int (1 : Int32)), .val (.int (1 : Int32))] [])) (fun τ κ => XS.istore X2243.here hx rfl (hb hby at_197) rfl (l' := #[.val (.int x0), .val (.int x1), .val (.int x2), .val (.long x3), .second, .val (.long x4), .second, .val (.int sz), .val (.int mm), .val (.long ss), .second, .val (.long tt), .second, .val (.int (0 : Int32)), .val (.int (1 : Int32)), .val (.int (-1 : Int32)), .val (.ref b2219), .val (.int (1 : Int32)), .val (.int (1 : Int32))]) rfl κ) ?_
        refine Gl.st (g' := (mkF m 201 #[.val (.int x0), .val (.int x1), .val (.int x2), .val (.long x3), .second, .val (.long x4), .second, .val (.int sz), .val (.int mm), .val (.long ss), .second, .val (.long tt), .second, .val (.int (0 : Int32)), .val (.int (1 : Int32)), .val (.int (-1 : Int32)), .val (.ref b2219), .val (.int (1 : Int32)), .val (.int (1 : Int32))] [(.int (0 : Int32))])) (fun τ κ => XS.iload X2243.here hx rfl (hb hby at_199) rfl κ) ?_
        have hc2245 : (0 : Int32) = (0 : Int32) := by decide
        refine Gl.st (g' := (mkF m 239 #[.val (.int x0), .val (.int x1), .val (.int x2), .val (.long x3), .second, .val (.long x4), .second, .val (.int sz), .val (.int mm), .val (.long ss), .second, .val (.long tt), .second, .val (.int (0 : Int32)), .val (.int (1 : Int32)), .val (.int (-1 : Int32)), .val (.ref b2219), .val (.int (1 : Int32)), .val (.int (1 : Int32))] [])) (fun τ κ => XS.ifYes X2243.here hx rfl (pc0 := 201) (pc' := 239) rfl (hb hby at_201) rfl ((if0 _ _).trans (teq hc2245).1) (by decide) (by decide) κ) ?_
        have hS := own_hs1 (sz := sz) hss (fun ii a b => by rw [A2235 ii a, A0 ii a b])
        refine own_tail hx hZ hw hby hml hown X2243 e2243 N2243 Z2235 E_2236 F_2237 V2235 hS ?_
        intro T' h' locs' X' e' N'
        refine Gl.st (g' := (mkF m 349 #[.val (.int x0), .val (.int x1), .val (.int x2), .val (.long x3), .second, .val (.long x4), .second, .val (.int sz), .val (.int mm), .val (.long ss), .second, .val (.long tt), .second, .val (.int (0 : Int32)), .val (.int (1 : Int32)), .val (.int (-1 : Int32)), .val (.ref b2219), .val (.int (1 : Int32)), .val (.int (1 : Int32))] [(.int (1 : Int32))])) (fun τ κ => XS.iload X'.here hx rfl (hb hby at_347) rfl κ) ?_
        exact Gl.ret (v := some (.int (1 : Int32))) X' Bd.notSynchronized (fun h => by rw [Bd.returns] at h; cases h) e' (fun fs hr => retN X' hx (t := .boolean) Bd.returns (by simp) (hb hby at_349) hr) (by decide) (by decide) ⟨rfl, N'⟩
theorem own_eqi {args : Array Value} {s : State} {t : Term} {k : Int32} (h : (Cond.eq t (.int k)).value args s none s [] = some true) : t.eval args s none [] s = some (.int k) := by
  obtain ⟨x, y, h1, h2, h3, -⟩ := cmp_v (Or.inl h)
  cases (Term.int_eval k).symm.trans h2
  cases x <;> simp [Cond.value, h1, Term.int_eval] at h ⊢
  exact h
theorem own_arv0 {args : Array Value} {s : State} {t : Term} {x : Addr} (ev : t.eval args s none [] s = some (.ref x)) (ha : (Cond.arrayOf t (.object "java/lang/Object")).value args s none s [] = some true) (hl : (Term.length t).eval args s none [] s = some (.int 0)) : ∃ k, Arv s s.heap x k (.object "java/lang/Object") (0 : Int32) [] .null := by
  obtain ⟨c, A⟩ := Arr.start ev ha
  have fin : s.arrayAt? x = some c := A.fin (Vm.Alike.refl _)
  have sz : c.slots.size = 0 := by
    simp only [Term.eval, ev, Option.bind_eq_bind, Option.bind_some, fin] at hl
    split at hl
    · rename_i hlt
      have e : c.slots.size.toInt32 = 0 := Value.int.inj (Option.some.inj hl)
      have e2 : (c.slots.size.toInt32).toInt = 0 := by rw [e]; rfl
      have e3 : (c.slots.size.toInt32).toInt = (c.slots.size : Int) := Int32.toInt_ofNat_of_lt (by omega)
      omega
    · cases hl
  exact ⟨c.cls, c, A, rfl, by rw [sz]; rfl, by decide, fun k hk => absurd hk (by omega), fun k hk => absurd hk (by omega)⟩
set_option maxRecDepth 65536 in
set_option maxHeartbeats 40000000 in
theorem comes_1 {Post : Tables → Env → Array Value → State → Outcome → State → Prop} (hpost : ∀ tb e args s v u, (limb_1_1.after args s (.returned v) u = true ∧ limb_1_2.after args s (.returned v) u = true ∧ True) → FrameEnd s (.returned v) u (Jvm.fieldLocs frame_1_writes args s ++ Jvm.arrayLocs frame_1_arrays args s ++ Jvm.staticLocs frame_1_statics s) 32 192 → Post tb e args s (.returned v) u) :
    ArmFor flags0 classFile x code maxLocals ret World_1 tables_1 room_1 Calls_1 rest_1 Pre_1 Post := by
  intro l hfl _ _ p e ha hc hk s m args below hf hA hF happ hP
  obtain ⟨hcalls, hrest, hpre⟩ := hP
  obtain ⟨-, -, -, hnamed, -, -, -, hat⟩ := (Spec.applies_iff hf).mp happ
  obtain ⟨hg, hn⟩ := and_e (Cond.before_iff.mp (show (Jvm.Cond.and given_1 narrow_1).before args s = true from hpre))
  obtain ⟨hcount, hg0⟩ := and_e hg
  obtain ⟨gi0, hg1⟩ := and_e hg0
  obtain ⟨gi1, hg2⟩ := and_e hg1
  obtain ⟨gi2, hg3⟩ := and_e hg2
  obtain ⟨gi3, hg4⟩ := and_e hg3
  have gi4 := hg4
  obtain ⟨w0, w1, w2, w3, w4, rfl⟩ : ∃ w0 w1 w2 w3 w4 : Value, args = #[w0, w1, w2, w3, w4] := by
    have hs : args.size = 5 := by simpa [Cond.value, given_1] using hcount
    obtain ⟨L⟩ := args
    match L, hs with
    | [w0, w1, w2, w3, w4], _ => exact ⟨w0, w1, w2, w3, w4, rfl⟩
  have hw := fun d (hd : d ∈ tables_1) => atoms_spec (ws := Jvm.Cond.code x code maxLocals ret :: tables_1) hat d (List.mem_cons_of_mem _ hd)
  obtain ⟨hsets, hown0⟩ := atoms_of _ (rest_1_c_eq ▸ (show rest_1_c.before _ s = true from hrest))
  have hr0 := Cond.before_iff.mp hown0
  obtain ⟨i0, ei0⟩ := is_v gi0
  obtain rfl : w0 = (.int i0) := Option.some.inj ei0
  obtain ⟨i1, ei1⟩ := is_v gi1
  obtain rfl : w1 = (.int i1) := Option.some.inj ei1
  obtain ⟨i2, ei2⟩ := is_v gi2
  obtain rfl : w2 = (.int i2) := Option.some.inj ei2
  obtain ⟨i3, ei3⟩ := isL_v gi3
  obtain rfl : w3 = (.long i3) := Option.some.inj ei3
  obtain ⟨i4, ei4⟩ := isL_v gi4
  obtain rfl : w4 = (.long i4) := Option.some.inj ei4
  have q6 := Cond.before_iff.mp (hsets _ (List.mem_of_getElem? (i := 6) rfl))
  have q8 := Cond.before_iff.mp (hsets _ (List.mem_of_getElem? (i := 8) rfl))
  obtain ⟨de, ev⟩ := arr_v q6
  have S0 := Sta.start ev (Or.inr ⟨(hw _ (List.mem_of_getElem? (i := 34) rfl)), hsets _ (List.mem_of_getElem? (i := 2) rfl)⟩)
  obtain ⟨kd, V0⟩ := own_arv0 ev q6 (own_eqi q8)
  obtain ⟨n, o, h1, h2, h3, _, L, rfl, ⟨rfl, N⟩, hq⟩ := rm0 l s _ hw tables_1 i0 i1 i2 i3 i4 de kd s.heap s.heap.size (Nat.le_refl _) S0 V0 p e ha hc hk s m _ below hf ((Spec.applies_iff_loose hf).mp happ).1 ⟨rfl, State.Warmed39.refl s, rfl⟩ trivial
  refine ⟨n, _, h1, h2, h3, hpost _ _ _ _ _ _ ⟨Cond.after_iff.mpr rfl, Cond.after_iff.mpr (eq_i res_at (Term.int_eval (1)) rfl), trivial⟩ ⟨hq.1, hq.2.1, (hq.2.2.sift fun y hy => Or.inr (N y hy)).mono (by decide) (by decide)⟩⟩
theorem main_1_1 : Claimed_1_1 := comes_1 fun _ _ _ _ _ _ h hF => ⟨h.1, hF⟩
theorem main_1_2 : Claimed_1_2 := comes_1 fun _ _ _ _ _ _ h hF => ⟨h.2.1, hF⟩
end Jvm.Pilot.@@N@@
namespace Jvm.Pilot.@@N@@
open Jvm Jvm.ClassFile Sem Op Lib Jvm.Free Jvm.Stand Jvm.Pilot.@@N@@.Jvm.D
/-! MADE BY PROGRAM (witnessworld.py) out of the Statement's table words and the real class files: 28 classes; the members and pool entries that the words name. The judged class is class 1, her method 1. -/
namespace start1
open Jvm.ClassFile
def u (s : String) : CpInfo := .utf8 (stringToUtf16 s)
/-- a pool by its gaps: so many unusable entries, then the entry; so many at the end -/
def gap : Nat → List CpInfo → List CpInfo
  | 0, r => r
  | n + 1, r => .unusable :: gap n r
def poolList (es : List (Nat × CpInfo)) (last : Nat) : List CpInfo := es.foldr (fun e r => gap e.1 (e.2 :: r)) (gap last [])
def pool (es : List (Nat × CpInfo)) (last : Nat) : Array CpInfo := ⟨poolList es last⟩
def fileOf (pool : Array CpInfo) (this : Nat) (attrs : Array Attribute := #[]) (ms : Array MethodInfo := #[]) (fl : Nat := 33) (sup : Nat := 0) (ifs : Array Nat := #[]) (fds : Array FieldInfo := #[]) : ClassFile where
  minorVersion := 0
  majorVersion := 65
  constantPool := pool
  accessFlags := fl
  thisClass := this
  superClass := sup
  interfaces := ifs
  fields := fds
  methods := ms
  attributes := attrs
def plain (name : String) (sup : Option ClassId) : Class where
  name := name
  kind := .ordinary
  loader := none
  accessFlags := 33
  super := sup
  interfaces := #[]
  cf := none
  fields := #[]
  methods := #[]
  instanceTypes := #[]
  staticTypes := #[]
  resolved := #[]
  callSites := []
  init := .initialized
  statics := none
  mirror := none

def pool0 : Array CpInfo := pool [(5, u "<init>"), (0, u "()V"), (1, .class_ 10), (1, u "java/lang/Object")] 113

def k0c0 : Code := { maxStack := 0, maxLocals := 1, code := object_method_1_code, exceptionTable := #[], attributes := #[] }
def k0m0 : Method := { name := "<init>", desc := "()V", sig := { parameters := [], returnType := none }, accessFlags := 1, code := some k0c0 }
/-- java/lang/Object -/
def k0 : Class := { plain "java/lang/Object" none with
  accessFlags := 33
  interfaces := #[]
  cf := some (fileOf pool0 8 #[] #[{ accessFlags := 1, nameIndex := 5, descriptorIndex := 6, attributes := #[] }] 33 0 #[] #[])
  fields := #[]
  methods := #[k0m0]
  instanceTypes := #[]
  staticTypes := #[]
  resolved := Array.replicate 124 none
  statics := none }

def pool1 : Array CpInfo := pool [(2, .class_ 4), (1, u "java/lang/Object"), (0, u "<init>"), (0, u "()V"), (0, .integer 2147483647), (2, .long 9223372036854775807), (1, .class_ 13), (0, u "org/precedence/Takeover"), (0, .methodref 12 15), (0, .nameAndType 5 16), (0, u "(I)V"), (0, .methodref 12 18), (0, .nameAndType 19 20), (0, u "reported"), (0, u "(IJ)V"), (0, .methodref 12 22), (0, .nameAndType 23 24), (0, u "hasReported"), (0, u "(I)Z"), (0, .methodref 12 26), (0, .nameAndType 27 28), (0, u "next"), (0, u "(I)J"), (0, .methodref 30 31), (0, .class_ 32), (0, .nameAndType 33 34), (0, u "org/precedence/TakeoverReportedPinLaw"), (0, u "slot"), (0, u "(Lorg/precedence/Takeover;IIII)Z"), (2, u "law"), (0, u "(IIIJJ)Z")] 6

def k1m0 : Method := { name := "<init>", desc := "()V", sig := { parameters := [], returnType := none }, accessFlags := 1, code := none }
def k1c1 : Code := { maxStack := 5, maxLocals := 19, code := code, exceptionTable := #[], attributes := #[] }
def k1m1 : Method := { name := "law", desc := "(IIIJJ)Z", sig := { parameters := [.int, .int, .int, .long, .long], returnType := some .boolean }, accessFlags := 9, code := some k1c1 }
def k1c2 : Code := { maxStack := 3, maxLocals := 5, code := method_3_code, exceptionTable := #[], attributes := #[] }
def k1m2 : Method := { name := "slot", desc := "(Lorg/precedence/Takeover;IIII)Z", sig := { parameters := [(.object "org/precedence/Takeover"), .int, .int, .int, .int], returnType := some .boolean }, accessFlags := 10, code := some k1c2 }
/-- org/precedence/TakeoverReportedPinLaw -/
def k1 : Class := { plain "org/precedence/TakeoverReportedPinLaw" (some 0) with
  accessFlags := 49
  interfaces := #[]
  cf := some (fileOf pool1 30 #[] #[{ accessFlags := 1, nameIndex := 5, descriptorIndex := 6, attributes := #[] }, { accessFlags := 9, nameIndex := 37, descriptorIndex := 38, attributes := #[] }, { accessFlags := 10, nameIndex := 33, descriptorIndex := 34, attributes := #[] }] 49 2 #[] #[])
  fields := #[]
  methods := #[k1m0, k1m1, k1m2]
  instanceTypes := #[]
  staticTypes := #[]
  resolved := Array.replicate 45 none
  statics := none }

def pool2 : Array CpInfo := pool [(1, .methodref 2 3), (0, .class_ 4), (0, .nameAndType 5 6), (0, u "java/lang/Object"), (0, u "<init>"), (0, u "()V"), (0, .class_ 8), (0, u "java/util/TreeMap"), (0, .methodref 7 3), (0, .fieldref 11 12), (0, .class_ 13), (0, .nameAndType 14 15), (0, u "org/precedence/Takeover"), (0, u "stamped"), (0, u "Ljava/util/TreeMap;"), (0, .class_ 17), (0, u "java/util/ArrayList"), (0, .methodref 16 3), (0, .fieldref 11 20), (0, .nameAndType 21 22), (0, u "unstamped"), (0, u "Ljava/util/List;"), (0, .fieldref 11 24), (0, .nameAndType 25 22), (0, u "submitted"), (0, .fieldref 11 27), (0, .nameAndType 28 29), (0, u "next"), (0, u "[J"), (0, .long 18446744073709551615), (1, .methodref 33 34), (0, .class_ 35), (0, .nameAndType 36 37), (0, u "java/util/Arrays"), (0, u "fill"), (0, u "([JJ)V"), (0, .interfaceMethodref 39 40), (0, .class_ 41), (0, .nameAndType 42 43), (0, u "java/util/List"), (0, u "add"), (0, u "(Ljava/lang/Object;)Z"), (33, .class_ 78), (0, u "org/precedence/Takeover$Unstamped"), (43, u "(I)V"), (7, u "reported"), (0, u "(IJ)V"), (0, u "hasReported"), (0, u "(I)Z"), (0, u "(I)J")] 33

def k2c0 : Code := { maxStack := 3, maxLocals := 3, code := prog_35_method_1_code, exceptionTable := #[], attributes := #[] }
def k2m0 : Method := { name := "<init>", desc := "(I)V", sig := { parameters := [.int], returnType := none }, accessFlags := 0, code := some k2c0 }
def k2c1 : Code := { maxStack := 5, maxLocals := 4, code := prog_35_method_4_code, exceptionTable := #[], attributes := #[] }
def k2m1 : Method := { name := "reported", desc := "(IJ)V", sig := { parameters := [.int, .long], returnType := none }, accessFlags := 0, code := some k2c1 }
def k2c2 : Code := { maxStack := 4, maxLocals := 2, code := prog_35_method_5_code, exceptionTable := #[], attributes := #[] }
def k2m2 : Method := { name := "hasReported", desc := "(I)Z", sig := { parameters := [.int], returnType := some .boolean }, accessFlags := 0, code := some k2c2 }
def k2c3 : Code := { maxStack := 2, maxLocals := 2, code := prog_35_method_6_code, exceptionTable := #[], attributes := #[] }
def k2m3 : Method := { name := "next", desc := "(I)J", sig := { parameters := [.int], returnType := some .long }, accessFlags := 0, code := some k2c3 }
/-- org/precedence/Takeover -/
def k2 : Class := { plain "org/precedence/Takeover" (some 0) with
  accessFlags := 48
  interfaces := #[]
  cf := some (fileOf pool2 11 #[.nestMembers #[77]] #[{ accessFlags := 0, nameIndex := 5, descriptorIndex := 122, attributes := #[] }, { accessFlags := 0, nameIndex := 130, descriptorIndex := 131, attributes := #[] }, { accessFlags := 0, nameIndex := 132, descriptorIndex := 133, attributes := #[] }, { accessFlags := 0, nameIndex := 28, descriptorIndex := 134, attributes := #[] }] 48 2 #[] #[{ accessFlags := 18, nameIndex := 14, descriptorIndex := 15, attributes := #[] }, { accessFlags := 18, nameIndex := 28, descriptorIndex := 29, attributes := #[] }, { accessFlags := 18, nameIndex := 21, descriptorIndex := 22, attributes := #[] }, { accessFlags := 18, nameIndex := 25, descriptorIndex := 22, attributes := #[] }])
  fields := #[{ name := "stamped", type := (.object "java/util/TreeMap"), accessFlags := 18, slot := 0, constantValue := 0 }, { name := "next", type := (.array .long), accessFlags := 18, slot := 1, constantValue := 0 }, { name := "unstamped", type := (.object "java/util/List"), accessFlags := 18, slot := 2, constantValue := 0 }, { name := "submitted", type := (.object "java/util/List"), accessFlags := 18, slot := 3, constantValue := 0 }]
  methods := #[k2m0, k2m1, k2m2, k2m3]
  instanceTypes := #[(.object "java/util/TreeMap"), (.array .long), (.object "java/util/List"), (.object "java/util/List")]
  staticTypes := #[]
  resolved := Array.replicate 168 none
  statics := none }

def pool3 : Array CpInfo := pool [(2, .class_ 4), (1, u "java/util/Map"), (31, .class_ 37), (0, u "java/util/Map$Entry"), (55, .class_ 94), (0, u "java/lang/Object")] 168

/-- java/util/Map -/
def k3 : Class := { plain "java/util/Map" (some 0) with
  accessFlags := 1537
  interfaces := #[]
  cf := some (fileOf pool3 2 #[.nestMembers #[36]] #[] 1537 93 #[] #[])
  fields := #[]
  methods := #[]
  instanceTypes := #[]
  staticTypes := #[]
  resolved := Array.replicate 263 none
  statics := none }

def pool4 : Array CpInfo := pool [(1, .methodref 2 3), (0, .class_ 4), (0, .nameAndType 5 6), (0, u "java/lang/Object"), (0, u "<init>"), (0, u "()V"), (1, .class_ 10), (1, u "java/util/AbstractMap"), (42, .class_ 54), (0, u "java/util/Map"), (9, u "keySet"), (0, u "Ljava/util/Set;"), (0, .class_ 67), (0, u "java/util/AbstractMap$1"), (5, u "values"), (0, u "Ljava/util/Collection;"), (0, .class_ 76), (0, u "java/util/AbstractMap$2"), (104, .class_ 182), (0, u "java/util/AbstractMap$ViewCollection"), (0, .class_ 184), (0, u "java/util/AbstractMap$SimpleImmutableEntry"), (0, .class_ 186), (0, u "java/util/AbstractMap$SimpleEntry"), (0, .class_ 188), (0, u "java/util/AbstractMap$2$1"), (0, .class_ 190), (0, u "java/util/AbstractMap$1$1")] 5

def k4c0 : Code := { maxStack := 1, maxLocals := 1, code := jdk_71_method_1_code, exceptionTable := #[], attributes := #[] }
def k4m0 : Method := { name := "<init>", desc := "()V", sig := { parameters := [], returnType := none }, accessFlags := 4, code := some k4c0 }
/-- java/util/AbstractMap -/
def k4 : Class := { plain "java/util/AbstractMap" (some 0) with
  accessFlags := 1057
  interfaces := #[3]
  cf := some (fileOf pool4 8 #[.nestMembers #[181, 183, 185, 75, 187, 66, 189]] #[{ accessFlags := 4, nameIndex := 5, descriptorIndex := 6, attributes := #[] }] 1057 2 #[53] #[{ accessFlags := 128, nameIndex := 64, descriptorIndex := 65, attributes := #[] }, { accessFlags := 128, nameIndex := 73, descriptorIndex := 74, attributes := #[] }])
  fields := #[{ name := "keySet", type := (.object "java/util/Set"), accessFlags := 128, slot := 0, constantValue := 0 }, { name := "values", type := (.object "java/util/Collection"), accessFlags := 128, slot := 1, constantValue := 0 }]
  methods := #[k4m0]
  instanceTypes := #[(.object "java/util/Set"), (.object "java/util/Collection")]
  staticTypes := #[]
  resolved := Array.replicate 196 none
  statics := none }

def pool5 : Array CpInfo := pool [(2, .class_ 4), (1, u "java/util/SequencedMap"), (38, .class_ 44), (0, u "java/util/SequencedMap$1SeqKeySet"), (3, .class_ 49), (0, u "java/util/SequencedMap$1SeqValues"), (1, .class_ 52), (0, u "java/util/SequencedMap$1SeqEntrySet"), (1, .class_ 55), (0, u "java/lang/Object"), (0, .class_ 57), (0, u "java/util/Map")] 48

/-- java/util/SequencedMap -/
def k5 : Class := { plain "java/util/SequencedMap" (some 0) with
  accessFlags := 1537
  interfaces := #[3]
  cf := some (fileOf pool5 2 #[.nestMembers #[51, 48, 43]] #[] 1537 54 #[56] #[])
  fields := #[]
  methods := #[]
  instanceTypes := #[]
  staticTypes := #[]
  resolved := Array.replicate 106 none
  statics := none }

def pool6 : Array CpInfo := pool [(14, .class_ 16), (1, u "java/util/SortedMap"), (2, .class_ 20), (0, u "java/lang/Object"), (0, .class_ 22), (0, u "java/util/SequencedMap")] 50

/-- java/util/SortedMap -/
def k6 : Class := { plain "java/util/SortedMap" (some 0) with
  accessFlags := 1537
  interfaces := #[5]
  cf := some (fileOf pool6 14 #[] #[] 1537 19 #[21] #[])
  fields := #[]
  methods := #[]
  instanceTypes := #[]
  staticTypes := #[]
  resolved := Array.replicate 73 none
  statics := none }

def pool7 : Array CpInfo := pool [(2, .class_ 4), (1, u "java/util/NavigableMap"), (5, .class_ 11), (0, u "java/lang/Object"), (0, .class_ 13), (0, u "java/util/SortedMap")] 53

/-- java/util/NavigableMap -/
def k7 : Class := { plain "java/util/NavigableMap" (some 0) with
  accessFlags := 1537
  interfaces := #[6]
  cf := some (fileOf pool7 2 #[] #[] 1537 10 #[12] #[])
  fields := #[]
  methods := #[]
  instanceTypes := #[]
  staticTypes := #[]
  resolved := Array.replicate 67 none
  statics := none }

def pool8 : Array CpInfo := pool [(1, .class_ 2), (0, u "java/lang/Cloneable"), (0, .class_ 4), (0, u "java/lang/Object")] 2

/-- java/lang/Cloneable -/
def k8 : Class := { plain "java/lang/Cloneable" (some 0) with
  accessFlags := 1537
  interfaces := #[]
  cf := some (fileOf pool8 1 #[] #[] 1537 3 #[] #[])
  fields := #[]
  methods := #[]
  instanceTypes := #[]
  staticTypes := #[]
  resolved := Array.replicate 7 none
  statics := none }

def pool9 : Array CpInfo := pool [(1, .class_ 2), (0, u "java/io/Serializable"), (0, .class_ 4), (0, u "java/lang/Object")] 2

/-- java/io/Serializable -/
def k9 : Class := { plain "java/io/Serializable" (some 0) with
  accessFlags := 1537
  interfaces := #[]
  cf := some (fileOf pool9 1 #[] #[] 1537 3 #[] #[])
  fields := #[]
  methods := #[]
  instanceTypes := #[]
  staticTypes := #[]
  resolved := Array.replicate 7 none
  statics := none }

def pool10 : Array CpInfo := pool [(1, .methodref 2 3), (0, .class_ 4), (0, .nameAndType 5 6), (0, u "java/util/AbstractMap"), (0, u "<init>"), (0, u "()V"), (0, .fieldref 8 9), (0, .class_ 10), (0, .nameAndType 11 12), (0, u "java/util/TreeMap"), (0, u "size"), (0, u "I"), (0, .fieldref 8 14), (0, .nameAndType 15 12), (0, u "modCount"), (0, .fieldref 8 17), (0, .nameAndType 18 19), (0, u "comparator"), (0, u "Ljava/util/Comparator;"), (14, u "entrySet"), (24, .class_ 61), (1, u "java/util/TreeMap$Entry"), (1, u "Ljava/lang/Object;"), (39, u "root"), (0, u "Ljava/util/TreeMap$Entry;"), (85, u "Ljava/util/TreeMap$EntrySet;"), (2, u "navigableKeySet"), (0, u "Ljava/util/TreeMap$KeySet;"), (2, u "descendingMap"), (0, u "Ljava/util/NavigableMap;"), (23, .class_ 223), (0, u "java/util/TreeMap$KeySet"), (7, .class_ 232), (0, u "java/util/NavigableMap"), (4, .class_ 238), (0, u "java/util/TreeMap$Values"), (3, .class_ 243), (0, u "java/util/TreeMap$EntrySet"), (1, .class_ 246), (0, u "java/util/TreeMap$DescendingSubMap"), (3, .class_ 251), (0, u "java/util/TreeMap$AscendingSubMap"), (17, .class_ 270), (0, u "java/util/TreeMap$KeyIterator"), (3, .class_ 275), (0, u "java/util/TreeMap$DescendingKeyIterator"), (17, u "Z"), (94, .class_ 389), (0, u "java/util/TreeMap$NavigableSubMap"), (1, .class_ 392), (0, u "java/util/TreeMap$KeySpliterator"), (3, .class_ 397), (0, u "java/util/TreeMap$DescendingKeySpliterator"), (4, u "UNBOUNDED"), (0, .class_ 404), (0, u "java/lang/Cloneable"), (0, .class_ 406), (0, u "java/io/Serializable"), (6, u "RED"), (2, u "BLACK"), (1, u "serialVersionUID"), (0, u "J"), (214, .class_ 635), (0, u "java/util/TreeMap$EntrySpliterator"), (0, .class_ 637), (0, u "java/util/TreeMap$ValueSpliterator"), (0, .class_ 639), (0, u "java/util/TreeMap$TreeMapSpliterator"), (0, .class_ 641), (0, u "java/util/TreeMap$SubMap"), (0, .class_ 643), (0, u "java/util/TreeMap$DescendingSubMap$DescendingEntrySetView"), (0, .class_ 645), (0, u "java/util/TreeMap$AscendingSubMap$AscendingEntrySetView"), (0, .class_ 647), (0, u "java/util/TreeMap$NavigableSubMap$DescendingSubMapKeyIterator"), (0, .class_ 649), (0, u "java/util/TreeMap$NavigableSubMap$SubMapKeyIterator"), (0, .class_ 651), (0, u "java/util/TreeMap$NavigableSubMap$DescendingSubMapEntryIterator"), (0, .class_ 653), (0, u "java/util/TreeMap$NavigableSubMap$SubMapEntryIterator"), (0, .class_ 655), (0, u "java/util/TreeMap$NavigableSubMap$SubMapIterator"), (0, .class_ 657), (0, u "java/util/TreeMap$NavigableSubMap$EntrySetView"), (0, .class_ 659), (0, u "java/util/TreeMap$ValueIterator"), (0, .class_ 661), (0, u "java/util/TreeMap$EntryIterator"), (0, .class_ 663), (0, u "java/util/TreeMap$PrivateEntryIterator")] 28

def k10c0 : Code := { maxStack := 2, maxLocals := 1, code := jdk_2729_method_1_code, exceptionTable := #[], attributes := #[] }
def k10m0 : Method := { name := "<init>", desc := "()V", sig := { parameters := [], returnType := none }, accessFlags := 1, code := some k10c0 }
/-- java/util/TreeMap -/
def k10 : Class := { plain "java/util/TreeMap" (some 4) with
  accessFlags := 33
  interfaces := #[7, 8, 9]
  cf := some (fileOf pool10 8 #[.nestMembers #[634, 636, 396, 391, 638, 59, 640, 245, 642, 250, 644, 388, 646, 648, 650, 652, 654, 656, 274, 269, 658, 660, 662, 222, 242, 237]] #[{ accessFlags := 1, nameIndex := 5, descriptorIndex := 6, attributes := #[] }] 33 2 #[231, 403, 405] #[{ accessFlags := 18, nameIndex := 18, descriptorIndex := 19, attributes := #[] }, { accessFlags := 130, nameIndex := 103, descriptorIndex := 104, attributes := #[] }, { accessFlags := 130, nameIndex := 11, descriptorIndex := 12, attributes := #[] }, { accessFlags := 130, nameIndex := 15, descriptorIndex := 12, attributes := #[] }, { accessFlags := 130, nameIndex := 34, descriptorIndex := 190, attributes := #[] }, { accessFlags := 130, nameIndex := 193, descriptorIndex := 194, attributes := #[] }, { accessFlags := 130, nameIndex := 197, descriptorIndex := 198, attributes := #[] }, { accessFlags := 26, nameIndex := 402, descriptorIndex := 63, attributes := #[] }, { accessFlags := 26, nameIndex := 413, descriptorIndex := 293, attributes := #[] }, { accessFlags := 26, nameIndex := 416, descriptorIndex := 293, attributes := #[] }, { accessFlags := 26, nameIndex := 418, descriptorIndex := 419, attributes := #[] }])
  fields := #[{ name := "comparator", type := (.object "java/util/Comparator"), accessFlags := 18, slot := 2, constantValue := 0 }, { name := "root", type := (.object "java/util/TreeMap$Entry"), accessFlags := 130, slot := 3, constantValue := 0 }, { name := "size", type := .int, accessFlags := 130, slot := 4, constantValue := 0 }, { name := "modCount", type := .int, accessFlags := 130, slot := 5, constantValue := 0 }, { name := "entrySet", type := (.object "java/util/TreeMap$EntrySet"), accessFlags := 130, slot := 6, constantValue := 0 }, { name := "navigableKeySet", type := (.object "java/util/TreeMap$KeySet"), accessFlags := 130, slot := 7, constantValue := 0 }, { name := "descendingMap", type := (.object "java/util/NavigableMap"), accessFlags := 130, slot := 8, constantValue := 0 }, { name := "UNBOUNDED", type := (.object "java/lang/Object"), accessFlags := 26, slot := 0, constantValue := 0 }, { name := "RED", type := .boolean, accessFlags := 26, slot := 1, constantValue := 0 }, { name := "BLACK", type := .boolean, accessFlags := 26, slot := 2, constantValue := 0 }, { name := "serialVersionUID", type := .long, accessFlags := 26, slot := 3, constantValue := 0 }]
  methods := #[k10m0]
  instanceTypes := #[(.object "java/util/Set"), (.object "java/util/Collection"), (.object "java/util/Comparator"), (.object "java/util/TreeMap$Entry"), .int, .int, (.object "java/util/TreeMap$EntrySet"), (.object "java/util/TreeMap$KeySet"), (.object "java/util/NavigableMap")]
  staticTypes := #[(.object "java/lang/Object"), .boolean, .boolean, .long]
  resolved := Array.replicate 692 none
  statics := none }

def pool11 : Array CpInfo := pool [(8, .class_ 10), (1, u "java/lang/Iterable"), (24, .class_ 36), (0, u "java/lang/Object")] 25

/-- java/lang/Iterable -/
def k11 : Class := { plain "java/lang/Iterable" (some 0) with
  accessFlags := 1537
  interfaces := #[]
  cf := some (fileOf pool11 8 #[] #[] 1537 35 #[] #[])
  fields := #[]
  methods := #[]
  instanceTypes := #[]
  staticTypes := #[]
  resolved := Array.replicate 62 none
  statics := none }

def pool12 : Array CpInfo := pool [(10, .class_ 12), (1, u "java/util/Collection"), (47, .class_ 61), (0, u "java/lang/Object"), (0, .class_ 63), (0, u "java/lang/Iterable")] 51

/-- java/util/Collection -/
def k12 : Class := { plain "java/util/Collection" (some 0) with
  accessFlags := 1537
  interfaces := #[11]
  cf := some (fileOf pool12 10 #[] #[] 1537 60 #[62] #[])
  fields := #[]
  methods := #[]
  instanceTypes := #[]
  staticTypes := #[]
  resolved := Array.replicate 115 none
  statics := none }

def pool13 : Array CpInfo := pool [(1, .methodref 2 3), (0, .class_ 4), (0, .nameAndType 5 6), (0, u "java/lang/Object"), (0, u "<init>"), (0, u "()V"), (1, .class_ 10), (1, u "java/util/AbstractCollection"), (66, .class_ 78), (0, u "java/util/Collection")] 81

def k13c0 : Code := { maxStack := 1, maxLocals := 1, code := jdk_22_method_1_code, exceptionTable := #[], attributes := #[] }
def k13m0 : Method := { name := "<init>", desc := "()V", sig := { parameters := [], returnType := none }, accessFlags := 4, code := some k13c0 }
/-- java/util/AbstractCollection -/
def k13 : Class := { plain "java/util/AbstractCollection" (some 0) with
  accessFlags := 1057
  interfaces := #[12]
  cf := some (fileOf pool13 8 #[] #[{ accessFlags := 4, nameIndex := 5, descriptorIndex := 6, attributes := #[] }] 1057 2 #[77] #[])
  fields := #[]
  methods := #[k13m0]
  instanceTypes := #[]
  staticTypes := #[]
  resolved := Array.replicate 160 none
  statics := none }

def pool14 : Array CpInfo := pool [(8, .class_ 10), (1, u "java/util/SequencedCollection"), (15, .class_ 27), (0, u "java/lang/Object"), (0, .class_ 29), (0, u "java/util/Collection")] 27

/-- java/util/SequencedCollection -/
def k14 : Class := { plain "java/util/SequencedCollection" (some 0) with
  accessFlags := 1537
  interfaces := #[12]
  cf := some (fileOf pool14 8 #[] #[] 1537 26 #[28] #[])
  fields := #[]
  methods := #[]
  instanceTypes := #[]
  staticTypes := #[]
  resolved := Array.replicate 57 none
  statics := none }

def pool15 : Array CpInfo := pool [(8, .class_ 10), (1, u "java/util/List"), (49, u "add"), (3, u "(Ljava/lang/Object;)Z"), (38, .class_ 104), (0, u "java/lang/Object"), (15, .class_ 121), (0, u "java/util/SequencedCollection")] 129

def k15m0 : Method := { name := "add", desc := "(Ljava/lang/Object;)Z", sig := { parameters := [(.object "java/lang/Object")], returnType := some .boolean }, accessFlags := 1025, code := none }
/-- java/util/List -/
def k15 : Class := { plain "java/util/List" (some 0) with
  accessFlags := 1537
  interfaces := #[14]
  cf := some (fileOf pool15 8 #[] #[{ accessFlags := 1025, nameIndex := 60, descriptorIndex := 64, attributes := #[] }] 1537 103 #[120] #[])
  fields := #[]
  methods := #[k15m0]
  instanceTypes := #[]
  staticTypes := #[]
  resolved := Array.replicate 251 none
  statics := none }

def pool16 : Array CpInfo := pool [(1, .methodref 2 3), (0, .class_ 4), (0, .nameAndType 5 6), (0, u "java/util/AbstractCollection"), (0, u "<init>"), (0, u "()V"), (0, .fieldref 8 9), (0, .class_ 10), (0, .nameAndType 11 12), (0, u "java/util/AbstractList"), (0, u "modCount"), (0, u "I"), (64, .class_ 78), (0, u "java/util/AbstractList$Itr"), (3, .class_ 83), (0, u "java/util/AbstractList$ListItr"), (9, .class_ 94), (0, u "java/util/AbstractList$RandomAccessSubList"), (3, .class_ 99), (0, u "java/util/AbstractList$SubList"), (33, .class_ 134), (0, u "java/util/List"), (73, .class_ 209), (0, u "java/util/AbstractList$SubList$1"), (0, .class_ 211), (0, u "java/util/AbstractList$RandomAccessSpliterator")] 6

def k16c0 : Code := { maxStack := 2, maxLocals := 1, code := jdk_39_method_1_code, exceptionTable := #[], attributes := #[] }
def k16m0 : Method := { name := "<init>", desc := "()V", sig := { parameters := [], returnType := none }, accessFlags := 4, code := some k16c0 }
/-- java/util/AbstractList -/
def k16 : Class := { plain "java/util/AbstractList" (some 13) with
  accessFlags := 1057
  interfaces := #[15]
  cf := some (fileOf pool16 8 #[.nestMembers #[93, 98, 208, 210, 82, 77]] #[{ accessFlags := 4, nameIndex := 5, descriptorIndex := 6, attributes := #[] }] 1057 2 #[133] #[{ accessFlags := 132, nameIndex := 11, descriptorIndex := 12, attributes := #[] }])
  fields := #[{ name := "modCount", type := .int, accessFlags := 132, slot := 0, constantValue := 0 }]
  methods := #[k16m0]
  instanceTypes := #[.int]
  staticTypes := #[]
  resolved := Array.replicate 218 none
  statics := none }

def pool17 : Array CpInfo := pool [(1, .class_ 2), (0, u "java/util/RandomAccess"), (0, .class_ 4), (0, u "java/lang/Object")] 2

/-- java/util/RandomAccess -/
def k17 : Class := { plain "java/util/RandomAccess" (some 0) with
  accessFlags := 1537
  interfaces := #[]
  cf := some (fileOf pool17 1 #[] #[] 1537 3 #[] #[])
  fields := #[]
  methods := #[]
  instanceTypes := #[]
  staticTypes := #[]
  resolved := Array.replicate 7 none
  statics := none }

def pool18 : Array CpInfo := pool [(1, .methodref 2 3), (0, .class_ 4), (0, .nameAndType 5 6), (0, u "java/util/AbstractList"), (0, u "<init>"), (0, u "()V"), (0, .class_ 8), (0, u "java/lang/Object"), (0, .fieldref 10 11), (0, .class_ 12), (0, .nameAndType 13 14), (0, u "java/util/ArrayList"), (0, u "elementData"), (0, u "[Ljava/lang/Object;"), (2, u "EMPTY_ELEMENTDATA"), (21, .fieldref 10 40), (0, .nameAndType 41 14), (0, u "DEFAULTCAPACITY_EMPTY_ELEMENTDATA"), (5, u "()[Ljava/lang/Object;"), (0, .fieldref 10 49), (0, .nameAndType 50 51), (0, u "size"), (0, u "I"), (11, .fieldref 10 64), (0, .nameAndType 65 51), (0, u "modCount"), (3, .methodref 10 70), (0, .nameAndType 71 72), (0, u "grow"), (0, u "(I)[Ljava/lang/Object;"), (6, .methodref 80 81), (0, .class_ 82), (0, .nameAndType 83 84), (0, u "java/lang/Math"), (0, u "max"), (0, u "(II)I"), (11, u "(Ljava/lang/Object;)Z"), (32, .methodref 10 130), (0, .nameAndType 71 47), (0, .methodref 10 132), (0, .nameAndType 133 134), (0, u "add"), (0, u "(Ljava/lang/Object;[Ljava/lang/Object;I)V"), (13, .class_ 149), (0, u "java/util/List"), (112, .class_ 263), (0, u "java/util/ArrayList$ListItr"), (3, .class_ 268), (0, u "java/util/ArrayList$Itr"), (7, .class_ 277), (0, u "java/util/ArrayList$SubList"), (12, .class_ 291), (0, u "java/util/ArrayList$ArrayListSpliterator"), (37, .class_ 330), (0, u "java/util/RandomAccess"), (0, .class_ 332), (0, u "java/lang/Cloneable"), (0, .class_ 334), (0, u "java/io/Serializable"), (0, u "serialVersionUID"), (0, u "J"), (3, u "DEFAULT_CAPACITY"), (159, .class_ 501), (0, u "java/util/ArrayList$SubList$2"), (0, .class_ 503), (0, u "java/util/ArrayList$SubList$1")] 5

def k18c0 : Code := { maxStack := 2, maxLocals := 1, code := jdk_38_method_2_code, exceptionTable := #[], attributes := #[] }
def k18m0 : Method := { name := "<init>", desc := "()V", sig := { parameters := [], returnType := none }, accessFlags := 1, code := some k18c0 }
def k18c1 : Code := { maxStack := 4, maxLocals := 4, code := jdk_38_method_6_code, exceptionTable := #[], attributes := #[] }
def k18m1 : Method := { name := "grow", desc := "(I)[Ljava/lang/Object;", sig := { parameters := [.int], returnType := some (.array (.object "java/lang/Object")) }, accessFlags := 2, code := some k18c1 }
def k18c2 : Code := { maxStack := 3, maxLocals := 1, code := jdk_38_method_7_code, exceptionTable := #[], attributes := #[] }
def k18m2 : Method := { name := "grow", desc := "()[Ljava/lang/Object;", sig := { parameters := [], returnType := some (.array (.object "java/lang/Object")) }, accessFlags := 2, code := some k18c2 }
def k18c3 : Code := { maxStack := 3, maxLocals := 4, code := jdk_38_method_24_code, exceptionTable := #[], attributes := #[] }
def k18m3 : Method := { name := "add", desc := "(Ljava/lang/Object;[Ljava/lang/Object;I)V", sig := { parameters := [(.object "java/lang/Object"), (.array (.object "java/lang/Object")), .int], returnType := none }, accessFlags := 2, code := some k18c3 }
def k18c4 : Code := { maxStack := 4, maxLocals := 2, code := jdk_38_method_25_code, exceptionTable := #[], attributes := #[] }
def k18m4 : Method := { name := "add", desc := "(Ljava/lang/Object;)Z", sig := { parameters := [(.object "java/lang/Object")], returnType := some .boolean }, accessFlags := 1, code := some k18c4 }
/-- java/util/ArrayList -/
def k18 : Class := { plain "java/util/ArrayList" (some 16) with
  accessFlags := 33
  interfaces := #[15, 17, 8, 9]
  cf := some (fileOf pool18 10 #[.nestMembers #[290, 276, 500, 502, 262, 267]] #[{ accessFlags := 1, nameIndex := 5, descriptorIndex := 6, attributes := #[] }, { accessFlags := 2, nameIndex := 71, descriptorIndex := 72, attributes := #[] }, { accessFlags := 2, nameIndex := 71, descriptorIndex := 47, attributes := #[] }, { accessFlags := 2, nameIndex := 133, descriptorIndex := 134, attributes := #[] }, { accessFlags := 1, nameIndex := 133, descriptorIndex := 96, attributes := #[] }] 33 2 #[148, 329, 331, 333] #[{ accessFlags := 26, nameIndex := 335, descriptorIndex := 336, attributes := #[] }, { accessFlags := 26, nameIndex := 340, descriptorIndex := 51, attributes := #[] }, { accessFlags := 26, nameIndex := 17, descriptorIndex := 14, attributes := #[] }, { accessFlags := 26, nameIndex := 41, descriptorIndex := 14, attributes := #[] }, { accessFlags := 128, nameIndex := 13, descriptorIndex := 14, attributes := #[] }, { accessFlags := 2, nameIndex := 50, descriptorIndex := 51, attributes := #[] }])
  fields := #[{ name := "serialVersionUID", type := .long, accessFlags := 26, slot := 0, constantValue := 0 }, { name := "DEFAULT_CAPACITY", type := .int, accessFlags := 26, slot := 1, constantValue := 0 }, { name := "EMPTY_ELEMENTDATA", type := (.array (.object "java/lang/Object")), accessFlags := 26, slot := 2, constantValue := 0 }, { name := "DEFAULTCAPACITY_EMPTY_ELEMENTDATA", type := (.array (.object "java/lang/Object")), accessFlags := 26, slot := 3, constantValue := 0 }, { name := "elementData", type := (.array (.object "java/lang/Object")), accessFlags := 128, slot := 1, constantValue := 0 }, { name := "size", type := .int, accessFlags := 2, slot := 2, constantValue := 0 }]
  methods := #[k18m0, k18m1, k18m2, k18m3, k18m4]
  instanceTypes := #[.int, (.array (.object "java/lang/Object")), .int]
  staticTypes := #[.long, .int, (.array (.object "java/lang/Object")), (.array (.object "java/lang/Object"))]
  resolved := Array.replicate 509 none
  statics := some 0 }

def pool19 : Array CpInfo := pool [(2, .class_ 4), (1, u "java/lang/Object"), (0, u "<init>"), (0, u "()V"), (7, .class_ 16), (1, u "java/util/Arrays"), (57, .class_ 76), (1, u "java/util/Arrays$NaturalOrder"), (36, .class_ 115), (1, u "java/util/Arrays$LegacyMergeSort"), (1, u "Z"), (257, .class_ 376), (0, u "java/util/Arrays$ArrayList"), (68, u "$assertionsDisabled"), (269, u "MIN_ARRAY_SORT_GRAN"), (0, u "I"), (2, u "INSERTIONSORT_THRESHOLD"), (120, u "fill"), (0, u "([JJ)V"), (133, .class_ 976), (0, u "java/util/Arrays$ArrayItr")] 52

def k19m0 : Method := { name := "<init>", desc := "()V", sig := { parameters := [], returnType := none }, accessFlags := 2, code := none }
def k19c1 : Code := { maxStack := 4, maxLocals := 5, code := jdk_65_method_101_code, exceptionTable := #[], attributes := #[] }
def k19m1 : Method := { name := "fill", desc := "([JJ)V", sig := { parameters := [(.array .long), .long], returnType := none }, accessFlags := 9, code := some k19c1 }
/-- java/util/Arrays -/
def k19 : Class := { plain "java/util/Arrays" (some 0) with
  accessFlags := 49
  interfaces := #[]
  cf := some (fileOf pool19 14 #[.nestMembers #[975, 375, 113, 74]] #[{ accessFlags := 2, nameIndex := 5, descriptorIndex := 6, attributes := #[] }, { accessFlags := 9, nameIndex := 840, descriptorIndex := 841, attributes := #[] }] 49 2 #[] #[{ accessFlags := 26, nameIndex := 715, descriptorIndex := 716, attributes := #[] }, { accessFlags := 26, nameIndex := 719, descriptorIndex := 716, attributes := #[] }, { accessFlags := 4120, nameIndex := 445, descriptorIndex := 117, attributes := #[] }])
  fields := #[{ name := "MIN_ARRAY_SORT_GRAN", type := .int, accessFlags := 26, slot := 0, constantValue := 0 }, { name := "INSERTIONSORT_THRESHOLD", type := .int, accessFlags := 26, slot := 1, constantValue := 0 }, { name := "$assertionsDisabled", type := .boolean, accessFlags := 4120, slot := 2, constantValue := 0 }]
  methods := #[k19m0, k19m1]
  instanceTypes := #[]
  staticTypes := #[.int, .int, .boolean]
  resolved := Array.replicate 1029 none
  statics := none }

def pool20 : Array CpInfo := pool [(1, .class_ 2), (0, u "java/lang/Math"), (1, .class_ 6), (1, u "java/lang/Object"), (0, u "<init>"), (0, u "()V"), (89, .class_ 100), (1, u "java/lang/Math$RandomNumberGeneratorHolder"), (71, u "negativeZeroFloatBits"), (0, u "J"), (2, u "negativeZeroDoubleBits"), (21, u "max"), (46, u "$assertionsDisabled"), (0, u "Z"), (88, u "(II)I"), (2, u "twoToTheDoubleScaleDown"), (0, u "D"), (4, u "twoToTheDoubleScaleUp"), (9, u "E"), (3, u "PI"), (2, u "TAU"), (2, u "DEGREES_TO_RADIANS"), (0, u "RADIANS_TO_DEGREES")] 94

def k20m0 : Method := { name := "<init>", desc := "()V", sig := { parameters := [], returnType := none }, accessFlags := 2, code := none }
def k20c1 : Code := { maxStack := 2, maxLocals := 2, code := jdk_29_method_65_code, exceptionTable := #[], attributes := #[] }
def k20m1 : Method := { name := "max", desc := "(II)I", sig := { parameters := [.int, .int], returnType := some .int }, accessFlags := 9, code := some k20c1 }
/-- java/lang/Math -/
def k20 : Class := { plain "java/lang/Math" (some 0) with
  accessFlags := 49
  interfaces := #[]
  cf := some (fileOf pool20 1 #[.nestMembers #[98]] #[{ accessFlags := 2, nameIndex := 7, descriptorIndex := 8, attributes := #[] }, { accessFlags := 9, nameIndex := 198, descriptorIndex := 335, attributes := #[] }] 49 4 #[] #[{ accessFlags := 25, nameIndex := 354, descriptorIndex := 339, attributes := #[] }, { accessFlags := 25, nameIndex := 358, descriptorIndex := 339, attributes := #[] }, { accessFlags := 25, nameIndex := 361, descriptorIndex := 339, attributes := #[] }, { accessFlags := 26, nameIndex := 364, descriptorIndex := 339, attributes := #[] }, { accessFlags := 26, nameIndex := 365, descriptorIndex := 339, attributes := #[] }, { accessFlags := 26, nameIndex := 172, descriptorIndex := 173, attributes := #[] }, { accessFlags := 26, nameIndex := 176, descriptorIndex := 173, attributes := #[] }, { accessFlags := 8, nameIndex := 344, descriptorIndex := 339, attributes := #[] }, { accessFlags := 8, nameIndex := 338, descriptorIndex := 339, attributes := #[] }, { accessFlags := 4120, nameIndex := 245, descriptorIndex := 246, attributes := #[] }])
  fields := #[{ name := "E", type := .double, accessFlags := 25, slot := 0, constantValue := 0 }, { name := "PI", type := .double, accessFlags := 25, slot := 1, constantValue := 0 }, { name := "TAU", type := .double, accessFlags := 25, slot := 2, constantValue := 0 }, { name := "DEGREES_TO_RADIANS", type := .double, accessFlags := 26, slot := 3, constantValue := 0 }, { name := "RADIANS_TO_DEGREES", type := .double, accessFlags := 26, slot := 4, constantValue := 0 }, { name := "negativeZeroFloatBits", type := .long, accessFlags := 26, slot := 5, constantValue := 0 }, { name := "negativeZeroDoubleBits", type := .long, accessFlags := 26, slot := 6, constantValue := 0 }, { name := "twoToTheDoubleScaleUp", type := .double, accessFlags := 8, slot := 7, constantValue := 0 }, { name := "twoToTheDoubleScaleDown", type := .double, accessFlags := 8, slot := 8, constantValue := 0 }, { name := "$assertionsDisabled", type := .boolean, accessFlags := 4120, slot := 9, constantValue := 0 }]
  methods := #[k20m0, k20m1]
  instanceTypes := #[]
  staticTypes := #[.double, .double, .double, .double, .double, .long, .long, .double, .double, .boolean]
  resolved := Array.replicate 460 none
  statics := none }

/-- the primitive byte -/
def k21 : Class := { plain "byte" none with kind := .primitive 'B', accessFlags := 0x411 }
/-- [B -/
def k22 : Class := { plain "[B" (some 0) with kind := .array 21 .byte, interfaces := #[8, 9], accessFlags := 1041 }

/-- the primitive int -/
def k23 : Class := { plain "int" none with kind := .primitive 'I', accessFlags := 0x411 }
/-- [I -/
def k24 : Class := { plain "[I" (some 0) with kind := .array 23 .int, interfaces := #[8, 9], accessFlags := 1041 }

/-- the primitive long -/
def k25 : Class := { plain "long" none with kind := .primitive 'J', accessFlags := 0x411 }
/-- [J -/
def k26 : Class := { plain "[J" (some 0) with kind := .array 25 .long, interfaces := #[8, 9], accessFlags := 1041 }

/-- [Ljava/lang/Object; -/
def k27 : Class := { plain "[Ljava/lang/Object;" (some 0) with kind := .array 0 (.object "java/lang/Object"), interfaces := #[8, 9], accessFlags := 1041 }

def heap : Heap := #[{ cls := 18, slots := #[.long 0, .int 0, .ref 1, .ref 2], vm := .statics 18 },
  { cls := 27, slots := #[], vm := .none },
  { cls := 27, slots := #[], vm := .none }]
def classes : Array Class := #[k0, k1, k2, k3, k4, k5, k6, k7, k8, k9, k10, k11, k12, k13, k14, k15, k16, k17, k18, k19, k20, k21, k22, k23, k24, k25, k26, k27]
def interned : List (Array UInt16 × Addr) := []
def slotsUsed : Nat := 4
def theMethod : MethodId := ⟨1, 1⟩
def args0 : Array Value := #[.int 5, .int 5, .int 5, .long 5, .long 5]
def aboutOver (below : List Frame) : State where
  vm := { classes := classes, interned := interned.toArray }
  heap := heap
  slotsUsed := slotsUsed
  threads := #[{ frames := .invoking theMethod args0 :: below }]
def below0 : List Frame := [.native { method := ⟨0, 0⟩, args := #[] }]
def about1 : State := aboutOver below0
def p0 : Program := .bare "" "" ""
def e0 : Env := launch0.env 0 0 0
theorem w_frames : about1.frames = Frame.invoking theMethod args0 :: below0 := rfl
set_option maxRecDepth 65536 in
theorem w_args : argsFit about1.vm theMethod args0 = true := by decide +kernel
set_option maxRecDepth 65536 in
theorem w_heap : heapFits about1 = true := by decide +kernel
set_option maxRecDepth 65536 in
theorem w_runnable : about1.curStatus? = some .runnable := by decide +kernel
set_option maxRecDepth 65536 in
theorem w_alone : about1.alone = true := by decide +kernel
set_option maxRecDepth 65536 in
theorem w_named : about1.methodNamed? x = some theMethod := by decide +kernel
set_option maxRecDepth 65536 in
theorem w_hears : about1.hears theMethod below0 = true := by decide +kernel
set_option maxRecDepth 65536 in
theorem w_ripe : about1.ripe theMethod args0 below0 = true := by decide +kernel
theorem w_running : about1.status = .running := rfl
set_option maxRecDepth 65536 in
theorem w_room : about1.hasRoom e0.platform room_1 = true :=
  launch0.hasRoom_least _ room_1 (by decide +kernel) (by decide +kernel) (by decide +kernel) (by decide +kernel) (by decide +kernel) (by decide +kernel)
theorem allAtoms_all (ts : List Jvm.Cond) (a : Array Jvm.Value) (st : Jvm.State) : (allAtoms ts).before a st = ts.all (fun c => c.before a st) := by
  induction ts with
  | nil => rfl
  | cons c t ih =>
    show (Jvm.Cond.and c (allAtoms t)).before a st = _
    rw [Jvm.Cond.before_and, ih, List.all_cons]
def words1 : List Jvm.Cond := Jvm.Cond.code x code maxLocals ret :: tables_1
/-- a 'code' word, met by the world's own term for the bytes: nothing is compared byte by byte -/
theorem code_word {y : MethodName} {bytes : ByteArray} {mx : Nat} {rt : Option FieldType} {a : Array Value} {s : State} {m : MethodId} {meth : Method} {c : Code} (h1 : s.methodNamed? y = some m) (h2 : s.vm.method? m = some meth) (h3 : meth.code = some c) (h4 : c.code = bytes)
    (h5 : (c.maxLocals == mx && c.exceptionTable.isEmpty && decide (c.maxStack ≤ mostOperands) && decide (meth.sig.returnType = rt) && !meth.locks && decide (parseMethodDescriptor y.desc = some meth.sig)) = true) : (Jvm.Cond.code y bytes mx rt).before a s = true := by
  simp only [Bool.and_eq_true, beq_iff_eq, Bool.not_eq_true', decide_eq_true_eq] at h5
  obtain ⟨⟨⟨⟨⟨g1, g2⟩, g3⟩, g4⟩, g5⟩, g6⟩ := h5
  simp [Cond.before, Cond.holds, Cond.value, h1, h2, h3, h4, g1, g2, g3, g4, g5, g6]
def isCode : Jvm.Cond → Bool
  | .code _ _ _ _ => true
  | _ => false
theorem all_split {L : List Jvm.Cond} {P : Jvm.Cond → Bool} (h1 : L.all (fun c => isCode c || P c) = true) (h2 : ∀ c ∈ L.filter isCode, P c = true) : L.all P = true := by
  refine List.all_eq_true.mpr fun c hc => ?_
  have h := List.all_eq_true.mp h1 c hc
  rcases Bool.eq_false_or_eq_true (isCode c) with hi | hi
  · exact h2 c (List.mem_filter.mpr ⟨hc, hi⟩)
  · simpa [hi] using h
set_option maxRecDepth 65536 in
theorem w_c0 : (Jvm.Cond.code x code maxLocals ret).before args0 about1 = true := code_word (m := ⟨1, 1⟩) (meth := k1m1) (c := k1c1) (by decide +kernel) rfl rfl rfl (by decide +kernel)
set_option maxRecDepth 65536 in
theorem w_c1 : (Jvm.Cond.code ({ cls := "org/precedence/Takeover", name := "<init>", desc := "(I)V" } : Jvm.MethodName) prog_35_method_1_code (3 : Nat) (Option.none : Option Jvm.ClassFile.FieldType)).before args0 about1 = true := code_word (m := ⟨2, 0⟩) (meth := k2m0) (c := k2c0) (by decide +kernel) rfl rfl rfl (by decide +kernel)
set_option maxRecDepth 65536 in
theorem w_c2 : (Jvm.Cond.code ({ cls := "java/lang/Object", name := "<init>", desc := "()V" } : Jvm.MethodName) object_method_1_code (1 : Nat) (Option.none : Option Jvm.ClassFile.FieldType)).before args0 about1 = true := code_word (m := ⟨0, 0⟩) (meth := k0m0) (c := k0c0) (by decide +kernel) rfl rfl rfl (by decide +kernel)
set_option maxRecDepth 65536 in
theorem w_c3 : (Jvm.Cond.code ({ cls := "java/util/TreeMap", name := "<init>", desc := "()V" } : Jvm.MethodName) jdk_2729_method_1_code (1 : Nat) (Option.none : Option Jvm.ClassFile.FieldType)).before args0 about1 = true := code_word (m := ⟨10, 0⟩) (meth := k10m0) (c := k10c0) (by decide +kernel) rfl rfl rfl (by decide +kernel)
set_option maxRecDepth 65536 in
theorem w_c4 : (Jvm.Cond.code ({ cls := "java/util/AbstractMap", name := "<init>", desc := "()V" } : Jvm.MethodName) jdk_71_method_1_code (1 : Nat) (Option.none : Option Jvm.ClassFile.FieldType)).before args0 about1 = true := code_word (m := ⟨4, 0⟩) (meth := k4m0) (c := k4c0) (by decide +kernel) rfl rfl rfl (by decide +kernel)
set_option maxRecDepth 65536 in
theorem w_c5 : (Jvm.Cond.code ({ cls := "java/util/ArrayList", name := "<init>", desc := "()V" } : Jvm.MethodName) jdk_38_method_2_code (1 : Nat) (Option.none : Option Jvm.ClassFile.FieldType)).before args0 about1 = true := code_word (m := ⟨18, 0⟩) (meth := k18m0) (c := k18c0) (by decide +kernel) rfl rfl rfl (by decide +kernel)
set_option maxRecDepth 65536 in
theorem w_c6 : (Jvm.Cond.code ({ cls := "java/util/AbstractList", name := "<init>", desc := "()V" } : Jvm.MethodName) jdk_39_method_1_code (1 : Nat) (Option.none : Option Jvm.ClassFile.FieldType)).before args0 about1 = true := code_word (m := ⟨16, 0⟩) (meth := k16m0) (c := k16c0) (by decide +kernel) rfl rfl rfl (by decide +kernel)
set_option maxRecDepth 65536 in
theorem w_c7 : (Jvm.Cond.code ({ cls := "java/util/AbstractCollection", name := "<init>", desc := "()V" } : Jvm.MethodName) jdk_22_method_1_code (1 : Nat) (Option.none : Option Jvm.ClassFile.FieldType)).before args0 about1 = true := code_word (m := ⟨13, 0⟩) (meth := k13m0) (c := k13c0) (by decide +kernel) rfl rfl rfl (by decide +kernel)
set_option maxRecDepth 65536 in
theorem w_c8 : (Jvm.Cond.code ({ cls := "java/util/Arrays", name := "fill", desc := "([JJ)V" } : Jvm.MethodName) jdk_65_method_101_code (5 : Nat) (Option.none : Option Jvm.ClassFile.FieldType)).before args0 about1 = true := code_word (m := ⟨19, 1⟩) (meth := k19m1) (c := k19c1) (by decide +kernel) rfl rfl rfl (by decide +kernel)
set_option maxRecDepth 65536 in
theorem w_c9 : (Jvm.Cond.code ({ cls := "java/util/ArrayList", name := "add", desc := "(Ljava/lang/Object;)Z" } : Jvm.MethodName) jdk_38_method_25_code (2 : Nat) (Option.some Jvm.ClassFile.FieldType.boolean)).before args0 about1 = true := code_word (m := ⟨18, 4⟩) (meth := k18m4) (c := k18c4) (by decide +kernel) rfl rfl rfl (by decide +kernel)
set_option maxRecDepth 65536 in
theorem w_c10 : (Jvm.Cond.code ({ cls := "java/util/ArrayList", name := "add", desc := "(Ljava/lang/Object;[Ljava/lang/Object;I)V" } : Jvm.MethodName) jdk_38_method_24_code (4 : Nat) (Option.none : Option Jvm.ClassFile.FieldType)).before args0 about1 = true := code_word (m := ⟨18, 3⟩) (meth := k18m3) (c := k18c3) (by decide +kernel) rfl rfl rfl (by decide +kernel)
set_option maxRecDepth 65536 in
theorem w_c11 : (Jvm.Cond.code ({ cls := "java/util/ArrayList", name := "grow", desc := "()[Ljava/lang/Object;" } : Jvm.MethodName) jdk_38_method_7_code (1 : Nat) (Option.some (Jvm.ClassFile.FieldType.array (Jvm.ClassFile.FieldType.object "java/lang/Object")))).before args0 about1 = true := code_word (m := ⟨18, 2⟩) (meth := k18m2) (c := k18c2) (by decide +kernel) rfl rfl rfl (by decide +kernel)
set_option maxRecDepth 65536 in
theorem w_c12 : (Jvm.Cond.code ({ cls := "java/util/ArrayList", name := "grow", desc := "(I)[Ljava/lang/Object;" } : Jvm.MethodName) jdk_38_method_6_code (4 : Nat) (Option.some (Jvm.ClassFile.FieldType.array (Jvm.ClassFile.FieldType.object "java/lang/Object")))).before args0 about1 = true := code_word (m := ⟨18, 1⟩) (meth := k18m1) (c := k18c1) (by decide +kernel) rfl rfl rfl (by decide +kernel)
set_option maxRecDepth 65536 in
theorem w_c13 : (Jvm.Cond.code ({ cls := "java/lang/Math", name := "max", desc := "(II)I" } : Jvm.MethodName) jdk_29_method_65_code (2 : Nat) (Option.some Jvm.ClassFile.FieldType.int)).before args0 about1 = true := code_word (m := ⟨20, 1⟩) (meth := k20m1) (c := k20c1) (by decide +kernel) rfl rfl rfl (by decide +kernel)
set_option maxRecDepth 65536 in
theorem w_c14 : (Jvm.Cond.code ({ cls := "org/precedence/Takeover", name := "hasReported", desc := "(I)Z" } : Jvm.MethodName) prog_35_method_5_code (2 : Nat) (Option.some Jvm.ClassFile.FieldType.boolean)).before args0 about1 = true := code_word (m := ⟨2, 2⟩) (meth := k2m2) (c := k2c2) (by decide +kernel) rfl rfl rfl (by decide +kernel)
set_option maxRecDepth 65536 in
theorem w_c15 : (Jvm.Cond.code ({ cls := "org/precedence/Takeover", name := "reported", desc := "(IJ)V" } : Jvm.MethodName) prog_35_method_4_code (4 : Nat) (Option.none : Option Jvm.ClassFile.FieldType)).before args0 about1 = true := code_word (m := ⟨2, 1⟩) (meth := k2m1) (c := k2c1) (by decide +kernel) rfl rfl rfl (by decide +kernel)
set_option maxRecDepth 65536 in
theorem w_c16 : (Jvm.Cond.code ({ cls := "org/precedence/Takeover", name := "next", desc := "(I)J" } : Jvm.MethodName) prog_35_method_6_code (2 : Nat) (Option.some Jvm.ClassFile.FieldType.long)).before args0 about1 = true := code_word (m := ⟨2, 3⟩) (meth := k2m3) (c := k2c3) (by decide +kernel) rfl rfl rfl (by decide +kernel)
set_option maxRecDepth 65536 in
theorem w_c17 : (Jvm.Cond.code ({ cls := "org/precedence/TakeoverReportedPinLaw", name := "slot", desc := "(Lorg/precedence/Takeover;IIII)Z" } : Jvm.MethodName) method_3_code (5 : Nat) (Option.some Jvm.ClassFile.FieldType.boolean)).before args0 about1 = true := code_word (m := ⟨1, 2⟩) (meth := k1m2) (c := k1c2) (by decide +kernel) rfl rfl rfl (by decide +kernel)
def codes1 : List Jvm.Cond := [Jvm.Cond.code x code maxLocals ret, Jvm.Cond.code ({ cls := "org/precedence/Takeover", name := "<init>", desc := "(I)V" } : Jvm.MethodName) prog_35_method_1_code (3 : Nat) (Option.none : Option Jvm.ClassFile.FieldType), Jvm.Cond.code ({ cls := "java/lang/Object", name := "<init>", desc := "()V" } : Jvm.MethodName) object_method_1_code (1 : Nat) (Option.none : Option Jvm.ClassFile.FieldType), Jvm.Cond.code ({ cls := "java/util/TreeMap", name := "<init>", desc := "()V" } : Jvm.MethodName) jdk_2729_method_1_code (1 : Nat) (Option.none : Option Jvm.ClassFile.FieldType), Jvm.Cond.code ({ cls := "java/util/AbstractMap", name := "<init>", desc := "()V" } : Jvm.MethodName) jdk_71_method_1_code (1 : Nat) (Option.none : Option Jvm.ClassFile.FieldType), Jvm.Cond.code ({ cls := "java/util/ArrayList", name := "<init>", desc := "()V" } : Jvm.MethodName) jdk_38_method_2_code (1 : Nat) (Option.none : Option Jvm.ClassFile.FieldType), Jvm.Cond.code ({ cls := "java/util/AbstractList", name := "<init>", desc := "()V" } : Jvm.MethodName) jdk_39_method_1_code (1 : Nat) (Option.none : Option Jvm.ClassFile.FieldType), Jvm.Cond.code ({ cls := "java/util/AbstractCollection", name := "<init>", desc := "()V" } : Jvm.MethodName) jdk_22_method_1_code (1 : Nat) (Option.none : Option Jvm.ClassFile.FieldType), Jvm.Cond.code ({ cls := "java/util/Arrays", name := "fill", desc := "([JJ)V" } : Jvm.MethodName) jdk_65_method_101_code (5 : Nat) (Option.none : Option Jvm.ClassFile.FieldType), Jvm.Cond.code ({ cls := "java/util/ArrayList", name := "add", desc := "(Ljava/lang/Object;)Z" } : Jvm.MethodName) jdk_38_method_25_code (2 : Nat) (Option.some Jvm.ClassFile.FieldType.boolean), Jvm.Cond.code ({ cls := "java/util/ArrayList", name := "add", desc := "(Ljava/lang/Object;[Ljava/lang/Object;I)V" } : Jvm.MethodName) jdk_38_method_24_code (4 : Nat) (Option.none : Option Jvm.ClassFile.FieldType), Jvm.Cond.code ({ cls := "java/util/ArrayList", name := "grow", desc := "()[Ljava/lang/Object;" } : Jvm.MethodName) jdk_38_method_7_code (1 : Nat) (Option.some (Jvm.ClassFile.FieldType.array (Jvm.ClassFile.FieldType.object "java/lang/Object"))), Jvm.Cond.code ({ cls := "java/util/ArrayList", name := "grow", desc := "(I)[Ljava/lang/Object;" } : Jvm.MethodName) jdk_38_method_6_code (4 : Nat) (Option.some (Jvm.ClassFile.FieldType.array (Jvm.ClassFile.FieldType.object "java/lang/Object"))), Jvm.Cond.code ({ cls := "java/lang/Math", name := "max", desc := "(II)I" } : Jvm.MethodName) jdk_29_method_65_code (2 : Nat) (Option.some Jvm.ClassFile.FieldType.int), Jvm.Cond.code ({ cls := "org/precedence/Takeover", name := "hasReported", desc := "(I)Z" } : Jvm.MethodName) prog_35_method_5_code (2 : Nat) (Option.some Jvm.ClassFile.FieldType.boolean), Jvm.Cond.code ({ cls := "org/precedence/Takeover", name := "reported", desc := "(IJ)V" } : Jvm.MethodName) prog_35_method_4_code (4 : Nat) (Option.none : Option Jvm.ClassFile.FieldType), Jvm.Cond.code ({ cls := "org/precedence/Takeover", name := "next", desc := "(I)J" } : Jvm.MethodName) prog_35_method_6_code (2 : Nat) (Option.some Jvm.ClassFile.FieldType.long), Jvm.Cond.code ({ cls := "org/precedence/TakeoverReportedPinLaw", name := "slot", desc := "(Lorg/precedence/Takeover;IIII)Z" } : Jvm.MethodName) method_3_code (5 : Nat) (Option.some Jvm.ClassFile.FieldType.boolean)]
set_option maxRecDepth 65536 in
theorem codes_eq : words1.filter isCode = codes1 := rfl
theorem w_codes : ∀ c ∈ words1.filter isCode, c.before args0 about1 = true := by
  rw [codes_eq]
  intro c hc
  simp only [codes1, List.mem_cons, List.not_mem_nil, or_false] at hc
  rcases hc with rfl | rfl | rfl | rfl | rfl | rfl | rfl | rfl | rfl | rfl | rfl | rfl | rfl | rfl | rfl | rfl | rfl | rfl
  · exact w_c0
  · exact w_c1
  · exact w_c2
  · exact w_c3
  · exact w_c4
  · exact w_c5
  · exact w_c6
  · exact w_c7
  · exact w_c8
  · exact w_c9
  · exact w_c10
  · exact w_c11
  · exact w_c12
  · exact w_c13
  · exact w_c14
  · exact w_c15
  · exact w_c16
  · exact w_c17
set_option maxRecDepth 65536 in
theorem w_t1 : (words1.take 24).all (fun c => isCode c || c.before args0 about1) = true := by decide +kernel
set_option maxRecDepth 65536 in
theorem w_t2 : ((words1.drop 24).take 24).all (fun c => isCode c || c.before args0 about1) = true := by decide +kernel
set_option maxRecDepth 65536 in
theorem w_t3 : (((words1.drop 24).drop 24).take 24).all (fun c => isCode c || c.before args0 about1) = true := by decide +kernel
set_option maxRecDepth 65536 in
theorem w_t4 : ((((words1.drop 24).drop 24).drop 24).take 24).all (fun c => isCode c || c.before args0 about1) = true := by decide +kernel
set_option maxRecDepth 65536 in
theorem w_t5 : (((((words1.drop 24).drop 24).drop 24).drop 24).take 24).all (fun c => isCode c || c.before args0 about1) = true := by decide +kernel
set_option maxRecDepth 65536 in
theorem w_t6 : (((((words1.drop 24).drop 24).drop 24).drop 24).drop 24).all (fun c => isCode c || c.before args0 about1) = true := by decide +kernel
theorem w_tables : (allAtoms (Jvm.Cond.code x code maxLocals ret :: tables_1)).before args0 about1 = true := by
  rw [allAtoms_all]
  show words1.all (fun c => c.before args0 about1) = true
  refine all_split ?_ w_codes
  rw [← List.take_append_drop 24 words1, List.all_append, w_t1, ← List.take_append_drop 24 (words1.drop 24), List.all_append, w_t2, ← List.take_append_drop 24 ((words1.drop 24).drop 24), List.all_append, w_t3, ← List.take_append_drop 24 (((words1.drop 24).drop 24).drop 24), List.all_append, w_t4, ← List.take_append_drop 24 ((((words1.drop 24).drop 24).drop 24).drop 24), List.all_append, w_t5, w_t6]
  rfl
set_option maxRecDepth 65536 in
theorem w_rest : rest_1_c.before args0 about1 = true := by decide +kernel
set_option maxRecDepth 65536 in
theorem w_case : (Jvm.Cond.and given_1 narrow_1).before args0 about1 = true := by decide +kernel
theorem w_applies : (headSpec (Jvm.Cond.code x code maxLocals ret :: tables_1) room_1).applies x e0.platform about1 = true :=
  (Spec.applies_iff w_frames).mpr ⟨w_running, w_runnable, w_alone, w_named, w_hears, w_ripe, w_room, w_tables⟩
theorem atStart : AtStart classFile x code maxLocals ret World_1 tables_1 room_1 Calls_1 rest_1 Pre_1 launch0 p0 e0 about1 theMethod args0 below0 :=
  ⟨lists_1, trivial, launch0.admits_env _ _ _, launch0.least_env, fairChoices_fair.cas, fairChoices_fair.clock, w_frames, w_args, w_heap, w_applies, trivial, w_rest, w_case⟩
end start1
theorem witness_1 : WitnessClaimed_1 := ⟨start1.p0, start1.e0, start1.about1, start1.theMethod, start1.args0, start1.below0, start1.atStart⟩
end Jvm.Pilot.@@N@@
