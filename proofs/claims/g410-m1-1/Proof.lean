import JvmDerived
import JvmDerived.Pilot.@@N@@Statement
import JvmDerived.Pilot.@@N@@Code
set_option linter.unusedVariables false
set_option linter.unusedSimpArgs false
@@BLOCK:NumsL.lean.txt@@
namespace Jvm.RoadKit
open Sem ClassFile Op Lib Jvm.Stand Jvm.Free Jvm.LawKit
section New
variable {p : Program} {l : Launch} {e : Env} {R : Room} {s : State} {m : MethodId} {args : Array Value} {below : List Frame} {meth : Method} {c : Code} {T : State} {locs : List Loc} {cells slots : Nat}
theorem retI (X : Stand p l e R s m args below meth c T locs cells slots) (hx : p.tables.exec = Jvm.exec) {pc : Nat} {Ls : Array Slot} {z : Int32} {rest : List Value} (hret : meth.sig.returnType = some .int) (hd : decode c.code pc = .ok (.ireturn, 1)) {fs : List Frame}
    (hl : ∀ (f : JFrame) (acts : List Action), f.method = m → f.locked = none → f.entered = [] → (doReturn e (T.setTop f) acts (some (.int z))).1 = T.setFrames fs) : Steps p.tables e below (T.setTop (mkF m pc Ls (.int z :: rest))) (T.setFrames fs) := by
  have hm' : T.vm.method? m = some meth := X.method'
  have hn : narrow .int (.int z) = .int z := rfl
  show Steps p.tables e below (T.setTop { method := m, pc := pc, locals := Ls, stack := _ :: rest, locked := none }) _
  jvm_step X.here [X.here.top, hx, hd, hm', hret, hn]
  first | (intro acts; rw [hl _ acts rfl rfl rfl]) | rw [hl _ _ rfl rfl rfl]
  exact Steps.refl _
/-- the walk's goal, at any point of it -/
def Gl (p : Program) (e : Env) (below : List Frame) (s : State) (Q : Option Value → Heap → List Loc → Prop) (C N : Nat) (T : State) (g : JFrame) : Prop :=
  ∃ s₂ o, Steps p.tables e below (T.setTop g) s₂ ∧ s₂.status = .running ∧ Ended s₂ below o ∧ ∃ v L, o = .returned v ∧ Q v s₂.heap L ∧ FrameEnd s o s₂ L C N
variable {Q : Option Value → Heap → List Loc → Prop} {C N : Nat} {T' : State} {g g' : JFrame} {h : Heap}
theorem Gl.st (f : ∀ t, Steps p.tables e below (T'.setTop g') t → Steps p.tables e below (T.setTop g) t) (k : Gl p e below s Q C N T' g') : Gl p e below s Q C N T g := by
  obtain ⟨s₂, o, h1, r⟩ := k
  exact ⟨s₂, o, f _ h1, r⟩
theorem Gl.ret (X : Stand p l e R s m args below meth c T locs cells slots) (hlk : meth.locks = false) {v : Option Value} (hv : meth.sig.returnType = none → v = none) (eT : T.heap = h)
    (f : ∀ fs, (∀ (f : JFrame) (acts : List Action), f.method = m → f.locked = none → f.entered = [] → (doReturn e (T.setTop f) acts v).1 = T.setFrames fs) → Steps p.tables e below (T.setTop g) (T.setFrames fs)) (hc : cells ≤ C) (hn : slots ≤ N) (hQ : Q v h locs) : Gl p e below s Q C N T g := by
  obtain ⟨fs, hr, hrun, hended, hW, hsame⟩ := X.leave (v := v) hv hlk
  exact ⟨_, _, f fs hr, hrun, hended, _, _, rfl, by show Q v T.heap _; rw [eT]; exact hQ, ⟨_, rfl⟩, hW, hsame.mono hc hn⟩
theorem Arv.cellX {Z : State} {h : Heap} {a : Addr} {k : ClassId} {ty : FieldType} {z : Int32} {vs : List Value} {dv : Value} (F : Arv Z h a k ty z vs dv) : ∃ c : Cell, h[a]? = some c ∧ ∀ q, c.vm ≠ .statics q := by
  obtain ⟨c, A, -⟩ := F; exact ⟨c, A.1, A.2.1.1⟩
theorem selPrivate {s : State} {args : Array Value} {y z : MethodName} (hzy : z.cls = y.cls) (hsel : (Cond.selects z.cls z z).before args s = true) (hpriv : s.PrivateAt y) (hinst : (Cond.instanceMethod y).before args s = true) (hy : y.cls ≠ "java/lang/invoke/MethodHandle" ∧ y.cls ≠ "java/lang/invoke/VarHandle") : (Cond.selects y.cls y y).before args s = true := by
  obtain ⟨c2, r2, m2, -, -, q3, -, kP, hkP, hkPi⟩ := Cond.selects_spec hsel
  exact selects_self_of_private (by rw [← hzy]; exact findClass_of_methodNamed q3) hkP hkPi hpriv hinst hy
theorem Sta.keepX {Z : State} {h h' : Heap} {C n d : String} {v : Value} {ws : List Addr} (F : Sta Z h C n d v) (K : Keep h h' ws) (q : ∀ x ∈ ws, ∃ c : Cell, h[x]? = some c ∧ ∀ q, c.vm ≠ .statics q) : Sta Z h' C n d v := by
  obtain ⟨cf, i, k, f, st, cell, h1, h2, h3, h4, h5, h6, h7⟩ := F
  refine ⟨cf, i, k, f, st, cell, h1, h2, h3, h4, K.2.1 st cell h5 fun z => ?_, h6, h7⟩
  obtain ⟨c, e1, e2⟩ := q st z
  cases h5.symm.trans e1
  cases hv : cell.vm <;> simp [hv, VmData.isStatics] at h6
  exact e2 _ hv
end New
end Jvm.RoadKit
namespace Jvm.Pilot.@@N@@
open Jvm Jvm.ClassFile Sem Op Lib Jvm.Free Jvm.Stand Jvm.LawKit Jvm.RoadKit Bundle Jvm.Pilot.@@N@@.Jvm.D

theorem own_upd (vs : List Value) (j : Nat) (v dv : Value) : ∃ vs' : List Value, ∀ i, vs'.getD i dv = if i = j then v else vs.getD i dv := by
  refine ⟨(vs ++ List.replicate (j + 1) dv).set j v, fun i => ?_⟩
  rw [List.getD_eq_getElem?_getD, List.getElem?_set]
  by_cases e : j = i
  · subst e
    have hl : j < (vs ++ List.replicate (j + 1) dv).length := by rw [List.length_append, List.length_replicate]; omega
    simp only [if_true, hl, Option.getD_some]
  · have e' : ¬ i = j := fun h => e h.symm
    rw [if_neg e, if_neg e', ← List.getD_eq_getElem?_getD]; exact pad_rep vs dv (j + 1) i
theorem own_set {Z : State} {h h' : Heap} {a : Addr} {c : Cell} {ty : FieldType} {k : ClassId} {z : Int32} {vs vs' : List Value} {dv v : Value} {j : Nat} (A : Arr Z h a c ty) (q1 : c.cls = k) (S : c.slots.size = z.toNatClampNeg) (q3 : ¬ z < 0) (H : Has c vs dv) (G : ∀ i, i < c.slots.size → fits ty (vs.getD i dv) = true) (hv : fits ty v = true) (W : Wr h h' a j v)
    (e : ∀ i, vs'.getD i dv = if i = j then v else vs.getD i dv) : Arv Z h' a k ty z vs' dv := by
  refine ⟨c.setSlot j v, A.same W, q1, by rw [sz_set]; exact S, q3, fun i hi => ?_, fun i hi => ?_⟩
  · rw [sz_set] at hi
    rw [e]
    show (c.slots.setIfInBounds j v)[i]? = _
    rw [Array.getElem?_setIfInBounds]
    by_cases q : j = i
    · subst q; simp [hi]
    · rw [if_neg q, if_neg (fun h => q h.symm)]; exact H i hi
  · rw [sz_set] at hi
    rw [e]
    by_cases q : i = j
    · rw [if_pos q]; exact hv
    · rw [if_neg q]; exact G i hi
theorem own_i0 : (0 : Int32).toInt = 0 := rfl
theorem own_i1 : (1 : Int32).toInt = 1 := rfl
theorem own_i2 : (2 : Int32).toInt = 2 := rfl
theorem own_i3 : (3 : Int32).toInt = 3 := rfl
theorem own_i8 : (8 : Int32).toInt = 8 := rfl
theorem own_nat {x : Int32} (h : ¬ x < 0) : (x.toNatClampNeg : Int) = x.toInt := by
  rw [Int32.lt_iff_toInt_lt, own_i0] at h; simp only [Int32.toNatClampNeg]; omega
def own_max (a b : Int32) : Int32 := if a < b then b else a
theorem d5_0 : decode jdk_29_method_65_code 0 = .ok (.iload_n 0, 1) := by decide +kernel
theorem d5_1 : decode jdk_29_method_65_code 1 = .ok (.iload_n 1, 1) := by decide +kernel
theorem d5_2 : decode jdk_29_method_65_code 2 = .ok (.if_icmp .lt 7, 3) := by decide +kernel
theorem d5_9 : decode jdk_29_method_65_code 9 = .ok (.iload_n 1, 1) := by decide +kernel
theorem d5_10 : decode jdk_29_method_65_code 10 = .ok (.ireturn, 1) := by decide +kernel
theorem d5_5 : decode jdk_29_method_65_code 5 = .ok (.iload_n 0, 1) := by decide +kernel
theorem d5_6 : decode jdk_29_method_65_code 6 = .ok (.goto 4, 3) := by decide +kernel
theorem ef_rm5 (m : MethodId) (pa : Int32) (qa : Int32) : entryFrame m #[(.int pa), (.int qa)] 2 = mkF m 0 #[.val (.int pa), .val (.int qa)] [] := by first | (simp [entryFrame, mkF, argsToLocals, Value.category]; done) | rfl
def Q_rm5 (Z : State) (pa : Int32) (qa : Int32)  (h0 : Heap) (n0 : Nat) (v : Option Value) (h : Heap) (L : List Loc) : Prop := v = some (.int (own_max pa qa)) ∧ Fr n0 L ∧ h = h0
set_option maxRecDepth 65536 in
set_option maxHeartbeats 40000000 in
theorem rm5 (l : Launch) (Z : State) (a0 : Array Value) (hw : ∀ d ∈ tables_1, d.before a0 Z = true) (ws : List Jvm.Cond) (pa : Int32) (qa : Int32)  (h0 : Heap) (n0 : Nat) (Z0 : n0 ≤ h0.size)  :
    MetFree l (⟨"java/lang/Math", "max", "(II)I"⟩ : MethodName) (head1 (Jvm.Cond.code (⟨"java/lang/Math", "max", "(II)I"⟩ : MethodName) jdk_29_method_65_code 2 (some .int) :: ws) ({ frames := 0, cells := 0, slots := 0, locals := 0 } : Room)) (fun aα Uα => aα = #[(.int pa), (.int qa)] ∧ Z.Warmed39 Uα.vm ∧ Uα.heap = h0) (fun _ _ _ _ _ => True) (fun _ Uα oα Uβ => ∃ vα Lα, oα = .returned vα ∧ Q_rm5 Z pa qa  h0 n0 vα Uβ.heap Lα ∧ FrameEnd Uα oα Uβ Lα ({ frames := 0, cells := 0, slots := 0, locals := 0 } : Room).cells ({ frames := 0, cells := 0, slots := 0, locals := 0 } : Room).slots) := by
  refine MetFree.of_bodySF (Jvm.Free.JP.mathPlain rfl (by decide +kernel)) hisR ?_
  intro p e s m args below meth c s₁ Bd hml0 hP hKα
  obtain ⟨rfl, hZ, hh⟩ := hP
  have hx := Bd.exec
  have hby := Bd.bytes
  have hml : c.maxLocals = 2 := hml0
  have hown : s.vm.findClass "java/lang/Math" = some m.cls := findClass_of_methodNamed Bd.named
  have hnm := (name_of_methodNamed Bd.named Bd.method).1
  have X0 : Stand p l e ({ frames := 0, cells := 0, slots := 0, locals := 0 } : Room) s m #[(.int pa), (.int qa)] below meth c s₁ [] 0 0 := Stand.of_body Bd
  have e0 : s₁.heap = h0 := by rw [← hh, Bd.state]; rfl
  have N0 := Fr.nil n0
  suffices k0 : Gl p e below s (Q_rm5 Z pa qa  h0 n0) ({ frames := 0, cells := 0, slots := 0, locals := 0 } : Room).cells ({ frames := 0, cells := 0, slots := 0, locals := 0 } : Room).slots s₁ (mkF m 0 #[.val (.int pa), .val (.int qa)] []) from Gl.st (fun τ κ => castTop (ef_rm5 m pa qa) κ) k0
  refine Gl.st (g' := (mkF m 1 #[.val (.int pa), .val (.int qa)] [(.int pa)])) (fun τ κ => XS.iloadN X0.here hx rfl (hb hby d5_0) rfl κ) ?_
  refine Gl.st (g' := (mkF m 2 #[.val (.int pa), .val (.int qa)] [(.int qa), (.int pa)])) (fun τ κ => XS.iloadN X0.here hx rfl (hb hby d5_1) rfl κ) ?_
  by_cases hc1 : pa < qa
  · -- pc 2: pa < qa
    refine Gl.st (g' := (mkF m 9 #[.val (.int pa), .val (.int qa)] [])) (fun τ κ => XS.icmpYes X0.here hx rfl (pc0 := 2) (pc' := 9) rfl (hb hby d5_2) rfl (tlt hc1).1 (by decide) (by decide) κ) ?_
    refine Gl.st (g' := (mkF m 10 #[.val (.int pa), .val (.int qa)] [(.int qa)])) (fun τ κ => XS.iloadN X0.here hx rfl (hb hby d5_9) rfl κ) ?_
    exact Gl.ret (v := some (.int qa)) X0 Bd.notSynchronized (fun h => by rw [Bd.returns] at h; cases h) e0 (fun fs hr => retI X0 hx Bd.returns (hb hby d5_10) hr) (by decide) (by decide) ⟨by simp only [own_max, hc1, if_true, if_false], N0, rfl⟩
  · -- pc 2: not pa < qa
    refine Gl.st (g' := (mkF m 5 #[.val (.int pa), .val (.int qa)] [])) (fun τ κ => XS.icmpNo X0.here hx rfl (hb hby d5_2) rfl (flt hc1).1 κ) ?_
    refine Gl.st (g' := (mkF m 6 #[.val (.int pa), .val (.int qa)] [(.int pa)])) (fun τ κ => XS.iloadN X0.here hx rfl (hb hby d5_5) rfl κ) ?_
    refine Gl.st (g' := (mkF m 10 #[.val (.int pa), .val (.int qa)] [(.int pa)])) (fun τ κ => XS.goto X0.here hx rfl (pc0 := 6) (pc' := 10) rfl (hb hby d5_6) (by decide) (by decide) κ) ?_
    exact Gl.ret (v := some (.int pa)) X0 Bd.notSynchronized (fun h => by rw [Bd.returns] at h; cases h) e0 (fun fs hr => retI X0 hx Bd.returns (hb hby d5_10) hr) (by decide) (by decide) ⟨by simp only [own_max, hc1, if_true, if_false], N0, rfl⟩
def own_min (a b : Int32) : Int32 := if b < a then b else a
theorem d7_0 : decode jdk_29_method_69_code 0 = .ok (.iload_n 0, 1) := by decide +kernel
theorem d7_1 : decode jdk_29_method_69_code 1 = .ok (.iload_n 1, 1) := by decide +kernel
theorem d7_2 : decode jdk_29_method_69_code 2 = .ok (.if_icmp .gt 7, 3) := by decide +kernel
theorem d7_9 : decode jdk_29_method_69_code 9 = .ok (.iload_n 1, 1) := by decide +kernel
theorem d7_10 : decode jdk_29_method_69_code 10 = .ok (.ireturn, 1) := by decide +kernel
theorem d7_5 : decode jdk_29_method_69_code 5 = .ok (.iload_n 0, 1) := by decide +kernel
theorem d7_6 : decode jdk_29_method_69_code 6 = .ok (.goto 4, 3) := by decide +kernel
theorem ef_rm7 (m : MethodId) (pa : Int32) (qa : Int32) : entryFrame m #[(.int pa), (.int qa)] 2 = mkF m 0 #[.val (.int pa), .val (.int qa)] [] := by first | (simp [entryFrame, mkF, argsToLocals, Value.category]; done) | rfl
def Q_rm7 (Z : State) (pa : Int32) (qa : Int32)  (h0 : Heap) (n0 : Nat) (v : Option Value) (h : Heap) (L : List Loc) : Prop := v = some (.int (own_min pa qa)) ∧ Fr n0 L ∧ h = h0
set_option maxRecDepth 65536 in
set_option maxHeartbeats 40000000 in
theorem rm7 (l : Launch) (Z : State) (a0 : Array Value) (hw : ∀ d ∈ tables_1, d.before a0 Z = true) (ws : List Jvm.Cond) (pa : Int32) (qa : Int32)  (h0 : Heap) (n0 : Nat) (Z0 : n0 ≤ h0.size)  :
    MetFree l (⟨"java/lang/Math", "min", "(II)I"⟩ : MethodName) (head1 (Jvm.Cond.code (⟨"java/lang/Math", "min", "(II)I"⟩ : MethodName) jdk_29_method_69_code 2 (some .int) :: ws) ({ frames := 0, cells := 0, slots := 0, locals := 0 } : Room)) (fun aα Uα => aα = #[(.int pa), (.int qa)] ∧ Z.Warmed39 Uα.vm ∧ Uα.heap = h0) (fun _ _ _ _ _ => True) (fun _ Uα oα Uβ => ∃ vα Lα, oα = .returned vα ∧ Q_rm7 Z pa qa  h0 n0 vα Uβ.heap Lα ∧ FrameEnd Uα oα Uβ Lα ({ frames := 0, cells := 0, slots := 0, locals := 0 } : Room).cells ({ frames := 0, cells := 0, slots := 0, locals := 0 } : Room).slots) := by
  refine MetFree.of_bodySF (Jvm.Free.JP.mathPlain rfl (by decide +kernel)) hisR ?_
  intro p e s m args below meth c s₁ Bd hml0 hP hKα
  obtain ⟨rfl, hZ, hh⟩ := hP
  have hx := Bd.exec
  have hby := Bd.bytes
  have hml : c.maxLocals = 2 := hml0
  have hown : s.vm.findClass "java/lang/Math" = some m.cls := findClass_of_methodNamed Bd.named
  have hnm := (name_of_methodNamed Bd.named Bd.method).1
  have X0 : Stand p l e ({ frames := 0, cells := 0, slots := 0, locals := 0 } : Room) s m #[(.int pa), (.int qa)] below meth c s₁ [] 0 0 := Stand.of_body Bd
  have e0 : s₁.heap = h0 := by rw [← hh, Bd.state]; rfl
  have N0 := Fr.nil n0
  suffices k0 : Gl p e below s (Q_rm7 Z pa qa  h0 n0) ({ frames := 0, cells := 0, slots := 0, locals := 0 } : Room).cells ({ frames := 0, cells := 0, slots := 0, locals := 0 } : Room).slots s₁ (mkF m 0 #[.val (.int pa), .val (.int qa)] []) from Gl.st (fun τ κ => castTop (ef_rm7 m pa qa) κ) k0
  refine Gl.st (g' := (mkF m 1 #[.val (.int pa), .val (.int qa)] [(.int pa)])) (fun τ κ => XS.iloadN X0.here hx rfl (hb hby d7_0) rfl κ) ?_
  refine Gl.st (g' := (mkF m 2 #[.val (.int pa), .val (.int qa)] [(.int qa), (.int pa)])) (fun τ κ => XS.iloadN X0.here hx rfl (hb hby d7_1) rfl κ) ?_
  by_cases hc2 : qa < pa
  · -- pc 2: qa < pa
    refine Gl.st (g' := (mkF m 9 #[.val (.int pa), .val (.int qa)] [])) (fun τ κ => XS.icmpYes X0.here hx rfl (pc0 := 2) (pc' := 9) rfl (hb hby d7_2) rfl (tlt hc2).2.2.1 (by decide) (by decide) κ) ?_
    refine Gl.st (g' := (mkF m 10 #[.val (.int pa), .val (.int qa)] [(.int qa)])) (fun τ κ => XS.iloadN X0.here hx rfl (hb hby d7_9) rfl κ) ?_
    exact Gl.ret (v := some (.int qa)) X0 Bd.notSynchronized (fun h => by rw [Bd.returns] at h; cases h) e0 (fun fs hr => retI X0 hx Bd.returns (hb hby d7_10) hr) (by decide) (by decide) ⟨by simp only [own_min, hc2, if_true, if_false], N0, rfl⟩
  · -- pc 2: not qa < pa
    refine Gl.st (g' := (mkF m 5 #[.val (.int pa), .val (.int qa)] [])) (fun τ κ => XS.icmpNo X0.here hx rfl (hb hby d7_2) rfl (flt hc2).2.2.1 κ) ?_
    refine Gl.st (g' := (mkF m 6 #[.val (.int pa), .val (.int qa)] [(.int pa)])) (fun τ κ => XS.iloadN X0.here hx rfl (hb hby d7_5) rfl κ) ?_
    refine Gl.st (g' := (mkF m 10 #[.val (.int pa), .val (.int qa)] [(.int pa)])) (fun τ κ => XS.goto X0.here hx rfl (pc0 := 6) (pc' := 10) rfl (hb hby d7_6) (by decide) (by decide) κ) ?_
    exact Gl.ret (v := some (.int pa)) X0 Bd.notSynchronized (fun h => by rw [Bd.returns] at h; cases h) e0 (fun fs hr => retI X0 hx Bd.returns (hb hby d7_10) hr) (by decide) (by decide) ⟨by simp only [own_min, hc2, if_true, if_false], N0, rfl⟩
theorem own_minI (a b : Int32) : (own_min a b).toInt = if b.toInt < a.toInt then b.toInt else a.toInt := by
  unfold own_min; by_cases q : b < a
  · have q' := q; rw [Int32.lt_iff_toInt_lt] at q'; rw [if_pos q, if_pos q']
  · have q' := q; rw [Int32.lt_iff_toInt_lt] at q'; rw [if_neg q, if_neg q']
theorem own_maxI (a b : Int32) : (own_max a b).toInt = if a.toInt < b.toInt then b.toInt else a.toInt := by
  unfold own_max; by_cases q : a < b
  · have q' := q; rw [Int32.lt_iff_toInt_lt] at q'; rw [if_pos q, if_pos q']
  · have q' := q; rw [Int32.lt_iff_toInt_lt] at q'; rw [if_neg q, if_neg q']
theorem own_minN {a b : Int32} (ha : ¬ a < 0) (hb : ¬ b < 0) : ¬ own_min a b < 0 ∧ (own_min a b).toNatClampNeg ≤ a.toNatClampNeg ∧ (own_min a b).toNatClampNeg ≤ b.toNatClampNeg ∧ (∀ i, i < a.toNatClampNeg → i < b.toNatClampNeg → i < (own_min a b).toNatClampNeg) := by
  have e := own_minI a b
  have na := own_nat ha; have nb := own_nat hb
  have nn : ¬ own_min a b < 0 := by
    rw [Int32.lt_iff_toInt_lt, own_i0] at ha hb ⊢; rw [e]; split <;> omega
  have nm := own_nat nn
  rw [e] at nm
  refine ⟨nn, ?_, ?_, fun i h1 h2 => ?_⟩ <;> split at nm <;> omega
theorem own_cp {vs vd : List Value} {dv : Value} {n i : Nat} (h : i < n) : (vd.take 0 ++ ((List.range n).map fun i => vs.getD (0 + i) dv) ++ vd.drop (0 + n)).getD i dv = vs.getD i dv := by
  rw [List.getD_eq_getElem?_getD, List.getD_eq_getElem?_getD, List.take_zero, List.nil_append, List.getElem?_append_left (by simpa using h)]
  simp [h]
theorem d6_0 : decode jdk_65_method_121_code 0 = .ok (.iload_n 1, 1) := by decide +kernel
theorem d6_1 : decode jdk_65_method_121_code 1 = .ok (.aload_n 0, 1) := by decide +kernel
theorem d6_2 : decode jdk_65_method_121_code 2 = .ok (.arraylength, 1) := by decide +kernel
theorem d6_3 : decode jdk_65_method_121_code 3 = .ok (.if_icmp .ne 11, 3) := by decide +kernel
theorem d6_6 : decode jdk_65_method_121_code 6 = .ok (.aload_n 0, 1) := by decide +kernel
theorem d6_7 : decode jdk_65_method_121_code 7 = .ok (.invokevirtual 310, 3) := by decide +kernel
theorem d6_10 : decode jdk_65_method_121_code 10 = .ok (.checkcast 311, 3) := by decide +kernel
theorem d6_13 : decode jdk_65_method_121_code 13 = .ok (.areturn, 1) := by decide +kernel
theorem d6_14 : decode jdk_65_method_121_code 14 = .ok (.iload_n 1, 1) := by decide +kernel
theorem d6_15 : decode jdk_65_method_121_code 15 = .ok (.newarray .byte, 2) := by decide +kernel
theorem d6_17 : decode jdk_65_method_121_code 17 = .ok (.astore_n 2, 1) := by decide +kernel
theorem d6_18 : decode jdk_65_method_121_code 18 = .ok (.aload_n 0, 1) := by decide +kernel
theorem d6_19 : decode jdk_65_method_121_code 19 = .ok (.iconst 0, 1) := by decide +kernel
theorem d6_20 : decode jdk_65_method_121_code 20 = .ok (.aload_n 2, 1) := by decide +kernel
theorem d6_21 : decode jdk_65_method_121_code 21 = .ok (.iconst 0, 1) := by decide +kernel
theorem d6_22 : decode jdk_65_method_121_code 22 = .ok (.aload_n 0, 1) := by decide +kernel
theorem d6_23 : decode jdk_65_method_121_code 23 = .ok (.arraylength, 1) := by decide +kernel
theorem d6_24 : decode jdk_65_method_121_code 24 = .ok (.iload_n 1, 1) := by decide +kernel
theorem d6_25 : decode jdk_65_method_121_code 25 = .ok (.invokestatic 304, 3) := by decide +kernel
theorem pd_0 : parseMethodDescriptor "(II)I" = some ⟨[.int, .int], some .int⟩ := by decide +kernel
theorem d6_28 : decode jdk_65_method_121_code 28 = .ok (.invokestatic 150, 3) := by decide +kernel
theorem d6_31 : decode jdk_65_method_121_code 31 = .ok (.aload_n 2, 1) := by decide +kernel
theorem d6_32 : decode jdk_65_method_121_code 32 = .ok (.areturn, 1) := by decide +kernel
theorem pn_java_util_Arrays : plainName "java/util/Arrays" = true := by first | (simp [plainName, overriddenIn]; done) | decide +kernel
theorem ef_rm6 (m : MethodId) (t : Addr) (nl : Int32) : entryFrame m #[(.ref t), (.int nl)] 3 = mkF m 0 #[.val (.ref t), .val (.int nl), .unset] [] := by first | (simp [entryFrame, mkF, argsToLocals, Value.category]; done) | rfl
def Q_rm6 (Z : State) (t : Addr) (nl : Int32) (kc : ClassId) (z : Int32) (vs : List Value) (h0 : Heap) (n0 : Nat) (v : Option Value) (h : Heap) (L : List Loc) : Prop := ∃ b k vs', v = some (.ref b) ∧ Fr n0 L ∧ Keep h0 h [] ∧ h0.size ≤ b ∧ Exa Z h b "[B" ∧ Arv Z h b k .byte nl vs' (.int (0 : Int32)) ∧ ∀ i, i < z.toNatClampNeg → i < nl.toNatClampNeg → vs'.getD i (.int (0 : Int32)) = vs.getD i (.int (0 : Int32))
set_option maxRecDepth 65536 in
set_option maxHeartbeats 40000000 in
theorem rm6 (l : Launch) (Z : State) (a0 : Array Value) (hw : ∀ d ∈ tables_1, d.before a0 Z = true) (ws : List Jvm.Cond) (t : Addr) (nl : Int32) (kc : ClassId) (z : Int32) (vs : List Value) (h0 : Heap) (n0 : Nat) (Z0 : n0 ≤ h0.size) (V0 : Arv Z h0 t kc .byte z vs (.int (0 : Int32))) (E0 : Exa Z h0 t "[B") (hz : ¬ z < 0) (hn : ¬ nl < 0) (hc8 : nl.toNatClampNeg ≤ 8) :
    MetFree l (⟨"java/util/Arrays", "copyOf", "([BI)[B"⟩ : MethodName) (head1 (Jvm.Cond.code (⟨"java/util/Arrays", "copyOf", "([BI)[B"⟩ : MethodName) jdk_65_method_121_code 3 (some (.array .byte)) :: ws) ({ frames := 1, cells := 1, slots := 8, locals := 18 } : Room)) (fun aα Uα => aα = #[(.ref t), (.int nl)] ∧ Z.Warmed39 Uα.vm ∧ Uα.heap = h0) (fun _ _ _ _ _ => True) (fun _ Uα oα Uβ => ∃ vα Lα, oα = .returned vα ∧ Q_rm6 Z t nl kc z vs h0 n0 vα Uβ.heap Lα ∧ FrameEnd Uα oα Uβ Lα ({ frames := 1, cells := 1, slots := 8, locals := 18 } : Room).cells ({ frames := 1, cells := 1, slots := 8, locals := 18 } : Room).slots) := by
  refine MetFree.of_bodySF (plainFor_of_name pn_java_util_Arrays) hisR ?_
  intro p e s m args below meth c s₁ Bd hml0 hP hKα
  obtain ⟨rfl, hZ, hh⟩ := hP
  have hx := Bd.exec
  have hby := Bd.bytes
  have hml : c.maxLocals = 3 := hml0
  have hown : s.vm.findClass "java/util/Arrays" = some m.cls := findClass_of_methodNamed Bd.named
  have hnm := (name_of_methodNamed Bd.named Bd.method).1
  have X0 : Stand p l e ({ frames := 1, cells := 1, slots := 8, locals := 18 } : Room) s m #[(.ref t), (.int nl)] below meth c s₁ [] 0 0 := Stand.of_body Bd
  have e0 : s₁.heap = h0 := by rw [← hh, Bd.state]; rfl
  have N0 := Fr.nil n0
  suffices k0 : Gl p e below s (Q_rm6 Z t nl kc z vs h0 n0) ({ frames := 1, cells := 1, slots := 8, locals := 18 } : Room).cells ({ frames := 1, cells := 1, slots := 8, locals := 18 } : Room).slots s₁ (mkF m 0 #[.val (.ref t), .val (.int nl), .unset] []) from Gl.st (fun τ κ => castTop (ef_rm6 m t nl) κ) k0
  refine Gl.st (g' := (mkF m 1 #[.val (.ref t), .val (.int nl), .unset] [(.int nl)])) (fun τ κ => XS.iloadN X0.here hx rfl (hb hby d6_0) rfl κ) ?_
  refine Gl.st (g' := (mkF m 2 #[.val (.ref t), .val (.int nl), .unset] [(.ref t), (.int nl)])) (fun τ κ => XS.aloadN X0.here hx rfl (hb hby d6_1) rfl rfl κ) ?_
  obtain ⟨cl_o3, Ar_o3, q_o3, S_o3, M_o3, H_o3, G_o3⟩ := id V0
  refine Gl.st (g' := (mkF m 3 #[.val (.ref t), .val (.int nl), .unset] [(.int z), (.int nl)])) (fun τ κ => X0.arraylength hx (by rw [e0]; exact Ar_o3.1) (State.isArrayOf_alike hZ.alike Ar_o3.2.1) (g := (mkF m 2 #[.val (.ref t), .val (.int nl), .unset] [(.ref t), (.int nl)])) rfl rfl (hb hby d6_2) _ (by rw [len_of S_o3 M_o3]; exact κ)) ?_
  by_cases hc4 : nl = z
  · -- pc 3: nl = z
    refine Gl.st (g' := (mkF m 6 #[.val (.ref t), .val (.int nl), .unset] [])) (fun τ κ => XS.icmpNo X0.here hx rfl (hb hby d6_3) rfl (teq hc4).2 κ) ?_
    refine Gl.st (g' := (mkF m 7 #[.val (.ref t), .val (.int nl), .unset] [(.ref t)])) (fun τ κ => XS.aloadN X0.here hx rfl (hb hby d6_6) rfl rfl κ) ?_
    obtain ⟨cl_o5, Ar_o5, q_o5, S_o5, M_o5, H_o5, G_o5⟩ := id V0
    obtain ⟨T6, h6, X6, e6, E6, A6, AE6, st6⟩ := cloneA X0 hx hZ hown (hw _ (List.mem_of_getElem? (i := 51) rfl)) (hw _ (List.mem_of_getElem? (i := 52) rfl)) (hw _ (List.mem_of_getElem? (i := 56) rfl)) (hw _ (List.mem_of_getElem? (i := 54) rfl)) (hw _ (List.mem_of_getElem? (i := 55) rfl)) (hw _ (List.mem_of_getElem? (i := 57) rfl)) e0 Ar_o5 E0 (fitC_of Ar_o5 fun i hi v hv => by rw [H_o5 i hi] at hv; cases hv; exact G_o5 i hi) (g := (mkF m 7 #[.val (.ref t), .val (.int nl), .unset] [(.ref t)])) rfl (by rw [hml]; rfl) rfl (hb hby d6_7) (by decide) (W := 0) (by show 2 * 0 + _ ≤ _; exact Nat.le_of_eq rfl) (by decide) (cap := 8) (by rw [S_o5]; exact (by rw [← hc4]; exact hc8)) (by decide) (by decide)
    obtain ⟨b6, g6⟩ : ∃ z, z = h0.size := ⟨_, rfl⟩
    rw [← g6] at A6 AE6 st6
    have ne_t_b6 : t ≠ b6 := Nat.ne_of_lt (Nat.lt_of_lt_of_le V0.lt (Nat.le_of_eq g6.symm))
    have V_7 := V0.ext E6
    have E_8 := E0.ext E6
    have g_b6 : n0 ≤ b6 := Nat.le_trans Z0 (Nat.le_of_eq g6.symm)
    have sz_b6 : h0.size ≤ b6 := Nat.le_trans (Keep.refl h0 []).1 (Nat.le_of_eq g6.symm)
    have Z6 : n0 ≤ h6.size := Nat.le_trans Z0 E6.1
    have K6 : Keep h0 h6 [] := (Keep.refl h0 []).ext E6
    have V_b6 : Arv Z h6 b6 kc .byte z vs (.int (0 : Int32)) := ⟨cloneOf cl_o5, A6, q_o5, S_o5, M_o5, H_o5, G_o5⟩
    refine Gl.st (g' := (mkF m 10 #[.val (.ref t), .val (.int nl), .unset] [(.ref b6)])) (fun τ κ => st6 _ κ) ?_
    obtain ⟨T9, X9, e9, st9⟩ := castY X6 hx hZ hown (hw _ (List.mem_of_getElem? (i := 58) rfl)) e6 (Ins.self AE6) (g := (mkF m 10 #[.val (.ref t), .val (.int nl), .unset] [(.ref b6)])) rfl rfl (hb hby d6_10)
    refine Gl.st (g' := (mkF m 13 #[.val (.ref t), .val (.int nl), .unset] [(.ref b6)])) (fun τ κ => st9 _ κ) ?_
    exact Gl.ret (v := some (.ref b6)) X9 Bd.notSynchronized (fun h => by rw [Bd.returns] at h; cases h) e9 (fun fs hr => (by
        jvm_step X9.here [X9.here.top, hx, (hb hby d6_13), X9.method', Bd.returns, Value.isRef, FieldType.isReference]
        first | (intro acts; rw [hr _ acts rfl rfl rfl]) | rw [hr _ _ rfl rfl rfl]
        exact Steps.refl _)) (by decide) (by decide) ⟨b6, kc, vs, rfl, N0, K6, sz_b6, AE6, (by have q := V_b6; rw [← hc4] at q; exact q), fun i _ _ => rfl⟩
  · -- pc 3: not nl = z
    refine Gl.st (g' := (mkF m 14 #[.val (.ref t), .val (.int nl), .unset] [])) (fun τ κ => XS.icmpYes X0.here hx rfl (pc0 := 3) (pc' := 14) rfl (hb hby d6_3) rfl (feq hc4).2 (by decide) (by decide) κ) ?_
    refine Gl.st (g' := (mkF m 15 #[.val (.ref t), .val (.int nl), .unset] [(.int nl)])) (fun τ κ => XS.iloadN X0.here hx rfl (hb hby d6_14) rfl κ) ?_
    obtain ⟨T10, h10, k10, X10, e10, E10, A10, AE10, st10⟩ := newPE X0 hx hZ (hw _ (List.mem_of_getElem? (i := 11) rfl)) e0 (g := (mkF m 15 #[.val (.ref t), .val (.int nl), .unset] [(.int nl)])) rfl (hb hby d6_15) rfl hn (cap := 8) hc8 (by decide) (by decide) (by decide) (ad := "[B") (by decide)
    obtain ⟨b10, g10⟩ : ∃ z, z = h0.size := ⟨_, rfl⟩
    rw [← g10] at A10 AE10 st10
    have ne_t_b10 : t ≠ b10 := Nat.ne_of_lt (Nat.lt_of_lt_of_le V0.lt (Nat.le_of_eq g10.symm))
    have V_11 := V0.ext E10
    have E_12 := E0.ext E10
    have g_b10 : n0 ≤ b10 := Nat.le_trans Z0 (Nat.le_of_eq g10.symm)
    have sz_b10 : h0.size ≤ b10 := Nat.le_trans (Keep.refl h0 []).1 (Nat.le_of_eq g10.symm)
    have Z10 : n0 ≤ h10.size := Nat.le_trans Z0 E10.1
    have K10 : Keep h0 h10 [] := (Keep.refl h0 []).ext E10
    have V_b10 : Arv Z h10 b10 k10 .byte nl [] (.int (0 : Int32)) := Arv.new A10 hn
    refine Gl.st (g' := (mkF m 17 #[.val (.ref t), .val (.int nl), .unset] [(.ref b10)])) (fun τ κ => st10 _ κ) ?_
    refine Gl.st (g' := (mkF m 18 #[.val (.ref t), .val (.int nl), .val (.ref b10)] [])) (fun τ κ => XS.astoreN X10.here hx rfl (hb hby d6_17) rfl rfl (l' := #[.val (.ref t), .val (.int nl), .val (.ref b10)]) rfl κ) ?_
    refine Gl.st (g' := (mkF m 19 #[.val (.ref t), .val (.int nl), .val (.ref b10)] [(.ref t)])) (fun τ κ => XS.aloadN X10.here hx rfl (hb hby d6_18) rfl rfl κ) ?_
    refine Gl.st (g' := (mkF m 20 #[.val (.ref t), .val (.int nl), .val (.ref b10)] [(.int (0 : Int32)), (.ref t)])) (fun τ κ => XS.iconst X10.here hx rfl (hb hby d6_19) κ) ?_
    refine Gl.st (g' := (mkF m 21 #[.val (.ref t), .val (.int nl), .val (.ref b10)] [(.ref b10), (.int (0 : Int32)), (.ref t)])) (fun τ κ => XS.aloadN X10.here hx rfl (hb hby d6_20) rfl rfl κ) ?_
    refine Gl.st (g' := (mkF m 22 #[.val (.ref t), .val (.int nl), .val (.ref b10)] [(.int (0 : Int32)), (.ref b10), (.int (0 : Int32)), (.ref t)])) (fun τ κ => XS.iconst X10.here hx rfl (hb hby d6_21) κ) ?_
    refine Gl.st (g' := (mkF m 23 #[.val (.ref t), .val (.int nl), .val (.ref b10)] [(.ref t), (.int (0 : Int32)), (.ref b10), (.int (0 : Int32)), (.ref t)])) (fun τ κ => XS.aloadN X10.here hx rfl (hb hby d6_22) rfl rfl κ) ?_
    obtain ⟨cl_o13, Ar_o13, q_o13, S_o13, M_o13, H_o13, G_o13⟩ := id V_11
    refine Gl.st (g' := (mkF m 24 #[.val (.ref t), .val (.int nl), .val (.ref b10)] [(.int z), (.int (0 : Int32)), (.ref b10), (.int (0 : Int32)), (.ref t)])) (fun τ κ => X10.arraylength hx (by rw [e10]; exact Ar_o13.1) (State.isArrayOf_alike hZ.alike Ar_o13.2.1) (g := (mkF m 23 #[.val (.ref t), .val (.int nl), .val (.ref b10)] [(.ref t), (.int (0 : Int32)), (.ref b10), (.int (0 : Int32)), (.ref t)])) rfl rfl (hb hby d6_23) _ (by rw [len_of S_o13 M_o13]; exact κ)) ?_
    refine Gl.st (g' := (mkF m 25 #[.val (.ref t), .val (.int nl), .val (.ref b10)] [(.int nl), (.int z), (.int (0 : Int32)), (.ref b10), (.int (0 : Int32)), (.ref t)])) (fun τ κ => XS.iloadN X10.here hx rfl (hb hby d6_24) rfl κ) ?_
    obtain ⟨rv14, _, ⟨T14, L14, k14, n14⟩, -, X14, ⟨Lc14, hQ14, l14, y14, z14⟩, st14⟩ := Jvm.LawKit.callS X10 hx (y := (⟨"java/lang/Math", "min", "(II)I"⟩ : MethodName)) hown (mvT hZ (hw _ (List.mem_of_getElem? (i := 33) rfl))) (mvT hZ (hw _ (List.mem_of_getElem? (i := 34) rfl))) (mvT hZ (hw _ (List.mem_of_getElem? (i := 27) rfl))) (mvT hZ (hw _ (List.mem_of_getElem? (i := 35) rfl))) (by decide) (backOf (W := 4) (rm7 l Z a0 hw [] z nl h10 n0 Z10 ) hZ (hw _ (List.mem_of_getElem? (i := 35) rfl)) (hw _ (List.mem_of_getElem? (i := 27) rfl)) (by decide) (by decide)) (g := (mkF m 25 #[.val (.ref t), .val (.int nl), .val (.ref b10)] [(.int nl), (.int z), (.int (0 : Int32)), (.ref b10), (.int (0 : Int32)), (.ref t)])) rfl (by rw [hml]; rfl) (argsL := [(.int z), (.int nl)]) (rest := [(.int (0 : Int32)), (.ref b10), (.int (0 : Int32)), (.ref t)]) (lenOf pd_0 rfl) rfl (by show 2 * 0 + _ ≤ _; exact Nat.le_of_eq rfl) (hb hby d6_25) (fun _ _ => ⟨rfl, e10, (by decide : 1 + 0 ≤ _), (by decide : 8 + 0 ≤ _)⟩)
    dsimp only [Pt.U, Pt.locs, Pt.cells, Pt.slots] at X14 l14 y14 z14 st14 hQ14
    subst l14 y14 z14
    obtain ⟨rfl, N14q, e14⟩ := hQ14
    have N14 := Fr.app N0 N14q
    refine Gl.st (g' := (mkF m 28 #[.val (.ref t), .val (.int nl), .val (.ref b10)] [(.int (own_min z nl)), (.int (0 : Int32)), (.ref b10), (.int (0 : Int32)), (.ref t)])) (fun τ κ => st14 _ κ) ?_
    obtain ⟨T15, h15, L15, X15, e15, N15, Kc15, Vc15, st15⟩ := cpA X14 hx hZ hown (hw _ (List.mem_of_getElem? (i := 36) rfl)) (hw _ (List.mem_of_getElem? (i := 39) rfl)) (hw _ (List.mem_of_getElem? (i := 37) rfl)) (hw _ (List.mem_of_getElem? (i := 38) rfl)) e14 V_11 ((V_b10).pad (pad_rep [] (.int (0 : Int32)) ((own_min z nl)).toNatClampNeg)) (Or.inl ⟨rfl, rfl⟩) (by decide) (by decide) (own_minN hz hn).1 (by show 0 + _ ≤ _; rw [Nat.zero_add]; exact (own_minN hz hn).2.1) (by show 0 + _ ≤ _; rw [Nat.zero_add]; exact (own_minN hz hn).2.2.1) rfl (by show 0 + _ ≤ _; simp) N14 g_b10 (g := (mkF m 28 #[.val (.ref t), .val (.int nl), .val (.ref b10)] [(.int (own_min z nl)), (.int (0 : Int32)), (.ref b10), (.int (0 : Int32)), (.ref t)])) rfl (by rw [hml]; rfl) rfl (hb hby d6_28) (by decide) (W := 0) (by show 2 * 0 + _ ≤ _; exact Nat.le_of_eq rfl) (by decide)
    have V_16 := V_11.keep Kc15 (ninS ne_t_b10 nin0)
    have E_17 := E_12.keep Kc15
    have E_18 := AE10.keep Kc15
    have Z15 : n0 ≤ h15.size := Nat.le_trans Z10 Kc15.1
    have K15 : Keep h0 h15 [] := K10.trans Kc15 (allS (Or.inr sz_b10) all0)
    refine Gl.st (g' := (mkF m 31 #[.val (.ref t), .val (.int nl), .val (.ref b10)] [])) (fun τ κ => st15 _ κ) ?_
    refine Gl.st (g' := (mkF m 32 #[.val (.ref t), .val (.int nl), .val (.ref b10)] [(.ref b10)])) (fun τ κ => XS.aloadN X15.here hx rfl (hb hby d6_31) rfl rfl κ) ?_
    exact Gl.ret (v := some (.ref b10)) X15 Bd.notSynchronized (fun h => by rw [Bd.returns] at h; cases h) e15 (fun fs hr => (by
        jvm_step X15.here [X15.here.top, hx, (hb hby d6_32), X15.method', Bd.returns, Value.isRef, FieldType.isReference]
        first | (intro acts; rw [hr _ acts rfl rfl rfl]) | rw [hr _ _ rfl rfl rfl]
        exact Steps.refl _)) (by decide) (by decide) ⟨b10, k10, _, rfl, N15, K15, sz_b10, E_18, Vc15, fun i h1 h2 => own_cp ((own_minN hz hn).2.2.2 i h1 h2)⟩
theorem own_grow {n z : Int32} (hn : ¬ n < 0) (hn3 : ¬ (3 : Int32) < n) (hz : ¬ z < n) (h : (z - n) < (1 : Int32)) : ¬ own_max ((2 : Int32) * z) (n + (1 : Int32)) < 0 ∧ (own_max ((2 : Int32) * z) (n + (1 : Int32))).toNatClampNeg ≤ 8 ∧ n < own_max ((2 : Int32) * z) (n + (1 : Int32)) ∧ ¬ (8 : Int32) < own_max ((2 : Int32) * z) (n + (1 : Int32)) ∧ n.toNatClampNeg ≤ z.toNatClampNeg ∧ n.toNatClampNeg ≤ (own_max ((2 : Int32) * z) (n + (1 : Int32))).toNatClampNeg := by
  have hz0 : ¬ z < 0 := by
    rw [Int32.lt_iff_toInt_lt] at hz hn ⊢; rw [own_i0] at hn ⊢; omega
  have nz := own_nat hz0; have nn := own_nat hn
  have bz := Int32.toInt_lt z
  rw [Int32.lt_iff_toInt_lt] at hn hn3 hz h
  rw [own_i0] at hn; rw [own_i3] at hn3; rw [own_i1] at h
  rw [Int32.lt_iff_toInt_lt, own_i0] at hz0
  have e1 : (z - n).toInt = z.toInt - n.toInt := Jvm.Kit.i32_sub (by omega) (by omega)
  have e2 : ((2 : Int32) * z).toInt = 2 * z.toInt := by rw [Jvm.Kit.i32_mul] <;> rw [own_i2] <;> omega
  have e3 : (n + (1 : Int32)).toInt = n.toInt + 1 := by rw [Jvm.Kit.i32_add] <;> rw [own_i1] <;> omega
  have e4 := own_maxI ((2 : Int32) * z) (n + (1 : Int32))
  rw [e2, e3] at e4
  have p0 : ¬ own_max ((2 : Int32) * z) (n + (1 : Int32)) < 0 := by rw [Int32.lt_iff_toInt_lt, own_i0, e4]; split <;> omega
  have np := own_nat p0
  rw [e4] at np
  refine ⟨p0, ?_, ?_, ?_, by omega, ?_⟩
  · split at np <;> omega
  · rw [Int32.lt_iff_toInt_lt, e4]; split <;> omega
  · rw [Int32.lt_iff_toInt_lt, own_i8, e4]; split <;> omega
  · split at np <;> omega
theorem own_stay {n z : Int32} (hn : ¬ n < 0) (hz : ¬ z < n) (h : ¬ (z - n) < (1 : Int32)) : n < z := by
  have bz := Int32.toInt_lt z
  rw [Int32.lt_iff_toInt_lt] at hn hz h ⊢
  rw [own_i0] at hn; rw [own_i1] at h
  have e1 : (z - n).toInt = z.toInt - n.toInt := Jvm.Kit.i32_sub (by omega) (by omega)
  omega
theorem own_zn {n z : Int32} (hn : ¬ n < 0) (hz : ¬ z < n) : ¬ z < 0 := by
  rw [Int32.lt_iff_toInt_lt] at hz hn ⊢; rw [own_i0] at hn ⊢; omega
theorem d4_0 : decode prog_6_method_15_code 0 = .ok (.aload_n 0, 1) := by decide +kernel
theorem d4_1 : decode prog_6_method_15_code 1 = .ok (.getfield 13, 3) := by decide +kernel
theorem d4_4 : decode prog_6_method_15_code 4 = .ok (.arraylength, 1) := by decide +kernel
theorem d4_5 : decode prog_6_method_15_code 5 = .ok (.aload_n 0, 1) := by decide +kernel
theorem d4_6 : decode prog_6_method_15_code 6 = .ok (.getfield 18, 3) := by decide +kernel
theorem d4_9 : decode prog_6_method_15_code 9 = .ok (.isub, 1) := by decide +kernel
theorem d4_10 : decode prog_6_method_15_code 10 = .ok (.iload_n 1, 1) := by decide +kernel
theorem d4_11 : decode prog_6_method_15_code 11 = .ok (.if_icmp .ge 30, 3) := by decide +kernel
theorem d4_14 : decode prog_6_method_15_code 14 = .ok (.aload_n 0, 1) := by decide +kernel
theorem d4_15 : decode prog_6_method_15_code 15 = .ok (.aload_n 0, 1) := by decide +kernel
theorem d4_16 : decode prog_6_method_15_code 16 = .ok (.getfield 13, 3) := by decide +kernel
theorem d4_19 : decode prog_6_method_15_code 19 = .ok (.iconst 2, 1) := by decide +kernel
theorem d4_20 : decode prog_6_method_15_code 20 = .ok (.aload_n 0, 1) := by decide +kernel
theorem d4_21 : decode prog_6_method_15_code 21 = .ok (.getfield 13, 3) := by decide +kernel
theorem d4_24 : decode prog_6_method_15_code 24 = .ok (.arraylength, 1) := by decide +kernel
theorem d4_25 : decode prog_6_method_15_code 25 = .ok (.imul, 1) := by decide +kernel
theorem d4_26 : decode prog_6_method_15_code 26 = .ok (.aload_n 0, 1) := by decide +kernel
theorem d4_27 : decode prog_6_method_15_code 27 = .ok (.getfield 18, 3) := by decide +kernel
theorem d4_30 : decode prog_6_method_15_code 30 = .ok (.iload_n 1, 1) := by decide +kernel
theorem d4_31 : decode prog_6_method_15_code 31 = .ok (.iadd, 1) := by decide +kernel
theorem d4_32 : decode prog_6_method_15_code 32 = .ok (.invokestatic 128, 3) := by decide +kernel
theorem d4_35 : decode prog_6_method_15_code 35 = .ok (.invokestatic 106, 3) := by decide +kernel
theorem pd_1 : parseMethodDescriptor "([BI)[B" = some ⟨[(.array .byte), .int], some (.array .byte)⟩ := by decide +kernel
theorem d4_38 : decode prog_6_method_15_code 38 = .ok (.putfield 13, 3) := by decide +kernel
theorem d4_41 : decode prog_6_method_15_code 41 = .ok (.return_, 1) := by decide +kernel
theorem pn_com_example_hermitage_hermitage_frame_JsonText : plainName "com/example/hermitage/hermitage/frame/JsonText" = true := by first | (simp [plainName, overriddenIn]; done) | decide +kernel
theorem ef_rm4 (m : MethodId) (a : Addr) : entryFrame m #[(.ref a), (.int (1 : Int32))] 2 = mkF m 0 #[.val (.ref a), .val (.int (1 : Int32))] [] := by first | (simp [entryFrame, mkF, argsToLocals, Value.category]; done) | rfl
def Q_rm4 (Z : State) (a : Addr) (t : Addr) (kc : ClassId) (c0 n z : Int32) (vs : List Value) (h0 : Heap) (n0 : Nat) (v : Option Value) (h : Heap) (L : List Loc) : Prop := ∃ (t' : Addr) (k' : ClassId) (z' : Int32) (vs' : List Value), v = none ∧ Fr n0 L ∧ Keep h0 h [a] ∧ Exa Z h a "com/example/hermitage/hermitage/frame/JsonText" ∧ Fld Z h a "com/example/hermitage/hermitage/frame/JsonText" "capacity" "I" (.int c0) ∧ Fld Z h a "com/example/hermitage/hermitage/frame/JsonText" "bytes" "[B" (.ref t') ∧ Fld Z h a "com/example/hermitage/hermitage/frame/JsonText" "length" "I" (.int n) ∧ Exa Z h t' "[B" ∧ Arv Z h t' k' .byte z' vs' (.int (0 : Int32)) ∧ n < z' ∧ ¬ (8 : Int32) < z' ∧ n0 ≤ t' ∧ (t' = t ∨ h0.size ≤ t') ∧ a ≠ t' ∧ ∀ i, i < n.toNatClampNeg → vs'.getD i (.int (0 : Int32)) = vs.getD i (.int (0 : Int32))
set_option maxRecDepth 65536 in
set_option maxHeartbeats 40000000 in
theorem rm4 (l : Launch) (Z : State) (a0 : Array Value) (hw : ∀ d ∈ tables_1, d.before a0 Z = true) (ws : List Jvm.Cond) (a : Addr) (t : Addr) (kc : ClassId) (c0 n z : Int32) (vs : List Value) (h0 : Heap) (n0 : Nat) (Z0 : n0 ≤ h0.size) (E0 : Exa Z h0 a "com/example/hermitage/hermitage/frame/JsonText") (g0 : n0 ≤ a) (FC : Fld Z h0 a "com/example/hermitage/hermitage/frame/JsonText" "capacity" "I" (.int c0)) (FB : Fld Z h0 a "com/example/hermitage/hermitage/frame/JsonText" "bytes" "[B" (.ref t)) (FL : Fld Z h0 a "com/example/hermitage/hermitage/frame/JsonText" "length" "I" (.int n)) (Et : Exa Z h0 t "[B") (gt : n0 ≤ t) (V0 : Arv Z h0 t kc .byte z vs (.int (0 : Int32))) (hat : a ≠ t) (hn : ¬ n < 0) (hz : ¬ z < n) (hz8 : ¬ (8 : Int32) < z) (hn3 : ¬ (3 : Int32) < n) :
    MetFree l (⟨"com/example/hermitage/hermitage/frame/JsonText", "room", "(I)V"⟩ : MethodName) (head1 (Jvm.Cond.code (⟨"com/example/hermitage/hermitage/frame/JsonText", "room", "(I)V"⟩ : MethodName) prog_6_method_15_code 2 none :: ws) ({ frames := 2, cells := 1, slots := 8, locals := 33 } : Room)) (fun aα Uα => aα = #[(.ref a), (.int (1 : Int32))] ∧ Z.Warmed39 Uα.vm ∧ Uα.heap = h0) (fun _ _ _ _ _ => True) (fun _ Uα oα Uβ => ∃ vα Lα, oα = .returned vα ∧ Q_rm4 Z a t kc c0 n z vs h0 n0 vα Uβ.heap Lα ∧ FrameEnd Uα oα Uβ Lα ({ frames := 2, cells := 1, slots := 8, locals := 33 } : Room).cells ({ frames := 2, cells := 1, slots := 8, locals := 33 } : Room).slots) := by
  refine MetFree.of_bodySF (plainFor_of_name pn_com_example_hermitage_hermitage_frame_JsonText) hisR ?_
  intro p e s m args below meth c s₁ Bd hml0 hP hKα
  obtain ⟨rfl, hZ, hh⟩ := hP
  have hx := Bd.exec
  have hby := Bd.bytes
  have hml : c.maxLocals = 2 := hml0
  have hown : s.vm.findClass "com/example/hermitage/hermitage/frame/JsonText" = some m.cls := findClass_of_methodNamed Bd.named
  have hnm := (name_of_methodNamed Bd.named Bd.method).1
  have X0 : Stand p l e ({ frames := 2, cells := 1, slots := 8, locals := 33 } : Room) s m #[(.ref a), (.int (1 : Int32))] below meth c s₁ [] 0 0 := Stand.of_body Bd
  have e0 : s₁.heap = h0 := by rw [← hh, Bd.state]; rfl
  have N0 := Fr.nil n0
  suffices k0 : Gl p e below s (Q_rm4 Z a t kc c0 n z vs h0 n0) ({ frames := 2, cells := 1, slots := 8, locals := 33 } : Room).cells ({ frames := 2, cells := 1, slots := 8, locals := 33 } : Room).slots s₁ (mkF m 0 #[.val (.ref a), .val (.int (1 : Int32))] []) from Gl.st (fun τ κ => castTop (ef_rm4 m a) κ) k0
  refine Gl.st (g' := (mkF m 1 #[.val (.ref a), .val (.int (1 : Int32))] [(.ref a)])) (fun τ κ => XS.aloadN X0.here hx rfl (hb hby d4_0) rfl rfl κ) ?_
  obtain ⟨T20, X20, e20, st20⟩ := getF X0 hx hZ hown (host := "") (Or.inl (hw _ (List.mem_of_getElem? (i := 12) rfl))) Via.refl e0 FB (g := (mkF m 1 #[.val (.ref a), .val (.int (1 : Int32))] [(.ref a)])) rfl rfl (hb hby d4_1)
  refine Gl.st (g' := (mkF m 4 #[.val (.ref a), .val (.int (1 : Int32))] [(.ref t)])) (fun τ κ => st20 _ κ) ?_
  obtain ⟨cl_o21, Ar_o21, q_o21, S_o21, M_o21, H_o21, G_o21⟩ := id V0
  refine Gl.st (g' := (mkF m 5 #[.val (.ref a), .val (.int (1 : Int32))] [(.int z)])) (fun τ κ => X20.arraylength hx (by rw [e20]; exact Ar_o21.1) (State.isArrayOf_alike hZ.alike Ar_o21.2.1) (g := (mkF m 4 #[.val (.ref a), .val (.int (1 : Int32))] [(.ref t)])) rfl rfl (hb hby d4_4) _ (by rw [len_of S_o21 M_o21]; exact κ)) ?_
  refine Gl.st (g' := (mkF m 6 #[.val (.ref a), .val (.int (1 : Int32))] [(.ref a), (.int z)])) (fun τ κ => XS.aloadN X20.here hx rfl (hb hby d4_5) rfl rfl κ) ?_
  obtain ⟨T22, X22, e22, st22⟩ := getF X20 hx hZ hown (host := "") (Or.inl (hw _ (List.mem_of_getElem? (i := 23) rfl))) Via.refl e20 FL (g := (mkF m 6 #[.val (.ref a), .val (.int (1 : Int32))] [(.ref a), (.int z)])) rfl rfl (hb hby d4_6)
  refine Gl.st (g' := (mkF m 9 #[.val (.ref a), .val (.int (1 : Int32))] [(.int n), (.int z)])) (fun τ κ => st22 _ κ) ?_
  refine Gl.st (g' := (mkF m 10 #[.val (.ref a), .val (.int (1 : Int32))] [(.int (z - n))])) (fun τ κ => XS.isub X22.here hx rfl (hb hby d4_9) rfl κ) ?_
  refine Gl.st (g' := (mkF m 11 #[.val (.ref a), .val (.int (1 : Int32))] [(.int (1 : Int32)), (.int (z - n))])) (fun τ κ => XS.iloadN X22.here hx rfl (hb hby d4_10) rfl κ) ?_
  by_cases hc23 : (z - n) < (1 : Int32)
  · -- pc 11: (z - n) < (1 : Int32)
    refine Gl.st (g' := (mkF m 14 #[.val (.ref a), .val (.int (1 : Int32))] [])) (fun τ κ => XS.icmpNo X22.here hx rfl (hb hby d4_11) rfl (tlt hc23).2.1 κ) ?_
    refine Gl.st (g' := (mkF m 15 #[.val (.ref a), .val (.int (1 : Int32))] [(.ref a)])) (fun τ κ => XS.aloadN X22.here hx rfl (hb hby d4_14) rfl rfl κ) ?_
    refine Gl.st (g' := (mkF m 16 #[.val (.ref a), .val (.int (1 : Int32))] [(.ref a), (.ref a)])) (fun τ κ => XS.aloadN X22.here hx rfl (hb hby d4_15) rfl rfl κ) ?_
    obtain ⟨T24, X24, e24, st24⟩ := getF X22 hx hZ hown (host := "") (Or.inl (hw _ (List.mem_of_getElem? (i := 12) rfl))) Via.refl e22 FB (g := (mkF m 16 #[.val (.ref a), .val (.int (1 : Int32))] [(.ref a), (.ref a)])) rfl rfl (hb hby d4_16)
    refine Gl.st (g' := (mkF m 19 #[.val (.ref a), .val (.int (1 : Int32))] [(.ref t), (.ref a)])) (fun τ κ => st24 _ κ) ?_
    refine Gl.st (g' := (mkF m 20 #[.val (.ref a), .val (.int (1 : Int32))] [(.int (2 : Int32)), (.ref t), (.ref a)])) (fun τ κ => XS.iconst X24.here hx rfl (hb hby d4_19) κ) ?_
    refine Gl.st (g' := (mkF m 21 #[.val (.ref a), .val (.int (1 : Int32))] [(.ref a), (.int (2 : Int32)), (.ref t), (.ref a)])) (fun τ κ => XS.aloadN X24.here hx rfl (hb hby d4_20) rfl rfl κ) ?_
    obtain ⟨T25, X25, e25, st25⟩ := getF X24 hx hZ hown (host := "") (Or.inl (hw _ (List.mem_of_getElem? (i := 12) rfl))) Via.refl e24 FB (g := (mkF m 21 #[.val (.ref a), .val (.int (1 : Int32))] [(.ref a), (.int (2 : Int32)), (.ref t), (.ref a)])) rfl rfl (hb hby d4_21)
    refine Gl.st (g' := (mkF m 24 #[.val (.ref a), .val (.int (1 : Int32))] [(.ref t), (.int (2 : Int32)), (.ref t), (.ref a)])) (fun τ κ => st25 _ κ) ?_
    obtain ⟨cl_o26, Ar_o26, q_o26, S_o26, M_o26, H_o26, G_o26⟩ := id V0
    refine Gl.st (g' := (mkF m 25 #[.val (.ref a), .val (.int (1 : Int32))] [(.int z), (.int (2 : Int32)), (.ref t), (.ref a)])) (fun τ κ => X25.arraylength hx (by rw [e25]; exact Ar_o26.1) (State.isArrayOf_alike hZ.alike Ar_o26.2.1) (g := (mkF m 24 #[.val (.ref a), .val (.int (1 : Int32))] [(.ref t), (.int (2 : Int32)), (.ref t), (.ref a)])) rfl rfl (hb hby d4_24) _ (by rw [len_of S_o26 M_o26]; exact κ)) ?_
    refine Gl.st (g' := (mkF m 26 #[.val (.ref a), .val (.int (1 : Int32))] [(.int ((2 : Int32) * z)), (.ref t), (.ref a)])) (fun τ κ => XS.imul X25.here hx rfl (hb hby d4_25) rfl κ) ?_
    refine Gl.st (g' := (mkF m 27 #[.val (.ref a), .val (.int (1 : Int32))] [(.ref a), (.int ((2 : Int32) * z)), (.ref t), (.ref a)])) (fun τ κ => XS.aloadN X25.here hx rfl (hb hby d4_26) rfl rfl κ) ?_
    obtain ⟨T27, X27, e27, st27⟩ := getF X25 hx hZ hown (host := "") (Or.inl (hw _ (List.mem_of_getElem? (i := 23) rfl))) Via.refl e25 FL (g := (mkF m 27 #[.val (.ref a), .val (.int (1 : Int32))] [(.ref a), (.int ((2 : Int32) * z)), (.ref t), (.ref a)])) rfl rfl (hb hby d4_27)
    refine Gl.st (g' := (mkF m 30 #[.val (.ref a), .val (.int (1 : Int32))] [(.int n), (.int ((2 : Int32) * z)), (.ref t), (.ref a)])) (fun τ κ => st27 _ κ) ?_
    refine Gl.st (g' := (mkF m 31 #[.val (.ref a), .val (.int (1 : Int32))] [(.int (1 : Int32)), (.int n), (.int ((2 : Int32) * z)), (.ref t), (.ref a)])) (fun τ κ => XS.iloadN X27.here hx rfl (hb hby d4_30) rfl κ) ?_
    refine Gl.st (g' := (mkF m 32 #[.val (.ref a), .val (.int (1 : Int32))] [(.int (n + (1 : Int32))), (.int ((2 : Int32) * z)), (.ref t), (.ref a)])) (fun τ κ => XS.iadd X27.here hx rfl (hb hby d4_31) rfl κ) ?_
    obtain ⟨rv28, _, ⟨T28, L28, k28, n28⟩, -, X28, ⟨Lc28, hQ28, l28, y28, z28⟩, st28⟩ := Jvm.LawKit.callS X27 hx (y := (⟨"java/lang/Math", "max", "(II)I"⟩ : MethodName)) hown (mvT hZ (hw _ (List.mem_of_getElem? (i := 25) rfl))) (mvT hZ (hw _ (List.mem_of_getElem? (i := 26) rfl))) (mvT hZ (hw _ (List.mem_of_getElem? (i := 27) rfl))) (mvT hZ (hw _ (List.mem_of_getElem? (i := 28) rfl))) (by decide) (backOf (W := 2) (rm5 l Z a0 hw [] ((2 : Int32) * z) (n + (1 : Int32)) h0 n0 Z0 ) hZ (hw _ (List.mem_of_getElem? (i := 28) rfl)) (hw _ (List.mem_of_getElem? (i := 27) rfl)) (by decide) (by decide)) (g := (mkF m 32 #[.val (.ref a), .val (.int (1 : Int32))] [(.int (n + (1 : Int32))), (.int ((2 : Int32) * z)), (.ref t), (.ref a)])) rfl (by rw [hml]; rfl) (argsL := [(.int ((2 : Int32) * z)), (.int (n + (1 : Int32)))]) (rest := [(.ref t), (.ref a)]) (lenOf pd_0 rfl) rfl (by show 2 * 0 + _ ≤ _; exact Nat.le_of_eq rfl) (hb hby d4_32) (fun _ _ => ⟨rfl, e27, (by decide : 0 + 0 ≤ _), (by decide : 0 + 0 ≤ _)⟩)
    dsimp only [Pt.U, Pt.locs, Pt.cells, Pt.slots] at X28 l28 y28 z28 st28 hQ28
    subst l28 y28 z28
    obtain ⟨rfl, N28q, e28⟩ := hQ28
    have N28 := Fr.app N0 N28q
    refine Gl.st (g' := (mkF m 35 #[.val (.ref a), .val (.int (1 : Int32))] [(.int (own_max ((2 : Int32) * z) (n + (1 : Int32)))), (.ref t), (.ref a)])) (fun τ κ => st28 _ κ) ?_
    obtain ⟨rv29, _, ⟨T29, L29, k29, n29⟩, -, X29, ⟨Lc29, hQ29, l29, y29, z29⟩, st29⟩ := Jvm.LawKit.callS X28 hx (y := (⟨"java/util/Arrays", "copyOf", "([BI)[B"⟩ : MethodName)) hown (mvT hZ (hw _ (List.mem_of_getElem? (i := 29) rfl))) (mvT hZ (hw _ (List.mem_of_getElem? (i := 30) rfl))) (mvT hZ (hw _ (List.mem_of_getElem? (i := 31) rfl))) (mvT hZ (hw _ (List.mem_of_getElem? (i := 32) rfl))) (by decide) (backOf (W := 1) (rm6 l Z a0 hw [] t (own_max ((2 : Int32) * z) (n + (1 : Int32))) kc z vs h0 n0 Z0 V0 Et (own_zn hn hz) (own_grow hn hn3 hz hc23).1 (own_grow hn hn3 hz hc23).2.1) hZ (hw _ (List.mem_of_getElem? (i := 32) rfl)) (hw _ (List.mem_of_getElem? (i := 31) rfl)) (by decide) (by decide)) (g := (mkF m 35 #[.val (.ref a), .val (.int (1 : Int32))] [(.int (own_max ((2 : Int32) * z) (n + (1 : Int32)))), (.ref t), (.ref a)])) rfl (by rw [hml]; rfl) (argsL := [(.ref t), (.int (own_max ((2 : Int32) * z) (n + (1 : Int32))))]) (rest := [(.ref a)]) (lenOf pd_1 rfl) rfl (by show 2 * 0 + _ ≤ _; exact Nat.le_of_eq rfl) (hb hby d4_35) (fun _ _ => ⟨rfl, e28, (by decide : 0 + 1 ≤ _), (by decide : 0 + 8 ≤ _)⟩)
    dsimp only [Pt.U, Pt.locs, Pt.cells, Pt.slots] at X29 l29 y29 z29 st29 hQ29
    subst l29 y29 z29
    obtain ⟨b29, kk29, vs29, rfl, N29q, Kc29, s29, Ex29, V29, hv29⟩ := hQ29
    have ne_a_b29 : a ≠ b29 := Nat.ne_of_lt (Nat.lt_of_lt_of_le E0.lt s29)
    have ne_t_b29 : t ≠ b29 := Nat.ne_of_lt (Nat.lt_of_lt_of_le Et.lt s29)
    have g_b29 : n0 ≤ b29 := Nat.le_trans Z0 s29
    have sz_b29 : h0.size ≤ b29 := Nat.le_trans (Keep.refl h0 [a]).1 s29
    have E_30 := E0.keep Kc29
    have E_31 := Et.keep Kc29
    have F_32 := FC.keep Kc29 nin0
    have F_33 := FB.keep Kc29 nin0
    have F_34 := FL.keep Kc29 nin0
    have V_35 := V0.keep Kc29 nin0
    have N29 := Fr.app N28 N29q
    have Z29 : n0 ≤ T29.heap.size := Nat.le_trans Z0 Kc29.1
    have K29 : Keep h0 T29.heap [a] := (Keep.refl h0 [a]).trans Kc29 all0
    refine Gl.st (g' := (mkF m 38 #[.val (.ref a), .val (.int (1 : Int32))] [(.ref b29), (.ref a)])) (fun τ κ => st29 _ κ) ?_
    obtain ⟨T36, h36, X36, e36, W36, st36⟩ := putF X29 hx hZ hown (host := "") (Or.inl (hw _ (List.mem_of_getElem? (i := 12) rfl))) Via.refl rfl F_33 E_30 (Or.inl (hw _ (List.mem_of_getElem? (i := 13) rfl))) (hw _ (List.mem_of_getElem? (i := 1) rfl)) (ty := (.array .byte)) (by decide) rfl rfl (g := (mkF m 38 #[.val (.ref a), .val (.int (1 : Int32))] [(.ref b29), (.ref a)])) rfl rfl (hb hby d4_38)
    have E_37 := E_30.wr W36
    have E_38 := E_31.wr W36
    have F_39 := F_32.other W36 (Or.inr (slot_ne (Or.inr (hw _ (List.mem_of_getElem? (i := 10) rfl))) (Or.inl (hw _ (List.mem_of_getElem? (i := 13) rfl))) (by decide) (t := .int) (t' := (.array .byte)) (by decide) (by decide)))
    have F_41 := F_34.other W36 (Or.inr (slot_ne (Or.inl (hw _ (List.mem_of_getElem? (i := 24) rfl))) (Or.inl (hw _ (List.mem_of_getElem? (i := 13) rfl))) (by decide) (t := .int) (t' := (.array .byte)) (by decide) (by decide)))
    have V_42 := V_35.other W36 (Ne.symm hat)
    have E_43 := Ex29.wr W36
    have V_44 := V29.other W36 (Ne.symm ne_a_b29)
    have N36 := Fr.snoc X36 N29 g0
    have Z36 : n0 ≤ h36.size := Nat.le_trans Z29 (Nat.le_of_eq W36.size.symm)
    have K36 : Keep h0 h36 [a] := K29.wr W36 (Or.inl (List.mem_of_getElem? (i := 0) rfl))
    have F_45 := F_33.same W36
    refine Gl.st (g' := (mkF m 41 #[.val (.ref a), .val (.int (1 : Int32))] [])) (fun τ κ => st36 _ κ) ?_
    exact Gl.ret (v := none) X36 Bd.notSynchronized (fun _ => rfl) e36 (fun fs hr => X36.returnOut hx Bd.returns (hb hby d4_41) hr) (by decide) (by decide) ⟨b29, kk29, (own_max ((2 : Int32) * z) (n + (1 : Int32))), vs29, rfl, N36, K36, E_37, F_39, F_45, F_41, E_43, V_44, (own_grow hn hn3 hz hc23).2.2.1, (own_grow hn hn3 hz hc23).2.2.2.1, g_b29, Or.inr sz_b29, ne_a_b29, fun i hi => hv29 i (Nat.lt_of_lt_of_le hi (own_grow hn hn3 hz hc23).2.2.2.2.1) (Nat.lt_of_lt_of_le hi (own_grow hn hn3 hz hc23).2.2.2.2.2)⟩
  · -- pc 11: not (z - n) < (1 : Int32)
    refine Gl.st (g' := (mkF m 41 #[.val (.ref a), .val (.int (1 : Int32))] [])) (fun τ κ => XS.icmpYes X22.here hx rfl (pc0 := 11) (pc' := 41) rfl (hb hby d4_11) rfl (flt hc23).2.1 (by decide) (by decide) κ) ?_
    exact Gl.ret (v := none) X22 Bd.notSynchronized (fun _ => rfl) e22 (fun fs hr => X22.returnOut hx Bd.returns (hb hby d4_41) hr) (by decide) (by decide) ⟨t, kc, z, vs, rfl, N0, (Keep.refl h0 [a]), E0, FC, FB, FL, Et, V0, own_stay hn hz hc23, hz8, gt, Or.inl rfl, hat, fun i _ => rfl⟩
theorem own_bb (x : Int32) : nar .byte (x.toInt8.toInt32) = x.toInt8.toInt32 := by
  show (x.toInt8.toInt32).toInt8.toInt32 = _
  rw [Int8.toInt8_toInt32]
theorem own_up {n z m : Int32} (h : n < z) (hm : n.toInt + 1 = m.toInt) : ¬ z < m := by
  rw [Int32.lt_iff_toInt_lt] at *; omega
theorem own_in {n z : Int32} (hn : ¬ n < 0) (h : n < z) : ¬ n < 0 ∧ n < z := ⟨hn, h⟩
theorem d3_0 : decode prog_6_method_3_code 0 = .ok (.aload_n 0, 1) := by decide +kernel
theorem d3_1 : decode prog_6_method_3_code 1 = .ok (.iconst 1, 1) := by decide +kernel
theorem d3_2 : decode prog_6_method_3_code 2 = .ok (.invokevirtual 21, 3) := by decide +kernel
theorem pd_2 : parseMethodDescriptor "(I)V" = some ⟨[.int], none⟩ := by decide +kernel
theorem d3_5 : decode prog_6_method_3_code 5 = .ok (.aload_n 0, 1) := by decide +kernel
theorem d3_6 : decode prog_6_method_3_code 6 = .ok (.getfield 13, 3) := by decide +kernel
theorem d3_9 : decode prog_6_method_3_code 9 = .ok (.aload_n 0, 1) := by decide +kernel
theorem d3_10 : decode prog_6_method_3_code 10 = .ok (.dup, 1) := by decide +kernel
theorem d3_11 : decode prog_6_method_3_code 11 = .ok (.getfield 18, 3) := by decide +kernel
theorem d3_14 : decode prog_6_method_3_code 14 = .ok (.dup_x1, 1) := by decide +kernel
theorem d3_15 : decode prog_6_method_3_code 15 = .ok (.iconst 1, 1) := by decide +kernel
theorem d3_16 : decode prog_6_method_3_code 16 = .ok (.iadd, 1) := by decide +kernel
theorem d3_17 : decode prog_6_method_3_code 17 = .ok (.putfield 18, 3) := by decide +kernel
theorem d3_20 : decode prog_6_method_3_code 20 = .ok (.iload_n 1, 1) := by decide +kernel
theorem d3_21 : decode prog_6_method_3_code 21 = .ok (.i2b, 1) := by decide +kernel
theorem d3_22 : decode prog_6_method_3_code 22 = .ok (.bastore, 1) := by decide +kernel
theorem d3_23 : decode prog_6_method_3_code 23 = .ok (.aload_n 0, 1) := by decide +kernel
theorem d3_24 : decode prog_6_method_3_code 24 = .ok (.areturn, 1) := by decide +kernel
theorem ef_rm3 (m : MethodId) (a : Addr) (ch : Int32) : entryFrame m #[(.ref a), (.int ch)] 2 = mkF m 0 #[.val (.ref a), .val (.int ch)] [] := by first | (simp [entryFrame, mkF, argsToLocals, Value.category]; done) | rfl
def Q_rm3 (Z : State) (a : Addr) (ch : Int32) (t : Addr) (kc : ClassId) (c0 n z : Int32) (vs : List Value) (h0 : Heap) (n0 : Nat) (v : Option Value) (h : Heap) (L : List Loc) : Prop := ∃ (t' : Addr) (k' : ClassId) (z' : Int32) (vs' : List Value), v = some (.ref a) ∧ Fr n0 L ∧ Keep h0 h [a, t] ∧ Exa Z h a "com/example/hermitage/hermitage/frame/JsonText" ∧ Fld Z h a "com/example/hermitage/hermitage/frame/JsonText" "capacity" "I" (.int c0) ∧ Fld Z h a "com/example/hermitage/hermitage/frame/JsonText" "bytes" "[B" (.ref t') ∧ Fld Z h a "com/example/hermitage/hermitage/frame/JsonText" "length" "I" (.int (n + (1 : Int32))) ∧ Exa Z h t' "[B" ∧ Arv Z h t' k' .byte z' vs' (.int (0 : Int32)) ∧ n < z' ∧ ¬ (8 : Int32) < z' ∧ n0 ≤ t' ∧ (t' = t ∨ h0.size ≤ t') ∧ a ≠ t' ∧ (∀ i, i < n.toNatClampNeg → vs'.getD i (.int (0 : Int32)) = vs.getD i (.int (0 : Int32))) ∧ vs'.getD n.toNatClampNeg (.int (0 : Int32)) = (.int (ch.toInt8.toInt32))
set_option maxRecDepth 65536 in
set_option maxHeartbeats 40000000 in
theorem rm3 (l : Launch) (Z : State) (a0 : Array Value) (hw : ∀ d ∈ tables_1, d.before a0 Z = true) (ws : List Jvm.Cond) (a : Addr) (ch : Int32) (t : Addr) (kc : ClassId) (c0 n z : Int32) (vs : List Value) (h0 : Heap) (n0 : Nat) (Z0 : n0 ≤ h0.size) (E0 : Exa Z h0 a "com/example/hermitage/hermitage/frame/JsonText") (g0 : n0 ≤ a) (FC : Fld Z h0 a "com/example/hermitage/hermitage/frame/JsonText" "capacity" "I" (.int c0)) (FB : Fld Z h0 a "com/example/hermitage/hermitage/frame/JsonText" "bytes" "[B" (.ref t)) (FL : Fld Z h0 a "com/example/hermitage/hermitage/frame/JsonText" "length" "I" (.int n)) (Et : Exa Z h0 t "[B") (gt : n0 ≤ t) (V0 : Arv Z h0 t kc .byte z vs (.int (0 : Int32))) (hat : a ≠ t) (hn : ¬ n < 0) (hz : ¬ z < n) (hz8 : ¬ (8 : Int32) < z) (hn3 : ¬ (3 : Int32) < n) :
    MetFree l (⟨"com/example/hermitage/hermitage/frame/JsonText", "mark", "(C)Lcom/example/hermitage/hermitage/frame/JsonText;"⟩ : MethodName) (head1 (Jvm.Cond.code (⟨"com/example/hermitage/hermitage/frame/JsonText", "mark", "(C)Lcom/example/hermitage/hermitage/frame/JsonText;"⟩ : MethodName) prog_6_method_3_code 2 (some (.object "com/example/hermitage/hermitage/frame/JsonText")) :: ws) ({ frames := 3, cells := 1, slots := 8, locals := 46 } : Room)) (fun aα Uα => aα = #[(.ref a), (.int ch)] ∧ Z.Warmed39 Uα.vm ∧ Uα.heap = h0) (fun _ _ _ _ _ => True) (fun _ Uα oα Uβ => ∃ vα Lα, oα = .returned vα ∧ Q_rm3 Z a ch t kc c0 n z vs h0 n0 vα Uβ.heap Lα ∧ FrameEnd Uα oα Uβ Lα ({ frames := 3, cells := 1, slots := 8, locals := 46 } : Room).cells ({ frames := 3, cells := 1, slots := 8, locals := 46 } : Room).slots) := by
  refine MetFree.of_bodySF (plainFor_of_name pn_com_example_hermitage_hermitage_frame_JsonText) hisR ?_
  intro p e s m args below meth c s₁ Bd hml0 hP hKα
  obtain ⟨rfl, hZ, hh⟩ := hP
  have hx := Bd.exec
  have hby := Bd.bytes
  have hml : c.maxLocals = 2 := hml0
  have hown : s.vm.findClass "com/example/hermitage/hermitage/frame/JsonText" = some m.cls := findClass_of_methodNamed Bd.named
  have hnm := (name_of_methodNamed Bd.named Bd.method).1
  have X0 : Stand p l e ({ frames := 3, cells := 1, slots := 8, locals := 46 } : Room) s m #[(.ref a), (.int ch)] below meth c s₁ [] 0 0 := Stand.of_body Bd
  have e0 : s₁.heap = h0 := by rw [← hh, Bd.state]; rfl
  have N0 := Fr.nil n0
  suffices k0 : Gl p e below s (Q_rm3 Z a ch t kc c0 n z vs h0 n0) ({ frames := 3, cells := 1, slots := 8, locals := 46 } : Room).cells ({ frames := 3, cells := 1, slots := 8, locals := 46 } : Room).slots s₁ (mkF m 0 #[.val (.ref a), .val (.int ch)] []) from Gl.st (fun τ κ => castTop (ef_rm3 m a ch) κ) k0
  refine Gl.st (g' := (mkF m 1 #[.val (.ref a), .val (.int ch)] [(.ref a)])) (fun τ κ => XS.aloadN X0.here hx rfl (hb hby d3_0) rfl rfl κ) ?_
  refine Gl.st (g' := (mkF m 2 #[.val (.ref a), .val (.int ch)] [(.int (1 : Int32)), (.ref a)])) (fun τ κ => XS.iconst X0.here hx rfl (hb hby d3_1) κ) ?_
  obtain ⟨cq46, q46, q46'⟩ := E0.cell
  obtain ⟨rv46, _, ⟨T46, L46, k46, n46⟩, -, X46, ⟨Lc46, hQ46, l46, y46, z46⟩, st46⟩ := X0.privateBack hx (y := (⟨"com/example/hermitage/hermitage/frame/JsonText", "room", "(I)V"⟩ : MethodName)) hown (mvT hZ (hw _ (List.mem_of_getElem? (i := 19) rfl))) (mvT hZ (hw _ (List.mem_of_getElem? (i := 20) rfl))) (selPrivate (z := (⟨"com/example/hermitage/hermitage/frame/JsonText", "mark", "(C)Lcom/example/hermitage/hermitage/frame/JsonText;"⟩ : MethodName)) rfl (mvT hZ (hw _ (List.mem_of_getElem? (i := 17) rfl))) (Cond.privateMethod_at (mvP hZ (hw _ (List.mem_of_getElem? (i := 21) rfl)) (args := #[]))) (mvT hZ (hw _ (List.mem_of_getElem? (i := 20) rfl))) (by decide)) (Cond.privateMethod_at (mvP hZ (hw _ (List.mem_of_getElem? (i := 21) rfl)) (args := #[]))) (mvT hZ (hw _ (List.mem_of_getElem? (i := 22) rfl))) (by decide) (backOf (W := 0) (rm4 l Z a0 hw [] a t kc c0 n z vs h0 n0 Z0 E0 g0 FC FB FL Et gt V0 hat hn hz hz8 hn3) hZ (hw _ (List.mem_of_getElem? (i := 22) rfl)) (hw _ (List.mem_of_getElem? (i := 2) rfl)) (by decide) (by decide)) (g := (mkF m 2 #[.val (.ref a), .val (.int ch)] [(.int (1 : Int32)), (.ref a)])) rfl (by rw [hml]; rfl) (Steps.refl _) (a := a) (by rw [e0]; exact q46) q46' (argsL := [(.int (1 : Int32))]) (rest := []) (lenOf pd_2 rfl) rfl (by show 2 * 0 + _ ≤ _; exact Nat.le_of_eq rfl) (hb hby d3_2) (fun _ _ => ⟨rfl, e0, (by decide : 0 + 1 ≤ _), (by decide : 0 + 8 ≤ _)⟩)
  dsimp only [Pt.U, Pt.locs, Pt.cells, Pt.slots] at X46 l46 y46 z46 st46 hQ46
  subst l46 y46 z46
  obtain ⟨t46, kk46, z46, vs46, rfl, N46q, Kc46, Ec46, FC46, FB46, FL46, Et46, V46, nz46, z846, gt46, or46, ne46, hv46⟩ := hQ46
  have E_47 := E0.keep Kc46
  have E_48 := Et.keep Kc46
  have V_52 := V0.keep Kc46 (ninS (Ne.symm hat) nin0)
  have N46 := Fr.app N0 N46q
  have Z46 : n0 ≤ T46.heap.size := Nat.le_trans Z0 Kc46.1
  have K46 : Keep h0 T46.heap [a, t] := (Keep.refl h0 [a, t]).trans Kc46 (allS (Or.inl (List.mem_of_getElem? (i := 0) rfl)) all0)
  refine Gl.st (g' := (mkF m 5 #[.val (.ref a), .val (.int ch)] [])) (fun τ κ => st46.trans κ) ?_
  refine Gl.st (g' := (mkF m 6 #[.val (.ref a), .val (.int ch)] [(.ref a)])) (fun τ κ => XS.aloadN X46.here hx rfl (hb hby d3_5) rfl rfl κ) ?_
  obtain ⟨T53, X53, e53, st53⟩ := getF X46 hx hZ hown (host := "") (Or.inl (hw _ (List.mem_of_getElem? (i := 12) rfl))) Via.refl rfl FB46 (g := (mkF m 6 #[.val (.ref a), .val (.int ch)] [(.ref a)])) rfl rfl (hb hby d3_6)
  refine Gl.st (g' := (mkF m 9 #[.val (.ref a), .val (.int ch)] [(.ref t46)])) (fun τ κ => st53 _ κ) ?_
  refine Gl.st (g' := (mkF m 10 #[.val (.ref a), .val (.int ch)] [(.ref a), (.ref t46)])) (fun τ κ => XS.aloadN X53.here hx rfl (hb hby d3_9) rfl rfl κ) ?_
  refine Gl.st (g' := (mkF m 11 #[.val (.ref a), .val (.int ch)] [(.ref a), (.ref a), (.ref t46)])) (fun τ κ => XS.dup X53.here hx rfl (hb hby d3_10) rfl rfl κ) ?_
  obtain ⟨T54, X54, e54, st54⟩ := getF X53 hx hZ hown (host := "") (Or.inl (hw _ (List.mem_of_getElem? (i := 23) rfl))) Via.refl e53 FL46 (g := (mkF m 11 #[.val (.ref a), .val (.int ch)] [(.ref a), (.ref a), (.ref t46)])) rfl rfl (hb hby d3_11)
  refine Gl.st (g' := (mkF m 14 #[.val (.ref a), .val (.int ch)] [(.int n), (.ref a), (.ref t46)])) (fun τ κ => st54 _ κ) ?_
  refine Gl.st (g' := (mkF m 15 #[.val (.ref a), .val (.int ch)] [(.int n), (.ref a), (.int n), (.ref t46)])) (fun τ κ => XS.dupX1 X54.here hx rfl (hb hby d3_14) rfl rfl rfl κ) ?_
  refine Gl.st (g' := (mkF m 16 #[.val (.ref a), .val (.int ch)] [(.int (1 : Int32)), (.int n), (.ref a), (.int n), (.ref t46)])) (fun τ κ => XS.iconst X54.here hx rfl (hb hby d3_15) κ) ?_
  refine Gl.st (g' := (mkF m 17 #[.val (.ref a), .val (.int ch)] [(.int (n + (1 : Int32))), (.ref a), (.int n), (.ref t46)])) (fun τ κ => XS.iadd X54.here hx rfl (hb hby d3_16) rfl κ) ?_
  obtain ⟨T55, h55, X55, e55, W55, st55⟩ := putF X54 hx hZ hown (host := "") (Or.inl (hw _ (List.mem_of_getElem? (i := 23) rfl))) Via.refl e54 FL46 Ec46 (Or.inl (hw _ (List.mem_of_getElem? (i := 24) rfl))) (hw _ (List.mem_of_getElem? (i := 1) rfl)) (ty := .int) (by decide) rfl rfl (g := (mkF m 17 #[.val (.ref a), .val (.int ch)] [(.int (n + (1 : Int32))), (.ref a), (.int n), (.ref t46)])) rfl rfl (hb hby d3_17)
  have E_56 := Ec46.wr W55
  have F_57 := FC46.other W55 (Or.inr (slot_ne (Or.inr (hw _ (List.mem_of_getElem? (i := 10) rfl))) (Or.inl (hw _ (List.mem_of_getElem? (i := 24) rfl))) (by decide) (t := .int) (t' := .int) (by decide) (by decide)))
  have F_58 := FB46.other W55 (Or.inr (slot_ne (Or.inl (hw _ (List.mem_of_getElem? (i := 13) rfl))) (Or.inl (hw _ (List.mem_of_getElem? (i := 24) rfl))) (by decide) (t := (.array .byte)) (t' := .int) (by decide) (by decide)))
  have E_60 := Et46.wr W55
  have V_61 := V46.other W55 (Ne.symm ne46)
  have N55 := Fr.snoc X55 N46 g0
  have Z55 : n0 ≤ h55.size := Nat.le_trans Z46 (Nat.le_of_eq W55.size.symm)
  have K55 : Keep h0 h55 [a, t] := K46.wr W55 (Or.inl (List.mem_of_getElem? (i := 0) rfl))
  have F_62 := FL46.same W55
  refine Gl.st (g' := (mkF m 20 #[.val (.ref a), .val (.int ch)] [(.int n), (.ref t46)])) (fun τ κ => st55 _ κ) ?_
  refine Gl.st (g' := (mkF m 21 #[.val (.ref a), .val (.int ch)] [(.int ch), (.int n), (.ref t46)])) (fun τ κ => XS.iloadN X55.here hx rfl (hb hby d3_20) rfl κ) ?_
  refine Gl.st (g' := (mkF m 22 #[.val (.ref a), .val (.int ch)] [(.int (ch.toInt8.toInt32)), (.int n), (.ref t46)])) (fun τ κ => XS.i2b X55.here hx rfl (hb hby d3_21) rfl κ) ?_
  obtain ⟨cl_o63, Ar_o63, q_o63, S_o63, M_o63, H_o63, G_o63⟩ := id V_61
  have hin_o63 : ¬ (n < 0 ∨ cl_o63.slots.size ≤ (n).toNatClampNeg) := inb_of S_o63 ⟨hn, nz46⟩
  obtain ⟨T64, h64, X64, e64, W64, st64⟩ := stB X55 hx hZ e55 Ar_o63 (j := n) hin_o63 (g := (mkF m 22 #[.val (.ref a), .val (.int ch)] [(.int (ch.toInt8.toInt32)), (.int n), (.ref t46)])) rfl rfl (hb hby d3_22)
  obtain ⟨vs64, hvs64⟩ := own_upd vs46 (n).toNatClampNeg (.int (nar .byte (ch.toInt8.toInt32))) (.int (0 : Int32))
  have E_65 := E_56.wr W64
  have F_66 := F_57.other W64 (Or.inl ne46)
  have F_67 := F_58.other W64 (Or.inl ne46)
  have F_68 := F_62.other W64 (Or.inl ne46)
  have E_69 := E_60.wr W64
  have N64 := Fr.snoc X64 N55 gt46
  have Z64 : n0 ≤ h64.size := Nat.le_trans Z55 (Nat.le_of_eq W64.size.symm)
  have K64 : Keep h0 h64 [a, t] := K55.wr W64 (or46.elim (fun q => Or.inl (by simp [q])) Or.inr)
  have V_t46_64 : Arv Z h64 t46 kk46 .byte z46 vs64 (.int (0 : Int32)) := own_set Ar_o63 q_o63 S_o63 M_o63 H_o63 G_o63 (fits_nar_byte _) W64 hvs64
  refine Gl.st (g' := (mkF m 23 #[.val (.ref a), .val (.int ch)] [])) (fun τ κ => st64 _ κ) ?_
  refine Gl.st (g' := (mkF m 24 #[.val (.ref a), .val (.int ch)] [(.ref a)])) (fun τ κ => XS.aloadN X64.here hx rfl (hb hby d3_23) rfl rfl κ) ?_
  exact Gl.ret (v := some (.ref a)) X64 Bd.notSynchronized (fun h => by rw [Bd.returns] at h; cases h) e64 (fun fs hr => (by
      jvm_step X64.here [X64.here.top, hx, (hb hby d3_24), X64.method', Bd.returns, Value.isRef, FieldType.isReference]
      first | (intro acts; rw [hr _ acts rfl rfl rfl]) | rw [hr _ _ rfl rfl rfl]
      exact Steps.refl _)) (by decide) (by decide) ⟨t46, kk46, z46, vs64, rfl, N64, K64, E_65, F_66, F_67, F_68, E_69, V_t46_64, nz46, z846, gt46, or46, ne46, fun i hi => ((hvs64 i).trans (if_neg (Nat.ne_of_lt hi))).trans (hv46 i hi), ((hvs64 _).trans (if_pos rfl)).trans (by rw [own_bb])⟩
theorem own_small {z : Int32} (h : ¬ (8 : Int32) < z) : ¬ (1048576 : Int32) < z := by
  rw [Int32.lt_iff_toInt_lt] at *; rw [own_i8] at h; rw [show (1048576 : Int32).toInt = 1048576 from rfl]; omega
theorem d8_0 : decode prog_6_method_2_code 0 = .ok (.ldc 17, 2) := by decide +kernel
theorem d8_2 : decode prog_6_method_2_code 2 = .ok (.aload_n 0, 1) := by decide +kernel
theorem d8_3 : decode prog_6_method_2_code 3 = .ok (.getfield 13, 3) := by decide +kernel
theorem d8_6 : decode prog_6_method_2_code 6 = .ok (.arraylength, 1) := by decide +kernel
theorem d8_7 : decode prog_6_method_2_code 7 = .ok (.if_icmp .ge 13, 3) := by decide +kernel
theorem d8_20 : decode prog_6_method_2_code 20 = .ok (.aload_n 0, 1) := by decide +kernel
theorem d8_21 : decode prog_6_method_2_code 21 = .ok (.iconst 0, 1) := by decide +kernel
theorem d8_22 : decode prog_6_method_2_code 22 = .ok (.putfield 18, 3) := by decide +kernel
theorem d8_25 : decode prog_6_method_2_code 25 = .ok (.aload_n 0, 1) := by decide +kernel
theorem d8_26 : decode prog_6_method_2_code 26 = .ok (.areturn, 1) := by decide +kernel
theorem ef_rm8 (m : MethodId) (a : Addr) : entryFrame m #[(.ref a)] 1 = mkF m 0 #[.val (.ref a)] [] := by first | (simp [entryFrame, mkF, argsToLocals, Value.category]; done) | rfl
def Q_rm8 (Z : State) (a : Addr) (t : Addr) (kc : ClassId) (c0 n z : Int32) (vs : List Value) (h0 : Heap) (n0 : Nat) (v : Option Value) (h : Heap) (L : List Loc) : Prop := v = some (.ref a) ∧ Fr n0 L ∧ Keep h0 h [a] ∧ Exa Z h a "com/example/hermitage/hermitage/frame/JsonText" ∧ Fld Z h a "com/example/hermitage/hermitage/frame/JsonText" "capacity" "I" (.int c0) ∧ Fld Z h a "com/example/hermitage/hermitage/frame/JsonText" "bytes" "[B" (.ref t) ∧ Fld Z h a "com/example/hermitage/hermitage/frame/JsonText" "length" "I" (.int (0 : Int32))
set_option maxRecDepth 65536 in
set_option maxHeartbeats 40000000 in
theorem rm8 (l : Launch) (Z : State) (a0 : Array Value) (hw : ∀ d ∈ tables_1, d.before a0 Z = true) (ws : List Jvm.Cond) (a : Addr) (t : Addr) (kc : ClassId) (c0 n z : Int32) (vs : List Value) (h0 : Heap) (n0 : Nat) (Z0 : n0 ≤ h0.size) (E0 : Exa Z h0 a "com/example/hermitage/hermitage/frame/JsonText") (g0 : n0 ≤ a) (FC : Fld Z h0 a "com/example/hermitage/hermitage/frame/JsonText" "capacity" "I" (.int c0)) (FB : Fld Z h0 a "com/example/hermitage/hermitage/frame/JsonText" "bytes" "[B" (.ref t)) (FL : Fld Z h0 a "com/example/hermitage/hermitage/frame/JsonText" "length" "I" (.int n)) (Et : Exa Z h0 t "[B") (gt : n0 ≤ t) (V0 : Arv Z h0 t kc .byte z vs (.int (0 : Int32))) (hat : a ≠ t) (hn : ¬ n < 0) (hz : ¬ z < n) (hz8 : ¬ (8 : Int32) < z) :
    MetFree l (⟨"com/example/hermitage/hermitage/frame/JsonText", "clear", "()Lcom/example/hermitage/hermitage/frame/JsonText;"⟩ : MethodName) (head1 (Jvm.Cond.code (⟨"com/example/hermitage/hermitage/frame/JsonText", "clear", "()Lcom/example/hermitage/hermitage/frame/JsonText;"⟩ : MethodName) prog_6_method_2_code 1 (some (.object "com/example/hermitage/hermitage/frame/JsonText")) :: ws) ({ frames := 0, cells := 0, slots := 0, locals := 0 } : Room)) (fun aα Uα => aα = #[(.ref a)] ∧ Z.Warmed39 Uα.vm ∧ Uα.heap = h0) (fun _ _ _ _ _ => True) (fun _ Uα oα Uβ => ∃ vα Lα, oα = .returned vα ∧ Q_rm8 Z a t kc c0 n z vs h0 n0 vα Uβ.heap Lα ∧ FrameEnd Uα oα Uβ Lα ({ frames := 0, cells := 0, slots := 0, locals := 0 } : Room).cells ({ frames := 0, cells := 0, slots := 0, locals := 0 } : Room).slots) := by
  refine MetFree.of_bodySF (plainFor_of_name pn_com_example_hermitage_hermitage_frame_JsonText) hisR ?_
  intro p e s m args below meth c s₁ Bd hml0 hP hKα
  obtain ⟨rfl, hZ, hh⟩ := hP
  have hx := Bd.exec
  have hby := Bd.bytes
  have hml : c.maxLocals = 1 := hml0
  have hown : s.vm.findClass "com/example/hermitage/hermitage/frame/JsonText" = some m.cls := findClass_of_methodNamed Bd.named
  have hnm := (name_of_methodNamed Bd.named Bd.method).1
  have X0 : Stand p l e ({ frames := 0, cells := 0, slots := 0, locals := 0 } : Room) s m #[(.ref a)] below meth c s₁ [] 0 0 := Stand.of_body Bd
  have e0 : s₁.heap = h0 := by rw [← hh, Bd.state]; rfl
  have N0 := Fr.nil n0
  suffices k0 : Gl p e below s (Q_rm8 Z a t kc c0 n z vs h0 n0) ({ frames := 0, cells := 0, slots := 0, locals := 0 } : Room).cells ({ frames := 0, cells := 0, slots := 0, locals := 0 } : Room).slots s₁ (mkF m 0 #[.val (.ref a)] []) from Gl.st (fun τ κ => castTop (ef_rm8 m a) κ) k0
  refine Gl.st (g' := (mkF m 2 #[.val (.ref a)] [(.int (1048576 : Int32))])) (fun τ κ => X0.ldcInt hx hown (mvT hZ (hw _ (List.mem_of_getElem? (i := 45) rfl))) (g := (mkF m 0 #[.val (.ref a)] [])) rfl (hb hby d8_0) _ κ) ?_
  refine Gl.st (g' := (mkF m 3 #[.val (.ref a)] [(.ref a), (.int (1048576 : Int32))])) (fun τ κ => XS.aloadN X0.here hx rfl (hb hby d8_2) rfl rfl κ) ?_
  obtain ⟨T71, X71, e71, st71⟩ := getF X0 hx hZ hown (host := "") (Or.inl (hw _ (List.mem_of_getElem? (i := 12) rfl))) Via.refl e0 FB (g := (mkF m 3 #[.val (.ref a)] [(.ref a), (.int (1048576 : Int32))])) rfl rfl (hb hby d8_3)
  refine Gl.st (g' := (mkF m 6 #[.val (.ref a)] [(.ref t), (.int (1048576 : Int32))])) (fun τ κ => st71 _ κ) ?_
  obtain ⟨cl_o72, Ar_o72, q_o72, S_o72, M_o72, H_o72, G_o72⟩ := id V0
  refine Gl.st (g' := (mkF m 7 #[.val (.ref a)] [(.int z), (.int (1048576 : Int32))])) (fun τ κ => X71.arraylength hx (by rw [e71]; exact Ar_o72.1) (State.isArrayOf_alike hZ.alike Ar_o72.2.1) (g := (mkF m 6 #[.val (.ref a)] [(.ref t), (.int (1048576 : Int32))])) rfl rfl (hb hby d8_6) _ (by rw [len_of S_o72 M_o72]; exact κ)) ?_
  have hc73 : ¬ ((1048576 : Int32) < z) := own_small hz8
  refine Gl.st (g' := (mkF m 20 #[.val (.ref a)] [])) (fun τ κ => XS.icmpYes X71.here hx rfl (pc0 := 7) (pc' := 20) rfl (hb hby d8_7) rfl (flt hc73).2.1 (by decide) (by decide) κ) ?_
  refine Gl.st (g' := (mkF m 21 #[.val (.ref a)] [(.ref a)])) (fun τ κ => XS.aloadN X71.here hx rfl (hb hby d8_20) rfl rfl κ) ?_
  refine Gl.st (g' := (mkF m 22 #[.val (.ref a)] [(.int (0 : Int32)), (.ref a)])) (fun τ κ => XS.iconst X71.here hx rfl (hb hby d8_21) κ) ?_
  obtain ⟨T74, h74, X74, e74, W74, st74⟩ := putF X71 hx hZ hown (host := "") (Or.inl (hw _ (List.mem_of_getElem? (i := 23) rfl))) Via.refl e71 FL E0 (Or.inl (hw _ (List.mem_of_getElem? (i := 24) rfl))) (hw _ (List.mem_of_getElem? (i := 1) rfl)) (ty := .int) (by decide) rfl rfl (g := (mkF m 22 #[.val (.ref a)] [(.int (0 : Int32)), (.ref a)])) rfl rfl (hb hby d8_22)
  have E_75 := E0.wr W74
  have E_76 := Et.wr W74
  have F_77 := FC.other W74 (Or.inr (slot_ne (Or.inr (hw _ (List.mem_of_getElem? (i := 10) rfl))) (Or.inl (hw _ (List.mem_of_getElem? (i := 24) rfl))) (by decide) (t := .int) (t' := .int) (by decide) (by decide)))
  have F_78 := FB.other W74 (Or.inr (slot_ne (Or.inl (hw _ (List.mem_of_getElem? (i := 13) rfl))) (Or.inl (hw _ (List.mem_of_getElem? (i := 24) rfl))) (by decide) (t := (.array .byte)) (t' := .int) (by decide) (by decide)))
  have V_80 := V0.other W74 (Ne.symm hat)
  have N74 := Fr.snoc X74 N0 g0
  have Z74 : n0 ≤ h74.size := Nat.le_trans Z0 (Nat.le_of_eq W74.size.symm)
  have K74 : Keep h0 h74 [a] := (Keep.refl h0 [a]).wr W74 (Or.inl (List.mem_of_getElem? (i := 0) rfl))
  have F_81 := FL.same W74
  refine Gl.st (g' := (mkF m 25 #[.val (.ref a)] [])) (fun τ κ => st74 _ κ) ?_
  refine Gl.st (g' := (mkF m 26 #[.val (.ref a)] [(.ref a)])) (fun τ κ => XS.aloadN X74.here hx rfl (hb hby d8_25) rfl rfl κ) ?_
  exact Gl.ret (v := some (.ref a)) X74 Bd.notSynchronized (fun h => by rw [Bd.returns] at h; cases h) e74 (fun fs hr => (by
      jvm_step X74.here [X74.here.top, hx, (hb hby d8_26), X74.method', Bd.returns, Value.isRef, FieldType.isReference]
      first | (intro acts; rw [hr _ acts rfl rfl rfl]) | rw [hr _ _ rfl rfl rfl]
      exact Steps.refl _)) (by decide) (by decide) ⟨rfl, N74, K74, E_75, F_77, F_78, F_81⟩
theorem own_tb {n : Int32} (hn : ¬ n < 0) (h : ¬ (3 : Int32) < n) : n.toNatClampNeg ≤ 8 := by
  have := own_nat hn; rw [Int32.lt_iff_toInt_lt, own_i3] at h; omega
theorem own_nz' {n z : Int32} (hn : ¬ n < 0) (hz : ¬ z < n) : n.toNatClampNeg ≤ z.toNatClampNeg := by
  have := own_nat hn; have := own_nat (own_zn hn hz); rw [Int32.lt_iff_toInt_lt] at hz; omega
theorem d9_0 : decode prog_6_method_8_code 0 = .ok (.aload_n 0, 1) := by decide +kernel
theorem d9_1 : decode prog_6_method_8_code 1 = .ok (.getfield 13, 3) := by decide +kernel
theorem d9_4 : decode prog_6_method_8_code 4 = .ok (.aload_n 0, 1) := by decide +kernel
theorem d9_5 : decode prog_6_method_8_code 5 = .ok (.getfield 18, 3) := by decide +kernel
theorem d9_8 : decode prog_6_method_8_code 8 = .ok (.invokestatic 106, 3) := by decide +kernel
theorem d9_11 : decode prog_6_method_8_code 11 = .ok (.areturn, 1) := by decide +kernel
theorem ef_rm9 (m : MethodId) (a : Addr) : entryFrame m #[(.ref a)] 1 = mkF m 0 #[.val (.ref a)] [] := by first | (simp [entryFrame, mkF, argsToLocals, Value.category]; done) | rfl
def Q_rm9 (Z : State) (a : Addr) (t : Addr) (kc : ClassId) (c0 n z : Int32) (vs : List Value) (h0 : Heap) (n0 : Nat) (v : Option Value) (h : Heap) (L : List Loc) : Prop := ∃ b k vs', v = some (.ref b) ∧ Fr n0 L ∧ Keep h0 h [] ∧ h0.size ≤ b ∧ Exa Z h b "[B" ∧ Arv Z h b k .byte n vs' (.int (0 : Int32)) ∧ ∀ i, i < n.toNatClampNeg → vs'.getD i (.int (0 : Int32)) = vs.getD i (.int (0 : Int32))
set_option maxRecDepth 65536 in
set_option maxHeartbeats 40000000 in
theorem rm9 (l : Launch) (Z : State) (a0 : Array Value) (hw : ∀ d ∈ tables_1, d.before a0 Z = true) (ws : List Jvm.Cond) (a : Addr) (t : Addr) (kc : ClassId) (c0 n z : Int32) (vs : List Value) (h0 : Heap) (n0 : Nat) (Z0 : n0 ≤ h0.size) (E0 : Exa Z h0 a "com/example/hermitage/hermitage/frame/JsonText") (g0 : n0 ≤ a) (FC : Fld Z h0 a "com/example/hermitage/hermitage/frame/JsonText" "capacity" "I" (.int c0)) (FB : Fld Z h0 a "com/example/hermitage/hermitage/frame/JsonText" "bytes" "[B" (.ref t)) (FL : Fld Z h0 a "com/example/hermitage/hermitage/frame/JsonText" "length" "I" (.int n)) (Et : Exa Z h0 t "[B") (gt : n0 ≤ t) (V0 : Arv Z h0 t kc .byte z vs (.int (0 : Int32))) (hat : a ≠ t) (hn : ¬ n < 0) (hz : ¬ z < n) (hz8 : ¬ (8 : Int32) < z) (hn3 : ¬ (3 : Int32) < n) :
    MetFree l (⟨"com/example/hermitage/hermitage/frame/JsonText", "toBytes", "()[B"⟩ : MethodName) (head1 (Jvm.Cond.code (⟨"com/example/hermitage/hermitage/frame/JsonText", "toBytes", "()[B"⟩ : MethodName) prog_6_method_8_code 1 (some (.array .byte)) :: ws) ({ frames := 2, cells := 1, slots := 8, locals := 32 } : Room)) (fun aα Uα => aα = #[(.ref a)] ∧ Z.Warmed39 Uα.vm ∧ Uα.heap = h0) (fun _ _ _ _ _ => True) (fun _ Uα oα Uβ => ∃ vα Lα, oα = .returned vα ∧ Q_rm9 Z a t kc c0 n z vs h0 n0 vα Uβ.heap Lα ∧ FrameEnd Uα oα Uβ Lα ({ frames := 2, cells := 1, slots := 8, locals := 32 } : Room).cells ({ frames := 2, cells := 1, slots := 8, locals := 32 } : Room).slots) := by
  refine MetFree.of_bodySF (plainFor_of_name pn_com_example_hermitage_hermitage_frame_JsonText) hisR ?_
  intro p e s m args below meth c s₁ Bd hml0 hP hKα
  obtain ⟨rfl, hZ, hh⟩ := hP
  have hx := Bd.exec
  have hby := Bd.bytes
  have hml : c.maxLocals = 1 := hml0
  have hown : s.vm.findClass "com/example/hermitage/hermitage/frame/JsonText" = some m.cls := findClass_of_methodNamed Bd.named
  have hnm := (name_of_methodNamed Bd.named Bd.method).1
  have X0 : Stand p l e ({ frames := 2, cells := 1, slots := 8, locals := 32 } : Room) s m #[(.ref a)] below meth c s₁ [] 0 0 := Stand.of_body Bd
  have e0 : s₁.heap = h0 := by rw [← hh, Bd.state]; rfl
  have N0 := Fr.nil n0
  suffices k0 : Gl p e below s (Q_rm9 Z a t kc c0 n z vs h0 n0) ({ frames := 2, cells := 1, slots := 8, locals := 32 } : Room).cells ({ frames := 2, cells := 1, slots := 8, locals := 32 } : Room).slots s₁ (mkF m 0 #[.val (.ref a)] []) from Gl.st (fun τ κ => castTop (ef_rm9 m a) κ) k0
  refine Gl.st (g' := (mkF m 1 #[.val (.ref a)] [(.ref a)])) (fun τ κ => XS.aloadN X0.here hx rfl (hb hby d9_0) rfl rfl κ) ?_
  obtain ⟨T82, X82, e82, st82⟩ := getF X0 hx hZ hown (host := "") (Or.inl (hw _ (List.mem_of_getElem? (i := 12) rfl))) Via.refl e0 FB (g := (mkF m 1 #[.val (.ref a)] [(.ref a)])) rfl rfl (hb hby d9_1)
  refine Gl.st (g' := (mkF m 4 #[.val (.ref a)] [(.ref t)])) (fun τ κ => st82 _ κ) ?_
  refine Gl.st (g' := (mkF m 5 #[.val (.ref a)] [(.ref a), (.ref t)])) (fun τ κ => XS.aloadN X82.here hx rfl (hb hby d9_4) rfl rfl κ) ?_
  obtain ⟨T83, X83, e83, st83⟩ := getF X82 hx hZ hown (host := "") (Or.inl (hw _ (List.mem_of_getElem? (i := 23) rfl))) Via.refl e82 FL (g := (mkF m 5 #[.val (.ref a)] [(.ref a), (.ref t)])) rfl rfl (hb hby d9_5)
  refine Gl.st (g' := (mkF m 8 #[.val (.ref a)] [(.int n), (.ref t)])) (fun τ κ => st83 _ κ) ?_
  obtain ⟨rv84, _, ⟨T84, L84, k84, n84⟩, -, X84, ⟨Lc84, hQ84, l84, y84, z84⟩, st84⟩ := Jvm.LawKit.callS X83 hx (y := (⟨"java/util/Arrays", "copyOf", "([BI)[B"⟩ : MethodName)) hown (mvT hZ (hw _ (List.mem_of_getElem? (i := 29) rfl))) (mvT hZ (hw _ (List.mem_of_getElem? (i := 30) rfl))) (mvT hZ (hw _ (List.mem_of_getElem? (i := 31) rfl))) (mvT hZ (hw _ (List.mem_of_getElem? (i := 32) rfl))) (by decide) (backOf (W := 0) (rm6 l Z a0 hw [] t n kc z vs h0 n0 Z0 V0 Et (own_zn hn hz) hn (own_tb hn hn3)) hZ (hw _ (List.mem_of_getElem? (i := 32) rfl)) (hw _ (List.mem_of_getElem? (i := 31) rfl)) (by decide) (by decide)) (g := (mkF m 8 #[.val (.ref a)] [(.int n), (.ref t)])) rfl (by rw [hml]; rfl) (argsL := [(.ref t), (.int n)]) (rest := []) (lenOf pd_1 rfl) rfl (by show 2 * 0 + _ ≤ _; exact Nat.le_of_eq rfl) (hb hby d9_8) (fun _ _ => ⟨rfl, e83, (by decide : 0 + 1 ≤ _), (by decide : 0 + 8 ≤ _)⟩)
  dsimp only [Pt.U, Pt.locs, Pt.cells, Pt.slots] at X84 l84 y84 z84 st84 hQ84
  subst l84 y84 z84
  obtain ⟨b84, kk84, vs84, rfl, N84q, Kc84, s84, Ex84, V84, hv84⟩ := hQ84
  have ne_a_b84 : a ≠ b84 := Nat.ne_of_lt (Nat.lt_of_lt_of_le E0.lt s84)
  have ne_t_b84 : t ≠ b84 := Nat.ne_of_lt (Nat.lt_of_lt_of_le Et.lt s84)
  have g_b84 : n0 ≤ b84 := Nat.le_trans Z0 s84
  have sz_b84 : h0.size ≤ b84 := Nat.le_trans (Keep.refl h0 []).1 s84
  have E_85 := E0.keep Kc84
  have E_86 := Et.keep Kc84
  have F_87 := FC.keep Kc84 nin0
  have F_88 := FB.keep Kc84 nin0
  have F_89 := FL.keep Kc84 nin0
  have V_90 := V0.keep Kc84 nin0
  have N84 := Fr.app N0 N84q
  have Z84 : n0 ≤ T84.heap.size := Nat.le_trans Z0 Kc84.1
  have K84 : Keep h0 T84.heap [] := (Keep.refl h0 []).trans Kc84 all0
  refine Gl.st (g' := (mkF m 11 #[.val (.ref a)] [(.ref b84)])) (fun τ κ => st84 _ κ) ?_
  exact Gl.ret (v := some (.ref b84)) X84 Bd.notSynchronized (fun h => by rw [Bd.returns] at h; cases h) rfl (fun fs hr => (by
      jvm_step X84.here [X84.here.top, hx, (hb hby d9_11), X84.method', Bd.returns, Value.isRef, FieldType.isReference]
      first | (intro acts; rw [hr _ acts rfl rfl rfl]) | rw [hr _ _ rfl rfl rfl]
      exact Steps.refl _)) (by decide) (by decide) ⟨b84, kk84, vs84, rfl, N84, K84, sz_b84, Ex84, V84, fun i hi => hv84 i (Nat.lt_of_lt_of_le hi (own_nz' hn hz)) hi⟩
theorem d1_0 : decode prog_6_method_1_code 0 = .ok (.aload_n 0, 1) := by decide +kernel
theorem d1_1 : decode prog_6_method_1_code 1 = .ok (.invokespecial 1, 3) := by decide +kernel
theorem d1_4 : decode prog_6_method_1_code 4 = .ok (.aload_n 0, 1) := by decide +kernel
theorem d1_5 : decode prog_6_method_1_code 5 = .ok (.iload_n 1, 1) := by decide +kernel
theorem d1_6 : decode prog_6_method_1_code 6 = .ok (.putfield 7, 3) := by decide +kernel
theorem d1_9 : decode prog_6_method_1_code 9 = .ok (.aload_n 0, 1) := by decide +kernel
theorem d1_10 : decode prog_6_method_1_code 10 = .ok (.iload_n 1, 1) := by decide +kernel
theorem d1_11 : decode prog_6_method_1_code 11 = .ok (.newarray .byte, 2) := by decide +kernel
theorem d1_13 : decode prog_6_method_1_code 13 = .ok (.putfield 13, 3) := by decide +kernel
theorem d1_16 : decode prog_6_method_1_code 16 = .ok (.return_, 1) := by decide +kernel
theorem ef_rm1 (m : MethodId) (a : Addr) (pp : Int32) : entryFrame m #[(.ref a), (.int pp)] 2 = mkF m 0 #[.val (.ref a), .val (.int pp)] [] := by first | (simp [entryFrame, mkF, argsToLocals, Value.category]; done) | rfl
def Q_rm1 (Z : State) (a : Addr) (pp : Int32)  (h0 : Heap) (n0 : Nat) (v : Option Value) (h : Heap) (L : List Loc) : Prop := ∃ t k, v = none ∧ Fr n0 L ∧ Keep h0 h [a] ∧ Exa Z h a "com/example/hermitage/hermitage/frame/JsonText" ∧ Fld Z h a "com/example/hermitage/hermitage/frame/JsonText" "capacity" "I" (.int pp) ∧ Fld Z h a "com/example/hermitage/hermitage/frame/JsonText" "bytes" "[B" (.ref t) ∧ Fld Z h a "com/example/hermitage/hermitage/frame/JsonText" "length" "I" (.int (0 : Int32)) ∧ Exa Z h t "[B" ∧ Arv Z h t k .byte pp [] (.int (0 : Int32)) ∧ h0.size ≤ t
set_option maxRecDepth 65536 in
set_option maxHeartbeats 40000000 in
theorem rm1 (l : Launch) (Z : State) (a0 : Array Value) (hw : ∀ d ∈ tables_1, d.before a0 Z = true) (ws : List Jvm.Cond) (a : Addr) (pp : Int32)  (h0 : Heap) (n0 : Nat) (Z0 : n0 ≤ h0.size) (E0 : Exa Z h0 a "com/example/hermitage/hermitage/frame/JsonText") (g0 : n0 ≤ a) (FC : Fld Z h0 a "com/example/hermitage/hermitage/frame/JsonText" "capacity" "I" (.int (0 : Int32))) (FB : Fld Z h0 a "com/example/hermitage/hermitage/frame/JsonText" "bytes" "[B" .null) (FL : Fld Z h0 a "com/example/hermitage/hermitage/frame/JsonText" "length" "I" (.int (0 : Int32))) (hp : ¬ pp < 0) (hp7 : pp.toNatClampNeg ≤ 7) :
    MetFree l (⟨"com/example/hermitage/hermitage/frame/JsonText", "<init>", "(I)V"⟩ : MethodName) (head1 (Jvm.Cond.code (⟨"com/example/hermitage/hermitage/frame/JsonText", "<init>", "(I)V"⟩ : MethodName) prog_6_method_1_code 2 none :: ws) ({ frames := 1, cells := 1, slots := 7, locals := 12 } : Room)) (fun aα Uα => aα = #[(.ref a), (.int pp)] ∧ Z.Warmed39 Uα.vm ∧ Uα.heap = h0) (fun _ _ _ _ _ => True) (fun _ Uα oα Uβ => ∃ vα Lα, oα = .returned vα ∧ Q_rm1 Z a pp  h0 n0 vα Uβ.heap Lα ∧ FrameEnd Uα oα Uβ Lα ({ frames := 1, cells := 1, slots := 7, locals := 12 } : Room).cells ({ frames := 1, cells := 1, slots := 7, locals := 12 } : Room).slots) := by
  refine MetFree.of_bodySF (plainFor_of_name pn_com_example_hermitage_hermitage_frame_JsonText) hisR ?_
  intro p e s m args below meth c s₁ Bd hml0 hP hKα
  obtain ⟨rfl, hZ, hh⟩ := hP
  have hx := Bd.exec
  have hby := Bd.bytes
  have hml : c.maxLocals = 2 := hml0
  have hown : s.vm.findClass "com/example/hermitage/hermitage/frame/JsonText" = some m.cls := findClass_of_methodNamed Bd.named
  have hnm := (name_of_methodNamed Bd.named Bd.method).1
  have X0 : Stand p l e ({ frames := 1, cells := 1, slots := 7, locals := 12 } : Room) s m #[(.ref a), (.int pp)] below meth c s₁ [] 0 0 := Stand.of_body Bd
  have e0 : s₁.heap = h0 := by rw [← hh, Bd.state]; rfl
  have N0 := Fr.nil n0
  suffices k0 : Gl p e below s (Q_rm1 Z a pp  h0 n0) ({ frames := 1, cells := 1, slots := 7, locals := 12 } : Room).cells ({ frames := 1, cells := 1, slots := 7, locals := 12 } : Room).slots s₁ (mkF m 0 #[.val (.ref a), .val (.int pp)] []) from Gl.st (fun τ κ => castTop (ef_rm1 m a pp) κ) k0
  refine Gl.st (g' := (mkF m 1 #[.val (.ref a), .val (.int pp)] [(.ref a)])) (fun τ κ => XS.aloadN X0.here hx rfl (hb hby d1_0) rfl rfl κ) ?_
  obtain ⟨T91, X91, e91, st91⟩ := initO X0 hx hZ hown (hw _ (List.mem_of_getElem? (i := 6) rfl)) (hw _ (List.mem_of_getElem? (i := 7) rfl)) (hw _ (List.mem_of_getElem? (i := 8) rfl)) e0 (g := (mkF m 1 #[.val (.ref a), .val (.int pp)] [(.ref a)])) rfl (by rw [hml]; rfl) rfl (hb hby d1_1) (by decide) (W := 0) (by show 2 * 0 + _ ≤ _; exact Nat.le_of_eq rfl) (by decide)
  refine Gl.st (g' := (mkF m 4 #[.val (.ref a), .val (.int pp)] [])) (fun τ κ => st91 _ κ) ?_
  refine Gl.st (g' := (mkF m 5 #[.val (.ref a), .val (.int pp)] [(.ref a)])) (fun τ κ => XS.aloadN X91.here hx rfl (hb hby d1_4) rfl rfl κ) ?_
  refine Gl.st (g' := (mkF m 6 #[.val (.ref a), .val (.int pp)] [(.int pp), (.ref a)])) (fun τ κ => XS.iloadN X91.here hx rfl (hb hby d1_5) rfl κ) ?_
  obtain ⟨T92, h92, X92, e92, W92, st92⟩ := putF X91 hx hZ hown (host := "") (Or.inl (hw _ (List.mem_of_getElem? (i := 9) rfl))) Via.refl e91 FC E0 (Or.inr ⟨(hw _ (List.mem_of_getElem? (i := 10) rfl)), rfl, hnm⟩) (hw _ (List.mem_of_getElem? (i := 1) rfl)) (ty := .int) (by decide) rfl rfl (g := (mkF m 6 #[.val (.ref a), .val (.int pp)] [(.int pp), (.ref a)])) rfl rfl (hb hby d1_6)
  have E_93 := E0.wr W92
  have F_95 := FB.other W92 (Or.inr (slot_ne (Or.inl (hw _ (List.mem_of_getElem? (i := 13) rfl))) (Or.inr (hw _ (List.mem_of_getElem? (i := 10) rfl))) (by decide) (t := (.array .byte)) (t' := .int) (by decide) (by decide)))
  have F_96 := FL.other W92 (Or.inr (slot_ne (Or.inl (hw _ (List.mem_of_getElem? (i := 24) rfl))) (Or.inr (hw _ (List.mem_of_getElem? (i := 10) rfl))) (by decide) (t := .int) (t' := .int) (by decide) (by decide)))
  have N92 := Fr.snoc X92 N0 g0
  have Z92 : n0 ≤ h92.size := Nat.le_trans Z0 (Nat.le_of_eq W92.size.symm)
  have K92 : Keep h0 h92 [a] := (Keep.refl h0 [a]).wr W92 (Or.inl (List.mem_of_getElem? (i := 0) rfl))
  have F_97 := FC.same W92
  refine Gl.st (g' := (mkF m 9 #[.val (.ref a), .val (.int pp)] [])) (fun τ κ => st92 _ κ) ?_
  refine Gl.st (g' := (mkF m 10 #[.val (.ref a), .val (.int pp)] [(.ref a)])) (fun τ κ => XS.aloadN X92.here hx rfl (hb hby d1_9) rfl rfl κ) ?_
  refine Gl.st (g' := (mkF m 11 #[.val (.ref a), .val (.int pp)] [(.int pp), (.ref a)])) (fun τ κ => XS.iloadN X92.here hx rfl (hb hby d1_10) rfl κ) ?_
  obtain ⟨T98, h98, k98, X98, e98, E98, A98, AE98, st98⟩ := newPE X92 hx hZ (hw _ (List.mem_of_getElem? (i := 11) rfl)) e92 (g := (mkF m 11 #[.val (.ref a), .val (.int pp)] [(.int pp), (.ref a)])) rfl (hb hby d1_11) rfl hp (cap := 7) hp7 (by decide) (by decide) (by decide) (ad := "[B") (by decide)
  obtain ⟨b98, g98⟩ : ∃ z, z = h92.size := ⟨_, rfl⟩
  rw [← g98] at A98 AE98 st98
  have ne_a_b98 : a ≠ b98 := Nat.ne_of_lt (Nat.lt_of_lt_of_le E_93.lt (Nat.le_of_eq g98.symm))
  have E_99 := E_93.ext E98
  have F_100 := F_97.ext E98
  have F_101 := F_95.ext E98
  have F_102 := F_96.ext E98
  have g_b98 : n0 ≤ b98 := Nat.le_trans Z92 (Nat.le_of_eq g98.symm)
  have sz_b98 : h0.size ≤ b98 := Nat.le_trans K92.1 (Nat.le_of_eq g98.symm)
  have Z98 : n0 ≤ h98.size := Nat.le_trans Z92 E98.1
  have K98 : Keep h0 h98 [a] := K92.ext E98
  have V_b98 : Arv Z h98 b98 k98 .byte pp [] (.int (0 : Int32)) := Arv.new A98 hp
  refine Gl.st (g' := (mkF m 13 #[.val (.ref a), .val (.int pp)] [(.ref b98), (.ref a)])) (fun τ κ => st98 _ κ) ?_
  obtain ⟨T103, h103, X103, e103, W103, st103⟩ := putF X98 hx hZ hown (host := "") (Or.inl (hw _ (List.mem_of_getElem? (i := 12) rfl))) Via.refl e98 F_101 E_99 (Or.inl (hw _ (List.mem_of_getElem? (i := 13) rfl))) (hw _ (List.mem_of_getElem? (i := 1) rfl)) (ty := (.array .byte)) (by decide) rfl rfl (g := (mkF m 13 #[.val (.ref a), .val (.int pp)] [(.ref b98), (.ref a)])) rfl rfl (hb hby d1_13)
  have E_104 := E_99.wr W103
  have F_105 := F_100.other W103 (Or.inr (slot_ne (Or.inr (hw _ (List.mem_of_getElem? (i := 10) rfl))) (Or.inl (hw _ (List.mem_of_getElem? (i := 13) rfl))) (by decide) (t := .int) (t' := (.array .byte)) (by decide) (by decide)))
  have F_107 := F_102.other W103 (Or.inr (slot_ne (Or.inl (hw _ (List.mem_of_getElem? (i := 24) rfl))) (Or.inl (hw _ (List.mem_of_getElem? (i := 13) rfl))) (by decide) (t := .int) (t' := (.array .byte)) (by decide) (by decide)))
  have E_108 := AE98.wr W103
  have V_109 := V_b98.other W103 (Ne.symm ne_a_b98)
  have N103 := Fr.snoc X103 N92 g0
  have Z103 : n0 ≤ h103.size := Nat.le_trans Z98 (Nat.le_of_eq W103.size.symm)
  have K103 : Keep h0 h103 [a] := K98.wr W103 (Or.inl (List.mem_of_getElem? (i := 0) rfl))
  have F_110 := F_101.same W103
  refine Gl.st (g' := (mkF m 16 #[.val (.ref a), .val (.int pp)] [])) (fun τ κ => st103 _ κ) ?_
  exact Gl.ret (v := none) X103 Bd.notSynchronized (fun _ => rfl) e103 (fun fs hr => X103.returnOut hx Bd.returns (hb hby d1_16) hr) (by decide) (by decide) ⟨b98, k98, rfl, N103, K103, E_104, F_105, F_110, F_107, E_108, V_109, sz_b98⟩
theorem own_p7 (x : Int32) : ¬ (x &&& (7 : Int32)) < 0 ∧ (x &&& (7 : Int32)).toNatClampNeg ≤ 7 ∧ ¬ (8 : Int32) < (x &&& (7 : Int32)) := by
  have h := c_mask x 7 3 (by decide) (by decide)
  have p : ¬ (x &&& (7 : Int32)) < 0 := by rw [Int32.lt_iff_toInt_lt, own_i0, h]; omega
  have q := own_nat p
  refine ⟨p, by omega, ?_⟩
  rw [Int32.lt_iff_toInt_lt, own_i8, h]; omega
theorem pd_3 : parseMethodDescriptor "()Lcom/example/hermitage/hermitage/frame/JsonText;" = some ⟨[], some (.object "com/example/hermitage/hermitage/frame/JsonText")⟩ := by decide +kernel
theorem pd_4 : parseMethodDescriptor "()[B" = some ⟨[], some (.array .byte)⟩ := by decide +kernel
theorem pd_5 : parseMethodDescriptor "(C)Lcom/example/hermitage/hermitage/frame/JsonText;" = some ⟨[.char], some (.object "com/example/hermitage/hermitage/frame/JsonText")⟩ := by decide +kernel
theorem pn_com_example_hermitage_hermitage_frame_JsonTextClearPinLaw : plainName "com/example/hermitage/hermitage/frame/JsonTextClearPinLaw" = true := by first | (simp [plainName, overriddenIn]; done) | decide +kernel
theorem ef_rm0 (m : MethodId) (x0 : Int32) (x1 : Int32) (x2 : Int32) (x3 : Int32) : entryFrame m #[(.int x0), (.int x1), (.int x2), (.int x3)] maxLocals = mkF m 0 #[.val (.int x0), .val (.int x1), .val (.int x2), .val (.int x3), .unset, .unset, .unset, .unset, .unset, .unset] [] := by first | (simp [entryFrame, mkF, argsToLocals, Value.category, maxLocals]; done) | rfl
def Q_rm0 (Z : State) (x0 : Int32) (x1 : Int32) (x2 : Int32) (x3 : Int32)  (h0 : Heap) (n0 : Nat) (v : Option Value) (h : Heap) (L : List Loc) : Prop := v = some (.int 1) ∧ Fr n0 L
set_option maxRecDepth 65536 in
set_option maxHeartbeats 40000000 in
theorem rm0 (l : Launch) (Z : State) (a0 : Array Value) (hw : ∀ d ∈ tables_1, d.before a0 Z = true) (ws : List Jvm.Cond) (x0 : Int32) (x1 : Int32) (x2 : Int32) (x3 : Int32)  (h0 : Heap) (n0 : Nat) (Z0 : n0 ≤ h0.size)  :
    MetFree l x (head1 (Jvm.Cond.code x code maxLocals ret :: ws) room_1) (fun aα Uα => aα = #[(.int x0), (.int x1), (.int x2), (.int x3)] ∧ Z.Warmed39 Uα.vm ∧ Uα.heap = h0) (fun _ _ _ _ _ => True) (fun _ Uα oα Uβ => ∃ vα Lα, oα = .returned vα ∧ Q_rm0 Z x0 x1 x2 x3  h0 n0 vα Uβ.heap Lα ∧ FrameEnd Uα oα Uβ Lα 24 128) := by
  refine MetFree.of_bodySF (plainFor_of_name pn_com_example_hermitage_hermitage_frame_JsonTextClearPinLaw) hisR ?_
  intro p e s m args below meth c s₁ Bd hml0 hP hKα
  obtain ⟨rfl, hZ, hh⟩ := hP
  have hx := Bd.exec
  have hby := Bd.bytes
  have hml : c.maxLocals = 10 := hml0
  have hown : s.vm.findClass "com/example/hermitage/hermitage/frame/JsonTextClearPinLaw" = some m.cls := findClass_of_methodNamed Bd.named
  have hnm := (name_of_methodNamed Bd.named Bd.method).1
  have X0 : Stand p l e room_1 s m #[(.int x0), (.int x1), (.int x2), (.int x3)] below meth c s₁ [] 0 0 := Stand.of_body Bd
  have e0 : s₁.heap = h0 := by rw [← hh, Bd.state]; rfl
  have N0 := Fr.nil n0
  suffices k0 : Gl p e below s (Q_rm0 Z x0 x1 x2 x3  h0 n0) 24 128 s₁ (mkF m 0 #[.val (.int x0), .val (.int x1), .val (.int x2), .val (.int x3), .unset, .unset, .unset, .unset, .unset, .unset] []) from Gl.st (fun τ κ => castTop (ef_rm0 m x0 x1 x2 x3) κ) k0
  obtain ⟨T111, h111, X111, e111, E111, A111, D111, -, st111⟩ := newO X0 hx hZ hown (hw _ (List.mem_of_getElem? (i := 0) rfl)) (hw _ (List.mem_of_getElem? (i := 1) rfl)) (hw _ (List.mem_of_getElem? (i := 2) rfl)) e0 (g := (mkF m 0 #[.val (.int x0), .val (.int x1), .val (.int x2), .val (.int x3), .unset, .unset, .unset, .unset, .unset, .unset] [])) rfl (hb hby at_0) (by decide) (by decide)
  obtain ⟨b111, g111⟩ : ∃ z, z = h0.size := ⟨_, rfl⟩
  rw [← g111] at A111 D111 st111
  have g_b111 : n0 ≤ b111 := Nat.le_trans Z0 (Nat.le_of_eq g111.symm)
  have sz_b111 : h0.size ≤ b111 := Nat.le_trans (Keep.refl h0 []).1 (Nat.le_of_eq g111.symm)
  have Z111 : n0 ≤ h111.size := Nat.le_trans Z0 E111.1
  have K111 : Keep h0 h111 [] := (Keep.refl h0 []).ext E111
  have F_112 : Fld Z h111 b111 "com/example/hermitage/hermitage/frame/JsonText" "capacity" "I" (.int (0 : Int32)) := D111 (Or.inr (hw _ (List.mem_of_getElem? (i := 10) rfl))) (ty := .int) (by decide)
  have F_113 : Fld Z h111 b111 "com/example/hermitage/hermitage/frame/JsonText" "bytes" "[B" .null := D111 (Or.inl (hw _ (List.mem_of_getElem? (i := 13) rfl))) (ty := (.array .byte)) (by decide)
  have F_114 : Fld Z h111 b111 "com/example/hermitage/hermitage/frame/JsonText" "length" "I" (.int (0 : Int32)) := D111 (Or.inl (hw _ (List.mem_of_getElem? (i := 24) rfl))) (ty := .int) (by decide)
  refine Gl.st (g' := (mkF m 3 #[.val (.int x0), .val (.int x1), .val (.int x2), .val (.int x3), .unset, .unset, .unset, .unset, .unset, .unset] [(.ref b111)])) (fun τ κ => st111 _ κ) ?_
  refine Gl.st (g' := (mkF m 4 #[.val (.int x0), .val (.int x1), .val (.int x2), .val (.int x3), .unset, .unset, .unset, .unset, .unset, .unset] [(.ref b111), (.ref b111)])) (fun τ κ => XS.dup X111.here hx rfl (hb hby at_3) rfl rfl κ) ?_
  refine Gl.st (g' := (mkF m 5 #[.val (.int x0), .val (.int x1), .val (.int x2), .val (.int x3), .unset, .unset, .unset, .unset, .unset, .unset] [(.int x0), (.ref b111), (.ref b111)])) (fun τ κ => XS.iloadN X111.here hx rfl (hb hby at_4) rfl κ) ?_
  refine Gl.st (g' := (mkF m 7 #[.val (.int x0), .val (.int x1), .val (.int x2), .val (.int x3), .unset, .unset, .unset, .unset, .unset, .unset] [(.int (7 : Int32)), (.int x0), (.ref b111), (.ref b111)])) (fun τ κ => XS.bipush X111.here hx rfl (hb hby at_5) κ) ?_
  refine Gl.st (g' := (mkF m 8 #[.val (.int x0), .val (.int x1), .val (.int x2), .val (.int x3), .unset, .unset, .unset, .unset, .unset, .unset] [(.int (x0 &&& (7 : Int32))), (.ref b111), (.ref b111)])) (fun τ κ => XS.iand X111.here hx rfl (hb hby at_7) rfl κ) ?_
  obtain ⟨rv115, _, ⟨T115, L115, k115, n115⟩, -, X115, ⟨Lc115, hQ115, l115, y115, z115⟩, st115⟩ := X111.specialBack hx (y := (⟨"com/example/hermitage/hermitage/frame/JsonText", "<init>", "(I)V"⟩ : MethodName)) rfl hown (mvT hZ (hw _ (List.mem_of_getElem? (i := 3) rfl))) (mvT hZ (hw _ (List.mem_of_getElem? (i := 4) rfl))) (mvT hZ (hw _ (List.mem_of_getElem? (i := 5) rfl))) (by decide) (backOf (W := 1) (rm1 l Z a0 hw [] b111 (x0 &&& (7 : Int32)) h111 n0 Z111 A111 g_b111 F_112 F_113 F_114 (own_p7 x0).1 (own_p7 x0).2.1) hZ (hw _ (List.mem_of_getElem? (i := 5) rfl)) (hw _ (List.mem_of_getElem? (i := 2) rfl)) (by decide) (by decide)) (g := (mkF m 8 #[.val (.int x0), .val (.int x1), .val (.int x2), .val (.int x3), .unset, .unset, .unset, .unset, .unset, .unset] [(.int (x0 &&& (7 : Int32))), (.ref b111), (.ref b111)])) rfl (by rw [hml]; rfl) (Steps.refl _) (a := b111) (argsL := [(.int (x0 &&& (7 : Int32)))]) (rest := [(.ref b111)]) (lenOf pd_2 rfl) rfl (by show 2 * 0 + _ ≤ _; exact Nat.le_of_eq rfl) (hb hby at_8) (fun _ _ => ⟨rfl, e111, (by decide : 1 + 1 ≤ _), (by decide : 3 + 7 ≤ _)⟩)
  dsimp only [Pt.U, Pt.locs, Pt.cells, Pt.slots] at X115 l115 y115 z115 st115 hQ115
  subst l115 y115 z115
  obtain ⟨t115, kk115, rfl, N115q, Kc115, Ec115, FC115, FB115, FL115, Et115, V115, s115⟩ := hQ115
  have ne_b111_t115 : b111 ≠ t115 := Nat.ne_of_lt (Nat.lt_of_lt_of_le A111.lt s115)
  have g_t115 : n0 ≤ t115 := Nat.le_trans Z111 s115
  have sz_t115 : h0.size ≤ t115 := Nat.le_trans K111.1 s115
  have E_116 := A111.keep Kc115
  have N115 := Fr.app N0 N115q
  have Z115 : n0 ≤ T115.heap.size := Nat.le_trans Z111 Kc115.1
  have K115 : Keep h0 T115.heap [] := K111.trans Kc115 (allS (Or.inr sz_b111) all0)
  refine Gl.st (g' := (mkF m 11 #[.val (.int x0), .val (.int x1), .val (.int x2), .val (.int x3), .unset, .unset, .unset, .unset, .unset, .unset] [(.ref b111)])) (fun τ κ => st115.trans κ) ?_
  refine Gl.st (g' := (mkF m 13 #[.val (.int x0), .val (.int x1), .val (.int x2), .val (.int x3), .val (.ref b111), .unset, .unset, .unset, .unset, .unset] [])) (fun τ κ => XS.astore X115.here hx rfl (hb hby at_11) rfl rfl (l' := #[.val (.int x0), .val (.int x1), .val (.int x2), .val (.int x3), .val (.ref b111), .unset, .unset, .unset, .unset, .unset]) rfl κ) ?_
  refine Gl.st (g' := (mkF m 14 #[.val (.int x0), .val (.int x1), .val (.int x2), .val (.int x3), .val (.ref b111), .unset, .unset, .unset, .unset, .unset] [(.int x1)])) (fun τ κ => XS.iloadN X115.here hx rfl (hb hby at_13) rfl κ) ?_
  refine Gl.st (g' := (mkF m 15 #[.val (.int x0), .val (.int x1), .val (.int x2), .val (.int x3), .val (.ref b111), .unset, .unset, .unset, .unset, .unset] [(.int (3 : Int32)), (.int x1)])) (fun τ κ => XS.iconst X115.here hx rfl (hb hby at_14) κ) ?_
  refine Gl.st (g' := (mkF m 16 #[.val (.int x0), .val (.int x1), .val (.int x2), .val (.int x3), .val (.ref b111), .unset, .unset, .unset, .unset, .unset] [(.int (x1 &&& (3 : Int32)))])) (fun τ κ => XS.iand X115.here hx rfl (hb hby at_15) rfl κ) ?_
  refine Gl.st (g' := (mkF m 18 #[.val (.int x0), .val (.int x1), .val (.int x2), .val (.int x3), .val (.ref b111), .val (.int (x1 &&& (3 : Int32))), .unset, .unset, .unset, .unset] [])) (fun τ κ => XS.istore X115.here hx rfl (hb hby at_16) rfl (l' := #[.val (.int x0), .val (.int x1), .val (.int x2), .val (.int x3), .val (.ref b111), .val (.int (x1 &&& (3 : Int32))), .unset, .unset, .unset, .unset]) rfl κ) ?_
  refine Gl.st (g' := (mkF m 19 #[.val (.int x0), .val (.int x1), .val (.int x2), .val (.int x3), .val (.ref b111), .val (.int (x1 &&& (3 : Int32))), .unset, .unset, .unset, .unset] [(.int x2)])) (fun τ κ => XS.iloadN X115.here hx rfl (hb hby at_18) rfl κ) ?_
  refine Gl.st (g' := (mkF m 21 #[.val (.int x0), .val (.int x1), .val (.int x2), .val (.int x3), .val (.ref b111), .val (.int (x1 &&& (3 : Int32))), .unset, .unset, .unset, .unset] [(.int (127 : Int32)), (.int x2)])) (fun τ κ => XS.bipush X115.here hx rfl (hb hby at_19) κ) ?_
  refine Gl.st (g' := (mkF m 22 #[.val (.int x0), .val (.int x1), .val (.int x2), .val (.int x3), .val (.ref b111), .val (.int (x1 &&& (3 : Int32))), .unset, .unset, .unset, .unset] [(.int (x2 &&& (127 : Int32)))])) (fun τ κ => XS.iand X115.here hx rfl (hb hby at_21) rfl κ) ?_
  refine Gl.st (g' := (mkF m 23 #[.val (.int x0), .val (.int x1), .val (.int x2), .val (.int x3), .val (.ref b111), .val (.int (x1 &&& (3 : Int32))), .unset, .unset, .unset, .unset] [(.int ((x2 &&& (127 : Int32)).toUInt32.toUInt16.toUInt32.toInt32))])) (fun τ κ => XS.i2c X115.here hx rfl (hb hby at_22) rfl κ) ?_
  generalize ((x2 &&& (127 : Int32)).toUInt32.toUInt16.toUInt32.toInt32) = ca
  refine Gl.st (g' := (mkF m 25 #[.val (.int x0), .val (.int x1), .val (.int x2), .val (.int x3), .val (.ref b111), .val (.int (x1 &&& (3 : Int32))), .val (.int ca), .unset, .unset, .unset] [])) (fun τ κ => XS.istore X115.here hx rfl (hb hby at_23) rfl (l' := #[.val (.int x0), .val (.int x1), .val (.int x2), .val (.int x3), .val (.ref b111), .val (.int (x1 &&& (3 : Int32))), .val (.int ca), .unset, .unset, .unset]) rfl κ) ?_
  refine Gl.st (g' := (mkF m 26 #[.val (.int x0), .val (.int x1), .val (.int x2), .val (.int x3), .val (.ref b111), .val (.int (x1 &&& (3 : Int32))), .val (.int ca), .unset, .unset, .unset] [(.int x3)])) (fun τ κ => XS.iloadN X115.here hx rfl (hb hby at_25) rfl κ) ?_
  refine Gl.st (g' := (mkF m 28 #[.val (.int x0), .val (.int x1), .val (.int x2), .val (.int x3), .val (.ref b111), .val (.int (x1 &&& (3 : Int32))), .val (.int ca), .unset, .unset, .unset] [(.int (127 : Int32)), (.int x3)])) (fun τ κ => XS.bipush X115.here hx rfl (hb hby at_26) κ) ?_
  refine Gl.st (g' := (mkF m 29 #[.val (.int x0), .val (.int x1), .val (.int x2), .val (.int x3), .val (.ref b111), .val (.int (x1 &&& (3 : Int32))), .val (.int ca), .unset, .unset, .unset] [(.int (x3 &&& (127 : Int32)))])) (fun τ κ => XS.iand X115.here hx rfl (hb hby at_28) rfl κ) ?_
  refine Gl.st (g' := (mkF m 30 #[.val (.int x0), .val (.int x1), .val (.int x2), .val (.int x3), .val (.ref b111), .val (.int (x1 &&& (3 : Int32))), .val (.int ca), .unset, .unset, .unset] [(.int ((x3 &&& (127 : Int32)).toUInt32.toUInt16.toUInt32.toInt32))])) (fun τ κ => XS.i2c X115.here hx rfl (hb hby at_29) rfl κ) ?_
  generalize ((x3 &&& (127 : Int32)).toUInt32.toUInt16.toUInt32.toInt32) = cb
  refine Gl.st (g' := (mkF m 32 #[.val (.int x0), .val (.int x1), .val (.int x2), .val (.int x3), .val (.ref b111), .val (.int (x1 &&& (3 : Int32))), .val (.int ca), .val (.int cb), .unset, .unset] [])) (fun τ κ => XS.istore X115.here hx rfl (hb hby at_30) rfl (l' := #[.val (.int x0), .val (.int x1), .val (.int x2), .val (.int x3), .val (.ref b111), .val (.int (x1 &&& (3 : Int32))), .val (.int ca), .val (.int cb), .unset, .unset]) rfl κ) ?_
  refine Gl.st (g' := (mkF m 34 #[.val (.int x0), .val (.int x1), .val (.int x2), .val (.int x3), .val (.ref b111), .val (.int (x1 &&& (3 : Int32))), .val (.int ca), .val (.int cb), .unset, .unset] [(.int (x1 &&& (3 : Int32)))])) (fun τ κ => XS.iload X115.here hx rfl (hb hby at_32) rfl κ) ?_
  refine Gl.st (g' := (mkF m 35 #[.val (.int x0), .val (.int x1), .val (.int x2), .val (.int x3), .val (.ref b111), .val (.int (x1 &&& (3 : Int32))), .val (.int ca), .val (.int cb), .unset, .unset] [(.int (1 : Int32)), (.int (x1 &&& (3 : Int32)))])) (fun τ κ => XS.iconst X115.here hx rfl (hb hby at_34) κ) ?_
  by_cases hc120 : (x1 &&& (3 : Int32)) < (1 : Int32)
  · -- pc 35: (x1 &&& (3 : Int32)) < (1 : Int32)
    refine Gl.st (g' := (mkF m 46 #[.val (.int x0), .val (.int x1), .val (.int x2), .val (.int x3), .val (.ref b111), .val (.int (x1 &&& (3 : Int32))), .val (.int ca), .val (.int cb), .unset, .unset] [])) (fun τ κ => XS.icmpYes X115.here hx rfl (pc0 := 35) (pc' := 46) rfl (hb hby at_35) rfl (tlt hc120).1 (by decide) (by decide) κ) ?_
    refine Gl.st (g' := (mkF m 48 #[.val (.int x0), .val (.int x1), .val (.int x2), .val (.int x3), .val (.ref b111), .val (.int (x1 &&& (3 : Int32))), .val (.int ca), .val (.int cb), .unset, .unset] [(.int (x1 &&& (3 : Int32)))])) (fun τ κ => XS.iload X115.here hx rfl (hb hby at_46) rfl κ) ?_
    refine Gl.st (g' := (mkF m 49 #[.val (.int x0), .val (.int x1), .val (.int x2), .val (.int x3), .val (.ref b111), .val (.int (x1 &&& (3 : Int32))), .val (.int ca), .val (.int cb), .unset, .unset] [(.int (2 : Int32)), (.int (x1 &&& (3 : Int32)))])) (fun τ κ => XS.iconst X115.here hx rfl (hb hby at_48) κ) ?_
    have hc121 : (x1 &&& (3 : Int32)) < (2 : Int32) := Int32.lt_trans hc120 (by decide)
    refine Gl.st (g' := (mkF m 60 #[.val (.int x0), .val (.int x1), .val (.int x2), .val (.int x3), .val (.ref b111), .val (.int (x1 &&& (3 : Int32))), .val (.int ca), .val (.int cb), .unset, .unset] [])) (fun τ κ => XS.icmpYes X115.here hx rfl (pc0 := 49) (pc' := 60) rfl (hb hby at_49) rfl (tlt hc121).1 (by decide) (by decide) κ) ?_
    refine Gl.st (g' := (mkF m 62 #[.val (.int x0), .val (.int x1), .val (.int x2), .val (.int x3), .val (.ref b111), .val (.int (x1 &&& (3 : Int32))), .val (.int ca), .val (.int cb), .unset, .unset] [(.int (x1 &&& (3 : Int32)))])) (fun τ κ => XS.iload X115.here hx rfl (hb hby at_60) rfl κ) ?_
    refine Gl.st (g' := (mkF m 63 #[.val (.int x0), .val (.int x1), .val (.int x2), .val (.int x3), .val (.ref b111), .val (.int (x1 &&& (3 : Int32))), .val (.int ca), .val (.int cb), .unset, .unset] [(.int (3 : Int32)), (.int (x1 &&& (3 : Int32)))])) (fun τ κ => XS.iconst X115.here hx rfl (hb hby at_62) κ) ?_
    have hc122 : (x1 &&& (3 : Int32)) < (3 : Int32) := Int32.lt_trans hc120 (by decide)
    refine Gl.st (g' := (mkF m 74 #[.val (.int x0), .val (.int x1), .val (.int x2), .val (.int x3), .val (.ref b111), .val (.int (x1 &&& (3 : Int32))), .val (.int ca), .val (.int cb), .unset, .unset] [])) (fun τ κ => XS.icmpYes X115.here hx rfl (pc0 := 63) (pc' := 74) rfl (hb hby at_63) rfl (tlt hc122).1 (by decide) (by decide) κ) ?_
    refine Gl.st (g' := (mkF m 76 #[.val (.int x0), .val (.int x1), .val (.int x2), .val (.int x3), .val (.ref b111), .val (.int (x1 &&& (3 : Int32))), .val (.int ca), .val (.int cb), .unset, .unset] [(.ref b111)])) (fun τ κ => XS.aload X115.here hx rfl (hb hby at_74) rfl rfl κ) ?_
    obtain ⟨cq123, kq123, q123a, q123b, q123c⟩ := isOf hZ rfl Ec115
    obtain ⟨rv123, _, ⟨T123, L123, k123, n123⟩, -, X123, ⟨Lc123, hQ123, l123, y123, z123⟩, st123⟩ := X115.virtualBack hx (y := (⟨"com/example/hermitage/hermitage/frame/JsonText", "clear", "()Lcom/example/hermitage/hermitage/frame/JsonText;"⟩ : MethodName)) (z := (⟨"com/example/hermitage/hermitage/frame/JsonText", "clear", "()Lcom/example/hermitage/hermitage/frame/JsonText;"⟩ : MethodName)) hown (mvT hZ (hw _ (List.mem_of_getElem? (i := 40) rfl))) (mvT hZ (hw _ (List.mem_of_getElem? (i := 41) rfl))) (notFace_of_selects (args := #[]) (mvT hZ (hw _ (List.mem_of_getElem? (i := 43) rfl)))) (mvT hZ (hw _ (List.mem_of_getElem? (i := 43) rfl))) (mvT hZ (hw _ (List.mem_of_getElem? (i := 42) rfl))) (by decide) (backOf (W := 0) (rm8 l Z a0 hw [] b111 t115 kk115 (x0 &&& (7 : Int32)) (0 : Int32) (x0 &&& (7 : Int32)) [] T115.heap n0 Z115 Ec115 g_b111 FC115 FB115 FL115 Et115 g_t115 V115 ne_b111_t115 (by decide) (own_p7 x0).1 (own_p7 x0).2.2) hZ (hw _ (List.mem_of_getElem? (i := 44) rfl)) (hw _ (List.mem_of_getElem? (i := 2) rfl)) (by decide) (by decide)) q123a q123c (g := (mkF m 76 #[.val (.int x0), .val (.int x1), .val (.int x2), .val (.int x3), .val (.ref b111), .val (.int (x1 &&& (3 : Int32))), .val (.int ca), .val (.int cb), .unset, .unset] [(.ref b111)])) rfl (by rw [hml]; rfl) (Steps.refl _) (argsL := []) (rest := []) (lenOf pd_3 rfl) rfl (by show 2 * 0 + _ ≤ _; exact Nat.le_of_eq rfl) (hb hby at_76) (fun _ _ => ⟨rfl, rfl, (by decide : 2 + 0 ≤ _), (by decide : 10 + 0 ≤ _)⟩)
    dsimp only [Pt.U, Pt.locs, Pt.cells, Pt.slots] at X123 l123 y123 z123 st123 hQ123
    subst l123 y123 z123
    obtain ⟨rfl, N123q, Kc123, Ec123, FC123, FB123, FL123⟩ := hQ123
    have E_124 := Ec115.keep Kc123
    have E_128 := Et115.keep Kc123
    have V_129 := V115.keep Kc123 (ninS (Ne.symm ne_b111_t115) nin0)
    have N123 := Fr.app N115 N123q
    have Z123 : n0 ≤ T123.heap.size := Nat.le_trans Z115 Kc123.1
    have K123 : Keep h0 T123.heap [] := K115.trans Kc123 (allS (Or.inr sz_b111) all0)
    refine Gl.st (g' := (mkF m 79 #[.val (.int x0), .val (.int x1), .val (.int x2), .val (.int x3), .val (.ref b111), .val (.int (x1 &&& (3 : Int32))), .val (.int ca), .val (.int cb), .unset, .unset] [(.ref b111)])) (fun τ κ => st123.trans κ) ?_
    refine Gl.st (g' := (mkF m 81 #[.val (.int x0), .val (.int x1), .val (.int x2), .val (.int x3), .val (.ref b111), .val (.int (x1 &&& (3 : Int32))), .val (.int ca), .val (.int cb), .val (.ref b111), .unset] [])) (fun τ κ => XS.astore X123.here hx rfl (hb hby at_79) rfl rfl (l' := #[.val (.int x0), .val (.int x1), .val (.int x2), .val (.int x3), .val (.ref b111), .val (.int (x1 &&& (3 : Int32))), .val (.int ca), .val (.int cb), .val (.ref b111), .unset]) rfl κ) ?_
    refine Gl.st (g' := (mkF m 83 #[.val (.int x0), .val (.int x1), .val (.int x2), .val (.int x3), .val (.ref b111), .val (.int (x1 &&& (3 : Int32))), .val (.int ca), .val (.int cb), .val (.ref b111), .unset] [(.ref b111)])) (fun τ κ => XS.aload X123.here hx rfl (hb hby at_81) rfl rfl κ) ?_
    refine Gl.st (g' := (mkF m 85 #[.val (.int x0), .val (.int x1), .val (.int x2), .val (.int x3), .val (.ref b111), .val (.int (x1 &&& (3 : Int32))), .val (.int ca), .val (.int cb), .val (.ref b111), .unset] [(.ref b111), (.ref b111)])) (fun τ κ => XS.aload X123.here hx rfl (hb hby at_83) rfl rfl κ) ?_
    refine Gl.st (g' := (mkF m 90 #[.val (.int x0), .val (.int x1), .val (.int x2), .val (.int x3), .val (.ref b111), .val (.int (x1 &&& (3 : Int32))), .val (.int ca), .val (.int cb), .val (.ref b111), .unset] [])) (fun τ κ => Jvm.RoadKit.acmp (g := (mkF m 85 #[.val (.int x0), .val (.int x1), .val (.int x2), .val (.int x3), .val (.ref b111), .val (.int (x1 &&& (3 : Int32))), .val (.int ca), .val (.int cb), .val (.ref b111), .unset] [(.ref b111), (.ref b111)])) X123 hx rfl rfl rfl (pc0 := 85) (pc' := 90) (same := true) rfl (hb hby at_85) rfl (decide_eq_true rfl) (by decide) (by decide) κ) ?_
    refine Gl.st (g' := (mkF m 92 #[.val (.int x0), .val (.int x1), .val (.int x2), .val (.int x3), .val (.ref b111), .val (.int (x1 &&& (3 : Int32))), .val (.int ca), .val (.int cb), .val (.ref b111), .unset] [(.ref b111)])) (fun τ κ => XS.aload X123.here hx rfl (hb hby at_90) rfl rfl κ) ?_
    obtain ⟨cq130, kq130, q130a, q130b, q130c⟩ := isOf hZ rfl Ec123
    obtain ⟨rv130, _, ⟨T130, L130, k130, n130⟩, -, X130, ⟨Lc130, hQ130, l130, y130, z130⟩, st130⟩ := X123.virtualBack hx (y := (⟨"com/example/hermitage/hermitage/frame/JsonText", "toBytes", "()[B"⟩ : MethodName)) (z := (⟨"com/example/hermitage/hermitage/frame/JsonText", "toBytes", "()[B"⟩ : MethodName)) hown (mvT hZ (hw _ (List.mem_of_getElem? (i := 46) rfl))) (mvT hZ (hw _ (List.mem_of_getElem? (i := 47) rfl))) (notFace_of_selects (args := #[]) (mvT hZ (hw _ (List.mem_of_getElem? (i := 49) rfl)))) (mvT hZ (hw _ (List.mem_of_getElem? (i := 49) rfl))) (mvT hZ (hw _ (List.mem_of_getElem? (i := 48) rfl))) (by decide) (backOf (W := 0) (rm9 l Z a0 hw [] b111 t115 kk115 (x0 &&& (7 : Int32)) (0 : Int32) (x0 &&& (7 : Int32)) [] T123.heap n0 Z123 Ec123 g_b111 FC123 FB123 FL123 E_128 g_t115 V_129 ne_b111_t115 (by decide) (own_zn (n := (0 : Int32)) (by decide) (own_p7 x0).1) (own_p7 x0).2.2 (by decide)) hZ (hw _ (List.mem_of_getElem? (i := 50) rfl)) (hw _ (List.mem_of_getElem? (i := 2) rfl)) (by decide) (by decide)) q130a q130c (g := (mkF m 92 #[.val (.int x0), .val (.int x1), .val (.int x2), .val (.int x3), .val (.ref b111), .val (.int (x1 &&& (3 : Int32))), .val (.int ca), .val (.int cb), .val (.ref b111), .unset] [(.ref b111)])) rfl (by rw [hml]; rfl) (Steps.refl _) (argsL := []) (rest := []) (lenOf pd_4 rfl) rfl (by show 2 * 0 + _ ≤ _; exact Nat.le_of_eq rfl) (hb hby at_92) (fun _ _ => ⟨rfl, rfl, (by decide : 2 + 1 ≤ _), (by decide : 10 + 8 ≤ _)⟩)
    dsimp only [Pt.U, Pt.locs, Pt.cells, Pt.slots] at X130 l130 y130 z130 st130 hQ130
    subst l130 y130 z130
    obtain ⟨b130, kk130, vs130, rfl, N130q, Kc130, s130, Ex130, V130, hv130⟩ := hQ130
    have ne_b111_b130 : b111 ≠ b130 := Nat.ne_of_lt (Nat.lt_of_lt_of_le Ec123.lt s130)
    have ne_t115_b130 : t115 ≠ b130 := Nat.ne_of_lt (Nat.lt_of_lt_of_le E_128.lt s130)
    have g_b130 : n0 ≤ b130 := Nat.le_trans Z123 s130
    have sz_b130 : h0.size ≤ b130 := Nat.le_trans K123.1 s130
    have E_131 := Ec123.keep Kc130
    have E_132 := E_128.keep Kc130
    have V_133 := V_129.keep Kc130 nin0
    have F_134 := FC123.keep Kc130 nin0
    have F_135 := FB123.keep Kc130 nin0
    have F_136 := FL123.keep Kc130 nin0
    have N130 := Fr.app N123 N130q
    have Z130 : n0 ≤ T130.heap.size := Nat.le_trans Z123 Kc130.1
    have K130 : Keep h0 T130.heap [] := K123.trans Kc130 all0
    refine Gl.st (g' := (mkF m 95 #[.val (.int x0), .val (.int x1), .val (.int x2), .val (.int x3), .val (.ref b111), .val (.int (x1 &&& (3 : Int32))), .val (.int ca), .val (.int cb), .val (.ref b111), .unset] [(.ref b130)])) (fun τ κ => st130.trans κ) ?_
    obtain ⟨cl_o137, Ar_o137, q_o137, S_o137, M_o137, H_o137, G_o137⟩ := id V130
    refine Gl.st (g' := (mkF m 96 #[.val (.int x0), .val (.int x1), .val (.int x2), .val (.int x3), .val (.ref b111), .val (.int (x1 &&& (3 : Int32))), .val (.int ca), .val (.int cb), .val (.ref b111), .unset] [(.int (0 : Int32))])) (fun τ κ => X130.arraylength hx Ar_o137.1 (State.isArrayOf_alike hZ.alike Ar_o137.2.1) (g := (mkF m 95 #[.val (.int x0), .val (.int x1), .val (.int x2), .val (.int x3), .val (.ref b111), .val (.int (x1 &&& (3 : Int32))), .val (.int ca), .val (.int cb), .val (.ref b111), .unset] [(.ref b130)])) rfl rfl (hb hby at_95) _ (by rw [len_of S_o137 M_o137]; exact κ)) ?_
    have hc138 : (0 : Int32) = (0 : Int32) := by decide
    refine Gl.st (g' := (mkF m 101 #[.val (.int x0), .val (.int x1), .val (.int x2), .val (.int x3), .val (.ref b111), .val (.int (x1 &&& (3 : Int32))), .val (.int ca), .val (.int cb), .val (.ref b111), .unset] [])) (fun τ κ => XS.ifYes X130.here hx rfl (pc0 := 96) (pc' := 101) rfl (hb hby at_96) rfl ((if0 _ _).trans (teq hc138).1) (by decide) (by decide) κ) ?_
    refine Gl.st (g' := (mkF m 103 #[.val (.int x0), .val (.int x1), .val (.int x2), .val (.int x3), .val (.ref b111), .val (.int (x1 &&& (3 : Int32))), .val (.int ca), .val (.int cb), .val (.ref b111), .unset] [(.ref b111)])) (fun τ κ => XS.aload X130.here hx rfl (hb hby at_101) rfl rfl κ) ?_
    refine Gl.st (g' := (mkF m 105 #[.val (.int x0), .val (.int x1), .val (.int x2), .val (.int x3), .val (.ref b111), .val (.int (x1 &&& (3 : Int32))), .val (.int ca), .val (.int cb), .val (.ref b111), .unset] [(.int cb), (.ref b111)])) (fun τ κ => XS.iload X130.here hx rfl (hb hby at_103) rfl κ) ?_
    obtain ⟨cq139, kq139, q139a, q139b, q139c⟩ := isOf hZ rfl E_131
    obtain ⟨rv139, _, ⟨T139, L139, k139, n139⟩, -, X139, ⟨Lc139, hQ139, l139, y139, z139⟩, st139⟩ := X130.virtualBack hx (y := (⟨"com/example/hermitage/hermitage/frame/JsonText", "mark", "(C)Lcom/example/hermitage/hermitage/frame/JsonText;"⟩ : MethodName)) (z := (⟨"com/example/hermitage/hermitage/frame/JsonText", "mark", "(C)Lcom/example/hermitage/hermitage/frame/JsonText;"⟩ : MethodName)) hown (mvT hZ (hw _ (List.mem_of_getElem? (i := 14) rfl))) (mvT hZ (hw _ (List.mem_of_getElem? (i := 15) rfl))) (notFace_of_selects (args := #[]) (mvT hZ (hw _ (List.mem_of_getElem? (i := 17) rfl)))) (mvT hZ (hw _ (List.mem_of_getElem? (i := 17) rfl))) (mvT hZ (hw _ (List.mem_of_getElem? (i := 16) rfl))) (by decide) (backOf (W := 0) (rm3 l Z a0 hw [] b111 cb t115 kk115 (x0 &&& (7 : Int32)) (0 : Int32) (x0 &&& (7 : Int32)) [] T130.heap n0 Z130 E_131 g_b111 F_134 F_135 F_136 E_132 g_t115 V_133 ne_b111_t115 (by decide) (own_zn (n := (0 : Int32)) (by decide) (own_p7 x0).1) (own_p7 x0).2.2 (by decide)) hZ (hw _ (List.mem_of_getElem? (i := 18) rfl)) (hw _ (List.mem_of_getElem? (i := 2) rfl)) (by decide) (by decide)) q139a q139c (g := (mkF m 105 #[.val (.int x0), .val (.int x1), .val (.int x2), .val (.int x3), .val (.ref b111), .val (.int (x1 &&& (3 : Int32))), .val (.int ca), .val (.int cb), .val (.ref b111), .unset] [(.int cb), (.ref b111)])) rfl (by rw [hml]; rfl) (Steps.refl _) (argsL := [(.int cb)]) (rest := []) (lenOf pd_5 rfl) rfl (by show 2 * 0 + _ ≤ _; exact Nat.le_of_eq rfl) (hb hby at_105) (fun _ _ => ⟨rfl, rfl, (by decide : 3 + 1 ≤ _), (by decide : 18 + 8 ≤ _)⟩)
    dsimp only [Pt.U, Pt.locs, Pt.cells, Pt.slots] at X139 l139 y139 z139 st139 hQ139
    subst l139 y139 z139
    obtain ⟨t139, kk139, z139, vs139, rfl, N139q, Kc139, Ec139, FC139, FB139, FL139, Et139, V139, nz139, z8139, gt139, or139, ne139, hv139, hw139⟩ := hQ139
    have sz_t139 : h0.size ≤ t139 := or139.elim (fun q => by rw [q]; exact sz_t115) (fun q => Nat.le_trans K130.1 q)
    have E_140 := E_131.keep Kc139
    have E_141 := E_132.keep Kc139
    have E_146 := Ex130.keep Kc139
    have V_147 := V130.keep Kc139 (ninS (Ne.symm ne_b111_b130) (ninS (Ne.symm ne_t115_b130) nin0))
    have N139 := Fr.app N130 N139q
    have Z139 : n0 ≤ T139.heap.size := Nat.le_trans Z130 Kc139.1
    have K139 : Keep h0 T139.heap [] := K130.trans Kc139 (allS (Or.inr sz_b111) (allS (Or.inr sz_t115) all0))
    have FL139 : Fld Z T139.heap b111 "com/example/hermitage/hermitage/frame/JsonText" "length" "I" (.int (1 : Int32)) := FL139
    refine Gl.st (g' := (mkF m 108 #[.val (.int x0), .val (.int x1), .val (.int x2), .val (.int x3), .val (.ref b111), .val (.int (x1 &&& (3 : Int32))), .val (.int ca), .val (.int cb), .val (.ref b111), .unset] [(.ref b111)])) (fun τ κ => st139.trans κ) ?_
    refine Gl.st (g' := (mkF m 109 #[.val (.int x0), .val (.int x1), .val (.int x2), .val (.int x3), .val (.ref b111), .val (.int (x1 &&& (3 : Int32))), .val (.int ca), .val (.int cb), .val (.ref b111), .unset] [])) (fun τ κ => XS.pop X139.here hx rfl (hb hby at_108) rfl rfl κ) ?_
    refine Gl.st (g' := (mkF m 111 #[.val (.int x0), .val (.int x1), .val (.int x2), .val (.int x3), .val (.ref b111), .val (.int (x1 &&& (3 : Int32))), .val (.int ca), .val (.int cb), .val (.ref b111), .unset] [(.ref b111)])) (fun τ κ => XS.aload X139.here hx rfl (hb hby at_109) rfl rfl κ) ?_
    obtain ⟨cq148, kq148, q148a, q148b, q148c⟩ := isOf hZ rfl Ec139
    obtain ⟨rv148, _, ⟨T148, L148, k148, n148⟩, -, X148, ⟨Lc148, hQ148, l148, y148, z148⟩, st148⟩ := X139.virtualBack hx (y := (⟨"com/example/hermitage/hermitage/frame/JsonText", "toBytes", "()[B"⟩ : MethodName)) (z := (⟨"com/example/hermitage/hermitage/frame/JsonText", "toBytes", "()[B"⟩ : MethodName)) hown (mvT hZ (hw _ (List.mem_of_getElem? (i := 46) rfl))) (mvT hZ (hw _ (List.mem_of_getElem? (i := 47) rfl))) (notFace_of_selects (args := #[]) (mvT hZ (hw _ (List.mem_of_getElem? (i := 49) rfl)))) (mvT hZ (hw _ (List.mem_of_getElem? (i := 49) rfl))) (mvT hZ (hw _ (List.mem_of_getElem? (i := 48) rfl))) (by decide) (backOf (W := 0) (rm9 l Z a0 hw [] b111 t139 kk139 (x0 &&& (7 : Int32)) (1 : Int32) z139 vs139 T139.heap n0 Z139 Ec139 g_b111 FC139 FB139 FL139 Et139 gt139 V139 ne139 (by decide) (own_up nz139 (by decide)) z8139 (by decide)) hZ (hw _ (List.mem_of_getElem? (i := 50) rfl)) (hw _ (List.mem_of_getElem? (i := 2) rfl)) (by decide) (by decide)) q148a q148c (g := (mkF m 111 #[.val (.int x0), .val (.int x1), .val (.int x2), .val (.int x3), .val (.ref b111), .val (.int (x1 &&& (3 : Int32))), .val (.int ca), .val (.int cb), .val (.ref b111), .unset] [(.ref b111)])) rfl (by rw [hml]; rfl) (Steps.refl _) (argsL := []) (rest := []) (lenOf pd_4 rfl) rfl (by show 2 * 0 + _ ≤ _; exact Nat.le_of_eq rfl) (hb hby at_111) (fun _ _ => ⟨rfl, rfl, (by decide : 4 + 1 ≤ _), (by decide : 26 + 8 ≤ _)⟩)
    dsimp only [Pt.U, Pt.locs, Pt.cells, Pt.slots] at X148 l148 y148 z148 st148 hQ148
    subst l148 y148 z148
    obtain ⟨b148, kk148, vs148, rfl, N148q, Kc148, s148, Ex148, V148, hv148⟩ := hQ148
    have ne_b111_b148 : b111 ≠ b148 := Nat.ne_of_lt (Nat.lt_of_lt_of_le Ec139.lt s148)
    have ne_b130_b148 : b130 ≠ b148 := Nat.ne_of_lt (Nat.lt_of_lt_of_le E_146.lt s148)
    have ne_t139_b148 : t139 ≠ b148 := Nat.ne_of_lt (Nat.lt_of_lt_of_le Et139.lt s148)
    have g_b148 : n0 ≤ b148 := Nat.le_trans Z139 s148
    have sz_b148 : h0.size ≤ b148 := Nat.le_trans K139.1 s148
    have E_149 := Ec139.keep Kc148
    have E_150 := E_146.keep Kc148
    have V_151 := V_147.keep Kc148 nin0
    have F_152 := FC139.keep Kc148 nin0
    have F_153 := FB139.keep Kc148 nin0
    have F_154 := FL139.keep Kc148 nin0
    have E_155 := Et139.keep Kc148
    have V_156 := V139.keep Kc148 nin0
    have N148 := Fr.app N139 N148q
    have Z148 : n0 ≤ T148.heap.size := Nat.le_trans Z139 Kc148.1
    have K148 : Keep h0 T148.heap [] := K139.trans Kc148 all0
    refine Gl.st (g' := (mkF m 114 #[.val (.int x0), .val (.int x1), .val (.int x2), .val (.int x3), .val (.ref b111), .val (.int (x1 &&& (3 : Int32))), .val (.int ca), .val (.int cb), .val (.ref b111), .unset] [(.ref b148)])) (fun τ κ => st148.trans κ) ?_
    refine Gl.st (g' := (mkF m 116 #[.val (.int x0), .val (.int x1), .val (.int x2), .val (.int x3), .val (.ref b111), .val (.int (x1 &&& (3 : Int32))), .val (.int ca), .val (.int cb), .val (.ref b111), .val (.ref b148)] [])) (fun τ κ => XS.astore X148.here hx rfl (hb hby at_114) rfl rfl (l' := #[.val (.int x0), .val (.int x1), .val (.int x2), .val (.int x3), .val (.ref b111), .val (.int (x1 &&& (3 : Int32))), .val (.int ca), .val (.int cb), .val (.ref b111), .val (.ref b148)]) rfl κ) ?_
    refine Gl.st (g' := (mkF m 118 #[.val (.int x0), .val (.int x1), .val (.int x2), .val (.int x3), .val (.ref b111), .val (.int (x1 &&& (3 : Int32))), .val (.int ca), .val (.int cb), .val (.ref b111), .val (.ref b148)] [(.ref b148)])) (fun τ κ => XS.aload X148.here hx rfl (hb hby at_116) rfl rfl κ) ?_
    obtain ⟨cl_o157, Ar_o157, q_o157, S_o157, M_o157, H_o157, G_o157⟩ := id V148
    refine Gl.st (g' := (mkF m 119 #[.val (.int x0), .val (.int x1), .val (.int x2), .val (.int x3), .val (.ref b111), .val (.int (x1 &&& (3 : Int32))), .val (.int ca), .val (.int cb), .val (.ref b111), .val (.ref b148)] [(.int (1 : Int32))])) (fun τ κ => X148.arraylength hx Ar_o157.1 (State.isArrayOf_alike hZ.alike Ar_o157.2.1) (g := (mkF m 118 #[.val (.int x0), .val (.int x1), .val (.int x2), .val (.int x3), .val (.ref b111), .val (.int (x1 &&& (3 : Int32))), .val (.int ca), .val (.int cb), .val (.ref b111), .val (.ref b148)] [(.ref b148)])) rfl rfl (hb hby at_118) _ (by rw [len_of S_o157 M_o157]; exact κ)) ?_
    refine Gl.st (g' := (mkF m 120 #[.val (.int x0), .val (.int x1), .val (.int x2), .val (.int x3), .val (.ref b111), .val (.int (x1 &&& (3 : Int32))), .val (.int ca), .val (.int cb), .val (.ref b111), .val (.ref b148)] [(.int (1 : Int32)), (.int (1 : Int32))])) (fun τ κ => XS.iconst X148.here hx rfl (hb hby at_119) κ) ?_
    have hc158 : (1 : Int32) = (1 : Int32) := by decide
    refine Gl.st (g' := (mkF m 123 #[.val (.int x0), .val (.int x1), .val (.int x2), .val (.int x3), .val (.ref b111), .val (.int (x1 &&& (3 : Int32))), .val (.int ca), .val (.int cb), .val (.ref b111), .val (.ref b148)] [])) (fun τ κ => XS.icmpNo X148.here hx rfl (hb hby at_120) rfl (teq hc158).2 κ) ?_
    refine Gl.st (g' := (mkF m 125 #[.val (.int x0), .val (.int x1), .val (.int x2), .val (.int x3), .val (.ref b111), .val (.int (x1 &&& (3 : Int32))), .val (.int ca), .val (.int cb), .val (.ref b111), .val (.ref b148)] [(.ref b148)])) (fun τ κ => XS.aload X148.here hx rfl (hb hby at_123) rfl rfl κ) ?_
    refine Gl.st (g' := (mkF m 126 #[.val (.int x0), .val (.int x1), .val (.int x2), .val (.int x3), .val (.ref b111), .val (.int (x1 &&& (3 : Int32))), .val (.int ca), .val (.int cb), .val (.ref b111), .val (.ref b148)] [(.int (0 : Int32)), (.ref b148)])) (fun τ κ => XS.iconst X148.here hx rfl (hb hby at_125) κ) ?_
    obtain ⟨cl_o159, Ar_o159, q_o159, S_o159, M_o159, H_o159, G_o159⟩ := id V148
    have hin_o159 : ¬ ((0 : Int32) < 0 ∨ cl_o159.slots.size ≤ ((0 : Int32)).toNatClampNeg) := inb_of S_o159 ⟨by decide, by decide⟩
    refine Gl.st (g' := (mkF m 127 #[.val (.int x0), .val (.int x1), .val (.int x2), .val (.int x3), .val (.ref b111), .val (.int (x1 &&& (3 : Int32))), .val (.int ca), .val (.int cb), .val (.ref b111), .val (.ref b148)] [(.int (cb.toInt8.toInt32))])) (fun τ κ => X148.baloadBytes hx (j := (0 : Int32)) (v := (.int (cb.toInt8.toInt32))) Ar_o159.1 (State.isArrayOf_alike hZ.alike Ar_o159.2.1) Ar_o159.2.2 hin_o159 ((H_o159 _ (Nat.lt_of_not_le fun q => hin_o159 (Or.inr q))).trans (congrArg some ((hv148 _ (by decide)).trans hw139))) (g := (mkF m 126 #[.val (.int x0), .val (.int x1), .val (.int x2), .val (.int x3), .val (.ref b111), .val (.int (x1 &&& (3 : Int32))), .val (.int ca), .val (.int cb), .val (.ref b111), .val (.ref b148)] [(.int (0 : Int32)), (.ref b148)])) rfl rfl (hb hby at_126) _ κ) ?_
    refine Gl.st (g' := (mkF m 129 #[.val (.int x0), .val (.int x1), .val (.int x2), .val (.int x3), .val (.ref b111), .val (.int (x1 &&& (3 : Int32))), .val (.int ca), .val (.int cb), .val (.ref b111), .val (.ref b148)] [(.int cb), (.int (cb.toInt8.toInt32))])) (fun τ κ => XS.iload X148.here hx rfl (hb hby at_127) rfl κ) ?_
    refine Gl.st (g' := (mkF m 130 #[.val (.int x0), .val (.int x1), .val (.int x2), .val (.int x3), .val (.ref b111), .val (.int (x1 &&& (3 : Int32))), .val (.int ca), .val (.int cb), .val (.ref b111), .val (.ref b148)] [(.int (cb.toInt8.toInt32)), (.int (cb.toInt8.toInt32))])) (fun τ κ => XS.i2b X148.here hx rfl (hb hby at_129) rfl κ) ?_
    have hc160 : (cb.toInt8.toInt32) = (cb.toInt8.toInt32) := rfl
    refine Gl.st (g' := (mkF m 133 #[.val (.int x0), .val (.int x1), .val (.int x2), .val (.int x3), .val (.ref b111), .val (.int (x1 &&& (3 : Int32))), .val (.int ca), .val (.int cb), .val (.ref b111), .val (.ref b148)] [])) (fun τ κ => XS.icmpNo X148.here hx rfl (hb hby at_130) rfl (teq hc160).2 κ) ?_
    refine Gl.st (g' := (mkF m 134 #[.val (.int x0), .val (.int x1), .val (.int x2), .val (.int x3), .val (.ref b111), .val (.int (x1 &&& (3 : Int32))), .val (.int ca), .val (.int cb), .val (.ref b111), .val (.ref b148)] [(.int (1 : Int32))])) (fun τ κ => XS.iconst X148.here hx rfl (hb hby at_133) κ) ?_
    refine Gl.st (g' := (mkF m 138 #[.val (.int x0), .val (.int x1), .val (.int x2), .val (.int x3), .val (.ref b111), .val (.int (x1 &&& (3 : Int32))), .val (.int ca), .val (.int cb), .val (.ref b111), .val (.ref b148)] [(.int (1 : Int32))])) (fun τ κ => XS.goto X148.here hx rfl (pc0 := 134) (pc' := 138) rfl (hb hby at_134) (by decide) (by decide) κ) ?_
    exact Gl.ret (v := some (.int (1 : Int32))) X148 Bd.notSynchronized (fun h => by rw [Bd.returns] at h; cases h) rfl (fun fs hr => retN X148 hx (t := .boolean) Bd.returns (by simp) (hb hby at_138) hr) (by decide) (by decide) ⟨rfl, N148⟩
  · -- pc 35: not (x1 &&& (3 : Int32)) < (1 : Int32)
    refine Gl.st (g' := (mkF m 38 #[.val (.int x0), .val (.int x1), .val (.int x2), .val (.int x3), .val (.ref b111), .val (.int (x1 &&& (3 : Int32))), .val (.int ca), .val (.int cb), .unset, .unset] [])) (fun τ κ => XS.icmpNo X115.here hx rfl (hb hby at_35) rfl (flt hc120).1 κ) ?_
    refine Gl.st (g' := (mkF m 40 #[.val (.int x0), .val (.int x1), .val (.int x2), .val (.int x3), .val (.ref b111), .val (.int (x1 &&& (3 : Int32))), .val (.int ca), .val (.int cb), .unset, .unset] [(.ref b111)])) (fun τ κ => XS.aload X115.here hx rfl (hb hby at_38) rfl rfl κ) ?_
    refine Gl.st (g' := (mkF m 42 #[.val (.int x0), .val (.int x1), .val (.int x2), .val (.int x3), .val (.ref b111), .val (.int (x1 &&& (3 : Int32))), .val (.int ca), .val (.int cb), .unset, .unset] [(.int ca), (.ref b111)])) (fun τ κ => XS.iload X115.here hx rfl (hb hby at_40) rfl κ) ?_
    obtain ⟨cq161, kq161, q161a, q161b, q161c⟩ := isOf hZ rfl Ec115
    obtain ⟨rv161, _, ⟨T161, L161, k161, n161⟩, -, X161, ⟨Lc161, hQ161, l161, y161, z161⟩, st161⟩ := X115.virtualBack hx (y := (⟨"com/example/hermitage/hermitage/frame/JsonText", "mark", "(C)Lcom/example/hermitage/hermitage/frame/JsonText;"⟩ : MethodName)) (z := (⟨"com/example/hermitage/hermitage/frame/JsonText", "mark", "(C)Lcom/example/hermitage/hermitage/frame/JsonText;"⟩ : MethodName)) hown (mvT hZ (hw _ (List.mem_of_getElem? (i := 14) rfl))) (mvT hZ (hw _ (List.mem_of_getElem? (i := 15) rfl))) (notFace_of_selects (args := #[]) (mvT hZ (hw _ (List.mem_of_getElem? (i := 17) rfl)))) (mvT hZ (hw _ (List.mem_of_getElem? (i := 17) rfl))) (mvT hZ (hw _ (List.mem_of_getElem? (i := 16) rfl))) (by decide) (backOf (W := 0) (rm3 l Z a0 hw [] b111 ca t115 kk115 (x0 &&& (7 : Int32)) (0 : Int32) (x0 &&& (7 : Int32)) [] T115.heap n0 Z115 Ec115 g_b111 FC115 FB115 FL115 Et115 g_t115 V115 ne_b111_t115 (by decide) (own_p7 x0).1 (own_p7 x0).2.2 (by decide)) hZ (hw _ (List.mem_of_getElem? (i := 18) rfl)) (hw _ (List.mem_of_getElem? (i := 2) rfl)) (by decide) (by decide)) q161a q161c (g := (mkF m 42 #[.val (.int x0), .val (.int x1), .val (.int x2), .val (.int x3), .val (.ref b111), .val (.int (x1 &&& (3 : Int32))), .val (.int ca), .val (.int cb), .unset, .unset] [(.int ca), (.ref b111)])) rfl (by rw [hml]; rfl) (Steps.refl _) (argsL := [(.int ca)]) (rest := []) (lenOf pd_5 rfl) rfl (by show 2 * 0 + _ ≤ _; exact Nat.le_of_eq rfl) (hb hby at_42) (fun _ _ => ⟨rfl, rfl, (by decide : 2 + 1 ≤ _), (by decide : 10 + 8 ≤ _)⟩)
    dsimp only [Pt.U, Pt.locs, Pt.cells, Pt.slots] at X161 l161 y161 z161 st161 hQ161
    subst l161 y161 z161
    obtain ⟨t161, kk161, z161, vs161, rfl, N161q, Kc161, Ec161, FC161, FB161, FL161, Et161, V161, nz161, z8161, gt161, or161, ne161, hv161, hw161⟩ := hQ161
    have sz_t161 : h0.size ≤ t161 := or161.elim (fun q => by rw [q]; exact sz_t115) (fun q => Nat.le_trans K115.1 q)
    have E_162 := Ec115.keep Kc161
    have E_166 := Et115.keep Kc161
    have N161 := Fr.app N115 N161q
    have Z161 : n0 ≤ T161.heap.size := Nat.le_trans Z115 Kc161.1
    have K161 : Keep h0 T161.heap [] := K115.trans Kc161 (allS (Or.inr sz_b111) (allS (Or.inr sz_t115) all0))
    have FL161 : Fld Z T161.heap b111 "com/example/hermitage/hermitage/frame/JsonText" "length" "I" (.int (1 : Int32)) := FL161
    refine Gl.st (g' := (mkF m 45 #[.val (.int x0), .val (.int x1), .val (.int x2), .val (.int x3), .val (.ref b111), .val (.int (x1 &&& (3 : Int32))), .val (.int ca), .val (.int cb), .unset, .unset] [(.ref b111)])) (fun τ κ => st161.trans κ) ?_
    refine Gl.st (g' := (mkF m 46 #[.val (.int x0), .val (.int x1), .val (.int x2), .val (.int x3), .val (.ref b111), .val (.int (x1 &&& (3 : Int32))), .val (.int ca), .val (.int cb), .unset, .unset] [])) (fun τ κ => XS.pop X161.here hx rfl (hb hby at_45) rfl rfl κ) ?_
    refine Gl.st (g' := (mkF m 48 #[.val (.int x0), .val (.int x1), .val (.int x2), .val (.int x3), .val (.ref b111), .val (.int (x1 &&& (3 : Int32))), .val (.int ca), .val (.int cb), .unset, .unset] [(.int (x1 &&& (3 : Int32)))])) (fun τ κ => XS.iload X161.here hx rfl (hb hby at_46) rfl κ) ?_
    refine Gl.st (g' := (mkF m 49 #[.val (.int x0), .val (.int x1), .val (.int x2), .val (.int x3), .val (.ref b111), .val (.int (x1 &&& (3 : Int32))), .val (.int ca), .val (.int cb), .unset, .unset] [(.int (2 : Int32)), (.int (x1 &&& (3 : Int32)))])) (fun τ κ => XS.iconst X161.here hx rfl (hb hby at_48) κ) ?_
    by_cases hc168 : (x1 &&& (3 : Int32)) < (2 : Int32)
    · -- pc 49: (x1 &&& (3 : Int32)) < (2 : Int32)
      refine Gl.st (g' := (mkF m 60 #[.val (.int x0), .val (.int x1), .val (.int x2), .val (.int x3), .val (.ref b111), .val (.int (x1 &&& (3 : Int32))), .val (.int ca), .val (.int cb), .unset, .unset] [])) (fun τ κ => XS.icmpYes X161.here hx rfl (pc0 := 49) (pc' := 60) rfl (hb hby at_49) rfl (tlt hc168).1 (by decide) (by decide) κ) ?_
      refine Gl.st (g' := (mkF m 62 #[.val (.int x0), .val (.int x1), .val (.int x2), .val (.int x3), .val (.ref b111), .val (.int (x1 &&& (3 : Int32))), .val (.int ca), .val (.int cb), .unset, .unset] [(.int (x1 &&& (3 : Int32)))])) (fun τ κ => XS.iload X161.here hx rfl (hb hby at_60) rfl κ) ?_
      refine Gl.st (g' := (mkF m 63 #[.val (.int x0), .val (.int x1), .val (.int x2), .val (.int x3), .val (.ref b111), .val (.int (x1 &&& (3 : Int32))), .val (.int ca), .val (.int cb), .unset, .unset] [(.int (3 : Int32)), (.int (x1 &&& (3 : Int32)))])) (fun τ κ => XS.iconst X161.here hx rfl (hb hby at_62) κ) ?_
      have hc169 : (x1 &&& (3 : Int32)) < (3 : Int32) := Int32.lt_trans hc168 (by decide)
      refine Gl.st (g' := (mkF m 74 #[.val (.int x0), .val (.int x1), .val (.int x2), .val (.int x3), .val (.ref b111), .val (.int (x1 &&& (3 : Int32))), .val (.int ca), .val (.int cb), .unset, .unset] [])) (fun τ κ => XS.icmpYes X161.here hx rfl (pc0 := 63) (pc' := 74) rfl (hb hby at_63) rfl (tlt hc169).1 (by decide) (by decide) κ) ?_
      refine Gl.st (g' := (mkF m 76 #[.val (.int x0), .val (.int x1), .val (.int x2), .val (.int x3), .val (.ref b111), .val (.int (x1 &&& (3 : Int32))), .val (.int ca), .val (.int cb), .unset, .unset] [(.ref b111)])) (fun τ κ => XS.aload X161.here hx rfl (hb hby at_74) rfl rfl κ) ?_
      obtain ⟨cq170, kq170, q170a, q170b, q170c⟩ := isOf hZ rfl Ec161
      obtain ⟨rv170, _, ⟨T170, L170, k170, n170⟩, -, X170, ⟨Lc170, hQ170, l170, y170, z170⟩, st170⟩ := X161.virtualBack hx (y := (⟨"com/example/hermitage/hermitage/frame/JsonText", "clear", "()Lcom/example/hermitage/hermitage/frame/JsonText;"⟩ : MethodName)) (z := (⟨"com/example/hermitage/hermitage/frame/JsonText", "clear", "()Lcom/example/hermitage/hermitage/frame/JsonText;"⟩ : MethodName)) hown (mvT hZ (hw _ (List.mem_of_getElem? (i := 40) rfl))) (mvT hZ (hw _ (List.mem_of_getElem? (i := 41) rfl))) (notFace_of_selects (args := #[]) (mvT hZ (hw _ (List.mem_of_getElem? (i := 43) rfl)))) (mvT hZ (hw _ (List.mem_of_getElem? (i := 43) rfl))) (mvT hZ (hw _ (List.mem_of_getElem? (i := 42) rfl))) (by decide) (backOf (W := 0) (rm8 l Z a0 hw [] b111 t161 kk161 (x0 &&& (7 : Int32)) (1 : Int32) z161 vs161 T161.heap n0 Z161 Ec161 g_b111 FC161 FB161 FL161 Et161 gt161 V161 ne161 (by decide) (own_up nz161 (by decide)) z8161) hZ (hw _ (List.mem_of_getElem? (i := 44) rfl)) (hw _ (List.mem_of_getElem? (i := 2) rfl)) (by decide) (by decide)) q170a q170c (g := (mkF m 76 #[.val (.int x0), .val (.int x1), .val (.int x2), .val (.int x3), .val (.ref b111), .val (.int (x1 &&& (3 : Int32))), .val (.int ca), .val (.int cb), .unset, .unset] [(.ref b111)])) rfl (by rw [hml]; rfl) (Steps.refl _) (argsL := []) (rest := []) (lenOf pd_3 rfl) rfl (by show 2 * 0 + _ ≤ _; exact Nat.le_of_eq rfl) (hb hby at_76) (fun _ _ => ⟨rfl, rfl, (by decide : 3 + 0 ≤ _), (by decide : 18 + 0 ≤ _)⟩)
      dsimp only [Pt.U, Pt.locs, Pt.cells, Pt.slots] at X170 l170 y170 z170 st170 hQ170
      subst l170 y170 z170
      obtain ⟨rfl, N170q, Kc170, Ec170, FC170, FB170, FL170⟩ := hQ170
      have E_171 := Ec161.keep Kc170
      have E_175 := Et161.keep Kc170
      have V_176 := V161.keep Kc170 (ninS (Ne.symm ne161) nin0)
      have N170 := Fr.app N161 N170q
      have Z170 : n0 ≤ T170.heap.size := Nat.le_trans Z161 Kc170.1
      have K170 : Keep h0 T170.heap [] := K161.trans Kc170 (allS (Or.inr sz_b111) all0)
      refine Gl.st (g' := (mkF m 79 #[.val (.int x0), .val (.int x1), .val (.int x2), .val (.int x3), .val (.ref b111), .val (.int (x1 &&& (3 : Int32))), .val (.int ca), .val (.int cb), .unset, .unset] [(.ref b111)])) (fun τ κ => st170.trans κ) ?_
      refine Gl.st (g' := (mkF m 81 #[.val (.int x0), .val (.int x1), .val (.int x2), .val (.int x3), .val (.ref b111), .val (.int (x1 &&& (3 : Int32))), .val (.int ca), .val (.int cb), .val (.ref b111), .unset] [])) (fun τ κ => XS.astore X170.here hx rfl (hb hby at_79) rfl rfl (l' := #[.val (.int x0), .val (.int x1), .val (.int x2), .val (.int x3), .val (.ref b111), .val (.int (x1 &&& (3 : Int32))), .val (.int ca), .val (.int cb), .val (.ref b111), .unset]) rfl κ) ?_
      refine Gl.st (g' := (mkF m 83 #[.val (.int x0), .val (.int x1), .val (.int x2), .val (.int x3), .val (.ref b111), .val (.int (x1 &&& (3 : Int32))), .val (.int ca), .val (.int cb), .val (.ref b111), .unset] [(.ref b111)])) (fun τ κ => XS.aload X170.here hx rfl (hb hby at_81) rfl rfl κ) ?_
      refine Gl.st (g' := (mkF m 85 #[.val (.int x0), .val (.int x1), .val (.int x2), .val (.int x3), .val (.ref b111), .val (.int (x1 &&& (3 : Int32))), .val (.int ca), .val (.int cb), .val (.ref b111), .unset] [(.ref b111), (.ref b111)])) (fun τ κ => XS.aload X170.here hx rfl (hb hby at_83) rfl rfl κ) ?_
      refine Gl.st (g' := (mkF m 90 #[.val (.int x0), .val (.int x1), .val (.int x2), .val (.int x3), .val (.ref b111), .val (.int (x1 &&& (3 : Int32))), .val (.int ca), .val (.int cb), .val (.ref b111), .unset] [])) (fun τ κ => Jvm.RoadKit.acmp (g := (mkF m 85 #[.val (.int x0), .val (.int x1), .val (.int x2), .val (.int x3), .val (.ref b111), .val (.int (x1 &&& (3 : Int32))), .val (.int ca), .val (.int cb), .val (.ref b111), .unset] [(.ref b111), (.ref b111)])) X170 hx rfl rfl rfl (pc0 := 85) (pc' := 90) (same := true) rfl (hb hby at_85) rfl (decide_eq_true rfl) (by decide) (by decide) κ) ?_
      refine Gl.st (g' := (mkF m 92 #[.val (.int x0), .val (.int x1), .val (.int x2), .val (.int x3), .val (.ref b111), .val (.int (x1 &&& (3 : Int32))), .val (.int ca), .val (.int cb), .val (.ref b111), .unset] [(.ref b111)])) (fun τ κ => XS.aload X170.here hx rfl (hb hby at_90) rfl rfl κ) ?_
      obtain ⟨cq177, kq177, q177a, q177b, q177c⟩ := isOf hZ rfl Ec170
      obtain ⟨rv177, _, ⟨T177, L177, k177, n177⟩, -, X177, ⟨Lc177, hQ177, l177, y177, z177⟩, st177⟩ := X170.virtualBack hx (y := (⟨"com/example/hermitage/hermitage/frame/JsonText", "toBytes", "()[B"⟩ : MethodName)) (z := (⟨"com/example/hermitage/hermitage/frame/JsonText", "toBytes", "()[B"⟩ : MethodName)) hown (mvT hZ (hw _ (List.mem_of_getElem? (i := 46) rfl))) (mvT hZ (hw _ (List.mem_of_getElem? (i := 47) rfl))) (notFace_of_selects (args := #[]) (mvT hZ (hw _ (List.mem_of_getElem? (i := 49) rfl)))) (mvT hZ (hw _ (List.mem_of_getElem? (i := 49) rfl))) (mvT hZ (hw _ (List.mem_of_getElem? (i := 48) rfl))) (by decide) (backOf (W := 0) (rm9 l Z a0 hw [] b111 t161 kk161 (x0 &&& (7 : Int32)) (0 : Int32) z161 vs161 T170.heap n0 Z170 Ec170 g_b111 FC170 FB170 FL170 E_175 gt161 V_176 ne161 (by decide) (own_zn (n := (1 : Int32)) (by decide) (own_up nz161 (by decide))) z8161 (by decide)) hZ (hw _ (List.mem_of_getElem? (i := 50) rfl)) (hw _ (List.mem_of_getElem? (i := 2) rfl)) (by decide) (by decide)) q177a q177c (g := (mkF m 92 #[.val (.int x0), .val (.int x1), .val (.int x2), .val (.int x3), .val (.ref b111), .val (.int (x1 &&& (3 : Int32))), .val (.int ca), .val (.int cb), .val (.ref b111), .unset] [(.ref b111)])) rfl (by rw [hml]; rfl) (Steps.refl _) (argsL := []) (rest := []) (lenOf pd_4 rfl) rfl (by show 2 * 0 + _ ≤ _; exact Nat.le_of_eq rfl) (hb hby at_92) (fun _ _ => ⟨rfl, rfl, (by decide : 3 + 1 ≤ _), (by decide : 18 + 8 ≤ _)⟩)
      dsimp only [Pt.U, Pt.locs, Pt.cells, Pt.slots] at X177 l177 y177 z177 st177 hQ177
      subst l177 y177 z177
      obtain ⟨b177, kk177, vs177, rfl, N177q, Kc177, s177, Ex177, V177, hv177⟩ := hQ177
      have ne_b111_b177 : b111 ≠ b177 := Nat.ne_of_lt (Nat.lt_of_lt_of_le Ec170.lt s177)
      have ne_t161_b177 : t161 ≠ b177 := Nat.ne_of_lt (Nat.lt_of_lt_of_le E_175.lt s177)
      have g_b177 : n0 ≤ b177 := Nat.le_trans Z170 s177
      have sz_b177 : h0.size ≤ b177 := Nat.le_trans K170.1 s177
      have E_178 := Ec170.keep Kc177
      have E_179 := E_175.keep Kc177
      have V_180 := V_176.keep Kc177 nin0
      have F_181 := FC170.keep Kc177 nin0
      have F_182 := FB170.keep Kc177 nin0
      have F_183 := FL170.keep Kc177 nin0
      have N177 := Fr.app N170 N177q
      have Z177 : n0 ≤ T177.heap.size := Nat.le_trans Z170 Kc177.1
      have K177 : Keep h0 T177.heap [] := K170.trans Kc177 all0
      refine Gl.st (g' := (mkF m 95 #[.val (.int x0), .val (.int x1), .val (.int x2), .val (.int x3), .val (.ref b111), .val (.int (x1 &&& (3 : Int32))), .val (.int ca), .val (.int cb), .val (.ref b111), .unset] [(.ref b177)])) (fun τ κ => st177.trans κ) ?_
      obtain ⟨cl_o184, Ar_o184, q_o184, S_o184, M_o184, H_o184, G_o184⟩ := id V177
      refine Gl.st (g' := (mkF m 96 #[.val (.int x0), .val (.int x1), .val (.int x2), .val (.int x3), .val (.ref b111), .val (.int (x1 &&& (3 : Int32))), .val (.int ca), .val (.int cb), .val (.ref b111), .unset] [(.int (0 : Int32))])) (fun τ κ => X177.arraylength hx Ar_o184.1 (State.isArrayOf_alike hZ.alike Ar_o184.2.1) (g := (mkF m 95 #[.val (.int x0), .val (.int x1), .val (.int x2), .val (.int x3), .val (.ref b111), .val (.int (x1 &&& (3 : Int32))), .val (.int ca), .val (.int cb), .val (.ref b111), .unset] [(.ref b177)])) rfl rfl (hb hby at_95) _ (by rw [len_of S_o184 M_o184]; exact κ)) ?_
      have hc185 : (0 : Int32) = (0 : Int32) := by decide
      refine Gl.st (g' := (mkF m 101 #[.val (.int x0), .val (.int x1), .val (.int x2), .val (.int x3), .val (.ref b111), .val (.int (x1 &&& (3 : Int32))), .val (.int ca), .val (.int cb), .val (.ref b111), .unset] [])) (fun τ κ => XS.ifYes X177.here hx rfl (pc0 := 96) (pc' := 101) rfl (hb hby at_96) rfl ((if0 _ _).trans (teq hc185).1) (by decide) (by decide) κ) ?_
      refine Gl.st (g' := (mkF m 103 #[.val (.int x0), .val (.int x1), .val (.int x2), .val (.int x3), .val (.ref b111), .val (.int (x1 &&& (3 : Int32))), .val (.int ca), .val (.int cb), .val (.ref b111), .unset] [(.ref b111)])) (fun τ κ => XS.aload X177.here hx rfl (hb hby at_101) rfl rfl κ) ?_
      refine Gl.st (g' := (mkF m 105 #[.val (.int x0), .val (.int x1), .val (.int x2), .val (.int x3), .val (.ref b111), .val (.int (x1 &&& (3 : Int32))), .val (.int ca), .val (.int cb), .val (.ref b111), .unset] [(.int cb), (.ref b111)])) (fun τ κ => XS.iload X177.here hx rfl (hb hby at_103) rfl κ) ?_
      obtain ⟨cq186, kq186, q186a, q186b, q186c⟩ := isOf hZ rfl E_178
      obtain ⟨rv186, _, ⟨T186, L186, k186, n186⟩, -, X186, ⟨Lc186, hQ186, l186, y186, z186⟩, st186⟩ := X177.virtualBack hx (y := (⟨"com/example/hermitage/hermitage/frame/JsonText", "mark", "(C)Lcom/example/hermitage/hermitage/frame/JsonText;"⟩ : MethodName)) (z := (⟨"com/example/hermitage/hermitage/frame/JsonText", "mark", "(C)Lcom/example/hermitage/hermitage/frame/JsonText;"⟩ : MethodName)) hown (mvT hZ (hw _ (List.mem_of_getElem? (i := 14) rfl))) (mvT hZ (hw _ (List.mem_of_getElem? (i := 15) rfl))) (notFace_of_selects (args := #[]) (mvT hZ (hw _ (List.mem_of_getElem? (i := 17) rfl)))) (mvT hZ (hw _ (List.mem_of_getElem? (i := 17) rfl))) (mvT hZ (hw _ (List.mem_of_getElem? (i := 16) rfl))) (by decide) (backOf (W := 0) (rm3 l Z a0 hw [] b111 cb t161 kk161 (x0 &&& (7 : Int32)) (0 : Int32) z161 vs161 T177.heap n0 Z177 E_178 g_b111 F_181 F_182 F_183 E_179 gt161 V_180 ne161 (by decide) (own_zn (n := (1 : Int32)) (by decide) (own_up nz161 (by decide))) z8161 (by decide)) hZ (hw _ (List.mem_of_getElem? (i := 18) rfl)) (hw _ (List.mem_of_getElem? (i := 2) rfl)) (by decide) (by decide)) q186a q186c (g := (mkF m 105 #[.val (.int x0), .val (.int x1), .val (.int x2), .val (.int x3), .val (.ref b111), .val (.int (x1 &&& (3 : Int32))), .val (.int ca), .val (.int cb), .val (.ref b111), .unset] [(.int cb), (.ref b111)])) rfl (by rw [hml]; rfl) (Steps.refl _) (argsL := [(.int cb)]) (rest := []) (lenOf pd_5 rfl) rfl (by show 2 * 0 + _ ≤ _; exact Nat.le_of_eq rfl) (hb hby at_105) (fun _ _ => ⟨rfl, rfl, (by decide : 4 + 1 ≤ _), (by decide : 26 + 8 ≤ _)⟩)
      dsimp only [Pt.U, Pt.locs, Pt.cells, Pt.slots] at X186 l186 y186 z186 st186 hQ186
      subst l186 y186 z186
      obtain ⟨t186, kk186, z186, vs186, rfl, N186q, Kc186, Ec186, FC186, FB186, FL186, Et186, V186, nz186, z8186, gt186, or186, ne186, hv186, hw186⟩ := hQ186
      have sz_t186 : h0.size ≤ t186 := or186.elim (fun q => by rw [q]; exact sz_t161) (fun q => Nat.le_trans K177.1 q)
      have E_187 := E_178.keep Kc186
      have E_188 := E_179.keep Kc186
      have E_193 := Ex177.keep Kc186
      have V_194 := V177.keep Kc186 (ninS (Ne.symm ne_b111_b177) (ninS (Ne.symm ne_t161_b177) nin0))
      have N186 := Fr.app N177 N186q
      have Z186 : n0 ≤ T186.heap.size := Nat.le_trans Z177 Kc186.1
      have K186 : Keep h0 T186.heap [] := K177.trans Kc186 (allS (Or.inr sz_b111) (allS (Or.inr sz_t161) all0))
      have FL186 : Fld Z T186.heap b111 "com/example/hermitage/hermitage/frame/JsonText" "length" "I" (.int (1 : Int32)) := FL186
      refine Gl.st (g' := (mkF m 108 #[.val (.int x0), .val (.int x1), .val (.int x2), .val (.int x3), .val (.ref b111), .val (.int (x1 &&& (3 : Int32))), .val (.int ca), .val (.int cb), .val (.ref b111), .unset] [(.ref b111)])) (fun τ κ => st186.trans κ) ?_
      refine Gl.st (g' := (mkF m 109 #[.val (.int x0), .val (.int x1), .val (.int x2), .val (.int x3), .val (.ref b111), .val (.int (x1 &&& (3 : Int32))), .val (.int ca), .val (.int cb), .val (.ref b111), .unset] [])) (fun τ κ => XS.pop X186.here hx rfl (hb hby at_108) rfl rfl κ) ?_
      refine Gl.st (g' := (mkF m 111 #[.val (.int x0), .val (.int x1), .val (.int x2), .val (.int x3), .val (.ref b111), .val (.int (x1 &&& (3 : Int32))), .val (.int ca), .val (.int cb), .val (.ref b111), .unset] [(.ref b111)])) (fun τ κ => XS.aload X186.here hx rfl (hb hby at_109) rfl rfl κ) ?_
      obtain ⟨cq195, kq195, q195a, q195b, q195c⟩ := isOf hZ rfl Ec186
      obtain ⟨rv195, _, ⟨T195, L195, k195, n195⟩, -, X195, ⟨Lc195, hQ195, l195, y195, z195⟩, st195⟩ := X186.virtualBack hx (y := (⟨"com/example/hermitage/hermitage/frame/JsonText", "toBytes", "()[B"⟩ : MethodName)) (z := (⟨"com/example/hermitage/hermitage/frame/JsonText", "toBytes", "()[B"⟩ : MethodName)) hown (mvT hZ (hw _ (List.mem_of_getElem? (i := 46) rfl))) (mvT hZ (hw _ (List.mem_of_getElem? (i := 47) rfl))) (notFace_of_selects (args := #[]) (mvT hZ (hw _ (List.mem_of_getElem? (i := 49) rfl)))) (mvT hZ (hw _ (List.mem_of_getElem? (i := 49) rfl))) (mvT hZ (hw _ (List.mem_of_getElem? (i := 48) rfl))) (by decide) (backOf (W := 0) (rm9 l Z a0 hw [] b111 t186 kk186 (x0 &&& (7 : Int32)) (1 : Int32) z186 vs186 T186.heap n0 Z186 Ec186 g_b111 FC186 FB186 FL186 Et186 gt186 V186 ne186 (by decide) (own_up nz186 (by decide)) z8186 (by decide)) hZ (hw _ (List.mem_of_getElem? (i := 50) rfl)) (hw _ (List.mem_of_getElem? (i := 2) rfl)) (by decide) (by decide)) q195a q195c (g := (mkF m 111 #[.val (.int x0), .val (.int x1), .val (.int x2), .val (.int x3), .val (.ref b111), .val (.int (x1 &&& (3 : Int32))), .val (.int ca), .val (.int cb), .val (.ref b111), .unset] [(.ref b111)])) rfl (by rw [hml]; rfl) (Steps.refl _) (argsL := []) (rest := []) (lenOf pd_4 rfl) rfl (by show 2 * 0 + _ ≤ _; exact Nat.le_of_eq rfl) (hb hby at_111) (fun _ _ => ⟨rfl, rfl, (by decide : 5 + 1 ≤ _), (by decide : 34 + 8 ≤ _)⟩)
      dsimp only [Pt.U, Pt.locs, Pt.cells, Pt.slots] at X195 l195 y195 z195 st195 hQ195
      subst l195 y195 z195
      obtain ⟨b195, kk195, vs195, rfl, N195q, Kc195, s195, Ex195, V195, hv195⟩ := hQ195
      have ne_b111_b195 : b111 ≠ b195 := Nat.ne_of_lt (Nat.lt_of_lt_of_le Ec186.lt s195)
      have ne_b177_b195 : b177 ≠ b195 := Nat.ne_of_lt (Nat.lt_of_lt_of_le E_193.lt s195)
      have ne_t186_b195 : t186 ≠ b195 := Nat.ne_of_lt (Nat.lt_of_lt_of_le Et186.lt s195)
      have g_b195 : n0 ≤ b195 := Nat.le_trans Z186 s195
      have sz_b195 : h0.size ≤ b195 := Nat.le_trans K186.1 s195
      have E_196 := Ec186.keep Kc195
      have E_197 := E_193.keep Kc195
      have V_198 := V_194.keep Kc195 nin0
      have F_199 := FC186.keep Kc195 nin0
      have F_200 := FB186.keep Kc195 nin0
      have F_201 := FL186.keep Kc195 nin0
      have E_202 := Et186.keep Kc195
      have V_203 := V186.keep Kc195 nin0
      have N195 := Fr.app N186 N195q
      have Z195 : n0 ≤ T195.heap.size := Nat.le_trans Z186 Kc195.1
      have K195 : Keep h0 T195.heap [] := K186.trans Kc195 all0
      refine Gl.st (g' := (mkF m 114 #[.val (.int x0), .val (.int x1), .val (.int x2), .val (.int x3), .val (.ref b111), .val (.int (x1 &&& (3 : Int32))), .val (.int ca), .val (.int cb), .val (.ref b111), .unset] [(.ref b195)])) (fun τ κ => st195.trans κ) ?_
      refine Gl.st (g' := (mkF m 116 #[.val (.int x0), .val (.int x1), .val (.int x2), .val (.int x3), .val (.ref b111), .val (.int (x1 &&& (3 : Int32))), .val (.int ca), .val (.int cb), .val (.ref b111), .val (.ref b195)] [])) (fun τ κ => XS.astore X195.here hx rfl (hb hby at_114) rfl rfl (l' := #[.val (.int x0), .val (.int x1), .val (.int x2), .val (.int x3), .val (.ref b111), .val (.int (x1 &&& (3 : Int32))), .val (.int ca), .val (.int cb), .val (.ref b111), .val (.ref b195)]) rfl κ) ?_
      refine Gl.st (g' := (mkF m 118 #[.val (.int x0), .val (.int x1), .val (.int x2), .val (.int x3), .val (.ref b111), .val (.int (x1 &&& (3 : Int32))), .val (.int ca), .val (.int cb), .val (.ref b111), .val (.ref b195)] [(.ref b195)])) (fun τ κ => XS.aload X195.here hx rfl (hb hby at_116) rfl rfl κ) ?_
      obtain ⟨cl_o204, Ar_o204, q_o204, S_o204, M_o204, H_o204, G_o204⟩ := id V195
      refine Gl.st (g' := (mkF m 119 #[.val (.int x0), .val (.int x1), .val (.int x2), .val (.int x3), .val (.ref b111), .val (.int (x1 &&& (3 : Int32))), .val (.int ca), .val (.int cb), .val (.ref b111), .val (.ref b195)] [(.int (1 : Int32))])) (fun τ κ => X195.arraylength hx Ar_o204.1 (State.isArrayOf_alike hZ.alike Ar_o204.2.1) (g := (mkF m 118 #[.val (.int x0), .val (.int x1), .val (.int x2), .val (.int x3), .val (.ref b111), .val (.int (x1 &&& (3 : Int32))), .val (.int ca), .val (.int cb), .val (.ref b111), .val (.ref b195)] [(.ref b195)])) rfl rfl (hb hby at_118) _ (by rw [len_of S_o204 M_o204]; exact κ)) ?_
      refine Gl.st (g' := (mkF m 120 #[.val (.int x0), .val (.int x1), .val (.int x2), .val (.int x3), .val (.ref b111), .val (.int (x1 &&& (3 : Int32))), .val (.int ca), .val (.int cb), .val (.ref b111), .val (.ref b195)] [(.int (1 : Int32)), (.int (1 : Int32))])) (fun τ κ => XS.iconst X195.here hx rfl (hb hby at_119) κ) ?_
      have hc205 : (1 : Int32) = (1 : Int32) := by decide
      refine Gl.st (g' := (mkF m 123 #[.val (.int x0), .val (.int x1), .val (.int x2), .val (.int x3), .val (.ref b111), .val (.int (x1 &&& (3 : Int32))), .val (.int ca), .val (.int cb), .val (.ref b111), .val (.ref b195)] [])) (fun τ κ => XS.icmpNo X195.here hx rfl (hb hby at_120) rfl (teq hc205).2 κ) ?_
      refine Gl.st (g' := (mkF m 125 #[.val (.int x0), .val (.int x1), .val (.int x2), .val (.int x3), .val (.ref b111), .val (.int (x1 &&& (3 : Int32))), .val (.int ca), .val (.int cb), .val (.ref b111), .val (.ref b195)] [(.ref b195)])) (fun τ κ => XS.aload X195.here hx rfl (hb hby at_123) rfl rfl κ) ?_
      refine Gl.st (g' := (mkF m 126 #[.val (.int x0), .val (.int x1), .val (.int x2), .val (.int x3), .val (.ref b111), .val (.int (x1 &&& (3 : Int32))), .val (.int ca), .val (.int cb), .val (.ref b111), .val (.ref b195)] [(.int (0 : Int32)), (.ref b195)])) (fun τ κ => XS.iconst X195.here hx rfl (hb hby at_125) κ) ?_
      obtain ⟨cl_o206, Ar_o206, q_o206, S_o206, M_o206, H_o206, G_o206⟩ := id V195
      have hin_o206 : ¬ ((0 : Int32) < 0 ∨ cl_o206.slots.size ≤ ((0 : Int32)).toNatClampNeg) := inb_of S_o206 ⟨by decide, by decide⟩
      refine Gl.st (g' := (mkF m 127 #[.val (.int x0), .val (.int x1), .val (.int x2), .val (.int x3), .val (.ref b111), .val (.int (x1 &&& (3 : Int32))), .val (.int ca), .val (.int cb), .val (.ref b111), .val (.ref b195)] [(.int (cb.toInt8.toInt32))])) (fun τ κ => X195.baloadBytes hx (j := (0 : Int32)) (v := (.int (cb.toInt8.toInt32))) Ar_o206.1 (State.isArrayOf_alike hZ.alike Ar_o206.2.1) Ar_o206.2.2 hin_o206 ((H_o206 _ (Nat.lt_of_not_le fun q => hin_o206 (Or.inr q))).trans (congrArg some ((hv195 _ (by decide)).trans hw186))) (g := (mkF m 126 #[.val (.int x0), .val (.int x1), .val (.int x2), .val (.int x3), .val (.ref b111), .val (.int (x1 &&& (3 : Int32))), .val (.int ca), .val (.int cb), .val (.ref b111), .val (.ref b195)] [(.int (0 : Int32)), (.ref b195)])) rfl rfl (hb hby at_126) _ κ) ?_
      refine Gl.st (g' := (mkF m 129 #[.val (.int x0), .val (.int x1), .val (.int x2), .val (.int x3), .val (.ref b111), .val (.int (x1 &&& (3 : Int32))), .val (.int ca), .val (.int cb), .val (.ref b111), .val (.ref b195)] [(.int cb), (.int (cb.toInt8.toInt32))])) (fun τ κ => XS.iload X195.here hx rfl (hb hby at_127) rfl κ) ?_
      refine Gl.st (g' := (mkF m 130 #[.val (.int x0), .val (.int x1), .val (.int x2), .val (.int x3), .val (.ref b111), .val (.int (x1 &&& (3 : Int32))), .val (.int ca), .val (.int cb), .val (.ref b111), .val (.ref b195)] [(.int (cb.toInt8.toInt32)), (.int (cb.toInt8.toInt32))])) (fun τ κ => XS.i2b X195.here hx rfl (hb hby at_129) rfl κ) ?_
      have hc207 : (cb.toInt8.toInt32) = (cb.toInt8.toInt32) := rfl
      refine Gl.st (g' := (mkF m 133 #[.val (.int x0), .val (.int x1), .val (.int x2), .val (.int x3), .val (.ref b111), .val (.int (x1 &&& (3 : Int32))), .val (.int ca), .val (.int cb), .val (.ref b111), .val (.ref b195)] [])) (fun τ κ => XS.icmpNo X195.here hx rfl (hb hby at_130) rfl (teq hc207).2 κ) ?_
      refine Gl.st (g' := (mkF m 134 #[.val (.int x0), .val (.int x1), .val (.int x2), .val (.int x3), .val (.ref b111), .val (.int (x1 &&& (3 : Int32))), .val (.int ca), .val (.int cb), .val (.ref b111), .val (.ref b195)] [(.int (1 : Int32))])) (fun τ κ => XS.iconst X195.here hx rfl (hb hby at_133) κ) ?_
      refine Gl.st (g' := (mkF m 138 #[.val (.int x0), .val (.int x1), .val (.int x2), .val (.int x3), .val (.ref b111), .val (.int (x1 &&& (3 : Int32))), .val (.int ca), .val (.int cb), .val (.ref b111), .val (.ref b195)] [(.int (1 : Int32))])) (fun τ κ => XS.goto X195.here hx rfl (pc0 := 134) (pc' := 138) rfl (hb hby at_134) (by decide) (by decide) κ) ?_
      exact Gl.ret (v := some (.int (1 : Int32))) X195 Bd.notSynchronized (fun h => by rw [Bd.returns] at h; cases h) rfl (fun fs hr => retN X195 hx (t := .boolean) Bd.returns (by simp) (hb hby at_138) hr) (by decide) (by decide) ⟨rfl, N195⟩
    · -- pc 49: not (x1 &&& (3 : Int32)) < (2 : Int32)
      refine Gl.st (g' := (mkF m 52 #[.val (.int x0), .val (.int x1), .val (.int x2), .val (.int x3), .val (.ref b111), .val (.int (x1 &&& (3 : Int32))), .val (.int ca), .val (.int cb), .unset, .unset] [])) (fun τ κ => XS.icmpNo X161.here hx rfl (hb hby at_49) rfl (flt hc168).1 κ) ?_
      refine Gl.st (g' := (mkF m 54 #[.val (.int x0), .val (.int x1), .val (.int x2), .val (.int x3), .val (.ref b111), .val (.int (x1 &&& (3 : Int32))), .val (.int ca), .val (.int cb), .unset, .unset] [(.ref b111)])) (fun τ κ => XS.aload X161.here hx rfl (hb hby at_52) rfl rfl κ) ?_
      refine Gl.st (g' := (mkF m 56 #[.val (.int x0), .val (.int x1), .val (.int x2), .val (.int x3), .val (.ref b111), .val (.int (x1 &&& (3 : Int32))), .val (.int ca), .val (.int cb), .unset, .unset] [(.int cb), (.ref b111)])) (fun τ κ => XS.iload X161.here hx rfl (hb hby at_54) rfl κ) ?_
      obtain ⟨cq208, kq208, q208a, q208b, q208c⟩ := isOf hZ rfl Ec161
      obtain ⟨rv208, _, ⟨T208, L208, k208, n208⟩, -, X208, ⟨Lc208, hQ208, l208, y208, z208⟩, st208⟩ := X161.virtualBack hx (y := (⟨"com/example/hermitage/hermitage/frame/JsonText", "mark", "(C)Lcom/example/hermitage/hermitage/frame/JsonText;"⟩ : MethodName)) (z := (⟨"com/example/hermitage/hermitage/frame/JsonText", "mark", "(C)Lcom/example/hermitage/hermitage/frame/JsonText;"⟩ : MethodName)) hown (mvT hZ (hw _ (List.mem_of_getElem? (i := 14) rfl))) (mvT hZ (hw _ (List.mem_of_getElem? (i := 15) rfl))) (notFace_of_selects (args := #[]) (mvT hZ (hw _ (List.mem_of_getElem? (i := 17) rfl)))) (mvT hZ (hw _ (List.mem_of_getElem? (i := 17) rfl))) (mvT hZ (hw _ (List.mem_of_getElem? (i := 16) rfl))) (by decide) (backOf (W := 0) (rm3 l Z a0 hw [] b111 cb t161 kk161 (x0 &&& (7 : Int32)) (1 : Int32) z161 vs161 T161.heap n0 Z161 Ec161 g_b111 FC161 FB161 FL161 Et161 gt161 V161 ne161 (by decide) (own_up nz161 (by decide)) z8161 (by decide)) hZ (hw _ (List.mem_of_getElem? (i := 18) rfl)) (hw _ (List.mem_of_getElem? (i := 2) rfl)) (by decide) (by decide)) q208a q208c (g := (mkF m 56 #[.val (.int x0), .val (.int x1), .val (.int x2), .val (.int x3), .val (.ref b111), .val (.int (x1 &&& (3 : Int32))), .val (.int ca), .val (.int cb), .unset, .unset] [(.int cb), (.ref b111)])) rfl (by rw [hml]; rfl) (Steps.refl _) (argsL := [(.int cb)]) (rest := []) (lenOf pd_5 rfl) rfl (by show 2 * 0 + _ ≤ _; exact Nat.le_of_eq rfl) (hb hby at_56) (fun _ _ => ⟨rfl, rfl, (by decide : 3 + 1 ≤ _), (by decide : 18 + 8 ≤ _)⟩)
      dsimp only [Pt.U, Pt.locs, Pt.cells, Pt.slots] at X208 l208 y208 z208 st208 hQ208
      subst l208 y208 z208
      obtain ⟨t208, kk208, z208, vs208, rfl, N208q, Kc208, Ec208, FC208, FB208, FL208, Et208, V208, nz208, z8208, gt208, or208, ne208, hv208, hw208⟩ := hQ208
      have sz_t208 : h0.size ≤ t208 := or208.elim (fun q => by rw [q]; exact sz_t161) (fun q => Nat.le_trans K161.1 q)
      have E_209 := Ec161.keep Kc208
      have E_213 := Et161.keep Kc208
      have N208 := Fr.app N161 N208q
      have Z208 : n0 ≤ T208.heap.size := Nat.le_trans Z161 Kc208.1
      have K208 : Keep h0 T208.heap [] := K161.trans Kc208 (allS (Or.inr sz_b111) (allS (Or.inr sz_t161) all0))
      have FL208 : Fld Z T208.heap b111 "com/example/hermitage/hermitage/frame/JsonText" "length" "I" (.int (2 : Int32)) := FL208
      refine Gl.st (g' := (mkF m 59 #[.val (.int x0), .val (.int x1), .val (.int x2), .val (.int x3), .val (.ref b111), .val (.int (x1 &&& (3 : Int32))), .val (.int ca), .val (.int cb), .unset, .unset] [(.ref b111)])) (fun τ κ => st208.trans κ) ?_
      refine Gl.st (g' := (mkF m 60 #[.val (.int x0), .val (.int x1), .val (.int x2), .val (.int x3), .val (.ref b111), .val (.int (x1 &&& (3 : Int32))), .val (.int ca), .val (.int cb), .unset, .unset] [])) (fun τ κ => XS.pop X208.here hx rfl (hb hby at_59) rfl rfl κ) ?_
      refine Gl.st (g' := (mkF m 62 #[.val (.int x0), .val (.int x1), .val (.int x2), .val (.int x3), .val (.ref b111), .val (.int (x1 &&& (3 : Int32))), .val (.int ca), .val (.int cb), .unset, .unset] [(.int (x1 &&& (3 : Int32)))])) (fun τ κ => XS.iload X208.here hx rfl (hb hby at_60) rfl κ) ?_
      refine Gl.st (g' := (mkF m 63 #[.val (.int x0), .val (.int x1), .val (.int x2), .val (.int x3), .val (.ref b111), .val (.int (x1 &&& (3 : Int32))), .val (.int ca), .val (.int cb), .unset, .unset] [(.int (3 : Int32)), (.int (x1 &&& (3 : Int32)))])) (fun τ κ => XS.iconst X208.here hx rfl (hb hby at_62) κ) ?_
      by_cases hc215 : (x1 &&& (3 : Int32)) < (3 : Int32)
      · -- pc 63: (x1 &&& (3 : Int32)) < (3 : Int32)
        refine Gl.st (g' := (mkF m 74 #[.val (.int x0), .val (.int x1), .val (.int x2), .val (.int x3), .val (.ref b111), .val (.int (x1 &&& (3 : Int32))), .val (.int ca), .val (.int cb), .unset, .unset] [])) (fun τ κ => XS.icmpYes X208.here hx rfl (pc0 := 63) (pc' := 74) rfl (hb hby at_63) rfl (tlt hc215).1 (by decide) (by decide) κ) ?_
        refine Gl.st (g' := (mkF m 76 #[.val (.int x0), .val (.int x1), .val (.int x2), .val (.int x3), .val (.ref b111), .val (.int (x1 &&& (3 : Int32))), .val (.int ca), .val (.int cb), .unset, .unset] [(.ref b111)])) (fun τ κ => XS.aload X208.here hx rfl (hb hby at_74) rfl rfl κ) ?_
        obtain ⟨cq216, kq216, q216a, q216b, q216c⟩ := isOf hZ rfl Ec208
        obtain ⟨rv216, _, ⟨T216, L216, k216, n216⟩, -, X216, ⟨Lc216, hQ216, l216, y216, z216⟩, st216⟩ := X208.virtualBack hx (y := (⟨"com/example/hermitage/hermitage/frame/JsonText", "clear", "()Lcom/example/hermitage/hermitage/frame/JsonText;"⟩ : MethodName)) (z := (⟨"com/example/hermitage/hermitage/frame/JsonText", "clear", "()Lcom/example/hermitage/hermitage/frame/JsonText;"⟩ : MethodName)) hown (mvT hZ (hw _ (List.mem_of_getElem? (i := 40) rfl))) (mvT hZ (hw _ (List.mem_of_getElem? (i := 41) rfl))) (notFace_of_selects (args := #[]) (mvT hZ (hw _ (List.mem_of_getElem? (i := 43) rfl)))) (mvT hZ (hw _ (List.mem_of_getElem? (i := 43) rfl))) (mvT hZ (hw _ (List.mem_of_getElem? (i := 42) rfl))) (by decide) (backOf (W := 0) (rm8 l Z a0 hw [] b111 t208 kk208 (x0 &&& (7 : Int32)) (2 : Int32) z208 vs208 T208.heap n0 Z208 Ec208 g_b111 FC208 FB208 FL208 Et208 gt208 V208 ne208 (by decide) (own_up nz208 (by decide)) z8208) hZ (hw _ (List.mem_of_getElem? (i := 44) rfl)) (hw _ (List.mem_of_getElem? (i := 2) rfl)) (by decide) (by decide)) q216a q216c (g := (mkF m 76 #[.val (.int x0), .val (.int x1), .val (.int x2), .val (.int x3), .val (.ref b111), .val (.int (x1 &&& (3 : Int32))), .val (.int ca), .val (.int cb), .unset, .unset] [(.ref b111)])) rfl (by rw [hml]; rfl) (Steps.refl _) (argsL := []) (rest := []) (lenOf pd_3 rfl) rfl (by show 2 * 0 + _ ≤ _; exact Nat.le_of_eq rfl) (hb hby at_76) (fun _ _ => ⟨rfl, rfl, (by decide : 4 + 0 ≤ _), (by decide : 26 + 0 ≤ _)⟩)
        dsimp only [Pt.U, Pt.locs, Pt.cells, Pt.slots] at X216 l216 y216 z216 st216 hQ216
        subst l216 y216 z216
        obtain ⟨rfl, N216q, Kc216, Ec216, FC216, FB216, FL216⟩ := hQ216
        have E_217 := Ec208.keep Kc216
        have E_221 := Et208.keep Kc216
        have V_222 := V208.keep Kc216 (ninS (Ne.symm ne208) nin0)
        have N216 := Fr.app N208 N216q
        have Z216 : n0 ≤ T216.heap.size := Nat.le_trans Z208 Kc216.1
        have K216 : Keep h0 T216.heap [] := K208.trans Kc216 (allS (Or.inr sz_b111) all0)
        refine Gl.st (g' := (mkF m 79 #[.val (.int x0), .val (.int x1), .val (.int x2), .val (.int x3), .val (.ref b111), .val (.int (x1 &&& (3 : Int32))), .val (.int ca), .val (.int cb), .unset, .unset] [(.ref b111)])) (fun τ κ => st216.trans κ) ?_
        refine Gl.st (g' := (mkF m 81 #[.val (.int x0), .val (.int x1), .val (.int x2), .val (.int x3), .val (.ref b111), .val (.int (x1 &&& (3 : Int32))), .val (.int ca), .val (.int cb), .val (.ref b111), .unset] [])) (fun τ κ => XS.astore X216.here hx rfl (hb hby at_79) rfl rfl (l' := #[.val (.int x0), .val (.int x1), .val (.int x2), .val (.int x3), .val (.ref b111), .val (.int (x1 &&& (3 : Int32))), .val (.int ca), .val (.int cb), .val (.ref b111), .unset]) rfl κ) ?_
        refine Gl.st (g' := (mkF m 83 #[.val (.int x0), .val (.int x1), .val (.int x2), .val (.int x3), .val (.ref b111), .val (.int (x1 &&& (3 : Int32))), .val (.int ca), .val (.int cb), .val (.ref b111), .unset] [(.ref b111)])) (fun τ κ => XS.aload X216.here hx rfl (hb hby at_81) rfl rfl κ) ?_
        refine Gl.st (g' := (mkF m 85 #[.val (.int x0), .val (.int x1), .val (.int x2), .val (.int x3), .val (.ref b111), .val (.int (x1 &&& (3 : Int32))), .val (.int ca), .val (.int cb), .val (.ref b111), .unset] [(.ref b111), (.ref b111)])) (fun τ κ => XS.aload X216.here hx rfl (hb hby at_83) rfl rfl κ) ?_
        refine Gl.st (g' := (mkF m 90 #[.val (.int x0), .val (.int x1), .val (.int x2), .val (.int x3), .val (.ref b111), .val (.int (x1 &&& (3 : Int32))), .val (.int ca), .val (.int cb), .val (.ref b111), .unset] [])) (fun τ κ => Jvm.RoadKit.acmp (g := (mkF m 85 #[.val (.int x0), .val (.int x1), .val (.int x2), .val (.int x3), .val (.ref b111), .val (.int (x1 &&& (3 : Int32))), .val (.int ca), .val (.int cb), .val (.ref b111), .unset] [(.ref b111), (.ref b111)])) X216 hx rfl rfl rfl (pc0 := 85) (pc' := 90) (same := true) rfl (hb hby at_85) rfl (decide_eq_true rfl) (by decide) (by decide) κ) ?_
        refine Gl.st (g' := (mkF m 92 #[.val (.int x0), .val (.int x1), .val (.int x2), .val (.int x3), .val (.ref b111), .val (.int (x1 &&& (3 : Int32))), .val (.int ca), .val (.int cb), .val (.ref b111), .unset] [(.ref b111)])) (fun τ κ => XS.aload X216.here hx rfl (hb hby at_90) rfl rfl κ) ?_
        obtain ⟨cq223, kq223, q223a, q223b, q223c⟩ := isOf hZ rfl Ec216
        obtain ⟨rv223, _, ⟨T223, L223, k223, n223⟩, -, X223, ⟨Lc223, hQ223, l223, y223, z223⟩, st223⟩ := X216.virtualBack hx (y := (⟨"com/example/hermitage/hermitage/frame/JsonText", "toBytes", "()[B"⟩ : MethodName)) (z := (⟨"com/example/hermitage/hermitage/frame/JsonText", "toBytes", "()[B"⟩ : MethodName)) hown (mvT hZ (hw _ (List.mem_of_getElem? (i := 46) rfl))) (mvT hZ (hw _ (List.mem_of_getElem? (i := 47) rfl))) (notFace_of_selects (args := #[]) (mvT hZ (hw _ (List.mem_of_getElem? (i := 49) rfl)))) (mvT hZ (hw _ (List.mem_of_getElem? (i := 49) rfl))) (mvT hZ (hw _ (List.mem_of_getElem? (i := 48) rfl))) (by decide) (backOf (W := 0) (rm9 l Z a0 hw [] b111 t208 kk208 (x0 &&& (7 : Int32)) (0 : Int32) z208 vs208 T216.heap n0 Z216 Ec216 g_b111 FC216 FB216 FL216 E_221 gt208 V_222 ne208 (by decide) (own_zn (n := (2 : Int32)) (by decide) (own_up nz208 (by decide))) z8208 (by decide)) hZ (hw _ (List.mem_of_getElem? (i := 50) rfl)) (hw _ (List.mem_of_getElem? (i := 2) rfl)) (by decide) (by decide)) q223a q223c (g := (mkF m 92 #[.val (.int x0), .val (.int x1), .val (.int x2), .val (.int x3), .val (.ref b111), .val (.int (x1 &&& (3 : Int32))), .val (.int ca), .val (.int cb), .val (.ref b111), .unset] [(.ref b111)])) rfl (by rw [hml]; rfl) (Steps.refl _) (argsL := []) (rest := []) (lenOf pd_4 rfl) rfl (by show 2 * 0 + _ ≤ _; exact Nat.le_of_eq rfl) (hb hby at_92) (fun _ _ => ⟨rfl, rfl, (by decide : 4 + 1 ≤ _), (by decide : 26 + 8 ≤ _)⟩)
        dsimp only [Pt.U, Pt.locs, Pt.cells, Pt.slots] at X223 l223 y223 z223 st223 hQ223
        subst l223 y223 z223
        obtain ⟨b223, kk223, vs223, rfl, N223q, Kc223, s223, Ex223, V223, hv223⟩ := hQ223
        have ne_b111_b223 : b111 ≠ b223 := Nat.ne_of_lt (Nat.lt_of_lt_of_le Ec216.lt s223)
        have ne_t208_b223 : t208 ≠ b223 := Nat.ne_of_lt (Nat.lt_of_lt_of_le E_221.lt s223)
        have g_b223 : n0 ≤ b223 := Nat.le_trans Z216 s223
        have sz_b223 : h0.size ≤ b223 := Nat.le_trans K216.1 s223
        have E_224 := Ec216.keep Kc223
        have E_225 := E_221.keep Kc223
        have V_226 := V_222.keep Kc223 nin0
        have F_227 := FC216.keep Kc223 nin0
        have F_228 := FB216.keep Kc223 nin0
        have F_229 := FL216.keep Kc223 nin0
        have N223 := Fr.app N216 N223q
        have Z223 : n0 ≤ T223.heap.size := Nat.le_trans Z216 Kc223.1
        have K223 : Keep h0 T223.heap [] := K216.trans Kc223 all0
        refine Gl.st (g' := (mkF m 95 #[.val (.int x0), .val (.int x1), .val (.int x2), .val (.int x3), .val (.ref b111), .val (.int (x1 &&& (3 : Int32))), .val (.int ca), .val (.int cb), .val (.ref b111), .unset] [(.ref b223)])) (fun τ κ => st223.trans κ) ?_
        obtain ⟨cl_o230, Ar_o230, q_o230, S_o230, M_o230, H_o230, G_o230⟩ := id V223
        refine Gl.st (g' := (mkF m 96 #[.val (.int x0), .val (.int x1), .val (.int x2), .val (.int x3), .val (.ref b111), .val (.int (x1 &&& (3 : Int32))), .val (.int ca), .val (.int cb), .val (.ref b111), .unset] [(.int (0 : Int32))])) (fun τ κ => X223.arraylength hx Ar_o230.1 (State.isArrayOf_alike hZ.alike Ar_o230.2.1) (g := (mkF m 95 #[.val (.int x0), .val (.int x1), .val (.int x2), .val (.int x3), .val (.ref b111), .val (.int (x1 &&& (3 : Int32))), .val (.int ca), .val (.int cb), .val (.ref b111), .unset] [(.ref b223)])) rfl rfl (hb hby at_95) _ (by rw [len_of S_o230 M_o230]; exact κ)) ?_
        have hc231 : (0 : Int32) = (0 : Int32) := by decide
        refine Gl.st (g' := (mkF m 101 #[.val (.int x0), .val (.int x1), .val (.int x2), .val (.int x3), .val (.ref b111), .val (.int (x1 &&& (3 : Int32))), .val (.int ca), .val (.int cb), .val (.ref b111), .unset] [])) (fun τ κ => XS.ifYes X223.here hx rfl (pc0 := 96) (pc' := 101) rfl (hb hby at_96) rfl ((if0 _ _).trans (teq hc231).1) (by decide) (by decide) κ) ?_
        refine Gl.st (g' := (mkF m 103 #[.val (.int x0), .val (.int x1), .val (.int x2), .val (.int x3), .val (.ref b111), .val (.int (x1 &&& (3 : Int32))), .val (.int ca), .val (.int cb), .val (.ref b111), .unset] [(.ref b111)])) (fun τ κ => XS.aload X223.here hx rfl (hb hby at_101) rfl rfl κ) ?_
        refine Gl.st (g' := (mkF m 105 #[.val (.int x0), .val (.int x1), .val (.int x2), .val (.int x3), .val (.ref b111), .val (.int (x1 &&& (3 : Int32))), .val (.int ca), .val (.int cb), .val (.ref b111), .unset] [(.int cb), (.ref b111)])) (fun τ κ => XS.iload X223.here hx rfl (hb hby at_103) rfl κ) ?_
        obtain ⟨cq232, kq232, q232a, q232b, q232c⟩ := isOf hZ rfl E_224
        obtain ⟨rv232, _, ⟨T232, L232, k232, n232⟩, -, X232, ⟨Lc232, hQ232, l232, y232, z232⟩, st232⟩ := X223.virtualBack hx (y := (⟨"com/example/hermitage/hermitage/frame/JsonText", "mark", "(C)Lcom/example/hermitage/hermitage/frame/JsonText;"⟩ : MethodName)) (z := (⟨"com/example/hermitage/hermitage/frame/JsonText", "mark", "(C)Lcom/example/hermitage/hermitage/frame/JsonText;"⟩ : MethodName)) hown (mvT hZ (hw _ (List.mem_of_getElem? (i := 14) rfl))) (mvT hZ (hw _ (List.mem_of_getElem? (i := 15) rfl))) (notFace_of_selects (args := #[]) (mvT hZ (hw _ (List.mem_of_getElem? (i := 17) rfl)))) (mvT hZ (hw _ (List.mem_of_getElem? (i := 17) rfl))) (mvT hZ (hw _ (List.mem_of_getElem? (i := 16) rfl))) (by decide) (backOf (W := 0) (rm3 l Z a0 hw [] b111 cb t208 kk208 (x0 &&& (7 : Int32)) (0 : Int32) z208 vs208 T223.heap n0 Z223 E_224 g_b111 F_227 F_228 F_229 E_225 gt208 V_226 ne208 (by decide) (own_zn (n := (2 : Int32)) (by decide) (own_up nz208 (by decide))) z8208 (by decide)) hZ (hw _ (List.mem_of_getElem? (i := 18) rfl)) (hw _ (List.mem_of_getElem? (i := 2) rfl)) (by decide) (by decide)) q232a q232c (g := (mkF m 105 #[.val (.int x0), .val (.int x1), .val (.int x2), .val (.int x3), .val (.ref b111), .val (.int (x1 &&& (3 : Int32))), .val (.int ca), .val (.int cb), .val (.ref b111), .unset] [(.int cb), (.ref b111)])) rfl (by rw [hml]; rfl) (Steps.refl _) (argsL := [(.int cb)]) (rest := []) (lenOf pd_5 rfl) rfl (by show 2 * 0 + _ ≤ _; exact Nat.le_of_eq rfl) (hb hby at_105) (fun _ _ => ⟨rfl, rfl, (by decide : 5 + 1 ≤ _), (by decide : 34 + 8 ≤ _)⟩)
        dsimp only [Pt.U, Pt.locs, Pt.cells, Pt.slots] at X232 l232 y232 z232 st232 hQ232
        subst l232 y232 z232
        obtain ⟨t232, kk232, z232, vs232, rfl, N232q, Kc232, Ec232, FC232, FB232, FL232, Et232, V232, nz232, z8232, gt232, or232, ne232, hv232, hw232⟩ := hQ232
        have sz_t232 : h0.size ≤ t232 := or232.elim (fun q => by rw [q]; exact sz_t208) (fun q => Nat.le_trans K223.1 q)
        have E_233 := E_224.keep Kc232
        have E_234 := E_225.keep Kc232
        have E_239 := Ex223.keep Kc232
        have V_240 := V223.keep Kc232 (ninS (Ne.symm ne_b111_b223) (ninS (Ne.symm ne_t208_b223) nin0))
        have N232 := Fr.app N223 N232q
        have Z232 : n0 ≤ T232.heap.size := Nat.le_trans Z223 Kc232.1
        have K232 : Keep h0 T232.heap [] := K223.trans Kc232 (allS (Or.inr sz_b111) (allS (Or.inr sz_t208) all0))
        have FL232 : Fld Z T232.heap b111 "com/example/hermitage/hermitage/frame/JsonText" "length" "I" (.int (1 : Int32)) := FL232
        refine Gl.st (g' := (mkF m 108 #[.val (.int x0), .val (.int x1), .val (.int x2), .val (.int x3), .val (.ref b111), .val (.int (x1 &&& (3 : Int32))), .val (.int ca), .val (.int cb), .val (.ref b111), .unset] [(.ref b111)])) (fun τ κ => st232.trans κ) ?_
        refine Gl.st (g' := (mkF m 109 #[.val (.int x0), .val (.int x1), .val (.int x2), .val (.int x3), .val (.ref b111), .val (.int (x1 &&& (3 : Int32))), .val (.int ca), .val (.int cb), .val (.ref b111), .unset] [])) (fun τ κ => XS.pop X232.here hx rfl (hb hby at_108) rfl rfl κ) ?_
        refine Gl.st (g' := (mkF m 111 #[.val (.int x0), .val (.int x1), .val (.int x2), .val (.int x3), .val (.ref b111), .val (.int (x1 &&& (3 : Int32))), .val (.int ca), .val (.int cb), .val (.ref b111), .unset] [(.ref b111)])) (fun τ κ => XS.aload X232.here hx rfl (hb hby at_109) rfl rfl κ) ?_
        obtain ⟨cq241, kq241, q241a, q241b, q241c⟩ := isOf hZ rfl Ec232
        obtain ⟨rv241, _, ⟨T241, L241, k241, n241⟩, -, X241, ⟨Lc241, hQ241, l241, y241, z241⟩, st241⟩ := X232.virtualBack hx (y := (⟨"com/example/hermitage/hermitage/frame/JsonText", "toBytes", "()[B"⟩ : MethodName)) (z := (⟨"com/example/hermitage/hermitage/frame/JsonText", "toBytes", "()[B"⟩ : MethodName)) hown (mvT hZ (hw _ (List.mem_of_getElem? (i := 46) rfl))) (mvT hZ (hw _ (List.mem_of_getElem? (i := 47) rfl))) (notFace_of_selects (args := #[]) (mvT hZ (hw _ (List.mem_of_getElem? (i := 49) rfl)))) (mvT hZ (hw _ (List.mem_of_getElem? (i := 49) rfl))) (mvT hZ (hw _ (List.mem_of_getElem? (i := 48) rfl))) (by decide) (backOf (W := 0) (rm9 l Z a0 hw [] b111 t232 kk232 (x0 &&& (7 : Int32)) (1 : Int32) z232 vs232 T232.heap n0 Z232 Ec232 g_b111 FC232 FB232 FL232 Et232 gt232 V232 ne232 (by decide) (own_up nz232 (by decide)) z8232 (by decide)) hZ (hw _ (List.mem_of_getElem? (i := 50) rfl)) (hw _ (List.mem_of_getElem? (i := 2) rfl)) (by decide) (by decide)) q241a q241c (g := (mkF m 111 #[.val (.int x0), .val (.int x1), .val (.int x2), .val (.int x3), .val (.ref b111), .val (.int (x1 &&& (3 : Int32))), .val (.int ca), .val (.int cb), .val (.ref b111), .unset] [(.ref b111)])) rfl (by rw [hml]; rfl) (Steps.refl _) (argsL := []) (rest := []) (lenOf pd_4 rfl) rfl (by show 2 * 0 + _ ≤ _; exact Nat.le_of_eq rfl) (hb hby at_111) (fun _ _ => ⟨rfl, rfl, (by decide : 6 + 1 ≤ _), (by decide : 42 + 8 ≤ _)⟩)
        dsimp only [Pt.U, Pt.locs, Pt.cells, Pt.slots] at X241 l241 y241 z241 st241 hQ241
        subst l241 y241 z241
        obtain ⟨b241, kk241, vs241, rfl, N241q, Kc241, s241, Ex241, V241, hv241⟩ := hQ241
        have ne_b111_b241 : b111 ≠ b241 := Nat.ne_of_lt (Nat.lt_of_lt_of_le Ec232.lt s241)
        have ne_b223_b241 : b223 ≠ b241 := Nat.ne_of_lt (Nat.lt_of_lt_of_le E_239.lt s241)
        have ne_t232_b241 : t232 ≠ b241 := Nat.ne_of_lt (Nat.lt_of_lt_of_le Et232.lt s241)
        have g_b241 : n0 ≤ b241 := Nat.le_trans Z232 s241
        have sz_b241 : h0.size ≤ b241 := Nat.le_trans K232.1 s241
        have E_242 := Ec232.keep Kc241
        have E_243 := E_239.keep Kc241
        have V_244 := V_240.keep Kc241 nin0
        have F_245 := FC232.keep Kc241 nin0
        have F_246 := FB232.keep Kc241 nin0
        have F_247 := FL232.keep Kc241 nin0
        have E_248 := Et232.keep Kc241
        have V_249 := V232.keep Kc241 nin0
        have N241 := Fr.app N232 N241q
        have Z241 : n0 ≤ T241.heap.size := Nat.le_trans Z232 Kc241.1
        have K241 : Keep h0 T241.heap [] := K232.trans Kc241 all0
        refine Gl.st (g' := (mkF m 114 #[.val (.int x0), .val (.int x1), .val (.int x2), .val (.int x3), .val (.ref b111), .val (.int (x1 &&& (3 : Int32))), .val (.int ca), .val (.int cb), .val (.ref b111), .unset] [(.ref b241)])) (fun τ κ => st241.trans κ) ?_
        refine Gl.st (g' := (mkF m 116 #[.val (.int x0), .val (.int x1), .val (.int x2), .val (.int x3), .val (.ref b111), .val (.int (x1 &&& (3 : Int32))), .val (.int ca), .val (.int cb), .val (.ref b111), .val (.ref b241)] [])) (fun τ κ => XS.astore X241.here hx rfl (hb hby at_114) rfl rfl (l' := #[.val (.int x0), .val (.int x1), .val (.int x2), .val (.int x3), .val (.ref b111), .val (.int (x1 &&& (3 : Int32))), .val (.int ca), .val (.int cb), .val (.ref b111), .val (.ref b241)]) rfl κ) ?_
        refine Gl.st (g' := (mkF m 118 #[.val (.int x0), .val (.int x1), .val (.int x2), .val (.int x3), .val (.ref b111), .val (.int (x1 &&& (3 : Int32))), .val (.int ca), .val (.int cb), .val (.ref b111), .val (.ref b241)] [(.ref b241)])) (fun τ κ => XS.aload X241.here hx rfl (hb hby at_116) rfl rfl κ) ?_
        obtain ⟨cl_o250, Ar_o250, q_o250, S_o250, M_o250, H_o250, G_o250⟩ := id V241
        refine Gl.st (g' := (mkF m 119 #[.val (.int x0), .val (.int x1), .val (.int x2), .val (.int x3), .val (.ref b111), .val (.int (x1 &&& (3 : Int32))), .val (.int ca), .val (.int cb), .val (.ref b111), .val (.ref b241)] [(.int (1 : Int32))])) (fun τ κ => X241.arraylength hx Ar_o250.1 (State.isArrayOf_alike hZ.alike Ar_o250.2.1) (g := (mkF m 118 #[.val (.int x0), .val (.int x1), .val (.int x2), .val (.int x3), .val (.ref b111), .val (.int (x1 &&& (3 : Int32))), .val (.int ca), .val (.int cb), .val (.ref b111), .val (.ref b241)] [(.ref b241)])) rfl rfl (hb hby at_118) _ (by rw [len_of S_o250 M_o250]; exact κ)) ?_
        refine Gl.st (g' := (mkF m 120 #[.val (.int x0), .val (.int x1), .val (.int x2), .val (.int x3), .val (.ref b111), .val (.int (x1 &&& (3 : Int32))), .val (.int ca), .val (.int cb), .val (.ref b111), .val (.ref b241)] [(.int (1 : Int32)), (.int (1 : Int32))])) (fun τ κ => XS.iconst X241.here hx rfl (hb hby at_119) κ) ?_
        have hc251 : (1 : Int32) = (1 : Int32) := by decide
        refine Gl.st (g' := (mkF m 123 #[.val (.int x0), .val (.int x1), .val (.int x2), .val (.int x3), .val (.ref b111), .val (.int (x1 &&& (3 : Int32))), .val (.int ca), .val (.int cb), .val (.ref b111), .val (.ref b241)] [])) (fun τ κ => XS.icmpNo X241.here hx rfl (hb hby at_120) rfl (teq hc251).2 κ) ?_
        refine Gl.st (g' := (mkF m 125 #[.val (.int x0), .val (.int x1), .val (.int x2), .val (.int x3), .val (.ref b111), .val (.int (x1 &&& (3 : Int32))), .val (.int ca), .val (.int cb), .val (.ref b111), .val (.ref b241)] [(.ref b241)])) (fun τ κ => XS.aload X241.here hx rfl (hb hby at_123) rfl rfl κ) ?_
        refine Gl.st (g' := (mkF m 126 #[.val (.int x0), .val (.int x1), .val (.int x2), .val (.int x3), .val (.ref b111), .val (.int (x1 &&& (3 : Int32))), .val (.int ca), .val (.int cb), .val (.ref b111), .val (.ref b241)] [(.int (0 : Int32)), (.ref b241)])) (fun τ κ => XS.iconst X241.here hx rfl (hb hby at_125) κ) ?_
        obtain ⟨cl_o252, Ar_o252, q_o252, S_o252, M_o252, H_o252, G_o252⟩ := id V241
        have hin_o252 : ¬ ((0 : Int32) < 0 ∨ cl_o252.slots.size ≤ ((0 : Int32)).toNatClampNeg) := inb_of S_o252 ⟨by decide, by decide⟩
        refine Gl.st (g' := (mkF m 127 #[.val (.int x0), .val (.int x1), .val (.int x2), .val (.int x3), .val (.ref b111), .val (.int (x1 &&& (3 : Int32))), .val (.int ca), .val (.int cb), .val (.ref b111), .val (.ref b241)] [(.int (cb.toInt8.toInt32))])) (fun τ κ => X241.baloadBytes hx (j := (0 : Int32)) (v := (.int (cb.toInt8.toInt32))) Ar_o252.1 (State.isArrayOf_alike hZ.alike Ar_o252.2.1) Ar_o252.2.2 hin_o252 ((H_o252 _ (Nat.lt_of_not_le fun q => hin_o252 (Or.inr q))).trans (congrArg some ((hv241 _ (by decide)).trans hw232))) (g := (mkF m 126 #[.val (.int x0), .val (.int x1), .val (.int x2), .val (.int x3), .val (.ref b111), .val (.int (x1 &&& (3 : Int32))), .val (.int ca), .val (.int cb), .val (.ref b111), .val (.ref b241)] [(.int (0 : Int32)), (.ref b241)])) rfl rfl (hb hby at_126) _ κ) ?_
        refine Gl.st (g' := (mkF m 129 #[.val (.int x0), .val (.int x1), .val (.int x2), .val (.int x3), .val (.ref b111), .val (.int (x1 &&& (3 : Int32))), .val (.int ca), .val (.int cb), .val (.ref b111), .val (.ref b241)] [(.int cb), (.int (cb.toInt8.toInt32))])) (fun τ κ => XS.iload X241.here hx rfl (hb hby at_127) rfl κ) ?_
        refine Gl.st (g' := (mkF m 130 #[.val (.int x0), .val (.int x1), .val (.int x2), .val (.int x3), .val (.ref b111), .val (.int (x1 &&& (3 : Int32))), .val (.int ca), .val (.int cb), .val (.ref b111), .val (.ref b241)] [(.int (cb.toInt8.toInt32)), (.int (cb.toInt8.toInt32))])) (fun τ κ => XS.i2b X241.here hx rfl (hb hby at_129) rfl κ) ?_
        have hc253 : (cb.toInt8.toInt32) = (cb.toInt8.toInt32) := rfl
        refine Gl.st (g' := (mkF m 133 #[.val (.int x0), .val (.int x1), .val (.int x2), .val (.int x3), .val (.ref b111), .val (.int (x1 &&& (3 : Int32))), .val (.int ca), .val (.int cb), .val (.ref b111), .val (.ref b241)] [])) (fun τ κ => XS.icmpNo X241.here hx rfl (hb hby at_130) rfl (teq hc253).2 κ) ?_
        refine Gl.st (g' := (mkF m 134 #[.val (.int x0), .val (.int x1), .val (.int x2), .val (.int x3), .val (.ref b111), .val (.int (x1 &&& (3 : Int32))), .val (.int ca), .val (.int cb), .val (.ref b111), .val (.ref b241)] [(.int (1 : Int32))])) (fun τ κ => XS.iconst X241.here hx rfl (hb hby at_133) κ) ?_
        refine Gl.st (g' := (mkF m 138 #[.val (.int x0), .val (.int x1), .val (.int x2), .val (.int x3), .val (.ref b111), .val (.int (x1 &&& (3 : Int32))), .val (.int ca), .val (.int cb), .val (.ref b111), .val (.ref b241)] [(.int (1 : Int32))])) (fun τ κ => XS.goto X241.here hx rfl (pc0 := 134) (pc' := 138) rfl (hb hby at_134) (by decide) (by decide) κ) ?_
        exact Gl.ret (v := some (.int (1 : Int32))) X241 Bd.notSynchronized (fun h => by rw [Bd.returns] at h; cases h) rfl (fun fs hr => retN X241 hx (t := .boolean) Bd.returns (by simp) (hb hby at_138) hr) (by decide) (by decide) ⟨rfl, N241⟩
      · -- pc 63: not (x1 &&& (3 : Int32)) < (3 : Int32)
        refine Gl.st (g' := (mkF m 66 #[.val (.int x0), .val (.int x1), .val (.int x2), .val (.int x3), .val (.ref b111), .val (.int (x1 &&& (3 : Int32))), .val (.int ca), .val (.int cb), .unset, .unset] [])) (fun τ κ => XS.icmpNo X208.here hx rfl (hb hby at_63) rfl (flt hc215).1 κ) ?_
        refine Gl.st (g' := (mkF m 68 #[.val (.int x0), .val (.int x1), .val (.int x2), .val (.int x3), .val (.ref b111), .val (.int (x1 &&& (3 : Int32))), .val (.int ca), .val (.int cb), .unset, .unset] [(.ref b111)])) (fun τ κ => XS.aload X208.here hx rfl (hb hby at_66) rfl rfl κ) ?_
        refine Gl.st (g' := (mkF m 70 #[.val (.int x0), .val (.int x1), .val (.int x2), .val (.int x3), .val (.ref b111), .val (.int (x1 &&& (3 : Int32))), .val (.int ca), .val (.int cb), .unset, .unset] [(.int ca), (.ref b111)])) (fun τ κ => XS.iload X208.here hx rfl (hb hby at_68) rfl κ) ?_
        obtain ⟨cq254, kq254, q254a, q254b, q254c⟩ := isOf hZ rfl Ec208
        obtain ⟨rv254, _, ⟨T254, L254, k254, n254⟩, -, X254, ⟨Lc254, hQ254, l254, y254, z254⟩, st254⟩ := X208.virtualBack hx (y := (⟨"com/example/hermitage/hermitage/frame/JsonText", "mark", "(C)Lcom/example/hermitage/hermitage/frame/JsonText;"⟩ : MethodName)) (z := (⟨"com/example/hermitage/hermitage/frame/JsonText", "mark", "(C)Lcom/example/hermitage/hermitage/frame/JsonText;"⟩ : MethodName)) hown (mvT hZ (hw _ (List.mem_of_getElem? (i := 14) rfl))) (mvT hZ (hw _ (List.mem_of_getElem? (i := 15) rfl))) (notFace_of_selects (args := #[]) (mvT hZ (hw _ (List.mem_of_getElem? (i := 17) rfl)))) (mvT hZ (hw _ (List.mem_of_getElem? (i := 17) rfl))) (mvT hZ (hw _ (List.mem_of_getElem? (i := 16) rfl))) (by decide) (backOf (W := 0) (rm3 l Z a0 hw [] b111 ca t208 kk208 (x0 &&& (7 : Int32)) (2 : Int32) z208 vs208 T208.heap n0 Z208 Ec208 g_b111 FC208 FB208 FL208 Et208 gt208 V208 ne208 (by decide) (own_up nz208 (by decide)) z8208 (by decide)) hZ (hw _ (List.mem_of_getElem? (i := 18) rfl)) (hw _ (List.mem_of_getElem? (i := 2) rfl)) (by decide) (by decide)) q254a q254c (g := (mkF m 70 #[.val (.int x0), .val (.int x1), .val (.int x2), .val (.int x3), .val (.ref b111), .val (.int (x1 &&& (3 : Int32))), .val (.int ca), .val (.int cb), .unset, .unset] [(.int ca), (.ref b111)])) rfl (by rw [hml]; rfl) (Steps.refl _) (argsL := [(.int ca)]) (rest := []) (lenOf pd_5 rfl) rfl (by show 2 * 0 + _ ≤ _; exact Nat.le_of_eq rfl) (hb hby at_70) (fun _ _ => ⟨rfl, rfl, (by decide : 4 + 1 ≤ _), (by decide : 26 + 8 ≤ _)⟩)
        dsimp only [Pt.U, Pt.locs, Pt.cells, Pt.slots] at X254 l254 y254 z254 st254 hQ254
        subst l254 y254 z254
        obtain ⟨t254, kk254, z254, vs254, rfl, N254q, Kc254, Ec254, FC254, FB254, FL254, Et254, V254, nz254, z8254, gt254, or254, ne254, hv254, hw254⟩ := hQ254
        have sz_t254 : h0.size ≤ t254 := or254.elim (fun q => by rw [q]; exact sz_t208) (fun q => Nat.le_trans K208.1 q)
        have E_255 := Ec208.keep Kc254
        have E_259 := Et208.keep Kc254
        have N254 := Fr.app N208 N254q
        have Z254 : n0 ≤ T254.heap.size := Nat.le_trans Z208 Kc254.1
        have K254 : Keep h0 T254.heap [] := K208.trans Kc254 (allS (Or.inr sz_b111) (allS (Or.inr sz_t208) all0))
        have FL254 : Fld Z T254.heap b111 "com/example/hermitage/hermitage/frame/JsonText" "length" "I" (.int (3 : Int32)) := FL254
        refine Gl.st (g' := (mkF m 73 #[.val (.int x0), .val (.int x1), .val (.int x2), .val (.int x3), .val (.ref b111), .val (.int (x1 &&& (3 : Int32))), .val (.int ca), .val (.int cb), .unset, .unset] [(.ref b111)])) (fun τ κ => st254.trans κ) ?_
        refine Gl.st (g' := (mkF m 74 #[.val (.int x0), .val (.int x1), .val (.int x2), .val (.int x3), .val (.ref b111), .val (.int (x1 &&& (3 : Int32))), .val (.int ca), .val (.int cb), .unset, .unset] [])) (fun τ κ => XS.pop X254.here hx rfl (hb hby at_73) rfl rfl κ) ?_
        refine Gl.st (g' := (mkF m 76 #[.val (.int x0), .val (.int x1), .val (.int x2), .val (.int x3), .val (.ref b111), .val (.int (x1 &&& (3 : Int32))), .val (.int ca), .val (.int cb), .unset, .unset] [(.ref b111)])) (fun τ κ => XS.aload X254.here hx rfl (hb hby at_74) rfl rfl κ) ?_
        obtain ⟨cq261, kq261, q261a, q261b, q261c⟩ := isOf hZ rfl Ec254
        obtain ⟨rv261, _, ⟨T261, L261, k261, n261⟩, -, X261, ⟨Lc261, hQ261, l261, y261, z261⟩, st261⟩ := X254.virtualBack hx (y := (⟨"com/example/hermitage/hermitage/frame/JsonText", "clear", "()Lcom/example/hermitage/hermitage/frame/JsonText;"⟩ : MethodName)) (z := (⟨"com/example/hermitage/hermitage/frame/JsonText", "clear", "()Lcom/example/hermitage/hermitage/frame/JsonText;"⟩ : MethodName)) hown (mvT hZ (hw _ (List.mem_of_getElem? (i := 40) rfl))) (mvT hZ (hw _ (List.mem_of_getElem? (i := 41) rfl))) (notFace_of_selects (args := #[]) (mvT hZ (hw _ (List.mem_of_getElem? (i := 43) rfl)))) (mvT hZ (hw _ (List.mem_of_getElem? (i := 43) rfl))) (mvT hZ (hw _ (List.mem_of_getElem? (i := 42) rfl))) (by decide) (backOf (W := 0) (rm8 l Z a0 hw [] b111 t254 kk254 (x0 &&& (7 : Int32)) (3 : Int32) z254 vs254 T254.heap n0 Z254 Ec254 g_b111 FC254 FB254 FL254 Et254 gt254 V254 ne254 (by decide) (own_up nz254 (by decide)) z8254) hZ (hw _ (List.mem_of_getElem? (i := 44) rfl)) (hw _ (List.mem_of_getElem? (i := 2) rfl)) (by decide) (by decide)) q261a q261c (g := (mkF m 76 #[.val (.int x0), .val (.int x1), .val (.int x2), .val (.int x3), .val (.ref b111), .val (.int (x1 &&& (3 : Int32))), .val (.int ca), .val (.int cb), .unset, .unset] [(.ref b111)])) rfl (by rw [hml]; rfl) (Steps.refl _) (argsL := []) (rest := []) (lenOf pd_3 rfl) rfl (by show 2 * 0 + _ ≤ _; exact Nat.le_of_eq rfl) (hb hby at_76) (fun _ _ => ⟨rfl, rfl, (by decide : 5 + 0 ≤ _), (by decide : 34 + 0 ≤ _)⟩)
        dsimp only [Pt.U, Pt.locs, Pt.cells, Pt.slots] at X261 l261 y261 z261 st261 hQ261
        subst l261 y261 z261
        obtain ⟨rfl, N261q, Kc261, Ec261, FC261, FB261, FL261⟩ := hQ261
        have E_262 := Ec254.keep Kc261
        have E_266 := Et254.keep Kc261
        have V_267 := V254.keep Kc261 (ninS (Ne.symm ne254) nin0)
        have N261 := Fr.app N254 N261q
        have Z261 : n0 ≤ T261.heap.size := Nat.le_trans Z254 Kc261.1
        have K261 : Keep h0 T261.heap [] := K254.trans Kc261 (allS (Or.inr sz_b111) all0)
        refine Gl.st (g' := (mkF m 79 #[.val (.int x0), .val (.int x1), .val (.int x2), .val (.int x3), .val (.ref b111), .val (.int (x1 &&& (3 : Int32))), .val (.int ca), .val (.int cb), .unset, .unset] [(.ref b111)])) (fun τ κ => st261.trans κ) ?_
        refine Gl.st (g' := (mkF m 81 #[.val (.int x0), .val (.int x1), .val (.int x2), .val (.int x3), .val (.ref b111), .val (.int (x1 &&& (3 : Int32))), .val (.int ca), .val (.int cb), .val (.ref b111), .unset] [])) (fun τ κ => XS.astore X261.here hx rfl (hb hby at_79) rfl rfl (l' := #[.val (.int x0), .val (.int x1), .val (.int x2), .val (.int x3), .val (.ref b111), .val (.int (x1 &&& (3 : Int32))), .val (.int ca), .val (.int cb), .val (.ref b111), .unset]) rfl κ) ?_
        refine Gl.st (g' := (mkF m 83 #[.val (.int x0), .val (.int x1), .val (.int x2), .val (.int x3), .val (.ref b111), .val (.int (x1 &&& (3 : Int32))), .val (.int ca), .val (.int cb), .val (.ref b111), .unset] [(.ref b111)])) (fun τ κ => XS.aload X261.here hx rfl (hb hby at_81) rfl rfl κ) ?_
        refine Gl.st (g' := (mkF m 85 #[.val (.int x0), .val (.int x1), .val (.int x2), .val (.int x3), .val (.ref b111), .val (.int (x1 &&& (3 : Int32))), .val (.int ca), .val (.int cb), .val (.ref b111), .unset] [(.ref b111), (.ref b111)])) (fun τ κ => XS.aload X261.here hx rfl (hb hby at_83) rfl rfl κ) ?_
        refine Gl.st (g' := (mkF m 90 #[.val (.int x0), .val (.int x1), .val (.int x2), .val (.int x3), .val (.ref b111), .val (.int (x1 &&& (3 : Int32))), .val (.int ca), .val (.int cb), .val (.ref b111), .unset] [])) (fun τ κ => Jvm.RoadKit.acmp (g := (mkF m 85 #[.val (.int x0), .val (.int x1), .val (.int x2), .val (.int x3), .val (.ref b111), .val (.int (x1 &&& (3 : Int32))), .val (.int ca), .val (.int cb), .val (.ref b111), .unset] [(.ref b111), (.ref b111)])) X261 hx rfl rfl rfl (pc0 := 85) (pc' := 90) (same := true) rfl (hb hby at_85) rfl (decide_eq_true rfl) (by decide) (by decide) κ) ?_
        refine Gl.st (g' := (mkF m 92 #[.val (.int x0), .val (.int x1), .val (.int x2), .val (.int x3), .val (.ref b111), .val (.int (x1 &&& (3 : Int32))), .val (.int ca), .val (.int cb), .val (.ref b111), .unset] [(.ref b111)])) (fun τ κ => XS.aload X261.here hx rfl (hb hby at_90) rfl rfl κ) ?_
        obtain ⟨cq268, kq268, q268a, q268b, q268c⟩ := isOf hZ rfl Ec261
        obtain ⟨rv268, _, ⟨T268, L268, k268, n268⟩, -, X268, ⟨Lc268, hQ268, l268, y268, z268⟩, st268⟩ := X261.virtualBack hx (y := (⟨"com/example/hermitage/hermitage/frame/JsonText", "toBytes", "()[B"⟩ : MethodName)) (z := (⟨"com/example/hermitage/hermitage/frame/JsonText", "toBytes", "()[B"⟩ : MethodName)) hown (mvT hZ (hw _ (List.mem_of_getElem? (i := 46) rfl))) (mvT hZ (hw _ (List.mem_of_getElem? (i := 47) rfl))) (notFace_of_selects (args := #[]) (mvT hZ (hw _ (List.mem_of_getElem? (i := 49) rfl)))) (mvT hZ (hw _ (List.mem_of_getElem? (i := 49) rfl))) (mvT hZ (hw _ (List.mem_of_getElem? (i := 48) rfl))) (by decide) (backOf (W := 0) (rm9 l Z a0 hw [] b111 t254 kk254 (x0 &&& (7 : Int32)) (0 : Int32) z254 vs254 T261.heap n0 Z261 Ec261 g_b111 FC261 FB261 FL261 E_266 gt254 V_267 ne254 (by decide) (own_zn (n := (3 : Int32)) (by decide) (own_up nz254 (by decide))) z8254 (by decide)) hZ (hw _ (List.mem_of_getElem? (i := 50) rfl)) (hw _ (List.mem_of_getElem? (i := 2) rfl)) (by decide) (by decide)) q268a q268c (g := (mkF m 92 #[.val (.int x0), .val (.int x1), .val (.int x2), .val (.int x3), .val (.ref b111), .val (.int (x1 &&& (3 : Int32))), .val (.int ca), .val (.int cb), .val (.ref b111), .unset] [(.ref b111)])) rfl (by rw [hml]; rfl) (Steps.refl _) (argsL := []) (rest := []) (lenOf pd_4 rfl) rfl (by show 2 * 0 + _ ≤ _; exact Nat.le_of_eq rfl) (hb hby at_92) (fun _ _ => ⟨rfl, rfl, (by decide : 5 + 1 ≤ _), (by decide : 34 + 8 ≤ _)⟩)
        dsimp only [Pt.U, Pt.locs, Pt.cells, Pt.slots] at X268 l268 y268 z268 st268 hQ268
        subst l268 y268 z268
        obtain ⟨b268, kk268, vs268, rfl, N268q, Kc268, s268, Ex268, V268, hv268⟩ := hQ268
        have ne_b111_b268 : b111 ≠ b268 := Nat.ne_of_lt (Nat.lt_of_lt_of_le Ec261.lt s268)
        have ne_t254_b268 : t254 ≠ b268 := Nat.ne_of_lt (Nat.lt_of_lt_of_le E_266.lt s268)
        have g_b268 : n0 ≤ b268 := Nat.le_trans Z261 s268
        have sz_b268 : h0.size ≤ b268 := Nat.le_trans K261.1 s268
        have E_269 := Ec261.keep Kc268
        have E_270 := E_266.keep Kc268
        have V_271 := V_267.keep Kc268 nin0
        have F_272 := FC261.keep Kc268 nin0
        have F_273 := FB261.keep Kc268 nin0
        have F_274 := FL261.keep Kc268 nin0
        have N268 := Fr.app N261 N268q
        have Z268 : n0 ≤ T268.heap.size := Nat.le_trans Z261 Kc268.1
        have K268 : Keep h0 T268.heap [] := K261.trans Kc268 all0
        refine Gl.st (g' := (mkF m 95 #[.val (.int x0), .val (.int x1), .val (.int x2), .val (.int x3), .val (.ref b111), .val (.int (x1 &&& (3 : Int32))), .val (.int ca), .val (.int cb), .val (.ref b111), .unset] [(.ref b268)])) (fun τ κ => st268.trans κ) ?_
        obtain ⟨cl_o275, Ar_o275, q_o275, S_o275, M_o275, H_o275, G_o275⟩ := id V268
        refine Gl.st (g' := (mkF m 96 #[.val (.int x0), .val (.int x1), .val (.int x2), .val (.int x3), .val (.ref b111), .val (.int (x1 &&& (3 : Int32))), .val (.int ca), .val (.int cb), .val (.ref b111), .unset] [(.int (0 : Int32))])) (fun τ κ => X268.arraylength hx Ar_o275.1 (State.isArrayOf_alike hZ.alike Ar_o275.2.1) (g := (mkF m 95 #[.val (.int x0), .val (.int x1), .val (.int x2), .val (.int x3), .val (.ref b111), .val (.int (x1 &&& (3 : Int32))), .val (.int ca), .val (.int cb), .val (.ref b111), .unset] [(.ref b268)])) rfl rfl (hb hby at_95) _ (by rw [len_of S_o275 M_o275]; exact κ)) ?_
        have hc276 : (0 : Int32) = (0 : Int32) := by decide
        refine Gl.st (g' := (mkF m 101 #[.val (.int x0), .val (.int x1), .val (.int x2), .val (.int x3), .val (.ref b111), .val (.int (x1 &&& (3 : Int32))), .val (.int ca), .val (.int cb), .val (.ref b111), .unset] [])) (fun τ κ => XS.ifYes X268.here hx rfl (pc0 := 96) (pc' := 101) rfl (hb hby at_96) rfl ((if0 _ _).trans (teq hc276).1) (by decide) (by decide) κ) ?_
        refine Gl.st (g' := (mkF m 103 #[.val (.int x0), .val (.int x1), .val (.int x2), .val (.int x3), .val (.ref b111), .val (.int (x1 &&& (3 : Int32))), .val (.int ca), .val (.int cb), .val (.ref b111), .unset] [(.ref b111)])) (fun τ κ => XS.aload X268.here hx rfl (hb hby at_101) rfl rfl κ) ?_
        refine Gl.st (g' := (mkF m 105 #[.val (.int x0), .val (.int x1), .val (.int x2), .val (.int x3), .val (.ref b111), .val (.int (x1 &&& (3 : Int32))), .val (.int ca), .val (.int cb), .val (.ref b111), .unset] [(.int cb), (.ref b111)])) (fun τ κ => XS.iload X268.here hx rfl (hb hby at_103) rfl κ) ?_
        obtain ⟨cq277, kq277, q277a, q277b, q277c⟩ := isOf hZ rfl E_269
        obtain ⟨rv277, _, ⟨T277, L277, k277, n277⟩, -, X277, ⟨Lc277, hQ277, l277, y277, z277⟩, st277⟩ := X268.virtualBack hx (y := (⟨"com/example/hermitage/hermitage/frame/JsonText", "mark", "(C)Lcom/example/hermitage/hermitage/frame/JsonText;"⟩ : MethodName)) (z := (⟨"com/example/hermitage/hermitage/frame/JsonText", "mark", "(C)Lcom/example/hermitage/hermitage/frame/JsonText;"⟩ : MethodName)) hown (mvT hZ (hw _ (List.mem_of_getElem? (i := 14) rfl))) (mvT hZ (hw _ (List.mem_of_getElem? (i := 15) rfl))) (notFace_of_selects (args := #[]) (mvT hZ (hw _ (List.mem_of_getElem? (i := 17) rfl)))) (mvT hZ (hw _ (List.mem_of_getElem? (i := 17) rfl))) (mvT hZ (hw _ (List.mem_of_getElem? (i := 16) rfl))) (by decide) (backOf (W := 0) (rm3 l Z a0 hw [] b111 cb t254 kk254 (x0 &&& (7 : Int32)) (0 : Int32) z254 vs254 T268.heap n0 Z268 E_269 g_b111 F_272 F_273 F_274 E_270 gt254 V_271 ne254 (by decide) (own_zn (n := (3 : Int32)) (by decide) (own_up nz254 (by decide))) z8254 (by decide)) hZ (hw _ (List.mem_of_getElem? (i := 18) rfl)) (hw _ (List.mem_of_getElem? (i := 2) rfl)) (by decide) (by decide)) q277a q277c (g := (mkF m 105 #[.val (.int x0), .val (.int x1), .val (.int x2), .val (.int x3), .val (.ref b111), .val (.int (x1 &&& (3 : Int32))), .val (.int ca), .val (.int cb), .val (.ref b111), .unset] [(.int cb), (.ref b111)])) rfl (by rw [hml]; rfl) (Steps.refl _) (argsL := [(.int cb)]) (rest := []) (lenOf pd_5 rfl) rfl (by show 2 * 0 + _ ≤ _; exact Nat.le_of_eq rfl) (hb hby at_105) (fun _ _ => ⟨rfl, rfl, (by decide : 6 + 1 ≤ _), (by decide : 42 + 8 ≤ _)⟩)
        dsimp only [Pt.U, Pt.locs, Pt.cells, Pt.slots] at X277 l277 y277 z277 st277 hQ277
        subst l277 y277 z277
        obtain ⟨t277, kk277, z277, vs277, rfl, N277q, Kc277, Ec277, FC277, FB277, FL277, Et277, V277, nz277, z8277, gt277, or277, ne277, hv277, hw277⟩ := hQ277
        have sz_t277 : h0.size ≤ t277 := or277.elim (fun q => by rw [q]; exact sz_t254) (fun q => Nat.le_trans K268.1 q)
        have E_278 := E_269.keep Kc277
        have E_279 := E_270.keep Kc277
        have E_284 := Ex268.keep Kc277
        have V_285 := V268.keep Kc277 (ninS (Ne.symm ne_b111_b268) (ninS (Ne.symm ne_t254_b268) nin0))
        have N277 := Fr.app N268 N277q
        have Z277 : n0 ≤ T277.heap.size := Nat.le_trans Z268 Kc277.1
        have K277 : Keep h0 T277.heap [] := K268.trans Kc277 (allS (Or.inr sz_b111) (allS (Or.inr sz_t254) all0))
        have FL277 : Fld Z T277.heap b111 "com/example/hermitage/hermitage/frame/JsonText" "length" "I" (.int (1 : Int32)) := FL277
        refine Gl.st (g' := (mkF m 108 #[.val (.int x0), .val (.int x1), .val (.int x2), .val (.int x3), .val (.ref b111), .val (.int (x1 &&& (3 : Int32))), .val (.int ca), .val (.int cb), .val (.ref b111), .unset] [(.ref b111)])) (fun τ κ => st277.trans κ) ?_
        refine Gl.st (g' := (mkF m 109 #[.val (.int x0), .val (.int x1), .val (.int x2), .val (.int x3), .val (.ref b111), .val (.int (x1 &&& (3 : Int32))), .val (.int ca), .val (.int cb), .val (.ref b111), .unset] [])) (fun τ κ => XS.pop X277.here hx rfl (hb hby at_108) rfl rfl κ) ?_
        refine Gl.st (g' := (mkF m 111 #[.val (.int x0), .val (.int x1), .val (.int x2), .val (.int x3), .val (.ref b111), .val (.int (x1 &&& (3 : Int32))), .val (.int ca), .val (.int cb), .val (.ref b111), .unset] [(.ref b111)])) (fun τ κ => XS.aload X277.here hx rfl (hb hby at_109) rfl rfl κ) ?_
        obtain ⟨cq286, kq286, q286a, q286b, q286c⟩ := isOf hZ rfl Ec277
        obtain ⟨rv286, _, ⟨T286, L286, k286, n286⟩, -, X286, ⟨Lc286, hQ286, l286, y286, z286⟩, st286⟩ := X277.virtualBack hx (y := (⟨"com/example/hermitage/hermitage/frame/JsonText", "toBytes", "()[B"⟩ : MethodName)) (z := (⟨"com/example/hermitage/hermitage/frame/JsonText", "toBytes", "()[B"⟩ : MethodName)) hown (mvT hZ (hw _ (List.mem_of_getElem? (i := 46) rfl))) (mvT hZ (hw _ (List.mem_of_getElem? (i := 47) rfl))) (notFace_of_selects (args := #[]) (mvT hZ (hw _ (List.mem_of_getElem? (i := 49) rfl)))) (mvT hZ (hw _ (List.mem_of_getElem? (i := 49) rfl))) (mvT hZ (hw _ (List.mem_of_getElem? (i := 48) rfl))) (by decide) (backOf (W := 0) (rm9 l Z a0 hw [] b111 t277 kk277 (x0 &&& (7 : Int32)) (1 : Int32) z277 vs277 T277.heap n0 Z277 Ec277 g_b111 FC277 FB277 FL277 Et277 gt277 V277 ne277 (by decide) (own_up nz277 (by decide)) z8277 (by decide)) hZ (hw _ (List.mem_of_getElem? (i := 50) rfl)) (hw _ (List.mem_of_getElem? (i := 2) rfl)) (by decide) (by decide)) q286a q286c (g := (mkF m 111 #[.val (.int x0), .val (.int x1), .val (.int x2), .val (.int x3), .val (.ref b111), .val (.int (x1 &&& (3 : Int32))), .val (.int ca), .val (.int cb), .val (.ref b111), .unset] [(.ref b111)])) rfl (by rw [hml]; rfl) (Steps.refl _) (argsL := []) (rest := []) (lenOf pd_4 rfl) rfl (by show 2 * 0 + _ ≤ _; exact Nat.le_of_eq rfl) (hb hby at_111) (fun _ _ => ⟨rfl, rfl, (by decide : 7 + 1 ≤ _), (by decide : 50 + 8 ≤ _)⟩)
        dsimp only [Pt.U, Pt.locs, Pt.cells, Pt.slots] at X286 l286 y286 z286 st286 hQ286
        subst l286 y286 z286
        obtain ⟨b286, kk286, vs286, rfl, N286q, Kc286, s286, Ex286, V286, hv286⟩ := hQ286
        have ne_b111_b286 : b111 ≠ b286 := Nat.ne_of_lt (Nat.lt_of_lt_of_le Ec277.lt s286)
        have ne_b268_b286 : b268 ≠ b286 := Nat.ne_of_lt (Nat.lt_of_lt_of_le E_284.lt s286)
        have ne_t277_b286 : t277 ≠ b286 := Nat.ne_of_lt (Nat.lt_of_lt_of_le Et277.lt s286)
        have g_b286 : n0 ≤ b286 := Nat.le_trans Z277 s286
        have sz_b286 : h0.size ≤ b286 := Nat.le_trans K277.1 s286
        have E_287 := Ec277.keep Kc286
        have E_288 := E_284.keep Kc286
        have V_289 := V_285.keep Kc286 nin0
        have F_290 := FC277.keep Kc286 nin0
        have F_291 := FB277.keep Kc286 nin0
        have F_292 := FL277.keep Kc286 nin0
        have E_293 := Et277.keep Kc286
        have V_294 := V277.keep Kc286 nin0
        have N286 := Fr.app N277 N286q
        have Z286 : n0 ≤ T286.heap.size := Nat.le_trans Z277 Kc286.1
        have K286 : Keep h0 T286.heap [] := K277.trans Kc286 all0
        refine Gl.st (g' := (mkF m 114 #[.val (.int x0), .val (.int x1), .val (.int x2), .val (.int x3), .val (.ref b111), .val (.int (x1 &&& (3 : Int32))), .val (.int ca), .val (.int cb), .val (.ref b111), .unset] [(.ref b286)])) (fun τ κ => st286.trans κ) ?_
        refine Gl.st (g' := (mkF m 116 #[.val (.int x0), .val (.int x1), .val (.int x2), .val (.int x3), .val (.ref b111), .val (.int (x1 &&& (3 : Int32))), .val (.int ca), .val (.int cb), .val (.ref b111), .val (.ref b286)] [])) (fun τ κ => XS.astore X286.here hx rfl (hb hby at_114) rfl rfl (l' := #[.val (.int x0), .val (.int x1), .val (.int x2), .val (.int x3), .val (.ref b111), .val (.int (x1 &&& (3 : Int32))), .val (.int ca), .val (.int cb), .val (.ref b111), .val (.ref b286)]) rfl κ) ?_
        refine Gl.st (g' := (mkF m 118 #[.val (.int x0), .val (.int x1), .val (.int x2), .val (.int x3), .val (.ref b111), .val (.int (x1 &&& (3 : Int32))), .val (.int ca), .val (.int cb), .val (.ref b111), .val (.ref b286)] [(.ref b286)])) (fun τ κ => XS.aload X286.here hx rfl (hb hby at_116) rfl rfl κ) ?_
        obtain ⟨cl_o295, Ar_o295, q_o295, S_o295, M_o295, H_o295, G_o295⟩ := id V286
        refine Gl.st (g' := (mkF m 119 #[.val (.int x0), .val (.int x1), .val (.int x2), .val (.int x3), .val (.ref b111), .val (.int (x1 &&& (3 : Int32))), .val (.int ca), .val (.int cb), .val (.ref b111), .val (.ref b286)] [(.int (1 : Int32))])) (fun τ κ => X286.arraylength hx Ar_o295.1 (State.isArrayOf_alike hZ.alike Ar_o295.2.1) (g := (mkF m 118 #[.val (.int x0), .val (.int x1), .val (.int x2), .val (.int x3), .val (.ref b111), .val (.int (x1 &&& (3 : Int32))), .val (.int ca), .val (.int cb), .val (.ref b111), .val (.ref b286)] [(.ref b286)])) rfl rfl (hb hby at_118) _ (by rw [len_of S_o295 M_o295]; exact κ)) ?_
        refine Gl.st (g' := (mkF m 120 #[.val (.int x0), .val (.int x1), .val (.int x2), .val (.int x3), .val (.ref b111), .val (.int (x1 &&& (3 : Int32))), .val (.int ca), .val (.int cb), .val (.ref b111), .val (.ref b286)] [(.int (1 : Int32)), (.int (1 : Int32))])) (fun τ κ => XS.iconst X286.here hx rfl (hb hby at_119) κ) ?_
        have hc296 : (1 : Int32) = (1 : Int32) := by decide
        refine Gl.st (g' := (mkF m 123 #[.val (.int x0), .val (.int x1), .val (.int x2), .val (.int x3), .val (.ref b111), .val (.int (x1 &&& (3 : Int32))), .val (.int ca), .val (.int cb), .val (.ref b111), .val (.ref b286)] [])) (fun τ κ => XS.icmpNo X286.here hx rfl (hb hby at_120) rfl (teq hc296).2 κ) ?_
        refine Gl.st (g' := (mkF m 125 #[.val (.int x0), .val (.int x1), .val (.int x2), .val (.int x3), .val (.ref b111), .val (.int (x1 &&& (3 : Int32))), .val (.int ca), .val (.int cb), .val (.ref b111), .val (.ref b286)] [(.ref b286)])) (fun τ κ => XS.aload X286.here hx rfl (hb hby at_123) rfl rfl κ) ?_
        refine Gl.st (g' := (mkF m 126 #[.val (.int x0), .val (.int x1), .val (.int x2), .val (.int x3), .val (.ref b111), .val (.int (x1 &&& (3 : Int32))), .val (.int ca), .val (.int cb), .val (.ref b111), .val (.ref b286)] [(.int (0 : Int32)), (.ref b286)])) (fun τ κ => XS.iconst X286.here hx rfl (hb hby at_125) κ) ?_
        obtain ⟨cl_o297, Ar_o297, q_o297, S_o297, M_o297, H_o297, G_o297⟩ := id V286
        have hin_o297 : ¬ ((0 : Int32) < 0 ∨ cl_o297.slots.size ≤ ((0 : Int32)).toNatClampNeg) := inb_of S_o297 ⟨by decide, by decide⟩
        refine Gl.st (g' := (mkF m 127 #[.val (.int x0), .val (.int x1), .val (.int x2), .val (.int x3), .val (.ref b111), .val (.int (x1 &&& (3 : Int32))), .val (.int ca), .val (.int cb), .val (.ref b111), .val (.ref b286)] [(.int (cb.toInt8.toInt32))])) (fun τ κ => X286.baloadBytes hx (j := (0 : Int32)) (v := (.int (cb.toInt8.toInt32))) Ar_o297.1 (State.isArrayOf_alike hZ.alike Ar_o297.2.1) Ar_o297.2.2 hin_o297 ((H_o297 _ (Nat.lt_of_not_le fun q => hin_o297 (Or.inr q))).trans (congrArg some ((hv286 _ (by decide)).trans hw277))) (g := (mkF m 126 #[.val (.int x0), .val (.int x1), .val (.int x2), .val (.int x3), .val (.ref b111), .val (.int (x1 &&& (3 : Int32))), .val (.int ca), .val (.int cb), .val (.ref b111), .val (.ref b286)] [(.int (0 : Int32)), (.ref b286)])) rfl rfl (hb hby at_126) _ κ) ?_
        refine Gl.st (g' := (mkF m 129 #[.val (.int x0), .val (.int x1), .val (.int x2), .val (.int x3), .val (.ref b111), .val (.int (x1 &&& (3 : Int32))), .val (.int ca), .val (.int cb), .val (.ref b111), .val (.ref b286)] [(.int cb), (.int (cb.toInt8.toInt32))])) (fun τ κ => XS.iload X286.here hx rfl (hb hby at_127) rfl κ) ?_
        refine Gl.st (g' := (mkF m 130 #[.val (.int x0), .val (.int x1), .val (.int x2), .val (.int x3), .val (.ref b111), .val (.int (x1 &&& (3 : Int32))), .val (.int ca), .val (.int cb), .val (.ref b111), .val (.ref b286)] [(.int (cb.toInt8.toInt32)), (.int (cb.toInt8.toInt32))])) (fun τ κ => XS.i2b X286.here hx rfl (hb hby at_129) rfl κ) ?_
        have hc298 : (cb.toInt8.toInt32) = (cb.toInt8.toInt32) := rfl
        refine Gl.st (g' := (mkF m 133 #[.val (.int x0), .val (.int x1), .val (.int x2), .val (.int x3), .val (.ref b111), .val (.int (x1 &&& (3 : Int32))), .val (.int ca), .val (.int cb), .val (.ref b111), .val (.ref b286)] [])) (fun τ κ => XS.icmpNo X286.here hx rfl (hb hby at_130) rfl (teq hc298).2 κ) ?_
        refine Gl.st (g' := (mkF m 134 #[.val (.int x0), .val (.int x1), .val (.int x2), .val (.int x3), .val (.ref b111), .val (.int (x1 &&& (3 : Int32))), .val (.int ca), .val (.int cb), .val (.ref b111), .val (.ref b286)] [(.int (1 : Int32))])) (fun τ κ => XS.iconst X286.here hx rfl (hb hby at_133) κ) ?_
        refine Gl.st (g' := (mkF m 138 #[.val (.int x0), .val (.int x1), .val (.int x2), .val (.int x3), .val (.ref b111), .val (.int (x1 &&& (3 : Int32))), .val (.int ca), .val (.int cb), .val (.ref b111), .val (.ref b286)] [(.int (1 : Int32))])) (fun τ κ => XS.goto X286.here hx rfl (pc0 := 134) (pc' := 138) rfl (hb hby at_134) (by decide) (by decide) κ) ?_
        exact Gl.ret (v := some (.int (1 : Int32))) X286 Bd.notSynchronized (fun h => by rw [Bd.returns] at h; cases h) rfl (fun fs hr => retN X286 hx (t := .boolean) Bd.returns (by simp) (hb hby at_138) hr) (by decide) (by decide) ⟨rfl, N286⟩
set_option maxRecDepth 65536 in
set_option maxHeartbeats 40000000 in
theorem comes_1 {Post : Tables → Env → Array Value → State → Outcome → State → Prop} (hpost : ∀ tb e args s v u, (limb_1_1.after args s (.returned v) u = true ∧ limb_1_2.after args s (.returned v) u = true ∧ True) → FrameEnd s (.returned v) u (Jvm.fieldLocs frame_1_writes args s ++ Jvm.arrayLocs frame_1_arrays args s ++ Jvm.staticLocs frame_1_statics s) 24 128 → Post tb e args s (.returned v) u) :
    ArmFor flags0 classFile x code maxLocals ret World_1 tables_1 room_1 Calls_1 rest_1 Pre_1 Post := by
  intro l hfl _ _ p e ha hc hk s m args below hf hA hF happ hP
  obtain ⟨hcalls, hrest, hpre⟩ := hP
  obtain ⟨-, -, -, hnamed, -, -, -, hat⟩ := (Spec.applies_iff hf).mp happ
  obtain ⟨hg, hn⟩ := and_e (Cond.before_iff.mp (show (Jvm.Cond.and given_1 narrow_1).before args s = true from hpre))
  obtain ⟨hcount, hg0⟩ := and_e hg
  obtain ⟨gi0, hg1⟩ := and_e hg0
  obtain ⟨gi1, hg2⟩ := and_e hg1
  obtain ⟨gi2, hg3⟩ := and_e hg2
  have gi3 := hg3
  obtain ⟨w0, w1, w2, w3, rfl⟩ : ∃ w0 w1 w2 w3 : Value, args = #[w0, w1, w2, w3] := by
    have hs : args.size = 4 := by simpa [Cond.value, given_1] using hcount
    obtain ⟨L⟩ := args
    match L, hs with
    | [w0, w1, w2, w3], _ => exact ⟨w0, w1, w2, w3, rfl⟩
  have hw := fun d (hd : d ∈ tables_1) => atoms_spec (ws := Jvm.Cond.code x code maxLocals ret :: tables_1) hat d (List.mem_cons_of_mem _ hd)
  obtain ⟨i0, ei0⟩ := is_v gi0
  obtain rfl : w0 = (.int i0) := Option.some.inj ei0
  obtain ⟨i1, ei1⟩ := is_v gi1
  obtain rfl : w1 = (.int i1) := Option.some.inj ei1
  obtain ⟨i2, ei2⟩ := is_v gi2
  obtain rfl : w2 = (.int i2) := Option.some.inj ei2
  obtain ⟨i3, ei3⟩ := is_v gi3
  obtain rfl : w3 = (.int i3) := Option.some.inj ei3
  obtain ⟨n, o, h1, h2, h3, _, L, rfl, ⟨rfl, N⟩, hq⟩ := rm0 l s _ hw tables_1 i0 i1 i2 i3  s.heap s.heap.size (Nat.le_refl _)  p e ha hc hk s m _ below hf ((Spec.applies_iff_loose hf).mp happ).1 ⟨rfl, State.Warmed39.refl s, rfl⟩ trivial
  refine ⟨n, _, h1, h2, h3, hpost _ _ _ _ _ _ ⟨Cond.after_iff.mpr rfl, Cond.after_iff.mpr (eq_i res_at (Term.int_eval (1)) rfl), trivial⟩ ⟨hq.1, hq.2.1, (hq.2.2.sift fun y hy => Or.inr (N y hy)).mono (by decide) (by decide)⟩⟩
theorem main_1_1 : Claimed_1_1 := comes_1 fun _ _ _ _ _ _ h hF => ⟨h.1, hF⟩
theorem main_1_2 : Claimed_1_2 := comes_1 fun _ _ _ _ _ _ h hF => ⟨h.2.1, hF⟩
end Jvm.Pilot.@@N@@
namespace Jvm.Pilot.@@N@@
open Jvm Jvm.ClassFile Sem Op Lib Jvm.Free Jvm.Stand Jvm.Pilot.@@N@@.Jvm.D
/-! MADE BY PROGRAM (witnessworld.py) out of the Statement's table words and the real class files: 12 classes; the members and pool entries that the words name. The judged class is class 1, her method 1. -/
namespace start1
open Jvm.ClassFile
def u (s : String) : CpInfo := .utf8 (stringToUtf16 s)
/-- a pool by its gaps: so many unusable entries, then the entry; so many at the end -/
def gap : Nat → List CpInfo → List CpInfo
  | 0, r => r
  | n + 1, r => .unusable :: gap n r
def poolList (es : List (Nat × CpInfo)) (last : Nat) : List CpInfo := es.foldr (fun e r => gap e.1 (e.2 :: r)) (gap last [])
def pool (es : List (Nat × CpInfo)) (last : Nat) : Array CpInfo := ⟨poolList es last⟩
def fileOf (pool : Array CpInfo) (this : Nat) (attrs : Array Attribute := #[]) (ms : Array MethodInfo := #[]) (fl : Nat := 33) (sup : Nat := 0) (ifs : Array Nat := #[]) (fds : Array FieldInfo := #[]) : ClassFile where
  minorVersion := 0
  majorVersion := 65
  constantPool := pool
  accessFlags := fl
  thisClass := this
  superClass := sup
  interfaces := ifs
  fields := fds
  methods := ms
  attributes := attrs
def plain (name : String) (sup : Option ClassId) : Class where
  name := name
  kind := .ordinary
  loader := none
  accessFlags := 33
  super := sup
  interfaces := #[]
  cf := none
  fields := #[]
  methods := #[]
  instanceTypes := #[]
  staticTypes := #[]
  resolved := #[]
  callSites := []
  init := .initialized
  statics := none
  mirror := none

def pool0 : Array CpInfo := pool [(5, u "<init>"), (0, u "()V"), (1, .class_ 10), (1, u "java/lang/Object"), (85, u "clone"), (0, u "()Ljava/lang/Object;")] 26

def k0c0 : Code := { maxStack := 0, maxLocals := 1, code := object_method_1_code, exceptionTable := #[], attributes := #[] }
def k0m0 : Method := { name := "<init>", desc := "()V", sig := { parameters := [], returnType := none }, accessFlags := 1, code := some k0c0 }
def k0m1 : Method := { name := "clone", desc := "()Ljava/lang/Object;", sig := { parameters := [], returnType := some (.object "java/lang/Object") }, accessFlags := 260, code := none }
/-- java/lang/Object -/
def k0 : Class := { plain "java/lang/Object" none with
  accessFlags := 33
  interfaces := #[]
  cf := some (fileOf pool0 8 #[] #[{ accessFlags := 1, nameIndex := 5, descriptorIndex := 6, attributes := #[] }, { accessFlags := 260, nameIndex := 96, descriptorIndex := 97, attributes := #[] }] 33 0 #[] #[])
  fields := #[]
  methods := #[k0m0, k0m1]
  instanceTypes := #[]
  staticTypes := #[]
  resolved := Array.replicate 124 none
  statics := none }

def pool1 : Array CpInfo := pool [(2, .class_ 4), (1, u "java/lang/Object"), (0, u "<init>"), (0, u "()V"), (0, .class_ 8), (0, u "com/example/hermitage/hermitage/frame/JsonText"), (0, .methodref 7 10), (0, .nameAndType 5 11), (0, u "(I)V"), (0, .methodref 7 13), (0, .nameAndType 14 15), (0, u "mark"), (0, u "(C)Lcom/example/hermitage/hermitage/frame/JsonText;"), (0, .methodref 7 17), (0, .nameAndType 18 19), (0, u "clear"), (0, u "()Lcom/example/hermitage/hermitage/frame/JsonText;"), (0, .methodref 7 21), (0, .nameAndType 22 23), (0, u "toBytes"), (0, u "()[B"), (0, .class_ 25), (0, u "com/example/hermitage/hermitage/frame/JsonTextClearPinLaw"), (2, u "law"), (0, u "(IIII)Z")] 5

def k1m0 : Method := { name := "<init>", desc := "()V", sig := { parameters := [], returnType := none }, accessFlags := 1, code := none }
def k1c1 : Code := { maxStack := 4, maxLocals := 10, code := code, exceptionTable := #[], attributes := #[] }
def k1m1 : Method := { name := "law", desc := "(IIII)Z", sig := { parameters := [.int, .int, .int, .int], returnType := some .boolean }, accessFlags := 9, code := some k1c1 }
/-- com/example/hermitage/hermitage/frame/JsonTextClearPinLaw -/
def k1 : Class := { plain "com/example/hermitage/hermitage/frame/JsonTextClearPinLaw" (some 0) with
  accessFlags := 49
  interfaces := #[]
  cf := some (fileOf pool1 24 #[] #[{ accessFlags := 1, nameIndex := 5, descriptorIndex := 6, attributes := #[] }, { accessFlags := 9, nameIndex := 28, descriptorIndex := 29, attributes := #[] }] 49 2 #[] #[])
  fields := #[]
  methods := #[k1m0, k1m1]
  instanceTypes := #[]
  staticTypes := #[]
  resolved := Array.replicate 35 none
  statics := none }

def pool2 : Array CpInfo := pool [(1, .methodref 2 3), (0, .class_ 4), (0, .nameAndType 5 6), (0, u "java/lang/Object"), (0, u "<init>"), (0, u "()V"), (0, .fieldref 8 9), (0, .class_ 10), (0, .nameAndType 11 12), (0, u "com/example/hermitage/hermitage/frame/JsonText"), (0, u "capacity"), (0, u "I"), (0, .fieldref 8 14), (0, .nameAndType 15 16), (0, u "bytes"), (0, u "[B"), (0, .integer 1048576), (0, .fieldref 8 19), (0, .nameAndType 20 12), (0, u "length"), (0, .methodref 8 22), (0, .nameAndType 23 24), (0, u "room"), (0, u "(I)V"), (2, u "NAMES"), (0, u "Ljava/util/Map;"), (20, u "mark"), (0, u "(C)Lcom/example/hermitage/hermitage/frame/JsonText;"), (2, u "toBytes"), (0, u "()[B"), (50, u "NULL"), (0, .methodref 107 108), (0, .class_ 109), (0, .nameAndType 110 111), (0, u "java/util/Arrays"), (0, u "copyOf"), (0, u "([BI)[B"), (14, u "HEX"), (1, .methodref 129 130), (0, .class_ 131), (0, .nameAndType 132 133), (0, u "java/lang/Math"), (0, u "max"), (0, u "(II)I"), (3, u "LONGEST_CHAR"), (2, u "NAMES_KEPT"), (1, u "BYTES_KEPT"), (4, u "clear"), (0, u "()Lcom/example/hermitage/hermitage/frame/JsonText;")] 10

def k2c0 : Code := { maxStack := 2, maxLocals := 2, code := prog_6_method_1_code, exceptionTable := #[], attributes := #[] }
def k2m0 : Method := { name := "<init>", desc := "(I)V", sig := { parameters := [.int], returnType := none }, accessFlags := 0, code := some k2c0 }
def k2c1 : Code := { maxStack := 2, maxLocals := 1, code := prog_6_method_2_code, exceptionTable := #[], attributes := #[] }
def k2m1 : Method := { name := "clear", desc := "()Lcom/example/hermitage/hermitage/frame/JsonText;", sig := { parameters := [], returnType := some (.object "com/example/hermitage/hermitage/frame/JsonText") }, accessFlags := 0, code := some k2c1 }
def k2c2 : Code := { maxStack := 5, maxLocals := 2, code := prog_6_method_3_code, exceptionTable := #[], attributes := #[] }
def k2m2 : Method := { name := "mark", desc := "(C)Lcom/example/hermitage/hermitage/frame/JsonText;", sig := { parameters := [.char], returnType := some (.object "com/example/hermitage/hermitage/frame/JsonText") }, accessFlags := 0, code := some k2c2 }
def k2c3 : Code := { maxStack := 2, maxLocals := 1, code := prog_6_method_8_code, exceptionTable := #[], attributes := #[] }
def k2m3 : Method := { name := "toBytes", desc := "()[B", sig := { parameters := [], returnType := some (.array .byte) }, accessFlags := 0, code := some k2c3 }
def k2c4 : Code := { maxStack := 5, maxLocals := 2, code := prog_6_method_15_code, exceptionTable := #[], attributes := #[] }
def k2m4 : Method := { name := "room", desc := "(I)V", sig := { parameters := [.int], returnType := none }, accessFlags := 2, code := some k2c4 }
/-- com/example/hermitage/hermitage/frame/JsonText -/
def k2 : Class := { plain "com/example/hermitage/hermitage/frame/JsonText" (some 0) with
  accessFlags := 32
  interfaces := #[]
  cf := some (fileOf pool2 8 #[] #[{ accessFlags := 0, nameIndex := 5, descriptorIndex := 24, attributes := #[] }, { accessFlags := 0, nameIndex := 147, descriptorIndex := 148, attributes := #[] }, { accessFlags := 0, nameIndex := 49, descriptorIndex := 50, attributes := #[] }, { accessFlags := 0, nameIndex := 53, descriptorIndex := 54, attributes := #[] }, { accessFlags := 2, nameIndex := 23, descriptorIndex := 24, attributes := #[] }] 32 2 #[] #[{ accessFlags := 26, nameIndex := 137, descriptorIndex := 12, attributes := #[] }, { accessFlags := 26, nameIndex := 126, descriptorIndex := 16, attributes := #[] }, { accessFlags := 26, nameIndex := 105, descriptorIndex := 16, attributes := #[] }, { accessFlags := 26, nameIndex := 140, descriptorIndex := 12, attributes := #[] }, { accessFlags := 26, nameIndex := 142, descriptorIndex := 12, attributes := #[] }, { accessFlags := 26, nameIndex := 27, descriptorIndex := 28, attributes := #[] }, { accessFlags := 18, nameIndex := 11, descriptorIndex := 12, attributes := #[] }, { accessFlags := 2, nameIndex := 15, descriptorIndex := 16, attributes := #[] }, { accessFlags := 2, nameIndex := 20, descriptorIndex := 12, attributes := #[] }])
  fields := #[{ name := "LONGEST_CHAR", type := .int, accessFlags := 26, slot := 0, constantValue := 0 }, { name := "HEX", type := (.array .byte), accessFlags := 26, slot := 1, constantValue := 0 }, { name := "NULL", type := (.array .byte), accessFlags := 26, slot := 2, constantValue := 0 }, { name := "NAMES_KEPT", type := .int, accessFlags := 26, slot := 3, constantValue := 0 }, { name := "BYTES_KEPT", type := .int, accessFlags := 26, slot := 4, constantValue := 0 }, { name := "NAMES", type := (.object "java/util/Map"), accessFlags := 26, slot := 5, constantValue := 0 }, { name := "capacity", type := .int, accessFlags := 18, slot := 0, constantValue := 0 }, { name := "bytes", type := (.array .byte), accessFlags := 2, slot := 1, constantValue := 0 }, { name := "length", type := .int, accessFlags := 2, slot := 2, constantValue := 0 }]
  methods := #[k2m0, k2m1, k2m2, k2m3, k2m4]
  instanceTypes := #[.int, (.array .byte), .int]
  staticTypes := #[.int, (.array .byte), (.array .byte), .int, .int, (.object "java/util/Map")]
  resolved := Array.replicate 159 none
  statics := none }

def pool3 : Array CpInfo := pool [(1, .class_ 2), (0, u "java/lang/Math"), (1, .class_ 6), (1, u "java/lang/Object"), (0, u "<init>"), (0, u "()V"), (89, .class_ 100), (1, u "java/lang/Math$RandomNumberGeneratorHolder"), (71, u "negativeZeroFloatBits"), (0, u "J"), (2, u "negativeZeroDoubleBits"), (21, u "max"), (2, u "min"), (43, u "$assertionsDisabled"), (0, u "Z"), (88, u "(II)I"), (2, u "twoToTheDoubleScaleDown"), (0, u "D"), (4, u "twoToTheDoubleScaleUp"), (9, u "E"), (3, u "PI"), (2, u "TAU"), (2, u "DEGREES_TO_RADIANS"), (0, u "RADIANS_TO_DEGREES")] 94

def k3m0 : Method := { name := "<init>", desc := "()V", sig := { parameters := [], returnType := none }, accessFlags := 2, code := none }
def k3c1 : Code := { maxStack := 2, maxLocals := 2, code := jdk_29_method_65_code, exceptionTable := #[], attributes := #[] }
def k3m1 : Method := { name := "max", desc := "(II)I", sig := { parameters := [.int, .int], returnType := some .int }, accessFlags := 9, code := some k3c1 }
def k3c2 : Code := { maxStack := 2, maxLocals := 2, code := jdk_29_method_69_code, exceptionTable := #[], attributes := #[] }
def k3m2 : Method := { name := "min", desc := "(II)I", sig := { parameters := [.int, .int], returnType := some .int }, accessFlags := 9, code := some k3c2 }
/-- java/lang/Math -/
def k3 : Class := { plain "java/lang/Math" (some 0) with
  accessFlags := 49
  interfaces := #[]
  cf := some (fileOf pool3 1 #[.nestMembers #[98]] #[{ accessFlags := 2, nameIndex := 7, descriptorIndex := 8, attributes := #[] }, { accessFlags := 9, nameIndex := 198, descriptorIndex := 335, attributes := #[] }, { accessFlags := 9, nameIndex := 201, descriptorIndex := 335, attributes := #[] }] 49 4 #[] #[{ accessFlags := 25, nameIndex := 354, descriptorIndex := 339, attributes := #[] }, { accessFlags := 25, nameIndex := 358, descriptorIndex := 339, attributes := #[] }, { accessFlags := 25, nameIndex := 361, descriptorIndex := 339, attributes := #[] }, { accessFlags := 26, nameIndex := 364, descriptorIndex := 339, attributes := #[] }, { accessFlags := 26, nameIndex := 365, descriptorIndex := 339, attributes := #[] }, { accessFlags := 26, nameIndex := 172, descriptorIndex := 173, attributes := #[] }, { accessFlags := 26, nameIndex := 176, descriptorIndex := 173, attributes := #[] }, { accessFlags := 8, nameIndex := 344, descriptorIndex := 339, attributes := #[] }, { accessFlags := 8, nameIndex := 338, descriptorIndex := 339, attributes := #[] }, { accessFlags := 4120, nameIndex := 245, descriptorIndex := 246, attributes := #[] }])
  fields := #[{ name := "E", type := .double, accessFlags := 25, slot := 0, constantValue := 0 }, { name := "PI", type := .double, accessFlags := 25, slot := 1, constantValue := 0 }, { name := "TAU", type := .double, accessFlags := 25, slot := 2, constantValue := 0 }, { name := "DEGREES_TO_RADIANS", type := .double, accessFlags := 26, slot := 3, constantValue := 0 }, { name := "RADIANS_TO_DEGREES", type := .double, accessFlags := 26, slot := 4, constantValue := 0 }, { name := "negativeZeroFloatBits", type := .long, accessFlags := 26, slot := 5, constantValue := 0 }, { name := "negativeZeroDoubleBits", type := .long, accessFlags := 26, slot := 6, constantValue := 0 }, { name := "twoToTheDoubleScaleUp", type := .double, accessFlags := 8, slot := 7, constantValue := 0 }, { name := "twoToTheDoubleScaleDown", type := .double, accessFlags := 8, slot := 8, constantValue := 0 }, { name := "$assertionsDisabled", type := .boolean, accessFlags := 4120, slot := 9, constantValue := 0 }]
  methods := #[k3m0, k3m1, k3m2]
  instanceTypes := #[]
  staticTypes := #[.double, .double, .double, .double, .double, .long, .long, .double, .double, .boolean]
  resolved := Array.replicate 460 none
  statics := none }

def pool4 : Array CpInfo := pool [(2, .class_ 4), (1, u "java/lang/Object"), (0, u "<init>"), (0, u "()V"), (7, .class_ 16), (1, u "java/util/Arrays"), (57, .class_ 76), (1, u "java/util/Arrays$NaturalOrder"), (32, u "()Ljava/lang/Object;"), (3, .class_ 115), (1, u "java/util/Arrays$LegacyMergeSort"), (1, u "Z"), (10, .nameAndType 129 109), (0, u "clone"), (20, .methodref 151 152), (0, .class_ 153), (0, .nameAndType 154 155), (0, u "java/lang/System"), (0, u "arraycopy"), (0, u "(Ljava/lang/Object;ILjava/lang/Object;II)V"), (146, u "copyOf"), (1, .methodref 305 306), (0, .class_ 307), (0, .nameAndType 308 309), (0, u "java/lang/Math"), (0, u "min"), (0, u "(II)I"), (0, .methodref 311 128), (0, .class_ 312), (0, u "[B"), (62, .class_ 376), (0, u "java/util/Arrays$ArrayList"), (68, u "$assertionsDisabled"), (269, u "MIN_ARRAY_SORT_GRAN"), (0, u "I"), (2, u "INSERTIONSORT_THRESHOLD"), (149, u "([BI)[B"), (105, .class_ 976), (0, u "java/util/Arrays$ArrayItr")] 52

def k4m0 : Method := { name := "<init>", desc := "()V", sig := { parameters := [], returnType := none }, accessFlags := 2, code := none }
def k4c1 : Code := { maxStack := 6, maxLocals := 3, code := jdk_65_method_121_code, exceptionTable := #[], attributes := #[] }
def k4m1 : Method := { name := "copyOf", desc := "([BI)[B", sig := { parameters := [(.array .byte), .int], returnType := some (.array .byte) }, accessFlags := 9, code := some k4c1 }
/-- java/util/Arrays -/
def k4 : Class := { plain "java/util/Arrays" (some 0) with
  accessFlags := 49
  interfaces := #[]
  cf := some (fileOf pool4 14 #[.nestMembers #[975, 375, 113, 74]] #[{ accessFlags := 2, nameIndex := 5, descriptorIndex := 6, attributes := #[] }, { accessFlags := 9, nameIndex := 302, descriptorIndex := 869, attributes := #[] }] 49 2 #[] #[{ accessFlags := 26, nameIndex := 715, descriptorIndex := 716, attributes := #[] }, { accessFlags := 26, nameIndex := 719, descriptorIndex := 716, attributes := #[] }, { accessFlags := 4120, nameIndex := 445, descriptorIndex := 117, attributes := #[] }])
  fields := #[{ name := "MIN_ARRAY_SORT_GRAN", type := .int, accessFlags := 26, slot := 0, constantValue := 0 }, { name := "INSERTIONSORT_THRESHOLD", type := .int, accessFlags := 26, slot := 1, constantValue := 0 }, { name := "$assertionsDisabled", type := .boolean, accessFlags := 4120, slot := 2, constantValue := 0 }]
  methods := #[k4m0, k4m1]
  instanceTypes := #[]
  staticTypes := #[.int, .int, .boolean]
  resolved := Array.replicate 1029 none
  statics := none }

def pool5 : Array CpInfo := pool [(2, .class_ 4), (1, u "java/lang/Object"), (0, u "<init>"), (0, u "()V"), (1, .class_ 10), (1, u "java/lang/System"), (0, u "allowSecurityManager"), (0, u "I"), (16, u "cons"), (0, u "Ljava/io/Console;"), (77, .class_ 110), (1, u "java/lang/System$CallersHolder"), (43, u "initialErrStream"), (0, u "Ljava/io/PrintStream;"), (19, u "security"), (0, u "Ljava/lang/SecurityManager;"), (31, .class_ 209), (0, u "java/lang/System$1"), (7, u "props"), (0, u "Ljava/util/Properties;"), (2, u "lineSeparator"), (0, u "Ljava/lang/String;"), (96, .class_ 321), (1, u "java/lang/System$LoggerFinder"), (5, .class_ 328), (0, u "java/lang/System$Logger"), (67, u "err"), (2, u "out"), (91, u "notSupportedJnuEncoding"), (15, u "in"), (17, u "initialIn"), (0, u "Ljava/io/InputStream;"), (35, u "bootLayer"), (0, u "Ljava/lang/ModuleLayer;"), (99, .class_ 664), (0, u "java/lang/System$2"), (9, u "NEVER"), (2, u "MAYBE"), (49, u "arraycopy"), (0, u "(Ljava/lang/Object;ILjava/lang/Object;II)V"), (72, .class_ 802), (0, u "java/lang/System$Logger$Level")] 31

def k5m0 : Method := { name := "<init>", desc := "()V", sig := { parameters := [], returnType := none }, accessFlags := 2, code := none }
def k5m1 : Method := { name := "arraycopy", desc := "(Ljava/lang/Object;ILjava/lang/Object;II)V", sig := { parameters := [(.object "java/lang/Object"), .int, (.object "java/lang/Object"), .int, .int], returnType := none }, accessFlags := 265, code := none }
/-- java/lang/System -/
def k5 : Class := { plain "java/lang/System" (some 0) with
  accessFlags := 49
  interfaces := #[]
  cf := some (fileOf pool5 8 #[.nestMembers #[319, 327, 801, 108, 663, 208]] #[{ accessFlags := 2, nameIndex := 5, descriptorIndex := 6, attributes := #[] }, { accessFlags := 265, nameIndex := 727, descriptorIndex := 728, attributes := #[] }] 49 2 #[] #[{ accessFlags := 25, nameIndex := 507, descriptorIndex := 526, attributes := #[] }, { accessFlags := 25, nameIndex := 399, descriptorIndex := 155, attributes := #[] }, { accessFlags := 25, nameIndex := 396, descriptorIndex := 155, attributes := #[] }, { accessFlags := 10, nameIndex := 525, descriptorIndex := 526, attributes := #[] }, { accessFlags := 26, nameIndex := 674, descriptorIndex := 12, attributes := #[] }, { accessFlags := 26, nameIndex := 677, descriptorIndex := 12, attributes := #[] }, { accessFlags := 10, nameIndex := 11, descriptorIndex := 12, attributes := #[] }, { accessFlags := 74, nameIndex := 175, descriptorIndex := 176, attributes := #[] }, { accessFlags := 10, nameIndex := 491, descriptorIndex := 222, attributes := #[] }, { accessFlags := 74, nameIndex := 29, descriptorIndex := 30, attributes := #[] }, { accessFlags := 74, nameIndex := 154, descriptorIndex := 155, attributes := #[] }, { accessFlags := 10, nameIndex := 217, descriptorIndex := 218, attributes := #[] }, { accessFlags := 10, nameIndex := 221, descriptorIndex := 222, attributes := #[] }, { accessFlags := 8, nameIndex := 562, descriptorIndex := 563, attributes := #[] }])
  fields := #[{ name := "in", type := (.object "java/io/InputStream"), accessFlags := 25, slot := 0, constantValue := 0 }, { name := "out", type := (.object "java/io/PrintStream"), accessFlags := 25, slot := 1, constantValue := 0 }, { name := "err", type := (.object "java/io/PrintStream"), accessFlags := 25, slot := 2, constantValue := 0 }, { name := "initialIn", type := (.object "java/io/InputStream"), accessFlags := 10, slot := 3, constantValue := 0 }, { name := "NEVER", type := .int, accessFlags := 26, slot := 4, constantValue := 0 }, { name := "MAYBE", type := .int, accessFlags := 26, slot := 5, constantValue := 0 }, { name := "allowSecurityManager", type := .int, accessFlags := 10, slot := 6, constantValue := 0 }, { name := "security", type := (.object "java/lang/SecurityManager"), accessFlags := 74, slot := 7, constantValue := 0 }, { name := "notSupportedJnuEncoding", type := (.object "java/lang/String"), accessFlags := 10, slot := 8, constantValue := 0 }, { name := "cons", type := (.object "java/io/Console"), accessFlags := 74, slot := 9, constantValue := 0 }, { name := "initialErrStream", type := (.object "java/io/PrintStream"), accessFlags := 74, slot := 10, constantValue := 0 }, { name := "props", type := (.object "java/util/Properties"), accessFlags := 10, slot := 11, constantValue := 0 }, { name := "lineSeparator", type := (.object "java/lang/String"), accessFlags := 10, slot := 12, constantValue := 0 }, { name := "bootLayer", type := (.object "java/lang/ModuleLayer"), accessFlags := 8, slot := 13, constantValue := 0 }]
  methods := #[k5m0, k5m1]
  instanceTypes := #[]
  staticTypes := #[(.object "java/io/InputStream"), (.object "java/io/PrintStream"), (.object "java/io/PrintStream"), (.object "java/io/InputStream"), .int, .int, .int, (.object "java/lang/SecurityManager"), (.object "java/lang/String"), (.object "java/io/Console"), (.object "java/io/PrintStream"), (.object "java/util/Properties"), (.object "java/lang/String"), (.object "java/lang/ModuleLayer")]
  resolved := Array.replicate 834 none
  statics := none }

def pool6 : Array CpInfo := pool [(1, .class_ 2), (0, u "java/lang/Cloneable"), (0, .class_ 4), (0, u "java/lang/Object")] 2

/-- java/lang/Cloneable -/
def k6 : Class := { plain "java/lang/Cloneable" (some 0) with
  accessFlags := 1537
  interfaces := #[]
  cf := some (fileOf pool6 1 #[] #[] 1537 3 #[] #[])
  fields := #[]
  methods := #[]
  instanceTypes := #[]
  staticTypes := #[]
  resolved := Array.replicate 7 none
  statics := none }

def pool7 : Array CpInfo := pool [(1, u "java/io/Serializable"), (0, .class_ 1), (0, u "java/lang/Object"), (0, .class_ 3)] 3

/-- java/io/Serializable -/
def k7 : Class := { plain "java/io/Serializable" (some 0) with
  accessFlags := 1537
  interfaces := #[]
  cf := some (fileOf pool7 2 #[] #[] 1537 4 #[] #[])
  fields := #[]
  methods := #[]
  instanceTypes := #[]
  staticTypes := #[]
  resolved := Array.replicate 8 none
  statics := none }

/-- the primitive byte -/
def k8 : Class := { plain "byte" none with kind := .primitive 'B', accessFlags := 0x411 }
/-- [B -/
def k9 : Class := { plain "[B" (some 0) with kind := .array 8 .byte, interfaces := #[6, 7], accessFlags := 1041 }

/-- the primitive int -/
def k10 : Class := { plain "int" none with kind := .primitive 'I', accessFlags := 0x411 }
/-- [I -/
def k11 : Class := { plain "[I" (some 0) with kind := .array 10 .int, interfaces := #[6, 7], accessFlags := 1041 }

def heap : Heap := #[]
def classes : Array Class := #[k0, k1, k2, k3, k4, k5, k6, k7, k8, k9, k10, k11]
def interned : List (Array UInt16 × Addr) := []
def slotsUsed : Nat := 0
def theMethod : MethodId := ⟨1, 1⟩
def args0 : Array Value := #[.int 5, .int 5, .int 5, .int 5]
def aboutOver (below : List Frame) : State where
  vm := { classes := classes, interned := interned.toArray }
  heap := heap
  slotsUsed := slotsUsed
  threads := #[{ frames := .invoking theMethod args0 :: below }]
def below0 : List Frame := [.native { method := ⟨0, 0⟩, args := #[] }]
def about1 : State := aboutOver below0
def p0 : Program := .bare "" "" ""
def e0 : Env := launch0.env 0 0 0
theorem w_frames : about1.frames = Frame.invoking theMethod args0 :: below0 := rfl
set_option maxRecDepth 65536 in
theorem w_args : argsFit about1.vm theMethod args0 = true := by decide +kernel
set_option maxRecDepth 65536 in
theorem w_heap : heapFits about1 = true := by decide +kernel
set_option maxRecDepth 65536 in
theorem w_runnable : about1.curStatus? = some .runnable := by decide +kernel
set_option maxRecDepth 65536 in
theorem w_alone : about1.alone = true := by decide +kernel
set_option maxRecDepth 65536 in
theorem w_named : about1.methodNamed? x = some theMethod := by decide +kernel
set_option maxRecDepth 65536 in
theorem w_hears : about1.hears theMethod below0 = true := by decide +kernel
set_option maxRecDepth 65536 in
theorem w_ripe : about1.ripe theMethod args0 below0 = true := by decide +kernel
theorem w_running : about1.status = .running := rfl
set_option maxRecDepth 65536 in
theorem w_room : about1.hasRoom e0.platform room_1 = true :=
  launch0.hasRoom_least _ room_1 (by decide +kernel) (by decide +kernel) (by decide +kernel) (by decide +kernel) (by decide +kernel) (by decide +kernel)
theorem allAtoms_all (ts : List Jvm.Cond) (a : Array Jvm.Value) (st : Jvm.State) : (allAtoms ts).before a st = ts.all (fun c => c.before a st) := by
  induction ts with
  | nil => rfl
  | cons c t ih =>
    show (Jvm.Cond.and c (allAtoms t)).before a st = _
    rw [Jvm.Cond.before_and, ih, List.all_cons]
def words1 : List Jvm.Cond := Jvm.Cond.code x code maxLocals ret :: tables_1
/-- a 'code' word, met by the world's own term for the bytes: nothing is compared byte by byte -/
theorem code_word {y : MethodName} {bytes : ByteArray} {mx : Nat} {rt : Option FieldType} {a : Array Value} {s : State} {m : MethodId} {meth : Method} {c : Code} (h1 : s.methodNamed? y = some m) (h2 : s.vm.method? m = some meth) (h3 : meth.code = some c) (h4 : c.code = bytes)
    (h5 : (c.maxLocals == mx && c.exceptionTable.isEmpty && decide (c.maxStack ≤ mostOperands) && decide (meth.sig.returnType = rt) && !meth.locks && decide (parseMethodDescriptor y.desc = some meth.sig)) = true) : (Jvm.Cond.code y bytes mx rt).before a s = true := by
  simp only [Bool.and_eq_true, beq_iff_eq, Bool.not_eq_true', decide_eq_true_eq] at h5
  obtain ⟨⟨⟨⟨⟨g1, g2⟩, g3⟩, g4⟩, g5⟩, g6⟩ := h5
  simp [Cond.before, Cond.holds, Cond.value, h1, h2, h3, h4, g1, g2, g3, g4, g5, g6]
def isCode : Jvm.Cond → Bool
  | .code _ _ _ _ => true
  | _ => false
theorem all_split {L : List Jvm.Cond} {P : Jvm.Cond → Bool} (h1 : L.all (fun c => isCode c || P c) = true) (h2 : ∀ c ∈ L.filter isCode, P c = true) : L.all P = true := by
  refine List.all_eq_true.mpr fun c hc => ?_
  have h := List.all_eq_true.mp h1 c hc
  rcases Bool.eq_false_or_eq_true (isCode c) with hi | hi
  · exact h2 c (List.mem_filter.mpr ⟨hc, hi⟩)
  · simpa [hi] using h
set_option maxRecDepth 65536 in
theorem w_c0 : (Jvm.Cond.code x code maxLocals ret).before args0 about1 = true := code_word (m := ⟨1, 1⟩) (meth := k1m1) (c := k1c1) (by decide +kernel) rfl rfl rfl (by decide +kernel)
set_option maxRecDepth 65536 in
theorem w_c1 : (Jvm.Cond.code ({ cls := "com/example/hermitage/hermitage/frame/JsonText", name := "<init>", desc := "(I)V" } : Jvm.MethodName) prog_6_method_1_code (2 : Nat) (Option.none : Option Jvm.ClassFile.FieldType)).before args0 about1 = true := code_word (m := ⟨2, 0⟩) (meth := k2m0) (c := k2c0) (by decide +kernel) rfl rfl rfl (by decide +kernel)
set_option maxRecDepth 65536 in
theorem w_c2 : (Jvm.Cond.code ({ cls := "java/lang/Object", name := "<init>", desc := "()V" } : Jvm.MethodName) object_method_1_code (1 : Nat) (Option.none : Option Jvm.ClassFile.FieldType)).before args0 about1 = true := code_word (m := ⟨0, 0⟩) (meth := k0m0) (c := k0c0) (by decide +kernel) rfl rfl rfl (by decide +kernel)
set_option maxRecDepth 65536 in
theorem w_c3 : (Jvm.Cond.code ({ cls := "com/example/hermitage/hermitage/frame/JsonText", name := "mark", desc := "(C)Lcom/example/hermitage/hermitage/frame/JsonText;" } : Jvm.MethodName) prog_6_method_3_code (2 : Nat) (Option.some (Jvm.ClassFile.FieldType.object "com/example/hermitage/hermitage/frame/JsonText"))).before args0 about1 = true := code_word (m := ⟨2, 2⟩) (meth := k2m2) (c := k2c2) (by decide +kernel) rfl rfl rfl (by decide +kernel)
set_option maxRecDepth 65536 in
theorem w_c4 : (Jvm.Cond.code ({ cls := "com/example/hermitage/hermitage/frame/JsonText", name := "room", desc := "(I)V" } : Jvm.MethodName) prog_6_method_15_code (2 : Nat) (Option.none : Option Jvm.ClassFile.FieldType)).before args0 about1 = true := code_word (m := ⟨2, 4⟩) (meth := k2m4) (c := k2c4) (by decide +kernel) rfl rfl rfl (by decide +kernel)
set_option maxRecDepth 65536 in
theorem w_c5 : (Jvm.Cond.code ({ cls := "java/lang/Math", name := "max", desc := "(II)I" } : Jvm.MethodName) jdk_29_method_65_code (2 : Nat) (Option.some Jvm.ClassFile.FieldType.int)).before args0 about1 = true := code_word (m := ⟨3, 1⟩) (meth := k3m1) (c := k3c1) (by decide +kernel) rfl rfl rfl (by decide +kernel)
set_option maxRecDepth 65536 in
theorem w_c6 : (Jvm.Cond.code ({ cls := "java/util/Arrays", name := "copyOf", desc := "([BI)[B" } : Jvm.MethodName) jdk_65_method_121_code (3 : Nat) (Option.some (Jvm.ClassFile.FieldType.array Jvm.ClassFile.FieldType.byte))).before args0 about1 = true := code_word (m := ⟨4, 1⟩) (meth := k4m1) (c := k4c1) (by decide +kernel) rfl rfl rfl (by decide +kernel)
set_option maxRecDepth 65536 in
theorem w_c7 : (Jvm.Cond.code ({ cls := "java/lang/Math", name := "min", desc := "(II)I" } : Jvm.MethodName) jdk_29_method_69_code (2 : Nat) (Option.some Jvm.ClassFile.FieldType.int)).before args0 about1 = true := code_word (m := ⟨3, 2⟩) (meth := k3m2) (c := k3c2) (by decide +kernel) rfl rfl rfl (by decide +kernel)
set_option maxRecDepth 65536 in
theorem w_c8 : (Jvm.Cond.code ({ cls := "com/example/hermitage/hermitage/frame/JsonText", name := "clear", desc := "()Lcom/example/hermitage/hermitage/frame/JsonText;" } : Jvm.MethodName) prog_6_method_2_code (1 : Nat) (Option.some (Jvm.ClassFile.FieldType.object "com/example/hermitage/hermitage/frame/JsonText"))).before args0 about1 = true := code_word (m := ⟨2, 1⟩) (meth := k2m1) (c := k2c1) (by decide +kernel) rfl rfl rfl (by decide +kernel)
set_option maxRecDepth 65536 in
theorem w_c9 : (Jvm.Cond.code ({ cls := "com/example/hermitage/hermitage/frame/JsonText", name := "toBytes", desc := "()[B" } : Jvm.MethodName) prog_6_method_8_code (1 : Nat) (Option.some (Jvm.ClassFile.FieldType.array Jvm.ClassFile.FieldType.byte))).before args0 about1 = true := code_word (m := ⟨2, 3⟩) (meth := k2m3) (c := k2c3) (by decide +kernel) rfl rfl rfl (by decide +kernel)
def codes1 : List Jvm.Cond := [Jvm.Cond.code x code maxLocals ret, Jvm.Cond.code ({ cls := "com/example/hermitage/hermitage/frame/JsonText", name := "<init>", desc := "(I)V" } : Jvm.MethodName) prog_6_method_1_code (2 : Nat) (Option.none : Option Jvm.ClassFile.FieldType), Jvm.Cond.code ({ cls := "java/lang/Object", name := "<init>", desc := "()V" } : Jvm.MethodName) object_method_1_code (1 : Nat) (Option.none : Option Jvm.ClassFile.FieldType), Jvm.Cond.code ({ cls := "com/example/hermitage/hermitage/frame/JsonText", name := "mark", desc := "(C)Lcom/example/hermitage/hermitage/frame/JsonText;" } : Jvm.MethodName) prog_6_method_3_code (2 : Nat) (Option.some (Jvm.ClassFile.FieldType.object "com/example/hermitage/hermitage/frame/JsonText")), Jvm.Cond.code ({ cls := "com/example/hermitage/hermitage/frame/JsonText", name := "room", desc := "(I)V" } : Jvm.MethodName) prog_6_method_15_code (2 : Nat) (Option.none : Option Jvm.ClassFile.FieldType), Jvm.Cond.code ({ cls := "java/lang/Math", name := "max", desc := "(II)I" } : Jvm.MethodName) jdk_29_method_65_code (2 : Nat) (Option.some Jvm.ClassFile.FieldType.int), Jvm.Cond.code ({ cls := "java/util/Arrays", name := "copyOf", desc := "([BI)[B" } : Jvm.MethodName) jdk_65_method_121_code (3 : Nat) (Option.some (Jvm.ClassFile.FieldType.array Jvm.ClassFile.FieldType.byte)), Jvm.Cond.code ({ cls := "java/lang/Math", name := "min", desc := "(II)I" } : Jvm.MethodName) jdk_29_method_69_code (2 : Nat) (Option.some Jvm.ClassFile.FieldType.int), Jvm.Cond.code ({ cls := "com/example/hermitage/hermitage/frame/JsonText", name := "clear", desc := "()Lcom/example/hermitage/hermitage/frame/JsonText;" } : Jvm.MethodName) prog_6_method_2_code (1 : Nat) (Option.some (Jvm.ClassFile.FieldType.object "com/example/hermitage/hermitage/frame/JsonText")), Jvm.Cond.code ({ cls := "com/example/hermitage/hermitage/frame/JsonText", name := "toBytes", desc := "()[B" } : Jvm.MethodName) prog_6_method_8_code (1 : Nat) (Option.some (Jvm.ClassFile.FieldType.array Jvm.ClassFile.FieldType.byte))]
set_option maxRecDepth 65536 in
theorem codes_eq : words1.filter isCode = codes1 := rfl
theorem w_codes : ∀ c ∈ words1.filter isCode, c.before args0 about1 = true := by
  rw [codes_eq]
  intro c hc
  simp only [codes1, List.mem_cons, List.not_mem_nil, or_false] at hc
  rcases hc with rfl | rfl | rfl | rfl | rfl | rfl | rfl | rfl | rfl | rfl
  · exact w_c0
  · exact w_c1
  · exact w_c2
  · exact w_c3
  · exact w_c4
  · exact w_c5
  · exact w_c6
  · exact w_c7
  · exact w_c8
  · exact w_c9
set_option maxRecDepth 65536 in
theorem w_t1 : (words1.take 24).all (fun c => isCode c || c.before args0 about1) = true := by decide +kernel
set_option maxRecDepth 65536 in
theorem w_t2 : ((words1.drop 24).take 24).all (fun c => isCode c || c.before args0 about1) = true := by decide +kernel
set_option maxRecDepth 65536 in
theorem w_t3 : ((words1.drop 24).drop 24).all (fun c => isCode c || c.before args0 about1) = true := by decide +kernel
theorem w_tables : (allAtoms (Jvm.Cond.code x code maxLocals ret :: tables_1)).before args0 about1 = true := by
  rw [allAtoms_all]
  show words1.all (fun c => c.before args0 about1) = true
  refine all_split ?_ w_codes
  rw [← List.take_append_drop 24 words1, List.all_append, w_t1, ← List.take_append_drop 24 (words1.drop 24), List.all_append, w_t2, w_t3]
  rfl
set_option maxRecDepth 65536 in
theorem w_case : (Jvm.Cond.and given_1 narrow_1).before args0 about1 = true := by decide +kernel
theorem w_applies : (headSpec (Jvm.Cond.code x code maxLocals ret :: tables_1) room_1).applies x e0.platform about1 = true :=
  (Spec.applies_iff w_frames).mpr ⟨w_running, w_runnable, w_alone, w_named, w_hears, w_ripe, w_room, w_tables⟩
theorem atStart : AtStart classFile x code maxLocals ret World_1 tables_1 room_1 Calls_1 rest_1 Pre_1 launch0 p0 e0 about1 theMethod args0 below0 :=
  ⟨lists_1, trivial, launch0.admits_env _ _ _, launch0.least_env, fairChoices_fair.cas, fairChoices_fair.clock, w_frames, w_args, w_heap, w_applies, trivial, trivial, w_case⟩
end start1
theorem witness_1 : WitnessClaimed_1 := ⟨start1.p0, start1.e0, start1.about1, start1.theMethod, start1.args0, start1.below0, start1.atStart⟩
end Jvm.Pilot.@@N@@
