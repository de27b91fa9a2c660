import JvmDerived
import JvmDerived.Pilot.@@N@@Statement
import JvmDerived.Pilot.@@N@@Code
set_option linter.unusedVariables false
set_option linter.unusedSimpArgs false
@@BLOCK:NumsL.lean.txt@@
namespace Jvm.RoadKit
open Sem ClassFile Op Lib Jvm.Stand Jvm.Free Jvm.LawKit
section New
variable {p : Program} {l : Launch} {e : Env} {R : Room} {s : State} {m : MethodId} {args : Array Value} {below : List Frame} {meth : Method} {c : Code} {T : State} {locs : List Loc} {cells slots : Nat}
theorem retI (X : Stand p l e R s m args below meth c T locs cells slots) (hx : p.tables.exec = Jvm.exec) {pc : Nat} {Ls : Array Slot} {z : Int32} {rest : List Value} (hret : meth.sig.returnType = some .int) (hd : decode c.code pc = .ok (.ireturn, 1)) {fs : List Frame}
    (hl : ∀ (f : JFrame) (acts : List Action), f.method = m → f.locked = none → f.entered = [] → (doReturn e (T.setTop f) acts (some (.int z))).1 = T.setFrames fs) : Steps p.tables e below (T.setTop (mkF m pc Ls (.int z :: rest))) (T.setFrames fs) := by
  have hm' : T.vm.method? m = some meth := X.method'
  have hn : narrow .int (.int z) = .int z := rfl
  show Steps p.tables e below (T.setTop { method := m, pc := pc, locals := Ls, stack := _ :: rest, locked := none }) _
  jvm_step X.here [X.here.top, hx, hd, hm', hret, hn]
  first | (intro acts; rw [hl _ acts rfl rfl rfl]) | rw [hl _ _ rfl rfl rfl]
  exact Steps.refl _
/-- the walk's goal, at any point of it -/
def Gl (p : Program) (e : Env) (below : List Frame) (s : State) (Q : Option Value → Heap → List Loc → Prop) (C N : Nat) (T : State) (g : JFrame) : Prop :=
  ∃ s₂ o, Steps p.tables e below (T.setTop g) s₂ ∧ s₂.status = .running ∧ Ended s₂ below o ∧ ∃ v L, o = .returned v ∧ Q v s₂.heap L ∧ FrameEnd s o s₂ L C N
variable {Q : Option Value → Heap → List Loc → Prop} {C N : Nat} {T' : State} {g g' : JFrame} {h : Heap}
theorem Gl.st (f : ∀ t, Steps p.tables e below (T'.setTop g') t → Steps p.tables e below (T.setTop g) t) (k : Gl p e below s Q C N T' g') : Gl p e below s Q C N T g := by
  obtain ⟨s₂, o, h1, r⟩ := k
  exact ⟨s₂, o, f _ h1, r⟩
theorem Gl.ret (X : Stand p l e R s m args below meth c T locs cells slots) (hlk : meth.locks = false) {v : Option Value} (hv : meth.sig.returnType = none → v = none) (eT : T.heap = h)
    (f : ∀ fs, (∀ (f : JFrame) (acts : List Action), f.method = m → f.locked = none → f.entered = [] → (doReturn e (T.setTop f) acts v).1 = T.setFrames fs) → Steps p.tables e below (T.setTop g) (T.setFrames fs)) (hc : cells ≤ C) (hn : slots ≤ N) (hQ : Q v h locs) : Gl p e below s Q C N T g := by
  obtain ⟨fs, hr, hrun, hended, hW, hsame⟩ := X.leave (v := v) hv hlk
  exact ⟨_, _, f fs hr, hrun, hended, _, _, rfl, by show Q v T.heap _; rw [eT]; exact hQ, ⟨_, rfl⟩, hW, hsame.mono hc hn⟩
theorem Arv.cellX {Z : State} {h : Heap} {a : Addr} {k : ClassId} {ty : FieldType} {z : Int32} {vs : List Value} {dv : Value} (F : Arv Z h a k ty z vs dv) : ∃ c : Cell, h[a]? = some c ∧ ∀ q, c.vm ≠ .statics q := by
  obtain ⟨c, A, -⟩ := F; exact ⟨c, A.1, A.2.1.1⟩
theorem selPrivate {s : State} {args : Array Value} {y z : MethodName} (hzy : z.cls = y.cls) (hsel : (Cond.selects z.cls z z).before args s = true) (hpriv : s.PrivateAt y) (hinst : (Cond.instanceMethod y).before args s = true) (hy : y.cls ≠ "java/lang/invoke/MethodHandle" ∧ y.cls ≠ "java/lang/invoke/VarHandle") : (Cond.selects y.cls y y).before args s = true := by
  obtain ⟨c2, r2, m2, -, -, q3, -, kP, hkP, hkPi⟩ := Cond.selects_spec hsel
  exact selects_self_of_private (by rw [← hzy]; exact findClass_of_methodNamed q3) hkP hkPi hpriv hinst hy
theorem Sta.keepX {Z : State} {h h' : Heap} {C n d : String} {v : Value} {ws : List Addr} (F : Sta Z h C n d v) (K : Keep h h' ws) (q : ∀ x ∈ ws, ∃ c : Cell, h[x]? = some c ∧ ∀ q, c.vm ≠ .statics q) : Sta Z h' C n d v := by
  obtain ⟨cf, i, k, f, st, cell, h1, h2, h3, h4, h5, h6, h7⟩ := F
  refine ⟨cf, i, k, f, st, cell, h1, h2, h3, h4, K.2.1 st cell h5 fun z => ?_, h6, h7⟩
  obtain ⟨c, e1, e2⟩ := q st z
  cases h5.symm.trans e1
  cases hv : cell.vm <;> simp [hv, VmData.isStatics] at h6
  exact e2 _ hv
end New
end Jvm.RoadKit
namespace Jvm.Pilot.@@N@@
open Jvm Jvm.ClassFile Sem Op Lib Jvm.Free Jvm.Stand Jvm.LawKit Jvm.RoadKit Bundle Jvm.Pilot.@@N@@.Jvm.D

theorem own_upd (vs : List Value) (j : Nat) (v dv : Value) : ∃ vs' : List Value, ∀ i, vs'.getD i dv = if i = j then v else vs.getD i dv := by
  refine ⟨(vs ++ List.replicate (j + 1) dv).set j v, fun i => ?_⟩
  rw [List.getD_eq_getElem?_getD, List.getElem?_set]
  by_cases e : j = i
  · subst e
    have hl : j < (vs ++ List.replicate (j + 1) dv).length := by rw [List.length_append, List.length_replicate]; omega
    simp only [if_true, hl, Option.getD_some]
  · have e' : ¬ i = j := fun h => e h.symm
    rw [if_neg e, if_neg e', ← List.getD_eq_getElem?_getD]; exact pad_rep vs dv (j + 1) i
theorem own_set {Z : State} {h h' : Heap} {a : Addr} {c : Cell} {ty : FieldType} {k : ClassId} {z : Int32} {vs vs' : List Value} {dv v : Value} {j : Nat} (A : Arr Z h a c ty) (q1 : c.cls = k) (S : c.slots.size = z.toNatClampNeg) (q3 : ¬ z < 0) (H : Has c vs dv) (G : ∀ i, i < c.slots.size → fits ty (vs.getD i dv) = true) (hv : fits ty v = true) (W : Wr h h' a j v)
    (e : ∀ i, vs'.getD i dv = if i = j then v else vs.getD i dv) : Arv Z h' a k ty z vs' dv := by
  refine ⟨c.setSlot j v, A.same W, q1, by rw [sz_set]; exact S, q3, fun i hi => ?_, fun i hi => ?_⟩
  · rw [sz_set] at hi
    rw [e]
    show (c.slots.setIfInBounds j v)[i]? = _
    rw [Array.getElem?_setIfInBounds]
    by_cases q : j = i
    · subst q; simp [hi]
    · rw [if_neg q, if_neg (fun h => q h.symm)]; exact H i hi
  · rw [sz_set] at hi
    rw [e]
    by_cases q : i = j
    · rw [if_pos q]; exact hv
    · rw [if_neg q]; exact G i hi
theorem own_i0 : (0 : Int32).toInt = 0 := rfl
theorem own_i1 : (1 : Int32).toInt = 1 := rfl
theorem own_i2 : (2 : Int32).toInt = 2 := rfl
theorem own_i3 : (3 : Int32).toInt = 3 := rfl
theorem own_i8 : (8 : Int32).toInt = 8 := rfl
theorem own_nat {x : Int32} (h : ¬ x < 0) : (x.toNatClampNeg : Int) = x.toInt := by
  rw [Int32.lt_iff_toInt_lt, own_i0] at h; simp only [Int32.toNatClampNeg]; omega
def own_max (a b : Int32) : Int32 := if a < b then b else a
theorem d5_0 : decode jdk_29_method_65_code 0 = .ok (.iload_n 0, 1) := by decide +kernel
theorem d5_1 : decode jdk_29_method_65_code 1 = .ok (.iload_n 1, 1) := by decide +kernel
theorem d5_2 : decode jdk_29_method_65_code 2 = .ok (.if_icmp .lt 7, 3) := by decide +kernel
theorem d5_9 : decode jdk_29_method_65_code 9 = .ok (.iload_n 1, 1) := by decide +kernel
theorem d5_10 : decode jdk_29_method_65_code 10 = .ok (.ireturn, 1) := by decide +kernel
theorem d5_5 : decode jdk_29_method_65_code 5 = .ok (.iload_n 0, 1) := by decide +kernel
theorem d5_6 : decode jdk_29_method_65_code 6 = .ok (.goto 4, 3) := by decide +kernel
theorem ef_rm5 (m : MethodId) (pa : Int32) (qa : Int32) : entryFrame m #[(.int pa), (.int qa)] 2 = mkF m 0 #[.val (.int pa), .val (.int qa)] [] := by first | (simp [entryFrame, mkF, argsToLocals, Value.category]; done) | rfl
def Q_rm5 (Z : State) (pa : Int32) (qa : Int32)  (h0 : Heap) (n0 : Nat) (v : Option Value) (h : Heap) (L : List Loc) : Prop := v = some (.int (own_max pa qa)) ∧ Fr n0 L ∧ h = h0
set_option maxRecDepth 65536 in
set_option maxHeartbeats 40000000 in
theorem rm5 (l : Launch) (Z : State) (a0 : Array Value) (hw : ∀ d ∈ tables_1, d.before a0 Z = true) (ws : List Jvm.Cond) (pa : Int32) (qa : Int32)  (h0 : Heap) (n0 : Nat) (Z0 : n0 ≤ h0.size)  :
    MetFree l (⟨"java/lang/Math", "max", "(II)I"⟩ : MethodName) (head1 (Jvm.Cond.code (⟨"java/lang/Math", "max", "(II)I"⟩ : MethodName) jdk_29_method_65_code 2 (some .int) :: ws) ({ frames := 0, cells := 0, slots := 0, locals := 0 } : Room)) (fun aα Uα => aα = #[(.int pa), (.int qa)] ∧ Z.Warmed39 Uα.vm ∧ Uα.heap = h0) (fun _ _ _ _ _ => True) (fun _ Uα oα Uβ => ∃ vα Lα, oα = .returned vα ∧ Q_rm5 Z pa qa  h0 n0 vα Uβ.heap Lα ∧ FrameEnd Uα oα Uβ Lα ({ frames := 0, cells := 0, slots := 0, locals := 0 } : Room).cells ({ frames := 0, cells := 0, slots := 0, locals := 0 } : Room).slots) := by
  refine MetFree.of_bodySF (Jvm.Free.JP.mathPlain rfl (by decide +kernel)) hisR ?_
  intro p e s m args below meth c s₁ Bd hml0 hP hKα
  obtain ⟨rfl, hZ, hh⟩ := hP
  have hx := Bd.exec
  have hby := Bd.bytes
  have hml : c.maxLocals = 2 := hml0
  have hown : s.vm.findClass "java/lang/Math" = some m.cls := findClass_of_methodNamed Bd.named
  have hnm := (name_of_methodNamed Bd.named Bd.method).1
  have X0 : Stand p l e ({ frames := 0, cells := 0, slots := 0, locals := 0 } : Room) s m #[(.int pa), (.int qa)] below meth c s₁ [] 0 0 := Stand.of_body Bd
  have e0 : s₁.heap = h0 := by rw [← hh, Bd.state]; rfl
  have N0 := Fr.nil n0
  suffices k0 : Gl p e below s (Q_rm5 Z pa qa  h0 n0) ({ frames := 0, cells := 0, slots := 0, locals := 0 } : Room).cells ({ frames := 0, cells := 0, slots := 0, locals := 0 } : Room).slots s₁ (mkF m 0 #[.val (.int pa), .val (.int qa)] []) from Gl.st (fun τ κ => castTop (ef_rm5 m pa qa) κ) k0
  refine Gl.st (g' := (mkF m 1 #[.val (.int pa), .val (.int qa)] [(.int pa)])) (fun τ κ => XS.iloadN X0.here hx rfl (hb hby d5_0) rfl κ) ?_
  refine Gl.st (g' := (mkF m 2 #[.val (.int pa), .val (.int qa)] [(.int qa), (.int pa)])) (fun τ κ => XS.iloadN X0.here hx rfl (hb hby d5_1) rfl κ) ?_
  by_cases hc1 : pa < qa
  · -- pc 2: pa < qa
    refine Gl.st (g' := (mkF m 9 #[.val (.int pa), .val (.int qa)] [])) (fun τ κ => XS.icmpYes X0.here hx rfl (pc0 := 2) (pc' := 9) rfl (hb hby d5_2) rfl (tlt hc1).1 (by decide) (by decide) κ) ?_
    refine Gl.st (g' := (mkF m 10 #[.val (.int pa), .val (.int qa)] [(.int qa)])) (fun τ κ => XS.iloadN X0.here hx rfl (hb hby d5_9) rfl κ) ?_
    exact Gl.ret (v := some (.int qa)) X0 Bd.notSynchronized (fun h => by rw [Bd.returns] at h; cases h) e0 (fun fs hr => retI X0 hx Bd.returns (hb hby d5_10) hr) (by decide) (by decide) ⟨by simp only [own_max, hc1, if_true, if_false], N0, rfl⟩
  · -- pc 2: not pa < qa
    refine Gl.st (g' := (mkF m 5 #[.val (.int pa), .val (.int qa)] [])) (fun τ κ => XS.icmpNo X0.here hx rfl (hb hby d5_2) rfl (flt hc1).1 κ) ?_
    refine Gl.st (g' := (mkF m 6 #[.val (.int pa), .val (.int qa)] [(.int pa)])) (fun τ κ => XS.iloadN X0.here hx rfl (hb hby d5_5) rfl κ) ?_
    refine Gl.st (g' := (mkF m 10 #[.val (.int pa), .val (.int qa)] [(.int pa)])) (fun τ κ => XS.goto X0.here hx rfl (pc0 := 6) (pc' := 10) rfl (hb hby d5_6) (by decide) (by decide) κ) ?_
    exact Gl.ret (v := some (.int pa)) X0 Bd.notSynchronized (fun h => by rw [Bd.returns] at h; cases h) e0 (fun fs hr => retI X0 hx Bd.returns (hb hby d5_10) hr) (by decide) (by decide) ⟨by simp only [own_max, hc1, if_true, if_false], N0, rfl⟩
def own_min (a b : Int32) : Int32 := if b < a then b else a
theorem d7_0 : decode jdk_29_method_69_code 0 = .ok (.iload_n 0, 1) := by decide +kernel
theorem d7_1 : decode jdk_29_method_69_code 1 = .ok (.iload_n 1, 1) := by decide +kernel
theorem d7_2 : decode jdk_29_method_69_code 2 = .ok (.if_icmp .gt 7, 3) := by decide +kernel
theorem d7_9 : decode jdk_29_method_69_code 9 = .ok (.iload_n 1, 1) := by decide +kernel
theorem d7_10 : decode jdk_29_method_69_code 10 = .ok (.ireturn, 1) := by decide +kernel
theorem d7_5 : decode jdk_29_method_69_code 5 = .ok (.iload_n 0, 1) := by decide +kernel
theorem d7_6 : decode jdk_29_method_69_code 6 = .ok (.goto 4, 3) := by decide +kernel
theorem ef_rm7 (m : MethodId) (pa : Int32) (qa : Int32) : entryFrame m #[(.int pa), (.int qa)] 2 = mkF m 0 #[.val (.int pa), .val (.int qa)] [] := by first | (simp [entryFrame, mkF, argsToLocals, Value.category]; done) | rfl
def Q_rm7 (Z : State) (pa : Int32) (qa : Int32)  (h0 : Heap) (n0 : Nat) (v : Option Value) (h : Heap) (L : List Loc) : Prop := v = some (.int (own_min pa qa)) ∧ Fr n0 L ∧ h = h0
set_option maxRecDepth 65536 in
set_option maxHeartbeats 40000000 in
theorem rm7 (l : Launch) (Z : State) (a0 : Array Value) (hw : ∀ d ∈ tables_1, d.before a0 Z = true) (ws : List Jvm.Cond) (pa : Int32) (qa : Int32)  (h0 : Heap) (n0 : Nat) (Z0 : n0 ≤ h0.size)  :
    MetFree l (⟨"java/lang/Math", "min", "(II)I"⟩ : MethodName) (head1 (Jvm.Cond.code (⟨"java/lang/Math", "min", "(II)I"⟩ : MethodName) jdk_29_method_69_code 2 (some .int) :: ws) ({ frames := 0, cells := 0, slots := 0, locals := 0 } : Room)) (fun aα Uα => aα = #[(.int pa), (.int qa)] ∧ Z.Warmed39 Uα.vm ∧ Uα.heap = h0) (fun _ _ _ _ _ => True) (fun _ Uα oα Uβ => ∃ vα Lα, oα = .returned vα ∧ Q_rm7 Z pa qa  h0 n0 vα Uβ.heap Lα ∧ FrameEnd Uα oα Uβ Lα ({ frames := 0, cells := 0, slots := 0, locals := 0 } : Room).cells ({ frames := 0, cells := 0, slots := 0, locals := 0 } : Room).slots) := by
  refine MetFree.of_bodySF (Jvm.Free.JP.mathPlain rfl (by decide +kernel)) hisR ?_
  intro p e s m args below meth c s₁ Bd hml0 hP hKα
  obtain ⟨rfl, hZ, hh⟩ := hP
  have hx := Bd.exec
  have hby := Bd.bytes
  have hml : c.maxLocals = 2 := hml0
  have hown : s.vm.findClass "java/lang/Math" = some m.cls := findClass_of_methodNamed Bd.named
  have hnm := (name_of_methodNamed Bd.named Bd.method).1
  have X0 : Stand p l e ({ frames := 0, cells := 0, slots := 0, locals := 0 } : Room) s m #[(.int pa), (.int qa)] below meth c s₁ [] 0 0 := Stand.of_body Bd
  have e0 : s₁.heap = h0 := by rw [← hh, Bd.state]; rfl
  have N0 := Fr.nil n0
  suffices k0 : Gl p e below s (Q_rm7 Z pa qa  h0 n0) ({ frames := 0, cells := 0, slots := 0, locals := 0 } : Room).cells ({ frames := 0, cells := 0, slots := 0, locals := 0 } : Room).slots s₁ (mkF m 0 #[.val (.int pa), .val (.int qa)] []) from Gl.st (fun τ κ => castTop (ef_rm7 m pa qa) κ) k0
  refine Gl.st (g' := (mkF m 1 #[.val (.int pa), .val (.int qa)] [(.int pa)])) (fun τ κ => XS.iloadN X0.here hx rfl (hb hby d7_0) rfl κ) ?_
  refine Gl.st (g' := (mkF m 2 #[.val (.int pa), .val (.int qa)] [(.int qa), (.int pa)])) (fun τ κ => XS.iloadN X0.here hx rfl (hb hby d7_1) rfl κ) ?_
  by_cases hc2 : qa < pa
  · -- pc 2: qa < pa
    refine Gl.st (g' := (mkF m 9 #[.val (.int pa), .val (.int qa)] [])) (fun τ κ => XS.icmpYes X0.here hx rfl (pc0 := 2) (pc' := 9) rfl (hb hby d7_2) rfl (tlt hc2).2.2.1 (by decide) (by decide) κ) ?_
    refine Gl.st (g' := (mkF m 10 #[.val (.int pa), .val (.int qa)] [(.int qa)])) (fun τ κ => XS.iloadN X0.here hx rfl (hb hby d7_9) rfl κ) ?_
    exact Gl.ret (v := some (.int qa)) X0 Bd.notSynchronized (fun h => by rw [Bd.returns] at h; cases h) e0 (fun fs hr => retI X0 hx Bd.returns (hb hby d7_10) hr) (by decide) (by decide) ⟨by simp only [own_min, hc2, if_true, if_false], N0, rfl⟩
  · -- pc 2: not qa < pa
    refine Gl.st (g' := (mkF m 5 #[.val (.int pa), .val (.int qa)] [])) (fun τ κ => XS.icmpNo X0.here hx rfl (hb hby d7_2) rfl (flt hc2).2.2.1 κ) ?_
    refine Gl.st (g' := (mkF m 6 #[.val (.int pa), .val (.int qa)] [(.int pa)])) (fun τ κ => XS.iloadN X0.here hx rfl (hb hby d7_5) rfl κ) ?_
    refine Gl.st (g' := (mkF m 10 #[.val (.int pa), .val (.int qa)] [(.int pa)])) (fun τ κ => XS.goto X0.here hx rfl (pc0 := 6) (pc' := 10) rfl (hb hby d7_6) (by decide) (by decide) κ) ?_
    exact Gl.ret (v := some (.int pa)) X0 Bd.notSynchronized (fun h => by rw [Bd.returns] at h; cases h) e0 (fun fs hr => retI X0 hx Bd.returns (hb hby d7_10) hr) (by decide) (by decide) ⟨by simp only [own_min, hc2, if_true, if_false], N0, rfl⟩
theorem own_minI (a b : Int32) : (own_min a b).toInt = if b.toInt < a.toInt then b.toInt else a.toInt := by
  unfold own_min; by_cases q : b < a
  · have q' := q; rw [Int32.lt_iff_toInt_lt] at q'; rw [if_pos q, if_pos q']
  · have q' := q; rw [Int32.lt_iff_toInt_lt] at q'; rw [if_neg q, if_neg q']
theorem own_maxI (a b : Int32) : (own_max a b).toInt = if a.toInt < b.toInt then b.toInt else a.toInt := by
  unfold own_max; by_cases q : a < b
  · have q' := q; rw [Int32.lt_iff_toInt_lt] at q'; rw [if_pos q, if_pos q']
  · have q' := q; rw [Int32.lt_iff_toInt_lt] at q'; rw [if_neg q, if_neg q']
theorem own_minN {a b : Int32} (ha : ¬ a < 0) (hb : ¬ b < 0) : ¬ own_min a b < 0 ∧ (own_min a b).toNatClampNeg ≤ a.toNatClampNeg ∧ (own_min a b).toNatClampNeg ≤ b.toNatClampNeg ∧ (∀ i, i < a.toNatClampNeg → i < b.toNatClampNeg → i < (own_min a b).toNatClampNeg) := by
  have e := own_minI a b
  have na := own_nat ha; have nb := own_nat hb
  have nn : ¬ own_min a b < 0 := by
    rw [Int32.lt_iff_toInt_lt, own_i0] at ha hb ⊢; rw [e]; split <;> omega
  have nm := own_nat nn
  rw [e] at nm
  refine ⟨nn, ?_, ?_, fun i h1 h2 => ?_⟩ <;> split at nm <;> omega
theorem own_cp {vs vd : List Value} {dv : Value} {n i : Nat} (h : i < n) : (vd.take 0 ++ ((List.range n).map fun i => vs.getD (0 + i) dv) ++ vd.drop (0 + n)).getD i dv = vs.getD i dv := by
  rw [List.getD_eq_getElem?_getD, List.getD_eq_getElem?_getD, List.take_zero, List.nil_append, List.getElem?_append_left (by simpa using h)]
  simp [h]
theorem d6_0 : decode jdk_65_method_121_code 0 = .ok (.iload_n 1, 1) := by decide +kernel
theorem d6_1 : decode jdk_65_method_121_code 1 = .ok (.aload_n 0, 1) := by decide +kernel
theorem d6_2 : decode jdk_65_method_121_code 2 = .ok (.arraylength, 1) := by decide +kernel
theorem d6_3 : decode jdk_65_method_121_code 3 = .ok (.if_icmp .ne 11, 3) := by decide +kernel
theorem d6_6 : decode jdk_65_method_121_code 6 = .ok (.aload_n 0, 1) := by decide +kernel
theorem d6_7 : decode jdk_65_method_121_code 7 = .ok (.invokevirtual 310, 3) := by decide +kernel
theorem d6_10 : decode jdk_65_method_121_code 10 = .ok (.checkcast 311, 3) := by decide +kernel
theorem d6_13 : decode jdk_65_method_121_code 13 = .ok (.areturn, 1) := by decide +kernel
theorem d6_14 : decode jdk_65_method_121_code 14 = .ok (.iload_n 1, 1) := by decide +kernel
theorem d6_15 : decode jdk_65_method_121_code 15 = .ok (.newarray .byte, 2) := by decide +kernel
theorem d6_17 : decode jdk_65_method_121_code 17 = .ok (.astore_n 2, 1) := by decide +kernel
theorem d6_18 : decode jdk_65_method_121_code 18 = .ok (.aload_n 0, 1) := by decide +kernel
theorem d6_19 : decode jdk_65_method_121_code 19 = .ok (.iconst 0, 1) := by decide +kernel
theorem d6_20 : decode jdk_65_method_121_code 20 = .ok (.aload_n 2, 1) := by decide +kernel
theorem d6_21 : decode jdk_65_method_121_code 21 = .ok (.iconst 0, 1) := by decide +kernel
theorem d6_22 : decode jdk_65_method_121_code 22 = .ok (.aload_n 0, 1) := by decide +kernel
theorem d6_23 : decode jdk_65_method_121_code 23 = .ok (.arraylength, 1) := by decide +kernel
theorem d6_24 : decode jdk_65_method_121_code 24 = .ok (.iload_n 1, 1) := by decide +kernel
theorem d6_25 : decode jdk_65_method_121_code 25 = .ok (.invokestatic 304, 3) := by decide +kernel
theorem pd_0 : parseMethodDescriptor "(II)I" = some ⟨[.int, .int], some .int⟩ := by decide +kernel
theorem d6_28 : decode jdk_65_method_121_code 28 = .ok (.invokestatic 150, 3) := by decide +kernel
theorem d6_31 : decode jdk_65_method_121_code 31 = .ok (.aload_n 2, 1) := by decide +kernel
theorem d6_32 : decode jdk_65_method_121_code 32 = .ok (.areturn, 1) := by decide +kernel
theorem pn_java_util_Arrays : plainName "java/util/Arrays" = true := by first | (simp [plainName, overriddenIn]; done) | decide +kernel
theorem ef_rm6 (m : MethodId) (t : Addr) (nl : Int32) : entryFrame m #[(.ref t), (.int nl)] 3 = mkF m 0 #[.val (.ref t), .val (.int nl), .unset] [] := by first | (simp [entryFrame, mkF, argsToLocals, Value.category]; done) | rfl
def Q_rm6 (Z : State) (t : Addr) (nl : Int32) (kc : ClassId) (z : Int32) (vs : List Value) (h0 : Heap) (n0 : Nat) (v : Option Value) (h : Heap) (L : List Loc) : Prop := ∃ b k vs', v = some (.ref b) ∧ Fr n0 L ∧ Keep h0 h [] ∧ h0.size ≤ b ∧ Exa Z h b "[B" ∧ Arv Z h b k .byte nl vs' (.int (0 : Int32)) ∧ ∀ i, i < z.toNatClampNeg → i < nl.toNatClampNeg → vs'.getD i (.int (0 : Int32)) = vs.getD i (.int (0 : Int32))
set_option maxRecDepth 65536 in
set_option maxHeartbeats 40000000 in
theorem rm6 (l : Launch) (Z : State) (a0 : Array Value) (hw : ∀ d ∈ tables_1, d.before a0 Z = true) (ws : List Jvm.Cond) (t : Addr) (nl : Int32) (kc : ClassId) (z : Int32) (vs : List Value) (h0 : Heap) (n0 : Nat) (Z0 : n0 ≤ h0.size) (V0 : Arv Z h0 t kc .byte z vs (.int (0 : Int32))) (E0 : Exa Z h0 t "[B") (hz : ¬ z < 0) (hn : ¬ nl < 0) (hc8 : nl.toNatClampNeg ≤ 8) :
    MetFree l (⟨"java/util/Arrays", "copyOf", "([BI)[B"⟩ : MethodName) (head1 (Jvm.Cond.code (⟨"java/util/Arrays", "copyOf", "([BI)[B"⟩ : MethodName) jdk_65_method_121_code 3 (some (.array .byte)) :: ws) ({ frames := 1, cells := 1, slots := 8, locals := 18 } : Room)) (fun aα Uα => aα = #[(.ref t), (.int nl)] ∧ Z.Warmed39 Uα.vm ∧ Uα.heap = h0) (fun _ _ _ _ _ => True) (fun _ Uα oα Uβ => ∃ vα Lα, oα = .returned vα ∧ Q_rm6 Z t nl kc z vs h0 n0 vα Uβ.heap Lα ∧ FrameEnd Uα oα Uβ Lα ({ frames := 1, cells := 1, slots := 8, locals := 18 } : Room).cells ({ frames := 1, cells := 1, slots := 8, locals := 18 } : Room).slots) := by
  refine MetFree.of_bodySF (plainFor_of_name pn_java_util_Arrays) hisR ?_
  intro p e s m args below meth c s₁ Bd hml0 hP hKα
  obtain ⟨rfl, hZ, hh⟩ := hP
  have hx := Bd.exec
  have hby := Bd.bytes
  have hml : c.maxLocals = 3 := hml0
  have hown : s.vm.findClass "java/util/Arrays" = some m.cls := findClass_of_methodNamed Bd.named
  have hnm := (name_of_methodNamed Bd.named Bd.method).1
  have X0 : Stand p l e ({ frames := 1, cells := 1, slots := 8, locals := 18 } : Room) s m #[(.ref t), (.int nl)] below meth c s₁ [] 0 0 := Stand.of_body Bd
  have e0 : s₁.heap = h0 := by rw [← hh, Bd.state]; rfl
  have N0 := Fr.nil n0
  suffices k0 : Gl p e below s (Q_rm6 Z t nl kc z vs h0 n0) ({ frames := 1, cells := 1, slots := 8, locals := 18 } : Room).cells ({ frames := 1, cells := 1, slots := 8, locals := 18 } : Room).slots s₁ (mkF m 0 #[.val (.ref t), .val (.int nl), .unset] []) from Gl.st (fun τ κ => castTop (ef_rm6 m t nl) κ) k0
  refine Gl.st (g' := (mkF m 1 #[.val (.ref t), .val (.int nl), .unset] [(.int nl)])) (fun τ κ => XS.iloadN X0.here hx rfl (hb hby d6_0) rfl κ) ?_
  refine Gl.st (g' := (mkF m 2 #[.val (.ref t), .val (.int nl), .unset] [(.ref t), (.int nl)])) (fun τ κ => XS.aloadN X0.here hx rfl (hb hby d6_1) rfl rfl κ) ?_
  obtain ⟨cl_o3, Ar_o3, q_o3, S_o3, M_o3, H_o3, G_o3⟩ := id V0
  refine Gl.st (g' := (mkF m 3 #[.val (.ref t), .val (.int nl), .unset] [(.int z), (.int nl)])) (fun τ κ => X0.arraylength hx (by rw [e0]; exact Ar_o3.1) (State.isArrayOf_alike hZ.alike Ar_o3.2.1) (g := (mkF m 2 #[.val (.ref t), .val (.int nl), .unset] [(.ref t), (.int nl)])) rfl rfl (hb hby d6_2) _ (by rw [len_of S_o3 M_o3]; exact κ)) ?_
  by_cases hc4 : nl = z
  · -- pc 3: nl = z
    refine Gl.st (g' := (mkF m 6 #[.val (.ref t), .val (.int nl), .unset] [])) (fun τ κ => XS.icmpNo X0.here hx rfl (hb hby d6_3) rfl (teq hc4).2 κ) ?_
    refine Gl.st (g' := (mkF m 7 #[.val (.ref t), .val (.int nl), .unset] [(.ref t)])) (fun τ κ => XS.aloadN X0.here hx rfl (hb hby d6_6) rfl rfl κ) ?_
    obtain ⟨cl_o5, Ar_o5, q_o5, S_o5, M_o5, H_o5, G_o5⟩ := id V0
    obtain ⟨T6, h6, X6, e6, E6, A6, AE6, st6⟩ := cloneA X0 hx hZ hown (hw _ (List.mem_of_getElem? (i := 55) rfl)) (hw _ (List.mem_of_getElem? (i := 56) rfl)) (hw _ (List.mem_of_getElem? (i := 60) rfl)) (hw _ (List.mem_of_getElem? (i := 58) rfl)) (hw _ (List.mem_of_getElem? (i := 59) rfl)) (hw _ (List.mem_of_getElem? (i := 61) rfl)) e0 Ar_o5 E0 (fitC_of Ar_o5 fun i hi v hv => by rw [H_o5 i hi] at hv; cases hv; exact G_o5 i hi) (g := (mkF m 7 #[.val (.ref t), .val (.int nl), .unset] [(.ref t)])) rfl (by rw [hml]; rfl) rfl (hb hby d6_7) (by decide) (W := 0) (by show 2 * 0 + _ ≤ _; exact Nat.le_of_eq rfl) (by decide) (cap := 8) (by rw [S_o5]; exact (by rw [← hc4]; exact hc8)) (by decide) (by decide)
    obtain ⟨b6, g6⟩ : ∃ z, z = h0.size := ⟨_, rfl⟩
    rw [← g6] at A6 AE6 st6
    have ne_t_b6 : t ≠ b6 := Nat.ne_of_lt (Nat.lt_of_lt_of_le V0.lt (Nat.le_of_eq g6.symm))
    have V_7 := V0.ext E6
    have E_8 := E0.ext E6
    have g_b6 : n0 ≤ b6 := Nat.le_trans Z0 (Nat.le_of_eq g6.symm)
    have sz_b6 : h0.size ≤ b6 := Nat.le_trans (Keep.refl h0 []).1 (Nat.le_of_eq g6.symm)
    have Z6 : n0 ≤ h6.size := Nat.le_trans Z0 E6.1
    have K6 : Keep h0 h6 [] := (Keep.refl h0 []).ext E6
    have V_b6 : Arv Z h6 b6 kc .byte z vs (.int (0 : Int32)) := ⟨cloneOf cl_o5, A6, q_o5, S_o5, M_o5, H_o5, G_o5⟩
    refine Gl.st (g' := (mkF m 10 #[.val (.ref t), .val (.int nl), .unset] [(.ref b6)])) (fun τ κ => st6 _ κ) ?_
    obtain ⟨T9, X9, e9, st9⟩ := castY X6 hx hZ hown (hw _ (List.mem_of_getElem? (i := 62) rfl)) e6 (Ins.self AE6) (g := (mkF m 10 #[.val (.ref t), .val (.int nl), .unset] [(.ref b6)])) rfl rfl (hb hby d6_10)
    refine Gl.st (g' := (mkF m 13 #[.val (.ref t), .val (.int nl), .unset] [(.ref b6)])) (fun τ κ => st9 _ κ) ?_
    exact Gl.ret (v := some (.ref b6)) X9 Bd.notSynchronized (fun h => by rw [Bd.returns] at h; cases h) e9 (fun fs hr => (by
        jvm_step X9.here [X9.here.top, hx, (hb hby d6_13), X9.method', Bd.returns, Value.isRef, FieldType.isReference]
        first | (intro acts; rw [hr _ acts rfl rfl rfl]) | rw [hr _ _ rfl rfl rfl]
        exact Steps.refl _)) (by decide) (by decide) ⟨b6, kc, vs, rfl, N0, K6, sz_b6, AE6, (by have q := V_b6; rw [← hc4] at q; exact q), fun i _ _ => rfl⟩
  · -- pc 3: not nl = z
    refine Gl.st (g' := (mkF m 14 #[.val (.ref t), .val (.int nl), .unset] [])) (fun τ κ => XS.icmpYes X0.here hx rfl (pc0 := 3) (pc' := 14) rfl (hb hby d6_3) rfl (feq hc4).2 (by decide) (by decide) κ) ?_
    refine Gl.st (g' := (mkF m 15 #[.val (.ref t), .val (.int nl), .unset] [(.int nl)])) (fun τ κ => XS.iloadN X0.here hx rfl (hb hby d6_14) rfl κ) ?_
    obtain ⟨T10, h10, k10, X10, e10, E10, A10, AE10, st10⟩ := newPE X0 hx hZ (hw _ (List.mem_of_getElem? (i := 11) rfl)) e0 (g := (mkF m 15 #[.val (.ref t), .val (.int nl), .unset] [(.int nl)])) rfl (hb hby d6_15) rfl hn (cap := 8) hc8 (by decide) (by decide) (by decide) (ad := "[B") (by decide)
    obtain ⟨b10, g10⟩ : ∃ z, z = h0.size := ⟨_, rfl⟩
    rw [← g10] at A10 AE10 st10
    have ne_t_b10 : t ≠ b10 := Nat.ne_of_lt (Nat.lt_of_lt_of_le V0.lt (Nat.le_of_eq g10.symm))
    have V_11 := V0.ext E10
    have E_12 := E0.ext E10
    have g_b10 : n0 ≤ b10 := Nat.le_trans Z0 (Nat.le_of_eq g10.symm)
    have sz_b10 : h0.size ≤ b10 := Nat.le_trans (Keep.refl h0 []).1 (Nat.le_of_eq g10.symm)
    have Z10 : n0 ≤ h10.size := Nat.le_trans Z0 E10.1
    have K10 : Keep h0 h10 [] := (Keep.refl h0 []).ext E10
    have V_b10 : Arv Z h10 b10 k10 .byte nl [] (.int (0 : Int32)) := Arv.new A10 hn
    refine Gl.st (g' := (mkF m 17 #[.val (.ref t), .val (.int nl), .unset] [(.ref b10)])) (fun τ κ => st10 _ κ) ?_
    refine Gl.st (g' := (mkF m 18 #[.val (.ref t), .val (.int nl), .val (.ref b10)] [])) (fun τ κ => XS.astoreN X10.here hx rfl (hb hby d6_17) rfl rfl (l' := #[.val (.ref t), .val (.int nl), .val (.ref b10)]) rfl κ) ?_
    refine Gl.st (g' := (mkF m 19 #[.val (.ref t), .val (.int nl), .val (.ref b10)] [(.ref t)])) (fun τ κ => XS.aloadN X10.here hx rfl (hb hby d6_18) rfl rfl κ) ?_
    refine Gl.st (g' := (mkF m 20 #[.val (.ref t), .val (.int nl), .val (.ref b10)] [(.int (0 : Int32)), (.ref t)])) (fun τ κ => XS.iconst X10.here hx rfl (hb hby d6_19) κ) ?_
    refine Gl.st (g' := (mkF m 21 #[.val (.ref t), .val (.int nl), .val (.ref b10)] [(.ref b10), (.int (0 : Int32)), (.ref t)])) (fun τ κ => XS.aloadN X10.here hx rfl (hb hby d6_20) rfl rfl κ) ?_
    refine Gl.st (g' := (mkF m 22 #[.val (.ref t), .val (.int nl), .val (.ref b10)] [(.int (0 : Int32)), (.ref b10), (.int (0 : Int32)), (.ref t)])) (fun τ κ => XS.iconst X10.here hx rfl (hb hby d6_21) κ) ?_
    refine Gl.st (g' := (mkF m 23 #[.val (.ref t), .val (.int nl), .val (.ref b10)] [(.ref t), (.int (0 : Int32)), (.ref b10), (.int (0 : Int32)), (.ref t)])) (fun τ κ => XS.aloadN X10.here hx rfl (hb hby d6_22) rfl rfl κ) ?_
    obtain ⟨cl_o13, Ar_o13, q_o13, S_o13, M_o13, H_o13, G_o13⟩ := id V_11
    refine Gl.st (g' := (mkF m 24 #[.val (.ref t), .val (.int nl), .val (.ref b10)] [(.int z), (.int (0 : Int32)), (.ref b10), (.int (0 : Int32)), (.ref t)])) (fun τ κ => X10.arraylength hx (by rw [e10]; exact Ar_o13.1) (State.isArrayOf_alike hZ.alike Ar_o13.2.1) (g := (mkF m 23 #[.val (.ref t), .val (.int nl), .val (.ref b10)] [(.ref t), (.int (0 : Int32)), (.ref b10), (.int (0 : Int32)), (.ref t)])) rfl rfl (hb hby d6_23) _ (by rw [len_of S_o13 M_o13]; exact κ)) ?_
    refine Gl.st (g' := (mkF m 25 #[.val (.ref t), .val (.int nl), .val (.ref b10)] [(.int nl), (.int z), (.int (0 : Int32)), (.ref b10), (.int (0 : Int32)), (.ref t)])) (fun τ κ => XS.iloadN X10.here hx rfl (hb hby d6_24) rfl κ) ?_
    obtain ⟨rv14, _, ⟨T14, L14, k14, n14⟩, -, X14, ⟨Lc14, hQ14, l14, y14, z14⟩, st14⟩ := Jvm.LawKit.callS X10 hx (y := (⟨"java/lang/Math", "min", "(II)I"⟩ : MethodName)) hown (mvT hZ (hw _ (List.mem_of_getElem? (i := 33) rfl))) (mvT hZ (hw _ (List.mem_of_getElem? (i := 34) rfl))) (mvT hZ (hw _ (List.mem_of_getElem? (i := 27) rfl))) (mvT hZ (hw _ (List.mem_of_getElem? (i := 35) rfl))) (by decide) (backOf (W := 4) (rm7 l Z a0 hw [] z nl h10 n0 Z10 ) hZ (hw _ (List.mem_of_getElem? (i := 35) rfl)) (hw _ (List.mem_of_getElem? (i := 27) rfl)) (by decide) (by decide)) (g := (mkF m 25 #[.val (.ref t), .val (.int nl), .val (.ref b10)] [(.int nl), (.int z), (.int (0 : Int32)), (.ref b10), (.int (0 : Int32)), (.ref t)])) rfl (by rw [hml]; rfl) (argsL := [(.int z), (.int nl)]) (rest := [(.int (0 : Int32)), (.ref b10), (.int (0 : Int32)), (.ref t)]) (lenOf pd_0 rfl) rfl (by show 2 * 0 + _ ≤ _; exact Nat.le_of_eq rfl) (hb hby d6_25) (fun _ _ => ⟨rfl, e10, (by decide : 1 + 0 ≤ _), (by decide : 8 + 0 ≤ _)⟩)
    dsimp only [Pt.U, Pt.locs, Pt.cells, Pt.slots] at X14 l14 y14 z14 st14 hQ14
    subst l14 y14 z14
    obtain ⟨rfl, N14q, e14⟩ := hQ14
    have N14 := Fr.app N0 N14q
    refine Gl.st (g' := (mkF m 28 #[.val (.ref t), .val (.int nl), .val (.ref b10)] [(.int (own_min z nl)), (.int (0 : Int32)), (.ref b10), (.int (0 : Int32)), (.ref t)])) (fun τ κ => st14 _ κ) ?_
    obtain ⟨T15, h15, L15, X15, e15, N15, Kc15, Vc15, st15⟩ := cpA X14 hx hZ hown (hw _ (List.mem_of_getElem? (i := 36) rfl)) (hw _ (List.mem_of_getElem? (i := 39) rfl)) (hw _ (List.mem_of_getElem? (i := 37) rfl)) (hw _ (List.mem_of_getElem? (i := 38) rfl)) e14 V_11 ((V_b10).pad (pad_rep [] (.int (0 : Int32)) ((own_min z nl)).toNatClampNeg)) (Or.inl ⟨rfl, rfl⟩) (by decide) (by decide) (own_minN hz hn).1 (by show 0 + _ ≤ _; rw [Nat.zero_add]; exact (own_minN hz hn).2.1) (by show 0 + _ ≤ _; rw [Nat.zero_add]; exact (own_minN hz hn).2.2.1) rfl (by show 0 + _ ≤ _; simp) N14 g_b10 (g := (mkF m 28 #[.val (.ref t), .val (.int nl), .val (.ref b10)] [(.int (own_min z nl)), (.int (0 : Int32)), (.ref b10), (.int (0 : Int32)), (.ref t)])) rfl (by rw [hml]; rfl) rfl (hb hby d6_28) (by decide) (W := 0) (by show 2 * 0 + _ ≤ _; exact Nat.le_of_eq rfl) (by decide)
    have V_16 := V_11.keep Kc15 (ninS ne_t_b10 nin0)
    have E_17 := E_12.keep Kc15
    have E_18 := AE10.keep Kc15
    have Z15 : n0 ≤ h15.size := Nat.le_trans Z10 Kc15.1
    have K15 : Keep h0 h15 [] := K10.trans Kc15 (allS (Or.inr sz_b10) all0)
    refine Gl.st (g' := (mkF m 31 #[.val (.ref t), .val (.int nl), .val (.ref b10)] [])) (fun τ κ => st15 _ κ) ?_
    refine Gl.st (g' := (mkF m 32 #[.val (.ref t), .val (.int nl), .val (.ref b10)] [(.ref b10)])) (fun τ κ => XS.aloadN X15.here hx rfl (hb hby d6_31) rfl rfl κ) ?_
    exact Gl.ret (v := some (.ref b10)) X15 Bd.notSynchronized (fun h => by rw [Bd.returns] at h; cases h) e15 (fun fs hr => (by
        jvm_step X15.here [X15.here.top, hx, (hb hby d6_32), X15.method', Bd.returns, Value.isRef, FieldType.isReference]
        first | (intro acts; rw [hr _ acts rfl rfl rfl]) | rw [hr _ _ rfl rfl rfl]
        exact Steps.refl _)) (by decide) (by decide) ⟨b10, k10, _, rfl, N15, K15, sz_b10, E_18, Vc15, fun i h1 h2 => own_cp ((own_minN hz hn).2.2.2 i h1 h2)⟩
theorem own_grow {n z : Int32} (hn : ¬ n < 0) (hn3 : ¬ (3 : Int32) < n) (hz : ¬ z < n) (h : (z - n) < (1 : Int32)) : ¬ own_max ((2 : Int32) * z) (n + (1 : Int32)) < 0 ∧ (own_max ((2 : Int32) * z) (n + (1 : Int32))).toNatClampNeg ≤ 8 ∧ n < own_max ((2 : Int32) * z) (n + (1 : Int32)) ∧ ¬ (8 : Int32) < own_max ((2 : Int32) * z) (n + (1 : Int32)) ∧ n.toNatClampNeg ≤ z.toNatClampNeg ∧ n.toNatClampNeg ≤ (own_max ((2 : Int32) * z) (n + (1 : Int32))).toNatClampNeg := by
  have hz0 : ¬ z < 0 := by
    rw [Int32.lt_iff_toInt_lt] at hz hn ⊢; rw [own_i0] at hn ⊢; omega
  have nz := own_nat hz0; have nn := own_nat hn
  have bz := Int32.toInt_lt z
  rw [Int32.lt_iff_toInt_lt] at hn hn3 hz h
  rw [own_i0] at hn; rw [own_i3] at hn3; rw [own_i1] at h
  rw [Int32.lt_iff_toInt_lt, own_i0] at hz0
  have e1 : (z - n).toInt = z.toInt - n.toInt := Jvm.Kit.i32_sub (by omega) (by omega)
  have e2 : ((2 : Int32) * z).toInt = 2 * z.toInt := by rw [Jvm.Kit.i32_mul] <;> rw [own_i2] <;> omega
  have e3 : (n + (1 : Int32)).toInt = n.toInt + 1 := by rw [Jvm.Kit.i32_add] <;> rw [own_i1] <;> omega
  have e4 := own_maxI ((2 : Int32) * z) (n + (1 : Int32))
  rw [e2, e3] at e4
  have p0 : ¬ own_max ((2 : Int32) * z) (n + (1 : Int32)) < 0 := by rw [Int32.lt_iff_toInt_lt, own_i0, e4]; split <;> omega
  have np := own_nat p0
  rw [e4] at np
  refine ⟨p0, ?_, ?_, ?_, by omega, ?_⟩
  · split at np <;> omega
  · rw [Int32.lt_iff_toInt_lt, e4]; split <;> omega
  · rw [Int32.lt_iff_toInt_lt, own_i8, e4]; split <;> omega
  · split at np <;> omega
theorem own_stay {n z : Int32} (hn : ¬ n < 0) (hz : ¬ z < n) (h : ¬ (z - n) < (1 : Int32)) : n < z := by
  have bz := Int32.toInt_lt z
  rw [Int32.lt_iff_toInt_lt] at hn hz h ⊢
  rw [own_i0] at hn; rw [own_i1] at h
  have e1 : (z - n).toInt = z.toInt - n.toInt := Jvm.Kit.i32_sub (by omega) (by omega)
  omega
theorem own_zn {n z : Int32} (hn : ¬ n < 0) (hz : ¬ z < n) : ¬ z < 0 := by
  rw [Int32.lt_iff_toInt_lt] at hz hn ⊢; rw [own_i0] at hn ⊢; omega
theorem d4_0 : decode prog_6_method_15_code 0 = .ok (.aload_n 0, 1) := by decide +kernel
theorem d4_1 : decode prog_6_method_15_code 1 = .ok (.getfield 13, 3) := by decide +kernel
theorem d4_4 : decode prog_6_method_15_code 4 = .ok (.arraylength, 1) := by decide +kernel
theorem d4_5 : decode prog_6_method_15_code 5 = .ok (.aload_n 0, 1) := by decide +kernel
theorem d4_6 : decode prog_6_method_15_code 6 = .ok (.getfield 18, 3) := by decide +kernel
theorem d4_9 : decode prog_6_method_15_code 9 = .ok (.isub, 1) := by decide +kernel
theorem d4_10 : decode prog_6_method_15_code 10 = .ok (.iload_n 1, 1) := by decide +kernel
theorem d4_11 : decode prog_6_method_15_code 11 = .ok (.if_icmp .ge 30, 3) := by decide +kernel
theorem d4_14 : decode prog_6_method_15_code 14 = .ok (.aload_n 0, 1) := by decide +kernel
theorem d4_15 : decode prog_6_method_15_code 15 = .ok (.aload_n 0, 1) := by decide +kernel
theorem d4_16 : decode prog_6_method_15_code 16 = .ok (.getfield 13, 3) := by decide +kernel
theorem d4_19 : decode prog_6_method_15_code 19 = .ok (.iconst 2, 1) := by decide +kernel
theorem d4_20 : decode prog_6_method_15_code 20 = .ok (.aload_n 0, 1) := by decide +kernel
theorem d4_21 : decode prog_6_method_15_code 21 = .ok (.getfield 13, 3) := by decide +kernel
theorem d4_24 : decode prog_6_method_15_code 24 = .ok (.arraylength, 1) := by decide +kernel
theorem d4_25 : decode prog_6_method_15_code 25 = .ok (.imul, 1) := by decide +kernel
theorem d4_26 : decode prog_6_method_15_code 26 = .ok (.aload_n 0, 1) := by decide +kernel
theorem d4_27 : decode prog_6_method_15_code 27 = .ok (.getfield 18, 3) := by decide +kernel
theorem d4_30 : decode prog_6_method_15_code 30 = .ok (.iload_n 1, 1) := by decide +kernel
theorem d4_31 : decode prog_6_method_15_code 31 = .ok (.iadd, 1) := by decide +kernel
theorem d4_32 : decode prog_6_method_15_code 32 = .ok (.invokestatic 128, 3) := by decide +kernel
theorem d4_35 : decode prog_6_method_15_code 35 = .ok (.invokestatic 106, 3) := by decide +kernel
theorem pd_1 : parseMethodDescriptor "([BI)[B" = some ⟨[(.array .byte), .int], some (.array .byte)⟩ := by decide +kernel
theorem d4_38 : decode prog_6_method_15_code 38 = .ok (.putfield 13, 3) := by decide +kernel
theorem d4_41 : decode prog_6_method_15_code 41 = .ok (.return_, 1) := by decide +kernel
theorem pn_com_example_hermitage_hermitage_frame_JsonText : plainName "com/example/hermitage/hermitage/frame/JsonText" = true := by first | (simp [plainName, overriddenIn]; done) | decide +kernel
theorem ef_rm4 (m : MethodId) (a : Addr) : entryFrame m #[(.ref a), (.int (1 : Int32))] 2 = mkF m 0 #[.val (.ref a), .val (.int (1 : Int32))] [] := by first | (simp [entryFrame, mkF, argsToLocals, Value.category]; done) | rfl
def Q_rm4 (Z : State) (a : Addr) (t : Addr) (kc : ClassId) (c0 n z : Int32) (vs : List Value) (h0 : Heap) (n0 : Nat) (v : Option Value) (h : Heap) (L : List Loc) : Prop := ∃ (t' : Addr) (k' : ClassId) (z' : Int32) (vs' : List Value), v = none ∧ Fr n0 L ∧ Keep h0 h [a] ∧ Exa Z h a "com/example/hermitage/hermitage/frame/JsonText" ∧ Fld Z h a "com/example/hermitage/hermitage/frame/JsonText" "capacity" "I" (.int c0) ∧ Fld Z h a "com/example/hermitage/hermitage/frame/JsonText" "bytes" "[B" (.ref t') ∧ Fld Z h a "com/example/hermitage/hermitage/frame/JsonText" "length" "I" (.int n) ∧ Exa Z h t' "[B" ∧ Arv Z h t' k' .byte z' vs' (.int (0 : Int32)) ∧ n < z' ∧ ¬ (8 : Int32) < z' ∧ n0 ≤ t' ∧ (t' = t ∨ h0.size ≤ t') ∧ a ≠ t' ∧ ∀ i, i < n.toNatClampNeg → vs'.getD i (.int (0 : Int32)) = vs.getD i (.int (0 : Int32))
set_option maxRecDepth 65536 in
set_option maxHeartbeats 40000000 in
theorem rm4 (l : Launch) (Z : State) (a0 : Array Value) (hw : ∀ d ∈ tables_1, d.before a0 Z = true) (ws : List Jvm.Cond) (a : Addr) (t : Addr) (kc : ClassId) (c0 n z : Int32) (vs : List Value) (h0 : Heap) (n0 : Nat) (Z0 : n0 ≤ h0.size) (E0 : Exa Z h0 a "com/example/hermitage/hermitage/frame/JsonText") (g0 : n0 ≤ a) (FC : Fld Z h0 a "com/example/hermitage/hermitage/frame/JsonText" "capacity" "I" (.int c0)) (FB : Fld Z h0 a "com/example/hermitage/hermitage/frame/JsonText" "bytes" "[B" (.ref t)) (FL : Fld Z h0 a "com/example/hermitage/hermitage/frame/JsonText" "length" "I" (.int n)) (Et : Exa Z h0 t "[B") (gt : n0 ≤ t) (V0 : Arv Z h0 t kc .byte z vs (.int (0 : Int32))) (hat : a ≠ t) (hn : ¬ n < 0) (hz : ¬ z < n) (hz8 : ¬ (8 : Int32) < z) (hn3 : ¬ (3 : Int32) < n) :
    MetFree l (⟨"com/example/hermitage/hermitage/frame/JsonText", "room", "(I)V"⟩ : MethodName) (head1 (Jvm.Cond.code (⟨"com/example/hermitage/hermitage/frame/JsonText", "room", "(I)V"⟩ : MethodName) prog_6_method_15_code 2 none :: ws) ({ frames := 2, cells := 1, slots := 8, locals := 33 } : Room)) (fun aα Uα => aα = #[(.ref a), (.int (1 : Int32))] ∧ Z.Warmed39 Uα.vm ∧ Uα.heap = h0) (fun _ _ _ _ _ => True) (fun _ Uα oα Uβ => ∃ vα Lα, oα = .returned vα ∧ Q_rm4 Z a t kc c0 n z vs h0 n0 vα Uβ.heap Lα ∧ FrameEnd Uα oα Uβ Lα ({ frames := 2, cells := 1, slots := 8, locals := 33 } : Room).cells ({ frames := 2, cells := 1, slots := 8, locals := 33 } : Room).slots) := by
  refine MetFree.of_bodySF (plainFor_of_name pn_com_example_hermitage_hermitage_frame_JsonText) hisR ?_
  intro p e s m args below meth c s₁ Bd hml0 hP hKα
  obtain ⟨rfl, hZ, hh⟩ := hP
  have hx := Bd.exec
  have hby := Bd.bytes
  have hml : c.maxLocals = 2 := hml0
  have hown : s.vm.findClass "com/example/hermitage/hermitage/frame/JsonText" = some m.cls := findClass_of_methodNamed Bd.named
  have hnm := (name_of_methodNamed Bd.named Bd.method).1
  have X0 : Stand p l e ({ frames := 2, cells := 1, slots := 8, locals := 33 } : Room) s m #[(.ref a), (.int (1 : Int32))] below meth c s₁ [] 0 0 := Stand.of_body Bd
  have e0 : s₁.heap = h0 := by rw [← hh, Bd.state]; rfl
  have N0 := Fr.nil n0
  suffices k0 : Gl p e below s (Q_rm4 Z a t kc c0 n z vs h0 n0) ({ frames := 2, cells := 1, slots := 8, locals := 33 } : Room).cells ({ frames := 2, cells := 1, slots := 8, locals := 33 } : Room).slots s₁ (mkF m 0 #[.val (.ref a), .val (.int (1 : Int32))] []) from Gl.st (fun τ κ => castTop (ef_rm4 m a) κ) k0
  refine Gl.st (g' := (mkF m 1 #[.val (.ref a), .val (.int (1 : Int32))] [(.ref a)])) (fun τ κ => XS.aloadN X0.here hx rfl (hb hby d4_0) rfl rfl κ) ?_
  obtain ⟨T20, X20, e20, st20⟩ := getF X0 hx hZ hown (host := "") (Or.inl (hw _ (List.mem_of_getElem? (i := 12) rfl))) Via.refl e0 FB (g := (mkF m 1 #[.val (.ref a), .val (.int (1 : Int32))] [(.ref a)])) rfl rfl (hb hby d4_1)
  refine Gl.st (g' := (mkF m 4 #[.val (.ref a), .val (.int (1 : Int32))] [(.ref t)])) (fun τ κ => st20 _ κ) ?_
  obtain ⟨cl_o21, Ar_o21, q_o21, S_o21, M_o21, H_o21, G_o21⟩ := id V0
  refine Gl.st (g' := (mkF m 5 #[.val (.ref a), .val (.int (1 : Int32))] [(.int z)])) (fun τ κ => X20.arraylength hx (by rw [e20]; exact Ar_o21.1) (State.isArrayOf_alike hZ.alike Ar_o21.2.1) (g := (mkF m 4 #[.val (.ref a), .val (.int (1 : Int32))] [(.ref t)])) rfl rfl (hb hby d4_4) _ (by rw [len_of S_o21 M_o21]; exact κ)) ?_
  refine Gl.st (g' := (mkF m 6 #[.val (.ref a), .val (.int (1 : Int32))] [(.ref a), (.int z)])) (fun τ κ => XS.aloadN X20.here hx rfl (hb hby d4_5) rfl rfl κ) ?_
  obtain ⟨T22, X22, e22, st22⟩ := getF X20 hx hZ hown (host := "") (Or.inl (hw _ (List.mem_of_getElem? (i := 23) rfl))) Via.refl e20 FL (g := (mkF m 6 #[.val (.ref a), .val (.int (1 : Int32))] [(.ref a), (.int z)])) rfl rfl (hb hby d4_6)
  refine Gl.st (g' := (mkF m 9 #[.val (.ref a), .val (.int (1 : Int32))] [(.int n), (.int z)])) (fun τ κ => st22 _ κ) ?_
  refine Gl.st (g' := (mkF m 10 #[.val (.ref a), .val (.int (1 : Int32))] [(.int (z - n))])) (fun τ κ => XS.isub X22.here hx rfl (hb hby d4_9) rfl κ) ?_
  refine Gl.st (g' := (mkF m 11 #[.val (.ref a), .val (.int (1 : Int32))] [(.int (1 : Int32)), (.int (z - n))])) (fun τ κ => XS.iloadN X22.here hx rfl (hb hby d4_10) rfl κ) ?_
  by_cases hc23 : (z - n) < (1 : Int32)
  · -- pc 11: (z - n) < (1 : Int32)
    refine Gl.st (g' := (mkF m 14 #[.val (.ref a), .val (.int (1 : Int32))] [])) (fun τ κ => XS.icmpNo X22.here hx rfl (hb hby d4_11) rfl (tlt hc23).2.1 κ) ?_
    refine Gl.st (g' := (mkF m 15 #[.val (.ref a), .val (.int (1 : Int32))] [(.ref a)])) (fun τ κ => XS.aloadN X22.here hx rfl (hb hby d4_14) rfl rfl κ) ?_
    refine Gl.st (g' := (mkF m 16 #[.val (.ref a), .val (.int (1 : Int32))] [(.ref a), (.ref a)])) (fun τ κ => XS.aloadN X22.here hx rfl (hb hby d4_15) rfl rfl κ) ?_
    obtain ⟨T24, X24, e24, st24⟩ := getF X22 hx hZ hown (host := "") (Or.inl (hw _ (List.mem_of_getElem? (i := 12) rfl))) Via.refl e22 FB (g := (mkF m 16 #[.val (.ref a), .val (.int (1 : Int32))] [(.ref a), (.ref a)])) rfl rfl (hb hby d4_16)
    refine Gl.st (g' := (mkF m 19 #[.val (.ref a), .val (.int (1 : Int32))] [(.ref t), (.ref a)])) (fun τ κ => st24 _ κ) ?_
    refine Gl.st (g' := (mkF m 20 #[.val (.ref a), .val (.int (1 : Int32))] [(.int (2 : Int32)), (.ref t), (.ref a)])) (fun τ κ => XS.iconst X24.here hx rfl (hb hby d4_19) κ) ?_
    refine Gl.st (g' := (mkF m 21 #[.val (.ref a), .val (.int (1 : Int32))] [(.ref a), (.int (2 : Int32)), (.ref t), (.ref a)])) (fun τ κ => XS.aloadN X24.here hx rfl (hb hby d4_20) rfl rfl κ) ?_
    obtain ⟨T25, X25, e25, st25⟩ := getF X24 hx hZ hown (host := "") (Or.inl (hw _ (List.mem_of_getElem? (i := 12) rfl))) Via.refl e24 FB (g := (mkF m 21 #[.val (.ref a), .val (.int (1 : Int32))] [(.ref a), (.int (2 : Int32)), (.ref t), (.ref a)])) rfl rfl (hb hby d4_21)
    refine Gl.st (g' := (mkF m 24 #[.val (.ref a), .val (.int (1 : Int32))] [(.ref t), (.int (2 : Int32)), (.ref t), (.ref a)])) (fun τ κ => st25 _ κ) ?_
    obtain ⟨cl_o26, Ar_o26, q_o26, S_o26, M_o26, H_o26, G_o26⟩ := id V0
    refine Gl.st (g' := (mkF m 25 #[.val (.ref a), .val (.int (1 : Int32))] [(.int z), (.int (2 : Int32)), (.ref t), (.ref a)])) (fun τ κ => X25.arraylength hx (by rw [e25]; exact Ar_o26.1) (State.isArrayOf_alike hZ.alike Ar_o26.2.1) (g := (mkF m 24 #[.val (.ref a), .val (.int (1 : Int32))] [(.ref t), (.int (2 : Int32)), (.ref t), (.ref a)])) rfl rfl (hb hby d4_24) _ (by rw [len_of S_o26 M_o26]; exact κ)) ?_
    refine Gl.st (g' := (mkF m 26 #[.val (.ref a), .val (.int (1 : Int32))] [(.int ((2 : Int32) * z)), (.ref t), (.ref a)])) (fun τ κ => XS.imul X25.here hx rfl (hb hby d4_25) rfl κ) ?_
    refine Gl.st (g' := (mkF m 27 #[.val (.ref a), .val (.int (1 : Int32))] [(.ref a), (.int ((2 : Int32) * z)), (.ref t), (.ref a)])) (fun τ κ => XS.aloadN X25.here hx rfl (hb hby d4_26) rfl rfl κ) ?_
    obtain ⟨T27, X27, e27, st27⟩ := getF X25 hx hZ hown (host := "") (Or.inl (hw _ (List.mem_of_getElem? (i := 23) rfl))) Via.refl e25 FL (g := (mkF m 27 #[.val (.ref a), .val (.int (1 : Int32))] [(.ref a), (.int ((2 : Int32) * z)), (.ref t), (.ref a)])) rfl rfl (hb hby d4_27)
    refine Gl.st (g' := (mkF m 30 #[.val (.ref a), .val (.int (1 : Int32))] [(.int n), (.int ((2 : Int32) * z)), (.ref t), (.ref a)])) (fun τ κ => st27 _ κ) ?_
    refine Gl.st (g' := (mkF m 31 #[.val (.ref a), .val (.int (1 : Int32))] [(.int (1 : Int32)), (.int n), (.int ((2 : Int32) * z)), (.ref t), (.ref a)])) (fun τ κ => XS.iloadN X27.here hx rfl (hb hby d4_30) rfl κ) ?_
    refine Gl.st (g' := (mkF m 32 #[.val (.ref a), .val (.int (1 : Int32))] [(.int (n + (1 : Int32))), (.int ((2 : Int32) * z)), (.ref t), (.ref a)])) (fun τ κ => XS.iadd X27.here hx rfl (hb hby d4_31) rfl κ) ?_
    obtain ⟨rv28, _, ⟨T28, L28, k28, n28⟩, -, X28, ⟨Lc28, hQ28, l28, y28, z28⟩, st28⟩ := Jvm.LawKit.callS X27 hx (y := (⟨"java/lang/Math", "max", "(II)I"⟩ : MethodName)) hown (mvT hZ (hw _ (List.mem_of_getElem? (i := 25) rfl))) (mvT hZ (hw _ (List.mem_of_getElem? (i := 26) rfl))) (mvT hZ (hw _ (List.mem_of_getElem? (i := 27) rfl))) (mvT hZ (hw _ (List.mem_of_getElem? (i := 28) rfl))) (by decide) (backOf (W := 2) (rm5 l Z a0 hw [] ((2 : Int32) * z) (n + (1 : Int32)) h0 n0 Z0 ) hZ (hw _ (List.mem_of_getElem? (i := 28) rfl)) (hw _ (List.mem_of_getElem? (i := 27) rfl)) (by decide) (by decide)) (g := (mkF m 32 #[.val (.ref a), .val (.int (1 : Int32))] [(.int (n + (1 : Int32))), (.int ((2 : Int32) * z)), (.ref t), (.ref a)])) rfl (by rw [hml]; rfl) (argsL := [(.int ((2 : Int32) * z)), (.int (n + (1 : Int32)))]) (rest := [(.ref t), (.ref a)]) (lenOf pd_0 rfl) rfl (by show 2 * 0 + _ ≤ _; exact Nat.le_of_eq rfl) (hb hby d4_32) (fun _ _ => ⟨rfl, e27, (by decide : 0 + 0 ≤ _), (by decide : 0 + 0 ≤ _)⟩)
    dsimp only [Pt.U, Pt.locs, Pt.cells, Pt.slots] at X28 l28 y28 z28 st28 hQ28
    subst l28 y28 z28
    obtain ⟨rfl, N28q, e28⟩ := hQ28
    have N28 := Fr.app N0 N28q
    refine Gl.st (g' := (mkF m 35 #[.val (.ref a), .val (.int (1 : Int32))] [(.int (own_max ((2 : Int32) * z) (n + (1 : Int32)))), (.ref t), (.ref a)])) (fun τ κ => st28 _ κ) ?_
    obtain ⟨rv29, _, ⟨T29, L29, k29, n29⟩, -, X29, ⟨Lc29, hQ29, l29, y29, z29⟩, st29⟩ := Jvm.LawKit.callS X28 hx (y := (⟨"java/util/Arrays", "copyOf", "([BI)[B"⟩ : MethodName)) hown (mvT hZ (hw _ (List.mem_of_getElem? (i := 29) rfl))) (mvT hZ (hw _ (List.mem_of_getElem? (i := 30) rfl))) (mvT hZ (hw _ (List.mem_of_getElem? (i := 31) rfl))) (mvT hZ (hw _ (List.mem_of_getElem? (i := 32) rfl))) (by decide) (backOf (W := 1) (rm6 l Z a0 hw [] t (own_max ((2 : Int32) * z) (n + (1 : Int32))) kc z vs h0 n0 Z0 V0 Et (own_zn hn hz) (own_grow hn hn3 hz hc23).1 (own_grow hn hn3 hz hc23).2.1) hZ (hw _ (List.mem_of_getElem? (i := 32) rfl)) (hw _ (List.mem_of_getElem? (i := 31) rfl)) (by decide) (by decide)) (g := (mkF m 35 #[.val (.ref a), .val (.int (1 : Int32))] [(.int (own_max ((2 : Int32) * z) (n + (1 : Int32)))), (.ref t), (.ref a)])) rfl (by rw [hml]; rfl) (argsL := [(.ref t), (.int (own_max ((2 : Int32) * z) (n + (1 : Int32))))]) (rest := [(.ref a)]) (lenOf pd_1 rfl) rfl (by show 2 * 0 + _ ≤ _; exact Nat.le_of_eq rfl) (hb hby d4_35) (fun _ _ => ⟨rfl, e28, (by decide : 0 + 1 ≤ _), (by decide : 0 + 8 ≤ _)⟩)
    dsimp only [Pt.U, Pt.locs, Pt.cells, Pt.slots] at X29 l29 y29 z29 st29 hQ29
    subst l29 y29 z29
    obtain ⟨b29, kk29, vs29, rfl, N29q, Kc29, s29, Ex29, V29, hv29⟩ := hQ29
    have ne_a_b29 : a ≠ b29 := Nat.ne_of_lt (Nat.lt_of_lt_of_le E0.lt s29)
    have ne_t_b29 : t ≠ b29 := Nat.ne_of_lt (Nat.lt_of_lt_of_le Et.lt s29)
    have g_b29 : n0 ≤ b29 := Nat.le_trans Z0 s29
    have sz_b29 : h0.size ≤ b29 := Nat.le_trans (Keep.refl h0 [a]).1 s29
    have E_30 := E0.keep Kc29
    have E_31 := Et.keep Kc29
    have F_32 := FC.keep Kc29 nin0
    have F_33 := FB.keep Kc29 nin0
    have F_34 := FL.keep Kc29 nin0
    have V_35 := V0.keep Kc29 nin0
    have N29 := Fr.app N28 N29q
    have Z29 : n0 ≤ T29.heap.size := Nat.le_trans Z0 Kc29.1
    have K29 : Keep h0 T29.heap [a] := (Keep.refl h0 [a]).trans Kc29 all0
    refine Gl.st (g' := (mkF m 38 #[.val (.ref a), .val (.int (1 : Int32))] [(.ref b29), (.ref a)])) (fun τ κ => st29 _ κ) ?_
    obtain ⟨T36, h36, X36, e36, W36, st36⟩ := putF X29 hx hZ hown (host := "") (Or.inl (hw _ (List.mem_of_getElem? (i := 12) rfl))) Via.refl rfl F_33 E_30 (Or.inl (hw _ (List.mem_of_getElem? (i := 13) rfl))) (hw _ (List.mem_of_getElem? (i := 1) rfl)) (ty := (.array .byte)) (by decide) rfl rfl (g := (mkF m 38 #[.val (.ref a), .val (.int (1 : Int32))] [(.ref b29), (.ref a)])) rfl rfl (hb hby d4_38)
    have E_37 := E_30.wr W36
    have E_38 := E_31.wr W36
    have F_39 := F_32.other W36 (Or.inr (slot_ne (Or.inr (hw _ (List.mem_of_getElem? (i := 10) rfl))) (Or.inl (hw _ (List.mem_of_getElem? (i := 13) rfl))) (by decide) (t := .int) (t' := (.array .byte)) (by decide) (by decide)))
    have F_41 := F_34.other W36 (Or.inr (slot_ne (Or.inl (hw _ (List.mem_of_getElem? (i := 24) rfl))) (Or.inl (hw _ (List.mem_of_getElem? (i := 13) rfl))) (by decide) (t := .int) (t' := (.array .byte)) (by decide) (by decide)))
    have V_42 := V_35.other W36 (Ne.symm hat)
    have E_43 := Ex29.wr W36
    have V_44 := V29.other W36 (Ne.symm ne_a_b29)
    have N36 := Fr.snoc X36 N29 g0
    have Z36 : n0 ≤ h36.size := Nat.le_trans Z29 (Nat.le_of_eq W36.size.symm)
    have K36 : Keep h0 h36 [a] := K29.wr W36 (Or.inl (List.mem_of_getElem? (i := 0) rfl))
    have F_45 := F_33.same W36
    refine Gl.st (g' := (mkF m 41 #[.val (.ref a), .val (.int (1 : Int32))] [])) (fun τ κ => st36 _ κ) ?_
    exact Gl.ret (v := none) X36 Bd.notSynchronized (fun _ => rfl) e36 (fun fs hr => X36.returnOut hx Bd.returns (hb hby d4_41) hr) (by decide) (by decide) ⟨b29, kk29, (own_max ((2 : Int32) * z) (n + (1 : Int32))), vs29, rfl, N36, K36, E_37, F_39, F_45, F_41, E_43, V_44, (own_grow hn hn3 hz hc23).2.2.1, (own_grow hn hn3 hz hc23).2.2.2.1, g_b29, Or.inr sz_b29, ne_a_b29, fun i hi => hv29 i (Nat.lt_of_lt_of_le hi (own_grow hn hn3 hz hc23).2.2.2.2.1) (Nat.lt_of_lt_of_le hi (own_grow hn hn3 hz hc23).2.2.2.2.2)⟩
  · -- pc 11: not (z - n) < (1 : Int32)
    refine Gl.st (g' := (mkF m 41 #[.val (.ref a), .val (.int (1 : Int32))] [])) (fun τ κ => XS.icmpYes X22.here hx rfl (pc0 := 11) (pc' := 41) rfl (hb hby d4_11) rfl (flt hc23).2.1 (by decide) (by decide) κ) ?_
    exact Gl.ret (v := none) X22 Bd.notSynchronized (fun _ => rfl) e22 (fun fs hr => X22.returnOut hx Bd.returns (hb hby d4_41) hr) (by decide) (by decide) ⟨t, kc, z, vs, rfl, N0, (Keep.refl h0 [a]), E0, FC, FB, FL, Et, V0, own_stay hn hz hc23, hz8, gt, Or.inl rfl, hat, fun i _ => rfl⟩
theorem own_bb (x : Int32) : nar .byte (x.toInt8.toInt32) = x.toInt8.toInt32 := by
  show (x.toInt8.toInt32).toInt8.toInt32 = _
  rw [Int8.toInt8_toInt32]
theorem own_up {n z m : Int32} (h : n < z) (hm : n.toInt + 1 = m.toInt) : ¬ z < m := by
  rw [Int32.lt_iff_toInt_lt] at *; omega
theorem own_in {n z : Int32} (hn : ¬ n < 0) (h : n < z) : ¬ n < 0 ∧ n < z := ⟨hn, h⟩
theorem d3_0 : decode prog_6_method_3_code 0 = .ok (.aload_n 0, 1) := by decide +kernel
theorem d3_1 : decode prog_6_method_3_code 1 = .ok (.iconst 1, 1) := by decide +kernel
theorem d3_2 : decode prog_6_method_3_code 2 = .ok (.invokevirtual 21, 3) := by decide +kernel
theorem pd_2 : parseMethodDescriptor "(I)V" = some ⟨[.int], none⟩ := by decide +kernel
theorem d3_5 : decode prog_6_method_3_code 5 = .ok (.aload_n 0, 1) := by decide +kernel
theorem d3_6 : decode prog_6_method_3_code 6 = .ok (.getfield 13, 3) := by decide +kernel
theorem d3_9 : decode prog_6_method_3_code 9 = .ok (.aload_n 0, 1) := by decide +kernel
theorem d3_10 : decode prog_6_method_3_code 10 = .ok (.dup, 1) := by decide +kernel
theorem d3_11 : decode prog_6_method_3_code 11 = .ok (.getfield 18, 3) := by decide +kernel
theorem d3_14 : decode prog_6_method_3_code 14 = .ok (.dup_x1, 1) := by decide +kernel
theorem d3_15 : decode prog_6_method_3_code 15 = .ok (.iconst 1, 1) := by decide +kernel
theorem d3_16 : decode prog_6_method_3_code 16 = .ok (.iadd, 1) := by decide +kernel
theorem d3_17 : decode prog_6_method_3_code 17 = .ok (.putfield 18, 3) := by decide +kernel
theorem d3_20 : decode prog_6_method_3_code 20 = .ok (.iload_n 1, 1) := by decide +kernel
theorem d3_21 : decode prog_6_method_3_code 21 = .ok (.i2b, 1) := by decide +kernel
theorem d3_22 : decode prog_6_method_3_code 22 = .ok (.bastore, 1) := by decide +kernel
theorem d3_23 : decode prog_6_method_3_code 23 = .ok (.aload_n 0, 1) := by decide +kernel
theorem d3_24 : decode prog_6_method_3_code 24 = .ok (.areturn, 1) := by decide +kernel
theorem ef_rm3 (m : MethodId) (a : Addr) (ch : Int32) : entryFrame m #[(.ref a), (.int ch)] 2 = mkF m 0 #[.val (.ref a), .val (.int ch)] [] := by first | (simp [entryFrame, mkF, argsToLocals, Value.category]; done) | rfl
def Q_rm3 (Z : State) (a : Addr) (ch : Int32) (t : Addr) (kc : ClassId) (c0 n z : Int32) (vs : List Value) (h0 : Heap) (n0 : Nat) (v : Option Value) (h : Heap) (L : List Loc) : Prop := ∃ (t' : Addr) (k' : ClassId) (z' : Int32) (vs' : List Value), v = some (.ref a) ∧ Fr n0 L ∧ Keep h0 h [a, t] ∧ Exa Z h a "com/example/hermitage/hermitage/frame/JsonText" ∧ Fld Z h a "com/example/hermitage/hermitage/frame/JsonText" "capacity" "I" (.int c0) ∧ Fld Z h a "com/example/hermitage/hermitage/frame/JsonText" "bytes" "[B" (.ref t') ∧ Fld Z h a "com/example/hermitage/hermitage/frame/JsonText" "length" "I" (.int (n + (1 : Int32))) ∧ Exa Z h t' "[B" ∧ Arv Z h t' k' .byte z' vs' (.int (0 : Int32)) ∧ n < z' ∧ ¬ (8 : Int32) < z' ∧ n0 ≤ t' ∧ (t' = t ∨ h0.size ≤ t') ∧ a ≠ t' ∧ (∀ i, i < n.toNatClampNeg → vs'.getD i (.int (0 : Int32)) = vs.getD i (.int (0 : Int32))) ∧ vs'.getD n.toNatClampNeg (.int (0 : Int32)) = (.int (ch.toInt8.toInt32))
set_option maxRecDepth 65536 in
set_option maxHeartbeats 40000000 in
theorem rm3 (l : Launch) (Z : State) (a0 : Array Value) (hw : ∀ d ∈ tables_1, d.before a0 Z = true) (ws : List Jvm.Cond) (a : Addr) (ch : Int32) (t : Addr) (kc : ClassId) (c0 n z : Int32) (vs : List Value) (h0 : Heap) (n0 : Nat) (Z0 : n0 ≤ h0.size) (E0 : Exa Z h0 a "com/example/hermitage/hermitage/frame/JsonText") (g0 : n0 ≤ a) (FC : Fld Z h0 a "com/example/hermitage/hermitage/frame/JsonText" "capacity" "I" (.int c0)) (FB : Fld Z h0 a "com/example/hermitage/hermitage/frame/JsonText" "bytes" "[B" (.ref t)) (FL : Fld Z h0 a "com/example/hermitage/hermitage/frame/JsonText" "length" "I" (.int n)) (Et : Exa Z h0 t "[B") (gt : n0 ≤ t) (V0 : Arv Z h0 t kc .byte z vs (.int (0 : Int32))) (hat : a ≠ t) (hn : ¬ n < 0) (hz : ¬ z < n) (hz8 : ¬ (8 : Int32) < z) (hn3 : ¬ (3 : Int32) < n) :
    MetFree l (⟨"com/example/hermitage/hermitage/frame/JsonText", "mark", "(C)Lcom/example/hermitage/hermitage/frame/JsonText;"⟩ : MethodName) (head1 (Jvm.Cond.code (⟨"com/example/hermitage/hermitage/frame/JsonText", "mark", "(C)Lcom/example/hermitage/hermitage/frame/JsonText;"⟩ : MethodName) prog_6_method_3_code 2 (some (.object "com/example/hermitage/hermitage/frame/JsonText")) :: ws) ({ frames := 3, cells := 1, slots := 8, locals := 46 } : Room)) (fun aα Uα => aα = #[(.ref a), (.int ch)] ∧ Z.Warmed39 Uα.vm ∧ Uα.heap = h0) (fun _ _ _ _ _ => True) (fun _ Uα oα Uβ => ∃ vα Lα, oα = .returned vα ∧ Q_rm3 Z a ch t kc c0 n z vs h0 n0 vα Uβ.heap Lα ∧ FrameEnd Uα oα Uβ Lα ({ frames := 3, cells := 1, slots := 8, locals := 46 } : Room).cells ({ frames := 3, cells := 1, slots := 8, locals := 46 } : Room).slots) := by
  refine MetFree.of_bodySF (plainFor_of_name pn_com_example_hermitage_hermitage_frame_JsonText) hisR ?_
  intro p e s m args below meth c s₁ Bd hml0 hP hKα
  obtain ⟨rfl, hZ, hh⟩ := hP
  have hx := Bd.exec
  have hby := Bd.bytes
  have hml : c.maxLocals = 2 := hml0
  have hown : s.vm.findClass "com/example/hermitage/hermitage/frame/JsonText" = some m.cls := findClass_of_methodNamed Bd.named
  have hnm := (name_of_methodNamed Bd.named Bd.method).1
  have X0 : Stand p l e ({ frames := 3, cells := 1, slots := 8, locals := 46 } : Room) s m #[(.ref a), (.int ch)] below meth c s₁ [] 0 0 := Stand.of_body Bd
  have e0 : s₁.heap = h0 := by rw [← hh, Bd.state]; rfl
  have N0 := Fr.nil n0
  suffices k0 : Gl p e below s (Q_rm3 Z a ch t kc c0 n z vs h0 n0) ({ frames := 3, cells := 1, slots := 8, locals := 46 } : Room).cells ({ frames := 3, cells := 1, slots := 8, locals := 46 } : Room).slots s₁ (mkF m 0 #[.val (.ref a), .val (.int ch)] []) from Gl.st (fun τ κ => castTop (ef_rm3 m a ch) κ) k0
  refine Gl.st (g' := (mkF m 1 #[.val (.ref a), .val (.int ch)] [(.ref a)])) (fun τ κ => XS.aloadN X0.here hx rfl (hb hby d3_0) rfl rfl κ) ?_
  refine Gl.st (g' := (mkF m 2 #[.val (.ref a), .val (.int ch)] [(.int (1 : Int32)), (.ref a)])) (fun τ κ => XS.iconst X0.here hx rfl (hb hby d3_1) κ) ?_
  obtain ⟨cq46, q46, q46'⟩ := E0.cell
  obtain ⟨rv46, _, ⟨T46, L46, k46, n46⟩, -, X46, ⟨Lc46, hQ46, l46, y46, z46⟩, st46⟩ := X0.privateBack hx (y := (⟨"com/example/hermitage/hermitage/frame/JsonText", "room", "(I)V"⟩ : MethodName)) hown (mvT hZ (hw _ (List.mem_of_getElem? (i := 19) rfl))) (mvT hZ (hw _ (List.mem_of_getElem? (i := 20) rfl))) (selPrivate (z := (⟨"com/example/hermitage/hermitage/frame/JsonText", "mark", "(C)Lcom/example/hermitage/hermitage/frame/JsonText;"⟩ : MethodName)) rfl (mvT hZ (hw _ (List.mem_of_getElem? (i := 17) rfl))) (Cond.privateMethod_at (mvP hZ (hw _ (List.mem_of_getElem? (i := 21) rfl)) (args := #[]))) (mvT hZ (hw _ (List.mem_of_getElem? (i := 20) rfl))) (by decide)) (Cond.privateMethod_at (mvP hZ (hw _ (List.mem_of_getElem? (i := 21) rfl)) (args := #[]))) (mvT hZ (hw _ (List.mem_of_getElem? (i := 22) rfl))) (by decide) (backOf (W := 0) (rm4 l Z a0 hw [] a t kc c0 n z vs h0 n0 Z0 E0 g0 FC FB FL Et gt V0 hat hn hz hz8 hn3) hZ (hw _ (List.mem_of_getElem? (i := 22) rfl)) (hw _ (List.mem_of_getElem? (i := 2) rfl)) (by decide) (by decide)) (g := (mkF m 2 #[.val (.ref a), .val (.int ch)] [(.int (1 : Int32)), (.ref a)])) rfl (by rw [hml]; rfl) (Steps.refl _) (a := a) (by rw [e0]; exact q46) q46' (argsL := [(.int (1 : Int32))]) (rest := []) (lenOf pd_2 rfl) rfl (by show 2 * 0 + _ ≤ _; exact Nat.le_of_eq rfl) (hb hby d3_2) (fun _ _ => ⟨rfl, e0, (by decide : 0 + 1 ≤ _), (by decide : 0 + 8 ≤ _)⟩)
  dsimp only [Pt.U, Pt.locs, Pt.cells, Pt.slots] at X46 l46 y46 z46 st46 hQ46
  subst l46 y46 z46
  obtain ⟨t46, kk46, z46, vs46, rfl, N46q, Kc46, Ec46, FC46, FB46, FL46, Et46, V46, nz46, z846, gt46, or46, ne46, hv46⟩ := hQ46
  have E_47 := E0.keep Kc46
  have E_48 := Et.keep Kc46
  have V_52 := V0.keep Kc46 (ninS (Ne.symm hat) nin0)
  have N46 := Fr.app N0 N46q
  have Z46 : n0 ≤ T46.heap.size := Nat.le_trans Z0 Kc46.1
  have K46 : Keep h0 T46.heap [a, t] := (Keep.refl h0 [a, t]).trans Kc46 (allS (Or.inl (List.mem_of_getElem? (i := 0) rfl)) all0)
  refine Gl.st (g' := (mkF m 5 #[.val (.ref a), .val (.int ch)] [])) (fun τ κ => st46.trans κ) ?_
  refine Gl.st (g' := (mkF m 6 #[.val (.ref a), .val (.int ch)] [(.ref a)])) (fun τ κ => XS.aloadN X46.here hx rfl (hb hby d3_5) rfl rfl κ) ?_
  obtain ⟨T53, X53, e53, st53⟩ := getF X46 hx hZ hown (host := "") (Or.inl (hw _ (List.mem_of_getElem? (i := 12) rfl))) Via.refl rfl FB46 (g := (mkF m 6 #[.val (.ref a), .val (.int ch)] [(.ref a)])) rfl rfl (hb hby d3_6)
  refine Gl.st (g' := (mkF m 9 #[.val (.ref a), .val (.int ch)] [(.ref t46)])) (fun τ κ => st53 _ κ) ?_
  refine Gl.st (g' := (mkF m 10 #[.val (.ref a), .val (.int ch)] [(.ref a), (.ref t46)])) (fun τ κ => XS.aloadN X53.here hx rfl (hb hby d3_9) rfl rfl κ) ?_
  refine Gl.st (g' := (mkF m 11 #[.val (.ref a), .val (.int ch)] [(.ref a), (.ref a), (.ref t46)])) (fun τ κ => XS.dup X53.here hx rfl (hb hby d3_10) rfl rfl κ) ?_
  obtain ⟨T54, X54, e54, st54⟩ := getF X53 hx hZ hown (host := "") (Or.inl (hw _ (List.mem_of_getElem? (i := 23) rfl))) Via.refl e53 FL46 (g := (mkF m 11 #[.val (.ref a), .val (.int ch)] [(.ref a), (.ref a), (.ref t46)])) rfl rfl (hb hby d3_11)
  refine Gl.st (g' := (mkF m 14 #[.val (.ref a), .val (.int ch)] [(.int n), (.ref a), (.ref t46)])) (fun τ κ => st54 _ κ) ?_
  refine Gl.st (g' := (mkF m 15 #[.val (.ref a), .val (.int ch)] [(.int n), (.ref a), (.int n), (.ref t46)])) (fun τ κ => XS.dupX1 X54.here hx rfl (hb hby d3_14) rfl rfl rfl κ) ?_
  refine Gl.st (g' := (mkF m 16 #[.val (.ref a), .val (.int ch)] [(.int (1 : Int32)), (.int n), (.ref a), (.int n), (.ref t46)])) (fun τ κ => XS.iconst X54.here hx rfl (hb hby d3_15) κ) ?_
  refine Gl.st (g' := (mkF m 17 #[.val (.ref a), .val (.int ch)] [(.int (n + (1 : Int32))), (.ref a), (.int n), (.ref t46)])) (fun τ κ => XS.iadd X54.here hx rfl (hb hby d3_16) rfl κ) ?_
  obtain ⟨T55, h55, X55, e55, W55, st55⟩ := putF X54 hx hZ hown (host := "") (Or.inl (hw _ (List.mem_of_getElem? (i := 23) rfl))) Via.refl e54 FL46 Ec46 (Or.inl (hw _ (List.mem_of_getElem? (i := 24) rfl))) (hw _ (List.mem_of_getElem? (i := 1) rfl)) (ty := .int) (by decide) rfl rfl (g := (mkF m 17 #[.val (.ref a), .val (.int ch)] [(.int (n + (1 : Int32))), (.ref a), (.int n), (.ref t46)])) rfl rfl (hb hby d3_17)
  have E_56 := Ec46.wr W55
  have F_57 := FC46.other W55 (Or.inr (slot_ne (Or.inr (hw _ (List.mem_of_getElem? (i := 10) rfl))) (Or.inl (hw _ (List.mem_of_getElem? (i := 24) rfl))) (by decide) (t := .int) (t' := .int) (by decide) (by decide)))
  have F_58 := FB46.other W55 (Or.inr (slot_ne (Or.inl (hw _ (List.mem_of_getElem? (i := 13) rfl))) (Or.inl (hw _ (List.mem_of_getElem? (i := 24) rfl))) (by decide) (t := (.array .byte)) (t' := .int) (by decide) (by decide)))
  have E_60 := Et46.wr W55
  have V_61 := V46.other W55 (Ne.symm ne46)
  have N55 := Fr.snoc X55 N46 g0
  have Z55 : n0 ≤ h55.size := Nat.le_trans Z46 (Nat.le_of_eq W55.size.symm)
  have K55 : Keep h0 h55 [a, t] := K46.wr W55 (Or.inl (List.mem_of_getElem? (i := 0) rfl))
  have F_62 := FL46.same W55
  refine Gl.st (g' := (mkF m 20 #[.val (.ref a), .val (.int ch)] [(.int n), (.ref t46)])) (fun τ κ => st55 _ κ) ?_
  refine Gl.st (g' := (mkF m 21 #[.val (.ref a), .val (.int ch)] [(.int ch), (.int n), (.ref t46)])) (fun τ κ => XS.iloadN X55.here hx rfl (hb hby d3_20) rfl κ) ?_
  refine Gl.st (g' := (mkF m 22 #[.val (.ref a), .val (.int ch)] [(.int (ch.toInt8.toInt32)), (.int n), (.ref t46)])) (fun τ κ => XS.i2b X55.here hx rfl (hb hby d3_21) rfl κ) ?_
  obtain ⟨cl_o63, Ar_o63, q_o63, S_o63, M_o63, H_o63, G_o63⟩ := id V_61
  have hin_o63 : ¬ (n < 0 ∨ cl_o63.slots.size ≤ (n).toNatClampNeg) := inb_of S_o63 ⟨hn, nz46⟩
  obtain ⟨T64, h64, X64, e64, W64, st64⟩ := stB X55 hx hZ e55 Ar_o63 (j := n) hin_o63 (g := (mkF m 22 #[.val (.ref a), .val (.int ch)] [(.int (ch.toInt8.toInt32)), (.int n), (.ref t46)])) rfl rfl (hb hby d3_22)
  obtain ⟨vs64, hvs64⟩ := own_upd vs46 (n).toNatClampNeg (.int (nar .byte (ch.toInt8.toInt32))) (.int (0 : Int32))
  have E_65 := E_56.wr W64
  have F_66 := F_57.other W64 (Or.inl ne46)
  have F_67 := F_58.other W64 (Or.inl ne46)
  have F_68 := F_62.other W64 (Or.inl ne46)
  have E_69 := E_60.wr W64
  have N64 := Fr.snoc X64 N55 gt46
  have Z64 : n0 ≤ h64.size := Nat.le_trans Z55 (Nat.le_of_eq W64.size.symm)
  have K64 : Keep h0 h64 [a, t] := K55.wr W64 (or46.elim (fun q => Or.inl (by simp [q])) Or.inr)
  have V_t46_64 : Arv Z h64 t46 kk46 .byte z46 vs64 (.int (0 : Int32)) := own_set Ar_o63 q_o63 S_o63 M_o63 H_o63 G_o63 (fits_nar_byte _) W64 hvs64
  refine Gl.st (g' := (mkF m 23 #[.val (.ref a), .val (.int ch)] [])) (fun τ κ => st64 _ κ) ?_
  refine Gl.st (g' := (mkF m 24 #[.val (.ref a), .val (.int ch)] [(.ref a)])) (fun τ κ => XS.aloadN X64.here hx rfl (hb hby d3_23) rfl rfl κ) ?_
  exact Gl.ret (v := some (.ref a)) X64 Bd.notSynchronized (fun h => by rw [Bd.returns] at h; cases h) e64 (fun fs hr => (by
      jvm_step X64.here [X64.here.top, hx, (hb hby d3_24), X64.method', Bd.returns, Value.isRef, FieldType.isReference]
      first | (intro acts; rw [hr _ acts rfl rfl rfl]) | rw [hr _ _ rfl rfl rfl]
      exact Steps.refl _)) (by decide) (by decide) ⟨t46, kk46, z46, vs64, rfl, N64, K64, E_65, F_66, F_67, F_68, E_69, V_t46_64, nz46, z846, gt46, or46, ne46, fun i hi => ((hvs64 i).trans (if_neg (Nat.ne_of_lt hi))).trans (hv46 i hi), ((hvs64 _).trans (if_pos rfl)).trans (by rw [own_bb])⟩
theorem own_small {z : Int32} (h : ¬ (8 : Int32) < z) : ¬ (1048576 : Int32) < z := by
  rw [Int32.lt_iff_toInt_lt] at *; rw [own_i8] at h; rw [show (1048576 : Int32).toInt = 1048576 from rfl]; omega
theorem d10_0 : decode prog_6_method_2_code 0 = .ok (.ldc 17, 2) := by decide +kernel
theorem d10_2 : decode prog_6_method_2_code 2 = .ok (.aload_n 0, 1) := by decide +kernel
theorem d10_3 : decode prog_6_method_2_code 3 = .ok (.getfield 13, 3) := by decide +kernel
theorem d10_6 : decode prog_6_method_2_code 6 = .ok (.arraylength, 1) := by decide +kernel
theorem d10_7 : decode prog_6_method_2_code 7 = .ok (.if_icmp .ge 13, 3) := by decide +kernel
theorem d10_20 : decode prog_6_method_2_code 20 = .ok (.aload_n 0, 1) := by decide +kernel
theorem d10_21 : decode prog_6_method_2_code 21 = .ok (.iconst 0, 1) := by decide +kernel
theorem d10_22 : decode prog_6_method_2_code 22 = .ok (.putfield 18, 3) := by decide +kernel
theorem d10_25 : decode prog_6_method_2_code 25 = .ok (.aload_n 0, 1) := by decide +kernel
theorem d10_26 : decode prog_6_method_2_code 26 = .ok (.areturn, 1) := by decide +kernel
theorem ef_rm10 (m : MethodId) (a : Addr) : entryFrame m #[(.ref a)] 1 = mkF m 0 #[.val (.ref a)] [] := by first | (simp [entryFrame, mkF, argsToLocals, Value.category]; done) | rfl
def Q_rm10 (Z : State) (a : Addr) (t : Addr) (kc : ClassId) (c0 n z : Int32) (vs : List Value) (h0 : Heap) (n0 : Nat) (v : Option Value) (h : Heap) (L : List Loc) : Prop := v = some (.ref a) ∧ Fr n0 L ∧ Keep h0 h [a] ∧ Exa Z h a "com/example/hermitage/hermitage/frame/JsonText" ∧ Fld Z h a "com/example/hermitage/hermitage/frame/JsonText" "capacity" "I" (.int c0) ∧ Fld Z h a "com/example/hermitage/hermitage/frame/JsonText" "bytes" "[B" (.ref t) ∧ Fld Z h a "com/example/hermitage/hermitage/frame/JsonText" "length" "I" (.int (0 : Int32))
set_option maxRecDepth 65536 in
set_option maxHeartbeats 40000000 in
theorem rm10 (l : Launch) (Z : State) (a0 : Array Value) (hw : ∀ d ∈ tables_1, d.before a0 Z = true) (ws : List Jvm.Cond) (a : Addr) (t : Addr) (kc : ClassId) (c0 n z : Int32) (vs : List Value) (h0 : Heap) (n0 : Nat) (Z0 : n0 ≤ h0.size) (E0 : Exa Z h0 a "com/example/hermitage/hermitage/frame/JsonText") (g0 : n0 ≤ a) (FC : Fld Z h0 a "com/example/hermitage/hermitage/frame/JsonText" "capacity" "I" (.int c0)) (FB : Fld Z h0 a "com/example/hermitage/hermitage/frame/JsonText" "bytes" "[B" (.ref t)) (FL : Fld Z h0 a "com/example/hermitage/hermitage/frame/JsonText" "length" "I" (.int n)) (Et : Exa Z h0 t "[B") (gt : n0 ≤ t) (V0 : Arv Z h0 t kc .byte z vs (.int (0 : Int32))) (hat : a ≠ t) (hn : ¬ n < 0) (hz : ¬ z < n) (hz8 : ¬ (8 : Int32) < z) :
    MetFree l (⟨"com/example/hermitage/hermitage/frame/JsonText", "clear", "()Lcom/example/hermitage/hermitage/frame/JsonText;"⟩ : MethodName) (head1 (Jvm.Cond.code (⟨"com/example/hermitage/hermitage/frame/JsonText", "clear", "()Lcom/example/hermitage/hermitage/frame/JsonText;"⟩ : MethodName) prog_6_method_2_code 1 (some (.object "com/example/hermitage/hermitage/frame/JsonText")) :: ws) ({ frames := 0, cells := 0, slots := 0, locals := 0 } : Room)) (fun aα Uα => aα = #[(.ref a)] ∧ Z.Warmed39 Uα.vm ∧ Uα.heap = h0) (fun _ _ _ _ _ => True) (fun _ Uα oα Uβ => ∃ vα Lα, oα = .returned vα ∧ Q_rm10 Z a t kc c0 n z vs h0 n0 vα Uβ.heap Lα ∧ FrameEnd Uα oα Uβ Lα ({ frames := 0, cells := 0, slots := 0, locals := 0 } : Room).cells ({ frames := 0, cells := 0, slots := 0, locals := 0 } : Room).slots) := by
  refine MetFree.of_bodySF (plainFor_of_name pn_com_example_hermitage_hermitage_frame_JsonText) hisR ?_
  intro p e s m args below meth c s₁ Bd hml0 hP hKα
  obtain ⟨rfl, hZ, hh⟩ := hP
  have hx := Bd.exec
  have hby := Bd.bytes
  have hml : c.maxLocals = 1 := hml0
  have hown : s.vm.findClass "com/example/hermitage/hermitage/frame/JsonText" = some m.cls := findClass_of_methodNamed Bd.named
  have hnm := (name_of_methodNamed Bd.named Bd.method).1
  have X0 : Stand p l e ({ frames := 0, cells := 0, slots := 0, locals := 0 } : Room) s m #[(.ref a)] below meth c s₁ [] 0 0 := Stand.of_body Bd
  have e0 : s₁.heap = h0 := by rw [← hh, Bd.state]; rfl
  have N0 := Fr.nil n0
  suffices k0 : Gl p e below s (Q_rm10 Z a t kc c0 n z vs h0 n0) ({ frames := 0, cells := 0, slots := 0, locals := 0 } : Room).cells ({ frames := 0, cells := 0, slots := 0, locals := 0 } : Room).slots s₁ (mkF m 0 #[.val (.ref a)] []) from Gl.st (fun τ κ => castTop (ef_rm10 m a) κ) k0
  refine Gl.st (g' := (mkF m 2 #[.val (.ref a)] [(.int (1048576 : Int32))])) (fun τ κ => X0.ldcInt hx hown (mvT hZ (hw _ (List.mem_of_getElem? (i := 54) rfl))) (g := (mkF m 0 #[.val (.ref a)] [])) rfl (hb hby d10_0) _ κ) ?_
  refine Gl.st (g' := (mkF m 3 #[.val (.ref a)] [(.ref a), (.int (1048576 : Int32))])) (fun τ κ => XS.aloadN X0.here hx rfl (hb hby d10_2) rfl rfl κ) ?_
  obtain ⟨T71, X71, e71, st71⟩ := getF X0 hx hZ hown (host := "") (Or.inl (hw _ (List.mem_of_getElem? (i := 12) rfl))) Via.refl e0 FB (g := (mkF m 3 #[.val (.ref a)] [(.ref a), (.int (1048576 : Int32))])) rfl rfl (hb hby d10_3)
  refine Gl.st (g' := (mkF m 6 #[.val (.ref a)] [(.ref t), (.int (1048576 : Int32))])) (fun τ κ => st71 _ κ) ?_
  obtain ⟨cl_o72, Ar_o72, q_o72, S_o72, M_o72, H_o72, G_o72⟩ := id V0
  refine Gl.st (g' := (mkF m 7 #[.val (.ref a)] [(.int z), (.int (1048576 : Int32))])) (fun τ κ => X71.arraylength hx (by rw [e71]; exact Ar_o72.1) (State.isArrayOf_alike hZ.alike Ar_o72.2.1) (g := (mkF m 6 #[.val (.ref a)] [(.ref t), (.int (1048576 : Int32))])) rfl rfl (hb hby d10_6) _ (by rw [len_of S_o72 M_o72]; exact κ)) ?_
  have hc73 : ¬ ((1048576 : Int32) < z) := own_small hz8
  refine Gl.st (g' := (mkF m 20 #[.val (.ref a)] [])) (fun τ κ => XS.icmpYes X71.here hx rfl (pc0 := 7) (pc' := 20) rfl (hb hby d10_7) rfl (flt hc73).2.1 (by decide) (by decide) κ) ?_
  refine Gl.st (g' := (mkF m 21 #[.val (.ref a)] [(.ref a)])) (fun τ κ => XS.aloadN X71.here hx rfl (hb hby d10_20) rfl rfl κ) ?_
  refine Gl.st (g' := (mkF m 22 #[.val (.ref a)] [(.int (0 : Int32)), (.ref a)])) (fun τ κ => XS.iconst X71.here hx rfl (hb hby d10_21) κ) ?_
  obtain ⟨T74, h74, X74, e74, W74, st74⟩ := putF X71 hx hZ hown (host := "") (Or.inl (hw _ (List.mem_of_getElem? (i := 23) rfl))) Via.refl e71 FL E0 (Or.inl (hw _ (List.mem_of_getElem? (i := 24) rfl))) (hw _ (List.mem_of_getElem? (i := 1) rfl)) (ty := .int) (by decide) rfl rfl (g := (mkF m 22 #[.val (.ref a)] [(.int (0 : Int32)), (.ref a)])) rfl rfl (hb hby d10_22)
  have E_75 := E0.wr W74
  have E_76 := Et.wr W74
  have F_77 := FC.other W74 (Or.inr (slot_ne (Or.inr (hw _ (List.mem_of_getElem? (i := 10) rfl))) (Or.inl (hw _ (List.mem_of_getElem? (i := 24) rfl))) (by decide) (t := .int) (t' := .int) (by decide) (by decide)))
  have F_78 := FB.other W74 (Or.inr (slot_ne (Or.inl (hw _ (List.mem_of_getElem? (i := 13) rfl))) (Or.inl (hw _ (List.mem_of_getElem? (i := 24) rfl))) (by decide) (t := (.array .byte)) (t' := .int) (by decide) (by decide)))
  have V_80 := V0.other W74 (Ne.symm hat)
  have N74 := Fr.snoc X74 N0 g0
  have Z74 : n0 ≤ h74.size := Nat.le_trans Z0 (Nat.le_of_eq W74.size.symm)
  have K74 : Keep h0 h74 [a] := (Keep.refl h0 [a]).wr W74 (Or.inl (List.mem_of_getElem? (i := 0) rfl))
  have F_81 := FL.same W74
  refine Gl.st (g' := (mkF m 25 #[.val (.ref a)] [])) (fun τ κ => st74 _ κ) ?_
  refine Gl.st (g' := (mkF m 26 #[.val (.ref a)] [(.ref a)])) (fun τ κ => XS.aloadN X74.here hx rfl (hb hby d10_25) rfl rfl κ) ?_
  exact Gl.ret (v := some (.ref a)) X74 Bd.notSynchronized (fun h => by rw [Bd.returns] at h; cases h) e74 (fun fs hr => (by
      jvm_step X74.here [X74.here.top, hx, (hb hby d10_26), X74.method', Bd.returns, Value.isRef, FieldType.isReference]
      first | (intro acts; rw [hr _ acts rfl rfl rfl]) | rw [hr _ _ rfl rfl rfl]
      exact Steps.refl _)) (by decide) (by decide) ⟨rfl, N74, K74, E_75, F_77, F_78, F_81⟩
theorem own_tb {n : Int32} (hn : ¬ n < 0) (h : ¬ (3 : Int32) < n) : n.toNatClampNeg ≤ 8 := by
  have := own_nat hn; rw [Int32.lt_iff_toInt_lt, own_i3] at h; omega
theorem own_nz' {n z : Int32} (hn : ¬ n < 0) (hz : ¬ z < n) : n.toNatClampNeg ≤ z.toNatClampNeg := by
  have := own_nat hn; have := own_nat (own_zn hn hz); rw [Int32.lt_iff_toInt_lt] at hz; omega
theorem d8_0 : decode prog_6_method_8_code 0 = .ok (.aload_n 0, 1) := by decide +kernel
theorem d8_1 : decode prog_6_method_8_code 1 = .ok (.getfield 13, 3) := by decide +kernel
theorem d8_4 : decode prog_6_method_8_code 4 = .ok (.aload_n 0, 1) := by decide +kernel
theorem d8_5 : decode prog_6_method_8_code 5 = .ok (.getfield 18, 3) := by decide +kernel
theorem d8_8 : decode prog_6_method_8_code 8 = .ok (.invokestatic 106, 3) := by decide +kernel
theorem d8_11 : decode prog_6_method_8_code 11 = .ok (.areturn, 1) := by decide +kernel
theorem ef_rm8 (m : MethodId) (a : Addr) : entryFrame m #[(.ref a)] 1 = mkF m 0 #[.val (.ref a)] [] := by first | (simp [entryFrame, mkF, argsToLocals, Value.category]; done) | rfl
def Q_rm8 (Z : State) (a : Addr) (t : Addr) (kc : ClassId) (c0 n z : Int32) (vs : List Value) (h0 : Heap) (n0 : Nat) (v : Option Value) (h : Heap) (L : List Loc) : Prop := ∃ b k vs', v = some (.ref b) ∧ Fr n0 L ∧ Keep h0 h [] ∧ h0.size ≤ b ∧ Exa Z h b "[B" ∧ Arv Z h b k .byte n vs' (.int (0 : Int32)) ∧ ∀ i, i < n.toNatClampNeg → vs'.getD i (.int (0 : Int32)) = vs.getD i (.int (0 : Int32))
set_option maxRecDepth 65536 in
set_option maxHeartbeats 40000000 in
theorem rm8 (l : Launch) (Z : State) (a0 : Array Value) (hw : ∀ d ∈ tables_1, d.before a0 Z = true) (ws : List Jvm.Cond) (a : Addr) (t : Addr) (kc : ClassId) (c0 n z : Int32) (vs : List Value) (h0 : Heap) (n0 : Nat) (Z0 : n0 ≤ h0.size) (E0 : Exa Z h0 a "com/example/hermitage/hermitage/frame/JsonText") (g0 : n0 ≤ a) (FC : Fld Z h0 a "com/example/hermitage/hermitage/frame/JsonText" "capacity" "I" (.int c0)) (FB : Fld Z h0 a "com/example/hermitage/hermitage/frame/JsonText" "bytes" "[B" (.ref t)) (FL : Fld Z h0 a "com/example/hermitage/hermitage/frame/JsonText" "length" "I" (.int n)) (Et : Exa Z h0 t "[B") (gt : n0 ≤ t) (V0 : Arv Z h0 t kc .byte z vs (.int (0 : Int32))) (hat : a ≠ t) (hn : ¬ n < 0) (hz : ¬ z < n) (hz8 : ¬ (8 : Int32) < z) (hn3 : ¬ (3 : Int32) < n) :
    MetFree l (⟨"com/example/hermitage/hermitage/frame/JsonText", "toBytes", "()[B"⟩ : MethodName) (head1 (Jvm.Cond.code (⟨"com/example/hermitage/hermitage/frame/JsonText", "toBytes", "()[B"⟩ : MethodName) prog_6_method_8_code 1 (some (.array .byte)) :: ws) ({ frames := 2, cells := 1, slots := 8, locals := 32 } : Room)) (fun aα Uα => aα = #[(.ref a)] ∧ Z.Warmed39 Uα.vm ∧ Uα.heap = h0) (fun _ _ _ _ _ => True) (fun _ Uα oα Uβ => ∃ vα Lα, oα = .returned vα ∧ Q_rm8 Z a t kc c0 n z vs h0 n0 vα Uβ.heap Lα ∧ FrameEnd Uα oα Uβ Lα ({ frames := 2, cells := 1, slots := 8, locals := 32 } : Room).cells ({ frames := 2, cells := 1, slots := 8, locals := 32 } : Room).slots) := by
  refine MetFree.of_bodySF (plainFor_of_name pn_com_example_hermitage_hermitage_frame_JsonText) hisR ?_
  intro p e s m args below meth c s₁ Bd hml0 hP hKα
  obtain ⟨rfl, hZ, hh⟩ := hP
  have hx := Bd.exec
  have hby := Bd.bytes
  have hml : c.maxLocals = 1 := hml0
  have hown : s.vm.findClass "com/example/hermitage/hermitage/frame/JsonText" = some m.cls := findClass_of_methodNamed Bd.named
  have hnm := (name_of_methodNamed Bd.named Bd.method).1
  have X0 : Stand p l e ({ frames := 2, cells := 1, slots := 8, locals := 32 } : Room) s m #[(.ref a)] below meth c s₁ [] 0 0 := Stand.of_body Bd
  have e0 : s₁.heap = h0 := by rw [← hh, Bd.state]; rfl
  have N0 := Fr.nil n0
  suffices k0 : Gl p e below s (Q_rm8 Z a t kc c0 n z vs h0 n0) ({ frames := 2, cells := 1, slots := 8, locals := 32 } : Room).cells ({ frames := 2, cells := 1, slots := 8, locals := 32 } : Room).slots s₁ (mkF m 0 #[.val (.ref a)] []) from Gl.st (fun τ κ => castTop (ef_rm8 m a) κ) k0
  refine Gl.st (g' := (mkF m 1 #[.val (.ref a)] [(.ref a)])) (fun τ κ => XS.aloadN X0.here hx rfl (hb hby d8_0) rfl rfl κ) ?_
  obtain ⟨T82, X82, e82, st82⟩ := getF X0 hx hZ hown (host := "") (Or.inl (hw _ (List.mem_of_getElem? (i := 12) rfl))) Via.refl e0 FB (g := (mkF m 1 #[.val (.ref a)] [(.ref a)])) rfl rfl (hb hby d8_1)
  refine Gl.st (g' := (mkF m 4 #[.val (.ref a)] [(.ref t)])) (fun τ κ => st82 _ κ) ?_
  refine Gl.st (g' := (mkF m 5 #[.val (.ref a)] [(.ref a), (.ref t)])) (fun τ κ => XS.aloadN X82.here hx rfl (hb hby d8_4) rfl rfl κ) ?_
  obtain ⟨T83, X83, e83, st83⟩ := getF X82 hx hZ hown (host := "") (Or.inl (hw _ (List.mem_of_getElem? (i := 23) rfl))) Via.refl e82 FL (g := (mkF m 5 #[.val (.ref a)] [(.ref a), (.ref t)])) rfl rfl (hb hby d8_5)
  refine Gl.st (g' := (mkF m 8 #[.val (.ref a)] [(.int n), (.ref t)])) (fun τ κ => st83 _ κ) ?_
  obtain ⟨rv84, _, ⟨T84, L84, k84, n84⟩, -, X84, ⟨Lc84, hQ84, l84, y84, z84⟩, st84⟩ := Jvm.LawKit.callS X83 hx (y := (⟨"java/util/Arrays", "copyOf", "([BI)[B"⟩ : MethodName)) hown (mvT hZ (hw _ (List.mem_of_getElem? (i := 29) rfl))) (mvT hZ (hw _ (List.mem_of_getElem? (i := 30) rfl))) (mvT hZ (hw _ (List.mem_of_getElem? (i := 31) rfl))) (mvT hZ (hw _ (List.mem_of_getElem? (i := 32) rfl))) (by decide) (backOf (W := 0) (rm6 l Z a0 hw [] t n kc z vs h0 n0 Z0 V0 Et (own_zn hn hz) hn (own_tb hn hn3)) hZ (hw _ (List.mem_of_getElem? (i := 32) rfl)) (hw _ (List.mem_of_getElem? (i := 31) rfl)) (by decide) (by decide)) (g := (mkF m 8 #[.val (.ref a)] [(.int n), (.ref t)])) rfl (by rw [hml]; rfl) (argsL := [(.ref t), (.int n)]) (rest := []) (lenOf pd_1 rfl) rfl (by show 2 * 0 + _ ≤ _; exact Nat.le_of_eq rfl) (hb hby d8_8) (fun _ _ => ⟨rfl, e83, (by decide : 0 + 1 ≤ _), (by decide : 0 + 8 ≤ _)⟩)
  dsimp only [Pt.U, Pt.locs, Pt.cells, Pt.slots] at X84 l84 y84 z84 st84 hQ84
  subst l84 y84 z84
  obtain ⟨b84, kk84, vs84, rfl, N84q, Kc84, s84, Ex84, V84, hv84⟩ := hQ84
  have ne_a_b84 : a ≠ b84 := Nat.ne_of_lt (Nat.lt_of_lt_of_le E0.lt s84)
  have ne_t_b84 : t ≠ b84 := Nat.ne_of_lt (Nat.lt_of_lt_of_le Et.lt s84)
  have g_b84 : n0 ≤ b84 := Nat.le_trans Z0 s84
  have sz_b84 : h0.size ≤ b84 := Nat.le_trans (Keep.refl h0 []).1 s84
  have E_85 := E0.keep Kc84
  have E_86 := Et.keep Kc84
  have F_87 := FC.keep Kc84 nin0
  have F_88 := FB.keep Kc84 nin0
  have F_89 := FL.keep Kc84 nin0
  have V_90 := V0.keep Kc84 nin0
  have N84 := Fr.app N0 N84q
  have Z84 : n0 ≤ T84.heap.size := Nat.le_trans Z0 Kc84.1
  have K84 : Keep h0 T84.heap [] := (Keep.refl h0 []).trans Kc84 all0
  refine Gl.st (g' := (mkF m 11 #[.val (.ref a)] [(.ref b84)])) (fun τ κ => st84 _ κ) ?_
  exact Gl.ret (v := some (.ref b84)) X84 Bd.notSynchronized (fun h => by rw [Bd.returns] at h; cases h) rfl (fun fs hr => (by
      jvm_step X84.here [X84.here.top, hx, (hb hby d8_11), X84.method', Bd.returns, Value.isRef, FieldType.isReference]
      first | (intro acts; rw [hr _ acts rfl rfl rfl]) | rw [hr _ _ rfl rfl rfl]
      exact Steps.refl _)) (by decide) (by decide) ⟨b84, kk84, vs84, rfl, N84, K84, sz_b84, Ex84, V84, fun i hi => hv84 i (Nat.lt_of_lt_of_le hi (own_nz' hn hz)) hi⟩
theorem d1_0 : decode prog_6_method_1_code 0 = .ok (.aload_n 0, 1) := by decide +kernel
theorem d1_1 : decode prog_6_method_1_code 1 = .ok (.invokespecial 1, 3) := by decide +kernel
theorem d1_4 : decode prog_6_method_1_code 4 = .ok (.aload_n 0, 1) := by decide +kernel
theorem d1_5 : decode prog_6_method_1_code 5 = .ok (.iload_n 1, 1) := by decide +kernel
theorem d1_6 : decode prog_6_method_1_code 6 = .ok (.putfield 7, 3) := by decide +kernel
theorem d1_9 : decode prog_6_method_1_code 9 = .ok (.aload_n 0, 1) := by decide +kernel
theorem d1_10 : decode prog_6_method_1_code 10 = .ok (.iload_n 1, 1) := by decide +kernel
theorem d1_11 : decode prog_6_method_1_code 11 = .ok (.newarray .byte, 2) := by decide +kernel
theorem d1_13 : decode prog_6_method_1_code 13 = .ok (.putfield 13, 3) := by decide +kernel
theorem d1_16 : decode prog_6_method_1_code 16 = .ok (.return_, 1) := by decide +kernel
theorem ef_rm1 (m : MethodId) (a : Addr) (pp : Int32) : entryFrame m #[(.ref a), (.int pp)] 2 = mkF m 0 #[.val (.ref a), .val (.int pp)] [] := by first | (simp [entryFrame, mkF, argsToLocals, Value.category]; done) | rfl
def Q_rm1 (Z : State) (a : Addr) (pp : Int32)  (h0 : Heap) (n0 : Nat) (v : Option Value) (h : Heap) (L : List Loc) : Prop := ∃ t k, v = none ∧ Fr n0 L ∧ Keep h0 h [a] ∧ Exa Z h a "com/example/hermitage/hermitage/frame/JsonText" ∧ Fld Z h a "com/example/hermitage/hermitage/frame/JsonText" "capacity" "I" (.int pp) ∧ Fld Z h a "com/example/hermitage/hermitage/frame/JsonText" "bytes" "[B" (.ref t) ∧ Fld Z h a "com/example/hermitage/hermitage/frame/JsonText" "length" "I" (.int (0 : Int32)) ∧ Exa Z h t "[B" ∧ Arv Z h t k .byte pp [] (.int (0 : Int32)) ∧ h0.size ≤ t
set_option maxRecDepth 65536 in
set_option maxHeartbeats 40000000 in
theorem rm1 (l : Launch) (Z : State) (a0 : Array Value) (hw : ∀ d ∈ tables_1, d.before a0 Z = true) (ws : List Jvm.Cond) (a : Addr) (pp : Int32)  (h0 : Heap) (n0 : Nat) (Z0 : n0 ≤ h0.size) (E0 : Exa Z h0 a "com/example/hermitage/hermitage/frame/JsonText") (g0 : n0 ≤ a) (FC : Fld Z h0 a "com/example/hermitage/hermitage/frame/JsonText" "capacity" "I" (.int (0 : Int32))) (FB : Fld Z h0 a "com/example/hermitage/hermitage/frame/JsonText" "bytes" "[B" .null) (FL : Fld Z h0 a "com/example/hermitage/hermitage/frame/JsonText" "length" "I" (.int (0 : Int32))) (hp : ¬ pp < 0) (hp7 : pp.toNatClampNeg ≤ 7) :
    MetFree l (⟨"com/example/hermitage/hermitage/frame/JsonText", "<init>", "(I)V"⟩ : MethodName) (head1 (Jvm.Cond.code (⟨"com/example/hermitage/hermitage/frame/JsonText", "<init>", "(I)V"⟩ : MethodName) prog_6_method_1_code 2 none :: ws) ({ frames := 1, cells := 1, slots := 7, locals := 12 } : Room)) (fun aα Uα => aα = #[(.ref a), (.int pp)] ∧ Z.Warmed39 Uα.vm ∧ Uα.heap = h0) (fun _ _ _ _ _ => True) (fun _ Uα oα Uβ => ∃ vα Lα, oα = .returned vα ∧ Q_rm1 Z a pp  h0 n0 vα Uβ.heap Lα ∧ FrameEnd Uα oα Uβ Lα ({ frames := 1, cells := 1, slots := 7, locals := 12 } : Room).cells ({ frames := 1, cells := 1, slots := 7, locals := 12 } : Room).slots) := by
  refine MetFree.of_bodySF (plainFor_of_name pn_com_example_hermitage_hermitage_frame_JsonText) hisR ?_
  intro p e s m args below meth c s₁ Bd hml0 hP hKα
  obtain ⟨rfl, hZ, hh⟩ := hP
  have hx := Bd.exec
  have hby := Bd.bytes
  have hml : c.maxLocals = 2 := hml0
  have hown : s.vm.findClass "com/example/hermitage/hermitage/frame/JsonText" = some m.cls := findClass_of_methodNamed Bd.named
  have hnm := (name_of_methodNamed Bd.named Bd.method).1
  have X0 : Stand p l e ({ frames := 1, cells := 1, slots := 7, locals := 12 } : Room) s m #[(.ref a), (.int pp)] below meth c s₁ [] 0 0 := Stand.of_body Bd
  have e0 : s₁.heap = h0 := by rw [← hh, Bd.state]; rfl
  have N0 := Fr.nil n0
  suffices k0 : Gl p e below s (Q_rm1 Z a pp  h0 n0) ({ frames := 1, cells := 1, slots := 7, locals := 12 } : Room).cells ({ frames := 1, cells := 1, slots := 7, locals := 12 } : Room).slots s₁ (mkF m 0 #[.val (.ref a), .val (.int pp)] []) from Gl.st (fun τ κ => castTop (ef_rm1 m a pp) κ) k0
  refine Gl.st (g' := (mkF m 1 #[.val (.ref a), .val (.int pp)] [(.ref a)])) (fun τ κ => XS.aloadN X0.here hx rfl (hb hby d1_0) rfl rfl κ) ?_
  obtain ⟨T91, X91, e91, st91⟩ := initO X0 hx hZ hown (hw _ (List.mem_of_getElem? (i := 6) rfl)) (hw _ (List.mem_of_getElem? (i := 7) rfl)) (hw _ (List.mem_of_getElem? (i := 8) rfl)) e0 (g := (mkF m 1 #[.val (.ref a), .val (.int pp)] [(.ref a)])) rfl (by rw [hml]; rfl) rfl (hb hby d1_1) (by decide) (W := 0) (by show 2 * 0 + _ ≤ _; exact Nat.le_of_eq rfl) (by decide)
  refine Gl.st (g' := (mkF m 4 #[.val (.ref a), .val (.int pp)] [])) (fun τ κ => st91 _ κ) ?_
  refine Gl.st (g' := (mkF m 5 #[.val (.ref a), .val (.int pp)] [(.ref a)])) (fun τ κ => XS.aloadN X91.here hx rfl (hb hby d1_4) rfl rfl κ) ?_
  refine Gl.st (g' := (mkF m 6 #[.val (.ref a), .val (.int pp)] [(.int pp), (.ref a)])) (fun τ κ => XS.iloadN X91.here hx rfl (hb hby d1_5) rfl κ) ?_
  obtain ⟨T92, h92, X92, e92, W92, st92⟩ := putF X91 hx hZ hown (host := "") (Or.inl (hw _ (List.mem_of_getElem? (i := 9) rfl))) Via.refl e91 FC E0 (Or.inr ⟨(hw _ (List.mem_of_getElem? (i := 10) rfl)), rfl, hnm⟩) (hw _ (List.mem_of_getElem? (i := 1) rfl)) (ty := .int) (by decide) rfl rfl (g := (mkF m 6 #[.val (.ref a), .val (.int pp)] [(.int pp), (.ref a)])) rfl rfl (hb hby d1_6)
  have E_93 := E0.wr W92
  have F_95 := FB.other W92 (Or.inr (slot_ne (Or.inl (hw _ (List.mem_of_getElem? (i := 13) rfl))) (Or.inr (hw _ (List.mem_of_getElem? (i := 10) rfl))) (by decide) (t := (.array .byte)) (t' := .int) (by decide) (by decide)))
  have F_96 := FL.other W92 (Or.inr (slot_ne (Or.inl (hw _ (List.mem_of_getElem? (i := 24) rfl))) (Or.inr (hw _ (List.mem_of_getElem? (i := 10) rfl))) (by decide) (t := .int) (t' := .int) (by decide) (by decide)))
  have N92 := Fr.snoc X92 N0 g0
  have Z92 : n0 ≤ h92.size := Nat.le_trans Z0 (Nat.le_of_eq W92.size.symm)
  have K92 : Keep h0 h92 [a] := (Keep.refl h0 [a]).wr W92 (Or.inl (List.mem_of_getElem? (i := 0) rfl))
  have F_97 := FC.same W92
  refine Gl.st (g' := (mkF m 9 #[.val (.ref a), .val (.int pp)] [])) (fun τ κ => st92 _ κ) ?_
  refine Gl.st (g' := (mkF m 10 #[.val (.ref a), .val (.int pp)] [(.ref a)])) (fun τ κ => XS.aloadN X92.here hx rfl (hb hby d1_9) rfl rfl κ) ?_
  refine Gl.st (g' := (mkF m 11 #[.val (.ref a), .val (.int pp)] [(.int pp), (.ref a)])) (fun τ κ => XS.iloadN X92.here hx rfl (hb hby d1_10) rfl κ) ?_
  obtain ⟨T98, h98, k98, X98, e98, E98, A98, AE98, st98⟩ := newPE X92 hx hZ (hw _ (List.mem_of_getElem? (i := 11) rfl)) e92 (g := (mkF m 11 #[.val (.ref a), .val (.int pp)] [(.int pp), (.ref a)])) rfl (hb hby d1_11) rfl hp (cap := 7) hp7 (by decide) (by decide) (by decide) (ad := "[B") (by decide)
  obtain ⟨b98, g98⟩ : ∃ z, z = h92.size := ⟨_, rfl⟩
  rw [← g98] at A98 AE98 st98
  have ne_a_b98 : a ≠ b98 := Nat.ne_of_lt (Nat.lt_of_lt_of_le E_93.lt (Nat.le_of_eq g98.symm))
  have E_99 := E_93.ext E98
  have F_100 := F_97.ext E98
  have F_101 := F_95.ext E98
  have F_102 := F_96.ext E98
  have g_b98 : n0 ≤ b98 := Nat.le_trans Z92 (Nat.le_of_eq g98.symm)
  have sz_b98 : h0.size ≤ b98 := Nat.le_trans K92.1 (Nat.le_of_eq g98.symm)
  have Z98 : n0 ≤ h98.size := Nat.le_trans Z92 E98.1
  have K98 : Keep h0 h98 [a] := K92.ext E98
  have V_b98 : Arv Z h98 b98 k98 .byte pp [] (.int (0 : Int32)) := Arv.new A98 hp
  refine Gl.st (g' := (mkF m 13 #[.val (.ref a), .val (.int pp)] [(.ref b98), (.ref a)])) (fun τ κ => st98 _ κ) ?_
  obtain ⟨T103, h103, X103, e103, W103, st103⟩ := putF X98 hx hZ hown (host := "") (Or.inl (hw _ (List.mem_of_getElem? (i := 12) rfl))) Via.refl e98 F_101 E_99 (Or.inl (hw _ (List.mem_of_getElem? (i := 13) rfl))) (hw _ (List.mem_of_getElem? (i := 1) rfl)) (ty := (.array .byte)) (by decide) rfl rfl (g := (mkF m 13 #[.val (.ref a), .val (.int pp)] [(.ref b98), (.ref a)])) rfl rfl (hb hby d1_13)
  have E_104 := E_99.wr W103
  have F_105 := F_100.other W103 (Or.inr (slot_ne (Or.inr (hw _ (List.mem_of_getElem? (i := 10) rfl))) (Or.inl (hw _ (List.mem_of_getElem? (i := 13) rfl))) (by decide) (t := .int) (t' := (.array .byte)) (by decide) (by decide)))
  have F_107 := F_102.other W103 (Or.inr (slot_ne (Or.inl (hw _ (List.mem_of_getElem? (i := 24) rfl))) (Or.inl (hw _ (List.mem_of_getElem? (i := 13) rfl))) (by decide) (t := .int) (t' := (.array .byte)) (by decide) (by decide)))
  have E_108 := AE98.wr W103
  have V_109 := V_b98.other W103 (Ne.symm ne_a_b98)
  have N103 := Fr.snoc X103 N92 g0
  have Z103 : n0 ≤ h103.size := Nat.le_trans Z98 (Nat.le_of_eq W103.size.symm)
  have K103 : Keep h0 h103 [a] := K98.wr W103 (Or.inl (List.mem_of_getElem? (i := 0) rfl))
  have F_110 := F_101.same W103
  refine Gl.st (g' := (mkF m 16 #[.val (.ref a), .val (.int pp)] [])) (fun τ κ => st103 _ κ) ?_
  exact Gl.ret (v := none) X103 Bd.notSynchronized (fun _ => rfl) e103 (fun fs hr => X103.returnOut hx Bd.returns (hb hby d1_16) hr) (by decide) (by decide) ⟨b98, k98, rfl, N103, K103, E_104, F_105, F_110, F_107, E_108, V_109, sz_b98⟩
theorem own_four (x : Int32) : (x &&& (3 : Int32)) = (0 : Int32) ∨ (x &&& (3 : Int32)) = (1 : Int32) ∨ (x &&& (3 : Int32)) = (2 : Int32) ∨ (x &&& (3 : Int32)) = (3 : Int32) := by
  have h := c_mask x 3 2 (by decide) (by decide)
  simp only [← Int32.toInt_inj, show (0 : Int32).toInt = 0 from rfl, show (1 : Int32).toInt = 1 from rfl, show (2 : Int32).toInt = 2 from rfl, show (3 : Int32).toInt = 3 from rfl]
  omega
theorem own_p3 (x : Int32) : ¬ (x &&& (3 : Int32)) < 0 ∧ (x &&& (3 : Int32)).toNatClampNeg ≤ 7 ∧ ¬ (8 : Int32) < (x &&& (3 : Int32)) := by
  have h := c_mask x 3 2 (by decide) (by decide)
  have p : ¬ (x &&& (3 : Int32)) < 0 := by rw [Int32.lt_iff_toInt_lt, own_i0, h]; omega
  have q := own_nat p
  refine ⟨p, by omega, ?_⟩
  rw [Int32.lt_iff_toInt_lt, own_i8, h]; omega
theorem d9_0 : decode method_3_code 0 = .ok (.aload_n 0, 1) := by decide +kernel
theorem d9_1 : decode method_3_code 1 = .ok (.arraylength, 1) := by decide +kernel
theorem d9_2 : decode method_3_code 2 = .ok (.iload_n 1, 1) := by decide +kernel
theorem d9_3 : decode method_3_code 3 = .ok (.if_icmp .eq 5, 3) := by decide +kernel
theorem d9_8 : decode method_3_code 8 = .ok (.iload_n 1, 1) := by decide +kernel
theorem d9_9 : decode method_3_code 9 = .ok (.ifCond .le 13, 3) := by decide +kernel
theorem d9_22 : decode method_3_code 22 = .ok (.iload_n 1, 1) := by decide +kernel
theorem d9_23 : decode method_3_code 23 = .ok (.iconst 1, 1) := by decide +kernel
theorem d9_24 : decode method_3_code 24 = .ok (.if_icmp .le 13, 3) := by decide +kernel
theorem d9_37 : decode method_3_code 37 = .ok (.iload_n 1, 1) := by decide +kernel
theorem d9_38 : decode method_3_code 38 = .ok (.iconst 2, 1) := by decide +kernel
theorem d9_39 : decode method_3_code 39 = .ok (.if_icmp .le 14, 3) := by decide +kernel
theorem d9_53 : decode method_3_code 53 = .ok (.iconst 1, 1) := by decide +kernel
theorem d9_54 : decode method_3_code 54 = .ok (.ireturn, 1) := by decide +kernel
theorem pn_com_example_hermitage_hermitage_frame_JsonTextToBytesPinLaw : plainName "com/example/hermitage/hermitage/frame/JsonTextToBytesPinLaw" = true := by first | (simp [plainName, overriddenIn]; done) | decide +kernel
theorem ef_rm_same0 (m : MethodId) (r : Addr) (pa : Int32) (pb : Int32) (pc1 : Int32) : entryFrame m #[(.ref r), (.int (0 : Int32)), (.int pa), (.int pb), (.int pc1)] 5 = mkF m 0 #[.val (.ref r), .val (.int (0 : Int32)), .val (.int pa), .val (.int pb), .val (.int pc1)] [] := by first | (simp [entryFrame, mkF, argsToLocals, Value.category]; done) | rfl
def Q_rm_same0 (Z : State) (r : Addr) (pa : Int32) (pb : Int32) (pc1 : Int32) (kc : ClassId) (vs : List Value) (h0 : Heap) (n0 : Nat) (v : Option Value) (h : Heap) (L : List Loc) : Prop := v = some (.int 1) ∧ Fr n0 L ∧ h = h0
set_option maxRecDepth 65536 in
set_option maxHeartbeats 40000000 in
theorem rm_same0 (l : Launch) (Z : State) (a0 : Array Value) (hw : ∀ d ∈ tables_1, d.before a0 Z = true) (ws : List Jvm.Cond) (r : Addr) (pa : Int32) (pb : Int32) (pc1 : Int32) (kc : ClassId) (vs : List Value) (h0 : Heap) (n0 : Nat) (Z0 : n0 ≤ h0.size) (V0 : Arv Z h0 r kc .byte (0 : Int32) vs (.int (0 : Int32)))  :
    MetFree l (⟨"com/example/hermitage/hermitage/frame/JsonTextToBytesPinLaw", "same", "([BICCC)Z"⟩ : MethodName) (head1 (Jvm.Cond.code (⟨"com/example/hermitage/hermitage/frame/JsonTextToBytesPinLaw", "same", "([BICCC)Z"⟩ : MethodName) method_3_code 5 (some .boolean) :: ws) ({ frames := 0, cells := 0, slots := 0, locals := 0 } : Room)) (fun aα Uα => aα = #[(.ref r), (.int (0 : Int32)), (.int pa), (.int pb), (.int pc1)] ∧ Z.Warmed39 Uα.vm ∧ Uα.heap = h0) (fun _ _ _ _ _ => True) (fun _ Uα oα Uβ => ∃ vα Lα, oα = .returned vα ∧ Q_rm_same0 Z r pa pb pc1 kc vs h0 n0 vα Uβ.heap Lα ∧ FrameEnd Uα oα Uβ Lα ({ frames := 0, cells := 0, slots := 0, locals := 0 } : Room).cells ({ frames := 0, cells := 0, slots := 0, locals := 0 } : Room).slots) := by
  refine MetFree.of_bodySF (plainFor_of_name pn_com_example_hermitage_hermitage_frame_JsonTextToBytesPinLaw) hisR ?_
  intro p e s m args below meth c s₁ Bd hml0 hP hKα
  obtain ⟨rfl, hZ, hh⟩ := hP
  have hx := Bd.exec
  have hby := Bd.bytes
  have hml : c.maxLocals = 5 := hml0
  have hown : s.vm.findClass "com/example/hermitage/hermitage/frame/JsonTextToBytesPinLaw" = some m.cls := findClass_of_methodNamed Bd.named
  have hnm := (name_of_methodNamed Bd.named Bd.method).1
  have X0 : Stand p l e ({ frames := 0, cells := 0, slots := 0, locals := 0 } : Room) s m #[(.ref r), (.int (0 : Int32)), (.int pa), (.int pb), (.int pc1)] below meth c s₁ [] 0 0 := Stand.of_body Bd
  have e0 : s₁.heap = h0 := by rw [← hh, Bd.state]; rfl
  have N0 := Fr.nil n0
  suffices k0 : Gl p e below s (Q_rm_same0 Z r pa pb pc1 kc vs h0 n0) ({ frames := 0, cells := 0, slots := 0, locals := 0 } : Room).cells ({ frames := 0, cells := 0, slots := 0, locals := 0 } : Room).slots s₁ (mkF m 0 #[.val (.ref r), .val (.int (0 : Int32)), .val (.int pa), .val (.int pb), .val (.int pc1)] []) from Gl.st (fun τ κ => castTop (ef_rm_same0 m r pa pb pc1) κ) k0
  refine Gl.st (g' := (mkF m 1 #[.val (.ref r), .val (.int (0 : Int32)), .val (.int pa), .val (.int pb), .val (.int pc1)] [(.ref r)])) (fun τ κ => XS.aloadN X0.here hx rfl (hb hby d9_0) rfl rfl κ) ?_
  obtain ⟨cl_o111, Ar_o111, q_o111, S_o111, M_o111, H_o111, G_o111⟩ := id V0
  refine Gl.st (g' := (mkF m 2 #[.val (.ref r), .val (.int (0 : Int32)), .val (.int pa), .val (.int pb), .val (.int pc1)] [(.int (0 : Int32))])) (fun τ κ => X0.arraylength hx (by rw [e0]; exact Ar_o111.1) (State.isArrayOf_alike hZ.alike Ar_o111.2.1) (g := (mkF m 1 #[.val (.ref r), .val (.int (0 : Int32)), .val (.int pa), .val (.int pb), .val (.int pc1)] [(.ref r)])) rfl rfl (hb hby d9_1) _ (by rw [len_of S_o111 M_o111]; exact κ)) ?_
  refine Gl.st (g' := (mkF m 3 #[.val (.ref r), .val (.int (0 : Int32)), .val (.int pa), .val (.int pb), .val (.int pc1)] [(.int (0 : Int32)), (.int (0 : Int32))])) (fun τ κ => XS.iloadN X0.here hx rfl (hb hby d9_2) rfl κ) ?_
  have hc112 : (0 : Int32) = (0 : Int32) := by decide
  refine Gl.st (g' := (mkF m 8 #[.val (.ref r), .val (.int (0 : Int32)), .val (.int pa), .val (.int pb), .val (.int pc1)] [])) (fun τ κ => XS.icmpYes X0.here hx rfl (pc0 := 3) (pc' := 8) rfl (hb hby d9_3) rfl (teq hc112).1 (by decide) (by decide) κ) ?_
  refine Gl.st (g' := (mkF m 9 #[.val (.ref r), .val (.int (0 : Int32)), .val (.int pa), .val (.int pb), .val (.int pc1)] [(.int (0 : Int32))])) (fun τ κ => XS.iloadN X0.here hx rfl (hb hby d9_8) rfl κ) ?_
  have hc113 : ¬ ((0 : Int32) < (0 : Int32)) := by decide
  refine Gl.st (g' := (mkF m 22 #[.val (.ref r), .val (.int (0 : Int32)), .val (.int pa), .val (.int pb), .val (.int pc1)] [])) (fun τ κ => XS.ifYes X0.here hx rfl (pc0 := 9) (pc' := 22) rfl (hb hby d9_9) rfl ((if0 _ _).trans (flt hc113).2.2.2) (by decide) (by decide) κ) ?_
  refine Gl.st (g' := (mkF m 23 #[.val (.ref r), .val (.int (0 : Int32)), .val (.int pa), .val (.int pb), .val (.int pc1)] [(.int (0 : Int32))])) (fun τ κ => XS.iloadN X0.here hx rfl (hb hby d9_22) rfl κ) ?_
  refine Gl.st (g' := (mkF m 24 #[.val (.ref r), .val (.int (0 : Int32)), .val (.int pa), .val (.int pb), .val (.int pc1)] [(.int (1 : Int32)), (.int (0 : Int32))])) (fun τ κ => XS.iconst X0.here hx rfl (hb hby d9_23) κ) ?_
  have hc114 : ¬ ((1 : Int32) < (0 : Int32)) := by decide
  refine Gl.st (g' := (mkF m 37 #[.val (.ref r), .val (.int (0 : Int32)), .val (.int pa), .val (.int pb), .val (.int pc1)] [])) (fun τ κ => XS.icmpYes X0.here hx rfl (pc0 := 24) (pc' := 37) rfl (hb hby d9_24) rfl (flt hc114).2.2.2 (by decide) (by decide) κ) ?_
  refine Gl.st (g' := (mkF m 38 #[.val (.ref r), .val (.int (0 : Int32)), .val (.int pa), .val (.int pb), .val (.int pc1)] [(.int (0 : Int32))])) (fun τ κ => XS.iloadN X0.here hx rfl (hb hby d9_37) rfl κ) ?_
  refine Gl.st (g' := (mkF m 39 #[.val (.ref r), .val (.int (0 : Int32)), .val (.int pa), .val (.int pb), .val (.int pc1)] [(.int (2 : Int32)), (.int (0 : Int32))])) (fun τ κ => XS.iconst X0.here hx rfl (hb hby d9_38) κ) ?_
  have hc115 : ¬ ((2 : Int32) < (0 : Int32)) := by decide
  refine Gl.st (g' := (mkF m 53 #[.val (.ref r), .val (.int (0 : Int32)), .val (.int pa), .val (.int pb), .val (.int pc1)] [])) (fun τ κ => XS.icmpYes X0.here hx rfl (pc0 := 39) (pc' := 53) rfl (hb hby d9_39) rfl (flt hc115).2.2.2 (by decide) (by decide) κ) ?_
  refine Gl.st (g' := (mkF m 54 #[.val (.ref r), .val (.int (0 : Int32)), .val (.int pa), .val (.int pb), .val (.int pc1)] [(.int (1 : Int32))])) (fun τ κ => XS.iconst X0.here hx rfl (hb hby d9_53) κ) ?_
  exact Gl.ret (v := some (.int (1 : Int32))) X0 Bd.notSynchronized (fun h => by rw [Bd.returns] at h; cases h) e0 (fun fs hr => retN X0 hx (t := .boolean) Bd.returns (by simp) (hb hby d9_54) hr) (by decide) (by decide) ⟨rfl, N0, rfl⟩
theorem d9_12 : decode method_3_code 12 = .ok (.aload_n 0, 1) := by decide +kernel
theorem d9_13 : decode method_3_code 13 = .ok (.iconst 0, 1) := by decide +kernel
theorem d9_14 : decode method_3_code 14 = .ok (.baload, 1) := by decide +kernel
theorem d9_15 : decode method_3_code 15 = .ok (.iload_n 2, 1) := by decide +kernel
theorem d9_16 : decode method_3_code 16 = .ok (.i2b, 1) := by decide +kernel
theorem d9_17 : decode method_3_code 17 = .ok (.if_icmp .eq 5, 3) := by decide +kernel
theorem ef_rm_same1 (m : MethodId) (r : Addr) (pa : Int32) (pb : Int32) (pc1 : Int32) : entryFrame m #[(.ref r), (.int (1 : Int32)), (.int pa), (.int pb), (.int pc1)] 5 = mkF m 0 #[.val (.ref r), .val (.int (1 : Int32)), .val (.int pa), .val (.int pb), .val (.int pc1)] [] := by first | (simp [entryFrame, mkF, argsToLocals, Value.category]; done) | rfl
def Q_rm_same1 (Z : State) (r : Addr) (pa : Int32) (pb : Int32) (pc1 : Int32) (kc : ClassId) (vs : List Value) (h0 : Heap) (n0 : Nat) (v : Option Value) (h : Heap) (L : List Loc) : Prop := v = some (.int 1) ∧ Fr n0 L ∧ h = h0
set_option maxRecDepth 65536 in
set_option maxHeartbeats 40000000 in
theorem rm_same1 (l : Launch) (Z : State) (a0 : Array Value) (hw : ∀ d ∈ tables_1, d.before a0 Z = true) (ws : List Jvm.Cond) (r : Addr) (pa : Int32) (pb : Int32) (pc1 : Int32) (kc : ClassId) (vs : List Value) (h0 : Heap) (n0 : Nat) (Z0 : n0 ≤ h0.size) (V0 : Arv Z h0 r kc .byte (1 : Int32) vs (.int (0 : Int32))) (hv0 : vs.getD ((0 : Int32)).toNatClampNeg (.int (0 : Int32)) = (.int (pa.toInt8.toInt32))) :
    MetFree l (⟨"com/example/hermitage/hermitage/frame/JsonTextToBytesPinLaw", "same", "([BICCC)Z"⟩ : MethodName) (head1 (Jvm.Cond.code (⟨"com/example/hermitage/hermitage/frame/JsonTextToBytesPinLaw", "same", "([BICCC)Z"⟩ : MethodName) method_3_code 5 (some .boolean) :: ws) ({ frames := 0, cells := 0, slots := 0, locals := 0 } : Room)) (fun aα Uα => aα = #[(.ref r), (.int (1 : Int32)), (.int pa), (.int pb), (.int pc1)] ∧ Z.Warmed39 Uα.vm ∧ Uα.heap = h0) (fun _ _ _ _ _ => True) (fun _ Uα oα Uβ => ∃ vα Lα, oα = .returned vα ∧ Q_rm_same1 Z r pa pb pc1 kc vs h0 n0 vα Uβ.heap Lα ∧ FrameEnd Uα oα Uβ Lα ({ frames := 0, cells := 0, slots := 0, locals := 0 } : Room).cells ({ frames := 0, cells := 0, slots := 0, locals := 0 } : Room).slots) := by
  refine MetFree.of_bodySF (plainFor_of_name pn_com_example_hermitage_hermitage_frame_JsonTextToBytesPinLaw) hisR ?_
  intro p e s m args below meth c s₁ Bd hml0 hP hKα
  obtain ⟨rfl, hZ, hh⟩ := hP
  have hx := Bd.exec
  have hby := Bd.bytes
  have hml : c.maxLocals = 5 := hml0
  have hown : s.vm.findClass "com/example/hermitage/hermitage/frame/JsonTextToBytesPinLaw" = some m.cls := findClass_of_methodNamed Bd.named
  have hnm := (name_of_methodNamed Bd.named Bd.method).1
  have X0 : Stand p l e ({ frames := 0, cells := 0, slots := 0, locals := 0 } : Room) s m #[(.ref r), (.int (1 : Int32)), (.int pa), (.int pb), (.int pc1)] below meth c s₁ [] 0 0 := Stand.of_body Bd
  have e0 : s₁.heap = h0 := by rw [← hh, Bd.state]; rfl
  have N0 := Fr.nil n0
  suffices k0 : Gl p e below s (Q_rm_same1 Z r pa pb pc1 kc vs h0 n0) ({ frames := 0, cells := 0, slots := 0, locals := 0 } : Room).cells ({ frames := 0, cells := 0, slots := 0, locals := 0 } : Room).slots s₁ (mkF m 0 #[.val (.ref r), .val (.int (1 : Int32)), .val (.int pa), .val (.int pb), .val (.int pc1)] []) from Gl.st (fun τ κ => castTop (ef_rm_same1 m r pa pb pc1) κ) k0
  refine Gl.st (g' := (mkF m 1 #[.val (.ref r), .val (.int (1 : Int32)), .val (.int pa), .val (.int pb), .val (.int pc1)] [(.ref r)])) (fun τ κ => XS.aloadN X0.here hx rfl (hb hby d9_0) rfl rfl κ) ?_
  obtain ⟨cl_o116, Ar_o116, q_o116, S_o116, M_o116, H_o116, G_o116⟩ := id V0
  refine Gl.st (g' := (mkF m 2 #[.val (.ref r), .val (.int (1 : Int32)), .val (.int pa), .val (.int pb), .val (.int pc1)] [(.int (1 : Int32))])) (fun τ κ => X0.arraylength hx (by rw [e0]; exact Ar_o116.1) (State.isArrayOf_alike hZ.alike Ar_o116.2.1) (g := (mkF m 1 #[.val (.ref r), .val (.int (1 : Int32)), .val (.int pa), .val (.int pb), .val (.int pc1)] [(.ref r)])) rfl rfl (hb hby d9_1) _ (by rw [len_of S_o116 M_o116]; exact κ)) ?_
  refine Gl.st (g' := (mkF m 3 #[.val (.ref r), .val (.int (1 : Int32)), .val (.int pa), .val (.int pb), .val (.int pc1)] [(.int (1 : Int32)), (.int (1 : Int32))])) (fun τ κ => XS.iloadN X0.here hx rfl (hb hby d9_2) rfl κ) ?_
  have hc117 : (1 : Int32) = (1 : Int32) := by decide
  refine Gl.st (g' := (mkF m 8 #[.val (.ref r), .val (.int (1 : Int32)), .val (.int pa), .val (.int pb), .val (.int pc1)] [])) (fun τ κ => XS.icmpYes X0.here hx rfl (pc0 := 3) (pc' := 8) rfl (hb hby d9_3) rfl (teq hc117).1 (by decide) (by decide) κ) ?_
  refine Gl.st (g' := (mkF m 9 #[.val (.ref r), .val (.int (1 : Int32)), .val (.int pa), .val (.int pb), .val (.int pc1)] [(.int (1 : Int32))])) (fun τ κ => XS.iloadN X0.here hx rfl (hb hby d9_8) rfl κ) ?_
  have hc118 : (0 : Int32) < (1 : Int32) := by decide
  refine Gl.st (g' := (mkF m 12 #[.val (.ref r), .val (.int (1 : Int32)), .val (.int pa), .val (.int pb), .val (.int pc1)] [])) (fun τ κ => XS.ifNo X0.here hx rfl (hb hby d9_9) rfl ((if0 _ _).trans (tlt hc118).2.2.2) κ) ?_
  refine Gl.st (g' := (mkF m 13 #[.val (.ref r), .val (.int (1 : Int32)), .val (.int pa), .val (.int pb), .val (.int pc1)] [(.ref r)])) (fun τ κ => XS.aloadN X0.here hx rfl (hb hby d9_12) rfl rfl κ) ?_
  refine Gl.st (g' := (mkF m 14 #[.val (.ref r), .val (.int (1 : Int32)), .val (.int pa), .val (.int pb), .val (.int pc1)] [(.int (0 : Int32)), (.ref r)])) (fun τ κ => XS.iconst X0.here hx rfl (hb hby d9_13) κ) ?_
  obtain ⟨cl_o119, Ar_o119, q_o119, S_o119, M_o119, H_o119, G_o119⟩ := id V0
  have hin_o119 : ¬ ((0 : Int32) < 0 ∨ cl_o119.slots.size ≤ ((0 : Int32)).toNatClampNeg) := inb_of S_o119 ⟨by decide, by decide⟩
  refine Gl.st (g' := (mkF m 15 #[.val (.ref r), .val (.int (1 : Int32)), .val (.int pa), .val (.int pb), .val (.int pc1)] [(.int (pa.toInt8.toInt32))])) (fun τ κ => X0.baloadBytes hx (j := (0 : Int32)) (v := (.int (pa.toInt8.toInt32))) (by rw [e0]; exact Ar_o119.1) (State.isArrayOf_alike hZ.alike Ar_o119.2.1) Ar_o119.2.2 hin_o119 ((H_o119 _ (Nat.lt_of_not_le fun q => hin_o119 (Or.inr q))).trans (congrArg some hv0)) (g := (mkF m 14 #[.val (.ref r), .val (.int (1 : Int32)), .val (.int pa), .val (.int pb), .val (.int pc1)] [(.int (0 : Int32)), (.ref r)])) rfl rfl (hb hby d9_14) _ κ) ?_
  refine Gl.st (g' := (mkF m 16 #[.val (.ref r), .val (.int (1 : Int32)), .val (.int pa), .val (.int pb), .val (.int pc1)] [(.int pa), (.int (pa.toInt8.toInt32))])) (fun τ κ => XS.iloadN X0.here hx rfl (hb hby d9_15) rfl κ) ?_
  refine Gl.st (g' := (mkF m 17 #[.val (.ref r), .val (.int (1 : Int32)), .val (.int pa), .val (.int pb), .val (.int pc1)] [(.int (pa.toInt8.toInt32)), (.int (pa.toInt8.toInt32))])) (fun τ κ => XS.i2b X0.here hx rfl (hb hby d9_16) rfl κ) ?_
  have hc120 : (pa.toInt8.toInt32) = (pa.toInt8.toInt32) := rfl
  refine Gl.st (g' := (mkF m 22 #[.val (.ref r), .val (.int (1 : Int32)), .val (.int pa), .val (.int pb), .val (.int pc1)] [])) (fun τ κ => XS.icmpYes X0.here hx rfl (pc0 := 17) (pc' := 22) rfl (hb hby d9_17) rfl (teq hc120).1 (by decide) (by decide) κ) ?_
  refine Gl.st (g' := (mkF m 23 #[.val (.ref r), .val (.int (1 : Int32)), .val (.int pa), .val (.int pb), .val (.int pc1)] [(.int (1 : Int32))])) (fun τ κ => XS.iloadN X0.here hx rfl (hb hby d9_22) rfl κ) ?_
  refine Gl.st (g' := (mkF m 24 #[.val (.ref r), .val (.int (1 : Int32)), .val (.int pa), .val (.int pb), .val (.int pc1)] [(.int (1 : Int32)), (.int (1 : Int32))])) (fun τ κ => XS.iconst X0.here hx rfl (hb hby d9_23) κ) ?_
  have hc121 : ¬ ((1 : Int32) < (1 : Int32)) := by decide
  refine Gl.st (g' := (mkF m 37 #[.val (.ref r), .val (.int (1 : Int32)), .val (.int pa), .val (.int pb), .val (.int pc1)] [])) (fun τ κ => XS.icmpYes X0.here hx rfl (pc0 := 24) (pc' := 37) rfl (hb hby d9_24) rfl (flt hc121).2.2.2 (by decide) (by decide) κ) ?_
  refine Gl.st (g' := (mkF m 38 #[.val (.ref r), .val (.int (1 : Int32)), .val (.int pa), .val (.int pb), .val (.int pc1)] [(.int (1 : Int32))])) (fun τ κ => XS.iloadN X0.here hx rfl (hb hby d9_37) rfl κ) ?_
  refine Gl.st (g' := (mkF m 39 #[.val (.ref r), .val (.int (1 : Int32)), .val (.int pa), .val (.int pb), .val (.int pc1)] [(.int (2 : Int32)), (.int (1 : Int32))])) (fun τ κ => XS.iconst X0.here hx rfl (hb hby d9_38) κ) ?_
  have hc122 : ¬ ((2 : Int32) < (1 : Int32)) := by decide
  refine Gl.st (g' := (mkF m 53 #[.val (.ref r), .val (.int (1 : Int32)), .val (.int pa), .val (.int pb), .val (.int pc1)] [])) (fun τ κ => XS.icmpYes X0.here hx rfl (pc0 := 39) (pc' := 53) rfl (hb hby d9_39) rfl (flt hc122).2.2.2 (by decide) (by decide) κ) ?_
  refine Gl.st (g' := (mkF m 54 #[.val (.ref r), .val (.int (1 : Int32)), .val (.int pa), .val (.int pb), .val (.int pc1)] [(.int (1 : Int32))])) (fun τ κ => XS.iconst X0.here hx rfl (hb hby d9_53) κ) ?_
  exact Gl.ret (v := some (.int (1 : Int32))) X0 Bd.notSynchronized (fun h => by rw [Bd.returns] at h; cases h) e0 (fun fs hr => retN X0 hx (t := .boolean) Bd.returns (by simp) (hb hby d9_54) hr) (by decide) (by decide) ⟨rfl, N0, rfl⟩
theorem d9_27 : decode method_3_code 27 = .ok (.aload_n 0, 1) := by decide +kernel
theorem d9_28 : decode method_3_code 28 = .ok (.iconst 1, 1) := by decide +kernel
theorem d9_29 : decode method_3_code 29 = .ok (.baload, 1) := by decide +kernel
theorem d9_30 : decode method_3_code 30 = .ok (.iload_n 3, 1) := by decide +kernel
theorem d9_31 : decode method_3_code 31 = .ok (.i2b, 1) := by decide +kernel
theorem d9_32 : decode method_3_code 32 = .ok (.if_icmp .eq 5, 3) := by decide +kernel
theorem ef_rm_same2 (m : MethodId) (r : Addr) (pa : Int32) (pb : Int32) (pc1 : Int32) : entryFrame m #[(.ref r), (.int (2 : Int32)), (.int pa), (.int pb), (.int pc1)] 5 = mkF m 0 #[.val (.ref r), .val (.int (2 : Int32)), .val (.int pa), .val (.int pb), .val (.int pc1)] [] := by first | (simp [entryFrame, mkF, argsToLocals, Value.category]; done) | rfl
def Q_rm_same2 (Z : State) (r : Addr) (pa : Int32) (pb : Int32) (pc1 : Int32) (kc : ClassId) (vs : List Value) (h0 : Heap) (n0 : Nat) (v : Option Value) (h : Heap) (L : List Loc) : Prop := v = some (.int 1) ∧ Fr n0 L ∧ h = h0
set_option maxRecDepth 65536 in
set_option maxHeartbeats 40000000 in
theorem rm_same2 (l : Launch) (Z : State) (a0 : Array Value) (hw : ∀ d ∈ tables_1, d.before a0 Z = true) (ws : List Jvm.Cond) (r : Addr) (pa : Int32) (pb : Int32) (pc1 : Int32) (kc : ClassId) (vs : List Value) (h0 : Heap) (n0 : Nat) (Z0 : n0 ≤ h0.size) (V0 : Arv Z h0 r kc .byte (2 : Int32) vs (.int (0 : Int32))) (hv0 : vs.getD ((0 : Int32)).toNatClampNeg (.int (0 : Int32)) = (.int (pa.toInt8.toInt32))) (hv1 : vs.getD ((1 : Int32)).toNatClampNeg (.int (0 : Int32)) = (.int (pb.toInt8.toInt32))) :
    MetFree l (⟨"com/example/hermitage/hermitage/frame/JsonTextToBytesPinLaw", "same", "([BICCC)Z"⟩ : MethodName) (head1 (Jvm.Cond.code (⟨"com/example/hermitage/hermitage/frame/JsonTextToBytesPinLaw", "same", "([BICCC)Z"⟩ : MethodName) method_3_code 5 (some .boolean) :: ws) ({ frames := 0, cells := 0, slots := 0, locals := 0 } : Room)) (fun aα Uα => aα = #[(.ref r), (.int (2 : Int32)), (.int pa), (.int pb), (.int pc1)] ∧ Z.Warmed39 Uα.vm ∧ Uα.heap = h0) (fun _ _ _ _ _ => True) (fun _ Uα oα Uβ => ∃ vα Lα, oα = .returned vα ∧ Q_rm_same2 Z r pa pb pc1 kc vs h0 n0 vα Uβ.heap Lα ∧ FrameEnd Uα oα Uβ Lα ({ frames := 0, cells := 0, slots := 0, locals := 0 } : Room).cells ({ frames := 0, cells := 0, slots := 0, locals := 0 } : Room).slots) := by
  refine MetFree.of_bodySF (plainFor_of_name pn_com_example_hermitage_hermitage_frame_JsonTextToBytesPinLaw) hisR ?_
  intro p e s m args below meth c s₁ Bd hml0 hP hKα
  obtain ⟨rfl, hZ, hh⟩ := hP
  have hx := Bd.exec
  have hby := Bd.bytes
  have hml : c.maxLocals = 5 := hml0
  have hown : s.vm.findClass "com/example/hermitage/hermitage/frame/JsonTextToBytesPinLaw" = some m.cls := findClass_of_methodNamed Bd.named
  have hnm := (name_of_methodNamed Bd.named Bd.method).1
  have X0 : Stand p l e ({ frames := 0, cells := 0, slots := 0, locals := 0 } : Room) s m #[(.ref r), (.int (2 : Int32)), (.int pa), (.int pb), (.int pc1)] below meth c s₁ [] 0 0 := Stand.of_body Bd
  have e0 : s₁.heap = h0 := by rw [← hh, Bd.state]; rfl
  have N0 := Fr.nil n0
  suffices k0 : Gl p e below s (Q_rm_same2 Z r pa pb pc1 kc vs h0 n0) ({ frames := 0, cells := 0, slots := 0, locals := 0 } : Room).cells ({ frames := 0, cells := 0, slots := 0, locals := 0 } : Room).slots s₁ (mkF m 0 #[.val (.ref r), .val (.int (2 : Int32)), .val (.int pa), .val (.int pb), .val (.int pc1)] []) from Gl.st (fun τ κ => castTop (ef_rm_same2 m r pa pb pc1) κ) k0
  refine Gl.st (g' := (mkF m 1 #[.val (.ref r), .val (.int (2 : Int32)), .val (.int pa), .val (.int pb), .val (.int pc1)] [(.ref r)])) (fun τ κ => XS.aloadN X0.here hx rfl (hb hby d9_0) rfl rfl κ) ?_
  obtain ⟨cl_o123, Ar_o123, q_o123, S_o123, M_o123, H_o123, G_o123⟩ := id V0
  refine Gl.st (g' := (mkF m 2 #[.val (.ref r), .val (.int (2 : Int32)), .val (.int pa), .val (.int pb), .val (.int pc1)] [(.int (2 : Int32))])) (fun τ κ => X0.arraylength hx (by rw [e0]; exact Ar_o123.1) (State.isArrayOf_alike hZ.alike Ar_o123.2.1) (g := (mkF m 1 #[.val (.ref r), .val (.int (2 : Int32)), .val (.int pa), .val (.int pb), .val (.int pc1)] [(.ref r)])) rfl rfl (hb hby d9_1) _ (by rw [len_of S_o123 M_o123]; exact κ)) ?_
  refine Gl.st (g' := (mkF m 3 #[.val (.ref r), .val (.int (2 : Int32)), .val (.int pa), .val (.int pb), .val (.int pc1)] [(.int (2 : Int32)), (.int (2 : Int32))])) (fun τ κ => XS.iloadN X0.here hx rfl (hb hby d9_2) rfl κ) ?_
  have hc124 : (2 : Int32) = (2 : Int32) := by decide
  refine Gl.st (g' := (mkF m 8 #[.val (.ref r), .val (.int (2 : Int32)), .val (.int pa), .val (.int pb), .val (.int pc1)] [])) (fun τ κ => XS.icmpYes X0.here hx rfl (pc0 := 3) (pc' := 8) rfl (hb hby d9_3) rfl (teq hc124).1 (by decide) (by decide) κ) ?_
  refine Gl.st (g' := (mkF m 9 #[.val (.ref r), .val (.int (2 : Int32)), .val (.int pa), .val (.int pb), .val (.int pc1)] [(.int (2 : Int32))])) (fun τ κ => XS.iloadN X0.here hx rfl (hb hby d9_8) rfl κ) ?_
  have hc125 : (0 : Int32) < (2 : Int32) := by decide
  refine Gl.st (g' := (mkF m 12 #[.val (.ref r), .val (.int (2 : Int32)), .val (.int pa), .val (.int pb), .val (.int pc1)] [])) (fun τ κ => XS.ifNo X0.here hx rfl (hb hby d9_9) rfl ((if0 _ _).trans (tlt hc125).2.2.2) κ) ?_
  refine Gl.st (g' := (mkF m 13 #[.val (.ref r), .val (.int (2 : Int32)), .val (.int pa), .val (.int pb), .val (.int pc1)] [(.ref r)])) (fun τ κ => XS.aloadN X0.here hx rfl (hb hby d9_12) rfl rfl κ) ?_
  refine Gl.st (g' := (mkF m 14 #[.val (.ref r), .val (.int (2 : Int32)), .val (.int pa), .val (.int pb), .val (.int pc1)] [(.int (0 : Int32)), (.ref r)])) (fun τ κ => XS.iconst X0.here hx rfl (hb hby d9_13) κ) ?_
  obtain ⟨cl_o126, Ar_o126, q_o126, S_o126, M_o126, H_o126, G_o126⟩ := id V0
  have hin_o126 : ¬ ((0 : Int32) < 0 ∨ cl_o126.slots.size ≤ ((0 : Int32)).toNatClampNeg) := inb_of S_o126 ⟨by decide, by decide⟩
  refine Gl.st (g' := (mkF m 15 #[.val (.ref r), .val (.int (2 : Int32)), .val (.int pa), .val (.int pb), .val (.int pc1)] [(.int (pa.toInt8.toInt32))])) (fun τ κ => X0.baloadBytes hx (j := (0 : Int32)) (v := (.int (pa.toInt8.toInt32))) (by rw [e0]; exact Ar_o126.1) (State.isArrayOf_alike hZ.alike Ar_o126.2.1) Ar_o126.2.2 hin_o126 ((H_o126 _ (Nat.lt_of_not_le fun q => hin_o126 (Or.inr q))).trans (congrArg some hv0)) (g := (mkF m 14 #[.val (.ref r), .val (.int (2 : Int32)), .val (.int pa), .val (.int pb), .val (.int pc1)] [(.int (0 : Int32)), (.ref r)])) rfl rfl (hb hby d9_14) _ κ) ?_
  refine Gl.st (g' := (mkF m 16 #[.val (.ref r), .val (.int (2 : Int32)), .val (.int pa), .val (.int pb), .val (.int pc1)] [(.int pa), (.int (pa.toInt8.toInt32))])) (fun τ κ => XS.iloadN X0.here hx rfl (hb hby d9_15) rfl κ) ?_
  refine Gl.st (g' := (mkF m 17 #[.val (.ref r), .val (.int (2 : Int32)), .val (.int pa), .val (.int pb), .val (.int pc1)] [(.int (pa.toInt8.toInt32)), (.int (pa.toInt8.toInt32))])) (fun τ κ => XS.i2b X0.here hx rfl (hb hby d9_16) rfl κ) ?_
  have hc127 : (pa.toInt8.toInt32) = (pa.toInt8.toInt32) := rfl
  refine Gl.st (g' := (mkF m 22 #[.val (.ref r), .val (.int (2 : Int32)), .val (.int pa), .val (.int pb), .val (.int pc1)] [])) (fun τ κ => XS.icmpYes X0.here hx rfl (pc0 := 17) (pc' := 22) rfl (hb hby d9_17) rfl (teq hc127).1 (by decide) (by decide) κ) ?_
  refine Gl.st (g' := (mkF m 23 #[.val (.ref r), .val (.int (2 : Int32)), .val (.int pa), .val (.int pb), .val (.int pc1)] [(.int (2 : Int32))])) (fun τ κ => XS.iloadN X0.here hx rfl (hb hby d9_22) rfl κ) ?_
  refine Gl.st (g' := (mkF m 24 #[.val (.ref r), .val (.int (2 : Int32)), .val (.int pa), .val (.int pb), .val (.int pc1)] [(.int (1 : Int32)), (.int (2 : Int32))])) (fun τ κ => XS.iconst X0.here hx rfl (hb hby d9_23) κ) ?_
  have hc128 : (1 : Int32) < (2 : Int32) := by decide
  refine Gl.st (g' := (mkF m 27 #[.val (.ref r), .val (.int (2 : Int32)), .val (.int pa), .val (.int pb), .val (.int pc1)] [])) (fun τ κ => XS.icmpNo X0.here hx rfl (hb hby d9_24) rfl (tlt hc128).2.2.2 κ) ?_
  refine Gl.st (g' := (mkF m 28 #[.val (.ref r), .val (.int (2 : Int32)), .val (.int pa), .val (.int pb), .val (.int pc1)] [(.ref r)])) (fun τ κ => XS.aloadN X0.here hx rfl (hb hby d9_27) rfl rfl κ) ?_
  refine Gl.st (g' := (mkF m 29 #[.val (.ref r), .val (.int (2 : Int32)), .val (.int pa), .val (.int pb), .val (.int pc1)] [(.int (1 : Int32)), (.ref r)])) (fun τ κ => XS.iconst X0.here hx rfl (hb hby d9_28) κ) ?_
  obtain ⟨cl_o129, Ar_o129, q_o129, S_o129, M_o129, H_o129, G_o129⟩ := id V0
  have hin_o129 : ¬ ((1 : Int32) < 0 ∨ cl_o129.slots.size ≤ ((1 : Int32)).toNatClampNeg) := inb_of S_o129 ⟨by decide, by decide⟩
  refine Gl.st (g' := (mkF m 30 #[.val (.ref r), .val (.int (2 : Int32)), .val (.int pa), .val (.int pb), .val (.int pc1)] [(.int (pb.toInt8.toInt32))])) (fun τ κ => X0.baloadBytes hx (j := (1 : Int32)) (v := (.int (pb.toInt8.toInt32))) (by rw [e0]; exact Ar_o129.1) (State.isArrayOf_alike hZ.alike Ar_o129.2.1) Ar_o129.2.2 hin_o129 ((H_o129 _ (Nat.lt_of_not_le fun q => hin_o129 (Or.inr q))).trans (congrArg some hv1)) (g := (mkF m 29 #[.val (.ref r), .val (.int (2 : Int32)), .val (.int pa), .val (.int pb), .val (.int pc1)] [(.int (1 : Int32)), (.ref r)])) rfl rfl (hb hby d9_29) _ κ) ?_
  refine Gl.st (g' := (mkF m 31 #[.val (.ref r), .val (.int (2 : Int32)), .val (.int pa), .val (.int pb), .val (.int pc1)] [(.int pb), (.int (pb.toInt8.toInt32))])) (fun τ κ => XS.iloadN X0.here hx rfl (hb hby d9_30) rfl κ) ?_
  refine Gl.st (g' := (mkF m 32 #[.val (.ref r), .val (.int (2 : Int32)), .val (.int pa), .val (.int pb), .val (.int pc1)] [(.int (pb.toInt8.toInt32)), (.int (pb.toInt8.toInt32))])) (fun τ κ => XS.i2b X0.here hx rfl (hb hby d9_31) rfl κ) ?_
  have hc130 : (pb.toInt8.toInt32) = (pb.toInt8.toInt32) := rfl
  refine Gl.st (g' := (mkF m 37 #[.val (.ref r), .val (.int (2 : Int32)), .val (.int pa), .val (.int pb), .val (.int pc1)] [])) (fun τ κ => XS.icmpYes X0.here hx rfl (pc0 := 32) (pc' := 37) rfl (hb hby d9_32) rfl (teq hc130).1 (by decide) (by decide) κ) ?_
  refine Gl.st (g' := (mkF m 38 #[.val (.ref r), .val (.int (2 : Int32)), .val (.int pa), .val (.int pb), .val (.int pc1)] [(.int (2 : Int32))])) (fun τ κ => XS.iloadN X0.here hx rfl (hb hby d9_37) rfl κ) ?_
  refine Gl.st (g' := (mkF m 39 #[.val (.ref r), .val (.int (2 : Int32)), .val (.int pa), .val (.int pb), .val (.int pc1)] [(.int (2 : Int32)), (.int (2 : Int32))])) (fun τ κ => XS.iconst X0.here hx rfl (hb hby d9_38) κ) ?_
  have hc131 : ¬ ((2 : Int32) < (2 : Int32)) := by decide
  refine Gl.st (g' := (mkF m 53 #[.val (.ref r), .val (.int (2 : Int32)), .val (.int pa), .val (.int pb), .val (.int pc1)] [])) (fun τ κ => XS.icmpYes X0.here hx rfl (pc0 := 39) (pc' := 53) rfl (hb hby d9_39) rfl (flt hc131).2.2.2 (by decide) (by decide) κ) ?_
  refine Gl.st (g' := (mkF m 54 #[.val (.ref r), .val (.int (2 : Int32)), .val (.int pa), .val (.int pb), .val (.int pc1)] [(.int (1 : Int32))])) (fun τ κ => XS.iconst X0.here hx rfl (hb hby d9_53) κ) ?_
  exact Gl.ret (v := some (.int (1 : Int32))) X0 Bd.notSynchronized (fun h => by rw [Bd.returns] at h; cases h) e0 (fun fs hr => retN X0 hx (t := .boolean) Bd.returns (by simp) (hb hby d9_54) hr) (by decide) (by decide) ⟨rfl, N0, rfl⟩
theorem d9_42 : decode method_3_code 42 = .ok (.aload_n 0, 1) := by decide +kernel
theorem d9_43 : decode method_3_code 43 = .ok (.iconst 2, 1) := by decide +kernel
theorem d9_44 : decode method_3_code 44 = .ok (.baload, 1) := by decide +kernel
theorem d9_45 : decode method_3_code 45 = .ok (.iload 4, 2) := by decide +kernel
theorem d9_47 : decode method_3_code 47 = .ok (.i2b, 1) := by decide +kernel
theorem d9_48 : decode method_3_code 48 = .ok (.if_icmp .eq 5, 3) := by decide +kernel
theorem ef_rm_same3 (m : MethodId) (r : Addr) (pa : Int32) (pb : Int32) (pc1 : Int32) : entryFrame m #[(.ref r), (.int (3 : Int32)), (.int pa), (.int pb), (.int pc1)] 5 = mkF m 0 #[.val (.ref r), .val (.int (3 : Int32)), .val (.int pa), .val (.int pb), .val (.int pc1)] [] := by first | (simp [entryFrame, mkF, argsToLocals, Value.category]; done) | rfl
def Q_rm_same3 (Z : State) (r : Addr) (pa : Int32) (pb : Int32) (pc1 : Int32) (kc : ClassId) (vs : List Value) (h0 : Heap) (n0 : Nat) (v : Option Value) (h : Heap) (L : List Loc) : Prop := v = some (.int 1) ∧ Fr n0 L ∧ h = h0
set_option maxRecDepth 65536 in
set_option maxHeartbeats 40000000 in
theorem rm_same3 (l : Launch) (Z : State) (a0 : Array Value) (hw : ∀ d ∈ tables_1, d.before a0 Z = true) (ws : List Jvm.Cond) (r : Addr) (pa : Int32) (pb : Int32) (pc1 : Int32) (kc : ClassId) (vs : List Value) (h0 : Heap) (n0 : Nat) (Z0 : n0 ≤ h0.size) (V0 : Arv Z h0 r kc .byte (3 : Int32) vs (.int (0 : Int32))) (hv0 : vs.getD ((0 : Int32)).toNatClampNeg (.int (0 : Int32)) = (.int (pa.toInt8.toInt32))) (hv1 : vs.getD ((1 : Int32)).toNatClampNeg (.int (0 : Int32)) = (.int (pb.toInt8.toInt32))) (hv2 : vs.getD ((2 : Int32)).toNatClampNeg (.int (0 : Int32)) = (.int (pc1.toInt8.toInt32))) :
    MetFree l (⟨"com/example/hermitage/hermitage/frame/JsonTextToBytesPinLaw", "same", "([BICCC)Z"⟩ : MethodName) (head1 (Jvm.Cond.code (⟨"com/example/hermitage/hermitage/frame/JsonTextToBytesPinLaw", "same", "([BICCC)Z"⟩ : MethodName) method_3_code 5 (some .boolean) :: ws) ({ frames := 0, cells := 0, slots := 0, locals := 0 } : Room)) (fun aα Uα => aα = #[(.ref r), (.int (3 : Int32)), (.int pa), (.int pb), (.int pc1)] ∧ Z.Warmed39 Uα.vm ∧ Uα.heap = h0) (fun _ _ _ _ _ => True) (fun _ Uα oα Uβ => ∃ vα Lα, oα = .returned vα ∧ Q_rm_same3 Z r pa pb pc1 kc vs h0 n0 vα Uβ.heap Lα ∧ FrameEnd Uα oα Uβ Lα ({ frames := 0, cells := 0, slots := 0, locals := 0 } : Room).cells ({ frames := 0, cells := 0, slots := 0, locals := 0 } : Room).slots) := by
  refine MetFree.of_bodySF (plainFor_of_name pn_com_example_hermitage_hermitage_frame_JsonTextToBytesPinLaw) hisR ?_
  intro p e s m args below meth c s₁ Bd hml0 hP hKα
  obtain ⟨rfl, hZ, hh⟩ := hP
  have hx := Bd.exec
  have hby := Bd.bytes
  have hml : c.maxLocals = 5 := hml0
  have hown : s.vm.findClass "com/example/hermitage/hermitage/frame/JsonTextToBytesPinLaw" = some m.cls := findClass_of_methodNamed Bd.named
  have hnm := (name_of_methodNamed Bd.named Bd.method).1
  have X0 : Stand p l e ({ frames := 0, cells := 0, slots := 0, locals := 0 } : Room) s m #[(.ref r), (.int (3 : Int32)), (.int pa), (.int pb), (.int pc1)] below meth c s₁ [] 0 0 := Stand.of_body Bd
  have e0 : s₁.heap = h0 := by rw [← hh, Bd.state]; rfl
  have N0 := Fr.nil n0
  suffices k0 : Gl p e below s (Q_rm_same3 Z r pa pb pc1 kc vs h0 n0) ({ frames := 0, cells := 0, slots := 0, locals := 0 } : Room).cells ({ frames := 0, cells := 0, slots := 0, locals := 0 } : Room).slots s₁ (mkF m 0 #[.val (.ref r), .val (.int (3 : Int32)), .val (.int pa), .val (.int pb), .val (.int pc1)] []) from Gl.st (fun τ κ => castTop (ef_rm_same3 m r pa pb pc1) κ) k0
  refine Gl.st (g' := (mkF m 1 #[.val (.ref r), .val (.int (3 : Int32)), .val (.int pa), .val (.int pb), .val (.int pc1)] [(.ref r)])) (fun τ κ => XS.aloadN X0.here hx rfl (hb hby d9_0) rfl rfl κ) ?_
  obtain ⟨cl_o132, Ar_o132, q_o132, S_o132, M_o132, H_o132, G_o132⟩ := id V0
  refine Gl.st (g' := (mkF m 2 #[.val (.ref r), .val (.int (3 : Int32)), .val (.int pa), .val (.int pb), .val (.int pc1)] [(.int (3 : Int32))])) (fun τ κ => X0.arraylength hx (by rw [e0]; exact Ar_o132.1) (State.isArrayOf_alike hZ.alike Ar_o132.2.1) (g := (mkF m 1 #[.val (.ref r), .val (.int (3 : Int32)), .val (.int pa), .val (.int pb), .val (.int pc1)] [(.ref r)])) rfl rfl (hb hby d9_1) _ (by rw [len_of S_o132 M_o132]; exact κ)) ?_
  refine Gl.st (g' := (mkF m 3 #[.val (.ref r), .val (.int (3 : Int32)), .val (.int pa), .val (.int pb), .val (.int pc1)] [(.int (3 : Int32)), (.int (3 : Int32))])) (fun τ κ => XS.iloadN X0.here hx rfl (hb hby d9_2) rfl κ) ?_
  have hc133 : (3 : Int32) = (3 : Int32) := by decide
  refine Gl.st (g' := (mkF m 8 #[.val (.ref r), .val (.int (3 : Int32)), .val (.int pa), .val (.int pb), .val (.int pc1)] [])) (fun τ κ => XS.icmpYes X0.here hx rfl (pc0 := 3) (pc' := 8) rfl (hb hby d9_3) rfl (teq hc133).1 (by decide) (by decide) κ) ?_
  refine Gl.st (g' := (mkF m 9 #[.val (.ref r), .val (.int (3 : Int32)), .val (.int pa), .val (.int pb), .val (.int pc1)] [(.int (3 : Int32))])) (fun τ κ => XS.iloadN X0.here hx rfl (hb hby d9_8) rfl κ) ?_
  have hc134 : (0 : Int32) < (3 : Int32) := by decide
  refine Gl.st (g' := (mkF m 12 #[.val (.ref r), .val (.int (3 : Int32)), .val (.int pa), .val (.int pb), .val (.int pc1)] [])) (fun τ κ => XS.ifNo X0.here hx rfl (hb hby d9_9) rfl ((if0 _ _).trans (tlt hc134).2.2.2) κ) ?_
  refine Gl.st (g' := (mkF m 13 #[.val (.ref r), .val (.int (3 : Int32)), .val (.int pa), .val (.int pb), .val (.int pc1)] [(.ref r)])) (fun τ κ => XS.aloadN X0.here hx rfl (hb hby d9_12) rfl rfl κ) ?_
  refine Gl.st (g' := (mkF m 14 #[.val (.ref r), .val (.int (3 : Int32)), .val (.int pa), .val (.int pb), .val (.int pc1)] [(.int (0 : Int32)), (.ref r)])) (fun τ κ => XS.iconst X0.here hx rfl (hb hby d9_13) κ) ?_
  obtain ⟨cl_o135, Ar_o135, q_o135, S_o135, M_o135, H_o135, G_o135⟩ := id V0
  have hin_o135 : ¬ ((0 : Int32) < 0 ∨ cl_o135.slots.size ≤ ((0 : Int32)).toNatClampNeg) := inb_of S_o135 ⟨by decide, by decide⟩
  refine Gl.st (g' := (mkF m 15 #[.val (.ref r), .val (.int (3 : Int32)), .val (.int pa), .val (.int pb), .val (.int pc1)] [(.int (pa.toInt8.toInt32))])) (fun τ κ => X0.baloadBytes hx (j := (0 : Int32)) (v := (.int (pa.toInt8.toInt32))) (by rw [e0]; exact Ar_o135.1) (State.isArrayOf_alike hZ.alike Ar_o135.2.1) Ar_o135.2.2 hin_o135 ((H_o135 _ (Nat.lt_of_not_le fun q => hin_o135 (Or.inr q))).trans (congrArg some hv0)) (g := (mkF m 14 #[.val (.ref r), .val (.int (3 : Int32)), .val (.int pa), .val (.int pb), .val (.int pc1)] [(.int (0 : Int32)), (.ref r)])) rfl rfl (hb hby d9_14) _ κ) ?_
  refine Gl.st (g' := (mkF m 16 #[.val (.ref r), .val (.int (3 : Int32)), .val (.int pa), .val (.int pb), .val (.int pc1)] [(.int pa), (.int (pa.toInt8.toInt32))])) (fun τ κ => XS.iloadN X0.here hx rfl (hb hby d9_15) rfl κ) ?_
  refine Gl.st (g' := (mkF m 17 #[.val (.ref r), .val (.int (3 : Int32)), .val (.int pa), .val (.int pb), .val (.int pc1)] [(.int (pa.toInt8.toInt32)), (.int (pa.toInt8.toInt32))])) (fun τ κ => XS.i2b X0.here hx rfl (hb hby d9_16) rfl κ) ?_
  have hc136 : (pa.toInt8.toInt32) = (pa.toInt8.toInt32) := rfl
  refine Gl.st (g' := (mkF m 22 #[.val (.ref r), .val (.int (3 : Int32)), .val (.int pa), .val (.int pb), .val (.int pc1)] [])) (fun τ κ => XS.icmpYes X0.here hx rfl (pc0 := 17) (pc' := 22) rfl (hb hby d9_17) rfl (teq hc136).1 (by decide) (by decide) κ) ?_
  refine Gl.st (g' := (mkF m 23 #[.val (.ref r), .val (.int (3 : Int32)), .val (.int pa), .val (.int pb), .val (.int pc1)] [(.int (3 : Int32))])) (fun τ κ => XS.iloadN X0.here hx rfl (hb hby d9_22) rfl κ) ?_
  refine Gl.st (g' := (mkF m 24 #[.val (.ref r), .val (.int (3 : Int32)), .val (.int pa), .val (.int pb), .val (.int pc1)] [(.int (1 : Int32)), (.int (3 : Int32))])) (fun τ κ => XS.iconst X0.here hx rfl (hb hby d9_23) κ) ?_
  have hc137 : (1 : Int32) < (3 : Int32) := by decide
  refine Gl.st (g' := (mkF m 27 #[.val (.ref r), .val (.int (3 : Int32)), .val (.int pa), .val (.int pb), .val (.int pc1)] [])) (fun τ κ => XS.icmpNo X0.here hx rfl (hb hby d9_24) rfl (tlt hc137).2.2.2 κ) ?_
  refine Gl.st (g' := (mkF m 28 #[.val (.ref r), .val (.int (3 : Int32)), .val (.int pa), .val (.int pb), .val (.int pc1)] [(.ref r)])) (fun τ κ => XS.aloadN X0.here hx rfl (hb hby d9_27) rfl rfl κ) ?_
  refine Gl.st (g' := (mkF m 29 #[.val (.ref r), .val (.int (3 : Int32)), .val (.int pa), .val (.int pb), .val (.int pc1)] [(.int (1 : Int32)), (.ref r)])) (fun τ κ => XS.iconst X0.here hx rfl (hb hby d9_28) κ) ?_
  obtain ⟨cl_o138, Ar_o138, q_o138, S_o138, M_o138, H_o138, G_o138⟩ := id V0
  have hin_o138 : ¬ ((1 : Int32) < 0 ∨ cl_o138.slots.size ≤ ((1 : Int32)).toNatClampNeg) := inb_of S_o138 ⟨by decide, by decide⟩
  refine Gl.st (g' := (mkF m 30 #[.val (.ref r), .val (.int (3 : Int32)), .val (.int pa), .val (.int pb), .val (.int pc1)] [(.int (pb.toInt8.toInt32))])) (fun τ κ => X0.baloadBytes hx (j := (1 : Int32)) (v := (.int (pb.toInt8.toInt32))) (by rw [e0]; exact Ar_o138.1) (State.isArrayOf_alike hZ.alike Ar_o138.2.1) Ar_o138.2.2 hin_o138 ((H_o138 _ (Nat.lt_of_not_le fun q => hin_o138 (Or.inr q))).trans (congrArg some hv1)) (g := (mkF m 29 #[.val (.ref r), .val (.int (3 : Int32)), .val (.int pa), .val (.int pb), .val (.int pc1)] [(.int (1 : Int32)), (.ref r)])) rfl rfl (hb hby d9_29) _ κ) ?_
  refine Gl.st (g' := (mkF m 31 #[.val (.ref r), .val (.int (3 : Int32)), .val (.int pa), .val (.int pb), .val (.int pc1)] [(.int pb), (.int (pb.toInt8.toInt32))])) (fun τ κ => XS.iloadN X0.here hx rfl (hb hby d9_30) rfl κ) ?_
  refine Gl.st (g' := (mkF m 32 #[.val (.ref r), .val (.int (3 : Int32)), .val (.int pa), .val (.int pb), .val (.int pc1)] [(.int (pb.toInt8.toInt32)), (.int (pb.toInt8.toInt32))])) (fun τ κ => XS.i2b X0.here hx rfl (hb hby d9_31) rfl κ) ?_
  have hc139 : (pb.toInt8.toInt32) = (pb.toInt8.toInt32) := rfl
  refine Gl.st (g' := (mkF m 37 #[.val (.ref r), .val (.int (3 : Int32)), .val (.int pa), .val (.int pb), .val (.int pc1)] [])) (fun τ κ => XS.icmpYes X0.here hx rfl (pc0 := 32) (pc' := 37) rfl (hb hby d9_32) rfl (teq hc139).1 (by decide) (by decide) κ) ?_
  refine Gl.st (g' := (mkF m 38 #[.val (.ref r), .val (.int (3 : Int32)), .val (.int pa), .val (.int pb), .val (.int pc1)] [(.int (3 : Int32))])) (fun τ κ => XS.iloadN X0.here hx rfl (hb hby d9_37) rfl κ) ?_
  refine Gl.st (g' := (mkF m 39 #[.val (.ref r), .val (.int (3 : Int32)), .val (.int pa), .val (.int pb), .val (.int pc1)] [(.int (2 : Int32)), (.int (3 : Int32))])) (fun τ κ => XS.iconst X0.here hx rfl (hb hby d9_38) κ) ?_
  have hc140 : (2 : Int32) < (3 : Int32) := by decide
  refine Gl.st (g' := (mkF m 42 #[.val (.ref r), .val (.int (3 : Int32)), .val (.int pa), .val (.int pb), .val (.int pc1)] [])) (fun τ κ => XS.icmpNo X0.here hx rfl (hb hby d9_39) rfl (tlt hc140).2.2.2 κ) ?_
  refine Gl.st (g' := (mkF m 43 #[.val (.ref r), .val (.int (3 : Int32)), .val (.int pa), .val (.int pb), .val (.int pc1)] [(.ref r)])) (fun τ κ => XS.aloadN X0.here hx rfl (hb hby d9_42) rfl rfl κ) ?_
  refine Gl.st (g' := (mkF m 44 #[.val (.ref r), .val (.int (3 : Int32)), .val (.int pa), .val (.int pb), .val (.int pc1)] [(.int (2 : Int32)), (.ref r)])) (fun τ κ => XS.iconst X0.here hx rfl (hb hby d9_43) κ) ?_
  obtain ⟨cl_o141, Ar_o141, q_o141, S_o141, M_o141, H_o141, G_o141⟩ := id V0
  have hin_o141 : ¬ ((2 : Int32) < 0 ∨ cl_o141.slots.size ≤ ((2 : Int32)).toNatClampNeg) := inb_of S_o141 ⟨by decide, by decide⟩
  refine Gl.st (g' := (mkF m 45 #[.val (.ref r), .val (.int (3 : Int32)), .val (.int pa), .val (.int pb), .val (.int pc1)] [(.int (pc1.toInt8.toInt32))])) (fun τ κ => X0.baloadBytes hx (j := (2 : Int32)) (v := (.int (pc1.toInt8.toInt32))) (by rw [e0]; exact Ar_o141.1) (State.isArrayOf_alike hZ.alike Ar_o141.2.1) Ar_o141.2.2 hin_o141 ((H_o141 _ (Nat.lt_of_not_le fun q => hin_o141 (Or.inr q))).trans (congrArg some hv2)) (g := (mkF m 44 #[.val (.ref r), .val (.int (3 : Int32)), .val (.int pa), .val (.int pb), .val (.int pc1)] [(.int (2 : Int32)), (.ref r)])) rfl rfl (hb hby d9_44) _ κ) ?_
  refine Gl.st (g' := (mkF m 47 #[.val (.ref r), .val (.int (3 : Int32)), .val (.int pa), .val (.int pb), .val (.int pc1)] [(.int pc1), (.int (pc1.toInt8.toInt32))])) (fun τ κ => XS.iload X0.here hx rfl (hb hby d9_45) rfl κ) ?_
  refine Gl.st (g' := (mkF m 48 #[.val (.ref r), .val (.int (3 : Int32)), .val (.int pa), .val (.int pb), .val (.int pc1)] [(.int (pc1.toInt8.toInt32)), (.int (pc1.toInt8.toInt32))])) (fun τ κ => XS.i2b X0.here hx rfl (hb hby d9_47) rfl κ) ?_
  have hc142 : (pc1.toInt8.toInt32) = (pc1.toInt8.toInt32) := rfl
  refine Gl.st (g' := (mkF m 53 #[.val (.ref r), .val (.int (3 : Int32)), .val (.int pa), .val (.int pb), .val (.int pc1)] [])) (fun τ κ => XS.icmpYes X0.here hx rfl (pc0 := 48) (pc' := 53) rfl (hb hby d9_48) rfl (teq hc142).1 (by decide) (by decide) κ) ?_
  refine Gl.st (g' := (mkF m 54 #[.val (.ref r), .val (.int (3 : Int32)), .val (.int pa), .val (.int pb), .val (.int pc1)] [(.int (1 : Int32))])) (fun τ κ => XS.iconst X0.here hx rfl (hb hby d9_53) κ) ?_
  exact Gl.ret (v := some (.int (1 : Int32))) X0 Bd.notSynchronized (fun h => by rw [Bd.returns] at h; cases h) e0 (fun fs hr => retN X0 hx (t := .boolean) Bd.returns (by simp) (hb hby d9_54) hr) (by decide) (by decide) ⟨rfl, N0, rfl⟩
theorem pd_3 : parseMethodDescriptor "()[B" = some ⟨[], some (.array .byte)⟩ := by decide +kernel
theorem pd_4 : parseMethodDescriptor "([BICCC)Z" = some ⟨[(.array .byte), .int, .char, .char, .char], some .boolean⟩ := by decide +kernel
theorem pd_5 : parseMethodDescriptor "()Lcom/example/hermitage/hermitage/frame/JsonText;" = some ⟨[], some (.object "com/example/hermitage/hermitage/frame/JsonText")⟩ := by decide +kernel
theorem pd_6 : parseMethodDescriptor "(C)Lcom/example/hermitage/hermitage/frame/JsonText;" = some ⟨[.char], some (.object "com/example/hermitage/hermitage/frame/JsonText")⟩ := by decide +kernel
theorem ef_rm0 (m : MethodId) (x0 : Int32) (x1 : Int32) (x2 : Int32) (x3 : Int32) (x4 : Int32) : entryFrame m #[(.int x0), (.int x1), (.int x2), (.int x3), (.int x4)] maxLocals = mkF m 0 #[.val (.int x0), .val (.int x1), .val (.int x2), .val (.int x3), .val (.int x4), .unset, .unset, .unset, .unset, .unset, .unset, .unset, .unset, .unset] [] := by first | (simp [entryFrame, mkF, argsToLocals, Value.category, maxLocals]; done) | rfl
def Q_rm0 (Z : State) (x0 : Int32) (x1 : Int32) (x2 : Int32) (x3 : Int32) (x4 : Int32)  (h0 : Heap) (n0 : Nat) (v : Option Value) (h : Heap) (L : List Loc) : Prop := v = some (.int 1) ∧ Fr n0 L
set_option maxRecDepth 65536 in
set_option maxHeartbeats 40000000 in
theorem rm0 (l : Launch) (Z : State) (a0 : Array Value) (hw : ∀ d ∈ tables_1, d.before a0 Z = true) (ws : List Jvm.Cond) (x0 : Int32) (x1 : Int32) (x2 : Int32) (x3 : Int32) (x4 : Int32)  (h0 : Heap) (n0 : Nat) (Z0 : n0 ≤ h0.size)  :
    MetFree l x (head1 (Jvm.Cond.code x code maxLocals ret :: ws) room_1) (fun aα Uα => aα = #[(.int x0), (.int x1), (.int x2), (.int x3), (.int x4)] ∧ Z.Warmed39 Uα.vm ∧ Uα.heap = h0) (fun _ _ _ _ _ => True) (fun _ Uα oα Uβ => ∃ vα Lα, oα = .returned vα ∧ Q_rm0 Z x0 x1 x2 x3 x4  h0 n0 vα Uβ.heap Lα ∧ FrameEnd Uα oα Uβ Lα 24 128) := by
  refine MetFree.of_bodySF (plainFor_of_name pn_com_example_hermitage_hermitage_frame_JsonTextToBytesPinLaw) hisR ?_
  intro p e s m args below meth c s₁ Bd hml0 hP hKα
  obtain ⟨rfl, hZ, hh⟩ := hP
  have hx := Bd.exec
  have hby := Bd.bytes
  have hml : c.maxLocals = 14 := hml0
  have hown : s.vm.findClass "com/example/hermitage/hermitage/frame/JsonTextToBytesPinLaw" = some m.cls := findClass_of_methodNamed Bd.named
  have hnm := (name_of_methodNamed Bd.named Bd.method).1
  have X0 : Stand p l e room_1 s m #[(.int x0), (.int x1), (.int x2), (.int x3), (.int x4)] below meth c s₁ [] 0 0 := Stand.of_body Bd
  have e0 : s₁.heap = h0 := by rw [← hh, Bd.state]; rfl
  have N0 := Fr.nil n0
  suffices k0 : Gl p e below s (Q_rm0 Z x0 x1 x2 x3 x4  h0 n0) 24 128 s₁ (mkF m 0 #[.val (.int x0), .val (.int x1), .val (.int x2), .val (.int x3), .val (.int x4), .unset, .unset, .unset, .unset, .unset, .unset, .unset, .unset, .unset] []) from Gl.st (fun τ κ => castTop (ef_rm0 m x0 x1 x2 x3 x4) κ) k0
  refine Gl.st (g' := (mkF m 1 #[.val (.int x0), .val (.int x1), .val (.int x2), .val (.int x3), .val (.int x4), .unset, .unset, .unset, .unset, .unset, .unset, .unset, .unset, .unset] [(.int x0)])) (fun τ κ => XS.iloadN X0.here hx rfl (hb hby at_0) rfl κ) ?_
  refine Gl.st (g' := (mkF m 2 #[.val (.int x0), .val (.int x1), .val (.int x2), .val (.int x3), .val (.int x4), .unset, .unset, .unset, .unset, .unset, .unset, .unset, .unset, .unset] [(.int (3 : Int32)), (.int x0)])) (fun τ κ => XS.iconst X0.here hx rfl (hb hby at_1) κ) ?_
  refine Gl.st (g' := (mkF m 3 #[.val (.int x0), .val (.int x1), .val (.int x2), .val (.int x3), .val (.int x4), .unset, .unset, .unset, .unset, .unset, .unset, .unset, .unset, .unset] [(.int (x0 &&& (3 : Int32)))])) (fun τ κ => XS.iand X0.here hx rfl (hb hby at_2) rfl κ) ?_
  refine Gl.st (g' := (mkF m 5 #[.val (.int x0), .val (.int x1), .val (.int x2), .val (.int x3), .val (.int x4), .val (.int (x0 &&& (3 : Int32))), .unset, .unset, .unset, .unset, .unset, .unset, .unset, .unset] [])) (fun τ κ => XS.istore X0.here hx rfl (hb hby at_3) rfl (l' := #[.val (.int x0), .val (.int x1), .val (.int x2), .val (.int x3), .val (.int x4), .val (.int (x0 &&& (3 : Int32))), .unset, .unset, .unset, .unset, .unset, .unset, .unset, .unset]) rfl κ) ?_
  refine Gl.st (g' := (mkF m 6 #[.val (.int x0), .val (.int x1), .val (.int x2), .val (.int x3), .val (.int x4), .val (.int (x0 &&& (3 : Int32))), .unset, .unset, .unset, .unset, .unset, .unset, .unset, .unset] [(.int x1)])) (fun τ κ => XS.iloadN X0.here hx rfl (hb hby at_5) rfl κ) ?_
  refine Gl.st (g' := (mkF m 7 #[.val (.int x0), .val (.int x1), .val (.int x2), .val (.int x3), .val (.int x4), .val (.int (x0 &&& (3 : Int32))), .unset, .unset, .unset, .unset, .unset, .unset, .unset, .unset] [(.int (3 : Int32)), (.int x1)])) (fun τ κ => XS.iconst X0.here hx rfl (hb hby at_6) κ) ?_
  refine Gl.st (g' := (mkF m 8 #[.val (.int x0), .val (.int x1), .val (.int x2), .val (.int x3), .val (.int x4), .val (.int (x0 &&& (3 : Int32))), .unset, .unset, .unset, .unset, .unset, .unset, .unset, .unset] [(.int (x1 &&& (3 : Int32)))])) (fun τ κ => XS.iand X0.here hx rfl (hb hby at_7) rfl κ) ?_
  rcases own_four x1 with hs143 | hs143 | hs143 | hs143
  · rw [hs143]
    refine Gl.st (g' := (mkF m 10 #[.val (.int x0), .val (.int x1), .val (.int x2), .val (.int x3), .val (.int x4), .val (.int (x0 &&& (3 : Int32))), .val (.int (0 : Int32)), .unset, .unset, .unset, .unset, .unset, .unset, .unset] [])) (fun τ κ => XS.istore X0.here hx rfl (hb hby at_8) rfl (l' := #[.val (.int x0), .val (.int x1), .val (.int x2), .val (.int x3), .val (.int x4), .val (.int (x0 &&& (3 : Int32))), .val (.int (0 : Int32)), .unset, .unset, .unset, .unset, .unset, .unset, .unset]) rfl κ) ?_
    refine Gl.st (g' := (mkF m 11 #[.val (.int x0), .val (.int x1), .val (.int x2), .val (.int x3), .val (.int x4), .val (.int (x0 &&& (3 : Int32))), .val (.int (0 : Int32)), .unset, .unset, .unset, .unset, .unset, .unset, .unset] [(.int x2)])) (fun τ κ => XS.iloadN X0.here hx rfl (hb hby at_10) rfl κ) ?_
    refine Gl.st (g' := (mkF m 14 #[.val (.int x0), .val (.int x1), .val (.int x2), .val (.int x3), .val (.int x4), .val (.int (x0 &&& (3 : Int32))), .val (.int (0 : Int32)), .unset, .unset, .unset, .unset, .unset, .unset, .unset] [(.int (255 : Int32)), (.int x2)])) (fun τ κ => XS.sipush X0.here hx rfl (hb hby at_11) κ) ?_
    refine Gl.st (g' := (mkF m 15 #[.val (.int x0), .val (.int x1), .val (.int x2), .val (.int x3), .val (.int x4), .val (.int (x0 &&& (3 : Int32))), .val (.int (0 : Int32)), .unset, .unset, .unset, .unset, .unset, .unset, .unset] [(.int (x2 &&& (255 : Int32)))])) (fun τ κ => XS.iand X0.here hx rfl (hb hby at_14) rfl κ) ?_
    refine Gl.st (g' := (mkF m 16 #[.val (.int x0), .val (.int x1), .val (.int x2), .val (.int x3), .val (.int x4), .val (.int (x0 &&& (3 : Int32))), .val (.int (0 : Int32)), .unset, .unset, .unset, .unset, .unset, .unset, .unset] [(.int ((x2 &&& (255 : Int32)).toUInt32.toUInt16.toUInt32.toInt32))])) (fun τ κ => XS.i2c X0.here hx rfl (hb hby at_15) rfl κ) ?_
    generalize ((x2 &&& (255 : Int32)).toUInt32.toUInt16.toUInt32.toInt32) = ca
    refine Gl.st (g' := (mkF m 18 #[.val (.int x0), .val (.int x1), .val (.int x2), .val (.int x3), .val (.int x4), .val (.int (x0 &&& (3 : Int32))), .val (.int (0 : Int32)), .val (.int ca), .unset, .unset, .unset, .unset, .unset, .unset] [])) (fun τ κ => XS.istore X0.here hx rfl (hb hby at_16) rfl (l' := #[.val (.int x0), .val (.int x1), .val (.int x2), .val (.int x3), .val (.int x4), .val (.int (x0 &&& (3 : Int32))), .val (.int (0 : Int32)), .val (.int ca), .unset, .unset, .unset, .unset, .unset, .unset]) rfl κ) ?_
    refine Gl.st (g' := (mkF m 19 #[.val (.int x0), .val (.int x1), .val (.int x2), .val (.int x3), .val (.int x4), .val (.int (x0 &&& (3 : Int32))), .val (.int (0 : Int32)), .val (.int ca), .unset, .unset, .unset, .unset, .unset, .unset] [(.int x3)])) (fun τ κ => XS.iloadN X0.here hx rfl (hb hby at_18) rfl κ) ?_
    refine Gl.st (g' := (mkF m 22 #[.val (.int x0), .val (.int x1), .val (.int x2), .val (.int x3), .val (.int x4), .val (.int (x0 &&& (3 : Int32))), .val (.int (0 : Int32)), .val (.int ca), .unset, .unset, .unset, .unset, .unset, .unset] [(.int (255 : Int32)), (.int x3)])) (fun τ κ => XS.sipush X0.here hx rfl (hb hby at_19) κ) ?_
    refine Gl.st (g' := (mkF m 23 #[.val (.int x0), .val (.int x1), .val (.int x2), .val (.int x3), .val (.int x4), .val (.int (x0 &&& (3 : Int32))), .val (.int (0 : Int32)), .val (.int ca), .unset, .unset, .unset, .unset, .unset, .unset] [(.int (x3 &&& (255 : Int32)))])) (fun τ κ => XS.iand X0.here hx rfl (hb hby at_22) rfl κ) ?_
    refine Gl.st (g' := (mkF m 24 #[.val (.int x0), .val (.int x1), .val (.int x2), .val (.int x3), .val (.int x4), .val (.int (x0 &&& (3 : Int32))), .val (.int (0 : Int32)), .val (.int ca), .unset, .unset, .unset, .unset, .unset, .unset] [(.int ((x3 &&& (255 : Int32)).toUInt32.toUInt16.toUInt32.toInt32))])) (fun τ κ => XS.i2c X0.here hx rfl (hb hby at_23) rfl κ) ?_
    generalize ((x3 &&& (255 : Int32)).toUInt32.toUInt16.toUInt32.toInt32) = cb
    refine Gl.st (g' := (mkF m 26 #[.val (.int x0), .val (.int x1), .val (.int x2), .val (.int x3), .val (.int x4), .val (.int (x0 &&& (3 : Int32))), .val (.int (0 : Int32)), .val (.int ca), .val (.int cb), .unset, .unset, .unset, .unset, .unset] [])) (fun τ κ => XS.istore X0.here hx rfl (hb hby at_24) rfl (l' := #[.val (.int x0), .val (.int x1), .val (.int x2), .val (.int x3), .val (.int x4), .val (.int (x0 &&& (3 : Int32))), .val (.int (0 : Int32)), .val (.int ca), .val (.int cb), .unset, .unset, .unset, .unset, .unset]) rfl κ) ?_
    refine Gl.st (g' := (mkF m 28 #[.val (.int x0), .val (.int x1), .val (.int x2), .val (.int x3), .val (.int x4), .val (.int (x0 &&& (3 : Int32))), .val (.int (0 : Int32)), .val (.int ca), .val (.int cb), .unset, .unset, .unset, .unset, .unset] [(.int x4)])) (fun τ κ => XS.iload X0.here hx rfl (hb hby at_26) rfl κ) ?_
    refine Gl.st (g' := (mkF m 31 #[.val (.int x0), .val (.int x1), .val (.int x2), .val (.int x3), .val (.int x4), .val (.int (x0 &&& (3 : Int32))), .val (.int (0 : Int32)), .val (.int ca), .val (.int cb), .unset, .unset, .unset, .unset, .unset] [(.int (255 : Int32)), (.int x4)])) (fun τ κ => XS.sipush X0.here hx rfl (hb hby at_28) κ) ?_
    refine Gl.st (g' := (mkF m 32 #[.val (.int x0), .val (.int x1), .val (.int x2), .val (.int x3), .val (.int x4), .val (.int (x0 &&& (3 : Int32))), .val (.int (0 : Int32)), .val (.int ca), .val (.int cb), .unset, .unset, .unset, .unset, .unset] [(.int (x4 &&& (255 : Int32)))])) (fun τ κ => XS.iand X0.here hx rfl (hb hby at_31) rfl κ) ?_
    refine Gl.st (g' := (mkF m 33 #[.val (.int x0), .val (.int x1), .val (.int x2), .val (.int x3), .val (.int x4), .val (.int (x0 &&& (3 : Int32))), .val (.int (0 : Int32)), .val (.int ca), .val (.int cb), .unset, .unset, .unset, .unset, .unset] [(.int ((x4 &&& (255 : Int32)).toUInt32.toUInt16.toUInt32.toInt32))])) (fun τ κ => XS.i2c X0.here hx rfl (hb hby at_32) rfl κ) ?_
    generalize ((x4 &&& (255 : Int32)).toUInt32.toUInt16.toUInt32.toInt32) = cc
    refine Gl.st (g' := (mkF m 35 #[.val (.int x0), .val (.int x1), .val (.int x2), .val (.int x3), .val (.int x4), .val (.int (x0 &&& (3 : Int32))), .val (.int (0 : Int32)), .val (.int ca), .val (.int cb), .val (.int cc), .unset, .unset, .unset, .unset] [])) (fun τ κ => XS.istore X0.here hx rfl (hb hby at_33) rfl (l' := #[.val (.int x0), .val (.int x1), .val (.int x2), .val (.int x3), .val (.int x4), .val (.int (x0 &&& (3 : Int32))), .val (.int (0 : Int32)), .val (.int ca), .val (.int cb), .val (.int cc), .unset, .unset, .unset, .unset]) rfl κ) ?_
    obtain ⟨T144, h144, X144, e144, E144, A144, D144, -, st144⟩ := newO X0 hx hZ hown (hw _ (List.mem_of_getElem? (i := 0) rfl)) (hw _ (List.mem_of_getElem? (i := 1) rfl)) (hw _ (List.mem_of_getElem? (i := 2) rfl)) e0 (g := (mkF m 35 #[.val (.int x0), .val (.int x1), .val (.int x2), .val (.int x3), .val (.int x4), .val (.int (x0 &&& (3 : Int32))), .val (.int (0 : Int32)), .val (.int ca), .val (.int cb), .val (.int cc), .unset, .unset, .unset, .unset] [])) rfl (hb hby at_35) (by decide) (by decide)
    obtain ⟨b144, g144⟩ : ∃ z, z = h0.size := ⟨_, rfl⟩
    rw [← g144] at A144 D144 st144
    have g_b144 : n0 ≤ b144 := Nat.le_trans Z0 (Nat.le_of_eq g144.symm)
    have sz_b144 : h0.size ≤ b144 := Nat.le_trans (Keep.refl h0 []).1 (Nat.le_of_eq g144.symm)
    have Z144 : n0 ≤ h144.size := Nat.le_trans Z0 E144.1
    have K144 : Keep h0 h144 [] := (Keep.refl h0 []).ext E144
    have F_145 : Fld Z h144 b144 "com/example/hermitage/hermitage/frame/JsonText" "capacity" "I" (.int (0 : Int32)) := D144 (Or.inr (hw _ (List.mem_of_getElem? (i := 10) rfl))) (ty := .int) (by decide)
    have F_146 : Fld Z h144 b144 "com/example/hermitage/hermitage/frame/JsonText" "bytes" "[B" .null := D144 (Or.inl (hw _ (List.mem_of_getElem? (i := 13) rfl))) (ty := (.array .byte)) (by decide)
    have F_147 : Fld Z h144 b144 "com/example/hermitage/hermitage/frame/JsonText" "length" "I" (.int (0 : Int32)) := D144 (Or.inl (hw _ (List.mem_of_getElem? (i := 24) rfl))) (ty := .int) (by decide)
    refine Gl.st (g' := (mkF m 38 #[.val (.int x0), .val (.int x1), .val (.int x2), .val (.int x3), .val (.int x4), .val (.int (x0 &&& (3 : Int32))), .val (.int (0 : Int32)), .val (.int ca), .val (.int cb), .val (.int cc), .unset, .unset, .unset, .unset] [(.ref b144)])) (fun τ κ => st144 _ κ) ?_
    refine Gl.st (g' := (mkF m 39 #[.val (.int x0), .val (.int x1), .val (.int x2), .val (.int x3), .val (.int x4), .val (.int (x0 &&& (3 : Int32))), .val (.int (0 : Int32)), .val (.int ca), .val (.int cb), .val (.int cc), .unset, .unset, .unset, .unset] [(.ref b144), (.ref b144)])) (fun τ κ => XS.dup X144.here hx rfl (hb hby at_38) rfl rfl κ) ?_
    refine Gl.st (g' := (mkF m 41 #[.val (.int x0), .val (.int x1), .val (.int x2), .val (.int x3), .val (.int x4), .val (.int (x0 &&& (3 : Int32))), .val (.int (0 : Int32)), .val (.int ca), .val (.int cb), .val (.int cc), .unset, .unset, .unset, .unset] [(.int (x0 &&& (3 : Int32))), (.ref b144), (.ref b144)])) (fun τ κ => XS.iload X144.here hx rfl (hb hby at_39) rfl κ) ?_
    obtain ⟨rv148, _, ⟨T148, L148, k148, n148⟩, -, X148, ⟨Lc148, hQ148, l148, y148, z148⟩, st148⟩ := X144.specialBack hx (y := (⟨"com/example/hermitage/hermitage/frame/JsonText", "<init>", "(I)V"⟩ : MethodName)) rfl hown (mvT hZ (hw _ (List.mem_of_getElem? (i := 3) rfl))) (mvT hZ (hw _ (List.mem_of_getElem? (i := 4) rfl))) (mvT hZ (hw _ (List.mem_of_getElem? (i := 5) rfl))) (by decide) (backOf (W := 1) (rm1 l Z a0 hw [] b144 (x0 &&& (3 : Int32)) h144 n0 Z144 A144 g_b144 F_145 F_146 F_147 (own_p3 x0).1 (own_p3 x0).2.1) hZ (hw _ (List.mem_of_getElem? (i := 5) rfl)) (hw _ (List.mem_of_getElem? (i := 2) rfl)) (by decide) (by decide)) (g := (mkF m 41 #[.val (.int x0), .val (.int x1), .val (.int x2), .val (.int x3), .val (.int x4), .val (.int (x0 &&& (3 : Int32))), .val (.int (0 : Int32)), .val (.int ca), .val (.int cb), .val (.int cc), .unset, .unset, .unset, .unset] [(.int (x0 &&& (3 : Int32))), (.ref b144), (.ref b144)])) rfl (by rw [hml]; rfl) (Steps.refl _) (a := b144) (argsL := [(.int (x0 &&& (3 : Int32)))]) (rest := [(.ref b144)]) (lenOf pd_2 rfl) rfl (by show 2 * 0 + _ ≤ _; exact Nat.le_of_eq rfl) (hb hby at_41) (fun _ _ => ⟨rfl, e144, (by decide : 1 + 1 ≤ _), (by decide : 3 + 7 ≤ _)⟩)
    dsimp only [Pt.U, Pt.locs, Pt.cells, Pt.slots] at X148 l148 y148 z148 st148 hQ148
    subst l148 y148 z148
    obtain ⟨t148, kk148, rfl, N148q, Kc148, Ec148, FC148, FB148, FL148, Et148, V148, s148⟩ := hQ148
    have ne_b144_t148 : b144 ≠ t148 := Nat.ne_of_lt (Nat.lt_of_lt_of_le A144.lt s148)
    have g_t148 : n0 ≤ t148 := Nat.le_trans Z144 s148
    have sz_t148 : h0.size ≤ t148 := Nat.le_trans K144.1 s148
    have E_149 := A144.keep Kc148
    have N148 := Fr.app N0 N148q
    have Z148 : n0 ≤ T148.heap.size := Nat.le_trans Z144 Kc148.1
    have K148 : Keep h0 T148.heap [] := K144.trans Kc148 (allS (Or.inr sz_b144) all0)
    refine Gl.st (g' := (mkF m 44 #[.val (.int x0), .val (.int x1), .val (.int x2), .val (.int x3), .val (.int x4), .val (.int (x0 &&& (3 : Int32))), .val (.int (0 : Int32)), .val (.int ca), .val (.int cb), .val (.int cc), .unset, .unset, .unset, .unset] [(.ref b144)])) (fun τ κ => st148.trans κ) ?_
    refine Gl.st (g' := (mkF m 46 #[.val (.int x0), .val (.int x1), .val (.int x2), .val (.int x3), .val (.int x4), .val (.int (x0 &&& (3 : Int32))), .val (.int (0 : Int32)), .val (.int ca), .val (.int cb), .val (.int cc), .val (.ref b144), .unset, .unset, .unset] [])) (fun τ κ => XS.astore X148.here hx rfl (hb hby at_44) rfl rfl (l' := #[.val (.int x0), .val (.int x1), .val (.int x2), .val (.int x3), .val (.int x4), .val (.int (x0 &&& (3 : Int32))), .val (.int (0 : Int32)), .val (.int ca), .val (.int cb), .val (.int cc), .val (.ref b144), .unset, .unset, .unset]) rfl κ) ?_
    refine Gl.st (g' := (mkF m 48 #[.val (.int x0), .val (.int x1), .val (.int x2), .val (.int x3), .val (.int x4), .val (.int (x0 &&& (3 : Int32))), .val (.int (0 : Int32)), .val (.int ca), .val (.int cb), .val (.int cc), .val (.ref b144), .unset, .unset, .unset] [(.int (0 : Int32))])) (fun τ κ => XS.iload X148.here hx rfl (hb hby at_46) rfl κ) ?_
    have hc153 : ¬ ((0 : Int32) < (0 : Int32)) := by decide
    refine Gl.st (g' := (mkF m 59 #[.val (.int x0), .val (.int x1), .val (.int x2), .val (.int x3), .val (.int x4), .val (.int (x0 &&& (3 : Int32))), .val (.int (0 : Int32)), .val (.int ca), .val (.int cb), .val (.int cc), .val (.ref b144), .unset, .unset, .unset] [])) (fun τ κ => XS.ifYes X148.here hx rfl (pc0 := 48) (pc' := 59) rfl (hb hby at_48) rfl ((if0 _ _).trans (flt hc153).2.2.2) (by decide) (by decide) κ) ?_
    refine Gl.st (g' := (mkF m 61 #[.val (.int x0), .val (.int x1), .val (.int x2), .val (.int x3), .val (.int x4), .val (.int (x0 &&& (3 : Int32))), .val (.int (0 : Int32)), .val (.int ca), .val (.int cb), .val (.int cc), .val (.ref b144), .unset, .unset, .unset] [(.int (0 : Int32))])) (fun τ κ => XS.iload X148.here hx rfl (hb hby at_59) rfl κ) ?_
    refine Gl.st (g' := (mkF m 62 #[.val (.int x0), .val (.int x1), .val (.int x2), .val (.int x3), .val (.int x4), .val (.int (x0 &&& (3 : Int32))), .val (.int (0 : Int32)), .val (.int ca), .val (.int cb), .val (.int cc), .val (.ref b144), .unset, .unset, .unset] [(.int (1 : Int32)), (.int (0 : Int32))])) (fun τ κ => XS.iconst X148.here hx rfl (hb hby at_61) κ) ?_
    have hc154 : ¬ ((1 : Int32) < (0 : Int32)) := by decide
    refine Gl.st (g' := (mkF m 73 #[.val (.int x0), .val (.int x1), .val (.int x2), .val (.int x3), .val (.int x4), .val (.int (x0 &&& (3 : Int32))), .val (.int (0 : Int32)), .val (.int ca), .val (.int cb), .val (.int cc), .val (.ref b144), .unset, .unset, .unset] [])) (fun τ κ => XS.icmpYes X148.here hx rfl (pc0 := 62) (pc' := 73) rfl (hb hby at_62) rfl (flt hc154).2.2.2 (by decide) (by decide) κ) ?_
    refine Gl.st (g' := (mkF m 75 #[.val (.int x0), .val (.int x1), .val (.int x2), .val (.int x3), .val (.int x4), .val (.int (x0 &&& (3 : Int32))), .val (.int (0 : Int32)), .val (.int ca), .val (.int cb), .val (.int cc), .val (.ref b144), .unset, .unset, .unset] [(.int (0 : Int32))])) (fun τ κ => XS.iload X148.here hx rfl (hb hby at_73) rfl κ) ?_
    refine Gl.st (g' := (mkF m 76 #[.val (.int x0), .val (.int x1), .val (.int x2), .val (.int x3), .val (.int x4), .val (.int (x0 &&& (3 : Int32))), .val (.int (0 : Int32)), .val (.int ca), .val (.int cb), .val (.int cc), .val (.ref b144), .unset, .unset, .unset] [(.int (2 : Int32)), (.int (0 : Int32))])) (fun τ κ => XS.iconst X148.here hx rfl (hb hby at_75) κ) ?_
    have hc155 : ¬ ((2 : Int32) < (0 : Int32)) := by decide
    refine Gl.st (g' := (mkF m 87 #[.val (.int x0), .val (.int x1), .val (.int x2), .val (.int x3), .val (.int x4), .val (.int (x0 &&& (3 : Int32))), .val (.int (0 : Int32)), .val (.int ca), .val (.int cb), .val (.int cc), .val (.ref b144), .unset, .unset, .unset] [])) (fun τ κ => XS.icmpYes X148.here hx rfl (pc0 := 76) (pc' := 87) rfl (hb hby at_76) rfl (flt hc155).2.2.2 (by decide) (by decide) κ) ?_
    refine Gl.st (g' := (mkF m 89 #[.val (.int x0), .val (.int x1), .val (.int x2), .val (.int x3), .val (.int x4), .val (.int (x0 &&& (3 : Int32))), .val (.int (0 : Int32)), .val (.int ca), .val (.int cb), .val (.int cc), .val (.ref b144), .unset, .unset, .unset] [(.ref b144)])) (fun τ κ => XS.aload X148.here hx rfl (hb hby at_87) rfl rfl κ) ?_
    obtain ⟨cq156, kq156, q156a, q156b, q156c⟩ := isOf hZ rfl Ec148
    obtain ⟨rv156, _, ⟨T156, L156, k156, n156⟩, -, X156, ⟨Lc156, hQ156, l156, y156, z156⟩, st156⟩ := X148.virtualBack hx (y := (⟨"com/example/hermitage/hermitage/frame/JsonText", "toBytes", "()[B"⟩ : MethodName)) (z := (⟨"com/example/hermitage/hermitage/frame/JsonText", "toBytes", "()[B"⟩ : MethodName)) hown (mvT hZ (hw _ (List.mem_of_getElem? (i := 40) rfl))) (mvT hZ (hw _ (List.mem_of_getElem? (i := 41) rfl))) (notFace_of_selects (args := #[]) (mvT hZ (hw _ (List.mem_of_getElem? (i := 43) rfl)))) (mvT hZ (hw _ (List.mem_of_getElem? (i := 43) rfl))) (mvT hZ (hw _ (List.mem_of_getElem? (i := 42) rfl))) (by decide) (backOf (W := 0) (rm8 l Z a0 hw [] b144 t148 kk148 (x0 &&& (3 : Int32)) (0 : Int32) (x0 &&& (3 : Int32)) [] T148.heap n0 Z148 Ec148 g_b144 FC148 FB148 FL148 Et148 g_t148 V148 ne_b144_t148 (by decide) (own_p3 x0).1 (own_p3 x0).2.2 (by decide)) hZ (hw _ (List.mem_of_getElem? (i := 44) rfl)) (hw _ (List.mem_of_getElem? (i := 2) rfl)) (by decide) (by decide)) q156a q156c (g := (mkF m 89 #[.val (.int x0), .val (.int x1), .val (.int x2), .val (.int x3), .val (.int x4), .val (.int (x0 &&& (3 : Int32))), .val (.int (0 : Int32)), .val (.int ca), .val (.int cb), .val (.int cc), .val (.ref b144), .unset, .unset, .unset] [(.ref b144)])) rfl (by rw [hml]; rfl) (Steps.refl _) (argsL := []) (rest := []) (lenOf pd_3 rfl) rfl (by show 2 * 0 + _ ≤ _; exact Nat.le_of_eq rfl) (hb hby at_89) (fun _ _ => ⟨rfl, rfl, (by decide : 2 + 1 ≤ _), (by decide : 10 + 8 ≤ _)⟩)
    dsimp only [Pt.U, Pt.locs, Pt.cells, Pt.slots] at X156 l156 y156 z156 st156 hQ156
    subst l156 y156 z156
    obtain ⟨b156, kk156, vs156, rfl, N156q, Kc156, s156, Ex156, V156, hv156⟩ := hQ156
    have ne_b144_b156 : b144 ≠ b156 := Nat.ne_of_lt (Nat.lt_of_lt_of_le Ec148.lt s156)
    have ne_t148_b156 : t148 ≠ b156 := Nat.ne_of_lt (Nat.lt_of_lt_of_le Et148.lt s156)
    have g_b156 : n0 ≤ b156 := Nat.le_trans Z148 s156
    have sz_b156 : h0.size ≤ b156 := Nat.le_trans K148.1 s156
    have E_157 := Ec148.keep Kc156
    have F_158 := FC148.keep Kc156 nin0
    have F_159 := FB148.keep Kc156 nin0
    have F_160 := FL148.keep Kc156 nin0
    have E_161 := Et148.keep Kc156
    have V_162 := V148.keep Kc156 nin0
    have N156 := Fr.app N148 N156q
    have Z156 : n0 ≤ T156.heap.size := Nat.le_trans Z148 Kc156.1
    have K156 : Keep h0 T156.heap [] := K148.trans Kc156 all0
    refine Gl.st (g' := (mkF m 92 #[.val (.int x0), .val (.int x1), .val (.int x2), .val (.int x3), .val (.int x4), .val (.int (x0 &&& (3 : Int32))), .val (.int (0 : Int32)), .val (.int ca), .val (.int cb), .val (.int cc), .val (.ref b144), .unset, .unset, .unset] [(.ref b156)])) (fun τ κ => st156.trans κ) ?_
    refine Gl.st (g' := (mkF m 94 #[.val (.int x0), .val (.int x1), .val (.int x2), .val (.int x3), .val (.int x4), .val (.int (x0 &&& (3 : Int32))), .val (.int (0 : Int32)), .val (.int ca), .val (.int cb), .val (.int cc), .val (.ref b144), .val (.ref b156), .unset, .unset] [])) (fun τ κ => XS.astore X156.here hx rfl (hb hby at_92) rfl rfl (l' := #[.val (.int x0), .val (.int x1), .val (.int x2), .val (.int x3), .val (.int x4), .val (.int (x0 &&& (3 : Int32))), .val (.int (0 : Int32)), .val (.int ca), .val (.int cb), .val (.int cc), .val (.ref b144), .val (.ref b156), .unset, .unset]) rfl κ) ?_
    refine Gl.st (g' := (mkF m 96 #[.val (.int x0), .val (.int x1), .val (.int x2), .val (.int x3), .val (.int x4), .val (.int (x0 &&& (3 : Int32))), .val (.int (0 : Int32)), .val (.int ca), .val (.int cb), .val (.int cc), .val (.ref b144), .val (.ref b156), .unset, .unset] [(.ref b156)])) (fun τ κ => XS.aload X156.here hx rfl (hb hby at_94) rfl rfl κ) ?_
    refine Gl.st (g' := (mkF m 98 #[.val (.int x0), .val (.int x1), .val (.int x2), .val (.int x3), .val (.int x4), .val (.int (x0 &&& (3 : Int32))), .val (.int (0 : Int32)), .val (.int ca), .val (.int cb), .val (.int cc), .val (.ref b144), .val (.ref b156), .unset, .unset] [(.int (0 : Int32)), (.ref b156)])) (fun τ κ => XS.iload X156.here hx rfl (hb hby at_96) rfl κ) ?_
    refine Gl.st (g' := (mkF m 100 #[.val (.int x0), .val (.int x1), .val (.int x2), .val (.int x3), .val (.int x4), .val (.int (x0 &&& (3 : Int32))), .val (.int (0 : Int32)), .val (.int ca), .val (.int cb), .val (.int cc), .val (.ref b144), .val (.ref b156), .unset, .unset] [(.int ca), (.int (0 : Int32)), (.ref b156)])) (fun τ κ => XS.iload X156.here hx rfl (hb hby at_98) rfl κ) ?_
    refine Gl.st (g' := (mkF m 102 #[.val (.int x0), .val (.int x1), .val (.int x2), .val (.int x3), .val (.int x4), .val (.int (x0 &&& (3 : Int32))), .val (.int (0 : Int32)), .val (.int ca), .val (.int cb), .val (.int cc), .val (.ref b144), .val (.ref b156), .unset, .unset] [(.int cb), (.int ca), (.int (0 : Int32)), (.ref b156)])) (fun τ κ => XS.iload X156.here hx rfl (hb hby at_100) rfl κ) ?_
    refine Gl.st (g' := (mkF m 104 #[.val (.int x0), .val (.int x1), .val (.int x2), .val (.int x3), .val (.int x4), .val (.int (x0 &&& (3 : Int32))), .val (.int (0 : Int32)), .val (.int ca), .val (.int cb), .val (.int cc), .val (.ref b144), .val (.ref b156), .unset, .unset] [(.int cc), (.int cb), (.int ca), (.int (0 : Int32)), (.ref b156)])) (fun τ κ => XS.iload X156.here hx rfl (hb hby at_102) rfl κ) ?_
    obtain ⟨rv163, _, ⟨T163, L163, k163, n163⟩, -, X163, ⟨Lc163, hQ163, l163, y163, z163⟩, st163⟩ := Jvm.LawKit.callS X156 hx (y := (⟨"com/example/hermitage/hermitage/frame/JsonTextToBytesPinLaw", "same", "([BICCC)Z"⟩ : MethodName)) hown (mvT hZ (hw _ (List.mem_of_getElem? (i := 45) rfl))) (mvT hZ (hw _ (List.mem_of_getElem? (i := 46) rfl))) (mvT hZ (hw _ (List.mem_of_getElem? (i := 47) rfl))) (mvT hZ (hw _ (List.mem_of_getElem? (i := 48) rfl))) (by decide) (backOf (W := 0) (rm_same0 l Z a0 hw [] b156 ca cb cc kk156 vs156 T156.heap n0 Z156 V156 ) hZ (hw _ (List.mem_of_getElem? (i := 48) rfl)) (hw _ (List.mem_of_getElem? (i := 47) rfl)) (by decide) (by decide)) (g := (mkF m 104 #[.val (.int x0), .val (.int x1), .val (.int x2), .val (.int x3), .val (.int x4), .val (.int (x0 &&& (3 : Int32))), .val (.int (0 : Int32)), .val (.int ca), .val (.int cb), .val (.int cc), .val (.ref b144), .val (.ref b156), .unset, .unset] [(.int cc), (.int cb), (.int ca), (.int (0 : Int32)), (.ref b156)])) rfl (by rw [hml]; rfl) (argsL := [(.ref b156), (.int (0 : Int32)), (.int ca), (.int cb), (.int cc)]) (rest := []) (lenOf pd_4 rfl) rfl (by show 2 * 0 + _ ≤ _; exact Nat.le_of_eq rfl) (hb hby at_104) (fun _ _ => ⟨rfl, rfl, (by decide : 3 + 0 ≤ _), (by decide : 18 + 0 ≤ _)⟩)
    dsimp only [Pt.U, Pt.locs, Pt.cells, Pt.slots] at X163 l163 y163 z163 st163 hQ163
    subst l163 y163 z163
    obtain ⟨rfl, N163q, e163⟩ := hQ163
    have N163 := Fr.app N156 N163q
    refine Gl.st (g' := (mkF m 107 #[.val (.int x0), .val (.int x1), .val (.int x2), .val (.int x3), .val (.int x4), .val (.int (x0 &&& (3 : Int32))), .val (.int (0 : Int32)), .val (.int ca), .val (.int cb), .val (.int cc), .val (.ref b144), .val (.ref b156), .unset, .unset] [(.int (1 : Int32))])) (fun τ κ => st163 _ κ) ?_
    have hc164 : ¬ ((1 : Int32) = (0 : Int32)) := by decide
    refine Gl.st (g' := (mkF m 112 #[.val (.int x0), .val (.int x1), .val (.int x2), .val (.int x3), .val (.int x4), .val (.int (x0 &&& (3 : Int32))), .val (.int (0 : Int32)), .val (.int ca), .val (.int cb), .val (.int cc), .val (.ref b144), .val (.ref b156), .unset, .unset] [])) (fun τ κ => XS.ifYes X163.here hx rfl (pc0 := 107) (pc' := 112) rfl (hb hby at_107) rfl ((if0 _ _).trans (feq hc164).2) (by decide) (by decide) κ) ?_
    refine Gl.st (g' := (mkF m 114 #[.val (.int x0), .val (.int x1), .val (.int x2), .val (.int x3), .val (.int x4), .val (.int (x0 &&& (3 : Int32))), .val (.int (0 : Int32)), .val (.int ca), .val (.int cb), .val (.int cc), .val (.ref b144), .val (.ref b156), .unset, .unset] [(.int (0 : Int32))])) (fun τ κ => XS.iload X163.here hx rfl (hb hby at_112) rfl κ) ?_
    have hc165 : ¬ ((0 : Int32) < (0 : Int32)) := by decide
    refine Gl.st (g' := (mkF m 128 #[.val (.int x0), .val (.int x1), .val (.int x2), .val (.int x3), .val (.int x4), .val (.int (x0 &&& (3 : Int32))), .val (.int (0 : Int32)), .val (.int ca), .val (.int cb), .val (.int cc), .val (.ref b144), .val (.ref b156), .unset, .unset] [])) (fun τ κ => XS.ifYes X163.here hx rfl (pc0 := 114) (pc' := 128) rfl (hb hby at_114) rfl ((if0 _ _).trans (flt hc165).2.2.2) (by decide) (by decide) κ) ?_
    refine Gl.st (g' := (mkF m 130 #[.val (.int x0), .val (.int x1), .val (.int x2), .val (.int x3), .val (.int x4), .val (.int (x0 &&& (3 : Int32))), .val (.int (0 : Int32)), .val (.int ca), .val (.int cb), .val (.int cc), .val (.ref b144), .val (.ref b156), .unset, .unset] [(.ref b144)])) (fun τ κ => XS.aload X163.here hx rfl (hb hby at_128) rfl rfl κ) ?_
    obtain ⟨cq166, kq166, q166a, q166b, q166c⟩ := isOf hZ e163 E_157
    obtain ⟨rv166, _, ⟨T166, L166, k166, n166⟩, -, X166, ⟨Lc166, hQ166, l166, y166, z166⟩, st166⟩ := X163.virtualBack hx (y := (⟨"com/example/hermitage/hermitage/frame/JsonText", "toBytes", "()[B"⟩ : MethodName)) (z := (⟨"com/example/hermitage/hermitage/frame/JsonText", "toBytes", "()[B"⟩ : MethodName)) hown (mvT hZ (hw _ (List.mem_of_getElem? (i := 40) rfl))) (mvT hZ (hw _ (List.mem_of_getElem? (i := 41) rfl))) (notFace_of_selects (args := #[]) (mvT hZ (hw _ (List.mem_of_getElem? (i := 43) rfl)))) (mvT hZ (hw _ (List.mem_of_getElem? (i := 43) rfl))) (mvT hZ (hw _ (List.mem_of_getElem? (i := 42) rfl))) (by decide) (backOf (W := 0) (rm8 l Z a0 hw [] b144 t148 kk148 (x0 &&& (3 : Int32)) (0 : Int32) (x0 &&& (3 : Int32)) [] T156.heap n0 Z156 E_157 g_b144 F_158 F_159 F_160 E_161 g_t148 V_162 ne_b144_t148 (by decide) (own_p3 x0).1 (own_p3 x0).2.2 (by decide)) hZ (hw _ (List.mem_of_getElem? (i := 44) rfl)) (hw _ (List.mem_of_getElem? (i := 2) rfl)) (by decide) (by decide)) q166a q166c (g := (mkF m 130 #[.val (.int x0), .val (.int x1), .val (.int x2), .val (.int x3), .val (.int x4), .val (.int (x0 &&& (3 : Int32))), .val (.int (0 : Int32)), .val (.int ca), .val (.int cb), .val (.int cc), .val (.ref b144), .val (.ref b156), .unset, .unset] [(.ref b144)])) rfl (by rw [hml]; rfl) (Steps.refl _) (argsL := []) (rest := []) (lenOf pd_3 rfl) rfl (by show 2 * 0 + _ ≤ _; exact Nat.le_of_eq rfl) (hb hby at_130) (fun _ _ => ⟨rfl, e163, (by decide : 3 + 1 ≤ _), (by decide : 18 + 8 ≤ _)⟩)
    dsimp only [Pt.U, Pt.locs, Pt.cells, Pt.slots] at X166 l166 y166 z166 st166 hQ166
    subst l166 y166 z166
    obtain ⟨b166, kk166, vs166, rfl, N166q, Kc166, s166, Ex166, V166, hv166⟩ := hQ166
    have ne_b144_b166 : b144 ≠ b166 := Nat.ne_of_lt (Nat.lt_of_lt_of_le E_157.lt s166)
    have ne_t148_b166 : t148 ≠ b166 := Nat.ne_of_lt (Nat.lt_of_lt_of_le E_161.lt s166)
    have ne_b156_b166 : b156 ≠ b166 := Nat.ne_of_lt (Nat.lt_of_lt_of_le Ex156.lt s166)
    have g_b166 : n0 ≤ b166 := Nat.le_trans Z156 s166
    have sz_b166 : h0.size ≤ b166 := Nat.le_trans K156.1 s166
    have E_167 := E_157.keep Kc166
    have F_168 := F_158.keep Kc166 nin0
    have F_169 := F_159.keep Kc166 nin0
    have F_170 := F_160.keep Kc166 nin0
    have E_171 := E_161.keep Kc166
    have V_172 := V_162.keep Kc166 nin0
    have E_173 := Ex156.keep Kc166
    have V_174 := V156.keep Kc166 nin0
    have N166 := Fr.app N163 N166q
    have Z166 : n0 ≤ T166.heap.size := Nat.le_trans Z156 Kc166.1
    have K166 : Keep h0 T166.heap [] := K156.trans Kc166 all0
    refine Gl.st (g' := (mkF m 133 #[.val (.int x0), .val (.int x1), .val (.int x2), .val (.int x3), .val (.int x4), .val (.int (x0 &&& (3 : Int32))), .val (.int (0 : Int32)), .val (.int ca), .val (.int cb), .val (.int cc), .val (.ref b144), .val (.ref b156), .unset, .unset] [(.ref b166)])) (fun τ κ => st166.trans κ) ?_
    refine Gl.st (g' := (mkF m 135 #[.val (.int x0), .val (.int x1), .val (.int x2), .val (.int x3), .val (.int x4), .val (.int (x0 &&& (3 : Int32))), .val (.int (0 : Int32)), .val (.int ca), .val (.int cb), .val (.int cc), .val (.ref b144), .val (.ref b156), .val (.ref b166), .unset] [])) (fun τ κ => XS.astore X166.here hx rfl (hb hby at_133) rfl rfl (l' := #[.val (.int x0), .val (.int x1), .val (.int x2), .val (.int x3), .val (.int x4), .val (.int (x0 &&& (3 : Int32))), .val (.int (0 : Int32)), .val (.int ca), .val (.int cb), .val (.int cc), .val (.ref b144), .val (.ref b156), .val (.ref b166), .unset]) rfl κ) ?_
    refine Gl.st (g' := (mkF m 137 #[.val (.int x0), .val (.int x1), .val (.int x2), .val (.int x3), .val (.int x4), .val (.int (x0 &&& (3 : Int32))), .val (.int (0 : Int32)), .val (.int ca), .val (.int cb), .val (.int cc), .val (.ref b144), .val (.ref b156), .val (.ref b166), .unset] [(.ref b166)])) (fun τ κ => XS.aload X166.here hx rfl (hb hby at_135) rfl rfl κ) ?_
    refine Gl.st (g' := (mkF m 139 #[.val (.int x0), .val (.int x1), .val (.int x2), .val (.int x3), .val (.int x4), .val (.int (x0 &&& (3 : Int32))), .val (.int (0 : Int32)), .val (.int ca), .val (.int cb), .val (.int cc), .val (.ref b144), .val (.ref b156), .val (.ref b166), .unset] [(.ref b156), (.ref b166)])) (fun τ κ => XS.aload X166.here hx rfl (hb hby at_137) rfl rfl κ) ?_
    refine Gl.st (g' := (mkF m 144 #[.val (.int x0), .val (.int x1), .val (.int x2), .val (.int x3), .val (.int x4), .val (.int (x0 &&& (3 : Int32))), .val (.int (0 : Int32)), .val (.int ca), .val (.int cb), .val (.int cc), .val (.ref b144), .val (.ref b156), .val (.ref b166), .unset] [])) (fun τ κ => Jvm.RoadKit.acmp (g := (mkF m 139 #[.val (.int x0), .val (.int x1), .val (.int x2), .val (.int x3), .val (.int x4), .val (.int (x0 &&& (3 : Int32))), .val (.int (0 : Int32)), .val (.int ca), .val (.int cb), .val (.int cc), .val (.ref b144), .val (.ref b156), .val (.ref b166), .unset] [(.ref b156), (.ref b166)])) X166 hx rfl rfl rfl (pc0 := 139) (pc' := 144) (same := false) rfl (hb hby at_139) rfl (decide_eq_false fun q => (Ne.symm ne_b156_b166) (Value.ref.inj q)) (by decide) (by decide) κ) ?_
    refine Gl.st (g' := (mkF m 146 #[.val (.int x0), .val (.int x1), .val (.int x2), .val (.int x3), .val (.int x4), .val (.int (x0 &&& (3 : Int32))), .val (.int (0 : Int32)), .val (.int ca), .val (.int cb), .val (.int cc), .val (.ref b144), .val (.ref b156), .val (.ref b166), .unset] [(.ref b166)])) (fun τ κ => XS.aload X166.here hx rfl (hb hby at_144) rfl rfl κ) ?_
    refine Gl.st (g' := (mkF m 148 #[.val (.int x0), .val (.int x1), .val (.int x2), .val (.int x3), .val (.int x4), .val (.int (x0 &&& (3 : Int32))), .val (.int (0 : Int32)), .val (.int ca), .val (.int cb), .val (.int cc), .val (.ref b144), .val (.ref b156), .val (.ref b166), .unset] [(.int (0 : Int32)), (.ref b166)])) (fun τ κ => XS.iload X166.here hx rfl (hb hby at_146) rfl κ) ?_
    refine Gl.st (g' := (mkF m 150 #[.val (.int x0), .val (.int x1), .val (.int x2), .val (.int x3), .val (.int x4), .val (.int (x0 &&& (3 : Int32))), .val (.int (0 : Int32)), .val (.int ca), .val (.int cb), .val (.int cc), .val (.ref b144), .val (.ref b156), .val (.ref b166), .unset] [(.int ca), (.int (0 : Int32)), (.ref b166)])) (fun τ κ => XS.iload X166.here hx rfl (hb hby at_148) rfl κ) ?_
    refine Gl.st (g' := (mkF m 152 #[.val (.int x0), .val (.int x1), .val (.int x2), .val (.int x3), .val (.int x4), .val (.int (x0 &&& (3 : Int32))), .val (.int (0 : Int32)), .val (.int ca), .val (.int cb), .val (.int cc), .val (.ref b144), .val (.ref b156), .val (.ref b166), .unset] [(.int cb), (.int ca), (.int (0 : Int32)), (.ref b166)])) (fun τ κ => XS.iload X166.here hx rfl (hb hby at_150) rfl κ) ?_
    refine Gl.st (g' := (mkF m 154 #[.val (.int x0), .val (.int x1), .val (.int x2), .val (.int x3), .val (.int x4), .val (.int (x0 &&& (3 : Int32))), .val (.int (0 : Int32)), .val (.int ca), .val (.int cb), .val (.int cc), .val (.ref b144), .val (.ref b156), .val (.ref b166), .unset] [(.int cc), (.int cb), (.int ca), (.int (0 : Int32)), (.ref b166)])) (fun τ κ => XS.iload X166.here hx rfl (hb hby at_152) rfl κ) ?_
    obtain ⟨rv175, _, ⟨T175, L175, k175, n175⟩, -, X175, ⟨Lc175, hQ175, l175, y175, z175⟩, st175⟩ := Jvm.LawKit.callS X166 hx (y := (⟨"com/example/hermitage/hermitage/frame/JsonTextToBytesPinLaw", "same", "([BICCC)Z"⟩ : MethodName)) hown (mvT hZ (hw _ (List.mem_of_getElem? (i := 45) rfl))) (mvT hZ (hw _ (List.mem_of_getElem? (i := 46) rfl))) (mvT hZ (hw _ (List.mem_of_getElem? (i := 47) rfl))) (mvT hZ (hw _ (List.mem_of_getElem? (i := 48) rfl))) (by decide) (backOf (W := 0) (rm_same0 l Z a0 hw [] b166 ca cb cc kk166 vs166 T166.heap n0 Z166 V166 ) hZ (hw _ (List.mem_of_getElem? (i := 48) rfl)) (hw _ (List.mem_of_getElem? (i := 47) rfl)) (by decide) (by decide)) (g := (mkF m 154 #[.val (.int x0), .val (.int x1), .val (.int x2), .val (.int x3), .val (.int x4), .val (.int (x0 &&& (3 : Int32))), .val (.int (0 : Int32)), .val (.int ca), .val (.int cb), .val (.int cc), .val (.ref b144), .val (.ref b156), .val (.ref b166), .unset] [(.int cc), (.int cb), (.int ca), (.int (0 : Int32)), (.ref b166)])) rfl (by rw [hml]; rfl) (argsL := [(.ref b166), (.int (0 : Int32)), (.int ca), (.int cb), (.int cc)]) (rest := []) (lenOf pd_4 rfl) rfl (by show 2 * 0 + _ ≤ _; exact Nat.le_of_eq rfl) (hb hby at_154) (fun _ _ => ⟨rfl, rfl, (by decide : 4 + 0 ≤ _), (by decide : 26 + 0 ≤ _)⟩)
    dsimp only [Pt.U, Pt.locs, Pt.cells, Pt.slots] at X175 l175 y175 z175 st175 hQ175
    subst l175 y175 z175
    obtain ⟨rfl, N175q, e175⟩ := hQ175
    have N175 := Fr.app N166 N175q
    refine Gl.st (g' := (mkF m 157 #[.val (.int x0), .val (.int x1), .val (.int x2), .val (.int x3), .val (.int x4), .val (.int (x0 &&& (3 : Int32))), .val (.int (0 : Int32)), .val (.int ca), .val (.int cb), .val (.int cc), .val (.ref b144), .val (.ref b156), .val (.ref b166), .unset] [(.int (1 : Int32))])) (fun τ κ => st175 _ κ) ?_
    have hc176 : ¬ ((1 : Int32) = (0 : Int32)) := by decide
    refine Gl.st (g' := (mkF m 162 #[.val (.int x0), .val (.int x1), .val (.int x2), .val (.int x3), .val (.int x4), .val (.int (x0 &&& (3 : Int32))), .val (.int (0 : Int32)), .val (.int ca), .val (.int cb), .val (.int cc), .val (.ref b144), .val (.ref b156), .val (.ref b166), .unset] [])) (fun τ κ => XS.ifYes X175.here hx rfl (pc0 := 157) (pc' := 162) rfl (hb hby at_157) rfl ((if0 _ _).trans (feq hc176).2) (by decide) (by decide) κ) ?_
    refine Gl.st (g' := (mkF m 164 #[.val (.int x0), .val (.int x1), .val (.int x2), .val (.int x3), .val (.int x4), .val (.int (x0 &&& (3 : Int32))), .val (.int (0 : Int32)), .val (.int ca), .val (.int cb), .val (.int cc), .val (.ref b144), .val (.ref b156), .val (.ref b166), .unset] [(.ref b144)])) (fun τ κ => XS.aload X175.here hx rfl (hb hby at_162) rfl rfl κ) ?_
    obtain ⟨cq177, kq177, q177a, q177b, q177c⟩ := isOf hZ e175 E_167
    obtain ⟨rv177, _, ⟨T177, L177, k177, n177⟩, -, X177, ⟨Lc177, hQ177, l177, y177, z177⟩, st177⟩ := X175.virtualBack hx (y := (⟨"com/example/hermitage/hermitage/frame/JsonText", "clear", "()Lcom/example/hermitage/hermitage/frame/JsonText;"⟩ : MethodName)) (z := (⟨"com/example/hermitage/hermitage/frame/JsonText", "clear", "()Lcom/example/hermitage/hermitage/frame/JsonText;"⟩ : MethodName)) hown (mvT hZ (hw _ (List.mem_of_getElem? (i := 49) rfl))) (mvT hZ (hw _ (List.mem_of_getElem? (i := 50) rfl))) (notFace_of_selects (args := #[]) (mvT hZ (hw _ (List.mem_of_getElem? (i := 52) rfl)))) (mvT hZ (hw _ (List.mem_of_getElem? (i := 52) rfl))) (mvT hZ (hw _ (List.mem_of_getElem? (i := 51) rfl))) (by decide) (backOf (W := 0) (rm10 l Z a0 hw [] b144 t148 kk148 (x0 &&& (3 : Int32)) (0 : Int32) (x0 &&& (3 : Int32)) [] T166.heap n0 Z166 E_167 g_b144 F_168 F_169 F_170 E_171 g_t148 V_172 ne_b144_t148 (by decide) (own_p3 x0).1 (own_p3 x0).2.2) hZ (hw _ (List.mem_of_getElem? (i := 53) rfl)) (hw _ (List.mem_of_getElem? (i := 2) rfl)) (by decide) (by decide)) q177a q177c (g := (mkF m 164 #[.val (.int x0), .val (.int x1), .val (.int x2), .val (.int x3), .val (.int x4), .val (.int (x0 &&& (3 : Int32))), .val (.int (0 : Int32)), .val (.int ca), .val (.int cb), .val (.int cc), .val (.ref b144), .val (.ref b156), .val (.ref b166), .unset] [(.ref b144)])) rfl (by rw [hml]; rfl) (Steps.refl _) (argsL := []) (rest := []) (lenOf pd_5 rfl) rfl (by show 2 * 0 + _ ≤ _; exact Nat.le_of_eq rfl) (hb hby at_164) (fun _ _ => ⟨rfl, e175, (by decide : 4 + 0 ≤ _), (by decide : 26 + 0 ≤ _)⟩)
    dsimp only [Pt.U, Pt.locs, Pt.cells, Pt.slots] at X177 l177 y177 z177 st177 hQ177
    subst l177 y177 z177
    obtain ⟨rfl, N177q, Kc177, Ec177, FC177, FB177, FL177⟩ := hQ177
    have E_178 := E_167.keep Kc177
    have E_182 := E_171.keep Kc177
    have V_183 := V_172.keep Kc177 (ninS (Ne.symm ne_b144_t148) nin0)
    have E_184 := E_173.keep Kc177
    have V_185 := V_174.keep Kc177 (ninS (Ne.symm ne_b144_b156) nin0)
    have E_186 := Ex166.keep Kc177
    have V_187 := V166.keep Kc177 (ninS (Ne.symm ne_b144_b166) nin0)
    have N177 := Fr.app N175 N177q
    have Z177 : n0 ≤ T177.heap.size := Nat.le_trans Z166 Kc177.1
    have K177 : Keep h0 T177.heap [] := K166.trans Kc177 (allS (Or.inr sz_b144) all0)
    refine Gl.st (g' := (mkF m 167 #[.val (.int x0), .val (.int x1), .val (.int x2), .val (.int x3), .val (.int x4), .val (.int (x0 &&& (3 : Int32))), .val (.int (0 : Int32)), .val (.int ca), .val (.int cb), .val (.int cc), .val (.ref b144), .val (.ref b156), .val (.ref b166), .unset] [(.ref b144)])) (fun τ κ => st177.trans κ) ?_
    refine Gl.st (g' := (mkF m 168 #[.val (.int x0), .val (.int x1), .val (.int x2), .val (.int x3), .val (.int x4), .val (.int (x0 &&& (3 : Int32))), .val (.int (0 : Int32)), .val (.int ca), .val (.int cb), .val (.int cc), .val (.ref b144), .val (.ref b156), .val (.ref b166), .unset] [])) (fun τ κ => XS.pop X177.here hx rfl (hb hby at_167) rfl rfl κ) ?_
    refine Gl.st (g' := (mkF m 170 #[.val (.int x0), .val (.int x1), .val (.int x2), .val (.int x3), .val (.int x4), .val (.int (x0 &&& (3 : Int32))), .val (.int (0 : Int32)), .val (.int ca), .val (.int cb), .val (.int cc), .val (.ref b144), .val (.ref b156), .val (.ref b166), .unset] [(.ref b144)])) (fun τ κ => XS.aload X177.here hx rfl (hb hby at_168) rfl rfl κ) ?_
    obtain ⟨cq188, kq188, q188a, q188b, q188c⟩ := isOf hZ rfl Ec177
    obtain ⟨rv188, _, ⟨T188, L188, k188, n188⟩, -, X188, ⟨Lc188, hQ188, l188, y188, z188⟩, st188⟩ := X177.virtualBack hx (y := (⟨"com/example/hermitage/hermitage/frame/JsonText", "toBytes", "()[B"⟩ : MethodName)) (z := (⟨"com/example/hermitage/hermitage/frame/JsonText", "toBytes", "()[B"⟩ : MethodName)) hown (mvT hZ (hw _ (List.mem_of_getElem? (i := 40) rfl))) (mvT hZ (hw _ (List.mem_of_getElem? (i := 41) rfl))) (notFace_of_selects (args := #[]) (mvT hZ (hw _ (List.mem_of_getElem? (i := 43) rfl)))) (mvT hZ (hw _ (List.mem_of_getElem? (i := 43) rfl))) (mvT hZ (hw _ (List.mem_of_getElem? (i := 42) rfl))) (by decide) (backOf (W := 0) (rm8 l Z a0 hw [] b144 t148 kk148 (x0 &&& (3 : Int32)) (0 : Int32) (x0 &&& (3 : Int32)) [] T177.heap n0 Z177 Ec177 g_b144 FC177 FB177 FL177 E_182 g_t148 V_183 ne_b144_t148 (by decide) (own_zn (n := (0 : Int32)) (by decide) (own_p3 x0).1) (own_p3 x0).2.2 (by decide)) hZ (hw _ (List.mem_of_getElem? (i := 44) rfl)) (hw _ (List.mem_of_getElem? (i := 2) rfl)) (by decide) (by decide)) q188a q188c (g := (mkF m 170 #[.val (.int x0), .val (.int x1), .val (.int x2), .val (.int x3), .val (.int x4), .val (.int (x0 &&& (3 : Int32))), .val (.int (0 : Int32)), .val (.int ca), .val (.int cb), .val (.int cc), .val (.ref b144), .val (.ref b156), .val (.ref b166), .unset] [(.ref b144)])) rfl (by rw [hml]; rfl) (Steps.refl _) (argsL := []) (rest := []) (lenOf pd_3 rfl) rfl (by show 2 * 0 + _ ≤ _; exact Nat.le_of_eq rfl) (hb hby at_170) (fun _ _ => ⟨rfl, rfl, (by decide : 4 + 1 ≤ _), (by decide : 26 + 8 ≤ _)⟩)
    dsimp only [Pt.U, Pt.locs, Pt.cells, Pt.slots] at X188 l188 y188 z188 st188 hQ188
    subst l188 y188 z188
    obtain ⟨b188, kk188, vs188, rfl, N188q, Kc188, s188, Ex188, V188, hv188⟩ := hQ188
    have ne_b144_b188 : b144 ≠ b188 := Nat.ne_of_lt (Nat.lt_of_lt_of_le Ec177.lt s188)
    have ne_t148_b188 : t148 ≠ b188 := Nat.ne_of_lt (Nat.lt_of_lt_of_le E_182.lt s188)
    have ne_b156_b188 : b156 ≠ b188 := Nat.ne_of_lt (Nat.lt_of_lt_of_le E_184.lt s188)
    have ne_b166_b188 : b166 ≠ b188 := Nat.ne_of_lt (Nat.lt_of_lt_of_le E_186.lt s188)
    have g_b188 : n0 ≤ b188 := Nat.le_trans Z177 s188
    have sz_b188 : h0.size ≤ b188 := Nat.le_trans K177.1 s188
    have E_189 := Ec177.keep Kc188
    have E_190 := E_182.keep Kc188
    have V_191 := V_183.keep Kc188 nin0
    have E_192 := E_184.keep Kc188
    have V_193 := V_185.keep Kc188 nin0
    have E_194 := E_186.keep Kc188
    have V_195 := V_187.keep Kc188 nin0
    have F_196 := FC177.keep Kc188 nin0
    have F_197 := FB177.keep Kc188 nin0
    have F_198 := FL177.keep Kc188 nin0
    have N188 := Fr.app N177 N188q
    have Z188 : n0 ≤ T188.heap.size := Nat.le_trans Z177 Kc188.1
    have K188 : Keep h0 T188.heap [] := K177.trans Kc188 all0
    refine Gl.st (g' := (mkF m 173 #[.val (.int x0), .val (.int x1), .val (.int x2), .val (.int x3), .val (.int x4), .val (.int (x0 &&& (3 : Int32))), .val (.int (0 : Int32)), .val (.int ca), .val (.int cb), .val (.int cc), .val (.ref b144), .val (.ref b156), .val (.ref b166), .unset] [(.ref b188)])) (fun τ κ => st188.trans κ) ?_
    refine Gl.st (g' := (mkF m 175 #[.val (.int x0), .val (.int x1), .val (.int x2), .val (.int x3), .val (.int x4), .val (.int (x0 &&& (3 : Int32))), .val (.int (0 : Int32)), .val (.int ca), .val (.int cb), .val (.int cc), .val (.ref b144), .val (.ref b156), .val (.ref b166), .val (.ref b188)] [])) (fun τ κ => XS.astore X188.here hx rfl (hb hby at_173) rfl rfl (l' := #[.val (.int x0), .val (.int x1), .val (.int x2), .val (.int x3), .val (.int x4), .val (.int (x0 &&& (3 : Int32))), .val (.int (0 : Int32)), .val (.int ca), .val (.int cb), .val (.int cc), .val (.ref b144), .val (.ref b156), .val (.ref b166), .val (.ref b188)]) rfl κ) ?_
    refine Gl.st (g' := (mkF m 177 #[.val (.int x0), .val (.int x1), .val (.int x2), .val (.int x3), .val (.int x4), .val (.int (x0 &&& (3 : Int32))), .val (.int (0 : Int32)), .val (.int ca), .val (.int cb), .val (.int cc), .val (.ref b144), .val (.ref b156), .val (.ref b166), .val (.ref b188)] [(.ref b188)])) (fun τ κ => XS.aload X188.here hx rfl (hb hby at_175) rfl rfl κ) ?_
    obtain ⟨cl_o199, Ar_o199, q_o199, S_o199, M_o199, H_o199, G_o199⟩ := id V188
    refine Gl.st (g' := (mkF m 178 #[.val (.int x0), .val (.int x1), .val (.int x2), .val (.int x3), .val (.int x4), .val (.int (x0 &&& (3 : Int32))), .val (.int (0 : Int32)), .val (.int ca), .val (.int cb), .val (.int cc), .val (.ref b144), .val (.ref b156), .val (.ref b166), .val (.ref b188)] [(.int (0 : Int32))])) (fun τ κ => X188.arraylength hx Ar_o199.1 (State.isArrayOf_alike hZ.alike Ar_o199.2.1) (g := (mkF m 177 #[.val (.int x0), .val (.int x1), .val (.int x2), .val (.int x3), .val (.int x4), .val (.int (x0 &&& (3 : Int32))), .val (.int (0 : Int32)), .val (.int ca), .val (.int cb), .val (.int cc), .val (.ref b144), .val (.ref b156), .val (.ref b166), .val (.ref b188)] [(.ref b188)])) rfl rfl (hb hby at_177) _ (by rw [len_of S_o199 M_o199]; exact κ)) ?_
    have hc200 : (0 : Int32) = (0 : Int32) := by decide
    refine Gl.st (g' := (mkF m 181 #[.val (.int x0), .val (.int x1), .val (.int x2), .val (.int x3), .val (.int x4), .val (.int (x0 &&& (3 : Int32))), .val (.int (0 : Int32)), .val (.int ca), .val (.int cb), .val (.int cc), .val (.ref b144), .val (.ref b156), .val (.ref b166), .val (.ref b188)] [])) (fun τ κ => XS.ifNo X188.here hx rfl (hb hby at_178) rfl ((if0 _ _).trans (teq hc200).2) κ) ?_
    refine Gl.st (g' := (mkF m 182 #[.val (.int x0), .val (.int x1), .val (.int x2), .val (.int x3), .val (.int x4), .val (.int (x0 &&& (3 : Int32))), .val (.int (0 : Int32)), .val (.int ca), .val (.int cb), .val (.int cc), .val (.ref b144), .val (.ref b156), .val (.ref b166), .val (.ref b188)] [(.int (1 : Int32))])) (fun τ κ => XS.iconst X188.here hx rfl (hb hby at_181) κ) ?_
    refine Gl.st (g' := (mkF m 186 #[.val (.int x0), .val (.int x1), .val (.int x2), .val (.int x3), .val (.int x4), .val (.int (x0 &&& (3 : Int32))), .val (.int (0 : Int32)), .val (.int ca), .val (.int cb), .val (.int cc), .val (.ref b144), .val (.ref b156), .val (.ref b166), .val (.ref b188)] [(.int (1 : Int32))])) (fun τ κ => XS.goto X188.here hx rfl (pc0 := 182) (pc' := 186) rfl (hb hby at_182) (by decide) (by decide) κ) ?_
    exact Gl.ret (v := some (.int (1 : Int32))) X188 Bd.notSynchronized (fun h => by rw [Bd.returns] at h; cases h) rfl (fun fs hr => retN X188 hx (t := .boolean) Bd.returns (by simp) (hb hby at_186) hr) (by decide) (by decide) ⟨rfl, N188⟩
  · rw [hs143]
    refine Gl.st (g' := (mkF m 10 #[.val (.int x0), .val (.int x1), .val (.int x2), .val (.int x3), .val (.int x4), .val (.int (x0 &&& (3 : Int32))), .val (.int (1 : Int32)), .unset, .unset, .unset, .unset, .unset, .unset, .unset] [])) (fun τ κ => XS.istore X0.here hx rfl (hb hby at_8) rfl (l' := #[.val (.int x0), .val (.int x1), .val (.int x2), .val (.int x3), .val (.int x4), .val (.int (x0 &&& (3 : Int32))), .val (.int (1 : Int32)), .unset, .unset, .unset, .unset, .unset, .unset, .unset]) rfl κ) ?_
    refine Gl.st (g' := (mkF m 11 #[.val (.int x0), .val (.int x1), .val (.int x2), .val (.int x3), .val (.int x4), .val (.int (x0 &&& (3 : Int32))), .val (.int (1 : Int32)), .unset, .unset, .unset, .unset, .unset, .unset, .unset] [(.int x2)])) (fun τ κ => XS.iloadN X0.here hx rfl (hb hby at_10) rfl κ) ?_
    refine Gl.st (g' := (mkF m 14 #[.val (.int x0), .val (.int x1), .val (.int x2), .val (.int x3), .val (.int x4), .val (.int (x0 &&& (3 : Int32))), .val (.int (1 : Int32)), .unset, .unset, .unset, .unset, .unset, .unset, .unset] [(.int (255 : Int32)), (.int x2)])) (fun τ κ => XS.sipush X0.here hx rfl (hb hby at_11) κ) ?_
    refine Gl.st (g' := (mkF m 15 #[.val (.int x0), .val (.int x1), .val (.int x2), .val (.int x3), .val (.int x4), .val (.int (x0 &&& (3 : Int32))), .val (.int (1 : Int32)), .unset, .unset, .unset, .unset, .unset, .unset, .unset] [(.int (x2 &&& (255 : Int32)))])) (fun τ κ => XS.iand X0.here hx rfl (hb hby at_14) rfl κ) ?_
    refine Gl.st (g' := (mkF m 16 #[.val (.int x0), .val (.int x1), .val (.int x2), .val (.int x3), .val (.int x4), .val (.int (x0 &&& (3 : Int32))), .val (.int (1 : Int32)), .unset, .unset, .unset, .unset, .unset, .unset, .unset] [(.int ((x2 &&& (255 : Int32)).toUInt32.toUInt16.toUInt32.toInt32))])) (fun τ κ => XS.i2c X0.here hx rfl (hb hby at_15) rfl κ) ?_
    generalize ((x2 &&& (255 : Int32)).toUInt32.toUInt16.toUInt32.toInt32) = ca
    refine Gl.st (g' := (mkF m 18 #[.val (.int x0), .val (.int x1), .val (.int x2), .val (.int x3), .val (.int x4), .val (.int (x0 &&& (3 : Int32))), .val (.int (1 : Int32)), .val (.int ca), .unset, .unset, .unset, .unset, .unset, .unset] [])) (fun τ κ => XS.istore X0.here hx rfl (hb hby at_16) rfl (l' := #[.val (.int x0), .val (.int x1), .val (.int x2), .val (.int x3), .val (.int x4), .val (.int (x0 &&& (3 : Int32))), .val (.int (1 : Int32)), .val (.int ca), .unset, .unset, .unset, .unset, .unset, .unset]) rfl κ) ?_
    refine Gl.st (g' := (mkF m 19 #[.val (.int x0), .val (.int x1), .val (.int x2), .val (.int x3), .val (.int x4), .val (.int (x0 &&& (3 : Int32))), .val (.int (1 : Int32)), .val (.int ca), .unset, .unset, .unset, .unset, .unset, .unset] [(.int x3)])) (fun τ κ => XS.iloadN X0.here hx rfl (hb hby at_18) rfl κ) ?_
    refine Gl.st (g' := (mkF m 22 #[.val (.int x0), .val (.int x1), .val (.int x2), .val (.int x3), .val (.int x4), .val (.int (x0 &&& (3 : Int32))), .val (.int (1 : Int32)), .val (.int ca), .unset, .unset, .unset, .unset, .unset, .unset] [(.int (255 : Int32)), (.int x3)])) (fun τ κ => XS.sipush X0.here hx rfl (hb hby at_19) κ) ?_
    refine Gl.st (g' := (mkF m 23 #[.val (.int x0), .val (.int x1), .val (.int x2), .val (.int x3), .val (.int x4), .val (.int (x0 &&& (3 : Int32))), .val (.int (1 : Int32)), .val (.int ca), .unset, .unset, .unset, .unset, .unset, .unset] [(.int (x3 &&& (255 : Int32)))])) (fun τ κ => XS.iand X0.here hx rfl (hb hby at_22) rfl κ) ?_
    refine Gl.st (g' := (mkF m 24 #[.val (.int x0), .val (.int x1), .val (.int x2), .val (.int x3), .val (.int x4), .val (.int (x0 &&& (3 : Int32))), .val (.int (1 : Int32)), .val (.int ca), .unset, .unset, .unset, .unset, .unset, .unset] [(.int ((x3 &&& (255 : Int32)).toUInt32.toUInt16.toUInt32.toInt32))])) (fun τ κ => XS.i2c X0.here hx rfl (hb hby at_23) rfl κ) ?_
    generalize ((x3 &&& (255 : Int32)).toUInt32.toUInt16.toUInt32.toInt32) = cb
    refine Gl.st (g' := (mkF m 26 #[.val (.int x0), .val (.int x1), .val (.int x2), .val (.int x3), .val (.int x4), .val (.int (x0 &&& (3 : Int32))), .val (.int (1 : Int32)), .val (.int ca), .val (.int cb), .unset, .unset, .unset, .unset, .unset] [])) (fun τ κ => XS.istore X0.here hx rfl (hb hby at_24) rfl (l' := #[.val (.int x0), .val (.int x1), .val (.int x2), .val (.int x3), .val (.int x4), .val (.int (x0 &&& (3 : Int32))), .val (.int (1 : Int32)), .val (.int ca), .val (.int cb), .unset, .unset, .unset, .unset, .unset]) rfl κ) ?_
    refine Gl.st (g' := (mkF m 28 #[.val (.int x0), .val (.int x1), .val (.int x2), .val (.int x3), .val (.int x4), .val (.int (x0 &&& (3 : Int32))), .val (.int (1 : Int32)), .val (.int ca), .val (.int cb), .unset, .unset, .unset, .unset, .unset] [(.int x4)])) (fun τ κ => XS.iload X0.here hx rfl (hb hby at_26) rfl κ) ?_
    refine Gl.st (g' := (mkF m 31 #[.val (.int x0), .val (.int x1), .val (.int x2), .val (.int x3), .val (.int x4), .val (.int (x0 &&& (3 : Int32))), .val (.int (1 : Int32)), .val (.int ca), .val (.int cb), .unset, .unset, .unset, .unset, .unset] [(.int (255 : Int32)), (.int x4)])) (fun τ κ => XS.sipush X0.here hx rfl (hb hby at_28) κ) ?_
    refine Gl.st (g' := (mkF m 32 #[.val (.int x0), .val (.int x1), .val (.int x2), .val (.int x3), .val (.int x4), .val (.int (x0 &&& (3 : Int32))), .val (.int (1 : Int32)), .val (.int ca), .val (.int cb), .unset, .unset, .unset, .unset, .unset] [(.int (x4 &&& (255 : Int32)))])) (fun τ κ => XS.iand X0.here hx rfl (hb hby at_31) rfl κ) ?_
    refine Gl.st (g' := (mkF m 33 #[.val (.int x0), .val (.int x1), .val (.int x2), .val (.int x3), .val (.int x4), .val (.int (x0 &&& (3 : Int32))), .val (.int (1 : Int32)), .val (.int ca), .val (.int cb), .unset, .unset, .unset, .unset, .unset] [(.int ((x4 &&& (255 : Int32)).toUInt32.toUInt16.toUInt32.toInt32))])) (fun τ κ => XS.i2c X0.here hx rfl (hb hby at_32) rfl κ) ?_
    generalize ((x4 &&& (255 : Int32)).toUInt32.toUInt16.toUInt32.toInt32) = cc
    refine Gl.st (g' := (mkF m 35 #[.val (.int x0), .val (.int x1), .val (.int x2), .val (.int x3), .val (.int x4), .val (.int (x0 &&& (3 : Int32))), .val (.int (1 : Int32)), .val (.int ca), .val (.int cb), .val (.int cc), .unset, .unset, .unset, .unset] [])) (fun τ κ => XS.istore X0.here hx rfl (hb hby at_33) rfl (l' := #[.val (.int x0), .val (.int x1), .val (.int x2), .val (.int x3), .val (.int x4), .val (.int (x0 &&& (3 : Int32))), .val (.int (1 : Int32)), .val (.int ca), .val (.int cb), .val (.int cc), .unset, .unset, .unset, .unset]) rfl κ) ?_
    obtain ⟨T201, h201, X201, e201, E201, A201, D201, -, st201⟩ := newO X0 hx hZ hown (hw _ (List.mem_of_getElem? (i := 0) rfl)) (hw _ (List.mem_of_getElem? (i := 1) rfl)) (hw _ (List.mem_of_getElem? (i := 2) rfl)) e0 (g := (mkF m 35 #[.val (.int x0), .val (.int x1), .val (.int x2), .val (.int x3), .val (.int x4), .val (.int (x0 &&& (3 : Int32))), .val (.int (1 : Int32)), .val (.int ca), .val (.int cb), .val (.int cc), .unset, .unset, .unset, .unset] [])) rfl (hb hby at_35) (by decide) (by decide)
    obtain ⟨b201, g201⟩ : ∃ z, z = h0.size := ⟨_, rfl⟩
    rw [← g201] at A201 D201 st201
    have g_b201 : n0 ≤ b201 := Nat.le_trans Z0 (Nat.le_of_eq g201.symm)
    have sz_b201 : h0.size ≤ b201 := Nat.le_trans (Keep.refl h0 []).1 (Nat.le_of_eq g201.symm)
    have Z201 : n0 ≤ h201.size := Nat.le_trans Z0 E201.1
    have K201 : Keep h0 h201 [] := (Keep.refl h0 []).ext E201
    have F_202 : Fld Z h201 b201 "com/example/hermitage/hermitage/frame/JsonText" "capacity" "I" (.int (0 : Int32)) := D201 (Or.inr (hw _ (List.mem_of_getElem? (i := 10) rfl))) (ty := .int) (by decide)
    have F_203 : Fld Z h201 b201 "com/example/hermitage/hermitage/frame/JsonText" "bytes" "[B" .null := D201 (Or.inl (hw _ (List.mem_of_getElem? (i := 13) rfl))) (ty := (.array .byte)) (by decide)
    have F_204 : Fld Z h201 b201 "com/example/hermitage/hermitage/frame/JsonText" "length" "I" (.int (0 : Int32)) := D201 (Or.inl (hw _ (List.mem_of_getElem? (i := 24) rfl))) (ty := .int) (by decide)
    refine Gl.st (g' := (mkF m 38 #[.val (.int x0), .val (.int x1), .val (.int x2), .val (.int x3), .val (.int x4), .val (.int (x0 &&& (3 : Int32))), .val (.int (1 : Int32)), .val (.int ca), .val (.int cb), .val (.int cc), .unset, .unset, .unset, .unset] [(.ref b201)])) (fun τ κ => st201 _ κ) ?_
    refine Gl.st (g' := (mkF m 39 #[.val (.int x0), .val (.int x1), .val (.int x2), .val (.int x3), .val (.int x4), .val (.int (x0 &&& (3 : Int32))), .val (.int (1 : Int32)), .val (.int ca), .val (.int cb), .val (.int cc), .unset, .unset, .unset, .unset] [(.ref b201), (.ref b201)])) (fun τ κ => XS.dup X201.here hx rfl (hb hby at_38) rfl rfl κ) ?_
    refine Gl.st (g' := (mkF m 41 #[.val (.int x0), .val (.int x1), .val (.int x2), .val (.int x3), .val (.int x4), .val (.int (x0 &&& (3 : Int32))), .val (.int (1 : Int32)), .val (.int ca), .val (.int cb), .val (.int cc), .unset, .unset, .unset, .unset] [(.int (x0 &&& (3 : Int32))), (.ref b201), (.ref b201)])) (fun τ κ => XS.iload X201.here hx rfl (hb hby at_39) rfl κ) ?_
    obtain ⟨rv205, _, ⟨T205, L205, k205, n205⟩, -, X205, ⟨Lc205, hQ205, l205, y205, z205⟩, st205⟩ := X201.specialBack hx (y := (⟨"com/example/hermitage/hermitage/frame/JsonText", "<init>", "(I)V"⟩ : MethodName)) rfl hown (mvT hZ (hw _ (List.mem_of_getElem? (i := 3) rfl))) (mvT hZ (hw _ (List.mem_of_getElem? (i := 4) rfl))) (mvT hZ (hw _ (List.mem_of_getElem? (i := 5) rfl))) (by decide) (backOf (W := 1) (rm1 l Z a0 hw [] b201 (x0 &&& (3 : Int32)) h201 n0 Z201 A201 g_b201 F_202 F_203 F_204 (own_p3 x0).1 (own_p3 x0).2.1) hZ (hw _ (List.mem_of_getElem? (i := 5) rfl)) (hw _ (List.mem_of_getElem? (i := 2) rfl)) (by decide) (by decide)) (g := (mkF m 41 #[.val (.int x0), .val (.int x1), .val (.int x2), .val (.int x3), .val (.int x4), .val (.int (x0 &&& (3 : Int32))), .val (.int (1 : Int32)), .val (.int ca), .val (.int cb), .val (.int cc), .unset, .unset, .unset, .unset] [(.int (x0 &&& (3 : Int32))), (.ref b201), (.ref b201)])) rfl (by rw [hml]; rfl) (Steps.refl _) (a := b201) (argsL := [(.int (x0 &&& (3 : Int32)))]) (rest := [(.ref b201)]) (lenOf pd_2 rfl) rfl (by show 2 * 0 + _ ≤ _; exact Nat.le_of_eq rfl) (hb hby at_41) (fun _ _ => ⟨rfl, e201, (by decide : 1 + 1 ≤ _), (by decide : 3 + 7 ≤ _)⟩)
    dsimp only [Pt.U, Pt.locs, Pt.cells, Pt.slots] at X205 l205 y205 z205 st205 hQ205
    subst l205 y205 z205
    obtain ⟨t205, kk205, rfl, N205q, Kc205, Ec205, FC205, FB205, FL205, Et205, V205, s205⟩ := hQ205
    have ne_b201_t205 : b201 ≠ t205 := Nat.ne_of_lt (Nat.lt_of_lt_of_le A201.lt s205)
    have g_t205 : n0 ≤ t205 := Nat.le_trans Z201 s205
    have sz_t205 : h0.size ≤ t205 := Nat.le_trans K201.1 s205
    have E_206 := A201.keep Kc205
    have N205 := Fr.app N0 N205q
    have Z205 : n0 ≤ T205.heap.size := Nat.le_trans Z201 Kc205.1
    have K205 : Keep h0 T205.heap [] := K201.trans Kc205 (allS (Or.inr sz_b201) all0)
    refine Gl.st (g' := (mkF m 44 #[.val (.int x0), .val (.int x1), .val (.int x2), .val (.int x3), .val (.int x4), .val (.int (x0 &&& (3 : Int32))), .val (.int (1 : Int32)), .val (.int ca), .val (.int cb), .val (.int cc), .unset, .unset, .unset, .unset] [(.ref b201)])) (fun τ κ => st205.trans κ) ?_
    refine Gl.st (g' := (mkF m 46 #[.val (.int x0), .val (.int x1), .val (.int x2), .val (.int x3), .val (.int x4), .val (.int (x0 &&& (3 : Int32))), .val (.int (1 : Int32)), .val (.int ca), .val (.int cb), .val (.int cc), .val (.ref b201), .unset, .unset, .unset] [])) (fun τ κ => XS.astore X205.here hx rfl (hb hby at_44) rfl rfl (l' := #[.val (.int x0), .val (.int x1), .val (.int x2), .val (.int x3), .val (.int x4), .val (.int (x0 &&& (3 : Int32))), .val (.int (1 : Int32)), .val (.int ca), .val (.int cb), .val (.int cc), .val (.ref b201), .unset, .unset, .unset]) rfl κ) ?_
    refine Gl.st (g' := (mkF m 48 #[.val (.int x0), .val (.int x1), .val (.int x2), .val (.int x3), .val (.int x4), .val (.int (x0 &&& (3 : Int32))), .val (.int (1 : Int32)), .val (.int ca), .val (.int cb), .val (.int cc), .val (.ref b201), .unset, .unset, .unset] [(.int (1 : Int32))])) (fun τ κ => XS.iload X205.here hx rfl (hb hby at_46) rfl κ) ?_
    have hc210 : (0 : Int32) < (1 : Int32) := by decide
    refine Gl.st (g' := (mkF m 51 #[.val (.int x0), .val (.int x1), .val (.int x2), .val (.int x3), .val (.int x4), .val (.int (x0 &&& (3 : Int32))), .val (.int (1 : Int32)), .val (.int ca), .val (.int cb), .val (.int cc), .val (.ref b201), .unset, .unset, .unset] [])) (fun τ κ => XS.ifNo X205.here hx rfl (hb hby at_48) rfl ((if0 _ _).trans (tlt hc210).2.2.2) κ) ?_
    refine Gl.st (g' := (mkF m 53 #[.val (.int x0), .val (.int x1), .val (.int x2), .val (.int x3), .val (.int x4), .val (.int (x0 &&& (3 : Int32))), .val (.int (1 : Int32)), .val (.int ca), .val (.int cb), .val (.int cc), .val (.ref b201), .unset, .unset, .unset] [(.ref b201)])) (fun τ κ => XS.aload X205.here hx rfl (hb hby at_51) rfl rfl κ) ?_
    refine Gl.st (g' := (mkF m 55 #[.val (.int x0), .val (.int x1), .val (.int x2), .val (.int x3), .val (.int x4), .val (.int (x0 &&& (3 : Int32))), .val (.int (1 : Int32)), .val (.int ca), .val (.int cb), .val (.int cc), .val (.ref b201), .unset, .unset, .unset] [(.int ca), (.ref b201)])) (fun τ κ => XS.iload X205.here hx rfl (hb hby at_53) rfl κ) ?_
    obtain ⟨cq211, kq211, q211a, q211b, q211c⟩ := isOf hZ rfl Ec205
    obtain ⟨rv211, _, ⟨T211, L211, k211, n211⟩, -, X211, ⟨Lc211, hQ211, l211, y211, z211⟩, st211⟩ := X205.virtualBack hx (y := (⟨"com/example/hermitage/hermitage/frame/JsonText", "mark", "(C)Lcom/example/hermitage/hermitage/frame/JsonText;"⟩ : MethodName)) (z := (⟨"com/example/hermitage/hermitage/frame/JsonText", "mark", "(C)Lcom/example/hermitage/hermitage/frame/JsonText;"⟩ : MethodName)) hown (mvT hZ (hw _ (List.mem_of_getElem? (i := 14) rfl))) (mvT hZ (hw _ (List.mem_of_getElem? (i := 15) rfl))) (notFace_of_selects (args := #[]) (mvT hZ (hw _ (List.mem_of_getElem? (i := 17) rfl)))) (mvT hZ (hw _ (List.mem_of_getElem? (i := 17) rfl))) (mvT hZ (hw _ (List.mem_of_getElem? (i := 16) rfl))) (by decide) (backOf (W := 0) (rm3 l Z a0 hw [] b201 ca t205 kk205 (x0 &&& (3 : Int32)) (0 : Int32) (x0 &&& (3 : Int32)) [] T205.heap n0 Z205 Ec205 g_b201 FC205 FB205 FL205 Et205 g_t205 V205 ne_b201_t205 (by decide) (own_p3 x0).1 (own_p3 x0).2.2 (by decide)) hZ (hw _ (List.mem_of_getElem? (i := 18) rfl)) (hw _ (List.mem_of_getElem? (i := 2) rfl)) (by decide) (by decide)) q211a q211c (g := (mkF m 55 #[.val (.int x0), .val (.int x1), .val (.int x2), .val (.int x3), .val (.int x4), .val (.int (x0 &&& (3 : Int32))), .val (.int (1 : Int32)), .val (.int ca), .val (.int cb), .val (.int cc), .val (.ref b201), .unset, .unset, .unset] [(.int ca), (.ref b201)])) rfl (by rw [hml]; rfl) (Steps.refl _) (argsL := [(.int ca)]) (rest := []) (lenOf pd_6 rfl) rfl (by show 2 * 0 + _ ≤ _; exact Nat.le_of_eq rfl) (hb hby at_55) (fun _ _ => ⟨rfl, rfl, (by decide : 2 + 1 ≤ _), (by decide : 10 + 8 ≤ _)⟩)
    dsimp only [Pt.U, Pt.locs, Pt.cells, Pt.slots] at X211 l211 y211 z211 st211 hQ211
    subst l211 y211 z211
    obtain ⟨t211, kk211, z211, vs211, rfl, N211q, Kc211, Ec211, FC211, FB211, FL211, Et211, V211, nz211, z8211, gt211, or211, ne211, hv211, hw211⟩ := hQ211
    have sz_t211 : h0.size ≤ t211 := or211.elim (fun q => by rw [q]; exact sz_t205) (fun q => Nat.le_trans K205.1 q)
    have E_212 := Ec205.keep Kc211
    have E_216 := Et205.keep Kc211
    have N211 := Fr.app N205 N211q
    have Z211 : n0 ≤ T211.heap.size := Nat.le_trans Z205 Kc211.1
    have K211 : Keep h0 T211.heap [] := K205.trans Kc211 (allS (Or.inr sz_b201) (allS (Or.inr sz_t205) all0))
    have FL211 : Fld Z T211.heap b201 "com/example/hermitage/hermitage/frame/JsonText" "length" "I" (.int (1 : Int32)) := FL211
    refine Gl.st (g' := (mkF m 58 #[.val (.int x0), .val (.int x1), .val (.int x2), .val (.int x3), .val (.int x4), .val (.int (x0 &&& (3 : Int32))), .val (.int (1 : Int32)), .val (.int ca), .val (.int cb), .val (.int cc), .val (.ref b201), .unset, .unset, .unset] [(.ref b201)])) (fun τ κ => st211.trans κ) ?_
    refine Gl.st (g' := (mkF m 59 #[.val (.int x0), .val (.int x1), .val (.int x2), .val (.int x3), .val (.int x4), .val (.int (x0 &&& (3 : Int32))), .val (.int (1 : Int32)), .val (.int ca), .val (.int cb), .val (.int cc), .val (.ref b201), .unset, .unset, .unset] [])) (fun τ κ => XS.pop X211.here hx rfl (hb hby at_58) rfl rfl κ) ?_
    refine Gl.st (g' := (mkF m 61 #[.val (.int x0), .val (.int x1), .val (.int x2), .val (.int x3), .val (.int x4), .val (.int (x0 &&& (3 : Int32))), .val (.int (1 : Int32)), .val (.int ca), .val (.int cb), .val (.int cc), .val (.ref b201), .unset, .unset, .unset] [(.int (1 : Int32))])) (fun τ κ => XS.iload X211.here hx rfl (hb hby at_59) rfl κ) ?_
    refine Gl.st (g' := (mkF m 62 #[.val (.int x0), .val (.int x1), .val (.int x2), .val (.int x3), .val (.int x4), .val (.int (x0 &&& (3 : Int32))), .val (.int (1 : Int32)), .val (.int ca), .val (.int cb), .val (.int cc), .val (.ref b201), .unset, .unset, .unset] [(.int (1 : Int32)), (.int (1 : Int32))])) (fun τ κ => XS.iconst X211.here hx rfl (hb hby at_61) κ) ?_
    have hc218 : ¬ ((1 : Int32) < (1 : Int32)) := by decide
    refine Gl.st (g' := (mkF m 73 #[.val (.int x0), .val (.int x1), .val (.int x2), .val (.int x3), .val (.int x4), .val (.int (x0 &&& (3 : Int32))), .val (.int (1 : Int32)), .val (.int ca), .val (.int cb), .val (.int cc), .val (.ref b201), .unset, .unset, .unset] [])) (fun τ κ => XS.icmpYes X211.here hx rfl (pc0 := 62) (pc' := 73) rfl (hb hby at_62) rfl (flt hc218).2.2.2 (by decide) (by decide) κ) ?_
    refine Gl.st (g' := (mkF m 75 #[.val (.int x0), .val (.int x1), .val (.int x2), .val (.int x3), .val (.int x4), .val (.int (x0 &&& (3 : Int32))), .val (.int (1 : Int32)), .val (.int ca), .val (.int cb), .val (.int cc), .val (.ref b201), .unset, .unset, .unset] [(.int (1 : Int32))])) (fun τ κ => XS.iload X211.here hx rfl (hb hby at_73) rfl κ) ?_
    refine Gl.st (g' := (mkF m 76 #[.val (.int x0), .val (.int x1), .val (.int x2), .val (.int x3), .val (.int x4), .val (.int (x0 &&& (3 : Int32))), .val (.int (1 : Int32)), .val (.int ca), .val (.int cb), .val (.int cc), .val (.ref b201), .unset, .unset, .unset] [(.int (2 : Int32)), (.int (1 : Int32))])) (fun τ κ => XS.iconst X211.here hx rfl (hb hby at_75) κ) ?_
    have hc219 : ¬ ((2 : Int32) < (1 : Int32)) := by decide
    refine Gl.st (g' := (mkF m 87 #[.val (.int x0), .val (.int x1), .val (.int x2), .val (.int x3), .val (.int x4), .val (.int (x0 &&& (3 : Int32))), .val (.int (1 : Int32)), .val (.int ca), .val (.int cb), .val (.int cc), .val (.ref b201), .unset, .unset, .unset] [])) (fun τ κ => XS.icmpYes X211.here hx rfl (pc0 := 76) (pc' := 87) rfl (hb hby at_76) rfl (flt hc219).2.2.2 (by decide) (by decide) κ) ?_
    refine Gl.st (g' := (mkF m 89 #[.val (.int x0), .val (.int x1), .val (.int x2), .val (.int x3), .val (.int x4), .val (.int (x0 &&& (3 : Int32))), .val (.int (1 : Int32)), .val (.int ca), .val (.int cb), .val (.int cc), .val (.ref b201), .unset, .unset, .unset] [(.ref b201)])) (fun τ κ => XS.aload X211.here hx rfl (hb hby at_87) rfl rfl κ) ?_
    obtain ⟨cq220, kq220, q220a, q220b, q220c⟩ := isOf hZ rfl Ec211
    obtain ⟨rv220, _, ⟨T220, L220, k220, n220⟩, -, X220, ⟨Lc220, hQ220, l220, y220, z220⟩, st220⟩ := X211.virtualBack hx (y := (⟨"com/example/hermitage/hermitage/frame/JsonText", "toBytes", "()[B"⟩ : MethodName)) (z := (⟨"com/example/hermitage/hermitage/frame/JsonText", "toBytes", "()[B"⟩ : MethodName)) hown (mvT hZ (hw _ (List.mem_of_getElem? (i := 40) rfl))) (mvT hZ (hw _ (List.mem_of_getElem? (i := 41) rfl))) (notFace_of_selects (args := #[]) (mvT hZ (hw _ (List.mem_of_getElem? (i := 43) rfl)))) (mvT hZ (hw _ (List.mem_of_getElem? (i := 43) rfl))) (mvT hZ (hw _ (List.mem_of_getElem? (i := 42) rfl))) (by decide) (backOf (W := 0) (rm8 l Z a0 hw [] b201 t211 kk211 (x0 &&& (3 : Int32)) (1 : Int32) z211 vs211 T211.heap n0 Z211 Ec211 g_b201 FC211 FB211 FL211 Et211 gt211 V211 ne211 (by decide) (own_up nz211 (by decide)) z8211 (by decide)) hZ (hw _ (List.mem_of_getElem? (i := 44) rfl)) (hw _ (List.mem_of_getElem? (i := 2) rfl)) (by decide) (by decide)) q220a q220c (g := (mkF m 89 #[.val (.int x0), .val (.int x1), .val (.int x2), .val (.int x3), .val (.int x4), .val (.int (x0 &&& (3 : Int32))), .val (.int (1 : Int32)), .val (.int ca), .val (.int cb), .val (.int cc), .val (.ref b201), .unset, .unset, .unset] [(.ref b201)])) rfl (by rw [hml]; rfl) (Steps.refl _) (argsL := []) (rest := []) (lenOf pd_3 rfl) rfl (by show 2 * 0 + _ ≤ _; exact Nat.le_of_eq rfl) (hb hby at_89) (fun _ _ => ⟨rfl, rfl, (by decide : 3 + 1 ≤ _), (by decide : 18 + 8 ≤ _)⟩)
    dsimp only [Pt.U, Pt.locs, Pt.cells, Pt.slots] at X220 l220 y220 z220 st220 hQ220
    subst l220 y220 z220
    obtain ⟨b220, kk220, vs220, rfl, N220q, Kc220, s220, Ex220, V220, hv220⟩ := hQ220
    have ne_b201_b220 : b201 ≠ b220 := Nat.ne_of_lt (Nat.lt_of_lt_of_le Ec211.lt s220)
    have ne_t211_b220 : t211 ≠ b220 := Nat.ne_of_lt (Nat.lt_of_lt_of_le Et211.lt s220)
    have g_b220 : n0 ≤ b220 := Nat.le_trans Z211 s220
    have sz_b220 : h0.size ≤ b220 := Nat.le_trans K211.1 s220
    have E_221 := Ec211.keep Kc220
    have F_222 := FC211.keep Kc220 nin0
    have F_223 := FB211.keep Kc220 nin0
    have F_224 := FL211.keep Kc220 nin0
    have E_225 := Et211.keep Kc220
    have V_226 := V211.keep Kc220 nin0
    have N220 := Fr.app N211 N220q
    have Z220 : n0 ≤ T220.heap.size := Nat.le_trans Z211 Kc220.1
    have K220 : Keep h0 T220.heap [] := K211.trans Kc220 all0
    refine Gl.st (g' := (mkF m 92 #[.val (.int x0), .val (.int x1), .val (.int x2), .val (.int x3), .val (.int x4), .val (.int (x0 &&& (3 : Int32))), .val (.int (1 : Int32)), .val (.int ca), .val (.int cb), .val (.int cc), .val (.ref b201), .unset, .unset, .unset] [(.ref b220)])) (fun τ κ => st220.trans κ) ?_
    refine Gl.st (g' := (mkF m 94 #[.val (.int x0), .val (.int x1), .val (.int x2), .val (.int x3), .val (.int x4), .val (.int (x0 &&& (3 : Int32))), .val (.int (1 : Int32)), .val (.int ca), .val (.int cb), .val (.int cc), .val (.ref b201), .val (.ref b220), .unset, .unset] [])) (fun τ κ => XS.astore X220.here hx rfl (hb hby at_92) rfl rfl (l' := #[.val (.int x0), .val (.int x1), .val (.int x2), .val (.int x3), .val (.int x4), .val (.int (x0 &&& (3 : Int32))), .val (.int (1 : Int32)), .val (.int ca), .val (.int cb), .val (.int cc), .val (.ref b201), .val (.ref b220), .unset, .unset]) rfl κ) ?_
    refine Gl.st (g' := (mkF m 96 #[.val (.int x0), .val (.int x1), .val (.int x2), .val (.int x3), .val (.int x4), .val (.int (x0 &&& (3 : Int32))), .val (.int (1 : Int32)), .val (.int ca), .val (.int cb), .val (.int cc), .val (.ref b201), .val (.ref b220), .unset, .unset] [(.ref b220)])) (fun τ κ => XS.aload X220.here hx rfl (hb hby at_94) rfl rfl κ) ?_
    refine Gl.st (g' := (mkF m 98 #[.val (.int x0), .val (.int x1), .val (.int x2), .val (.int x3), .val (.int x4), .val (.int (x0 &&& (3 : Int32))), .val (.int (1 : Int32)), .val (.int ca), .val (.int cb), .val (.int cc), .val (.ref b201), .val (.ref b220), .unset, .unset] [(.int (1 : Int32)), (.ref b220)])) (fun τ κ => XS.iload X220.here hx rfl (hb hby at_96) rfl κ) ?_
    refine Gl.st (g' := (mkF m 100 #[.val (.int x0), .val (.int x1), .val (.int x2), .val (.int x3), .val (.int x4), .val (.int (x0 &&& (3 : Int32))), .val (.int (1 : Int32)), .val (.int ca), .val (.int cb), .val (.int cc), .val (.ref b201), .val (.ref b220), .unset, .unset] [(.int ca), (.int (1 : Int32)), (.ref b220)])) (fun τ κ => XS.iload X220.here hx rfl (hb hby at_98) rfl κ) ?_
    refine Gl.st (g' := (mkF m 102 #[.val (.int x0), .val (.int x1), .val (.int x2), .val (.int x3), .val (.int x4), .val (.int (x0 &&& (3 : Int32))), .val (.int (1 : Int32)), .val (.int ca), .val (.int cb), .val (.int cc), .val (.ref b201), .val (.ref b220), .unset, .unset] [(.int cb), (.int ca), (.int (1 : Int32)), (.ref b220)])) (fun τ κ => XS.iload X220.here hx rfl (hb hby at_100) rfl κ) ?_
    refine Gl.st (g' := (mkF m 104 #[.val (.int x0), .val (.int x1), .val (.int x2), .val (.int x3), .val (.int x4), .val (.int (x0 &&& (3 : Int32))), .val (.int (1 : Int32)), .val (.int ca), .val (.int cb), .val (.int cc), .val (.ref b201), .val (.ref b220), .unset, .unset] [(.int cc), (.int cb), (.int ca), (.int (1 : Int32)), (.ref b220)])) (fun τ κ => XS.iload X220.here hx rfl (hb hby at_102) rfl κ) ?_
    obtain ⟨rv227, _, ⟨T227, L227, k227, n227⟩, -, X227, ⟨Lc227, hQ227, l227, y227, z227⟩, st227⟩ := Jvm.LawKit.callS X220 hx (y := (⟨"com/example/hermitage/hermitage/frame/JsonTextToBytesPinLaw", "same", "([BICCC)Z"⟩ : MethodName)) hown (mvT hZ (hw _ (List.mem_of_getElem? (i := 45) rfl))) (mvT hZ (hw _ (List.mem_of_getElem? (i := 46) rfl))) (mvT hZ (hw _ (List.mem_of_getElem? (i := 47) rfl))) (mvT hZ (hw _ (List.mem_of_getElem? (i := 48) rfl))) (by decide) (backOf (W := 0) (rm_same1 l Z a0 hw [] b220 ca cb cc kk220 vs220 T220.heap n0 Z220 V220 ((hv220 _ (by decide)).trans hw211)) hZ (hw _ (List.mem_of_getElem? (i := 48) rfl)) (hw _ (List.mem_of_getElem? (i := 47) rfl)) (by decide) (by decide)) (g := (mkF m 104 #[.val (.int x0), .val (.int x1), .val (.int x2), .val (.int x3), .val (.int x4), .val (.int (x0 &&& (3 : Int32))), .val (.int (1 : Int32)), .val (.int ca), .val (.int cb), .val (.int cc), .val (.ref b201), .val (.ref b220), .unset, .unset] [(.int cc), (.int cb), (.int ca), (.int (1 : Int32)), (.ref b220)])) rfl (by rw [hml]; rfl) (argsL := [(.ref b220), (.int (1 : Int32)), (.int ca), (.int cb), (.int cc)]) (rest := []) (lenOf pd_4 rfl) rfl (by show 2 * 0 + _ ≤ _; exact Nat.le_of_eq rfl) (hb hby at_104) (fun _ _ => ⟨rfl, rfl, (by decide : 4 + 0 ≤ _), (by decide : 26 + 0 ≤ _)⟩)
    dsimp only [Pt.U, Pt.locs, Pt.cells, Pt.slots] at X227 l227 y227 z227 st227 hQ227
    subst l227 y227 z227
    obtain ⟨rfl, N227q, e227⟩ := hQ227
    have N227 := Fr.app N220 N227q
    refine Gl.st (g' := (mkF m 107 #[.val (.int x0), .val (.int x1), .val (.int x2), .val (.int x3), .val (.int x4), .val (.int (x0 &&& (3 : Int32))), .val (.int (1 : Int32)), .val (.int ca), .val (.int cb), .val (.int cc), .val (.ref b201), .val (.ref b220), .unset, .unset] [(.int (1 : Int32))])) (fun τ κ => st227 _ κ) ?_
    have hc228 : ¬ ((1 : Int32) = (0 : Int32)) := by decide
    refine Gl.st (g' := (mkF m 112 #[.val (.int x0), .val (.int x1), .val (.int x2), .val (.int x3), .val (.int x4), .val (.int (x0 &&& (3 : Int32))), .val (.int (1 : Int32)), .val (.int ca), .val (.int cb), .val (.int cc), .val (.ref b201), .val (.ref b220), .unset, .unset] [])) (fun τ κ => XS.ifYes X227.here hx rfl (pc0 := 107) (pc' := 112) rfl (hb hby at_107) rfl ((if0 _ _).trans (feq hc228).2) (by decide) (by decide) κ) ?_
    refine Gl.st (g' := (mkF m 114 #[.val (.int x0), .val (.int x1), .val (.int x2), .val (.int x3), .val (.int x4), .val (.int (x0 &&& (3 : Int32))), .val (.int (1 : Int32)), .val (.int ca), .val (.int cb), .val (.int cc), .val (.ref b201), .val (.ref b220), .unset, .unset] [(.int (1 : Int32))])) (fun τ κ => XS.iload X227.here hx rfl (hb hby at_112) rfl κ) ?_
    have hc229 : (0 : Int32) < (1 : Int32) := by decide
    refine Gl.st (g' := (mkF m 117 #[.val (.int x0), .val (.int x1), .val (.int x2), .val (.int x3), .val (.int x4), .val (.int (x0 &&& (3 : Int32))), .val (.int (1 : Int32)), .val (.int ca), .val (.int cb), .val (.int cc), .val (.ref b201), .val (.ref b220), .unset, .unset] [])) (fun τ κ => XS.ifNo X227.here hx rfl (hb hby at_114) rfl ((if0 _ _).trans (tlt hc229).2.2.2) κ) ?_
    refine Gl.st (g' := (mkF m 119 #[.val (.int x0), .val (.int x1), .val (.int x2), .val (.int x3), .val (.int x4), .val (.int (x0 &&& (3 : Int32))), .val (.int (1 : Int32)), .val (.int ca), .val (.int cb), .val (.int cc), .val (.ref b201), .val (.ref b220), .unset, .unset] [(.ref b220)])) (fun τ κ => XS.aload X227.here hx rfl (hb hby at_117) rfl rfl κ) ?_
    refine Gl.st (g' := (mkF m 120 #[.val (.int x0), .val (.int x1), .val (.int x2), .val (.int x3), .val (.int x4), .val (.int (x0 &&& (3 : Int32))), .val (.int (1 : Int32)), .val (.int ca), .val (.int cb), .val (.int cc), .val (.ref b201), .val (.ref b220), .unset, .unset] [(.int (0 : Int32)), (.ref b220)])) (fun τ κ => XS.iconst X227.here hx rfl (hb hby at_119) κ) ?_
    refine Gl.st (g' := (mkF m 122 #[.val (.int x0), .val (.int x1), .val (.int x2), .val (.int x3), .val (.int x4), .val (.int (x0 &&& (3 : Int32))), .val (.int (1 : Int32)), .val (.int ca), .val (.int cb), .val (.int cc), .val (.ref b201), .val (.ref b220), .unset, .unset] [(.ref b220), (.int (0 : Int32)), (.ref b220)])) (fun τ κ => XS.aload X227.here hx rfl (hb hby at_120) rfl rfl κ) ?_
    refine Gl.st (g' := (mkF m 123 #[.val (.int x0), .val (.int x1), .val (.int x2), .val (.int x3), .val (.int x4), .val (.int (x0 &&& (3 : Int32))), .val (.int (1 : Int32)), .val (.int ca), .val (.int cb), .val (.int cc), .val (.ref b201), .val (.ref b220), .unset, .unset] [(.int (0 : Int32)), (.ref b220), (.int (0 : Int32)), (.ref b220)])) (fun τ κ => XS.iconst X227.here hx rfl (hb hby at_122) κ) ?_
    obtain ⟨cl_o230, Ar_o230, q_o230, S_o230, M_o230, H_o230, G_o230⟩ := id V220
    have hin_o230 : ¬ ((0 : Int32) < 0 ∨ cl_o230.slots.size ≤ ((0 : Int32)).toNatClampNeg) := inb_of S_o230 ⟨by decide, by decide⟩
    refine Gl.st (g' := (mkF m 124 #[.val (.int x0), .val (.int x1), .val (.int x2), .val (.int x3), .val (.int x4), .val (.int (x0 &&& (3 : Int32))), .val (.int (1 : Int32)), .val (.int ca), .val (.int cb), .val (.int cc), .val (.ref b201), .val (.ref b220), .unset, .unset] [(.int (ca.toInt8.toInt32)), (.int (0 : Int32)), (.ref b220)])) (fun τ κ => X227.baloadBytes hx (j := (0 : Int32)) (v := (.int (ca.toInt8.toInt32))) (by rw [e227]; exact Ar_o230.1) (State.isArrayOf_alike hZ.alike Ar_o230.2.1) Ar_o230.2.2 hin_o230 ((H_o230 _ (Nat.lt_of_not_le fun q => hin_o230 (Or.inr q))).trans (congrArg some ((hv220 _ (by decide)).trans hw211))) (g := (mkF m 123 #[.val (.int x0), .val (.int x1), .val (.int x2), .val (.int x3), .val (.int x4), .val (.int (x0 &&& (3 : Int32))), .val (.int (1 : Int32)), .val (.int ca), .val (.int cb), .val (.int cc), .val (.ref b201), .val (.ref b220), .unset, .unset] [(.int (0 : Int32)), (.ref b220), (.int (0 : Int32)), (.ref b220)])) rfl rfl (hb hby at_123) _ κ) ?_
    refine Gl.st (g' := (mkF m 125 #[.val (.int x0), .val (.int x1), .val (.int x2), .val (.int x3), .val (.int x4), .val (.int (x0 &&& (3 : Int32))), .val (.int (1 : Int32)), .val (.int ca), .val (.int cb), .val (.int cc), .val (.ref b201), .val (.ref b220), .unset, .unset] [(.int (1 : Int32)), (.int (ca.toInt8.toInt32)), (.int (0 : Int32)), (.ref b220)])) (fun τ κ => XS.iconst X227.here hx rfl (hb hby at_124) κ) ?_
    refine Gl.st (g' := (mkF m 126 #[.val (.int x0), .val (.int x1), .val (.int x2), .val (.int x3), .val (.int x4), .val (.int (x0 &&& (3 : Int32))), .val (.int (1 : Int32)), .val (.int ca), .val (.int cb), .val (.int cc), .val (.ref b201), .val (.ref b220), .unset, .unset] [(.int ((ca.toInt8.toInt32) ^^^ (1 : Int32))), (.int (0 : Int32)), (.ref b220)])) (fun τ κ => XS.ixor X227.here hx rfl (hb hby at_125) rfl κ) ?_
    refine Gl.st (g' := (mkF m 127 #[.val (.int x0), .val (.int x1), .val (.int x2), .val (.int x3), .val (.int x4), .val (.int (x0 &&& (3 : Int32))), .val (.int (1 : Int32)), .val (.int ca), .val (.int cb), .val (.int cc), .val (.ref b201), .val (.ref b220), .unset, .unset] [(.int (((ca.toInt8.toInt32) ^^^ (1 : Int32)).toInt8.toInt32)), (.int (0 : Int32)), (.ref b220)])) (fun τ κ => XS.i2b X227.here hx rfl (hb hby at_126) rfl κ) ?_
    obtain ⟨cl_o231, Ar_o231, q_o231, S_o231, M_o231, H_o231, G_o231⟩ := id V220
    have hin_o231 : ¬ ((0 : Int32) < 0 ∨ cl_o231.slots.size ≤ ((0 : Int32)).toNatClampNeg) := inb_of S_o231 ⟨by decide, by decide⟩
    obtain ⟨T232, h232, X232, e232, W232, st232⟩ := stB X227 hx hZ e227 Ar_o231 (j := (0 : Int32)) hin_o231 (g := (mkF m 127 #[.val (.int x0), .val (.int x1), .val (.int x2), .val (.int x3), .val (.int x4), .val (.int (x0 &&& (3 : Int32))), .val (.int (1 : Int32)), .val (.int ca), .val (.int cb), .val (.int cc), .val (.ref b201), .val (.ref b220), .unset, .unset] [(.int (((ca.toInt8.toInt32) ^^^ (1 : Int32)).toInt8.toInt32)), (.int (0 : Int32)), (.ref b220)])) rfl rfl (hb hby at_127)
    obtain ⟨vs232, hvs232⟩ := own_upd vs220 ((0 : Int32)).toNatClampNeg (.int (nar .byte (((ca.toInt8.toInt32) ^^^ (1 : Int32)).toInt8.toInt32))) (.int (0 : Int32))
    have E_233 := E_221.wr W232
    have F_234 := F_222.other W232 (Or.inl ne_b201_b220)
    have F_235 := F_223.other W232 (Or.inl ne_b201_b220)
    have F_236 := F_224.other W232 (Or.inl ne_b201_b220)
    have E_237 := E_225.wr W232
    have V_238 := V_226.other W232 ne_t211_b220
    have E_239 := Ex220.wr W232
    have N232 := Fr.snoc X232 N227 g_b220
    have Z232 : n0 ≤ h232.size := Nat.le_trans Z220 (Nat.le_of_eq W232.size.symm)
    have K232 : Keep h0 h232 [] := K220.wr W232 (Or.inr sz_b220)
    have V_b220_232 : Arv Z h232 b220 kk220 .byte (1 : Int32) vs232 (.int (0 : Int32)) := own_set Ar_o231 q_o231 S_o231 M_o231 H_o231 G_o231 (fits_nar_byte _) W232 hvs232
    refine Gl.st (g' := (mkF m 128 #[.val (.int x0), .val (.int x1), .val (.int x2), .val (.int x3), .val (.int x4), .val (.int (x0 &&& (3 : Int32))), .val (.int (1 : Int32)), .val (.int ca), .val (.int cb), .val (.int cc), .val (.ref b201), .val (.ref b220), .unset, .unset] [])) (fun τ κ => st232 _ κ) ?_
    refine Gl.st (g' := (mkF m 130 #[.val (.int x0), .val (.int x1), .val (.int x2), .val (.int x3), .val (.int x4), .val (.int (x0 &&& (3 : Int32))), .val (.int (1 : Int32)), .val (.int ca), .val (.int cb), .val (.int cc), .val (.ref b201), .val (.ref b220), .unset, .unset] [(.ref b201)])) (fun τ κ => XS.aload X232.here hx rfl (hb hby at_128) rfl rfl κ) ?_
    obtain ⟨cq241, kq241, q241a, q241b, q241c⟩ := isOf hZ e232 E_233
    obtain ⟨rv241, _, ⟨T241, L241, k241, n241⟩, -, X241, ⟨Lc241, hQ241, l241, y241, z241⟩, st241⟩ := X232.virtualBack hx (y := (⟨"com/example/hermitage/hermitage/frame/JsonText", "toBytes", "()[B"⟩ : MethodName)) (z := (⟨"com/example/hermitage/hermitage/frame/JsonText", "toBytes", "()[B"⟩ : MethodName)) hown (mvT hZ (hw _ (List.mem_of_getElem? (i := 40) rfl))) (mvT hZ (hw _ (List.mem_of_getElem? (i := 41) rfl))) (notFace_of_selects (args := #[]) (mvT hZ (hw _ (List.mem_of_getElem? (i := 43) rfl)))) (mvT hZ (hw _ (List.mem_of_getElem? (i := 43) rfl))) (mvT hZ (hw _ (List.mem_of_getElem? (i := 42) rfl))) (by decide) (backOf (W := 0) (rm8 l Z a0 hw [] b201 t211 kk211 (x0 &&& (3 : Int32)) (1 : Int32) z211 vs211 h232 n0 Z232 E_233 g_b201 F_234 F_235 F_236 E_237 gt211 V_238 ne211 (by decide) (own_up nz211 (by decide)) z8211 (by decide)) hZ (hw _ (List.mem_of_getElem? (i := 44) rfl)) (hw _ (List.mem_of_getElem? (i := 2) rfl)) (by decide) (by decide)) q241a q241c (g := (mkF m 130 #[.val (.int x0), .val (.int x1), .val (.int x2), .val (.int x3), .val (.int x4), .val (.int (x0 &&& (3 : Int32))), .val (.int (1 : Int32)), .val (.int ca), .val (.int cb), .val (.int cc), .val (.ref b201), .val (.ref b220), .unset, .unset] [(.ref b201)])) rfl (by rw [hml]; rfl) (Steps.refl _) (argsL := []) (rest := []) (lenOf pd_3 rfl) rfl (by show 2 * 0 + _ ≤ _; exact Nat.le_of_eq rfl) (hb hby at_130) (fun _ _ => ⟨rfl, e232, (by decide : 4 + 1 ≤ _), (by decide : 26 + 8 ≤ _)⟩)
    dsimp only [Pt.U, Pt.locs, Pt.cells, Pt.slots] at X241 l241 y241 z241 st241 hQ241
    subst l241 y241 z241
    obtain ⟨b241, kk241, vs241, rfl, N241q, Kc241, s241, Ex241, V241, hv241⟩ := hQ241
    have ne_b201_b241 : b201 ≠ b241 := Nat.ne_of_lt (Nat.lt_of_lt_of_le E_233.lt s241)
    have ne_t211_b241 : t211 ≠ b241 := Nat.ne_of_lt (Nat.lt_of_lt_of_le E_237.lt s241)
    have ne_b220_b241 : b220 ≠ b241 := Nat.ne_of_lt (Nat.lt_of_lt_of_le E_239.lt s241)
    have g_b241 : n0 ≤ b241 := Nat.le_trans Z232 s241
    have sz_b241 : h0.size ≤ b241 := Nat.le_trans K232.1 s241
    have E_242 := E_233.keep Kc241
    have F_243 := F_234.keep Kc241 nin0
    have F_244 := F_235.keep Kc241 nin0
    have F_245 := F_236.keep Kc241 nin0
    have E_246 := E_237.keep Kc241
    have V_247 := V_238.keep Kc241 nin0
    have E_248 := E_239.keep Kc241
    have V_249 := V_b220_232.keep Kc241 nin0
    have N241 := Fr.app N232 N241q
    have Z241 : n0 ≤ T241.heap.size := Nat.le_trans Z232 Kc241.1
    have K241 : Keep h0 T241.heap [] := K232.trans Kc241 all0
    refine Gl.st (g' := (mkF m 133 #[.val (.int x0), .val (.int x1), .val (.int x2), .val (.int x3), .val (.int x4), .val (.int (x0 &&& (3 : Int32))), .val (.int (1 : Int32)), .val (.int ca), .val (.int cb), .val (.int cc), .val (.ref b201), .val (.ref b220), .unset, .unset] [(.ref b241)])) (fun τ κ => st241.trans κ) ?_
    refine Gl.st (g' := (mkF m 135 #[.val (.int x0), .val (.int x1), .val (.int x2), .val (.int x3), .val (.int x4), .val (.int (x0 &&& (3 : Int32))), .val (.int (1 : Int32)), .val (.int ca), .val (.int cb), .val (.int cc), .val (.ref b201), .val (.ref b220), .val (.ref b241), .unset] [])) (fun τ κ => XS.astore X241.here hx rfl (hb hby at_133) rfl rfl (l' := #[.val (.int x0), .val (.int x1), .val (.int x2), .val (.int x3), .val (.int x4), .val (.int (x0 &&& (3 : Int32))), .val (.int (1 : Int32)), .val (.int ca), .val (.int cb), .val (.int cc), .val (.ref b201), .val (.ref b220), .val (.ref b241), .unset]) rfl κ) ?_
    refine Gl.st (g' := (mkF m 137 #[.val (.int x0), .val (.int x1), .val (.int x2), .val (.int x3), .val (.int x4), .val (.int (x0 &&& (3 : Int32))), .val (.int (1 : Int32)), .val (.int ca), .val (.int cb), .val (.int cc), .val (.ref b201), .val (.ref b220), .val (.ref b241), .unset] [(.ref b241)])) (fun τ κ => XS.aload X241.here hx rfl (hb hby at_135) rfl rfl κ) ?_
    refine Gl.st (g' := (mkF m 139 #[.val (.int x0), .val (.int x1), .val (.int x2), .val (.int x3), .val (.int x4), .val (.int (x0 &&& (3 : Int32))), .val (.int (1 : Int32)), .val (.int ca), .val (.int cb), .val (.int cc), .val (.ref b201), .val (.ref b220), .val (.ref b241), .unset] [(.ref b220), (.ref b241)])) (fun τ κ => XS.aload X241.here hx rfl (hb hby at_137) rfl rfl κ) ?_
    refine Gl.st (g' := (mkF m 144 #[.val (.int x0), .val (.int x1), .val (.int x2), .val (.int x3), .val (.int x4), .val (.int (x0 &&& (3 : Int32))), .val (.int (1 : Int32)), .val (.int ca), .val (.int cb), .val (.int cc), .val (.ref b201), .val (.ref b220), .val (.ref b241), .unset] [])) (fun τ κ => Jvm.RoadKit.acmp (g := (mkF m 139 #[.val (.int x0), .val (.int x1), .val (.int x2), .val (.int x3), .val (.int x4), .val (.int (x0 &&& (3 : Int32))), .val (.int (1 : Int32)), .val (.int ca), .val (.int cb), .val (.int cc), .val (.ref b201), .val (.ref b220), .val (.ref b241), .unset] [(.ref b220), (.ref b241)])) X241 hx rfl rfl rfl (pc0 := 139) (pc' := 144) (same := false) rfl (hb hby at_139) rfl (decide_eq_false fun q => (Ne.symm ne_b220_b241) (Value.ref.inj q)) (by decide) (by decide) κ) ?_
    refine Gl.st (g' := (mkF m 146 #[.val (.int x0), .val (.int x1), .val (.int x2), .val (.int x3), .val (.int x4), .val (.int (x0 &&& (3 : Int32))), .val (.int (1 : Int32)), .val (.int ca), .val (.int cb), .val (.int cc), .val (.ref b201), .val (.ref b220), .val (.ref b241), .unset] [(.ref b241)])) (fun τ κ => XS.aload X241.here hx rfl (hb hby at_144) rfl rfl κ) ?_
    refine Gl.st (g' := (mkF m 148 #[.val (.int x0), .val (.int x1), .val (.int x2), .val (.int x3), .val (.int x4), .val (.int (x0 &&& (3 : Int32))), .val (.int (1 : Int32)), .val (.int ca), .val (.int cb), .val (.int cc), .val (.ref b201), .val (.ref b220), .val (.ref b241), .unset] [(.int (1 : Int32)), (.ref b241)])) (fun τ κ => XS.iload X241.here hx rfl (hb hby at_146) rfl κ) ?_
    refine Gl.st (g' := (mkF m 150 #[.val (.int x0), .val (.int x1), .val (.int x2), .val (.int x3), .val (.int x4), .val (.int (x0 &&& (3 : Int32))), .val (.int (1 : Int32)), .val (.int ca), .val (.int cb), .val (.int cc), .val (.ref b201), .val (.ref b220), .val (.ref b241), .unset] [(.int ca), (.int (1 : Int32)), (.ref b241)])) (fun τ κ => XS.iload X241.here hx rfl (hb hby at_148) rfl κ) ?_
    refine Gl.st (g' := (mkF m 152 #[.val (.int x0), .val (.int x1), .val (.int x2), .val (.int x3), .val (.int x4), .val (.int (x0 &&& (3 : Int32))), .val (.int (1 : Int32)), .val (.int ca), .val (.int cb), .val (.int cc), .val (.ref b201), .val (.ref b220), .val (.ref b241), .unset] [(.int cb), (.int ca), (.int (1 : Int32)), (.ref b241)])) (fun τ κ => XS.iload X241.here hx rfl (hb hby at_150) rfl κ) ?_
    refine Gl.st (g' := (mkF m 154 #[.val (.int x0), .val (.int x1), .val (.int x2), .val (.int x3), .val (.int x4), .val (.int (x0 &&& (3 : Int32))), .val (.int (1 : Int32)), .val (.int ca), .val (.int cb), .val (.int cc), .val (.ref b201), .val (.ref b220), .val (.ref b241), .unset] [(.int cc), (.int cb), (.int ca), (.int (1 : Int32)), (.ref b241)])) (fun τ κ => XS.iload X241.here hx rfl (hb hby at_152) rfl κ) ?_
    obtain ⟨rv250, _, ⟨T250, L250, k250, n250⟩, -, X250, ⟨Lc250, hQ250, l250, y250, z250⟩, st250⟩ := Jvm.LawKit.callS X241 hx (y := (⟨"com/example/hermitage/hermitage/frame/JsonTextToBytesPinLaw", "same", "([BICCC)Z"⟩ : MethodName)) hown (mvT hZ (hw _ (List.mem_of_getElem? (i := 45) rfl))) (mvT hZ (hw _ (List.mem_of_getElem? (i := 46) rfl))) (mvT hZ (hw _ (List.mem_of_getElem? (i := 47) rfl))) (mvT hZ (hw _ (List.mem_of_getElem? (i := 48) rfl))) (by decide) (backOf (W := 0) (rm_same1 l Z a0 hw [] b241 ca cb cc kk241 vs241 T241.heap n0 Z241 V241 ((hv241 _ (by decide)).trans hw211)) hZ (hw _ (List.mem_of_getElem? (i := 48) rfl)) (hw _ (List.mem_of_getElem? (i := 47) rfl)) (by decide) (by decide)) (g := (mkF m 154 #[.val (.int x0), .val (.int x1), .val (.int x2), .val (.int x3), .val (.int x4), .val (.int (x0 &&& (3 : Int32))), .val (.int (1 : Int32)), .val (.int ca), .val (.int cb), .val (.int cc), .val (.ref b201), .val (.ref b220), .val (.ref b241), .unset] [(.int cc), (.int cb), (.int ca), (.int (1 : Int32)), (.ref b241)])) rfl (by rw [hml]; rfl) (argsL := [(.ref b241), (.int (1 : Int32)), (.int ca), (.int cb), (.int cc)]) (rest := []) (lenOf pd_4 rfl) rfl (by show 2 * 0 + _ ≤ _; exact Nat.le_of_eq rfl) (hb hby at_154) (fun _ _ => ⟨rfl, rfl, (by decide : 5 + 0 ≤ _), (by decide : 34 + 0 ≤ _)⟩)
    dsimp only [Pt.U, Pt.locs, Pt.cells, Pt.slots] at X250 l250 y250 z250 st250 hQ250
    subst l250 y250 z250
    obtain ⟨rfl, N250q, e250⟩ := hQ250
    have N250 := Fr.app N241 N250q
    refine Gl.st (g' := (mkF m 157 #[.val (.int x0), .val (.int x1), .val (.int x2), .val (.int x3), .val (.int x4), .val (.int (x0 &&& (3 : Int32))), .val (.int (1 : Int32)), .val (.int ca), .val (.int cb), .val (.int cc), .val (.ref b201), .val (.ref b220), .val (.ref b241), .unset] [(.int (1 : Int32))])) (fun τ κ => st250 _ κ) ?_
    have hc251 : ¬ ((1 : Int32) = (0 : Int32)) := by decide
    refine Gl.st (g' := (mkF m 162 #[.val (.int x0), .val (.int x1), .val (.int x2), .val (.int x3), .val (.int x4), .val (.int (x0 &&& (3 : Int32))), .val (.int (1 : Int32)), .val (.int ca), .val (.int cb), .val (.int cc), .val (.ref b201), .val (.ref b220), .val (.ref b241), .unset] [])) (fun τ κ => XS.ifYes X250.here hx rfl (pc0 := 157) (pc' := 162) rfl (hb hby at_157) rfl ((if0 _ _).trans (feq hc251).2) (by decide) (by decide) κ) ?_
    refine Gl.st (g' := (mkF m 164 #[.val (.int x0), .val (.int x1), .val (.int x2), .val (.int x3), .val (.int x4), .val (.int (x0 &&& (3 : Int32))), .val (.int (1 : Int32)), .val (.int ca), .val (.int cb), .val (.int cc), .val (.ref b201), .val (.ref b220), .val (.ref b241), .unset] [(.ref b201)])) (fun τ κ => XS.aload X250.here hx rfl (hb hby at_162) rfl rfl κ) ?_
    obtain ⟨cq252, kq252, q252a, q252b, q252c⟩ := isOf hZ e250 E_242
    obtain ⟨rv252, _, ⟨T252, L252, k252, n252⟩, -, X252, ⟨Lc252, hQ252, l252, y252, z252⟩, st252⟩ := X250.virtualBack hx (y := (⟨"com/example/hermitage/hermitage/frame/JsonText", "clear", "()Lcom/example/hermitage/hermitage/frame/JsonText;"⟩ : MethodName)) (z := (⟨"com/example/hermitage/hermitage/frame/JsonText", "clear", "()Lcom/example/hermitage/hermitage/frame/JsonText;"⟩ : MethodName)) hown (mvT hZ (hw _ (List.mem_of_getElem? (i := 49) rfl))) (mvT hZ (hw _ (List.mem_of_getElem? (i := 50) rfl))) (notFace_of_selects (args := #[]) (mvT hZ (hw _ (List.mem_of_getElem? (i := 52) rfl)))) (mvT hZ (hw _ (List.mem_of_getElem? (i := 52) rfl))) (mvT hZ (hw _ (List.mem_of_getElem? (i := 51) rfl))) (by decide) (backOf (W := 0) (rm10 l Z a0 hw [] b201 t211 kk211 (x0 &&& (3 : Int32)) (1 : Int32) z211 vs211 T241.heap n0 Z241 E_242 g_b201 F_243 F_244 F_245 E_246 gt211 V_247 ne211 (by decide) (own_up nz211 (by decide)) z8211) hZ (hw _ (List.mem_of_getElem? (i := 53) rfl)) (hw _ (List.mem_of_getElem? (i := 2) rfl)) (by decide) (by decide)) q252a q252c (g := (mkF m 164 #[.val (.int x0), .val (.int x1), .val (.int x2), .val (.int x3), .val (.int x4), .val (.int (x0 &&& (3 : Int32))), .val (.int (1 : Int32)), .val (.int ca), .val (.int cb), .val (.int cc), .val (.ref b201), .val (.ref b220), .val (.ref b241), .unset] [(.ref b201)])) rfl (by rw [hml]; rfl) (Steps.refl _) (argsL := []) (rest := []) (lenOf pd_5 rfl) rfl (by show 2 * 0 + _ ≤ _; exact Nat.le_of_eq rfl) (hb hby at_164) (fun _ _ => ⟨rfl, e250, (by decide : 5 + 0 ≤ _), (by decide : 34 + 0 ≤ _)⟩)
    dsimp only [Pt.U, Pt.locs, Pt.cells, Pt.slots] at X252 l252 y252 z252 st252 hQ252
    subst l252 y252 z252
    obtain ⟨rfl, N252q, Kc252, Ec252, FC252, FB252, FL252⟩ := hQ252
    have E_253 := E_242.keep Kc252
    have E_257 := E_246.keep Kc252
    have V_258 := V_247.keep Kc252 (ninS (Ne.symm ne211) nin0)
    have E_259 := E_248.keep Kc252
    have V_260 := V_249.keep Kc252 (ninS (Ne.symm ne_b201_b220) nin0)
    have E_261 := Ex241.keep Kc252
    have V_262 := V241.keep Kc252 (ninS (Ne.symm ne_b201_b241) nin0)
    have N252 := Fr.app N250 N252q
    have Z252 : n0 ≤ T252.heap.size := Nat.le_trans Z241 Kc252.1
    have K252 : Keep h0 T252.heap [] := K241.trans Kc252 (allS (Or.inr sz_b201) all0)
    refine Gl.st (g' := (mkF m 167 #[.val (.int x0), .val (.int x1), .val (.int x2), .val (.int x3), .val (.int x4), .val (.int (x0 &&& (3 : Int32))), .val (.int (1 : Int32)), .val (.int ca), .val (.int cb), .val (.int cc), .val (.ref b201), .val (.ref b220), .val (.ref b241), .unset] [(.ref b201)])) (fun τ κ => st252.trans κ) ?_
    refine Gl.st (g' := (mkF m 168 #[.val (.int x0), .val (.int x1), .val (.int x2), .val (.int x3), .val (.int x4), .val (.int (x0 &&& (3 : Int32))), .val (.int (1 : Int32)), .val (.int ca), .val (.int cb), .val (.int cc), .val (.ref b201), .val (.ref b220), .val (.ref b241), .unset] [])) (fun τ κ => XS.pop X252.here hx rfl (hb hby at_167) rfl rfl κ) ?_
    refine Gl.st (g' := (mkF m 170 #[.val (.int x0), .val (.int x1), .val (.int x2), .val (.int x3), .val (.int x4), .val (.int (x0 &&& (3 : Int32))), .val (.int (1 : Int32)), .val (.int ca), .val (.int cb), .val (.int cc), .val (.ref b201), .val (.ref b220), .val (.ref b241), .unset] [(.ref b201)])) (fun τ κ => XS.aload X252.here hx rfl (hb hby at_168) rfl rfl κ) ?_
    obtain ⟨cq263, kq263, q263a, q263b, q263c⟩ := isOf hZ rfl Ec252
    obtain ⟨rv263, _, ⟨T263, L263, k263, n263⟩, -, X263, ⟨Lc263, hQ263, l263, y263, z263⟩, st263⟩ := X252.virtualBack hx (y := (⟨"com/example/hermitage/hermitage/frame/JsonText", "toBytes", "()[B"⟩ : MethodName)) (z := (⟨"com/example/hermitage/hermitage/frame/JsonText", "toBytes", "()[B"⟩ : MethodName)) hown (mvT hZ (hw _ (List.mem_of_getElem? (i := 40) rfl))) (mvT hZ (hw _ (List.mem_of_getElem? (i := 41) rfl))) (notFace_of_selects (args := #[]) (mvT hZ (hw _ (List.mem_of_getElem? (i := 43) rfl)))) (mvT hZ (hw _ (List.mem_of_getElem? (i := 43) rfl))) (mvT hZ (hw _ (List.mem_of_getElem? (i := 42) rfl))) (by decide) (backOf (W := 0) (rm8 l Z a0 hw [] b201 t211 kk211 (x0 &&& (3 : Int32)) (0 : Int32) z211 vs211 T252.heap n0 Z252 Ec252 g_b201 FC252 FB252 FL252 E_257 gt211 V_258 ne211 (by decide) (own_zn (n := (1 : Int32)) (by decide) (own_up nz211 (by decide))) z8211 (by decide)) hZ (hw _ (List.mem_of_getElem? (i := 44) rfl)) (hw _ (List.mem_of_getElem? (i := 2) rfl)) (by decide) (by decide)) q263a q263c (g := (mkF m 170 #[.val (.int x0), .val (.int x1), .val (.int x2), .val (.int x3), .val (.int x4), .val (.int (x0 &&& (3 : Int32))), .val (.int (1 : Int32)), .val (.int ca), .val (.int cb), .val (.int cc), .val (.ref b201), .val (.ref b220), .val (.ref b241), .unset] [(.ref b201)])) rfl (by rw [hml]; rfl) (Steps.refl _) (argsL := []) (rest := []) (lenOf pd_3 rfl) rfl (by show 2 * 0 + _ ≤ _; exact Nat.le_of_eq rfl) (hb hby at_170) (fun _ _ => ⟨rfl, rfl, (by decide : 5 + 1 ≤ _), (by decide : 34 + 8 ≤ _)⟩)
    dsimp only [Pt.U, Pt.locs, Pt.cells, Pt.slots] at X263 l263 y263 z263 st263 hQ263
    subst l263 y263 z263
    obtain ⟨b263, kk263, vs263, rfl, N263q, Kc263, s263, Ex263, V263, hv263⟩ := hQ263
    have ne_b201_b263 : b201 ≠ b263 := Nat.ne_of_lt (Nat.lt_of_lt_of_le Ec252.lt s263)
    have ne_t211_b263 : t211 ≠ b263 := Nat.ne_of_lt (Nat.lt_of_lt_of_le E_257.lt s263)
    have ne_b220_b263 : b220 ≠ b263 := Nat.ne_of_lt (Nat.lt_of_lt_of_le E_259.lt s263)
    have ne_b241_b263 : b241 ≠ b263 := Nat.ne_of_lt (Nat.lt_of_lt_of_le E_261.lt s263)
    have g_b263 : n0 ≤ b263 := Nat.le_trans Z252 s263
    have sz_b263 : h0.size ≤ b263 := Nat.le_trans K252.1 s263
    have E_264 := Ec252.keep Kc263
    have E_265 := E_257.keep Kc263
    have V_266 := V_258.keep Kc263 nin0
    have E_267 := E_259.keep Kc263
    have V_268 := V_260.keep Kc263 nin0
    have E_269 := E_261.keep Kc263
    have V_270 := V_262.keep Kc263 nin0
    have F_271 := FC252.keep Kc263 nin0
    have F_272 := FB252.keep Kc263 nin0
    have F_273 := FL252.keep Kc263 nin0
    have N263 := Fr.app N252 N263q
    have Z263 : n0 ≤ T263.heap.size := Nat.le_trans Z252 Kc263.1
    have K263 : Keep h0 T263.heap [] := K252.trans Kc263 all0
    refine Gl.st (g' := (mkF m 173 #[.val (.int x0), .val (.int x1), .val (.int x2), .val (.int x3), .val (.int x4), .val (.int (x0 &&& (3 : Int32))), .val (.int (1 : Int32)), .val (.int ca), .val (.int cb), .val (.int cc), .val (.ref b201), .val (.ref b220), .val (.ref b241), .unset] [(.ref b263)])) (fun τ κ => st263.trans κ) ?_
    refine Gl.st (g' := (mkF m 175 #[.val (.int x0), .val (.int x1), .val (.int x2), .val (.int x3), .val (.int x4), .val (.int (x0 &&& (3 : Int32))), .val (.int (1 : Int32)), .val (.int ca), .val (.int cb), .val (.int cc), .val (.ref b201), .val (.ref b220), .val (.ref b241), .val (.ref b263)] [])) (fun τ κ => XS.astore X263.here hx rfl (hb hby at_173) rfl rfl (l' := #[.val (.int x0), .val (.int x1), .val (.int x2), .val (.int x3), .val (.int x4), .val (.int (x0 &&& (3 : Int32))), .val (.int (1 : Int32)), .val (.int ca), .val (.int cb), .val (.int cc), .val (.ref b201), .val (.ref b220), .val (.ref b241), .val (.ref b263)]) rfl κ) ?_
    refine Gl.st (g' := (mkF m 177 #[.val (.int x0), .val (.int x1), .val (.int x2), .val (.int x3), .val (.int x4), .val (.int (x0 &&& (3 : Int32))), .val (.int (1 : Int32)), .val (.int ca), .val (.int cb), .val (.int cc), .val (.ref b201), .val (.ref b220), .val (.ref b241), .val (.ref b263)] [(.ref b263)])) (fun τ κ => XS.aload X263.here hx rfl (hb hby at_175) rfl rfl κ) ?_
    obtain ⟨cl_o274, Ar_o274, q_o274, S_o274, M_o274, H_o274, G_o274⟩ := id V263
    refine Gl.st (g' := (mkF m 178 #[.val (.int x0), .val (.int x1), .val (.int x2), .val (.int x3), .val (.int x4), .val (.int (x0 &&& (3 : Int32))), .val (.int (1 : Int32)), .val (.int ca), .val (.int cb), .val (.int cc), .val (.ref b201), .val (.ref b220), .val (.ref b241), .val (.ref b263)] [(.int (0 : Int32))])) (fun τ κ => X263.arraylength hx Ar_o274.1 (State.isArrayOf_alike hZ.alike Ar_o274.2.1) (g := (mkF m 177 #[.val (.int x0), .val (.int x1), .val (.int x2), .val (.int x3), .val (.int x4), .val (.int (x0 &&& (3 : Int32))), .val (.int (1 : Int32)), .val (.int ca), .val (.int cb), .val (.int cc), .val (.ref b201), .val (.ref b220), .val (.ref b241), .val (.ref b263)] [(.ref b263)])) rfl rfl (hb hby at_177) _ (by rw [len_of S_o274 M_o274]; exact κ)) ?_
    have hc275 : (0 : Int32) = (0 : Int32) := by decide
    refine Gl.st (g' := (mkF m 181 #[.val (.int x0), .val (.int x1), .val (.int x2), .val (.int x3), .val (.int x4), .val (.int (x0 &&& (3 : Int32))), .val (.int (1 : Int32)), .val (.int ca), .val (.int cb), .val (.int cc), .val (.ref b201), .val (.ref b220), .val (.ref b241), .val (.ref b263)] [])) (fun τ κ => XS.ifNo X263.here hx rfl (hb hby at_178) rfl ((if0 _ _).trans (teq hc275).2) κ) ?_
    refine Gl.st (g' := (mkF m 182 #[.val (.int x0), .val (.int x1), .val (.int x2), .val (.int x3), .val (.int x4), .val (.int (x0 &&& (3 : Int32))), .val (.int (1 : Int32)), .val (.int ca), .val (.int cb), .val (.int cc), .val (.ref b201), .val (.ref b220), .val (.ref b241), .val (.ref b263)] [(.int (1 : Int32))])) (fun τ κ => XS.iconst X263.here hx rfl (hb hby at_181) κ) ?_
    refine Gl.st (g' := (mkF m 186 #[.val (.int x0), .val (.int x1), .val (.int x2), .val (.int x3), .val (.int x4), .val (.int (x0 &&& (3 : Int32))), .val (.int (1 : Int32)), .val (.int ca), .val (.int cb), .val (.int cc), .val (.ref b201), .val (.ref b220), .val (.ref b241), .val (.ref b263)] [(.int (1 : Int32))])) (fun τ κ => XS.goto X263.here hx rfl (pc0 := 182) (pc' := 186) rfl (hb hby at_182) (by decide) (by decide) κ) ?_
    exact Gl.ret (v := some (.int (1 : Int32))) X263 Bd.notSynchronized (fun h => by rw [Bd.returns] at h; cases h) rfl (fun fs hr => retN X263 hx (t := .boolean) Bd.returns (by simp) (hb hby at_186) hr) (by decide) (by decide) ⟨rfl, N263⟩
  · rw [hs143]
    refine Gl.st (g' := (mkF m 10 #[.val (.int x0), .val (.int x1), .val (.int x2), .val (.int x3), .val (.int x4), .val (.int (x0 &&& (3 : Int32))), .val (.int (2 : Int32)), .unset, .unset, .unset, .unset, .unset, .unset, .unset] [])) (fun τ κ => XS.istore X0.here hx rfl (hb hby at_8) rfl (l' := #[.val (.int x0), .val (.int x1), .val (.int x2), .val (.int x3), .val (.int x4), .val (.int (x0 &&& (3 : Int32))), .val (.int (2 : Int32)), .unset, .unset, .unset, .unset, .unset, .unset, .unset]) rfl κ) ?_
    refine Gl.st (g' := (mkF m 11 #[.val (.int x0), .val (.int x1), .val (.int x2), .val (.int x3), .val (.int x4), .val (.int (x0 &&& (3 : Int32))), .val (.int (2 : Int32)), .unset, .unset, .unset, .unset, .unset, .unset, .unset] [(.int x2)])) (fun τ κ => XS.iloadN X0.here hx rfl (hb hby at_10) rfl κ) ?_
    refine Gl.st (g' := (mkF m 14 #[.val (.int x0), .val (.int x1), .val (.int x2), .val (.int x3), .val (.int x4), .val (.int (x0 &&& (3 : Int32))), .val (.int (2 : Int32)), .unset, .unset, .unset, .unset, .unset, .unset, .unset] [(.int (255 : Int32)), (.int x2)])) (fun τ κ => XS.sipush X0.here hx rfl (hb hby at_11) κ) ?_
    refine Gl.st (g' := (mkF m 15 #[.val (.int x0), .val (.int x1), .val (.int x2), .val (.int x3), .val (.int x4), .val (.int (x0 &&& (3 : Int32))), .val (.int (2 : Int32)), .unset, .unset, .unset, .unset, .unset, .unset, .unset] [(.int (x2 &&& (255 : Int32)))])) (fun τ κ => XS.iand X0.here hx rfl (hb hby at_14) rfl κ) ?_
    refine Gl.st (g' := (mkF m 16 #[.val (.int x0), .val (.int x1), .val (.int x2), .val (.int x3), .val (.int x4), .val (.int (x0 &&& (3 : Int32))), .val (.int (2 : Int32)), .unset, .unset, .unset, .unset, .unset, .unset, .unset] [(.int ((x2 &&& (255 : Int32)).toUInt32.toUInt16.toUInt32.toInt32))])) (fun τ κ => XS.i2c X0.here hx rfl (hb hby at_15) rfl κ) ?_
    generalize ((x2 &&& (255 : Int32)).toUInt32.toUInt16.toUInt32.toInt32) = ca
    refine Gl.st (g' := (mkF m 18 #[.val (.int x0), .val (.int x1), .val (.int x2), .val (.int x3), .val (.int x4), .val (.int (x0 &&& (3 : Int32))), .val (.int (2 : Int32)), .val (.int ca), .unset, .unset, .unset, .unset, .unset, .unset] [])) (fun τ κ => XS.istore X0.here hx rfl (hb hby at_16) rfl (l' := #[.val (.int x0), .val (.int x1), .val (.int x2), .val (.int x3), .val (.int x4), .val (.int (x0 &&& (3 : Int32))), .val (.int (2 : Int32)), .val (.int ca), .unset, .unset, .unset, .unset, .unset, .unset]) rfl κ) ?_
    refine Gl.st (g' := (mkF m 19 #[.val (.int x0), .val (.int x1), .val (.int x2), .val (.int x3), .val (.int x4), .val (.int (x0 &&& (3 : Int32))), .val (.int (2 : Int32)), .val (.int ca), .unset, .unset, .unset, .unset, .unset, .unset] [(.int x3)])) (fun τ κ => XS.iloadN X0.here hx rfl (hb hby at_18) rfl κ) ?_
    refine Gl.st (g' := (mkF m 22 #[.val (.int x0), .val (.int x1), .val (.int x2), .val (.int x3), .val (.int x4), .val (.int (x0 &&& (3 : Int32))), .val (.int (2 : Int32)), .val (.int ca), .unset, .unset, .unset, .unset, .unset, .unset] [(.int (255 : Int32)), (.int x3)])) (fun τ κ => XS.sipush X0.here hx rfl (hb hby at_19) κ) ?_
    refine Gl.st (g' := (mkF m 23 #[.val (.int x0), .val (.int x1), .val (.int x2), .val (.int x3), .val (.int x4), .val (.int (x0 &&& (3 : Int32))), .val (.int (2 : Int32)), .val (.int ca), .unset, .unset, .unset, .unset, .unset, .unset] [(.int (x3 &&& (255 : Int32)))])) (fun τ κ => XS.iand X0.here hx rfl (hb hby at_22) rfl κ) ?_
    refine Gl.st (g' := (mkF m 24 #[.val (.int x0), .val (.int x1), .val (.int x2), .val (.int x3), .val (.int x4), .val (.int (x0 &&& (3 : Int32))), .val (.int (2 : Int32)), .val (.int ca), .unset, .unset, .unset, .unset, .unset, .unset] [(.int ((x3 &&& (255 : Int32)).toUInt32.toUInt16.toUInt32.toInt32))])) (fun τ κ => XS.i2c X0.here hx rfl (hb hby at_23) rfl κ) ?_
    generalize ((x3 &&& (255 : Int32)).toUInt32.toUInt16.toUInt32.toInt32) = cb
    refine Gl.st (g' := (mkF m 26 #[.val (.int x0), .val (.int x1), .val (.int x2), .val (.int x3), .val (.int x4), .val (.int (x0 &&& (3 : Int32))), .val (.int (2 : Int32)), .val (.int ca), .val (.int cb), .unset, .unset, .unset, .unset, .unset] [])) (fun τ κ => XS.istore X0.here hx rfl (hb hby at_24) rfl (l' := #[.val (.int x0), .val (.int x1), .val (.int x2), .val (.int x3), .val (.int x4), .val (.int (x0 &&& (3 : Int32))), .val (.int (2 : Int32)), .val (.int ca), .val (.int cb), .unset, .unset, .unset, .unset, .unset]) rfl κ) ?_
    refine Gl.st (g' := (mkF m 28 #[.val (.int x0), .val (.int x1), .val (.int x2), .val (.int x3), .val (.int x4), .val (.int (x0 &&& (3 : Int32))), .val (.int (2 : Int32)), .val (.int ca), .val (.int cb), .unset, .unset, .unset, .unset, .unset] [(.int x4)])) (fun τ κ => XS.iload X0.here hx rfl (hb hby at_26) rfl κ) ?_
    refine Gl.st (g' := (mkF m 31 #[.val (.int x0), .val (.int x1), .val (.int x2), .val (.int x3), .val (.int x4), .val (.int (x0 &&& (3 : Int32))), .val (.int (2 : Int32)), .val (.int ca), .val (.int cb), .unset, .unset, .unset, .unset, .unset] [(.int (255 : Int32)), (.int x4)])) (fun τ κ => XS.sipush X0.here hx rfl (hb hby at_28) κ) ?_
    refine Gl.st (g' := (mkF m 32 #[.val (.int x0), .val (.int x1), .val (.int x2), .val (.int x3), .val (.int x4), .val (.int (x0 &&& (3 : Int32))), .val (.int (2 : Int32)), .val (.int ca), .val (.int cb), .unset, .unset, .unset, .unset, .unset] [(.int (x4 &&& (255 : Int32)))])) (fun τ κ => XS.iand X0.here hx rfl (hb hby at_31) rfl κ) ?_
    refine Gl.st (g' := (mkF m 33 #[.val (.int x0), .val (.int x1), .val (.int x2), .val (.int x3), .val (.int x4), .val (.int (x0 &&& (3 : Int32))), .val (.int (2 : Int32)), .val (.int ca), .val (.int cb), .unset, .unset, .unset, .unset, .unset] [(.int ((x4 &&& (255 : Int32)).toUInt32.toUInt16.toUInt32.toInt32))])) (fun τ κ => XS.i2c X0.here hx rfl (hb hby at_32) rfl κ) ?_
    generalize ((x4 &&& (255 : Int32)).toUInt32.toUInt16.toUInt32.toInt32) = cc
    refine Gl.st (g' := (mkF m 35 #[.val (.int x0), .val (.int x1), .val (.int x2), .val (.int x3), .val (.int x4), .val (.int (x0 &&& (3 : Int32))), .val (.int (2 : Int32)), .val (.int ca), .val (.int cb), .val (.int cc), .unset, .unset, .unset, .unset] [])) (fun τ κ => XS.istore X0.here hx rfl (hb hby at_33) rfl (l' := #[.val (.int x0), .val (.int x1), .val (.int x2), .val (.int x3), .val (.int x4), .val (.int (x0 &&& (3 : Int32))), .val (.int (2 : Int32)), .val (.int ca), .val (.int cb), .val (.int cc), .unset, .unset, .unset, .unset]) rfl κ) ?_
    obtain ⟨T276, h276, X276, e276, E276, A276, D276, -, st276⟩ := newO X0 hx hZ hown (hw _ (List.mem_of_getElem? (i := 0) rfl)) (hw _ (List.mem_of_getElem? (i := 1) rfl)) (hw _ (List.mem_of_getElem? (i := 2) rfl)) e0 (g := (mkF m 35 #[.val (.int x0), .val (.int x1), .val (.int x2), .val (.int x3), .val (.int x4), .val (.int (x0 &&& (3 : Int32))), .val (.int (2 : Int32)), .val (.int ca), .val (.int cb), .val (.int cc), .unset, .unset, .unset, .unset] [])) rfl (hb hby at_35) (by decide) (by decide)
    obtain ⟨b276, g276⟩ : ∃ z, z = h0.size := ⟨_, rfl⟩
    rw [← g276] at A276 D276 st276
    have g_b276 : n0 ≤ b276 := Nat.le_trans Z0 (Nat.le_of_eq g276.symm)
    have sz_b276 : h0.size ≤ b276 := Nat.le_trans (Keep.refl h0 []).1 (Nat.le_of_eq g276.symm)
    have Z276 : n0 ≤ h276.size := Nat.le_trans Z0 E276.1
    have K276 : Keep h0 h276 [] := (Keep.refl h0 []).ext E276
    have F_277 : Fld Z h276 b276 "com/example/hermitage/hermitage/frame/JsonText" "capacity" "I" (.int (0 : Int32)) := D276 (Or.inr (hw _ (List.mem_of_getElem? (i := 10) rfl))) (ty := .int) (by decide)
    have F_278 : Fld Z h276 b276 "com/example/hermitage/hermitage/frame/JsonText" "bytes" "[B" .null := D276 (Or.inl (hw _ (List.mem_of_getElem? (i := 13) rfl))) (ty := (.array .byte)) (by decide)
    have F_279 : Fld Z h276 b276 "com/example/hermitage/hermitage/frame/JsonText" "length" "I" (.int (0 : Int32)) := D276 (Or.inl (hw _ (List.mem_of_getElem? (i := 24) rfl))) (ty := .int) (by decide)
    refine Gl.st (g' := (mkF m 38 #[.val (.int x0), .val (.int x1), .val (.int x2), .val (.int x3), .val (.int x4), .val (.int (x0 &&& (3 : Int32))), .val (.int (2 : Int32)), .val (.int ca), .val (.int cb), .val (.int cc), .unset, .unset, .unset, .unset] [(.ref b276)])) (fun τ κ => st276 _ κ) ?_
    refine Gl.st (g' := (mkF m 39 #[.val (.int x0), .val (.int x1), .val (.int x2), .val (.int x3), .val (.int x4), .val (.int (x0 &&& (3 : Int32))), .val (.int (2 : Int32)), .val (.int ca), .val (.int cb), .val (.int cc), .unset, .unset, .unset, .unset] [(.ref b276), (.ref b276)])) (fun τ κ => XS.dup X276.here hx rfl (hb hby at_38) rfl rfl κ) ?_
    refine Gl.st (g' := (mkF m 41 #[.val (.int x0), .val (.int x1), .val (.int x2), .val (.int x3), .val (.int x4), .val (.int (x0 &&& (3 : Int32))), .val (.int (2 : Int32)), .val (.int ca), .val (.int cb), .val (.int cc), .unset, .unset, .unset, .unset] [(.int (x0 &&& (3 : Int32))), (.ref b276), (.ref b276)])) (fun τ κ => XS.iload X276.here hx rfl (hb hby at_39) rfl κ) ?_
    obtain ⟨rv280, _, ⟨T280, L280, k280, n280⟩, -, X280, ⟨Lc280, hQ280, l280, y280, z280⟩, st280⟩ := X276.specialBack hx (y := (⟨"com/example/hermitage/hermitage/frame/JsonText", "<init>", "(I)V"⟩ : MethodName)) rfl hown (mvT hZ (hw _ (List.mem_of_getElem? (i := 3) rfl))) (mvT hZ (hw _ (List.mem_of_getElem? (i := 4) rfl))) (mvT hZ (hw _ (List.mem_of_getElem? (i := 5) rfl))) (by decide) (backOf (W := 1) (rm1 l Z a0 hw [] b276 (x0 &&& (3 : Int32)) h276 n0 Z276 A276 g_b276 F_277 F_278 F_279 (own_p3 x0).1 (own_p3 x0).2.1) hZ (hw _ (List.mem_of_getElem? (i := 5) rfl)) (hw _ (List.mem_of_getElem? (i := 2) rfl)) (by decide) (by decide)) (g := (mkF m 41 #[.val (.int x0), .val (.int x1), .val (.int x2), .val (.int x3), .val (.int x4), .val (.int (x0 &&& (3 : Int32))), .val (.int (2 : Int32)), .val (.int ca), .val (.int cb), .val (.int cc), .unset, .unset, .unset, .unset] [(.int (x0 &&& (3 : Int32))), (.ref b276), (.ref b276)])) rfl (by rw [hml]; rfl) (Steps.refl _) (a := b276) (argsL := [(.int (x0 &&& (3 : Int32)))]) (rest := [(.ref b276)]) (lenOf pd_2 rfl) rfl (by show 2 * 0 + _ ≤ _; exact Nat.le_of_eq rfl) (hb hby at_41) (fun _ _ => ⟨rfl, e276, (by decide : 1 + 1 ≤ _), (by decide : 3 + 7 ≤ _)⟩)
    dsimp only [Pt.U, Pt.locs, Pt.cells, Pt.slots] at X280 l280 y280 z280 st280 hQ280
    subst l280 y280 z280
    obtain ⟨t280, kk280, rfl, N280q, Kc280, Ec280, FC280, FB280, FL280, Et280, V280, s280⟩ := hQ280
    have ne_b276_t280 : b276 ≠ t280 := Nat.ne_of_lt (Nat.lt_of_lt_of_le A276.lt s280)
    have g_t280 : n0 ≤ t280 := Nat.le_trans Z276 s280
    have sz_t280 : h0.size ≤ t280 := Nat.le_trans K276.1 s280
    have E_281 := A276.keep Kc280
    have N280 := Fr.app N0 N280q
    have Z280 : n0 ≤ T280.heap.size := Nat.le_trans Z276 Kc280.1
    have K280 : Keep h0 T280.heap [] := K276.trans Kc280 (allS (Or.inr sz_b276) all0)
    refine Gl.st (g' := (mkF m 44 #[.val (.int x0), .val (.int x1), .val (.int x2), .val (.int x3), .val (.int x4), .val (.int (x0 &&& (3 : Int32))), .val (.int (2 : Int32)), .val (.int ca), .val (.int cb), .val (.int cc), .unset, .unset, .unset, .unset] [(.ref b276)])) (fun τ κ => st280.trans κ) ?_
    refine Gl.st (g' := (mkF m 46 #[.val (.int x0), .val (.int x1), .val (.int x2), .val (.int x3), .val (.int x4), .val (.int (x0 &&& (3 : Int32))), .val (.int (2 : Int32)), .val (.int ca), .val (.int cb), .val (.int cc), .val (.ref b276), .unset, .unset, .unset] [])) (fun τ κ => XS.astore X280.here hx rfl (hb hby at_44) rfl rfl (l' := #[.val (.int x0), .val (.int x1), .val (.int x2), .val (.int x3), .val (.int x4), .val (.int (x0 &&& (3 : Int32))), .val (.int (2 : Int32)), .val (.int ca), .val (.int cb), .val (.int cc), .val (.ref b276), .unset, .unset, .unset]) rfl κ) ?_
    refine Gl.st (g' := (mkF m 48 #[.val (.int x0), .val (.int x1), .val (.int x2), .val (.int x3), .val (.int x4), .val (.int (x0 &&& (3 : Int32))), .val (.int (2 : Int32)), .val (.int ca), .val (.int cb), .val (.int cc), .val (.ref b276), .unset, .unset, .unset] [(.int (2 : Int32))])) (fun τ κ => XS.iload X280.here hx rfl (hb hby at_46) rfl κ) ?_
    have hc285 : (0 : Int32) < (2 : Int32) := by decide
    refine Gl.st (g' := (mkF m 51 #[.val (.int x0), .val (.int x1), .val (.int x2), .val (.int x3), .val (.int x4), .val (.int (x0 &&& (3 : Int32))), .val (.int (2 : Int32)), .val (.int ca), .val (.int cb), .val (.int cc), .val (.ref b276), .unset, .unset, .unset] [])) (fun τ κ => XS.ifNo X280.here hx rfl (hb hby at_48) rfl ((if0 _ _).trans (tlt hc285).2.2.2) κ) ?_
    refine Gl.st (g' := (mkF m 53 #[.val (.int x0), .val (.int x1), .val (.int x2), .val (.int x3), .val (.int x4), .val (.int (x0 &&& (3 : Int32))), .val (.int (2 : Int32)), .val (.int ca), .val (.int cb), .val (.int cc), .val (.ref b276), .unset, .unset, .unset] [(.ref b276)])) (fun τ κ => XS.aload X280.here hx rfl (hb hby at_51) rfl rfl κ) ?_
    refine Gl.st (g' := (mkF m 55 #[.val (.int x0), .val (.int x1), .val (.int x2), .val (.int x3), .val (.int x4), .val (.int (x0 &&& (3 : Int32))), .val (.int (2 : Int32)), .val (.int ca), .val (.int cb), .val (.int cc), .val (.ref b276), .unset, .unset, .unset] [(.int ca), (.ref b276)])) (fun τ κ => XS.iload X280.here hx rfl (hb hby at_53) rfl κ) ?_
    obtain ⟨cq286, kq286, q286a, q286b, q286c⟩ := isOf hZ rfl Ec280
    obtain ⟨rv286, _, ⟨T286, L286, k286, n286⟩, -, X286, ⟨Lc286, hQ286, l286, y286, z286⟩, st286⟩ := X280.virtualBack hx (y := (⟨"com/example/hermitage/hermitage/frame/JsonText", "mark", "(C)Lcom/example/hermitage/hermitage/frame/JsonText;"⟩ : MethodName)) (z := (⟨"com/example/hermitage/hermitage/frame/JsonText", "mark", "(C)Lcom/example/hermitage/hermitage/frame/JsonText;"⟩ : MethodName)) hown (mvT hZ (hw _ (List.mem_of_getElem? (i := 14) rfl))) (mvT hZ (hw _ (List.mem_of_getElem? (i := 15) rfl))) (notFace_of_selects (args := #[]) (mvT hZ (hw _ (List.mem_of_getElem? (i := 17) rfl)))) (mvT hZ (hw _ (List.mem_of_getElem? (i := 17) rfl))) (mvT hZ (hw _ (List.mem_of_getElem? (i := 16) rfl))) (by decide) (backOf (W := 0) (rm3 l Z a0 hw [] b276 ca t280 kk280 (x0 &&& (3 : Int32)) (0 : Int32) (x0 &&& (3 : Int32)) [] T280.heap n0 Z280 Ec280 g_b276 FC280 FB280 FL280 Et280 g_t280 V280 ne_b276_t280 (by decide) (own_p3 x0).1 (own_p3 x0).2.2 (by decide)) hZ (hw _ (List.mem_of_getElem? (i := 18) rfl)) (hw _ (List.mem_of_getElem? (i := 2) rfl)) (by decide) (by decide)) q286a q286c (g := (mkF m 55 #[.val (.int x0), .val (.int x1), .val (.int x2), .val (.int x3), .val (.int x4), .val (.int (x0 &&& (3 : Int32))), .val (.int (2 : Int32)), .val (.int ca), .val (.int cb), .val (.int cc), .val (.ref b276), .unset, .unset, .unset] [(.int ca), (.ref b276)])) rfl (by rw [hml]; rfl) (Steps.refl _) (argsL := [(.int ca)]) (rest := []) (lenOf pd_6 rfl) rfl (by show 2 * 0 + _ ≤ _; exact Nat.le_of_eq rfl) (hb hby at_55) (fun _ _ => ⟨rfl, rfl, (by decide : 2 + 1 ≤ _), (by decide : 10 + 8 ≤ _)⟩)
    dsimp only [Pt.U, Pt.locs, Pt.cells, Pt.slots] at X286 l286 y286 z286 st286 hQ286
    subst l286 y286 z286
    obtain ⟨t286, kk286, z286, vs286, rfl, N286q, Kc286, Ec286, FC286, FB286, FL286, Et286, V286, nz286, z8286, gt286, or286, ne286, hv286, hw286⟩ := hQ286
    have sz_t286 : h0.size ≤ t286 := or286.elim (fun q => by rw [q]; exact sz_t280) (fun q => Nat.le_trans K280.1 q)
    have E_287 := Ec280.keep Kc286
    have E_291 := Et280.keep Kc286
    have N286 := Fr.app N280 N286q
    have Z286 : n0 ≤ T286.heap.size := Nat.le_trans Z280 Kc286.1
    have K286 : Keep h0 T286.heap [] := K280.trans Kc286 (allS (Or.inr sz_b276) (allS (Or.inr sz_t280) all0))
    have FL286 : Fld Z T286.heap b276 "com/example/hermitage/hermitage/frame/JsonText" "length" "I" (.int (1 : Int32)) := FL286
    refine Gl.st (g' := (mkF m 58 #[.val (.int x0), .val (.int x1), .val (.int x2), .val (.int x3), .val (.int x4), .val (.int (x0 &&& (3 : Int32))), .val (.int (2 : Int32)), .val (.int ca), .val (.int cb), .val (.int cc), .val (.ref b276), .unset, .unset, .unset] [(.ref b276)])) (fun τ κ => st286.trans κ) ?_
    refine Gl.st (g' := (mkF m 59 #[.val (.int x0), .val (.int x1), .val (.int x2), .val (.int x3), .val (.int x4), .val (.int (x0 &&& (3 : Int32))), .val (.int (2 : Int32)), .val (.int ca), .val (.int cb), .val (.int cc), .val (.ref b276), .unset, .unset, .unset] [])) (fun τ κ => XS.pop X286.here hx rfl (hb hby at_58) rfl rfl κ) ?_
    refine Gl.st (g' := (mkF m 61 #[.val (.int x0), .val (.int x1), .val (.int x2), .val (.int x3), .val (.int x4), .val (.int (x0 &&& (3 : Int32))), .val (.int (2 : Int32)), .val (.int ca), .val (.int cb), .val (.int cc), .val (.ref b276), .unset, .unset, .unset] [(.int (2 : Int32))])) (fun τ κ => XS.iload X286.here hx rfl (hb hby at_59) rfl κ) ?_
    refine Gl.st (g' := (mkF m 62 #[.val (.int x0), .val (.int x1), .val (.int x2), .val (.int x3), .val (.int x4), .val (.int (x0 &&& (3 : Int32))), .val (.int (2 : Int32)), .val (.int ca), .val (.int cb), .val (.int cc), .val (.ref b276), .unset, .unset, .unset] [(.int (1 : Int32)), (.int (2 : Int32))])) (fun τ κ => XS.iconst X286.here hx rfl (hb hby at_61) κ) ?_
    have hc293 : (1 : Int32) < (2 : Int32) := by decide
    refine Gl.st (g' := (mkF m 65 #[.val (.int x0), .val (.int x1), .val (.int x2), .val (.int x3), .val (.int x4), .val (.int (x0 &&& (3 : Int32))), .val (.int (2 : Int32)), .val (.int ca), .val (.int cb), .val (.int cc), .val (.ref b276), .unset, .unset, .unset] [])) (fun τ κ => XS.icmpNo X286.here hx rfl (hb hby at_62) rfl (tlt hc293).2.2.2 κ) ?_
    refine Gl.st (g' := (mkF m 67 #[.val (.int x0), .val (.int x1), .val (.int x2), .val (.int x3), .val (.int x4), .val (.int (x0 &&& (3 : Int32))), .val (.int (2 : Int32)), .val (.int ca), .val (.int cb), .val (.int cc), .val (.ref b276), .unset, .unset, .unset] [(.ref b276)])) (fun τ κ => XS.aload X286.here hx rfl (hb hby at_65) rfl rfl κ) ?_
    refine Gl.st (g' := (mkF m 69 #[.val (.int x0), .val (.int x1), .val (.int x2), .val (.int x3), .val (.int x4), .val (.int (x0 &&& (3 : Int32))), .val (.int (2 : Int32)), .val (.int ca), .val (.int cb), .val (.int cc), .val (.ref b276), .unset, .unset, .unset] [(.int cb), (.ref b276)])) (fun τ κ => XS.iload X286.here hx rfl (hb hby at_67) rfl κ) ?_
    obtain ⟨cq294, kq294, q294a, q294b, q294c⟩ := isOf hZ rfl Ec286
    obtain ⟨rv294, _, ⟨T294, L294, k294, n294⟩, -, X294, ⟨Lc294, hQ294, l294, y294, z294⟩, st294⟩ := X286.virtualBack hx (y := (⟨"com/example/hermitage/hermitage/frame/JsonText", "mark", "(C)Lcom/example/hermitage/hermitage/frame/JsonText;"⟩ : MethodName)) (z := (⟨"com/example/hermitage/hermitage/frame/JsonText", "mark", "(C)Lcom/example/hermitage/hermitage/frame/JsonText;"⟩ : MethodName)) hown (mvT hZ (hw _ (List.mem_of_getElem? (i := 14) rfl))) (mvT hZ (hw _ (List.mem_of_getElem? (i := 15) rfl))) (notFace_of_selects (args := #[]) (mvT hZ (hw _ (List.mem_of_getElem? (i := 17) rfl)))) (mvT hZ (hw _ (List.mem_of_getElem? (i := 17) rfl))) (mvT hZ (hw _ (List.mem_of_getElem? (i := 16) rfl))) (by decide) (backOf (W := 0) (rm3 l Z a0 hw [] b276 cb t286 kk286 (x0 &&& (3 : Int32)) (1 : Int32) z286 vs286 T286.heap n0 Z286 Ec286 g_b276 FC286 FB286 FL286 Et286 gt286 V286 ne286 (by decide) (own_up nz286 (by decide)) z8286 (by decide)) hZ (hw _ (List.mem_of_getElem? (i := 18) rfl)) (hw _ (List.mem_of_getElem? (i := 2) rfl)) (by decide) (by decide)) q294a q294c (g := (mkF m 69 #[.val (.int x0), .val (.int x1), .val (.int x2), .val (.int x3), .val (.int x4), .val (.int (x0 &&& (3 : Int32))), .val (.int (2 : Int32)), .val (.int ca), .val (.int cb), .val (.int cc), .val (.ref b276), .unset, .unset, .unset] [(.int cb), (.ref b276)])) rfl (by rw [hml]; rfl) (Steps.refl _) (argsL := [(.int cb)]) (rest := []) (lenOf pd_6 rfl) rfl (by show 2 * 0 + _ ≤ _; exact Nat.le_of_eq rfl) (hb hby at_69) (fun _ _ => ⟨rfl, rfl, (by decide : 3 + 1 ≤ _), (by decide : 18 + 8 ≤ _)⟩)
    dsimp only [Pt.U, Pt.locs, Pt.cells, Pt.slots] at X294 l294 y294 z294 st294 hQ294
    subst l294 y294 z294
    obtain ⟨t294, kk294, z294, vs294, rfl, N294q, Kc294, Ec294, FC294, FB294, FL294, Et294, V294, nz294, z8294, gt294, or294, ne294, hv294, hw294⟩ := hQ294
    have sz_t294 : h0.size ≤ t294 := or294.elim (fun q => by rw [q]; exact sz_t286) (fun q => Nat.le_trans K286.1 q)
    have E_295 := Ec286.keep Kc294
    have E_299 := Et286.keep Kc294
    have N294 := Fr.app N286 N294q
    have Z294 : n0 ≤ T294.heap.size := Nat.le_trans Z286 Kc294.1
    have K294 : Keep h0 T294.heap [] := K286.trans Kc294 (allS (Or.inr sz_b276) (allS (Or.inr sz_t286) all0))
    have FL294 : Fld Z T294.heap b276 "com/example/hermitage/hermitage/frame/JsonText" "length" "I" (.int (2 : Int32)) := FL294
    refine Gl.st (g' := (mkF m 72 #[.val (.int x0), .val (.int x1), .val (.int x2), .val (.int x3), .val (.int x4), .val (.int (x0 &&& (3 : Int32))), .val (.int (2 : Int32)), .val (.int ca), .val (.int cb), .val (.int cc), .val (.ref b276), .unset, .unset, .unset] [(.ref b276)])) (fun τ κ => st294.trans κ) ?_
    refine Gl.st (g' := (mkF m 73 #[.val (.int x0), .val (.int x1), .val (.int x2), .val (.int x3), .val (.int x4), .val (.int (x0 &&& (3 : Int32))), .val (.int (2 : Int32)), .val (.int ca), .val (.int cb), .val (.int cc), .val (.ref b276), .unset, .unset, .unset] [])) (fun τ κ => XS.pop X294.here hx rfl (hb hby at_72) rfl rfl κ) ?_
    refine Gl.st (g' := (mkF m 75 #[.val (.int x0), .val (.int x1), .val (.int x2), .val (.int x3), .val (.int x4), .val (.int (x0 &&& (3 : Int32))), .val (.int (2 : Int32)), .val (.int ca), .val (.int cb), .val (.int cc), .val (.ref b276), .unset, .unset, .unset] [(.int (2 : Int32))])) (fun τ κ => XS.iload X294.here hx rfl (hb hby at_73) rfl κ) ?_
    refine Gl.st (g' := (mkF m 76 #[.val (.int x0), .val (.int x1), .val (.int x2), .val (.int x3), .val (.int x4), .val (.int (x0 &&& (3 : Int32))), .val (.int (2 : Int32)), .val (.int ca), .val (.int cb), .val (.int cc), .val (.ref b276), .unset, .unset, .unset] [(.int (2 : Int32)), (.int (2 : Int32))])) (fun τ κ => XS.iconst X294.here hx rfl (hb hby at_75) κ) ?_
    have hc301 : ¬ ((2 : Int32) < (2 : Int32)) := by decide
    refine Gl.st (g' := (mkF m 87 #[.val (.int x0), .val (.int x1), .val (.int x2), .val (.int x3), .val (.int x4), .val (.int (x0 &&& (3 : Int32))), .val (.int (2 : Int32)), .val (.int ca), .val (.int cb), .val (.int cc), .val (.ref b276), .unset, .unset, .unset] [])) (fun τ κ => XS.icmpYes X294.here hx rfl (pc0 := 76) (pc' := 87) rfl (hb hby at_76) rfl (flt hc301).2.2.2 (by decide) (by decide) κ) ?_
    refine Gl.st (g' := (mkF m 89 #[.val (.int x0), .val (.int x1), .val (.int x2), .val (.int x3), .val (.int x4), .val (.int (x0 &&& (3 : Int32))), .val (.int (2 : Int32)), .val (.int ca), .val (.int cb), .val (.int cc), .val (.ref b276), .unset, .unset, .unset] [(.ref b276)])) (fun τ κ => XS.aload X294.here hx rfl (hb hby at_87) rfl rfl κ) ?_
    obtain ⟨cq302, kq302, q302a, q302b, q302c⟩ := isOf hZ rfl Ec294
    obtain ⟨rv302, _, ⟨T302, L302, k302, n302⟩, -, X302, ⟨Lc302, hQ302, l302, y302, z302⟩, st302⟩ := X294.virtualBack hx (y := (⟨"com/example/hermitage/hermitage/frame/JsonText", "toBytes", "()[B"⟩ : MethodName)) (z := (⟨"com/example/hermitage/hermitage/frame/JsonText", "toBytes", "()[B"⟩ : MethodName)) hown (mvT hZ (hw _ (List.mem_of_getElem? (i := 40) rfl))) (mvT hZ (hw _ (List.mem_of_getElem? (i := 41) rfl))) (notFace_of_selects (args := #[]) (mvT hZ (hw _ (List.mem_of_getElem? (i := 43) rfl)))) (mvT hZ (hw _ (List.mem_of_getElem? (i := 43) rfl))) (mvT hZ (hw _ (List.mem_of_getElem? (i := 42) rfl))) (by decide) (backOf (W := 0) (rm8 l Z a0 hw [] b276 t294 kk294 (x0 &&& (3 : Int32)) (2 : Int32) z294 vs294 T294.heap n0 Z294 Ec294 g_b276 FC294 FB294 FL294 Et294 gt294 V294 ne294 (by decide) (own_up nz294 (by decide)) z8294 (by decide)) hZ (hw _ (List.mem_of_getElem? (i := 44) rfl)) (hw _ (List.mem_of_getElem? (i := 2) rfl)) (by decide) (by decide)) q302a q302c (g := (mkF m 89 #[.val (.int x0), .val (.int x1), .val (.int x2), .val (.int x3), .val (.int x4), .val (.int (x0 &&& (3 : Int32))), .val (.int (2 : Int32)), .val (.int ca), .val (.int cb), .val (.int cc), .val (.ref b276), .unset, .unset, .unset] [(.ref b276)])) rfl (by rw [hml]; rfl) (Steps.refl _) (argsL := []) (rest := []) (lenOf pd_3 rfl) rfl (by show 2 * 0 + _ ≤ _; exact Nat.le_of_eq rfl) (hb hby at_89) (fun _ _ => ⟨rfl, rfl, (by decide : 4 + 1 ≤ _), (by decide : 26 + 8 ≤ _)⟩)
    dsimp only [Pt.U, Pt.locs, Pt.cells, Pt.slots] at X302 l302 y302 z302 st302 hQ302
    subst l302 y302 z302
    obtain ⟨b302, kk302, vs302, rfl, N302q, Kc302, s302, Ex302, V302, hv302⟩ := hQ302
    have ne_b276_b302 : b276 ≠ b302 := Nat.ne_of_lt (Nat.lt_of_lt_of_le Ec294.lt s302)
    have ne_t294_b302 : t294 ≠ b302 := Nat.ne_of_lt (Nat.lt_of_lt_of_le Et294.lt s302)
    have g_b302 : n0 ≤ b302 := Nat.le_trans Z294 s302
    have sz_b302 : h0.size ≤ b302 := Nat.le_trans K294.1 s302
    have E_303 := Ec294.keep Kc302
    have F_304 := FC294.keep Kc302 nin0
    have F_305 := FB294.keep Kc302 nin0
    have F_306 := FL294.keep Kc302 nin0
    have E_307 := Et294.keep Kc302
    have V_308 := V294.keep Kc302 nin0
    have N302 := Fr.app N294 N302q
    have Z302 : n0 ≤ T302.heap.size := Nat.le_trans Z294 Kc302.1
    have K302 : Keep h0 T302.heap [] := K294.trans Kc302 all0
    refine Gl.st (g' := (mkF m 92 #[.val (.int x0), .val (.int x1), .val (.int x2), .val (.int x3), .val (.int x4), .val (.int (x0 &&& (3 : Int32))), .val (.int (2 : Int32)), .val (.int ca), .val (.int cb), .val (.int cc), .val (.ref b276), .unset, .unset, .unset] [(.ref b302)])) (fun τ κ => st302.trans κ) ?_
    refine Gl.st (g' := (mkF m 94 #[.val (.int x0), .val (.int x1), .val (.int x2), .val (.int x3), .val (.int x4), .val (.int (x0 &&& (3 : Int32))), .val (.int (2 : Int32)), .val (.int ca), .val (.int cb), .val (.int cc), .val (.ref b276), .val (.ref b302), .unset, .unset] [])) (fun τ κ => XS.astore X302.here hx rfl (hb hby at_92) rfl rfl (l' := #[.val (.int x0), .val (.int x1), .val (.int x2), .val (.int x3), .val (.int x4), .val (.int (x0 &&& (3 : Int32))), .val (.int (2 : Int32)), .val (.int ca), .val (.int cb), .val (.int cc), .val (.ref b276), .val (.ref b302), .unset, .unset]) rfl κ) ?_
    refine Gl.st (g' := (mkF m 96 #[.val (.int x0), .val (.int x1), .val (.int x2), .val (.int x3), .val (.int x4), .val (.int (x0 &&& (3 : Int32))), .val (.int (2 : Int32)), .val (.int ca), .val (.int cb), .val (.int cc), .val (.ref b276), .val (.ref b302), .unset, .unset] [(.ref b302)])) (fun τ κ => XS.aload X302.here hx rfl (hb hby at_94) rfl rfl κ) ?_
    refine Gl.st (g' := (mkF m 98 #[.val (.int x0), .val (.int x1), .val (.int x2), .val (.int x3), .val (.int x4), .val (.int (x0 &&& (3 : Int32))), .val (.int (2 : Int32)), .val (.int ca), .val (.int cb), .val (.int cc), .val (.ref b276), .val (.ref b302), .unset, .unset] [(.int (2 : Int32)), (.ref b302)])) (fun τ κ => XS.iload X302.here hx rfl (hb hby at_96) rfl κ) ?_
    refine Gl.st (g' := (mkF m 100 #[.val (.int x0), .val (.int x1), .val (.int x2), .val (.int x3), .val (.int x4), .val (.int (x0 &&& (3 : Int32))), .val (.int (2 : Int32)), .val (.int ca), .val (.int cb), .val (.int cc), .val (.ref b276), .val (.ref b302), .unset, .unset] [(.int ca), (.int (2 : Int32)), (.ref b302)])) (fun τ κ => XS.iload X302.here hx rfl (hb hby at_98) rfl κ) ?_
    refine Gl.st (g' := (mkF m 102 #[.val (.int x0), .val (.int x1), .val (.int x2), .val (.int x3), .val (.int x4), .val (.int (x0 &&& (3 : Int32))), .val (.int (2 : Int32)), .val (.int ca), .val (.int cb), .val (.int cc), .val (.ref b276), .val (.ref b302), .unset, .unset] [(.int cb), (.int ca), (.int (2 : Int32)), (.ref b302)])) (fun τ κ => XS.iload X302.here hx rfl (hb hby at_100) rfl κ) ?_
    refine Gl.st (g' := (mkF m 104 #[.val (.int x0), .val (.int x1), .val (.int x2), .val (.int x3), .val (.int x4), .val (.int (x0 &&& (3 : Int32))), .val (.int (2 : Int32)), .val (.int ca), .val (.int cb), .val (.int cc), .val (.ref b276), .val (.ref b302), .unset, .unset] [(.int cc), (.int cb), (.int ca), (.int (2 : Int32)), (.ref b302)])) (fun τ κ => XS.iload X302.here hx rfl (hb hby at_102) rfl κ) ?_
    obtain ⟨rv309, _, ⟨T309, L309, k309, n309⟩, -, X309, ⟨Lc309, hQ309, l309, y309, z309⟩, st309⟩ := Jvm.LawKit.callS X302 hx (y := (⟨"com/example/hermitage/hermitage/frame/JsonTextToBytesPinLaw", "same", "([BICCC)Z"⟩ : MethodName)) hown (mvT hZ (hw _ (List.mem_of_getElem? (i := 45) rfl))) (mvT hZ (hw _ (List.mem_of_getElem? (i := 46) rfl))) (mvT hZ (hw _ (List.mem_of_getElem? (i := 47) rfl))) (mvT hZ (hw _ (List.mem_of_getElem? (i := 48) rfl))) (by decide) (backOf (W := 0) (rm_same2 l Z a0 hw [] b302 ca cb cc kk302 vs302 T302.heap n0 Z302 V302 ((hv302 _ (by decide)).trans ((hv294 _ (by decide)).trans hw286)) ((hv302 _ (by decide)).trans hw294)) hZ (hw _ (List.mem_of_getElem? (i := 48) rfl)) (hw _ (List.mem_of_getElem? (i := 47) rfl)) (by decide) (by decide)) (g := (mkF m 104 #[.val (.int x0), .val (.int x1), .val (.int x2), .val (.int x3), .val (.int x4), .val (.int (x0 &&& (3 : Int32))), .val (.int (2 : Int32)), .val (.int ca), .val (.int cb), .val (.int cc), .val (.ref b276), .val (.ref b302), .unset, .unset] [(.int cc), (.int cb), (.int ca), (.int (2 : Int32)), (.ref b302)])) rfl (by rw [hml]; rfl) (argsL := [(.ref b302), (.int (2 : Int32)), (.int ca), (.int cb), (.int cc)]) (rest := []) (lenOf pd_4 rfl) rfl (by show 2 * 0 + _ ≤ _; exact Nat.le_of_eq rfl) (hb hby at_104) (fun _ _ => ⟨rfl, rfl, (by decide : 5 + 0 ≤ _), (by decide : 34 + 0 ≤ _)⟩)
    dsimp only [Pt.U, Pt.locs, Pt.cells, Pt.slots] at X309 l309 y309 z309 st309 hQ309
    subst l309 y309 z309
    obtain ⟨rfl, N309q, e309⟩ := hQ309
    have N309 := Fr.app N302 N309q
    refine Gl.st (g' := (mkF m 107 #[.val (.int x0), .val (.int x1), .val (.int x2), .val (.int x3), .val (.int x4), .val (.int (x0 &&& (3 : Int32))), .val (.int (2 : Int32)), .val (.int ca), .val (.int cb), .val (.int cc), .val (.ref b276), .val (.ref b302), .unset, .unset] [(.int (1 : Int32))])) (fun τ κ => st309 _ κ) ?_
    have hc310 : ¬ ((1 : Int32) = (0 : Int32)) := by decide
    refine Gl.st (g' := (mkF m 112 #[.val (.int x0), .val (.int x1), .val (.int x2), .val (.int x3), .val (.int x4), .val (.int (x0 &&& (3 : Int32))), .val (.int (2 : Int32)), .val (.int ca), .val (.int cb), .val (.int cc), .val (.ref b276), .val (.ref b302), .unset, .unset] [])) (fun τ κ => XS.ifYes X309.here hx rfl (pc0 := 107) (pc' := 112) rfl (hb hby at_107) rfl ((if0 _ _).trans (feq hc310).2) (by decide) (by decide) κ) ?_
    refine Gl.st (g' := (mkF m 114 #[.val (.int x0), .val (.int x1), .val (.int x2), .val (.int x3), .val (.int x4), .val (.int (x0 &&& (3 : Int32))), .val (.int (2 : Int32)), .val (.int ca), .val (.int cb), .val (.int cc), .val (.ref b276), .val (.ref b302), .unset, .unset] [(.int (2 : Int32))])) (fun τ κ => XS.iload X309.here hx rfl (hb hby at_112) rfl κ) ?_
    have hc311 : (0 : Int32) < (2 : Int32) := by decide
    refine Gl.st (g' := (mkF m 117 #[.val (.int x0), .val (.int x1), .val (.int x2), .val (.int x3), .val (.int x4), .val (.int (x0 &&& (3 : Int32))), .val (.int (2 : Int32)), .val (.int ca), .val (.int cb), .val (.int cc), .val (.ref b276), .val (.ref b302), .unset, .unset] [])) (fun τ κ => XS.ifNo X309.here hx rfl (hb hby at_114) rfl ((if0 _ _).trans (tlt hc311).2.2.2) κ) ?_
    refine Gl.st (g' := (mkF m 119 #[.val (.int x0), .val (.int x1), .val (.int x2), .val (.int x3), .val (.int x4), .val (.int (x0 &&& (3 : Int32))), .val (.int (2 : Int32)), .val (.int ca), .val (.int cb), .val (.int cc), .val (.ref b276), .val (.ref b302), .unset, .unset] [(.ref b302)])) (fun τ κ => XS.aload X309.here hx rfl (hb hby at_117) rfl rfl κ) ?_
    refine Gl.st (g' := (mkF m 120 #[.val (.int x0), .val (.int x1), .val (.int x2), .val (.int x3), .val (.int x4), .val (.int (x0 &&& (3 : Int32))), .val (.int (2 : Int32)), .val (.int ca), .val (.int cb), .val (.int cc), .val (.ref b276), .val (.ref b302), .unset, .unset] [(.int (0 : Int32)), (.ref b302)])) (fun τ κ => XS.iconst X309.here hx rfl (hb hby at_119) κ) ?_
    refine Gl.st (g' := (mkF m 122 #[.val (.int x0), .val (.int x1), .val (.int x2), .val (.int x3), .val (.int x4), .val (.int (x0 &&& (3 : Int32))), .val (.int (2 : Int32)), .val (.int ca), .val (.int cb), .val (.int cc), .val (.ref b276), .val (.ref b302), .unset, .unset] [(.ref b302), (.int (0 : Int32)), (.ref b302)])) (fun τ κ => XS.aload X309.here hx rfl (hb hby at_120) rfl rfl κ) ?_
    refine Gl.st (g' := (mkF m 123 #[.val (.int x0), .val (.int x1), .val (.int x2), .val (.int x3), .val (.int x4), .val (.int (x0 &&& (3 : Int32))), .val (.int (2 : Int32)), .val (.int ca), .val (.int cb), .val (.int cc), .val (.ref b276), .val (.ref b302), .unset, .unset] [(.int (0 : Int32)), (.ref b302), (.int (0 : Int32)), (.ref b302)])) (fun τ κ => XS.iconst X309.here hx rfl (hb hby at_122) κ) ?_
    obtain ⟨cl_o312, Ar_o312, q_o312, S_o312, M_o312, H_o312, G_o312⟩ := id V302
    have hin_o312 : ¬ ((0 : Int32) < 0 ∨ cl_o312.slots.size ≤ ((0 : Int32)).toNatClampNeg) := inb_of S_o312 ⟨by decide, by decide⟩
    refine Gl.st (g' := (mkF m 124 #[.val (.int x0), .val (.int x1), .val (.int x2), .val (.int x3), .val (.int x4), .val (.int (x0 &&& (3 : Int32))), .val (.int (2 : Int32)), .val (.int ca), .val (.int cb), .val (.int cc), .val (.ref b276), .val (.ref b302), .unset, .unset] [(.int (ca.toInt8.toInt32)), (.int (0 : Int32)), (.ref b302)])) (fun τ κ => X309.baloadBytes hx (j := (0 : Int32)) (v := (.int (ca.toInt8.toInt32))) (by rw [e309]; exact Ar_o312.1) (State.isArrayOf_alike hZ.alike Ar_o312.2.1) Ar_o312.2.2 hin_o312 ((H_o312 _ (Nat.lt_of_not_le fun q => hin_o312 (Or.inr q))).trans (congrArg some ((hv302 _ (by decide)).trans ((hv294 _ (by decide)).trans hw286)))) (g := (mkF m 123 #[.val (.int x0), .val (.int x1), .val (.int x2), .val (.int x3), .val (.int x4), .val (.int (x0 &&& (3 : Int32))), .val (.int (2 : Int32)), .val (.int ca), .val (.int cb), .val (.int cc), .val (.ref b276), .val (.ref b302), .unset, .unset] [(.int (0 : Int32)), (.ref b302), (.int (0 : Int32)), (.ref b302)])) rfl rfl (hb hby at_123) _ κ) ?_
    refine Gl.st (g' := (mkF m 125 #[.val (.int x0), .val (.int x1), .val (.int x2), .val (.int x3), .val (.int x4), .val (.int (x0 &&& (3 : Int32))), .val (.int (2 : Int32)), .val (.int ca), .val (.int cb), .val (.int cc), .val (.ref b276), .val (.ref b302), .unset, .unset] [(.int (1 : Int32)), (.int (ca.toInt8.toInt32)), (.int (0 : Int32)), (.ref b302)])) (fun τ κ => XS.iconst X309.here hx rfl (hb hby at_124) κ) ?_
    refine Gl.st (g' := (mkF m 126 #[.val (.int x0), .val (.int x1), .val (.int x2), .val (.int x3), .val (.int x4), .val (.int (x0 &&& (3 : Int32))), .val (.int (2 : Int32)), .val (.int ca), .val (.int cb), .val (.int cc), .val (.ref b276), .val (.ref b302), .unset, .unset] [(.int ((ca.toInt8.toInt32) ^^^ (1 : Int32))), (.int (0 : Int32)), (.ref b302)])) (fun τ κ => XS.ixor X309.here hx rfl (hb hby at_125) rfl κ) ?_
    refine Gl.st (g' := (mkF m 127 #[.val (.int x0), .val (.int x1), .val (.int x2), .val (.int x3), .val (.int x4), .val (.int (x0 &&& (3 : Int32))), .val (.int (2 : Int32)), .val (.int ca), .val (.int cb), .val (.int cc), .val (.ref b276), .val (.ref b302), .unset, .unset] [(.int (((ca.toInt8.toInt32) ^^^ (1 : Int32)).toInt8.toInt32)), (.int (0 : Int32)), (.ref b302)])) (fun τ κ => XS.i2b X309.here hx rfl (hb hby at_126) rfl κ) ?_
    obtain ⟨cl_o313, Ar_o313, q_o313, S_o313, M_o313, H_o313, G_o313⟩ := id V302
    have hin_o313 : ¬ ((0 : Int32) < 0 ∨ cl_o313.slots.size ≤ ((0 : Int32)).toNatClampNeg) := inb_of S_o313 ⟨by decide, by decide⟩
    obtain ⟨T314, h314, X314, e314, W314, st314⟩ := stB X309 hx hZ e309 Ar_o313 (j := (0 : Int32)) hin_o313 (g := (mkF m 127 #[.val (.int x0), .val (.int x1), .val (.int x2), .val (.int x3), .val (.int x4), .val (.int (x0 &&& (3 : Int32))), .val (.int (2 : Int32)), .val (.int ca), .val (.int cb), .val (.int cc), .val (.ref b276), .val (.ref b302), .unset, .unset] [(.int (((ca.toInt8.toInt32) ^^^ (1 : Int32)).toInt8.toInt32)), (.int (0 : Int32)), (.ref b302)])) rfl rfl (hb hby at_127)
    obtain ⟨vs314, hvs314⟩ := own_upd vs302 ((0 : Int32)).toNatClampNeg (.int (nar .byte (((ca.toInt8.toInt32) ^^^ (1 : Int32)).toInt8.toInt32))) (.int (0 : Int32))
    have E_315 := E_303.wr W314
    have F_316 := F_304.other W314 (Or.inl ne_b276_b302)
    have F_317 := F_305.other W314 (Or.inl ne_b276_b302)
    have F_318 := F_306.other W314 (Or.inl ne_b276_b302)
    have E_319 := E_307.wr W314
    have V_320 := V_308.other W314 ne_t294_b302
    have E_321 := Ex302.wr W314
    have N314 := Fr.snoc X314 N309 g_b302
    have Z314 : n0 ≤ h314.size := Nat.le_trans Z302 (Nat.le_of_eq W314.size.symm)
    have K314 : Keep h0 h314 [] := K302.wr W314 (Or.inr sz_b302)
    have V_b302_314 : Arv Z h314 b302 kk302 .byte (2 : Int32) vs314 (.int (0 : Int32)) := own_set Ar_o313 q_o313 S_o313 M_o313 H_o313 G_o313 (fits_nar_byte _) W314 hvs314
    refine Gl.st (g' := (mkF m 128 #[.val (.int x0), .val (.int x1), .val (.int x2), .val (.int x3), .val (.int x4), .val (.int (x0 &&& (3 : Int32))), .val (.int (2 : Int32)), .val (.int ca), .val (.int cb), .val (.int cc), .val (.ref b276), .val (.ref b302), .unset, .unset] [])) (fun τ κ => st314 _ κ) ?_
    refine Gl.st (g' := (mkF m 130 #[.val (.int x0), .val (.int x1), .val (.int x2), .val (.int x3), .val (.int x4), .val (.int (x0 &&& (3 : Int32))), .val (.int (2 : Int32)), .val (.int ca), .val (.int cb), .val (.int cc), .val (.ref b276), .val (.ref b302), .unset, .unset] [(.ref b276)])) (fun τ κ => XS.aload X314.here hx rfl (hb hby at_128) rfl rfl κ) ?_
    obtain ⟨cq323, kq323, q323a, q323b, q323c⟩ := isOf hZ e314 E_315
    obtain ⟨rv323, _, ⟨T323, L323, k323, n323⟩, -, X323, ⟨Lc323, hQ323, l323, y323, z323⟩, st323⟩ := X314.virtualBack hx (y := (⟨"com/example/hermitage/hermitage/frame/JsonText", "toBytes", "()[B"⟩ : MethodName)) (z := (⟨"com/example/hermitage/hermitage/frame/JsonText", "toBytes", "()[B"⟩ : MethodName)) hown (mvT hZ (hw _ (List.mem_of_getElem? (i := 40) rfl))) (mvT hZ (hw _ (List.mem_of_getElem? (i := 41) rfl))) (notFace_of_selects (args := #[]) (mvT hZ (hw _ (List.mem_of_getElem? (i := 43) rfl)))) (mvT hZ (hw _ (List.mem_of_getElem? (i := 43) rfl))) (mvT hZ (hw _ (List.mem_of_getElem? (i := 42) rfl))) (by decide) (backOf (W := 0) (rm8 l Z a0 hw [] b276 t294 kk294 (x0 &&& (3 : Int32)) (2 : Int32) z294 vs294 h314 n0 Z314 E_315 g_b276 F_316 F_317 F_318 E_319 gt294 V_320 ne294 (by decide) (own_up nz294 (by decide)) z8294 (by decide)) hZ (hw _ (List.mem_of_getElem? (i := 44) rfl)) (hw _ (List.mem_of_getElem? (i := 2) rfl)) (by decide) (by decide)) q323a q323c (g := (mkF m 130 #[.val (.int x0), .val (.int x1), .val (.int x2), .val (.int x3), .val (.int x4), .val (.int (x0 &&& (3 : Int32))), .val (.int (2 : Int32)), .val (.int ca), .val (.int cb), .val (.int cc), .val (.ref b276), .val (.ref b302), .unset, .unset] [(.ref b276)])) rfl (by rw [hml]; rfl) (Steps.refl _) (argsL := []) (rest := []) (lenOf pd_3 rfl) rfl (by show 2 * 0 + _ ≤ _; exact Nat.le_of_eq rfl) (hb hby at_130) (fun _ _ => ⟨rfl, e314, (by decide : 5 + 1 ≤ _), (by decide : 34 + 8 ≤ _)⟩)
    dsimp only [Pt.U, Pt.locs, Pt.cells, Pt.slots] at X323 l323 y323 z323 st323 hQ323
    subst l323 y323 z323
    obtain ⟨b323, kk323, vs323, rfl, N323q, Kc323, s323, Ex323, V323, hv323⟩ := hQ323
    have ne_b276_b323 : b276 ≠ b323 := Nat.ne_of_lt (Nat.lt_of_lt_of_le E_315.lt s323)
    have ne_t294_b323 : t294 ≠ b323 := Nat.ne_of_lt (Nat.lt_of_lt_of_le E_319.lt s323)
    have ne_b302_b323 : b302 ≠ b323 := Nat.ne_of_lt (Nat.lt_of_lt_of_le E_321.lt s323)
    have g_b323 : n0 ≤ b323 := Nat.le_trans Z314 s323
    have sz_b323 : h0.size ≤ b323 := Nat.le_trans K314.1 s323
    have E_324 := E_315.keep Kc323
    have F_325 := F_316.keep Kc323 nin0
    have F_326 := F_317.keep Kc323 nin0
    have F_327 := F_318.keep Kc323 nin0
    have E_328 := E_319.keep Kc323
    have V_329 := V_320.keep Kc323 nin0
    have E_330 := E_321.keep Kc323
    have V_331 := V_b302_314.keep Kc323 nin0
    have N323 := Fr.app N314 N323q
    have Z323 : n0 ≤ T323.heap.size := Nat.le_trans Z314 Kc323.1
    have K323 : Keep h0 T323.heap [] := K314.trans Kc323 all0
    refine Gl.st (g' := (mkF m 133 #[.val (.int x0), .val (.int x1), .val (.int x2), .val (.int x3), .val (.int x4), .val (.int (x0 &&& (3 : Int32))), .val (.int (2 : Int32)), .val (.int ca), .val (.int cb), .val (.int cc), .val (.ref b276), .val (.ref b302), .unset, .unset] [(.ref b323)])) (fun τ κ => st323.trans κ) ?_
    refine Gl.st (g' := (mkF m 135 #[.val (.int x0), .val (.int x1), .val (.int x2), .val (.int x3), .val (.int x4), .val (.int (x0 &&& (3 : Int32))), .val (.int (2 : Int32)), .val (.int ca), .val (.int cb), .val (.int cc), .val (.ref b276), .val (.ref b302), .val (.ref b323), .unset] [])) (fun τ κ => XS.astore X323.here hx rfl (hb hby at_133) rfl rfl (l' := #[.val (.int x0), .val (.int x1), .val (.int x2), .val (.int x3), .val (.int x4), .val (.int (x0 &&& (3 : Int32))), .val (.int (2 : Int32)), .val (.int ca), .val (.int cb), .val (.int cc), .val (.ref b276), .val (.ref b302), .val (.ref b323), .unset]) rfl κ) ?_
    refine Gl.st (g' := (mkF m 137 #[.val (.int x0), .val (.int x1), .val (.int x2), .val (.int x3), .val (.int x4), .val (.int (x0 &&& (3 : Int32))), .val (.int (2 : Int32)), .val (.int ca), .val (.int cb), .val (.int cc), .val (.ref b276), .val (.ref b302), .val (.ref b323), .unset] [(.ref b323)])) (fun τ κ => XS.aload X323.here hx rfl (hb hby at_135) rfl rfl κ) ?_
    refine Gl.st (g' := (mkF m 139 #[.val (.int x0), .val (.int x1), .val (.int x2), .val (.int x3), .val (.int x4), .val (.int (x0 &&& (3 : Int32))), .val (.int (2 : Int32)), .val (.int ca), .val (.int cb), .val (.int cc), .val (.ref b276), .val (.ref b302), .val (.ref b323), .unset] [(.ref b302), (.ref b323)])) (fun τ κ => XS.aload X323.here hx rfl (hb hby at_137) rfl rfl κ) ?_
    refine Gl.st (g' := (mkF m 144 #[.val (.int x0), .val (.int x1), .val (.int x2), .val (.int x3), .val (.int x4), .val (.int (x0 &&& (3 : Int32))), .val (.int (2 : Int32)), .val (.int ca), .val (.int cb), .val (.int cc), .val (.ref b276), .val (.ref b302), .val (.ref b323), .unset] [])) (fun τ κ => Jvm.RoadKit.acmp (g := (mkF m 139 #[.val (.int x0), .val (.int x1), .val (.int x2), .val (.int x3), .val (.int x4), .val (.int (x0 &&& (3 : Int32))), .val (.int (2 : Int32)), .val (.int ca), .val (.int cb), .val (.int cc), .val (.ref b276), .val (.ref b302), .val (.ref b323), .unset] [(.ref b302), (.ref b323)])) X323 hx rfl rfl rfl (pc0 := 139) (pc' := 144) (same := false) rfl (hb hby at_139) rfl (decide_eq_false fun q => (Ne.symm ne_b302_b323) (Value.ref.inj q)) (by decide) (by decide) κ) ?_
    refine Gl.st (g' := (mkF m 146 #[.val (.int x0), .val (.int x1), .val (.int x2), .val (.int x3), .val (.int x4), .val (.int (x0 &&& (3 : Int32))), .val (.int (2 : Int32)), .val (.int ca), .val (.int cb), .val (.int cc), .val (.ref b276), .val (.ref b302), .val (.ref b323), .unset] [(.ref b323)])) (fun τ κ => XS.aload X323.here hx rfl (hb hby at_144) rfl rfl κ) ?_
    refine Gl.st (g' := (mkF m 148 #[.val (.int x0), .val (.int x1), .val (.int x2), .val (.int x3), .val (.int x4), .val (.int (x0 &&& (3 : Int32))), .val (.int (2 : Int32)), .val (.int ca), .val (.int cb), .val (.int cc), .val (.ref b276), .val (.ref b302), .val (.ref b323), .unset] [(.int (2 : Int32)), (.ref b323)])) (fun τ κ => XS.iload X323.here hx rfl (hb hby at_146) rfl κ) ?_
    refine Gl.st (g' := (mkF m 150 #[.val (.int x0), .val (.int x1), .val (.int x2), .val (.int x3), .val (.int x4), .val (.int (x0 &&& (3 : Int32))), .val (.int (2 : Int32)), .val (.int ca), .val (.int cb), .val (.int cc), .val (.ref b276), .val (.ref b302), .val (.ref b323), .unset] [(.int ca), (.int (2 : Int32)), (.ref b323)])) (fun τ κ => XS.iload X323.here hx rfl (hb hby at_148) rfl κ) ?_
    refine Gl.st (g' := (mkF m 152 #[.val (.int x0), .val (.int x1), .val (.int x2), .val (.int x3), .val (.int x4), .val (.int (x0 &&& (3 : Int32))), .val (.int (2 : Int32)), .val (.int ca), .val (.int cb), .val (.int cc), .val (.ref b276), .val (.ref b302), .val (.ref b323), .unset] [(.int cb), (.int ca), (.int (2 : Int32)), (.ref b323)])) (fun τ κ => XS.iload X323.here hx rfl (hb hby at_150) rfl κ) ?_
    refine Gl.st (g' := (mkF m 154 #[.val (.int x0), .val (.int x1), .val (.int x2), .val (.int x3), .val (.int x4), .val (.int (x0 &&& (3 : Int32))), .val (.int (2 : Int32)), .val (.int ca), .val (.int cb), .val (.int cc), .val (.ref b276), .val (.ref b302), .val (.ref b323), .unset] [(.int cc), (.int cb), (.int ca), (.int (2 : Int32)), (.ref b323)])) (fun τ κ => XS.iload X323.here hx rfl (hb hby at_152) rfl κ) ?_
    obtain ⟨rv332, _, ⟨T332, L332, k332, n332⟩, -, X332, ⟨Lc332, hQ332, l332, y332, z332⟩, st332⟩ := Jvm.LawKit.callS X323 hx (y := (⟨"com/example/hermitage/hermitage/frame/JsonTextToBytesPinLaw", "same", "([BICCC)Z"⟩ : MethodName)) hown (mvT hZ (hw _ (List.mem_of_getElem? (i := 45) rfl))) (mvT hZ (hw _ (List.mem_of_getElem? (i := 46) rfl))) (mvT hZ (hw _ (List.mem_of_getElem? (i := 47) rfl))) (mvT hZ (hw _ (List.mem_of_getElem? (i := 48) rfl))) (by decide) (backOf (W := 0) (rm_same2 l Z a0 hw [] b323 ca cb cc kk323 vs323 T323.heap n0 Z323 V323 ((hv323 _ (by decide)).trans ((hv294 _ (by decide)).trans hw286)) ((hv323 _ (by decide)).trans hw294)) hZ (hw _ (List.mem_of_getElem? (i := 48) rfl)) (hw _ (List.mem_of_getElem? (i := 47) rfl)) (by decide) (by decide)) (g := (mkF m 154 #[.val (.int x0), .val (.int x1), .val (.int x2), .val (.int x3), .val (.int x4), .val (.int (x0 &&& (3 : Int32))), .val (.int (2 : Int32)), .val (.int ca), .val (.int cb), .val (.int cc), .val (.ref b276), .val (.ref b302), .val (.ref b323), .unset] [(.int cc), (.int cb), (.int ca), (.int (2 : Int32)), (.ref b323)])) rfl (by rw [hml]; rfl) (argsL := [(.ref b323), (.int (2 : Int32)), (.int ca), (.int cb), (.int cc)]) (rest := []) (lenOf pd_4 rfl) rfl (by show 2 * 0 + _ ≤ _; exact Nat.le_of_eq rfl) (hb hby at_154) (fun _ _ => ⟨rfl, rfl, (by decide : 6 + 0 ≤ _), (by decide : 42 + 0 ≤ _)⟩)
    dsimp only [Pt.U, Pt.locs, Pt.cells, Pt.slots] at X332 l332 y332 z332 st332 hQ332
    subst l332 y332 z332
    obtain ⟨rfl, N332q, e332⟩ := hQ332
    have N332 := Fr.app N323 N332q
    refine Gl.st (g' := (mkF m 157 #[.val (.int x0), .val (.int x1), .val (.int x2), .val (.int x3), .val (.int x4), .val (.int (x0 &&& (3 : Int32))), .val (.int (2 : Int32)), .val (.int ca), .val (.int cb), .val (.int cc), .val (.ref b276), .val (.ref b302), .val (.ref b323), .unset] [(.int (1 : Int32))])) (fun τ κ => st332 _ κ) ?_
    have hc333 : ¬ ((1 : Int32) = (0 : Int32)) := by decide
    refine Gl.st (g' := (mkF m 162 #[.val (.int x0), .val (.int x1), .val (.int x2), .val (.int x3), .val (.int x4), .val (.int (x0 &&& (3 : Int32))), .val (.int (2 : Int32)), .val (.int ca), .val (.int cb), .val (.int cc), .val (.ref b276), .val (.ref b302), .val (.ref b323), .unset] [])) (fun τ κ => XS.ifYes X332.here hx rfl (pc0 := 157) (pc' := 162) rfl (hb hby at_157) rfl ((if0 _ _).trans (feq hc333).2) (by decide) (by decide) κ) ?_
    refine Gl.st (g' := (mkF m 164 #[.val (.int x0), .val (.int x1), .val (.int x2), .val (.int x3), .val (.int x4), .val (.int (x0 &&& (3 : Int32))), .val (.int (2 : Int32)), .val (.int ca), .val (.int cb), .val (.int cc), .val (.ref b276), .val (.ref b302), .val (.ref b323), .unset] [(.ref b276)])) (fun τ κ => XS.aload X332.here hx rfl (hb hby at_162) rfl rfl κ) ?_
    obtain ⟨cq334, kq334, q334a, q334b, q334c⟩ := isOf hZ e332 E_324
    obtain ⟨rv334, _, ⟨T334, L334, k334, n334⟩, -, X334, ⟨Lc334, hQ334, l334, y334, z334⟩, st334⟩ := X332.virtualBack hx (y := (⟨"com/example/hermitage/hermitage/frame/JsonText", "clear", "()Lcom/example/hermitage/hermitage/frame/JsonText;"⟩ : MethodName)) (z := (⟨"com/example/hermitage/hermitage/frame/JsonText", "clear", "()Lcom/example/hermitage/hermitage/frame/JsonText;"⟩ : MethodName)) hown (mvT hZ (hw _ (List.mem_of_getElem? (i := 49) rfl))) (mvT hZ (hw _ (List.mem_of_getElem? (i := 50) rfl))) (notFace_of_selects (args := #[]) (mvT hZ (hw _ (List.mem_of_getElem? (i := 52) rfl)))) (mvT hZ (hw _ (List.mem_of_getElem? (i := 52) rfl))) (mvT hZ (hw _ (List.mem_of_getElem? (i := 51) rfl))) (by decide) (backOf (W := 0) (rm10 l Z a0 hw [] b276 t294 kk294 (x0 &&& (3 : Int32)) (2 : Int32) z294 vs294 T323.heap n0 Z323 E_324 g_b276 F_325 F_326 F_327 E_328 gt294 V_329 ne294 (by decide) (own_up nz294 (by decide)) z8294) hZ (hw _ (List.mem_of_getElem? (i := 53) rfl)) (hw _ (List.mem_of_getElem? (i := 2) rfl)) (by decide) (by decide)) q334a q334c (g := (mkF m 164 #[.val (.int x0), .val (.int x1), .val (.int x2), .val (.int x3), .val (.int x4), .val (.int (x0 &&& (3 : Int32))), .val (.int (2 : Int32)), .val (.int ca), .val (.int cb), .val (.int cc), .val (.ref b276), .val (.ref b302), .val (.ref b323), .unset] [(.ref b276)])) rfl (by rw [hml]; rfl) (Steps.refl _) (argsL := []) (rest := []) (lenOf pd_5 rfl) rfl (by show 2 * 0 + _ ≤ _; exact Nat.le_of_eq rfl) (hb hby at_164) (fun _ _ => ⟨rfl, e332, (by decide : 6 + 0 ≤ _), (by decide : 42 + 0 ≤ _)⟩)
    dsimp only [Pt.U, Pt.locs, Pt.cells, Pt.slots] at X334 l334 y334 z334 st334 hQ334
    subst l334 y334 z334
    obtain ⟨rfl, N334q, Kc334, Ec334, FC334, FB334, FL334⟩ := hQ334
    have E_335 := E_324.keep Kc334
    have E_339 := E_328.keep Kc334
    have V_340 := V_329.keep Kc334 (ninS (Ne.symm ne294) nin0)
    have E_341 := E_330.keep Kc334
    have V_342 := V_331.keep Kc334 (ninS (Ne.symm ne_b276_b302) nin0)
    have E_343 := Ex323.keep Kc334
    have V_344 := V323.keep Kc334 (ninS (Ne.symm ne_b276_b323) nin0)
    have N334 := Fr.app N332 N334q
    have Z334 : n0 ≤ T334.heap.size := Nat.le_trans Z323 Kc334.1
    have K334 : Keep h0 T334.heap [] := K323.trans Kc334 (allS (Or.inr sz_b276) all0)
    refine Gl.st (g' := (mkF m 167 #[.val (.int x0), .val (.int x1), .val (.int x2), .val (.int x3), .val (.int x4), .val (.int (x0 &&& (3 : Int32))), .val (.int (2 : Int32)), .val (.int ca), .val (.int cb), .val (.int cc), .val (.ref b276), .val (.ref b302), .val (.ref b323), .unset] [(.ref b276)])) (fun τ κ => st334.trans κ) ?_
    refine Gl.st (g' := (mkF m 168 #[.val (.int x0), .val (.int x1), .val (.int x2), .val (.int x3), .val (.int x4), .val (.int (x0 &&& (3 : Int32))), .val (.int (2 : Int32)), .val (.int ca), .val (.int cb), .val (.int cc), .val (.ref b276), .val (.ref b302), .val (.ref b323), .unset] [])) (fun τ κ => XS.pop X334.here hx rfl (hb hby at_167) rfl rfl κ) ?_
    refine Gl.st (g' := (mkF m 170 #[.val (.int x0), .val (.int x1), .val (.int x2), .val (.int x3), .val (.int x4), .val (.int (x0 &&& (3 : Int32))), .val (.int (2 : Int32)), .val (.int ca), .val (.int cb), .val (.int cc), .val (.ref b276), .val (.ref b302), .val (.ref b323), .unset] [(.ref b276)])) (fun τ κ => XS.aload X334.here hx rfl (hb hby at_168) rfl rfl κ) ?_
    obtain ⟨cq345, kq345, q345a, q345b, q345c⟩ := isOf hZ rfl Ec334
    obtain ⟨rv345, _, ⟨T345, L345, k345, n345⟩, -, X345, ⟨Lc345, hQ345, l345, y345, z345⟩, st345⟩ := X334.virtualBack hx (y := (⟨"com/example/hermitage/hermitage/frame/JsonText", "toBytes", "()[B"⟩ : MethodName)) (z := (⟨"com/example/hermitage/hermitage/frame/JsonText", "toBytes", "()[B"⟩ : MethodName)) hown (mvT hZ (hw _ (List.mem_of_getElem? (i := 40) rfl))) (mvT hZ (hw _ (List.mem_of_getElem? (i := 41) rfl))) (notFace_of_selects (args := #[]) (mvT hZ (hw _ (List.mem_of_getElem? (i := 43) rfl)))) (mvT hZ (hw _ (List.mem_of_getElem? (i := 43) rfl))) (mvT hZ (hw _ (List.mem_of_getElem? (i := 42) rfl))) (by decide) (backOf (W := 0) (rm8 l Z a0 hw [] b276 t294 kk294 (x0 &&& (3 : Int32)) (0 : Int32) z294 vs294 T334.heap n0 Z334 Ec334 g_b276 FC334 FB334 FL334 E_339 gt294 V_340 ne294 (by decide) (own_zn (n := (2 : Int32)) (by decide) (own_up nz294 (by decide))) z8294 (by decide)) hZ (hw _ (List.mem_of_getElem? (i := 44) rfl)) (hw _ (List.mem_of_getElem? (i := 2) rfl)) (by decide) (by decide)) q345a q345c (g := (mkF m 170 #[.val (.int x0), .val (.int x1), .val (.int x2), .val (.int x3), .val (.int x4), .val (.int (x0 &&& (3 : Int32))), .val (.int (2 : Int32)), .val (.int ca), .val (.int cb), .val (.int cc), .val (.ref b276), .val (.ref b302), .val (.ref b323), .unset] [(.ref b276)])) rfl (by rw [hml]; rfl) (Steps.refl _) (argsL := []) (rest := []) (lenOf pd_3 rfl) rfl (by show 2 * 0 + _ ≤ _; exact Nat.le_of_eq rfl) (hb hby at_170) (fun _ _ => ⟨rfl, rfl, (by decide : 6 + 1 ≤ _), (by decide : 42 + 8 ≤ _)⟩)
    dsimp only [Pt.U, Pt.locs, Pt.cells, Pt.slots] at X345 l345 y345 z345 st345 hQ345
    subst l345 y345 z345
    obtain ⟨b345, kk345, vs345, rfl, N345q, Kc345, s345, Ex345, V345, hv345⟩ := hQ345
    have ne_b276_b345 : b276 ≠ b345 := Nat.ne_of_lt (Nat.lt_of_lt_of_le Ec334.lt s345)
    have ne_t294_b345 : t294 ≠ b345 := Nat.ne_of_lt (Nat.lt_of_lt_of_le E_339.lt s345)
    have ne_b302_b345 : b302 ≠ b345 := Nat.ne_of_lt (Nat.lt_of_lt_of_le E_341.lt s345)
    have ne_b323_b345 : b323 ≠ b345 := Nat.ne_of_lt (Nat.lt_of_lt_of_le E_343.lt s345)
    have g_b345 : n0 ≤ b345 := Nat.le_trans Z334 s345
    have sz_b345 : h0.size ≤ b345 := Nat.le_trans K334.1 s345
    have E_346 := Ec334.keep Kc345
    have E_347 := E_339.keep Kc345
    have V_348 := V_340.keep Kc345 nin0
    have E_349 := E_341.keep Kc345
    have V_350 := V_342.keep Kc345 nin0
    have E_351 := E_343.keep Kc345
    have V_352 := V_344.keep Kc345 nin0
    have F_353 := FC334.keep Kc345 nin0
    have F_354 := FB334.keep Kc345 nin0
    have F_355 := FL334.keep Kc345 nin0
    have N345 := Fr.app N334 N345q
    have Z345 : n0 ≤ T345.heap.size := Nat.le_trans Z334 Kc345.1
    have K345 : Keep h0 T345.heap [] := K334.trans Kc345 all0
    refine Gl.st (g' := (mkF m 173 #[.val (.int x0), .val (.int x1), .val (.int x2), .val (.int x3), .val (.int x4), .val (.int (x0 &&& (3 : Int32))), .val (.int (2 : Int32)), .val (.int ca), .val (.int cb), .val (.int cc), .val (.ref b276), .val (.ref b302), .val (.ref b323), .unset] [(.ref b345)])) (fun τ κ => st345.trans κ) ?_
    refine Gl.st (g' := (mkF m 175 #[.val (.int x0), .val (.int x1), .val (.int x2), .val (.int x3), .val (.int x4), .val (.int (x0 &&& (3 : Int32))), .val (.int (2 : Int32)), .val (.int ca), .val (.int cb), .val (.int cc), .val (.ref b276), .val (.ref b302), .val (.ref b323), .val (.ref b345)] [])) (fun τ κ => XS.astore X345.here hx rfl (hb hby at_173) rfl rfl (l' := #[.val (.int x0), .val (.int x1), .val (.int x2), .val (.int x3), .val (.int x4), .val (.int (x0 &&& (3 : Int32))), .val (.int (2 : Int32)), .val (.int ca), .val (.int cb), .val (.int cc), .val (.ref b276), .val (.ref b302), .val (.ref b323), .val (.ref b345)]) rfl κ) ?_
    refine Gl.st (g' := (mkF m 177 #[.val (.int x0), .val (.int x1), .val (.int x2), .val (.int x3), .val (.int x4), .val (.int (x0 &&& (3 : Int32))), .val (.int (2 : Int32)), .val (.int ca), .val (.int cb), .val (.int cc), .val (.ref b276), .val (.ref b302), .val (.ref b323), .val (.ref b345)] [(.ref b345)])) (fun τ κ => XS.aload X345.here hx rfl (hb hby at_175) rfl rfl κ) ?_
    obtain ⟨cl_o356, Ar_o356, q_o356, S_o356, M_o356, H_o356, G_o356⟩ := id V345
    refine Gl.st (g' := (mkF m 178 #[.val (.int x0), .val (.int x1), .val (.int x2), .val (.int x3), .val (.int x4), .val (.int (x0 &&& (3 : Int32))), .val (.int (2 : Int32)), .val (.int ca), .val (.int cb), .val (.int cc), .val (.ref b276), .val (.ref b302), .val (.ref b323), .val (.ref b345)] [(.int (0 : Int32))])) (fun τ κ => X345.arraylength hx Ar_o356.1 (State.isArrayOf_alike hZ.alike Ar_o356.2.1) (g := (mkF m 177 #[.val (.int x0), .val (.int x1), .val (.int x2), .val (.int x3), .val (.int x4), .val (.int (x0 &&& (3 : Int32))), .val (.int (2 : Int32)), .val (.int ca), .val (.int cb), .val (.int cc), .val (.ref b276), .val (.ref b302), .val (.ref b323), .val (.ref b345)] [(.ref b345)])) rfl rfl (hb hby at_177) _ (by rw [len_of S_o356 M_o356]; exact κ)) ?_
    have hc357 : (0 : Int32) = (0 : Int32) := by decide
    refine Gl.st (g' := (mkF m 181 #[.val (.int x0), .val (.int x1), .val (.int x2), .val (.int x3), .val (.int x4), .val (.int (x0 &&& (3 : Int32))), .val (.int (2 : Int32)), .val (.int ca), .val (.int cb), .val (.int cc), .val (.ref b276), .val (.ref b302), .val (.ref b323), .val (.ref b345)] [])) (fun τ κ => XS.ifNo X345.here hx rfl (hb hby at_178) rfl ((if0 _ _).trans (teq hc357).2) κ) ?_
    refine Gl.st (g' := (mkF m 182 #[.val (.int x0), .val (.int x1), .val (.int x2), .val (.int x3), .val (.int x4), .val (.int (x0 &&& (3 : Int32))), .val (.int (2 : Int32)), .val (.int ca), .val (.int cb), .val (.int cc), .val (.ref b276), .val (.ref b302), .val (.ref b323), .val (.ref b345)] [(.int (1 : Int32))])) (fun τ κ => XS.iconst X345.here hx rfl (hb hby at_181) κ) ?_
    refine Gl.st (g' := (mkF m 186 #[.val (.int x0), .val (.int x1), .val (.int x2), .val (.int x3), .val (.int x4), .val (.int (x0 &&& (3 : Int32))), .val (.int (2 : Int32)), .val (.int ca), .val (.int cb), .val (.int cc), .val (.ref b276), .val (.ref b302), .val (.ref b323), .val (.ref b345)] [(.int (1 : Int32))])) (fun τ κ => XS.goto X345.here hx rfl (pc0 := 182) (pc' := 186) rfl (hb hby at_182) (by decide) (by decide) κ) ?_
    exact Gl.ret (v := some (.int (1 : Int32))) X345 Bd.notSynchronized (fun h => by rw [Bd.returns] at h; cases h) rfl (fun fs hr => retN X345 hx (t := .boolean) Bd.returns (by simp) (hb hby at_186) hr) (by decide) (by decide) ⟨rfl, N345⟩
  · rw [hs143]
    refine Gl.st (g' := (mkF m 10 #[.val (.int x0), .val (.int x1), .val (.int x2), .val (.int x3), .val (.int x4), .val (.int (x0 &&& (3 : Int32))), .val (.int (3 : Int32)), .unset, .unset, .unset, .unset, .unset, .unset, .unset] [])) (fun τ κ => XS.istore X0.here hx rfl (hb hby at_8) rfl (l' := #[.val (.int x0), .val (.int x1), .val (.int x2), .val (.int x3), .val (.int x4), .val (.int (x0 &&& (3 : Int32))), .val (.int (3 : Int32)), .unset, .unset, .unset, .unset, .unset, .unset, .unset]) rfl κ) ?_
    refine Gl.st (g' := (mkF m 11 #[.val (.int x0), .val (.int x1), .val (.int x2), .val (.int x3), .val (.int x4), .val (.int (x0 &&& (3 : Int32))), .val (.int (3 : Int32)), .unset, .unset, .unset, .unset, .unset, .unset, .unset] [(.int x2)])) (fun τ κ => XS.iloadN X0.here hx rfl (hb hby at_10) rfl κ) ?_
    refine Gl.st (g' := (mkF m 14 #[.val (.int x0), .val (.int x1), .val (.int x2), .val (.int x3), .val (.int x4), .val (.int (x0 &&& (3 : Int32))), .val (.int (3 : Int32)), .unset, .unset, .unset, .unset, .unset, .unset, .unset] [(.int (255 : Int32)), (.int x2)])) (fun τ κ => XS.sipush X0.here hx rfl (hb hby at_11) κ) ?_
    refine Gl.st (g' := (mkF m 15 #[.val (.int x0), .val (.int x1), .val (.int x2), .val (.int x3), .val (.int x4), .val (.int (x0 &&& (3 : Int32))), .val (.int (3 : Int32)), .unset, .unset, .unset, .unset, .unset, .unset, .unset] [(.int (x2 &&& (255 : Int32)))])) (fun τ κ => XS.iand X0.here hx rfl (hb hby at_14) rfl κ) ?_
    refine Gl.st (g' := (mkF m 16 #[.val (.int x0), .val (.int x1), .val (.int x2), .val (.int x3), .val (.int x4), .val (.int (x0 &&& (3 : Int32))), .val (.int (3 : Int32)), .unset, .unset, .unset, .unset, .unset, .unset, .unset] [(.int ((x2 &&& (255 : Int32)).toUInt32.toUInt16.toUInt32.toInt32))])) (fun τ κ => XS.i2c X0.here hx rfl (hb hby at_15) rfl κ) ?_
    generalize ((x2 &&& (255 : Int32)).toUInt32.toUInt16.toUInt32.toInt32) = ca
    refine Gl.st (g' := (mkF m 18 #[.val (.int x0), .val (.int x1), .val (.int x2), .val (.int x3), .val (.int x4), .val (.int (x0 &&& (3 : Int32))), .val (.int (3 : Int32)), .val (.int ca), .unset, .unset, .unset, .unset, .unset, .unset] [])) (fun τ κ => XS.istore X0.here hx rfl (hb hby at_16) rfl (l' := #[.val (.int x0), .val (.int x1), .val (.int x2), .val (.int x3), .val (.int x4), .val (.int (x0 &&& (3 : Int32))), .val (.int (3 : Int32)), .val (.int ca), .unset, .unset, .unset, .unset, .unset, .unset]) rfl κ) ?_
    refine Gl.st (g' := (mkF m 19 #[.val (.int x0), .val (.int x1), .val (.int x2), .val (.int x3), .val (.int x4), .val (.int (x0 &&& (3 : Int32))), .val (.int (3 : Int32)), .val (.int ca), .unset, .unset, .unset, .unset, .unset, .unset] [(.int x3)])) (fun τ κ => XS.iloadN X0.here hx rfl (hb hby at_18) rfl κ) ?_
    refine Gl.st (g' := (mkF m 22 #[.val (.int x0), .val (.int x1), .val (.int x2), .val (.int x3), .val (.int x4), .val (.int (x0 &&& (3 : Int32))), .val (.int (3 : Int32)), .val (.int ca), .unset, .unset, .unset, .unset, .unset, .unset] [(.int (255 : Int32)), (.int x3)])) (fun τ κ => XS.sipush X0.here hx rfl (hb hby at_19) κ) ?_
    refine Gl.st (g' := (mkF m 23 #[.val (.int x0), .val (.int x1), .val (.int x2), .val (.int x3), .val (.int x4), .val (.int (x0 &&& (3 : Int32))), .val (.int (3 : Int32)), .val (.int ca), .unset, .unset, .unset, .unset, .unset, .unset] [(.int (x3 &&& (255 : Int32)))])) (fun τ κ => XS.iand X0.here hx rfl (hb hby at_22) rfl κ) ?_
    refine Gl.st (g' := (mkF m 24 #[.val (.int x0), .val (.int x1), .val (.int x2), .val (.int x3), .val (.int x4), .val (.int (x0 &&& (3 : Int32))), .val (.int (3 : Int32)), .val (.int ca), .unset, .unset, .unset, .unset, .unset, .unset] [(.int ((x3 &&& (255 : Int32)).toUInt32.toUInt16.toUInt32.toInt32))])) (fun τ κ => XS.i2c X0.here hx rfl (hb hby at_23) rfl κ) ?_
    generalize ((x3 &&& (255 : Int32)).toUInt32.toUInt16.toUInt32.toInt32) = cb
    refine Gl.st (g' := (mkF m 26 #[.val (.int x0), .val (.int x1), .val (.int x2), .val (.int x3), .val (.int x4), .val (.int (x0 &&& (3 : Int32))), .val (.int (3 : Int32)), .val (.int ca), .val (.int cb), .unset, .unset, .unset, .unset, .unset] [])) (fun τ κ => XS.istore X0.here hx rfl (hb hby at_24) rfl (l' := #[.val (.int x0), .val (.int x1), .val (.int x2), .val (.int x3), .val (.int x4), .val (.int (x0 &&& (3 : Int32))), .val (.int (3 : Int32)), .val (.int ca), .val (.int cb), .unset, .unset, .unset, .unset, .unset]) rfl κ) ?_
    refine Gl.st (g' := (mkF m 28 #[.val (.int x0), .val (.int x1), .val (.int x2), .val (.int x3), .val (.int x4), .val (.int (x0 &&& (3 : Int32))), .val (.int (3 : Int32)), .val (.int ca), .val (.int cb), .unset, .unset, .unset, .unset, .unset] [(.int x4)])) (fun τ κ => XS.iload X0.here hx rfl (hb hby at_26) rfl κ) ?_
    refine Gl.st (g' := (mkF m 31 #[.val (.int x0), .val (.int x1), .val (.int x2), .val (.int x3), .val (.int x4), .val (.int (x0 &&& (3 : Int32))), .val (.int (3 : Int32)), .val (.int ca), .val (.int cb), .unset, .unset, .unset, .unset, .unset] [(.int (255 : Int32)), (.int x4)])) (fun τ κ => XS.sipush X0.here hx rfl (hb hby at_28) κ) ?_
    refine Gl.st (g' := (mkF m 32 #[.val (.int x0), .val (.int x1), .val (.int x2), .val (.int x3), .val (.int x4), .val (.int (x0 &&& (3 : Int32))), .val (.int (3 : Int32)), .val (.int ca), .val (.int cb), .unset, .unset, .unset, .unset, .unset] [(.int (x4 &&& (255 : Int32)))])) (fun τ κ => XS.iand X0.here hx rfl (hb hby at_31) rfl κ) ?_
    refine Gl.st (g' := (mkF m 33 #[.val (.int x0), .val (.int x1), .val (.int x2), .val (.int x3), .val (.int x4), .val (.int (x0 &&& (3 : Int32))), .val (.int (3 : Int32)), .val (.int ca), .val (.int cb), .unset, .unset, .unset, .unset, .unset] [(.int ((x4 &&& (255 : Int32)).toUInt32.toUInt16.toUInt32.toInt32))])) (fun τ κ => XS.i2c X0.here hx rfl (hb hby at_32) rfl κ) ?_
    generalize ((x4 &&& (255 : Int32)).toUInt32.toUInt16.toUInt32.toInt32) = cc
    refine Gl.st (g' := (mkF m 35 #[.val (.int x0), .val (.int x1), .val (.int x2), .val (.int x3), .val (.int x4), .val (.int (x0 &&& (3 : Int32))), .val (.int (3 : Int32)), .val (.int ca), .val (.int cb), .val (.int cc), .unset, .unset, .unset, .unset] [])) (fun τ κ => XS.istore X0.here hx rfl (hb hby at_33) rfl (l' := #[.val (.int x0), .val (.int x1), .val (.int x2), .val (.int x3), .val (.int x4), .val (.int (x0 &&& (3 : Int32))), .val (.int (3 : Int32)), .val (.int ca), .val (.int cb), .val (.int cc), .unset, .unset, .unset, .unset]) rfl κ) ?_
    obtain ⟨T358, h358, X358, e358, E358, A358, D358, -, st358⟩ := newO X0 hx hZ hown (hw _ (List.mem_of_getElem? (i := 0) rfl)) (hw _ (List.mem_of_getElem? (i := 1) rfl)) (hw _ (List.mem_of_getElem? (i := 2) rfl)) e0 (g := (mkF m 35 #[.val (.int x0), .val (.int x1), .val (.int x2), .val (.int x3), .val (.int x4), .val (.int (x0 &&& (3 : Int32))), .val (.int (3 : Int32)), .val (.int ca), .val (.int cb), .val (.int cc), .unset, .unset, .unset, .unset] [])) rfl (hb hby at_35) (by decide) (by decide)
    obtain ⟨b358, g358⟩ : ∃ z, z = h0.size := ⟨_, rfl⟩
    rw [← g358] at A358 D358 st358
    have g_b358 : n0 ≤ b358 := Nat.le_trans Z0 (Nat.le_of_eq g358.symm)
    have sz_b358 : h0.size ≤ b358 := Nat.le_trans (Keep.refl h0 []).1 (Nat.le_of_eq g358.symm)
    have Z358 : n0 ≤ h358.size := Nat.le_trans Z0 E358.1
    have K358 : Keep h0 h358 [] := (Keep.refl h0 []).ext E358
    have F_359 : Fld Z h358 b358 "com/example/hermitage/hermitage/frame/JsonText" "capacity" "I" (.int (0 : Int32)) := D358 (Or.inr (hw _ (List.mem_of_getElem? (i := 10) rfl))) (ty := .int) (by decide)
    have F_360 : Fld Z h358 b358 "com/example/hermitage/hermitage/frame/JsonText" "bytes" "[B" .null := D358 (Or.inl (hw _ (List.mem_of_getElem? (i := 13) rfl))) (ty := (.array .byte)) (by decide)
    have F_361 : Fld Z h358 b358 "com/example/hermitage/hermitage/frame/JsonText" "length" "I" (.int (0 : Int32)) := D358 (Or.inl (hw _ (List.mem_of_getElem? (i := 24) rfl))) (ty := .int) (by decide)
    refine Gl.st (g' := (mkF m 38 #[.val (.int x0), .val (.int x1), .val (.int x2), .val (.int x3), .val (.int x4), .val (.int (x0 &&& (3 : Int32))), .val (.int (3 : Int32)), .val (.int ca), .val (.int cb), .val (.int cc), .unset, .unset, .unset, .unset] [(.ref b358)])) (fun τ κ => st358 _ κ) ?_
    refine Gl.st (g' := (mkF m 39 #[.val (.int x0), .val (.int x1), .val (.int x2), .val (.int x3), .val (.int x4), .val (.int (x0 &&& (3 : Int32))), .val (.int (3 : Int32)), .val (.int ca), .val (.int cb), .val (.int cc), .unset, .unset, .unset, .unset] [(.ref b358), (.ref b358)])) (fun τ κ => XS.dup X358.here hx rfl (hb hby at_38) rfl rfl κ) ?_
    refine Gl.st (g' := (mkF m 41 #[.val (.int x0), .val (.int x1), .val (.int x2), .val (.int x3), .val (.int x4), .val (.int (x0 &&& (3 : Int32))), .val (.int (3 : Int32)), .val (.int ca), .val (.int cb), .val (.int cc), .unset, .unset, .unset, .unset] [(.int (x0 &&& (3 : Int32))), (.ref b358), (.ref b358)])) (fun τ κ => XS.iload X358.here hx rfl (hb hby at_39) rfl κ) ?_
    obtain ⟨rv362, _, ⟨T362, L362, k362, n362⟩, -, X362, ⟨Lc362, hQ362, l362, y362, z362⟩, st362⟩ := X358.specialBack hx (y := (⟨"com/example/hermitage/hermitage/frame/JsonText", "<init>", "(I)V"⟩ : MethodName)) rfl hown (mvT hZ (hw _ (List.mem_of_getElem? (i := 3) rfl))) (mvT hZ (hw _ (List.mem_of_getElem? (i := 4) rfl))) (mvT hZ (hw _ (List.mem_of_getElem? (i := 5) rfl))) (by decide) (backOf (W := 1) (rm1 l Z a0 hw [] b358 (x0 &&& (3 : Int32)) h358 n0 Z358 A358 g_b358 F_359 F_360 F_361 (own_p3 x0).1 (own_p3 x0).2.1) hZ (hw _ (List.mem_of_getElem? (i := 5) rfl)) (hw _ (List.mem_of_getElem? (i := 2) rfl)) (by decide) (by decide)) (g := (mkF m 41 #[.val (.int x0), .val (.int x1), .val (.int x2), .val (.int x3), .val (.int x4), .val (.int (x0 &&& (3 : Int32))), .val (.int (3 : Int32)), .val (.int ca), .val (.int cb), .val (.int cc), .unset, .unset, .unset, .unset] [(.int (x0 &&& (3 : Int32))), (.ref b358), (.ref b358)])) rfl (by rw [hml]; rfl) (Steps.refl _) (a := b358) (argsL := [(.int (x0 &&& (3 : Int32)))]) (rest := [(.ref b358)]) (lenOf pd_2 rfl) rfl (by show 2 * 0 + _ ≤ _; exact Nat.le_of_eq rfl) (hb hby at_41) (fun _ _ => ⟨rfl, e358, (by decide : 1 + 1 ≤ _), (by decide : 3 + 7 ≤ _)⟩)
    dsimp only [Pt.U, Pt.locs, Pt.cells, Pt.slots] at X362 l362 y362 z362 st362 hQ362
    subst l362 y362 z362
    obtain ⟨t362, kk362, rfl, N362q, Kc362, Ec362, FC362, FB362, FL362, Et362, V362, s362⟩ := hQ362
    have ne_b358_t362 : b358 ≠ t362 := Nat.ne_of_lt (Nat.lt_of_lt_of_le A358.lt s362)
    have g_t362 : n0 ≤ t362 := Nat.le_trans Z358 s362
    have sz_t362 : h0.size ≤ t362 := Nat.le_trans K358.1 s362
    have E_363 := A358.keep Kc362
    have N362 := Fr.app N0 N362q
    have Z362 : n0 ≤ T362.heap.size := Nat.le_trans Z358 Kc362.1
    have K362 : Keep h0 T362.heap [] := K358.trans Kc362 (allS (Or.inr sz_b358) all0)
    refine Gl.st (g' := (mkF m 44 #[.val (.int x0), .val (.int x1), .val (.int x2), .val (.int x3), .val (.int x4), .val (.int (x0 &&& (3 : Int32))), .val (.int (3 : Int32)), .val (.int ca), .val (.int cb), .val (.int cc), .unset, .unset, .unset, .unset] [(.ref b358)])) (fun τ κ => st362.trans κ) ?_
    refine Gl.st (g' := (mkF m 46 #[.val (.int x0), .val (.int x1), .val (.int x2), .val (.int x3), .val (.int x4), .val (.int (x0 &&& (3 : Int32))), .val (.int (3 : Int32)), .val (.int ca), .val (.int cb), .val (.int cc), .val (.ref b358), .unset, .unset, .unset] [])) (fun τ κ => XS.astore X362.here hx rfl (hb hby at_44) rfl rfl (l' := #[.val (.int x0), .val (.int x1), .val (.int x2), .val (.int x3), .val (.int x4), .val (.int (x0 &&& (3 : Int32))), .val (.int (3 : Int32)), .val (.int ca), .val (.int cb), .val (.int cc), .val (.ref b358), .unset, .unset, .unset]) rfl κ) ?_
    refine Gl.st (g' := (mkF m 48 #[.val (.int x0), .val (.int x1), .val (.int x2), .val (.int x3), .val (.int x4), .val (.int (x0 &&& (3 : Int32))), .val (.int (3 : Int32)), .val (.int ca), .val (.int cb), .val (.int cc), .val (.ref b358), .unset, .unset, .unset] [(.int (3 : Int32))])) (fun τ κ => XS.iload X362.here hx rfl (hb hby at_46) rfl κ) ?_
    have hc367 : (0 : Int32) < (3 : Int32) := by decide
    refine Gl.st (g' := (mkF m 51 #[.val (.int x0), .val (.int x1), .val (.int x2), .val (.int x3), .val (.int x4), .val (.int (x0 &&& (3 : Int32))), .val (.int (3 : Int32)), .val (.int ca), .val (.int cb), .val (.int cc), .val (.ref b358), .unset, .unset, .unset] [])) (fun τ κ => XS.ifNo X362.here hx rfl (hb hby at_48) rfl ((if0 _ _).trans (tlt hc367).2.2.2) κ) ?_
    refine Gl.st (g' := (mkF m 53 #[.val (.int x0), .val (.int x1), .val (.int x2), .val (.int x3), .val (.int x4), .val (.int (x0 &&& (3 : Int32))), .val (.int (3 : Int32)), .val (.int ca), .val (.int cb), .val (.int cc), .val (.ref b358), .unset, .unset, .unset] [(.ref b358)])) (fun τ κ => XS.aload X362.here hx rfl (hb hby at_51) rfl rfl κ) ?_
    refine Gl.st (g' := (mkF m 55 #[.val (.int x0), .val (.int x1), .val (.int x2), .val (.int x3), .val (.int x4), .val (.int (x0 &&& (3 : Int32))), .val (.int (3 : Int32)), .val (.int ca), .val (.int cb), .val (.int cc), .val (.ref b358), .unset, .unset, .unset] [(.int ca), (.ref b358)])) (fun τ κ => XS.iload X362.here hx rfl (hb hby at_53) rfl κ) ?_
    obtain ⟨cq368, kq368, q368a, q368b, q368c⟩ := isOf hZ rfl Ec362
    obtain ⟨rv368, _, ⟨T368, L368, k368, n368⟩, -, X368, ⟨Lc368, hQ368, l368, y368, z368⟩, st368⟩ := X362.virtualBack hx (y := (⟨"com/example/hermitage/hermitage/frame/JsonText", "mark", "(C)Lcom/example/hermitage/hermitage/frame/JsonText;"⟩ : MethodName)) (z := (⟨"com/example/hermitage/hermitage/frame/JsonText", "mark", "(C)Lcom/example/hermitage/hermitage/frame/JsonText;"⟩ : MethodName)) hown (mvT hZ (hw _ (List.mem_of_getElem? (i := 14) rfl))) (mvT hZ (hw _ (List.mem_of_getElem? (i := 15) rfl))) (notFace_of_selects (args := #[]) (mvT hZ (hw _ (List.mem_of_getElem? (i := 17) rfl)))) (mvT hZ (hw _ (List.mem_of_getElem? (i := 17) rfl))) (mvT hZ (hw _ (List.mem_of_getElem? (i := 16) rfl))) (by decide) (backOf (W := 0) (rm3 l Z a0 hw [] b358 ca t362 kk362 (x0 &&& (3 : Int32)) (0 : Int32) (x0 &&& (3 : Int32)) [] T362.heap n0 Z362 Ec362 g_b358 FC362 FB362 FL362 Et362 g_t362 V362 ne_b358_t362 (by decide) (own_p3 x0).1 (own_p3 x0).2.2 (by decide)) hZ (hw _ (List.mem_of_getElem? (i := 18) rfl)) (hw _ (List.mem_of_getElem? (i := 2) rfl)) (by decide) (by decide)) q368a q368c (g := (mkF m 55 #[.val (.int x0), .val (.int x1), .val (.int x2), .val (.int x3), .val (.int x4), .val (.int (x0 &&& (3 : Int32))), .val (.int (3 : Int32)), .val (.int ca), .val (.int cb), .val (.int cc), .val (.ref b358), .unset, .unset, .unset] [(.int ca), (.ref b358)])) rfl (by rw [hml]; rfl) (Steps.refl _) (argsL := [(.int ca)]) (rest := []) (lenOf pd_6 rfl) rfl (by show 2 * 0 + _ ≤ _; exact Nat.le_of_eq rfl) (hb hby at_55) (fun _ _ => ⟨rfl, rfl, (by decide : 2 + 1 ≤ _), (by decide : 10 + 8 ≤ _)⟩)
    dsimp only [Pt.U, Pt.locs, Pt.cells, Pt.slots] at X368 l368 y368 z368 st368 hQ368
    subst l368 y368 z368
    obtain ⟨t368, kk368, z368, vs368, rfl, N368q, Kc368, Ec368, FC368, FB368, FL368, Et368, V368, nz368, z8368, gt368, or368, ne368, hv368, hw368⟩ := hQ368
    have sz_t368 : h0.size ≤ t368 := or368.elim (fun q => by rw [q]; exact sz_t362) (fun q => Nat.le_trans K362.1 q)
    have E_369 := Ec362.keep Kc368
    have E_373 := Et362.keep Kc368
    have N368 := Fr.app N362 N368q
    have Z368 : n0 ≤ T368.heap.size := Nat.le_trans Z362 Kc368.1
    have K368 : Keep h0 T368.heap [] := K362.trans Kc368 (allS (Or.inr sz_b358) (allS (Or.inr sz_t362) all0))
    have FL368 : Fld Z T368.heap b358 "com/example/hermitage/hermitage/frame/JsonText" "length" "I" (.int (1 : Int32)) := FL368
    refine Gl.st (g' := (mkF m 58 #[.val (.int x0), .val (.int x1), .val (.int x2), .val (.int x3), .val (.int x4), .val (.int (x0 &&& (3 : Int32))), .val (.int (3 : Int32)), .val (.int ca), .val (.int cb), .val (.int cc), .val (.ref b358), .unset, .unset, .unset] [(.ref b358)])) (fun τ κ => st368.trans κ) ?_
    refine Gl.st (g' := (mkF m 59 #[.val (.int x0), .val (.int x1), .val (.int x2), .val (.int x3), .val (.int x4), .val (.int (x0 &&& (3 : Int32))), .val (.int (3 : Int32)), .val (.int ca), .val (.int cb), .val (.int cc), .val (.ref b358), .unset, .unset, .unset] [])) (fun τ κ => XS.pop X368.here hx rfl (hb hby at_58) rfl rfl κ) ?_
    refine Gl.st (g' := (mkF m 61 #[.val (.int x0), .val (.int x1), .val (.int x2), .val (.int x3), .val (.int x4), .val (.int (x0 &&& (3 : Int32))), .val (.int (3 : Int32)), .val (.int ca), .val (.int cb), .val (.int cc), .val (.ref b358), .unset, .unset, .unset] [(.int (3 : Int32))])) (fun τ κ => XS.iload X368.here hx rfl (hb hby at_59) rfl κ) ?_
    refine Gl.st (g' := (mkF m 62 #[.val (.int x0), .val (.int x1), .val (.int x2), .val (.int x3), .val (.int x4), .val (.int (x0 &&& (3 : Int32))), .val (.int (3 : Int32)), .val (.int ca), .val (.int cb), .val (.int cc), .val (.ref b358), .unset, .unset, .unset] [(.int (1 : Int32)), (.int (3 : Int32))])) (fun τ κ => XS.iconst X368.here hx rfl (hb hby at_61) κ) ?_
    have hc375 : (1 : Int32) < (3 : Int32) := by decide
    refine Gl.st (g' := (mkF m 65 #[.val (.int x0), .val (.int x1), .val (.int x2), .val (.int x3), .val (.int x4), .val (.int (x0 &&& (3 : Int32))), .val (.int (3 : Int32)), .val (.int ca), .val (.int cb), .val (.int cc), .val (.ref b358), .unset, .unset, .unset] [])) (fun τ κ => XS.icmpNo X368.here hx rfl (hb hby at_62) rfl (tlt hc375).2.2.2 κ) ?_
    refine Gl.st (g' := (mkF m 67 #[.val (.int x0), .val (.int x1), .val (.int x2), .val (.int x3), .val (.int x4), .val (.int (x0 &&& (3 : Int32))), .val (.int (3 : Int32)), .val (.int ca), .val (.int cb), .val (.int cc), .val (.ref b358), .unset, .unset, .unset] [(.ref b358)])) (fun τ κ => XS.aload X368.here hx rfl (hb hby at_65) rfl rfl κ) ?_
    refine Gl.st (g' := (mkF m 69 #[.val (.int x0), .val (.int x1), .val (.int x2), .val (.int x3), .val (.int x4), .val (.int (x0 &&& (3 : Int32))), .val (.int (3 : Int32)), .val (.int ca), .val (.int cb), .val (.int cc), .val (.ref b358), .unset, .unset, .unset] [(.int cb), (.ref b358)])) (fun τ κ => XS.iload X368.here hx rfl (hb hby at_67) rfl κ) ?_
    obtain ⟨cq376, kq376, q376a, q376b, q376c⟩ := isOf hZ rfl Ec368
    obtain ⟨rv376, _, ⟨T376, L376, k376, n376⟩, -, X376, ⟨Lc376, hQ376, l376, y376, z376⟩, st376⟩ := X368.virtualBack hx (y := (⟨"com/example/hermitage/hermitage/frame/JsonText", "mark", "(C)Lcom/example/hermitage/hermitage/frame/JsonText;"⟩ : MethodName)) (z := (⟨"com/example/hermitage/hermitage/frame/JsonText", "mark", "(C)Lcom/example/hermitage/hermitage/frame/JsonText;"⟩ : MethodName)) hown (mvT hZ (hw _ (List.mem_of_getElem? (i := 14) rfl))) (mvT hZ (hw _ (List.mem_of_getElem? (i := 15) rfl))) (notFace_of_selects (args := #[]) (mvT hZ (hw _ (List.mem_of_getElem? (i := 17) rfl)))) (mvT hZ (hw _ (List.mem_of_getElem? (i := 17) rfl))) (mvT hZ (hw _ (List.mem_of_getElem? (i := 16) rfl))) (by decide) (backOf (W := 0) (rm3 l Z a0 hw [] b358 cb t368 kk368 (x0 &&& (3 : Int32)) (1 : Int32) z368 vs368 T368.heap n0 Z368 Ec368 g_b358 FC368 FB368 FL368 Et368 gt368 V368 ne368 (by decide) (own_up nz368 (by decide)) z8368 (by decide)) hZ (hw _ (List.mem_of_getElem? (i := 18) rfl)) (hw _ (List.mem_of_getElem? (i := 2) rfl)) (by decide) (by decide)) q376a q376c (g := (mkF m 69 #[.val (.int x0), .val (.int x1), .val (.int x2), .val (.int x3), .val (.int x4), .val (.int (x0 &&& (3 : Int32))), .val (.int (3 : Int32)), .val (.int ca), .val (.int cb), .val (.int cc), .val (.ref b358), .unset, .unset, .unset] [(.int cb), (.ref b358)])) rfl (by rw [hml]; rfl) (Steps.refl _) (argsL := [(.int cb)]) (rest := []) (lenOf pd_6 rfl) rfl (by show 2 * 0 + _ ≤ _; exact Nat.le_of_eq rfl) (hb hby at_69) (fun _ _ => ⟨rfl, rfl, (by decide : 3 + 1 ≤ _), (by decide : 18 + 8 ≤ _)⟩)
    dsimp only [Pt.U, Pt.locs, Pt.cells, Pt.slots] at X376 l376 y376 z376 st376 hQ376
    subst l376 y376 z376
    obtain ⟨t376, kk376, z376, vs376, rfl, N376q, Kc376, Ec376, FC376, FB376, FL376, Et376, V376, nz376, z8376, gt376, or376, ne376, hv376, hw376⟩ := hQ376
    have sz_t376 : h0.size ≤ t376 := or376.elim (fun q => by rw [q]; exact sz_t368) (fun q => Nat.le_trans K368.1 q)
    have E_377 := Ec368.keep Kc376
    have E_381 := Et368.keep Kc376
    have N376 := Fr.app N368 N376q
    have Z376 : n0 ≤ T376.heap.size := Nat.le_trans Z368 Kc376.1
    have K376 : Keep h0 T376.heap [] := K368.trans Kc376 (allS (Or.inr sz_b358) (allS (Or.inr sz_t368) all0))
    have FL376 : Fld Z T376.heap b358 "com/example/hermitage/hermitage/frame/JsonText" "length" "I" (.int (2 : Int32)) := FL376
    refine Gl.st (g' := (mkF m 72 #[.val (.int x0), .val (.int x1), .val (.int x2), .val (.int x3), .val (.int x4), .val (.int (x0 &&& (3 : Int32))), .val (.int (3 : Int32)), .val (.int ca), .val (.int cb), .val (.int cc), .val (.ref b358), .unset, .unset, .unset] [(.ref b358)])) (fun τ κ => st376.trans κ) ?_
    refine Gl.st (g' := (mkF m 73 #[.val (.int x0), .val (.int x1), .val (.int x2), .val (.int x3), .val (.int x4), .val (.int (x0 &&& (3 : Int32))), .val (.int (3 : Int32)), .val (.int ca), .val (.int cb), .val (.int cc), .val (.ref b358), .unset, .unset, .unset] [])) (fun τ κ => XS.pop X376.here hx rfl (hb hby at_72) rfl rfl κ) ?_
    refine Gl.st (g' := (mkF m 75 #[.val (.int x0), .val (.int x1), .val (.int x2), .val (.int x3), .val (.int x4), .val (.int (x0 &&& (3 : Int32))), .val (.int (3 : Int32)), .val (.int ca), .val (.int cb), .val (.int cc), .val (.ref b358), .unset, .unset, .unset] [(.int (3 : Int32))])) (fun τ κ => XS.iload X376.here hx rfl (hb hby at_73) rfl κ) ?_
    refine Gl.st (g' := (mkF m 76 #[.val (.int x0), .val (.int x1), .val (.int x2), .val (.int x3), .val (.int x4), .val (.int (x0 &&& (3 : Int32))), .val (.int (3 : Int32)), .val (.int ca), .val (.int cb), .val (.int cc), .val (.ref b358), .unset, .unset, .unset] [(.int (2 : Int32)), (.int (3 : Int32))])) (fun τ κ => XS.iconst X376.here hx rfl (hb hby at_75) κ) ?_
    have hc383 : (2 : Int32) < (3 : Int32) := by decide
    refine Gl.st (g' := (mkF m 79 #[.val (.int x0), .val (.int x1), .val (.int x2), .val (.int x3), .val (.int x4), .val (.int (x0 &&& (3 : Int32))), .val (.int (3 : Int32)), .val (.int ca), .val (.int cb), .val (.int cc), .val (.ref b358), .unset, .unset, .unset] [])) (fun τ κ => XS.icmpNo X376.here hx rfl (hb hby at_76) rfl (tlt hc383).2.2.2 κ) ?_
    refine Gl.st (g' := (mkF m 81 #[.val (.int x0), .val (.int x1), .val (.int x2), .val (.int x3), .val (.int x4), .val (.int (x0 &&& (3 : Int32))), .val (.int (3 : Int32)), .val (.int ca), .val (.int cb), .val (.int cc), .val (.ref b358), .unset, .unset, .unset] [(.ref b358)])) (fun τ κ => XS.aload X376.here hx rfl (hb hby at_79) rfl rfl κ) ?_
    refine Gl.st (g' := (mkF m 83 #[.val (.int x0), .val (.int x1), .val (.int x2), .val (.int x3), .val (.int x4), .val (.int (x0 &&& (3 : Int32))), .val (.int (3 : Int32)), .val (.int ca), .val (.int cb), .val (.int cc), .val (.ref b358), .unset, .unset, .unset] [(.int cc), (.ref b358)])) (fun τ κ => XS.iload X376.here hx rfl (hb hby at_81) rfl κ) ?_
    obtain ⟨cq384, kq384, q384a, q384b, q384c⟩ := isOf hZ rfl Ec376
    obtain ⟨rv384, _, ⟨T384, L384, k384, n384⟩, -, X384, ⟨Lc384, hQ384, l384, y384, z384⟩, st384⟩ := X376.virtualBack hx (y := (⟨"com/example/hermitage/hermitage/frame/JsonText", "mark", "(C)Lcom/example/hermitage/hermitage/frame/JsonText;"⟩ : MethodName)) (z := (⟨"com/example/hermitage/hermitage/frame/JsonText", "mark", "(C)Lcom/example/hermitage/hermitage/frame/JsonText;"⟩ : MethodName)) hown (mvT hZ (hw _ (List.mem_of_getElem? (i := 14) rfl))) (mvT hZ (hw _ (List.mem_of_getElem? (i := 15) rfl))) (notFace_of_selects (args := #[]) (mvT hZ (hw _ (List.mem_of_getElem? (i := 17) rfl)))) (mvT hZ (hw _ (List.mem_of_getElem? (i := 17) rfl))) (mvT hZ (hw _ (List.mem_of_getElem? (i := 16) rfl))) (by decide) (backOf (W := 0) (rm3 l Z a0 hw [] b358 cc t376 kk376 (x0 &&& (3 : Int32)) (2 : Int32) z376 vs376 T376.heap n0 Z376 Ec376 g_b358 FC376 FB376 FL376 Et376 gt376 V376 ne376 (by decide) (own_up nz376 (by decide)) z8376 (by decide)) hZ (hw _ (List.mem_of_getElem? (i := 18) rfl)) (hw _ (List.mem_of_getElem? (i := 2) rfl)) (by decide) (by decide)) q384a q384c (g := (mkF m 83 #[.val (.int x0), .val (.int x1), .val (.int x2), .val (.int x3), .val (.int x4), .val (.int (x0 &&& (3 : Int32))), .val (.int (3 : Int32)), .val (.int ca), .val (.int cb), .val (.int cc), .val (.ref b358), .unset, .unset, .unset] [(.int cc), (.ref b358)])) rfl (by rw [hml]; rfl) (Steps.refl _) (argsL := [(.int cc)]) (rest := []) (lenOf pd_6 rfl) rfl (by show 2 * 0 + _ ≤ _; exact Nat.le_of_eq rfl) (hb hby at_83) (fun _ _ => ⟨rfl, rfl, (by decide : 4 + 1 ≤ _), (by decide : 26 + 8 ≤ _)⟩)
    dsimp only [Pt.U, Pt.locs, Pt.cells, Pt.slots] at X384 l384 y384 z384 st384 hQ384
    subst l384 y384 z384
    obtain ⟨t384, kk384, z384, vs384, rfl, N384q, Kc384, Ec384, FC384, FB384, FL384, Et384, V384, nz384, z8384, gt384, or384, ne384, hv384, hw384⟩ := hQ384
    have sz_t384 : h0.size ≤ t384 := or384.elim (fun q => by rw [q]; exact sz_t376) (fun q => Nat.le_trans K376.1 q)
    have E_385 := Ec376.keep Kc384
    have E_389 := Et376.keep Kc384
    have N384 := Fr.app N376 N384q
    have Z384 : n0 ≤ T384.heap.size := Nat.le_trans Z376 Kc384.1
    have K384 : Keep h0 T384.heap [] := K376.trans Kc384 (allS (Or.inr sz_b358) (allS (Or.inr sz_t376) all0))
    have FL384 : Fld Z T384.heap b358 "com/example/hermitage/hermitage/frame/JsonText" "length" "I" (.int (3 : Int32)) := FL384
    refine Gl.st (g' := (mkF m 86 #[.val (.int x0), .val (.int x1), .val (.int x2), .val (.int x3), .val (.int x4), .val (.int (x0 &&& (3 : Int32))), .val (.int (3 : Int32)), .val (.int ca), .val (.int cb), .val (.int cc), .val (.ref b358), .unset, .unset, .unset] [(.ref b358)])) (fun τ κ => st384.trans κ) ?_
    refine Gl.st (g' := (mkF m 87 #[.val (.int x0), .val (.int x1), .val (.int x2), .val (.int x3), .val (.int x4), .val (.int (x0 &&& (3 : Int32))), .val (.int (3 : Int32)), .val (.int ca), .val (.int cb), .val (.int cc), .val (.ref b358), .unset, .unset, .unset] [])) (fun τ κ => XS.pop X384.here hx rfl (hb hby at_86) rfl rfl κ) ?_
    refine Gl.st (g' := (mkF m 89 #[.val (.int x0), .val (.int x1), .val (.int x2), .val (.int x3), .val (.int x4), .val (.int (x0 &&& (3 : Int32))), .val (.int (3 : Int32)), .val (.int ca), .val (.int cb), .val (.int cc), .val (.ref b358), .unset, .unset, .unset] [(.ref b358)])) (fun τ κ => XS.aload X384.here hx rfl (hb hby at_87) rfl rfl κ) ?_
    obtain ⟨cq391, kq391, q391a, q391b, q391c⟩ := isOf hZ rfl Ec384
    obtain ⟨rv391, _, ⟨T391, L391, k391, n391⟩, -, X391, ⟨Lc391, hQ391, l391, y391, z391⟩, st391⟩ := X384.virtualBack hx (y := (⟨"com/example/hermitage/hermitage/frame/JsonText", "toBytes", "()[B"⟩ : MethodName)) (z := (⟨"com/example/hermitage/hermitage/frame/JsonText", "toBytes", "()[B"⟩ : MethodName)) hown (mvT hZ (hw _ (List.mem_of_getElem? (i := 40) rfl))) (mvT hZ (hw _ (List.mem_of_getElem? (i := 41) rfl))) (notFace_of_selects (args := #[]) (mvT hZ (hw _ (List.mem_of_getElem? (i := 43) rfl)))) (mvT hZ (hw _ (List.mem_of_getElem? (i := 43) rfl))) (mvT hZ (hw _ (List.mem_of_getElem? (i := 42) rfl))) (by decide) (backOf (W := 0) (rm8 l Z a0 hw [] b358 t384 kk384 (x0 &&& (3 : Int32)) (3 : Int32) z384 vs384 T384.heap n0 Z384 Ec384 g_b358 FC384 FB384 FL384 Et384 gt384 V384 ne384 (by decide) (own_up nz384 (by decide)) z8384 (by decide)) hZ (hw _ (List.mem_of_getElem? (i := 44) rfl)) (hw _ (List.mem_of_getElem? (i := 2) rfl)) (by decide) (by decide)) q391a q391c (g := (mkF m 89 #[.val (.int x0), .val (.int x1), .val (.int x2), .val (.int x3), .val (.int x4), .val (.int (x0 &&& (3 : Int32))), .val (.int (3 : Int32)), .val (.int ca), .val (.int cb), .val (.int cc), .val (.ref b358), .unset, .unset, .unset] [(.ref b358)])) rfl (by rw [hml]; rfl) (Steps.refl _) (argsL := []) (rest := []) (lenOf pd_3 rfl) rfl (by show 2 * 0 + _ ≤ _; exact Nat.le_of_eq rfl) (hb hby at_89) (fun _ _ => ⟨rfl, rfl, (by decide : 5 + 1 ≤ _), (by decide : 34 + 8 ≤ _)⟩)
    dsimp only [Pt.U, Pt.locs, Pt.cells, Pt.slots] at X391 l391 y391 z391 st391 hQ391
    subst l391 y391 z391
    obtain ⟨b391, kk391, vs391, rfl, N391q, Kc391, s391, Ex391, V391, hv391⟩ := hQ391
    have ne_b358_b391 : b358 ≠ b391 := Nat.ne_of_lt (Nat.lt_of_lt_of_le Ec384.lt s391)
    have ne_t384_b391 : t384 ≠ b391 := Nat.ne_of_lt (Nat.lt_of_lt_of_le Et384.lt s391)
    have g_b391 : n0 ≤ b391 := Nat.le_trans Z384 s391
    have sz_b391 : h0.size ≤ b391 := Nat.le_trans K384.1 s391
    have E_392 := Ec384.keep Kc391
    have F_393 := FC384.keep Kc391 nin0
    have F_394 := FB384.keep Kc391 nin0
    have F_395 := FL384.keep Kc391 nin0
    have E_396 := Et384.keep Kc391
    have V_397 := V384.keep Kc391 nin0
    have N391 := Fr.app N384 N391q
    have Z391 : n0 ≤ T391.heap.size := Nat.le_trans Z384 Kc391.1
    have K391 : Keep h0 T391.heap [] := K384.trans Kc391 all0
    refine Gl.st (g' := (mkF m 92 #[.val (.int x0), .val (.int x1), .val (.int x2), .val (.int x3), .val (.int x4), .val (.int (x0 &&& (3 : Int32))), .val (.int (3 : Int32)), .val (.int ca), .val (.int cb), .val (.int cc), .val (.ref b358), .unset, .unset, .unset] [(.ref b391)])) (fun τ κ => st391.trans κ) ?_
    refine Gl.st (g' := (mkF m 94 #[.val (.int x0), .val (.int x1), .val (.int x2), .val (.int x3), .val (.int x4), .val (.int (x0 &&& (3 : Int32))), .val (.int (3 : Int32)), .val (.int ca), .val (.int cb), .val (.int cc), .val (.ref b358), .val (.ref b391), .unset, .unset] [])) (fun τ κ => XS.astore X391.here hx rfl (hb hby at_92) rfl rfl (l' := #[.val (.int x0), .val (.int x1), .val (.int x2), .val (.int x3), .val (.int x4), .val (.int (x0 &&& (3 : Int32))), .val (.int (3 : Int32)), .val (.int ca), .val (.int cb), .val (.int cc), .val (.ref b358), .val (.ref b391), .unset, .unset]) rfl κ) ?_
    refine Gl.st (g' := (mkF m 96 #[.val (.int x0), .val (.int x1), .val (.int x2), .val (.int x3), .val (.int x4), .val (.int (x0 &&& (3 : Int32))), .val (.int (3 : Int32)), .val (.int ca), .val (.int cb), .val (.int cc), .val (.ref b358), .val (.ref b391), .unset, .unset] [(.ref b391)])) (fun τ κ => XS.aload X391.here hx rfl (hb hby at_94) rfl rfl κ) ?_
    refine Gl.st (g' := (mkF m 98 #[.val (.int x0), .val (.int x1), .val (.int x2), .val (.int x3), .val (.int x4), .val (.int (x0 &&& (3 : Int32))), .val (.int (3 : Int32)), .val (.int ca), .val (.int cb), .val (.int cc), .val (.ref b358), .val (.ref b391), .unset, .unset] [(.int (3 : Int32)), (.ref b391)])) (fun τ κ => XS.iload X391.here hx rfl (hb hby at_96) rfl κ) ?_
    refine Gl.st (g' := (mkF m 100 #[.val (.int x0), .val (.int x1), .val (.int x2), .val (.int x3), .val (.int x4), .val (.int (x0 &&& (3 : Int32))), .val (.int (3 : Int32)), .val (.int ca), .val (.int cb), .val (.int cc), .val (.ref b358), .val (.ref b391), .unset, .unset] [(.int ca), (.int (3 : Int32)), (.ref b391)])) (fun τ κ => XS.iload X391.here hx rfl (hb hby at_98) rfl κ) ?_
    refine Gl.st (g' := (mkF m 102 #[.val (.int x0), .val (.int x1), .val (.int x2), .val (.int x3), .val (.int x4), .val (.int (x0 &&& (3 : Int32))), .val (.int (3 : Int32)), .val (.int ca), .val (.int cb), .val (.int cc), .val (.ref b358), .val (.ref b391), .unset, .unset] [(.int cb), (.int ca), (.int (3 : Int32)), (.ref b391)])) (fun τ κ => XS.iload X391.here hx rfl (hb hby at_100) rfl κ) ?_
    refine Gl.st (g' := (mkF m 104 #[.val (.int x0), .val (.int x1), .val (.int x2), .val (.int x3), .val (.int x4), .val (.int (x0 &&& (3 : Int32))), .val (.int (3 : Int32)), .val (.int ca), .val (.int cb), .val (.int cc), .val (.ref b358), .val (.ref b391), .unset, .unset] [(.int cc), (.int cb), (.int ca), (.int (3 : Int32)), (.ref b391)])) (fun τ κ => XS.iload X391.here hx rfl (hb hby at_102) rfl κ) ?_
    obtain ⟨rv398, _, ⟨T398, L398, k398, n398⟩, -, X398, ⟨Lc398, hQ398, l398, y398, z398⟩, st398⟩ := Jvm.LawKit.callS X391 hx (y := (⟨"com/example/hermitage/hermitage/frame/JsonTextToBytesPinLaw", "same", "([BICCC)Z"⟩ : MethodName)) hown (mvT hZ (hw _ (List.mem_of_getElem? (i := 45) rfl))) (mvT hZ (hw _ (List.mem_of_getElem? (i := 46) rfl))) (mvT hZ (hw _ (List.mem_of_getElem? (i := 47) rfl))) (mvT hZ (hw _ (List.mem_of_getElem? (i := 48) rfl))) (by decide) (backOf (W := 0) (rm_same3 l Z a0 hw [] b391 ca cb cc kk391 vs391 T391.heap n0 Z391 V391 ((hv391 _ (by decide)).trans ((hv384 _ (by decide)).trans ((hv376 _ (by decide)).trans hw368))) ((hv391 _ (by decide)).trans ((hv384 _ (by decide)).trans hw376)) ((hv391 _ (by decide)).trans hw384)) hZ (hw _ (List.mem_of_getElem? (i := 48) rfl)) (hw _ (List.mem_of_getElem? (i := 47) rfl)) (by decide) (by decide)) (g := (mkF m 104 #[.val (.int x0), .val (.int x1), .val (.int x2), .val (.int x3), .val (.int x4), .val (.int (x0 &&& (3 : Int32))), .val (.int (3 : Int32)), .val (.int ca), .val (.int cb), .val (.int cc), .val (.ref b358), .val (.ref b391), .unset, .unset] [(.int cc), (.int cb), (.int ca), (.int (3 : Int32)), (.ref b391)])) rfl (by rw [hml]; rfl) (argsL := [(.ref b391), (.int (3 : Int32)), (.int ca), (.int cb), (.int cc)]) (rest := []) (lenOf pd_4 rfl) rfl (by show 2 * 0 + _ ≤ _; exact Nat.le_of_eq rfl) (hb hby at_104) (fun _ _ => ⟨rfl, rfl, (by decide : 6 + 0 ≤ _), (by decide : 42 + 0 ≤ _)⟩)
    dsimp only [Pt.U, Pt.locs, Pt.cells, Pt.slots] at X398 l398 y398 z398 st398 hQ398
    subst l398 y398 z398
    obtain ⟨rfl, N398q, e398⟩ := hQ398
    have N398 := Fr.app N391 N398q
    refine Gl.st (g' := (mkF m 107 #[.val (.int x0), .val (.int x1), .val (.int x2), .val (.int x3), .val (.int x4), .val (.int (x0 &&& (3 : Int32))), .val (.int (3 : Int32)), .val (.int ca), .val (.int cb), .val (.int cc), .val (.ref b358), .val (.ref b391), .unset, .unset] [(.int (1 : Int32))])) (fun τ κ => st398 _ κ) ?_
    have hc399 : ¬ ((1 : Int32) = (0 : Int32)) := by decide
    refine Gl.st (g' := (mkF m 112 #[.val (.int x0), .val (.int x1), .val (.int x2), .val (.int x3), .val (.int x4), .val (.int (x0 &&& (3 : Int32))), .val (.int (3 : Int32)), .val (.int ca), .val (.int cb), .val (.int cc), .val (.ref b358), .val (.ref b391), .unset, .unset] [])) (fun τ κ => XS.ifYes X398.here hx rfl (pc0 := 107) (pc' := 112) rfl (hb hby at_107) rfl ((if0 _ _).trans (feq hc399).2) (by decide) (by decide) κ) ?_
    refine Gl.st (g' := (mkF m 114 #[.val (.int x0), .val (.int x1), .val (.int x2), .val (.int x3), .val (.int x4), .val (.int (x0 &&& (3 : Int32))), .val (.int (3 : Int32)), .val (.int ca), .val (.int cb), .val (.int cc), .val (.ref b358), .val (.ref b391), .unset, .unset] [(.int (3 : Int32))])) (fun τ κ => XS.iload X398.here hx rfl (hb hby at_112) rfl κ) ?_
    have hc400 : (0 : Int32) < (3 : Int32) := by decide
    refine Gl.st (g' := (mkF m 117 #[.val (.int x0), .val (.int x1), .val (.int x2), .val (.int x3), .val (.int x4), .val (.int (x0 &&& (3 : Int32))), .val (.int (3 : Int32)), .val (.int ca), .val (.int cb), .val (.int cc), .val (.ref b358), .val (.ref b391), .unset, .unset] [])) (fun τ κ => XS.ifNo X398.here hx rfl (hb hby at_114) rfl ((if0 _ _).trans (tlt hc400).2.2.2) κ) ?_
    refine Gl.st (g' := (mkF m 119 #[.val (.int x0), .val (.int x1), .val (.int x2), .val (.int x3), .val (.int x4), .val (.int (x0 &&& (3 : Int32))), .val (.int (3 : Int32)), .val (.int ca), .val (.int cb), .val (.int cc), .val (.ref b358), .val (.ref b391), .unset, .unset] [(.ref b391)])) (fun τ κ => XS.aload X398.here hx rfl (hb hby at_117) rfl rfl κ) ?_
    refine Gl.st (g' := (mkF m 120 #[.val (.int x0), .val (.int x1), .val (.int x2), .val (.int x3), .val (.int x4), .val (.int (x0 &&& (3 : Int32))), .val (.int (3 : Int32)), .val (.int ca), .val (.int cb), .val (.int cc), .val (.ref b358), .val (.ref b391), .unset, .unset] [(.int (0 : Int32)), (.ref b391)])) (fun τ κ => XS.iconst X398.here hx rfl (hb hby at_119) κ) ?_
    refine Gl.st (g' := (mkF m 122 #[.val (.int x0), .val (.int x1), .val (.int x2), .val (.int x3), .val (.int x4), .val (.int (x0 &&& (3 : Int32))), .val (.int (3 : Int32)), .val (.int ca), .val (.int cb), .val (.int cc), .val (.ref b358), .val (.ref b391), .unset, .unset] [(.ref b391), (.int (0 : Int32)), (.ref b391)])) (fun τ κ => XS.aload X398.here hx rfl (hb hby at_120) rfl rfl κ) ?_
    refine Gl.st (g' := (mkF m 123 #[.val (.int x0), .val (.int x1), .val (.int x2), .val (.int x3), .val (.int x4), .val (.int (x0 &&& (3 : Int32))), .val (.int (3 : Int32)), .val (.int ca), .val (.int cb), .val (.int cc), .val (.ref b358), .val (.ref b391), .unset, .unset] [(.int (0 : Int32)), (.ref b391), (.int (0 : Int32)), (.ref b391)])) (fun τ κ => XS.iconst X398.here hx rfl (hb hby at_122) κ) ?_
    obtain ⟨cl_o401, Ar_o401, q_o401, S_o401, M_o401, H_o401, G_o401⟩ := id V391
    have hin_o401 : ¬ ((0 : Int32) < 0 ∨ cl_o401.slots.size ≤ ((0 : Int32)).toNatClampNeg) := inb_of S_o401 ⟨by decide, by decide⟩
    refine Gl.st (g' := (mkF m 124 #[.val (.int x0), .val (.int x1), .val (.int x2), .val (.int x3), .val (.int x4), .val (.int (x0 &&& (3 : Int32))), .val (.int (3 : Int32)), .val (.int ca), .val (.int cb), .val (.int cc), .val (.ref b358), .val (.ref b391), .unset, .unset] [(.int (ca.toInt8.toInt32)), (.int (0 : Int32)), (.ref b391)])) (fun τ κ => X398.baloadBytes hx (j := (0 : Int32)) (v := (.int (ca.toInt8.toInt32))) (by rw [e398]; exact Ar_o401.1) (State.isArrayOf_alike hZ.alike Ar_o401.2.1) Ar_o401.2.2 hin_o401 ((H_o401 _ (Nat.lt_of_not_le fun q => hin_o401 (Or.inr q))).trans (congrArg some ((hv391 _ (by decide)).trans ((hv384 _ (by decide)).trans ((hv376 _ (by decide)).trans hw368))))) (g := (mkF m 123 #[.val (.int x0), .val (.int x1), .val (.int x2), .val (.int x3), .val (.int x4), .val (.int (x0 &&& (3 : Int32))), .val (.int (3 : Int32)), .val (.int ca), .val (.int cb), .val (.int cc), .val (.ref b358), .val (.ref b391), .unset, .unset] [(.int (0 : Int32)), (.ref b391), (.int (0 : Int32)), (.ref b391)])) rfl rfl (hb hby at_123) _ κ) ?_
    refine Gl.st (g' := (mkF m 125 #[.val (.int x0), .val (.int x1), .val (.int x2), .val (.int x3), .val (.int x4), .val (.int (x0 &&& (3 : Int32))), .val (.int (3 : Int32)), .val (.int ca), .val (.int cb), .val (.int cc), .val (.ref b358), .val (.ref b391), .unset, .unset] [(.int (1 : Int32)), (.int (ca.toInt8.toInt32)), (.int (0 : Int32)), (.ref b391)])) (fun τ κ => XS.iconst X398.here hx rfl (hb hby at_124) κ) ?_
    refine Gl.st (g' := (mkF m 126 #[.val (.int x0), .val (.int x1), .val (.int x2), .val (.int x3), .val (.int x4), .val (.int (x0 &&& (3 : Int32))), .val (.int (3 : Int32)), .val (.int ca), .val (.int cb), .val (.int cc), .val (.ref b358), .val (.ref b391), .unset, .unset] [(.int ((ca.toInt8.toInt32) ^^^ (1 : Int32))), (.int (0 : Int32)), (.ref b391)])) (fun τ κ => XS.ixor X398.here hx rfl (hb hby at_125) rfl κ) ?_
    refine Gl.st (g' := (mkF m 127 #[.val (.int x0), .val (.int x1), .val (.int x2), .val (.int x3), .val (.int x4), .val (.int (x0 &&& (3 : Int32))), .val (.int (3 : Int32)), .val (.int ca), .val (.int cb), .val (.int cc), .val (.ref b358), .val (.ref b391), .unset, .unset] [(.int (((ca.toInt8.toInt32) ^^^ (1 : Int32)).toInt8.toInt32)), (.int (0 : Int32)), (.ref b391)])) (fun τ κ => XS.i2b X398.here hx rfl (hb hby at_126) rfl κ) ?_
    obtain ⟨cl_o402, Ar_o402, q_o402, S_o402, M_o402, H_o402, G_o402⟩ := id V391
    have hin_o402 : ¬ ((0 : Int32) < 0 ∨ cl_o402.slots.size ≤ ((0 : Int32)).toNatClampNeg) := inb_of S_o402 ⟨by decide, by decide⟩
    obtain ⟨T403, h403, X403, e403, W403, st403⟩ := stB X398 hx hZ e398 Ar_o402 (j := (0 : Int32)) hin_o402 (g := (mkF m 127 #[.val (.int x0), .val (.int x1), .val (.int x2), .val (.int x3), .val (.int x4), .val (.int (x0 &&& (3 : Int32))), .val (.int (3 : Int32)), .val (.int ca), .val (.int cb), .val (.int cc), .val (.ref b358), .val (.ref b391), .unset, .unset] [(.int (((ca.toInt8.toInt32) ^^^ (1 : Int32)).toInt8.toInt32)), (.int (0 : Int32)), (.ref b391)])) rfl rfl (hb hby at_127)
    obtain ⟨vs403, hvs403⟩ := own_upd vs391 ((0 : Int32)).toNatClampNeg (.int (nar .byte (((ca.toInt8.toInt32) ^^^ (1 : Int32)).toInt8.toInt32))) (.int (0 : Int32))
    have E_404 := E_392.wr W403
    have F_405 := F_393.other W403 (Or.inl ne_b358_b391)
    have F_406 := F_394.other W403 (Or.inl ne_b358_b391)
    have F_407 := F_395.other W403 (Or.inl ne_b358_b391)
    have E_408 := E_396.wr W403
    have V_409 := V_397.other W403 ne_t384_b391
    have E_410 := Ex391.wr W403
    have N403 := Fr.snoc X403 N398 g_b391
    have Z403 : n0 ≤ h403.size := Nat.le_trans Z391 (Nat.le_of_eq W403.size.symm)
    have K403 : Keep h0 h403 [] := K391.wr W403 (Or.inr sz_b391)
    have V_b391_403 : Arv Z h403 b391 kk391 .byte (3 : Int32) vs403 (.int (0 : Int32)) := own_set Ar_o402 q_o402 S_o402 M_o402 H_o402 G_o402 (fits_nar_byte _) W403 hvs403
    refine Gl.st (g' := (mkF m 128 #[.val (.int x0), .val (.int x1), .val (.int x2), .val (.int x3), .val (.int x4), .val (.int (x0 &&& (3 : Int32))), .val (.int (3 : Int32)), .val (.int ca), .val (.int cb), .val (.int cc), .val (.ref b358), .val (.ref b391), .unset, .unset] [])) (fun τ κ => st403 _ κ) ?_
    refine Gl.st (g' := (mkF m 130 #[.val (.int x0), .val (.int x1), .val (.int x2), .val (.int x3), .val (.int x4), .val (.int (x0 &&& (3 : Int32))), .val (.int (3 : Int32)), .val (.int ca), .val (.int cb), .val (.int cc), .val (.ref b358), .val (.ref b391), .unset, .unset] [(.ref b358)])) (fun τ κ => XS.aload X403.here hx rfl (hb hby at_128) rfl rfl κ) ?_
    obtain ⟨cq412, kq412, q412a, q412b, q412c⟩ := isOf hZ e403 E_404
    obtain ⟨rv412, _, ⟨T412, L412, k412, n412⟩, -, X412, ⟨Lc412, hQ412, l412, y412, z412⟩, st412⟩ := X403.virtualBack hx (y := (⟨"com/example/hermitage/hermitage/frame/JsonText", "toBytes", "()[B"⟩ : MethodName)) (z := (⟨"com/example/hermitage/hermitage/frame/JsonText", "toBytes", "()[B"⟩ : MethodName)) hown (mvT hZ (hw _ (List.mem_of_getElem? (i := 40) rfl))) (mvT hZ (hw _ (List.mem_of_getElem? (i := 41) rfl))) (notFace_of_selects (args := #[]) (mvT hZ (hw _ (List.mem_of_getElem? (i := 43) rfl)))) (mvT hZ (hw _ (List.mem_of_getElem? (i := 43) rfl))) (mvT hZ (hw _ (List.mem_of_getElem? (i := 42) rfl))) (by decide) (backOf (W := 0) (rm8 l Z a0 hw [] b358 t384 kk384 (x0 &&& (3 : Int32)) (3 : Int32) z384 vs384 h403 n0 Z403 E_404 g_b358 F_405 F_406 F_407 E_408 gt384 V_409 ne384 (by decide) (own_up nz384 (by decide)) z8384 (by decide)) hZ (hw _ (List.mem_of_getElem? (i := 44) rfl)) (hw _ (List.mem_of_getElem? (i := 2) rfl)) (by decide) (by decide)) q412a q412c (g := (mkF m 130 #[.val (.int x0), .val (.int x1), .val (.int x2), .val (.int x3), .val (.int x4), .val (.int (x0 &&& (3 : Int32))), .val (.int (3 : Int32)), .val (.int ca), .val (.int cb), .val (.int cc), .val (.ref b358), .val (.ref b391), .unset, .unset] [(.ref b358)])) rfl (by rw [hml]; rfl) (Steps.refl _) (argsL := []) (rest := []) (lenOf pd_3 rfl) rfl (by show 2 * 0 + _ ≤ _; exact Nat.le_of_eq rfl) (hb hby at_130) (fun _ _ => ⟨rfl, e403, (by decide : 6 + 1 ≤ _), (by decide : 42 + 8 ≤ _)⟩)
    dsimp only [Pt.U, Pt.locs, Pt.cells, Pt.slots] at X412 l412 y412 z412 st412 hQ412
    subst l412 y412 z412
    obtain ⟨b412, kk412, vs412, rfl, N412q, Kc412, s412, Ex412, V412, hv412⟩ := hQ412
    have ne_b358_b412 : b358 ≠ b412 := Nat.ne_of_lt (Nat.lt_of_lt_of_le E_404.lt s412)
    have ne_t384_b412 : t384 ≠ b412 := Nat.ne_of_lt (Nat.lt_of_lt_of_le E_408.lt s412)
    have ne_b391_b412 : b391 ≠ b412 := Nat.ne_of_lt (Nat.lt_of_lt_of_le E_410.lt s412)
    have g_b412 : n0 ≤ b412 := Nat.le_trans Z403 s412
    have sz_b412 : h0.size ≤ b412 := Nat.le_trans K403.1 s412
    have E_413 := E_404.keep Kc412
    have F_414 := F_405.keep Kc412 nin0
    have F_415 := F_406.keep Kc412 nin0
    have F_416 := F_407.keep Kc412 nin0
    have E_417 := E_408.keep Kc412
    have V_418 := V_409.keep Kc412 nin0
    have E_419 := E_410.keep Kc412
    have V_420 := V_b391_403.keep Kc412 nin0
    have N412 := Fr.app N403 N412q
    have Z412 : n0 ≤ T412.heap.size := Nat.le_trans Z403 Kc412.1
    have K412 : Keep h0 T412.heap [] := K403.trans Kc412 all0
    refine Gl.st (g' := (mkF m 133 #[.val (.int x0), .val (.int x1), .val (.int x2), .val (.int x3), .val (.int x4), .val (.int (x0 &&& (3 : Int32))), .val (.int (3 : Int32)), .val (.int ca), .val (.int cb), .val (.int cc), .val (.ref b358), .val (.ref b391), .unset, .unset] [(.ref b412)])) (fun τ κ => st412.trans κ) ?_
    refine Gl.st (g' := (mkF m 135 #[.val (.int x0), .val (.int x1), .val (.int x2), .val (.int x3), .val (.int x4), .val (.int (x0 &&& (3 : Int32))), .val (.int (3 : Int32)), .val (.int ca), .val (.int cb), .val (.int cc), .val (.ref b358), .val (.ref b391), .val (.ref b412), .unset] [])) (fun τ κ => XS.astore X412.here hx rfl (hb hby at_133) rfl rfl (l' := #[.val (.int x0), .val (.int x1), .val (.int x2), .val (.int x3), .val (.int x4), .val (.int (x0 &&& (3 : Int32))), .val (.int (3 : Int32)), .val (.int ca), .val (.int cb), .val (.int cc), .val (.ref b358), .val (.ref b391), .val (.ref b412), .unset]) rfl κ) ?_
    refine Gl.st (g' := (mkF m 137 #[.val (.int x0), .val (.int x1), .val (.int x2), .val (.int x3), .val (.int x4), .val (.int (x0 &&& (3 : Int32))), .val (.int (3 : Int32)), .val (.int ca), .val (.int cb), .val (.int cc), .val (.ref b358), .val (.ref b391), .val (.ref b412), .unset] [(.ref b412)])) (fun τ κ => XS.aload X412.here hx rfl (hb hby at_135) rfl rfl κ) ?_
    refine Gl.st (g' := (mkF m 139 #[.val (.int x0), .val (.int x1), .val (.int x2), .val (.int x3), .val (.int x4), .val (.int (x0 &&& (3 : Int32))), .val (.int (3 : Int32)), .val (.int ca), .val (.int cb), .val (.int cc), .val (.ref b358), .val (.ref b391), .val (.ref b412), .unset] [(.ref b391), (.ref b412)])) (fun τ κ => XS.aload X412.here hx rfl (hb hby at_137) rfl rfl κ) ?_
    refine Gl.st (g' := (mkF m 144 #[.val (.int x0), .val (.int x1), .val (.int x2), .val (.int x3), .val (.int x4), .val (.int (x0 &&& (3 : Int32))), .val (.int (3 : Int32)), .val (.int ca), .val (.int cb), .val (.int cc), .val (.ref b358), .val (.ref b391), .val (.ref b412), .unset] [])) (fun τ κ => Jvm.RoadKit.acmp (g := (mkF m 139 #[.val (.int x0), .val (.int x1), .val (.int x2), .val (.int x3), .val (.int x4), .val (.int (x0 &&& (3 : Int32))), .val (.int (3 : Int32)), .val (.int ca), .val (.int cb), .val (.int cc), .val (.ref b358), .val (.ref b391), .val (.ref b412), .unset] [(.ref b391), (.ref b412)])) X412 hx rfl rfl rfl (pc0 := 139) (pc' := 144) (same := false) rfl (hb hby at_139) rfl (decide_eq_false fun q => (Ne.symm ne_b391_b412) (Value.ref.inj q)) (by decide) (by decide) κ) ?_
    refine Gl.st (g' := (mkF m 146 #[.val (.int x0), .val (.int x1), .val (.int x2), .val (.int x3), .val (.int x4), .val (.int (x0 &&& (3 : Int32))), .val (.int (3 : Int32)), .val (.int ca), .val (.int cb), .val (.int cc), .val (.ref b358), .val (.ref b391), .val (.ref b412), .unset] [(.ref b412)])) (fun τ κ => XS.aload X412.here hx rfl (hb hby at_144) rfl rfl κ) ?_
    refine Gl.st (g' := (mkF m 148 #[.val (.int x0), .val (.int x1), .val (.int x2), .val (.int x3), .val (.int x4), .val (.int (x0 &&& (3 : Int32))), .val (.int (3 : Int32)), .val (.int ca), .val (.int cb), .val (.int cc), .val (.ref b358), .val (.ref b391), .val (.ref b412), .unset] [(.int (3 : Int32)), (.ref b412)])) (fun τ κ => XS.iload X412.here hx rfl (hb hby at_146) rfl κ) ?_
    refine Gl.st (g' := (mkF m 150 #[.val (.int x0), .val (.int x1), .val (.int x2), .val (.int x3), .val (.int x4), .val (.int (x0 &&& (3 : Int32))), .val (.int (3 : Int32)), .val (.int ca), .val (.int cb), .val (.int cc), .val (.ref b358), .val (.ref b391), .val (.ref b412), .unset] [(.int ca), (.int (3 : Int32)), (.ref b412)])) (fun τ κ => XS.iload X412.here hx rfl (hb hby at_148) rfl κ) ?_
    refine Gl.st (g' := (mkF m 152 #[.val (.int x0), .val (.int x1), .val (.int x2), .val (.int x3), .val (.int x4), .val (.int (x0 &&& (3 : Int32))), .val (.int (3 : Int32)), .val (.int ca), .val (.int cb), .val (.int cc), .val (.ref b358), .val (.ref b391), .val (.ref b412), .unset] [(.int cb), (.int ca), (.int (3 : Int32)), (.ref b412)])) (fun τ κ => XS.iload X412.here hx rfl (hb hby at_150) rfl κ) ?_
    refine Gl.st (g' := (mkF m 154 #[.val (.int x0), .val (.int x1), .val (.int x2), .val (.int x3), .val (.int x4), .val (.int (x0 &&& (3 : Int32))), .val (.int (3 : Int32)), .val (.int ca), .val (.int cb), .val (.int cc), .val (.ref b358), .val (.ref b391), .val (.ref b412), .unset] [(.int cc), (.int cb), (.int ca), (.int (3 : Int32)), (.ref b412)])) (fun τ κ => XS.iload X412.here hx rfl (hb hby at_152) rfl κ) ?_
    obtain ⟨rv421, _, ⟨T421, L421, k421, n421⟩, -, X421, ⟨Lc421, hQ421, l421, y421, z421⟩, st421⟩ := Jvm.LawKit.callS X412 hx (y := (⟨"com/example/hermitage/hermitage/frame/JsonTextToBytesPinLaw", "same", "([BICCC)Z"⟩ : MethodName)) hown (mvT hZ (hw _ (List.mem_of_getElem? (i := 45) rfl))) (mvT hZ (hw _ (List.mem_of_getElem? (i := 46) rfl))) (mvT hZ (hw _ (List.mem_of_getElem? (i := 47) rfl))) (mvT hZ (hw _ (List.mem_of_getElem? (i := 48) rfl))) (by decide) (backOf (W := 0) (rm_same3 l Z a0 hw [] b412 ca cb cc kk412 vs412 T412.heap n0 Z412 V412 ((hv412 _ (by decide)).trans ((hv384 _ (by decide)).trans ((hv376 _ (by decide)).trans hw368))) ((hv412 _ (by decide)).trans ((hv384 _ (by decide)).trans hw376)) ((hv412 _ (by decide)).trans hw384)) hZ (hw _ (List.mem_of_getElem? (i := 48) rfl)) (hw _ (List.mem_of_getElem? (i := 47) rfl)) (by decide) (by decide)) (g := (mkF m 154 #[.val (.int x0), .val (.int x1), .val (.int x2), .val (.int x3), .val (.int x4), .val (.int (x0 &&& (3 : Int32))), .val (.int (3 : Int32)), .val (.int ca), .val (.int cb), .val (.int cc), .val (.ref b358), .val (.ref b391), .val (.ref b412), .unset] [(.int cc), (.int cb), (.int ca), (.int (3 : Int32)), (.ref b412)])) rfl (by rw [hml]; rfl) (argsL := [(.ref b412), (.int (3 : Int32)), (.int ca), (.int cb), (.int cc)]) (rest := []) (lenOf pd_4 rfl) rfl (by show 2 * 0 + _ ≤ _; exact Nat.le_of_eq rfl) (hb hby at_154) (fun _ _ => ⟨rfl, rfl, (by decide : 7 + 0 ≤ _), (by decide : 50 + 0 ≤ _)⟩)
    dsimp only [Pt.U, Pt.locs, Pt.cells, Pt.slots] at X421 l421 y421 z421 st421 hQ421
    subst l421 y421 z421
    obtain ⟨rfl, N421q, e421⟩ := hQ421
    have N421 := Fr.app N412 N421q
    refine Gl.st (g' := (mkF m 157 #[.val (.int x0), .val (.int x1), .val (.int x2), .val (.int x3), .val (.int x4), .val (.int (x0 &&& (3 : Int32))), .val (.int (3 : Int32)), .val (.int ca), .val (.int cb), .val (.int cc), .val (.ref b358), .val (.ref b391), .val (.ref b412), .unset] [(.int (1 : Int32))])) (fun τ κ => st421 _ κ) ?_
    have hc422 : ¬ ((1 : Int32) = (0 : Int32)) := by decide
    refine Gl.st (g' := (mkF m 162 #[.val (.int x0), .val (.int x1), .val (.int x2), .val (.int x3), .val (.int x4), .val (.int (x0 &&& (3 : Int32))), .val (.int (3 : Int32)), .val (.int ca), .val (.int cb), .val (.int cc), .val (.ref b358), .val (.ref b391), .val (.ref b412), .unset] [])) (fun τ κ => XS.ifYes X421.here hx rfl (pc0 := 157) (pc' := 162) rfl (hb hby at_157) rfl ((if0 _ _).trans (feq hc422).2) (by decide) (by decide) κ) ?_
    refine Gl.st (g' := (mkF m 164 #[.val (.int x0), .val (.int x1), .val (.int x2), .val (.int x3), .val (.int x4), .val (.int (x0 &&& (3 : Int32))), .val (.int (3 : Int32)), .val (.int ca), .val (.int cb), .val (.int cc), .val (.ref b358), .val (.ref b391), .val (.ref b412), .unset] [(.ref b358)])) (fun τ κ => XS.aload X421.here hx rfl (hb hby at_162) rfl rfl κ) ?_
    obtain ⟨cq423, kq423, q423a, q423b, q423c⟩ := isOf hZ e421 E_413
    obtain ⟨rv423, _, ⟨T423, L423, k423, n423⟩, -, X423, ⟨Lc423, hQ423, l423, y423, z423⟩, st423⟩ := X421.virtualBack hx (y := (⟨"com/example/hermitage/hermitage/frame/JsonText", "clear", "()Lcom/example/hermitage/hermitage/frame/JsonText;"⟩ : MethodName)) (z := (⟨"com/example/hermitage/hermitage/frame/JsonText", "clear", "()Lcom/example/hermitage/hermitage/frame/JsonText;"⟩ : MethodName)) hown (mvT hZ (hw _ (List.mem_of_getElem? (i := 49) rfl))) (mvT hZ (hw _ (List.mem_of_getElem? (i := 50) rfl))) (notFace_of_selects (args := #[]) (mvT hZ (hw _ (List.mem_of_getElem? (i := 52) rfl)))) (mvT hZ (hw _ (List.mem_of_getElem? (i := 52) rfl))) (mvT hZ (hw _ (List.mem_of_getElem? (i := 51) rfl))) (by decide) (backOf (W := 0) (rm10 l Z a0 hw [] b358 t384 kk384 (x0 &&& (3 : Int32)) (3 : Int32) z384 vs384 T412.heap n0 Z412 E_413 g_b358 F_414 F_415 F_416 E_417 gt384 V_418 ne384 (by decide) (own_up nz384 (by decide)) z8384) hZ (hw _ (List.mem_of_getElem? (i := 53) rfl)) (hw _ (List.mem_of_getElem? (i := 2) rfl)) (by decide) (by decide)) q423a q423c (g := (mkF m 164 #[.val (.int x0), .val (.int x1), .val (.int x2), .val (.int x3), .val (.int x4), .val (.int (x0 &&& (3 : Int32))), .val (.int (3 : Int32)), .val (.int ca), .val (.int cb), .val (.int cc), .val (.ref b358), .val (.ref b391), .val (.ref b412), .unset] [(.ref b358)])) rfl (by rw [hml]; rfl) (Steps.refl _) (argsL := []) (rest := []) (lenOf pd_5 rfl) rfl (by show 2 * 0 + _ ≤ _; exact Nat.le_of_eq rfl) (hb hby at_164) (fun _ _ => ⟨rfl, e421, (by decide : 7 + 0 ≤ _), (by decide : 50 + 0 ≤ _)⟩)
    dsimp only [Pt.U, Pt.locs, Pt.cells, Pt.slots] at X423 l423 y423 z423 st423 hQ423
    subst l423 y423 z423
    obtain ⟨rfl, N423q, Kc423, Ec423, FC423, FB423, FL423⟩ := hQ423
    have E_424 := E_413.keep Kc423
    have E_428 := E_417.keep Kc423
    have V_429 := V_418.keep Kc423 (ninS (Ne.symm ne384) nin0)
    have E_430 := E_419.keep Kc423
    have V_431 := V_420.keep Kc423 (ninS (Ne.symm ne_b358_b391) nin0)
    have E_432 := Ex412.keep Kc423
    have V_433 := V412.keep Kc423 (ninS (Ne.symm ne_b358_b412) nin0)
    have N423 := Fr.app N421 N423q
    have Z423 : n0 ≤ T423.heap.size := Nat.le_trans Z412 Kc423.1
    have K423 : Keep h0 T423.heap [] := K412.trans Kc423 (allS (Or.inr sz_b358) all0)
    refine Gl.st (g' := (mkF m 167 #[.val (.int x0), .val (.int x1), .val (.int x2), .val (.int x3), .val (.int x4), .val (.int (x0 &&& (3 : Int32))), .val (.int (3 : Int32)), .val (.int ca), .val (.int cb), .val (.int cc), .val (.ref b358), .val (.ref b391), .val (.ref b412), .unset] [(.ref b358)])) (fun τ κ => st423.trans κ) ?_
    refine Gl.st (g' := (mkF m 168 #[.val (.int x0), .val (.int x1), .val (.int x2), .val (.int x3), .val (.int x4), .val (.int (x0 &&& (3 : Int32))), .val (.int (3 : Int32)), .val (.int ca), .val (.int cb), .val (.int cc), .val (.ref b358), .val (.ref b391), .val (.ref b412), .unset] [])) (fun τ κ => XS.pop X423.here hx rfl (hb hby at_167) rfl rfl κ) ?_
    refine Gl.st (g' := (mkF m 170 #[.val (.int x0), .val (.int x1), .val (.int x2), .val (.int x3), .val (.int x4), .val (.int (x0 &&& (3 : Int32))), .val (.int (3 : Int32)), .val (.int ca), .val (.int cb), .val (.int cc), .val (.ref b358), .val (.ref b391), .val (.ref b412), .unset] [(.ref b358)])) (fun τ κ => XS.aload X423.here hx rfl (hb hby at_168) rfl rfl κ) ?_
    obtain ⟨cq434, kq434, q434a, q434b, q434c⟩ := isOf hZ rfl Ec423
    obtain ⟨rv434, _, ⟨T434, L434, k434, n434⟩, -, X434, ⟨Lc434, hQ434, l434, y434, z434⟩, st434⟩ := X423.virtualBack hx (y := (⟨"com/example/hermitage/hermitage/frame/JsonText", "toBytes", "()[B"⟩ : MethodName)) (z := (⟨"com/example/hermitage/hermitage/frame/JsonText", "toBytes", "()[B"⟩ : MethodName)) hown (mvT hZ (hw _ (List.mem_of_getElem? (i := 40) rfl))) (mvT hZ (hw _ (List.mem_of_getElem? (i := 41) rfl))) (notFace_of_selects (args := #[]) (mvT hZ (hw _ (List.mem_of_getElem? (i := 43) rfl)))) (mvT hZ (hw _ (List.mem_of_getElem? (i := 43) rfl))) (mvT hZ (hw _ (List.mem_of_getElem? (i := 42) rfl))) (by decide) (backOf (W := 0) (rm8 l Z a0 hw [] b358 t384 kk384 (x0 &&& (3 : Int32)) (0 : Int32) z384 vs384 T423.heap n0 Z423 Ec423 g_b358 FC423 FB423 FL423 E_428 gt384 V_429 ne384 (by decide) (own_zn (n := (3 : Int32)) (by decide) (own_up nz384 (by decide))) z8384 (by decide)) hZ (hw _ (List.mem_of_getElem? (i := 44) rfl)) (hw _ (List.mem_of_getElem? (i := 2) rfl)) (by decide) (by decide)) q434a q434c (g := (mkF m 170 #[.val (.int x0), .val (.int x1), .val (.int x2), .val (.int x3), .val (.int x4), .val (.int (x0 &&& (3 : Int32))), .val (.int (3 : Int32)), .val (.int ca), .val (.int cb), .val (.int cc), .val (.ref b358), .val (.ref b391), .val (.ref b412), .unset] [(.ref b358)])) rfl (by rw [hml]; rfl) (Steps.refl _) (argsL := []) (rest := []) (lenOf pd_3 rfl) rfl (by show 2 * 0 + _ ≤ _; exact Nat.le_of_eq rfl) (hb hby at_170) (fun _ _ => ⟨rfl, rfl, (by decide : 7 + 1 ≤ _), (by decide : 50 + 8 ≤ _)⟩)
    dsimp only [Pt.U, Pt.locs, Pt.cells, Pt.slots] at X434 l434 y434 z434 st434 hQ434
    subst l434 y434 z434
    obtain ⟨b434, kk434, vs434, rfl, N434q, Kc434, s434, Ex434, V434, hv434⟩ := hQ434
    have ne_b358_b434 : b358 ≠ b434 := Nat.ne_of_lt (Nat.lt_of_lt_of_le Ec423.lt s434)
    have ne_t384_b434 : t384 ≠ b434 := Nat.ne_of_lt (Nat.lt_of_lt_of_le E_428.lt s434)
    have ne_b391_b434 : b391 ≠ b434 := Nat.ne_of_lt (Nat.lt_of_lt_of_le E_430.lt s434)
    have ne_b412_b434 : b412 ≠ b434 := Nat.ne_of_lt (Nat.lt_of_lt_of_le E_432.lt s434)
    have g_b434 : n0 ≤ b434 := Nat.le_trans Z423 s434
    have sz_b434 : h0.size ≤ b434 := Nat.le_trans K423.1 s434
    have E_435 := Ec423.keep Kc434
    have E_436 := E_428.keep Kc434
    have V_437 := V_429.keep Kc434 nin0
    have E_438 := E_430.keep Kc434
    have V_439 := V_431.keep Kc434 nin0
    have E_440 := E_432.keep Kc434
    have V_441 := V_433.keep Kc434 nin0
    have F_442 := FC423.keep Kc434 nin0
    have F_443 := FB423.keep Kc434 nin0
    have F_444 := FL423.keep Kc434 nin0
    have N434 := Fr.app N423 N434q
    have Z434 : n0 ≤ T434.heap.size := Nat.le_trans Z423 Kc434.1
    have K434 : Keep h0 T434.heap [] := K423.trans Kc434 all0
    refine Gl.st (g' := (mkF m 173 #[.val (.int x0), .val (.int x1), .val (.int x2), .val (.int x3), .val (.int x4), .val (.int (x0 &&& (3 : Int32))), .val (.int (3 : Int32)), .val (.int ca), .val (.int cb), .val (.int cc), .val (.ref b358), .val (.ref b391), .val (.ref b412), .unset] [(.ref b434)])) (fun τ κ => st434.trans κ) ?_
    refine Gl.st (g' := (mkF m 175 #[.val (.int x0), .val (.int x1), .val (.int x2), .val (.int x3), .val (.int x4), .val (.int (x0 &&& (3 : Int32))), .val (.int (3 : Int32)), .val (.int ca), .val (.int cb), .val (.int cc), .val (.ref b358), .val (.ref b391), .val (.ref b412), .val (.ref b434)] [])) (fun τ κ => XS.astore X434.here hx rfl (hb hby at_173) rfl rfl (l' := #[.val (.int x0), .val (.int x1), .val (.int x2), .val (.int x3), .val (.int x4), .val (.int (x0 &&& (3 : Int32))), .val (.int (3 : Int32)), .val (.int ca), .val (.int cb), .val (.int cc), .val (.ref b358), .val (.ref b391), .val (.ref b412), .val (.ref b434)]) rfl κ) ?_
    refine Gl.st (g' := (mkF m 177 #[.val (.int x0), .val (.int x1), .val (.int x2), .val (.int x3), .val (.int x4), .val (.int (x0 &&& (3 : Int32))), .val (.int (3 : Int32)), .val (.int ca), .val (.int cb), .val (.int cc), .val (.ref b358), .val (.ref b391), .val (.ref b412), .val (.ref b434)] [(.ref b434)])) (fun τ κ => XS.aload X434.here hx rfl (hb hby at_175) rfl rfl κ) ?_
    obtain ⟨cl_o445, Ar_o445, q_o445, S_o445, M_o445, H_o445, G_o445⟩ := id V434
    refine Gl.st (g' := (mkF m 178 #[.val (.int x0), .val (.int x1), .val (.int x2), .val (.int x3), .val (.int x4), .val (.int (x0 &&& (3 : Int32))), .val (.int (3 : Int32)), .val (.int ca), .val (.int cb), .val (.int cc), .val (.ref b358), .val (.ref b391), .val (.ref b412), .val (.ref b434)] [(.int (0 : Int32))])) (fun τ κ => X434.arraylength hx Ar_o445.1 (State.isArrayOf_alike hZ.alike Ar_o445.2.1) (g := (mkF m 177 #[.val (.int x0), .val (.int x1), .val (.int x2), .val (.int x3), .val (.int x4), .val (.int (x0 &&& (3 : Int32))), .val (.int (3 : Int32)), .val (.int ca), .val (.int cb), .val (.int cc), .val (.ref b358), .val (.ref b391), .val (.ref b412), .val (.ref b434)] [(.ref b434)])) rfl rfl (hb hby at_177) _ (by rw [len_of S_o445 M_o445]; exact κ)) ?_
    have hc446 : (0 : Int32) = (0 : Int32) := by decide
    refine Gl.st (g' := (mkF m 181 #[.val (.int x0), .val (.int x1), .val (.int x2), .val (.int x3), .val (.int x4), .val (.int (x0 &&& (3 : Int32))), .val (.int (3 : Int32)), .val (.int ca), .val (.int cb), .val (.int cc), .val (.ref b358), .val (.ref b391), .val (.ref b412), .val (.ref b434)] [])) (fun τ κ => XS.ifNo X434.here hx rfl (hb hby at_178) rfl ((if0 _ _).trans (teq hc446).2) κ) ?_
    refine Gl.st (g' := (mkF m 182 #[.val (.int x0), .val (.int x1), .val (.int x2), .val (.int x3), .val (.int x4), .val (.int (x0 &&& (3 : Int32))), .val (.int (3 : Int32)), .val (.int ca), .val (.int cb), .val (.int cc), .val (.ref b358), .val (.ref b391), .val (.ref b412), .val (.ref b434)] [(.int (1 : Int32))])) (fun τ κ => XS.iconst X434.here hx rfl (hb hby at_181) κ) ?_
    refine Gl.st (g' := (mkF m 186 #[.val (.int x0), .val (.int x1), .val (.int x2), .val (.int x3), .val (.int x4), .val (.int (x0 &&& (3 : Int32))), .val (.int (3 : Int32)), .val (.int ca), .val (.int cb), .val (.int cc), .val (.ref b358), .val (.ref b391), .val (.ref b412), .val (.ref b434)] [(.int (1 : Int32))])) (fun τ κ => XS.goto X434.here hx rfl (pc0 := 182) (pc' := 186) rfl (hb hby at_182) (by decide) (by decide) κ) ?_
    exact Gl.ret (v := some (.int (1 : Int32))) X434 Bd.notSynchronized (fun h => by rw [Bd.returns] at h; cases h) rfl (fun fs hr => retN X434 hx (t := .boolean) Bd.returns (by simp) (hb hby at_186) hr) (by decide) (by decide) ⟨rfl, N434⟩
set_option maxRecDepth 65536 in
set_option maxHeartbeats 40000000 in
theorem comes_1 {Post : Tables → Env → Array Value → State → Outcome → State → Prop} (hpost : ∀ tb e args s v u, (limb_1_1.after args s (.returned v) u = true ∧ limb_1_2.after args s (.returned v) u = true ∧ True) → FrameEnd s (.returned v) u (Jvm.fieldLocs frame_1_writes args s ++ Jvm.arrayLocs frame_1_arrays args s ++ Jvm.staticLocs frame_1_statics s) 24 128 → Post tb e args s (.returned v) u) :
    ArmFor flags0 classFile x code maxLocals ret World_1 tables_1 room_1 Calls_1 rest_1 Pre_1 Post := by
  intro l hfl _ _ p e ha hc hk s m args below hf hA hF happ hP
  obtain ⟨hcalls, hrest, hpre⟩ := hP
  obtain ⟨-, -, -, hnamed, -, -, -, hat⟩ := (Spec.applies_iff hf).mp happ
  obtain ⟨hg, hn⟩ := and_e (Cond.before_iff.mp (show (Jvm.Cond.and given_1 narrow_1).before args s = true from hpre))
  obtain ⟨hcount, hg0⟩ := and_e hg
  obtain ⟨gi0, hg1⟩ := and_e hg0
  obtain ⟨gi1, hg2⟩ := and_e hg1
  obtain ⟨gi2, hg3⟩ := and_e hg2
  obtain ⟨gi3, hg4⟩ := and_e hg3
  have gi4 := hg4
  obtain ⟨w0, w1, w2, w3, w4, rfl⟩ : ∃ w0 w1 w2 w3 w4 : Value, args = #[w0, w1, w2, w3, w4] := by
    have hs : args.size = 5 := by simpa [Cond.value, given_1] using hcount
    obtain ⟨L⟩ := args
    match L, hs with
    | [w0, w1, w2, w3, w4], _ => exact ⟨w0, w1, w2, w3, w4, rfl⟩
  have hw := fun d (hd : d ∈ tables_1) => atoms_spec (ws := Jvm.Cond.code x code maxLocals ret :: tables_1) hat d (List.mem_cons_of_mem _ hd)
  obtain ⟨i0, ei0⟩ := is_v gi0
  obtain rfl : w0 = (.int i0) := Option.some.inj ei0
  obtain ⟨i1, ei1⟩ := is_v gi1
  obtain rfl : w1 = (.int i1) := Option.some.inj ei1
  obtain ⟨i2, ei2⟩ := is_v gi2
  obtain rfl : w2 = (.int i2) := Option.some.inj ei2
  obtain ⟨i3, ei3⟩ := is_v gi3
  obtain rfl : w3 = (.int i3) := Option.some.inj ei3
  obtain ⟨i4, ei4⟩ := is_v gi4
  obtain rfl : w4 = (.int i4) := Option.some.inj ei4
  obtain ⟨n, o, h1, h2, h3, _, L, rfl, ⟨rfl, N⟩, hq⟩ := rm0 l s _ hw tables_1 i0 i1 i2 i3 i4  s.heap s.heap.size (Nat.le_refl _)  p e ha hc hk s m _ below hf ((Spec.applies_iff_loose hf).mp happ).1 ⟨rfl, State.Warmed39.refl s, rfl⟩ trivial
  refine ⟨n, _, h1, h2, h3, hpost _ _ _ _ _ _ ⟨Cond.after_iff.mpr rfl, Cond.after_iff.mpr (eq_i res_at (Term.int_eval (1)) rfl), trivial⟩ ⟨hq.1, hq.2.1, (hq.2.2.sift fun y hy => Or.inr (N y hy)).mono (by decide) (by decide)⟩⟩
theorem main_1_1 : Claimed_1_1 := comes_1 fun _ _ _ _ _ _ h hF => ⟨h.1, hF⟩
theorem main_1_2 : Claimed_1_2 := comes_1 fun _ _ _ _ _ _ h hF => ⟨h.2.1, hF⟩
end Jvm.Pilot.@@N@@
namespace Jvm.Pilot.@@N@@
open Jvm Jvm.ClassFile Sem Op Lib Jvm.Free Jvm.Stand Jvm.Pilot.@@N@@.Jvm.D
/-! MADE BY PROGRAM (witnessworld.py) out of the Statement's table words and the real class files: 12 classes; the members and pool entries that the words name. The judged class is class 1, her method 1. -/
namespace start1
open Jvm.ClassFile
def u (s : String) : CpInfo := .utf8 (stringToUtf16 s)
/-- a pool by its gaps: so many unusable entries, then the entry; so many at the end -/
def gap : Nat → List CpInfo → List CpInfo
  | 0, r => r
  | n + 1, r => .unusable :: gap n r
def poolList (es : List (Nat × CpInfo)) (last : Nat) : List CpInfo := es.foldr (fun e r => gap e.1 (e.2 :: r)) (gap last [])
def pool (es : List (Nat × CpInfo)) (last : Nat) : Array CpInfo := ⟨poolList es last⟩
def fileOf (pool : Array CpInfo) (this : Nat) (attrs : Array Attribute := #[]) (ms : Array MethodInfo := #[]) (fl : Nat := 33) (sup : Nat := 0) (ifs : Array Nat := #[]) (fds : Array FieldInfo := #[]) : ClassFile where
  minorVersion := 0
  majorVersion := 65
  constantPool := pool
  accessFlags := fl
  thisClass := this
  superClass := sup
  interfaces := ifs
  fields := fds
  methods := ms
  attributes := attrs
def plain (name : String) (sup : Option ClassId) : Class where
  name := name
  kind := .ordinary
  loader := none
  accessFlags := 33
  super := sup
  interfaces := #[]
  cf := none
  fields := #[]
  methods := #[]
  instanceTypes := #[]
  staticTypes := #[]
  resolved := #[]
  callSites := []
  init := .initialized
  statics := none
  mirror := none

def pool0 : Array CpInfo := pool [(5, u "<init>"), (0, u "()V"), (1, .class_ 10), (1, u "java/lang/Object"), (85, u "clone"), (0, u "()Ljava/lang/Object;")] 26

def k0c0 : Code := { maxStack := 0, maxLocals := 1, code := object_method_1_code, exceptionTable := #[], attributes := #[] }
def k0m0 : Method := { name := "<init>", desc := "()V", sig := { parameters := [], returnType := none }, accessFlags := 1, code := some k0c0 }
def k0m1 : Method := { name := "clone", desc := "()Ljava/lang/Object;", sig := { parameters := [], returnType := some (.object "java/lang/Object") }, accessFlags := 260, code := none }
/-- java/lang/Object -/
def k0 : Class := { plain "java/lang/Object" none with
  accessFlags := 33
  interfaces := #[]
  cf := some (fileOf pool0 8 #[] #[{ accessFlags := 1, nameIndex := 5, descriptorIndex := 6, attributes := #[] }, { accessFlags := 260, nameIndex := 96, descriptorIndex := 97, attributes := #[] }] 33 0 #[] #[])
  fields := #[]
  methods := #[k0m0, k0m1]
  instanceTypes := #[]
  staticTypes := #[]
  resolved := Array.replicate 124 none
  statics := none }

def pool1 : Array CpInfo := pool [(2, .class_ 4), (1, u "java/lang/Object"), (0, u "<init>"), (0, u "()V"), (0, .class_ 8), (0, u "com/example/hermitage/hermitage/frame/JsonText"), (0, .methodref 7 10), (0, .nameAndType 5 11), (0, u "(I)V"), (0, .methodref 7 13), (0, .nameAndType 14 15), (0, u "mark"), (0, u "(C)Lcom/example/hermitage/hermitage/frame/JsonText;"), (0, .methodref 7 17), (0, .nameAndType 18 19), (0, u "toBytes"), (0, u "()[B"), (0, .methodref 21 22), (0, .class_ 23), (0, .nameAndType 24 25), (0, u "com/example/hermitage/hermitage/frame/JsonTextToBytesPinLaw"), (0, u "same"), (0, u "([BICCC)Z"), (0, .methodref 7 27), (0, .nameAndType 28 29), (0, u "clear"), (0, u "()Lcom/example/hermitage/hermitage/frame/JsonText;"), (2, u "law"), (0, u "(IIIII)Z")] 5

def k1m0 : Method := { name := "<init>", desc := "()V", sig := { parameters := [], returnType := none }, accessFlags := 1, code := none }
def k1c1 : Code := { maxStack := 5, maxLocals := 14, code := code, exceptionTable := #[], attributes := #[] }
def k1m1 : Method := { name := "law", desc := "(IIIII)Z", sig := { parameters := [.int, .int, .int, .int, .int], returnType := some .boolean }, accessFlags := 9, code := some k1c1 }
def k1c2 : Code := { maxStack := 2, maxLocals := 5, code := method_3_code, exceptionTable := #[], attributes := #[] }
def k1m2 : Method := { name := "same", desc := "([BICCC)Z", sig := { parameters := [(.array .byte), .int, .char, .char, .char], returnType := some .boolean }, accessFlags := 10, code := some k1c2 }
/-- com/example/hermitage/hermitage/frame/JsonTextToBytesPinLaw -/
def k1 : Class := { plain "com/example/hermitage/hermitage/frame/JsonTextToBytesPinLaw" (some 0) with
  accessFlags := 49
  interfaces := #[]
  cf := some (fileOf pool1 21 #[] #[{ accessFlags := 1, nameIndex := 5, descriptorIndex := 6, attributes := #[] }, { accessFlags := 9, nameIndex := 32, descriptorIndex := 33, attributes := #[] }, { accessFlags := 10, nameIndex := 24, descriptorIndex := 25, attributes := #[] }] 49 2 #[] #[])
  fields := #[]
  methods := #[k1m0, k1m1, k1m2]
  instanceTypes := #[]
  staticTypes := #[]
  resolved := Array.replicate 39 none
  statics := none }

def pool2 : Array CpInfo := pool [(1, .methodref 2 3), (0, .class_ 4), (0, .nameAndType 5 6), (0, u "java/lang/Object"), (0, u "<init>"), (0, u "()V"), (0, .fieldref 8 9), (0, .class_ 10), (0, .nameAndType 11 12), (0, u "com/example/hermitage/hermitage/frame/JsonText"), (0, u "capacity"), (0, u "I"), (0, .fieldref 8 14), (0, .nameAndType 15 16), (0, u "bytes"), (0, u "[B"), (0, .integer 1048576), (0, .fieldref 8 19), (0, .nameAndType 20 12), (0, u "length"), (0, .methodref 8 22), (0, .nameAndType 23 24), (0, u "room"), (0, u "(I)V"), (2, u "NAMES"), (0, u "Ljava/util/Map;"), (20, u "mark"), (0, u "(C)Lcom/example/hermitage/hermitage/frame/JsonText;"), (2, u "toBytes"), (0, u "()[B"), (50, u "NULL"), (0, .methodref 107 108), (0, .class_ 109), (0, .nameAndType 110 111), (0, u "java/util/Arrays"), (0, u "copyOf"), (0, u "([BI)[B"), (14, u "HEX"), (1, .methodref 129 130), (0, .class_ 131), (0, .nameAndType 132 133), (0, u "java/lang/Math"), (0, u "max"), (0, u "(II)I"), (3, u "LONGEST_CHAR"), (2, u "NAMES_KEPT"), (1, u "BYTES_KEPT"), (4, u "clear"), (0, u "()Lcom/example/hermitage/hermitage/frame/JsonText;")] 10

def k2c0 : Code := { maxStack := 2, maxLocals := 2, code := prog_6_method_1_code, exceptionTable := #[], attributes := #[] }
def k2m0 : Method := { name := "<init>", desc := "(I)V", sig := { parameters := [.int], returnType := none }, accessFlags := 0, code := some k2c0 }
def k2c1 : Code := { maxStack := 2, maxLocals := 1, code := prog_6_method_2_code, exceptionTable := #[], attributes := #[] }
def k2m1 : Method := { name := "clear", desc := "()Lcom/example/hermitage/hermitage/frame/JsonText;", sig := { parameters := [], returnType := some (.object "com/example/hermitage/hermitage/frame/JsonText") }, accessFlags := 0, code := some k2c1 }
def k2c2 : Code := { maxStack := 5, maxLocals := 2, code := prog_6_method_3_code, exceptionTable := #[], attributes := #[] }
def k2m2 : Method := { name := "mark", desc := "(C)Lcom/example/hermitage/hermitage/frame/JsonText;", sig := { parameters := [.char], returnType := some (.object "com/example/hermitage/hermitage/frame/JsonText") }, accessFlags := 0, code := some k2c2 }
def k2c3 : Code := { maxStack := 2, maxLocals := 1, code := prog_6_method_8_code, exceptionTable := #[], attributes := #[] }
def k2m3 : Method := { name := "toBytes", desc := "()[B", sig := { parameters := [], returnType := some (.array .byte) }, accessFlags := 0, code := some k2c3 }
def k2c4 : Code := { maxStack := 5, maxLocals := 2, code := prog_6_method_15_code, exceptionTable := #[], attributes := #[] }
def k2m4 : Method := { name := "room", desc := "(I)V", sig := { parameters := [.int], returnType := none }, accessFlags := 2, code := some k2c4 }
/-- com/example/hermitage/hermitage/frame/JsonText -/
def k2 : Class := { plain "com/example/hermitage/hermitage/frame/JsonText" (some 0) with
  accessFlags := 32
  interfaces := #[]
  cf := some (fileOf pool2 8 #[] #[{ accessFlags := 0, nameIndex := 5, descriptorIndex := 24, attributes := #[] }, { accessFlags := 0, nameIndex := 147, descriptorIndex := 148, attributes := #[] }, { accessFlags := 0, nameIndex := 49, descriptorIndex := 50, attributes := #[] }, { accessFlags := 0, nameIndex := 53, descriptorIndex := 54, attributes := #[] }, { accessFlags := 2, nameIndex := 23, descriptorIndex := 24, attributes := #[] }] 32 2 #[] #[{ accessFlags := 26, nameIndex := 137, descriptorIndex := 12, attributes := #[] }, { accessFlags := 26, nameIndex := 126, descriptorIndex := 16, attributes := #[] }, { accessFlags := 26, nameIndex := 105, descriptorIndex := 16, attributes := #[] }, { accessFlags := 26, nameIndex := 140, descriptorIndex := 12, attributes := #[] }, { accessFlags := 26, nameIndex := 142, descriptorIndex := 12, attributes := #[] }, { accessFlags := 26, nameIndex := 27, descriptorIndex := 28, attributes := #[] }, { accessFlags := 18, nameIndex := 11, descriptorIndex := 12, attributes := #[] }, { accessFlags := 2, nameIndex := 15, descriptorIndex := 16, attributes := #[] }, { accessFlags := 2, nameIndex := 20, descriptorIndex := 12, attributes := #[] }])
  fields := #[{ name := "LONGEST_CHAR", type := .int, accessFlags := 26, slot := 0, constantValue := 0 }, { name := "HEX", type := (.array .byte), accessFlags := 26, slot := 1, constantValue := 0 }, { name := "NULL", type := (.array .byte), accessFlags := 26, slot := 2, constantValue := 0 }, { name := "NAMES_KEPT", type := .int, accessFlags := 26, slot := 3, constantValue := 0 }, { name := "BYTES_KEPT", type := .int, accessFlags := 26, slot := 4, constantValue := 0 }, { name := "NAMES", type := (.object "java/util/Map"), accessFlags := 26, slot := 5, constantValue := 0 }, { name := "capacity", type := .int, accessFlags := 18, slot := 0, constantValue := 0 }, { name := "bytes", type := (.array .byte), accessFlags := 2, slot := 1, constantValue := 0 }, { name := "length", type := .int, accessFlags := 2, slot := 2, constantValue := 0 }]
  methods := #[k2m0, k2m1, k2m2, k2m3, k2m4]
  instanceTypes := #[.int, (.array .byte), .int]
  staticTypes := #[.int, (.array .byte), (.array .byte), .int, .int, (.object "java/util/Map")]
  resolved := Array.replicate 159 none
  statics := none }

def pool3 : Array CpInfo := pool [(1, .class_ 2), (0, u "java/lang/Math"), (1, .class_ 6), (1, u "java/lang/Object"), (0, u "<init>"), (0, u "()V"), (89, .class_ 100), (1, u "java/lang/Math$RandomNumberGeneratorHolder"), (71, u "negativeZeroFloatBits"), (0, u "J"), (2, u "negativeZeroDoubleBits"), (21, u "max"), (2, u "min"), (43, u "$assertionsDisabled"), (0, u "Z"), (88, u "(II)I"), (2, u "twoToTheDoubleScaleDown"), (0, u "D"), (4, u "twoToTheDoubleScaleUp"), (9, u "E"), (3, u "PI"), (2, u "TAU"), (2, u "DEGREES_TO_RADIANS"), (0, u "RADIANS_TO_DEGREES")] 94

def k3m0 : Method := { name := "<init>", desc := "()V", sig := { parameters := [], returnType := none }, accessFlags := 2, code := none }
def k3c1 : Code := { maxStack := 2, maxLocals := 2, code := jdk_29_method_65_code, exceptionTable := #[], attributes := #[] }
def k3m1 : Method := { name := "max", desc := "(II)I", sig := { parameters := [.int, .int], returnType := some .int }, accessFlags := 9, code := some k3c1 }
def k3c2 : Code := { maxStack := 2, maxLocals := 2, code := jdk_29_method_69_code, exceptionTable := #[], attributes := #[] }
def k3m2 : Method := { name := "min", desc := "(II)I", sig := { parameters := [.int, .int], returnType := some .int }, accessFlags := 9, code := some k3c2 }
/-- java/lang/Math -/
def k3 : Class := { plain "java/lang/Math" (some 0) with
  accessFlags := 49
  interfaces := #[]
  cf := some (fileOf pool3 1 #[.nestMembers #[98]] #[{ accessFlags := 2, nameIndex := 7, descriptorIndex := 8, attributes := #[] }, { accessFlags := 9, nameIndex := 198, descriptorIndex := 335, attributes := #[] }, { accessFlags := 9, nameIndex := 201, descriptorIndex := 335, attributes := #[] }] 49 4 #[] #[{ accessFlags := 25, nameIndex := 354, descriptorIndex := 339, attributes := #[] }, { accessFlags := 25, nameIndex := 358, descriptorIndex := 339, attributes := #[] }, { accessFlags := 25, nameIndex := 361, descriptorIndex := 339, attributes := #[] }, { accessFlags := 26, nameIndex := 364, descriptorIndex := 339, attributes := #[] }, { accessFlags := 26, nameIndex := 365, descriptorIndex := 339, attributes := #[] }, { accessFlags := 26, nameIndex := 172, descriptorIndex := 173, attributes := #[] }, { accessFlags := 26, nameIndex := 176, descriptorIndex := 173, attributes := #[] }, { accessFlags := 8, nameIndex := 344, descriptorIndex := 339, attributes := #[] }, { accessFlags := 8, nameIndex := 338, descriptorIndex := 339, attributes := #[] }, { accessFlags := 4120, nameIndex := 245, descriptorIndex := 246, attributes := #[] }])
  fields := #[{ name := "E", type := .double, accessFlags := 25, slot := 0, constantValue := 0 }, { name := "PI", type := .double, accessFlags := 25, slot := 1, constantValue := 0 }, { name := "TAU", type := .double, accessFlags := 25, slot := 2, constantValue := 0 }, { name := "DEGREES_TO_RADIANS", type := .double, accessFlags := 26, slot := 3, constantValue := 0 }, { name := "RADIANS_TO_DEGREES", type := .double, accessFlags := 26, slot := 4, constantValue := 0 }, { name := "negativeZeroFloatBits", type := .long, accessFlags := 26, slot := 5, constantValue := 0 }, { name := "negativeZeroDoubleBits", type := .long, accessFlags := 26, slot := 6, constantValue := 0 }, { name := "twoToTheDoubleScaleUp", type := .double, accessFlags := 8, slot := 7, constantValue := 0 }, { name := "twoToTheDoubleScaleDown", type := .double, accessFlags := 8, slot := 8, constantValue := 0 }, { name := "$assertionsDisabled", type := .boolean, accessFlags := 4120, slot := 9, constantValue := 0 }]
  methods := #[k3m0, k3m1, k3m2]
  instanceTypes := #[]
  staticTypes := #[.double, .double, .double, .double, .double, .long, .long, .double, .double, .boolean]
  resolved := Array.replicate 460 none
  statics := none }

def pool4 : Array CpInfo := pool [(2, .class_ 4), (1, u "java/lang/Object"), (0, u "<init>"), (0, u "()V"), (7, .class_ 16), (1, u "java/util/Arrays"), (57, .class_ 76), (1, u "java/util/Arrays$NaturalOrder"), (32, u "()Ljava/lang/Object;"), (3, .class_ 115), (1, u "java/util/Arrays$LegacyMergeSort"), (1, u "Z"), (10, .nameAndType 129 109), (0, u "clone"), (20, .methodref 151 152), (0, .class_ 153), (0, .nameAndType 154 155), (0, u "java/lang/System"), (0, u "arraycopy"), (0, u "(Ljava/lang/Object;ILjava/lang/Object;II)V"), (146, u "copyOf"), (1, .methodref 305 306), (0, .class_ 307), (0, .nameAndType 308 309), (0, u "java/lang/Math"), (0, u "min"), (0, u "(II)I"), (0, .methodref 311 128), (0, .class_ 312), (0, u "[B"), (62, .class_ 376), (0, u "java/util/Arrays$ArrayList"), (68, u "$assertionsDisabled"), (269, u "MIN_ARRAY_SORT_GRAN"), (0, u "I"), (2, u "INSERTIONSORT_THRESHOLD"), (149, u "([BI)[B"), (105, .class_ 976), (0, u "java/util/Arrays$ArrayItr")] 52

def k4m0 : Method := { name := "<init>", desc := "()V", sig := { parameters := [], returnType := none }, accessFlags := 2, code := none }
def k4c1 : Code := { maxStack := 6, maxLocals := 3, code := jdk_65_method_121_code, exceptionTable := #[], attributes := #[] }
def k4m1 : Method := { name := "copyOf", desc := "([BI)[B", sig := { parameters := [(.array .byte), .int], returnType := some (.array .byte) }, accessFlags := 9, code := some k4c1 }
/-- java/util/Arrays -/
def k4 : Class := { plain "java/util/Arrays" (some 0) with
  accessFlags := 49
  interfaces := #[]
  cf := some (fileOf pool4 14 #[.nestMembers #[975, 375, 113, 74]] #[{ accessFlags := 2, nameIndex := 5, descriptorIndex := 6, attributes := #[] }, { accessFlags := 9, nameIndex := 302, descriptorIndex := 869, attributes := #[] }] 49 2 #[] #[{ accessFlags := 26, nameIndex := 715, descriptorIndex := 716, attributes := #[] }, { accessFlags := 26, nameIndex := 719, descriptorIndex := 716, attributes := #[] }, { accessFlags := 4120, nameIndex := 445, descriptorIndex := 117, attributes := #[] }])
  fields := #[{ name := "MIN_ARRAY_SORT_GRAN", type := .int, accessFlags := 26, slot := 0, constantValue := 0 }, { name := "INSERTIONSORT_THRESHOLD", type := .int, accessFlags := 26, slot := 1, constantValue := 0 }, { name := "$assertionsDisabled", type := .boolean, accessFlags := 4120, slot := 2, constantValue := 0 }]
  methods := #[k4m0, k4m1]
  instanceTypes := #[]
  staticTypes := #[.int, .int, .boolean]
  resolved := Array.replicate 1029 none
  statics := none }

def pool5 : Array CpInfo := pool [(2, .class_ 4), (1, u "java/lang/Object"), (0, u "<init>"), (0, u "()V"), (1, .class_ 10), (1, u "java/lang/System"), (0, u "allowSecurityManager"), (0, u "I"), (16, u "cons"), (0, u "Ljava/io/Console;"), (77, .class_ 110), (1, u "java/lang/System$CallersHolder"), (43, u "initialErrStream"), (0, u "Ljava/io/PrintStream;"), (19, u "security"), (0, u "Ljava/lang/SecurityManager;"), (31, .class_ 209), (0, u "java/lang/System$1"), (7, u "props"), (0, u "Ljava/util/Properties;"), (2, u "lineSeparator"), (0, u "Ljava/lang/String;"), (96, .class_ 321), (1, u "java/lang/System$LoggerFinder"), (5, .class_ 328), (0, u "java/lang/System$Logger"), (67, u "err"), (2, u "out"), (91, u "notSupportedJnuEncoding"), (15, u "in"), (17, u "initialIn"), (0, u "Ljava/io/InputStream;"), (35, u "bootLayer"), (0, u "Ljava/lang/ModuleLayer;"), (99, .class_ 664), (0, u "java/lang/System$2"), (9, u "NEVER"), (2, u "MAYBE"), (49, u "arraycopy"), (0, u "(Ljava/lang/Object;ILjava/lang/Object;II)V"), (72, .class_ 802), (0, u "java/lang/System$Logger$Level")] 31

def k5m0 : Method := { name := "<init>", desc := "()V", sig := { parameters := [], returnType := none }, accessFlags := 2, code := none }
def k5m1 : Method := { name := "arraycopy", desc := "(Ljava/lang/Object;ILjava/lang/Object;II)V", sig := { parameters := [(.object "java/lang/Object"), .int, (.object "java/lang/Object"), .int, .int], returnType := none }, accessFlags := 265, code := none }
/-- java/lang/System -/
def k5 : Class := { plain "java/lang/System" (some 0) with
  accessFlags := 49
  interfaces := #[]
  cf := some (fileOf pool5 8 #[.nestMembers #[319, 327, 801, 108, 663, 208]] #[{ accessFlags := 2, nameIndex := 5, descriptorIndex := 6, attributes := #[] }, { accessFlags := 265, nameIndex := 727, descriptorIndex := 728, attributes := #[] }] 49 2 #[] #[{ accessFlags := 25, nameIndex := 507, descriptorIndex := 526, attributes := #[] }, { accessFlags := 25, nameIndex := 399, descriptorIndex := 155, attributes := #[] }, { accessFlags := 25, nameIndex := 396, descriptorIndex := 155, attributes := #[] }, { accessFlags := 10, nameIndex := 525, descriptorIndex := 526, attributes := #[] }, { accessFlags := 26, nameIndex := 674, descriptorIndex := 12, attributes := #[] }, { accessFlags := 26, nameIndex := 677, descriptorIndex := 12, attributes := #[] }, { accessFlags := 10, nameIndex := 11, descriptorIndex := 12, attributes := #[] }, { accessFlags := 74, nameIndex := 175, descriptorIndex := 176, attributes := #[] }, { accessFlags := 10, nameIndex := 491, descriptorIndex := 222, attributes := #[] }, { accessFlags := 74, nameIndex := 29, descriptorIndex := 30, attributes := #[] }, { accessFlags := 74, nameIndex := 154, descriptorIndex := 155, attributes := #[] }, { accessFlags := 10, nameIndex := 217, descriptorIndex := 218, attributes := #[] }, { accessFlags := 10, nameIndex := 221, descriptorIndex := 222, attributes := #[] }, { accessFlags := 8, nameIndex := 562, descriptorIndex := 563, attributes := #[] }])
  fields := #[{ name := "in", type := (.object "java/io/InputStream"), accessFlags := 25, slot := 0, constantValue := 0 }, { name := "out", type := (.object "java/io/PrintStream"), accessFlags := 25, slot := 1, constantValue := 0 }, { name := "err", type := (.object "java/io/PrintStream"), accessFlags := 25, slot := 2, constantValue := 0 }, { name := "initialIn", type := (.object "java/io/InputStream"), accessFlags := 10, slot := 3, constantValue := 0 }, { name := "NEVER", type := .int, accessFlags := 26, slot := 4, constantValue := 0 }, { name := "MAYBE", type := .int, accessFlags := 26, slot := 5, constantValue := 0 }, { name := "allowSecurityManager", type := .int, accessFlags := 10, slot := 6, constantValue := 0 }, { name := "security", type := (.object "java/lang/SecurityManager"), accessFlags := 74, slot := 7, constantValue := 0 }, { name := "notSupportedJnuEncoding", type := (.object "java/lang/String"), accessFlags := 10, slot := 8, constantValue := 0 }, { name := "cons", type := (.object "java/io/Console"), accessFlags := 74, slot := 9, constantValue := 0 }, { name := "initialErrStream", type := (.object "java/io/PrintStream"), accessFlags := 74, slot := 10, constantValue := 0 }, { name := "props", type := (.object "java/util/Properties"), accessFlags := 10, slot := 11, constantValue := 0 }, { name := "lineSeparator", type := (.object "java/lang/String"), accessFlags := 10, slot := 12, constantValue := 0 }, { name := "bootLayer", type := (.object "java/lang/ModuleLayer"), accessFlags := 8, slot := 13, constantValue := 0 }]
  methods := #[k5m0, k5m1]
  instanceTypes := #[]
  staticTypes := #[(.object "java/io/InputStream"), (.object "java/io/PrintStream"), (.object "java/io/PrintStream"), (.object "java/io/InputStream"), .int, .int, .int, (.object "java/lang/SecurityManager"), (.object "java/lang/String"), (.object "java/io/Console"), (.object "java/io/PrintStream"), (.object "java/util/Properties"), (.object "java/lang/String"), (.object "java/lang/ModuleLayer")]
  resolved := Array.replicate 834 none
  statics := none }

def pool6 : Array CpInfo := pool [(1, .class_ 2), (0, u "java/lang/Cloneable"), (0, .class_ 4), (0, u "java/lang/Object")] 2

/-- java/lang/Cloneable -/
def k6 : Class := { plain "java/lang/Cloneable" (some 0) with
  accessFlags := 1537
  interfaces := #[]
  cf := some (fileOf pool6 1 #[] #[] 1537 3 #[] #[])
  fields := #[]
  methods := #[]
  instanceTypes := #[]
  staticTypes := #[]
  resolved := Array.replicate 7 none
  statics := none }

def pool7 : Array CpInfo := pool [(1, u "java/io/Serializable"), (0, .class_ 1), (0, u "java/lang/Object"), (0, .class_ 3)] 3

/-- java/io/Serializable -/
def k7 : Class := { plain "java/io/Serializable" (some 0) with
  accessFlags := 1537
  interfaces := #[]
  cf := some (fileOf pool7 2 #[] #[] 1537 4 #[] #[])
  fields := #[]
  methods := #[]
  instanceTypes := #[]
  staticTypes := #[]
  resolved := Array.replicate 8 none
  statics := none }

/-- the primitive byte -/
def k8 : Class := { plain "byte" none with kind := .primitive 'B', accessFlags := 0x411 }
/-- [B -/
def k9 : Class := { plain "[B" (some 0) with kind := .array 8 .byte, interfaces := #[6, 7], accessFlags := 1041 }

/-- the primitive int -/
def k10 : Class := { plain "int" none with kind := .primitive 'I', accessFlags := 0x411 }
/-- [I -/
def k11 : Class := { plain "[I" (some 0) with kind := .array 10 .int, interfaces := #[6, 7], accessFlags := 1041 }

def heap : Heap := #[]
def classes : Array Class := #[k0, k1, k2, k3, k4, k5, k6, k7, k8, k9, k10, k11]
def interned : List (Array UInt16 × Addr) := []
def slotsUsed : Nat := 0
def theMethod : MethodId := ⟨1, 1⟩
def args0 : Array Value := #[.int 5, .int 5, .int 5, .int 5, .int 5]
def aboutOver (below : List Frame) : State where
  vm := { classes := classes, interned := interned.toArray }
  heap := heap
  slotsUsed := slotsUsed
  threads := #[{ frames := .invoking theMethod args0 :: below }]
def below0 : List Frame := [.native { method := ⟨0, 0⟩, args := #[] }]
def about1 : State := aboutOver below0
def p0 : Program := .bare "" "" ""
def e0 : Env := launch0.env 0 0 0
theorem w_frames : about1.frames = Frame.invoking theMethod args0 :: below0 := rfl
set_option maxRecDepth 65536 in
theorem w_args : argsFit about1.vm theMethod args0 = true := by decide +kernel
set_option maxRecDepth 65536 in
theorem w_heap : heapFits about1 = true := by decide +kernel
set_option maxRecDepth 65536 in
theorem w_runnable : about1.curStatus? = some .runnable := by decide +kernel
set_option maxRecDepth 65536 in
theorem w_alone : about1.alone = true := by decide +kernel
set_option maxRecDepth 65536 in
theorem w_named : about1.methodNamed? x = some theMethod := by decide +kernel
set_option maxRecDepth 65536 in
theorem w_hears : about1.hears theMethod below0 = true := by decide +kernel
set_option maxRecDepth 65536 in
theorem w_ripe : about1.ripe theMethod args0 below0 = true := by decide +kernel
theorem w_running : about1.status = .running := rfl
set_option maxRecDepth 65536 in
theorem w_room : about1.hasRoom e0.platform room_1 = true :=
  launch0.hasRoom_least _ room_1 (by decide +kernel) (by decide +kernel) (by decide +kernel) (by decide +kernel) (by decide +kernel) (by decide +kernel)
theorem allAtoms_all (ts : List Jvm.Cond) (a : Array Jvm.Value) (st : Jvm.State) : (allAtoms ts).before a st = ts.all (fun c => c.before a st) := by
  induction ts with
  | nil => rfl
  | cons c t ih =>
    show (Jvm.Cond.and c (allAtoms t)).before a st = _
    rw [Jvm.Cond.before_and, ih, List.all_cons]
def words1 : List Jvm.Cond := Jvm.Cond.code x code maxLocals ret :: tables_1
/-- a 'code' word, met by the world's own term for the bytes: nothing is compared byte by byte -/
theorem code_word {y : MethodName} {bytes : ByteArray} {mx : Nat} {rt : Option FieldType} {a : Array Value} {s : State} {m : MethodId} {meth : Method} {c : Code} (h1 : s.methodNamed? y = some m) (h2 : s.vm.method? m = some meth) (h3 : meth.code = some c) (h4 : c.code = bytes)
    (h5 : (c.maxLocals == mx && c.exceptionTable.isEmpty && decide (c.maxStack ≤ mostOperands) && decide (meth.sig.returnType = rt) && !meth.locks && decide (parseMethodDescriptor y.desc = some meth.sig)) = true) : (Jvm.Cond.code y bytes mx rt).before a s = true := by
  simp only [Bool.and_eq_true, beq_iff_eq, Bool.not_eq_true', decide_eq_true_eq] at h5
  obtain ⟨⟨⟨⟨⟨g1, g2⟩, g3⟩, g4⟩, g5⟩, g6⟩ := h5
  simp [Cond.before, Cond.holds, Cond.value, h1, h2, h3, h4, g1, g2, g3, g4, g5, g6]
def isCode : Jvm.Cond → Bool
  | .code _ _ _ _ => true
  | _ => false
theorem all_split {L : List Jvm.Cond} {P : Jvm.Cond → Bool} (h1 : L.all (fun c => isCode c || P c) = true) (h2 : ∀ c ∈ L.filter isCode, P c = true) : L.all P = true := by
  refine List.all_eq_true.mpr fun c hc => ?_
  have h := List.all_eq_true.mp h1 c hc
  rcases Bool.eq_false_or_eq_true (isCode c) with hi | hi
  · exact h2 c (List.mem_filter.mpr ⟨hc, hi⟩)
  · simpa [hi] using h
set_option maxRecDepth 65536 in
theorem w_c0 : (Jvm.Cond.code x code maxLocals ret).before args0 about1 = true := code_word (m := ⟨1, 1⟩) (meth := k1m1) (c := k1c1) (by decide +kernel) rfl rfl rfl (by decide +kernel)
set_option maxRecDepth 65536 in
theorem w_c1 : (Jvm.Cond.code ({ cls := "com/example/hermitage/hermitage/frame/JsonText", name := "<init>", desc := "(I)V" } : Jvm.MethodName) prog_6_method_1_code (2 : Nat) (Option.none : Option Jvm.ClassFile.FieldType)).before args0 about1 = true := code_word (m := ⟨2, 0⟩) (meth := k2m0) (c := k2c0) (by decide +kernel) rfl rfl rfl (by decide +kernel)
set_option maxRecDepth 65536 in
theorem w_c2 : (Jvm.Cond.code ({ cls := "java/lang/Object", name := "<init>", desc := "()V" } : Jvm.MethodName) object_method_1_code (1 : Nat) (Option.none : Option Jvm.ClassFile.FieldType)).before args0 about1 = true := code_word (m := ⟨0, 0⟩) (meth := k0m0) (c := k0c0) (by decide +kernel) rfl rfl rfl (by decide +kernel)
set_option maxRecDepth 65536 in
theorem w_c3 : (Jvm.Cond.code ({ cls := "com/example/hermitage/hermitage/frame/JsonText", name := "mark", desc := "(C)Lcom/example/hermitage/hermitage/frame/JsonText;" } : Jvm.MethodName) prog_6_method_3_code (2 : Nat) (Option.some (Jvm.ClassFile.FieldType.object "com/example/hermitage/hermitage/frame/JsonText"))).before args0 about1 = true := code_word (m := ⟨2, 2⟩) (meth := k2m2) (c := k2c2) (by decide +kernel) rfl rfl rfl (by decide +kernel)
set_option maxRecDepth 65536 in
theorem w_c4 : (Jvm.Cond.code ({ cls := "com/example/hermitage/hermitage/frame/JsonText", name := "room", desc := "(I)V" } : Jvm.MethodName) prog_6_method_15_code (2 : Nat) (Option.none : Option Jvm.ClassFile.FieldType)).before args0 about1 = true := code_word (m := ⟨2, 4⟩) (meth := k2m4) (c := k2c4) (by decide +kernel) rfl rfl rfl (by decide +kernel)
set_option maxRecDepth 65536 in
theorem w_c5 : (Jvm.Cond.code ({ cls := "java/lang/Math", name := "max", desc := "(II)I" } : Jvm.MethodName) jdk_29_method_65_code (2 : Nat) (Option.some Jvm.ClassFile.FieldType.int)).before args0 about1 = true := code_word (m := ⟨3, 1⟩) (meth := k3m1) (c := k3c1) (by decide +kernel) rfl rfl rfl (by decide +kernel)
set_option maxRecDepth 65536 in
theorem w_c6 : (Jvm.Cond.code ({ cls := "java/util/Arrays", name := "copyOf", desc := "([BI)[B" } : Jvm.MethodName) jdk_65_method_121_code (3 : Nat) (Option.some (Jvm.ClassFile.FieldType.array Jvm.ClassFile.FieldType.byte))).before args0 about1 = true := code_word (m := ⟨4, 1⟩) (meth := k4m1) (c := k4c1) (by decide +kernel) rfl rfl rfl (by decide +kernel)
set_option maxRecDepth 65536 in
theorem w_c7 : (Jvm.Cond.code ({ cls := "java/lang/Math", name := "min", desc := "(II)I" } : Jvm.MethodName) jdk_29_method_69_code (2 : Nat) (Option.some Jvm.ClassFile.FieldType.int)).before args0 about1 = true := code_word (m := ⟨3, 2⟩) (meth := k3m2) (c := k3c2) (by decide +kernel) rfl rfl rfl (by decide +kernel)
set_option maxRecDepth 65536 in
theorem w_c8 : (Jvm.Cond.code ({ cls := "com/example/hermitage/hermitage/frame/JsonText", name := "toBytes", desc := "()[B" } : Jvm.MethodName) prog_6_method_8_code (1 : Nat) (Option.some (Jvm.ClassFile.FieldType.array Jvm.ClassFile.FieldType.byte))).before args0 about1 = true := code_word (m := ⟨2, 3⟩) (meth := k2m3) (c := k2c3) (by decide +kernel) rfl rfl rfl (by decide +kernel)
set_option maxRecDepth 65536 in
theorem w_c9 : (Jvm.Cond.code ({ cls := "com/example/hermitage/hermitage/frame/JsonTextToBytesPinLaw", name := "same", desc := "([BICCC)Z" } : Jvm.MethodName) method_3_code (5 : Nat) (Option.some Jvm.ClassFile.FieldType.boolean)).before args0 about1 = true := code_word (m := ⟨1, 2⟩) (meth := k1m2) (c := k1c2) (by decide +kernel) rfl rfl rfl (by decide +kernel)
set_option maxRecDepth 65536 in
theorem w_c10 : (Jvm.Cond.code ({ cls := "com/example/hermitage/hermitage/frame/JsonText", name := "clear", desc := "()Lcom/example/hermitage/hermitage/frame/JsonText;" } : Jvm.MethodName) prog_6_method_2_code (1 : Nat) (Option.some (Jvm.ClassFile.FieldType.object "com/example/hermitage/hermitage/frame/JsonText"))).before args0 about1 = true := code_word (m := ⟨2, 1⟩) (meth := k2m1) (c := k2c1) (by decide +kernel) rfl rfl rfl (by decide +kernel)
def codes1 : List Jvm.Cond := [Jvm.Cond.code x code maxLocals ret, Jvm.Cond.code ({ cls := "com/example/hermitage/hermitage/frame/JsonText", name := "<init>", desc := "(I)V" } : Jvm.MethodName) prog_6_method_1_code (2 : Nat) (Option.none : Option Jvm.ClassFile.FieldType), Jvm.Cond.code ({ cls := "java/lang/Object", name := "<init>", desc := "()V" } : Jvm.MethodName) object_method_1_code (1 : Nat) (Option.none : Option Jvm.ClassFile.FieldType), Jvm.Cond.code ({ cls := "com/example/hermitage/hermitage/frame/JsonText", name := "mark", desc := "(C)Lcom/example/hermitage/hermitage/frame/JsonText;" } : Jvm.MethodName) prog_6_method_3_code (2 : Nat) (Option.some (Jvm.ClassFile.FieldType.object "com/example/hermitage/hermitage/frame/JsonText")), Jvm.Cond.code ({ cls := "com/example/hermitage/hermitage/frame/JsonText", name := "room", desc := "(I)V" } : Jvm.MethodName) prog_6_method_15_code (2 : Nat) (Option.none : Option Jvm.ClassFile.FieldType), Jvm.Cond.code ({ cls := "java/lang/Math", name := "max", desc := "(II)I" } : Jvm.MethodName) jdk_29_method_65_code (2 : Nat) (Option.some Jvm.ClassFile.FieldType.int), Jvm.Cond.code ({ cls := "java/util/Arrays", name := "copyOf", desc := "([BI)[B" } : Jvm.MethodName) jdk_65_method_121_code (3 : Nat) (Option.some (Jvm.ClassFile.FieldType.array Jvm.ClassFile.FieldType.byte)), Jvm.Cond.code ({ cls := "java/lang/Math", name := "min", desc := "(II)I" } : Jvm.MethodName) jdk_29_method_69_code (2 : Nat) (Option.some Jvm.ClassFile.FieldType.int), Jvm.Cond.code ({ cls := "com/example/hermitage/hermitage/frame/JsonText", name := "toBytes", desc := "()[B" } : Jvm.MethodName) prog_6_method_8_code (1 : Nat) (Option.some (Jvm.ClassFile.FieldType.array Jvm.ClassFile.FieldType.byte)), Jvm.Cond.code ({ cls := "com/example/hermitage/hermitage/frame/JsonTextToBytesPinLaw", name := "same", desc := "([BICCC)Z" } : Jvm.MethodName) method_3_code (5 : Nat) (Option.some Jvm.ClassFile.FieldType.boolean), Jvm.Cond.code ({ cls := "com/example/hermitage/hermitage/frame/JsonText", name := "clear", desc := "()Lcom/example/hermitage/hermitage/frame/JsonText;" } : Jvm.MethodName) prog_6_method_2_code (1 : Nat) (Option.some (Jvm.ClassFile.FieldType.object "com/example/hermitage/hermitage/frame/JsonText"))]
set_option maxRecDepth 65536 in
theorem codes_eq : words1.filter isCode = codes1 := rfl
theorem w_codes : ∀ c ∈ words1.filter isCode, c.before args0 about1 = true := by
  rw [codes_eq]
  intro c hc
  simp only [codes1, List.mem_cons, List.not_mem_nil, or_false] at hc
  rcases hc with rfl | rfl | rfl | rfl | rfl | rfl | rfl | rfl | rfl | rfl | rfl
  · exact w_c0
  · exact w_c1
  · exact w_c2
  · exact w_c3
  · exact w_c4
  · exact w_c5
  · exact w_c6
  · exact w_c7
  · exact w_c8
  · exact w_c9
  · exact w_c10
set_option maxRecDepth 65536 in
theorem w_t1 : (words1.take 24).all (fun c => isCode c || c.before args0 about1) = true := by decide +kernel
set_option maxRecDepth 65536 in
theorem w_t2 : ((words1.drop 24).take 24).all (fun c => isCode c || c.before args0 about1) = true := by decide +kernel
set_option maxRecDepth 65536 in
theorem w_t3 : ((words1.drop 24).drop 24).all (fun c => isCode c || c.before args0 about1) = true := by decide +kernel
theorem w_tables : (allAtoms (Jvm.Cond.code x code maxLocals ret :: tables_1)).before args0 about1 = true := by
  rw [allAtoms_all]
  show words1.all (fun c => c.before args0 about1) = true
  refine all_split ?_ w_codes
  rw [← List.take_append_drop 24 words1, List.all_append, w_t1, ← List.take_append_drop 24 (words1.drop 24), List.all_append, w_t2, w_t3]
  rfl
set_option maxRecDepth 65536 in
theorem w_case : (Jvm.Cond.and given_1 narrow_1).before args0 about1 = true := by decide +kernel
theorem w_applies : (headSpec (Jvm.Cond.code x code maxLocals ret :: tables_1) room_1).applies x e0.platform about1 = true :=
  (Spec.applies_iff w_frames).mpr ⟨w_running, w_runnable, w_alone, w_named, w_hears, w_ripe, w_room, w_tables⟩
theorem atStart : AtStart classFile x code maxLocals ret World_1 tables_1 room_1 Calls_1 rest_1 Pre_1 launch0 p0 e0 about1 theMethod args0 below0 :=
  ⟨lists_1, trivial, launch0.admits_env _ _ _, launch0.least_env, fairChoices_fair.cas, fairChoices_fair.clock, w_frames, w_args, w_heap, w_applies, trivial, trivial, w_case⟩
end start1
theorem witness_1 : WitnessClaimed_1 := ⟨start1.p0, start1.e0, start1.about1, start1.theMethod, start1.args0, start1.below0, start1.atStart⟩
end Jvm.Pilot.@@N@@
