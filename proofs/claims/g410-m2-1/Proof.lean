import JvmDerived
import JvmDerived.Pilot.@@N@@Statement
import JvmDerived.Pilot.@@N@@Code
set_option linter.unusedVariables false
set_option linter.unusedSimpArgs false

namespace Jvm.RoadKit
open Sem ClassFile Op Lib Jvm.Stand Jvm.Free Jvm.LawKit
section New
variable {p : Program} {l : Launch} {e : Env} {R : Room} {s : State} {m : MethodId} {args : Array Value} {below : List Frame} {meth : Method} {c : Code} {T : State} {locs : List Loc} {cells slots : Nat}
theorem retI (X : Stand p l e R s m args below meth c T locs cells slots) (hx : p.tables.exec = Jvm.exec) {pc : Nat} {Ls : Array Slot} {z : Int32} {rest : List Value} (hret : meth.sig.returnType = some .int) (hd : decode c.code pc = .ok (.ireturn, 1)) {fs : List Frame}
    (hl : ∀ (f : JFrame) (acts : List Action), f.method = m → f.locked = none → f.entered = [] → (doReturn e (T.setTop f) acts (some (.int z))).1 = T.setFrames fs) : Steps p.tables e below (T.setTop (mkF m pc Ls (.int z :: rest))) (T.setFrames fs) := by
  have hm' : T.vm.method? m = some meth := X.method'
  have hn : narrow .int (.int z) = .int z := rfl
  show Steps p.tables e below (T.setTop { method := m, pc := pc, locals := Ls, stack := _ :: rest, locked := none }) _
  jvm_step X.here [X.here.top, hx, hd, hm', hret, hn]
  first | (intro acts; rw [hl _ acts rfl rfl rfl]) | rw [hl _ _ rfl rfl rfl]
  exact Steps.refl _
/-- the walk's goal, at any point of it -/
def Gl (p : Program) (e : Env) (below : List Frame) (s : State) (Q : Option Value → Heap → List Loc → Prop) (C N : Nat) (T : State) (g : JFrame) : Prop :=
  ∃ s₂ o, Steps p.tables e below (T.setTop g) s₂ ∧ s₂.status = .running ∧ Ended s₂ below o ∧ ∃ v L, o = .returned v ∧ Q v s₂.heap L ∧ FrameEnd s o s₂ L C N
variable {Q : Option Value → Heap → List Loc → Prop} {C N : Nat} {T' : State} {g g' : JFrame} {h : Heap}
theorem Gl.st (f : ∀ t, Steps p.tables e below (T'.setTop g') t → Steps p.tables e below (T.setTop g) t) (k : Gl p e below s Q C N T' g') : Gl p e below s Q C N T g := by
  obtain ⟨s₂, o, h1, r⟩ := k
  exact ⟨s₂, o, f _ h1, r⟩
theorem Gl.ret (X : Stand p l e R s m args below meth c T locs cells slots) (hlk : meth.locks = false) {v : Option Value} (hv : meth.sig.returnType = none → v = none) (eT : T.heap = h)
    (f : ∀ fs, (∀ (f : JFrame) (acts : List Action), f.method = m → f.locked = none → f.entered = [] → (doReturn e (T.setTop f) acts v).1 = T.setFrames fs) → Steps p.tables e below (T.setTop g) (T.setFrames fs)) (hc : cells ≤ C) (hn : slots ≤ N) (hQ : Q v h locs) : Gl p e below s Q C N T g := by
  obtain ⟨fs, hr, hrun, hended, hW, hsame⟩ := X.leave (v := v) hv hlk
  exact ⟨_, _, f fs hr, hrun, hended, _, _, rfl, by show Q v T.heap _; rw [eT]; exact hQ, ⟨_, rfl⟩, hW, hsame.mono hc hn⟩
theorem Arv.cellX {Z : State} {h : Heap} {a : Addr} {k : ClassId} {ty : FieldType} {z : Int32} {vs : List Value} {dv : Value} (F : Arv Z h a k ty z vs dv) : ∃ c : Cell, h[a]? = some c ∧ ∀ q, c.vm ≠ .statics q := by
  obtain ⟨c, A, -⟩ := F; exact ⟨c, A.1, A.2.1.1⟩
theorem selPrivate {s : State} {args : Array Value} {y z : MethodName} (hzy : z.cls = y.cls) (hsel : (Cond.selects z.cls z z).before args s = true) (hpriv : s.PrivateAt y) (hinst : (Cond.instanceMethod y).before args s = true) (hy : y.cls ≠ "java/lang/invoke/MethodHandle" ∧ y.cls ≠ "java/lang/invoke/VarHandle") : (Cond.selects y.cls y y).before args s = true := by
  obtain ⟨c2, r2, m2, -, -, q3, -, kP, hkP, hkPi⟩ := Cond.selects_spec hsel
  exact selects_self_of_private (by rw [← hzy]; exact findClass_of_methodNamed q3) hkP hkPi hpriv hinst hy
theorem Sta.keepX {Z : State} {h h' : Heap} {C n d : String} {v : Value} {ws : List Addr} (F : Sta Z h C n d v) (K : Keep h h' ws) (q : ∀ x ∈ ws, ∃ c : Cell, h[x]? = some c ∧ ∀ q, c.vm ≠ .statics q) : Sta Z h' C n d v := by
  obtain ⟨cf, i, k, f, st, cell, h1, h2, h3, h4, h5, h6, h7⟩ := F
  refine ⟨cf, i, k, f, st, cell, h1, h2, h3, h4, K.2.1 st cell h5 fun z => ?_, h6, h7⟩
  obtain ⟨c, e1, e2⟩ := q st z
  cases h5.symm.trans e1
  cases hv : cell.vm <;> simp [hv, VmData.isStatics] at h6
  exact e2 _ hv
end New
end Jvm.RoadKit
namespace Jvm.Pilot.@@N@@
open Jvm Jvm.ClassFile Sem Op Lib Jvm.Free Jvm.Stand Jvm.LawKit Jvm.RoadKit Bundle Jvm.Pilot.@@N@@.Jvm.D

theorem own_eqi {args : Array Value} {s : State} {t : Term} {k : Int32} (h : (Cond.eq t (.int k)).value args s none s [] = some true) : t.eval args s none [] s = some (.int k) := by
  obtain ⟨x, y, h1, h2, h3, -⟩ := cmp_v (Or.inl h)
  cases (Term.int_eval k).symm.trans h2
  cases x <;> simp [Cond.value, h1, Term.int_eval] at h ⊢
  exact h
theorem d1_0 : decode prog_18_method_4_code 0 = .ok (.bipush 7, 2) := by decide +kernel
theorem d1_2 : decode prog_18_method_4_code 2 = .ok (.aload_n 0, 1) := by decide +kernel
theorem d1_3 : decode prog_18_method_4_code 3 = .ok (.getfield 37, 3) := by decide +kernel
theorem d1_6 : decode prog_18_method_4_code 6 = .ok (.iadd, 1) := by decide +kernel
theorem d1_7 : decode prog_18_method_4_code 7 = .ok (.aload_n 0, 1) := by decide +kernel
theorem d1_8 : decode prog_18_method_4_code 8 = .ok (.getfield 41, 3) := by decide +kernel
theorem d1_11 : decode prog_18_method_4_code 11 = .ok (.iadd, 1) := by decide +kernel
theorem d1_12 : decode prog_18_method_4_code 12 = .ok (.aload_n 0, 1) := by decide +kernel
theorem d1_13 : decode prog_18_method_4_code 13 = .ok (.getfield 44, 3) := by decide +kernel
theorem d1_16 : decode prog_18_method_4_code 16 = .ok (.iadd, 1) := by decide +kernel
theorem d1_17 : decode prog_18_method_4_code 17 = .ok (.ireturn, 1) := by decide +kernel
theorem pn_com_example_hermitage_hermitage_winecode_WineCode_Form : plainName "com/example/hermitage/hermitage/winecode/WineCode$Form" = true := by first | (simp [plainName, overriddenIn]; done) | decide +kernel
theorem ef_rm1 (m : MethodId) (a : Addr) : entryFrame m #[(.ref a)] 1 = mkF m 0 #[.val (.ref a)] [] := by first | (simp [entryFrame, mkF, argsToLocals, Value.category]; done) | rfl
def Q_rm1 (Z : State) (a : Addr) (w0 : Int32) (w1 : Int32) (w2 : Int32) (h0 : Heap) (n0 : Nat) (v : Option Value) (h : Heap) (L : List Loc) : Prop := v = some (.int ((((7 : Int32) + w0) + w1) + w2)) ∧ Fr n0 L ∧ h = h0
set_option maxRecDepth 65536 in
set_option maxHeartbeats 40000000 in
theorem rm1 (l : Launch) (Z : State) (a0 : Array Value) (hw : ∀ d ∈ tables_1, d.before a0 Z = true) (ws : List Jvm.Cond) (a : Addr) (w0 : Int32) (w1 : Int32) (w2 : Int32) (h0 : Heap) (n0 : Nat) (Z0 : n0 ≤ h0.size)  (F0 : Fld Z h0 a "com/example/hermitage/hermitage/winecode/WineCode$Form" "vintageDigits" "I" (.int w0)) (F1 : Fld Z h0 a "com/example/hermitage/hermitage/winecode/WineCode$Form" "packDigits" "I" (.int w1)) (F2 : Fld Z h0 a "com/example/hermitage/hermitage/winecode/WineCode$Form" "bottleDigits" "I" (.int w2))  :
    MetFree l (⟨"com/example/hermitage/hermitage/winecode/WineCode$Form", "length", "()I"⟩ : MethodName) (head1 (Jvm.Cond.code (⟨"com/example/hermitage/hermitage/winecode/WineCode$Form", "length", "()I"⟩ : MethodName) prog_18_method_4_code 1 (some .int) :: ws) ({ frames := 0, cells := 0, slots := 0, locals := 0 } : Room)) (fun aα Uα => aα = #[(.ref a)] ∧ Z.Warmed39 Uα.vm ∧ Uα.heap = h0) (fun _ _ _ _ _ => True) (fun _ Uα oα Uβ => ∃ vα Lα, oα = .returned vα ∧ Q_rm1 Z a w0 w1 w2 h0 n0 vα Uβ.heap Lα ∧ FrameEnd Uα oα Uβ Lα ({ frames := 0, cells := 0, slots := 0, locals := 0 } : Room).cells ({ frames := 0, cells := 0, slots := 0, locals := 0 } : Room).slots) := by
  refine MetFree.of_bodySF (plainFor_of_name pn_com_example_hermitage_hermitage_winecode_WineCode_Form) hisR ?_
  intro p e s m args below meth c s₁ Bd hml0 hP hKα
  obtain ⟨rfl, hZ, hh⟩ := hP
  have hx := Bd.exec
  have hby := Bd.bytes
  have hml : c.maxLocals = 1 := hml0
  have hown : s.vm.findClass "com/example/hermitage/hermitage/winecode/WineCode$Form" = some m.cls := findClass_of_methodNamed Bd.named
  have hnm := (name_of_methodNamed Bd.named Bd.method).1
  have X0 : Stand p l e ({ frames := 0, cells := 0, slots := 0, locals := 0 } : Room) s m #[(.ref a)] below meth c s₁ [] 0 0 := Stand.of_body Bd
  have e0 : s₁.heap = h0 := by rw [← hh, Bd.state]; rfl
  have N0 := Fr.nil n0
  suffices k0 : Gl p e below s (Q_rm1 Z a w0 w1 w2 h0 n0) ({ frames := 0, cells := 0, slots := 0, locals := 0 } : Room).cells ({ frames := 0, cells := 0, slots := 0, locals := 0 } : Room).slots s₁ (mkF m 0 #[.val (.ref a)] []) from Gl.st (fun τ κ => castTop (ef_rm1 m a) κ) k0
  refine Gl.st (g' := (mkF m 2 #[.val (.ref a)] [(.int (7 : Int32))])) (fun τ κ => XS.bipush X0.here hx rfl (hb hby d1_0) κ) ?_
  refine Gl.st (g' := (mkF m 3 #[.val (.ref a)] [(.ref a), (.int (7 : Int32))])) (fun τ κ => XS.aloadN X0.here hx rfl (hb hby d1_2) rfl rfl κ) ?_
  obtain ⟨T1, X1, e1, st1⟩ := getF X0 hx hZ hown (host := "") (Or.inl (hw _ (List.mem_of_getElem? (i := 8) rfl))) Via.refl e0 F0 (g := (mkF m 3 #[.val (.ref a)] [(.ref a), (.int (7 : Int32))])) rfl rfl (hb hby d1_3)
  refine Gl.st (g' := (mkF m 6 #[.val (.ref a)] [(.int w0), (.int (7 : Int32))])) (fun τ κ => st1 _ κ) ?_
  refine Gl.st (g' := (mkF m 7 #[.val (.ref a)] [(.int ((7 : Int32) + w0))])) (fun τ κ => XS.iadd X1.here hx rfl (hb hby d1_6) rfl κ) ?_
  refine Gl.st (g' := (mkF m 8 #[.val (.ref a)] [(.ref a), (.int ((7 : Int32) + w0))])) (fun τ κ => XS.aloadN X1.here hx rfl (hb hby d1_7) rfl rfl κ) ?_
  obtain ⟨T2, X2, e2, st2⟩ := getF X1 hx hZ hown (host := "") (Or.inl (hw _ (List.mem_of_getElem? (i := 10) rfl))) Via.refl e1 F1 (g := (mkF m 8 #[.val (.ref a)] [(.ref a), (.int ((7 : Int32) + w0))])) rfl rfl (hb hby d1_8)
  refine Gl.st (g' := (mkF m 11 #[.val (.ref a)] [(.int w1), (.int ((7 : Int32) + w0))])) (fun τ κ => st2 _ κ) ?_
  refine Gl.st (g' := (mkF m 12 #[.val (.ref a)] [(.int (((7 : Int32) + w0) + w1))])) (fun τ κ => XS.iadd X2.here hx rfl (hb hby d1_11) rfl κ) ?_
  refine Gl.st (g' := (mkF m 13 #[.val (.ref a)] [(.ref a), (.int (((7 : Int32) + w0) + w1))])) (fun τ κ => XS.aloadN X2.here hx rfl (hb hby d1_12) rfl rfl κ) ?_
  obtain ⟨T3, X3, e3, st3⟩ := getF X2 hx hZ hown (host := "") (Or.inl (hw _ (List.mem_of_getElem? (i := 12) rfl))) Via.refl e2 F2 (g := (mkF m 13 #[.val (.ref a)] [(.ref a), (.int (((7 : Int32) + w0) + w1))])) rfl rfl (hb hby d1_13)
  refine Gl.st (g' := (mkF m 16 #[.val (.ref a)] [(.int w2), (.int (((7 : Int32) + w0) + w1))])) (fun τ κ => st3 _ κ) ?_
  refine Gl.st (g' := (mkF m 17 #[.val (.ref a)] [(.int ((((7 : Int32) + w0) + w1) + w2))])) (fun τ κ => XS.iadd X3.here hx rfl (hb hby d1_16) rfl κ) ?_
  exact Gl.ret (v := some (.int ((((7 : Int32) + w0) + w1) + w2))) X3 Bd.notSynchronized (fun h => by rw [Bd.returns] at h; cases h) e3 (fun fs hr => retI X3 hx Bd.returns (hb hby d1_17) hr) (by decide) (by decide) ⟨rfl, N0, rfl⟩
theorem pd_0 : parseMethodDescriptor "()I" = some ⟨[], some .int⟩ := by decide +kernel
theorem pn_com_example_hermitage_hermitage_winecode_FormLengthPinLaw : plainName "com/example/hermitage/hermitage/winecode/FormLengthPinLaw" = true := by first | (simp [plainName, overriddenIn]; done) | decide +kernel
theorem ef_rm0 (m : MethodId) (x0 : Int32) : entryFrame m #[(.int x0)] maxLocals = mkF m 0 #[.val (.int x0), .unset, .unset, .unset] [] := by first | (simp [entryFrame, mkF, argsToLocals, Value.category, maxLocals]; done) | rfl
def Q_rm0 (Z : State) (x0 : Int32) (a_LWIN7 a_LWIN11 a_LWIN16 a_LWIN18 : Addr) (h0 : Heap) (n0 : Nat) (v : Option Value) (h : Heap) (L : List Loc) : Prop := v = some (.int 1) ∧ Fr n0 L
set_option maxRecDepth 65536 in
set_option maxHeartbeats 40000000 in
theorem rm0 (l : Launch) (Z : State) (a0 : Array Value) (hw : ∀ d ∈ tables_1, d.before a0 Z = true) (ws : List Jvm.Cond) (x0 : Int32) (a_LWIN7 a_LWIN11 a_LWIN16 a_LWIN18 : Addr) (h0 : Heap) (n0 : Nat) (Z0 : n0 ≤ h0.size) (S_LWIN7 : Sta Z h0 "com/example/hermitage/hermitage/winecode/WineCode$Form" "LWIN7" "Lcom/example/hermitage/hermitage/winecode/WineCode$Form;" (.ref a_LWIN7)) (E_LWIN7 : Exa Z h0 a_LWIN7 "com/example/hermitage/hermitage/winecode/WineCode$Form") (F_LWIN7_0 : Fld Z h0 a_LWIN7 "com/example/hermitage/hermitage/winecode/WineCode$Form" "vintageDigits" "I" (.int (0 : Int32))) (F_LWIN7_1 : Fld Z h0 a_LWIN7 "com/example/hermitage/hermitage/winecode/WineCode$Form" "packDigits" "I" (.int (0 : Int32))) (F_LWIN7_2 : Fld Z h0 a_LWIN7 "com/example/hermitage/hermitage/winecode/WineCode$Form" "bottleDigits" "I" (.int (0 : Int32))) (S_LWIN11 : Sta Z h0 "com/example/hermitage/hermitage/winecode/WineCode$Form" "LWIN11" "Lcom/example/hermitage/hermitage/winecode/WineCode$Form;" (.ref a_LWIN11)) (E_LWIN11 : Exa Z h0 a_LWIN11 "com/example/hermitage/hermitage/winecode/WineCode$Form") (F_LWIN11_0 : Fld Z h0 a_LWIN11 "com/example/hermitage/hermitage/winecode/WineCode$Form" "vintageDigits" "I" (.int (4 : Int32))) (F_LWIN11_1 : Fld Z h0 a_LWIN11 "com/example/hermitage/hermitage/winecode/WineCode$Form" "packDigits" "I" (.int (0 : Int32))) (F_LWIN11_2 : Fld Z h0 a_LWIN11 "com/example/hermitage/hermitage/winecode/WineCode$Form" "bottleDigits" "I" (.int (0 : Int32))) (S_LWIN16 : Sta Z h0 "com/example/hermitage/hermitage/winecode/WineCode$Form" "LWIN16" "Lcom/example/hermitage/hermitage/winecode/WineCode$Form;" (.ref a_LWIN16)) (E_LWIN16 : Exa Z h0 a_LWIN16 "com/example/hermitage/hermitage/winecode/WineCode$Form") (F_LWIN16_0 : Fld Z h0 a_LWIN16 "com/example/hermitage/hermitage/winecode/WineCode$Form" "vintageDigits" "I" (.int (4 : Int32))) (F_LWIN16_1 : Fld Z h0 a_LWIN16 "com/example/hermitage/hermitage/winecode/WineCode$Form" "packDigits" "I" (.int (0 : Int32))) (F_LWIN16_2 : Fld Z h0 a_LWIN16 "com/example/hermitage/hermitage/winecode/WineCode$Form" "bottleDigits" "I" (.int (5 : Int32))) (S_LWIN18 : Sta Z h0 "com/example/hermitage/hermitage/winecode/WineCode$Form" "LWIN18" "Lcom/example/hermitage/hermitage/winecode/WineCode$Form;" (.ref a_LWIN18)) (E_LWIN18 : Exa Z h0 a_LWIN18 "com/example/hermitage/hermitage/winecode/WineCode$Form") (F_LWIN18_0 : Fld Z h0 a_LWIN18 "com/example/hermitage/hermitage/winecode/WineCode$Form" "vintageDigits" "I" (.int (4 : Int32))) (F_LWIN18_1 : Fld Z h0 a_LWIN18 "com/example/hermitage/hermitage/winecode/WineCode$Form" "packDigits" "I" (.int (2 : Int32))) (F_LWIN18_2 : Fld Z h0 a_LWIN18 "com/example/hermitage/hermitage/winecode/WineCode$Form" "bottleDigits" "I" (.int (5 : Int32))) :
    MetFree l x (head1 (Jvm.Cond.code x code maxLocals ret :: ws) room_1) (fun aα Uα => aα = #[(.int x0)] ∧ Z.Warmed39 Uα.vm ∧ Uα.heap = h0) (fun _ _ _ _ _ => True) (fun _ Uα oα Uβ => ∃ vα Lα, oα = .returned vα ∧ Q_rm0 Z x0 a_LWIN7 a_LWIN11 a_LWIN16 a_LWIN18 h0 n0 vα Uβ.heap Lα ∧ FrameEnd Uα oα Uβ Lα 0 0) := by
  refine MetFree.of_bodySF (plainFor_of_name pn_com_example_hermitage_hermitage_winecode_FormLengthPinLaw) hisR ?_
  intro p e s m args below meth c s₁ Bd hml0 hP hKα
  obtain ⟨rfl, hZ, hh⟩ := hP
  have hx := Bd.exec
  have hby := Bd.bytes
  have hml : c.maxLocals = 4 := hml0
  have hown : s.vm.findClass "com/example/hermitage/hermitage/winecode/FormLengthPinLaw" = some m.cls := findClass_of_methodNamed Bd.named
  have hnm := (name_of_methodNamed Bd.named Bd.method).1
  have X0 : Stand p l e room_1 s m #[(.int x0)] below meth c s₁ [] 0 0 := Stand.of_body Bd
  have e0 : s₁.heap = h0 := by rw [← hh, Bd.state]; rfl
  have N0 := Fr.nil n0
  suffices k0 : Gl p e below s (Q_rm0 Z x0 a_LWIN7 a_LWIN11 a_LWIN16 a_LWIN18 h0 n0) 0 0 s₁ (mkF m 0 #[.val (.int x0), .unset, .unset, .unset] []) from Gl.st (fun τ κ => castTop (ef_rm0 m x0) κ) k0
  refine Gl.st (g' := (mkF m 1 #[.val (.int x0), .unset, .unset, .unset] [(.int x0)])) (fun τ κ => XS.iloadN X0.here hx rfl (hb hby at_0) rfl κ) ?_
  refine Gl.st (g' := (mkF m 2 #[.val (.int x0), .unset, .unset, .unset] [(.int (3 : Int32)), (.int x0)])) (fun τ κ => XS.iconst X0.here hx rfl (hb hby at_1) κ) ?_
  refine Gl.st (g' := (mkF m 3 #[.val (.int x0), .unset, .unset, .unset] [(.int (x0 &&& (3 : Int32)))])) (fun τ κ => XS.iand X0.here hx rfl (hb hby at_2) rfl κ) ?_
  refine Gl.st (g' := (mkF m 4 #[.val (.int x0), .val (.int (x0 &&& (3 : Int32))), .unset, .unset] [])) (fun τ κ => XS.istoreN X0.here hx rfl (hb hby at_3) rfl (l' := #[.val (.int x0), .val (.int (x0 &&& (3 : Int32))), .unset, .unset]) rfl κ) ?_
  refine Gl.st (g' := (mkF m 5 #[.val (.int x0), .val (.int (x0 &&& (3 : Int32))), .unset, .unset] [(.int (x0 &&& (3 : Int32)))])) (fun τ κ => XS.iloadN X0.here hx rfl (hb hby at_4) rfl κ) ?_
  by_cases hc4 : (x0 &&& (3 : Int32)) = (0 : Int32)
  · -- pc 5: (x0 &&& (3 : Int32)) = (0 : Int32)
    refine Gl.st (g' := (mkF m 8 #[.val (.int x0), .val (.int (x0 &&& (3 : Int32))), .unset, .unset] [])) (fun τ κ => XS.ifNo X0.here hx rfl (hb hby at_5) rfl ((if0 _ _).trans (teq hc4).2) κ) ?_
    obtain ⟨T5, X5, e5, st5⟩ := getS2 X0 hx hZ hown (host := "") (Or.inl (hw _ (List.mem_of_getElem? (i := 0) rfl))) Via.refl e0 S_LWIN7 (g := (mkF m 8 #[.val (.int x0), .val (.int (x0 &&& (3 : Int32))), .unset, .unset] [])) rfl (hb hby at_8)
    refine Gl.st (g' := (mkF m 11 #[.val (.int x0), .val (.int (x0 &&& (3 : Int32))), .unset, .unset] [(.ref a_LWIN7)])) (fun τ κ => st5 _ κ) ?_
    refine Gl.st (g' := (mkF m 12 #[.val (.int x0), .val (.int (x0 &&& (3 : Int32))), .val (.ref a_LWIN7), .unset] [])) (fun τ κ => XS.astoreN X5.here hx rfl (hb hby at_11) rfl rfl (l' := #[.val (.int x0), .val (.int (x0 &&& (3 : Int32))), .val (.ref a_LWIN7), .unset]) rfl κ) ?_
    refine Gl.st (g' := (mkF m 14 #[.val (.int x0), .val (.int (x0 &&& (3 : Int32))), .val (.ref a_LWIN7), .unset] [(.int (7 : Int32))])) (fun τ κ => XS.bipush X5.here hx rfl (hb hby at_12) κ) ?_
    refine Gl.st (g' := (mkF m 15 #[.val (.int x0), .val (.int (x0 &&& (3 : Int32))), .val (.ref a_LWIN7), .val (.int (7 : Int32))] [])) (fun τ κ => XS.istoreN X5.here hx rfl (hb hby at_14) rfl (l' := #[.val (.int x0), .val (.int (x0 &&& (3 : Int32))), .val (.ref a_LWIN7), .val (.int (7 : Int32))]) rfl κ) ?_
    refine Gl.st (g' := (mkF m 55 #[.val (.int x0), .val (.int (x0 &&& (3 : Int32))), .val (.ref a_LWIN7), .val (.int (7 : Int32))] [])) (fun τ κ => XS.goto X5.here hx rfl (pc0 := 15) (pc' := 55) rfl (hb hby at_15) (by decide) (by decide) κ) ?_
    refine Gl.st (g' := (mkF m 56 #[.val (.int x0), .val (.int (x0 &&& (3 : Int32))), .val (.ref a_LWIN7), .val (.int (7 : Int32))] [(.ref a_LWIN7)])) (fun τ κ => XS.aloadN X5.here hx rfl (hb hby at_55) rfl rfl κ) ?_
    obtain ⟨cq6, kq6, q6a, q6b, q6c⟩ := isOf hZ e5 E_LWIN7
    obtain ⟨rv6, _, ⟨T6, L6, k6, n6⟩, -, X6, ⟨Lc6, hQ6, l6, y6, z6⟩, st6⟩ := X5.virtualBack hx (y := (⟨"com/example/hermitage/hermitage/winecode/WineCode$Form", "length", "()I"⟩ : MethodName)) (z := (⟨"com/example/hermitage/hermitage/winecode/WineCode$Form", "length", "()I"⟩ : MethodName)) hown (mvT hZ (hw _ (List.mem_of_getElem? (i := 3) rfl))) (mvT hZ (hw _ (List.mem_of_getElem? (i := 4) rfl))) (notFace_of_selects (args := #[]) (mvT hZ (hw _ (List.mem_of_getElem? (i := 6) rfl)))) (mvT hZ (hw _ (List.mem_of_getElem? (i := 6) rfl))) (mvT hZ (hw _ (List.mem_of_getElem? (i := 5) rfl))) (by decide) (backOf (W := 0) (rm1 l Z a0 hw [] a_LWIN7 (0 : Int32) (0 : Int32) (0 : Int32) h0 n0 Z0 F_LWIN7_0 F_LWIN7_1 F_LWIN7_2) hZ (hw _ (List.mem_of_getElem? (i := 7) rfl)) (hw _ (List.mem_of_getElem? (i := 1) rfl)) (by decide) (by decide)) q6a q6c (g := (mkF m 56 #[.val (.int x0), .val (.int (x0 &&& (3 : Int32))), .val (.ref a_LWIN7), .val (.int (7 : Int32))] [(.ref a_LWIN7)])) rfl (by rw [hml]; rfl) (Steps.refl _) (argsL := []) (rest := []) (lenOf pd_0 rfl) rfl (by show 2 * 0 + _ ≤ _; exact Nat.le_of_eq rfl) (hb hby at_56) (fun _ _ => ⟨rfl, e5, (by decide : 0 + 0 ≤ _), (by decide : 0 + 0 ≤ _)⟩)
    dsimp only [Pt.U, Pt.locs, Pt.cells, Pt.slots] at X6 l6 y6 z6 st6 hQ6
    subst l6 y6 z6
    obtain ⟨rfl, N6q, e6⟩ := hQ6
    have N6 := Fr.app N0 N6q
    refine Gl.st (g' := (mkF m 59 #[.val (.int x0), .val (.int (x0 &&& (3 : Int32))), .val (.ref a_LWIN7), .val (.int (7 : Int32))] [(.int ((((7 : Int32) + (0 : Int32)) + (0 : Int32)) + (0 : Int32)))])) (fun τ κ => st6.trans κ) ?_
    refine Gl.st (g' := (mkF m 60 #[.val (.int x0), .val (.int (x0 &&& (3 : Int32))), .val (.ref a_LWIN7), .val (.int (7 : Int32))] [(.int (7 : Int32)), (.int ((((7 : Int32) + (0 : Int32)) + (0 : Int32)) + (0 : Int32)))])) (fun τ κ => XS.iloadN X6.here hx rfl (hb hby at_59) rfl κ) ?_
    have hc7 : ((((7 : Int32) + (0 : Int32)) + (0 : Int32)) + (0 : Int32)) = (7 : Int32) := by decide
    refine Gl.st (g' := (mkF m 63 #[.val (.int x0), .val (.int (x0 &&& (3 : Int32))), .val (.ref a_LWIN7), .val (.int (7 : Int32))] [])) (fun τ κ => XS.icmpNo X6.here hx rfl (hb hby at_60) rfl (teq hc7).2 κ) ?_
    refine Gl.st (g' := (mkF m 64 #[.val (.int x0), .val (.int (x0 &&& (3 : Int32))), .val (.ref a_LWIN7), .val (.int (7 : Int32))] [(.int (1 : Int32))])) (fun τ κ => XS.iconst X6.here hx rfl (hb hby at_63) κ) ?_
    refine Gl.st (g' := (mkF m 68 #[.val (.int x0), .val (.int (x0 &&& (3 : Int32))), .val (.ref a_LWIN7), .val (.int (7 : Int32))] [(.int (1 : Int32))])) (fun τ κ => XS.goto X6.here hx rfl (pc0 := 64) (pc' := 68) rfl (hb hby at_64) (by decide) (by decide) κ) ?_
    exact Gl.ret (v := some (.int (1 : Int32))) X6 Bd.notSynchronized (fun h => by rw [Bd.returns] at h; cases h) e6 (fun fs hr => retN X6 hx (t := .boolean) Bd.returns (by simp) (hb hby at_68) hr) (by decide) (by decide) ⟨rfl, N6⟩
  · -- pc 5: not (x0 &&& (3 : Int32)) = (0 : Int32)
    refine Gl.st (g' := (mkF m 18 #[.val (.int x0), .val (.int (x0 &&& (3 : Int32))), .unset, .unset] [])) (fun τ κ => XS.ifYes X0.here hx rfl (pc0 := 5) (pc' := 18) rfl (hb hby at_5) rfl ((if0 _ _).trans (feq hc4).2) (by decide) (by decide) κ) ?_
    refine Gl.st (g' := (mkF m 19 #[.val (.int x0), .val (.int (x0 &&& (3 : Int32))), .unset, .unset] [(.int (x0 &&& (3 : Int32)))])) (fun τ κ => XS.iloadN X0.here hx rfl (hb hby at_18) rfl κ) ?_
    refine Gl.st (g' := (mkF m 20 #[.val (.int x0), .val (.int (x0 &&& (3 : Int32))), .unset, .unset] [(.int (1 : Int32)), (.int (x0 &&& (3 : Int32)))])) (fun τ κ => XS.iconst X0.here hx rfl (hb hby at_19) κ) ?_
    by_cases hc8 : (x0 &&& (3 : Int32)) = (1 : Int32)
    · -- pc 20: (x0 &&& (3 : Int32)) = (1 : Int32)
      refine Gl.st (g' := (mkF m 23 #[.val (.int x0), .val (.int (x0 &&& (3 : Int32))), .unset, .unset] [])) (fun τ κ => XS.icmpNo X0.here hx rfl (hb hby at_20) rfl (teq hc8).2 κ) ?_
      obtain ⟨T9, X9, e9, st9⟩ := getS2 X0 hx hZ hown (host := "") (Or.inl (hw _ (List.mem_of_getElem? (i := 18) rfl))) Via.refl e0 S_LWIN11 (g := (mkF m 23 #[.val (.int x0), .val (.int (x0 &&& (3 : Int32))), .unset, .unset] [])) rfl (hb hby at_23)
      refine Gl.st (g' := (mkF m 26 #[.val (.int x0), .val (.int (x0 &&& (3 : Int32))), .unset, .unset] [(.ref a_LWIN11)])) (fun τ κ => st9 _ κ) ?_
      refine Gl.st (g' := (mkF m 27 #[.val (.int x0), .val (.int (x0 &&& (3 : Int32))), .val (.ref a_LWIN11), .unset] [])) (fun τ κ => XS.astoreN X9.here hx rfl (hb hby at_26) rfl rfl (l' := #[.val (.int x0), .val (.int (x0 &&& (3 : Int32))), .val (.ref a_LWIN11), .unset]) rfl κ) ?_
      refine Gl.st (g' := (mkF m 29 #[.val (.int x0), .val (.int (x0 &&& (3 : Int32))), .val (.ref a_LWIN11), .unset] [(.int (11 : Int32))])) (fun τ κ => XS.bipush X9.here hx rfl (hb hby at_27) κ) ?_
      refine Gl.st (g' := (mkF m 30 #[.val (.int x0), .val (.int (x0 &&& (3 : Int32))), .val (.ref a_LWIN11), .val (.int (11 : Int32))] [])) (fun τ κ => XS.istoreN X9.here hx rfl (hb hby at_29) rfl (l' := #[.val (.int x0), .val (.int (x0 &&& (3 : Int32))), .val (.ref a_LWIN11), .val (.int (11 : Int32))]) rfl κ) ?_
      refine Gl.st (g' := (mkF m 55 #[.val (.int x0), .val (.int (x0 &&& (3 : Int32))), .val (.ref a_LWIN11), .val (.int (11 : Int32))] [])) (fun τ κ => XS.goto X9.here hx rfl (pc0 := 30) (pc' := 55) rfl (hb hby at_30) (by decide) (by decide) κ) ?_
      refine Gl.st (g' := (mkF m 56 #[.val (.int x0), .val (.int (x0 &&& (3 : Int32))), .val (.ref a_LWIN11), .val (.int (11 : Int32))] [(.ref a_LWIN11)])) (fun τ κ => XS.aloadN X9.here hx rfl (hb hby at_55) rfl rfl κ) ?_
      obtain ⟨cq10, kq10, q10a, q10b, q10c⟩ := isOf hZ e9 E_LWIN11
      obtain ⟨rv10, _, ⟨T10, L10, k10, n10⟩, -, X10, ⟨Lc10, hQ10, l10, y10, z10⟩, st10⟩ := X9.virtualBack hx (y := (⟨"com/example/hermitage/hermitage/winecode/WineCode$Form", "length", "()I"⟩ : MethodName)) (z := (⟨"com/example/hermitage/hermitage/winecode/WineCode$Form", "length", "()I"⟩ : MethodName)) hown (mvT hZ (hw _ (List.mem_of_getElem? (i := 3) rfl))) (mvT hZ (hw _ (List.mem_of_getElem? (i := 4) rfl))) (notFace_of_selects (args := #[]) (mvT hZ (hw _ (List.mem_of_getElem? (i := 6) rfl)))) (mvT hZ (hw _ (List.mem_of_getElem? (i := 6) rfl))) (mvT hZ (hw _ (List.mem_of_getElem? (i := 5) rfl))) (by decide) (backOf (W := 0) (rm1 l Z a0 hw [] a_LWIN11 (4 : Int32) (0 : Int32) (0 : Int32) h0 n0 Z0 F_LWIN11_0 F_LWIN11_1 F_LWIN11_2) hZ (hw _ (List.mem_of_getElem? (i := 7) rfl)) (hw _ (List.mem_of_getElem? (i := 1) rfl)) (by decide) (by decide)) q10a q10c (g := (mkF m 56 #[.val (.int x0), .val (.int (x0 &&& (3 : Int32))), .val (.ref a_LWIN11), .val (.int (11 : Int32))] [(.ref a_LWIN11)])) rfl (by rw [hml]; rfl) (Steps.refl _) (argsL := []) (rest := []) (lenOf pd_0 rfl) rfl (by show 2 * 0 + _ ≤ _; exact Nat.le_of_eq rfl) (hb hby at_56) (fun _ _ => ⟨rfl, e9, (by decide : 0 + 0 ≤ _), (by decide : 0 + 0 ≤ _)⟩)
      dsimp only [Pt.U, Pt.locs, Pt.cells, Pt.slots] at X10 l10 y10 z10 st10 hQ10
      subst l10 y10 z10
      obtain ⟨rfl, N10q, e10⟩ := hQ10
      have N10 := Fr.app N0 N10q
      refine Gl.st (g' := (mkF m 59 #[.val (.int x0), .val (.int (x0 &&& (3 : Int32))), .val (.ref a_LWIN11), .val (.int (11 : Int32))] [(.int ((((7 : Int32) + (4 : Int32)) + (0 : Int32)) + (0 : Int32)))])) (fun τ κ => st10.trans κ) ?_
      refine Gl.st (g' := (mkF m 60 #[.val (.int x0), .val (.int (x0 &&& (3 : Int32))), .val (.ref a_LWIN11), .val (.int (11 : Int32))] [(.int (11 : Int32)), (.int ((((7 : Int32) + (4 : Int32)) + (0 : Int32)) + (0 : Int32)))])) (fun τ κ => XS.iloadN X10.here hx rfl (hb hby at_59) rfl κ) ?_
      have hc11 : ((((7 : Int32) + (4 : Int32)) + (0 : Int32)) + (0 : Int32)) = (11 : Int32) := by decide
      refine Gl.st (g' := (mkF m 63 #[.val (.int x0), .val (.int (x0 &&& (3 : Int32))), .val (.ref a_LWIN11), .val (.int (11 : Int32))] [])) (fun τ κ => XS.icmpNo X10.here hx rfl (hb hby at_60) rfl (teq hc11).2 κ) ?_
      refine Gl.st (g' := (mkF m 64 #[.val (.int x0), .val (.int (x0 &&& (3 : Int32))), .val (.ref a_LWIN11), .val (.int (11 : Int32))] [(.int (1 : Int32))])) (fun τ κ => XS.iconst X10.here hx rfl (hb hby at_63) κ) ?_
      refine Gl.st (g' := (mkF m 68 #[.val (.int x0), .val (.int (x0 &&& (3 : Int32))), .val (.ref a_LWIN11), .val (.int (11 : Int32))] [(.int (1 : Int32))])) (fun τ κ => XS.goto X10.here hx rfl (pc0 := 64) (pc' := 68) rfl (hb hby at_64) (by decide) (by decide) κ) ?_
      exact Gl.ret (v := some (.int (1 : Int32))) X10 Bd.notSynchronized (fun h => by rw [Bd.returns] at h; cases h) e10 (fun fs hr => retN X10 hx (t := .boolean) Bd.returns (by simp) (hb hby at_68) hr) (by decide) (by decide) ⟨rfl, N10⟩
    · -- pc 20: not (x0 &&& (3 : Int32)) = (1 : Int32)
      refine Gl.st (g' := (mkF m 33 #[.val (.int x0), .val (.int (x0 &&& (3 : Int32))), .unset, .unset] [])) (fun τ κ => XS.icmpYes X0.here hx rfl (pc0 := 20) (pc' := 33) rfl (hb hby at_20) rfl (feq hc8).2 (by decide) (by decide) κ) ?_
      refine Gl.st (g' := (mkF m 34 #[.val (.int x0), .val (.int (x0 &&& (3 : Int32))), .unset, .unset] [(.int (x0 &&& (3 : Int32)))])) (fun τ κ => XS.iloadN X0.here hx rfl (hb hby at_33) rfl κ) ?_
      refine Gl.st (g' := (mkF m 35 #[.val (.int x0), .val (.int (x0 &&& (3 : Int32))), .unset, .unset] [(.int (2 : Int32)), (.int (x0 &&& (3 : Int32)))])) (fun τ κ => XS.iconst X0.here hx rfl (hb hby at_34) κ) ?_
      by_cases hc12 : (x0 &&& (3 : Int32)) = (2 : Int32)
      · -- pc 35: (x0 &&& (3 : Int32)) = (2 : Int32)
        refine Gl.st (g' := (mkF m 38 #[.val (.int x0), .val (.int (x0 &&& (3 : Int32))), .unset, .unset] [])) (fun τ κ => XS.icmpNo X0.here hx rfl (hb hby at_35) rfl (teq hc12).2 κ) ?_
        obtain ⟨T13, X13, e13, st13⟩ := getS2 X0 hx hZ hown (host := "") (Or.inl (hw _ (List.mem_of_getElem? (i := 16) rfl))) Via.refl e0 S_LWIN16 (g := (mkF m 38 #[.val (.int x0), .val (.int (x0 &&& (3 : Int32))), .unset, .unset] [])) rfl (hb hby at_38)
        refine Gl.st (g' := (mkF m 41 #[.val (.int x0), .val (.int (x0 &&& (3 : Int32))), .unset, .unset] [(.ref a_LWIN16)])) (fun τ κ => st13 _ κ) ?_
        refine Gl.st (g' := (mkF m 42 #[.val (.int x0), .val (.int (x0 &&& (3 : Int32))), .val (.ref a_LWIN16), .unset] [])) (fun τ κ => XS.astoreN X13.here hx rfl (hb hby at_41) rfl rfl (l' := #[.val (.int x0), .val (.int (x0 &&& (3 : Int32))), .val (.ref a_LWIN16), .unset]) rfl κ) ?_
        refine Gl.st (g' := (mkF m 44 #[.val (.int x0), .val (.int (x0 &&& (3 : Int32))), .val (.ref a_LWIN16), .unset] [(.int (16 : Int32))])) (fun τ κ => XS.bipush X13.here hx rfl (hb hby at_42) κ) ?_
        refine Gl.st (g' := (mkF m 45 #[.val (.int x0), .val (.int (x0 &&& (3 : Int32))), .val (.ref a_LWIN16), .val (.int (16 : Int32))] [])) (fun τ κ => XS.istoreN X13.here hx rfl (hb hby at_44) rfl (l' := #[.val (.int x0), .val (.int (x0 &&& (3 : Int32))), .val (.ref a_LWIN16), .val (.int (16 : Int32))]) rfl κ) ?_
        refine Gl.st (g' := (mkF m 55 #[.val (.int x0), .val (.int (x0 &&& (3 : Int32))), .val (.ref a_LWIN16), .val (.int (16 : Int32))] [])) (fun τ κ => XS.goto X13.here hx rfl (pc0 := 45) (pc' := 55) rfl (hb hby at_45) (by decide) (by decide) κ) ?_
        refine Gl.st (g' := (mkF m 56 #[.val (.int x0), .val (.int (x0 &&& (3 : Int32))), .val (.ref a_LWIN16), .val (.int (16 : Int32))] [(.ref a_LWIN16)])) (fun τ κ => XS.aloadN X13.here hx rfl (hb hby at_55) rfl rfl κ) ?_
        obtain ⟨cq14, kq14, q14a, q14b, q14c⟩ := isOf hZ e13 E_LWIN16
        obtain ⟨rv14, _, ⟨T14, L14, k14, n14⟩, -, X14, ⟨Lc14, hQ14, l14, y14, z14⟩, st14⟩ := X13.virtualBack hx (y := (⟨"com/example/hermitage/hermitage/winecode/WineCode$Form", "length", "()I"⟩ : MethodName)) (z := (⟨"com/example/hermitage/hermitage/winecode/WineCode$Form", "length", "()I"⟩ : MethodName)) hown (mvT hZ (hw _ (List.mem_of_getElem? (i := 3) rfl))) (mvT hZ (hw _ (List.mem_of_getElem? (i := 4) rfl))) (notFace_of_selects (args := #[]) (mvT hZ (hw _ (List.mem_of_getElem? (i := 6) rfl)))) (mvT hZ (hw _ (List.mem_of_getElem? (i := 6) rfl))) (mvT hZ (hw _ (List.mem_of_getElem? (i := 5) rfl))) (by decide) (backOf (W := 0) (rm1 l Z a0 hw [] a_LWIN16 (4 : Int32) (0 : Int32) (5 : Int32) h0 n0 Z0 F_LWIN16_0 F_LWIN16_1 F_LWIN16_2) hZ (hw _ (List.mem_of_getElem? (i := 7) rfl)) (hw _ (List.mem_of_getElem? (i := 1) rfl)) (by decide) (by decide)) q14a q14c (g := (mkF m 56 #[.val (.int x0), .val (.int (x0 &&& (3 : Int32))), .val (.ref a_LWIN16), .val (.int (16 : Int32))] [(.ref a_LWIN16)])) rfl (by rw [hml]; rfl) (Steps.refl _) (argsL := []) (rest := []) (lenOf pd_0 rfl) rfl (by show 2 * 0 + _ ≤ _; exact Nat.le_of_eq rfl) (hb hby at_56) (fun _ _ => ⟨rfl, e13, (by decide : 0 + 0 ≤ _), (by decide : 0 + 0 ≤ _)⟩)
        dsimp only [Pt.U, Pt.locs, Pt.cells, Pt.slots] at X14 l14 y14 z14 st14 hQ14
        subst l14 y14 z14
        obtain ⟨rfl, N14q, e14⟩ := hQ14
        have N14 := Fr.app N0 N14q
        refine Gl.st (g' := (mkF m 59 #[.val (.int x0), .val (.int (x0 &&& (3 : Int32))), .val (.ref a_LWIN16), .val (.int (16 : Int32))] [(.int ((((7 : Int32) + (4 : Int32)) + (0 : Int32)) + (5 : Int32)))])) (fun τ κ => st14.trans κ) ?_
        refine Gl.st (g' := (mkF m 60 #[.val (.int x0), .val (.int (x0 &&& (3 : Int32))), .val (.ref a_LWIN16), .val (.int (16 : Int32))] [(.int (16 : Int32)), (.int ((((7 : Int32) + (4 : Int32)) + (0 : Int32)) + (5 : Int32)))])) (fun τ κ => XS.iloadN X14.here hx rfl (hb hby at_59) rfl κ) ?_
        have hc15 : ((((7 : Int32) + (4 : Int32)) + (0 : Int32)) + (5 : Int32)) = (16 : Int32) := by decide
        refine Gl.st (g' := (mkF m 63 #[.val (.int x0), .val (.int (x0 &&& (3 : Int32))), .val (.ref a_LWIN16), .val (.int (16 : Int32))] [])) (fun τ κ => XS.icmpNo X14.here hx rfl (hb hby at_60) rfl (teq hc15).2 κ) ?_
        refine Gl.st (g' := (mkF m 64 #[.val (.int x0), .val (.int (x0 &&& (3 : Int32))), .val (.ref a_LWIN16), .val (.int (16 : Int32))] [(.int (1 : Int32))])) (fun τ κ => XS.iconst X14.here hx rfl (hb hby at_63) κ) ?_
        refine Gl.st (g' := (mkF m 68 #[.val (.int x0), .val (.int (x0 &&& (3 : Int32))), .val (.ref a_LWIN16), .val (.int (16 : Int32))] [(.int (1 : Int32))])) (fun τ κ => XS.goto X14.here hx rfl (pc0 := 64) (pc' := 68) rfl (hb hby at_64) (by decide) (by decide) κ) ?_
        exact Gl.ret (v := some (.int (1 : Int32))) X14 Bd.notSynchronized (fun h => by rw [Bd.returns] at h; cases h) e14 (fun fs hr => retN X14 hx (t := .boolean) Bd.returns (by simp) (hb hby at_68) hr) (by decide) (by decide) ⟨rfl, N14⟩
      · -- pc 35: not (x0 &&& (3 : Int32)) = (2 : Int32)
        refine Gl.st (g' := (mkF m 48 #[.val (.int x0), .val (.int (x0 &&& (3 : Int32))), .unset, .unset] [])) (fun τ κ => XS.icmpYes X0.here hx rfl (pc0 := 35) (pc' := 48) rfl (hb hby at_35) rfl (feq hc12).2 (by decide) (by decide) κ) ?_
        obtain ⟨T16, X16, e16, st16⟩ := getS2 X0 hx hZ hown (host := "") (Or.inl (hw _ (List.mem_of_getElem? (i := 14) rfl))) Via.refl e0 S_LWIN18 (g := (mkF m 48 #[.val (.int x0), .val (.int (x0 &&& (3 : Int32))), .unset, .unset] [])) rfl (hb hby at_48)
        refine Gl.st (g' := (mkF m 51 #[.val (.int x0), .val (.int (x0 &&& (3 : Int32))), .unset, .unset] [(.ref a_LWIN18)])) (fun τ κ => st16 _ κ) ?_
        refine Gl.st (g' := (mkF m 52 #[.val (.int x0), .val (.int (x0 &&& (3 : Int32))), .val (.ref a_LWIN18), .unset] [])) (fun τ κ => XS.astoreN X16.here hx rfl (hb hby at_51) rfl rfl (l' := #[.val (.int x0), .val (.int (x0 &&& (3 : Int32))), .val (.ref a_LWIN18), .unset]) rfl κ) ?_
        refine Gl.st (g' := (mkF m 54 #[.val (.int x0), .val (.int (x0 &&& (3 : Int32))), .val (.ref a_LWIN18), .unset] [(.int (18 : Int32))])) (fun τ κ => XS.bipush X16.here hx rfl (hb hby at_52) κ) ?_
        refine Gl.st (g' := (mkF m 55 #[.val (.int x0), .val (.int (x0 &&& (3 : Int32))), .val (.ref a_LWIN18), .val (.int (18 : Int32))] [])) (fun τ κ => XS.istoreN X16.here hx rfl (hb hby at_54) rfl (l' := #[.val (.int x0), .val (.int (x0 &&& (3 : Int32))), .val (.ref a_LWIN18), .val (.int (18 : Int32))]) rfl κ) ?_
        refine Gl.st (g' := (mkF m 56 #[.val (.int x0), .val (.int (x0 &&& (3 : Int32))), .val (.ref a_LWIN18), .val (.int (18 : Int32))] [(.ref a_LWIN18)])) (fun τ κ => XS.aloadN X16.here hx rfl (hb hby at_55) rfl rfl κ) ?_
        obtain ⟨cq17, kq17, q17a, q17b, q17c⟩ := isOf hZ e16 E_LWIN18
        obtain ⟨rv17, _, ⟨T17, L17, k17, n17⟩, -, X17, ⟨Lc17, hQ17, l17, y17, z17⟩, st17⟩ := X16.virtualBack hx (y := (⟨"com/example/hermitage/hermitage/winecode/WineCode$Form", "length", "()I"⟩ : MethodName)) (z := (⟨"com/example/hermitage/hermitage/winecode/WineCode$Form", "length", "()I"⟩ : MethodName)) hown (mvT hZ (hw _ (List.mem_of_getElem? (i := 3) rfl))) (mvT hZ (hw _ (List.mem_of_getElem? (i := 4) rfl))) (notFace_of_selects (args := #[]) (mvT hZ (hw _ (List.mem_of_getElem? (i := 6) rfl)))) (mvT hZ (hw _ (List.mem_of_getElem? (i := 6) rfl))) (mvT hZ (hw _ (List.mem_of_getElem? (i := 5) rfl))) (by decide) (backOf (W := 0) (rm1 l Z a0 hw [] a_LWIN18 (4 : Int32) (2 : Int32) (5 : Int32) h0 n0 Z0 F_LWIN18_0 F_LWIN18_1 F_LWIN18_2) hZ (hw _ (List.mem_of_getElem? (i := 7) rfl)) (hw _ (List.mem_of_getElem? (i := 1) rfl)) (by decide) (by decide)) q17a q17c (g := (mkF m 56 #[.val (.int x0), .val (.int (x0 &&& (3 : Int32))), .val (.ref a_LWIN18), .val (.int (18 : Int32))] [(.ref a_LWIN18)])) rfl (by rw [hml]; rfl) (Steps.refl _) (argsL := []) (rest := []) (lenOf pd_0 rfl) rfl (by show 2 * 0 + _ ≤ _; exact Nat.le_of_eq rfl) (hb hby at_56) (fun _ _ => ⟨rfl, e16, (by decide : 0 + 0 ≤ _), (by decide : 0 + 0 ≤ _)⟩)
        dsimp only [Pt.U, Pt.locs, Pt.cells, Pt.slots] at X17 l17 y17 z17 st17 hQ17
        subst l17 y17 z17
        obtain ⟨rfl, N17q, e17⟩ := hQ17
        have N17 := Fr.app N0 N17q
        refine Gl.st (g' := (mkF m 59 #[.val (.int x0), .val (.int (x0 &&& (3 : Int32))), .val (.ref a_LWIN18), .val (.int (18 : Int32))] [(.int ((((7 : Int32) + (4 : Int32)) + (2 : Int32)) + (5 : Int32)))])) (fun τ κ => st17.trans κ) ?_
        refine Gl.st (g' := (mkF m 60 #[.val (.int x0), .val (.int (x0 &&& (3 : Int32))), .val (.ref a_LWIN18), .val (.int (18 : Int32))] [(.int (18 : Int32)), (.int ((((7 : Int32) + (4 : Int32)) + (2 : Int32)) + (5 : Int32)))])) (fun τ κ => XS.iloadN X17.here hx rfl (hb hby at_59) rfl κ) ?_
        have hc18 : ((((7 : Int32) + (4 : Int32)) + (2 : Int32)) + (5 : Int32)) = (18 : Int32) := by decide
        refine Gl.st (g' := (mkF m 63 #[.val (.int x0), .val (.int (x0 &&& (3 : Int32))), .val (.ref a_LWIN18), .val (.int (18 : Int32))] [])) (fun τ κ => XS.icmpNo X17.here hx rfl (hb hby at_60) rfl (teq hc18).2 κ) ?_
        refine Gl.st (g' := (mkF m 64 #[.val (.int x0), .val (.int (x0 &&& (3 : Int32))), .val (.ref a_LWIN18), .val (.int (18 : Int32))] [(.int (1 : Int32))])) (fun τ κ => XS.iconst X17.here hx rfl (hb hby at_63) κ) ?_
        refine Gl.st (g' := (mkF m 68 #[.val (.int x0), .val (.int (x0 &&& (3 : Int32))), .val (.ref a_LWIN18), .val (.int (18 : Int32))] [(.int (1 : Int32))])) (fun τ κ => XS.goto X17.here hx rfl (pc0 := 64) (pc' := 68) rfl (hb hby at_64) (by decide) (by decide) κ) ?_
        exact Gl.ret (v := some (.int (1 : Int32))) X17 Bd.notSynchronized (fun h => by rw [Bd.returns] at h; cases h) e17 (fun fs hr => retN X17 hx (t := .boolean) Bd.returns (by simp) (hb hby at_68) hr) (by decide) (by decide) ⟨rfl, N17⟩
set_option maxRecDepth 65536 in
set_option maxHeartbeats 40000000 in
theorem comes_1 {Post : Tables → Env → Array Value → State → Outcome → State → Prop} (hpost : ∀ tb e args s v u, (limb_1_1.after args s (.returned v) u = true ∧ limb_1_2.after args s (.returned v) u = true ∧ True) → FrameEnd s (.returned v) u (Jvm.fieldLocs frame_1_writes args s ++ Jvm.arrayLocs frame_1_arrays args s ++ Jvm.staticLocs frame_1_statics s) 0 0 → Post tb e args s (.returned v) u) :
    ArmFor flags0 classFile x code maxLocals ret World_1 tables_1 room_1 Calls_1 rest_1 Pre_1 Post := by
  intro l hfl _ _ p e ha hc hk s m args below hf hA hF happ hP
  obtain ⟨hcalls, hrest, hpre⟩ := hP
  obtain ⟨-, -, -, hnamed, -, -, -, hat⟩ := (Spec.applies_iff hf).mp happ
  obtain ⟨hg, hn⟩ := and_e (Cond.before_iff.mp (show (Jvm.Cond.and given_1 narrow_1).before args s = true from hpre))
  obtain ⟨hcount, hg0⟩ := and_e hg
  have gi0 := hg0
  obtain ⟨w0, rfl⟩ : ∃ w0 : Value, args = #[w0] := by
    have hs : args.size = 1 := by simpa [Cond.value, given_1] using hcount
    obtain ⟨L⟩ := args
    match L, hs with
    | [w0], _ => exact ⟨w0, rfl⟩
  have hw := fun d (hd : d ∈ tables_1) => atoms_spec (ws := Jvm.Cond.code x code maxLocals ret :: tables_1) hat d (List.mem_cons_of_mem _ hd)
  obtain ⟨i0, ei0⟩ := is_v gi0
  obtain rfl : w0 = (.int i0) := Option.some.inj ei0
  obtain ⟨cn19, cn20⟩ := and_e hn
  obtain ⟨cn21, cn22⟩ := and_e cn20
  obtain ⟨cn23, cn24⟩ := and_e cn22
  obtain ⟨cn25, cn26⟩ := and_e cn24
  obtain ⟨cn27, cn28⟩ := and_e cn26
  obtain ⟨cn29, cn30⟩ := and_e cn28
  obtain ⟨cn31, cn32⟩ := and_e cn30
  obtain ⟨cn33, cn34⟩ := and_e cn32
  obtain ⟨cn35, cn36⟩ := and_e cn34
  obtain ⟨cn37, cn38⟩ := and_e cn36
  obtain ⟨cn39, cn40⟩ := and_e cn38
  obtain ⟨cn41, cn42⟩ := and_e cn40
  obtain ⟨cn43, cn44⟩ := and_e cn42
  obtain ⟨cn45, cn46⟩ := and_e cn44
  obtain ⟨cn47, cn48⟩ := and_e cn46
  obtain ⟨a_LWIN7, ev_LWIN7⟩ := exa_v cn19
  have S_LWIN7 := Sta.start ev_LWIN7 (Or.inr ⟨(hw _ (List.mem_of_getElem? (i := 1) rfl)), (hw _ (List.mem_of_getElem? (i := 2) rfl))⟩)
  have E_LWIN7 := Exa.start ev_LWIN7 cn19
  have F_LWIN7_0 := Fld.start ((fld_at ev_LWIN7).symm.trans (own_eqi cn21))
  have F_LWIN7_1 := Fld.start ((fld_at ev_LWIN7).symm.trans (own_eqi cn23))
  have F_LWIN7_2 := Fld.start ((fld_at ev_LWIN7).symm.trans (own_eqi cn25))
  obtain ⟨a_LWIN11, ev_LWIN11⟩ := exa_v cn43
  have S_LWIN11 := Sta.start ev_LWIN11 (Or.inr ⟨(hw _ (List.mem_of_getElem? (i := 1) rfl)), (hw _ (List.mem_of_getElem? (i := 19) rfl))⟩)
  have E_LWIN11 := Exa.start ev_LWIN11 cn43
  have F_LWIN11_0 := Fld.start ((fld_at ev_LWIN11).symm.trans (own_eqi cn45))
  have F_LWIN11_1 := Fld.start ((fld_at ev_LWIN11).symm.trans (own_eqi cn47))
  have F_LWIN11_2 := Fld.start ((fld_at ev_LWIN11).symm.trans (own_eqi cn48))
  obtain ⟨a_LWIN16, ev_LWIN16⟩ := exa_v cn35
  have S_LWIN16 := Sta.start ev_LWIN16 (Or.inr ⟨(hw _ (List.mem_of_getElem? (i := 1) rfl)), (hw _ (List.mem_of_getElem? (i := 17) rfl))⟩)
  have E_LWIN16 := Exa.start ev_LWIN16 cn35
  have F_LWIN16_0 := Fld.start ((fld_at ev_LWIN16).symm.trans (own_eqi cn37))
  have F_LWIN16_1 := Fld.start ((fld_at ev_LWIN16).symm.trans (own_eqi cn39))
  have F_LWIN16_2 := Fld.start ((fld_at ev_LWIN16).symm.trans (own_eqi cn41))
  obtain ⟨a_LWIN18, ev_LWIN18⟩ := exa_v cn27
  have S_LWIN18 := Sta.start ev_LWIN18 (Or.inr ⟨(hw _ (List.mem_of_getElem? (i := 1) rfl)), (hw _ (List.mem_of_getElem? (i := 15) rfl))⟩)
  have E_LWIN18 := Exa.start ev_LWIN18 cn27
  have F_LWIN18_0 := Fld.start ((fld_at ev_LWIN18).symm.trans (own_eqi cn29))
  have F_LWIN18_1 := Fld.start ((fld_at ev_LWIN18).symm.trans (own_eqi cn31))
  have F_LWIN18_2 := Fld.start ((fld_at ev_LWIN18).symm.trans (own_eqi cn33))
  obtain ⟨n, o, h1, h2, h3, _, L, rfl, ⟨rfl, N⟩, hq⟩ := rm0 l s _ hw tables_1 i0 a_LWIN7 a_LWIN11 a_LWIN16 a_LWIN18 s.heap s.heap.size (Nat.le_refl _) S_LWIN7 E_LWIN7 F_LWIN7_0 F_LWIN7_1 F_LWIN7_2 S_LWIN11 E_LWIN11 F_LWIN11_0 F_LWIN11_1 F_LWIN11_2 S_LWIN16 E_LWIN16 F_LWIN16_0 F_LWIN16_1 F_LWIN16_2 S_LWIN18 E_LWIN18 F_LWIN18_0 F_LWIN18_1 F_LWIN18_2 p e ha hc hk s m _ below hf ((Spec.applies_iff_loose hf).mp happ).1 ⟨rfl, State.Warmed39.refl s, rfl⟩ trivial
  refine ⟨n, _, h1, h2, h3, hpost _ _ _ _ _ _ ⟨Cond.after_iff.mpr rfl, Cond.after_iff.mpr (eq_i res_at (Term.int_eval (1)) rfl), trivial⟩ ⟨hq.1, hq.2.1, (hq.2.2.sift fun y hy => Or.inr (N y hy)).mono (by decide) (by decide)⟩⟩
theorem main_1_1 : Claimed_1_1 := comes_1 fun _ _ _ _ _ _ h hF => ⟨h.1, hF⟩
theorem main_1_2 : Claimed_1_2 := comes_1 fun _ _ _ _ _ _ h hF => ⟨h.2.1, hF⟩
end Jvm.Pilot.@@N@@
namespace Jvm.Pilot.@@N@@
open Jvm Jvm.ClassFile Sem Op Lib Jvm.Free Jvm.Stand Jvm.Pilot.@@N@@.Jvm.D
/-! MADE BY PROGRAM (witnessworld.py) out of the Statement's table words and the real class files: 12 classes; the members and pool entries that the words name. The judged class is class 1, her method 1. -/
namespace start1
open Jvm.ClassFile
def u (s : String) : CpInfo := .utf8 (stringToUtf16 s)
/-- a pool by its gaps: so many unusable entries, then the entry; so many at the end -/
def gap : Nat → List CpInfo → List CpInfo
  | 0, r => r
  | n + 1, r => .unusable :: gap n r
def poolList (es : List (Nat × CpInfo)) (last : Nat) : List CpInfo := es.foldr (fun e r => gap e.1 (e.2 :: r)) (gap last [])
def pool (es : List (Nat × CpInfo)) (last : Nat) : Array CpInfo := ⟨poolList es last⟩
def fileOf (pool : Array CpInfo) (this : Nat) (attrs : Array Attribute := #[]) (ms : Array MethodInfo := #[]) (fl : Nat := 33) (sup : Nat := 0) (ifs : Array Nat := #[]) (fds : Array FieldInfo := #[]) : ClassFile where
  minorVersion := 0
  majorVersion := 65
  constantPool := pool
  accessFlags := fl
  thisClass := this
  superClass := sup
  interfaces := ifs
  fields := fds
  methods := ms
  attributes := attrs
def plain (name : String) (sup : Option ClassId) : Class where
  name := name
  kind := .ordinary
  loader := none
  accessFlags := 33
  super := sup
  interfaces := #[]
  cf := none
  fields := #[]
  methods := #[]
  instanceTypes := #[]
  staticTypes := #[]
  resolved := #[]
  callSites := []
  init := .initialized
  statics := none
  mirror := none

def pool0 : Array CpInfo := pool [(5, u "<init>"), (0, u "()V"), (1, .class_ 10), (1, u "java/lang/Object")] 113

def k0m0 : Method := { name := "<init>", desc := "()V", sig := { parameters := [], returnType := none }, accessFlags := 1, code := none }
/-- java/lang/Object -/
def k0 : Class := { plain "java/lang/Object" none with
  accessFlags := 33
  interfaces := #[]
  cf := some (fileOf pool0 8 #[] #[{ accessFlags := 1, nameIndex := 5, descriptorIndex := 6, attributes := #[] }] 33 0 #[] #[])
  fields := #[]
  methods := #[k0m0]
  instanceTypes := #[]
  staticTypes := #[]
  resolved := Array.replicate 124 none
  statics := none }

def pool1 : Array CpInfo := pool [(2, .class_ 4), (1, u "java/lang/Object"), (0, u "<init>"), (0, u "()V"), (0, .fieldref 8 9), (0, .class_ 10), (0, .nameAndType 11 12), (0, u "com/example/hermitage/hermitage/winecode/WineCode$Form"), (0, u "LWIN7"), (0, u "Lcom/example/hermitage/hermitage/winecode/WineCode$Form;"), (0, .fieldref 8 14), (0, .nameAndType 15 12), (0, u "LWIN11"), (0, .fieldref 8 17), (0, .nameAndType 18 12), (0, u "LWIN16"), (0, .fieldref 8 20), (0, .nameAndType 21 12), (0, u "LWIN18"), (0, .methodref 8 23), (0, .nameAndType 24 25), (0, u "length"), (0, u "()I"), (0, .class_ 27), (0, u "com/example/hermitage/hermitage/winecode/FormLengthPinLaw"), (2, u "law"), (0, u "(I)Z")] 7

def k1m0 : Method := { name := "<init>", desc := "()V", sig := { parameters := [], returnType := none }, accessFlags := 1, code := none }
def k1c1 : Code := { maxStack := 2, maxLocals := 4, code := code, exceptionTable := #[], attributes := #[] }
def k1m1 : Method := { name := "law", desc := "(I)Z", sig := { parameters := [.int], returnType := some .boolean }, accessFlags := 9, code := some k1c1 }
/-- com/example/hermitage/hermitage/winecode/FormLengthPinLaw -/
def k1 : Class := { plain "com/example/hermitage/hermitage/winecode/FormLengthPinLaw" (some 0) with
  accessFlags := 49
  interfaces := #[]
  cf := some (fileOf pool1 26 #[] #[{ accessFlags := 1, nameIndex := 5, descriptorIndex := 6, attributes := #[] }, { accessFlags := 9, nameIndex := 30, descriptorIndex := 31, attributes := #[] }] 49 2 #[] #[])
  fields := #[]
  methods := #[k1m0, k1m1]
  instanceTypes := #[]
  staticTypes := #[]
  resolved := Array.replicate 39 none
  statics := none }

def pool2 : Array CpInfo := pool [(1, .class_ 2), (0, u "java/lang/constant/Constable"), (0, .class_ 4), (0, u "java/lang/Object")] 6

/-- java/lang/constant/Constable -/
def k2 : Class := { plain "java/lang/constant/Constable" (some 0) with
  accessFlags := 1537
  interfaces := #[]
  cf := some (fileOf pool2 1 #[] #[] 1537 3 #[] #[])
  fields := #[]
  methods := #[]
  instanceTypes := #[]
  staticTypes := #[]
  resolved := Array.replicate 11 none
  statics := none }

def pool3 : Array CpInfo := pool [(1, .class_ 2), (0, u "java/lang/Comparable"), (0, .class_ 4), (0, u "java/lang/Object")] 7

/-- java/lang/Comparable -/
def k3 : Class := { plain "java/lang/Comparable" (some 0) with
  accessFlags := 1537
  interfaces := #[]
  cf := some (fileOf pool3 1 #[] #[] 1537 3 #[] #[])
  fields := #[]
  methods := #[]
  instanceTypes := #[]
  staticTypes := #[]
  resolved := Array.replicate 12 none
  statics := none }

def pool4 : Array CpInfo := pool [(1, .class_ 2), (0, u "java/io/Serializable"), (0, .class_ 4), (0, u "java/lang/Object")] 2

/-- java/io/Serializable -/
def k4 : Class := { plain "java/io/Serializable" (some 0) with
  accessFlags := 1537
  interfaces := #[]
  cf := some (fileOf pool4 1 #[] #[] 1537 3 #[] #[])
  fields := #[]
  methods := #[]
  instanceTypes := #[]
  staticTypes := #[]
  resolved := Array.replicate 7 none
  statics := none }

def pool5 : Array CpInfo := pool [(2, .class_ 4), (1, u "java/lang/Enum"), (0, u "name"), (0, u "Ljava/lang/String;"), (2, u "ordinal"), (0, u "I"), (1, .class_ 14), (1, u "java/lang/Object"), (4, u "hash"), (86, .class_ 108), (1, u "java/lang/Enum$EnumDesc"), (2, .class_ 112), (0, u "java/lang/constant/Constable"), (0, .class_ 114), (0, u "java/lang/Comparable"), (0, .class_ 116), (0, u "java/io/Serializable")] 87

/-- java/lang/Enum -/
def k5 : Class := { plain "java/lang/Enum" (some 0) with
  accessFlags := 1057
  interfaces := #[2, 3, 4]
  cf := some (fileOf pool5 2 #[.nestMembers #[106]] #[] 1057 12 #[111, 113, 115] #[{ accessFlags := 18, nameIndex := 5, descriptorIndex := 6, attributes := #[] }, { accessFlags := 18, nameIndex := 9, descriptorIndex := 10, attributes := #[] }, { accessFlags := 2, nameIndex := 19, descriptorIndex := 10, attributes := #[] }])
  fields := #[{ name := "name", type := (.object "java/lang/String"), accessFlags := 18, slot := 0, constantValue := 0 }, { name := "ordinal", type := .int, accessFlags := 18, slot := 1, constantValue := 0 }, { name := "hash", type := .int, accessFlags := 2, slot := 2, constantValue := 0 }]
  methods := #[]
  instanceTypes := #[(.object "java/lang/String"), .int, .int]
  staticTypes := #[]
  resolved := Array.replicate 204 none
  statics := none }

def pool6 : Array CpInfo := pool [(1, .class_ 2), (0, u "com/example/hermitage/hermitage/winecode/WineCode"), (0, .class_ 4), (0, u "com/example/hermitage/hermitage/winecode/WineCode$Form"), (2, u "LWIN7"), (0, u "Lcom/example/hermitage/hermitage/winecode/WineCode$Form;"), (2, u "LWIN11"), (2, u "LWIN16"), (2, u "LWIN18"), (2, u "$VALUES"), (0, u "[Lcom/example/hermitage/hermitage/winecode/WineCode$Form;"), (6, .class_ 30), (1, u "java/lang/Enum"), (6, .fieldref 3 38), (0, .nameAndType 39 40), (0, u "vintageDigits"), (0, u "I"), (0, .fieldref 3 42), (0, .nameAndType 43 40), (0, u "packDigits"), (0, .fieldref 3 45), (0, .nameAndType 46 40), (0, u "bottleDigits"), (2, u "FORMS"), (2, u "length"), (0, u "()I")] 31

def k6c0 : Code := { maxStack := 2, maxLocals := 1, code := prog_18_method_4_code, exceptionTable := #[], attributes := #[] }
def k6m0 : Method := { name := "length", desc := "()I", sig := { parameters := [], returnType := some .int }, accessFlags := 1, code := some k6c0 }
/-- com/example/hermitage/hermitage/winecode/WineCode$Form -/
def k6 : Class := { plain "com/example/hermitage/hermitage/winecode/WineCode$Form" (some 5) with
  accessFlags := 16433
  interfaces := #[]
  cf := some (fileOf pool6 3 #[.nestHost 1] #[{ accessFlags := 1, nameIndex := 52, descriptorIndex := 53, attributes := #[] }] 16433 28 #[] #[{ accessFlags := 16409, nameIndex := 7, descriptorIndex := 8, attributes := #[] }, { accessFlags := 16409, nameIndex := 11, descriptorIndex := 8, attributes := #[] }, { accessFlags := 16409, nameIndex := 14, descriptorIndex := 8, attributes := #[] }, { accessFlags := 16409, nameIndex := 17, descriptorIndex := 8, attributes := #[] }, { accessFlags := 26, nameIndex := 49, descriptorIndex := 21, attributes := #[] }, { accessFlags := 18, nameIndex := 39, descriptorIndex := 40, attributes := #[] }, { accessFlags := 18, nameIndex := 43, descriptorIndex := 40, attributes := #[] }, { accessFlags := 18, nameIndex := 46, descriptorIndex := 40, attributes := #[] }, { accessFlags := 4122, nameIndex := 20, descriptorIndex := 21, attributes := #[] }])
  fields := #[{ name := "LWIN7", type := (.object "com/example/hermitage/hermitage/winecode/WineCode$Form"), accessFlags := 16409, slot := 0, constantValue := 0 }, { name := "LWIN11", type := (.object "com/example/hermitage/hermitage/winecode/WineCode$Form"), accessFlags := 16409, slot := 1, constantValue := 0 }, { name := "LWIN16", type := (.object "com/example/hermitage/hermitage/winecode/WineCode$Form"), accessFlags := 16409, slot := 2, constantValue := 0 }, { name := "LWIN18", type := (.object "com/example/hermitage/hermitage/winecode/WineCode$Form"), accessFlags := 16409, slot := 3, constantValue := 0 }, { name := "FORMS", type := (.array (.object "com/example/hermitage/hermitage/winecode/WineCode$Form")), accessFlags := 26, slot := 4, constantValue := 0 }, { name := "vintageDigits", type := .int, accessFlags := 18, slot := 3, constantValue := 0 }, { name := "packDigits", type := .int, accessFlags := 18, slot := 4, constantValue := 0 }, { name := "bottleDigits", type := .int, accessFlags := 18, slot := 5, constantValue := 0 }, { name := "$VALUES", type := (.array (.object "com/example/hermitage/hermitage/winecode/WineCode$Form")), accessFlags := 4122, slot := 5, constantValue := 0 }]
  methods := #[k6m0]
  instanceTypes := #[(.object "java/lang/String"), .int, .int, .int, .int, .int]
  staticTypes := #[(.object "com/example/hermitage/hermitage/winecode/WineCode$Form"), (.object "com/example/hermitage/hermitage/winecode/WineCode$Form"), (.object "com/example/hermitage/hermitage/winecode/WineCode$Form"), (.object "com/example/hermitage/hermitage/winecode/WineCode$Form"), (.array (.object "com/example/hermitage/hermitage/winecode/WineCode$Form")), (.array (.object "com/example/hermitage/hermitage/winecode/WineCode$Form"))]
  resolved := Array.replicate 85 none
  statics := some 0 }

def pool7 : Array CpInfo := pool [(1, u "java/lang/Cloneable"), (0, .class_ 1), (0, u "java/lang/Object"), (0, .class_ 3)] 3

/-- java/lang/Cloneable -/
def k7 : Class := { plain "java/lang/Cloneable" (some 0) with
  accessFlags := 1537
  interfaces := #[]
  cf := some (fileOf pool7 2 #[] #[] 1537 4 #[] #[])
  fields := #[]
  methods := #[]
  instanceTypes := #[]
  staticTypes := #[]
  resolved := Array.replicate 8 none
  statics := none }

/-- the primitive byte -/
def k8 : Class := { plain "byte" none with kind := .primitive 'B', accessFlags := 0x411 }
/-- [B -/
def k9 : Class := { plain "[B" (some 0) with kind := .array 8 .byte, interfaces := #[7, 4], accessFlags := 1041 }

/-- the primitive int -/
def k10 : Class := { plain "int" none with kind := .primitive 'I', accessFlags := 0x411 }
/-- [I -/
def k11 : Class := { plain "[I" (some 0) with kind := .array 10 .int, interfaces := #[7, 4], accessFlags := 1041 }

def heap : Heap := #[{ cls := 6, slots := #[.ref 1, .ref 2, .ref 3, .ref 4, .null, .null], vm := .statics 6 },
  { cls := 6, slots := #[.null, .int 0, .int 0, .int 0, .int 0, .int 0], vm := .none },
  { cls := 6, slots := #[.null, .int 1, .int 0, .int 4, .int 0, .int 0], vm := .none },
  { cls := 6, slots := #[.null, .int 2, .int 0, .int 4, .int 0, .int 5], vm := .none },
  { cls := 6, slots := #[.null, .int 3, .int 0, .int 4, .int 2, .int 5], vm := .none }]
def classes : Array Class := #[k0, k1, k2, k3, k4, k5, k6, k7, k8, k9, k10, k11]
def interned : List (Array UInt16 × Addr) := []
def slotsUsed : Nat := 30
def theMethod : MethodId := ⟨1, 1⟩
def args0 : Array Value := #[.int 5]
def aboutOver (below : List Frame) : State where
  vm := { classes := classes, interned := interned.toArray }
  heap := heap
  slotsUsed := slotsUsed
  threads := #[{ frames := .invoking theMethod args0 :: below }]
def below0 : List Frame := [.native { method := ⟨0, 0⟩, args := #[] }]
def about1 : State := aboutOver below0
def p0 : Program := .bare "" "" ""
def e0 : Env := launch0.env 0 0 0
theorem w_frames : about1.frames = Frame.invoking theMethod args0 :: below0 := rfl
set_option maxRecDepth 65536 in
theorem w_args : argsFit about1.vm theMethod args0 = true := by decide +kernel
set_option maxRecDepth 65536 in
theorem w_heap : heapFits about1 = true := by decide +kernel
set_option maxRecDepth 65536 in
theorem w_runnable : about1.curStatus? = some .runnable := by decide +kernel
set_option maxRecDepth 65536 in
theorem w_alone : about1.alone = true := by decide +kernel
set_option maxRecDepth 65536 in
theorem w_named : about1.methodNamed? x = some theMethod := by decide +kernel
set_option maxRecDepth 65536 in
theorem w_hears : about1.hears theMethod below0 = true := by decide +kernel
set_option maxRecDepth 65536 in
theorem w_ripe : about1.ripe theMethod args0 below0 = true := by decide +kernel
theorem w_running : about1.status = .running := rfl
set_option maxRecDepth 65536 in
theorem w_room : about1.hasRoom e0.platform room_1 = true :=
  launch0.hasRoom_least _ room_1 (by decide +kernel) (by decide +kernel) (by decide +kernel) (by decide +kernel) (by decide +kernel) (by decide +kernel)
theorem allAtoms_all (ts : List Jvm.Cond) (a : Array Jvm.Value) (st : Jvm.State) : (allAtoms ts).before a st = ts.all (fun c => c.before a st) := by
  induction ts with
  | nil => rfl
  | cons c t ih =>
    show (Jvm.Cond.and c (allAtoms t)).before a st = _
    rw [Jvm.Cond.before_and, ih, List.all_cons]
def words1 : List Jvm.Cond := Jvm.Cond.code x code maxLocals ret :: tables_1
/-- a 'code' word, met by the world's own term for the bytes: nothing is compared byte by byte -/
theorem code_word {y : MethodName} {bytes : ByteArray} {mx : Nat} {rt : Option FieldType} {a : Array Value} {s : State} {m : MethodId} {meth : Method} {c : Code} (h1 : s.methodNamed? y = some m) (h2 : s.vm.method? m = some meth) (h3 : meth.code = some c) (h4 : c.code = bytes)
    (h5 : (c.maxLocals == mx && c.exceptionTable.isEmpty && decide (c.maxStack ≤ mostOperands) && decide (meth.sig.returnType = rt) && !meth.locks && decide (parseMethodDescriptor y.desc = some meth.sig)) = true) : (Jvm.Cond.code y bytes mx rt).before a s = true := by
  simp only [Bool.and_eq_true, beq_iff_eq, Bool.not_eq_true', decide_eq_true_eq] at h5
  obtain ⟨⟨⟨⟨⟨g1, g2⟩, g3⟩, g4⟩, g5⟩, g6⟩ := h5
  simp [Cond.before, Cond.holds, Cond.value, h1, h2, h3, h4, g1, g2, g3, g4, g5, g6]
def isCode : Jvm.Cond → Bool
  | .code _ _ _ _ => true
  | _ => false
theorem all_split {L : List Jvm.Cond} {P : Jvm.Cond → Bool} (h1 : L.all (fun c => isCode c || P c) = true) (h2 : ∀ c ∈ L.filter isCode, P c = true) : L.all P = true := by
  refine List.all_eq_true.mpr fun c hc => ?_
  have h := List.all_eq_true.mp h1 c hc
  rcases Bool.eq_false_or_eq_true (isCode c) with hi | hi
  · exact h2 c (List.mem_filter.mpr ⟨hc, hi⟩)
  · simpa [hi] using h
set_option maxRecDepth 65536 in
theorem w_c0 : (Jvm.Cond.code x code maxLocals ret).before args0 about1 = true := code_word (m := ⟨1, 1⟩) (meth := k1m1) (c := k1c1) (by decide +kernel) rfl rfl rfl (by decide +kernel)
set_option maxRecDepth 65536 in
theorem w_c1 : (Jvm.Cond.code ({ cls := "com/example/hermitage/hermitage/winecode/WineCode$Form", name := "length", desc := "()I" } : Jvm.MethodName) prog_18_method_4_code (1 : Nat) (Option.some Jvm.ClassFile.FieldType.int)).before args0 about1 = true := code_word (m := ⟨6, 0⟩) (meth := k6m0) (c := k6c0) (by decide +kernel) rfl rfl rfl (by decide +kernel)
def codes1 : List Jvm.Cond := [Jvm.Cond.code x code maxLocals ret, Jvm.Cond.code ({ cls := "com/example/hermitage/hermitage/winecode/WineCode$Form", name := "length", desc := "()I" } : Jvm.MethodName) prog_18_method_4_code (1 : Nat) (Option.some Jvm.ClassFile.FieldType.int)]
set_option maxRecDepth 65536 in
theorem codes_eq : words1.filter isCode = codes1 := rfl
theorem w_codes : ∀ c ∈ words1.filter isCode, c.before args0 about1 = true := by
  rw [codes_eq]
  intro c hc
  simp only [codes1, List.mem_cons, List.not_mem_nil, or_false] at hc
  rcases hc with rfl | rfl
  · exact w_c0
  · exact w_c1
set_option maxRecDepth 65536 in
theorem w_t1 : words1.all (fun c => isCode c || c.before args0 about1) = true := by decide +kernel
theorem w_tables : (allAtoms (Jvm.Cond.code x code maxLocals ret :: tables_1)).before args0 about1 = true := by
  rw [allAtoms_all]
  show words1.all (fun c => c.before args0 about1) = true
  refine all_split ?_ w_codes
  rw [w_t1]
set_option maxRecDepth 65536 in
theorem w_case : (Jvm.Cond.and given_1 narrow_1).before args0 about1 = true := by decide +kernel
theorem w_applies : (headSpec (Jvm.Cond.code x code maxLocals ret :: tables_1) room_1).applies x e0.platform about1 = true :=
  (Spec.applies_iff w_frames).mpr ⟨w_running, w_runnable, w_alone, w_named, w_hears, w_ripe, w_room, w_tables⟩
theorem atStart : AtStart classFile x code maxLocals ret World_1 tables_1 room_1 Calls_1 rest_1 Pre_1 launch0 p0 e0 about1 theMethod args0 below0 :=
  ⟨lists_1, trivial, launch0.admits_env _ _ _, launch0.least_env, fairChoices_fair.cas, fairChoices_fair.clock, w_frames, w_args, w_heap, w_applies, trivial, trivial, w_case⟩
end start1
theorem witness_1 : WitnessClaimed_1 := ⟨start1.p0, start1.e0, start1.about1, start1.theMethod, start1.args0, start1.below0, start1.atStart⟩
end Jvm.Pilot.@@N@@
