import JvmDerived
import JvmDerived.Pilot.@@N@@Statement
import JvmDerived.Pilot.@@N@@Code
set_option linter.unusedVariables false
set_option linter.unusedSimpArgs false

namespace Jvm.RoadKit
open Sem ClassFile Op Lib Jvm.Stand Jvm.Free Jvm.LawKit
section New
variable {p : Program} {l : Launch} {e : Env} {R : Room} {s : State} {m : MethodId} {args : Array Value} {below : List Frame} {meth : Method} {c : Code} {T : State} {locs : List Loc} {cells slots : Nat}
theorem retI (X : Stand p l e R s m args below meth c T locs cells slots) (hx : p.tables.exec = Jvm.exec) {pc : Nat} {Ls : Array Slot} {z : Int32} {rest : List Value} (hret : meth.sig.returnType = some .int) (hd : decode c.code pc = .ok (.ireturn, 1)) {fs : List Frame}
    (hl : ∀ (f : JFrame) (acts : List Action), f.method = m → f.locked = none → f.entered = [] → (doReturn e (T.setTop f) acts (some (.int z))).1 = T.setFrames fs) : Steps p.tables e below (T.setTop (mkF m pc Ls (.int z :: rest))) (T.setFrames fs) := by
  have hm' : T.vm.method? m = some meth := X.method'
  have hn : narrow .int (.int z) = .int z := rfl
  show Steps p.tables e below (T.setTop { method := m, pc := pc, locals := Ls, stack := _ :: rest, locked := none }) _
  jvm_step X.here [X.here.top, hx, hd, hm', hret, hn]
  first | (intro acts; rw [hl _ acts rfl rfl rfl]) | rw [hl _ _ rfl rfl rfl]
  exact Steps.refl _
/-- the walk's goal, at any point of it -/
def Gl (p : Program) (e : Env) (below : List Frame) (s : State) (Q : Option Value → Heap → List Loc → Prop) (C N : Nat) (T : State) (g : JFrame) : Prop :=
  ∃ s₂ o, Steps p.tables e below (T.setTop g) s₂ ∧ s₂.status = .running ∧ Ended s₂ below o ∧ ∃ v L, o = .returned v ∧ Q v s₂.heap L ∧ FrameEnd s o s₂ L C N
variable {Q : Option Value → Heap → List Loc → Prop} {C N : Nat} {T' : State} {g g' : JFrame} {h : Heap}
theorem Gl.st (f : ∀ t, Steps p.tables e below (T'.setTop g') t → Steps p.tables e below (T.setTop g) t) (k : Gl p e below s Q C N T' g') : Gl p e below s Q C N T g := by
  obtain ⟨s₂, o, h1, r⟩ := k
  exact ⟨s₂, o, f _ h1, r⟩
theorem Gl.ret (X : Stand p l e R s m args below meth c T locs cells slots) (hlk : meth.locks = false) {v : Option Value} (hv : meth.sig.returnType = none → v = none) (eT : T.heap = h)
    (f : ∀ fs, (∀ (f : JFrame) (acts : List Action), f.method = m → f.locked = none → f.entered = [] → (doReturn e (T.setTop f) acts v).1 = T.setFrames fs) → Steps p.tables e below (T.setTop g) (T.setFrames fs)) (hc : cells ≤ C) (hn : slots ≤ N) (hQ : Q v h locs) : Gl p e below s Q C N T g := by
  obtain ⟨fs, hr, hrun, hended, hW, hsame⟩ := X.leave (v := v) hv hlk
  exact ⟨_, _, f fs hr, hrun, hended, _, _, rfl, by show Q v T.heap _; rw [eT]; exact hQ, ⟨_, rfl⟩, hW, hsame.mono hc hn⟩
theorem Arv.cellX {Z : State} {h : Heap} {a : Addr} {k : ClassId} {ty : FieldType} {z : Int32} {vs : List Value} {dv : Value} (F : Arv Z h a k ty z vs dv) : ∃ c : Cell, h[a]? = some c ∧ ∀ q, c.vm ≠ .statics q := by
  obtain ⟨c, A, -⟩ := F; exact ⟨c, A.1, A.2.1.1⟩
theorem selPrivate {s : State} {args : Array Value} {y z : MethodName} (hzy : z.cls = y.cls) (hsel : (Cond.selects z.cls z z).before args s = true) (hpriv : s.PrivateAt y) (hinst : (Cond.instanceMethod y).before args s = true) (hy : y.cls ≠ "java/lang/invoke/MethodHandle" ∧ y.cls ≠ "java/lang/invoke/VarHandle") : (Cond.selects y.cls y y).before args s = true := by
  obtain ⟨c2, r2, m2, -, -, q3, -, kP, hkP, hkPi⟩ := Cond.selects_spec hsel
  exact selects_self_of_private (by rw [← hzy]; exact findClass_of_methodNamed q3) hkP hkPi hpriv hinst hy
theorem Sta.keepX {Z : State} {h h' : Heap} {C n d : String} {v : Value} {ws : List Addr} (F : Sta Z h C n d v) (K : Keep h h' ws) (q : ∀ x ∈ ws, ∃ c : Cell, h[x]? = some c ∧ ∀ q, c.vm ≠ .statics q) : Sta Z h' C n d v := by
  obtain ⟨cf, i, k, f, st, cell, h1, h2, h3, h4, h5, h6, h7⟩ := F
  refine ⟨cf, i, k, f, st, cell, h1, h2, h3, h4, K.2.1 st cell h5 fun z => ?_, h6, h7⟩
  obtain ⟨c, e1, e2⟩ := q st z
  cases h5.symm.trans e1
  cases hv : cell.vm <;> simp [hv, VmData.isStatics] at h6
  exact e2 _ hv
end New
end Jvm.RoadKit
namespace Jvm.Pilot.@@N@@
open Jvm Jvm.ClassFile Sem Op Lib Jvm.Free Jvm.Stand Jvm.LawKit Jvm.RoadKit Bundle Jvm.Pilot.@@N@@.Jvm.D

theorem own_nn (r : Int64) : 0 ≤ (r &&& (9223372036854775807 : Int64)).toInt := by
  have h := c_maskL r 9223372036854775807 63 (by decide) (by decide)
  rw [h]; omega
theorem own_odd {q : Int64} (h0 : 0 ≤ q.toInt) (h : ¬ (q &&& (1 : Int64)) = (0 : Int64)) : (q - (q / (2 : Int64)) * (2 : Int64)) = (1 : Int64) := by
  have m := c_maskL q 1 1 (by decide) (by decide)
  have r := (c_lrem q 2 2 rfl).1 h0
  rw [← Int64.toInt_inj] at h ⊢
  simp only [show (0 : Int64).toInt = 0 from rfl, show (1 : Int64).toInt = 1 from rfl] at *
  omega
theorem own_even {q : Int64} (h0 : 0 ≤ q.toInt) (h : (q &&& (1 : Int64)) = (0 : Int64)) : ¬ (q - (q / (2 : Int64)) * (2 : Int64)) = (1 : Int64) := by
  have m := c_maskL q 1 1 (by decide) (by decide)
  have r := (c_lrem q 2 2 rfl).1 h0
  rw [← Int64.toInt_inj] at h ⊢
  simp only [show (0 : Int64).toInt = 0 from rfl, show (1 : Int64).toInt = 1 from rfl] at *
  omega
def own_max (a b : Int32) : Int32 := if a < b then b else a
theorem d2_0 : decode jdk_29_method_65_code 0 = .ok (.iload_n 0, 1) := by decide +kernel
theorem d2_1 : decode jdk_29_method_65_code 1 = .ok (.iload_n 1, 1) := by decide +kernel
theorem d2_2 : decode jdk_29_method_65_code 2 = .ok (.if_icmp .lt 7, 3) := by decide +kernel
theorem d2_9 : decode jdk_29_method_65_code 9 = .ok (.iload_n 1, 1) := by decide +kernel
theorem d2_10 : decode jdk_29_method_65_code 10 = .ok (.ireturn, 1) := by decide +kernel
theorem d2_5 : decode jdk_29_method_65_code 5 = .ok (.iload_n 0, 1) := by decide +kernel
theorem d2_6 : decode jdk_29_method_65_code 6 = .ok (.goto 4, 3) := by decide +kernel
theorem ef_rm2 (m : MethodId) (pa : Int32) (qa : Int32) : entryFrame m #[(.int pa), (.int qa)] 2 = mkF m 0 #[.val (.int pa), .val (.int qa)] [] := by first | (simp [entryFrame, mkF, argsToLocals, Value.category]; done) | rfl
def Q_rm2 (Z : State) (pa : Int32) (qa : Int32)  (h0 : Heap) (n0 : Nat) (v : Option Value) (h : Heap) (L : List Loc) : Prop := v = some (.int (own_max pa qa)) ∧ Fr n0 L ∧ h = h0
set_option maxRecDepth 65536 in
set_option maxHeartbeats 40000000 in
theorem rm2 (l : Launch) (Z : State) (a0 : Array Value) (hw : ∀ d ∈ tables_1, d.before a0 Z = true) (ws : List Jvm.Cond) (pa : Int32) (qa : Int32)  (h0 : Heap) (n0 : Nat) (Z0 : n0 ≤ h0.size)  :
    MetFree l (⟨"java/lang/Math", "max", "(II)I"⟩ : MethodName) (head1 (Jvm.Cond.code (⟨"java/lang/Math", "max", "(II)I"⟩ : MethodName) jdk_29_method_65_code 2 (some .int) :: ws) ({ frames := 0, cells := 0, slots := 0, locals := 0 } : Room)) (fun aα Uα => aα = #[(.int pa), (.int qa)] ∧ Z.Warmed39 Uα.vm ∧ Uα.heap = h0) (fun _ _ _ _ _ => True) (fun _ Uα oα Uβ => ∃ vα Lα, oα = .returned vα ∧ Q_rm2 Z pa qa  h0 n0 vα Uβ.heap Lα ∧ FrameEnd Uα oα Uβ Lα ({ frames := 0, cells := 0, slots := 0, locals := 0 } : Room).cells ({ frames := 0, cells := 0, slots := 0, locals := 0 } : Room).slots) := by
  refine MetFree.of_bodySF (Jvm.Free.JP.mathPlain rfl (by decide +kernel)) hisR ?_
  intro p e s m args below meth c s₁ Bd hml0 hP hKα
  obtain ⟨rfl, hZ, hh⟩ := hP
  have hx := Bd.exec
  have hby := Bd.bytes
  have hml : c.maxLocals = 2 := hml0
  have hown : s.vm.findClass "java/lang/Math" = some m.cls := findClass_of_methodNamed Bd.named
  have hnm := (name_of_methodNamed Bd.named Bd.method).1
  have X0 : Stand p l e ({ frames := 0, cells := 0, slots := 0, locals := 0 } : Room) s m #[(.int pa), (.int qa)] below meth c s₁ [] 0 0 := Stand.of_body Bd
  have e0 : s₁.heap = h0 := by rw [← hh, Bd.state]; rfl
  have N0 := Fr.nil n0
  suffices k0 : Gl p e below s (Q_rm2 Z pa qa  h0 n0) ({ frames := 0, cells := 0, slots := 0, locals := 0 } : Room).cells ({ frames := 0, cells := 0, slots := 0, locals := 0 } : Room).slots s₁ (mkF m 0 #[.val (.int pa), .val (.int qa)] []) from Gl.st (fun τ κ => castTop (ef_rm2 m pa qa) κ) k0
  refine Gl.st (g' := (mkF m 1 #[.val (.int pa), .val (.int qa)] [(.int pa)])) (fun τ κ => XS.iloadN X0.here hx rfl (hb hby d2_0) rfl κ) ?_
  refine Gl.st (g' := (mkF m 2 #[.val (.int pa), .val (.int qa)] [(.int qa), (.int pa)])) (fun τ κ => XS.iloadN X0.here hx rfl (hb hby d2_1) rfl κ) ?_
  by_cases hc1 : pa < qa
  · -- pc 2: pa < qa
    refine Gl.st (g' := (mkF m 9 #[.val (.int pa), .val (.int qa)] [])) (fun τ κ => XS.icmpYes X0.here hx rfl (pc0 := 2) (pc' := 9) rfl (hb hby d2_2) rfl (tlt hc1).1 (by decide) (by decide) κ) ?_
    refine Gl.st (g' := (mkF m 10 #[.val (.int pa), .val (.int qa)] [(.int qa)])) (fun τ κ => XS.iloadN X0.here hx rfl (hb hby d2_9) rfl κ) ?_
    exact Gl.ret (v := some (.int qa)) X0 Bd.notSynchronized (fun h => by rw [Bd.returns] at h; cases h) e0 (fun fs hr => retI X0 hx Bd.returns (hb hby d2_10) hr) (by decide) (by decide) ⟨by simp only [own_max, hc1, if_true, if_false], N0, rfl⟩
  · -- pc 2: not pa < qa
    refine Gl.st (g' := (mkF m 5 #[.val (.int pa), .val (.int qa)] [])) (fun τ κ => XS.icmpNo X0.here hx rfl (hb hby d2_2) rfl (flt hc1).1 κ) ?_
    refine Gl.st (g' := (mkF m 6 #[.val (.int pa), .val (.int qa)] [(.int pa)])) (fun τ κ => XS.iloadN X0.here hx rfl (hb hby d2_5) rfl κ) ?_
    refine Gl.st (g' := (mkF m 10 #[.val (.int pa), .val (.int qa)] [(.int pa)])) (fun τ κ => XS.goto X0.here hx rfl (pc0 := 6) (pc' := 10) rfl (hb hby d2_6) (by decide) (by decide) κ) ?_
    exact Gl.ret (v := some (.int pa)) X0 Bd.notSynchronized (fun h => by rw [Bd.returns] at h; cases h) e0 (fun fs hr => retI X0 hx Bd.returns (hb hby d2_10) hr) (by decide) (by decide) ⟨by simp only [own_max, hc1, if_true, if_false], N0, rfl⟩
theorem d4_0 : decode jdk_30_method_1_code 0 = .ok (.aload_n 0, 1) := by decide +kernel
theorem d4_1 : decode jdk_30_method_1_code 1 = .ok (.invokespecial 1, 3) := by decide +kernel
theorem d4_4 : decode jdk_30_method_1_code 4 = .ok (.return_, 1) := by decide +kernel
theorem pn_java_lang_Record : plainName "java/lang/Record" = true := by first | (simp [plainName, overriddenIn]; done) | decide +kernel
theorem ef_rm4 (m : MethodId) (a : Addr) : entryFrame m #[(.ref a)] 1 = mkF m 0 #[.val (.ref a)] [] := by first | (simp [entryFrame, mkF, argsToLocals, Value.category]; done) | rfl
def Q_rm4 (Z : State) (a : Addr)  (h0 : Heap) (n0 : Nat) (v : Option Value) (h : Heap) (L : List Loc) : Prop := v = none ∧ Fr n0 L ∧ h = h0
set_option maxRecDepth 65536 in
set_option maxHeartbeats 40000000 in
theorem rm4 (l : Launch) (Z : State) (a0 : Array Value) (hw : ∀ d ∈ tables_1, d.before a0 Z = true) (ws : List Jvm.Cond) (a : Addr)  (h0 : Heap) (n0 : Nat) (Z0 : n0 ≤ h0.size)  :
    MetFree l (⟨"java/lang/Record", "<init>", "()V"⟩ : MethodName) (head1 (Jvm.Cond.code (⟨"java/lang/Record", "<init>", "()V"⟩ : MethodName) jdk_30_method_1_code 1 none :: ws) ({ frames := 1, cells := 0, slots := 0, locals := 12 } : Room)) (fun aα Uα => aα = #[(.ref a)] ∧ Z.Warmed39 Uα.vm ∧ Uα.heap = h0) (fun _ _ _ _ _ => True) (fun _ Uα oα Uβ => ∃ vα Lα, oα = .returned vα ∧ Q_rm4 Z a  h0 n0 vα Uβ.heap Lα ∧ FrameEnd Uα oα Uβ Lα ({ frames := 1, cells := 0, slots := 0, locals := 12 } : Room).cells ({ frames := 1, cells := 0, slots := 0, locals := 12 } : Room).slots) := by
  refine MetFree.of_bodySF (plainFor_of_name pn_java_lang_Record) hisR ?_
  intro p e s m args below meth c s₁ Bd hml0 hP hKα
  obtain ⟨rfl, hZ, hh⟩ := hP
  have hx := Bd.exec
  have hby := Bd.bytes
  have hml : c.maxLocals = 1 := hml0
  have hown : s.vm.findClass "java/lang/Record" = some m.cls := findClass_of_methodNamed Bd.named
  have hnm := (name_of_methodNamed Bd.named Bd.method).1
  have X0 : Stand p l e ({ frames := 1, cells := 0, slots := 0, locals := 12 } : Room) s m #[(.ref a)] below meth c s₁ [] 0 0 := Stand.of_body Bd
  have e0 : s₁.heap = h0 := by rw [← hh, Bd.state]; rfl
  have N0 := Fr.nil n0
  suffices k0 : Gl p e below s (Q_rm4 Z a  h0 n0) ({ frames := 1, cells := 0, slots := 0, locals := 12 } : Room).cells ({ frames := 1, cells := 0, slots := 0, locals := 12 } : Room).slots s₁ (mkF m 0 #[.val (.ref a)] []) from Gl.st (fun τ κ => castTop (ef_rm4 m a) κ) k0
  refine Gl.st (g' := (mkF m 1 #[.val (.ref a)] [(.ref a)])) (fun τ κ => XS.aloadN X0.here hx rfl (hb hby d4_0) rfl rfl κ) ?_
  obtain ⟨T2, X2, e2, st2⟩ := initO X0 hx hZ hown (hw _ (List.mem_of_getElem? (i := 26) rfl)) (hw _ (List.mem_of_getElem? (i := 27) rfl)) (hw _ (List.mem_of_getElem? (i := 28) rfl)) e0 (g := (mkF m 1 #[.val (.ref a)] [(.ref a)])) rfl (by rw [hml]; rfl) rfl (hb hby d4_1) (by decide) (W := 0) (by show 2 * 0 + _ ≤ _; exact Nat.le_of_eq rfl) (by decide)
  refine Gl.st (g' := (mkF m 4 #[.val (.ref a)] [])) (fun τ κ => st2 _ κ) ?_
  exact Gl.ret (v := none) X2 Bd.notSynchronized (fun _ => rfl) e2 (fun fs hr => X2.returnOut hx Bd.returns (hb hby d4_4) hr) (by decide) (by decide) ⟨rfl, N0, rfl⟩
theorem d1_0 : decode method_2_code 0 = .ok (.iload_n 0, 1) := by decide +kernel
theorem d1_1 : decode method_2_code 1 = .ok (.ldc 7, 2) := by decide +kernel
theorem d1_3 : decode method_2_code 3 = .ok (.iand, 1) := by decide +kernel
theorem d1_4 : decode method_2_code 4 = .ok (.bipush 6, 2) := by decide +kernel
theorem d1_6 : decode method_2_code 6 = .ok (.irem, 1) := by decide +kernel
theorem d1_7 : decode method_2_code 7 = .ok (.istore_n 1, 1) := by decide +kernel
theorem d1_8 : decode method_2_code 8 = .ok (.iload_n 1, 1) := by decide +kernel
theorem d1_9 : decode method_2_code 9 = .ok (.ifCond .ne 7, 3) := by decide +kernel
theorem d1_12 : decode method_2_code 12 = .ok (.getstatic 8, 3) := by decide +kernel
theorem d1_15 : decode method_2_code 15 = .ok (.areturn, 1) := by decide +kernel
theorem d1_16 : decode method_2_code 16 = .ok (.iload_n 1, 1) := by decide +kernel
theorem d1_17 : decode method_2_code 17 = .ok (.iconst 1, 1) := by decide +kernel
theorem d1_18 : decode method_2_code 18 = .ok (.if_icmp .ne 7, 3) := by decide +kernel
theorem d1_21 : decode method_2_code 21 = .ok (.getstatic 14, 3) := by decide +kernel
theorem d1_24 : decode method_2_code 24 = .ok (.areturn, 1) := by decide +kernel
theorem d1_25 : decode method_2_code 25 = .ok (.iload_n 1, 1) := by decide +kernel
theorem d1_26 : decode method_2_code 26 = .ok (.iconst 2, 1) := by decide +kernel
theorem d1_27 : decode method_2_code 27 = .ok (.if_icmp .ne 7, 3) := by decide +kernel
theorem d1_30 : decode method_2_code 30 = .ok (.getstatic 17, 3) := by decide +kernel
theorem d1_33 : decode method_2_code 33 = .ok (.areturn, 1) := by decide +kernel
theorem d1_34 : decode method_2_code 34 = .ok (.iload_n 1, 1) := by decide +kernel
theorem d1_35 : decode method_2_code 35 = .ok (.iconst 3, 1) := by decide +kernel
theorem d1_36 : decode method_2_code 36 = .ok (.if_icmp .ne 7, 3) := by decide +kernel
theorem d1_39 : decode method_2_code 39 = .ok (.getstatic 20, 3) := by decide +kernel
theorem d1_42 : decode method_2_code 42 = .ok (.areturn, 1) := by decide +kernel
theorem d1_43 : decode method_2_code 43 = .ok (.iload_n 1, 1) := by decide +kernel
theorem d1_44 : decode method_2_code 44 = .ok (.iconst 4, 1) := by decide +kernel
theorem d1_45 : decode method_2_code 45 = .ok (.if_icmp .ne 7, 3) := by decide +kernel
theorem d1_48 : decode method_2_code 48 = .ok (.getstatic 23, 3) := by decide +kernel
theorem d1_51 : decode method_2_code 51 = .ok (.areturn, 1) := by decide +kernel
theorem d1_52 : decode method_2_code 52 = .ok (.getstatic 26, 3) := by decide +kernel
theorem d1_55 : decode method_2_code 55 = .ok (.areturn, 1) := by decide +kernel
theorem pn_org_precedence_cli_SwitchPlanTargetPinLaw : plainName "org/precedence/cli/SwitchPlanTargetPinLaw" = true := by first | (simp [plainName, overriddenIn]; done) | decide +kernel
theorem ef_rm1 (m : MethodId) (pp : Int32) : entryFrame m #[(.int pp)] 2 = mkF m 0 #[.val (.int pp), .unset] [] := by first | (simp [entryFrame, mkF, argsToLocals, Value.category]; done) | rfl
def Q_rm1 (Z : State) (pp : Int32) (a_SEQUENCER a_SEQUENCER_PRIO a_TOKEN_RING a_TOKEN_RING_PRIO a_CAUSAL a_CAUSAL_PRIO : Addr) (h0 : Heap) (n0 : Nat) (v : Option Value) (h : Heap) (L : List Loc) : Prop := ∃ b, v = some (.ref b) ∧ Fr n0 L ∧ h = h0
set_option maxRecDepth 65536 in
set_option maxHeartbeats 40000000 in
theorem rm1 (l : Launch) (Z : State) (a0 : Array Value) (hw : ∀ d ∈ tables_1, d.before a0 Z = true) (ws : List Jvm.Cond) (pp : Int32) (a_SEQUENCER a_SEQUENCER_PRIO a_TOKEN_RING a_TOKEN_RING_PRIO a_CAUSAL a_CAUSAL_PRIO : Addr) (h0 : Heap) (n0 : Nat) (Z0 : n0 ≤ h0.size) (S_SEQUENCER : Sta Z h0 "org/precedence/Protocol" "SEQUENCER" "Lorg/precedence/Protocol;" (.ref a_SEQUENCER)) (S_SEQUENCER_PRIO : Sta Z h0 "org/precedence/Protocol" "SEQUENCER_PRIO" "Lorg/precedence/Protocol;" (.ref a_SEQUENCER_PRIO)) (S_TOKEN_RING : Sta Z h0 "org/precedence/Protocol" "TOKEN_RING" "Lorg/precedence/Protocol;" (.ref a_TOKEN_RING)) (S_TOKEN_RING_PRIO : Sta Z h0 "org/precedence/Protocol" "TOKEN_RING_PRIO" "Lorg/precedence/Protocol;" (.ref a_TOKEN_RING_PRIO)) (S_CAUSAL : Sta Z h0 "org/precedence/Protocol" "CAUSAL" "Lorg/precedence/Protocol;" (.ref a_CAUSAL)) (S_CAUSAL_PRIO : Sta Z h0 "org/precedence/Protocol" "CAUSAL_PRIO" "Lorg/precedence/Protocol;" (.ref a_CAUSAL_PRIO)) :
    MetFree l (⟨"org/precedence/cli/SwitchPlanTargetPinLaw", "pick", "(I)Lorg/precedence/Protocol;"⟩ : MethodName) (head1 (Jvm.Cond.code (⟨"org/precedence/cli/SwitchPlanTargetPinLaw", "pick", "(I)Lorg/precedence/Protocol;"⟩ : MethodName) method_2_code 2 (some (.object "org/precedence/Protocol")) :: ws) ({ frames := 0, cells := 0, slots := 0, locals := 0 } : Room)) (fun aα Uα => aα = #[(.int pp)] ∧ Z.Warmed39 Uα.vm ∧ Uα.heap = h0) (fun _ _ _ _ _ => True) (fun _ Uα oα Uβ => ∃ vα Lα, oα = .returned vα ∧ Q_rm1 Z pp a_SEQUENCER a_SEQUENCER_PRIO a_TOKEN_RING a_TOKEN_RING_PRIO a_CAUSAL a_CAUSAL_PRIO h0 n0 vα Uβ.heap Lα ∧ FrameEnd Uα oα Uβ Lα ({ frames := 0, cells := 0, slots := 0, locals := 0 } : Room).cells ({ frames := 0, cells := 0, slots := 0, locals := 0 } : Room).slots) := by
  refine MetFree.of_bodySF (plainFor_of_name pn_org_precedence_cli_SwitchPlanTargetPinLaw) hisR ?_
  intro p e s m args below meth c s₁ Bd hml0 hP hKα
  obtain ⟨rfl, hZ, hh⟩ := hP
  have hx := Bd.exec
  have hby := Bd.bytes
  have hml : c.maxLocals = 2 := hml0
  have hown : s.vm.findClass "org/precedence/cli/SwitchPlanTargetPinLaw" = some m.cls := findClass_of_methodNamed Bd.named
  have hnm := (name_of_methodNamed Bd.named Bd.method).1
  have X0 : Stand p l e ({ frames := 0, cells := 0, slots := 0, locals := 0 } : Room) s m #[(.int pp)] below meth c s₁ [] 0 0 := Stand.of_body Bd
  have e0 : s₁.heap = h0 := by rw [← hh, Bd.state]; rfl
  have N0 := Fr.nil n0
  suffices k0 : Gl p e below s (Q_rm1 Z pp a_SEQUENCER a_SEQUENCER_PRIO a_TOKEN_RING a_TOKEN_RING_PRIO a_CAUSAL a_CAUSAL_PRIO h0 n0) ({ frames := 0, cells := 0, slots := 0, locals := 0 } : Room).cells ({ frames := 0, cells := 0, slots := 0, locals := 0 } : Room).slots s₁ (mkF m 0 #[.val (.int pp), .unset] []) from Gl.st (fun τ κ => castTop (ef_rm1 m pp) κ) k0
  refine Gl.st (g' := (mkF m 1 #[.val (.int pp), .unset] [(.int pp)])) (fun τ κ => XS.iloadN X0.here hx rfl (hb hby d1_0) rfl κ) ?_
  refine Gl.st (g' := (mkF m 3 #[.val (.int pp), .unset] [(.int (2147483647 : Int32)), (.int pp)])) (fun τ κ => X0.ldcInt hx hown (mvT hZ (hw _ (List.mem_of_getElem? (i := 5) rfl))) (g := (mkF m 1 #[.val (.int pp), .unset] [(.int pp)])) rfl (hb hby d1_1) _ κ) ?_
  refine Gl.st (g' := (mkF m 4 #[.val (.int pp), .unset] [(.int (pp &&& (2147483647 : Int32)))])) (fun τ κ => XS.iand X0.here hx rfl (hb hby d1_3) rfl κ) ?_
  refine Gl.st (g' := (mkF m 6 #[.val (.int pp), .unset] [(.int (6 : Int32)), (.int (pp &&& (2147483647 : Int32)))])) (fun τ κ => XS.bipush X0.here hx rfl (hb hby d1_4) κ) ?_
  refine Gl.st (g' := (mkF m 7 #[.val (.int pp), .unset] [(.int ((pp &&& (2147483647 : Int32)) % (6 : Int32)))])) (fun τ κ => iremM (g := (mkF m 6 #[.val (.int pp), .unset] [(.int (6 : Int32)), (.int (pp &&& (2147483647 : Int32)))])) X0 hx rfl (hb hby d1_6) rfl (by decide) κ) ?_
  refine Gl.st (g' := (mkF m 8 #[.val (.int pp), .val (.int ((pp &&& (2147483647 : Int32)) % (6 : Int32)))] [])) (fun τ κ => XS.istoreN X0.here hx rfl (hb hby d1_7) rfl (l' := #[.val (.int pp), .val (.int ((pp &&& (2147483647 : Int32)) % (6 : Int32)))]) rfl κ) ?_
  refine Gl.st (g' := (mkF m 9 #[.val (.int pp), .val (.int ((pp &&& (2147483647 : Int32)) % (6 : Int32)))] [(.int ((pp &&& (2147483647 : Int32)) % (6 : Int32)))])) (fun τ κ => XS.iloadN X0.here hx rfl (hb hby d1_8) rfl κ) ?_
  by_cases hc3 : ((pp &&& (2147483647 : Int32)) % (6 : Int32)) = (0 : Int32)
  · -- pc 9: ((pp &&& (2147483647 : Int32)) % (6 : Int32)) = (0 : Int32)
    refine Gl.st (g' := (mkF m 12 #[.val (.int pp), .val (.int ((pp &&& (2147483647 : Int32)) % (6 : Int32)))] [])) (fun τ κ => XS.ifNo X0.here hx rfl (hb hby d1_9) rfl ((if0 _ _).trans (teq hc3).2) κ) ?_
    obtain ⟨T4, X4, e4, st4⟩ := getS2 X0 hx hZ hown (host := "") (Or.inl (hw _ (List.mem_of_getElem? (i := 47) rfl))) Via.refl e0 S_SEQUENCER (g := (mkF m 12 #[.val (.int pp), .val (.int ((pp &&& (2147483647 : Int32)) % (6 : Int32)))] [])) rfl (hb hby d1_12)
    refine Gl.st (g' := (mkF m 15 #[.val (.int pp), .val (.int ((pp &&& (2147483647 : Int32)) % (6 : Int32)))] [(.ref a_SEQUENCER)])) (fun τ κ => st4 _ κ) ?_
    exact Gl.ret (v := some (.ref a_SEQUENCER)) X4 Bd.notSynchronized (fun h => by rw [Bd.returns] at h; cases h) e4 (fun fs hr => (by
        jvm_step X4.here [X4.here.top, hx, (hb hby d1_15), X4.method', Bd.returns, Value.isRef, FieldType.isReference]
        first | (intro acts; rw [hr _ acts rfl rfl rfl]) | rw [hr _ _ rfl rfl rfl]
        exact Steps.refl _)) (by decide) (by decide) ⟨_, rfl, N0, rfl⟩
  · -- pc 9: not ((pp &&& (2147483647 : Int32)) % (6 : Int32)) = (0 : Int32)
    refine Gl.st (g' := (mkF m 16 #[.val (.int pp), .val (.int ((pp &&& (2147483647 : Int32)) % (6 : Int32)))] [])) (fun τ κ => XS.ifYes X0.here hx rfl (pc0 := 9) (pc' := 16) rfl (hb hby d1_9) rfl ((if0 _ _).trans (feq hc3).2) (by decide) (by decide) κ) ?_
    refine Gl.st (g' := (mkF m 17 #[.val (.int pp), .val (.int ((pp &&& (2147483647 : Int32)) % (6 : Int32)))] [(.int ((pp &&& (2147483647 : Int32)) % (6 : Int32)))])) (fun τ κ => XS.iloadN X0.here hx rfl (hb hby d1_16) rfl κ) ?_
    refine Gl.st (g' := (mkF m 18 #[.val (.int pp), .val (.int ((pp &&& (2147483647 : Int32)) % (6 : Int32)))] [(.int (1 : Int32)), (.int ((pp &&& (2147483647 : Int32)) % (6 : Int32)))])) (fun τ κ => XS.iconst X0.here hx rfl (hb hby d1_17) κ) ?_
    by_cases hc5 : ((pp &&& (2147483647 : Int32)) % (6 : Int32)) = (1 : Int32)
    · -- pc 18: ((pp &&& (2147483647 : Int32)) % (6 : Int32)) = (1 : Int32)
      refine Gl.st (g' := (mkF m 21 #[.val (.int pp), .val (.int ((pp &&& (2147483647 : Int32)) % (6 : Int32)))] [])) (fun τ κ => XS.icmpNo X0.here hx rfl (hb hby d1_18) rfl (teq hc5).2 κ) ?_
      obtain ⟨T6, X6, e6, st6⟩ := getS2 X0 hx hZ hown (host := "") (Or.inl (hw _ (List.mem_of_getElem? (i := 9) rfl))) Via.refl e0 S_SEQUENCER_PRIO (g := (mkF m 21 #[.val (.int pp), .val (.int ((pp &&& (2147483647 : Int32)) % (6 : Int32)))] [])) rfl (hb hby d1_21)
      refine Gl.st (g' := (mkF m 24 #[.val (.int pp), .val (.int ((pp &&& (2147483647 : Int32)) % (6 : Int32)))] [(.ref a_SEQUENCER_PRIO)])) (fun τ κ => st6 _ κ) ?_
      exact Gl.ret (v := some (.ref a_SEQUENCER_PRIO)) X6 Bd.notSynchronized (fun h => by rw [Bd.returns] at h; cases h) e6 (fun fs hr => (by
          jvm_step X6.here [X6.here.top, hx, (hb hby d1_24), X6.method', Bd.returns, Value.isRef, FieldType.isReference]
          first | (intro acts; rw [hr _ acts rfl rfl rfl]) | rw [hr _ _ rfl rfl rfl]
          exact Steps.refl _)) (by decide) (by decide) ⟨_, rfl, N0, rfl⟩
    · -- pc 18: not ((pp &&& (2147483647 : Int32)) % (6 : Int32)) = (1 : Int32)
      refine Gl.st (g' := (mkF m 25 #[.val (.int pp), .val (.int ((pp &&& (2147483647 : Int32)) % (6 : Int32)))] [])) (fun τ κ => XS.icmpYes X0.here hx rfl (pc0 := 18) (pc' := 25) rfl (hb hby d1_18) rfl (feq hc5).2 (by decide) (by decide) κ) ?_
      refine Gl.st (g' := (mkF m 26 #[.val (.int pp), .val (.int ((pp &&& (2147483647 : Int32)) % (6 : Int32)))] [(.int ((pp &&& (2147483647 : Int32)) % (6 : Int32)))])) (fun τ κ => XS.iloadN X0.here hx rfl (hb hby d1_25) rfl κ) ?_
      refine Gl.st (g' := (mkF m 27 #[.val (.int pp), .val (.int ((pp &&& (2147483647 : Int32)) % (6 : Int32)))] [(.int (2 : Int32)), (.int ((pp &&& (2147483647 : Int32)) % (6 : Int32)))])) (fun τ κ => XS.iconst X0.here hx rfl (hb hby d1_26) κ) ?_
      by_cases hc7 : ((pp &&& (2147483647 : Int32)) % (6 : Int32)) = (2 : Int32)
      · -- pc 27: ((pp &&& (2147483647 : Int32)) % (6 : Int32)) = (2 : Int32)
        refine Gl.st (g' := (mkF m 30 #[.val (.int pp), .val (.int ((pp &&& (2147483647 : Int32)) % (6 : Int32)))] [])) (fun τ κ => XS.icmpNo X0.here hx rfl (hb hby d1_27) rfl (teq hc7).2 κ) ?_
        obtain ⟨T8, X8, e8, st8⟩ := getS2 X0 hx hZ hown (host := "") (Or.inl (hw _ (List.mem_of_getElem? (i := 6) rfl))) Via.refl e0 S_TOKEN_RING (g := (mkF m 30 #[.val (.int pp), .val (.int ((pp &&& (2147483647 : Int32)) % (6 : Int32)))] [])) rfl (hb hby d1_30)
        refine Gl.st (g' := (mkF m 33 #[.val (.int pp), .val (.int ((pp &&& (2147483647 : Int32)) % (6 : Int32)))] [(.ref a_TOKEN_RING)])) (fun τ κ => st8 _ κ) ?_
        exact Gl.ret (v := some (.ref a_TOKEN_RING)) X8 Bd.notSynchronized (fun h => by rw [Bd.returns] at h; cases h) e8 (fun fs hr => (by
            jvm_step X8.here [X8.here.top, hx, (hb hby d1_33), X8.method', Bd.returns, Value.isRef, FieldType.isReference]
            first | (intro acts; rw [hr _ acts rfl rfl rfl]) | rw [hr _ _ rfl rfl rfl]
            exact Steps.refl _)) (by decide) (by decide) ⟨_, rfl, N0, rfl⟩
      · -- pc 27: not ((pp &&& (2147483647 : Int32)) % (6 : Int32)) = (2 : Int32)
        refine Gl.st (g' := (mkF m 34 #[.val (.int pp), .val (.int ((pp &&& (2147483647 : Int32)) % (6 : Int32)))] [])) (fun τ κ => XS.icmpYes X0.here hx rfl (pc0 := 27) (pc' := 34) rfl (hb hby d1_27) rfl (feq hc7).2 (by decide) (by decide) κ) ?_
        refine Gl.st (g' := (mkF m 35 #[.val (.int pp), .val (.int ((pp &&& (2147483647 : Int32)) % (6 : Int32)))] [(.int ((pp &&& (2147483647 : Int32)) % (6 : Int32)))])) (fun τ κ => XS.iloadN X0.here hx rfl (hb hby d1_34) rfl κ) ?_
        refine Gl.st (g' := (mkF m 36 #[.val (.int pp), .val (.int ((pp &&& (2147483647 : Int32)) % (6 : Int32)))] [(.int (3 : Int32)), (.int ((pp &&& (2147483647 : Int32)) % (6 : Int32)))])) (fun τ κ => XS.iconst X0.here hx rfl (hb hby d1_35) κ) ?_
        by_cases hc9 : ((pp &&& (2147483647 : Int32)) % (6 : Int32)) = (3 : Int32)
        · -- pc 36: ((pp &&& (2147483647 : Int32)) % (6 : Int32)) = (3 : Int32)
          refine Gl.st (g' := (mkF m 39 #[.val (.int pp), .val (.int ((pp &&& (2147483647 : Int32)) % (6 : Int32)))] [])) (fun τ κ => XS.icmpNo X0.here hx rfl (hb hby d1_36) rfl (teq hc9).2 κ) ?_
          obtain ⟨T10, X10, e10, st10⟩ := getS2 X0 hx hZ hown (host := "") (Or.inl (hw _ (List.mem_of_getElem? (i := 43) rfl))) Via.refl e0 S_TOKEN_RING_PRIO (g := (mkF m 39 #[.val (.int pp), .val (.int ((pp &&& (2147483647 : Int32)) % (6 : Int32)))] [])) rfl (hb hby d1_39)
          refine Gl.st (g' := (mkF m 42 #[.val (.int pp), .val (.int ((pp &&& (2147483647 : Int32)) % (6 : Int32)))] [(.ref a_TOKEN_RING_PRIO)])) (fun τ κ => st10 _ κ) ?_
          exact Gl.ret (v := some (.ref a_TOKEN_RING_PRIO)) X10 Bd.notSynchronized (fun h => by rw [Bd.returns] at h; cases h) e10 (fun fs hr => (by
              jvm_step X10.here [X10.here.top, hx, (hb hby d1_42), X10.method', Bd.returns, Value.isRef, FieldType.isReference]
              first | (intro acts; rw [hr _ acts rfl rfl rfl]) | rw [hr _ _ rfl rfl rfl]
              exact Steps.refl _)) (by decide) (by decide) ⟨_, rfl, N0, rfl⟩
        · -- pc 36: not ((pp &&& (2147483647 : Int32)) % (6 : Int32)) = (3 : Int32)
          refine Gl.st (g' := (mkF m 43 #[.val (.int pp), .val (.int ((pp &&& (2147483647 : Int32)) % (6 : Int32)))] [])) (fun τ κ => XS.icmpYes X0.here hx rfl (pc0 := 36) (pc' := 43) rfl (hb hby d1_36) rfl (feq hc9).2 (by decide) (by decide) κ) ?_
          refine Gl.st (g' := (mkF m 44 #[.val (.int pp), .val (.int ((pp &&& (2147483647 : Int32)) % (6 : Int32)))] [(.int ((pp &&& (2147483647 : Int32)) % (6 : Int32)))])) (fun τ κ => XS.iloadN X0.here hx rfl (hb hby d1_43) rfl κ) ?_
          refine Gl.st (g' := (mkF m 45 #[.val (.int pp), .val (.int ((pp &&& (2147483647 : Int32)) % (6 : Int32)))] [(.int (4 : Int32)), (.int ((pp &&& (2147483647 : Int32)) % (6 : Int32)))])) (fun τ κ => XS.iconst X0.here hx rfl (hb hby d1_44) κ) ?_
          by_cases hc11 : ((pp &&& (2147483647 : Int32)) % (6 : Int32)) = (4 : Int32)
          · -- pc 45: ((pp &&& (2147483647 : Int32)) % (6 : Int32)) = (4 : Int32)
            refine Gl.st (g' := (mkF m 48 #[.val (.int pp), .val (.int ((pp &&& (2147483647 : Int32)) % (6 : Int32)))] [])) (fun τ κ => XS.icmpNo X0.here hx rfl (hb hby d1_45) rfl (teq hc11).2 κ) ?_
            obtain ⟨T12, X12, e12, st12⟩ := getS2 X0 hx hZ hown (host := "") (Or.inl (hw _ (List.mem_of_getElem? (i := 41) rfl))) Via.refl e0 S_CAUSAL (g := (mkF m 48 #[.val (.int pp), .val (.int ((pp &&& (2147483647 : Int32)) % (6 : Int32)))] [])) rfl (hb hby d1_48)
            refine Gl.st (g' := (mkF m 51 #[.val (.int pp), .val (.int ((pp &&& (2147483647 : Int32)) % (6 : Int32)))] [(.ref a_CAUSAL)])) (fun τ κ => st12 _ κ) ?_
            exact Gl.ret (v := some (.ref a_CAUSAL)) X12 Bd.notSynchronized (fun h => by rw [Bd.returns] at h; cases h) e12 (fun fs hr => (by
                jvm_step X12.here [X12.here.top, hx, (hb hby d1_51), X12.method', Bd.returns, Value.isRef, FieldType.isReference]
                first | (intro acts; rw [hr _ acts rfl rfl rfl]) | rw [hr _ _ rfl rfl rfl]
                exact Steps.refl _)) (by decide) (by decide) ⟨_, rfl, N0, rfl⟩
          · -- pc 45: not ((pp &&& (2147483647 : Int32)) % (6 : Int32)) = (4 : Int32)
            refine Gl.st (g' := (mkF m 52 #[.val (.int pp), .val (.int ((pp &&& (2147483647 : Int32)) % (6 : Int32)))] [])) (fun τ κ => XS.icmpYes X0.here hx rfl (pc0 := 45) (pc' := 52) rfl (hb hby d1_45) rfl (feq hc11).2 (by decide) (by decide) κ) ?_
            obtain ⟨T13, X13, e13, st13⟩ := getS2 X0 hx hZ hown (host := "") (Or.inl (hw _ (List.mem_of_getElem? (i := 45) rfl))) Via.refl e0 S_CAUSAL_PRIO (g := (mkF m 52 #[.val (.int pp), .val (.int ((pp &&& (2147483647 : Int32)) % (6 : Int32)))] [])) rfl (hb hby d1_52)
            refine Gl.st (g' := (mkF m 55 #[.val (.int pp), .val (.int ((pp &&& (2147483647 : Int32)) % (6 : Int32)))] [(.ref a_CAUSAL_PRIO)])) (fun τ κ => st13 _ κ) ?_
            exact Gl.ret (v := some (.ref a_CAUSAL_PRIO)) X13 Bd.notSynchronized (fun h => by rw [Bd.returns] at h; cases h) e13 (fun fs hr => (by
                jvm_step X13.here [X13.here.top, hx, (hb hby d1_55), X13.method', Bd.returns, Value.isRef, FieldType.isReference]
                first | (intro acts; rw [hr _ acts rfl rfl rfl]) | rw [hr _ _ rfl rfl rfl]
                exact Steps.refl _)) (by decide) (by decide) ⟨_, rfl, N0, rfl⟩
theorem d3_0 : decode prog_60_method_1_code 0 = .ok (.aload_n 0, 1) := by decide +kernel
theorem d3_1 : decode prog_60_method_1_code 1 = .ok (.invokespecial 3, 3) := by decide +kernel
theorem pd_0 : parseMethodDescriptor "()V" = some ⟨[], none⟩ := by decide +kernel
theorem d3_4 : decode prog_60_method_1_code 4 = .ok (.aload_n 0, 1) := by decide +kernel
theorem d3_5 : decode prog_60_method_1_code 5 = .ok (.aload_n 1, 1) := by decide +kernel
theorem d3_6 : decode prog_60_method_1_code 6 = .ok (.putfield 9, 3) := by decide +kernel
theorem d3_9 : decode prog_60_method_1_code 9 = .ok (.aload_n 0, 1) := by decide +kernel
theorem d3_10 : decode prog_60_method_1_code 10 = .ok (.aload_n 2, 1) := by decide +kernel
theorem d3_11 : decode prog_60_method_1_code 11 = .ok (.putfield 13, 3) := by decide +kernel
theorem d3_14 : decode prog_60_method_1_code 14 = .ok (.aload_n 0, 1) := by decide +kernel
theorem d3_15 : decode prog_60_method_1_code 15 = .ok (.iload_n 3, 1) := by decide +kernel
theorem d3_16 : decode prog_60_method_1_code 16 = .ok (.putfield 16, 3) := by decide +kernel
theorem d3_19 : decode prog_60_method_1_code 19 = .ok (.return_, 1) := by decide +kernel
theorem pn_org_precedence_cli_SwitchPlan : plainName "org/precedence/cli/SwitchPlan" = true := by first | (simp [plainName, overriddenIn]; done) | decide +kernel
theorem ef_rm3 (m : MethodId) (a : Addr) (r1 : Addr) (r2 : Addr) (p3 : Int32) : entryFrame m #[(.ref a), (.ref r1), (.ref r2), (.int p3)] 4 = mkF m 0 #[.val (.ref a), .val (.ref r1), .val (.ref r2), .val (.int p3)] [] := by first | (simp [entryFrame, mkF, argsToLocals, Value.category]; done) | rfl
def Q_rm3 (Z : State) (a : Addr) (r1 : Addr) (r2 : Addr) (p3 : Int32)  (h0 : Heap) (n0 : Nat) (v : Option Value) (h : Heap) (L : List Loc) : Prop := v = none ∧ Fr n0 L ∧ Keep h0 h [a] ∧ Exa Z h a "org/precedence/cli/SwitchPlan" ∧ Fld Z h a "org/precedence/cli/SwitchPlan" "initial" "Lorg/precedence/Protocol;" (.ref r1) ∧ Fld Z h a "org/precedence/cli/SwitchPlan" "other" "Lorg/precedence/Protocol;" (.ref r2) ∧ Fld Z h a "org/precedence/cli/SwitchPlan" "everyMs" "I" (.int p3)
set_option maxRecDepth 65536 in
set_option maxHeartbeats 40000000 in
theorem rm3 (l : Launch) (Z : State) (a0 : Array Value) (hw : ∀ d ∈ tables_1, d.before a0 Z = true) (ws : List Jvm.Cond) (a : Addr) (r1 : Addr) (r2 : Addr) (p3 : Int32)  (h0 : Heap) (n0 : Nat) (Z0 : n0 ≤ h0.size) (E0 : Exa Z h0 a "org/precedence/cli/SwitchPlan") (g0 : n0 ≤ a) (F0 : Fld Z h0 a "org/precedence/cli/SwitchPlan" "initial" "Lorg/precedence/Protocol;" .null) (F1 : Fld Z h0 a "org/precedence/cli/SwitchPlan" "other" "Lorg/precedence/Protocol;" .null) (F2 : Fld Z h0 a "org/precedence/cli/SwitchPlan" "everyMs" "I" (.int (0 : Int32))) :
    MetFree l (⟨"org/precedence/cli/SwitchPlan", "<init>", "(Lorg/precedence/Protocol;Lorg/precedence/Protocol;I)V"⟩ : MethodName) (head1 (Jvm.Cond.code (⟨"org/precedence/cli/SwitchPlan", "<init>", "(Lorg/precedence/Protocol;Lorg/precedence/Protocol;I)V"⟩ : MethodName) prog_60_method_1_code 4 none :: ws) ({ frames := 2, cells := 0, slots := 0, locals := 24 } : Room)) (fun aα Uα => aα = #[(.ref a), (.ref r1), (.ref r2), (.int p3)] ∧ Z.Warmed39 Uα.vm ∧ Uα.heap = h0) (fun _ _ _ _ _ => True) (fun _ Uα oα Uβ => ∃ vα Lα, oα = .returned vα ∧ Q_rm3 Z a r1 r2 p3  h0 n0 vα Uβ.heap Lα ∧ FrameEnd Uα oα Uβ Lα ({ frames := 2, cells := 0, slots := 0, locals := 24 } : Room).cells ({ frames := 2, cells := 0, slots := 0, locals := 24 } : Room).slots) := by
  refine MetFree.of_bodySF (plainFor_of_name pn_org_precedence_cli_SwitchPlan) hisR ?_
  intro p e s m args below meth c s₁ Bd hml0 hP hKα
  obtain ⟨rfl, hZ, hh⟩ := hP
  have hx := Bd.exec
  have hby := Bd.bytes
  have hml : c.maxLocals = 4 := hml0
  have hown : s.vm.findClass "org/precedence/cli/SwitchPlan" = some m.cls := findClass_of_methodNamed Bd.named
  have hnm := (name_of_methodNamed Bd.named Bd.method).1
  have X0 : Stand p l e ({ frames := 2, cells := 0, slots := 0, locals := 24 } : Room) s m #[(.ref a), (.ref r1), (.ref r2), (.int p3)] below meth c s₁ [] 0 0 := Stand.of_body Bd
  have e0 : s₁.heap = h0 := by rw [← hh, Bd.state]; rfl
  have N0 := Fr.nil n0
  suffices k0 : Gl p e below s (Q_rm3 Z a r1 r2 p3  h0 n0) ({ frames := 2, cells := 0, slots := 0, locals := 24 } : Room).cells ({ frames := 2, cells := 0, slots := 0, locals := 24 } : Room).slots s₁ (mkF m 0 #[.val (.ref a), .val (.ref r1), .val (.ref r2), .val (.int p3)] []) from Gl.st (fun τ κ => castTop (ef_rm3 m a r1 r2 p3) κ) k0
  refine Gl.st (g' := (mkF m 1 #[.val (.ref a), .val (.ref r1), .val (.ref r2), .val (.int p3)] [(.ref a)])) (fun τ κ => XS.aloadN X0.here hx rfl (hb hby d3_0) rfl rfl κ) ?_
  obtain ⟨rv14, _, ⟨T14, L14, k14, n14⟩, -, X14, ⟨Lc14, hQ14, l14, y14, z14⟩, st14⟩ := X0.specialBack hx (y := (⟨"java/lang/Record", "<init>", "()V"⟩ : MethodName)) rfl hown (mvT hZ (hw _ (List.mem_of_getElem? (i := 21) rfl))) (mvT hZ (hw _ (List.mem_of_getElem? (i := 22) rfl))) (mvT hZ (hw _ (List.mem_of_getElem? (i := 25) rfl))) (by decide) (backOf (W := 0) (rm4 l Z a0 hw [] a h0 n0 Z0 ) hZ (hw _ (List.mem_of_getElem? (i := 25) rfl)) (hw _ (List.mem_of_getElem? (i := 24) rfl)) (by decide) (by decide)) (g := (mkF m 1 #[.val (.ref a), .val (.ref r1), .val (.ref r2), .val (.int p3)] [(.ref a)])) rfl (by rw [hml]; rfl) (Steps.refl _) (a := a) (argsL := []) (rest := []) (lenOf pd_0 rfl) rfl (by show 2 * 0 + _ ≤ _; exact Nat.le_of_eq rfl) (hb hby d3_1) (fun _ _ => ⟨rfl, e0, (by decide : 0 + 0 ≤ _), (by decide : 0 + 0 ≤ _)⟩)
  dsimp only [Pt.U, Pt.locs, Pt.cells, Pt.slots] at X14 l14 y14 z14 st14 hQ14
  subst l14 y14 z14
  obtain ⟨rfl, N14q, e14⟩ := hQ14
  have N14 := Fr.app N0 N14q
  refine Gl.st (g' := (mkF m 4 #[.val (.ref a), .val (.ref r1), .val (.ref r2), .val (.int p3)] [])) (fun τ κ => st14.trans κ) ?_
  refine Gl.st (g' := (mkF m 5 #[.val (.ref a), .val (.ref r1), .val (.ref r2), .val (.int p3)] [(.ref a)])) (fun τ κ => XS.aloadN X14.here hx rfl (hb hby d3_4) rfl rfl κ) ?_
  refine Gl.st (g' := (mkF m 6 #[.val (.ref a), .val (.ref r1), .val (.ref r2), .val (.int p3)] [(.ref r1), (.ref a)])) (fun τ κ => XS.aloadN X14.here hx rfl (hb hby d3_5) rfl rfl κ) ?_
  obtain ⟨T15, h15, X15, e15, W15, st15⟩ := putF X14 hx hZ hown (host := "") (Or.inl (hw _ (List.mem_of_getElem? (i := 29) rfl))) Via.refl e14 F0 E0 (Or.inr ⟨(hw _ (List.mem_of_getElem? (i := 30) rfl)), rfl, hnm⟩) (hw _ (List.mem_of_getElem? (i := 16) rfl)) (ty := (.object "org/precedence/Protocol")) (by decide) rfl rfl (g := (mkF m 6 #[.val (.ref a), .val (.ref r1), .val (.ref r2), .val (.int p3)] [(.ref r1), (.ref a)])) rfl rfl (hb hby d3_6)
  have E_16 := E0.wr W15
  have F_18 := F1.other W15 (Or.inr (slot_ne (Or.inr (hw _ (List.mem_of_getElem? (i := 32) rfl))) (Or.inr (hw _ (List.mem_of_getElem? (i := 30) rfl))) (by decide) (t := (.object "org/precedence/Protocol")) (t' := (.object "org/precedence/Protocol")) (by decide) (by decide)))
  have F_19 := F2.other W15 (Or.inr (slot_ne (Or.inr (hw _ (List.mem_of_getElem? (i := 34) rfl))) (Or.inr (hw _ (List.mem_of_getElem? (i := 30) rfl))) (by decide) (t := .int) (t' := (.object "org/precedence/Protocol")) (by decide) (by decide)))
  have N15 := Fr.snoc X15 N14 g0
  have Z15 : n0 ≤ h15.size := Nat.le_trans Z0 (Nat.le_of_eq W15.size.symm)
  have K15 : Keep h0 h15 [a] := (Keep.refl h0 [a]).wr W15 (Or.inl (List.mem_of_getElem? (i := 0) rfl))
  have F_20 := F0.same W15
  refine Gl.st (g' := (mkF m 9 #[.val (.ref a), .val (.ref r1), .val (.ref r2), .val (.int p3)] [])) (fun τ κ => st15 _ κ) ?_
  refine Gl.st (g' := (mkF m 10 #[.val (.ref a), .val (.ref r1), .val (.ref r2), .val (.int p3)] [(.ref a)])) (fun τ κ => XS.aloadN X15.here hx rfl (hb hby d3_9) rfl rfl κ) ?_
  refine Gl.st (g' := (mkF m 11 #[.val (.ref a), .val (.ref r1), .val (.ref r2), .val (.int p3)] [(.ref r2), (.ref a)])) (fun τ κ => XS.aloadN X15.here hx rfl (hb hby d3_10) rfl rfl κ) ?_
  obtain ⟨T21, h21, X21, e21, W21, st21⟩ := putF X15 hx hZ hown (host := "") (Or.inl (hw _ (List.mem_of_getElem? (i := 31) rfl))) Via.refl e15 F_18 E_16 (Or.inr ⟨(hw _ (List.mem_of_getElem? (i := 32) rfl)), rfl, hnm⟩) (hw _ (List.mem_of_getElem? (i := 16) rfl)) (ty := (.object "org/precedence/Protocol")) (by decide) rfl rfl (g := (mkF m 11 #[.val (.ref a), .val (.ref r1), .val (.ref r2), .val (.int p3)] [(.ref r2), (.ref a)])) rfl rfl (hb hby d3_11)
  have E_22 := E_16.wr W21
  have F_23 := F_20.other W21 (Or.inr (slot_ne (Or.inr (hw _ (List.mem_of_getElem? (i := 30) rfl))) (Or.inr (hw _ (List.mem_of_getElem? (i := 32) rfl))) (by decide) (t := (.object "org/precedence/Protocol")) (t' := (.object "org/precedence/Protocol")) (by decide) (by decide)))
  have F_25 := F_19.other W21 (Or.inr (slot_ne (Or.inr (hw _ (List.mem_of_getElem? (i := 34) rfl))) (Or.inr (hw _ (List.mem_of_getElem? (i := 32) rfl))) (by decide) (t := .int) (t' := (.object "org/precedence/Protocol")) (by decide) (by decide)))
  have N21 := Fr.snoc X21 N15 g0
  have Z21 : n0 ≤ h21.size := Nat.le_trans Z15 (Nat.le_of_eq W21.size.symm)
  have K21 : Keep h0 h21 [a] := K15.wr W21 (Or.inl (List.mem_of_getElem? (i := 0) rfl))
  have F_26 := F_18.same W21
  refine Gl.st (g' := (mkF m 14 #[.val (.ref a), .val (.ref r1), .val (.ref r2), .val (.int p3)] [])) (fun τ κ => st21 _ κ) ?_
  refine Gl.st (g' := (mkF m 15 #[.val (.ref a), .val (.ref r1), .val (.ref r2), .val (.int p3)] [(.ref a)])) (fun τ κ => XS.aloadN X21.here hx rfl (hb hby d3_14) rfl rfl κ) ?_
  refine Gl.st (g' := (mkF m 16 #[.val (.ref a), .val (.ref r1), .val (.ref r2), .val (.int p3)] [(.int p3), (.ref a)])) (fun τ κ => XS.iloadN X21.here hx rfl (hb hby d3_15) rfl κ) ?_
  obtain ⟨T27, h27, X27, e27, W27, st27⟩ := putF X21 hx hZ hown (host := "") (Or.inl (hw _ (List.mem_of_getElem? (i := 33) rfl))) Via.refl e21 F_25 E_22 (Or.inr ⟨(hw _ (List.mem_of_getElem? (i := 34) rfl)), rfl, hnm⟩) (hw _ (List.mem_of_getElem? (i := 16) rfl)) (ty := .int) (by decide) rfl rfl (g := (mkF m 16 #[.val (.ref a), .val (.ref r1), .val (.ref r2), .val (.int p3)] [(.int p3), (.ref a)])) rfl rfl (hb hby d3_16)
  have E_28 := E_22.wr W27
  have F_29 := F_23.other W27 (Or.inr (slot_ne (Or.inr (hw _ (List.mem_of_getElem? (i := 30) rfl))) (Or.inr (hw _ (List.mem_of_getElem? (i := 34) rfl))) (by decide) (t := (.object "org/precedence/Protocol")) (t' := .int) (by decide) (by decide)))
  have F_30 := F_26.other W27 (Or.inr (slot_ne (Or.inr (hw _ (List.mem_of_getElem? (i := 32) rfl))) (Or.inr (hw _ (List.mem_of_getElem? (i := 34) rfl))) (by decide) (t := (.object "org/precedence/Protocol")) (t' := .int) (by decide) (by decide)))
  have N27 := Fr.snoc X27 N21 g0
  have Z27 : n0 ≤ h27.size := Nat.le_trans Z21 (Nat.le_of_eq W27.size.symm)
  have K27 : Keep h0 h27 [a] := K21.wr W27 (Or.inl (List.mem_of_getElem? (i := 0) rfl))
  have F_32 := F_25.same W27
  refine Gl.st (g' := (mkF m 19 #[.val (.ref a), .val (.ref r1), .val (.ref r2), .val (.int p3)] [])) (fun τ κ => st27 _ κ) ?_
  exact Gl.ret (v := none) X27 Bd.notSynchronized (fun _ => rfl) e27 (fun fs hr => X27.returnOut hx Bd.returns (hb hby d3_19) hr) (by decide) (by decide) ⟨rfl, N27, K27, E_28, F_29, F_30, F_32⟩
theorem d6_0 : decode prog_60_method_5_code 0 = .ok (.lload_n 1, 1) := by decide +kernel
theorem d6_1 : decode prog_60_method_5_code 1 = .ok (.ldc2_w 84, 3) := by decide +kernel
theorem d6_4 : decode prog_60_method_5_code 4 = .ok (.lrem, 1) := by decide +kernel
theorem d6_5 : decode prog_60_method_5_code 5 = .ok (.lconst 1, 1) := by decide +kernel
theorem d6_6 : decode prog_60_method_5_code 6 = .ok (.lcmp, 1) := by decide +kernel
theorem d6_7 : decode prog_60_method_5_code 7 = .ok (.ifCond .ne 10, 3) := by decide +kernel
theorem d6_10 : decode prog_60_method_5_code 10 = .ok (.aload_n 0, 1) := by decide +kernel
theorem d6_11 : decode prog_60_method_5_code 11 = .ok (.getfield 13, 3) := by decide +kernel
theorem d6_14 : decode prog_60_method_5_code 14 = .ok (.goto 7, 3) := by decide +kernel
theorem d6_21 : decode prog_60_method_5_code 21 = .ok (.areturn, 1) := by decide +kernel
theorem ef_rm_odd (m : MethodId) (a : Addr) (q : Int64) : entryFrame m #[(.ref a), (.long q)] 3 = mkF m 0 #[.val (.ref a), .val (.long q), .second] [] := by first | (simp [entryFrame, mkF, argsToLocals, Value.category]; done) | rfl
def Q_rm_odd (Z : State) (a : Addr) (q : Int64) (w : Addr) (h0 : Heap) (n0 : Nat) (v : Option Value) (h : Heap) (L : List Loc) : Prop := v = some (.ref w) ∧ Fr n0 L ∧ h = h0
set_option maxRecDepth 65536 in
set_option maxHeartbeats 40000000 in
theorem rm_odd (l : Launch) (Z : State) (a0 : Array Value) (hw : ∀ d ∈ tables_1, d.before a0 Z = true) (ws : List Jvm.Cond) (a : Addr) (q : Int64) (w : Addr) (h0 : Heap) (n0 : Nat) (Z0 : n0 ≤ h0.size) (F0 : Fld Z h0 a "org/precedence/cli/SwitchPlan" "other" "Lorg/precedence/Protocol;" (.ref w)) (hr : (q - (q / (2 : Int64)) * (2 : Int64)) = (1 : Int64)) :
    MetFree l (⟨"org/precedence/cli/SwitchPlan", "target", "(J)Lorg/precedence/Protocol;"⟩ : MethodName) (head1 (Jvm.Cond.code (⟨"org/precedence/cli/SwitchPlan", "target", "(J)Lorg/precedence/Protocol;"⟩ : MethodName) prog_60_method_5_code 3 (some (.object "org/precedence/Protocol")) :: ws) ({ frames := 0, cells := 0, slots := 0, locals := 0 } : Room)) (fun aα Uα => aα = #[(.ref a), (.long q)] ∧ Z.Warmed39 Uα.vm ∧ Uα.heap = h0) (fun _ _ _ _ _ => True) (fun _ Uα oα Uβ => ∃ vα Lα, oα = .returned vα ∧ Q_rm_odd Z a q w h0 n0 vα Uβ.heap Lα ∧ FrameEnd Uα oα Uβ Lα ({ frames := 0, cells := 0, slots := 0, locals := 0 } : Room).cells ({ frames := 0, cells := 0, slots := 0, locals := 0 } : Room).slots) := by
  refine MetFree.of_bodySF (plainFor_of_name pn_org_precedence_cli_SwitchPlan) hisR ?_
  intro p e s m args below meth c s₁ Bd hml0 hP hKα
  obtain ⟨rfl, hZ, hh⟩ := hP
  have hx := Bd.exec
  have hby := Bd.bytes
  have hml : c.maxLocals = 3 := hml0
  have hown : s.vm.findClass "org/precedence/cli/SwitchPlan" = some m.cls := findClass_of_methodNamed Bd.named
  have hnm := (name_of_methodNamed Bd.named Bd.method).1
  have X0 : Stand p l e ({ frames := 0, cells := 0, slots := 0, locals := 0 } : Room) s m #[(.ref a), (.long q)] below meth c s₁ [] 0 0 := Stand.of_body Bd
  have e0 : s₁.heap = h0 := by rw [← hh, Bd.state]; rfl
  have N0 := Fr.nil n0
  suffices k0 : Gl p e below s (Q_rm_odd Z a q w h0 n0) ({ frames := 0, cells := 0, slots := 0, locals := 0 } : Room).cells ({ frames := 0, cells := 0, slots := 0, locals := 0 } : Room).slots s₁ (mkF m 0 #[.val (.ref a), .val (.long q), .second] []) from Gl.st (fun τ κ => castTop (ef_rm_odd m a q) κ) k0
  refine Gl.st (g' := (mkF m 1 #[.val (.ref a), .val (.long q), .second] [(.long q)])) (fun τ κ => XS.lloadN X0.here hx rfl (hb hby d6_0) rfl κ) ?_
  refine Gl.st (g' := (mkF m 4 #[.val (.ref a), .val (.long q), .second] [(.long (2 : Int64)), (.long q)])) (fun τ κ => X0.ldc2Long hx hown (mvT hZ (hw _ (List.mem_of_getElem? (i := 40) rfl))) (g := (mkF m 1 #[.val (.ref a), .val (.long q), .second] [(.long q)])) rfl (hb hby d6_1) _ κ) ?_
  refine Gl.st (g' := (mkF m 5 #[.val (.ref a), .val (.long q), .second] [(.long (q - (q / (2 : Int64)) * (2 : Int64)))])) (fun τ κ => XS.lrem X0.here hx rfl (hb hby d6_4) rfl (by decide) κ) ?_
  refine Gl.st (g' := (mkF m 6 #[.val (.ref a), .val (.long q), .second] [(.long (1 : Int64)), (.long (q - (q / (2 : Int64)) * (2 : Int64)))])) (fun τ κ => XS.lconst X0.here hx rfl (hb hby d6_5) κ) ?_
  refine Gl.st (g' := (mkF m 7 #[.val (.ref a), .val (.long q), .second] [(.int (lcmpW (q - (q / (2 : Int64)) * (2 : Int64)) (1 : Int64)))])) (fun τ κ => XS.lcmp X0.here hx rfl (hb hby d6_6) rfl κ) ?_
  have hc33 : (q - (q / (2 : Int64)) * (2 : Int64)) = (1 : Int64) := hr
  refine Gl.st (g' := (mkF m 10 #[.val (.ref a), .val (.long q), .second] [])) (fun τ κ => XS.ifNo X0.here hx rfl (hb hby d6_7) rfl ((if0 _ _).trans (teq ((lw_eq (q - (q / (2 : Int64)) * (2 : Int64)) (1 : Int64)).mpr hc33)).2) κ) ?_
  refine Gl.st (g' := (mkF m 11 #[.val (.ref a), .val (.long q), .second] [(.ref a)])) (fun τ κ => XS.aloadN X0.here hx rfl (hb hby d6_10) rfl rfl κ) ?_
  obtain ⟨T34, X34, e34, st34⟩ := getF X0 hx hZ hown (host := "") (Or.inl (hw _ (List.mem_of_getElem? (i := 31) rfl))) Via.refl e0 F0 (g := (mkF m 11 #[.val (.ref a), .val (.long q), .second] [(.ref a)])) rfl rfl (hb hby d6_11)
  refine Gl.st (g' := (mkF m 14 #[.val (.ref a), .val (.long q), .second] [(.ref w)])) (fun τ κ => st34 _ κ) ?_
  refine Gl.st (g' := (mkF m 21 #[.val (.ref a), .val (.long q), .second] [(.ref w)])) (fun τ κ => XS.goto X34.here hx rfl (pc0 := 14) (pc' := 21) rfl (hb hby d6_14) (by decide) (by decide) κ) ?_
  exact Gl.ret (v := some (.ref w)) X34 Bd.notSynchronized (fun h => by rw [Bd.returns] at h; cases h) e34 (fun fs hr => (by
      jvm_step X34.here [X34.here.top, hx, (hb hby d6_21), X34.method', Bd.returns, Value.isRef, FieldType.isReference]
      first | (intro acts; rw [hr _ acts rfl rfl rfl]) | rw [hr _ _ rfl rfl rfl]
      exact Steps.refl _)) (by decide) (by decide) ⟨rfl, N0, rfl⟩
theorem d6_17 : decode prog_60_method_5_code 17 = .ok (.aload_n 0, 1) := by decide +kernel
theorem d6_18 : decode prog_60_method_5_code 18 = .ok (.getfield 9, 3) := by decide +kernel
theorem ef_rm_even (m : MethodId) (a : Addr) (q : Int64) : entryFrame m #[(.ref a), (.long q)] 3 = mkF m 0 #[.val (.ref a), .val (.long q), .second] [] := by first | (simp [entryFrame, mkF, argsToLocals, Value.category]; done) | rfl
def Q_rm_even (Z : State) (a : Addr) (q : Int64) (w : Addr) (h0 : Heap) (n0 : Nat) (v : Option Value) (h : Heap) (L : List Loc) : Prop := v = some (.ref w) ∧ Fr n0 L ∧ h = h0
set_option maxRecDepth 65536 in
set_option maxHeartbeats 40000000 in
theorem rm_even (l : Launch) (Z : State) (a0 : Array Value) (hw : ∀ d ∈ tables_1, d.before a0 Z = true) (ws : List Jvm.Cond) (a : Addr) (q : Int64) (w : Addr) (h0 : Heap) (n0 : Nat) (Z0 : n0 ≤ h0.size) (F0 : Fld Z h0 a "org/precedence/cli/SwitchPlan" "initial" "Lorg/precedence/Protocol;" (.ref w)) (hr : ¬ (q - (q / (2 : Int64)) * (2 : Int64)) = (1 : Int64)) :
    MetFree l (⟨"org/precedence/cli/SwitchPlan", "target", "(J)Lorg/precedence/Protocol;"⟩ : MethodName) (head1 (Jvm.Cond.code (⟨"org/precedence/cli/SwitchPlan", "target", "(J)Lorg/precedence/Protocol;"⟩ : MethodName) prog_60_method_5_code 3 (some (.object "org/precedence/Protocol")) :: ws) ({ frames := 0, cells := 0, slots := 0, locals := 0 } : Room)) (fun aα Uα => aα = #[(.ref a), (.long q)] ∧ Z.Warmed39 Uα.vm ∧ Uα.heap = h0) (fun _ _ _ _ _ => True) (fun _ Uα oα Uβ => ∃ vα Lα, oα = .returned vα ∧ Q_rm_even Z a q w h0 n0 vα Uβ.heap Lα ∧ FrameEnd Uα oα Uβ Lα ({ frames := 0, cells := 0, slots := 0, locals := 0 } : Room).cells ({ frames := 0, cells := 0, slots := 0, locals := 0 } : Room).slots) := by
  refine MetFree.of_bodySF (plainFor_of_name pn_org_precedence_cli_SwitchPlan) hisR ?_
  intro p e s m args below meth c s₁ Bd hml0 hP hKα
  obtain ⟨rfl, hZ, hh⟩ := hP
  have hx := Bd.exec
  have hby := Bd.bytes
  have hml : c.maxLocals = 3 := hml0
  have hown : s.vm.findClass "org/precedence/cli/SwitchPlan" = some m.cls := findClass_of_methodNamed Bd.named
  have hnm := (name_of_methodNamed Bd.named Bd.method).1
  have X0 : Stand p l e ({ frames := 0, cells := 0, slots := 0, locals := 0 } : Room) s m #[(.ref a), (.long q)] below meth c s₁ [] 0 0 := Stand.of_body Bd
  have e0 : s₁.heap = h0 := by rw [← hh, Bd.state]; rfl
  have N0 := Fr.nil n0
  suffices k0 : Gl p e below s (Q_rm_even Z a q w h0 n0) ({ frames := 0, cells := 0, slots := 0, locals := 0 } : Room).cells ({ frames := 0, cells := 0, slots := 0, locals := 0 } : Room).slots s₁ (mkF m 0 #[.val (.ref a), .val (.long q), .second] []) from Gl.st (fun τ κ => castTop (ef_rm_even m a q) κ) k0
  refine Gl.st (g' := (mkF m 1 #[.val (.ref a), .val (.long q), .second] [(.long q)])) (fun τ κ => XS.lloadN X0.here hx rfl (hb hby d6_0) rfl κ) ?_
  refine Gl.st (g' := (mkF m 4 #[.val (.ref a), .val (.long q), .second] [(.long (2 : Int64)), (.long q)])) (fun τ κ => X0.ldc2Long hx hown (mvT hZ (hw _ (List.mem_of_getElem? (i := 40) rfl))) (g := (mkF m 1 #[.val (.ref a), .val (.long q), .second] [(.long q)])) rfl (hb hby d6_1) _ κ) ?_
  refine Gl.st (g' := (mkF m 5 #[.val (.ref a), .val (.long q), .second] [(.long (q - (q / (2 : Int64)) * (2 : Int64)))])) (fun τ κ => XS.lrem X0.here hx rfl (hb hby d6_4) rfl (by decide) κ) ?_
  refine Gl.st (g' := (mkF m 6 #[.val (.ref a), .val (.long q), .second] [(.long (1 : Int64)), (.long (q - (q / (2 : Int64)) * (2 : Int64)))])) (fun τ κ => XS.lconst X0.here hx rfl (hb hby d6_5) κ) ?_
  refine Gl.st (g' := (mkF m 7 #[.val (.ref a), .val (.long q), .second] [(.int (lcmpW (q - (q / (2 : Int64)) * (2 : Int64)) (1 : Int64)))])) (fun τ κ => XS.lcmp X0.here hx rfl (hb hby d6_6) rfl κ) ?_
  have hc35 : ¬ ((q - (q / (2 : Int64)) * (2 : Int64)) = (1 : Int64)) := hr
  refine Gl.st (g' := (mkF m 17 #[.val (.ref a), .val (.long q), .second] [])) (fun τ κ => XS.ifYes X0.here hx rfl (pc0 := 7) (pc' := 17) rfl (hb hby d6_7) rfl ((if0 _ _).trans (feq (mt (lw_eq (q - (q / (2 : Int64)) * (2 : Int64)) (1 : Int64)).mp hc35)).2) (by decide) (by decide) κ) ?_
  refine Gl.st (g' := (mkF m 18 #[.val (.ref a), .val (.long q), .second] [(.ref a)])) (fun τ κ => XS.aloadN X0.here hx rfl (hb hby d6_17) rfl rfl κ) ?_
  obtain ⟨T36, X36, e36, st36⟩ := getF X0 hx hZ hown (host := "") (Or.inl (hw _ (List.mem_of_getElem? (i := 29) rfl))) Via.refl e0 F0 (g := (mkF m 18 #[.val (.ref a), .val (.long q), .second] [(.ref a)])) rfl rfl (hb hby d6_18)
  refine Gl.st (g' := (mkF m 21 #[.val (.ref a), .val (.long q), .second] [(.ref w)])) (fun τ κ => st36 _ κ) ?_
  exact Gl.ret (v := some (.ref w)) X36 Bd.notSynchronized (fun h => by rw [Bd.returns] at h; cases h) e36 (fun fs hr => (by
      jvm_step X36.here [X36.here.top, hx, (hb hby d6_21), X36.method', Bd.returns, Value.isRef, FieldType.isReference]
      first | (intro acts; rw [hr _ acts rfl rfl rfl]) | rw [hr _ _ rfl rfl rfl]
      exact Steps.refl _)) (by decide) (by decide) ⟨rfl, N0, rfl⟩
theorem pd_1 : parseMethodDescriptor "(I)Lorg/precedence/Protocol;" = some ⟨[.int], some (.object "org/precedence/Protocol")⟩ := by decide +kernel
theorem pd_2 : parseMethodDescriptor "(II)I" = some ⟨[.int, .int], some .int⟩ := by decide +kernel
theorem pd_3 : parseMethodDescriptor "(Lorg/precedence/Protocol;Lorg/precedence/Protocol;I)V" = some ⟨[(.object "org/precedence/Protocol"), (.object "org/precedence/Protocol"), .int], none⟩ := by decide +kernel
theorem pd_4 : parseMethodDescriptor "(J)Lorg/precedence/Protocol;" = some ⟨[.long], some (.object "org/precedence/Protocol")⟩ := by decide +kernel
theorem ef_rm0 (m : MethodId) (x0 : Int64) (x1 : Int32) (x2 : Int32) (x3 : Int32) : entryFrame m #[(.long x0), (.int x1), (.int x2), (.int x3)] maxLocals = mkF m 0 #[.val (.long x0), .second, .val (.int x1), .val (.int x2), .val (.int x3), .unset, .unset, .unset, .unset, .unset, .unset, .unset, .unset] [] := by first | (simp [entryFrame, mkF, argsToLocals, Value.category, maxLocals]; done) | rfl
def Q_rm0 (Z : State) (x0 : Int64) (x1 : Int32) (x2 : Int32) (x3 : Int32) (a_SEQUENCER a_SEQUENCER_PRIO a_TOKEN_RING a_TOKEN_RING_PRIO a_CAUSAL a_CAUSAL_PRIO : Addr) (h0 : Heap) (n0 : Nat) (v : Option Value) (h : Heap) (L : List Loc) : Prop := v = some (.int 1) ∧ Fr n0 L
set_option maxRecDepth 65536 in
set_option maxHeartbeats 40000000 in
theorem rm0 (l : Launch) (Z : State) (a0 : Array Value) (hw : ∀ d ∈ tables_1, d.before a0 Z = true) (ws : List Jvm.Cond) (x0 : Int64) (x1 : Int32) (x2 : Int32) (x3 : Int32) (a_SEQUENCER a_SEQUENCER_PRIO a_TOKEN_RING a_TOKEN_RING_PRIO a_CAUSAL a_CAUSAL_PRIO : Addr) (h0 : Heap) (n0 : Nat) (Z0 : n0 ≤ h0.size) (S_SEQUENCER : Sta Z h0 "org/precedence/Protocol" "SEQUENCER" "Lorg/precedence/Protocol;" (.ref a_SEQUENCER)) (S_SEQUENCER_PRIO : Sta Z h0 "org/precedence/Protocol" "SEQUENCER_PRIO" "Lorg/precedence/Protocol;" (.ref a_SEQUENCER_PRIO)) (S_TOKEN_RING : Sta Z h0 "org/precedence/Protocol" "TOKEN_RING" "Lorg/precedence/Protocol;" (.ref a_TOKEN_RING)) (S_TOKEN_RING_PRIO : Sta Z h0 "org/precedence/Protocol" "TOKEN_RING_PRIO" "Lorg/precedence/Protocol;" (.ref a_TOKEN_RING_PRIO)) (S_CAUSAL : Sta Z h0 "org/precedence/Protocol" "CAUSAL" "Lorg/precedence/Protocol;" (.ref a_CAUSAL)) (S_CAUSAL_PRIO : Sta Z h0 "org/precedence/Protocol" "CAUSAL_PRIO" "Lorg/precedence/Protocol;" (.ref a_CAUSAL_PRIO)) :
    MetFree l x (head1 (Jvm.Cond.code x code maxLocals ret :: ws) room_1) (fun aα Uα => aα = #[(.long x0), (.int x1), (.int x2), (.int x3)] ∧ Z.Warmed39 Uα.vm ∧ Uα.heap = h0) (fun _ _ _ _ _ => True) (fun _ Uα oα Uβ => ∃ vα Lα, oα = .returned vα ∧ Q_rm0 Z x0 x1 x2 x3 a_SEQUENCER a_SEQUENCER_PRIO a_TOKEN_RING a_TOKEN_RING_PRIO a_CAUSAL a_CAUSAL_PRIO h0 n0 vα Uβ.heap Lα ∧ FrameEnd Uα oα Uβ Lα 1 3) := by
  refine MetFree.of_bodySF (plainFor_of_name pn_org_precedence_cli_SwitchPlanTargetPinLaw) hisR ?_
  intro p e s m args below meth c s₁ Bd hml0 hP hKα
  obtain ⟨rfl, hZ, hh⟩ := hP
  have hx := Bd.exec
  have hby := Bd.bytes
  have hml : c.maxLocals = 13 := hml0
  have hown : s.vm.findClass "org/precedence/cli/SwitchPlanTargetPinLaw" = some m.cls := findClass_of_methodNamed Bd.named
  have hnm := (name_of_methodNamed Bd.named Bd.method).1
  have X0 : Stand p l e room_1 s m #[(.long x0), (.int x1), (.int x2), (.int x3)] below meth c s₁ [] 0 0 := Stand.of_body Bd
  have e0 : s₁.heap = h0 := by rw [← hh, Bd.state]; rfl
  have N0 := Fr.nil n0
  suffices k0 : Gl p e below s (Q_rm0 Z x0 x1 x2 x3 a_SEQUENCER a_SEQUENCER_PRIO a_TOKEN_RING a_TOKEN_RING_PRIO a_CAUSAL a_CAUSAL_PRIO h0 n0) 1 3 s₁ (mkF m 0 #[.val (.long x0), .second, .val (.int x1), .val (.int x2), .val (.int x3), .unset, .unset, .unset, .unset, .unset, .unset, .unset, .unset] []) from Gl.st (fun τ κ => castTop (ef_rm0 m x0 x1 x2 x3) κ) k0
  refine Gl.st (g' := (mkF m 1 #[.val (.long x0), .second, .val (.int x1), .val (.int x2), .val (.int x3), .unset, .unset, .unset, .unset, .unset, .unset, .unset, .unset] [(.long x0)])) (fun τ κ => XS.lloadN X0.here hx rfl (hb hby at_0) rfl κ) ?_
  refine Gl.st (g' := (mkF m 4 #[.val (.long x0), .second, .val (.int x1), .val (.int x2), .val (.int x3), .unset, .unset, .unset, .unset, .unset, .unset, .unset, .unset] [(.long (9223372036854775807 : Int64)), (.long x0)])) (fun τ κ => X0.ldc2Long hx hown (mvT hZ (hw _ (List.mem_of_getElem? (i := 0) rfl))) (g := (mkF m 1 #[.val (.long x0), .second, .val (.int x1), .val (.int x2), .val (.int x3), .unset, .unset, .unset, .unset, .unset, .unset, .unset, .unset] [(.long x0)])) rfl (hb hby at_1) _ κ) ?_
  refine Gl.st (g' := (mkF m 5 #[.val (.long x0), .second, .val (.int x1), .val (.int x2), .val (.int x3), .unset, .unset, .unset, .unset, .unset, .unset, .unset, .unset] [(.long (x0 &&& (9223372036854775807 : Int64)))])) (fun τ κ => XS.land X0.here hx rfl (hb hby at_4) rfl κ) ?_
  refine Gl.st (g' := (mkF m 7 #[.val (.long x0), .second, .val (.int x1), .val (.int x2), .val (.int x3), .val (.long (x0 &&& (9223372036854775807 : Int64))), .second, .unset, .unset, .unset, .unset, .unset, .unset] [])) (fun τ κ => XS.lstore X0.here hx rfl (hb hby at_5) rfl (l' := #[.val (.long x0), .second, .val (.int x1), .val (.int x2), .val (.int x3), .val (.long (x0 &&& (9223372036854775807 : Int64))), .second, .unset, .unset, .unset, .unset, .unset, .unset]) rfl κ) ?_
  refine Gl.st (g' := (mkF m 9 #[.val (.long x0), .second, .val (.int x1), .val (.int x2), .val (.int x3), .val (.long (x0 &&& (9223372036854775807 : Int64))), .second, .unset, .unset, .unset, .unset, .unset, .unset] [(.long (x0 &&& (9223372036854775807 : Int64)))])) (fun τ κ => XS.lload X0.here hx rfl (hb hby at_7) rfl κ) ?_
  refine Gl.st (g' := (mkF m 10 #[.val (.long x0), .second, .val (.int x1), .val (.int x2), .val (.int x3), .val (.long (x0 &&& (9223372036854775807 : Int64))), .second, .unset, .unset, .unset, .unset, .unset, .unset] [(.long (0 : Int64)), (.long (x0 &&& (9223372036854775807 : Int64)))])) (fun τ κ => XS.lconst X0.here hx rfl (hb hby at_9) κ) ?_
  refine Gl.st (g' := (mkF m 11 #[.val (.long x0), .second, .val (.int x1), .val (.int x2), .val (.int x3), .val (.long (x0 &&& (9223372036854775807 : Int64))), .second, .unset, .unset, .unset, .unset, .unset, .unset] [(.int (lcmpW (x0 &&& (9223372036854775807 : Int64)) (0 : Int64)))])) (fun τ κ => XS.lcmp X0.here hx rfl (hb hby at_10) rfl κ) ?_
  by_cases hc37 : (x0 &&& (9223372036854775807 : Int64)) = (0 : Int64)
  · -- pc 11: (x0 &&& (9223372036854775807 : Int64)) = (0 : Int64)
    refine Gl.st (g' := (mkF m 14 #[.val (.long x0), .second, .val (.int x1), .val (.int x2), .val (.int x3), .val (.long (x0 &&& (9223372036854775807 : Int64))), .second, .unset, .unset, .unset, .unset, .unset, .unset] [])) (fun τ κ => XS.ifNo X0.here hx rfl (hb hby at_11) rfl ((if0 _ _).trans (teq ((lw_eq (x0 &&& (9223372036854775807 : Int64)) (0 : Int64)).mpr hc37)).2) κ) ?_
    refine Gl.st (g' := (mkF m 15 #[.val (.long x0), .second, .val (.int x1), .val (.int x2), .val (.int x3), .val (.long (x0 &&& (9223372036854775807 : Int64))), .second, .unset, .unset, .unset, .unset, .unset, .unset] [(.int (1 : Int32))])) (fun τ κ => XS.iconst X0.here hx rfl (hb hby at_14) κ) ?_
    exact Gl.ret (v := some (.int (1 : Int32))) X0 Bd.notSynchronized (fun h => by rw [Bd.returns] at h; cases h) e0 (fun fs hr => retN X0 hx (t := .boolean) Bd.returns (by simp) (hb hby at_15) hr) (by decide) (by decide) ⟨rfl, N0⟩
  · -- pc 11: not (x0 &&& (9223372036854775807 : Int64)) = (0 : Int64)
    refine Gl.st (g' := (mkF m 16 #[.val (.long x0), .second, .val (.int x1), .val (.int x2), .val (.int x3), .val (.long (x0 &&& (9223372036854775807 : Int64))), .second, .unset, .unset, .unset, .unset, .unset, .unset] [])) (fun τ κ => XS.ifYes X0.here hx rfl (pc0 := 11) (pc' := 16) rfl (hb hby at_11) rfl ((if0 _ _).trans (feq (mt (lw_eq (x0 &&& (9223372036854775807 : Int64)) (0 : Int64)).mp hc37)).2) (by decide) (by decide) κ) ?_
    refine Gl.st (g' := (mkF m 17 #[.val (.long x0), .second, .val (.int x1), .val (.int x2), .val (.int x3), .val (.long (x0 &&& (9223372036854775807 : Int64))), .second, .unset, .unset, .unset, .unset, .unset, .unset] [(.int x1)])) (fun τ κ => XS.iloadN X0.here hx rfl (hb hby at_16) rfl κ) ?_
    obtain ⟨rv38, _, ⟨T38, L38, k38, n38⟩, -, X38, ⟨Lc38, hQ38, l38, y38, z38⟩, st38⟩ := Jvm.LawKit.callS X0 hx (y := (⟨"org/precedence/cli/SwitchPlanTargetPinLaw", "pick", "(I)Lorg/precedence/Protocol;"⟩ : MethodName)) hown (mvT hZ (hw _ (List.mem_of_getElem? (i := 1) rfl))) (mvT hZ (hw _ (List.mem_of_getElem? (i := 2) rfl))) (mvT hZ (hw _ (List.mem_of_getElem? (i := 3) rfl))) (mvT hZ (hw _ (List.mem_of_getElem? (i := 4) rfl))) (by decide) (backOf (W := 0) (rm1 l Z a0 hw [] x1 a_SEQUENCER a_SEQUENCER_PRIO a_TOKEN_RING a_TOKEN_RING_PRIO a_CAUSAL a_CAUSAL_PRIO h0 n0 Z0 S_SEQUENCER S_SEQUENCER_PRIO S_TOKEN_RING S_TOKEN_RING_PRIO S_CAUSAL S_CAUSAL_PRIO) hZ (hw _ (List.mem_of_getElem? (i := 4) rfl)) (hw _ (List.mem_of_getElem? (i := 3) rfl)) (by decide) (by decide)) (g := (mkF m 17 #[.val (.long x0), .second, .val (.int x1), .val (.int x2), .val (.int x3), .val (.long (x0 &&& (9223372036854775807 : Int64))), .second, .unset, .unset, .unset, .unset, .unset, .unset] [(.int x1)])) rfl (by rw [hml]; rfl) (argsL := [(.int x1)]) (rest := []) (lenOf pd_1 rfl) rfl (by show 2 * 0 + _ ≤ _; exact Nat.le_of_eq rfl) (hb hby at_17) (fun _ _ => ⟨rfl, e0, (by decide : 0 + 0 ≤ _), (by decide : 0 + 0 ≤ _)⟩)
    dsimp only [Pt.U, Pt.locs, Pt.cells, Pt.slots] at X38 l38 y38 z38 st38 hQ38
    subst l38 y38 z38
    obtain ⟨b38, rfl, N38q, e38⟩ := hQ38
    have N38 := Fr.app N0 N38q
    refine Gl.st (g' := (mkF m 20 #[.val (.long x0), .second, .val (.int x1), .val (.int x2), .val (.int x3), .val (.long (x0 &&& (9223372036854775807 : Int64))), .second, .unset, .unset, .unset, .unset, .unset, .unset] [(.ref b38)])) (fun τ κ => st38 _ κ) ?_
    refine Gl.st (g' := (mkF m 22 #[.val (.long x0), .second, .val (.int x1), .val (.int x2), .val (.int x3), .val (.long (x0 &&& (9223372036854775807 : Int64))), .second, .val (.ref b38), .unset, .unset, .unset, .unset, .unset] [])) (fun τ κ => XS.astore X38.here hx rfl (hb hby at_20) rfl rfl (l' := #[.val (.long x0), .second, .val (.int x1), .val (.int x2), .val (.int x3), .val (.long (x0 &&& (9223372036854775807 : Int64))), .second, .val (.ref b38), .unset, .unset, .unset, .unset, .unset]) rfl κ) ?_
    refine Gl.st (g' := (mkF m 23 #[.val (.long x0), .second, .val (.int x1), .val (.int x2), .val (.int x3), .val (.long (x0 &&& (9223372036854775807 : Int64))), .second, .val (.ref b38), .unset, .unset, .unset, .unset, .unset] [(.int x2)])) (fun τ κ => XS.iloadN X38.here hx rfl (hb hby at_22) rfl κ) ?_
    obtain ⟨rv39, _, ⟨T39, L39, k39, n39⟩, -, X39, ⟨Lc39, hQ39, l39, y39, z39⟩, st39⟩ := Jvm.LawKit.callS X38 hx (y := (⟨"org/precedence/cli/SwitchPlanTargetPinLaw", "pick", "(I)Lorg/precedence/Protocol;"⟩ : MethodName)) hown (mvT hZ (hw _ (List.mem_of_getElem? (i := 1) rfl))) (mvT hZ (hw _ (List.mem_of_getElem? (i := 2) rfl))) (mvT hZ (hw _ (List.mem_of_getElem? (i := 3) rfl))) (mvT hZ (hw _ (List.mem_of_getElem? (i := 4) rfl))) (by decide) (backOf (W := 0) (rm1 l Z a0 hw [] x2 a_SEQUENCER a_SEQUENCER_PRIO a_TOKEN_RING a_TOKEN_RING_PRIO a_CAUSAL a_CAUSAL_PRIO h0 n0 Z0 S_SEQUENCER S_SEQUENCER_PRIO S_TOKEN_RING S_TOKEN_RING_PRIO S_CAUSAL S_CAUSAL_PRIO) hZ (hw _ (List.mem_of_getElem? (i := 4) rfl)) (hw _ (List.mem_of_getElem? (i := 3) rfl)) (by decide) (by decide)) (g := (mkF m 23 #[.val (.long x0), .second, .val (.int x1), .val (.int x2), .val (.int x3), .val (.long (x0 &&& (9223372036854775807 : Int64))), .second, .val (.ref b38), .unset, .unset, .unset, .unset, .unset] [(.int x2)])) rfl (by rw [hml]; rfl) (argsL := [(.int x2)]) (rest := []) (lenOf pd_1 rfl) rfl (by show 2 * 0 + _ ≤ _; exact Nat.le_of_eq rfl) (hb hby at_23) (fun _ _ => ⟨rfl, e38, (by decide : 0 + 0 ≤ _), (by decide : 0 + 0 ≤ _)⟩)
    dsimp only [Pt.U, Pt.locs, Pt.cells, Pt.slots] at X39 l39 y39 z39 st39 hQ39
    subst l39 y39 z39
    obtain ⟨b39, rfl, N39q, e39⟩ := hQ39
    have N39 := Fr.app N38 N39q
    refine Gl.st (g' := (mkF m 26 #[.val (.long x0), .second, .val (.int x1), .val (.int x2), .val (.int x3), .val (.long (x0 &&& (9223372036854775807 : Int64))), .second, .val (.ref b38), .unset, .unset, .unset, .unset, .unset] [(.ref b39)])) (fun τ κ => st39 _ κ) ?_
    refine Gl.st (g' := (mkF m 28 #[.val (.long x0), .second, .val (.int x1), .val (.int x2), .val (.int x3), .val (.long (x0 &&& (9223372036854775807 : Int64))), .second, .val (.ref b38), .val (.ref b39), .unset, .unset, .unset, .unset] [])) (fun τ κ => XS.astore X39.here hx rfl (hb hby at_26) rfl rfl (l' := #[.val (.long x0), .second, .val (.int x1), .val (.int x2), .val (.int x3), .val (.long (x0 &&& (9223372036854775807 : Int64))), .second, .val (.ref b38), .val (.ref b39), .unset, .unset, .unset, .unset]) rfl κ) ?_
    refine Gl.st (g' := (mkF m 29 #[.val (.long x0), .second, .val (.int x1), .val (.int x2), .val (.int x3), .val (.long (x0 &&& (9223372036854775807 : Int64))), .second, .val (.ref b38), .val (.ref b39), .unset, .unset, .unset, .unset] [(.int (1 : Int32))])) (fun τ κ => XS.iconst X39.here hx rfl (hb hby at_28) κ) ?_
    refine Gl.st (g' := (mkF m 31 #[.val (.long x0), .second, .val (.int x1), .val (.int x2), .val (.int x3), .val (.long (x0 &&& (9223372036854775807 : Int64))), .second, .val (.ref b38), .val (.ref b39), .unset, .unset, .unset, .unset] [(.int x3), (.int (1 : Int32))])) (fun τ κ => XS.iload X39.here hx rfl (hb hby at_29) rfl κ) ?_
    refine Gl.st (g' := (mkF m 33 #[.val (.long x0), .second, .val (.int x1), .val (.int x2), .val (.int x3), .val (.long (x0 &&& (9223372036854775807 : Int64))), .second, .val (.ref b38), .val (.ref b39), .unset, .unset, .unset, .unset] [(.int (2147483647 : Int32)), (.int x3), (.int (1 : Int32))])) (fun τ κ => X39.ldcInt hx hown (mvT hZ (hw _ (List.mem_of_getElem? (i := 5) rfl))) (g := (mkF m 31 #[.val (.long x0), .second, .val (.int x1), .val (.int x2), .val (.int x3), .val (.long (x0 &&& (9223372036854775807 : Int64))), .second, .val (.ref b38), .val (.ref b39), .unset, .unset, .unset, .unset] [(.int x3), (.int (1 : Int32))])) rfl (hb hby at_31) _ κ) ?_
    refine Gl.st (g' := (mkF m 34 #[.val (.long x0), .second, .val (.int x1), .val (.int x2), .val (.int x3), .val (.long (x0 &&& (9223372036854775807 : Int64))), .second, .val (.ref b38), .val (.ref b39), .unset, .unset, .unset, .unset] [(.int (x3 &&& (2147483647 : Int32))), (.int (1 : Int32))])) (fun τ κ => XS.iand X39.here hx rfl (hb hby at_33) rfl κ) ?_
    obtain ⟨rv40, _, ⟨T40, L40, k40, n40⟩, -, X40, ⟨Lc40, hQ40, l40, y40, z40⟩, st40⟩ := Jvm.LawKit.callS X39 hx (y := (⟨"java/lang/Math", "max", "(II)I"⟩ : MethodName)) hown (mvT hZ (hw _ (List.mem_of_getElem? (i := 11) rfl))) (mvT hZ (hw _ (List.mem_of_getElem? (i := 12) rfl))) (mvT hZ (hw _ (List.mem_of_getElem? (i := 13) rfl))) (mvT hZ (hw _ (List.mem_of_getElem? (i := 14) rfl))) (by decide) (backOf (W := 0) (rm2 l Z a0 hw [] (1 : Int32) (x3 &&& (2147483647 : Int32)) h0 n0 Z0 ) hZ (hw _ (List.mem_of_getElem? (i := 14) rfl)) (hw _ (List.mem_of_getElem? (i := 13) rfl)) (by decide) (by decide)) (g := (mkF m 34 #[.val (.long x0), .second, .val (.int x1), .val (.int x2), .val (.int x3), .val (.long (x0 &&& (9223372036854775807 : Int64))), .second, .val (.ref b38), .val (.ref b39), .unset, .unset, .unset, .unset] [(.int (x3 &&& (2147483647 : Int32))), (.int (1 : Int32))])) rfl (by rw [hml]; rfl) (argsL := [(.int (1 : Int32)), (.int (x3 &&& (2147483647 : Int32)))]) (rest := []) (lenOf pd_2 rfl) rfl (by show 2 * 0 + _ ≤ _; exact Nat.le_of_eq rfl) (hb hby at_34) (fun _ _ => ⟨rfl, e39, (by decide : 0 + 0 ≤ _), (by decide : 0 + 0 ≤ _)⟩)
    dsimp only [Pt.U, Pt.locs, Pt.cells, Pt.slots] at X40 l40 y40 z40 st40 hQ40
    subst l40 y40 z40
    obtain ⟨rfl, N40q, e40⟩ := hQ40
    have N40 := Fr.app N39 N40q
    refine Gl.st (g' := (mkF m 37 #[.val (.long x0), .second, .val (.int x1), .val (.int x2), .val (.int x3), .val (.long (x0 &&& (9223372036854775807 : Int64))), .second, .val (.ref b38), .val (.ref b39), .unset, .unset, .unset, .unset] [(.int (own_max (1 : Int32) (x3 &&& (2147483647 : Int32))))])) (fun τ κ => st40 _ κ) ?_
    refine Gl.st (g' := (mkF m 39 #[.val (.long x0), .second, .val (.int x1), .val (.int x2), .val (.int x3), .val (.long (x0 &&& (9223372036854775807 : Int64))), .second, .val (.ref b38), .val (.ref b39), .val (.int (own_max (1 : Int32) (x3 &&& (2147483647 : Int32)))), .unset, .unset, .unset] [])) (fun τ κ => XS.istore X40.here hx rfl (hb hby at_37) rfl (l' := #[.val (.long x0), .second, .val (.int x1), .val (.int x2), .val (.int x3), .val (.long (x0 &&& (9223372036854775807 : Int64))), .second, .val (.ref b38), .val (.ref b39), .val (.int (own_max (1 : Int32) (x3 &&& (2147483647 : Int32)))), .unset, .unset, .unset]) rfl κ) ?_
    obtain ⟨T41, h41, X41, e41, E41, A41, D41, -, st41⟩ := newO X40 hx hZ hown (hw _ (List.mem_of_getElem? (i := 15) rfl)) (hw _ (List.mem_of_getElem? (i := 16) rfl)) (hw _ (List.mem_of_getElem? (i := 17) rfl)) e40 (g := (mkF m 39 #[.val (.long x0), .second, .val (.int x1), .val (.int x2), .val (.int x3), .val (.long (x0 &&& (9223372036854775807 : Int64))), .second, .val (.ref b38), .val (.ref b39), .val (.int (own_max (1 : Int32) (x3 &&& (2147483647 : Int32)))), .unset, .unset, .unset] [])) rfl (hb hby at_39) (by decide) (by decide)
    obtain ⟨b41, g41⟩ : ∃ z, z = h0.size := ⟨_, rfl⟩
    rw [← g41] at A41 D41 st41
    have g_b41 : n0 ≤ b41 := Nat.le_trans Z0 (Nat.le_of_eq g41.symm)
    have sz_b41 : h0.size ≤ b41 := Nat.le_trans (Keep.refl h0 []).1 (Nat.le_of_eq g41.symm)
    have Z41 : n0 ≤ h41.size := Nat.le_trans Z0 E41.1
    have K41 : Keep h0 h41 [] := (Keep.refl h0 []).ext E41
    have F_42 : Fld Z h41 b41 "org/precedence/cli/SwitchPlan" "initial" "Lorg/precedence/Protocol;" .null := D41 (Or.inr (hw _ (List.mem_of_getElem? (i := 30) rfl))) (ty := (.object "org/precedence/Protocol")) (by decide)
    have F_43 : Fld Z h41 b41 "org/precedence/cli/SwitchPlan" "other" "Lorg/precedence/Protocol;" .null := D41 (Or.inr (hw _ (List.mem_of_getElem? (i := 32) rfl))) (ty := (.object "org/precedence/Protocol")) (by decide)
    have F_44 : Fld Z h41 b41 "org/precedence/cli/SwitchPlan" "everyMs" "I" (.int (0 : Int32)) := D41 (Or.inr (hw _ (List.mem_of_getElem? (i := 34) rfl))) (ty := .int) (by decide)
    refine Gl.st (g' := (mkF m 42 #[.val (.long x0), .second, .val (.int x1), .val (.int x2), .val (.int x3), .val (.long (x0 &&& (9223372036854775807 : Int64))), .second, .val (.ref b38), .val (.ref b39), .val (.int (own_max (1 : Int32) (x3 &&& (2147483647 : Int32)))), .unset, .unset, .unset] [(.ref b41)])) (fun τ κ => st41 _ κ) ?_
    refine Gl.st (g' := (mkF m 43 #[.val (.long x0), .second, .val (.int x1), .val (.int x2), .val (.int x3), .val (.long (x0 &&& (9223372036854775807 : Int64))), .second, .val (.ref b38), .val (.ref b39), .val (.int (own_max (1 : Int32) (x3 &&& (2147483647 : Int32)))), .unset, .unset, .unset] [(.ref b41), (.ref b41)])) (fun τ κ => XS.dup X41.here hx rfl (hb hby at_42) rfl rfl κ) ?_
    refine Gl.st (g' := (mkF m 45 #[.val (.long x0), .second, .val (.int x1), .val (.int x2), .val (.int x3), .val (.long (x0 &&& (9223372036854775807 : Int64))), .second, .val (.ref b38), .val (.ref b39), .val (.int (own_max (1 : Int32) (x3 &&& (2147483647 : Int32)))), .unset, .unset, .unset] [(.ref b38), (.ref b41), (.ref b41)])) (fun τ κ => XS.aload X41.here hx rfl (hb hby at_43) rfl rfl κ) ?_
    refine Gl.st (g' := (mkF m 47 #[.val (.long x0), .second, .val (.int x1), .val (.int x2), .val (.int x3), .val (.long (x0 &&& (9223372036854775807 : Int64))), .second, .val (.ref b38), .val (.ref b39), .val (.int (own_max (1 : Int32) (x3 &&& (2147483647 : Int32)))), .unset, .unset, .unset] [(.ref b39), (.ref b38), (.ref b41), (.ref b41)])) (fun τ κ => XS.aload X41.here hx rfl (hb hby at_45) rfl rfl κ) ?_
    refine Gl.st (g' := (mkF m 49 #[.val (.long x0), .second, .val (.int x1), .val (.int x2), .val (.int x3), .val (.long (x0 &&& (9223372036854775807 : Int64))), .second, .val (.ref b38), .val (.ref b39), .val (.int (own_max (1 : Int32) (x3 &&& (2147483647 : Int32)))), .unset, .unset, .unset] [(.int (own_max (1 : Int32) (x3 &&& (2147483647 : Int32)))), (.ref b39), (.ref b38), (.ref b41), (.ref b41)])) (fun τ κ => XS.iload X41.here hx rfl (hb hby at_47) rfl κ) ?_
    obtain ⟨rv45, _, ⟨T45, L45, k45, n45⟩, -, X45, ⟨Lc45, hQ45, l45, y45, z45⟩, st45⟩ := X41.specialBack hx (y := (⟨"org/precedence/cli/SwitchPlan", "<init>", "(Lorg/precedence/Protocol;Lorg/precedence/Protocol;I)V"⟩ : MethodName)) rfl hown (mvT hZ (hw _ (List.mem_of_getElem? (i := 18) rfl))) (mvT hZ (hw _ (List.mem_of_getElem? (i := 19) rfl))) (mvT hZ (hw _ (List.mem_of_getElem? (i := 20) rfl))) (by decide) (backOf (W := 1) (rm3 l Z a0 hw [] b41 b38 b39 (own_max (1 : Int32) (x3 &&& (2147483647 : Int32))) h41 n0 Z41 A41 g_b41 F_42 F_43 F_44) hZ (hw _ (List.mem_of_getElem? (i := 20) rfl)) (hw _ (List.mem_of_getElem? (i := 17) rfl)) (by decide) (by decide)) (g := (mkF m 49 #[.val (.long x0), .second, .val (.int x1), .val (.int x2), .val (.int x3), .val (.long (x0 &&& (9223372036854775807 : Int64))), .second, .val (.ref b38), .val (.ref b39), .val (.int (own_max (1 : Int32) (x3 &&& (2147483647 : Int32)))), .unset, .unset, .unset] [(.int (own_max (1 : Int32) (x3 &&& (2147483647 : Int32)))), (.ref b39), (.ref b38), (.ref b41), (.ref b41)])) rfl (by rw [hml]; rfl) (Steps.refl _) (a := b41) (argsL := [(.ref b38), (.ref b39), (.int (own_max (1 : Int32) (x3 &&& (2147483647 : Int32))))]) (rest := [(.ref b41)]) (lenOf pd_3 rfl) rfl (by show 2 * 0 + _ ≤ _; exact Nat.le_of_eq rfl) (hb hby at_49) (fun _ _ => ⟨rfl, e41, (by decide : 1 + 0 ≤ _), (by decide : 3 + 0 ≤ _)⟩)
    dsimp only [Pt.U, Pt.locs, Pt.cells, Pt.slots] at X45 l45 y45 z45 st45 hQ45
    subst l45 y45 z45
    obtain ⟨rfl, N45q, Kc45, Ec45, Fc45_0, Fc45_1, Fc45_2⟩ := hQ45
    have E_46 := A41.keep Kc45
    have N45 := Fr.app N40 N45q
    have Z45 : n0 ≤ T45.heap.size := Nat.le_trans Z41 Kc45.1
    have K45 : Keep h0 T45.heap [] := K41.trans Kc45 (allS (Or.inr sz_b41) all0)
    refine Gl.st (g' := (mkF m 52 #[.val (.long x0), .second, .val (.int x1), .val (.int x2), .val (.int x3), .val (.long (x0 &&& (9223372036854775807 : Int64))), .second, .val (.ref b38), .val (.ref b39), .val (.int (own_max (1 : Int32) (x3 &&& (2147483647 : Int32)))), .unset, .unset, .unset] [(.ref b41)])) (fun τ κ => st45.trans κ) ?_
    refine Gl.st (g' := (mkF m 54 #[.val (.long x0), .second, .val (.int x1), .val (.int x2), .val (.int x3), .val (.long (x0 &&& (9223372036854775807 : Int64))), .second, .val (.ref b38), .val (.ref b39), .val (.int (own_max (1 : Int32) (x3 &&& (2147483647 : Int32)))), .val (.ref b41), .unset, .unset] [])) (fun τ κ => XS.astore X45.here hx rfl (hb hby at_52) rfl rfl (l' := #[.val (.long x0), .second, .val (.int x1), .val (.int x2), .val (.int x3), .val (.long (x0 &&& (9223372036854775807 : Int64))), .second, .val (.ref b38), .val (.ref b39), .val (.int (own_max (1 : Int32) (x3 &&& (2147483647 : Int32)))), .val (.ref b41), .unset, .unset]) rfl κ) ?_
    refine Gl.st (g' := (mkF m 56 #[.val (.long x0), .second, .val (.int x1), .val (.int x2), .val (.int x3), .val (.long (x0 &&& (9223372036854775807 : Int64))), .second, .val (.ref b38), .val (.ref b39), .val (.int (own_max (1 : Int32) (x3 &&& (2147483647 : Int32)))), .val (.ref b41), .unset, .unset] [(.long (x0 &&& (9223372036854775807 : Int64)))])) (fun τ κ => XS.lload X45.here hx rfl (hb hby at_54) rfl κ) ?_
    refine Gl.st (g' := (mkF m 57 #[.val (.long x0), .second, .val (.int x1), .val (.int x2), .val (.int x3), .val (.long (x0 &&& (9223372036854775807 : Int64))), .second, .val (.ref b38), .val (.ref b39), .val (.int (own_max (1 : Int32) (x3 &&& (2147483647 : Int32)))), .val (.ref b41), .unset, .unset] [(.long (1 : Int64)), (.long (x0 &&& (9223372036854775807 : Int64)))])) (fun τ κ => XS.lconst X45.here hx rfl (hb hby at_56) κ) ?_
    refine Gl.st (g' := (mkF m 58 #[.val (.long x0), .second, .val (.int x1), .val (.int x2), .val (.int x3), .val (.long (x0 &&& (9223372036854775807 : Int64))), .second, .val (.ref b38), .val (.ref b39), .val (.int (own_max (1 : Int32) (x3 &&& (2147483647 : Int32)))), .val (.ref b41), .unset, .unset] [(.long ((x0 &&& (9223372036854775807 : Int64)) &&& (1 : Int64)))])) (fun τ κ => XS.land X45.here hx rfl (hb hby at_57) rfl κ) ?_
    refine Gl.st (g' := (mkF m 59 #[.val (.long x0), .second, .val (.int x1), .val (.int x2), .val (.int x3), .val (.long (x0 &&& (9223372036854775807 : Int64))), .second, .val (.ref b38), .val (.ref b39), .val (.int (own_max (1 : Int32) (x3 &&& (2147483647 : Int32)))), .val (.ref b41), .unset, .unset] [(.long (0 : Int64)), (.long ((x0 &&& (9223372036854775807 : Int64)) &&& (1 : Int64)))])) (fun τ κ => XS.lconst X45.here hx rfl (hb hby at_58) κ) ?_
    refine Gl.st (g' := (mkF m 60 #[.val (.long x0), .second, .val (.int x1), .val (.int x2), .val (.int x3), .val (.long (x0 &&& (9223372036854775807 : Int64))), .second, .val (.ref b38), .val (.ref b39), .val (.int (own_max (1 : Int32) (x3 &&& (2147483647 : Int32)))), .val (.ref b41), .unset, .unset] [(.int (lcmpW ((x0 &&& (9223372036854775807 : Int64)) &&& (1 : Int64)) (0 : Int64)))])) (fun τ κ => XS.lcmp X45.here hx rfl (hb hby at_59) rfl κ) ?_
    by_cases hc50 : ((x0 &&& (9223372036854775807 : Int64)) &&& (1 : Int64)) = (0 : Int64)
    · -- pc 60: ((x0 &&& (9223372036854775807 : Int64)) &&& (1 : Int64)) = (0 : Int64)
      refine Gl.st (g' := (mkF m 67 #[.val (.long x0), .second, .val (.int x1), .val (.int x2), .val (.int x3), .val (.long (x0 &&& (9223372036854775807 : Int64))), .second, .val (.ref b38), .val (.ref b39), .val (.int (own_max (1 : Int32) (x3 &&& (2147483647 : Int32)))), .val (.ref b41), .unset, .unset] [])) (fun τ κ => XS.ifYes X45.here hx rfl (pc0 := 60) (pc' := 67) rfl (hb hby at_60) rfl ((if0 _ _).trans (teq ((lw_eq ((x0 &&& (9223372036854775807 : Int64)) &&& (1 : Int64)) (0 : Int64)).mpr hc50)).1) (by decide) (by decide) κ) ?_
      refine Gl.st (g' := (mkF m 68 #[.val (.long x0), .second, .val (.int x1), .val (.int x2), .val (.int x3), .val (.long (x0 &&& (9223372036854775807 : Int64))), .second, .val (.ref b38), .val (.ref b39), .val (.int (own_max (1 : Int32) (x3 &&& (2147483647 : Int32)))), .val (.ref b41), .unset, .unset] [(.int (0 : Int32))])) (fun τ κ => XS.iconst X45.here hx rfl (hb hby at_67) κ) ?_
      refine Gl.st (g' := (mkF m 70 #[.val (.long x0), .second, .val (.int x1), .val (.int x2), .val (.int x3), .val (.long (x0 &&& (9223372036854775807 : Int64))), .second, .val (.ref b38), .val (.ref b39), .val (.int (own_max (1 : Int32) (x3 &&& (2147483647 : Int32)))), .val (.ref b41), .val (.int (0 : Int32)), .unset] [])) (fun τ κ => XS.istore X45.here hx rfl (hb hby at_68) rfl (l' := #[.val (.long x0), .second, .val (.int x1), .val (.int x2), .val (.int x3), .val (.long (x0 &&& (9223372036854775807 : Int64))), .second, .val (.ref b38), .val (.ref b39), .val (.int (own_max (1 : Int32) (x3 &&& (2147483647 : Int32)))), .val (.ref b41), .val (.int (0 : Int32)), .unset]) rfl κ) ?_
      refine Gl.st (g' := (mkF m 72 #[.val (.long x0), .second, .val (.int x1), .val (.int x2), .val (.int x3), .val (.long (x0 &&& (9223372036854775807 : Int64))), .second, .val (.ref b38), .val (.ref b39), .val (.int (own_max (1 : Int32) (x3 &&& (2147483647 : Int32)))), .val (.ref b41), .val (.int (0 : Int32)), .unset] [(.int (0 : Int32))])) (fun τ κ => XS.iload X45.here hx rfl (hb hby at_70) rfl κ) ?_
      have hc51 : (0 : Int32) = (0 : Int32) := by decide
      refine Gl.st (g' := (mkF m 80 #[.val (.long x0), .second, .val (.int x1), .val (.int x2), .val (.int x3), .val (.long (x0 &&& (9223372036854775807 : Int64))), .second, .val (.ref b38), .val (.ref b39), .val (.int (own_max (1 : Int32) (x3 &&& (2147483647 : Int32)))), .val (.ref b41), .val (.int (0 : Int32)), .unset] [])) (fun τ κ => XS.ifYes X45.here hx rfl (pc0 := 72) (pc' := 80) rfl (hb hby at_72) rfl ((if0 _ _).trans (teq hc51).1) (by decide) (by decide) κ) ?_
      refine Gl.st (g' := (mkF m 82 #[.val (.long x0), .second, .val (.int x1), .val (.int x2), .val (.int x3), .val (.long (x0 &&& (9223372036854775807 : Int64))), .second, .val (.ref b38), .val (.ref b39), .val (.int (own_max (1 : Int32) (x3 &&& (2147483647 : Int32)))), .val (.ref b41), .val (.int (0 : Int32)), .unset] [(.ref b38)])) (fun τ κ => XS.aload X45.here hx rfl (hb hby at_80) rfl rfl κ) ?_
      refine Gl.st (g' := (mkF m 84 #[.val (.long x0), .second, .val (.int x1), .val (.int x2), .val (.int x3), .val (.long (x0 &&& (9223372036854775807 : Int64))), .second, .val (.ref b38), .val (.ref b39), .val (.int (own_max (1 : Int32) (x3 &&& (2147483647 : Int32)))), .val (.ref b41), .val (.int (0 : Int32)), .val (.ref b38)] [])) (fun τ κ => XS.astore X45.here hx rfl (hb hby at_82) rfl rfl (l' := #[.val (.long x0), .second, .val (.int x1), .val (.int x2), .val (.int x3), .val (.long (x0 &&& (9223372036854775807 : Int64))), .second, .val (.ref b38), .val (.ref b39), .val (.int (own_max (1 : Int32) (x3 &&& (2147483647 : Int32)))), .val (.ref b41), .val (.int (0 : Int32)), .val (.ref b38)]) rfl κ) ?_
      refine Gl.st (g' := (mkF m 86 #[.val (.long x0), .second, .val (.int x1), .val (.int x2), .val (.int x3), .val (.long (x0 &&& (9223372036854775807 : Int64))), .second, .val (.ref b38), .val (.ref b39), .val (.int (own_max (1 : Int32) (x3 &&& (2147483647 : Int32)))), .val (.ref b41), .val (.int (0 : Int32)), .val (.ref b38)] [(.ref b41)])) (fun τ κ => XS.aload X45.here hx rfl (hb hby at_84) rfl rfl κ) ?_
      refine Gl.st (g' := (mkF m 88 #[.val (.long x0), .second, .val (.int x1), .val (.int x2), .val (.int x3), .val (.long (x0 &&& (9223372036854775807 : Int64))), .second, .val (.ref b38), .val (.ref b39), .val (.int (own_max (1 : Int32) (x3 &&& (2147483647 : Int32)))), .val (.ref b41), .val (.int (0 : Int32)), .val (.ref b38)] [(.long (x0 &&& (9223372036854775807 : Int64))), (.ref b41)])) (fun τ κ => XS.lload X45.here hx rfl (hb hby at_86) rfl κ) ?_
      obtain ⟨cq52, kq52, q52a, q52b, q52c⟩ := isOf hZ rfl Ec45
      obtain ⟨rv52, _, ⟨T52, L52, k52, n52⟩, -, X52, ⟨Lc52, hQ52, l52, y52, z52⟩, st52⟩ := X45.virtualBack hx (y := (⟨"org/precedence/cli/SwitchPlan", "target", "(J)Lorg/precedence/Protocol;"⟩ : MethodName)) (z := (⟨"org/precedence/cli/SwitchPlan", "target", "(J)Lorg/precedence/Protocol;"⟩ : MethodName)) hown (mvT hZ (hw _ (List.mem_of_getElem? (i := 35) rfl))) (mvT hZ (hw _ (List.mem_of_getElem? (i := 36) rfl))) (notFace_of_selects (args := #[]) (mvT hZ (hw _ (List.mem_of_getElem? (i := 38) rfl)))) (mvT hZ (hw _ (List.mem_of_getElem? (i := 38) rfl))) (mvT hZ (hw _ (List.mem_of_getElem? (i := 37) rfl))) (by decide) (backOf (W := 0) (rm_even l Z a0 hw [] b41 (x0 &&& (9223372036854775807 : Int64)) b38 T45.heap n0 Z45 Fc45_0 (own_even (own_nn x0) hc50)) hZ (hw _ (List.mem_of_getElem? (i := 39) rfl)) (hw _ (List.mem_of_getElem? (i := 17) rfl)) (by decide) (by decide)) q52a q52c (g := (mkF m 88 #[.val (.long x0), .second, .val (.int x1), .val (.int x2), .val (.int x3), .val (.long (x0 &&& (9223372036854775807 : Int64))), .second, .val (.ref b38), .val (.ref b39), .val (.int (own_max (1 : Int32) (x3 &&& (2147483647 : Int32)))), .val (.ref b41), .val (.int (0 : Int32)), .val (.ref b38)] [(.long (x0 &&& (9223372036854775807 : Int64))), (.ref b41)])) rfl (by rw [hml]; rfl) (Steps.refl _) (argsL := [(.long (x0 &&& (9223372036854775807 : Int64)))]) (rest := []) (lenOf pd_4 rfl) rfl (by show 2 * 0 + _ ≤ _; exact Nat.le_of_eq rfl) (hb hby at_88) (fun _ _ => ⟨rfl, rfl, (by decide : 1 + 0 ≤ _), (by decide : 3 + 0 ≤ _)⟩)
      dsimp only [Pt.U, Pt.locs, Pt.cells, Pt.slots] at X52 l52 y52 z52 st52 hQ52
      subst l52 y52 z52
      obtain ⟨rfl, N52q, e52⟩ := hQ52
      have N52 := Fr.app N45 N52q
      refine Gl.st (g' := (mkF m 91 #[.val (.long x0), .second, .val (.int x1), .val (.int x2), .val (.int x3), .val (.long (x0 &&& (9223372036854775807 : Int64))), .second, .val (.ref b38), .val (.ref b39), .val (.int (own_max (1 : Int32) (x3 &&& (2147483647 : Int32)))), .val (.ref b41), .val (.int (0 : Int32)), .val (.ref b38)] [(.ref b38)])) (fun τ κ => st52.trans κ) ?_
      refine Gl.st (g' := (mkF m 93 #[.val (.long x0), .second, .val (.int x1), .val (.int x2), .val (.int x3), .val (.long (x0 &&& (9223372036854775807 : Int64))), .second, .val (.ref b38), .val (.ref b39), .val (.int (own_max (1 : Int32) (x3 &&& (2147483647 : Int32)))), .val (.ref b41), .val (.int (0 : Int32)), .val (.ref b38)] [(.ref b38), (.ref b38)])) (fun τ κ => XS.aload X52.here hx rfl (hb hby at_91) rfl rfl κ) ?_
      refine Gl.st (g' := (mkF m 96 #[.val (.long x0), .second, .val (.int x1), .val (.int x2), .val (.int x3), .val (.long (x0 &&& (9223372036854775807 : Int64))), .second, .val (.ref b38), .val (.ref b39), .val (.int (own_max (1 : Int32) (x3 &&& (2147483647 : Int32)))), .val (.ref b41), .val (.int (0 : Int32)), .val (.ref b38)] [])) (fun τ κ => Jvm.RoadKit.acmp (g := (mkF m 93 #[.val (.long x0), .second, .val (.int x1), .val (.int x2), .val (.int x3), .val (.long (x0 &&& (9223372036854775807 : Int64))), .second, .val (.ref b38), .val (.ref b39), .val (.int (own_max (1 : Int32) (x3 &&& (2147483647 : Int32)))), .val (.ref b41), .val (.int (0 : Int32)), .val (.ref b38)] [(.ref b38), (.ref b38)])) X52 hx rfl rfl rfl (pc0 := 93) (pc' := 96) (same := true) rfl (hb hby at_93) rfl (decide_eq_true rfl) (by decide) (by decide) κ) ?_
      refine Gl.st (g' := (mkF m 97 #[.val (.long x0), .second, .val (.int x1), .val (.int x2), .val (.int x3), .val (.long (x0 &&& (9223372036854775807 : Int64))), .second, .val (.ref b38), .val (.ref b39), .val (.int (own_max (1 : Int32) (x3 &&& (2147483647 : Int32)))), .val (.ref b41), .val (.int (0 : Int32)), .val (.ref b38)] [(.int (1 : Int32))])) (fun τ κ => XS.iconst X52.here hx rfl (hb hby at_96) κ) ?_
      refine Gl.st (g' := (mkF m 101 #[.val (.long x0), .second, .val (.int x1), .val (.int x2), .val (.int x3), .val (.long (x0 &&& (9223372036854775807 : Int64))), .second, .val (.ref b38), .val (.ref b39), .val (.int (own_max (1 : Int32) (x3 &&& (2147483647 : Int32)))), .val (.ref b41), .val (.int (0 : Int32)), .val (.ref b38)] [(.int (1 : Int32))])) (fun τ κ => XS.goto X52.here hx rfl (pc0 := 97) (pc' := 101) rfl (hb hby at_97) (by decide) (by decide) κ) ?_
      exact Gl.ret (v := some (.int (1 : Int32))) X52 Bd.notSynchronized (fun h => by rw [Bd.returns] at h; cases h) e52 (fun fs hr => retN X52 hx (t := .boolean) Bd.returns (by simp) (hb hby at_101) hr) (by decide) (by decide) ⟨rfl, N52⟩
    · -- pc 60: not ((x0 &&& (9223372036854775807 : Int64)) &&& (1 : Int64)) = (0 : Int64)
      refine Gl.st (g' := (mkF m 63 #[.val (.long x0), .second, .val (.int x1), .val (.int x2), .val (.int x3), .val (.long (x0 &&& (9223372036854775807 : Int64))), .second, .val (.ref b38), .val (.ref b39), .val (.int (own_max (1 : Int32) (x3 &&& (2147483647 : Int32)))), .val (.ref b41), .unset, .unset] [])) (fun τ κ => XS.ifNo X45.here hx rfl (hb hby at_60) rfl ((if0 _ _).trans (feq (mt (lw_eq ((x0 &&& (9223372036854775807 : Int64)) &&& (1 : Int64)) (0 : Int64)).mp hc50)).1) κ) ?_
      refine Gl.st (g' := (mkF m 64 #[.val (.long x0), .second, .val (.int x1), .val (.int x2), .val (.int x3), .val (.long (x0 &&& (9223372036854775807 : Int64))), .second, .val (.ref b38), .val (.ref b39), .val (.int (own_max (1 : Int32) (x3 &&& (2147483647 : Int32)))), .val (.ref b41), .unset, .unset] [(.int (1 : Int32))])) (fun τ κ => XS.iconst X45.here hx rfl (hb hby at_63) κ) ?_
      refine Gl.st (g' := (mkF m 68 #[.val (.long x0), .second, .val (.int x1), .val (.int x2), .val (.int x3), .val (.long (x0 &&& (9223372036854775807 : Int64))), .second, .val (.ref b38), .val (.ref b39), .val (.int (own_max (1 : Int32) (x3 &&& (2147483647 : Int32)))), .val (.ref b41), .unset, .unset] [(.int (1 : Int32))])) (fun τ κ => XS.goto X45.here hx rfl (pc0 := 64) (pc' := 68) rfl (hb hby at_64) (by decide) (by decide) κ) ?_
      refine Gl.st (g' := (mkF m 70 #[.val (.long x0), .second, .val (.int x1), .val (.int x2), .val (.int x3), .val (.long (x0 &&& (9223372036854775807 : Int64))), .second, .val (.ref b38), .val (.ref b39), .val (.int (own_max (1 : Int32) (x3 &&& (2147483647 : Int32)))), .val (.ref b41), .val (.int (1 : Int32)), .unset] [])) (fun τ κ => XS.istore X45.here hx rfl (hb hby at_68) rfl (l' := #[.val (.long x0), .second, .val (.int x1), .val (.int x2), .val (.int x3), .val (.long (x0 &&& (9223372036854775807 : Int64))), .second, .val (.ref b38), .val (.ref b39), .val (.int (own_max (1 : Int32) (x3 &&& (2147483647 : Int32)))), .val (.ref b41), .val (.int (1 : Int32)), .unset]) rfl κ) ?_
      refine Gl.st (g' := (mkF m 72 #[.val (.long x0), .second, .val (.int x1), .val (.int x2), .val (.int x3), .val (.long (x0 &&& (9223372036854775807 : Int64))), .second, .val (.ref b38), .val (.ref b39), .val (.int (own_max (1 : Int32) (x3 &&& (2147483647 : Int32)))), .val (.ref b41), .val (.int (1 : Int32)), .unset] [(.int (1 : Int32))])) (fun τ κ => XS.iload X45.here hx rfl (hb hby at_70) rfl κ) ?_
      have hc53 : ¬ ((1 : Int32) = (0 : Int32)) := by decide
      refine Gl.st (g' := (mkF m 75 #[.val (.long x0), .second, .val (.int x1), .val (.int x2), .val (.int x3), .val (.long (x0 &&& (9223372036854775807 : Int64))), .second, .val (.ref b38), .val (.ref b39), .val (.int (own_max (1 : Int32) (x3 &&& (2147483647 : Int32)))), .val (.ref b41), .val (.int (1 : Int32)), .unset] [])) (fun τ κ => XS.ifNo X45.here hx rfl (hb hby at_72) rfl ((if0 _ _).trans (feq hc53).1) κ) ?_
      refine Gl.st (g' := (mkF m 77 #[.val (.long x0), .second, .val (.int x1), .val (.int x2), .val (.int x3), .val (.long (x0 &&& (9223372036854775807 : Int64))), .second, .val (.ref b38), .val (.ref b39), .val (.int (own_max (1 : Int32) (x3 &&& (2147483647 : Int32)))), .val (.ref b41), .val (.int (1 : Int32)), .unset] [(.ref b39)])) (fun τ κ => XS.aload X45.here hx rfl (hb hby at_75) rfl rfl κ) ?_
      refine Gl.st (g' := (mkF m 82 #[.val (.long x0), .second, .val (.int x1), .val (.int x2), .val (.int x3), .val (.long (x0 &&& (9223372036854775807 : Int64))), .second, .val (.ref b38), .val (.ref b39), .val (.int (own_max (1 : Int32) (x3 &&& (2147483647 : Int32)))), .val (.ref b41), .val (.int (1 : Int32)), .unset] [(.ref b39)])) (fun τ κ => XS.goto X45.here hx rfl (pc0 := 77) (pc' := 82) rfl (hb hby at_77) (by decide) (by decide) κ) ?_
      refine Gl.st (g' := (mkF m 84 #[.val (.long x0), .second, .val (.int x1), .val (.int x2), .val (.int x3), .val (.long (x0 &&& (9223372036854775807 : Int64))), .second, .val (.ref b38), .val (.ref b39), .val (.int (own_max (1 : Int32) (x3 &&& (2147483647 : Int32)))), .val (.ref b41), .val (.int (1 : Int32)), .val (.ref b39)] [])) (fun τ κ => XS.astore X45.here hx rfl (hb hby at_82) rfl rfl (l' := #[.val (.long x0), .second, .val (.int x1), .val (.int x2), .val (.int x3), .val (.long (x0 &&& (9223372036854775807 : Int64))), .second, .val (.ref b38), .val (.ref b39), .val (.int (own_max (1 : Int32) (x3 &&& (2147483647 : Int32)))), .val (.ref b41), .val (.int (1 : Int32)), .val (.ref b39)]) rfl κ) ?_
      refine Gl.st (g' := (mkF m 86 #[.val (.long x0), .second, .val (.int x1), .val (.int x2), .val (.int x3), .val (.long (x0 &&& (9223372036854775807 : Int64))), .second, .val (.ref b38), .val (.ref b39), .val (.int (own_max (1 : Int32) (x3 &&& (2147483647 : Int32)))), .val (.ref b41), .val (.int (1 : Int32)), .val (.ref b39)] [(.ref b41)])) (fun τ κ => XS.aload X45.here hx rfl (hb hby at_84) rfl rfl κ) ?_
      refine Gl.st (g' := (mkF m 88 #[.val (.long x0), .second, .val (.int x1), .val (.int x2), .val (.int x3), .val (.long (x0 &&& (9223372036854775807 : Int64))), .second, .val (.ref b38), .val (.ref b39), .val (.int (own_max (1 : Int32) (x3 &&& (2147483647 : Int32)))), .val (.ref b41), .val (.int (1 : Int32)), .val (.ref b39)] [(.long (x0 &&& (9223372036854775807 : Int64))), (.ref b41)])) (fun τ κ => XS.lload X45.here hx rfl (hb hby at_86) rfl κ) ?_
      obtain ⟨cq54, kq54, q54a, q54b, q54c⟩ := isOf hZ rfl Ec45
      obtain ⟨rv54, _, ⟨T54, L54, k54, n54⟩, -, X54, ⟨Lc54, hQ54, l54, y54, z54⟩, st54⟩ := X45.virtualBack hx (y := (⟨"org/precedence/cli/SwitchPlan", "target", "(J)Lorg/precedence/Protocol;"⟩ : MethodName)) (z := (⟨"org/precedence/cli/SwitchPlan", "target", "(J)Lorg/precedence/Protocol;"⟩ : MethodName)) hown (mvT hZ (hw _ (List.mem_of_getElem? (i := 35) rfl))) (mvT hZ (hw _ (List.mem_of_getElem? (i := 36) rfl))) (notFace_of_selects (args := #[]) (mvT hZ (hw _ (List.mem_of_getElem? (i := 38) rfl)))) (mvT hZ (hw _ (List.mem_of_getElem? (i := 38) rfl))) (mvT hZ (hw _ (List.mem_of_getElem? (i := 37) rfl))) (by decide) (backOf (W := 0) (rm_odd l Z a0 hw [] b41 (x0 &&& (9223372036854775807 : Int64)) b39 T45.heap n0 Z45 Fc45_1 (own_odd (own_nn x0) hc50)) hZ (hw _ (List.mem_of_getElem? (i := 39) rfl)) (hw _ (List.mem_of_getElem? (i := 17) rfl)) (by decide) (by decide)) q54a q54c (g := (mkF m 88 #[.val (.long x0), .second, .val (.int x1), .val (.int x2), .val (.int x3), .val (.long (x0 &&& (9223372036854775807 : Int64))), .second, .val (.ref b38), .val (.ref b39), .val (.int (own_max (1 : Int32) (x3 &&& (2147483647 : Int32)))), .val (.ref b41), .val (.int (1 : Int32)), .val (.ref b39)] [(.long (x0 &&& (9223372036854775807 : Int64))), (.ref b41)])) rfl (by rw [hml]; rfl) (Steps.refl _) (argsL := [(.long (x0 &&& (9223372036854775807 : Int64)))]) (rest := []) (lenOf pd_4 rfl) rfl (by show 2 * 0 + _ ≤ _; exact Nat.le_of_eq rfl) (hb hby at_88) (fun _ _ => ⟨rfl, rfl, (by decide : 1 + 0 ≤ _), (by decide : 3 + 0 ≤ _)⟩)
      dsimp only [Pt.U, Pt.locs, Pt.cells, Pt.slots] at X54 l54 y54 z54 st54 hQ54
      subst l54 y54 z54
      obtain ⟨rfl, N54q, e54⟩ := hQ54
      have N54 := Fr.app N45 N54q
      refine Gl.st (g' := (mkF m 91 #[.val (.long x0), .second, .val (.int x1), .val (.int x2), .val (.int x3), .val (.long (x0 &&& (9223372036854775807 : Int64))), .second, .val (.ref b38), .val (.ref b39), .val (.int (own_max (1 : Int32) (x3 &&& (2147483647 : Int32)))), .val (.ref b41), .val (.int (1 : Int32)), .val (.ref b39)] [(.ref b39)])) (fun τ κ => st54.trans κ) ?_
      refine Gl.st (g' := (mkF m 93 #[.val (.long x0), .second, .val (.int x1), .val (.int x2), .val (.int x3), .val (.long (x0 &&& (9223372036854775807 : Int64))), .second, .val (.ref b38), .val (.ref b39), .val (.int (own_max (1 : Int32) (x3 &&& (2147483647 : Int32)))), .val (.ref b41), .val (.int (1 : Int32)), .val (.ref b39)] [(.ref b39), (.ref b39)])) (fun τ κ => XS.aload X54.here hx rfl (hb hby at_91) rfl rfl κ) ?_
      refine Gl.st (g' := (mkF m 96 #[.val (.long x0), .second, .val (.int x1), .val (.int x2), .val (.int x3), .val (.long (x0 &&& (9223372036854775807 : Int64))), .second, .val (.ref b38), .val (.ref b39), .val (.int (own_max (1 : Int32) (x3 &&& (2147483647 : Int32)))), .val (.ref b41), .val (.int (1 : Int32)), .val (.ref b39)] [])) (fun τ κ => Jvm.RoadKit.acmp (g := (mkF m 93 #[.val (.long x0), .second, .val (.int x1), .val (.int x2), .val (.int x3), .val (.long (x0 &&& (9223372036854775807 : Int64))), .second, .val (.ref b38), .val (.ref b39), .val (.int (own_max (1 : Int32) (x3 &&& (2147483647 : Int32)))), .val (.ref b41), .val (.int (1 : Int32)), .val (.ref b39)] [(.ref b39), (.ref b39)])) X54 hx rfl rfl rfl (pc0 := 93) (pc' := 96) (same := true) rfl (hb hby at_93) rfl (decide_eq_true rfl) (by decide) (by decide) κ) ?_
      refine Gl.st (g' := (mkF m 97 #[.val (.long x0), .second, .val (.int x1), .val (.int x2), .val (.int x3), .val (.long (x0 &&& (9223372036854775807 : Int64))), .second, .val (.ref b38), .val (.ref b39), .val (.int (own_max (1 : Int32) (x3 &&& (2147483647 : Int32)))), .val (.ref b41), .val (.int (1 : Int32)), .val (.ref b39)] [(.int (1 : Int32))])) (fun τ κ => XS.iconst X54.here hx rfl (hb hby at_96) κ) ?_
      refine Gl.st (g' := (mkF m 101 #[.val (.long x0), .second, .val (.int x1), .val (.int x2), .val (.int x3), .val (.long (x0 &&& (9223372036854775807 : Int64))), .second, .val (.ref b38), .val (.ref b39), .val (.int (own_max (1 : Int32) (x3 &&& (2147483647 : Int32)))), .val (.ref b41), .val (.int (1 : Int32)), .val (.ref b39)] [(.int (1 : Int32))])) (fun τ κ => XS.goto X54.here hx rfl (pc0 := 97) (pc' := 101) rfl (hb hby at_97) (by decide) (by decide) κ) ?_
      exact Gl.ret (v := some (.int (1 : Int32))) X54 Bd.notSynchronized (fun h => by rw [Bd.returns] at h; cases h) e54 (fun fs hr => retN X54 hx (t := .boolean) Bd.returns (by simp) (hb hby at_101) hr) (by decide) (by decide) ⟨rfl, N54⟩
set_option maxRecDepth 65536 in
set_option maxHeartbeats 40000000 in
theorem comes_1 {Post : Tables → Env → Array Value → State → Outcome → State → Prop} (hpost : ∀ tb e args s v u, (limb_1_1.after args s (.returned v) u = true ∧ limb_1_2.after args s (.returned v) u = true ∧ True) → FrameEnd s (.returned v) u (Jvm.fieldLocs frame_1_writes args s ++ Jvm.arrayLocs frame_1_arrays args s ++ Jvm.staticLocs frame_1_statics s) 16 128 → Post tb e args s (.returned v) u) :
    ArmFor flags0 classFile x code maxLocals ret World_1 tables_1 room_1 Calls_1 rest_1 Pre_1 Post := by
  intro l hfl _ _ p e ha hc hk s m args below hf hA hF happ hP
  obtain ⟨hcalls, hrest, hpre⟩ := hP
  obtain ⟨-, -, -, hnamed, -, -, -, hat⟩ := (Spec.applies_iff hf).mp happ
  obtain ⟨hg, hn⟩ := and_e (Cond.before_iff.mp (show (Jvm.Cond.and given_1 narrow_1).before args s = true from hpre))
  obtain ⟨hcount, hg0⟩ := and_e hg
  obtain ⟨gi0, hg1⟩ := and_e hg0
  obtain ⟨gi1, hg2⟩ := and_e hg1
  obtain ⟨gi2, hg3⟩ := and_e hg2
  have gi3 := hg3
  obtain ⟨w0, w1, w2, w3, rfl⟩ : ∃ w0 w1 w2 w3 : Value, args = #[w0, w1, w2, w3] := by
    have hs : args.size = 4 := by simpa [Cond.value, given_1] using hcount
    obtain ⟨L⟩ := args
    match L, hs with
    | [w0, w1, w2, w3], _ => exact ⟨w0, w1, w2, w3, rfl⟩
  have hw := fun d (hd : d ∈ tables_1) => atoms_spec (ws := Jvm.Cond.code x code maxLocals ret :: tables_1) hat d (List.mem_cons_of_mem _ hd)
  obtain ⟨i0, ei0⟩ := isL_v gi0
  obtain rfl : w0 = (.long i0) := Option.some.inj ei0
  obtain ⟨i1, ei1⟩ := is_v gi1
  obtain rfl : w1 = (.int i1) := Option.some.inj ei1
  obtain ⟨i2, ei2⟩ := is_v gi2
  obtain rfl : w2 = (.int i2) := Option.some.inj ei2
  obtain ⟨i3, ei3⟩ := is_v gi3
  obtain rfl : w3 = (.int i3) := Option.some.inj ei3
  obtain ⟨cn55, cn56⟩ := and_e hn
  obtain ⟨cn57, cn58⟩ := and_e cn56
  obtain ⟨cn59, cn60⟩ := and_e cn58
  obtain ⟨cn61, cn62⟩ := and_e cn60
  obtain ⟨cn63, cn64⟩ := and_e cn62
  obtain ⟨a_SEQUENCER, ev_SEQUENCER⟩ := exa_v cn64
  have S_SEQUENCER := Sta.start ev_SEQUENCER (Or.inr ⟨(hw _ (List.mem_of_getElem? (i := 7) rfl)), (hw _ (List.mem_of_getElem? (i := 48) rfl))⟩)
  obtain ⟨a_SEQUENCER_PRIO, ev_SEQUENCER_PRIO⟩ := exa_v cn57
  have S_SEQUENCER_PRIO := Sta.start ev_SEQUENCER_PRIO (Or.inr ⟨(hw _ (List.mem_of_getElem? (i := 7) rfl)), (hw _ (List.mem_of_getElem? (i := 10) rfl))⟩)
  obtain ⟨a_TOKEN_RING, ev_TOKEN_RING⟩ := exa_v cn55
  have S_TOKEN_RING := Sta.start ev_TOKEN_RING (Or.inr ⟨(hw _ (List.mem_of_getElem? (i := 7) rfl)), (hw _ (List.mem_of_getElem? (i := 8) rfl))⟩)
  obtain ⟨a_TOKEN_RING_PRIO, ev_TOKEN_RING_PRIO⟩ := exa_v cn61
  have S_TOKEN_RING_PRIO := Sta.start ev_TOKEN_RING_PRIO (Or.inr ⟨(hw _ (List.mem_of_getElem? (i := 7) rfl)), (hw _ (List.mem_of_getElem? (i := 44) rfl))⟩)
  obtain ⟨a_CAUSAL, ev_CAUSAL⟩ := exa_v cn59
  have S_CAUSAL := Sta.start ev_CAUSAL (Or.inr ⟨(hw _ (List.mem_of_getElem? (i := 7) rfl)), (hw _ (List.mem_of_getElem? (i := 42) rfl))⟩)
  obtain ⟨a_CAUSAL_PRIO, ev_CAUSAL_PRIO⟩ := exa_v cn63
  have S_CAUSAL_PRIO := Sta.start ev_CAUSAL_PRIO (Or.inr ⟨(hw _ (List.mem_of_getElem? (i := 7) rfl)), (hw _ (List.mem_of_getElem? (i := 46) rfl))⟩)
  obtain ⟨n, o, h1, h2, h3, _, L, rfl, ⟨rfl, N⟩, hq⟩ := rm0 l s _ hw tables_1 i0 i1 i2 i3 a_SEQUENCER a_SEQUENCER_PRIO a_TOKEN_RING a_TOKEN_RING_PRIO a_CAUSAL a_CAUSAL_PRIO s.heap s.heap.size (Nat.le_refl _) S_SEQUENCER S_SEQUENCER_PRIO S_TOKEN_RING S_TOKEN_RING_PRIO S_CAUSAL S_CAUSAL_PRIO p e ha hc hk s m _ below hf ((Spec.applies_iff_loose hf).mp happ).1 ⟨rfl, State.Warmed39.refl s, rfl⟩ trivial
  refine ⟨n, _, h1, h2, h3, hpost _ _ _ _ _ _ ⟨Cond.after_iff.mpr rfl, Cond.after_iff.mpr (eq_i res_at (Term.int_eval (1)) rfl), trivial⟩ ⟨hq.1, hq.2.1, (hq.2.2.sift fun y hy => Or.inr (N y hy)).mono (by decide) (by decide)⟩⟩
theorem main_1_1 : Claimed_1_1 := comes_1 fun _ _ _ _ _ _ h hF => ⟨h.1, hF⟩
theorem main_1_2 : Claimed_1_2 := comes_1 fun _ _ _ _ _ _ h hF => ⟨h.2.1, hF⟩
end Jvm.Pilot.@@N@@
namespace Jvm.Pilot.@@N@@
open Jvm Jvm.ClassFile Sem Op Lib Jvm.Free Jvm.Stand Jvm.Pilot.@@N@@.Jvm.D
/-! MADE BY PROGRAM (witnessworld.py) out of the Statement's table words and the real class files: 15 classes; the members and pool entries that the words name. The judged class is class 1, her method 2. -/
namespace start1
open Jvm.ClassFile
def u (s : String) : CpInfo := .utf8 (stringToUtf16 s)
/-- a pool by its gaps: so many unusable entries, then the entry; so many at the end -/
def gap : Nat → List CpInfo → List CpInfo
  | 0, r => r
  | n + 1, r => .unusable :: gap n r
def poolList (es : List (Nat × CpInfo)) (last : Nat) : List CpInfo := es.foldr (fun e r => gap e.1 (e.2 :: r)) (gap last [])
def pool (es : List (Nat × CpInfo)) (last : Nat) : Array CpInfo := ⟨poolList es last⟩
def fileOf (pool : Array CpInfo) (this : Nat) (attrs : Array Attribute := #[]) (ms : Array MethodInfo := #[]) (fl : Nat := 33) (sup : Nat := 0) (ifs : Array Nat := #[]) (fds : Array FieldInfo := #[]) : ClassFile where
  minorVersion := 0
  majorVersion := 65
  constantPool := pool
  accessFlags := fl
  thisClass := this
  superClass := sup
  interfaces := ifs
  fields := fds
  methods := ms
  attributes := attrs
def plain (name : String) (sup : Option ClassId) : Class where
  name := name
  kind := .ordinary
  loader := none
  accessFlags := 33
  super := sup
  interfaces := #[]
  cf := none
  fields := #[]
  methods := #[]
  instanceTypes := #[]
  staticTypes := #[]
  resolved := #[]
  callSites := []
  init := .initialized
  statics := none
  mirror := none

def pool0 : Array CpInfo := pool [(5, u "<init>"), (0, u "()V"), (1, .class_ 10), (1, u "java/lang/Object")] 113

def k0c0 : Code := { maxStack := 0, maxLocals := 1, code := object_method_1_code, exceptionTable := #[], attributes := #[] }
def k0m0 : Method := { name := "<init>", desc := "()V", sig := { parameters := [], returnType := none }, accessFlags := 1, code := some k0c0 }
/-- java/lang/Object -/
def k0 : Class := { plain "java/lang/Object" none with
  accessFlags := 33
  interfaces := #[]
  cf := some (fileOf pool0 8 #[] #[{ accessFlags := 1, nameIndex := 5, descriptorIndex := 6, attributes := #[] }] 33 0 #[] #[])
  fields := #[]
  methods := #[k0m0]
  instanceTypes := #[]
  staticTypes := #[]
  resolved := Array.replicate 124 none
  statics := none }

def pool1 : Array CpInfo := pool [(2, .class_ 4), (1, u "java/lang/Object"), (0, u "<init>"), (0, u "()V"), (0, .integer 2147483647), (0, .fieldref 9 10), (0, .class_ 11), (0, .nameAndType 12 13), (0, u "org/precedence/Protocol"), (0, u "SEQUENCER"), (0, u "Lorg/precedence/Protocol;"), (0, .fieldref 9 15), (0, .nameAndType 16 13), (0, u "SEQUENCER_PRIO"), (0, .fieldref 9 18), (0, .nameAndType 19 13), (0, u "TOKEN_RING"), (0, .fieldref 9 21), (0, .nameAndType 22 13), (0, u "TOKEN_RING_PRIO"), (0, .fieldref 9 24), (0, .nameAndType 25 13), (0, u "CAUSAL"), (0, .fieldref 9 27), (0, .nameAndType 28 13), (0, u "CAUSAL_PRIO"), (2, .long 9223372036854775807), (1, .methodref 34 35), (0, .class_ 36), (0, .nameAndType 37 38), (0, u "org/precedence/cli/SwitchPlanTargetPinLaw"), (0, u "pick"), (0, u "(I)Lorg/precedence/Protocol;"), (0, .methodref 40 41), (0, .class_ 42), (0, .nameAndType 43 44), (0, u "java/lang/Math"), (0, u "max"), (0, u "(II)I"), (0, .class_ 46), (0, u "org/precedence/cli/SwitchPlan"), (0, .methodref 45 48), (0, .nameAndType 5 49), (0, u "(Lorg/precedence/Protocol;Lorg/precedence/Protocol;I)V"), (0, .methodref 45 51), (0, .nameAndType 52 53), (0, u "target"), (0, u "(J)Lorg/precedence/Protocol;"), (3, u "law"), (0, u "(JIII)Z")] 2

def k1m0 : Method := { name := "<init>", desc := "()V", sig := { parameters := [], returnType := none }, accessFlags := 2, code := none }
def k1c1 : Code := { maxStack := 2, maxLocals := 2, code := method_2_code, exceptionTable := #[], attributes := #[] }
def k1m1 : Method := { name := "pick", desc := "(I)Lorg/precedence/Protocol;", sig := { parameters := [.int], returnType := some (.object "org/precedence/Protocol") }, accessFlags := 10, code := some k1c1 }
def k1c2 : Code := { maxStack := 5, maxLocals := 13, code := code, exceptionTable := #[], attributes := #[] }
def k1m2 : Method := { name := "law", desc := "(JIII)Z", sig := { parameters := [.long, .int, .int, .int], returnType := some .boolean }, accessFlags := 9, code := some k1c2 }
/-- org/precedence/cli/SwitchPlanTargetPinLaw -/
def k1 : Class := { plain "org/precedence/cli/SwitchPlanTargetPinLaw" (some 0) with
  accessFlags := 49
  interfaces := #[]
  cf := some (fileOf pool1 34 #[] #[{ accessFlags := 2, nameIndex := 5, descriptorIndex := 6, attributes := #[] }, { accessFlags := 10, nameIndex := 37, descriptorIndex := 38, attributes := #[] }, { accessFlags := 9, nameIndex := 57, descriptorIndex := 58, attributes := #[] }] 49 2 #[] #[])
  fields := #[]
  methods := #[k1m0, k1m1, k1m2]
  instanceTypes := #[]
  staticTypes := #[]
  resolved := Array.replicate 61 none
  statics := none }

def pool2 : Array CpInfo := pool [(1, .class_ 2), (0, u "java/lang/constant/Constable"), (0, .class_ 4), (0, u "java/lang/Object")] 6

/-- java/lang/constant/Constable -/
def k2 : Class := { plain "java/lang/constant/Constable" (some 0) with
  accessFlags := 1537
  interfaces := #[]
  cf := some (fileOf pool2 1 #[] #[] 1537 3 #[] #[])
  fields := #[]
  methods := #[]
  instanceTypes := #[]
  staticTypes := #[]
  resolved := Array.replicate 11 none
  statics := none }

def pool3 : Array CpInfo := pool [(1, .class_ 2), (0, u "java/lang/Comparable"), (0, .class_ 4), (0, u "java/lang/Object")] 7

/-- java/lang/Comparable -/
def k3 : Class := { plain "java/lang/Comparable" (some 0) with
  accessFlags := 1537
  interfaces := #[]
  cf := some (fileOf pool3 1 #[] #[] 1537 3 #[] #[])
  fields := #[]
  methods := #[]
  instanceTypes := #[]
  staticTypes := #[]
  resolved := Array.replicate 12 none
  statics := none }

def pool4 : Array CpInfo := pool [(1, .class_ 2), (0, u "java/io/Serializable"), (0, .class_ 4), (0, u "java/lang/Object")] 2

/-- java/io/Serializable -/
def k4 : Class := { plain "java/io/Serializable" (some 0) with
  accessFlags := 1537
  interfaces := #[]
  cf := some (fileOf pool4 1 #[] #[] 1537 3 #[] #[])
  fields := #[]
  methods := #[]
  instanceTypes := #[]
  staticTypes := #[]
  resolved := Array.replicate 7 none
  statics := none }

def pool5 : Array CpInfo := pool [(2, .class_ 4), (1, u "java/lang/Enum"), (0, u "name"), (0, u "Ljava/lang/String;"), (2, u "ordinal"), (0, u "I"), (1, .class_ 14), (1, u "java/lang/Object"), (4, u "hash"), (86, .class_ 108), (1, u "java/lang/Enum$EnumDesc"), (2, .class_ 112), (0, u "java/lang/constant/Constable"), (0, .class_ 114), (0, u "java/lang/Comparable"), (0, .class_ 116), (0, u "java/io/Serializable")] 87

/-- java/lang/Enum -/
def k5 : Class := { plain "java/lang/Enum" (some 0) with
  accessFlags := 1057
  interfaces := #[2, 3, 4]
  cf := some (fileOf pool5 2 #[.nestMembers #[106]] #[] 1057 12 #[111, 113, 115] #[{ accessFlags := 18, nameIndex := 5, descriptorIndex := 6, attributes := #[] }, { accessFlags := 18, nameIndex := 9, descriptorIndex := 10, attributes := #[] }, { accessFlags := 2, nameIndex := 19, descriptorIndex := 10, attributes := #[] }])
  fields := #[{ name := "name", type := (.object "java/lang/String"), accessFlags := 18, slot := 0, constantValue := 0 }, { name := "ordinal", type := .int, accessFlags := 18, slot := 1, constantValue := 0 }, { name := "hash", type := .int, accessFlags := 2, slot := 2, constantValue := 0 }]
  methods := #[]
  instanceTypes := #[(.object "java/lang/String"), .int, .int]
  staticTypes := #[]
  resolved := Array.replicate 204 none
  statics := none }

def pool6 : Array CpInfo := pool [(1, .class_ 2), (0, u "org/precedence/Protocol"), (2, u "SEQUENCER"), (0, u "Lorg/precedence/Protocol;"), (2, u "SEQUENCER_PRIO"), (2, u "TOKEN_RING"), (2, u "TOKEN_RING_PRIO"), (2, u "CAUSAL"), (2, u "CAUSAL_PRIO"), (2, u "$VALUES"), (0, u "[Lorg/precedence/Protocol;"), (6, .class_ 34), (1, u "java/lang/Enum"), (8, u "protocolName"), (0, u "Ljava/lang/String;"), (2, u "keepsSendingOrder"), (0, u "Z"), (2, u "factory"), (0, u "Ljava/util/function/BiFunction;")] 171

/-- org/precedence/Protocol -/
def k6 : Class := { plain "org/precedence/Protocol" (some 5) with
  accessFlags := 16433
  interfaces := #[]
  cf := some (fileOf pool6 1 #[] #[] 16433 32 #[] #[{ accessFlags := 16409, nameIndex := 5, descriptorIndex := 6, attributes := #[] }, { accessFlags := 16409, nameIndex := 9, descriptorIndex := 6, attributes := #[] }, { accessFlags := 16409, nameIndex := 12, descriptorIndex := 6, attributes := #[] }, { accessFlags := 16409, nameIndex := 15, descriptorIndex := 6, attributes := #[] }, { accessFlags := 16409, nameIndex := 18, descriptorIndex := 6, attributes := #[] }, { accessFlags := 16409, nameIndex := 21, descriptorIndex := 6, attributes := #[] }, { accessFlags := 18, nameIndex := 43, descriptorIndex := 44, attributes := #[] }, { accessFlags := 18, nameIndex := 47, descriptorIndex := 48, attributes := #[] }, { accessFlags := 18, nameIndex := 51, descriptorIndex := 52, attributes := #[] }, { accessFlags := 4122, nameIndex := 24, descriptorIndex := 25, attributes := #[] }])
  fields := #[{ name := "SEQUENCER", type := (.object "org/precedence/Protocol"), accessFlags := 16409, slot := 0, constantValue := 0 }, { name := "SEQUENCER_PRIO", type := (.object "org/precedence/Protocol"), accessFlags := 16409, slot := 1, constantValue := 0 }, { name := "TOKEN_RING", type := (.object "org/precedence/Protocol"), accessFlags := 16409, slot := 2, constantValue := 0 }, { name := "TOKEN_RING_PRIO", type := (.object "org/precedence/Protocol"), accessFlags := 16409, slot := 3, constantValue := 0 }, { name := "CAUSAL", type := (.object "org/precedence/Protocol"), accessFlags := 16409, slot := 4, constantValue := 0 }, { name := "CAUSAL_PRIO", type := (.object "org/precedence/Protocol"), accessFlags := 16409, slot := 5, constantValue := 0 }, { name := "protocolName", type := (.object "java/lang/String"), accessFlags := 18, slot := 3, constantValue := 0 }, { name := "keepsSendingOrder", type := .boolean, accessFlags := 18, slot := 4, constantValue := 0 }, { name := "factory", type := (.object "java/util/function/BiFunction"), accessFlags := 18, slot := 5, constantValue := 0 }, { name := "$VALUES", type := (.array (.object "org/precedence/Protocol")), accessFlags := 4122, slot := 6, constantValue := 0 }]
  methods := #[]
  instanceTypes := #[(.object "java/lang/String"), .int, .int, (.object "java/lang/String"), .boolean, (.object "java/util/function/BiFunction")]
  staticTypes := #[(.object "org/precedence/Protocol"), (.object "org/precedence/Protocol"), (.object "org/precedence/Protocol"), (.object "org/precedence/Protocol"), (.object "org/precedence/Protocol"), (.object "org/precedence/Protocol"), (.array (.object "org/precedence/Protocol"))]
  resolved := Array.replicate 224 none
  statics := some 0 }

def pool7 : Array CpInfo := pool [(1, .class_ 2), (0, u "java/lang/Math"), (1, .class_ 6), (1, u "java/lang/Object"), (0, u "<init>"), (0, u "()V"), (89, .class_ 100), (1, u "java/lang/Math$RandomNumberGeneratorHolder"), (71, u "negativeZeroFloatBits"), (0, u "J"), (2, u "negativeZeroDoubleBits"), (21, u "max"), (46, u "$assertionsDisabled"), (0, u "Z"), (88, u "(II)I"), (2, u "twoToTheDoubleScaleDown"), (0, u "D"), (4, u "twoToTheDoubleScaleUp"), (9, u "E"), (3, u "PI"), (2, u "TAU"), (2, u "DEGREES_TO_RADIANS"), (0, u "RADIANS_TO_DEGREES")] 94

def k7m0 : Method := { name := "<init>", desc := "()V", sig := { parameters := [], returnType := none }, accessFlags := 2, code := none }
def k7c1 : Code := { maxStack := 2, maxLocals := 2, code := jdk_29_method_65_code, exceptionTable := #[], attributes := #[] }
def k7m1 : Method := { name := "max", desc := "(II)I", sig := { parameters := [.int, .int], returnType := some .int }, accessFlags := 9, code := some k7c1 }
/-- java/lang/Math -/
def k7 : Class := { plain "java/lang/Math" (some 0) with
  accessFlags := 49
  interfaces := #[]
  cf := some (fileOf pool7 1 #[.nestMembers #[98]] #[{ accessFlags := 2, nameIndex := 7, descriptorIndex := 8, attributes := #[] }, { accessFlags := 9, nameIndex := 198, descriptorIndex := 335, attributes := #[] }] 49 4 #[] #[{ accessFlags := 25, nameIndex := 354, descriptorIndex := 339, attributes := #[] }, { accessFlags := 25, nameIndex := 358, descriptorIndex := 339, attributes := #[] }, { accessFlags := 25, nameIndex := 361, descriptorIndex := 339, attributes := #[] }, { accessFlags := 26, nameIndex := 364, descriptorIndex := 339, attributes := #[] }, { accessFlags := 26, nameIndex := 365, descriptorIndex := 339, attributes := #[] }, { accessFlags := 26, nameIndex := 172, descriptorIndex := 173, attributes := #[] }, { accessFlags := 26, nameIndex := 176, descriptorIndex := 173, attributes := #[] }, { accessFlags := 8, nameIndex := 344, descriptorIndex := 339, attributes := #[] }, { accessFlags := 8, nameIndex := 338, descriptorIndex := 339, attributes := #[] }, { accessFlags := 4120, nameIndex := 245, descriptorIndex := 246, attributes := #[] }])
  fields := #[{ name := "E", type := .double, accessFlags := 25, slot := 0, constantValue := 0 }, { name := "PI", type := .double, accessFlags := 25, slot := 1, constantValue := 0 }, { name := "TAU", type := .double, accessFlags := 25, slot := 2, constantValue := 0 }, { name := "DEGREES_TO_RADIANS", type := .double, accessFlags := 26, slot := 3, constantValue := 0 }, { name := "RADIANS_TO_DEGREES", type := .double, accessFlags := 26, slot := 4, constantValue := 0 }, { name := "negativeZeroFloatBits", type := .long, accessFlags := 26, slot := 5, constantValue := 0 }, { name := "negativeZeroDoubleBits", type := .long, accessFlags := 26, slot := 6, constantValue := 0 }, { name := "twoToTheDoubleScaleUp", type := .double, accessFlags := 8, slot := 7, constantValue := 0 }, { name := "twoToTheDoubleScaleDown", type := .double, accessFlags := 8, slot := 8, constantValue := 0 }, { name := "$assertionsDisabled", type := .boolean, accessFlags := 4120, slot := 9, constantValue := 0 }]
  methods := #[k7m0, k7m1]
  instanceTypes := #[]
  staticTypes := #[.double, .double, .double, .double, .double, .long, .long, .double, .double, .boolean]
  resolved := Array.replicate 460 none
  statics := none }

def pool8 : Array CpInfo := pool [(1, .methodref 2 3), (0, .class_ 4), (0, .nameAndType 5 6), (0, u "java/lang/Object"), (0, u "<init>"), (0, u "()V"), (0, .class_ 8), (0, u "java/lang/Record")] 13

def k8c0 : Code := { maxStack := 1, maxLocals := 1, code := jdk_30_method_1_code, exceptionTable := #[], attributes := #[] }
def k8m0 : Method := { name := "<init>", desc := "()V", sig := { parameters := [], returnType := none }, accessFlags := 4, code := some k8c0 }
/-- java/lang/Record -/
def k8 : Class := { plain "java/lang/Record" (some 0) with
  accessFlags := 1057
  interfaces := #[]
  cf := some (fileOf pool8 7 #[] #[{ accessFlags := 4, nameIndex := 5, descriptorIndex := 6, attributes := #[] }] 1057 2 #[] #[])
  fields := #[]
  methods := #[k8m0]
  instanceTypes := #[]
  staticTypes := #[]
  resolved := Array.replicate 22 none
  statics := none }

def pool9 : Array CpInfo := pool [(1, .class_ 2), (0, u "org/precedence/cli/SwitchPlan"), (0, .methodref 4 5), (0, .class_ 6), (0, .nameAndType 7 8), (0, u "java/lang/Record"), (0, u "<init>"), (0, u "()V"), (0, .fieldref 1 10), (0, .nameAndType 11 12), (0, u "initial"), (0, u "Lorg/precedence/Protocol;"), (0, .fieldref 1 14), (0, .nameAndType 15 12), (0, u "other"), (0, .fieldref 1 17), (0, .nameAndType 18 19), (0, u "everyMs"), (0, u "I"), (64, .long 2), (3, u "(Lorg/precedence/Protocol;Lorg/precedence/Protocol;I)V"), (11, u "SWITCH_TO"), (0, u "Ljava/lang/String;"), (1, u "EVERY_MS"), (0, u "USAGE"), (2, u "ASKING_MEMBER"), (14, u "target"), (0, u "(J)Lorg/precedence/Protocol;")] 41

def k9c0 : Code := { maxStack := 2, maxLocals := 4, code := prog_60_method_1_code, exceptionTable := #[], attributes := #[] }
def k9m0 : Method := { name := "<init>", desc := "(Lorg/precedence/Protocol;Lorg/precedence/Protocol;I)V", sig := { parameters := [(.object "org/precedence/Protocol"), (.object "org/precedence/Protocol"), .int], returnType := none }, accessFlags := 0, code := some k9c0 }
def k9c1 : Code := { maxStack := 4, maxLocals := 3, code := prog_60_method_5_code, exceptionTable := #[], attributes := #[] }
def k9m1 : Method := { name := "target", desc := "(J)Lorg/precedence/Protocol;", sig := { parameters := [.long], returnType := some (.object "org/precedence/Protocol") }, accessFlags := 0, code := some k9c1 }
/-- org/precedence/cli/SwitchPlan -/
def k9 : Class := { plain "org/precedence/cli/SwitchPlan" (some 8) with
  accessFlags := 48
  interfaces := #[]
  cf := some (fileOf pool9 1 #[] #[{ accessFlags := 0, nameIndex := 7, descriptorIndex := 88, attributes := #[] }, { accessFlags := 0, nameIndex := 122, descriptorIndex := 123, attributes := #[] }] 48 4 #[] #[{ accessFlags := 18, nameIndex := 11, descriptorIndex := 12, attributes := #[] }, { accessFlags := 18, nameIndex := 15, descriptorIndex := 12, attributes := #[] }, { accessFlags := 18, nameIndex := 18, descriptorIndex := 19, attributes := #[] }, { accessFlags := 24, nameIndex := 100, descriptorIndex := 101, attributes := #[] }, { accessFlags := 24, nameIndex := 103, descriptorIndex := 101, attributes := #[] }, { accessFlags := 24, nameIndex := 104, descriptorIndex := 101, attributes := #[] }, { accessFlags := 24, nameIndex := 107, descriptorIndex := 19, attributes := #[] }])
  fields := #[{ name := "initial", type := (.object "org/precedence/Protocol"), accessFlags := 18, slot := 0, constantValue := 0 }, { name := "other", type := (.object "org/precedence/Protocol"), accessFlags := 18, slot := 1, constantValue := 0 }, { name := "everyMs", type := .int, accessFlags := 18, slot := 2, constantValue := 0 }, { name := "SWITCH_TO", type := (.object "java/lang/String"), accessFlags := 24, slot := 0, constantValue := 0 }, { name := "EVERY_MS", type := (.object "java/lang/String"), accessFlags := 24, slot := 1, constantValue := 0 }, { name := "USAGE", type := (.object "java/lang/String"), accessFlags := 24, slot := 2, constantValue := 0 }, { name := "ASKING_MEMBER", type := .int, accessFlags := 24, slot := 3, constantValue := 0 }]
  methods := #[k9m0, k9m1]
  instanceTypes := #[(.object "org/precedence/Protocol"), (.object "org/precedence/Protocol"), .int]
  staticTypes := #[(.object "java/lang/String"), (.object "java/lang/String"), (.object "java/lang/String"), .int]
  resolved := Array.replicate 165 none
  statics := none }

def pool10 : Array CpInfo := pool [(1, u "java/lang/Cloneable"), (0, .class_ 1), (0, u "java/lang/Object"), (0, .class_ 3)] 3

/-- java/lang/Cloneable -/
def k10 : Class := { plain "java/lang/Cloneable" (some 0) with
  accessFlags := 1537
  interfaces := #[]
  cf := some (fileOf pool10 2 #[] #[] 1537 4 #[] #[])
  fields := #[]
  methods := #[]
  instanceTypes := #[]
  staticTypes := #[]
  resolved := Array.replicate 8 none
  statics := none }

/-- the primitive byte -/
def k11 : Class := { plain "byte" none with kind := .primitive 'B', accessFlags := 0x411 }
/-- [B -/
def k12 : Class := { plain "[B" (some 0) with kind := .array 11 .byte, interfaces := #[10, 4], accessFlags := 1041 }

/-- the primitive int -/
def k13 : Class := { plain "int" none with kind := .primitive 'I', accessFlags := 0x411 }
/-- [I -/
def k14 : Class := { plain "[I" (some 0) with kind := .array 13 .int, interfaces := #[10, 4], accessFlags := 1041 }

def heap : Heap := #[{ cls := 6, slots := #[.ref 1, .ref 2, .ref 3, .ref 4, .ref 5, .ref 6, .null], vm := .statics 6 },
  { cls := 6, slots := #[.null, .int 0, .int 0, .null, .int 0, .null], vm := .none },
  { cls := 6, slots := #[.null, .int 1, .int 0, .null, .int 0, .null], vm := .none },
  { cls := 6, slots := #[.null, .int 2, .int 0, .null, .int 0, .null], vm := .none },
  { cls := 6, slots := #[.null, .int 3, .int 0, .null, .int 0, .null], vm := .none },
  { cls := 6, slots := #[.null, .int 4, .int 0, .null, .int 0, .null], vm := .none },
  { cls := 6, slots := #[.null, .int 5, .int 0, .null, .int 0, .null], vm := .none }]
def classes : Array Class := #[k0, k1, k2, k3, k4, k5, k6, k7, k8, k9, k10, k11, k12, k13, k14]
def interned : List (Array UInt16 × Addr) := []
def slotsUsed : Nat := 43
def theMethod : MethodId := ⟨1, 2⟩
def args0 : Array Value := #[.long 5, .int 5, .int 5, .int 5]
def aboutOver (below : List Frame) : State where
  vm := { classes := classes, interned := interned.toArray }
  heap := heap
  slotsUsed := slotsUsed
  threads := #[{ frames := .invoking theMethod args0 :: below }]
def below0 : List Frame := [.native { method := ⟨0, 0⟩, args := #[] }]
def about1 : State := aboutOver below0
def p0 : Program := .bare "" "" ""
def e0 : Env := launch0.env 0 0 0
theorem w_frames : about1.frames = Frame.invoking theMethod args0 :: below0 := rfl
set_option maxRecDepth 65536 in
theorem w_args : argsFit about1.vm theMethod args0 = true := by decide +kernel
set_option maxRecDepth 65536 in
theorem w_heap : heapFits about1 = true := by decide +kernel
set_option maxRecDepth 65536 in
theorem w_runnable : about1.curStatus? = some .runnable := by decide +kernel
set_option maxRecDepth 65536 in
theorem w_alone : about1.alone = true := by decide +kernel
set_option maxRecDepth 65536 in
theorem w_named : about1.methodNamed? x = some theMethod := by decide +kernel
set_option maxRecDepth 65536 in
theorem w_hears : about1.hears theMethod below0 = true := by decide +kernel
set_option maxRecDepth 65536 in
theorem w_ripe : about1.ripe theMethod args0 below0 = true := by decide +kernel
theorem w_running : about1.status = .running := rfl
set_option maxRecDepth 65536 in
theorem w_room : about1.hasRoom e0.platform room_1 = true :=
  launch0.hasRoom_least _ room_1 (by decide +kernel) (by decide +kernel) (by decide +kernel) (by decide +kernel) (by decide +kernel) (by decide +kernel)
theorem allAtoms_all (ts : List Jvm.Cond) (a : Array Jvm.Value) (st : Jvm.State) : (allAtoms ts).before a st = ts.all (fun c => c.before a st) := by
  induction ts with
  | nil => rfl
  | cons c t ih =>
    show (Jvm.Cond.and c (allAtoms t)).before a st = _
    rw [Jvm.Cond.before_and, ih, List.all_cons]
def words1 : List Jvm.Cond := Jvm.Cond.code x code maxLocals ret :: tables_1
/-- a 'code' word, met by the world's own term for the bytes: nothing is compared byte by byte -/
theorem code_word {y : MethodName} {bytes : ByteArray} {mx : Nat} {rt : Option FieldType} {a : Array Value} {s : State} {m : MethodId} {meth : Method} {c : Code} (h1 : s.methodNamed? y = some m) (h2 : s.vm.method? m = some meth) (h3 : meth.code = some c) (h4 : c.code = bytes)
    (h5 : (c.maxLocals == mx && c.exceptionTable.isEmpty && decide (c.maxStack ≤ mostOperands) && decide (meth.sig.returnType = rt) && !meth.locks && decide (parseMethodDescriptor y.desc = some meth.sig)) = true) : (Jvm.Cond.code y bytes mx rt).before a s = true := by
  simp only [Bool.and_eq_true, beq_iff_eq, Bool.not_eq_true', decide_eq_true_eq] at h5
  obtain ⟨⟨⟨⟨⟨g1, g2⟩, g3⟩, g4⟩, g5⟩, g6⟩ := h5
  simp [Cond.before, Cond.holds, Cond.value, h1, h2, h3, h4, g1, g2, g3, g4, g5, g6]
def isCode : Jvm.Cond → Bool
  | .code _ _ _ _ => true
  | _ => false
theorem all_split {L : List Jvm.Cond} {P : Jvm.Cond → Bool} (h1 : L.all (fun c => isCode c || P c) = true) (h2 : ∀ c ∈ L.filter isCode, P c = true) : L.all P = true := by
  refine List.all_eq_true.mpr fun c hc => ?_
  have h := List.all_eq_true.mp h1 c hc
  rcases Bool.eq_false_or_eq_true (isCode c) with hi | hi
  · exact h2 c (List.mem_filter.mpr ⟨hc, hi⟩)
  · simpa [hi] using h
set_option maxRecDepth 65536 in
theorem w_c0 : (Jvm.Cond.code x code maxLocals ret).before args0 about1 = true := code_word (m := ⟨1, 2⟩) (meth := k1m2) (c := k1c2) (by decide +kernel) rfl rfl rfl (by decide +kernel)
set_option maxRecDepth 65536 in
theorem w_c1 : (Jvm.Cond.code ({ cls := "org/precedence/cli/SwitchPlanTargetPinLaw", name := "pick", desc := "(I)Lorg/precedence/Protocol;" } : Jvm.MethodName) method_2_code (2 : Nat) (Option.some (Jvm.ClassFile.FieldType.object "org/precedence/Protocol"))).before args0 about1 = true := code_word (m := ⟨1, 1⟩) (meth := k1m1) (c := k1c1) (by decide +kernel) rfl rfl rfl (by decide +kernel)
set_option maxRecDepth 65536 in
theorem w_c2 : (Jvm.Cond.code ({ cls := "java/lang/Math", name := "max", desc := "(II)I" } : Jvm.MethodName) jdk_29_method_65_code (2 : Nat) (Option.some Jvm.ClassFile.FieldType.int)).before args0 about1 = true := code_word (m := ⟨7, 1⟩) (meth := k7m1) (c := k7c1) (by decide +kernel) rfl rfl rfl (by decide +kernel)
set_option maxRecDepth 65536 in
theorem w_c3 : (Jvm.Cond.code ({ cls := "org/precedence/cli/SwitchPlan", name := "<init>", desc := "(Lorg/precedence/Protocol;Lorg/precedence/Protocol;I)V" } : Jvm.MethodName) prog_60_method_1_code (4 : Nat) (Option.none : Option Jvm.ClassFile.FieldType)).before args0 about1 = true := code_word (m := ⟨9, 0⟩) (meth := k9m0) (c := k9c0) (by decide +kernel) rfl rfl rfl (by decide +kernel)
set_option maxRecDepth 65536 in
theorem w_c4 : (Jvm.Cond.code ({ cls := "java/lang/Record", name := "<init>", desc := "()V" } : Jvm.MethodName) jdk_30_method_1_code (1 : Nat) (Option.none : Option Jvm.ClassFile.FieldType)).before args0 about1 = true := code_word (m := ⟨8, 0⟩) (meth := k8m0) (c := k8c0) (by decide +kernel) rfl rfl rfl (by decide +kernel)
set_option maxRecDepth 65536 in
theorem w_c5 : (Jvm.Cond.code ({ cls := "java/lang/Object", name := "<init>", desc := "()V" } : Jvm.MethodName) object_method_1_code (1 : Nat) (Option.none : Option Jvm.ClassFile.FieldType)).before args0 about1 = true := code_word (m := ⟨0, 0⟩) (meth := k0m0) (c := k0c0) (by decide +kernel) rfl rfl rfl (by decide +kernel)
set_option maxRecDepth 65536 in
theorem w_c6 : (Jvm.Cond.code ({ cls := "org/precedence/cli/SwitchPlan", name := "target", desc := "(J)Lorg/precedence/Protocol;" } : Jvm.MethodName) prog_60_method_5_code (3 : Nat) (Option.some (Jvm.ClassFile.FieldType.object "org/precedence/Protocol"))).before args0 about1 = true := code_word (m := ⟨9, 1⟩) (meth := k9m1) (c := k9c1) (by decide +kernel) rfl rfl rfl (by decide +kernel)
def codes1 : List Jvm.Cond := [Jvm.Cond.code x code maxLocals ret, Jvm.Cond.code ({ cls := "org/precedence/cli/SwitchPlanTargetPinLaw", name := "pick", desc := "(I)Lorg/precedence/Protocol;" } : Jvm.MethodName) method_2_code (2 : Nat) (Option.some (Jvm.ClassFile.FieldType.object "org/precedence/Protocol")), Jvm.Cond.code ({ cls := "java/lang/Math", name := "max", desc := "(II)I" } : Jvm.MethodName) jdk_29_method_65_code (2 : Nat) (Option.some Jvm.ClassFile.FieldType.int), Jvm.Cond.code ({ cls := "org/precedence/cli/SwitchPlan", name := "<init>", desc := "(Lorg/precedence/Protocol;Lorg/precedence/Protocol;I)V" } : Jvm.MethodName) prog_60_method_1_code (4 : Nat) (Option.none : Option Jvm.ClassFile.FieldType), Jvm.Cond.code ({ cls := "java/lang/Record", name := "<init>", desc := "()V" } : Jvm.MethodName) jdk_30_method_1_code (1 : Nat) (Option.none : Option Jvm.ClassFile.FieldType), Jvm.Cond.code ({ cls := "java/lang/Object", name := "<init>", desc := "()V" } : Jvm.MethodName) object_method_1_code (1 : Nat) (Option.none : Option Jvm.ClassFile.FieldType), Jvm.Cond.code ({ cls := "org/precedence/cli/SwitchPlan", name := "target", desc := "(J)Lorg/precedence/Protocol;" } : Jvm.MethodName) prog_60_method_5_code (3 : Nat) (Option.some (Jvm.ClassFile.FieldType.object "org/precedence/Protocol"))]
set_option maxRecDepth 65536 in
theorem codes_eq : words1.filter isCode = codes1 := rfl
theorem w_codes : ∀ c ∈ words1.filter isCode, c.before args0 about1 = true := by
  rw [codes_eq]
  intro c hc
  simp only [codes1, List.mem_cons, List.not_mem_nil, or_false] at hc
  rcases hc with rfl | rfl | rfl | rfl | rfl | rfl | rfl
  · exact w_c0
  · exact w_c1
  · exact w_c2
  · exact w_c3
  · exact w_c4
  · exact w_c5
  · exact w_c6
set_option maxRecDepth 65536 in
theorem w_t1 : (words1.take 24).all (fun c => isCode c || c.before args0 about1) = true := by decide +kernel
set_option maxRecDepth 65536 in
theorem w_t2 : ((words1.drop 24).take 24).all (fun c => isCode c || c.before args0 about1) = true := by decide +kernel
set_option maxRecDepth 65536 in
theorem w_t3 : ((words1.drop 24).drop 24).all (fun c => isCode c || c.before args0 about1) = true := by decide +kernel
theorem w_tables : (allAtoms (Jvm.Cond.code x code maxLocals ret :: tables_1)).before args0 about1 = true := by
  rw [allAtoms_all]
  show words1.all (fun c => c.before args0 about1) = true
  refine all_split ?_ w_codes
  rw [← List.take_append_drop 24 words1, List.all_append, w_t1, ← List.take_append_drop 24 (words1.drop 24), List.all_append, w_t2, w_t3]
  rfl
set_option maxRecDepth 65536 in
theorem w_case : (Jvm.Cond.and given_1 narrow_1).before args0 about1 = true := by decide +kernel
theorem w_applies : (headSpec (Jvm.Cond.code x code maxLocals ret :: tables_1) room_1).applies x e0.platform about1 = true :=
  (Spec.applies_iff w_frames).mpr ⟨w_running, w_runnable, w_alone, w_named, w_hears, w_ripe, w_room, w_tables⟩
theorem atStart : AtStart classFile x code maxLocals ret World_1 tables_1 room_1 Calls_1 rest_1 Pre_1 launch0 p0 e0 about1 theMethod args0 below0 :=
  ⟨lists_1, trivial, launch0.admits_env _ _ _, launch0.least_env, fairChoices_fair.cas, fairChoices_fair.clock, w_frames, w_args, w_heap, w_applies, trivial, trivial, w_case⟩
end start1
theorem witness_1 : WitnessClaimed_1 := ⟨start1.p0, start1.e0, start1.about1, start1.theMethod, start1.args0, start1.below0, start1.atStart⟩
end Jvm.Pilot.@@N@@
