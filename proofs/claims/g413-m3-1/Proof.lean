import JvmDerived
import JvmDerived.Pilot.@@N@@Statement
import JvmDerived.Pilot.@@N@@Code
set_option linter.unusedVariables false
set_option linter.unusedSimpArgs false

namespace Jvm.RoadKit
open Sem ClassFile Op Lib Jvm.Stand Jvm.Free Jvm.LawKit
section New
variable {p : Program} {l : Launch} {e : Env} {R : Room} {s : State} {m : MethodId} {args : Array Value} {below : List Frame} {meth : Method} {c : Code} {T : State} {locs : List Loc} {cells slots : Nat}
theorem retI (X : Stand p l e R s m args below meth c T locs cells slots) (hx : p.tables.exec = Jvm.exec) {pc : Nat} {Ls : Array Slot} {z : Int32} {rest : List Value} (hret : meth.sig.returnType = some .int) (hd : decode c.code pc = .ok (.ireturn, 1)) {fs : List Frame}
    (hl : ∀ (f : JFrame) (acts : List Action), f.method = m → f.locked = none → f.entered = [] → (doReturn e (T.setTop f) acts (some (.int z))).1 = T.setFrames fs) : Steps p.tables e below (T.setTop (mkF m pc Ls (.int z :: rest))) (T.setFrames fs) := by
  have hm' : T.vm.method? m = some meth := X.method'
  have hn : narrow .int (.int z) = .int z := rfl
  show Steps p.tables e below (T.setTop { method := m, pc := pc, locals := Ls, stack := _ :: rest, locked := none }) _
  jvm_step X.here [X.here.top, hx, hd, hm', hret, hn]
  first | (intro acts; rw [hl _ acts rfl rfl rfl]) | rw [hl _ _ rfl rfl rfl]
  exact Steps.refl _
/-- the walk's goal, at any point of it -/
def Gl (p : Program) (e : Env) (below : List Frame) (s : State) (Q : Option Value → Heap → List Loc → Prop) (C N : Nat) (T : State) (g : JFrame) : Prop :=
  ∃ s₂ o, Steps p.tables e below (T.setTop g) s₂ ∧ s₂.status = .running ∧ Ended s₂ below o ∧ ∃ v L, o = .returned v ∧ Q v s₂.heap L ∧ FrameEnd s o s₂ L C N
variable {Q : Option Value → Heap → List Loc → Prop} {C N : Nat} {T' : State} {g g' : JFrame} {h : Heap}
theorem Gl.st (f : ∀ t, Steps p.tables e below (T'.setTop g') t → Steps p.tables e below (T.setTop g) t) (k : Gl p e below s Q C N T' g') : Gl p e below s Q C N T g := by
  obtain ⟨s₂, o, h1, r⟩ := k
  exact ⟨s₂, o, f _ h1, r⟩
theorem Gl.ret (X : Stand p l e R s m args below meth c T locs cells slots) (hlk : meth.locks = false) {v : Option Value} (hv : meth.sig.returnType = none → v = none) (eT : T.heap = h)
    (f : ∀ fs, (∀ (f : JFrame) (acts : List Action), f.method = m → f.locked = none → f.entered = [] → (doReturn e (T.setTop f) acts v).1 = T.setFrames fs) → Steps p.tables e below (T.setTop g) (T.setFrames fs)) (hc : cells ≤ C) (hn : slots ≤ N) (hQ : Q v h locs) : Gl p e below s Q C N T g := by
  obtain ⟨fs, hr, hrun, hended, hW, hsame⟩ := X.leave (v := v) hv hlk
  exact ⟨_, _, f fs hr, hrun, hended, _, _, rfl, by show Q v T.heap _; rw [eT]; exact hQ, ⟨_, rfl⟩, hW, hsame.mono hc hn⟩
theorem Arv.cellX {Z : State} {h : Heap} {a : Addr} {k : ClassId} {ty : FieldType} {z : Int32} {vs : List Value} {dv : Value} (F : Arv Z h a k ty z vs dv) : ∃ c : Cell, h[a]? = some c ∧ ∀ q, c.vm ≠ .statics q := by
  obtain ⟨c, A, -⟩ := F; exact ⟨c, A.1, A.2.1.1⟩
theorem selPrivate {s : State} {args : Array Value} {y z : MethodName} (hzy : z.cls = y.cls) (hsel : (Cond.selects z.cls z z).before args s = true) (hpriv : s.PrivateAt y) (hinst : (Cond.instanceMethod y).before args s = true) (hy : y.cls ≠ "java/lang/invoke/MethodHandle" ∧ y.cls ≠ "java/lang/invoke/VarHandle") : (Cond.selects y.cls y y).before args s = true := by
  obtain ⟨c2, r2, m2, -, -, q3, -, kP, hkP, hkPi⟩ := Cond.selects_spec hsel
  exact selects_self_of_private (by rw [← hzy]; exact findClass_of_methodNamed q3) hkP hkPi hpriv hinst hy
theorem Sta.keepX {Z : State} {h h' : Heap} {C n d : String} {v : Value} {ws : List Addr} (F : Sta Z h C n d v) (K : Keep h h' ws) (q : ∀ x ∈ ws, ∃ c : Cell, h[x]? = some c ∧ ∀ q, c.vm ≠ .statics q) : Sta Z h' C n d v := by
  obtain ⟨cf, i, k, f, st, cell, h1, h2, h3, h4, h5, h6, h7⟩ := F
  refine ⟨cf, i, k, f, st, cell, h1, h2, h3, h4, K.2.1 st cell h5 fun z => ?_, h6, h7⟩
  obtain ⟨c, e1, e2⟩ := q st z
  cases h5.symm.trans e1
  cases hv : cell.vm <;> simp [hv, VmData.isStatics] at h6
  exact e2 _ hv
end New
end Jvm.RoadKit
namespace Jvm.Pilot.@@N@@
open Jvm Jvm.ClassFile Sem Op Lib Jvm.Free Jvm.Stand Jvm.LawKit Jvm.RoadKit Bundle Jvm.Pilot.@@N@@.Jvm.D

def own_max (a b : Int32) : Int32 := if a < b then b else a
theorem d6_0 : decode jdk_29_method_65_code 0 = .ok (.iload_n 0, 1) := by decide +kernel
theorem d6_1 : decode jdk_29_method_65_code 1 = .ok (.iload_n 1, 1) := by decide +kernel
theorem d6_2 : decode jdk_29_method_65_code 2 = .ok (.if_icmp .lt 7, 3) := by decide +kernel
theorem d6_9 : decode jdk_29_method_65_code 9 = .ok (.iload_n 1, 1) := by decide +kernel
theorem d6_10 : decode jdk_29_method_65_code 10 = .ok (.ireturn, 1) := by decide +kernel
theorem d6_5 : decode jdk_29_method_65_code 5 = .ok (.iload_n 0, 1) := by decide +kernel
theorem d6_6 : decode jdk_29_method_65_code 6 = .ok (.goto 4, 3) := by decide +kernel
theorem ef_rm6 (m : MethodId) (pa : Int32) (qa : Int32) : entryFrame m #[(.int pa), (.int qa)] 2 = mkF m 0 #[.val (.int pa), .val (.int qa)] [] := by first | (simp [entryFrame, mkF, argsToLocals, Value.category]; done) | rfl
def Q_rm6 (Z : State) (pa : Int32) (qa : Int32)  (h0 : Heap) (n0 : Nat) (v : Option Value) (h : Heap) (L : List Loc) : Prop := v = some (.int (own_max pa qa)) ∧ Fr n0 L ∧ h = h0
set_option maxRecDepth 65536 in
set_option maxHeartbeats 40000000 in
theorem rm6 (l : Launch) (Z : State) (a0 : Array Value) (hw : ∀ d ∈ tables_1, d.before a0 Z = true) (ws : List Jvm.Cond) (pa : Int32) (qa : Int32)  (h0 : Heap) (n0 : Nat) (Z0 : n0 ≤ h0.size)  :
    MetFree l (⟨"java/lang/Math", "max", "(II)I"⟩ : MethodName) (head1 (Jvm.Cond.code (⟨"java/lang/Math", "max", "(II)I"⟩ : MethodName) jdk_29_method_65_code 2 (some .int) :: ws) ({ frames := 0, cells := 0, slots := 0, locals := 0 } : Room)) (fun aα Uα => aα = #[(.int pa), (.int qa)] ∧ Z.Warmed39 Uα.vm ∧ Uα.heap = h0) (fun _ _ _ _ _ => True) (fun _ Uα oα Uβ => ∃ vα Lα, oα = .returned vα ∧ Q_rm6 Z pa qa  h0 n0 vα Uβ.heap Lα ∧ FrameEnd Uα oα Uβ Lα ({ frames := 0, cells := 0, slots := 0, locals := 0 } : Room).cells ({ frames := 0, cells := 0, slots := 0, locals := 0 } : Room).slots) := by
  refine MetFree.of_bodySF (Jvm.Free.JP.mathPlain rfl (by decide +kernel)) hisR ?_
  intro p e s m args below meth c s₁ Bd hml0 hP hK
  obtain ⟨rfl, hZ, hh⟩ := hP
  have hx := Bd.exec
  have hby := Bd.bytes
  have hml : c.maxLocals = 2 := hml0
  have hown : s.vm.findClass "java/lang/Math" = some m.cls := findClass_of_methodNamed Bd.named
  have hnm := (name_of_methodNamed Bd.named Bd.method).1
  have X0 : Stand p l e ({ frames := 0, cells := 0, slots := 0, locals := 0 } : Room) s m #[(.int pa), (.int qa)] below meth c s₁ [] 0 0 := Stand.of_body Bd
  have e0 : s₁.heap = h0 := by rw [← hh, Bd.state]; rfl
  have N0 := Fr.nil n0
  suffices k0 : Gl p e below s (Q_rm6 Z pa qa  h0 n0) ({ frames := 0, cells := 0, slots := 0, locals := 0 } : Room).cells ({ frames := 0, cells := 0, slots := 0, locals := 0 } : Room).slots s₁ (mkF m 0 #[.val (.int pa), .val (.int qa)] []) from Gl.st (fun t k => castTop (ef_rm6 m pa qa) k) k0
  refine Gl.st (g' := (mkF m 1 #[.val (.int pa), .val (.int qa)] [(.int pa)])) (fun τ κ => XS.iloadN X0.here hx rfl (hb hby d6_0) rfl κ) ?_
  refine Gl.st (g' := (mkF m 2 #[.val (.int pa), .val (.int qa)] [(.int qa), (.int pa)])) (fun τ κ => XS.iloadN X0.here hx rfl (hb hby d6_1) rfl κ) ?_
  by_cases hc1 : pa < qa
  · -- pc 2: pa < qa
    refine Gl.st (g' := (mkF m 9 #[.val (.int pa), .val (.int qa)] [])) (fun τ κ => XS.icmpYes X0.here hx rfl (pc0 := 2) (pc' := 9) rfl (hb hby d6_2) rfl (tlt hc1).1 (by decide) (by decide) κ) ?_
    refine Gl.st (g' := (mkF m 10 #[.val (.int pa), .val (.int qa)] [(.int qa)])) (fun τ κ => XS.iloadN X0.here hx rfl (hb hby d6_9) rfl κ) ?_
    exact Gl.ret (v := some (.int qa)) X0 Bd.notSynchronized (fun h => by rw [Bd.returns] at h; cases h) e0 (fun fs hr => retI X0 hx Bd.returns (hb hby d6_10) hr) (by decide) (by decide) ⟨by simp [own_max, hc1], N0, rfl⟩
  · -- pc 2: not pa < qa
    refine Gl.st (g' := (mkF m 5 #[.val (.int pa), .val (.int qa)] [])) (fun τ κ => XS.icmpNo X0.here hx rfl (hb hby d6_2) rfl (flt hc1).1 κ) ?_
    refine Gl.st (g' := (mkF m 6 #[.val (.int pa), .val (.int qa)] [(.int pa)])) (fun τ κ => XS.iloadN X0.here hx rfl (hb hby d6_5) rfl κ) ?_
    refine Gl.st (g' := (mkF m 10 #[.val (.int pa), .val (.int qa)] [(.int pa)])) (fun τ κ => XS.goto X0.here hx rfl (pc0 := 6) (pc' := 10) rfl (hb hby d6_6) (by decide) (by decide) κ) ?_
    exact Gl.ret (v := some (.int pa)) X0 Bd.notSynchronized (fun h => by rw [Bd.returns] at h; cases h) e0 (fun fs hr => retI X0 hx Bd.returns (hb hby d6_10) hr) (by decide) (by decide) ⟨by simp [own_max, hc1], N0, rfl⟩
theorem d2_0 : decode jdk_30_method_1_code 0 = .ok (.aload_n 0, 1) := by decide +kernel
theorem d2_1 : decode jdk_30_method_1_code 1 = .ok (.invokespecial 1, 3) := by decide +kernel
theorem d2_4 : decode jdk_30_method_1_code 4 = .ok (.return_, 1) := by decide +kernel
theorem pn_java_lang_Record : plainName "java/lang/Record" = true := by first | (simp [plainName, overriddenIn]; done) | decide +kernel
theorem ef_rm2 (m : MethodId) (a : Addr) : entryFrame m #[(.ref a)] 1 = mkF m 0 #[.val (.ref a)] [] := by first | (simp [entryFrame, mkF, argsToLocals, Value.category]; done) | rfl
def Q_rm2 (Z : State) (a : Addr)  (h0 : Heap) (n0 : Nat) (v : Option Value) (h : Heap) (L : List Loc) : Prop := v = none ∧ Fr n0 L ∧ h = h0
set_option maxRecDepth 65536 in
set_option maxHeartbeats 40000000 in
theorem rm2 (l : Launch) (Z : State) (a0 : Array Value) (hw : ∀ d ∈ tables_1, d.before a0 Z = true) (ws : List Jvm.Cond) (a : Addr)  (h0 : Heap) (n0 : Nat) (Z0 : n0 ≤ h0.size)  :
    MetFree l (⟨"java/lang/Record", "<init>", "()V"⟩ : MethodName) (head1 (Jvm.Cond.code (⟨"java/lang/Record", "<init>", "()V"⟩ : MethodName) jdk_30_method_1_code 1 none :: ws) ({ frames := 1, cells := 0, slots := 0, locals := 12 } : Room)) (fun aα Uα => aα = #[(.ref a)] ∧ Z.Warmed39 Uα.vm ∧ Uα.heap = h0) (fun _ _ _ _ _ => True) (fun _ Uα oα Uβ => ∃ vα Lα, oα = .returned vα ∧ Q_rm2 Z a  h0 n0 vα Uβ.heap Lα ∧ FrameEnd Uα oα Uβ Lα ({ frames := 1, cells := 0, slots := 0, locals := 12 } : Room).cells ({ frames := 1, cells := 0, slots := 0, locals := 12 } : Room).slots) := by
  refine MetFree.of_bodySF (plainFor_of_name pn_java_lang_Record) hisR ?_
  intro p e s m args below meth c s₁ Bd hml0 hP hK
  obtain ⟨rfl, hZ, hh⟩ := hP
  have hx := Bd.exec
  have hby := Bd.bytes
  have hml : c.maxLocals = 1 := hml0
  have hown : s.vm.findClass "java/lang/Record" = some m.cls := findClass_of_methodNamed Bd.named
  have hnm := (name_of_methodNamed Bd.named Bd.method).1
  have X0 : Stand p l e ({ frames := 1, cells := 0, slots := 0, locals := 12 } : Room) s m #[(.ref a)] below meth c s₁ [] 0 0 := Stand.of_body Bd
  have e0 : s₁.heap = h0 := by rw [← hh, Bd.state]; rfl
  have N0 := Fr.nil n0
  suffices k0 : Gl p e below s (Q_rm2 Z a  h0 n0) ({ frames := 1, cells := 0, slots := 0, locals := 12 } : Room).cells ({ frames := 1, cells := 0, slots := 0, locals := 12 } : Room).slots s₁ (mkF m 0 #[.val (.ref a)] []) from Gl.st (fun t k => castTop (ef_rm2 m a) k) k0
  refine Gl.st (g' := (mkF m 1 #[.val (.ref a)] [(.ref a)])) (fun τ κ => XS.aloadN X0.here hx rfl (hb hby d2_0) rfl rfl κ) ?_
  obtain ⟨T2, X2, e2, st2⟩ := initO X0 hx hZ hown (hw _ (List.mem_of_getElem? (i := 12) rfl)) (hw _ (List.mem_of_getElem? (i := 13) rfl)) (hw _ (List.mem_of_getElem? (i := 14) rfl)) e0 (g := (mkF m 1 #[.val (.ref a)] [(.ref a)])) rfl (by rw [hml]; rfl) rfl (hb hby d2_1) (by decide) (W := 0) (by show 2 * 0 + _ ≤ _; exact Nat.le_of_eq rfl) (by decide)
  refine Gl.st (g' := (mkF m 4 #[.val (.ref a)] [])) (fun τ κ => st2 _ κ) ?_
  exact Gl.ret (v := none) X2 Bd.notSynchronized (fun _ => rfl) e2 (fun fs hr => X2.returnOut hx Bd.returns (hb hby d2_4) hr) (by decide) (by decide) ⟨rfl, N0, rfl⟩
theorem own_r1 (s d l : Int32) : ((s * d) + (l * (d + (1 : Int32)))) = (((s + l) * d) + l) := by grind
theorem own_r2 (s l r : Int32) : ((s * r) + (l * (r + (1 : Int32)))) = (((s + l) * r) + (own_max (0 : Int32) ((s + l) - s))) → True := fun _ => trivial
theorem own_r3 (s d l : Int32) (h : ¬ l < 0) : ((s * d) + (l * (d + (1 : Int32)))) = (((s + l) * d) + (own_max (0 : Int32) ((s + l) - s))) := by
  have e : s + l - s = l := by grind
  rw [e]
  have m : own_max 0 l = l := by
    unfold own_max
    by_cases q : 0 < l
    · simp [q]
    · rw [if_neg q]
      rw [← Int32.toInt_inj]; rw [Int32.lt_iff_toInt_lt] at h q
      simp only [show (0 : Int32).toInt = 0 from rfl] at *
      omega
  rw [m]; grind
theorem own_nn (x : Int32) : ¬ (x &&& (1023 : Int32)) < 0 := by
  have h := c_mask x 1023 10 (by decide) (by decide)
  rw [Int32.lt_iff_toInt_lt, h]
  simp only [show (0 : Int32).toInt = 0 from rfl]
  omega
theorem d1_0 : decode prog_17_method_1_code 0 = .ok (.aload_n 0, 1) := by decide +kernel
theorem d1_1 : decode prog_17_method_1_code 1 = .ok (.invokespecial 1, 3) := by decide +kernel
theorem pd_0 : parseMethodDescriptor "()V" = some ⟨[], none⟩ := by decide +kernel
theorem d1_4 : decode prog_17_method_1_code 4 = .ok (.aload_n 0, 1) := by decide +kernel
theorem d1_5 : decode prog_17_method_1_code 5 = .ok (.iload_n 1, 1) := by decide +kernel
theorem d1_6 : decode prog_17_method_1_code 6 = .ok (.putfield 7, 3) := by decide +kernel
theorem d1_9 : decode prog_17_method_1_code 9 = .ok (.aload_n 0, 1) := by decide +kernel
theorem d1_10 : decode prog_17_method_1_code 10 = .ok (.iload_n 2, 1) := by decide +kernel
theorem d1_11 : decode prog_17_method_1_code 11 = .ok (.putfield 13, 3) := by decide +kernel
theorem d1_14 : decode prog_17_method_1_code 14 = .ok (.aload_n 0, 1) := by decide +kernel
theorem d1_15 : decode prog_17_method_1_code 15 = .ok (.iload_n 3, 1) := by decide +kernel
theorem d1_16 : decode prog_17_method_1_code 16 = .ok (.putfield 16, 3) := by decide +kernel
theorem d1_19 : decode prog_17_method_1_code 19 = .ok (.aload_n 0, 1) := by decide +kernel
theorem d1_20 : decode prog_17_method_1_code 20 = .ok (.iload 4, 2) := by decide +kernel
theorem d1_22 : decode prog_17_method_1_code 22 = .ok (.putfield 19, 3) := by decide +kernel
theorem d1_25 : decode prog_17_method_1_code 25 = .ok (.return_, 1) := by decide +kernel
theorem pn_com_example_quietzone_quietzone_QrBlockTable_Blocks : plainName "com/example/quietzone/quietzone/QrBlockTable$Blocks" = true := by first | (simp [plainName, overriddenIn]; done) | decide +kernel
theorem ef_rm1 (m : MethodId) (a : Addr) (p0 : Int32) (p1 : Int32) (p2 : Int32) (p3 : Int32) : entryFrame m #[(.ref a), (.int p0), (.int p1), (.int p2), (.int p3)] 5 = mkF m 0 #[.val (.ref a), .val (.int p0), .val (.int p1), .val (.int p2), .val (.int p3)] [] := by first | (simp [entryFrame, mkF, argsToLocals, Value.category]; done) | rfl
def Q_rm1 (Z : State) (a : Addr) (p0 : Int32) (p1 : Int32) (p2 : Int32) (p3 : Int32)  (h0 : Heap) (n0 : Nat) (v : Option Value) (h : Heap) (L : List Loc) : Prop := v = none ∧ Fr n0 L ∧ Keep h0 h [a] ∧ Exa Z h a "com/example/quietzone/quietzone/QrBlockTable$Blocks" ∧ Fld Z h a "com/example/quietzone/quietzone/QrBlockTable$Blocks" "ecPerBlock" "I" (.int p0) ∧ Fld Z h a "com/example/quietzone/quietzone/QrBlockTable$Blocks" "shortBlocks" "I" (.int p1) ∧ Fld Z h a "com/example/quietzone/quietzone/QrBlockTable$Blocks" "shortData" "I" (.int p2) ∧ Fld Z h a "com/example/quietzone/quietzone/QrBlockTable$Blocks" "longBlocks" "I" (.int p3)
set_option maxRecDepth 65536 in
set_option maxHeartbeats 40000000 in
theorem rm1 (l : Launch) (Z : State) (a0 : Array Value) (hw : ∀ d ∈ tables_1, d.before a0 Z = true) (ws : List Jvm.Cond) (a : Addr) (p0 : Int32) (p1 : Int32) (p2 : Int32) (p3 : Int32)  (h0 : Heap) (n0 : Nat) (Z0 : n0 ≤ h0.size) (E0 : Exa Z h0 a "com/example/quietzone/quietzone/QrBlockTable$Blocks") (g0 : n0 ≤ a) (F0 : Fld Z h0 a "com/example/quietzone/quietzone/QrBlockTable$Blocks" "ecPerBlock" "I" (.int (0 : Int32))) (F1 : Fld Z h0 a "com/example/quietzone/quietzone/QrBlockTable$Blocks" "shortBlocks" "I" (.int (0 : Int32))) (F2 : Fld Z h0 a "com/example/quietzone/quietzone/QrBlockTable$Blocks" "shortData" "I" (.int (0 : Int32))) (F3 : Fld Z h0 a "com/example/quietzone/quietzone/QrBlockTable$Blocks" "longBlocks" "I" (.int (0 : Int32))) :
    MetFree l (⟨"com/example/quietzone/quietzone/QrBlockTable$Blocks", "<init>", "(IIII)V"⟩ : MethodName) (head1 (Jvm.Cond.code (⟨"com/example/quietzone/quietzone/QrBlockTable$Blocks", "<init>", "(IIII)V"⟩ : MethodName) prog_17_method_1_code 5 none :: ws) ({ frames := 2, cells := 0, slots := 0, locals := 24 } : Room)) (fun aα Uα => aα = #[(.ref a), (.int p0), (.int p1), (.int p2), (.int p3)] ∧ Z.Warmed39 Uα.vm ∧ Uα.heap = h0) (fun _ _ _ _ _ => True) (fun _ Uα oα Uβ => ∃ vα Lα, oα = .returned vα ∧ Q_rm1 Z a p0 p1 p2 p3  h0 n0 vα Uβ.heap Lα ∧ FrameEnd Uα oα Uβ Lα ({ frames := 2, cells := 0, slots := 0, locals := 24 } : Room).cells ({ frames := 2, cells := 0, slots := 0, locals := 24 } : Room).slots) := by
  refine MetFree.of_bodySF (plainFor_of_name pn_com_example_quietzone_quietzone_QrBlockTable_Blocks) hisR ?_
  intro p e s m args below meth c s₁ Bd hml0 hP hK
  obtain ⟨rfl, hZ, hh⟩ := hP
  have hx := Bd.exec
  have hby := Bd.bytes
  have hml : c.maxLocals = 5 := hml0
  have hown : s.vm.findClass "com/example/quietzone/quietzone/QrBlockTable$Blocks" = some m.cls := findClass_of_methodNamed Bd.named
  have hnm := (name_of_methodNamed Bd.named Bd.method).1
  have X0 : Stand p l e ({ frames := 2, cells := 0, slots := 0, locals := 24 } : Room) s m #[(.ref a), (.int p0), (.int p1), (.int p2), (.int p3)] below meth c s₁ [] 0 0 := Stand.of_body Bd
  have e0 : s₁.heap = h0 := by rw [← hh, Bd.state]; rfl
  have N0 := Fr.nil n0
  suffices k0 : Gl p e below s (Q_rm1 Z a p0 p1 p2 p3  h0 n0) ({ frames := 2, cells := 0, slots := 0, locals := 24 } : Room).cells ({ frames := 2, cells := 0, slots := 0, locals := 24 } : Room).slots s₁ (mkF m 0 #[.val (.ref a), .val (.int p0), .val (.int p1), .val (.int p2), .val (.int p3)] []) from Gl.st (fun t k => castTop (ef_rm1 m a p0 p1 p2 p3) k) k0
  refine Gl.st (g' := (mkF m 1 #[.val (.ref a), .val (.int p0), .val (.int p1), .val (.int p2), .val (.int p3)] [(.ref a)])) (fun τ κ => XS.aloadN X0.here hx rfl (hb hby d1_0) rfl rfl κ) ?_
  obtain ⟨rv3, _, ⟨T3, L3, k3, n3⟩, -, X3, ⟨Lc3, hQ3, l3, y3, z3⟩, st3⟩ := X0.specialBack hx (y := (⟨"java/lang/Record", "<init>", "()V"⟩ : MethodName)) rfl hown (mvT hZ (hw _ (List.mem_of_getElem? (i := 7) rfl))) (mvT hZ (hw _ (List.mem_of_getElem? (i := 8) rfl))) (mvT hZ (hw _ (List.mem_of_getElem? (i := 11) rfl))) (by decide) (backOf (W := 0) (rm2 l Z a0 hw [] a h0 n0 Z0 ) hZ (hw _ (List.mem_of_getElem? (i := 11) rfl)) (hw _ (List.mem_of_getElem? (i := 10) rfl)) (by decide) (by decide)) (g := (mkF m 1 #[.val (.ref a), .val (.int p0), .val (.int p1), .val (.int p2), .val (.int p3)] [(.ref a)])) rfl (by rw [hml]; rfl) (Steps.refl _) (a := a) (argsL := []) (rest := []) (lenOf pd_0 rfl) rfl (by show 2 * 0 + _ ≤ _; exact Nat.le_of_eq rfl) (hb hby d1_1) (fun _ _ => ⟨rfl, e0, (by decide : 0 + 0 ≤ _), (by decide : 0 + 0 ≤ _)⟩)
  dsimp only [Pt.U, Pt.locs, Pt.cells, Pt.slots] at X3 l3 y3 z3 st3 hQ3
  subst l3 y3 z3
  obtain ⟨rfl, N3q, e3⟩ := hQ3
  have N3 := Fr.app N0 N3q
  refine Gl.st (g' := (mkF m 4 #[.val (.ref a), .val (.int p0), .val (.int p1), .val (.int p2), .val (.int p3)] [])) (fun τ κ => st3.trans κ) ?_
  refine Gl.st (g' := (mkF m 5 #[.val (.ref a), .val (.int p0), .val (.int p1), .val (.int p2), .val (.int p3)] [(.ref a)])) (fun τ κ => XS.aloadN X3.here hx rfl (hb hby d1_4) rfl rfl κ) ?_
  refine Gl.st (g' := (mkF m 6 #[.val (.ref a), .val (.int p0), .val (.int p1), .val (.int p2), .val (.int p3)] [(.int p0), (.ref a)])) (fun τ κ => XS.iloadN X3.here hx rfl (hb hby d1_5) rfl κ) ?_
  obtain ⟨T4, h4, X4, e4, W4, st4⟩ := putF X3 hx hZ hown (host := "") (Or.inl (hw _ (List.mem_of_getElem? (i := 15) rfl))) Via.refl e3 F0 E0 (Or.inr ⟨(hw _ (List.mem_of_getElem? (i := 16) rfl)), rfl, hnm⟩) (hw _ (List.mem_of_getElem? (i := 2) rfl)) (ty := .int) (by decide) rfl rfl (g := (mkF m 6 #[.val (.ref a), .val (.int p0), .val (.int p1), .val (.int p2), .val (.int p3)] [(.int p0), (.ref a)])) rfl rfl (hb hby d1_6)
  have E_5 := E0.wr W4
  have F_7 := F1.other W4 (Or.inr (slot_ne (Or.inr (hw _ (List.mem_of_getElem? (i := 18) rfl))) (Or.inr (hw _ (List.mem_of_getElem? (i := 16) rfl))) (by decide) (t := .int) (t' := .int) (by decide) (by decide)))
  have F_8 := F2.other W4 (Or.inr (slot_ne (Or.inr (hw _ (List.mem_of_getElem? (i := 20) rfl))) (Or.inr (hw _ (List.mem_of_getElem? (i := 16) rfl))) (by decide) (t := .int) (t' := .int) (by decide) (by decide)))
  have F_9 := F3.other W4 (Or.inr (slot_ne (Or.inr (hw _ (List.mem_of_getElem? (i := 22) rfl))) (Or.inr (hw _ (List.mem_of_getElem? (i := 16) rfl))) (by decide) (t := .int) (t' := .int) (by decide) (by decide)))
  have N4 := Fr.snoc X4 N3 g0
  have Z4 : n0 ≤ h4.size := Nat.le_trans Z0 (Nat.le_of_eq W4.size.symm)
  have K4 : Keep h0 h4 [a] := (Keep.refl h0 [a]).wr W4 (Or.inl (List.mem_of_getElem? (i := 0) rfl))
  have F_10 := F0.same W4
  refine Gl.st (g' := (mkF m 9 #[.val (.ref a), .val (.int p0), .val (.int p1), .val (.int p2), .val (.int p3)] [])) (fun τ κ => st4 _ κ) ?_
  refine Gl.st (g' := (mkF m 10 #[.val (.ref a), .val (.int p0), .val (.int p1), .val (.int p2), .val (.int p3)] [(.ref a)])) (fun τ κ => XS.aloadN X4.here hx rfl (hb hby d1_9) rfl rfl κ) ?_
  refine Gl.st (g' := (mkF m 11 #[.val (.ref a), .val (.int p0), .val (.int p1), .val (.int p2), .val (.int p3)] [(.int p1), (.ref a)])) (fun τ κ => XS.iloadN X4.here hx rfl (hb hby d1_10) rfl κ) ?_
  obtain ⟨T11, h11, X11, e11, W11, st11⟩ := putF X4 hx hZ hown (host := "") (Or.inl (hw _ (List.mem_of_getElem? (i := 17) rfl))) Via.refl e4 F_7 E_5 (Or.inr ⟨(hw _ (List.mem_of_getElem? (i := 18) rfl)), rfl, hnm⟩) (hw _ (List.mem_of_getElem? (i := 2) rfl)) (ty := .int) (by decide) rfl rfl (g := (mkF m 11 #[.val (.ref a), .val (.int p0), .val (.int p1), .val (.int p2), .val (.int p3)] [(.int p1), (.ref a)])) rfl rfl (hb hby d1_11)
  have E_12 := E_5.wr W11
  have F_13 := F_10.other W11 (Or.inr (slot_ne (Or.inr (hw _ (List.mem_of_getElem? (i := 16) rfl))) (Or.inr (hw _ (List.mem_of_getElem? (i := 18) rfl))) (by decide) (t := .int) (t' := .int) (by decide) (by decide)))
  have F_15 := F_8.other W11 (Or.inr (slot_ne (Or.inr (hw _ (List.mem_of_getElem? (i := 20) rfl))) (Or.inr (hw _ (List.mem_of_getElem? (i := 18) rfl))) (by decide) (t := .int) (t' := .int) (by decide) (by decide)))
  have F_16 := F_9.other W11 (Or.inr (slot_ne (Or.inr (hw _ (List.mem_of_getElem? (i := 22) rfl))) (Or.inr (hw _ (List.mem_of_getElem? (i := 18) rfl))) (by decide) (t := .int) (t' := .int) (by decide) (by decide)))
  have N11 := Fr.snoc X11 N4 g0
  have Z11 : n0 ≤ h11.size := Nat.le_trans Z4 (Nat.le_of_eq W11.size.symm)
  have K11 : Keep h0 h11 [a] := K4.wr W11 (Or.inl (List.mem_of_getElem? (i := 0) rfl))
  have F_17 := F_7.same W11
  refine Gl.st (g' := (mkF m 14 #[.val (.ref a), .val (.int p0), .val (.int p1), .val (.int p2), .val (.int p3)] [])) (fun τ κ => st11 _ κ) ?_
  refine Gl.st (g' := (mkF m 15 #[.val (.ref a), .val (.int p0), .val (.int p1), .val (.int p2), .val (.int p3)] [(.ref a)])) (fun τ κ => XS.aloadN X11.here hx rfl (hb hby d1_14) rfl rfl κ) ?_
  refine Gl.st (g' := (mkF m 16 #[.val (.ref a), .val (.int p0), .val (.int p1), .val (.int p2), .val (.int p3)] [(.int p2), (.ref a)])) (fun τ κ => XS.iloadN X11.here hx rfl (hb hby d1_15) rfl κ) ?_
  obtain ⟨T18, h18, X18, e18, W18, st18⟩ := putF X11 hx hZ hown (host := "") (Or.inl (hw _ (List.mem_of_getElem? (i := 19) rfl))) Via.refl e11 F_15 E_12 (Or.inr ⟨(hw _ (List.mem_of_getElem? (i := 20) rfl)), rfl, hnm⟩) (hw _ (List.mem_of_getElem? (i := 2) rfl)) (ty := .int) (by decide) rfl rfl (g := (mkF m 16 #[.val (.ref a), .val (.int p0), .val (.int p1), .val (.int p2), .val (.int p3)] [(.int p2), (.ref a)])) rfl rfl (hb hby d1_16)
  have E_19 := E_12.wr W18
  have F_20 := F_13.other W18 (Or.inr (slot_ne (Or.inr (hw _ (List.mem_of_getElem? (i := 16) rfl))) (Or.inr (hw _ (List.mem_of_getElem? (i := 20) rfl))) (by decide) (t := .int) (t' := .int) (by decide) (by decide)))
  have F_21 := F_17.other W18 (Or.inr (slot_ne (Or.inr (hw _ (List.mem_of_getElem? (i := 18) rfl))) (Or.inr (hw _ (List.mem_of_getElem? (i := 20) rfl))) (by decide) (t := .int) (t' := .int) (by decide) (by decide)))
  have F_23 := F_16.other W18 (Or.inr (slot_ne (Or.inr (hw _ (List.mem_of_getElem? (i := 22) rfl))) (Or.inr (hw _ (List.mem_of_getElem? (i := 20) rfl))) (by decide) (t := .int) (t' := .int) (by decide) (by decide)))
  have N18 := Fr.snoc X18 N11 g0
  have Z18 : n0 ≤ h18.size := Nat.le_trans Z11 (Nat.le_of_eq W18.size.symm)
  have K18 : Keep h0 h18 [a] := K11.wr W18 (Or.inl (List.mem_of_getElem? (i := 0) rfl))
  have F_24 := F_15.same W18
  refine Gl.st (g' := (mkF m 19 #[.val (.ref a), .val (.int p0), .val (.int p1), .val (.int p2), .val (.int p3)] [])) (fun τ κ => st18 _ κ) ?_
  refine Gl.st (g' := (mkF m 20 #[.val (.ref a), .val (.int p0), .val (.int p1), .val (.int p2), .val (.int p3)] [(.ref a)])) (fun τ κ => XS.aloadN X18.here hx rfl (hb hby d1_19) rfl rfl κ) ?_
  refine Gl.st (g' := (mkF m 22 #[.val (.ref a), .val (.int p0), .val (.int p1), .val (.int p2), .val (.int p3)] [(.int p3), (.ref a)])) (fun τ κ => XS.iload X18.here hx rfl (hb hby d1_20) rfl κ) ?_
  obtain ⟨T25, h25, X25, e25, W25, st25⟩ := putF X18 hx hZ hown (host := "") (Or.inl (hw _ (List.mem_of_getElem? (i := 21) rfl))) Via.refl e18 F_23 E_19 (Or.inr ⟨(hw _ (List.mem_of_getElem? (i := 22) rfl)), rfl, hnm⟩) (hw _ (List.mem_of_getElem? (i := 2) rfl)) (ty := .int) (by decide) rfl rfl (g := (mkF m 22 #[.val (.ref a), .val (.int p0), .val (.int p1), .val (.int p2), .val (.int p3)] [(.int p3), (.ref a)])) rfl rfl (hb hby d1_22)
  have E_26 := E_19.wr W25
  have F_27 := F_20.other W25 (Or.inr (slot_ne (Or.inr (hw _ (List.mem_of_getElem? (i := 16) rfl))) (Or.inr (hw _ (List.mem_of_getElem? (i := 22) rfl))) (by decide) (t := .int) (t' := .int) (by decide) (by decide)))
  have F_28 := F_21.other W25 (Or.inr (slot_ne (Or.inr (hw _ (List.mem_of_getElem? (i := 18) rfl))) (Or.inr (hw _ (List.mem_of_getElem? (i := 22) rfl))) (by decide) (t := .int) (t' := .int) (by decide) (by decide)))
  have F_29 := F_24.other W25 (Or.inr (slot_ne (Or.inr (hw _ (List.mem_of_getElem? (i := 20) rfl))) (Or.inr (hw _ (List.mem_of_getElem? (i := 22) rfl))) (by decide) (t := .int) (t' := .int) (by decide) (by decide)))
  have N25 := Fr.snoc X25 N18 g0
  have Z25 : n0 ≤ h25.size := Nat.le_trans Z18 (Nat.le_of_eq W25.size.symm)
  have K25 : Keep h0 h25 [a] := K18.wr W25 (Or.inl (List.mem_of_getElem? (i := 0) rfl))
  have F_31 := F_23.same W25
  refine Gl.st (g' := (mkF m 25 #[.val (.ref a), .val (.int p0), .val (.int p1), .val (.int p2), .val (.int p3)] [])) (fun τ κ => st25 _ κ) ?_
  exact Gl.ret (v := none) X25 Bd.notSynchronized (fun _ => rfl) e25 (fun fs hr => X25.returnOut hx Bd.returns (hb hby d1_25) hr) (by decide) (by decide) ⟨rfl, N25, K25, E_26, F_27, F_28, F_29, F_31⟩
theorem d4_0 : decode prog_17_method_5_code 0 = .ok (.aload_n 0, 1) := by decide +kernel
theorem d4_1 : decode prog_17_method_5_code 1 = .ok (.getfield 13, 3) := by decide +kernel
theorem d4_4 : decode prog_17_method_5_code 4 = .ok (.aload_n 0, 1) := by decide +kernel
theorem d4_5 : decode prog_17_method_5_code 5 = .ok (.getfield 16, 3) := by decide +kernel
theorem d4_8 : decode prog_17_method_5_code 8 = .ok (.imul, 1) := by decide +kernel
theorem d4_9 : decode prog_17_method_5_code 9 = .ok (.aload_n 0, 1) := by decide +kernel
theorem d4_10 : decode prog_17_method_5_code 10 = .ok (.getfield 19, 3) := by decide +kernel
theorem d4_13 : decode prog_17_method_5_code 13 = .ok (.aload_n 0, 1) := by decide +kernel
theorem d4_14 : decode prog_17_method_5_code 14 = .ok (.getfield 16, 3) := by decide +kernel
theorem d4_17 : decode prog_17_method_5_code 17 = .ok (.iconst 1, 1) := by decide +kernel
theorem d4_18 : decode prog_17_method_5_code 18 = .ok (.iadd, 1) := by decide +kernel
theorem d4_19 : decode prog_17_method_5_code 19 = .ok (.imul, 1) := by decide +kernel
theorem d4_20 : decode prog_17_method_5_code 20 = .ok (.iadd, 1) := by decide +kernel
theorem d4_21 : decode prog_17_method_5_code 21 = .ok (.ireturn, 1) := by decide +kernel
theorem ef_rm4 (m : MethodId) (a : Addr) : entryFrame m #[(.ref a)] 1 = mkF m 0 #[.val (.ref a)] [] := by first | (simp [entryFrame, mkF, argsToLocals, Value.category]; done) | rfl
def Q_rm4 (Z : State) (a : Addr) (w1 : Int32) (w2 : Int32) (w3 : Int32) (h0 : Heap) (n0 : Nat) (v : Option Value) (h : Heap) (L : List Loc) : Prop := v = some (.int ((w1 * w2) + (w3 * (w2 + (1 : Int32))))) ∧ Fr n0 L ∧ h = h0
set_option maxRecDepth 65536 in
set_option maxHeartbeats 40000000 in
theorem rm4 (l : Launch) (Z : State) (a0 : Array Value) (hw : ∀ d ∈ tables_1, d.before a0 Z = true) (ws : List Jvm.Cond) (a : Addr) (w1 : Int32) (w2 : Int32) (w3 : Int32) (h0 : Heap) (n0 : Nat) (Z0 : n0 ≤ h0.size) (F1 : Fld Z h0 a "com/example/quietzone/quietzone/QrBlockTable$Blocks" "shortBlocks" "I" (.int w1)) (F2 : Fld Z h0 a "com/example/quietzone/quietzone/QrBlockTable$Blocks" "shortData" "I" (.int w2)) (F3 : Fld Z h0 a "com/example/quietzone/quietzone/QrBlockTable$Blocks" "longBlocks" "I" (.int w3)) :
    MetFree l (⟨"com/example/quietzone/quietzone/QrBlockTable$Blocks", "dataCodewords", "()I"⟩ : MethodName) (head1 (Jvm.Cond.code (⟨"com/example/quietzone/quietzone/QrBlockTable$Blocks", "dataCodewords", "()I"⟩ : MethodName) prog_17_method_5_code 1 (some .int) :: ws) ({ frames := 0, cells := 0, slots := 0, locals := 0 } : Room)) (fun aα Uα => aα = #[(.ref a)] ∧ Z.Warmed39 Uα.vm ∧ Uα.heap = h0) (fun _ _ _ _ _ => True) (fun _ Uα oα Uβ => ∃ vα Lα, oα = .returned vα ∧ Q_rm4 Z a w1 w2 w3 h0 n0 vα Uβ.heap Lα ∧ FrameEnd Uα oα Uβ Lα ({ frames := 0, cells := 0, slots := 0, locals := 0 } : Room).cells ({ frames := 0, cells := 0, slots := 0, locals := 0 } : Room).slots) := by
  refine MetFree.of_bodySF (plainFor_of_name pn_com_example_quietzone_quietzone_QrBlockTable_Blocks) hisR ?_
  intro p e s m args below meth c s₁ Bd hml0 hP hK
  obtain ⟨rfl, hZ, hh⟩ := hP
  have hx := Bd.exec
  have hby := Bd.bytes
  have hml : c.maxLocals = 1 := hml0
  have hown : s.vm.findClass "com/example/quietzone/quietzone/QrBlockTable$Blocks" = some m.cls := findClass_of_methodNamed Bd.named
  have hnm := (name_of_methodNamed Bd.named Bd.method).1
  have X0 : Stand p l e ({ frames := 0, cells := 0, slots := 0, locals := 0 } : Room) s m #[(.ref a)] below meth c s₁ [] 0 0 := Stand.of_body Bd
  have e0 : s₁.heap = h0 := by rw [← hh, Bd.state]; rfl
  have N0 := Fr.nil n0
  suffices k0 : Gl p e below s (Q_rm4 Z a w1 w2 w3 h0 n0) ({ frames := 0, cells := 0, slots := 0, locals := 0 } : Room).cells ({ frames := 0, cells := 0, slots := 0, locals := 0 } : Room).slots s₁ (mkF m 0 #[.val (.ref a)] []) from Gl.st (fun t k => castTop (ef_rm4 m a) k) k0
  refine Gl.st (g' := (mkF m 1 #[.val (.ref a)] [(.ref a)])) (fun τ κ => XS.aloadN X0.here hx rfl (hb hby d4_0) rfl rfl κ) ?_
  obtain ⟨T32, X32, e32, st32⟩ := getF X0 hx hZ hown (host := "") (Or.inl (hw _ (List.mem_of_getElem? (i := 17) rfl))) Via.refl e0 F1 (g := (mkF m 1 #[.val (.ref a)] [(.ref a)])) rfl rfl (hb hby d4_1)
  refine Gl.st (g' := (mkF m 4 #[.val (.ref a)] [(.int w1)])) (fun τ κ => st32 _ κ) ?_
  refine Gl.st (g' := (mkF m 5 #[.val (.ref a)] [(.ref a), (.int w1)])) (fun τ κ => XS.aloadN X32.here hx rfl (hb hby d4_4) rfl rfl κ) ?_
  obtain ⟨T33, X33, e33, st33⟩ := getF X32 hx hZ hown (host := "") (Or.inl (hw _ (List.mem_of_getElem? (i := 19) rfl))) Via.refl e32 F2 (g := (mkF m 5 #[.val (.ref a)] [(.ref a), (.int w1)])) rfl rfl (hb hby d4_5)
  refine Gl.st (g' := (mkF m 8 #[.val (.ref a)] [(.int w2), (.int w1)])) (fun τ κ => st33 _ κ) ?_
  refine Gl.st (g' := (mkF m 9 #[.val (.ref a)] [(.int (w1 * w2))])) (fun τ κ => XS.imul X33.here hx rfl (hb hby d4_8) rfl κ) ?_
  refine Gl.st (g' := (mkF m 10 #[.val (.ref a)] [(.ref a), (.int (w1 * w2))])) (fun τ κ => XS.aloadN X33.here hx rfl (hb hby d4_9) rfl rfl κ) ?_
  obtain ⟨T34, X34, e34, st34⟩ := getF X33 hx hZ hown (host := "") (Or.inl (hw _ (List.mem_of_getElem? (i := 21) rfl))) Via.refl e33 F3 (g := (mkF m 10 #[.val (.ref a)] [(.ref a), (.int (w1 * w2))])) rfl rfl (hb hby d4_10)
  refine Gl.st (g' := (mkF m 13 #[.val (.ref a)] [(.int w3), (.int (w1 * w2))])) (fun τ κ => st34 _ κ) ?_
  refine Gl.st (g' := (mkF m 14 #[.val (.ref a)] [(.ref a), (.int w3), (.int (w1 * w2))])) (fun τ κ => XS.aloadN X34.here hx rfl (hb hby d4_13) rfl rfl κ) ?_
  obtain ⟨T35, X35, e35, st35⟩ := getF X34 hx hZ hown (host := "") (Or.inl (hw _ (List.mem_of_getElem? (i := 19) rfl))) Via.refl e34 F2 (g := (mkF m 14 #[.val (.ref a)] [(.ref a), (.int w3), (.int (w1 * w2))])) rfl rfl (hb hby d4_14)
  refine Gl.st (g' := (mkF m 17 #[.val (.ref a)] [(.int w2), (.int w3), (.int (w1 * w2))])) (fun τ κ => st35 _ κ) ?_
  refine Gl.st (g' := (mkF m 18 #[.val (.ref a)] [(.int (1 : Int32)), (.int w2), (.int w3), (.int (w1 * w2))])) (fun τ κ => XS.iconst X35.here hx rfl (hb hby d4_17) κ) ?_
  refine Gl.st (g' := (mkF m 19 #[.val (.ref a)] [(.int (w2 + (1 : Int32))), (.int w3), (.int (w1 * w2))])) (fun τ κ => XS.iadd X35.here hx rfl (hb hby d4_18) rfl κ) ?_
  refine Gl.st (g' := (mkF m 20 #[.val (.ref a)] [(.int (w3 * (w2 + (1 : Int32)))), (.int (w1 * w2))])) (fun τ κ => XS.imul X35.here hx rfl (hb hby d4_19) rfl κ) ?_
  refine Gl.st (g' := (mkF m 21 #[.val (.ref a)] [(.int ((w1 * w2) + (w3 * (w2 + (1 : Int32)))))])) (fun τ κ => XS.iadd X35.here hx rfl (hb hby d4_20) rfl κ) ?_
  exact Gl.ret (v := some (.int ((w1 * w2) + (w3 * (w2 + (1 : Int32)))))) X35 Bd.notSynchronized (fun h => by rw [Bd.returns] at h; cases h) e35 (fun fs hr => retI X35 hx Bd.returns (hb hby d4_21) hr) (by decide) (by decide) ⟨rfl, N0, rfl⟩
theorem d5_0 : decode prog_17_method_4_code 0 = .ok (.iload_n 1, 1) := by decide +kernel
theorem d5_1 : decode prog_17_method_4_code 1 = .ok (.aload_n 0, 1) := by decide +kernel
theorem d5_2 : decode prog_17_method_4_code 2 = .ok (.getfield 16, 3) := by decide +kernel
theorem d5_5 : decode prog_17_method_4_code 5 = .ok (.imul, 1) := by decide +kernel
theorem d5_6 : decode prog_17_method_4_code 6 = .ok (.iconst 0, 1) := by decide +kernel
theorem d5_7 : decode prog_17_method_4_code 7 = .ok (.iload_n 1, 1) := by decide +kernel
theorem d5_8 : decode prog_17_method_4_code 8 = .ok (.aload_n 0, 1) := by decide +kernel
theorem d5_9 : decode prog_17_method_4_code 9 = .ok (.getfield 13, 3) := by decide +kernel
theorem d5_12 : decode prog_17_method_4_code 12 = .ok (.isub, 1) := by decide +kernel
theorem d5_13 : decode prog_17_method_4_code 13 = .ok (.invokestatic 22, 3) := by decide +kernel
theorem pd_1 : parseMethodDescriptor "(II)I" = some ⟨[.int, .int], some .int⟩ := by decide +kernel
theorem d5_16 : decode prog_17_method_4_code 16 = .ok (.iadd, 1) := by decide +kernel
theorem d5_17 : decode prog_17_method_4_code 17 = .ok (.ireturn, 1) := by decide +kernel
theorem ef_rm5 (m : MethodId) (a : Addr) (pp : Int32) : entryFrame m #[(.ref a), (.int pp)] 2 = mkF m 0 #[.val (.ref a), .val (.int pp)] [] := by first | (simp [entryFrame, mkF, argsToLocals, Value.category]; done) | rfl
def Q_rm5 (Z : State) (a : Addr) (pp : Int32) (w1 : Int32) (w2 : Int32) (h0 : Heap) (n0 : Nat) (v : Option Value) (h : Heap) (L : List Loc) : Prop := v = some (.int ((pp * w2) + (own_max (0 : Int32) (pp - w1)))) ∧ Fr n0 L ∧ h = h0
set_option maxRecDepth 65536 in
set_option maxHeartbeats 40000000 in
theorem rm5 (l : Launch) (Z : State) (a0 : Array Value) (hw : ∀ d ∈ tables_1, d.before a0 Z = true) (ws : List Jvm.Cond) (a : Addr) (pp : Int32) (w1 : Int32) (w2 : Int32) (h0 : Heap) (n0 : Nat) (Z0 : n0 ≤ h0.size) (F1 : Fld Z h0 a "com/example/quietzone/quietzone/QrBlockTable$Blocks" "shortBlocks" "I" (.int w1)) (F2 : Fld Z h0 a "com/example/quietzone/quietzone/QrBlockTable$Blocks" "shortData" "I" (.int w2)) :
    MetFree l (⟨"com/example/quietzone/quietzone/QrBlockTable$Blocks", "dataStart", "(I)I"⟩ : MethodName) (head1 (Jvm.Cond.code (⟨"com/example/quietzone/quietzone/QrBlockTable$Blocks", "dataStart", "(I)I"⟩ : MethodName) prog_17_method_4_code 2 (some .int) :: ws) ({ frames := 1, cells := 0, slots := 0, locals := 14 } : Room)) (fun aα Uα => aα = #[(.ref a), (.int pp)] ∧ Z.Warmed39 Uα.vm ∧ Uα.heap = h0) (fun _ _ _ _ _ => True) (fun _ Uα oα Uβ => ∃ vα Lα, oα = .returned vα ∧ Q_rm5 Z a pp w1 w2 h0 n0 vα Uβ.heap Lα ∧ FrameEnd Uα oα Uβ Lα ({ frames := 1, cells := 0, slots := 0, locals := 14 } : Room).cells ({ frames := 1, cells := 0, slots := 0, locals := 14 } : Room).slots) := by
  refine MetFree.of_bodySF (plainFor_of_name pn_com_example_quietzone_quietzone_QrBlockTable_Blocks) hisR ?_
  intro p e s m args below meth c s₁ Bd hml0 hP hK
  obtain ⟨rfl, hZ, hh⟩ := hP
  have hx := Bd.exec
  have hby := Bd.bytes
  have hml : c.maxLocals = 2 := hml0
  have hown : s.vm.findClass "com/example/quietzone/quietzone/QrBlockTable$Blocks" = some m.cls := findClass_of_methodNamed Bd.named
  have hnm := (name_of_methodNamed Bd.named Bd.method).1
  have X0 : Stand p l e ({ frames := 1, cells := 0, slots := 0, locals := 14 } : Room) s m #[(.ref a), (.int pp)] below meth c s₁ [] 0 0 := Stand.of_body Bd
  have e0 : s₁.heap = h0 := by rw [← hh, Bd.state]; rfl
  have N0 := Fr.nil n0
  suffices k0 : Gl p e below s (Q_rm5 Z a pp w1 w2 h0 n0) ({ frames := 1, cells := 0, slots := 0, locals := 14 } : Room).cells ({ frames := 1, cells := 0, slots := 0, locals := 14 } : Room).slots s₁ (mkF m 0 #[.val (.ref a), .val (.int pp)] []) from Gl.st (fun t k => castTop (ef_rm5 m a pp) k) k0
  refine Gl.st (g' := (mkF m 1 #[.val (.ref a), .val (.int pp)] [(.int pp)])) (fun τ κ => XS.iloadN X0.here hx rfl (hb hby d5_0) rfl κ) ?_
  refine Gl.st (g' := (mkF m 2 #[.val (.ref a), .val (.int pp)] [(.ref a), (.int pp)])) (fun τ κ => XS.aloadN X0.here hx rfl (hb hby d5_1) rfl rfl κ) ?_
  obtain ⟨T36, X36, e36, st36⟩ := getF X0 hx hZ hown (host := "") (Or.inl (hw _ (List.mem_of_getElem? (i := 19) rfl))) Via.refl e0 F2 (g := (mkF m 2 #[.val (.ref a), .val (.int pp)] [(.ref a), (.int pp)])) rfl rfl (hb hby d5_2)
  refine Gl.st (g' := (mkF m 5 #[.val (.ref a), .val (.int pp)] [(.int w2), (.int pp)])) (fun τ κ => st36 _ κ) ?_
  refine Gl.st (g' := (mkF m 6 #[.val (.ref a), .val (.int pp)] [(.int (pp * w2))])) (fun τ κ => XS.imul X36.here hx rfl (hb hby d5_5) rfl κ) ?_
  refine Gl.st (g' := (mkF m 7 #[.val (.ref a), .val (.int pp)] [(.int (0 : Int32)), (.int (pp * w2))])) (fun τ κ => XS.iconst X36.here hx rfl (hb hby d5_6) κ) ?_
  refine Gl.st (g' := (mkF m 8 #[.val (.ref a), .val (.int pp)] [(.int pp), (.int (0 : Int32)), (.int (pp * w2))])) (fun τ κ => XS.iloadN X36.here hx rfl (hb hby d5_7) rfl κ) ?_
  refine Gl.st (g' := (mkF m 9 #[.val (.ref a), .val (.int pp)] [(.ref a), (.int pp), (.int (0 : Int32)), (.int (pp * w2))])) (fun τ κ => XS.aloadN X36.here hx rfl (hb hby d5_8) rfl rfl κ) ?_
  obtain ⟨T37, X37, e37, st37⟩ := getF X36 hx hZ hown (host := "") (Or.inl (hw _ (List.mem_of_getElem? (i := 17) rfl))) Via.refl e36 F1 (g := (mkF m 9 #[.val (.ref a), .val (.int pp)] [(.ref a), (.int pp), (.int (0 : Int32)), (.int (pp * w2))])) rfl rfl (hb hby d5_9)
  refine Gl.st (g' := (mkF m 12 #[.val (.ref a), .val (.int pp)] [(.int w1), (.int pp), (.int (0 : Int32)), (.int (pp * w2))])) (fun τ κ => st37 _ κ) ?_
  refine Gl.st (g' := (mkF m 13 #[.val (.ref a), .val (.int pp)] [(.int (pp - w1)), (.int (0 : Int32)), (.int (pp * w2))])) (fun τ κ => XS.isub X37.here hx rfl (hb hby d5_12) rfl κ) ?_
  obtain ⟨rv38, _, ⟨T38, L38, k38, n38⟩, -, X38, ⟨Lc38, hQ38, l38, y38, z38⟩, st38⟩ := Jvm.LawKit.callS X37 hx (y := (⟨"java/lang/Math", "max", "(II)I"⟩ : MethodName)) hown (mvT hZ (hw _ (List.mem_of_getElem? (i := 33) rfl))) (mvT hZ (hw _ (List.mem_of_getElem? (i := 34) rfl))) (mvT hZ (hw _ (List.mem_of_getElem? (i := 35) rfl))) (mvT hZ (hw _ (List.mem_of_getElem? (i := 36) rfl))) (by decide) (backOf (W := 1) (rm6 l Z a0 hw [] (0 : Int32) (pp - w1) h0 n0 Z0 ) hZ (hw _ (List.mem_of_getElem? (i := 36) rfl)) (hw _ (List.mem_of_getElem? (i := 35) rfl)) (by decide) (by decide)) (g := (mkF m 13 #[.val (.ref a), .val (.int pp)] [(.int (pp - w1)), (.int (0 : Int32)), (.int (pp * w2))])) rfl (by rw [hml]; rfl) (argsL := [(.int (0 : Int32)), (.int (pp - w1))]) (rest := [(.int (pp * w2))]) (lenOf pd_1 rfl) rfl (by show 2 * 0 + _ ≤ _; exact Nat.le_of_eq rfl) (hb hby d5_13) (fun _ _ => ⟨rfl, e37, (by decide : 0 + 0 ≤ _), (by decide : 0 + 0 ≤ _)⟩)
  dsimp only [Pt.U, Pt.locs, Pt.cells, Pt.slots] at X38 l38 y38 z38 st38 hQ38
  subst l38 y38 z38
  obtain ⟨rfl, N38q, e38⟩ := hQ38
  have N38 := Fr.app N0 N38q
  refine Gl.st (g' := (mkF m 16 #[.val (.ref a), .val (.int pp)] [(.int (own_max (0 : Int32) (pp - w1))), (.int (pp * w2))])) (fun τ κ => st38 _ κ) ?_
  refine Gl.st (g' := (mkF m 17 #[.val (.ref a), .val (.int pp)] [(.int ((pp * w2) + (own_max (0 : Int32) (pp - w1))))])) (fun τ κ => XS.iadd X38.here hx rfl (hb hby d5_16) rfl κ) ?_
  exact Gl.ret (v := some (.int ((pp * w2) + (own_max (0 : Int32) (pp - w1))))) X38 Bd.notSynchronized (fun h => by rw [Bd.returns] at h; cases h) e38 (fun fs hr => retI X38 hx Bd.returns (hb hby d5_17) hr) (by decide) (by decide) ⟨rfl, N38, rfl⟩
theorem pd_2 : parseMethodDescriptor "(IIII)V" = some ⟨[.int, .int, .int, .int], none⟩ := by decide +kernel
theorem pd_3 : parseMethodDescriptor "()I" = some ⟨[], some .int⟩ := by decide +kernel
theorem pd_4 : parseMethodDescriptor "(I)I" = some ⟨[.int], some .int⟩ := by decide +kernel
theorem pn_com_example_quietzone_quietzone_BlocksDataCodewordsPinLaw : plainName "com/example/quietzone/quietzone/BlocksDataCodewordsPinLaw" = true := by first | (simp [plainName, overriddenIn]; done) | decide +kernel
theorem ef_rm0 (m : MethodId) (x0 : Int32) (x1 : Int32) (x2 : Int32) (x3 : Int32) : entryFrame m #[(.int x0), (.int x1), (.int x2), (.int x3)] maxLocals = mkF m 0 #[.val (.int x0), .val (.int x1), .val (.int x2), .val (.int x3), .unset, .unset, .unset, .unset, .unset, .unset, .unset] [] := by first | (simp [entryFrame, mkF, argsToLocals, Value.category, maxLocals]; done) | rfl
def Q_rm0 (Z : State) (x0 : Int32) (x1 : Int32) (x2 : Int32) (x3 : Int32)  (h0 : Heap) (n0 : Nat) (v : Option Value) (h : Heap) (L : List Loc) : Prop := v = some (.int 1) ∧ Fr n0 L
set_option maxRecDepth 65536 in
set_option maxHeartbeats 40000000 in
theorem rm0 (l : Launch) (Z : State) (a0 : Array Value) (hw : ∀ d ∈ tables_1, d.before a0 Z = true) (ws : List Jvm.Cond) (x0 : Int32) (x1 : Int32) (x2 : Int32) (x3 : Int32)  (h0 : Heap) (n0 : Nat) (Z0 : n0 ≤ h0.size)  :
    MetFree l x (head1 (Jvm.Cond.code x code maxLocals ret :: ws) room_1) (fun aα Uα => aα = #[(.int x0), (.int x1), (.int x2), (.int x3)] ∧ Z.Warmed39 Uα.vm ∧ Uα.heap = h0) (fun _ _ _ _ _ => True) (fun _ Uα oα Uβ => ∃ vα Lα, oα = .returned vα ∧ Q_rm0 Z x0 x1 x2 x3  h0 n0 vα Uβ.heap Lα ∧ FrameEnd Uα oα Uβ Lα 1 4) := by
  refine MetFree.of_bodySF (plainFor_of_name pn_com_example_quietzone_quietzone_BlocksDataCodewordsPinLaw) hisR ?_
  intro p e s m args below meth c s₁ Bd hml0 hP hK
  obtain ⟨rfl, hZ, hh⟩ := hP
  have hx := Bd.exec
  have hby := Bd.bytes
  have hml : c.maxLocals = 11 := hml0
  have hown : s.vm.findClass "com/example/quietzone/quietzone/BlocksDataCodewordsPinLaw" = some m.cls := findClass_of_methodNamed Bd.named
  have hnm := (name_of_methodNamed Bd.named Bd.method).1
  have X0 : Stand p l e room_1 s m #[(.int x0), (.int x1), (.int x2), (.int x3)] below meth c s₁ [] 0 0 := Stand.of_body Bd
  have e0 : s₁.heap = h0 := by rw [← hh, Bd.state]; rfl
  have N0 := Fr.nil n0
  suffices k0 : Gl p e below s (Q_rm0 Z x0 x1 x2 x3  h0 n0) 1 4 s₁ (mkF m 0 #[.val (.int x0), .val (.int x1), .val (.int x2), .val (.int x3), .unset, .unset, .unset, .unset, .unset, .unset, .unset] []) from Gl.st (fun t k => castTop (ef_rm0 m x0 x1 x2 x3) k) k0
  refine Gl.st (g' := (mkF m 1 #[.val (.int x0), .val (.int x1), .val (.int x2), .val (.int x3), .unset, .unset, .unset, .unset, .unset, .unset, .unset] [(.int x1)])) (fun τ κ => XS.iloadN X0.here hx rfl (hb hby at_0) rfl κ) ?_
  refine Gl.st (g' := (mkF m 4 #[.val (.int x0), .val (.int x1), .val (.int x2), .val (.int x3), .unset, .unset, .unset, .unset, .unset, .unset, .unset] [(.int (1023 : Int32)), (.int x1)])) (fun τ κ => XS.sipush X0.here hx rfl (hb hby at_1) κ) ?_
  refine Gl.st (g' := (mkF m 5 #[.val (.int x0), .val (.int x1), .val (.int x2), .val (.int x3), .unset, .unset, .unset, .unset, .unset, .unset, .unset] [(.int (x1 &&& (1023 : Int32)))])) (fun τ κ => XS.iand X0.here hx rfl (hb hby at_4) rfl κ) ?_
  refine Gl.st (g' := (mkF m 7 #[.val (.int x0), .val (.int x1), .val (.int x2), .val (.int x3), .val (.int (x1 &&& (1023 : Int32))), .unset, .unset, .unset, .unset, .unset, .unset] [])) (fun τ κ => XS.istore X0.here hx rfl (hb hby at_5) rfl (l' := #[.val (.int x0), .val (.int x1), .val (.int x2), .val (.int x3), .val (.int (x1 &&& (1023 : Int32))), .unset, .unset, .unset, .unset, .unset, .unset]) rfl κ) ?_
  refine Gl.st (g' := (mkF m 8 #[.val (.int x0), .val (.int x1), .val (.int x2), .val (.int x3), .val (.int (x1 &&& (1023 : Int32))), .unset, .unset, .unset, .unset, .unset, .unset] [(.int x2)])) (fun τ κ => XS.iloadN X0.here hx rfl (hb hby at_7) rfl κ) ?_
  refine Gl.st (g' := (mkF m 10 #[.val (.int x0), .val (.int x1), .val (.int x2), .val (.int x3), .val (.int (x1 &&& (1023 : Int32))), .unset, .unset, .unset, .unset, .unset, .unset] [(.int (65535 : Int32)), (.int x2)])) (fun τ κ => X0.ldcInt hx hown (mvT hZ (hw _ (List.mem_of_getElem? (i := 0) rfl))) (g := (mkF m 8 #[.val (.int x0), .val (.int x1), .val (.int x2), .val (.int x3), .val (.int (x1 &&& (1023 : Int32))), .unset, .unset, .unset, .unset, .unset, .unset] [(.int x2)])) rfl (hb hby at_8) _ κ) ?_
  refine Gl.st (g' := (mkF m 11 #[.val (.int x0), .val (.int x1), .val (.int x2), .val (.int x3), .val (.int (x1 &&& (1023 : Int32))), .unset, .unset, .unset, .unset, .unset, .unset] [(.int (x2 &&& (65535 : Int32)))])) (fun τ κ => XS.iand X0.here hx rfl (hb hby at_10) rfl κ) ?_
  refine Gl.st (g' := (mkF m 13 #[.val (.int x0), .val (.int x1), .val (.int x2), .val (.int x3), .val (.int (x1 &&& (1023 : Int32))), .val (.int (x2 &&& (65535 : Int32))), .unset, .unset, .unset, .unset, .unset] [])) (fun τ κ => XS.istore X0.here hx rfl (hb hby at_11) rfl (l' := #[.val (.int x0), .val (.int x1), .val (.int x2), .val (.int x3), .val (.int (x1 &&& (1023 : Int32))), .val (.int (x2 &&& (65535 : Int32))), .unset, .unset, .unset, .unset, .unset]) rfl κ) ?_
  refine Gl.st (g' := (mkF m 14 #[.val (.int x0), .val (.int x1), .val (.int x2), .val (.int x3), .val (.int (x1 &&& (1023 : Int32))), .val (.int (x2 &&& (65535 : Int32))), .unset, .unset, .unset, .unset, .unset] [(.int x3)])) (fun τ κ => XS.iloadN X0.here hx rfl (hb hby at_13) rfl κ) ?_
  refine Gl.st (g' := (mkF m 17 #[.val (.int x0), .val (.int x1), .val (.int x2), .val (.int x3), .val (.int (x1 &&& (1023 : Int32))), .val (.int (x2 &&& (65535 : Int32))), .unset, .unset, .unset, .unset, .unset] [(.int (1023 : Int32)), (.int x3)])) (fun τ κ => XS.sipush X0.here hx rfl (hb hby at_14) κ) ?_
  refine Gl.st (g' := (mkF m 18 #[.val (.int x0), .val (.int x1), .val (.int x2), .val (.int x3), .val (.int (x1 &&& (1023 : Int32))), .val (.int (x2 &&& (65535 : Int32))), .unset, .unset, .unset, .unset, .unset] [(.int (x3 &&& (1023 : Int32)))])) (fun τ κ => XS.iand X0.here hx rfl (hb hby at_17) rfl κ) ?_
  refine Gl.st (g' := (mkF m 20 #[.val (.int x0), .val (.int x1), .val (.int x2), .val (.int x3), .val (.int (x1 &&& (1023 : Int32))), .val (.int (x2 &&& (65535 : Int32))), .val (.int (x3 &&& (1023 : Int32))), .unset, .unset, .unset, .unset] [])) (fun τ κ => XS.istore X0.here hx rfl (hb hby at_18) rfl (l' := #[.val (.int x0), .val (.int x1), .val (.int x2), .val (.int x3), .val (.int (x1 &&& (1023 : Int32))), .val (.int (x2 &&& (65535 : Int32))), .val (.int (x3 &&& (1023 : Int32))), .unset, .unset, .unset, .unset]) rfl κ) ?_
  obtain ⟨T39, h39, X39, e39, E39, A39, D39, -, st39⟩ := newO X0 hx hZ hown (hw _ (List.mem_of_getElem? (i := 1) rfl)) (hw _ (List.mem_of_getElem? (i := 2) rfl)) (hw _ (List.mem_of_getElem? (i := 3) rfl)) e0 (g := (mkF m 20 #[.val (.int x0), .val (.int x1), .val (.int x2), .val (.int x3), .val (.int (x1 &&& (1023 : Int32))), .val (.int (x2 &&& (65535 : Int32))), .val (.int (x3 &&& (1023 : Int32))), .unset, .unset, .unset, .unset] [])) rfl (hb hby at_20) (by decide) (by decide)
  obtain ⟨b39, g39⟩ : ∃ z, z = h0.size := ⟨_, rfl⟩
  rw [← g39] at A39 D39 st39
  have g_b39 : n0 ≤ b39 := Nat.le_trans Z0 (Nat.le_of_eq g39.symm)
  have sz_b39 : h0.size ≤ b39 := Nat.le_trans (Keep.refl h0 []).1 (Nat.le_of_eq g39.symm)
  have Z39 : n0 ≤ h39.size := Nat.le_trans Z0 E39.1
  have K39 : Keep h0 h39 [] := (Keep.refl h0 []).ext E39
  have F_40 : Fld Z h39 b39 "com/example/quietzone/quietzone/QrBlockTable$Blocks" "ecPerBlock" "I" (.int (0 : Int32)) := D39 (Or.inr (hw _ (List.mem_of_getElem? (i := 16) rfl))) (ty := .int) (by decide)
  have F_41 : Fld Z h39 b39 "com/example/quietzone/quietzone/QrBlockTable$Blocks" "shortBlocks" "I" (.int (0 : Int32)) := D39 (Or.inr (hw _ (List.mem_of_getElem? (i := 18) rfl))) (ty := .int) (by decide)
  have F_42 : Fld Z h39 b39 "com/example/quietzone/quietzone/QrBlockTable$Blocks" "shortData" "I" (.int (0 : Int32)) := D39 (Or.inr (hw _ (List.mem_of_getElem? (i := 20) rfl))) (ty := .int) (by decide)
  have F_43 : Fld Z h39 b39 "com/example/quietzone/quietzone/QrBlockTable$Blocks" "longBlocks" "I" (.int (0 : Int32)) := D39 (Or.inr (hw _ (List.mem_of_getElem? (i := 22) rfl))) (ty := .int) (by decide)
  refine Gl.st (g' := (mkF m 23 #[.val (.int x0), .val (.int x1), .val (.int x2), .val (.int x3), .val (.int (x1 &&& (1023 : Int32))), .val (.int (x2 &&& (65535 : Int32))), .val (.int (x3 &&& (1023 : Int32))), .unset, .unset, .unset, .unset] [(.ref b39)])) (fun τ κ => st39 _ κ) ?_
  refine Gl.st (g' := (mkF m 24 #[.val (.int x0), .val (.int x1), .val (.int x2), .val (.int x3), .val (.int (x1 &&& (1023 : Int32))), .val (.int (x2 &&& (65535 : Int32))), .val (.int (x3 &&& (1023 : Int32))), .unset, .unset, .unset, .unset] [(.ref b39), (.ref b39)])) (fun τ κ => XS.dup X39.here hx rfl (hb hby at_23) rfl rfl κ) ?_
  refine Gl.st (g' := (mkF m 25 #[.val (.int x0), .val (.int x1), .val (.int x2), .val (.int x3), .val (.int (x1 &&& (1023 : Int32))), .val (.int (x2 &&& (65535 : Int32))), .val (.int (x3 &&& (1023 : Int32))), .unset, .unset, .unset, .unset] [(.int x0), (.ref b39), (.ref b39)])) (fun τ κ => XS.iloadN X39.here hx rfl (hb hby at_24) rfl κ) ?_
  refine Gl.st (g' := (mkF m 27 #[.val (.int x0), .val (.int x1), .val (.int x2), .val (.int x3), .val (.int (x1 &&& (1023 : Int32))), .val (.int (x2 &&& (65535 : Int32))), .val (.int (x3 &&& (1023 : Int32))), .unset, .unset, .unset, .unset] [(.int (x1 &&& (1023 : Int32))), (.int x0), (.ref b39), (.ref b39)])) (fun τ κ => XS.iload X39.here hx rfl (hb hby at_25) rfl κ) ?_
  refine Gl.st (g' := (mkF m 29 #[.val (.int x0), .val (.int x1), .val (.int x2), .val (.int x3), .val (.int (x1 &&& (1023 : Int32))), .val (.int (x2 &&& (65535 : Int32))), .val (.int (x3 &&& (1023 : Int32))), .unset, .unset, .unset, .unset] [(.int (x2 &&& (65535 : Int32))), (.int (x1 &&& (1023 : Int32))), (.int x0), (.ref b39), (.ref b39)])) (fun τ κ => XS.iload X39.here hx rfl (hb hby at_27) rfl κ) ?_
  refine Gl.st (g' := (mkF m 31 #[.val (.int x0), .val (.int x1), .val (.int x2), .val (.int x3), .val (.int (x1 &&& (1023 : Int32))), .val (.int (x2 &&& (65535 : Int32))), .val (.int (x3 &&& (1023 : Int32))), .unset, .unset, .unset, .unset] [(.int (x3 &&& (1023 : Int32))), (.int (x2 &&& (65535 : Int32))), (.int (x1 &&& (1023 : Int32))), (.int x0), (.ref b39), (.ref b39)])) (fun τ κ => XS.iload X39.here hx rfl (hb hby at_29) rfl κ) ?_
  obtain ⟨rv44, _, ⟨T44, L44, k44, n44⟩, -, X44, ⟨Lc44, hQ44, l44, y44, z44⟩, st44⟩ := X39.specialBack hx (y := (⟨"com/example/quietzone/quietzone/QrBlockTable$Blocks", "<init>", "(IIII)V"⟩ : MethodName)) rfl hown (mvT hZ (hw _ (List.mem_of_getElem? (i := 4) rfl))) (mvT hZ (hw _ (List.mem_of_getElem? (i := 5) rfl))) (mvT hZ (hw _ (List.mem_of_getElem? (i := 6) rfl))) (by decide) (backOf (W := 1) (rm1 l Z a0 hw [] b39 x0 (x1 &&& (1023 : Int32)) (x2 &&& (65535 : Int32)) (x3 &&& (1023 : Int32)) h39 n0 Z39 A39 g_b39 F_40 F_41 F_42 F_43) hZ (hw _ (List.mem_of_getElem? (i := 6) rfl)) (hw _ (List.mem_of_getElem? (i := 3) rfl)) (by decide) (by decide)) (g := (mkF m 31 #[.val (.int x0), .val (.int x1), .val (.int x2), .val (.int x3), .val (.int (x1 &&& (1023 : Int32))), .val (.int (x2 &&& (65535 : Int32))), .val (.int (x3 &&& (1023 : Int32))), .unset, .unset, .unset, .unset] [(.int (x3 &&& (1023 : Int32))), (.int (x2 &&& (65535 : Int32))), (.int (x1 &&& (1023 : Int32))), (.int x0), (.ref b39), (.ref b39)])) rfl (by rw [hml]; rfl) (Steps.refl _) (a := b39) (argsL := [(.int x0), (.int (x1 &&& (1023 : Int32))), (.int (x2 &&& (65535 : Int32))), (.int (x3 &&& (1023 : Int32)))]) (rest := [(.ref b39)]) (lenOf pd_2 rfl) rfl (by show 2 * 0 + _ ≤ _; exact Nat.le_of_eq rfl) (hb hby at_31) (fun _ _ => ⟨rfl, e39, (by decide : 1 + 0 ≤ _), (by decide : 4 + 0 ≤ _)⟩)
  dsimp only [Pt.U, Pt.locs, Pt.cells, Pt.slots] at X44 l44 y44 z44 st44 hQ44
  subst l44 y44 z44
  obtain ⟨rfl, N44q, Kc44, Ec44, Fc44_0, Fc44_1, Fc44_2, Fc44_3⟩ := hQ44
  have E_45 := A39.keep Kc44
  have N44 := Fr.app N0 N44q
  have Z44 : n0 ≤ T44.heap.size := Nat.le_trans Z39 Kc44.1
  have K44 : Keep h0 T44.heap [] := K39.trans Kc44 (allS (Or.inr sz_b39) all0)
  refine Gl.st (g' := (mkF m 34 #[.val (.int x0), .val (.int x1), .val (.int x2), .val (.int x3), .val (.int (x1 &&& (1023 : Int32))), .val (.int (x2 &&& (65535 : Int32))), .val (.int (x3 &&& (1023 : Int32))), .unset, .unset, .unset, .unset] [(.ref b39)])) (fun τ κ => st44.trans κ) ?_
  refine Gl.st (g' := (mkF m 36 #[.val (.int x0), .val (.int x1), .val (.int x2), .val (.int x3), .val (.int (x1 &&& (1023 : Int32))), .val (.int (x2 &&& (65535 : Int32))), .val (.int (x3 &&& (1023 : Int32))), .val (.ref b39), .unset, .unset, .unset] [])) (fun τ κ => XS.astore X44.here hx rfl (hb hby at_34) rfl rfl (l' := #[.val (.int x0), .val (.int x1), .val (.int x2), .val (.int x3), .val (.int (x1 &&& (1023 : Int32))), .val (.int (x2 &&& (65535 : Int32))), .val (.int (x3 &&& (1023 : Int32))), .val (.ref b39), .unset, .unset, .unset]) rfl κ) ?_
  refine Gl.st (g' := (mkF m 38 #[.val (.int x0), .val (.int x1), .val (.int x2), .val (.int x3), .val (.int (x1 &&& (1023 : Int32))), .val (.int (x2 &&& (65535 : Int32))), .val (.int (x3 &&& (1023 : Int32))), .val (.ref b39), .unset, .unset, .unset] [(.ref b39)])) (fun τ κ => XS.aload X44.here hx rfl (hb hby at_36) rfl rfl κ) ?_
  obtain ⟨cq50, kq50, q50a, q50b, q50c⟩ := isOf hZ rfl Ec44
  obtain ⟨rv50, _, ⟨T50, L50, k50, n50⟩, -, X50, ⟨Lc50, hQ50, l50, y50, z50⟩, st50⟩ := X44.virtualBack hx (y := (⟨"com/example/quietzone/quietzone/QrBlockTable$Blocks", "dataCodewords", "()I"⟩ : MethodName)) (z := (⟨"com/example/quietzone/quietzone/QrBlockTable$Blocks", "dataCodewords", "()I"⟩ : MethodName)) hown (mvT hZ (hw _ (List.mem_of_getElem? (i := 23) rfl))) (mvT hZ (hw _ (List.mem_of_getElem? (i := 24) rfl))) (notFace_of_selects (args := #[]) (mvT hZ (hw _ (List.mem_of_getElem? (i := 26) rfl)))) (mvT hZ (hw _ (List.mem_of_getElem? (i := 26) rfl))) (mvT hZ (hw _ (List.mem_of_getElem? (i := 25) rfl))) (by decide) (backOf (W := 0) (rm4 l Z a0 hw [] b39 (x1 &&& (1023 : Int32)) (x2 &&& (65535 : Int32)) (x3 &&& (1023 : Int32)) T44.heap n0 Z44 Fc44_1 Fc44_2 Fc44_3) hZ (hw _ (List.mem_of_getElem? (i := 27) rfl)) (hw _ (List.mem_of_getElem? (i := 3) rfl)) (by decide) (by decide)) q50a q50c (g := (mkF m 38 #[.val (.int x0), .val (.int x1), .val (.int x2), .val (.int x3), .val (.int (x1 &&& (1023 : Int32))), .val (.int (x2 &&& (65535 : Int32))), .val (.int (x3 &&& (1023 : Int32))), .val (.ref b39), .unset, .unset, .unset] [(.ref b39)])) rfl (by rw [hml]; rfl) (Steps.refl _) (argsL := []) (rest := []) (lenOf pd_3 rfl) rfl (by show 2 * 0 + _ ≤ _; exact Nat.le_of_eq rfl) (hb hby at_38) (fun _ _ => ⟨rfl, rfl, (by decide : 1 + 0 ≤ _), (by decide : 4 + 0 ≤ _)⟩)
  dsimp only [Pt.U, Pt.locs, Pt.cells, Pt.slots] at X50 l50 y50 z50 st50 hQ50
  subst l50 y50 z50
  obtain ⟨rfl, N50q, e50⟩ := hQ50
  have N50 := Fr.app N44 N50q
  refine Gl.st (g' := (mkF m 41 #[.val (.int x0), .val (.int x1), .val (.int x2), .val (.int x3), .val (.int (x1 &&& (1023 : Int32))), .val (.int (x2 &&& (65535 : Int32))), .val (.int (x3 &&& (1023 : Int32))), .val (.ref b39), .unset, .unset, .unset] [(.int (((x1 &&& (1023 : Int32)) * (x2 &&& (65535 : Int32))) + ((x3 &&& (1023 : Int32)) * ((x2 &&& (65535 : Int32)) + (1 : Int32)))))])) (fun τ κ => st50.trans κ) ?_
  refine Gl.st (g' := (mkF m 43 #[.val (.int x0), .val (.int x1), .val (.int x2), .val (.int x3), .val (.int (x1 &&& (1023 : Int32))), .val (.int (x2 &&& (65535 : Int32))), .val (.int (x3 &&& (1023 : Int32))), .val (.ref b39), .val (.int (((x1 &&& (1023 : Int32)) * (x2 &&& (65535 : Int32))) + ((x3 &&& (1023 : Int32)) * ((x2 &&& (65535 : Int32)) + (1 : Int32))))), .unset, .unset] [])) (fun τ κ => XS.istore X50.here hx rfl (hb hby at_41) rfl (l' := #[.val (.int x0), .val (.int x1), .val (.int x2), .val (.int x3), .val (.int (x1 &&& (1023 : Int32))), .val (.int (x2 &&& (65535 : Int32))), .val (.int (x3 &&& (1023 : Int32))), .val (.ref b39), .val (.int (((x1 &&& (1023 : Int32)) * (x2 &&& (65535 : Int32))) + ((x3 &&& (1023 : Int32)) * ((x2 &&& (65535 : Int32)) + (1 : Int32))))), .unset, .unset]) rfl κ) ?_
  refine Gl.st (g' := (mkF m 45 #[.val (.int x0), .val (.int x1), .val (.int x2), .val (.int x3), .val (.int (x1 &&& (1023 : Int32))), .val (.int (x2 &&& (65535 : Int32))), .val (.int (x3 &&& (1023 : Int32))), .val (.ref b39), .val (.int (((x1 &&& (1023 : Int32)) * (x2 &&& (65535 : Int32))) + ((x3 &&& (1023 : Int32)) * ((x2 &&& (65535 : Int32)) + (1 : Int32))))), .unset, .unset] [(.int (x1 &&& (1023 : Int32)))])) (fun τ κ => XS.iload X50.here hx rfl (hb hby at_43) rfl κ) ?_
  refine Gl.st (g' := (mkF m 47 #[.val (.int x0), .val (.int x1), .val (.int x2), .val (.int x3), .val (.int (x1 &&& (1023 : Int32))), .val (.int (x2 &&& (65535 : Int32))), .val (.int (x3 &&& (1023 : Int32))), .val (.ref b39), .val (.int (((x1 &&& (1023 : Int32)) * (x2 &&& (65535 : Int32))) + ((x3 &&& (1023 : Int32)) * ((x2 &&& (65535 : Int32)) + (1 : Int32))))), .unset, .unset] [(.int (x3 &&& (1023 : Int32))), (.int (x1 &&& (1023 : Int32)))])) (fun τ κ => XS.iload X50.here hx rfl (hb hby at_45) rfl κ) ?_
  refine Gl.st (g' := (mkF m 48 #[.val (.int x0), .val (.int x1), .val (.int x2), .val (.int x3), .val (.int (x1 &&& (1023 : Int32))), .val (.int (x2 &&& (65535 : Int32))), .val (.int (x3 &&& (1023 : Int32))), .val (.ref b39), .val (.int (((x1 &&& (1023 : Int32)) * (x2 &&& (65535 : Int32))) + ((x3 &&& (1023 : Int32)) * ((x2 &&& (65535 : Int32)) + (1 : Int32))))), .unset, .unset] [(.int ((x1 &&& (1023 : Int32)) + (x3 &&& (1023 : Int32))))])) (fun τ κ => XS.iadd X50.here hx rfl (hb hby at_47) rfl κ) ?_
  refine Gl.st (g' := (mkF m 50 #[.val (.int x0), .val (.int x1), .val (.int x2), .val (.int x3), .val (.int (x1 &&& (1023 : Int32))), .val (.int (x2 &&& (65535 : Int32))), .val (.int (x3 &&& (1023 : Int32))), .val (.ref b39), .val (.int (((x1 &&& (1023 : Int32)) * (x2 &&& (65535 : Int32))) + ((x3 &&& (1023 : Int32)) * ((x2 &&& (65535 : Int32)) + (1 : Int32))))), .val (.int ((x1 &&& (1023 : Int32)) + (x3 &&& (1023 : Int32)))), .unset] [])) (fun τ κ => XS.istore X50.here hx rfl (hb hby at_48) rfl (l' := #[.val (.int x0), .val (.int x1), .val (.int x2), .val (.int x3), .val (.int (x1 &&& (1023 : Int32))), .val (.int (x2 &&& (65535 : Int32))), .val (.int (x3 &&& (1023 : Int32))), .val (.ref b39), .val (.int (((x1 &&& (1023 : Int32)) * (x2 &&& (65535 : Int32))) + ((x3 &&& (1023 : Int32)) * ((x2 &&& (65535 : Int32)) + (1 : Int32))))), .val (.int ((x1 &&& (1023 : Int32)) + (x3 &&& (1023 : Int32)))), .unset]) rfl κ) ?_
  refine Gl.st (g' := (mkF m 52 #[.val (.int x0), .val (.int x1), .val (.int x2), .val (.int x3), .val (.int (x1 &&& (1023 : Int32))), .val (.int (x2 &&& (65535 : Int32))), .val (.int (x3 &&& (1023 : Int32))), .val (.ref b39), .val (.int (((x1 &&& (1023 : Int32)) * (x2 &&& (65535 : Int32))) + ((x3 &&& (1023 : Int32)) * ((x2 &&& (65535 : Int32)) + (1 : Int32))))), .val (.int ((x1 &&& (1023 : Int32)) + (x3 &&& (1023 : Int32)))), .unset] [(.int ((x1 &&& (1023 : Int32)) + (x3 &&& (1023 : Int32))))])) (fun τ κ => XS.iload X50.here hx rfl (hb hby at_50) rfl κ) ?_
  refine Gl.st (g' := (mkF m 54 #[.val (.int x0), .val (.int x1), .val (.int x2), .val (.int x3), .val (.int (x1 &&& (1023 : Int32))), .val (.int (x2 &&& (65535 : Int32))), .val (.int (x3 &&& (1023 : Int32))), .val (.ref b39), .val (.int (((x1 &&& (1023 : Int32)) * (x2 &&& (65535 : Int32))) + ((x3 &&& (1023 : Int32)) * ((x2 &&& (65535 : Int32)) + (1 : Int32))))), .val (.int ((x1 &&& (1023 : Int32)) + (x3 &&& (1023 : Int32)))), .unset] [(.int (x2 &&& (65535 : Int32))), (.int ((x1 &&& (1023 : Int32)) + (x3 &&& (1023 : Int32))))])) (fun τ κ => XS.iload X50.here hx rfl (hb hby at_52) rfl κ) ?_
  refine Gl.st (g' := (mkF m 55 #[.val (.int x0), .val (.int x1), .val (.int x2), .val (.int x3), .val (.int (x1 &&& (1023 : Int32))), .val (.int (x2 &&& (65535 : Int32))), .val (.int (x3 &&& (1023 : Int32))), .val (.ref b39), .val (.int (((x1 &&& (1023 : Int32)) * (x2 &&& (65535 : Int32))) + ((x3 &&& (1023 : Int32)) * ((x2 &&& (65535 : Int32)) + (1 : Int32))))), .val (.int ((x1 &&& (1023 : Int32)) + (x3 &&& (1023 : Int32)))), .unset] [(.int (((x1 &&& (1023 : Int32)) + (x3 &&& (1023 : Int32))) * (x2 &&& (65535 : Int32))))])) (fun τ κ => XS.imul X50.here hx rfl (hb hby at_54) rfl κ) ?_
  refine Gl.st (g' := (mkF m 57 #[.val (.int x0), .val (.int x1), .val (.int x2), .val (.int x3), .val (.int (x1 &&& (1023 : Int32))), .val (.int (x2 &&& (65535 : Int32))), .val (.int (x3 &&& (1023 : Int32))), .val (.ref b39), .val (.int (((x1 &&& (1023 : Int32)) * (x2 &&& (65535 : Int32))) + ((x3 &&& (1023 : Int32)) * ((x2 &&& (65535 : Int32)) + (1 : Int32))))), .val (.int ((x1 &&& (1023 : Int32)) + (x3 &&& (1023 : Int32)))), .unset] [(.int (x3 &&& (1023 : Int32))), (.int (((x1 &&& (1023 : Int32)) + (x3 &&& (1023 : Int32))) * (x2 &&& (65535 : Int32))))])) (fun τ κ => XS.iload X50.here hx rfl (hb hby at_55) rfl κ) ?_
  refine Gl.st (g' := (mkF m 58 #[.val (.int x0), .val (.int x1), .val (.int x2), .val (.int x3), .val (.int (x1 &&& (1023 : Int32))), .val (.int (x2 &&& (65535 : Int32))), .val (.int (x3 &&& (1023 : Int32))), .val (.ref b39), .val (.int (((x1 &&& (1023 : Int32)) * (x2 &&& (65535 : Int32))) + ((x3 &&& (1023 : Int32)) * ((x2 &&& (65535 : Int32)) + (1 : Int32))))), .val (.int ((x1 &&& (1023 : Int32)) + (x3 &&& (1023 : Int32)))), .unset] [(.int ((((x1 &&& (1023 : Int32)) + (x3 &&& (1023 : Int32))) * (x2 &&& (65535 : Int32))) + (x3 &&& (1023 : Int32))))])) (fun τ κ => XS.iadd X50.here hx rfl (hb hby at_57) rfl κ) ?_
  refine Gl.st (g' := (mkF m 60 #[.val (.int x0), .val (.int x1), .val (.int x2), .val (.int x3), .val (.int (x1 &&& (1023 : Int32))), .val (.int (x2 &&& (65535 : Int32))), .val (.int (x3 &&& (1023 : Int32))), .val (.ref b39), .val (.int (((x1 &&& (1023 : Int32)) * (x2 &&& (65535 : Int32))) + ((x3 &&& (1023 : Int32)) * ((x2 &&& (65535 : Int32)) + (1 : Int32))))), .val (.int ((x1 &&& (1023 : Int32)) + (x3 &&& (1023 : Int32)))), .val (.int ((((x1 &&& (1023 : Int32)) + (x3 &&& (1023 : Int32))) * (x2 &&& (65535 : Int32))) + (x3 &&& (1023 : Int32))))] [])) (fun τ κ => XS.istore X50.here hx rfl (hb hby at_58) rfl (l' := #[.val (.int x0), .val (.int x1), .val (.int x2), .val (.int x3), .val (.int (x1 &&& (1023 : Int32))), .val (.int (x2 &&& (65535 : Int32))), .val (.int (x3 &&& (1023 : Int32))), .val (.ref b39), .val (.int (((x1 &&& (1023 : Int32)) * (x2 &&& (65535 : Int32))) + ((x3 &&& (1023 : Int32)) * ((x2 &&& (65535 : Int32)) + (1 : Int32))))), .val (.int ((x1 &&& (1023 : Int32)) + (x3 &&& (1023 : Int32)))), .val (.int ((((x1 &&& (1023 : Int32)) + (x3 &&& (1023 : Int32))) * (x2 &&& (65535 : Int32))) + (x3 &&& (1023 : Int32))))]) rfl κ) ?_
  refine Gl.st (g' := (mkF m 62 #[.val (.int x0), .val (.int x1), .val (.int x2), .val (.int x3), .val (.int (x1 &&& (1023 : Int32))), .val (.int (x2 &&& (65535 : Int32))), .val (.int (x3 &&& (1023 : Int32))), .val (.ref b39), .val (.int (((x1 &&& (1023 : Int32)) * (x2 &&& (65535 : Int32))) + ((x3 &&& (1023 : Int32)) * ((x2 &&& (65535 : Int32)) + (1 : Int32))))), .val (.int ((x1 &&& (1023 : Int32)) + (x3 &&& (1023 : Int32)))), .val (.int ((((x1 &&& (1023 : Int32)) + (x3 &&& (1023 : Int32))) * (x2 &&& (65535 : Int32))) + (x3 &&& (1023 : Int32))))] [(.int (((x1 &&& (1023 : Int32)) * (x2 &&& (65535 : Int32))) + ((x3 &&& (1023 : Int32)) * ((x2 &&& (65535 : Int32)) + (1 : Int32)))))])) (fun τ κ => XS.iload X50.here hx rfl (hb hby at_60) rfl κ) ?_
  refine Gl.st (g' := (mkF m 64 #[.val (.int x0), .val (.int x1), .val (.int x2), .val (.int x3), .val (.int (x1 &&& (1023 : Int32))), .val (.int (x2 &&& (65535 : Int32))), .val (.int (x3 &&& (1023 : Int32))), .val (.ref b39), .val (.int (((x1 &&& (1023 : Int32)) * (x2 &&& (65535 : Int32))) + ((x3 &&& (1023 : Int32)) * ((x2 &&& (65535 : Int32)) + (1 : Int32))))), .val (.int ((x1 &&& (1023 : Int32)) + (x3 &&& (1023 : Int32)))), .val (.int ((((x1 &&& (1023 : Int32)) + (x3 &&& (1023 : Int32))) * (x2 &&& (65535 : Int32))) + (x3 &&& (1023 : Int32))))] [(.int ((((x1 &&& (1023 : Int32)) + (x3 &&& (1023 : Int32))) * (x2 &&& (65535 : Int32))) + (x3 &&& (1023 : Int32)))), (.int (((x1 &&& (1023 : Int32)) * (x2 &&& (65535 : Int32))) + ((x3 &&& (1023 : Int32)) * ((x2 &&& (65535 : Int32)) + (1 : Int32)))))])) (fun τ κ => XS.iload X50.here hx rfl (hb hby at_62) rfl κ) ?_
  have hc51 : (((x1 &&& (1023 : Int32)) * (x2 &&& (65535 : Int32))) + ((x3 &&& (1023 : Int32)) * ((x2 &&& (65535 : Int32)) + (1 : Int32)))) = ((((x1 &&& (1023 : Int32)) + (x3 &&& (1023 : Int32))) * (x2 &&& (65535 : Int32))) + (x3 &&& (1023 : Int32))) := own_r1 _ _ _
  refine Gl.st (g' := (mkF m 69 #[.val (.int x0), .val (.int x1), .val (.int x2), .val (.int x3), .val (.int (x1 &&& (1023 : Int32))), .val (.int (x2 &&& (65535 : Int32))), .val (.int (x3 &&& (1023 : Int32))), .val (.ref b39), .val (.int (((x1 &&& (1023 : Int32)) * (x2 &&& (65535 : Int32))) + ((x3 &&& (1023 : Int32)) * ((x2 &&& (65535 : Int32)) + (1 : Int32))))), .val (.int ((x1 &&& (1023 : Int32)) + (x3 &&& (1023 : Int32)))), .val (.int ((((x1 &&& (1023 : Int32)) + (x3 &&& (1023 : Int32))) * (x2 &&& (65535 : Int32))) + (x3 &&& (1023 : Int32))))] [])) (fun τ κ => XS.icmpYes X50.here hx rfl (pc0 := 64) (pc' := 69) rfl (hb hby at_64) rfl (teq hc51).1 (by decide) (by decide) κ) ?_
  refine Gl.st (g' := (mkF m 71 #[.val (.int x0), .val (.int x1), .val (.int x2), .val (.int x3), .val (.int (x1 &&& (1023 : Int32))), .val (.int (x2 &&& (65535 : Int32))), .val (.int (x3 &&& (1023 : Int32))), .val (.ref b39), .val (.int (((x1 &&& (1023 : Int32)) * (x2 &&& (65535 : Int32))) + ((x3 &&& (1023 : Int32)) * ((x2 &&& (65535 : Int32)) + (1 : Int32))))), .val (.int ((x1 &&& (1023 : Int32)) + (x3 &&& (1023 : Int32)))), .val (.int ((((x1 &&& (1023 : Int32)) + (x3 &&& (1023 : Int32))) * (x2 &&& (65535 : Int32))) + (x3 &&& (1023 : Int32))))] [(.int (((x1 &&& (1023 : Int32)) * (x2 &&& (65535 : Int32))) + ((x3 &&& (1023 : Int32)) * ((x2 &&& (65535 : Int32)) + (1 : Int32)))))])) (fun τ κ => XS.iload X50.here hx rfl (hb hby at_69) rfl κ) ?_
  refine Gl.st (g' := (mkF m 73 #[.val (.int x0), .val (.int x1), .val (.int x2), .val (.int x3), .val (.int (x1 &&& (1023 : Int32))), .val (.int (x2 &&& (65535 : Int32))), .val (.int (x3 &&& (1023 : Int32))), .val (.ref b39), .val (.int (((x1 &&& (1023 : Int32)) * (x2 &&& (65535 : Int32))) + ((x3 &&& (1023 : Int32)) * ((x2 &&& (65535 : Int32)) + (1 : Int32))))), .val (.int ((x1 &&& (1023 : Int32)) + (x3 &&& (1023 : Int32)))), .val (.int ((((x1 &&& (1023 : Int32)) + (x3 &&& (1023 : Int32))) * (x2 &&& (65535 : Int32))) + (x3 &&& (1023 : Int32))))] [(.ref b39), (.int (((x1 &&& (1023 : Int32)) * (x2 &&& (65535 : Int32))) + ((x3 &&& (1023 : Int32)) * ((x2 &&& (65535 : Int32)) + (1 : Int32)))))])) (fun τ κ => XS.aload X50.here hx rfl (hb hby at_71) rfl rfl κ) ?_
  refine Gl.st (g' := (mkF m 75 #[.val (.int x0), .val (.int x1), .val (.int x2), .val (.int x3), .val (.int (x1 &&& (1023 : Int32))), .val (.int (x2 &&& (65535 : Int32))), .val (.int (x3 &&& (1023 : Int32))), .val (.ref b39), .val (.int (((x1 &&& (1023 : Int32)) * (x2 &&& (65535 : Int32))) + ((x3 &&& (1023 : Int32)) * ((x2 &&& (65535 : Int32)) + (1 : Int32))))), .val (.int ((x1 &&& (1023 : Int32)) + (x3 &&& (1023 : Int32)))), .val (.int ((((x1 &&& (1023 : Int32)) + (x3 &&& (1023 : Int32))) * (x2 &&& (65535 : Int32))) + (x3 &&& (1023 : Int32))))] [(.int ((x1 &&& (1023 : Int32)) + (x3 &&& (1023 : Int32)))), (.ref b39), (.int (((x1 &&& (1023 : Int32)) * (x2 &&& (65535 : Int32))) + ((x3 &&& (1023 : Int32)) * ((x2 &&& (65535 : Int32)) + (1 : Int32)))))])) (fun τ κ => XS.iload X50.here hx rfl (hb hby at_73) rfl κ) ?_
  obtain ⟨cq52, kq52, q52a, q52b, q52c⟩ := isOf hZ e50 Ec44
  obtain ⟨rv52, _, ⟨T52, L52, k52, n52⟩, -, X52, ⟨Lc52, hQ52, l52, y52, z52⟩, st52⟩ := X50.virtualBack hx (y := (⟨"com/example/quietzone/quietzone/QrBlockTable$Blocks", "dataStart", "(I)I"⟩ : MethodName)) (z := (⟨"com/example/quietzone/quietzone/QrBlockTable$Blocks", "dataStart", "(I)I"⟩ : MethodName)) hown (mvT hZ (hw _ (List.mem_of_getElem? (i := 28) rfl))) (mvT hZ (hw _ (List.mem_of_getElem? (i := 29) rfl))) (notFace_of_selects (args := #[]) (mvT hZ (hw _ (List.mem_of_getElem? (i := 31) rfl)))) (mvT hZ (hw _ (List.mem_of_getElem? (i := 31) rfl))) (mvT hZ (hw _ (List.mem_of_getElem? (i := 30) rfl))) (by decide) (backOf (W := 1) (rm5 l Z a0 hw [] b39 ((x1 &&& (1023 : Int32)) + (x3 &&& (1023 : Int32))) (x1 &&& (1023 : Int32)) (x2 &&& (65535 : Int32)) T44.heap n0 Z44 Fc44_1 Fc44_2) hZ (hw _ (List.mem_of_getElem? (i := 32) rfl)) (hw _ (List.mem_of_getElem? (i := 3) rfl)) (by decide) (by decide)) q52a q52c (g := (mkF m 75 #[.val (.int x0), .val (.int x1), .val (.int x2), .val (.int x3), .val (.int (x1 &&& (1023 : Int32))), .val (.int (x2 &&& (65535 : Int32))), .val (.int (x3 &&& (1023 : Int32))), .val (.ref b39), .val (.int (((x1 &&& (1023 : Int32)) * (x2 &&& (65535 : Int32))) + ((x3 &&& (1023 : Int32)) * ((x2 &&& (65535 : Int32)) + (1 : Int32))))), .val (.int ((x1 &&& (1023 : Int32)) + (x3 &&& (1023 : Int32)))), .val (.int ((((x1 &&& (1023 : Int32)) + (x3 &&& (1023 : Int32))) * (x2 &&& (65535 : Int32))) + (x3 &&& (1023 : Int32))))] [(.int ((x1 &&& (1023 : Int32)) + (x3 &&& (1023 : Int32)))), (.ref b39), (.int (((x1 &&& (1023 : Int32)) * (x2 &&& (65535 : Int32))) + ((x3 &&& (1023 : Int32)) * ((x2 &&& (65535 : Int32)) + (1 : Int32)))))])) rfl (by rw [hml]; rfl) (Steps.refl _) (argsL := [(.int ((x1 &&& (1023 : Int32)) + (x3 &&& (1023 : Int32))))]) (rest := [(.int (((x1 &&& (1023 : Int32)) * (x2 &&& (65535 : Int32))) + ((x3 &&& (1023 : Int32)) * ((x2 &&& (65535 : Int32)) + (1 : Int32)))))]) (lenOf pd_4 rfl) rfl (by show 2 * 0 + _ ≤ _; exact Nat.le_of_eq rfl) (hb hby at_75) (fun _ _ => ⟨rfl, e50, (by decide : 1 + 0 ≤ _), (by decide : 4 + 0 ≤ _)⟩)
  dsimp only [Pt.U, Pt.locs, Pt.cells, Pt.slots] at X52 l52 y52 z52 st52 hQ52
  subst l52 y52 z52
  obtain ⟨rfl, N52q, e52⟩ := hQ52
  have N52 := Fr.app N50 N52q
  refine Gl.st (g' := (mkF m 78 #[.val (.int x0), .val (.int x1), .val (.int x2), .val (.int x3), .val (.int (x1 &&& (1023 : Int32))), .val (.int (x2 &&& (65535 : Int32))), .val (.int (x3 &&& (1023 : Int32))), .val (.ref b39), .val (.int (((x1 &&& (1023 : Int32)) * (x2 &&& (65535 : Int32))) + ((x3 &&& (1023 : Int32)) * ((x2 &&& (65535 : Int32)) + (1 : Int32))))), .val (.int ((x1 &&& (1023 : Int32)) + (x3 &&& (1023 : Int32)))), .val (.int ((((x1 &&& (1023 : Int32)) + (x3 &&& (1023 : Int32))) * (x2 &&& (65535 : Int32))) + (x3 &&& (1023 : Int32))))] [(.int ((((x1 &&& (1023 : Int32)) + (x3 &&& (1023 : Int32))) * (x2 &&& (65535 : Int32))) + (own_max (0 : Int32) (((x1 &&& (1023 : Int32)) + (x3 &&& (1023 : Int32))) - (x1 &&& (1023 : Int32)))))), (.int (((x1 &&& (1023 : Int32)) * (x2 &&& (65535 : Int32))) + ((x3 &&& (1023 : Int32)) * ((x2 &&& (65535 : Int32)) + (1 : Int32)))))])) (fun τ κ => st52.trans κ) ?_
  have hc53 : (((x1 &&& (1023 : Int32)) * (x2 &&& (65535 : Int32))) + ((x3 &&& (1023 : Int32)) * ((x2 &&& (65535 : Int32)) + (1 : Int32)))) = ((((x1 &&& (1023 : Int32)) + (x3 &&& (1023 : Int32))) * (x2 &&& (65535 : Int32))) + (own_max (0 : Int32) (((x1 &&& (1023 : Int32)) + (x3 &&& (1023 : Int32))) - (x1 &&& (1023 : Int32))))) := own_r3 _ _ _ (own_nn x3)
  refine Gl.st (g' := (mkF m 81 #[.val (.int x0), .val (.int x1), .val (.int x2), .val (.int x3), .val (.int (x1 &&& (1023 : Int32))), .val (.int (x2 &&& (65535 : Int32))), .val (.int (x3 &&& (1023 : Int32))), .val (.ref b39), .val (.int (((x1 &&& (1023 : Int32)) * (x2 &&& (65535 : Int32))) + ((x3 &&& (1023 : Int32)) * ((x2 &&& (65535 : Int32)) + (1 : Int32))))), .val (.int ((x1 &&& (1023 : Int32)) + (x3 &&& (1023 : Int32)))), .val (.int ((((x1 &&& (1023 : Int32)) + (x3 &&& (1023 : Int32))) * (x2 &&& (65535 : Int32))) + (x3 &&& (1023 : Int32))))] [])) (fun τ κ => XS.icmpNo X52.here hx rfl (hb hby at_78) rfl (teq hc53).2 κ) ?_
  refine Gl.st (g' := (mkF m 82 #[.val (.int x0), .val (.int x1), .val (.int x2), .val (.int x3), .val (.int (x1 &&& (1023 : Int32))), .val (.int (x2 &&& (65535 : Int32))), .val (.int (x3 &&& (1023 : Int32))), .val (.ref b39), .val (.int (((x1 &&& (1023 : Int32)) * (x2 &&& (65535 : Int32))) + ((x3 &&& (1023 : Int32)) * ((x2 &&& (65535 : Int32)) + (1 : Int32))))), .val (.int ((x1 &&& (1023 : Int32)) + (x3 &&& (1023 : Int32)))), .val (.int ((((x1 &&& (1023 : Int32)) + (x3 &&& (1023 : Int32))) * (x2 &&& (65535 : Int32))) + (x3 &&& (1023 : Int32))))] [(.int (1 : Int32))])) (fun τ κ => XS.iconst X52.here hx rfl (hb hby at_81) κ) ?_
  refine Gl.st (g' := (mkF m 86 #[.val (.int x0), .val (.int x1), .val (.int x2), .val (.int x3), .val (.int (x1 &&& (1023 : Int32))), .val (.int (x2 &&& (65535 : Int32))), .val (.int (x3 &&& (1023 : Int32))), .val (.ref b39), .val (.int (((x1 &&& (1023 : Int32)) * (x2 &&& (65535 : Int32))) + ((x3 &&& (1023 : Int32)) * ((x2 &&& (65535 : Int32)) + (1 : Int32))))), .val (.int ((x1 &&& (1023 : Int32)) + (x3 &&& (1023 : Int32)))), .val (.int ((((x1 &&& (1023 : Int32)) + (x3 &&& (1023 : Int32))) * (x2 &&& (65535 : Int32))) + (x3 &&& (1023 : Int32))))] [(.int (1 : Int32))])) (fun τ κ => XS.goto X52.here hx rfl (pc0 := 82) (pc' := 86) rfl (hb hby at_82) (by decide) (by decide) κ) ?_
  exact Gl.ret (v := some (.int (1 : Int32))) X52 Bd.notSynchronized (fun h => by rw [Bd.returns] at h; cases h) e52 (fun fs hr => retN X52 hx (t := .boolean) Bd.returns (by simp) (hb hby at_86) hr) (by decide) (by decide) ⟨rfl, N52⟩
set_option maxRecDepth 65536 in
set_option maxHeartbeats 40000000 in
theorem comes_1 {Post : Tables → Env → Array Value → State → Outcome → State → Prop} (hpost : ∀ tb e args s v u, (limb_1_1.after args s (.returned v) u = true ∧ limb_1_2.after args s (.returned v) u = true ∧ True) → FrameEnd s (.returned v) u (Jvm.fieldLocs frame_1_writes args s ++ Jvm.arrayLocs frame_1_arrays args s ++ Jvm.staticLocs frame_1_statics s) 16 128 → Post tb e args s (.returned v) u) :
    ArmFor flags0 classFile x code maxLocals ret World_1 tables_1 room_1 Calls_1 rest_1 Pre_1 Post := by
  intro l hfl _ _ p e ha hc hk s m args below hf hA hF happ hP
  obtain ⟨hcalls, hrest, hpre⟩ := hP
  obtain ⟨-, -, -, hnamed, -, -, -, hat⟩ := (Spec.applies_iff hf).mp happ
  obtain ⟨hg, hn⟩ := and_e (Cond.before_iff.mp (show (Jvm.Cond.and given_1 narrow_1).before args s = true from hpre))
  obtain ⟨hcount, hg0⟩ := and_e hg
  obtain ⟨gi0, hg1⟩ := and_e hg0
  obtain ⟨gi1, hg2⟩ := and_e hg1
  obtain ⟨gi2, hg3⟩ := and_e hg2
  have gi3 := hg3
  obtain ⟨w0, w1, w2, w3, rfl⟩ : ∃ w0 w1 w2 w3 : Value, args = #[w0, w1, w2, w3] := by
    have hs : args.size = 4 := by simpa [Cond.value, given_1] using hcount
    obtain ⟨L⟩ := args
    match L, hs with
    | [w0, w1, w2, w3], _ => exact ⟨w0, w1, w2, w3, rfl⟩
  have hw := fun d (hd : d ∈ tables_1) => atoms_spec (ws := Jvm.Cond.code x code maxLocals ret :: tables_1) hat d (List.mem_cons_of_mem _ hd)
  obtain ⟨i0, ei0⟩ := is_v gi0
  obtain rfl : w0 = (.int i0) := Option.some.inj ei0
  obtain ⟨i1, ei1⟩ := is_v gi1
  obtain rfl : w1 = (.int i1) := Option.some.inj ei1
  obtain ⟨i2, ei2⟩ := is_v gi2
  obtain rfl : w2 = (.int i2) := Option.some.inj ei2
  obtain ⟨i3, ei3⟩ := is_v gi3
  obtain rfl : w3 = (.int i3) := Option.some.inj ei3
  obtain ⟨n, o, h1, h2, h3, _, L, rfl, ⟨rfl, N⟩, hq⟩ := rm0 l s _ hw tables_1 i0 i1 i2 i3  s.heap s.heap.size (Nat.le_refl _)  p e ha hc hk s m _ below hf ((Spec.applies_iff_loose hf).mp happ).1 ⟨rfl, State.Warmed39.refl s, rfl⟩ trivial
  refine ⟨n, _, h1, h2, h3, hpost _ _ _ _ _ _ ⟨Cond.after_iff.mpr rfl, Cond.after_iff.mpr (eq_i res_at (Term.int_eval (1)) rfl), trivial⟩ ⟨hq.1, hq.2.1, (hq.2.2.sift fun y hy => Or.inr (N y hy)).mono (by decide) (by decide)⟩⟩
theorem main_1_1 : Claimed_1_1 := comes_1 fun _ _ _ _ _ _ h hF => ⟨h.1, hF⟩
theorem main_1_2 : Claimed_1_2 := comes_1 fun _ _ _ _ _ _ h hF => ⟨h.2.1, hF⟩
end Jvm.Pilot.@@N@@
namespace Jvm.Pilot.@@N@@
open Jvm Jvm.ClassFile Sem Op Lib Jvm.Free Jvm.Stand Jvm.Pilot.@@N@@.Jvm.D
/-! MADE BY PROGRAM (witnessworld.py) out of the Statement's table words and the real class files: 11 classes; the members and pool entries that the words name. The judged class is class 1, her method 1. -/
namespace start1
open Jvm.ClassFile
def u (s : String) : CpInfo := .utf8 (stringToUtf16 s)
/-- a pool by its gaps: so many unusable entries, then the entry; so many at the end -/
def gap : Nat → List CpInfo → List CpInfo
  | 0, r => r
  | n + 1, r => .unusable :: gap n r
def poolList (es : List (Nat × CpInfo)) (last : Nat) : List CpInfo := es.foldr (fun e r => gap e.1 (e.2 :: r)) (gap last [])
def pool (es : List (Nat × CpInfo)) (last : Nat) : Array CpInfo := ⟨poolList es last⟩
def fileOf (pool : Array CpInfo) (this : Nat) (attrs : Array Attribute := #[]) (ms : Array MethodInfo := #[]) (fl : Nat := 33) (sup : Nat := 0) (ifs : Array Nat := #[]) (fds : Array FieldInfo := #[]) : ClassFile where
  minorVersion := 0
  majorVersion := 65
  constantPool := pool
  accessFlags := fl
  thisClass := this
  superClass := sup
  interfaces := ifs
  fields := fds
  methods := ms
  attributes := attrs
def plain (name : String) (sup : Option ClassId) : Class where
  name := name
  kind := .ordinary
  loader := none
  accessFlags := 33
  super := sup
  interfaces := #[]
  cf := none
  fields := #[]
  methods := #[]
  instanceTypes := #[]
  staticTypes := #[]
  resolved := #[]
  callSites := []
  init := .initialized
  statics := none
  mirror := none

def pool0 : Array CpInfo := pool [(5, u "<init>"), (0, u "()V"), (1, .class_ 10), (1, u "java/lang/Object")] 113

def k0c0 : Code := { maxStack := 0, maxLocals := 1, code := object_method_1_code, exceptionTable := #[], attributes := #[] }
def k0m0 : Method := { name := "<init>", desc := "()V", sig := { parameters := [], returnType := none }, accessFlags := 1, code := some k0c0 }
/-- java/lang/Object -/
def k0 : Class := { plain "java/lang/Object" none with
  accessFlags := 33
  interfaces := #[]
  cf := some (fileOf pool0 8 #[] #[{ accessFlags := 1, nameIndex := 5, descriptorIndex := 6, attributes := #[] }] 33 0 #[] #[])
  fields := #[]
  methods := #[k0m0]
  instanceTypes := #[]
  staticTypes := #[]
  resolved := Array.replicate 124 none
  statics := none }

def pool1 : Array CpInfo := pool [(2, .class_ 4), (1, u "java/lang/Object"), (0, u "<init>"), (0, u "()V"), (0, .integer 65535), (0, .class_ 9), (0, u "com/example/quietzone/quietzone/QrBlockTable$Blocks"), (0, .methodref 8 11), (0, .nameAndType 5 12), (0, u "(IIII)V"), (0, .methodref 8 14), (0, .nameAndType 15 16), (0, u "dataCodewords"), (0, u "()I"), (0, .methodref 8 18), (0, .nameAndType 19 20), (0, u "dataStart"), (0, u "(I)I"), (0, .class_ 22), (0, u "com/example/quietzone/quietzone/BlocksDataCodewordsPinLaw"), (2, u "law"), (0, u "(IIII)Z")] 7

def k1m0 : Method := { name := "<init>", desc := "()V", sig := { parameters := [], returnType := none }, accessFlags := 2, code := none }
def k1c1 : Code := { maxStack := 6, maxLocals := 11, code := code, exceptionTable := #[], attributes := #[] }
def k1m1 : Method := { name := "law", desc := "(IIII)Z", sig := { parameters := [.int, .int, .int, .int], returnType := some .boolean }, accessFlags := 9, code := some k1c1 }
/-- com/example/quietzone/quietzone/BlocksDataCodewordsPinLaw -/
def k1 : Class := { plain "com/example/quietzone/quietzone/BlocksDataCodewordsPinLaw" (some 0) with
  accessFlags := 49
  interfaces := #[]
  cf := some (fileOf pool1 21 #[] #[{ accessFlags := 2, nameIndex := 5, descriptorIndex := 6, attributes := #[] }, { accessFlags := 9, nameIndex := 25, descriptorIndex := 26, attributes := #[] }] 49 2 #[] #[])
  fields := #[]
  methods := #[k1m0, k1m1]
  instanceTypes := #[]
  staticTypes := #[]
  resolved := Array.replicate 34 none
  statics := none }

def pool2 : Array CpInfo := pool [(1, .methodref 2 3), (0, .class_ 4), (0, .nameAndType 5 6), (0, u "java/lang/Object"), (0, u "<init>"), (0, u "()V"), (0, .class_ 8), (0, u "java/lang/Record")] 13

def k2c0 : Code := { maxStack := 1, maxLocals := 1, code := jdk_30_method_1_code, exceptionTable := #[], attributes := #[] }
def k2m0 : Method := { name := "<init>", desc := "()V", sig := { parameters := [], returnType := none }, accessFlags := 4, code := some k2c0 }
/-- java/lang/Record -/
def k2 : Class := { plain "java/lang/Record" (some 0) with
  accessFlags := 1057
  interfaces := #[]
  cf := some (fileOf pool2 7 #[] #[{ accessFlags := 4, nameIndex := 5, descriptorIndex := 6, attributes := #[] }] 1057 2 #[] #[])
  fields := #[]
  methods := #[k2m0]
  instanceTypes := #[]
  staticTypes := #[]
  resolved := Array.replicate 22 none
  statics := none }

def pool3 : Array CpInfo := pool [(1, .methodref 2 3), (0, .class_ 4), (0, .nameAndType 5 6), (0, u "java/lang/Record"), (0, u "<init>"), (0, u "()V"), (0, .fieldref 8 9), (0, .class_ 10), (0, .nameAndType 11 12), (0, u "com/example/quietzone/quietzone/QrBlockTable$Blocks"), (0, u "ecPerBlock"), (0, u "I"), (0, .fieldref 8 14), (0, .nameAndType 15 12), (0, u "shortBlocks"), (0, .fieldref 8 17), (0, .nameAndType 18 12), (0, u "shortData"), (0, .fieldref 8 20), (0, .nameAndType 21 12), (0, u "longBlocks"), (0, .methodref 23 24), (0, .class_ 25), (0, .nameAndType 26 27), (0, u "java/lang/Math"), (0, u "max"), (0, u "(II)I"), (2, u "dataCodewords"), (0, u "()I"), (15, u "(IIII)V"), (4, u "(I)I"), (1, u "dataStart"), (6, .class_ 62), (0, u "com/example/quietzone/quietzone/QrBlockTable")] 22

def k3c0 : Code := { maxStack := 2, maxLocals := 5, code := prog_17_method_1_code, exceptionTable := #[], attributes := #[] }
def k3m0 : Method := { name := "<init>", desc := "(IIII)V", sig := { parameters := [.int, .int, .int, .int], returnType := none }, accessFlags := 0, code := some k3c0 }
def k3c1 : Code := { maxStack := 4, maxLocals := 2, code := prog_17_method_4_code, exceptionTable := #[], attributes := #[] }
def k3m1 : Method := { name := "dataStart", desc := "(I)I", sig := { parameters := [.int], returnType := some .int }, accessFlags := 0, code := some k3c1 }
def k3c2 : Code := { maxStack := 4, maxLocals := 1, code := prog_17_method_5_code, exceptionTable := #[], attributes := #[] }
def k3m2 : Method := { name := "dataCodewords", desc := "()I", sig := { parameters := [], returnType := some .int }, accessFlags := 0, code := some k3c2 }
/-- com/example/quietzone/quietzone/QrBlockTable$Blocks -/
def k3 : Class := { plain "com/example/quietzone/quietzone/QrBlockTable$Blocks" (some 2) with
  accessFlags := 48
  interfaces := #[]
  cf := some (fileOf pool3 8 #[.nestHost 61] #[{ accessFlags := 0, nameIndex := 5, descriptorIndex := 47, attributes := #[] }, { accessFlags := 0, nameIndex := 54, descriptorIndex := 52, attributes := #[] }, { accessFlags := 0, nameIndex := 30, descriptorIndex := 31, attributes := #[] }] 48 2 #[] #[{ accessFlags := 18, nameIndex := 11, descriptorIndex := 12, attributes := #[] }, { accessFlags := 18, nameIndex := 15, descriptorIndex := 12, attributes := #[] }, { accessFlags := 18, nameIndex := 18, descriptorIndex := 12, attributes := #[] }, { accessFlags := 18, nameIndex := 21, descriptorIndex := 12, attributes := #[] }])
  fields := #[{ name := "ecPerBlock", type := .int, accessFlags := 18, slot := 0, constantValue := 0 }, { name := "shortBlocks", type := .int, accessFlags := 18, slot := 1, constantValue := 0 }, { name := "shortData", type := .int, accessFlags := 18, slot := 2, constantValue := 0 }, { name := "longBlocks", type := .int, accessFlags := 18, slot := 3, constantValue := 0 }]
  methods := #[k3m0, k3m1, k3m2]
  instanceTypes := #[.int, .int, .int, .int]
  staticTypes := #[]
  resolved := Array.replicate 85 none
  statics := none }

def pool4 : Array CpInfo := pool [(1, .class_ 2), (0, u "java/lang/Math"), (1, .class_ 6), (1, u "java/lang/Object"), (0, u "<init>"), (0, u "()V"), (89, .class_ 100), (1, u "java/lang/Math$RandomNumberGeneratorHolder"), (71, u "negativeZeroFloatBits"), (0, u "J"), (2, u "negativeZeroDoubleBits"), (21, u "max"), (46, u "$assertionsDisabled"), (0, u "Z"), (88, u "(II)I"), (2, u "twoToTheDoubleScaleDown"), (0, u "D"), (4, u "twoToTheDoubleScaleUp"), (9, u "E"), (3, u "PI"), (2, u "TAU"), (2, u "DEGREES_TO_RADIANS"), (0, u "RADIANS_TO_DEGREES")] 94

def k4m0 : Method := { name := "<init>", desc := "()V", sig := { parameters := [], returnType := none }, accessFlags := 2, code := none }
def k4c1 : Code := { maxStack := 2, maxLocals := 2, code := jdk_29_method_65_code, exceptionTable := #[], attributes := #[] }
def k4m1 : Method := { name := "max", desc := "(II)I", sig := { parameters := [.int, .int], returnType := some .int }, accessFlags := 9, code := some k4c1 }
/-- java/lang/Math -/
def k4 : Class := { plain "java/lang/Math" (some 0) with
  accessFlags := 49
  interfaces := #[]
  cf := some (fileOf pool4 1 #[.nestMembers #[98]] #[{ accessFlags := 2, nameIndex := 7, descriptorIndex := 8, attributes := #[] }, { accessFlags := 9, nameIndex := 198, descriptorIndex := 335, attributes := #[] }] 49 4 #[] #[{ accessFlags := 25, nameIndex := 354, descriptorIndex := 339, attributes := #[] }, { accessFlags := 25, nameIndex := 358, descriptorIndex := 339, attributes := #[] }, { accessFlags := 25, nameIndex := 361, descriptorIndex := 339, attributes := #[] }, { accessFlags := 26, nameIndex := 364, descriptorIndex := 339, attributes := #[] }, { accessFlags := 26, nameIndex := 365, descriptorIndex := 339, attributes := #[] }, { accessFlags := 26, nameIndex := 172, descriptorIndex := 173, attributes := #[] }, { accessFlags := 26, nameIndex := 176, descriptorIndex := 173, attributes := #[] }, { accessFlags := 8, nameIndex := 344, descriptorIndex := 339, attributes := #[] }, { accessFlags := 8, nameIndex := 338, descriptorIndex := 339, attributes := #[] }, { accessFlags := 4120, nameIndex := 245, descriptorIndex := 246, attributes := #[] }])
  fields := #[{ name := "E", type := .double, accessFlags := 25, slot := 0, constantValue := 0 }, { name := "PI", type := .double, accessFlags := 25, slot := 1, constantValue := 0 }, { name := "TAU", type := .double, accessFlags := 25, slot := 2, constantValue := 0 }, { name := "DEGREES_TO_RADIANS", type := .double, accessFlags := 26, slot := 3, constantValue := 0 }, { name := "RADIANS_TO_DEGREES", type := .double, accessFlags := 26, slot := 4, constantValue := 0 }, { name := "negativeZeroFloatBits", type := .long, accessFlags := 26, slot := 5, constantValue := 0 }, { name := "negativeZeroDoubleBits", type := .long, accessFlags := 26, slot := 6, constantValue := 0 }, { name := "twoToTheDoubleScaleUp", type := .double, accessFlags := 8, slot := 7, constantValue := 0 }, { name := "twoToTheDoubleScaleDown", type := .double, accessFlags := 8, slot := 8, constantValue := 0 }, { name := "$assertionsDisabled", type := .boolean, accessFlags := 4120, slot := 9, constantValue := 0 }]
  methods := #[k4m0, k4m1]
  instanceTypes := #[]
  staticTypes := #[.double, .double, .double, .double, .double, .long, .long, .double, .double, .boolean]
  resolved := Array.replicate 460 none
  statics := none }

def pool5 : Array CpInfo := pool [(1, u "java/lang/Cloneable"), (0, .class_ 1), (0, u "java/lang/Object"), (0, .class_ 3)] 3

/-- java/lang/Cloneable -/
def k5 : Class := { plain "java/lang/Cloneable" (some 0) with
  accessFlags := 1537
  interfaces := #[]
  cf := some (fileOf pool5 2 #[] #[] 1537 4 #[] #[])
  fields := #[]
  methods := #[]
  instanceTypes := #[]
  staticTypes := #[]
  resolved := Array.replicate 8 none
  statics := none }

def pool6 : Array CpInfo := pool [(1, u "java/io/Serializable"), (0, .class_ 1), (0, u "java/lang/Object"), (0, .class_ 3)] 3

/-- java/io/Serializable -/
def k6 : Class := { plain "java/io/Serializable" (some 0) with
  accessFlags := 1537
  interfaces := #[]
  cf := some (fileOf pool6 2 #[] #[] 1537 4 #[] #[])
  fields := #[]
  methods := #[]
  instanceTypes := #[]
  staticTypes := #[]
  resolved := Array.replicate 8 none
  statics := none }

/-- the primitive byte -/
def k7 : Class := { plain "byte" none with kind := .primitive 'B', accessFlags := 0x411 }
/-- [B -/
def k8 : Class := { plain "[B" (some 0) with kind := .array 7 .byte, interfaces := #[5, 6], accessFlags := 1041 }

/-- the primitive int -/
def k9 : Class := { plain "int" none with kind := .primitive 'I', accessFlags := 0x411 }
/-- [I -/
def k10 : Class := { plain "[I" (some 0) with kind := .array 9 .int, interfaces := #[5, 6], accessFlags := 1041 }

def heap : Heap := #[]
def classes : Array Class := #[k0, k1, k2, k3, k4, k5, k6, k7, k8, k9, k10]
def interned : List (Array UInt16 × Addr) := []
def slotsUsed : Nat := 0
def theMethod : MethodId := ⟨1, 1⟩
def args0 : Array Value := #[.int 5, .int 5, .int 5, .int 5]
def aboutOver (below : List Frame) : State where
  vm := { classes := classes, interned := interned.toArray }
  heap := heap
  slotsUsed := slotsUsed
  threads := #[{ frames := .invoking theMethod args0 :: below }]
def below0 : List Frame := [.native { method := ⟨0, 0⟩, args := #[] }]
def about1 : State := aboutOver below0
def p0 : Program := .bare "" "" ""
def e0 : Env := launch0.env 0 0 0
theorem w_frames : about1.frames = Frame.invoking theMethod args0 :: below0 := rfl
set_option maxRecDepth 65536 in
theorem w_args : argsFit about1.vm theMethod args0 = true := by decide +kernel
set_option maxRecDepth 65536 in
theorem w_heap : heapFits about1 = true := by decide +kernel
set_option maxRecDepth 65536 in
theorem w_runnable : about1.curStatus? = some .runnable := by decide +kernel
set_option maxRecDepth 65536 in
theorem w_alone : about1.alone = true := by decide +kernel
set_option maxRecDepth 65536 in
theorem w_named : about1.methodNamed? x = some theMethod := by decide +kernel
set_option maxRecDepth 65536 in
theorem w_hears : about1.hears theMethod below0 = true := by decide +kernel
set_option maxRecDepth 65536 in
theorem w_ripe : about1.ripe theMethod args0 below0 = true := by decide +kernel
theorem w_running : about1.status = .running := rfl
set_option maxRecDepth 65536 in
theorem w_room : about1.hasRoom e0.platform room_1 = true :=
  launch0.hasRoom_least _ room_1 (by decide +kernel) (by decide +kernel) (by decide +kernel) (by decide +kernel) (by decide +kernel) (by decide +kernel)
theorem allAtoms_all (ts : List Jvm.Cond) (a : Array Jvm.Value) (st : Jvm.State) : (allAtoms ts).before a st = ts.all (fun c => c.before a st) := by
  induction ts with
  | nil => rfl
  | cons c t ih =>
    show (Jvm.Cond.and c (allAtoms t)).before a st = _
    rw [Jvm.Cond.before_and, ih, List.all_cons]
def words1 : List Jvm.Cond := Jvm.Cond.code x code maxLocals ret :: tables_1
/-- a 'code' word, met by the world's own term for the bytes: nothing is compared byte by byte -/
theorem code_word {y : MethodName} {bytes : ByteArray} {mx : Nat} {rt : Option FieldType} {a : Array Value} {s : State} {m : MethodId} {meth : Method} {c : Code} (h1 : s.methodNamed? y = some m) (h2 : s.vm.method? m = some meth) (h3 : meth.code = some c) (h4 : c.code = bytes)
    (h5 : (c.maxLocals == mx && c.exceptionTable.isEmpty && decide (c.maxStack ≤ mostOperands) && decide (meth.sig.returnType = rt) && !meth.locks && decide (parseMethodDescriptor y.desc = some meth.sig)) = true) : (Jvm.Cond.code y bytes mx rt).before a s = true := by
  simp only [Bool.and_eq_true, beq_iff_eq, Bool.not_eq_true', decide_eq_true_eq] at h5
  obtain ⟨⟨⟨⟨⟨g1, g2⟩, g3⟩, g4⟩, g5⟩, g6⟩ := h5
  simp [Cond.before, Cond.holds, Cond.value, h1, h2, h3, h4, g1, g2, g3, g4, g5, g6]
def isCode : Jvm.Cond → Bool
  | .code _ _ _ _ => true
  | _ => false
theorem all_split {L : List Jvm.Cond} {P : Jvm.Cond → Bool} (h1 : L.all (fun c => isCode c || P c) = true) (h2 : ∀ c ∈ L.filter isCode, P c = true) : L.all P = true := by
  refine List.all_eq_true.mpr fun c hc => ?_
  have h := List.all_eq_true.mp h1 c hc
  rcases Bool.eq_false_or_eq_true (isCode c) with hi | hi
  · exact h2 c (List.mem_filter.mpr ⟨hc, hi⟩)
  · simpa [hi] using h
set_option maxRecDepth 65536 in
theorem w_c0 : (Jvm.Cond.code x code maxLocals ret).before args0 about1 = true := code_word (m := ⟨1, 1⟩) (meth := k1m1) (c := k1c1) (by decide +kernel) rfl rfl rfl (by decide +kernel)
set_option maxRecDepth 65536 in
theorem w_c1 : (Jvm.Cond.code ({ cls := "com/example/quietzone/quietzone/QrBlockTable$Blocks", name := "<init>", desc := "(IIII)V" } : Jvm.MethodName) prog_17_method_1_code (5 : Nat) (Option.none : Option Jvm.ClassFile.FieldType)).before args0 about1 = true := code_word (m := ⟨3, 0⟩) (meth := k3m0) (c := k3c0) (by decide +kernel) rfl rfl rfl (by decide +kernel)
set_option maxRecDepth 65536 in
theorem w_c2 : (Jvm.Cond.code ({ cls := "java/lang/Record", name := "<init>", desc := "()V" } : Jvm.MethodName) jdk_30_method_1_code (1 : Nat) (Option.none : Option Jvm.ClassFile.FieldType)).before args0 about1 = true := code_word (m := ⟨2, 0⟩) (meth := k2m0) (c := k2c0) (by decide +kernel) rfl rfl rfl (by decide +kernel)
set_option maxRecDepth 65536 in
theorem w_c3 : (Jvm.Cond.code ({ cls := "java/lang/Object", name := "<init>", desc := "()V" } : Jvm.MethodName) object_method_1_code (1 : Nat) (Option.none : Option Jvm.ClassFile.FieldType)).before args0 about1 = true := code_word (m := ⟨0, 0⟩) (meth := k0m0) (c := k0c0) (by decide +kernel) rfl rfl rfl (by decide +kernel)
set_option maxRecDepth 65536 in
theorem w_c4 : (Jvm.Cond.code ({ cls := "com/example/quietzone/quietzone/QrBlockTable$Blocks", name := "dataCodewords", desc := "()I" } : Jvm.MethodName) prog_17_method_5_code (1 : Nat) (Option.some Jvm.ClassFile.FieldType.int)).before args0 about1 = true := code_word (m := ⟨3, 2⟩) (meth := k3m2) (c := k3c2) (by decide +kernel) rfl rfl rfl (by decide +kernel)
set_option maxRecDepth 65536 in
theorem w_c5 : (Jvm.Cond.code ({ cls := "com/example/quietzone/quietzone/QrBlockTable$Blocks", name := "dataStart", desc := "(I)I" } : Jvm.MethodName) prog_17_method_4_code (2 : Nat) (Option.some Jvm.ClassFile.FieldType.int)).before args0 about1 = true := code_word (m := ⟨3, 1⟩) (meth := k3m1) (c := k3c1) (by decide +kernel) rfl rfl rfl (by decide +kernel)
set_option maxRecDepth 65536 in
theorem w_c6 : (Jvm.Cond.code ({ cls := "java/lang/Math", name := "max", desc := "(II)I" } : Jvm.MethodName) jdk_29_method_65_code (2 : Nat) (Option.some Jvm.ClassFile.FieldType.int)).before args0 about1 = true := code_word (m := ⟨4, 1⟩) (meth := k4m1) (c := k4c1) (by decide +kernel) rfl rfl rfl (by decide +kernel)
def codes1 : List Jvm.Cond := [Jvm.Cond.code x code maxLocals ret, Jvm.Cond.code ({ cls := "com/example/quietzone/quietzone/QrBlockTable$Blocks", name := "<init>", desc := "(IIII)V" } : Jvm.MethodName) prog_17_method_1_code (5 : Nat) (Option.none : Option Jvm.ClassFile.FieldType), Jvm.Cond.code ({ cls := "java/lang/Record", name := "<init>", desc := "()V" } : Jvm.MethodName) jdk_30_method_1_code (1 : Nat) (Option.none : Option Jvm.ClassFile.FieldType), Jvm.Cond.code ({ cls := "java/lang/Object", name := "<init>", desc := "()V" } : Jvm.MethodName) object_method_1_code (1 : Nat) (Option.none : Option Jvm.ClassFile.FieldType), Jvm.Cond.code ({ cls := "com/example/quietzone/quietzone/QrBlockTable$Blocks", name := "dataCodewords", desc := "()I" } : Jvm.MethodName) prog_17_method_5_code (1 : Nat) (Option.some Jvm.ClassFile.FieldType.int), Jvm.Cond.code ({ cls := "com/example/quietzone/quietzone/QrBlockTable$Blocks", name := "dataStart", desc := "(I)I" } : Jvm.MethodName) prog_17_method_4_code (2 : Nat) (Option.some Jvm.ClassFile.FieldType.int), Jvm.Cond.code ({ cls := "java/lang/Math", name := "max", desc := "(II)I" } : Jvm.MethodName) jdk_29_method_65_code (2 : Nat) (Option.some Jvm.ClassFile.FieldType.int)]
set_option maxRecDepth 65536 in
theorem codes_eq : words1.filter isCode = codes1 := rfl
theorem w_codes : ∀ c ∈ words1.filter isCode, c.before args0 about1 = true := by
  rw [codes_eq]
  intro c hc
  simp only [codes1, List.mem_cons, List.not_mem_nil, or_false] at hc
  rcases hc with rfl | rfl | rfl | rfl | rfl | rfl | rfl
  · exact w_c0
  · exact w_c1
  · exact w_c2
  · exact w_c3
  · exact w_c4
  · exact w_c5
  · exact w_c6
set_option maxRecDepth 65536 in
theorem w_t1 : (words1.take 24).all (fun c => isCode c || c.before args0 about1) = true := by decide +kernel
set_option maxRecDepth 65536 in
theorem w_t2 : (words1.drop 24).all (fun c => isCode c || c.before args0 about1) = true := by decide +kernel
theorem w_tables : (allAtoms (Jvm.Cond.code x code maxLocals ret :: tables_1)).before args0 about1 = true := by
  rw [allAtoms_all]
  show words1.all (fun c => c.before args0 about1) = true
  refine all_split ?_ w_codes
  rw [← List.take_append_drop 24 words1, List.all_append, w_t1, w_t2]
  rfl
set_option maxRecDepth 65536 in
theorem w_case : (Jvm.Cond.and given_1 narrow_1).before args0 about1 = true := by decide +kernel
theorem w_applies : (headSpec (Jvm.Cond.code x code maxLocals ret :: tables_1) room_1).applies x e0.platform about1 = true :=
  (Spec.applies_iff w_frames).mpr ⟨w_running, w_runnable, w_alone, w_named, w_hears, w_ripe, w_room, w_tables⟩
theorem atStart : AtStart classFile x code maxLocals ret World_1 tables_1 room_1 Calls_1 rest_1 Pre_1 launch0 p0 e0 about1 theMethod args0 below0 :=
  ⟨lists_1, trivial, launch0.admits_env _ _ _, launch0.least_env, fairChoices_fair.cas, fairChoices_fair.clock, w_frames, w_args, w_heap, w_applies, trivial, trivial, w_case⟩
end start1
theorem witness_1 : WitnessClaimed_1 := ⟨start1.p0, start1.e0, start1.about1, start1.theMethod, start1.args0, start1.below0, start1.atStart⟩
end Jvm.Pilot.@@N@@
