import JvmDerived
import JvmDerived.Pilot.@@N@@Statement
import JvmDerived.Pilot.@@N@@Code
set_option linter.unusedVariables false
set_option linter.unusedSimpArgs false
@@BLOCK:NumsL.lean.txt@@
namespace Jvm.RoadKit
open Sem ClassFile Op Lib Jvm.Stand Jvm.Free Jvm.LawKit
section New
variable {p : Program} {l : Launch} {e : Env} {R : Room} {s : State} {m : MethodId} {args : Array Value} {below : List Frame} {meth : Method} {c : Code} {T : State} {locs : List Loc} {cells slots : Nat}
theorem retI (X : Stand p l e R s m args below meth c T locs cells slots) (hx : p.tables.exec = Jvm.exec) {pc : Nat} {Ls : Array Slot} {z : Int32} {rest : List Value} (hret : meth.sig.returnType = some .int) (hd : decode c.code pc = .ok (.ireturn, 1)) {fs : List Frame}
    (hl : ∀ (f : JFrame) (acts : List Action), f.method = m → f.locked = none → f.entered = [] → (doReturn e (T.setTop f) acts (some (.int z))).1 = T.setFrames fs) : Steps p.tables e below (T.setTop (mkF m pc Ls (.int z :: rest))) (T.setFrames fs) := by
  have hm' : T.vm.method? m = some meth := X.method'
  have hn : narrow .int (.int z) = .int z := rfl
  show Steps p.tables e below (T.setTop { method := m, pc := pc, locals := Ls, stack := _ :: rest, locked := none }) _
  jvm_step X.here [X.here.top, hx, hd, hm', hret, hn]
  first | (intro acts; rw [hl _ acts rfl rfl rfl]) | rw [hl _ _ rfl rfl rfl]
  exact Steps.refl _
/-- the walk's goal, at any point of it -/
def Gl (p : Program) (e : Env) (below : List Frame) (s : State) (Q : Option Value → Heap → List Loc → Prop) (C N : Nat) (T : State) (g : JFrame) : Prop :=
  ∃ s₂ o, Steps p.tables e below (T.setTop g) s₂ ∧ s₂.status = .running ∧ Ended s₂ below o ∧ ∃ v L, o = .returned v ∧ Q v s₂.heap L ∧ FrameEnd s o s₂ L C N
variable {Q : Option Value → Heap → List Loc → Prop} {C N : Nat} {T' : State} {g g' : JFrame} {h : Heap}
theorem Gl.st (f : ∀ t, Steps p.tables e below (T'.setTop g') t → Steps p.tables e below (T.setTop g) t) (k : Gl p e below s Q C N T' g') : Gl p e below s Q C N T g := by
  obtain ⟨s₂, o, h1, r⟩ := k
  exact ⟨s₂, o, f _ h1, r⟩
theorem Gl.ret (X : Stand p l e R s m args below meth c T locs cells slots) (hlk : meth.locks = false) {v : Option Value} (hv : meth.sig.returnType = none → v = none) (eT : T.heap = h)
    (f : ∀ fs, (∀ (f : JFrame) (acts : List Action), f.method = m → f.locked = none → f.entered = [] → (doReturn e (T.setTop f) acts v).1 = T.setFrames fs) → Steps p.tables e below (T.setTop g) (T.setFrames fs)) (hc : cells ≤ C) (hn : slots ≤ N) (hQ : Q v h locs) : Gl p e below s Q C N T g := by
  obtain ⟨fs, hr, hrun, hended, hW, hsame⟩ := X.leave (v := v) hv hlk
  exact ⟨_, _, f fs hr, hrun, hended, _, _, rfl, by show Q v T.heap _; rw [eT]; exact hQ, ⟨_, rfl⟩, hW, hsame.mono hc hn⟩
theorem Arv.cellX {Z : State} {h : Heap} {a : Addr} {k : ClassId} {ty : FieldType} {z : Int32} {vs : List Value} {dv : Value} (F : Arv Z h a k ty z vs dv) : ∃ c : Cell, h[a]? = some c ∧ ∀ q, c.vm ≠ .statics q := by
  obtain ⟨c, A, -⟩ := F; exact ⟨c, A.1, A.2.1.1⟩
theorem selPrivate {s : State} {args : Array Value} {y z : MethodName} (hzy : z.cls = y.cls) (hsel : (Cond.selects z.cls z z).before args s = true) (hpriv : s.PrivateAt y) (hinst : (Cond.instanceMethod y).before args s = true) (hy : y.cls ≠ "java/lang/invoke/MethodHandle" ∧ y.cls ≠ "java/lang/invoke/VarHandle") : (Cond.selects y.cls y y).before args s = true := by
  obtain ⟨c2, r2, m2, -, -, q3, -, kP, hkP, hkPi⟩ := Cond.selects_spec hsel
  exact selects_self_of_private (by rw [← hzy]; exact findClass_of_methodNamed q3) hkP hkPi hpriv hinst hy
theorem Sta.keepX {Z : State} {h h' : Heap} {C n d : String} {v : Value} {ws : List Addr} (F : Sta Z h C n d v) (K : Keep h h' ws) (q : ∀ x ∈ ws, ∃ c : Cell, h[x]? = some c ∧ ∀ q, c.vm ≠ .statics q) : Sta Z h' C n d v := by
  obtain ⟨cf, i, k, f, st, cell, h1, h2, h3, h4, h5, h6, h7⟩ := F
  refine ⟨cf, i, k, f, st, cell, h1, h2, h3, h4, K.2.1 st cell h5 fun z => ?_, h6, h7⟩
  obtain ⟨c, e1, e2⟩ := q st z
  cases h5.symm.trans e1
  cases hv : cell.vm <;> simp [hv, VmData.isStatics] at h6
  exact e2 _ hv
end New
end Jvm.RoadKit
namespace Jvm.RoadKit
open Sem ClassFile Op Lib Jvm.Stand Jvm.Free Jvm.LawKit
section NewW
variable {p : Program} {l : Launch} {e : Env} {R : Room} {s : State} {m : MethodId} {args : Array Value} {below : List Frame} {meth : Method} {c : Code} {T : State} {locs : List Loc} {cells slots : Nat}
/-- the walk's goal where a String constant may be loaded on the way -/
def GlW (p : Program) (e : Env) (below : List Frame) (s : State) (Q : Option Value → Heap → List Loc → Prop) (C N : Nat) (T : State) (g : JFrame) : Prop :=
  ∃ s₂ o, Steps p.tables e below (T.setTop g) s₂ ∧ s₂.status = .running ∧ Ended s₂ below o ∧ ∃ v L, o = .returned v ∧ Q v s₂.heap L ∧ ReturnedEndW s o s₂ L C N
variable {Q : Option Value → Heap → List Loc → Prop} {C N : Nat} {T' : State} {g g' : JFrame} {h : Heap}
theorem GlW.st (f : ∀ t, Steps p.tables e below (T'.setTop g') t → Steps p.tables e below (T.setTop g) t) (k : GlW p e below s Q C N T' g') : GlW p e below s Q C N T g := by
  obtain ⟨s₂, o, h1, r⟩ := k
  exact ⟨s₂, o, f _ h1, r⟩
theorem GlW.ret {vm₁ : Vm} {k : Nat} (hS : s.Since vm₁ k) (hk : k ≤ h.size) (X : Stand p l e R (s.setVm vm₁) m args below meth c T locs cells slots) (hlk : meth.locks = false) {v : Option Value} (hv : meth.sig.returnType = none → v = none) (eT : T.heap = h)
    (f : ∀ fs, (∀ (f : JFrame) (acts : List Action), f.method = m → f.locked = none → f.entered = [] → (doReturn e (T.setTop f) acts v).1 = T.setFrames fs) → Steps p.tables e below (T.setTop g) (T.setFrames fs)) (hc : cells ≤ C) (hn : slots ≤ N) (hQ : Q v h locs) : GlW p e below s Q C N T g := by
  obtain ⟨fs, hr, hrun, hended, h1, h2, h3, h4⟩ := X.leaveW hS (by rw [eT]; exact hk) (v := v) hv hlk
  exact ⟨_, _, f fs hr, hrun, hended, _, _, rfl, by show Q v T.heap _; rw [eT]; exact hQ, h1, h2, h3, h4.mono hc hn⟩
end NewW
end Jvm.RoadKit
namespace Jvm.Pilot.@@N@@
open Jvm Jvm.ClassFile Sem Op Lib Jvm.Free Jvm.Stand Jvm.LawKit Jvm.RoadKit Bundle Jvm.Pilot.@@N@@.Jvm.D
theorem own_strA {Z : State} {a0 : Array Value} (hw : ∀ d ∈ tables_1, d.before a0 Z = true) : ∀ d ∈ Bundle.stringAtoms, d.before a0 Z = true := by
  intro d hd
  simp only [Bundle.stringAtoms, List.mem_cons, List.not_mem_nil, or_false] at hd
  rcases hd with rfl | rfl | rfl | rfl | rfl | rfl | rfl
  · exact (hw _ (List.mem_of_getElem? (i := 18) rfl))
  · exact (hw _ (List.mem_of_getElem? (i := 19) rfl))
  · exact (hw _ (List.mem_of_getElem? (i := 1) rfl))
  · exact (hw _ (List.mem_of_getElem? (i := 20) rfl))
  · exact (hw _ (List.mem_of_getElem? (i := 21) rfl))
  · exact (hw _ (List.mem_of_getElem? (i := 22) rfl))
  · exact (hw _ (List.mem_of_getElem? (i := 23) rfl))

def own_ctl (w : Int64) : Int32 := if w < (4611686018427387904 : Int64) then 0 else 1
theorem own_s1 (x : Int64) : 0 ≤ (x &&& (9223372036854775807 : Int64)).toInt := by
  have h := c_maskL x 9223372036854775807 63 (by decide) (by decide)
  rw [h]; omega
theorem own_s2 (x : Int32) : 0 ≤ ((4611686018427387904 : Int64) + (((x >>> ((1 : Int32) &&& 31)) &&& (3 : Int32)) - (2 : Int32)).toInt64).toInt := by
  have h := c_mask (x >>> ((1 : Int32) &&& 31)) 3 2 (by decide) (by decide)
  have e : (((x >>> ((1 : Int32) &&& 31)) &&& (3 : Int32)) - (2 : Int32)).toInt = ((x >>> ((1 : Int32) &&& 31)) &&& (3 : Int32)).toInt - 2 := by
    rw [Jvm.Kit.i32_sub] <;> rw [show (2 : Int32).toInt = 2 from rfl] <;> omega
  have e2 := c_i2l (((x >>> ((1 : Int32) &&& 31)) &&& (3 : Int32)) - (2 : Int32))
  rw [Jvm.Kit.i64_add] <;> rw [show (4611686018427387904 : Int64).toInt = 4611686018427387904 from rfl] <;> omega
theorem own_nn {q : Int64} (h : 0 ≤ q.toInt) : ¬ q < 0 := by rw [Int64.lt_iff_toInt_lt, show (0 : Int64).toInt = 0 from rfl]; omega
theorem own_mx (x : Int32) : ¬ (x &&& (2147483647 : Int32)) < 0 := by
  have h := c_mask x 2147483647 31 (by decide) (by decide)
  rw [Int32.lt_iff_toInt_lt, h, show (0 : Int32).toInt = 0 from rfl]; omega
theorem own_p7 (x : Int32) : ¬ (x &&& (7 : Int32)) < 0 ∧ (x &&& (7 : Int32)).toNatClampNeg ≤ 7 ∧ ¬ (65536 : Int32) < (x &&& (7 : Int32)) := by
  have h := c_mask x 7 3 (by decide) (by decide)
  refine ⟨by rw [Int32.lt_iff_toInt_lt, h, show (0 : Int32).toInt = 0 from rfl]; omega, by simp only [Int32.toNatClampNeg]; omega, ?_⟩
  rw [Int32.lt_iff_toInt_lt, h, show (65536 : Int32).toInt = 65536 from rfl]; omega
def own_top (q : Int64) : Int64 := (((q.toUInt64 >>> ((62 : Int32) &&& 0x3f).toInt64.toUInt64).toInt64) &&& (1 : Int64))
theorem own_t {q : Int64} (h : 0 ≤ q.toInt) : (own_top q).toInt = q.toInt / 4611686018427387904 := by
  unfold own_top
  have b := Int64.toInt_lt q
  rw [c_maskL _ 1 1 (by decide) (by decide), c_lushr q 62 62 (by decide) (by decide)]
  rw [show ((2 ^ 62 : Nat) : Int) = 4611686018427387904 from rfl, show ((2 ^ 1 : Nat) : Int) = 2 from rfl]
  omega
theorem own_y {q : Int64} (h : 0 ≤ q.toInt) (e : own_top q = (1 : Int64)) : own_ctl q = 1 := by
  have t := own_t h
  rw [e, show (1 : Int64).toInt = 1 from rfl] at t
  unfold own_ctl
  rw [if_neg]
  rw [Int64.lt_iff_toInt_lt, show (4611686018427387904 : Int64).toInt = 4611686018427387904 from rfl]; omega
theorem own_n {q : Int64} (h : 0 ≤ q.toInt) (e : ¬ own_top q = (1 : Int64)) : own_ctl q = 0 := by
  have t := own_t h
  have n : (own_top q).toInt ≠ 1 := fun z => e (Int64.toInt_inj.mp z)
  have b := Int64.toInt_lt q
  unfold own_ctl
  rw [if_pos]
  rw [Int64.lt_iff_toInt_lt, show (4611686018427387904 : Int64).toInt = 4611686018427387904 from rfl]; omega
theorem d2_0 : decode jdk_30_method_1_code 0 = .ok (.aload_n 0, 1) := by decide +kernel
theorem d2_1 : decode jdk_30_method_1_code 1 = .ok (.invokespecial 1, 3) := by decide +kernel
theorem d2_4 : decode jdk_30_method_1_code 4 = .ok (.return_, 1) := by decide +kernel
theorem pn_java_lang_Record : plainName "java/lang/Record" = true := by first | (simp [plainName, overriddenIn]; done) | decide +kernel
theorem ef_rm2 (m : MethodId) (a : Addr) : entryFrame m #[(.ref a)] 1 = mkF m 0 #[.val (.ref a)] [] := by first | (simp [entryFrame, mkF, argsToLocals, Value.category]; done) | rfl
def Q_rm2 (Z : State) (a : Addr)  (h0 : Heap) (n0 : Nat) (v : Option Value) (h : Heap) (L : List Loc) : Prop := v = none ∧ Fr n0 L ∧ h = h0
set_option maxRecDepth 65536 in
set_option maxHeartbeats 40000000 in
theorem rm2 (l : Launch) (Z : State) (a0 : Array Value) (hw : ∀ d ∈ tables_1, d.before a0 Z = true) (ws : List Jvm.Cond) (a : Addr)  (h0 : Heap) (n0 : Nat) (Z0 : n0 ≤ h0.size)  :
    MetFree l (⟨"java/lang/Record", "<init>", "()V"⟩ : MethodName) (head1 (Jvm.Cond.code (⟨"java/lang/Record", "<init>", "()V"⟩ : MethodName) jdk_30_method_1_code 1 none :: ws) ({ frames := 1, cells := 0, slots := 0, locals := 12 } : Room)) (fun aα Uα => aα = #[(.ref a)] ∧ Z.Warmed39 Uα.vm ∧ Uα.heap = h0) (fun _ _ _ _ _ => True) (fun _ Uα oα Uβ => ∃ vα Lα, oα = .returned vα ∧ Q_rm2 Z a  h0 n0 vα Uβ.heap Lα ∧ FrameEnd Uα oα Uβ Lα ({ frames := 1, cells := 0, slots := 0, locals := 12 } : Room).cells ({ frames := 1, cells := 0, slots := 0, locals := 12 } : Room).slots) := by
  refine MetFree.of_bodySF (plainFor_of_name pn_java_lang_Record) hisR ?_
  intro p e s m args below meth c s₁ Bd hml0 hP hKα
  obtain ⟨rfl, hZ, hh⟩ := hP
  have hx := Bd.exec
  have hby := Bd.bytes
  have hml : c.maxLocals = 1 := hml0
  have hown : s.vm.findClass "java/lang/Record" = some m.cls := findClass_of_methodNamed Bd.named
  have hnm := (name_of_methodNamed Bd.named Bd.method).1
  have X0 : Stand p l e ({ frames := 1, cells := 0, slots := 0, locals := 12 } : Room) s m #[(.ref a)] below meth c s₁ [] 0 0 := Stand.of_body Bd
  have e0 : s₁.heap = h0 := by rw [← hh, Bd.state]; rfl
  have N0 := Fr.nil n0
  suffices k0 : Gl p e below s (Q_rm2 Z a  h0 n0) ({ frames := 1, cells := 0, slots := 0, locals := 12 } : Room).cells ({ frames := 1, cells := 0, slots := 0, locals := 12 } : Room).slots s₁ (mkF m 0 #[.val (.ref a)] []) from Gl.st (fun τ κ => castTop (ef_rm2 m a) κ) k0
  refine Gl.st (g' := (mkF m 1 #[.val (.ref a)] [(.ref a)])) (fun τ κ => XS.aloadN X0.here hx rfl (hb hby d2_0) rfl rfl κ) ?_
  obtain ⟨T1, X1, e1, st1⟩ := initO X0 hx hZ hown (hw _ (List.mem_of_getElem? (i := 14) rfl)) (hw _ (List.mem_of_getElem? (i := 15) rfl)) (hw _ (List.mem_of_getElem? (i := 16) rfl)) e0 (g := (mkF m 1 #[.val (.ref a)] [(.ref a)])) rfl (by rw [hml]; rfl) rfl (hb hby d2_1) (by decide) (W := 0) (by show 2 * 0 + _ ≤ _; exact Nat.le_of_eq rfl) (by decide)
  refine Gl.st (g' := (mkF m 4 #[.val (.ref a)] [])) (fun τ κ => st1 _ κ) ?_
  exact Gl.ret (v := none) X1 Bd.notSynchronized (fun _ => rfl) e1 (fun fs hr => X1.returnOut hx Bd.returns (hb hby d2_4) hr) (by decide) (by decide) ⟨rfl, N0, rfl⟩
theorem d4_0 : decode jdk_31_method_11_code 0 = .ok (.aload_n 0, 1) := by decide +kernel
theorem d4_1 : decode jdk_31_method_11_code 1 = .ok (.ifnonnull 12, 3) := by decide +kernel
theorem d4_13 : decode jdk_31_method_11_code 13 = .ok (.aload_n 0, 1) := by decide +kernel
theorem d4_14 : decode jdk_31_method_11_code 14 = .ok (.areturn, 1) := by decide +kernel
theorem pn_java_util_Objects : plainName "java/util/Objects" = true := by first | (simp [plainName, overriddenIn]; done) | decide +kernel
theorem ef_rm4 (m : MethodId) (a : Addr) (b : Addr) : entryFrame m #[(.ref a), (.ref b)] 2 = mkF m 0 #[.val (.ref a), .val (.ref b)] [] := by first | (simp [entryFrame, mkF, argsToLocals, Value.category]; done) | rfl
def Q_rm4 (Z : State) (a : Addr) (b : Addr)  (h0 : Heap) (n0 : Nat) (v : Option Value) (h : Heap) (L : List Loc) : Prop := v = some (.ref a) ∧ Fr n0 L ∧ h = h0
set_option maxRecDepth 65536 in
set_option maxHeartbeats 40000000 in
theorem rm4 (l : Launch) (Z : State) (a0 : Array Value) (hw : ∀ d ∈ tables_1, d.before a0 Z = true) (ws : List Jvm.Cond) (a : Addr) (b : Addr)  (h0 : Heap) (n0 : Nat) (Z0 : n0 ≤ h0.size)  :
    MetFree l (⟨"java/util/Objects", "requireNonNull", "(Ljava/lang/Object;Ljava/lang/String;)Ljava/lang/Object;"⟩ : MethodName) (head1 (Jvm.Cond.code (⟨"java/util/Objects", "requireNonNull", "(Ljava/lang/Object;Ljava/lang/String;)Ljava/lang/Object;"⟩ : MethodName) jdk_31_method_11_code 2 (some (.object "java/lang/Object")) :: ws) ({ frames := 0, cells := 0, slots := 0, locals := 0 } : Room)) (fun aα Uα => aα = #[(.ref a), (.ref b)] ∧ Z.Warmed39 Uα.vm ∧ Uα.heap = h0) (fun _ _ _ _ _ => True) (fun _ Uα oα Uβ => ∃ vα Lα, oα = .returned vα ∧ Q_rm4 Z a b  h0 n0 vα Uβ.heap Lα ∧ FrameEnd Uα oα Uβ Lα ({ frames := 0, cells := 0, slots := 0, locals := 0 } : Room).cells ({ frames := 0, cells := 0, slots := 0, locals := 0 } : Room).slots) := by
  refine MetFree.of_bodySF (plainFor_of_name pn_java_util_Objects) hisR ?_
  intro p e s m args below meth c s₁ Bd hml0 hP hKα
  obtain ⟨rfl, hZ, hh⟩ := hP
  have hx := Bd.exec
  have hby := Bd.bytes
  have hml : c.maxLocals = 2 := hml0
  have hown : s.vm.findClass "java/util/Objects" = some m.cls := findClass_of_methodNamed Bd.named
  have hnm := (name_of_methodNamed Bd.named Bd.method).1
  have X0 : Stand p l e ({ frames := 0, cells := 0, slots := 0, locals := 0 } : Room) s m #[(.ref a), (.ref b)] below meth c s₁ [] 0 0 := Stand.of_body Bd
  have e0 : s₁.heap = h0 := by rw [← hh, Bd.state]; rfl
  have N0 := Fr.nil n0
  suffices k0 : Gl p e below s (Q_rm4 Z a b  h0 n0) ({ frames := 0, cells := 0, slots := 0, locals := 0 } : Room).cells ({ frames := 0, cells := 0, slots := 0, locals := 0 } : Room).slots s₁ (mkF m 0 #[.val (.ref a), .val (.ref b)] []) from Gl.st (fun τ κ => castTop (ef_rm4 m a b) κ) k0
  refine Gl.st (g' := (mkF m 1 #[.val (.ref a), .val (.ref b)] [(.ref a)])) (fun τ κ => XS.aloadN X0.here hx rfl (hb hby d4_0) rfl rfl κ) ?_
  refine Gl.st (g' := (mkF m 13 #[.val (.ref a), .val (.ref b)] [])) (fun τ κ => XS.ifnonnullYes X0.here hx rfl (pc0 := 1) (pc' := 13) rfl (hb hby d4_1) rfl (by decide) (by decide) κ) ?_
  refine Gl.st (g' := (mkF m 14 #[.val (.ref a), .val (.ref b)] [(.ref a)])) (fun τ κ => XS.aloadN X0.here hx rfl (hb hby d4_13) rfl rfl κ) ?_
  exact Gl.ret (v := some (.ref a)) X0 Bd.notSynchronized (fun h => by rw [Bd.returns] at h; cases h) e0 (fun fs hr => (by
      jvm_step X0.here [X0.here.top, hx, (hb hby d4_14), X0.method', Bd.returns, Value.isRef, FieldType.isReference]
      first | (intro acts; rw [hr _ acts rfl rfl rfl]) | rw [hr _ _ rfl rfl rfl]
      exact Steps.refl _)) (by decide) (by decide) ⟨rfl, N0, rfl⟩
theorem d1_0 : decode prog_21_method_1_code 0 = .ok (.aload_n 0, 1) := by decide +kernel
theorem d1_1 : decode prog_21_method_1_code 1 = .ok (.invokespecial 9, 3) := by decide +kernel
theorem pd_0 : parseMethodDescriptor "()V" = some ⟨[], none⟩ := by decide +kernel
theorem d1_4 : decode prog_21_method_1_code 4 = .ok (.iload_n 1, 1) := by decide +kernel
theorem d1_5 : decode prog_21_method_1_code 5 = .ok (.ifCond .ge 17, 3) := by decide +kernel
theorem d1_22 : decode prog_21_method_1_code 22 = .ok (.lload_n 2, 1) := by decide +kernel
theorem d1_23 : decode prog_21_method_1_code 23 = .ok (.lconst 0, 1) := by decide +kernel
theorem d1_24 : decode prog_21_method_1_code 24 = .ok (.lcmp, 1) := by decide +kernel
theorem d1_25 : decode prog_21_method_1_code 25 = .ok (.ifCond .ge 17, 3) := by decide +kernel
theorem d1_42 : decode prog_21_method_1_code 42 = .ok (.aload 5, 2) := by decide +kernel
theorem d1_44 : decode prog_21_method_1_code 44 = .ok (.ldc 27, 2) := by decide +kernel
theorem d1_46 : decode prog_21_method_1_code 46 = .ok (.invokestatic 29, 3) := by decide +kernel
theorem pd_1 : parseMethodDescriptor "(Ljava/lang/Object;Ljava/lang/String;)Ljava/lang/Object;" = some ⟨[(.object "java/lang/Object"), (.object "java/lang/String")], some (.object "java/lang/Object")⟩ := by decide +kernel
theorem d1_49 : decode prog_21_method_1_code 49 = .ok (.pop, 1) := by decide +kernel
theorem d1_50 : decode prog_21_method_1_code 50 = .ok (.aload 5, 2) := by decide +kernel
theorem d1_52 : decode prog_21_method_1_code 52 = .ok (.arraylength, 1) := by decide +kernel
theorem d1_53 : decode prog_21_method_1_code 53 = .ok (.ldc 35, 2) := by decide +kernel
theorem d1_55 : decode prog_21_method_1_code 55 = .ok (.if_icmp .le 19, 3) := by decide +kernel
theorem d1_74 : decode prog_21_method_1_code 74 = .ok (.aload_n 0, 1) := by decide +kernel
theorem d1_75 : decode prog_21_method_1_code 75 = .ok (.iload_n 1, 1) := by decide +kernel
theorem d1_76 : decode prog_21_method_1_code 76 = .ok (.putfield 37, 3) := by decide +kernel
theorem d1_79 : decode prog_21_method_1_code 79 = .ok (.aload_n 0, 1) := by decide +kernel
theorem d1_80 : decode prog_21_method_1_code 80 = .ok (.lload_n 2, 1) := by decide +kernel
theorem d1_81 : decode prog_21_method_1_code 81 = .ok (.putfield 1, 3) := by decide +kernel
theorem d1_84 : decode prog_21_method_1_code 84 = .ok (.aload_n 0, 1) := by decide +kernel
theorem d1_85 : decode prog_21_method_1_code 85 = .ok (.iload 4, 2) := by decide +kernel
theorem d1_87 : decode prog_21_method_1_code 87 = .ok (.putfield 41, 3) := by decide +kernel
theorem d1_90 : decode prog_21_method_1_code 90 = .ok (.aload_n 0, 1) := by decide +kernel
theorem d1_91 : decode prog_21_method_1_code 91 = .ok (.aload 5, 2) := by decide +kernel
theorem d1_93 : decode prog_21_method_1_code 93 = .ok (.putfield 44, 3) := by decide +kernel
theorem d1_96 : decode prog_21_method_1_code 96 = .ok (.return_, 1) := by decide +kernel
theorem pn_org_precedence_Message : plainName "org/precedence/Message" = true := by first | (simp [plainName, overriddenIn]; done) | decide +kernel
theorem ef_rm1 (m : MethodId) (a : Addr) (p1 : Int32) (q2 : Int64) (p3 : Int32) (r4 : Addr) : entryFrame m #[(.ref a), (.int p1), (.long q2), (.int p3), (.ref r4)] 6 = mkF m 0 #[.val (.ref a), .val (.int p1), .val (.long q2), .second, .val (.int p3), .val (.ref r4)] [] := by first | (simp [entryFrame, mkF, argsToLocals, Value.category]; done) | rfl
def Q_rm1 (Z : State) (a : Addr) (p1 : Int32) (q2 : Int64) (p3 : Int32) (r4 : Addr) (kc : ClassId) (z : Int32) (vs : List Value) (h0 : Heap) (n0 : Nat) (v : Option Value) (h : Heap) (L : List Loc) : Prop := v = none ∧ Fr n0 L ∧ Keep h0 h [a] ∧ Exa Z h a "org/precedence/Message" ∧ Fld Z h a "org/precedence/Message" "sequence" "J" (.long q2)
set_option maxRecDepth 65536 in
set_option maxHeartbeats 40000000 in
theorem rm1 (l : Launch) (Z : State) (a0 : Array Value) (hw : ∀ d ∈ tables_1, d.before a0 Z = true) (ws : List Jvm.Cond) (a : Addr) (p1 : Int32) (q2 : Int64) (p3 : Int32) (r4 : Addr) (kc : ClassId) (z : Int32) (vs : List Value) (h0 : Heap) (n0 : Nat) (Z0 : n0 ≤ h0.size) (E0 : Exa Z h0 a "org/precedence/Message") (g0 : n0 ≤ a) (har : a ≠ r4) (F0 : Fld Z h0 a "org/precedence/Message" "origin" "I" (.int (0 : Int32))) (F1 : Fld Z h0 a "org/precedence/Message" "sequence" "J" (.long (0 : Int64))) (F2 : Fld Z h0 a "org/precedence/Message" "priority" "I" (.int (0 : Int32))) (F3 : Fld Z h0 a "org/precedence/Message" "payload" "[B" .null) (V0 : Arv Z h0 r4 kc .byte z vs (.int (0 : Int32))) (h1 : ¬ p1 < 0) (h2 : ¬ q2 < 0) (hz : ¬ (65536 : Int32) < z) :
    MetFree l (⟨"org/precedence/Message", "<init>", "(IJI[B)V"⟩ : MethodName) (head1 (Jvm.Cond.code (⟨"org/precedence/Message", "<init>", "(IJI[B)V"⟩ : MethodName) prog_21_method_1_code 6 none :: ws) ({ frames := 2, cells := 2, slots := 32, locals := 24 } : Room)) (fun aα Uα => aα = #[(.ref a), (.int p1), (.long q2), (.int p3), (.ref r4)] ∧ Z.Warmed39 Uα.vm ∧ Uα.heap = h0) (fun _ _ _ _ _ => True) (fun _ Uα oα Uβ => ∃ vα Lα, oα = .returned vα ∧ Q_rm1 Z a p1 q2 p3 r4 kc z vs h0 n0 vα Uβ.heap Lα ∧ ReturnedEndW Uα oα Uβ Lα ({ frames := 2, cells := 2, slots := 32, locals := 24 } : Room).cells ({ frames := 2, cells := 2, slots := 32, locals := 24 } : Room).slots) := by
  refine MetFree.of_bodySF (plainFor_of_name pn_org_precedence_Message) hisR ?_
  intro p e s m args below meth c s₁ Bd hml0 hP hKα
  obtain ⟨rfl, hZ, hh⟩ := hP
  have hx := Bd.exec
  have hby := Bd.bytes
  have hml : c.maxLocals = 6 := hml0
  have hown : s.vm.findClass "org/precedence/Message" = some m.cls := findClass_of_methodNamed Bd.named
  have hnm := (name_of_methodNamed Bd.named Bd.method).1
  have hZ : Z.Warmed39 (s.setVm s.vm).vm := hZ
  have hown : (s.setVm s.vm).vm.findClass "org/precedence/Message" = some m.cls := hown
  have hS0 : s.Since s.vm 0 := (State.WarmedH.refl s).since 0
  have X0 : Stand p l e ({ frames := 2, cells := 2, slots := 32, locals := 24 } : Room) (s.setVm s.vm) m #[(.ref a), (.int p1), (.long q2), (.int p3), (.ref r4)] below meth c s₁ [] 0 0 := Stand.of_body Bd
  have e0 : s₁.heap = h0 := by rw [← hh, Bd.state]; rfl
  have N0 := Fr.nil n0
  suffices k0 : GlW p e below s (Q_rm1 Z a p1 q2 p3 r4 kc z vs h0 n0) ({ frames := 2, cells := 2, slots := 32, locals := 24 } : Room).cells ({ frames := 2, cells := 2, slots := 32, locals := 24 } : Room).slots s₁ (mkF m 0 #[.val (.ref a), .val (.int p1), .val (.long q2), .second, .val (.int p3), .val (.ref r4)] []) from GlW.st (fun τ κ => castTop (ef_rm1 m a p1 q2 p3 r4) κ) k0
  refine GlW.st (g' := (mkF m 1 #[.val (.ref a), .val (.int p1), .val (.long q2), .second, .val (.int p3), .val (.ref r4)] [(.ref a)])) (fun τ κ => XS.aloadN X0.here hx rfl (hb hby d1_0) rfl rfl κ) ?_
  obtain ⟨rv2, _, ⟨T2, L2, k2, n2⟩, -, X2, ⟨Lc2, hQ2, l2, y2, z2⟩, st2⟩ := X0.specialBack hx (y := (⟨"java/lang/Record", "<init>", "()V"⟩ : MethodName)) rfl hown (mvT hZ (hw _ (List.mem_of_getElem? (i := 9) rfl))) (mvT hZ (hw _ (List.mem_of_getElem? (i := 10) rfl))) (mvT hZ (hw _ (List.mem_of_getElem? (i := 13) rfl))) (by decide) (backOf (W := 0) (rm2 l Z a0 hw [] a h0 n0 Z0 ) hZ (hw _ (List.mem_of_getElem? (i := 13) rfl)) (hw _ (List.mem_of_getElem? (i := 12) rfl)) (by decide) (by decide)) (g := (mkF m 1 #[.val (.ref a), .val (.int p1), .val (.long q2), .second, .val (.int p3), .val (.ref r4)] [(.ref a)])) rfl (by rw [hml]; rfl) (Steps.refl _) (a := a) (argsL := []) (rest := []) (lenOf pd_0 rfl) rfl (by show 2 * 0 + _ ≤ _; exact Nat.le_of_eq rfl) (hb hby d1_1) (fun _ _ => ⟨rfl, e0, (by decide : 0 + 0 ≤ _), (by decide : 0 + 0 ≤ _)⟩)
  dsimp only [Pt.U, Pt.locs, Pt.cells, Pt.slots] at X2 l2 y2 z2 st2 hQ2
  subst l2 y2 z2
  obtain ⟨rfl, N2q, e2⟩ := hQ2
  have N2 := Fr.app N0 N2q
  refine GlW.st (g' := (mkF m 4 #[.val (.ref a), .val (.int p1), .val (.long q2), .second, .val (.int p3), .val (.ref r4)] [])) (fun τ κ => st2.trans κ) ?_
  refine GlW.st (g' := (mkF m 5 #[.val (.ref a), .val (.int p1), .val (.long q2), .second, .val (.int p3), .val (.ref r4)] [(.int p1)])) (fun τ κ => XS.iloadN X2.here hx rfl (hb hby d1_4) rfl κ) ?_
  have hc3 : ¬ (p1 < (0 : Int32)) := h1
  refine GlW.st (g' := (mkF m 22 #[.val (.ref a), .val (.int p1), .val (.long q2), .second, .val (.int p3), .val (.ref r4)] [])) (fun τ κ => XS.ifYes X2.here hx rfl (pc0 := 5) (pc' := 22) rfl (hb hby d1_5) rfl ((if0 _ _).trans (flt hc3).2.1) (by decide) (by decide) κ) ?_
  refine GlW.st (g' := (mkF m 23 #[.val (.ref a), .val (.int p1), .val (.long q2), .second, .val (.int p3), .val (.ref r4)] [(.long q2)])) (fun τ κ => XS.lloadN X2.here hx rfl (hb hby d1_22) rfl κ) ?_
  refine GlW.st (g' := (mkF m 24 #[.val (.ref a), .val (.int p1), .val (.long q2), .second, .val (.int p3), .val (.ref r4)] [(.long (0 : Int64)), (.long q2)])) (fun τ κ => XS.lconst X2.here hx rfl (hb hby d1_23) κ) ?_
  refine GlW.st (g' := (mkF m 25 #[.val (.ref a), .val (.int p1), .val (.long q2), .second, .val (.int p3), .val (.ref r4)] [(.int (lcmpW q2 (0 : Int64)))])) (fun τ κ => XS.lcmp X2.here hx rfl (hb hby d1_24) rfl κ) ?_
  have hc4 : ¬ (q2 < (0 : Int64)) := h2
  refine GlW.st (g' := (mkF m 42 #[.val (.ref a), .val (.int p1), .val (.long q2), .second, .val (.int p3), .val (.ref r4)] [])) (fun τ κ => XS.ifYes X2.here hx rfl (pc0 := 25) (pc' := 42) rfl (hb hby d1_25) rfl ((if0 _ _).trans (flt (mt (lw_lt q2 (0 : Int64)).mp hc4)).2.1) (by decide) (by decide) κ) ?_
  refine GlW.st (g' := (mkF m 44 #[.val (.ref a), .val (.int p1), .val (.long q2), .second, .val (.int p3), .val (.ref r4)] [(.ref r4)])) (fun τ κ => XS.aload X2.here hx rfl (hb hby d1_42) rfl rfl κ) ?_
  obtain ⟨a5, T5, h5, ks5, X5, e5, E5, hS5, hk5, hZ5, hown5, st5⟩ := ldcS (s := s) (vm0 := s.vm) X2 hx hZ hown (hw _ (List.mem_of_getElem? (i := 17) rfl)) (own_strA hw) e2 hS0 (Nat.zero_le _) (g := (mkF m 44 #[.val (.ref a), .val (.int p1), .val (.long q2), .second, .val (.int p3), .val (.ref r4)] [(.ref r4)])) rfl (hb hby d1_44) (n := 28) (by decide) (by decide) (by decide) (by decide)
  have E_6 := E0.ext E5
  have V_7 := V0.ext E5
  have F_8 := F0.ext E5
  have F_9 := F1.ext E5
  have F_10 := F2.ext E5
  have F_11 := F3.ext E5
  have Z5 : n0 ≤ h5.size := Nat.le_trans Z0 E5.1
  have K5 : Keep h0 h5 [a] := (Keep.refl h0 [a]).ext E5
  refine GlW.st (g' := (mkF m 46 #[.val (.ref a), .val (.int p1), .val (.long q2), .second, .val (.int p3), .val (.ref r4)] [(.ref a5), (.ref r4)])) (fun τ κ => st5 _ κ) ?_
  obtain ⟨rv12, _, ⟨T12, L12, k12, n12⟩, -, X12, ⟨Lc12, hQ12, l12, y12, z12⟩, st12⟩ := Jvm.LawKit.callS X5 hx (y := (⟨"java/util/Objects", "requireNonNull", "(Ljava/lang/Object;Ljava/lang/String;)Ljava/lang/Object;"⟩ : MethodName)) hown5 (mvT hZ5 (hw _ (List.mem_of_getElem? (i := 24) rfl))) (mvT hZ5 (hw _ (List.mem_of_getElem? (i := 25) rfl))) (mvT hZ5 (hw _ (List.mem_of_getElem? (i := 26) rfl))) (mvT hZ5 (hw _ (List.mem_of_getElem? (i := 27) rfl))) (by decide) (backOf (W := 0) (rm4 l Z a0 hw [] r4 a5 h5 n0 Z5 ) hZ5 (hw _ (List.mem_of_getElem? (i := 27) rfl)) (hw _ (List.mem_of_getElem? (i := 26) rfl)) (by decide) (by decide)) (g := (mkF m 46 #[.val (.ref a), .val (.int p1), .val (.long q2), .second, .val (.int p3), .val (.ref r4)] [(.ref a5), (.ref r4)])) rfl (by rw [hml]; rfl) (argsL := [(.ref r4), (.ref a5)]) (rest := []) (lenOf pd_1 rfl) rfl (by show 2 * 0 + _ ≤ _; exact Nat.le_of_eq rfl) (hb hby d1_46) (fun _ _ => ⟨rfl, e5, (by decide : 2 + 0 ≤ _), (by decide : 32 + 0 ≤ _)⟩)
  dsimp only [Pt.U, Pt.locs, Pt.cells, Pt.slots] at X12 l12 y12 z12 st12 hQ12
  subst l12 y12 z12
  obtain ⟨rfl, N12q, e12⟩ := hQ12
  have N12 := Fr.app N2 N12q
  refine GlW.st (g' := (mkF m 49 #[.val (.ref a), .val (.int p1), .val (.long q2), .second, .val (.int p3), .val (.ref r4)] [(.ref r4)])) (fun τ κ => st12 _ κ) ?_
  refine GlW.st (g' := (mkF m 50 #[.val (.ref a), .val (.int p1), .val (.long q2), .second, .val (.int p3), .val (.ref r4)] [])) (fun τ κ => XS.pop X12.here hx rfl (hb hby d1_49) rfl rfl κ) ?_
  refine GlW.st (g' := (mkF m 52 #[.val (.ref a), .val (.int p1), .val (.long q2), .second, .val (.int p3), .val (.ref r4)] [(.ref r4)])) (fun τ κ => XS.aload X12.here hx rfl (hb hby d1_50) rfl rfl κ) ?_
  obtain ⟨cl_o13, Ar_o13, q_o13, S_o13, M_o13, H_o13, G_o13⟩ := id V_7
  refine GlW.st (g' := (mkF m 53 #[.val (.ref a), .val (.int p1), .val (.long q2), .second, .val (.int p3), .val (.ref r4)] [(.int z)])) (fun τ κ => X12.arraylength hx (by rw [e12]; exact Ar_o13.1) (State.isArrayOf_alike hZ5.alike Ar_o13.2.1) (g := (mkF m 52 #[.val (.ref a), .val (.int p1), .val (.long q2), .second, .val (.int p3), .val (.ref r4)] [(.ref r4)])) rfl rfl (hb hby d1_52) _ (by rw [len_of S_o13 M_o13]; exact κ)) ?_
  refine GlW.st (g' := (mkF m 55 #[.val (.ref a), .val (.int p1), .val (.long q2), .second, .val (.int p3), .val (.ref r4)] [(.int (65536 : Int32)), (.int z)])) (fun τ κ => X12.ldcInt hx hown5 (mvT hZ5 (hw _ (List.mem_of_getElem? (i := 28) rfl))) (g := (mkF m 53 #[.val (.ref a), .val (.int p1), .val (.long q2), .second, .val (.int p3), .val (.ref r4)] [(.int z)])) rfl (hb hby d1_53) _ κ) ?_
  have hc14 : ¬ ((65536 : Int32) < z) := hz
  refine GlW.st (g' := (mkF m 74 #[.val (.ref a), .val (.int p1), .val (.long q2), .second, .val (.int p3), .val (.ref r4)] [])) (fun τ κ => XS.icmpYes X12.here hx rfl (pc0 := 55) (pc' := 74) rfl (hb hby d1_55) rfl (flt hc14).2.2.2 (by decide) (by decide) κ) ?_
  refine GlW.st (g' := (mkF m 75 #[.val (.ref a), .val (.int p1), .val (.long q2), .second, .val (.int p3), .val (.ref r4)] [(.ref a)])) (fun τ κ => XS.aloadN X12.here hx rfl (hb hby d1_74) rfl rfl κ) ?_
  refine GlW.st (g' := (mkF m 76 #[.val (.ref a), .val (.int p1), .val (.long q2), .second, .val (.int p3), .val (.ref r4)] [(.int p1), (.ref a)])) (fun τ κ => XS.iloadN X12.here hx rfl (hb hby d1_75) rfl κ) ?_
  obtain ⟨T15, h15, X15, e15, W15, st15⟩ := putF X12 hx hZ5 hown5 (host := "") (Or.inl (hw _ (List.mem_of_getElem? (i := 29) rfl))) Via.refl e12 F_8 E_6 (Or.inr ⟨(hw _ (List.mem_of_getElem? (i := 30) rfl)), rfl, hnm⟩) (hw _ (List.mem_of_getElem? (i := 3) rfl)) (ty := .int) (by decide) rfl rfl (g := (mkF m 76 #[.val (.ref a), .val (.int p1), .val (.long q2), .second, .val (.int p3), .val (.ref r4)] [(.int p1), (.ref a)])) rfl rfl (hb hby d1_76)
  have E_16 := E_6.wr W15
  have V_17 := V_7.other W15 (Ne.symm har)
  have F_19 := F_9.other W15 (Or.inr (slot_ne (Or.inr (hw _ (List.mem_of_getElem? (i := 32) rfl))) (Or.inr (hw _ (List.mem_of_getElem? (i := 30) rfl))) (by decide) (t := .long) (t' := .int) (by decide) (by decide)))
  have F_20 := F_10.other W15 (Or.inr (slot_ne (Or.inr (hw _ (List.mem_of_getElem? (i := 34) rfl))) (Or.inr (hw _ (List.mem_of_getElem? (i := 30) rfl))) (by decide) (t := .int) (t' := .int) (by decide) (by decide)))
  have F_21 := F_11.other W15 (Or.inr (slot_ne (Or.inr (hw _ (List.mem_of_getElem? (i := 36) rfl))) (Or.inr (hw _ (List.mem_of_getElem? (i := 30) rfl))) (by decide) (t := (.array .byte)) (t' := .int) (by decide) (by decide)))
  have N15 := Fr.snoc X15 N12 g0
  have Z15 : n0 ≤ h15.size := Nat.le_trans Z5 (Nat.le_of_eq W15.size.symm)
  have hk15 := Nat.le_trans hk5 (Nat.le_of_eq W15.size.symm)
  have K15 : Keep h0 h15 [a] := K5.wr W15 (Or.inl (List.mem_of_getElem? (i := 0) rfl))
  have F_22 := F_8.same W15
  refine GlW.st (g' := (mkF m 79 #[.val (.ref a), .val (.int p1), .val (.long q2), .second, .val (.int p3), .val (.ref r4)] [])) (fun τ κ => st15 _ κ) ?_
  refine GlW.st (g' := (mkF m 80 #[.val (.ref a), .val (.int p1), .val (.long q2), .second, .val (.int p3), .val (.ref r4)] [(.ref a)])) (fun τ κ => XS.aloadN X15.here hx rfl (hb hby d1_79) rfl rfl κ) ?_
  refine GlW.st (g' := (mkF m 81 #[.val (.ref a), .val (.int p1), .val (.long q2), .second, .val (.int p3), .val (.ref r4)] [(.long q2), (.ref a)])) (fun τ κ => XS.lloadN X15.here hx rfl (hb hby d1_80) rfl κ) ?_
  obtain ⟨T23, h23, X23, e23, W23, st23⟩ := putF X15 hx hZ5 hown5 (host := "") (Or.inl (hw _ (List.mem_of_getElem? (i := 31) rfl))) Via.refl e15 F_19 E_16 (Or.inr ⟨(hw _ (List.mem_of_getElem? (i := 32) rfl)), rfl, hnm⟩) (hw _ (List.mem_of_getElem? (i := 3) rfl)) (ty := .long) (by decide) rfl rfl (g := (mkF m 81 #[.val (.ref a), .val (.int p1), .val (.long q2), .second, .val (.int p3), .val (.ref r4)] [(.long q2), (.ref a)])) rfl rfl (hb hby d1_81)
  have E_24 := E_16.wr W23
  have V_25 := V_17.other W23 (Ne.symm har)
  have F_26 := F_22.other W23 (Or.inr (slot_ne (Or.inr (hw _ (List.mem_of_getElem? (i := 30) rfl))) (Or.inr (hw _ (List.mem_of_getElem? (i := 32) rfl))) (by decide) (t := .int) (t' := .long) (by decide) (by decide)))
  have F_28 := F_20.other W23 (Or.inr (slot_ne (Or.inr (hw _ (List.mem_of_getElem? (i := 34) rfl))) (Or.inr (hw _ (List.mem_of_getElem? (i := 32) rfl))) (by decide) (t := .int) (t' := .long) (by decide) (by decide)))
  have F_29 := F_21.other W23 (Or.inr (slot_ne (Or.inr (hw _ (List.mem_of_getElem? (i := 36) rfl))) (Or.inr (hw _ (List.mem_of_getElem? (i := 32) rfl))) (by decide) (t := (.array .byte)) (t' := .long) (by decide) (by decide)))
  have N23 := Fr.snoc X23 N15 g0
  have Z23 : n0 ≤ h23.size := Nat.le_trans Z15 (Nat.le_of_eq W23.size.symm)
  have hk23 := Nat.le_trans hk15 (Nat.le_of_eq W23.size.symm)
  have K23 : Keep h0 h23 [a] := K15.wr W23 (Or.inl (List.mem_of_getElem? (i := 0) rfl))
  have F_30 := F_19.same W23
  refine GlW.st (g' := (mkF m 84 #[.val (.ref a), .val (.int p1), .val (.long q2), .second, .val (.int p3), .val (.ref r4)] [])) (fun τ κ => st23 _ κ) ?_
  refine GlW.st (g' := (mkF m 85 #[.val (.ref a), .val (.int p1), .val (.long q2), .second, .val (.int p3), .val (.ref r4)] [(.ref a)])) (fun τ κ => XS.aloadN X23.here hx rfl (hb hby d1_84) rfl rfl κ) ?_
  refine GlW.st (g' := (mkF m 87 #[.val (.ref a), .val (.int p1), .val (.long q2), .second, .val (.int p3), .val (.ref r4)] [(.int p3), (.ref a)])) (fun τ κ => XS.iload X23.here hx rfl (hb hby d1_85) rfl κ) ?_
  obtain ⟨T31, h31, X31, e31, W31, st31⟩ := putF X23 hx hZ5 hown5 (host := "") (Or.inl (hw _ (List.mem_of_getElem? (i := 33) rfl))) Via.refl e23 F_28 E_24 (Or.inr ⟨(hw _ (List.mem_of_getElem? (i := 34) rfl)), rfl, hnm⟩) (hw _ (List.mem_of_getElem? (i := 3) rfl)) (ty := .int) (by decide) rfl rfl (g := (mkF m 87 #[.val (.ref a), .val (.int p1), .val (.long q2), .second, .val (.int p3), .val (.ref r4)] [(.int p3), (.ref a)])) rfl rfl (hb hby d1_87)
  have E_32 := E_24.wr W31
  have V_33 := V_25.other W31 (Ne.symm har)
  have F_34 := F_26.other W31 (Or.inr (slot_ne (Or.inr (hw _ (List.mem_of_getElem? (i := 30) rfl))) (Or.inr (hw _ (List.mem_of_getElem? (i := 34) rfl))) (by decide) (t := .int) (t' := .int) (by decide) (by decide)))
  have F_35 := F_30.other W31 (Or.inr (slot_ne (Or.inr (hw _ (List.mem_of_getElem? (i := 32) rfl))) (Or.inr (hw _ (List.mem_of_getElem? (i := 34) rfl))) (by decide) (t := .long) (t' := .int) (by decide) (by decide)))
  have F_37 := F_29.other W31 (Or.inr (slot_ne (Or.inr (hw _ (List.mem_of_getElem? (i := 36) rfl))) (Or.inr (hw _ (List.mem_of_getElem? (i := 34) rfl))) (by decide) (t := (.array .byte)) (t' := .int) (by decide) (by decide)))
  have N31 := Fr.snoc X31 N23 g0
  have Z31 : n0 ≤ h31.size := Nat.le_trans Z23 (Nat.le_of_eq W31.size.symm)
  have hk31 := Nat.le_trans hk23 (Nat.le_of_eq W31.size.symm)
  have K31 : Keep h0 h31 [a] := K23.wr W31 (Or.inl (List.mem_of_getElem? (i := 0) rfl))
  have F_38 := F_28.same W31
  refine GlW.st (g' := (mkF m 90 #[.val (.ref a), .val (.int p1), .val (.long q2), .second, .val (.int p3), .val (.ref r4)] [])) (fun τ κ => st31 _ κ) ?_
  refine GlW.st (g' := (mkF m 91 #[.val (.ref a), .val (.int p1), .val (.long q2), .second, .val (.int p3), .val (.ref r4)] [(.ref a)])) (fun τ κ => XS.aloadN X31.here hx rfl (hb hby d1_90) rfl rfl κ) ?_
  refine GlW.st (g' := (mkF m 93 #[.val (.ref a), .val (.int p1), .val (.long q2), .second, .val (.int p3), .val (.ref r4)] [(.ref r4), (.ref a)])) (fun τ κ => XS.aload X31.here hx rfl (hb hby d1_91) rfl rfl κ) ?_
  obtain ⟨T39, h39, X39, e39, W39, st39⟩ := putF X31 hx hZ5 hown5 (host := "") (Or.inl (hw _ (List.mem_of_getElem? (i := 35) rfl))) Via.refl e31 F_37 E_32 (Or.inr ⟨(hw _ (List.mem_of_getElem? (i := 36) rfl)), rfl, hnm⟩) (hw _ (List.mem_of_getElem? (i := 3) rfl)) (ty := (.array .byte)) (by decide) rfl rfl (g := (mkF m 93 #[.val (.ref a), .val (.int p1), .val (.long q2), .second, .val (.int p3), .val (.ref r4)] [(.ref r4), (.ref a)])) rfl rfl (hb hby d1_93)
  have E_40 := E_32.wr W39
  have V_41 := V_33.other W39 (Ne.symm har)
  have F_42 := F_34.other W39 (Or.inr (slot_ne (Or.inr (hw _ (List.mem_of_getElem? (i := 30) rfl))) (Or.inr (hw _ (List.mem_of_getElem? (i := 36) rfl))) (by decide) (t := .int) (t' := (.array .byte)) (by decide) (by decide)))
  have F_43 := F_35.other W39 (Or.inr (slot_ne (Or.inr (hw _ (List.mem_of_getElem? (i := 32) rfl))) (Or.inr (hw _ (List.mem_of_getElem? (i := 36) rfl))) (by decide) (t := .long) (t' := (.array .byte)) (by decide) (by decide)))
  have F_44 := F_38.other W39 (Or.inr (slot_ne (Or.inr (hw _ (List.mem_of_getElem? (i := 34) rfl))) (Or.inr (hw _ (List.mem_of_getElem? (i := 36) rfl))) (by decide) (t := .int) (t' := (.array .byte)) (by decide) (by decide)))
  have N39 := Fr.snoc X39 N31 g0
  have Z39 : n0 ≤ h39.size := Nat.le_trans Z31 (Nat.le_of_eq W39.size.symm)
  have hk39 := Nat.le_trans hk31 (Nat.le_of_eq W39.size.symm)
  have K39 : Keep h0 h39 [a] := K31.wr W39 (Or.inl (List.mem_of_getElem? (i := 0) rfl))
  have F_46 := F_37.same W39
  refine GlW.st (g' := (mkF m 96 #[.val (.ref a), .val (.int p1), .val (.long q2), .second, .val (.int p3), .val (.ref r4)] [])) (fun τ κ => st39 _ κ) ?_
  exact GlW.ret hS5 hk39 (v := none) X39 Bd.notSynchronized (fun _ => rfl) e39 (fun fs hr => X39.returnOut hx Bd.returns (hb hby d1_96) hr) (by decide) (by decide) ⟨rfl, N39, K39, E_40, F_43⟩
theorem d5_0 : decode prog_21_method_2_code 0 = .ok (.aload_n 0, 1) := by decide +kernel
theorem d5_1 : decode prog_21_method_2_code 1 = .ok (.getfield 1, 3) := by decide +kernel
theorem d5_4 : decode prog_21_method_2_code 4 = .ok (.ldc2_w 7, 3) := by decide +kernel
theorem d5_7 : decode prog_21_method_2_code 7 = .ok (.lcmp, 1) := by decide +kernel
theorem d5_8 : decode prog_21_method_2_code 8 = .ok (.ifCond .lt 7, 3) := by decide +kernel
theorem d5_15 : decode prog_21_method_2_code 15 = .ok (.iconst 0, 1) := by decide +kernel
theorem d5_16 : decode prog_21_method_2_code 16 = .ok (.ireturn, 1) := by decide +kernel
theorem d5_11 : decode prog_21_method_2_code 11 = .ok (.iconst 1, 1) := by decide +kernel
theorem d5_12 : decode prog_21_method_2_code 12 = .ok (.goto 4, 3) := by decide +kernel
theorem ef_rm5 (m : MethodId) (a : Addr) : entryFrame m #[(.ref a)] 1 = mkF m 0 #[.val (.ref a)] [] := by first | (simp [entryFrame, mkF, argsToLocals, Value.category]; done) | rfl
def Q_rm5 (Z : State) (a : Addr) (w : Int64) (h0 : Heap) (n0 : Nat) (v : Option Value) (h : Heap) (L : List Loc) : Prop := v = some (.int (own_ctl w)) ∧ Fr n0 L ∧ h = h0
set_option maxRecDepth 65536 in
set_option maxHeartbeats 40000000 in
theorem rm5 (l : Launch) (Z : State) (a0 : Array Value) (hw : ∀ d ∈ tables_1, d.before a0 Z = true) (ws : List Jvm.Cond) (a : Addr) (w : Int64) (h0 : Heap) (n0 : Nat) (Z0 : n0 ≤ h0.size)  (F0 : Fld Z h0 a "org/precedence/Message" "sequence" "J" (.long w))  :
    MetFree l (⟨"org/precedence/Message", "isControl", "()Z"⟩ : MethodName) (head1 (Jvm.Cond.code (⟨"org/precedence/Message", "isControl", "()Z"⟩ : MethodName) prog_21_method_2_code 1 (some .boolean) :: ws) ({ frames := 0, cells := 0, slots := 0, locals := 0 } : Room)) (fun aα Uα => aα = #[(.ref a)] ∧ Z.Warmed39 Uα.vm ∧ Uα.heap = h0) (fun _ _ _ _ _ => True) (fun _ Uα oα Uβ => ∃ vα Lα, oα = .returned vα ∧ Q_rm5 Z a w h0 n0 vα Uβ.heap Lα ∧ FrameEnd Uα oα Uβ Lα ({ frames := 0, cells := 0, slots := 0, locals := 0 } : Room).cells ({ frames := 0, cells := 0, slots := 0, locals := 0 } : Room).slots) := by
  refine MetFree.of_bodySF (plainFor_of_name pn_org_precedence_Message) hisR ?_
  intro p e s m args below meth c s₁ Bd hml0 hP hKα
  obtain ⟨rfl, hZ, hh⟩ := hP
  have hx := Bd.exec
  have hby := Bd.bytes
  have hml : c.maxLocals = 1 := hml0
  have hown : s.vm.findClass "org/precedence/Message" = some m.cls := findClass_of_methodNamed Bd.named
  have hnm := (name_of_methodNamed Bd.named Bd.method).1
  have X0 : Stand p l e ({ frames := 0, cells := 0, slots := 0, locals := 0 } : Room) s m #[(.ref a)] below meth c s₁ [] 0 0 := Stand.of_body Bd
  have e0 : s₁.heap = h0 := by rw [← hh, Bd.state]; rfl
  have N0 := Fr.nil n0
  suffices k0 : Gl p e below s (Q_rm5 Z a w h0 n0) ({ frames := 0, cells := 0, slots := 0, locals := 0 } : Room).cells ({ frames := 0, cells := 0, slots := 0, locals := 0 } : Room).slots s₁ (mkF m 0 #[.val (.ref a)] []) from Gl.st (fun τ κ => castTop (ef_rm5 m a) κ) k0
  refine Gl.st (g' := (mkF m 1 #[.val (.ref a)] [(.ref a)])) (fun τ κ => XS.aloadN X0.here hx rfl (hb hby d5_0) rfl rfl κ) ?_
  obtain ⟨T47, X47, e47, st47⟩ := getF X0 hx hZ hown (host := "") (Or.inl (hw _ (List.mem_of_getElem? (i := 31) rfl))) Via.refl e0 F0 (g := (mkF m 1 #[.val (.ref a)] [(.ref a)])) rfl rfl (hb hby d5_1)
  refine Gl.st (g' := (mkF m 4 #[.val (.ref a)] [(.long w)])) (fun τ κ => st47 _ κ) ?_
  refine Gl.st (g' := (mkF m 7 #[.val (.ref a)] [(.long (4611686018427387904 : Int64)), (.long w)])) (fun τ κ => X47.ldc2Long hx hown (mvT hZ (hw _ (List.mem_of_getElem? (i := 42) rfl))) (g := (mkF m 4 #[.val (.ref a)] [(.long w)])) rfl (hb hby d5_4) _ κ) ?_
  refine Gl.st (g' := (mkF m 8 #[.val (.ref a)] [(.int (lcmpW w (4611686018427387904 : Int64)))])) (fun τ κ => XS.lcmp X47.here hx rfl (hb hby d5_7) rfl κ) ?_
  by_cases hc48 : w < (4611686018427387904 : Int64)
  · -- pc 8: w < (4611686018427387904 : Int64)
    refine Gl.st (g' := (mkF m 15 #[.val (.ref a)] [])) (fun τ κ => XS.ifYes X47.here hx rfl (pc0 := 8) (pc' := 15) rfl (hb hby d5_8) rfl ((if0 _ _).trans (tlt ((lw_lt w (4611686018427387904 : Int64)).mpr hc48)).1) (by decide) (by decide) κ) ?_
    refine Gl.st (g' := (mkF m 16 #[.val (.ref a)] [(.int (0 : Int32))])) (fun τ κ => XS.iconst X47.here hx rfl (hb hby d5_15) κ) ?_
    exact Gl.ret (v := some (.int (0 : Int32))) X47 Bd.notSynchronized (fun h => by rw [Bd.returns] at h; cases h) e47 (fun fs hr => retN X47 hx (t := .boolean) Bd.returns (by simp) (hb hby d5_16) hr) (by decide) (by decide) ⟨by simp only [own_ctl, hc48, if_true, if_false], N0, rfl⟩
  · -- pc 8: not w < (4611686018427387904 : Int64)
    refine Gl.st (g' := (mkF m 11 #[.val (.ref a)] [])) (fun τ κ => XS.ifNo X47.here hx rfl (hb hby d5_8) rfl ((if0 _ _).trans (flt (mt (lw_lt w (4611686018427387904 : Int64)).mp hc48)).1) κ) ?_
    refine Gl.st (g' := (mkF m 12 #[.val (.ref a)] [(.int (1 : Int32))])) (fun τ κ => XS.iconst X47.here hx rfl (hb hby d5_11) κ) ?_
    refine Gl.st (g' := (mkF m 16 #[.val (.ref a)] [(.int (1 : Int32))])) (fun τ κ => XS.goto X47.here hx rfl (pc0 := 12) (pc' := 16) rfl (hb hby d5_12) (by decide) (by decide) κ) ?_
    exact Gl.ret (v := some (.int (1 : Int32))) X47 Bd.notSynchronized (fun h => by rw [Bd.returns] at h; cases h) e47 (fun fs hr => retN X47 hx (t := .boolean) Bd.returns (by simp) (hb hby d5_16) hr) (by decide) (by decide) ⟨by simp only [own_ctl, hc48, if_true, if_false], N0, rfl⟩
theorem pd_2 : parseMethodDescriptor "(IJI[B)V" = some ⟨[.int, .long, .int, (.array .byte)], none⟩ := by decide +kernel
theorem pd_3 : parseMethodDescriptor "()Z" = some ⟨[], some .boolean⟩ := by decide +kernel
theorem pn_org_precedence_MessageIsControlPinLaw : plainName "org/precedence/MessageIsControlPinLaw" = true := by first | (simp [plainName, overriddenIn]; done) | decide +kernel
theorem ef_rm0 (m : MethodId) (x0 : Int32) (x1 : Int64) (x2 : Int32) (x3 : Int32) (x4 : Int32) : entryFrame m #[(.int x0), (.long x1), (.int x2), (.int x3), (.int x4)] maxLocals = mkF m 0 #[.val (.int x0), .val (.long x1), .second, .val (.int x2), .val (.int x3), .val (.int x4), .unset, .unset, .unset, .unset, .unset] [] := by first | (simp [entryFrame, mkF, argsToLocals, Value.category, maxLocals]; done) | rfl
def Q_rm0 (Z : State) (x0 : Int32) (x1 : Int64) (x2 : Int32) (x3 : Int32) (x4 : Int32)  (h0 : Heap) (n0 : Nat) (v : Option Value) (h : Heap) (L : List Loc) : Prop := v = some (.int 1) ∧ Fr n0 L
set_option maxRecDepth 65536 in
set_option maxHeartbeats 40000000 in
theorem rm0 (l : Launch) (Z : State) (a0 : Array Value) (hw : ∀ d ∈ tables_1, d.before a0 Z = true) (ws : List Jvm.Cond) (x0 : Int32) (x1 : Int64) (x2 : Int32) (x3 : Int32) (x4 : Int32)  (h0 : Heap) (n0 : Nat) (Z0 : n0 ≤ h0.size)  :
    MetFree l x (head1 (Jvm.Cond.code x code maxLocals ret :: ws) room_1) (fun aα Uα => aα = #[(.int x0), (.long x1), (.int x2), (.int x3), (.int x4)] ∧ Z.Warmed39 Uα.vm ∧ Uα.heap = h0) (fun _ _ _ _ _ => True) (fun _ Uα oα Uβ => ∃ vα Lα, oα = .returned vα ∧ Q_rm0 Z x0 x1 x2 x3 x4  h0 n0 vα Uβ.heap Lα ∧ ReturnedEndW Uα oα Uβ Lα 4 43) := by
  refine MetFree.of_bodySF (plainFor_of_name pn_org_precedence_MessageIsControlPinLaw) hisR ?_
  intro p e s m args below meth c s₁ Bd hml0 hP hKα
  obtain ⟨rfl, hZ, hh⟩ := hP
  have hx := Bd.exec
  have hby := Bd.bytes
  have hml : c.maxLocals = 11 := hml0
  have hown : s.vm.findClass "org/precedence/MessageIsControlPinLaw" = some m.cls := findClass_of_methodNamed Bd.named
  have hnm := (name_of_methodNamed Bd.named Bd.method).1
  have hZ : Z.Warmed39 (s.setVm s.vm).vm := hZ
  have hown : (s.setVm s.vm).vm.findClass "org/precedence/MessageIsControlPinLaw" = some m.cls := hown
  have hS0 : s.Since s.vm 0 := (State.WarmedH.refl s).since 0
  have X0 : Stand p l e room_1 (s.setVm s.vm) m #[(.int x0), (.long x1), (.int x2), (.int x3), (.int x4)] below meth c s₁ [] 0 0 := Stand.of_body Bd
  have e0 : s₁.heap = h0 := by rw [← hh, Bd.state]; rfl
  have N0 := Fr.nil n0
  suffices k0 : GlW p e below s (Q_rm0 Z x0 x1 x2 x3 x4  h0 n0) 4 43 s₁ (mkF m 0 #[.val (.int x0), .val (.long x1), .second, .val (.int x2), .val (.int x3), .val (.int x4), .unset, .unset, .unset, .unset, .unset] []) from GlW.st (fun τ κ => castTop (ef_rm0 m x0 x1 x2 x3 x4) κ) k0
  refine GlW.st (g' := (mkF m 2 #[.val (.int x0), .val (.long x1), .second, .val (.int x2), .val (.int x3), .val (.int x4), .unset, .unset, .unset, .unset, .unset] [(.int x3)])) (fun τ κ => XS.iload X0.here hx rfl (hb hby at_0) rfl κ) ?_
  refine GlW.st (g' := (mkF m 3 #[.val (.int x0), .val (.long x1), .second, .val (.int x2), .val (.int x3), .val (.int x4), .unset, .unset, .unset, .unset, .unset] [(.int (1 : Int32)), (.int x3)])) (fun τ κ => XS.iconst X0.here hx rfl (hb hby at_2) κ) ?_
  refine GlW.st (g' := (mkF m 4 #[.val (.int x0), .val (.long x1), .second, .val (.int x2), .val (.int x3), .val (.int x4), .unset, .unset, .unset, .unset, .unset] [(.int (x3 &&& (1 : Int32)))])) (fun τ κ => XS.iand X0.here hx rfl (hb hby at_3) rfl κ) ?_
  by_cases hc49 : (x3 &&& (1 : Int32)) = (0 : Int32)
  · -- pc 4: (x3 &&& (1 : Int32)) = (0 : Int32)
    refine GlW.st (g' := (mkF m 25 #[.val (.int x0), .val (.long x1), .second, .val (.int x2), .val (.int x3), .val (.int x4), .unset, .unset, .unset, .unset, .unset] [])) (fun τ κ => XS.ifYes X0.here hx rfl (pc0 := 4) (pc' := 25) rfl (hb hby at_4) rfl ((if0 _ _).trans (teq hc49).1) (by decide) (by decide) κ) ?_
    refine GlW.st (g' := (mkF m 26 #[.val (.int x0), .val (.long x1), .second, .val (.int x2), .val (.int x3), .val (.int x4), .unset, .unset, .unset, .unset, .unset] [(.long x1)])) (fun τ κ => XS.lloadN X0.here hx rfl (hb hby at_25) rfl κ) ?_
    refine GlW.st (g' := (mkF m 29 #[.val (.int x0), .val (.long x1), .second, .val (.int x2), .val (.int x3), .val (.int x4), .unset, .unset, .unset, .unset, .unset] [(.long (9223372036854775807 : Int64)), (.long x1)])) (fun τ κ => X0.ldc2Long hx hown (mvT hZ (hw _ (List.mem_of_getElem? (i := 0) rfl))) (g := (mkF m 26 #[.val (.int x0), .val (.long x1), .second, .val (.int x2), .val (.int x3), .val (.int x4), .unset, .unset, .unset, .unset, .unset] [(.long x1)])) rfl (hb hby at_26) _ κ) ?_
    refine GlW.st (g' := (mkF m 30 #[.val (.int x0), .val (.long x1), .second, .val (.int x2), .val (.int x3), .val (.int x4), .unset, .unset, .unset, .unset, .unset] [(.long (x1 &&& (9223372036854775807 : Int64)))])) (fun τ κ => XS.land X0.here hx rfl (hb hby at_29) rfl κ) ?_
    have hsq := own_s1 x1
    generalize (x1 &&& (9223372036854775807 : Int64)) = sq at hsq ⊢
    refine GlW.st (g' := (mkF m 32 #[.val (.int x0), .val (.long x1), .second, .val (.int x2), .val (.int x3), .val (.int x4), .val (.long sq), .second, .unset, .unset, .unset] [])) (fun τ κ => XS.lstore X0.here hx rfl (hb hby at_30) rfl (l' := #[.val (.int x0), .val (.long x1), .second, .val (.int x2), .val (.int x3), .val (.int x4), .val (.long sq), .second, .unset, .unset, .unset]) rfl κ) ?_
    refine GlW.st (g' := (mkF m 34 #[.val (.int x0), .val (.long x1), .second, .val (.int x2), .val (.int x3), .val (.int x4), .val (.long sq), .second, .unset, .unset, .unset] [(.int x4)])) (fun τ κ => XS.iload X0.here hx rfl (hb hby at_32) rfl κ) ?_
    refine GlW.st (g' := (mkF m 36 #[.val (.int x0), .val (.long x1), .second, .val (.int x2), .val (.int x3), .val (.int x4), .val (.long sq), .second, .unset, .unset, .unset] [(.int (7 : Int32)), (.int x4)])) (fun τ κ => XS.bipush X0.here hx rfl (hb hby at_34) κ) ?_
    refine GlW.st (g' := (mkF m 37 #[.val (.int x0), .val (.long x1), .second, .val (.int x2), .val (.int x3), .val (.int x4), .val (.long sq), .second, .unset, .unset, .unset] [(.int (x4 &&& (7 : Int32)))])) (fun τ κ => XS.iand X0.here hx rfl (hb hby at_36) rfl κ) ?_
    obtain ⟨T50, h50, k50, X50, e50, E50, A50, st50⟩ := newP X0 hx hZ (hw _ (List.mem_of_getElem? (i := 1) rfl)) e0 (g := (mkF m 37 #[.val (.int x0), .val (.long x1), .second, .val (.int x2), .val (.int x3), .val (.int x4), .val (.long sq), .second, .unset, .unset, .unset] [(.int (x4 &&& (7 : Int32)))])) rfl (hb hby at_37) rfl (own_p7 x4).1 (cap := 7) (own_p7 x4).2.1 (by decide) (by decide) (by decide)
    obtain ⟨b50, g50⟩ : ∃ z, z = h0.size := ⟨_, rfl⟩
    rw [← g50] at A50 st50
    have hk50 := Nat.le_trans (Nat.zero_le _) E50.1
    have g_b50 : n0 ≤ b50 := Nat.le_trans Z0 (Nat.le_of_eq g50.symm)
    have sz_b50 : h0.size ≤ b50 := Nat.le_trans (Keep.refl h0 []).1 (Nat.le_of_eq g50.symm)
    have Z50 : n0 ≤ h50.size := Nat.le_trans Z0 E50.1
    have K50 : Keep h0 h50 [] := (Keep.refl h0 []).ext E50
    have V_b50 : Arv Z h50 b50 k50 .byte (x4 &&& (7 : Int32)) [] (.int (0 : Int32)) := Arv.new A50 (own_p7 x4).1
    refine GlW.st (g' := (mkF m 39 #[.val (.int x0), .val (.long x1), .second, .val (.int x2), .val (.int x3), .val (.int x4), .val (.long sq), .second, .unset, .unset, .unset] [(.ref b50)])) (fun τ κ => st50 _ κ) ?_
    refine GlW.st (g' := (mkF m 41 #[.val (.int x0), .val (.long x1), .second, .val (.int x2), .val (.int x3), .val (.int x4), .val (.long sq), .second, .val (.ref b50), .unset, .unset] [])) (fun τ κ => XS.astore X50.here hx rfl (hb hby at_39) rfl rfl (l' := #[.val (.int x0), .val (.long x1), .second, .val (.int x2), .val (.int x3), .val (.int x4), .val (.long sq), .second, .val (.ref b50), .unset, .unset]) rfl κ) ?_
    obtain ⟨T51, h51, X51, e51, E51, A51, D51, -, st51⟩ := newO X50 hx hZ hown (hw _ (List.mem_of_getElem? (i := 2) rfl)) (hw _ (List.mem_of_getElem? (i := 3) rfl)) (hw _ (List.mem_of_getElem? (i := 4) rfl)) e50 (g := (mkF m 41 #[.val (.int x0), .val (.long x1), .second, .val (.int x2), .val (.int x3), .val (.int x4), .val (.long sq), .second, .val (.ref b50), .unset, .unset] [])) rfl (hb hby at_41) (by decide) (by decide)
    obtain ⟨b51, g51⟩ : ∃ z, z = h50.size := ⟨_, rfl⟩
    rw [← g51] at A51 D51 st51
    have ne_b50_b51 : b50 ≠ b51 := Nat.ne_of_lt (Nat.lt_of_lt_of_le V_b50.lt (Nat.le_of_eq g51.symm))
    have V_52 := V_b50.ext E51
    have hk51 := Nat.le_trans hk50 E51.1
    have g_b51 : n0 ≤ b51 := Nat.le_trans Z50 (Nat.le_of_eq g51.symm)
    have sz_b51 : h0.size ≤ b51 := Nat.le_trans K50.1 (Nat.le_of_eq g51.symm)
    have Z51 : n0 ≤ h51.size := Nat.le_trans Z50 E51.1
    have K51 : Keep h0 h51 [] := K50.ext E51
    have F_53 : Fld Z h51 b51 "org/precedence/Message" "origin" "I" (.int (0 : Int32)) := D51 (Or.inr (hw _ (List.mem_of_getElem? (i := 30) rfl))) (ty := .int) (by decide)
    have F_54 : Fld Z h51 b51 "org/precedence/Message" "sequence" "J" (.long (0 : Int64)) := D51 (Or.inr (hw _ (List.mem_of_getElem? (i := 32) rfl))) (ty := .long) (by decide)
    have F_55 : Fld Z h51 b51 "org/precedence/Message" "priority" "I" (.int (0 : Int32)) := D51 (Or.inr (hw _ (List.mem_of_getElem? (i := 34) rfl))) (ty := .int) (by decide)
    have F_56 : Fld Z h51 b51 "org/precedence/Message" "payload" "[B" .null := D51 (Or.inr (hw _ (List.mem_of_getElem? (i := 36) rfl))) (ty := (.array .byte)) (by decide)
    refine GlW.st (g' := (mkF m 44 #[.val (.int x0), .val (.long x1), .second, .val (.int x2), .val (.int x3), .val (.int x4), .val (.long sq), .second, .val (.ref b50), .unset, .unset] [(.ref b51)])) (fun τ κ => st51 _ κ) ?_
    refine GlW.st (g' := (mkF m 45 #[.val (.int x0), .val (.long x1), .second, .val (.int x2), .val (.int x3), .val (.int x4), .val (.long sq), .second, .val (.ref b50), .unset, .unset] [(.ref b51), (.ref b51)])) (fun τ κ => XS.dup X51.here hx rfl (hb hby at_44) rfl rfl κ) ?_
    refine GlW.st (g' := (mkF m 46 #[.val (.int x0), .val (.long x1), .second, .val (.int x2), .val (.int x3), .val (.int x4), .val (.long sq), .second, .val (.ref b50), .unset, .unset] [(.int x0), (.ref b51), (.ref b51)])) (fun τ κ => XS.iloadN X51.here hx rfl (hb hby at_45) rfl κ) ?_
    refine GlW.st (g' := (mkF m 48 #[.val (.int x0), .val (.long x1), .second, .val (.int x2), .val (.int x3), .val (.int x4), .val (.long sq), .second, .val (.ref b50), .unset, .unset] [(.int (2147483647 : Int32)), (.int x0), (.ref b51), (.ref b51)])) (fun τ κ => X51.ldcInt hx hown (mvT hZ (hw _ (List.mem_of_getElem? (i := 5) rfl))) (g := (mkF m 46 #[.val (.int x0), .val (.long x1), .second, .val (.int x2), .val (.int x3), .val (.int x4), .val (.long sq), .second, .val (.ref b50), .unset, .unset] [(.int x0), (.ref b51), (.ref b51)])) rfl (hb hby at_46) _ κ) ?_
    refine GlW.st (g' := (mkF m 49 #[.val (.int x0), .val (.long x1), .second, .val (.int x2), .val (.int x3), .val (.int x4), .val (.long sq), .second, .val (.ref b50), .unset, .unset] [(.int (x0 &&& (2147483647 : Int32))), (.ref b51), (.ref b51)])) (fun τ κ => XS.iand X51.here hx rfl (hb hby at_48) rfl κ) ?_
    refine GlW.st (g' := (mkF m 51 #[.val (.int x0), .val (.long x1), .second, .val (.int x2), .val (.int x3), .val (.int x4), .val (.long sq), .second, .val (.ref b50), .unset, .unset] [(.long sq), (.int (x0 &&& (2147483647 : Int32))), (.ref b51), (.ref b51)])) (fun τ κ => XS.lload X51.here hx rfl (hb hby at_49) rfl κ) ?_
    refine GlW.st (g' := (mkF m 52 #[.val (.int x0), .val (.long x1), .second, .val (.int x2), .val (.int x3), .val (.int x4), .val (.long sq), .second, .val (.ref b50), .unset, .unset] [(.int x2), (.long sq), (.int (x0 &&& (2147483647 : Int32))), (.ref b51), (.ref b51)])) (fun τ κ => XS.iloadN X51.here hx rfl (hb hby at_51) rfl κ) ?_
    refine GlW.st (g' := (mkF m 54 #[.val (.int x0), .val (.long x1), .second, .val (.int x2), .val (.int x3), .val (.int x4), .val (.long sq), .second, .val (.ref b50), .unset, .unset] [(.ref b50), (.int x2), (.long sq), (.int (x0 &&& (2147483647 : Int32))), (.ref b51), (.ref b51)])) (fun τ κ => XS.aload X51.here hx rfl (hb hby at_52) rfl rfl κ) ?_
    obtain ⟨rv57, _, ⟨T57, L57, k57, n57⟩, -, X57, hSb57, hgb57, ⟨Lc57, hQ57, l57, y57, z57⟩, st57⟩ := X51.specialBackS hx (y := (⟨"org/precedence/Message", "<init>", "(IJI[B)V"⟩ : MethodName)) rfl hown (mvT hZ (hw _ (List.mem_of_getElem? (i := 6) rfl))) (mvT hZ (hw _ (List.mem_of_getElem? (i := 7) rfl))) (mvT hZ (hw _ (List.mem_of_getElem? (i := 8) rfl))) (by decide) (backOfS (W := 1) (rm1 l Z a0 hw [] b51 (x0 &&& (2147483647 : Int32)) sq x2 b50 k50 (x4 &&& (7 : Int32)) [] h51 n0 Z51 A51 g_b51 (Ne.symm ne_b50_b51) F_53 F_54 F_55 F_56 V_52 (own_mx x0) (own_nn hsq) (own_p7 x4).2.2) hZ (hw _ (List.mem_of_getElem? (i := 8) rfl)) (hw _ (List.mem_of_getElem? (i := 4) rfl)) (by decide) (by decide)) (g := (mkF m 54 #[.val (.int x0), .val (.long x1), .second, .val (.int x2), .val (.int x3), .val (.int x4), .val (.long sq), .second, .val (.ref b50), .unset, .unset] [(.ref b50), (.int x2), (.long sq), (.int (x0 &&& (2147483647 : Int32))), (.ref b51), (.ref b51)])) rfl (by rw [hml]; rfl) (Steps.refl _) (a := b51) (argsL := [(.int (x0 &&& (2147483647 : Int32))), (.long sq), (.int x2), (.ref b50)]) (rest := [(.ref b51)]) (lenOf pd_2 rfl) rfl (by show 2 * 0 + _ ≤ _; exact Nat.le_of_eq rfl) (hb hby at_54) (fun _ _ => ⟨rfl, e51, (by decide : 2 + 2 ≤ _), (by decide : 11 + 32 ≤ _)⟩)
    dsimp only [Pt.U, Pt.locs, Pt.cells, Pt.slots] at X57 l57 y57 z57 st57 hQ57 hSb57 hgb57
    subst l57 y57 z57
    obtain ⟨X57, hS57, hZ57, hown57⟩ := rebS hS0 hk51 X57 hSb57 (by rw [← e51]; exact hgb57) hZ hown
    obtain ⟨rfl, N57q, Kc57, Ec57, FS57⟩ := hQ57
    have V_58 := V_52.keep Kc57 (ninS ne_b50_b51 nin0)
    have E_59 := A51.keep Kc57
    have N57 := Fr.app N0 N57q
    have Z57 : n0 ≤ T57.heap.size := Nat.le_trans Z51 Kc57.1
    have K57 : Keep h0 T57.heap [] := K51.trans Kc57 (allS (Or.inr sz_b51) all0)
    refine GlW.st (g' := (mkF m 57 #[.val (.int x0), .val (.long x1), .second, .val (.int x2), .val (.int x3), .val (.int x4), .val (.long sq), .second, .val (.ref b50), .unset, .unset] [(.ref b51)])) (fun τ κ => st57.trans κ) ?_
    refine GlW.st (g' := (mkF m 59 #[.val (.int x0), .val (.long x1), .second, .val (.int x2), .val (.int x3), .val (.int x4), .val (.long sq), .second, .val (.ref b50), .val (.ref b51), .unset] [])) (fun τ κ => XS.astore X57.here hx rfl (hb hby at_57) rfl rfl (l' := #[.val (.int x0), .val (.long x1), .second, .val (.int x2), .val (.int x3), .val (.int x4), .val (.long sq), .second, .val (.ref b50), .val (.ref b51), .unset]) rfl κ) ?_
    refine GlW.st (g' := (mkF m 61 #[.val (.int x0), .val (.long x1), .second, .val (.int x2), .val (.int x3), .val (.int x4), .val (.long sq), .second, .val (.ref b50), .val (.ref b51), .unset] [(.long sq)])) (fun τ κ => XS.lload X57.here hx rfl (hb hby at_59) rfl κ) ?_
    refine GlW.st (g' := (mkF m 63 #[.val (.int x0), .val (.long x1), .second, .val (.int x2), .val (.int x3), .val (.int x4), .val (.long sq), .second, .val (.ref b50), .val (.ref b51), .unset] [(.int (62 : Int32)), (.long sq)])) (fun τ κ => XS.bipush X57.here hx rfl (hb hby at_61) κ) ?_
    refine GlW.st (g' := (mkF m 64 #[.val (.int x0), .val (.long x1), .second, .val (.int x2), .val (.int x3), .val (.int x4), .val (.long sq), .second, .val (.ref b50), .val (.ref b51), .unset] [(.long ((sq.toUInt64 >>> ((62 : Int32) &&& 0x3f).toInt64.toUInt64).toInt64))])) (fun τ κ => XS.lushr X57.here hx rfl (hb hby at_63) rfl κ) ?_
    refine GlW.st (g' := (mkF m 65 #[.val (.int x0), .val (.long x1), .second, .val (.int x2), .val (.int x3), .val (.int x4), .val (.long sq), .second, .val (.ref b50), .val (.ref b51), .unset] [(.long (1 : Int64)), (.long ((sq.toUInt64 >>> ((62 : Int32) &&& 0x3f).toInt64.toUInt64).toInt64))])) (fun τ κ => XS.lconst X57.here hx rfl (hb hby at_64) κ) ?_
    refine GlW.st (g' := (mkF m 66 #[.val (.int x0), .val (.long x1), .second, .val (.int x2), .val (.int x3), .val (.int x4), .val (.long sq), .second, .val (.ref b50), .val (.ref b51), .unset] [(.long (((sq.toUInt64 >>> ((62 : Int32) &&& 0x3f).toInt64.toUInt64).toInt64) &&& (1 : Int64)))])) (fun τ κ => XS.land X57.here hx rfl (hb hby at_65) rfl κ) ?_
    refine GlW.st (g' := (mkF m 66 #[.val (.int x0), .val (.long x1), .second, .val (.int x2), .val (.int x3), .val (.int x4), .val (.long sq), .second, .val (.ref b50), .val (.ref b51), .unset] [(.long (own_top sq))])) (fun τ κ => κ) ?_
    refine GlW.st (g' := (mkF m 67 #[.val (.int x0), .val (.long x1), .second, .val (.int x2), .val (.int x3), .val (.int x4), .val (.long sq), .second, .val (.ref b50), .val (.ref b51), .unset] [(.long (1 : Int64)), (.long (own_top sq))])) (fun τ κ => XS.lconst X57.here hx rfl (hb hby at_66) κ) ?_
    refine GlW.st (g' := (mkF m 68 #[.val (.int x0), .val (.long x1), .second, .val (.int x2), .val (.int x3), .val (.int x4), .val (.long sq), .second, .val (.ref b50), .val (.ref b51), .unset] [(.int (lcmpW (own_top sq) (1 : Int64)))])) (fun τ κ => XS.lcmp X57.here hx rfl (hb hby at_67) rfl κ) ?_
    by_cases hc64 : (own_top sq) = (1 : Int64)
    · -- pc 68: (own_top sq) = (1 : Int64)
      refine GlW.st (g' := (mkF m 71 #[.val (.int x0), .val (.long x1), .second, .val (.int x2), .val (.int x3), .val (.int x4), .val (.long sq), .second, .val (.ref b50), .val (.ref b51), .unset] [])) (fun τ κ => XS.ifNo X57.here hx rfl (hb hby at_68) rfl ((if0 _ _).trans (teq ((lw_eq (own_top sq) (1 : Int64)).mpr hc64)).2) κ) ?_
      refine GlW.st (g' := (mkF m 72 #[.val (.int x0), .val (.long x1), .second, .val (.int x2), .val (.int x3), .val (.int x4), .val (.long sq), .second, .val (.ref b50), .val (.ref b51), .unset] [(.int (1 : Int32))])) (fun τ κ => XS.iconst X57.here hx rfl (hb hby at_71) κ) ?_
      refine GlW.st (g' := (mkF m 76 #[.val (.int x0), .val (.long x1), .second, .val (.int x2), .val (.int x3), .val (.int x4), .val (.long sq), .second, .val (.ref b50), .val (.ref b51), .unset] [(.int (1 : Int32))])) (fun τ κ => XS.goto X57.here hx rfl (pc0 := 72) (pc' := 76) rfl (hb hby at_72) (by decide) (by decide) κ) ?_
      refine GlW.st (g' := (mkF m 78 #[.val (.int x0), .val (.long x1), .second, .val (.int x2), .val (.int x3), .val (.int x4), .val (.long sq), .second, .val (.ref b50), .val (.ref b51), .val (.int (1 : Int32))] [])) (fun τ κ => XS.istore X57.here hx rfl (hb hby at_76) rfl (l' := #[.val (.int x0), .val (.long x1), .second, .val (.int x2), .val (.int x3), .val (.int x4), .val (.long sq), .second, .val (.ref b50), .val (.ref b51), .val (.int (1 : Int32))]) rfl κ) ?_
      refine GlW.st (g' := (mkF m 80 #[.val (.int x0), .val (.long x1), .second, .val (.int x2), .val (.int x3), .val (.int x4), .val (.long sq), .second, .val (.ref b50), .val (.ref b51), .val (.int (1 : Int32))] [(.ref b51)])) (fun τ κ => XS.aload X57.here hx rfl (hb hby at_78) rfl rfl κ) ?_
      obtain ⟨cq65, kq65, q65a, q65b, q65c⟩ := isOf hZ57 rfl Ec57
      obtain ⟨rv65, _, ⟨T65, L65, k65, n65⟩, -, X65, ⟨Lc65, hQ65, l65, y65, z65⟩, st65⟩ := X57.virtualBack hx (y := (⟨"org/precedence/Message", "isControl", "()Z"⟩ : MethodName)) (z := (⟨"org/precedence/Message", "isControl", "()Z"⟩ : MethodName)) hown57 (mvT hZ57 (hw _ (List.mem_of_getElem? (i := 37) rfl))) (mvT hZ57 (hw _ (List.mem_of_getElem? (i := 38) rfl))) (notFace_of_selects (args := #[]) (mvT hZ57 (hw _ (List.mem_of_getElem? (i := 40) rfl)))) (mvT hZ57 (hw _ (List.mem_of_getElem? (i := 40) rfl))) (mvT hZ57 (hw _ (List.mem_of_getElem? (i := 39) rfl))) (by decide) (backOf (W := 0) (rm5 l Z a0 hw [] b51 sq T57.heap n0 Z57 FS57) hZ57 (hw _ (List.mem_of_getElem? (i := 41) rfl)) (hw _ (List.mem_of_getElem? (i := 4) rfl)) (by decide) (by decide)) q65a q65c (g := (mkF m 80 #[.val (.int x0), .val (.long x1), .second, .val (.int x2), .val (.int x3), .val (.int x4), .val (.long sq), .second, .val (.ref b50), .val (.ref b51), .val (.int (1 : Int32))] [(.ref b51)])) rfl (by rw [hml]; rfl) (Steps.refl _) (argsL := []) (rest := []) (lenOf pd_3 rfl) rfl (by show 2 * 0 + _ ≤ _; exact Nat.le_of_eq rfl) (hb hby at_80) (fun _ _ => ⟨rfl, rfl, (by decide : 4 + 0 ≤ _), (by decide : 43 + 0 ≤ _)⟩)
      dsimp only [Pt.U, Pt.locs, Pt.cells, Pt.slots] at X65 l65 y65 z65 st65 hQ65
      subst l65 y65 z65
      obtain ⟨rfl, N65q, e65⟩ := hQ65
      have N65 := Fr.app N57 N65q
      refine GlW.st (g' := (mkF m 83 #[.val (.int x0), .val (.long x1), .second, .val (.int x2), .val (.int x3), .val (.int x4), .val (.long sq), .second, .val (.ref b50), .val (.ref b51), .val (.int (1 : Int32))] [(.int (own_ctl sq))])) (fun τ κ => st65.trans κ) ?_
      refine GlW.st (g' := (mkF m 85 #[.val (.int x0), .val (.long x1), .second, .val (.int x2), .val (.int x3), .val (.int x4), .val (.long sq), .second, .val (.ref b50), .val (.ref b51), .val (.int (1 : Int32))] [(.int (1 : Int32)), (.int (own_ctl sq))])) (fun τ κ => XS.iload X65.here hx rfl (hb hby at_83) rfl κ) ?_
      have hc66 : (own_ctl sq) = (1 : Int32) := own_y hsq hc64
      refine GlW.st (g' := (mkF m 88 #[.val (.int x0), .val (.long x1), .second, .val (.int x2), .val (.int x3), .val (.int x4), .val (.long sq), .second, .val (.ref b50), .val (.ref b51), .val (.int (1 : Int32))] [])) (fun τ κ => XS.icmpNo X65.here hx rfl (hb hby at_85) rfl (teq hc66).2 κ) ?_
      refine GlW.st (g' := (mkF m 89 #[.val (.int x0), .val (.long x1), .second, .val (.int x2), .val (.int x3), .val (.int x4), .val (.long sq), .second, .val (.ref b50), .val (.ref b51), .val (.int (1 : Int32))] [(.int (1 : Int32))])) (fun τ κ => XS.iconst X65.here hx rfl (hb hby at_88) κ) ?_
      refine GlW.st (g' := (mkF m 93 #[.val (.int x0), .val (.long x1), .second, .val (.int x2), .val (.int x3), .val (.int x4), .val (.long sq), .second, .val (.ref b50), .val (.ref b51), .val (.int (1 : Int32))] [(.int (1 : Int32))])) (fun τ κ => XS.goto X65.here hx rfl (pc0 := 89) (pc' := 93) rfl (hb hby at_89) (by decide) (by decide) κ) ?_
      exact GlW.ret hS57 (Nat.le_refl _) (v := some (.int (1 : Int32))) X65 Bd.notSynchronized (fun h => by rw [Bd.returns] at h; cases h) e65 (fun fs hr => retN X65 hx (t := .boolean) Bd.returns (by simp) (hb hby at_93) hr) (by decide) (by decide) ⟨rfl, N65⟩
    · -- pc 68: not (own_top sq) = (1 : Int64)
      refine GlW.st (g' := (mkF m 75 #[.val (.int x0), .val (.long x1), .second, .val (.int x2), .val (.int x3), .val (.int x4), .val (.long sq), .second, .val (.ref b50), .val (.ref b51), .unset] [])) (fun τ κ => XS.ifYes X57.here hx rfl (pc0 := 68) (pc' := 75) rfl (hb hby at_68) rfl ((if0 _ _).trans (feq (mt (lw_eq (own_top sq) (1 : Int64)).mp hc64)).2) (by decide) (by decide) κ) ?_
      refine GlW.st (g' := (mkF m 76 #[.val (.int x0), .val (.long x1), .second, .val (.int x2), .val (.int x3), .val (.int x4), .val (.long sq), .second, .val (.ref b50), .val (.ref b51), .unset] [(.int (0 : Int32))])) (fun τ κ => XS.iconst X57.here hx rfl (hb hby at_75) κ) ?_
      refine GlW.st (g' := (mkF m 78 #[.val (.int x0), .val (.long x1), .second, .val (.int x2), .val (.int x3), .val (.int x4), .val (.long sq), .second, .val (.ref b50), .val (.ref b51), .val (.int (0 : Int32))] [])) (fun τ κ => XS.istore X57.here hx rfl (hb hby at_76) rfl (l' := #[.val (.int x0), .val (.long x1), .second, .val (.int x2), .val (.int x3), .val (.int x4), .val (.long sq), .second, .val (.ref b50), .val (.ref b51), .val (.int (0 : Int32))]) rfl κ) ?_
      refine GlW.st (g' := (mkF m 80 #[.val (.int x0), .val (.long x1), .second, .val (.int x2), .val (.int x3), .val (.int x4), .val (.long sq), .second, .val (.ref b50), .val (.ref b51), .val (.int (0 : Int32))] [(.ref b51)])) (fun τ κ => XS.aload X57.here hx rfl (hb hby at_78) rfl rfl κ) ?_
      obtain ⟨cq67, kq67, q67a, q67b, q67c⟩ := isOf hZ57 rfl Ec57
      obtain ⟨rv67, _, ⟨T67, L67, k67, n67⟩, -, X67, ⟨Lc67, hQ67, l67, y67, z67⟩, st67⟩ := X57.virtualBack hx (y := (⟨"org/precedence/Message", "isControl", "()Z"⟩ : MethodName)) (z := (⟨"org/precedence/Message", "isControl", "()Z"⟩ : MethodName)) hown57 (mvT hZ57 (hw _ (List.mem_of_getElem? (i := 37) rfl))) (mvT hZ57 (hw _ (List.mem_of_getElem? (i := 38) rfl))) (notFace_of_selects (args := #[]) (mvT hZ57 (hw _ (List.mem_of_getElem? (i := 40) rfl)))) (mvT hZ57 (hw _ (List.mem_of_getElem? (i := 40) rfl))) (mvT hZ57 (hw _ (List.mem_of_getElem? (i := 39) rfl))) (by decide) (backOf (W := 0) (rm5 l Z a0 hw [] b51 sq T57.heap n0 Z57 FS57) hZ57 (hw _ (List.mem_of_getElem? (i := 41) rfl)) (hw _ (List.mem_of_getElem? (i := 4) rfl)) (by decide) (by decide)) q67a q67c (g := (mkF m 80 #[.val (.int x0), .val (.long x1), .second, .val (.int x2), .val (.int x3), .val (.int x4), .val (.long sq), .second, .val (.ref b50), .val (.ref b51), .val (.int (0 : Int32))] [(.ref b51)])) rfl (by rw [hml]; rfl) (Steps.refl _) (argsL := []) (rest := []) (lenOf pd_3 rfl) rfl (by show 2 * 0 + _ ≤ _; exact Nat.le_of_eq rfl) (hb hby at_80) (fun _ _ => ⟨rfl, rfl, (by decide : 4 + 0 ≤ _), (by decide : 43 + 0 ≤ _)⟩)
      dsimp only [Pt.U, Pt.locs, Pt.cells, Pt.slots] at X67 l67 y67 z67 st67 hQ67
      subst l67 y67 z67
      obtain ⟨rfl, N67q, e67⟩ := hQ67
      have N67 := Fr.app N57 N67q
      refine GlW.st (g' := (mkF m 83 #[.val (.int x0), .val (.long x1), .second, .val (.int x2), .val (.int x3), .val (.int x4), .val (.long sq), .second, .val (.ref b50), .val (.ref b51), .val (.int (0 : Int32))] [(.int (own_ctl sq))])) (fun τ κ => st67.trans κ) ?_
      refine GlW.st (g' := (mkF m 85 #[.val (.int x0), .val (.long x1), .second, .val (.int x2), .val (.int x3), .val (.int x4), .val (.long sq), .second, .val (.ref b50), .val (.ref b51), .val (.int (0 : Int32))] [(.int (0 : Int32)), (.int (own_ctl sq))])) (fun τ κ => XS.iload X67.here hx rfl (hb hby at_83) rfl κ) ?_
      have hc68 : (own_ctl sq) = (0 : Int32) := own_n hsq hc64
      refine GlW.st (g' := (mkF m 88 #[.val (.int x0), .val (.long x1), .second, .val (.int x2), .val (.int x3), .val (.int x4), .val (.long sq), .second, .val (.ref b50), .val (.ref b51), .val (.int (0 : Int32))] [])) (fun τ κ => XS.icmpNo X67.here hx rfl (hb hby at_85) rfl (teq hc68).2 κ) ?_
      refine GlW.st (g' := (mkF m 89 #[.val (.int x0), .val (.long x1), .second, .val (.int x2), .val (.int x3), .val (.int x4), .val (.long sq), .second, .val (.ref b50), .val (.ref b51), .val (.int (0 : Int32))] [(.int (1 : Int32))])) (fun τ κ => XS.iconst X67.here hx rfl (hb hby at_88) κ) ?_
      refine GlW.st (g' := (mkF m 93 #[.val (.int x0), .val (.long x1), .second, .val (.int x2), .val (.int x3), .val (.int x4), .val (.long sq), .second, .val (.ref b50), .val (.ref b51), .val (.int (0 : Int32))] [(.int (1 : Int32))])) (fun τ κ => XS.goto X67.here hx rfl (pc0 := 89) (pc' := 93) rfl (hb hby at_89) (by decide) (by decide) κ) ?_
      exact GlW.ret hS57 (Nat.le_refl _) (v := some (.int (1 : Int32))) X67 Bd.notSynchronized (fun h => by rw [Bd.returns] at h; cases h) e67 (fun fs hr => retN X67 hx (t := .boolean) Bd.returns (by simp) (hb hby at_93) hr) (by decide) (by decide) ⟨rfl, N67⟩
  · -- pc 4: not (x3 &&& (1 : Int32)) = (0 : Int32)
    refine GlW.st (g' := (mkF m 7 #[.val (.int x0), .val (.long x1), .second, .val (.int x2), .val (.int x3), .val (.int x4), .unset, .unset, .unset, .unset, .unset] [])) (fun τ κ => XS.ifNo X0.here hx rfl (hb hby at_4) rfl ((if0 _ _).trans (feq hc49).1) κ) ?_
    refine GlW.st (g' := (mkF m 10 #[.val (.int x0), .val (.long x1), .second, .val (.int x2), .val (.int x3), .val (.int x4), .unset, .unset, .unset, .unset, .unset] [(.long (4611686018427387904 : Int64))])) (fun τ κ => X0.ldc2Long hx hown (mvT hZ (hw _ (List.mem_of_getElem? (i := 43) rfl))) (g := (mkF m 7 #[.val (.int x0), .val (.long x1), .second, .val (.int x2), .val (.int x3), .val (.int x4), .unset, .unset, .unset, .unset, .unset] [])) rfl (hb hby at_7) _ κ) ?_
    refine GlW.st (g' := (mkF m 12 #[.val (.int x0), .val (.long x1), .second, .val (.int x2), .val (.int x3), .val (.int x4), .unset, .unset, .unset, .unset, .unset] [(.int x3), (.long (4611686018427387904 : Int64))])) (fun τ κ => XS.iload X0.here hx rfl (hb hby at_10) rfl κ) ?_
    refine GlW.st (g' := (mkF m 13 #[.val (.int x0), .val (.long x1), .second, .val (.int x2), .val (.int x3), .val (.int x4), .unset, .unset, .unset, .unset, .unset] [(.int (1 : Int32)), (.int x3), (.long (4611686018427387904 : Int64))])) (fun τ κ => XS.iconst X0.here hx rfl (hb hby at_12) κ) ?_
    refine GlW.st (g' := (mkF m 14 #[.val (.int x0), .val (.long x1), .second, .val (.int x2), .val (.int x3), .val (.int x4), .unset, .unset, .unset, .unset, .unset] [(.int (x3 >>> ((1 : Int32) &&& 31))), (.long (4611686018427387904 : Int64))])) (fun τ κ => XS.ishr X0.here hx rfl (hb hby at_13) rfl κ) ?_
    refine GlW.st (g' := (mkF m 15 #[.val (.int x0), .val (.long x1), .second, .val (.int x2), .val (.int x3), .val (.int x4), .unset, .unset, .unset, .unset, .unset] [(.int (3 : Int32)), (.int (x3 >>> ((1 : Int32) &&& 31))), (.long (4611686018427387904 : Int64))])) (fun τ κ => XS.iconst X0.here hx rfl (hb hby at_14) κ) ?_
    refine GlW.st (g' := (mkF m 16 #[.val (.int x0), .val (.long x1), .second, .val (.int x2), .val (.int x3), .val (.int x4), .unset, .unset, .unset, .unset, .unset] [(.int ((x3 >>> ((1 : Int32) &&& 31)) &&& (3 : Int32))), (.long (4611686018427387904 : Int64))])) (fun τ κ => XS.iand X0.here hx rfl (hb hby at_15) rfl κ) ?_
    refine GlW.st (g' := (mkF m 17 #[.val (.int x0), .val (.long x1), .second, .val (.int x2), .val (.int x3), .val (.int x4), .unset, .unset, .unset, .unset, .unset] [(.int (2 : Int32)), (.int ((x3 >>> ((1 : Int32) &&& 31)) &&& (3 : Int32))), (.long (4611686018427387904 : Int64))])) (fun τ κ => XS.iconst X0.here hx rfl (hb hby at_16) κ) ?_
    refine GlW.st (g' := (mkF m 18 #[.val (.int x0), .val (.long x1), .second, .val (.int x2), .val (.int x3), .val (.int x4), .unset, .unset, .unset, .unset, .unset] [(.int (((x3 >>> ((1 : Int32) &&& 31)) &&& (3 : Int32)) - (2 : Int32))), (.long (4611686018427387904 : Int64))])) (fun τ κ => XS.isub X0.here hx rfl (hb hby at_17) rfl κ) ?_
    refine GlW.st (g' := (mkF m 19 #[.val (.int x0), .val (.long x1), .second, .val (.int x2), .val (.int x3), .val (.int x4), .unset, .unset, .unset, .unset, .unset] [(.long ((((x3 >>> ((1 : Int32) &&& 31)) &&& (3 : Int32)) - (2 : Int32)).toInt64)), (.long (4611686018427387904 : Int64))])) (fun τ κ => XS.i2l X0.here hx rfl (hb hby at_18) rfl κ) ?_
    refine GlW.st (g' := (mkF m 20 #[.val (.int x0), .val (.long x1), .second, .val (.int x2), .val (.int x3), .val (.int x4), .unset, .unset, .unset, .unset, .unset] [(.long ((4611686018427387904 : Int64) + ((((x3 >>> ((1 : Int32) &&& 31)) &&& (3 : Int32)) - (2 : Int32)).toInt64)))])) (fun τ κ => XS.ladd X0.here hx rfl (hb hby at_19) rfl κ) ?_
    have hsq := own_s2 x3
    generalize ((4611686018427387904 : Int64) + ((((x3 >>> ((1 : Int32) &&& 31)) &&& (3 : Int32)) - (2 : Int32)).toInt64)) = sq at hsq ⊢
    refine GlW.st (g' := (mkF m 22 #[.val (.int x0), .val (.long x1), .second, .val (.int x2), .val (.int x3), .val (.int x4), .val (.long sq), .second, .unset, .unset, .unset] [])) (fun τ κ => XS.lstore X0.here hx rfl (hb hby at_20) rfl (l' := #[.val (.int x0), .val (.long x1), .second, .val (.int x2), .val (.int x3), .val (.int x4), .val (.long sq), .second, .unset, .unset, .unset]) rfl κ) ?_
    refine GlW.st (g' := (mkF m 32 #[.val (.int x0), .val (.long x1), .second, .val (.int x2), .val (.int x3), .val (.int x4), .val (.long sq), .second, .unset, .unset, .unset] [])) (fun τ κ => XS.goto X0.here hx rfl (pc0 := 22) (pc' := 32) rfl (hb hby at_22) (by decide) (by decide) κ) ?_
    refine GlW.st (g' := (mkF m 34 #[.val (.int x0), .val (.long x1), .second, .val (.int x2), .val (.int x3), .val (.int x4), .val (.long sq), .second, .unset, .unset, .unset] [(.int x4)])) (fun τ κ => XS.iload X0.here hx rfl (hb hby at_32) rfl κ) ?_
    refine GlW.st (g' := (mkF m 36 #[.val (.int x0), .val (.long x1), .second, .val (.int x2), .val (.int x3), .val (.int x4), .val (.long sq), .second, .unset, .unset, .unset] [(.int (7 : Int32)), (.int x4)])) (fun τ κ => XS.bipush X0.here hx rfl (hb hby at_34) κ) ?_
    refine GlW.st (g' := (mkF m 37 #[.val (.int x0), .val (.long x1), .second, .val (.int x2), .val (.int x3), .val (.int x4), .val (.long sq), .second, .unset, .unset, .unset] [(.int (x4 &&& (7 : Int32)))])) (fun τ κ => XS.iand X0.here hx rfl (hb hby at_36) rfl κ) ?_
    obtain ⟨T69, h69, k69, X69, e69, E69, A69, st69⟩ := newP X0 hx hZ (hw _ (List.mem_of_getElem? (i := 1) rfl)) e0 (g := (mkF m 37 #[.val (.int x0), .val (.long x1), .second, .val (.int x2), .val (.int x3), .val (.int x4), .val (.long sq), .second, .unset, .unset, .unset] [(.int (x4 &&& (7 : Int32)))])) rfl (hb hby at_37) rfl (own_p7 x4).1 (cap := 7) (own_p7 x4).2.1 (by decide) (by decide) (by decide)
    obtain ⟨b69, g69⟩ : ∃ z, z = h0.size := ⟨_, rfl⟩
    rw [← g69] at A69 st69
    have hk69 := Nat.le_trans (Nat.zero_le _) E69.1
    have g_b69 : n0 ≤ b69 := Nat.le_trans Z0 (Nat.le_of_eq g69.symm)
    have sz_b69 : h0.size ≤ b69 := Nat.le_trans (Keep.refl h0 []).1 (Nat.le_of_eq g69.symm)
    have Z69 : n0 ≤ h69.size := Nat.le_trans Z0 E69.1
    have K69 : Keep h0 h69 [] := (Keep.refl h0 []).ext E69
    have V_b69 : Arv Z h69 b69 k69 .byte (x4 &&& (7 : Int32)) [] (.int (0 : Int32)) := Arv.new A69 (own_p7 x4).1
    refine GlW.st (g' := (mkF m 39 #[.val (.int x0), .val (.long x1), .second, .val (.int x2), .val (.int x3), .val (.int x4), .val (.long sq), .second, .unset, .unset, .unset] [(.ref b69)])) (fun τ κ => st69 _ κ) ?_
    refine GlW.st (g' := (mkF m 41 #[.val (.int x0), .val (.long x1), .second, .val (.int x2), .val (.int x3), .val (.int x4), .val (.long sq), .second, .val (.ref b69), .unset, .unset] [])) (fun τ κ => XS.astore X69.here hx rfl (hb hby at_39) rfl rfl (l' := #[.val (.int x0), .val (.long x1), .second, .val (.int x2), .val (.int x3), .val (.int x4), .val (.long sq), .second, .val (.ref b69), .unset, .unset]) rfl κ) ?_
    obtain ⟨T70, h70, X70, e70, E70, A70, D70, -, st70⟩ := newO X69 hx hZ hown (hw _ (List.mem_of_getElem? (i := 2) rfl)) (hw _ (List.mem_of_getElem? (i := 3) rfl)) (hw _ (List.mem_of_getElem? (i := 4) rfl)) e69 (g := (mkF m 41 #[.val (.int x0), .val (.long x1), .second, .val (.int x2), .val (.int x3), .val (.int x4), .val (.long sq), .second, .val (.ref b69), .unset, .unset] [])) rfl (hb hby at_41) (by decide) (by decide)
    obtain ⟨b70, g70⟩ : ∃ z, z = h69.size := ⟨_, rfl⟩
    rw [← g70] at A70 D70 st70
    have ne_b69_b70 : b69 ≠ b70 := Nat.ne_of_lt (Nat.lt_of_lt_of_le V_b69.lt (Nat.le_of_eq g70.symm))
    have V_71 := V_b69.ext E70
    have hk70 := Nat.le_trans hk69 E70.1
    have g_b70 : n0 ≤ b70 := Nat.le_trans Z69 (Nat.le_of_eq g70.symm)
    have sz_b70 : h0.size ≤ b70 := Nat.le_trans K69.1 (Nat.le_of_eq g70.symm)
    have Z70 : n0 ≤ h70.size := Nat.le_trans Z69 E70.1
    have K70 : Keep h0 h70 [] := K69.ext E70
    have F_72 : Fld Z h70 b70 "org/precedence/Message" "origin" "I" (.int (0 : Int32)) := D70 (Or.inr (hw _ (List.mem_of_getElem? (i := 30) rfl))) (ty := .int) (by decide)
    have F_73 : Fld Z h70 b70 "org/precedence/Message" "sequence" "J" (.long (0 : Int64)) := D70 (Or.inr (hw _ (List.mem_of_getElem? (i := 32) rfl))) (ty := .long) (by decide)
    have F_74 : Fld Z h70 b70 "org/precedence/Message" "priority" "I" (.int (0 : Int32)) := D70 (Or.inr (hw _ (List.mem_of_getElem? (i := 34) rfl))) (ty := .int) (by decide)
    have F_75 : Fld Z h70 b70 "org/precedence/Message" "payload" "[B" .null := D70 (Or.inr (hw _ (List.mem_of_getElem? (i := 36) rfl))) (ty := (.array .byte)) (by decide)
    refine GlW.st (g' := (mkF m 44 #[.val (.int x0), .val (.long x1), .second, .val (.int x2), .val (.int x3), .val (.int x4), .val (.long sq), .second, .val (.ref b69), .unset, .unset] [(.ref b70)])) (fun τ κ => st70 _ κ) ?_
    refine GlW.st (g' := (mkF m 45 #[.val (.int x0), .val (.long x1), .second, .val (.int x2), .val (.int x3), .val (.int x4), .val (.long sq), .second, .val (.ref b69), .unset, .unset] [(.ref b70), (.ref b70)])) (fun τ κ => XS.dup X70.here hx rfl (hb hby at_44) rfl rfl κ) ?_
    refine GlW.st (g' := (mkF m 46 #[.val (.int x0), .val (.long x1), .second, .val (.int x2), .val (.int x3), .val (.int x4), .val (.long sq), .second, .val (.ref b69), .unset, .unset] [(.int x0), (.ref b70), (.ref b70)])) (fun τ κ => XS.iloadN X70.here hx rfl (hb hby at_45) rfl κ) ?_
    refine GlW.st (g' := (mkF m 48 #[.val (.int x0), .val (.long x1), .second, .val (.int x2), .val (.int x3), .val (.int x4), .val (.long sq), .second, .val (.ref b69), .unset, .unset] [(.int (2147483647 : Int32)), (.int x0), (.ref b70), (.ref b70)])) (fun τ κ => X70.ldcInt hx hown (mvT hZ (hw _ (List.mem_of_getElem? (i := 5) rfl))) (g := (mkF m 46 #[.val (.int x0), .val (.long x1), .second, .val (.int x2), .val (.int x3), .val (.int x4), .val (.long sq), .second, .val (.ref b69), .unset, .unset] [(.int x0), (.ref b70), (.ref b70)])) rfl (hb hby at_46) _ κ) ?_
    refine GlW.st (g' := (mkF m 49 #[.val (.int x0), .val (.long x1), .second, .val (.int x2), .val (.int x3), .val (.int x4), .val (.long sq), .second, .val (.ref b69), .unset, .unset] [(.int (x0 &&& (2147483647 : Int32))), (.ref b70), (.ref b70)])) (fun τ κ => XS.iand X70.here hx rfl (hb hby at_48) rfl κ) ?_
    refine GlW.st (g' := (mkF m 51 #[.val (.int x0), .val (.long x1), .second, .val (.int x2), .val (.int x3), .val (.int x4), .val (.long sq), .second, .val (.ref b69), .unset, .unset] [(.long sq), (.int (x0 &&& (2147483647 : Int32))), (.ref b70), (.ref b70)])) (fun τ κ => XS.lload X70.here hx rfl (hb hby at_49) rfl κ) ?_
    refine GlW.st (g' := (mkF m 52 #[.val (.int x0), .val (.long x1), .second, .val (.int x2), .val (.int x3), .val (.int x4), .val (.long sq), .second, .val (.ref b69), .unset, .unset] [(.int x2), (.long sq), (.int (x0 &&& (2147483647 : Int32))), (.ref b70), (.ref b70)])) (fun τ κ => XS.iloadN X70.here hx rfl (hb hby at_51) rfl κ) ?_
    refine GlW.st (g' := (mkF m 54 #[.val (.int x0), .val (.long x1), .second, .val (.int x2), .val (.int x3), .val (.int x4), .val (.long sq), .second, .val (.ref b69), .unset, .unset] [(.ref b69), (.int x2), (.long sq), (.int (x0 &&& (2147483647 : Int32))), (.ref b70), (.ref b70)])) (fun τ κ => XS.aload X70.here hx rfl (hb hby at_52) rfl rfl κ) ?_
    obtain ⟨rv76, _, ⟨T76, L76, k76, n76⟩, -, X76, hSb76, hgb76, ⟨Lc76, hQ76, l76, y76, z76⟩, st76⟩ := X70.specialBackS hx (y := (⟨"org/precedence/Message", "<init>", "(IJI[B)V"⟩ : MethodName)) rfl hown (mvT hZ (hw _ (List.mem_of_getElem? (i := 6) rfl))) (mvT hZ (hw _ (List.mem_of_getElem? (i := 7) rfl))) (mvT hZ (hw _ (List.mem_of_getElem? (i := 8) rfl))) (by decide) (backOfS (W := 1) (rm1 l Z a0 hw [] b70 (x0 &&& (2147483647 : Int32)) sq x2 b69 k69 (x4 &&& (7 : Int32)) [] h70 n0 Z70 A70 g_b70 (Ne.symm ne_b69_b70) F_72 F_73 F_74 F_75 V_71 (own_mx x0) (own_nn hsq) (own_p7 x4).2.2) hZ (hw _ (List.mem_of_getElem? (i := 8) rfl)) (hw _ (List.mem_of_getElem? (i := 4) rfl)) (by decide) (by decide)) (g := (mkF m 54 #[.val (.int x0), .val (.long x1), .second, .val (.int x2), .val (.int x3), .val (.int x4), .val (.long sq), .second, .val (.ref b69), .unset, .unset] [(.ref b69), (.int x2), (.long sq), (.int (x0 &&& (2147483647 : Int32))), (.ref b70), (.ref b70)])) rfl (by rw [hml]; rfl) (Steps.refl _) (a := b70) (argsL := [(.int (x0 &&& (2147483647 : Int32))), (.long sq), (.int x2), (.ref b69)]) (rest := [(.ref b70)]) (lenOf pd_2 rfl) rfl (by show 2 * 0 + _ ≤ _; exact Nat.le_of_eq rfl) (hb hby at_54) (fun _ _ => ⟨rfl, e70, (by decide : 2 + 2 ≤ _), (by decide : 11 + 32 ≤ _)⟩)
    dsimp only [Pt.U, Pt.locs, Pt.cells, Pt.slots] at X76 l76 y76 z76 st76 hQ76 hSb76 hgb76
    subst l76 y76 z76
    obtain ⟨X76, hS76, hZ76, hown76⟩ := rebS hS0 hk70 X76 hSb76 (by rw [← e70]; exact hgb76) hZ hown
    obtain ⟨rfl, N76q, Kc76, Ec76, FS76⟩ := hQ76
    have V_77 := V_71.keep Kc76 (ninS ne_b69_b70 nin0)
    have E_78 := A70.keep Kc76
    have N76 := Fr.app N0 N76q
    have Z76 : n0 ≤ T76.heap.size := Nat.le_trans Z70 Kc76.1
    have K76 : Keep h0 T76.heap [] := K70.trans Kc76 (allS (Or.inr sz_b70) all0)
    refine GlW.st (g' := (mkF m 57 #[.val (.int x0), .val (.long x1), .second, .val (.int x2), .val (.int x3), .val (.int x4), .val (.long sq), .second, .val (.ref b69), .unset, .unset] [(.ref b70)])) (fun τ κ => st76.trans κ) ?_
    refine GlW.st (g' := (mkF m 59 #[.val (.int x0), .val (.long x1), .second, .val (.int x2), .val (.int x3), .val (.int x4), .val (.long sq), .second, .val (.ref b69), .val (.ref b70), .unset] [])) (fun τ κ => XS.astore X76.here hx rfl (hb hby at_57) rfl rfl (l' := #[.val (.int x0), .val (.long x1), .second, .val (.int x2), .val (.int x3), .val (.int x4), .val (.long sq), .second, .val (.ref b69), .val (.ref b70), .unset]) rfl κ) ?_
    refine GlW.st (g' := (mkF m 61 #[.val (.int x0), .val (.long x1), .second, .val (.int x2), .val (.int x3), .val (.int x4), .val (.long sq), .second, .val (.ref b69), .val (.ref b70), .unset] [(.long sq)])) (fun τ κ => XS.lload X76.here hx rfl (hb hby at_59) rfl κ) ?_
    refine GlW.st (g' := (mkF m 63 #[.val (.int x0), .val (.long x1), .second, .val (.int x2), .val (.int x3), .val (.int x4), .val (.long sq), .second, .val (.ref b69), .val (.ref b70), .unset] [(.int (62 : Int32)), (.long sq)])) (fun τ κ => XS.bipush X76.here hx rfl (hb hby at_61) κ) ?_
    refine GlW.st (g' := (mkF m 64 #[.val (.int x0), .val (.long x1), .second, .val (.int x2), .val (.int x3), .val (.int x4), .val (.long sq), .second, .val (.ref b69), .val (.ref b70), .unset] [(.long ((sq.toUInt64 >>> ((62 : Int32) &&& 0x3f).toInt64.toUInt64).toInt64))])) (fun τ κ => XS.lushr X76.here hx rfl (hb hby at_63) rfl κ) ?_
    refine GlW.st (g' := (mkF m 65 #[.val (.int x0), .val (.long x1), .second, .val (.int x2), .val (.int x3), .val (.int x4), .val (.long sq), .second, .val (.ref b69), .val (.ref b70), .unset] [(.long (1 : Int64)), (.long ((sq.toUInt64 >>> ((62 : Int32) &&& 0x3f).toInt64.toUInt64).toInt64))])) (fun τ κ => XS.lconst X76.here hx rfl (hb hby at_64) κ) ?_
    refine GlW.st (g' := (mkF m 66 #[.val (.int x0), .val (.long x1), .second, .val (.int x2), .val (.int x3), .val (.int x4), .val (.long sq), .second, .val (.ref b69), .val (.ref b70), .unset] [(.long (((sq.toUInt64 >>> ((62 : Int32) &&& 0x3f).toInt64.toUInt64).toInt64) &&& (1 : Int64)))])) (fun τ κ => XS.land X76.here hx rfl (hb hby at_65) rfl κ) ?_
    refine GlW.st (g' := (mkF m 66 #[.val (.int x0), .val (.long x1), .second, .val (.int x2), .val (.int x3), .val (.int x4), .val (.long sq), .second, .val (.ref b69), .val (.ref b70), .unset] [(.long (own_top sq))])) (fun τ κ => κ) ?_
    refine GlW.st (g' := (mkF m 67 #[.val (.int x0), .val (.long x1), .second, .val (.int x2), .val (.int x3), .val (.int x4), .val (.long sq), .second, .val (.ref b69), .val (.ref b70), .unset] [(.long (1 : Int64)), (.long (own_top sq))])) (fun τ κ => XS.lconst X76.here hx rfl (hb hby at_66) κ) ?_
    refine GlW.st (g' := (mkF m 68 #[.val (.int x0), .val (.long x1), .second, .val (.int x2), .val (.int x3), .val (.int x4), .val (.long sq), .second, .val (.ref b69), .val (.ref b70), .unset] [(.int (lcmpW (own_top sq) (1 : Int64)))])) (fun τ κ => XS.lcmp X76.here hx rfl (hb hby at_67) rfl κ) ?_
    by_cases hc83 : (own_top sq) = (1 : Int64)
    · -- pc 68: (own_top sq) = (1 : Int64)
      refine GlW.st (g' := (mkF m 71 #[.val (.int x0), .val (.long x1), .second, .val (.int x2), .val (.int x3), .val (.int x4), .val (.long sq), .second, .val (.ref b69), .val (.ref b70), .unset] [])) (fun τ κ => XS.ifNo X76.here hx rfl (hb hby at_68) rfl ((if0 _ _).trans (teq ((lw_eq (own_top sq) (1 : Int64)).mpr hc83)).2) κ) ?_
      refine GlW.st (g' := (mkF m 72 #[.val (.int x0), .val (.long x1), .second, .val (.int x2), .val (.int x3), .val (.int x4), .val (.long sq), .second, .val (.ref b69), .val (.ref b70), .unset] [(.int (1 : Int32))])) (fun τ κ => XS.iconst X76.here hx rfl (hb hby at_71) κ) ?_
      refine GlW.st (g' := (mkF m 76 #[.val (.int x0), .val (.long x1), .second, .val (.int x2), .val (.int x3), .val (.int x4), .val (.long sq), .second, .val (.ref b69), .val (.ref b70), .unset] [(.int (1 : Int32))])) (fun τ κ => XS.goto X76.here hx rfl (pc0 := 72) (pc' := 76) rfl (hb hby at_72) (by decide) (by decide) κ) ?_
      refine GlW.st (g' := (mkF m 78 #[.val (.int x0), .val (.long x1), .second, .val (.int x2), .val (.int x3), .val (.int x4), .val (.long sq), .second, .val (.ref b69), .val (.ref b70), .val (.int (1 : Int32))] [])) (fun τ κ => XS.istore X76.here hx rfl (hb hby at_76) rfl (l' := #[.val (.int x0), .val (.long x1), .second, .val (.int x2), .val (.int x3), .val (.int x4), .val (.long sq), .second, .val (.ref b69), .val (.ref b70), .val (.int (1 : Int32))]) rfl κ) ?_
      refine GlW.st (g' := (mkF m 80 #[.val (.int x0), .val (.long x1), .second, .val (.int x2), .val (.int x3), .val (.int x4), .val (.long sq), .second, .val (.ref b69), .val (.ref b70), .val (.int (1 : Int32))] [(.ref b70)])) (fun τ κ => XS.aload X76.here hx rfl (hb hby at_78) rfl rfl κ) ?_
      obtain ⟨cq84, kq84, q84a, q84b, q84c⟩ := isOf hZ76 rfl Ec76
      obtain ⟨rv84, _, ⟨T84, L84, k84, n84⟩, -, X84, ⟨Lc84, hQ84, l84, y84, z84⟩, st84⟩ := X76.virtualBack hx (y := (⟨"org/precedence/Message", "isControl", "()Z"⟩ : MethodName)) (z := (⟨"org/precedence/Message", "isControl", "()Z"⟩ : MethodName)) hown76 (mvT hZ76 (hw _ (List.mem_of_getElem? (i := 37) rfl))) (mvT hZ76 (hw _ (List.mem_of_getElem? (i := 38) rfl))) (notFace_of_selects (args := #[]) (mvT hZ76 (hw _ (List.mem_of_getElem? (i := 40) rfl)))) (mvT hZ76 (hw _ (List.mem_of_getElem? (i := 40) rfl))) (mvT hZ76 (hw _ (List.mem_of_getElem? (i := 39) rfl))) (by decide) (backOf (W := 0) (rm5 l Z a0 hw [] b70 sq T76.heap n0 Z76 FS76) hZ76 (hw _ (List.mem_of_getElem? (i := 41) rfl)) (hw _ (List.mem_of_getElem? (i := 4) rfl)) (by decide) (by decide)) q84a q84c (g := (mkF m 80 #[.val (.int x0), .val (.long x1), .second, .val (.int x2), .val (.int x3), .val (.int x4), .val (.long sq), .second, .val (.ref b69), .val (.ref b70), .val (.int (1 : Int32))] [(.ref b70)])) rfl (by rw [hml]; rfl) (Steps.refl _) (argsL := []) (rest := []) (lenOf pd_3 rfl) rfl (by show 2 * 0 + _ ≤ _; exact Nat.le_of_eq rfl) (hb hby at_80) (fun _ _ => ⟨rfl, rfl, (by decide : 4 + 0 ≤ _), (by decide : 43 + 0 ≤ _)⟩)
      dsimp only [Pt.U, Pt.locs, Pt.cells, Pt.slots] at X84 l84 y84 z84 st84 hQ84
      subst l84 y84 z84
      obtain ⟨rfl, N84q, e84⟩ := hQ84
      have N84 := Fr.app N76 N84q
      refine GlW.st (g' := (mkF m 83 #[.val (.int x0), .val (.long x1), .second, .val (.int x2), .val (.int x3), .val (.int x4), .val (.long sq), .second, .val (.ref b69), .val (.ref b70), .val (.int (1 : Int32))] [(.int (own_ctl sq))])) (fun τ κ => st84.trans κ) ?_
      refine GlW.st (g' := (mkF m 85 #[.val (.int x0), .val (.long x1), .second, .val (.int x2), .val (.int x3), .val (.int x4), .val (.long sq), .second, .val (.ref b69), .val (.ref b70), .val (.int (1 : Int32))] [(.int (1 : Int32)), (.int (own_ctl sq))])) (fun τ κ => XS.iload X84.here hx rfl (hb hby at_83) rfl κ) ?_
      have hc85 : (own_ctl sq) = (1 : Int32) := own_y hsq hc83
      refine GlW.st (g' := (mkF m 88 #[.val (.int x0), .val (.long x1), .second, .val (.int x2), .val (.int x3), .val (.int x4), .val (.long sq), .second, .val (.ref b69), .val (.ref b70), .val (.int (1 : Int32))] [])) (fun τ κ => XS.icmpNo X84.here hx rfl (hb hby at_85) rfl (teq hc85).2 κ) ?_
      refine GlW.st (g' := (mkF m 89 #[.val (.int x0), .val (.long x1), .second, .val (.int x2), .val (.int x3), .val (.int x4), .val (.long sq), .second, .val (.ref b69), .val (.ref b70), .val (.int (1 : Int32))] [(.int (1 : Int32))])) (fun τ κ => XS.iconst X84.here hx rfl (hb hby at_88) κ) ?_
      refine GlW.st (g' := (mkF m 93 #[.val (.int x0), .val (.long x1), .second, .val (.int x2), .val (.int x3), .val (.int x4), .val (.long sq), .second, .val (.ref b69), .val (.ref b70), .val (.int (1 : Int32))] [(.int (1 : Int32))])) (fun τ κ => XS.goto X84.here hx rfl (pc0 := 89) (pc' := 93) rfl (hb hby at_89) (by decide) (by decide) κ) ?_
      exact GlW.ret hS76 (Nat.le_refl _) (v := some (.int (1 : Int32))) X84 Bd.notSynchronized (fun h => by rw [Bd.returns] at h; cases h) e84 (fun fs hr => retN X84 hx (t := .boolean) Bd.returns (by simp) (hb hby at_93) hr) (by decide) (by decide) ⟨rfl, N84⟩
    · -- pc 68: not (own_top sq) = (1 : Int64)
      refine GlW.st (g' := (mkF m 75 #[.val (.int x0), .val (.long x1), .second, .val (.int x2), .val (.int x3), .val (.int x4), .val (.long sq), .second, .val (.ref b69), .val (.ref b70), .unset] [])) (fun τ κ => XS.ifYes X76.here hx rfl (pc0 := 68) (pc' := 75) rfl (hb hby at_68) rfl ((if0 _ _).trans (feq (mt (lw_eq (own_top sq) (1 : Int64)).mp hc83)).2) (by decide) (by decide) κ) ?_
      refine GlW.st (g' := (mkF m 76 #[.val (.int x0), .val (.long x1), .second, .val (.int x2), .val (.int x3), .val (.int x4), .val (.long sq), .second, .val (.ref b69), .val (.ref b70), .unset] [(.int (0 : Int32))])) (fun τ κ => XS.iconst X76.here hx rfl (hb hby at_75) κ) ?_
      refine GlW.st (g' := (mkF m 78 #[.val (.int x0), .val (.long x1), .second, .val (.int x2), .val (.int x3), .val (.int x4), .val (.long sq), .second, .val (.ref b69), .val (.ref b70), .val (.int (0 : Int32))] [])) (fun τ κ => XS.istore X76.here hx rfl (hb hby at_76) rfl (l' := #[.val (.int x0), .val (.long x1), .second, .val (.int x2), .val (.int x3), .val (.int x4), .val (.long sq), .second, .val (.ref b69), .val (.ref b70), .val (.int (0 : Int32))]) rfl κ) ?_
      refine GlW.st (g' := (mkF m 80 #[.val (.int x0), .val (.long x1), .second, .val (.int x2), .val (.int x3), .val (.int x4), .val (.long sq), .second, .val (.ref b69), .val (.ref b70), .val (.int (0 : Int32))] [(.ref b70)])) (fun τ κ => XS.aload X76.here hx rfl (hb hby at_78) rfl rfl κ) ?_
      obtain ⟨cq86, kq86, q86a, q86b, q86c⟩ := isOf hZ76 rfl Ec76
      obtain ⟨rv86, _, ⟨T86, L86, k86, n86⟩, -, X86, ⟨Lc86, hQ86, l86, y86, z86⟩, st86⟩ := X76.virtualBack hx (y := (⟨"org/precedence/Message", "isControl", "()Z"⟩ : MethodName)) (z := (⟨"org/precedence/Message", "isControl", "()Z"⟩ : MethodName)) hown76 (mvT hZ76 (hw _ (List.mem_of_getElem? (i := 37) rfl))) (mvT hZ76 (hw _ (List.mem_of_getElem? (i := 38) rfl))) (notFace_of_selects (args := #[]) (mvT hZ76 (hw _ (List.mem_of_getElem? (i := 40) rfl)))) (mvT hZ76 (hw _ (List.mem_of_getElem? (i := 40) rfl))) (mvT hZ76 (hw _ (List.mem_of_getElem? (i := 39) rfl))) (by decide) (backOf (W := 0) (rm5 l Z a0 hw [] b70 sq T76.heap n0 Z76 FS76) hZ76 (hw _ (List.mem_of_getElem? (i := 41) rfl)) (hw _ (List.mem_of_getElem? (i := 4) rfl)) (by decide) (by decide)) q86a q86c (g := (mkF m 80 #[.val (.int x0), .val (.long x1), .second, .val (.int x2), .val (.int x3), .val (.int x4), .val (.long sq), .second, .val (.ref b69), .val (.ref b70), .val (.int (0 : Int32))] [(.ref b70)])) rfl (by rw [hml]; rfl) (Steps.refl _) (argsL := []) (rest := []) (lenOf pd_3 rfl) rfl (by show 2 * 0 + _ ≤ _; exact Nat.le_of_eq rfl) (hb hby at_80) (fun _ _ => ⟨rfl, rfl, (by decide : 4 + 0 ≤ _), (by decide : 43 + 0 ≤ _)⟩)
      dsimp only [Pt.U, Pt.locs, Pt.cells, Pt.slots] at X86 l86 y86 z86 st86 hQ86
      subst l86 y86 z86
      obtain ⟨rfl, N86q, e86⟩ := hQ86
      have N86 := Fr.app N76 N86q
      refine GlW.st (g' := (mkF m 83 #[.val (.int x0), .val (.long x1), .second, .val (.int x2), .val (.int x3), .val (.int x4), .val (.long sq), .second, .val (.ref b69), .val (.ref b70), .val (.int (0 : Int32))] [(.int (own_ctl sq))])) (fun τ κ => st86.trans κ) ?_
      refine GlW.st (g' := (mkF m 85 #[.val (.int x0), .val (.long x1), .second, .val (.int x2), .val (.int x3), .val (.int x4), .val (.long sq), .second, .val (.ref b69), .val (.ref b70), .val (.int (0 : Int32))] [(.int (0 : Int32)), (.int (own_ctl sq))])) (fun τ κ => XS.iload X86.here hx rfl (hb hby at_83) rfl κ) ?_
      have hc87 : (own_ctl sq) = (0 : Int32) := own_n hsq hc83
      refine GlW.st (g' := (mkF m 88 #[.val (.int x0), .val (.long x1), .second, .val (.int x2), .val (.int x3), .val (.int x4), .val (.long sq), .second, .val (.ref b69), .val (.ref b70), .val (.int (0 : Int32))] [])) (fun τ κ => XS.icmpNo X86.here hx rfl (hb hby at_85) rfl (teq hc87).2 κ) ?_
      refine GlW.st (g' := (mkF m 89 #[.val (.int x0), .val (.long x1), .second, .val (.int x2), .val (.int x3), .val (.int x4), .val (.long sq), .second, .val (.ref b69), .val (.ref b70), .val (.int (0 : Int32))] [(.int (1 : Int32))])) (fun τ κ => XS.iconst X86.here hx rfl (hb hby at_88) κ) ?_
      refine GlW.st (g' := (mkF m 93 #[.val (.int x0), .val (.long x1), .second, .val (.int x2), .val (.int x3), .val (.int x4), .val (.long sq), .second, .val (.ref b69), .val (.ref b70), .val (.int (0 : Int32))] [(.int (1 : Int32))])) (fun τ κ => XS.goto X86.here hx rfl (pc0 := 89) (pc' := 93) rfl (hb hby at_89) (by decide) (by decide) κ) ?_
      exact GlW.ret hS76 (Nat.le_refl _) (v := some (.int (1 : Int32))) X86 Bd.notSynchronized (fun h => by rw [Bd.returns] at h; cases h) e86 (fun fs hr => retN X86 hx (t := .boolean) Bd.returns (by simp) (hb hby at_93) hr) (by decide) (by decide) ⟨rfl, N86⟩
set_option maxRecDepth 65536 in
set_option maxHeartbeats 40000000 in
theorem comes_1 {Post : Tables → Env → Array Value → State → Outcome → State → Prop} (hpost : ∀ tb e args s v u, (limb_1_1.after args s (.returned v) u = true ∧ limb_1_2.after args s (.returned v) u = true ∧ True) → ReturnedEndW s (.returned v) u (Jvm.fieldLocs frame_1_writes args s ++ Jvm.arrayLocs frame_1_arrays args s ++ Jvm.staticLocs frame_1_statics s) 16 1152 → Post tb e args s (.returned v) u) :
    ArmFor flags0 classFile x code maxLocals ret World_1 tables_1 room_1 Calls_1 rest_1 Pre_1 Post := by
  intro l hfl _ _ p e ha hc hk s m args below hf hA hF happ hP
  obtain ⟨hcalls, hrest, hpre⟩ := hP
  obtain ⟨-, -, -, hnamed, -, -, -, hat⟩ := (Spec.applies_iff hf).mp happ
  obtain ⟨hg, hn⟩ := and_e (Cond.before_iff.mp (show (Jvm.Cond.and given_1 narrow_1).before args s = true from hpre))
  obtain ⟨hcount, hg0⟩ := and_e hg
  obtain ⟨gi0, hg1⟩ := and_e hg0
  obtain ⟨gi1, hg2⟩ := and_e hg1
  obtain ⟨gi2, hg3⟩ := and_e hg2
  obtain ⟨gi3, hg4⟩ := and_e hg3
  have gi4 := hg4
  obtain ⟨w0, w1, w2, w3, w4, rfl⟩ : ∃ w0 w1 w2 w3 w4 : Value, args = #[w0, w1, w2, w3, w4] := by
    have hs : args.size = 5 := by simpa [Cond.value, given_1] using hcount
    obtain ⟨L⟩ := args
    match L, hs with
    | [w0, w1, w2, w3, w4], _ => exact ⟨w0, w1, w2, w3, w4, rfl⟩
  have hw := fun d (hd : d ∈ tables_1) => atoms_spec (ws := Jvm.Cond.code x code maxLocals ret :: tables_1) hat d (List.mem_cons_of_mem _ hd)
  obtain ⟨i0, ei0⟩ := is_v gi0
  obtain rfl : w0 = (.int i0) := Option.some.inj ei0
  obtain ⟨i1, ei1⟩ := isL_v gi1
  obtain rfl : w1 = (.long i1) := Option.some.inj ei1
  obtain ⟨i2, ei2⟩ := is_v gi2
  obtain rfl : w2 = (.int i2) := Option.some.inj ei2
  obtain ⟨i3, ei3⟩ := is_v gi3
  obtain rfl : w3 = (.int i3) := Option.some.inj ei3
  obtain ⟨i4, ei4⟩ := is_v gi4
  obtain rfl : w4 = (.int i4) := Option.some.inj ei4
  obtain ⟨n, o, h1, h2, h3, _, L, rfl, ⟨rfl, N⟩, hq⟩ := rm0 l s _ hw tables_1 i0 i1 i2 i3 i4  s.heap s.heap.size (Nat.le_refl _)  p e ha hc hk s m _ below hf ((Spec.applies_iff_loose hf).mp happ).1 ⟨rfl, State.Warmed39.refl s, rfl⟩ trivial
  refine ⟨n, _, h1, h2, h3, hpost _ _ _ _ _ _ ⟨Cond.after_iff.mpr rfl, Cond.after_iff.mpr (eq_i res_at (Term.int_eval (1)) rfl), trivial⟩ ⟨hq.1, hq.2.1, hq.2.2.1, (hq.2.2.2.sift fun y hy => Or.inr (N y hy)).mono (by decide) (by decide)⟩⟩
theorem main_1_1 : Claimed_1_1 := comes_1 fun _ _ _ _ _ _ h hF => ⟨h.1, hF⟩
theorem main_1_2 : Claimed_1_2 := comes_1 fun _ _ _ _ _ _ h hF => ⟨h.2.1, hF⟩
end Jvm.Pilot.@@N@@
namespace Jvm.Pilot.@@N@@
open Jvm Jvm.ClassFile Sem Op Lib Jvm.Free Jvm.Stand Jvm.Pilot.@@N@@.Jvm.D
/-! MADE BY PROGRAM (witnessworld.py) out of the Statement's table words and the real class files: 16 classes; the members and pool entries that the words name. The judged class is class 1, her method 1. -/
namespace start1
open Jvm.ClassFile
def u (s : String) : CpInfo := .utf8 (stringToUtf16 s)
/-- a pool by its gaps: so many unusable entries, then the entry; so many at the end -/
def gap : Nat → List CpInfo → List CpInfo
  | 0, r => r
  | n + 1, r => .unusable :: gap n r
def poolList (es : List (Nat × CpInfo)) (last : Nat) : List CpInfo := es.foldr (fun e r => gap e.1 (e.2 :: r)) (gap last [])
def pool (es : List (Nat × CpInfo)) (last : Nat) : Array CpInfo := ⟨poolList es last⟩
def fileOf (pool : Array CpInfo) (this : Nat) (attrs : Array Attribute := #[]) (ms : Array MethodInfo := #[]) (fl : Nat := 33) (sup : Nat := 0) (ifs : Array Nat := #[]) (fds : Array FieldInfo := #[]) : ClassFile where
  minorVersion := 0
  majorVersion := 65
  constantPool := pool
  accessFlags := fl
  thisClass := this
  superClass := sup
  interfaces := ifs
  fields := fds
  methods := ms
  attributes := attrs
def plain (name : String) (sup : Option ClassId) : Class where
  name := name
  kind := .ordinary
  loader := none
  accessFlags := 33
  super := sup
  interfaces := #[]
  cf := none
  fields := #[]
  methods := #[]
  instanceTypes := #[]
  staticTypes := #[]
  resolved := #[]
  callSites := []
  init := .initialized
  statics := none
  mirror := none

def pool0 : Array CpInfo := pool [(5, u "<init>"), (0, u "()V"), (1, .class_ 10), (1, u "java/lang/Object")] 113

def k0c0 : Code := { maxStack := 0, maxLocals := 1, code := object_method_1_code, exceptionTable := #[], attributes := #[] }
def k0m0 : Method := { name := "<init>", desc := "()V", sig := { parameters := [], returnType := none }, accessFlags := 1, code := some k0c0 }
/-- java/lang/Object -/
def k0 : Class := { plain "java/lang/Object" none with
  accessFlags := 33
  interfaces := #[]
  cf := some (fileOf pool0 8 #[] #[{ accessFlags := 1, nameIndex := 5, descriptorIndex := 6, attributes := #[] }] 33 0 #[] #[])
  fields := #[]
  methods := #[k0m0]
  instanceTypes := #[]
  staticTypes := #[]
  resolved := Array.replicate 124 none
  statics := none }

def pool1 : Array CpInfo := pool [(2, .class_ 4), (1, u "java/lang/Object"), (0, u "<init>"), (0, u "()V"), (0, .long 4611686018427387904), (3, .long 9223372036854775807), (1, .class_ 14), (0, u "org/precedence/Message"), (0, .integer 2147483647), (0, .methodref 13 17), (0, .nameAndType 5 18), (0, u "(IJI[B)V"), (0, .methodref 13 20), (0, .nameAndType 21 22), (0, u "isControl"), (0, u "()Z"), (0, .class_ 24), (0, u "org/precedence/MessageIsControlPinLaw"), (2, u "law"), (0, u "(IJIII)Z")] 5

def k1m0 : Method := { name := "<init>", desc := "()V", sig := { parameters := [], returnType := none }, accessFlags := 1, code := none }
def k1c1 : Code := { maxStack := 7, maxLocals := 11, code := code, exceptionTable := #[], attributes := #[] }
def k1m1 : Method := { name := "law", desc := "(IJIII)Z", sig := { parameters := [.int, .long, .int, .int, .int], returnType := some .boolean }, accessFlags := 9, code := some k1c1 }
/-- org/precedence/MessageIsControlPinLaw -/
def k1 : Class := { plain "org/precedence/MessageIsControlPinLaw" (some 0) with
  accessFlags := 49
  interfaces := #[]
  cf := some (fileOf pool1 23 #[] #[{ accessFlags := 1, nameIndex := 5, descriptorIndex := 6, attributes := #[] }, { accessFlags := 9, nameIndex := 27, descriptorIndex := 28, attributes := #[] }] 49 2 #[] #[])
  fields := #[]
  methods := #[k1m0, k1m1]
  instanceTypes := #[]
  staticTypes := #[]
  resolved := Array.replicate 34 none
  statics := none }

def pool2 : Array CpInfo := pool [(1, .methodref 2 3), (0, .class_ 4), (0, .nameAndType 5 6), (0, u "java/lang/Object"), (0, u "<init>"), (0, u "()V"), (0, .class_ 8), (0, u "java/lang/Record")] 13

def k2c0 : Code := { maxStack := 1, maxLocals := 1, code := jdk_30_method_1_code, exceptionTable := #[], attributes := #[] }
def k2m0 : Method := { name := "<init>", desc := "()V", sig := { parameters := [], returnType := none }, accessFlags := 4, code := some k2c0 }
/-- java/lang/Record -/
def k2 : Class := { plain "java/lang/Record" (some 0) with
  accessFlags := 1057
  interfaces := #[]
  cf := some (fileOf pool2 7 #[] #[{ accessFlags := 4, nameIndex := 5, descriptorIndex := 6, attributes := #[] }] 1057 2 #[] #[])
  fields := #[]
  methods := #[k2m0]
  instanceTypes := #[]
  staticTypes := #[]
  resolved := Array.replicate 22 none
  statics := none }

def pool3 : Array CpInfo := pool [(1, .fieldref 2 3), (0, .class_ 4), (0, .nameAndType 5 6), (0, u "org/precedence/Message"), (0, u "sequence"), (0, u "J"), (0, .long 4611686018427387904), (1, .methodref 10 11), (0, .class_ 12), (0, .nameAndType 13 14), (0, u "java/lang/Record"), (0, u "<init>"), (0, u "()V"), (12, .string 28), (0, u "payload"), (0, .methodref 30 31), (0, .class_ 32), (0, .nameAndType 33 34), (0, u "java/util/Objects"), (0, u "requireNonNull"), (0, u "(Ljava/lang/Object;Ljava/lang/String;)Ljava/lang/Object;"), (0, .integer 65536), (1, .fieldref 2 38), (0, .nameAndType 39 40), (0, u "origin"), (0, u "I"), (0, .fieldref 2 42), (0, .nameAndType 43 40), (0, u "priority"), (0, .fieldref 2 45), (0, .nameAndType 28 46), (0, u "[B"), (12, .class_ 60), (0, u "org/precedence/Message$1"), (3, u "MOST_URGENT_FIRST"), (0, u "Ljava/util/Comparator;"), (0, u "MAX_PAYLOAD"), (1, u "FIRST_CONTROL_SEQUENCE"), (2, u "(IJI[B)V"), (5, u "isControl"), (0, u "()Z")] 42

def k3c0 : Code := { maxStack := 4, maxLocals := 6, code := prog_21_method_1_code, exceptionTable := #[], attributes := #[] }
def k3m0 : Method := { name := "<init>", desc := "(IJI[B)V", sig := { parameters := [.int, .long, .int, (.array .byte)], returnType := none }, accessFlags := 1, code := some k3c0 }
def k3c1 : Code := { maxStack := 4, maxLocals := 1, code := prog_21_method_2_code, exceptionTable := #[], attributes := #[] }
def k3m1 : Method := { name := "isControl", desc := "()Z", sig := { parameters := [], returnType := some .boolean }, accessFlags := 0, code := some k3c1 }
/-- org/precedence/Message -/
def k3 : Class := { plain "org/precedence/Message" (some 2) with
  accessFlags := 49
  interfaces := #[]
  cf := some (fileOf pool3 2 #[.nestMembers #[59]] #[{ accessFlags := 1, nameIndex := 13, descriptorIndex := 71, attributes := #[] }, { accessFlags := 0, nameIndex := 77, descriptorIndex := 78, attributes := #[] }] 49 10 #[] #[{ accessFlags := 18, nameIndex := 39, descriptorIndex := 40, attributes := #[] }, { accessFlags := 18, nameIndex := 5, descriptorIndex := 6, attributes := #[] }, { accessFlags := 18, nameIndex := 43, descriptorIndex := 40, attributes := #[] }, { accessFlags := 18, nameIndex := 28, descriptorIndex := 46, attributes := #[] }, { accessFlags := 25, nameIndex := 66, descriptorIndex := 40, attributes := #[] }, { accessFlags := 24, nameIndex := 68, descriptorIndex := 6, attributes := #[] }, { accessFlags := 24, nameIndex := 64, descriptorIndex := 65, attributes := #[] }])
  fields := #[{ name := "origin", type := .int, accessFlags := 18, slot := 0, constantValue := 0 }, { name := "sequence", type := .long, accessFlags := 18, slot := 1, constantValue := 0 }, { name := "priority", type := .int, accessFlags := 18, slot := 2, constantValue := 0 }, { name := "payload", type := (.array .byte), accessFlags := 18, slot := 3, constantValue := 0 }, { name := "MAX_PAYLOAD", type := .int, accessFlags := 25, slot := 0, constantValue := 0 }, { name := "FIRST_CONTROL_SEQUENCE", type := .long, accessFlags := 24, slot := 1, constantValue := 0 }, { name := "MOST_URGENT_FIRST", type := (.object "java/util/Comparator"), accessFlags := 24, slot := 2, constantValue := 0 }]
  methods := #[k3m0, k3m1]
  instanceTypes := #[.int, .long, .int, (.array .byte)]
  staticTypes := #[.int, .long, (.object "java/util/Comparator")]
  resolved := Array.replicate 121 none
  statics := none }

def pool4 : Array CpInfo := pool [(1, .class_ 2), (0, u "java/io/Serializable"), (0, .class_ 4), (0, u "java/lang/Object")] 2

/-- java/io/Serializable -/
def k4 : Class := { plain "java/io/Serializable" (some 0) with
  accessFlags := 1537
  interfaces := #[]
  cf := some (fileOf pool4 1 #[] #[] 1537 3 #[] #[])
  fields := #[]
  methods := #[]
  instanceTypes := #[]
  staticTypes := #[]
  resolved := Array.replicate 7 none
  statics := none }

def pool5 : Array CpInfo := pool [(1, .class_ 2), (0, u "java/lang/Comparable"), (0, .class_ 4), (0, u "java/lang/Object")] 7

/-- java/lang/Comparable -/
def k5 : Class := { plain "java/lang/Comparable" (some 0) with
  accessFlags := 1537
  interfaces := #[]
  cf := some (fileOf pool5 1 #[] #[] 1537 3 #[] #[])
  fields := #[]
  methods := #[]
  instanceTypes := #[]
  staticTypes := #[]
  resolved := Array.replicate 12 none
  statics := none }

def pool6 : Array CpInfo := pool [(2, .class_ 4), (1, u "java/lang/CharSequence"), (42, .class_ 48), (0, u "java/lang/CharSequence$1CodePointIterator"), (10, .class_ 60), (0, u "java/lang/CharSequence$1CharIterator"), (5, .class_ 67), (0, u "java/lang/Object")] 63

/-- java/lang/CharSequence -/
def k6 : Class := { plain "java/lang/CharSequence" (some 0) with
  accessFlags := 1537
  interfaces := #[]
  cf := some (fileOf pool6 2 #[.nestMembers #[47, 59]] #[] 1537 66 #[] #[])
  fields := #[]
  methods := #[]
  instanceTypes := #[]
  staticTypes := #[]
  resolved := Array.replicate 131 none
  statics := none }

def pool7 : Array CpInfo := pool [(1, .class_ 2), (0, u "java/lang/constant/Constable"), (0, .class_ 4), (0, u "java/lang/Object")] 6

/-- java/lang/constant/Constable -/
def k7 : Class := { plain "java/lang/constant/Constable" (some 0) with
  accessFlags := 1537
  interfaces := #[]
  cf := some (fileOf pool7 1 #[] #[] 1537 3 #[] #[])
  fields := #[]
  methods := #[]
  instanceTypes := #[]
  staticTypes := #[]
  resolved := Array.replicate 11 none
  statics := none }

def pool8 : Array CpInfo := pool [(1, .class_ 2), (0, u "java/lang/constant/ConstantDesc"), (0, .class_ 4), (0, u "java/lang/Object")] 32

/-- java/lang/constant/ConstantDesc -/
def k8 : Class := { plain "java/lang/constant/ConstantDesc" (some 0) with
  accessFlags := 1537
  interfaces := #[]
  cf := some (fileOf pool8 1 #[] #[] 1537 3 #[] #[])
  fields := #[]
  methods := #[]
  instanceTypes := #[]
  staticTypes := #[]
  resolved := Array.replicate 37 none
  statics := none }

def pool9 : Array CpInfo := pool [(2, .class_ 4), (1, u "java/lang/Object"), (0, u "<init>"), (0, u "()V"), (3, .class_ 12), (1, u "java/lang/String"), (0, u "value"), (0, u "[B"), (2, u "coder"), (0, u "B"), (2, u "hash"), (0, u "I"), (2, u "hashIsZero"), (0, u "Z"), (13, u "COMPACT_STRINGS"), (534, .class_ 576), (0, u "java/lang/CharSequence"), (22, u "CASE_INSENSITIVE_ORDER"), (0, u "Ljava/util/Comparator;"), (500, u "serialPersistentFields"), (0, u "[Ljava/io/ObjectStreamField;"), (0, .class_ 1104), (0, u "java/lang/String$CaseInsensitiveComparator"), (1, .class_ 1107), (0, u "java/io/Serializable"), (0, .class_ 1109), (0, u "java/lang/Comparable"), (0, .class_ 1111), (0, u "java/lang/constant/Constable"), (0, .class_ 1113), (0, u "java/lang/constant/ConstantDesc"), (2, u "serialVersionUID"), (0, u "J"), (3, u "REPL"), (0, u "C"), (2, u "LATIN1"), (1, u "UTF16")] 323

def k9m0 : Method := { name := "<init>", desc := "()V", sig := { parameters := [], returnType := none }, accessFlags := 1, code := none }
/-- java/lang/String -/
def k9 : Class := { plain "java/lang/String" (some 0) with
  accessFlags := 49
  interfaces := #[4, 5, 6, 7, 8]
  cf := some (fileOf pool9 10 #[.nestMembers #[1103]] #[{ accessFlags := 1, nameIndex := 5, descriptorIndex := 6, attributes := #[] }] 49 2 #[1106, 1108, 575, 1110, 1112] #[{ accessFlags := 18, nameIndex := 13, descriptorIndex := 14, attributes := #[] }, { accessFlags := 18, nameIndex := 17, descriptorIndex := 18, attributes := #[] }, { accessFlags := 2, nameIndex := 21, descriptorIndex := 22, attributes := #[] }, { accessFlags := 2, nameIndex := 25, descriptorIndex := 26, attributes := #[] }, { accessFlags := 26, nameIndex := 1116, descriptorIndex := 1117, attributes := #[] }, { accessFlags := 24, nameIndex := 40, descriptorIndex := 26, attributes := #[] }, { accessFlags := 26, nameIndex := 1101, descriptorIndex := 1102, attributes := #[] }, { accessFlags := 26, nameIndex := 1121, descriptorIndex := 1122, attributes := #[] }, { accessFlags := 25, nameIndex := 599, descriptorIndex := 600, attributes := #[] }, { accessFlags := 24, nameIndex := 1125, descriptorIndex := 18, attributes := #[] }, { accessFlags := 24, nameIndex := 1127, descriptorIndex := 18, attributes := #[] }])
  fields := #[{ name := "value", type := (.array .byte), accessFlags := 18, slot := 0, constantValue := 0 }, { name := "coder", type := .byte, accessFlags := 18, slot := 1, constantValue := 0 }, { name := "hash", type := .int, accessFlags := 2, slot := 2, constantValue := 0 }, { name := "hashIsZero", type := .boolean, accessFlags := 2, slot := 3, constantValue := 0 }, { name := "serialVersionUID", type := .long, accessFlags := 26, slot := 0, constantValue := 0 }, { name := "COMPACT_STRINGS", type := .boolean, accessFlags := 24, slot := 1, constantValue := 0 }, { name := "serialPersistentFields", type := (.array (.object "java/io/ObjectStreamField")), accessFlags := 26, slot := 2, constantValue := 0 }, { name := "REPL", type := .char, accessFlags := 26, slot := 3, constantValue := 0 }, { name := "CASE_INSENSITIVE_ORDER", type := (.object "java/util/Comparator"), accessFlags := 25, slot := 4, constantValue := 0 }, { name := "LATIN1", type := .byte, accessFlags := 24, slot := 5, constantValue := 0 }, { name := "UTF16", type := .byte, accessFlags := 24, slot := 6, constantValue := 0 }]
  methods := #[k9m0]
  instanceTypes := #[(.array .byte), .byte, .int, .boolean]
  staticTypes := #[.long, .boolean, (.array (.object "java/io/ObjectStreamField")), .char, (.object "java/util/Comparator"), .byte, .byte]
  resolved := Array.replicate 1451 none
  statics := none }

def pool10 : Array CpInfo := pool [(2, .class_ 4), (1, u "java/lang/Object"), (0, u "<init>"), (0, u "()V"), (35, .class_ 44), (1, u "java/util/Objects"), (0, u "requireNonNull"), (48, u "(Ljava/lang/Object;Ljava/lang/String;)Ljava/lang/Object;")] 89

def k10m0 : Method := { name := "<init>", desc := "()V", sig := { parameters := [], returnType := none }, accessFlags := 2, code := none }
def k10c1 : Code := { maxStack := 3, maxLocals := 2, code := jdk_31_method_11_code, exceptionTable := #[], attributes := #[] }
def k10m1 : Method := { name := "requireNonNull", desc := "(Ljava/lang/Object;Ljava/lang/String;)Ljava/lang/Object;", sig := { parameters := [(.object "java/lang/Object"), (.object "java/lang/String")], returnType := some (.object "java/lang/Object") }, accessFlags := 9, code := some k10c1 }
/-- java/util/Objects -/
def k10 : Class := { plain "java/util/Objects" (some 0) with
  accessFlags := 49
  interfaces := #[]
  cf := some (fileOf pool10 42 #[] #[{ accessFlags := 2, nameIndex := 5, descriptorIndex := 6, attributes := #[] }, { accessFlags := 9, nameIndex := 45, descriptorIndex := 94, attributes := #[] }] 49 2 #[] #[])
  fields := #[]
  methods := #[k10m0, k10m1]
  instanceTypes := #[]
  staticTypes := #[]
  resolved := Array.replicate 184 none
  statics := none }

def pool11 : Array CpInfo := pool [(1, u "java/lang/Cloneable"), (0, .class_ 1), (0, u "java/lang/Object"), (0, .class_ 3)] 3

/-- java/lang/Cloneable -/
def k11 : Class := { plain "java/lang/Cloneable" (some 0) with
  accessFlags := 1537
  interfaces := #[]
  cf := some (fileOf pool11 2 #[] #[] 1537 4 #[] #[])
  fields := #[]
  methods := #[]
  instanceTypes := #[]
  staticTypes := #[]
  resolved := Array.replicate 8 none
  statics := none }

/-- the primitive byte -/
def k12 : Class := { plain "byte" none with kind := .primitive 'B', accessFlags := 0x411 }
/-- [B -/
def k13 : Class := { plain "[B" (some 0) with kind := .array 12 .byte, interfaces := #[11, 4], accessFlags := 1041 }

/-- the primitive int -/
def k14 : Class := { plain "int" none with kind := .primitive 'I', accessFlags := 0x411 }
/-- [I -/
def k15 : Class := { plain "[I" (some 0) with kind := .array 14 .int, interfaces := #[11, 4], accessFlags := 1041 }

def heap : Heap := #[]
def classes : Array Class := #[k0, k1, k2, k3, k4, k5, k6, k7, k8, k9, k10, k11, k12, k13, k14, k15]
def interned : List (Array UInt16 × Addr) := []
def slotsUsed : Nat := 0
def theMethod : MethodId := ⟨1, 1⟩
def args0 : Array Value := #[.int 5, .long 5, .int 5, .int 5, .int 5]
def aboutOver (below : List Frame) : State where
  vm := { classes := classes, interned := interned.toArray }
  heap := heap
  slotsUsed := slotsUsed
  threads := #[{ frames := .invoking theMethod args0 :: below }]
def below0 : List Frame := [.native { method := ⟨0, 0⟩, args := #[] }]
def about1 : State := aboutOver below0
def p0 : Program := .bare "" "" ""
def e0 : Env := launch0.env 0 0 0
theorem w_frames : about1.frames = Frame.invoking theMethod args0 :: below0 := rfl
set_option maxRecDepth 65536 in
theorem w_args : argsFit about1.vm theMethod args0 = true := by decide +kernel
set_option maxRecDepth 65536 in
theorem w_heap : heapFits about1 = true := by decide +kernel
set_option maxRecDepth 65536 in
theorem w_runnable : about1.curStatus? = some .runnable := by decide +kernel
set_option maxRecDepth 65536 in
theorem w_alone : about1.alone = true := by decide +kernel
set_option maxRecDepth 65536 in
theorem w_named : about1.methodNamed? x = some theMethod := by decide +kernel
set_option maxRecDepth 65536 in
theorem w_hears : about1.hears theMethod below0 = true := by decide +kernel
set_option maxRecDepth 65536 in
theorem w_ripe : about1.ripe theMethod args0 below0 = true := by decide +kernel
theorem w_running : about1.status = .running := rfl
set_option maxRecDepth 65536 in
theorem w_room : about1.hasRoom e0.platform room_1 = true :=
  launch0.hasRoom_least _ room_1 (by decide +kernel) (by decide +kernel) (by decide +kernel) (by decide +kernel) (by decide +kernel) (by decide +kernel)
theorem allAtoms_all (ts : List Jvm.Cond) (a : Array Jvm.Value) (st : Jvm.State) : (allAtoms ts).before a st = ts.all (fun c => c.before a st) := by
  induction ts with
  | nil => rfl
  | cons c t ih =>
    show (Jvm.Cond.and c (allAtoms t)).before a st = _
    rw [Jvm.Cond.before_and, ih, List.all_cons]
def words1 : List Jvm.Cond := Jvm.Cond.code x code maxLocals ret :: tables_1
/-- a 'code' word, met by the world's own term for the bytes: nothing is compared byte by byte -/
theorem code_word {y : MethodName} {bytes : ByteArray} {mx : Nat} {rt : Option FieldType} {a : Array Value} {s : State} {m : MethodId} {meth : Method} {c : Code} (h1 : s.methodNamed? y = some m) (h2 : s.vm.method? m = some meth) (h3 : meth.code = some c) (h4 : c.code = bytes)
    (h5 : (c.maxLocals == mx && c.exceptionTable.isEmpty && decide (c.maxStack ≤ mostOperands) && decide (meth.sig.returnType = rt) && !meth.locks && decide (parseMethodDescriptor y.desc = some meth.sig)) = true) : (Jvm.Cond.code y bytes mx rt).before a s = true := by
  simp only [Bool.and_eq_true, beq_iff_eq, Bool.not_eq_true', decide_eq_true_eq] at h5
  obtain ⟨⟨⟨⟨⟨g1, g2⟩, g3⟩, g4⟩, g5⟩, g6⟩ := h5
  simp [Cond.before, Cond.holds, Cond.value, h1, h2, h3, h4, g1, g2, g3, g4, g5, g6]
def isCode : Jvm.Cond → Bool
  | .code _ _ _ _ => true
  | _ => false
theorem all_split {L : List Jvm.Cond} {P : Jvm.Cond → Bool} (h1 : L.all (fun c => isCode c || P c) = true) (h2 : ∀ c ∈ L.filter isCode, P c = true) : L.all P = true := by
  refine List.all_eq_true.mpr fun c hc => ?_
  have h := List.all_eq_true.mp h1 c hc
  rcases Bool.eq_false_or_eq_true (isCode c) with hi | hi
  · exact h2 c (List.mem_filter.mpr ⟨hc, hi⟩)
  · simpa [hi] using h
set_option maxRecDepth 65536 in
theorem w_c0 : (Jvm.Cond.code x code maxLocals ret).before args0 about1 = true := code_word (m := ⟨1, 1⟩) (meth := k1m1) (c := k1c1) (by decide +kernel) rfl rfl rfl (by decide +kernel)
set_option maxRecDepth 65536 in
theorem w_c1 : (Jvm.Cond.code ({ cls := "org/precedence/Message", name := "<init>", desc := "(IJI[B)V" } : Jvm.MethodName) prog_21_method_1_code (6 : Nat) (Option.none : Option Jvm.ClassFile.FieldType)).before args0 about1 = true := code_word (m := ⟨3, 0⟩) (meth := k3m0) (c := k3c0) (by decide +kernel) rfl rfl rfl (by decide +kernel)
set_option maxRecDepth 65536 in
theorem w_c2 : (Jvm.Cond.code ({ cls := "java/lang/Record", name := "<init>", desc := "()V" } : Jvm.MethodName) jdk_30_method_1_code (1 : Nat) (Option.none : Option Jvm.ClassFile.FieldType)).before args0 about1 = true := code_word (m := ⟨2, 0⟩) (meth := k2m0) (c := k2c0) (by decide +kernel) rfl rfl rfl (by decide +kernel)
set_option maxRecDepth 65536 in
theorem w_c3 : (Jvm.Cond.code ({ cls := "java/lang/Object", name := "<init>", desc := "()V" } : Jvm.MethodName) object_method_1_code (1 : Nat) (Option.none : Option Jvm.ClassFile.FieldType)).before args0 about1 = true := code_word (m := ⟨0, 0⟩) (meth := k0m0) (c := k0c0) (by decide +kernel) rfl rfl rfl (by decide +kernel)
set_option maxRecDepth 65536 in
theorem w_c4 : (Jvm.Cond.code ({ cls := "java/util/Objects", name := "requireNonNull", desc := "(Ljava/lang/Object;Ljava/lang/String;)Ljava/lang/Object;" } : Jvm.MethodName) jdk_31_method_11_code (2 : Nat) (Option.some (Jvm.ClassFile.FieldType.object "java/lang/Object"))).before args0 about1 = true := code_word (m := ⟨10, 1⟩) (meth := k10m1) (c := k10c1) (by decide +kernel) rfl rfl rfl (by decide +kernel)
set_option maxRecDepth 65536 in
theorem w_c5 : (Jvm.Cond.code ({ cls := "org/precedence/Message", name := "isControl", desc := "()Z" } : Jvm.MethodName) prog_21_method_2_code (1 : Nat) (Option.some Jvm.ClassFile.FieldType.boolean)).before args0 about1 = true := code_word (m := ⟨3, 1⟩) (meth := k3m1) (c := k3c1) (by decide +kernel) rfl rfl rfl (by decide +kernel)
def codes1 : List Jvm.Cond := [Jvm.Cond.code x code maxLocals ret, Jvm.Cond.code ({ cls := "org/precedence/Message", name := "<init>", desc := "(IJI[B)V" } : Jvm.MethodName) prog_21_method_1_code (6 : Nat) (Option.none : Option Jvm.ClassFile.FieldType), Jvm.Cond.code ({ cls := "java/lang/Record", name := "<init>", desc := "()V" } : Jvm.MethodName) jdk_30_method_1_code (1 : Nat) (Option.none : Option Jvm.ClassFile.FieldType), Jvm.Cond.code ({ cls := "java/lang/Object", name := "<init>", desc := "()V" } : Jvm.MethodName) object_method_1_code (1 : Nat) (Option.none : Option Jvm.ClassFile.FieldType), Jvm.Cond.code ({ cls := "java/util/Objects", name := "requireNonNull", desc := "(Ljava/lang/Object;Ljava/lang/String;)Ljava/lang/Object;" } : Jvm.MethodName) jdk_31_method_11_code (2 : Nat) (Option.some (Jvm.ClassFile.FieldType.object "java/lang/Object")), Jvm.Cond.code ({ cls := "org/precedence/Message", name := "isControl", desc := "()Z" } : Jvm.MethodName) prog_21_method_2_code (1 : Nat) (Option.some Jvm.ClassFile.FieldType.boolean)]
set_option maxRecDepth 65536 in
theorem codes_eq : words1.filter isCode = codes1 := rfl
theorem w_codes : ∀ c ∈ words1.filter isCode, c.before args0 about1 = true := by
  rw [codes_eq]
  intro c hc
  simp only [codes1, List.mem_cons, List.not_mem_nil, or_false] at hc
  rcases hc with rfl | rfl | rfl | rfl | rfl | rfl
  · exact w_c0
  · exact w_c1
  · exact w_c2
  · exact w_c3
  · exact w_c4
  · exact w_c5
set_option maxRecDepth 65536 in
theorem w_t1 : (words1.take 24).all (fun c => isCode c || c.before args0 about1) = true := by decide +kernel
set_option maxRecDepth 65536 in
theorem w_t2 : (words1.drop 24).all (fun c => isCode c || c.before args0 about1) = true := by decide +kernel
theorem w_tables : (allAtoms (Jvm.Cond.code x code maxLocals ret :: tables_1)).before args0 about1 = true := by
  rw [allAtoms_all]
  show words1.all (fun c => c.before args0 about1) = true
  refine all_split ?_ w_codes
  rw [← List.take_append_drop 24 words1, List.all_append, w_t1, w_t2]
  rfl
set_option maxRecDepth 65536 in
theorem w_case : (Jvm.Cond.and given_1 narrow_1).before args0 about1 = true := by decide +kernel
theorem w_applies : (headSpec (Jvm.Cond.code x code maxLocals ret :: tables_1) room_1).applies x e0.platform about1 = true :=
  (Spec.applies_iff w_frames).mpr ⟨w_running, w_runnable, w_alone, w_named, w_hears, w_ripe, w_room, w_tables⟩
theorem atStart : AtStart classFile x code maxLocals ret World_1 tables_1 room_1 Calls_1 rest_1 Pre_1 launch0 p0 e0 about1 theMethod args0 below0 :=
  ⟨lists_1, trivial, launch0.admits_env _ _ _, launch0.least_env, fairChoices_fair.cas, fairChoices_fair.clock, w_frames, w_args, w_heap, w_applies, trivial, trivial, w_case⟩
end start1
theorem witness_1 : WitnessClaimed_1 := ⟨start1.p0, start1.e0, start1.about1, start1.theMethod, start1.args0, start1.below0, start1.atStart⟩
end Jvm.Pilot.@@N@@
