import JvmDerived
import JvmDerived.Pilot.@@N@@Statement
import JvmDerived.Pilot.@@N@@Code
set_option linter.unusedVariables false
set_option linter.unusedSimpArgs false
@@BLOCK:NumsL.lean.txt@@
namespace Jvm.RoadKit
open Sem ClassFile Op Lib Jvm.Stand Jvm.Free Jvm.LawKit
section New
variable {p : Program} {l : Launch} {e : Env} {R : Room} {s : State} {m : MethodId} {args : Array Value} {below : List Frame} {meth : Method} {c : Code} {T : State} {locs : List Loc} {cells slots : Nat}
theorem retI (X : Stand p l e R s m args below meth c T locs cells slots) (hx : p.tables.exec = Jvm.exec) {pc : Nat} {Ls : Array Slot} {z : Int32} {rest : List Value} (hret : meth.sig.returnType = some .int) (hd : decode c.code pc = .ok (.ireturn, 1)) {fs : List Frame}
    (hl : ∀ (f : JFrame) (acts : List Action), f.method = m → f.locked = none → f.entered = [] → (doReturn e (T.setTop f) acts (some (.int z))).1 = T.setFrames fs) : Steps p.tables e below (T.setTop (mkF m pc Ls (.int z :: rest))) (T.setFrames fs) := by
  have hm' : T.vm.method? m = some meth := X.method'
  have hn : narrow .int (.int z) = .int z := rfl
  show Steps p.tables e below (T.setTop { method := m, pc := pc, locals := Ls, stack := _ :: rest, locked := none }) _
  jvm_step X.here [X.here.top, hx, hd, hm', hret, hn]
  first | (intro acts; rw [hl _ acts rfl rfl rfl]) | rw [hl _ _ rfl rfl rfl]
  exact Steps.refl _
/-- the walk's goal, at any point of it -/
def Gl (p : Program) (e : Env) (below : List Frame) (s : State) (Q : Option Value → Heap → List Loc → Prop) (C N : Nat) (T : State) (g : JFrame) : Prop :=
  ∃ s₂ o, Steps p.tables e below (T.setTop g) s₂ ∧ s₂.status = .running ∧ Ended s₂ below o ∧ ∃ v L, o = .returned v ∧ Q v s₂.heap L ∧ FrameEnd s o s₂ L C N
variable {Q : Option Value → Heap → List Loc → Prop} {C N : Nat} {T' : State} {g g' : JFrame} {h : Heap}
theorem Gl.st (f : ∀ t, Steps p.tables e below (T'.setTop g') t → Steps p.tables e below (T.setTop g) t) (k : Gl p e below s Q C N T' g') : Gl p e below s Q C N T g := by
  obtain ⟨s₂, o, h1, r⟩ := k
  exact ⟨s₂, o, f _ h1, r⟩
theorem Gl.ret (X : Stand p l e R s m args below meth c T locs cells slots) (hlk : meth.locks = false) {v : Option Value} (hv : meth.sig.returnType = none → v = none) (eT : T.heap = h)
    (f : ∀ fs, (∀ (f : JFrame) (acts : List Action), f.method = m → f.locked = none → f.entered = [] → (doReturn e (T.setTop f) acts v).1 = T.setFrames fs) → Steps p.tables e below (T.setTop g) (T.setFrames fs)) (hc : cells ≤ C) (hn : slots ≤ N) (hQ : Q v h locs) : Gl p e below s Q C N T g := by
  obtain ⟨fs, hr, hrun, hended, hW, hsame⟩ := X.leave (v := v) hv hlk
  exact ⟨_, _, f fs hr, hrun, hended, _, _, rfl, by show Q v T.heap _; rw [eT]; exact hQ, ⟨_, rfl⟩, hW, hsame.mono hc hn⟩
theorem Arv.cellX {Z : State} {h : Heap} {a : Addr} {k : ClassId} {ty : FieldType} {z : Int32} {vs : List Value} {dv : Value} (F : Arv Z h a k ty z vs dv) : ∃ c : Cell, h[a]? = some c ∧ ∀ q, c.vm ≠ .statics q := by
  obtain ⟨c, A, -⟩ := F; exact ⟨c, A.1, A.2.1.1⟩
theorem selPrivate {s : State} {args : Array Value} {y z : MethodName} (hzy : z.cls = y.cls) (hsel : (Cond.selects z.cls z z).before args s = true) (hpriv : s.PrivateAt y) (hinst : (Cond.instanceMethod y).before args s = true) (hy : y.cls ≠ "java/lang/invoke/MethodHandle" ∧ y.cls ≠ "java/lang/invoke/VarHandle") : (Cond.selects y.cls y y).before args s = true := by
  obtain ⟨c2, r2, m2, -, -, q3, -, kP, hkP, hkPi⟩ := Cond.selects_spec hsel
  exact selects_self_of_private (by rw [← hzy]; exact findClass_of_methodNamed q3) hkP hkPi hpriv hinst hy
theorem Sta.keepX {Z : State} {h h' : Heap} {C n d : String} {v : Value} {ws : List Addr} (F : Sta Z h C n d v) (K : Keep h h' ws) (q : ∀ x ∈ ws, ∃ c : Cell, h[x]? = some c ∧ ∀ q, c.vm ≠ .statics q) : Sta Z h' C n d v := by
  obtain ⟨cf, i, k, f, st, cell, h1, h2, h3, h4, h5, h6, h7⟩ := F
  refine ⟨cf, i, k, f, st, cell, h1, h2, h3, h4, K.2.1 st cell h5 fun z => ?_, h6, h7⟩
  obtain ⟨c, e1, e2⟩ := q st z
  cases h5.symm.trans e1
  cases hv : cell.vm <;> simp [hv, VmData.isStatics] at h6
  exact e2 _ hv
end New
end Jvm.RoadKit
namespace Jvm.Pilot.@@N@@
open Jvm Jvm.ClassFile Sem Op Lib Jvm.Free Jvm.Stand Jvm.LawKit Jvm.RoadKit Bundle Jvm.Pilot.@@N@@.Jvm.D

theorem own_nz {x : Int32} (h : 1 ≤ x.toInt) : ¬ x = 0 := fun e => by subst e; exact absurd h (by decide)
theorem own_i0 : (0 : Int32).toInt = 0 := rfl
theorem own_X (p : Int32) : 1 ≤ ((1 : Int32) + (p &&& (1023 : Int32))).toInt ∧ ((1 : Int32) + (p &&& (1023 : Int32))).toInt ≤ 1024 := by
  have h := c_mask p 1023 10 (by decide) (by decide)
  have e : ((1 : Int32) + (p &&& (1023 : Int32))).toInt = 1 + (p &&& (1023 : Int32)).toInt := Jvm.Kit.i32_add (by rw [h]; show _ ≤ (1 : Int) + _; omega) (by rw [h]; show (1 : Int) + _ < _; omega)
  rw [e, h]; omega
theorem own_div {x : Int32} (h1 : 1 ≤ x.toInt) (h2 : x.toInt ≤ 1024) : ((1024 : Int32) / x).toInt = 1024 / x.toInt ∧ 1 ≤ 1024 / x.toInt ∧ x.toInt * (1024 / x.toInt) ≤ 1024 := by
  have e := (c_idiv 1024 x x.toInt rfl (fun e => by subst e; exact absurd h1 (by decide))).1 (by decide)
  refine ⟨e, Int.le_ediv_of_mul_le (by omega) (by omega), Int.mul_ediv_self_le (by omega)⟩
theorem own_rem {p d : Int32} (h : 1 ≤ d.toInt) (h2 : d.toInt ≤ 1024) : 1 ≤ ((1 : Int32) + ((p &&& (2147483647 : Int32)) % d)).toInt ∧ ((1 : Int32) + ((p &&& (2147483647 : Int32)) % d)).toInt ≤ d.toInt := by
  have m := c_mask p 2147483647 31 (by decide) (by decide)
  have r := (c_iremV (p &&& 2147483647) d).1 (by rw [m]; omega) (by omega)
  have e : ((1 : Int32) + ((p &&& (2147483647 : Int32)) % d)).toInt = 1 + ((p &&& (2147483647 : Int32)) % d).toInt := Jvm.Kit.i32_add (by show _ ≤ (1 : Int) + _; omega) (by show (1 : Int) + _ < _; omega)
  omega
theorem own_lin {p d : Int32} (h : 1 ≤ d.toInt) : 0 ≤ ((p &&& (2147483647 : Int32)) % d).toInt ∧ ((p &&& (2147483647 : Int32)) % d).toInt < d.toInt := by
  have m := c_mask p 2147483647 31 (by decide) (by decide)
  have r := (c_iremV (p &&& 2147483647) d).1 (by rw [m]; omega) (by omega)
  omega
def own_min (a b : Int32) : Int32 := if b < a then b else a
theorem d1_0 : decode jdk_29_method_69_code 0 = .ok (.iload_n 0, 1) := by decide +kernel
theorem d1_1 : decode jdk_29_method_69_code 1 = .ok (.iload_n 1, 1) := by decide +kernel
theorem d1_2 : decode jdk_29_method_69_code 2 = .ok (.if_icmp .gt 7, 3) := by decide +kernel
theorem d1_9 : decode jdk_29_method_69_code 9 = .ok (.iload_n 1, 1) := by decide +kernel
theorem d1_10 : decode jdk_29_method_69_code 10 = .ok (.ireturn, 1) := by decide +kernel
theorem d1_5 : decode jdk_29_method_69_code 5 = .ok (.iload_n 0, 1) := by decide +kernel
theorem d1_6 : decode jdk_29_method_69_code 6 = .ok (.goto 4, 3) := by decide +kernel
theorem ef_rm1 (m : MethodId) (pa : Int32) (qa : Int32) : entryFrame m #[(.int pa), (.int qa)] 2 = mkF m 0 #[.val (.int pa), .val (.int qa)] [] := by first | (simp [entryFrame, mkF, argsToLocals, Value.category]; done) | rfl
def Q_rm1 (Z : State) (pa : Int32) (qa : Int32)  (h0 : Heap) (n0 : Nat) (v : Option Value) (h : Heap) (L : List Loc) : Prop := v = some (.int (own_min pa qa)) ∧ Fr n0 L ∧ h = h0
set_option maxRecDepth 65536 in
set_option maxHeartbeats 40000000 in
theorem rm1 (l : Launch) (Z : State) (a0 : Array Value) (hw : ∀ d ∈ tables_1, d.before a0 Z = true) (ws : List Jvm.Cond) (pa : Int32) (qa : Int32)  (h0 : Heap) (n0 : Nat) (Z0 : n0 ≤ h0.size)  :
    MetFree l (⟨"java/lang/Math", "min", "(II)I"⟩ : MethodName) (head1 (Jvm.Cond.code (⟨"java/lang/Math", "min", "(II)I"⟩ : MethodName) jdk_29_method_69_code 2 (some .int) :: ws) ({ frames := 0, cells := 0, slots := 0, locals := 0 } : Room)) (fun aα Uα => aα = #[(.int pa), (.int qa)] ∧ Z.Warmed39 Uα.vm ∧ Uα.heap = h0) (fun _ _ _ _ _ => True) (fun _ Uα oα Uβ => ∃ vα Lα, oα = .returned vα ∧ Q_rm1 Z pa qa  h0 n0 vα Uβ.heap Lα ∧ FrameEnd Uα oα Uβ Lα ({ frames := 0, cells := 0, slots := 0, locals := 0 } : Room).cells ({ frames := 0, cells := 0, slots := 0, locals := 0 } : Room).slots) := by
  refine MetFree.of_bodySF (Jvm.Free.JP.mathPlain rfl (by decide +kernel)) hisR ?_
  intro p e s m args below meth c s₁ Bd hml0 hP hK
  obtain ⟨rfl, hZ, hh⟩ := hP
  have hx := Bd.exec
  have hby := Bd.bytes
  have hml : c.maxLocals = 2 := hml0
  have hown : s.vm.findClass "java/lang/Math" = some m.cls := findClass_of_methodNamed Bd.named
  have hnm := (name_of_methodNamed Bd.named Bd.method).1
  have X0 : Stand p l e ({ frames := 0, cells := 0, slots := 0, locals := 0 } : Room) s m #[(.int pa), (.int qa)] below meth c s₁ [] 0 0 := Stand.of_body Bd
  have e0 : s₁.heap = h0 := by rw [← hh, Bd.state]; rfl
  have N0 := Fr.nil n0
  suffices k0 : Gl p e below s (Q_rm1 Z pa qa  h0 n0) ({ frames := 0, cells := 0, slots := 0, locals := 0 } : Room).cells ({ frames := 0, cells := 0, slots := 0, locals := 0 } : Room).slots s₁ (mkF m 0 #[.val (.int pa), .val (.int qa)] []) from Gl.st (fun t k => castTop (ef_rm1 m pa qa) k) k0
  refine Gl.st (g' := (mkF m 1 #[.val (.int pa), .val (.int qa)] [(.int pa)])) (fun τ κ => XS.iloadN X0.here hx rfl (hb hby d1_0) rfl κ) ?_
  refine Gl.st (g' := (mkF m 2 #[.val (.int pa), .val (.int qa)] [(.int qa), (.int pa)])) (fun τ κ => XS.iloadN X0.here hx rfl (hb hby d1_1) rfl κ) ?_
  by_cases hc1 : qa < pa
  · -- pc 2: qa < pa
    refine Gl.st (g' := (mkF m 9 #[.val (.int pa), .val (.int qa)] [])) (fun τ κ => XS.icmpYes X0.here hx rfl (pc0 := 2) (pc' := 9) rfl (hb hby d1_2) rfl (tlt hc1).2.2.1 (by decide) (by decide) κ) ?_
    refine Gl.st (g' := (mkF m 10 #[.val (.int pa), .val (.int qa)] [(.int qa)])) (fun τ κ => XS.iloadN X0.here hx rfl (hb hby d1_9) rfl κ) ?_
    exact Gl.ret (v := some (.int qa)) X0 Bd.notSynchronized (fun h => by rw [Bd.returns] at h; cases h) e0 (fun fs hr => retI X0 hx Bd.returns (hb hby d1_10) hr) (by decide) (by decide) ⟨by simp only [own_min, hc1, if_true, if_false], N0, rfl⟩
  · -- pc 2: not qa < pa
    refine Gl.st (g' := (mkF m 5 #[.val (.int pa), .val (.int qa)] [])) (fun τ κ => XS.icmpNo X0.here hx rfl (hb hby d1_2) rfl (flt hc1).2.2.1 κ) ?_
    refine Gl.st (g' := (mkF m 6 #[.val (.int pa), .val (.int qa)] [(.int pa)])) (fun τ κ => XS.iloadN X0.here hx rfl (hb hby d1_5) rfl κ) ?_
    refine Gl.st (g' := (mkF m 10 #[.val (.int pa), .val (.int qa)] [(.int pa)])) (fun τ κ => XS.goto X0.here hx rfl (pc0 := 6) (pc' := 10) rfl (hb hby d1_6) (by decide) (by decide) κ) ?_
    exact Gl.ret (v := some (.int pa)) X0 Bd.notSynchronized (fun h => by rw [Bd.returns] at h; cases h) e0 (fun fs hr => retI X0 hx Bd.returns (hb hby d1_10) hr) (by decide) (by decide) ⟨by simp only [own_min, hc1, if_true, if_false], N0, rfl⟩
theorem own_mul {a b : Int32} (h1 : 1 ≤ a.toInt) (h2 : 1 ≤ b.toInt) (h3 : a.toInt * b.toInt ≤ 1024) : (a * b).toInt = a.toInt * b.toInt ∧ 1 ≤ (a * b).toInt ∧ (a * b).toInt ≤ 1024 := by
  have p : 1 ≤ a.toInt * b.toInt := by
    have := Int.mul_le_mul h1 h2 (by omega) (by omega); omega
  have e : (a * b).toInt = a.toInt * b.toInt := Jvm.Kit.i32_mul (by omega) (by omega)
  omega
theorem own_min64 {d : Int32} (h1 : 1 ≤ d.toInt) : 1 ≤ (own_min (64 : Int32) d).toInt ∧ (own_min (64 : Int32) d).toInt ≤ d.toInt ∧ (own_min (64 : Int32) d).toInt ≤ 64 := by
  unfold own_min
  by_cases q : d < 64
  · rw [if_pos q]; rw [Int32.lt_iff_toInt_lt] at q; simp only [show (64 : Int32).toInt = 64 from rfl] at q; omega
  · rw [if_neg q]; rw [Int32.lt_iff_toInt_lt] at q; simp only [show (64 : Int32).toInt = 64 from rfl] at q ⊢; omega
theorem own_le {a b c : Int} (h : a ≤ b) (k : c * b ≤ 1024) (p : 0 ≤ c) : c * a ≤ 1024 := Int.le_trans (Int.mul_le_mul_of_nonneg_left h p) k
theorem own_dd {l x y : Int} (h : 0 < x) : l / x / y = l / (x * y) := by
  rw [Int.ediv_ediv, if_neg (by omega)]; omega
/-- the coordinates: all at once -/
theorem own_co {x y z w l : Int32} (hx : 1 ≤ x.toInt) (hy : 1 ≤ y.toInt) (hz : 1 ≤ z.toInt) (e : w.toInt = x.toInt * y.toInt) (hw : 1 ≤ w.toInt ∧ w.toInt ≤ 1024) (hwz : w.toInt * z.toInt ≤ 1024) (h0 : 0 ≤ l.toInt) (h1 : l.toInt < w.toInt * z.toInt) (hx' : x.toInt ≤ 1024) (hy' : y.toInt ≤ 1024) :
    (¬ (l % x) < 0 ∧ (l % x) < x) ∧ (¬ ((l / x) % y) < 0 ∧ ((l / x) % y) < y) ∧ (¬ (l / w) < 0 ∧ (l / w) < z) ∧ ((l % x) + (x * (((l / x) % y) + (y * (l / w))))) = l := by
  have n1 : ∀ {t : Int32}, 1 ≤ t.toInt → t ≠ -1 := fun h e => by subst e; exact absurd h (by decide)
  have a1 := (c_irem l x x.toInt rfl).1 h0
  have a2 := (c_idiv l x x.toInt rfl (n1 hx)).1 h0
  have a2' : 0 ≤ (l / x).toInt := by rw [a2]; exact Int.ediv_nonneg h0 (by omega)
  have a3 := (c_irem (l / x) y y.toInt rfl).1 a2'
  have a4 := (c_idiv l w w.toInt rfl (n1 hw.1)).1 h0
  rw [a2, Int.emod_def] at a3
  rw [Int.emod_def] at a1
  have m1 := Int.emod_nonneg l.toInt (show x.toInt ≠ 0 by omega); have m2 := Int.emod_lt_of_pos l.toInt (show 0 < x.toInt by omega)
  have m3 := Int.emod_nonneg (l.toInt / x.toInt) (show y.toInt ≠ 0 by omega); have m4 := Int.emod_lt_of_pos (l.toInt / x.toInt) (show 0 < y.toInt by omega)
  rw [Int.emod_def] at m1 m2 m3 m4
  have dd : l.toInt / x.toInt / y.toInt = l.toInt / w.toInt := by rw [e]; exact own_dd (by omega)
  rw [dd] at a3 m3 m4
  have z1 : 0 ≤ l.toInt / w.toInt := Int.ediv_nonneg h0 (by omega)
  have z2 : l.toInt / w.toInt < z.toInt := Int.ediv_lt_of_lt_mul (by omega) (by rw [Int.mul_comm]; exact h1)
  have hz' : z.toInt ≤ 1024 := by
    have := Int.mul_le_mul_of_nonneg_right hw.1 (show 0 ≤ z.toInt by omega); omega
  -- the last sum
  have b1 : (y * (l / w)).toInt = y.toInt * (l.toInt / w.toInt) := by
    have := mc (show 0 ≤ y.toInt by omega) hy' z1 (show l.toInt / w.toInt ≤ 1024 by omega)
    rw [← a4]; exact Jvm.Kit.i32_mul (by rw [a4]; omega) (by rw [a4]; omega)
  have b2 : (((l / x) % y) + (y * (l / w))).toInt = l.toInt / x.toInt := by
    rw [Jvm.Kit.i32_add] <;> rw [a3, b1]
    · omega
    · omega
    · have : l.toInt / x.toInt ≤ l.toInt := Int.ediv_le_self _ h0
      omega
  have b3 : (x * (((l / x) % y) + (y * (l / w)))).toInt = x.toInt * (l.toInt / x.toInt) := by
    rw [Jvm.Kit.i32_mul] <;> rw [b2] <;> omega
  have b4 : ((l % x) + (x * (((l / x) % y) + (y * (l / w))))).toInt = l.toInt := by
    rw [Jvm.Kit.i32_add] <;> rw [b3, a1] <;> omega
  refine ⟨⟨?_, ?_⟩, ⟨?_, ?_⟩, ⟨?_, ?_⟩, Int32.toInt_inj.mp b4⟩ <;> rw [Int32.lt_iff_toInt_lt] <;> (try rw [own_i0])
  · rw [a1]; omega
  · rw [a1]; omega
  · rw [a3]; omega
  · rw [a3]; omega
  · rw [a4]; omega
  · rw [a4]; omega
theorem d3_0 : decode jdk_30_method_1_code 0 = .ok (.aload_n 0, 1) := by decide +kernel
theorem d3_1 : decode jdk_30_method_1_code 1 = .ok (.invokespecial 1, 3) := by decide +kernel
theorem d3_4 : decode jdk_30_method_1_code 4 = .ok (.return_, 1) := by decide +kernel
theorem pn_java_lang_Record : plainName "java/lang/Record" = true := by first | (simp [plainName, overriddenIn]; done) | decide +kernel
theorem ef_rm3 (m : MethodId) (a : Addr) : entryFrame m #[(.ref a)] 1 = mkF m 0 #[.val (.ref a)] [] := by first | (simp [entryFrame, mkF, argsToLocals, Value.category]; done) | rfl
def Q_rm3 (Z : State) (a : Addr)  (h0 : Heap) (n0 : Nat) (v : Option Value) (h : Heap) (L : List Loc) : Prop := v = none ∧ Fr n0 L ∧ h = h0
set_option maxRecDepth 65536 in
set_option maxHeartbeats 40000000 in
theorem rm3 (l : Launch) (Z : State) (a0 : Array Value) (hw : ∀ d ∈ tables_1, d.before a0 Z = true) (ws : List Jvm.Cond) (a : Addr)  (h0 : Heap) (n0 : Nat) (Z0 : n0 ≤ h0.size)  :
    MetFree l (⟨"java/lang/Record", "<init>", "()V"⟩ : MethodName) (head1 (Jvm.Cond.code (⟨"java/lang/Record", "<init>", "()V"⟩ : MethodName) jdk_30_method_1_code 1 none :: ws) ({ frames := 1, cells := 0, slots := 0, locals := 12 } : Room)) (fun aα Uα => aα = #[(.ref a)] ∧ Z.Warmed39 Uα.vm ∧ Uα.heap = h0) (fun _ _ _ _ _ => True) (fun _ Uα oα Uβ => ∃ vα Lα, oα = .returned vα ∧ Q_rm3 Z a  h0 n0 vα Uβ.heap Lα ∧ FrameEnd Uα oα Uβ Lα ({ frames := 1, cells := 0, slots := 0, locals := 12 } : Room).cells ({ frames := 1, cells := 0, slots := 0, locals := 12 } : Room).slots) := by
  refine MetFree.of_bodySF (plainFor_of_name pn_java_lang_Record) hisR ?_
  intro p e s m args below meth c s₁ Bd hml0 hP hK
  obtain ⟨rfl, hZ, hh⟩ := hP
  have hx := Bd.exec
  have hby := Bd.bytes
  have hml : c.maxLocals = 1 := hml0
  have hown : s.vm.findClass "java/lang/Record" = some m.cls := findClass_of_methodNamed Bd.named
  have hnm := (name_of_methodNamed Bd.named Bd.method).1
  have X0 : Stand p l e ({ frames := 1, cells := 0, slots := 0, locals := 12 } : Room) s m #[(.ref a)] below meth c s₁ [] 0 0 := Stand.of_body Bd
  have e0 : s₁.heap = h0 := by rw [← hh, Bd.state]; rfl
  have N0 := Fr.nil n0
  suffices k0 : Gl p e below s (Q_rm3 Z a  h0 n0) ({ frames := 1, cells := 0, slots := 0, locals := 12 } : Room).cells ({ frames := 1, cells := 0, slots := 0, locals := 12 } : Room).slots s₁ (mkF m 0 #[.val (.ref a)] []) from Gl.st (fun t k => castTop (ef_rm3 m a) k) k0
  refine Gl.st (g' := (mkF m 1 #[.val (.ref a)] [(.ref a)])) (fun τ κ => XS.aloadN X0.here hx rfl (hb hby d3_0) rfl rfl κ) ?_
  obtain ⟨T2, X2, e2, st2⟩ := initO X0 hx hZ hown (hw _ (List.mem_of_getElem? (i := 16) rfl)) (hw _ (List.mem_of_getElem? (i := 17) rfl)) (hw _ (List.mem_of_getElem? (i := 18) rfl)) e0 (g := (mkF m 1 #[.val (.ref a)] [(.ref a)])) rfl (by rw [hml]; rfl) rfl (hb hby d3_1) (by decide) (W := 0) (by show 2 * 0 + _ ≤ _; exact Nat.le_of_eq rfl) (by decide)
  refine Gl.st (g' := (mkF m 4 #[.val (.ref a)] [])) (fun τ κ => st2 _ κ) ?_
  exact Gl.ret (v := none) X2 Bd.notSynchronized (fun _ => rfl) e2 (fun fs hr => X2.returnOut hx Bd.returns (hb hby d3_4) hr) (by decide) (by decide) ⟨rfl, N0, rfl⟩
theorem d2_0 : decode prog_14_method_1_code 0 = .ok (.aload_n 0, 1) := by decide +kernel
theorem d2_1 : decode prog_14_method_1_code 1 = .ok (.invokespecial 1, 3) := by decide +kernel
theorem pd_0 : parseMethodDescriptor "()V" = some ⟨[], none⟩ := by decide +kernel
theorem d2_4 : decode prog_14_method_1_code 4 = .ok (.aload_n 0, 1) := by decide +kernel
theorem d2_5 : decode prog_14_method_1_code 5 = .ok (.iload_n 1, 1) := by decide +kernel
theorem d2_6 : decode prog_14_method_1_code 6 = .ok (.putfield 7, 3) := by decide +kernel
theorem d2_9 : decode prog_14_method_1_code 9 = .ok (.aload_n 0, 1) := by decide +kernel
theorem d2_10 : decode prog_14_method_1_code 10 = .ok (.iload_n 2, 1) := by decide +kernel
theorem d2_11 : decode prog_14_method_1_code 11 = .ok (.putfield 13, 3) := by decide +kernel
theorem d2_14 : decode prog_14_method_1_code 14 = .ok (.aload_n 0, 1) := by decide +kernel
theorem d2_15 : decode prog_14_method_1_code 15 = .ok (.iload_n 3, 1) := by decide +kernel
theorem d2_16 : decode prog_14_method_1_code 16 = .ok (.putfield 16, 3) := by decide +kernel
theorem d2_19 : decode prog_14_method_1_code 19 = .ok (.return_, 1) := by decide +kernel
theorem pn_com_example_warpcheck_warpcheck_BlockShape : plainName "com/example/warpcheck/warpcheck/BlockShape" = true := by first | (simp [plainName, overriddenIn]; done) | decide +kernel
theorem ef_rm2 (m : MethodId) (a : Addr) (p0 : Int32) (p1 : Int32) (p2 : Int32) : entryFrame m #[(.ref a), (.int p0), (.int p1), (.int p2)] 4 = mkF m 0 #[.val (.ref a), .val (.int p0), .val (.int p1), .val (.int p2)] [] := by first | (simp [entryFrame, mkF, argsToLocals, Value.category]; done) | rfl
def Q_rm2 (Z : State) (a : Addr) (p0 : Int32) (p1 : Int32) (p2 : Int32)  (h0 : Heap) (n0 : Nat) (v : Option Value) (h : Heap) (L : List Loc) : Prop := v = none ∧ Fr n0 L ∧ Keep h0 h [a] ∧ Exa Z h a "com/example/warpcheck/warpcheck/BlockShape" ∧ Fld Z h a "com/example/warpcheck/warpcheck/BlockShape" "x" "I" (.int p0) ∧ Fld Z h a "com/example/warpcheck/warpcheck/BlockShape" "y" "I" (.int p1) ∧ Fld Z h a "com/example/warpcheck/warpcheck/BlockShape" "z" "I" (.int p2)
set_option maxRecDepth 65536 in
set_option maxHeartbeats 40000000 in
theorem rm2 (l : Launch) (Z : State) (a0 : Array Value) (hw : ∀ d ∈ tables_1, d.before a0 Z = true) (ws : List Jvm.Cond) (a : Addr) (p0 : Int32) (p1 : Int32) (p2 : Int32)  (h0 : Heap) (n0 : Nat) (Z0 : n0 ≤ h0.size) (E0 : Exa Z h0 a "com/example/warpcheck/warpcheck/BlockShape") (g0 : n0 ≤ a) (F0 : Fld Z h0 a "com/example/warpcheck/warpcheck/BlockShape" "x" "I" (.int (0 : Int32))) (F1 : Fld Z h0 a "com/example/warpcheck/warpcheck/BlockShape" "y" "I" (.int (0 : Int32))) (F2 : Fld Z h0 a "com/example/warpcheck/warpcheck/BlockShape" "z" "I" (.int (0 : Int32))) :
    MetFree l (⟨"com/example/warpcheck/warpcheck/BlockShape", "<init>", "(III)V"⟩ : MethodName) (head1 (Jvm.Cond.code (⟨"com/example/warpcheck/warpcheck/BlockShape", "<init>", "(III)V"⟩ : MethodName) prog_14_method_1_code 4 none :: ws) ({ frames := 2, cells := 0, slots := 0, locals := 24 } : Room)) (fun aα Uα => aα = #[(.ref a), (.int p0), (.int p1), (.int p2)] ∧ Z.Warmed39 Uα.vm ∧ Uα.heap = h0) (fun _ _ _ _ _ => True) (fun _ Uα oα Uβ => ∃ vα Lα, oα = .returned vα ∧ Q_rm2 Z a p0 p1 p2  h0 n0 vα Uβ.heap Lα ∧ FrameEnd Uα oα Uβ Lα ({ frames := 2, cells := 0, slots := 0, locals := 24 } : Room).cells ({ frames := 2, cells := 0, slots := 0, locals := 24 } : Room).slots) := by
  refine MetFree.of_bodySF (plainFor_of_name pn_com_example_warpcheck_warpcheck_BlockShape) hisR ?_
  intro p e s m args below meth c s₁ Bd hml0 hP hK
  obtain ⟨rfl, hZ, hh⟩ := hP
  have hx := Bd.exec
  have hby := Bd.bytes
  have hml : c.maxLocals = 4 := hml0
  have hown : s.vm.findClass "com/example/warpcheck/warpcheck/BlockShape" = some m.cls := findClass_of_methodNamed Bd.named
  have hnm := (name_of_methodNamed Bd.named Bd.method).1
  have X0 : Stand p l e ({ frames := 2, cells := 0, slots := 0, locals := 24 } : Room) s m #[(.ref a), (.int p0), (.int p1), (.int p2)] below meth c s₁ [] 0 0 := Stand.of_body Bd
  have e0 : s₁.heap = h0 := by rw [← hh, Bd.state]; rfl
  have N0 := Fr.nil n0
  suffices k0 : Gl p e below s (Q_rm2 Z a p0 p1 p2  h0 n0) ({ frames := 2, cells := 0, slots := 0, locals := 24 } : Room).cells ({ frames := 2, cells := 0, slots := 0, locals := 24 } : Room).slots s₁ (mkF m 0 #[.val (.ref a), .val (.int p0), .val (.int p1), .val (.int p2)] []) from Gl.st (fun t k => castTop (ef_rm2 m a p0 p1 p2) k) k0
  refine Gl.st (g' := (mkF m 1 #[.val (.ref a), .val (.int p0), .val (.int p1), .val (.int p2)] [(.ref a)])) (fun τ κ => XS.aloadN X0.here hx rfl (hb hby d2_0) rfl rfl κ) ?_
  obtain ⟨rv3, _, ⟨T3, L3, k3, n3⟩, -, X3, ⟨Lc3, hQ3, l3, y3, z3⟩, st3⟩ := X0.specialBack hx (y := (⟨"java/lang/Record", "<init>", "()V"⟩ : MethodName)) rfl hown (mvT hZ (hw _ (List.mem_of_getElem? (i := 11) rfl))) (mvT hZ (hw _ (List.mem_of_getElem? (i := 12) rfl))) (mvT hZ (hw _ (List.mem_of_getElem? (i := 15) rfl))) (by decide) (backOf (W := 0) (rm3 l Z a0 hw [] a h0 n0 Z0 ) hZ (hw _ (List.mem_of_getElem? (i := 15) rfl)) (hw _ (List.mem_of_getElem? (i := 14) rfl)) (by decide) (by decide)) (g := (mkF m 1 #[.val (.ref a), .val (.int p0), .val (.int p1), .val (.int p2)] [(.ref a)])) rfl (by rw [hml]; rfl) (Steps.refl _) (a := a) (argsL := []) (rest := []) (lenOf pd_0 rfl) rfl (by show 2 * 0 + _ ≤ _; exact Nat.le_of_eq rfl) (hb hby d2_1) (fun _ _ => ⟨rfl, e0, (by decide : 0 + 0 ≤ _), (by decide : 0 + 0 ≤ _)⟩)
  dsimp only [Pt.U, Pt.locs, Pt.cells, Pt.slots] at X3 l3 y3 z3 st3 hQ3
  subst l3 y3 z3
  obtain ⟨rfl, N3q, e3⟩ := hQ3
  have N3 := Fr.app N0 N3q
  refine Gl.st (g' := (mkF m 4 #[.val (.ref a), .val (.int p0), .val (.int p1), .val (.int p2)] [])) (fun τ κ => st3.trans κ) ?_
  refine Gl.st (g' := (mkF m 5 #[.val (.ref a), .val (.int p0), .val (.int p1), .val (.int p2)] [(.ref a)])) (fun τ κ => XS.aloadN X3.here hx rfl (hb hby d2_4) rfl rfl κ) ?_
  refine Gl.st (g' := (mkF m 6 #[.val (.ref a), .val (.int p0), .val (.int p1), .val (.int p2)] [(.int p0), (.ref a)])) (fun τ κ => XS.iloadN X3.here hx rfl (hb hby d2_5) rfl κ) ?_
  obtain ⟨T4, h4, X4, e4, W4, st4⟩ := putF X3 hx hZ hown (host := "") (Or.inl (hw _ (List.mem_of_getElem? (i := 19) rfl))) Via.refl e3 F0 E0 (Or.inr ⟨(hw _ (List.mem_of_getElem? (i := 20) rfl)), rfl, hnm⟩) (hw _ (List.mem_of_getElem? (i := 6) rfl)) (ty := .int) (by decide) rfl rfl (g := (mkF m 6 #[.val (.ref a), .val (.int p0), .val (.int p1), .val (.int p2)] [(.int p0), (.ref a)])) rfl rfl (hb hby d2_6)
  have E_5 := E0.wr W4
  have F_7 := F1.other W4 (Or.inr (slot_ne (Or.inr (hw _ (List.mem_of_getElem? (i := 22) rfl))) (Or.inr (hw _ (List.mem_of_getElem? (i := 20) rfl))) (by decide) (t := .int) (t' := .int) (by decide) (by decide)))
  have F_8 := F2.other W4 (Or.inr (slot_ne (Or.inr (hw _ (List.mem_of_getElem? (i := 24) rfl))) (Or.inr (hw _ (List.mem_of_getElem? (i := 20) rfl))) (by decide) (t := .int) (t' := .int) (by decide) (by decide)))
  have N4 := Fr.snoc X4 N3 g0
  have Z4 : n0 ≤ h4.size := Nat.le_trans Z0 (Nat.le_of_eq W4.size.symm)
  have K4 : Keep h0 h4 [a] := (Keep.refl h0 [a]).wr W4 (Or.inl (List.mem_of_getElem? (i := 0) rfl))
  have F_9 := F0.same W4
  refine Gl.st (g' := (mkF m 9 #[.val (.ref a), .val (.int p0), .val (.int p1), .val (.int p2)] [])) (fun τ κ => st4 _ κ) ?_
  refine Gl.st (g' := (mkF m 10 #[.val (.ref a), .val (.int p0), .val (.int p1), .val (.int p2)] [(.ref a)])) (fun τ κ => XS.aloadN X4.here hx rfl (hb hby d2_9) rfl rfl κ) ?_
  refine Gl.st (g' := (mkF m 11 #[.val (.ref a), .val (.int p0), .val (.int p1), .val (.int p2)] [(.int p1), (.ref a)])) (fun τ κ => XS.iloadN X4.here hx rfl (hb hby d2_10) rfl κ) ?_
  obtain ⟨T10, h10, X10, e10, W10, st10⟩ := putF X4 hx hZ hown (host := "") (Or.inl (hw _ (List.mem_of_getElem? (i := 21) rfl))) Via.refl e4 F_7 E_5 (Or.inr ⟨(hw _ (List.mem_of_getElem? (i := 22) rfl)), rfl, hnm⟩) (hw _ (List.mem_of_getElem? (i := 6) rfl)) (ty := .int) (by decide) rfl rfl (g := (mkF m 11 #[.val (.ref a), .val (.int p0), .val (.int p1), .val (.int p2)] [(.int p1), (.ref a)])) rfl rfl (hb hby d2_11)
  have E_11 := E_5.wr W10
  have F_12 := F_9.other W10 (Or.inr (slot_ne (Or.inr (hw _ (List.mem_of_getElem? (i := 20) rfl))) (Or.inr (hw _ (List.mem_of_getElem? (i := 22) rfl))) (by decide) (t := .int) (t' := .int) (by decide) (by decide)))
  have F_14 := F_8.other W10 (Or.inr (slot_ne (Or.inr (hw _ (List.mem_of_getElem? (i := 24) rfl))) (Or.inr (hw _ (List.mem_of_getElem? (i := 22) rfl))) (by decide) (t := .int) (t' := .int) (by decide) (by decide)))
  have N10 := Fr.snoc X10 N4 g0
  have Z10 : n0 ≤ h10.size := Nat.le_trans Z4 (Nat.le_of_eq W10.size.symm)
  have K10 : Keep h0 h10 [a] := K4.wr W10 (Or.inl (List.mem_of_getElem? (i := 0) rfl))
  have F_15 := F_7.same W10
  refine Gl.st (g' := (mkF m 14 #[.val (.ref a), .val (.int p0), .val (.int p1), .val (.int p2)] [])) (fun τ κ => st10 _ κ) ?_
  refine Gl.st (g' := (mkF m 15 #[.val (.ref a), .val (.int p0), .val (.int p1), .val (.int p2)] [(.ref a)])) (fun τ κ => XS.aloadN X10.here hx rfl (hb hby d2_14) rfl rfl κ) ?_
  refine Gl.st (g' := (mkF m 16 #[.val (.ref a), .val (.int p0), .val (.int p1), .val (.int p2)] [(.int p2), (.ref a)])) (fun τ κ => XS.iloadN X10.here hx rfl (hb hby d2_15) rfl κ) ?_
  obtain ⟨T16, h16, X16, e16, W16, st16⟩ := putF X10 hx hZ hown (host := "") (Or.inl (hw _ (List.mem_of_getElem? (i := 23) rfl))) Via.refl e10 F_14 E_11 (Or.inr ⟨(hw _ (List.mem_of_getElem? (i := 24) rfl)), rfl, hnm⟩) (hw _ (List.mem_of_getElem? (i := 6) rfl)) (ty := .int) (by decide) rfl rfl (g := (mkF m 16 #[.val (.ref a), .val (.int p0), .val (.int p1), .val (.int p2)] [(.int p2), (.ref a)])) rfl rfl (hb hby d2_16)
  have E_17 := E_11.wr W16
  have F_18 := F_12.other W16 (Or.inr (slot_ne (Or.inr (hw _ (List.mem_of_getElem? (i := 20) rfl))) (Or.inr (hw _ (List.mem_of_getElem? (i := 24) rfl))) (by decide) (t := .int) (t' := .int) (by decide) (by decide)))
  have F_19 := F_15.other W16 (Or.inr (slot_ne (Or.inr (hw _ (List.mem_of_getElem? (i := 22) rfl))) (Or.inr (hw _ (List.mem_of_getElem? (i := 24) rfl))) (by decide) (t := .int) (t' := .int) (by decide) (by decide)))
  have N16 := Fr.snoc X16 N10 g0
  have Z16 : n0 ≤ h16.size := Nat.le_trans Z10 (Nat.le_of_eq W16.size.symm)
  have K16 : Keep h0 h16 [a] := K10.wr W16 (Or.inl (List.mem_of_getElem? (i := 0) rfl))
  have F_21 := F_14.same W16
  refine Gl.st (g' := (mkF m 19 #[.val (.ref a), .val (.int p0), .val (.int p1), .val (.int p2)] [])) (fun τ κ => st16 _ κ) ?_
  exact Gl.ret (v := none) X16 Bd.notSynchronized (fun _ => rfl) e16 (fun fs hr => X16.returnOut hx Bd.returns (hb hby d2_19) hr) (by decide) (by decide) ⟨rfl, N16, K16, E_17, F_18, F_19, F_21⟩
theorem d5_0 : decode prog_14_method_6_code 0 = .ok (.iconst 3, 1) := by decide +kernel
theorem d5_1 : decode prog_14_method_6_code 1 = .ok (.newarray .int, 2) := by decide +kernel
theorem d5_3 : decode prog_14_method_6_code 3 = .ok (.dup, 1) := by decide +kernel
theorem d5_4 : decode prog_14_method_6_code 4 = .ok (.iconst 0, 1) := by decide +kernel
theorem d5_5 : decode prog_14_method_6_code 5 = .ok (.iload_n 1, 1) := by decide +kernel
theorem d5_6 : decode prog_14_method_6_code 6 = .ok (.aload_n 0, 1) := by decide +kernel
theorem d5_7 : decode prog_14_method_6_code 7 = .ok (.getfield 7, 3) := by decide +kernel
theorem d5_10 : decode prog_14_method_6_code 10 = .ok (.irem, 1) := by decide +kernel
theorem d5_11 : decode prog_14_method_6_code 11 = .ok (.iastore, 1) := by decide +kernel
theorem d5_12 : decode prog_14_method_6_code 12 = .ok (.dup, 1) := by decide +kernel
theorem d5_13 : decode prog_14_method_6_code 13 = .ok (.iconst 1, 1) := by decide +kernel
theorem d5_14 : decode prog_14_method_6_code 14 = .ok (.iload_n 1, 1) := by decide +kernel
theorem d5_15 : decode prog_14_method_6_code 15 = .ok (.aload_n 0, 1) := by decide +kernel
theorem d5_16 : decode prog_14_method_6_code 16 = .ok (.getfield 7, 3) := by decide +kernel
theorem d5_19 : decode prog_14_method_6_code 19 = .ok (.idiv, 1) := by decide +kernel
theorem d5_20 : decode prog_14_method_6_code 20 = .ok (.aload_n 0, 1) := by decide +kernel
theorem d5_21 : decode prog_14_method_6_code 21 = .ok (.getfield 13, 3) := by decide +kernel
theorem d5_24 : decode prog_14_method_6_code 24 = .ok (.irem, 1) := by decide +kernel
theorem d5_25 : decode prog_14_method_6_code 25 = .ok (.iastore, 1) := by decide +kernel
theorem d5_26 : decode prog_14_method_6_code 26 = .ok (.dup, 1) := by decide +kernel
theorem d5_27 : decode prog_14_method_6_code 27 = .ok (.iconst 2, 1) := by decide +kernel
theorem d5_28 : decode prog_14_method_6_code 28 = .ok (.iload_n 1, 1) := by decide +kernel
theorem d5_29 : decode prog_14_method_6_code 29 = .ok (.aload_n 0, 1) := by decide +kernel
theorem d5_30 : decode prog_14_method_6_code 30 = .ok (.getfield 7, 3) := by decide +kernel
theorem d5_33 : decode prog_14_method_6_code 33 = .ok (.aload_n 0, 1) := by decide +kernel
theorem d5_34 : decode prog_14_method_6_code 34 = .ok (.getfield 13, 3) := by decide +kernel
theorem d5_37 : decode prog_14_method_6_code 37 = .ok (.imul, 1) := by decide +kernel
theorem d5_38 : decode prog_14_method_6_code 38 = .ok (.idiv, 1) := by decide +kernel
theorem d5_39 : decode prog_14_method_6_code 39 = .ok (.iastore, 1) := by decide +kernel
theorem d5_40 : decode prog_14_method_6_code 40 = .ok (.areturn, 1) := by decide +kernel
theorem ef_rm5 (m : MethodId) (a : Addr) (pp : Int32) : entryFrame m #[(.ref a), (.int pp)] 2 = mkF m 0 #[.val (.ref a), .val (.int pp)] [] := by first | (simp [entryFrame, mkF, argsToLocals, Value.category]; done) | rfl
def Q_rm5 (Z : State) (a : Addr) (pp : Int32) (w0 w1 : Int32) (h0 : Heap) (n0 : Nat) (v : Option Value) (h : Heap) (L : List Loc) : Prop := ∃ b k, v = some (.ref b) ∧ Fr n0 L ∧ Keep h0 h [] ∧ h0.size ≤ b ∧ Arv Z h b k .int (3 : Int32) [(.int (pp % w0)), (.int ((pp / w0) % w1)), (.int (pp / (w0 * w1)))] (.int (0 : Int32))
set_option maxRecDepth 65536 in
set_option maxHeartbeats 40000000 in
theorem rm5 (l : Launch) (Z : State) (a0 : Array Value) (hw : ∀ d ∈ tables_1, d.before a0 Z = true) (ws : List Jvm.Cond) (a : Addr) (pp : Int32) (w0 w1 : Int32) (h0 : Heap) (n0 : Nat) (Z0 : n0 ≤ h0.size) (F0 : Fld Z h0 a "com/example/warpcheck/warpcheck/BlockShape" "x" "I" (.int w0)) (F1 : Fld Z h0 a "com/example/warpcheck/warpcheck/BlockShape" "y" "I" (.int w1)) (h0x : ¬ w0 = 0) (h0y : ¬ w1 = 0) (h0z : ¬ (w0 * w1) = 0) :
    MetFree l (⟨"com/example/warpcheck/warpcheck/BlockShape", "coordinates", "(I)[I"⟩ : MethodName) (head1 (Jvm.Cond.code (⟨"com/example/warpcheck/warpcheck/BlockShape", "coordinates", "(I)[I"⟩ : MethodName) prog_14_method_6_code 2 (some (.array .int)) :: ws) ({ frames := 0, cells := 1, slots := 3, locals := 0 } : Room)) (fun aα Uα => aα = #[(.ref a), (.int pp)] ∧ Z.Warmed39 Uα.vm ∧ Uα.heap = h0) (fun _ _ _ _ _ => True) (fun _ Uα oα Uβ => ∃ vα Lα, oα = .returned vα ∧ Q_rm5 Z a pp w0 w1 h0 n0 vα Uβ.heap Lα ∧ FrameEnd Uα oα Uβ Lα ({ frames := 0, cells := 1, slots := 3, locals := 0 } : Room).cells ({ frames := 0, cells := 1, slots := 3, locals := 0 } : Room).slots) := by
  refine MetFree.of_bodySF (plainFor_of_name pn_com_example_warpcheck_warpcheck_BlockShape) hisR ?_
  intro p e s m args below meth c s₁ Bd hml0 hP hK
  obtain ⟨rfl, hZ, hh⟩ := hP
  have hx := Bd.exec
  have hby := Bd.bytes
  have hml : c.maxLocals = 2 := hml0
  have hown : s.vm.findClass "com/example/warpcheck/warpcheck/BlockShape" = some m.cls := findClass_of_methodNamed Bd.named
  have hnm := (name_of_methodNamed Bd.named Bd.method).1
  have X0 : Stand p l e ({ frames := 0, cells := 1, slots := 3, locals := 0 } : Room) s m #[(.ref a), (.int pp)] below meth c s₁ [] 0 0 := Stand.of_body Bd
  have e0 : s₁.heap = h0 := by rw [← hh, Bd.state]; rfl
  have N0 := Fr.nil n0
  suffices k0 : Gl p e below s (Q_rm5 Z a pp w0 w1 h0 n0) ({ frames := 0, cells := 1, slots := 3, locals := 0 } : Room).cells ({ frames := 0, cells := 1, slots := 3, locals := 0 } : Room).slots s₁ (mkF m 0 #[.val (.ref a), .val (.int pp)] []) from Gl.st (fun t k => castTop (ef_rm5 m a pp) k) k0
  refine Gl.st (g' := (mkF m 1 #[.val (.ref a), .val (.int pp)] [(.int (3 : Int32))])) (fun τ κ => XS.iconst X0.here hx rfl (hb hby d5_0) κ) ?_
  obtain ⟨T22, h22, k22, X22, e22, E22, A22, st22⟩ := newP X0 hx hZ (hw _ (List.mem_of_getElem? (i := 30) rfl)) e0 (g := (mkF m 1 #[.val (.ref a), .val (.int pp)] [(.int (3 : Int32))])) rfl (hb hby d5_1) rfl (by decide) (cap := 3) (by decide) (by decide) (by decide) (by decide)
  obtain ⟨b22, g22⟩ : ∃ z, z = h0.size := ⟨_, rfl⟩
  rw [← g22] at A22 st22
  have ne_a_b22 : a ≠ b22 := Nat.ne_of_lt (Nat.lt_of_lt_of_le F0.lt (Nat.le_of_eq g22.symm))
  have F_23 := F0.ext E22
  have F_24 := F1.ext E22
  have g_b22 : n0 ≤ b22 := Nat.le_trans Z0 (Nat.le_of_eq g22.symm)
  have sz_b22 : h0.size ≤ b22 := Nat.le_trans (Keep.refl h0 []).1 (Nat.le_of_eq g22.symm)
  have Z22 : n0 ≤ h22.size := Nat.le_trans Z0 E22.1
  have K22 : Keep h0 h22 [] := (Keep.refl h0 []).ext E22
  have V_b22 : Arv Z h22 b22 k22 .int (3 : Int32) [(.int (0 : Int32)), (.int (0 : Int32)), (.int (0 : Int32))] (.int (0 : Int32)) := (Arv.new A22 (by decide)).pad (pad_rep [] (.int (0 : Int32)) 3)
  refine Gl.st (g' := (mkF m 3 #[.val (.ref a), .val (.int pp)] [(.ref b22)])) (fun τ κ => st22 _ κ) ?_
  refine Gl.st (g' := (mkF m 4 #[.val (.ref a), .val (.int pp)] [(.ref b22), (.ref b22)])) (fun τ κ => XS.dup X22.here hx rfl (hb hby d5_3) rfl rfl κ) ?_
  refine Gl.st (g' := (mkF m 5 #[.val (.ref a), .val (.int pp)] [(.int (0 : Int32)), (.ref b22), (.ref b22)])) (fun τ κ => XS.iconst X22.here hx rfl (hb hby d5_4) κ) ?_
  refine Gl.st (g' := (mkF m 6 #[.val (.ref a), .val (.int pp)] [(.int pp), (.int (0 : Int32)), (.ref b22), (.ref b22)])) (fun τ κ => XS.iloadN X22.here hx rfl (hb hby d5_5) rfl κ) ?_
  refine Gl.st (g' := (mkF m 7 #[.val (.ref a), .val (.int pp)] [(.ref a), (.int pp), (.int (0 : Int32)), (.ref b22), (.ref b22)])) (fun τ κ => XS.aloadN X22.here hx rfl (hb hby d5_6) rfl rfl κ) ?_
  obtain ⟨T25, X25, e25, st25⟩ := getF X22 hx hZ hown (host := "") (Or.inl (hw _ (List.mem_of_getElem? (i := 19) rfl))) Via.refl e22 F_23 (g := (mkF m 7 #[.val (.ref a), .val (.int pp)] [(.ref a), (.int pp), (.int (0 : Int32)), (.ref b22), (.ref b22)])) rfl rfl (hb hby d5_7)
  refine Gl.st (g' := (mkF m 10 #[.val (.ref a), .val (.int pp)] [(.int w0), (.int pp), (.int (0 : Int32)), (.ref b22), (.ref b22)])) (fun τ κ => st25 _ κ) ?_
  refine Gl.st (g' := (mkF m 11 #[.val (.ref a), .val (.int pp)] [(.int (pp % w0)), (.int (0 : Int32)), (.ref b22), (.ref b22)])) (fun τ κ => iremM (g := (mkF m 10 #[.val (.ref a), .val (.int pp)] [(.int w0), (.int pp), (.int (0 : Int32)), (.ref b22), (.ref b22)])) X25 hx rfl (hb hby d5_10) rfl h0x κ) ?_
  obtain ⟨cl_o26, Ar_o26, q_o26, S_o26, M_o26, H_o26, G_o26⟩ := id V_b22
  have hin_o26 : ¬ ((0 : Int32) < 0 ∨ cl_o26.slots.size ≤ ((0 : Int32)).toNatClampNeg) := inb_of S_o26 ⟨by decide, by decide⟩
  obtain ⟨T27, h27, X27, e27, W27, st27⟩ := stI X25 hx hZ e25 Ar_o26 (j := (0 : Int32)) hin_o26 (g := (mkF m 11 #[.val (.ref a), .val (.int pp)] [(.int (pp % w0)), (.int (0 : Int32)), (.ref b22), (.ref b22)])) rfl rfl (hb hby d5_11)
  have F_28 := F_23.other W27 (Or.inl ne_a_b22)
  have F_29 := F_24.other W27 (Or.inl ne_a_b22)
  have N27 := Fr.snoc X27 N0 g_b22
  have Z27 : n0 ≤ h27.size := Nat.le_trans Z22 (Nat.le_of_eq W27.size.symm)
  have K27 : Keep h0 h27 [] := K22.wr W27 (Or.inr sz_b22)
  have V_b22_27 : Arv Z h27 b22 k22 .int (3 : Int32) [(.int (pp % w0)), (.int (0 : Int32)), (.int (0 : Int32))] (.int (0 : Int32)) := Arv.set Ar_o26 q_o26 S_o26 M_o26 H_o26 G_o26 rfl W27 0 rfl (Nat.le_of_ble_eq_true rfl)
  refine Gl.st (g' := (mkF m 12 #[.val (.ref a), .val (.int pp)] [(.ref b22)])) (fun τ κ => st27 _ κ) ?_
  refine Gl.st (g' := (mkF m 13 #[.val (.ref a), .val (.int pp)] [(.ref b22), (.ref b22)])) (fun τ κ => XS.dup X27.here hx rfl (hb hby d5_12) rfl rfl κ) ?_
  refine Gl.st (g' := (mkF m 14 #[.val (.ref a), .val (.int pp)] [(.int (1 : Int32)), (.ref b22), (.ref b22)])) (fun τ κ => XS.iconst X27.here hx rfl (hb hby d5_13) κ) ?_
  refine Gl.st (g' := (mkF m 15 #[.val (.ref a), .val (.int pp)] [(.int pp), (.int (1 : Int32)), (.ref b22), (.ref b22)])) (fun τ κ => XS.iloadN X27.here hx rfl (hb hby d5_14) rfl κ) ?_
  refine Gl.st (g' := (mkF m 16 #[.val (.ref a), .val (.int pp)] [(.ref a), (.int pp), (.int (1 : Int32)), (.ref b22), (.ref b22)])) (fun τ κ => XS.aloadN X27.here hx rfl (hb hby d5_15) rfl rfl κ) ?_
  obtain ⟨T31, X31, e31, st31⟩ := getF X27 hx hZ hown (host := "") (Or.inl (hw _ (List.mem_of_getElem? (i := 19) rfl))) Via.refl e27 F_28 (g := (mkF m 16 #[.val (.ref a), .val (.int pp)] [(.ref a), (.int pp), (.int (1 : Int32)), (.ref b22), (.ref b22)])) rfl rfl (hb hby d5_16)
  refine Gl.st (g' := (mkF m 19 #[.val (.ref a), .val (.int pp)] [(.int w0), (.int pp), (.int (1 : Int32)), (.ref b22), (.ref b22)])) (fun τ κ => st31 _ κ) ?_
  refine Gl.st (g' := (mkF m 20 #[.val (.ref a), .val (.int pp)] [(.int (pp / w0)), (.int (1 : Int32)), (.ref b22), (.ref b22)])) (fun τ κ => XS.idiv X31.here hx rfl (hb hby d5_19) rfl h0x κ) ?_
  refine Gl.st (g' := (mkF m 21 #[.val (.ref a), .val (.int pp)] [(.ref a), (.int (pp / w0)), (.int (1 : Int32)), (.ref b22), (.ref b22)])) (fun τ κ => XS.aloadN X31.here hx rfl (hb hby d5_20) rfl rfl κ) ?_
  obtain ⟨T32, X32, e32, st32⟩ := getF X31 hx hZ hown (host := "") (Or.inl (hw _ (List.mem_of_getElem? (i := 21) rfl))) Via.refl e31 F_29 (g := (mkF m 21 #[.val (.ref a), .val (.int pp)] [(.ref a), (.int (pp / w0)), (.int (1 : Int32)), (.ref b22), (.ref b22)])) rfl rfl (hb hby d5_21)
  refine Gl.st (g' := (mkF m 24 #[.val (.ref a), .val (.int pp)] [(.int w1), (.int (pp / w0)), (.int (1 : Int32)), (.ref b22), (.ref b22)])) (fun τ κ => st32 _ κ) ?_
  refine Gl.st (g' := (mkF m 25 #[.val (.ref a), .val (.int pp)] [(.int ((pp / w0) % w1)), (.int (1 : Int32)), (.ref b22), (.ref b22)])) (fun τ κ => iremM (g := (mkF m 24 #[.val (.ref a), .val (.int pp)] [(.int w1), (.int (pp / w0)), (.int (1 : Int32)), (.ref b22), (.ref b22)])) X32 hx rfl (hb hby d5_24) rfl h0y κ) ?_
  obtain ⟨cl_o33, Ar_o33, q_o33, S_o33, M_o33, H_o33, G_o33⟩ := id V_b22_27
  have hin_o33 : ¬ ((1 : Int32) < 0 ∨ cl_o33.slots.size ≤ ((1 : Int32)).toNatClampNeg) := inb_of S_o33 ⟨by decide, by decide⟩
  obtain ⟨T34, h34, X34, e34, W34, st34⟩ := stI X32 hx hZ e32 Ar_o33 (j := (1 : Int32)) hin_o33 (g := (mkF m 25 #[.val (.ref a), .val (.int pp)] [(.int ((pp / w0) % w1)), (.int (1 : Int32)), (.ref b22), (.ref b22)])) rfl rfl (hb hby d5_25)
  have F_35 := F_28.other W34 (Or.inl ne_a_b22)
  have F_36 := F_29.other W34 (Or.inl ne_a_b22)
  have N34 := Fr.snoc X34 N27 g_b22
  have Z34 : n0 ≤ h34.size := Nat.le_trans Z27 (Nat.le_of_eq W34.size.symm)
  have K34 : Keep h0 h34 [] := K27.wr W34 (Or.inr sz_b22)
  have V_b22_34 : Arv Z h34 b22 k22 .int (3 : Int32) [(.int (pp % w0)), (.int ((pp / w0) % w1)), (.int (0 : Int32))] (.int (0 : Int32)) := Arv.set Ar_o33 q_o33 S_o33 M_o33 H_o33 G_o33 rfl W34 1 rfl (Nat.le_of_ble_eq_true rfl)
  refine Gl.st (g' := (mkF m 26 #[.val (.ref a), .val (.int pp)] [(.ref b22)])) (fun τ κ => st34 _ κ) ?_
  refine Gl.st (g' := (mkF m 27 #[.val (.ref a), .val (.int pp)] [(.ref b22), (.ref b22)])) (fun τ κ => XS.dup X34.here hx rfl (hb hby d5_26) rfl rfl κ) ?_
  refine Gl.st (g' := (mkF m 28 #[.val (.ref a), .val (.int pp)] [(.int (2 : Int32)), (.ref b22), (.ref b22)])) (fun τ κ => XS.iconst X34.here hx rfl (hb hby d5_27) κ) ?_
  refine Gl.st (g' := (mkF m 29 #[.val (.ref a), .val (.int pp)] [(.int pp), (.int (2 : Int32)), (.ref b22), (.ref b22)])) (fun τ κ => XS.iloadN X34.here hx rfl (hb hby d5_28) rfl κ) ?_
  refine Gl.st (g' := (mkF m 30 #[.val (.ref a), .val (.int pp)] [(.ref a), (.int pp), (.int (2 : Int32)), (.ref b22), (.ref b22)])) (fun τ κ => XS.aloadN X34.here hx rfl (hb hby d5_29) rfl rfl κ) ?_
  obtain ⟨T38, X38, e38, st38⟩ := getF X34 hx hZ hown (host := "") (Or.inl (hw _ (List.mem_of_getElem? (i := 19) rfl))) Via.refl e34 F_35 (g := (mkF m 30 #[.val (.ref a), .val (.int pp)] [(.ref a), (.int pp), (.int (2 : Int32)), (.ref b22), (.ref b22)])) rfl rfl (hb hby d5_30)
  refine Gl.st (g' := (mkF m 33 #[.val (.ref a), .val (.int pp)] [(.int w0), (.int pp), (.int (2 : Int32)), (.ref b22), (.ref b22)])) (fun τ κ => st38 _ κ) ?_
  refine Gl.st (g' := (mkF m 34 #[.val (.ref a), .val (.int pp)] [(.ref a), (.int w0), (.int pp), (.int (2 : Int32)), (.ref b22), (.ref b22)])) (fun τ κ => XS.aloadN X38.here hx rfl (hb hby d5_33) rfl rfl κ) ?_
  obtain ⟨T39, X39, e39, st39⟩ := getF X38 hx hZ hown (host := "") (Or.inl (hw _ (List.mem_of_getElem? (i := 21) rfl))) Via.refl e38 F_36 (g := (mkF m 34 #[.val (.ref a), .val (.int pp)] [(.ref a), (.int w0), (.int pp), (.int (2 : Int32)), (.ref b22), (.ref b22)])) rfl rfl (hb hby d5_34)
  refine Gl.st (g' := (mkF m 37 #[.val (.ref a), .val (.int pp)] [(.int w1), (.int w0), (.int pp), (.int (2 : Int32)), (.ref b22), (.ref b22)])) (fun τ κ => st39 _ κ) ?_
  refine Gl.st (g' := (mkF m 38 #[.val (.ref a), .val (.int pp)] [(.int (w0 * w1)), (.int pp), (.int (2 : Int32)), (.ref b22), (.ref b22)])) (fun τ κ => XS.imul X39.here hx rfl (hb hby d5_37) rfl κ) ?_
  refine Gl.st (g' := (mkF m 39 #[.val (.ref a), .val (.int pp)] [(.int (pp / (w0 * w1))), (.int (2 : Int32)), (.ref b22), (.ref b22)])) (fun τ κ => XS.idiv X39.here hx rfl (hb hby d5_38) rfl h0z κ) ?_
  obtain ⟨cl_o40, Ar_o40, q_o40, S_o40, M_o40, H_o40, G_o40⟩ := id V_b22_34
  have hin_o40 : ¬ ((2 : Int32) < 0 ∨ cl_o40.slots.size ≤ ((2 : Int32)).toNatClampNeg) := inb_of S_o40 ⟨by decide, by decide⟩
  obtain ⟨T41, h41, X41, e41, W41, st41⟩ := stI X39 hx hZ e39 Ar_o40 (j := (2 : Int32)) hin_o40 (g := (mkF m 39 #[.val (.ref a), .val (.int pp)] [(.int (pp / (w0 * w1))), (.int (2 : Int32)), (.ref b22), (.ref b22)])) rfl rfl (hb hby d5_39)
  have F_42 := F_35.other W41 (Or.inl ne_a_b22)
  have F_43 := F_36.other W41 (Or.inl ne_a_b22)
  have N41 := Fr.snoc X41 N34 g_b22
  have Z41 : n0 ≤ h41.size := Nat.le_trans Z34 (Nat.le_of_eq W41.size.symm)
  have K41 : Keep h0 h41 [] := K34.wr W41 (Or.inr sz_b22)
  have V_b22_41 : Arv Z h41 b22 k22 .int (3 : Int32) [(.int (pp % w0)), (.int ((pp / w0) % w1)), (.int (pp / (w0 * w1)))] (.int (0 : Int32)) := Arv.set Ar_o40 q_o40 S_o40 M_o40 H_o40 G_o40 rfl W41 2 rfl (Nat.le_of_ble_eq_true rfl)
  refine Gl.st (g' := (mkF m 40 #[.val (.ref a), .val (.int pp)] [(.ref b22)])) (fun τ κ => st41 _ κ) ?_
  exact Gl.ret (v := some (.ref b22)) X41 Bd.notSynchronized (fun h => by rw [Bd.returns] at h; cases h) e41 (fun fs hr => (by
      jvm_step X41.here [X41.here.top, hx, (hb hby d5_40), X41.method', Bd.returns, Value.isRef, FieldType.isReference]
      first | (intro acts; rw [hr _ acts rfl rfl rfl]) | rw [hr _ _ rfl rfl rfl]
      exact Steps.refl _)) (by decide) (by decide) ⟨b22, k22, rfl, N41, K41, sz_b22, V_b22_41⟩
theorem pd_1 : parseMethodDescriptor "(II)I" = some ⟨[.int, .int], some .int⟩ := by decide +kernel
theorem pd_2 : parseMethodDescriptor "(III)V" = some ⟨[.int, .int, .int], none⟩ := by decide +kernel
theorem pd_3 : parseMethodDescriptor "(I)[I" = some ⟨[.int], some (.array .int)⟩ := by decide +kernel
theorem pn_com_example_warpcheck_warpcheck_BlockShapeCoordinatesPinLaw : plainName "com/example/warpcheck/warpcheck/BlockShapeCoordinatesPinLaw" = true := by first | (simp [plainName, overriddenIn]; done) | decide +kernel
theorem ef_rm0 (m : MethodId) (x0 : Int32) (x1 : Int32) (x2 : Int32) (x3 : Int32) : entryFrame m #[(.int x0), (.int x1), (.int x2), (.int x3)] maxLocals = mkF m 0 #[.val (.int x0), .val (.int x1), .val (.int x2), .val (.int x3), .unset, .unset, .unset, .unset, .unset, .unset, .unset, .unset, .unset, .unset] [] := by first | (simp [entryFrame, mkF, argsToLocals, Value.category, maxLocals]; done) | rfl
def Q_rm0 (Z : State) (x0 : Int32) (x1 : Int32) (x2 : Int32) (x3 : Int32)  (h0 : Heap) (n0 : Nat) (v : Option Value) (h : Heap) (L : List Loc) : Prop := v = some (.int 1) ∧ Fr n0 L
set_option maxRecDepth 65536 in
set_option maxHeartbeats 40000000 in
theorem rm0 (l : Launch) (Z : State) (a0 : Array Value) (hw : ∀ d ∈ tables_1, d.before a0 Z = true) (ws : List Jvm.Cond) (x0 : Int32) (x1 : Int32) (x2 : Int32) (x3 : Int32)  (h0 : Heap) (n0 : Nat) (Z0 : n0 ≤ h0.size)  :
    MetFree l x (head1 (Jvm.Cond.code x code maxLocals ret :: ws) room_1) (fun aα Uα => aα = #[(.int x0), (.int x1), (.int x2), (.int x3)] ∧ Z.Warmed39 Uα.vm ∧ Uα.heap = h0) (fun _ _ _ _ _ => True) (fun _ Uα oα Uβ => ∃ vα Lα, oα = .returned vα ∧ Q_rm0 Z x0 x1 x2 x3  h0 n0 vα Uβ.heap Lα ∧ FrameEnd Uα oα Uβ Lα 2 6) := by
  refine MetFree.of_bodySF (plainFor_of_name pn_com_example_warpcheck_warpcheck_BlockShapeCoordinatesPinLaw) hisR ?_
  intro p e s m args below meth c s₁ Bd hml0 hP hK
  obtain ⟨rfl, hZ, hh⟩ := hP
  have hx := Bd.exec
  have hby := Bd.bytes
  have hml : c.maxLocals = 14 := hml0
  have hown : s.vm.findClass "com/example/warpcheck/warpcheck/BlockShapeCoordinatesPinLaw" = some m.cls := findClass_of_methodNamed Bd.named
  have hnm := (name_of_methodNamed Bd.named Bd.method).1
  have X0 : Stand p l e room_1 s m #[(.int x0), (.int x1), (.int x2), (.int x3)] below meth c s₁ [] 0 0 := Stand.of_body Bd
  have e0 : s₁.heap = h0 := by rw [← hh, Bd.state]; rfl
  have N0 := Fr.nil n0
  suffices k0 : Gl p e below s (Q_rm0 Z x0 x1 x2 x3  h0 n0) 2 6 s₁ (mkF m 0 #[.val (.int x0), .val (.int x1), .val (.int x2), .val (.int x3), .unset, .unset, .unset, .unset, .unset, .unset, .unset, .unset, .unset, .unset] []) from Gl.st (fun t k => castTop (ef_rm0 m x0 x1 x2 x3) k) k0
  refine Gl.st (g' := (mkF m 1 #[.val (.int x0), .val (.int x1), .val (.int x2), .val (.int x3), .unset, .unset, .unset, .unset, .unset, .unset, .unset, .unset, .unset, .unset] [(.int (1 : Int32))])) (fun τ κ => XS.iconst X0.here hx rfl (hb hby at_0) κ) ?_
  refine Gl.st (g' := (mkF m 2 #[.val (.int x0), .val (.int x1), .val (.int x2), .val (.int x3), .unset, .unset, .unset, .unset, .unset, .unset, .unset, .unset, .unset, .unset] [(.int x0), (.int (1 : Int32))])) (fun τ κ => XS.iloadN X0.here hx rfl (hb hby at_1) rfl κ) ?_
  refine Gl.st (g' := (mkF m 5 #[.val (.int x0), .val (.int x1), .val (.int x2), .val (.int x3), .unset, .unset, .unset, .unset, .unset, .unset, .unset, .unset, .unset, .unset] [(.int (1023 : Int32)), (.int x0), (.int (1 : Int32))])) (fun τ κ => XS.sipush X0.here hx rfl (hb hby at_2) κ) ?_
  refine Gl.st (g' := (mkF m 6 #[.val (.int x0), .val (.int x1), .val (.int x2), .val (.int x3), .unset, .unset, .unset, .unset, .unset, .unset, .unset, .unset, .unset, .unset] [(.int (x0 &&& (1023 : Int32))), (.int (1 : Int32))])) (fun τ κ => XS.iand X0.here hx rfl (hb hby at_5) rfl κ) ?_
  refine Gl.st (g' := (mkF m 7 #[.val (.int x0), .val (.int x1), .val (.int x2), .val (.int x3), .unset, .unset, .unset, .unset, .unset, .unset, .unset, .unset, .unset, .unset] [(.int ((1 : Int32) + (x0 &&& (1023 : Int32))))])) (fun τ κ => XS.iadd X0.here hx rfl (hb hby at_6) rfl κ) ?_
  have fX := own_X x0
  generalize ((1 : Int32) + (x0 &&& (1023 : Int32))) = x at fX ⊢
  refine Gl.st (g' := (mkF m 9 #[.val (.int x0), .val (.int x1), .val (.int x2), .val (.int x3), .val (.int x), .unset, .unset, .unset, .unset, .unset, .unset, .unset, .unset, .unset] [])) (fun τ κ => XS.istore X0.here hx rfl (hb hby at_7) rfl (l' := #[.val (.int x0), .val (.int x1), .val (.int x2), .val (.int x3), .val (.int x), .unset, .unset, .unset, .unset, .unset, .unset, .unset, .unset, .unset]) rfl κ) ?_
  refine Gl.st (g' := (mkF m 10 #[.val (.int x0), .val (.int x1), .val (.int x2), .val (.int x3), .val (.int x), .unset, .unset, .unset, .unset, .unset, .unset, .unset, .unset, .unset] [(.int (1 : Int32))])) (fun τ κ => XS.iconst X0.here hx rfl (hb hby at_9) κ) ?_
  refine Gl.st (g' := (mkF m 11 #[.val (.int x0), .val (.int x1), .val (.int x2), .val (.int x3), .val (.int x), .unset, .unset, .unset, .unset, .unset, .unset, .unset, .unset, .unset] [(.int x1), (.int (1 : Int32))])) (fun τ κ => XS.iloadN X0.here hx rfl (hb hby at_10) rfl κ) ?_
  refine Gl.st (g' := (mkF m 13 #[.val (.int x0), .val (.int x1), .val (.int x2), .val (.int x3), .val (.int x), .unset, .unset, .unset, .unset, .unset, .unset, .unset, .unset, .unset] [(.int (2147483647 : Int32)), (.int x1), (.int (1 : Int32))])) (fun τ κ => X0.ldcInt hx hown (mvT hZ (hw _ (List.mem_of_getElem? (i := 0) rfl))) (g := (mkF m 11 #[.val (.int x0), .val (.int x1), .val (.int x2), .val (.int x3), .val (.int x), .unset, .unset, .unset, .unset, .unset, .unset, .unset, .unset, .unset] [(.int x1), (.int (1 : Int32))])) rfl (hb hby at_11) _ κ) ?_
  refine Gl.st (g' := (mkF m 14 #[.val (.int x0), .val (.int x1), .val (.int x2), .val (.int x3), .val (.int x), .unset, .unset, .unset, .unset, .unset, .unset, .unset, .unset, .unset] [(.int (x1 &&& (2147483647 : Int32))), (.int (1 : Int32))])) (fun τ κ => XS.iand X0.here hx rfl (hb hby at_13) rfl κ) ?_
  refine Gl.st (g' := (mkF m 17 #[.val (.int x0), .val (.int x1), .val (.int x2), .val (.int x3), .val (.int x), .unset, .unset, .unset, .unset, .unset, .unset, .unset, .unset, .unset] [(.int (1024 : Int32)), (.int (x1 &&& (2147483647 : Int32))), (.int (1 : Int32))])) (fun τ κ => XS.sipush X0.here hx rfl (hb hby at_14) κ) ?_
  refine Gl.st (g' := (mkF m 19 #[.val (.int x0), .val (.int x1), .val (.int x2), .val (.int x3), .val (.int x), .unset, .unset, .unset, .unset, .unset, .unset, .unset, .unset, .unset] [(.int x), (.int (1024 : Int32)), (.int (x1 &&& (2147483647 : Int32))), (.int (1 : Int32))])) (fun τ κ => XS.iload X0.here hx rfl (hb hby at_17) rfl κ) ?_
  refine Gl.st (g' := (mkF m 20 #[.val (.int x0), .val (.int x1), .val (.int x2), .val (.int x3), .val (.int x), .unset, .unset, .unset, .unset, .unset, .unset, .unset, .unset, .unset] [(.int ((1024 : Int32) / x)), (.int (x1 &&& (2147483647 : Int32))), (.int (1 : Int32))])) (fun τ κ => XS.idiv X0.here hx rfl (hb hby at_19) rfl (own_nz fX.1) κ) ?_
  have fD := own_div fX.1 fX.2
  generalize ((1024 : Int32) / x) = d at fD ⊢
  refine Gl.st (g' := (mkF m 21 #[.val (.int x0), .val (.int x1), .val (.int x2), .val (.int x3), .val (.int x), .unset, .unset, .unset, .unset, .unset, .unset, .unset, .unset, .unset] [(.int ((x1 &&& (2147483647 : Int32)) % d)), (.int (1 : Int32))])) (fun τ κ => iremM (g := (mkF m 20 #[.val (.int x0), .val (.int x1), .val (.int x2), .val (.int x3), .val (.int x), .unset, .unset, .unset, .unset, .unset, .unset, .unset, .unset, .unset] [(.int d), (.int (x1 &&& (2147483647 : Int32))), (.int (1 : Int32))])) X0 hx rfl (hb hby at_20) rfl (own_nz (by omega)) κ) ?_
  refine Gl.st (g' := (mkF m 22 #[.val (.int x0), .val (.int x1), .val (.int x2), .val (.int x3), .val (.int x), .unset, .unset, .unset, .unset, .unset, .unset, .unset, .unset, .unset] [(.int ((1 : Int32) + ((x1 &&& (2147483647 : Int32)) % d)))])) (fun τ κ => XS.iadd X0.here hx rfl (hb hby at_21) rfl κ) ?_
  have fY0 := own_rem (p := x1) (d := d) (by omega) (by have := Int.ediv_le_self x.toInt (show (0 : Int) ≤ 1024 by decide); omega)
  generalize ((1 : Int32) + ((x1 &&& (2147483647 : Int32)) % d)) = y at fY0 ⊢
  have fXY : x.toInt * y.toInt ≤ 1024 := own_le (by omega) fD.2.2 (by omega)
  have fY : 1 ≤ y.toInt ∧ y.toInt ≤ 1024 := ⟨fY0.1, by have := Int.mul_le_mul_of_nonneg_right fX.1 (show 0 ≤ y.toInt by omega); omega⟩
  have fW := own_mul fX.1 fY.1 fXY
  refine Gl.st (g' := (mkF m 24 #[.val (.int x0), .val (.int x1), .val (.int x2), .val (.int x3), .val (.int x), .val (.int y), .unset, .unset, .unset, .unset, .unset, .unset, .unset, .unset] [])) (fun τ κ => XS.istore X0.here hx rfl (hb hby at_22) rfl (l' := #[.val (.int x0), .val (.int x1), .val (.int x2), .val (.int x3), .val (.int x), .val (.int y), .unset, .unset, .unset, .unset, .unset, .unset, .unset, .unset]) rfl κ) ?_
  refine Gl.st (g' := (mkF m 25 #[.val (.int x0), .val (.int x1), .val (.int x2), .val (.int x3), .val (.int x), .val (.int y), .unset, .unset, .unset, .unset, .unset, .unset, .unset, .unset] [(.int (1 : Int32))])) (fun τ κ => XS.iconst X0.here hx rfl (hb hby at_24) κ) ?_
  refine Gl.st (g' := (mkF m 26 #[.val (.int x0), .val (.int x1), .val (.int x2), .val (.int x3), .val (.int x), .val (.int y), .unset, .unset, .unset, .unset, .unset, .unset, .unset, .unset] [(.int x2), (.int (1 : Int32))])) (fun τ κ => XS.iloadN X0.here hx rfl (hb hby at_25) rfl κ) ?_
  refine Gl.st (g' := (mkF m 28 #[.val (.int x0), .val (.int x1), .val (.int x2), .val (.int x3), .val (.int x), .val (.int y), .unset, .unset, .unset, .unset, .unset, .unset, .unset, .unset] [(.int (2147483647 : Int32)), (.int x2), (.int (1 : Int32))])) (fun τ κ => X0.ldcInt hx hown (mvT hZ (hw _ (List.mem_of_getElem? (i := 0) rfl))) (g := (mkF m 26 #[.val (.int x0), .val (.int x1), .val (.int x2), .val (.int x3), .val (.int x), .val (.int y), .unset, .unset, .unset, .unset, .unset, .unset, .unset, .unset] [(.int x2), (.int (1 : Int32))])) rfl (hb hby at_26) _ κ) ?_
  refine Gl.st (g' := (mkF m 29 #[.val (.int x0), .val (.int x1), .val (.int x2), .val (.int x3), .val (.int x), .val (.int y), .unset, .unset, .unset, .unset, .unset, .unset, .unset, .unset] [(.int (x2 &&& (2147483647 : Int32))), (.int (1 : Int32))])) (fun τ κ => XS.iand X0.here hx rfl (hb hby at_28) rfl κ) ?_
  refine Gl.st (g' := (mkF m 31 #[.val (.int x0), .val (.int x1), .val (.int x2), .val (.int x3), .val (.int x), .val (.int y), .unset, .unset, .unset, .unset, .unset, .unset, .unset, .unset] [(.int (64 : Int32)), (.int (x2 &&& (2147483647 : Int32))), (.int (1 : Int32))])) (fun τ κ => XS.bipush X0.here hx rfl (hb hby at_29) κ) ?_
  refine Gl.st (g' := (mkF m 34 #[.val (.int x0), .val (.int x1), .val (.int x2), .val (.int x3), .val (.int x), .val (.int y), .unset, .unset, .unset, .unset, .unset, .unset, .unset, .unset] [(.int (1024 : Int32)), (.int (64 : Int32)), (.int (x2 &&& (2147483647 : Int32))), (.int (1 : Int32))])) (fun τ κ => XS.sipush X0.here hx rfl (hb hby at_31) κ) ?_
  refine Gl.st (g' := (mkF m 36 #[.val (.int x0), .val (.int x1), .val (.int x2), .val (.int x3), .val (.int x), .val (.int y), .unset, .unset, .unset, .unset, .unset, .unset, .unset, .unset] [(.int x), (.int (1024 : Int32)), (.int (64 : Int32)), (.int (x2 &&& (2147483647 : Int32))), (.int (1 : Int32))])) (fun τ κ => XS.iload X0.here hx rfl (hb hby at_34) rfl κ) ?_
  refine Gl.st (g' := (mkF m 38 #[.val (.int x0), .val (.int x1), .val (.int x2), .val (.int x3), .val (.int x), .val (.int y), .unset, .unset, .unset, .unset, .unset, .unset, .unset, .unset] [(.int y), (.int x), (.int (1024 : Int32)), (.int (64 : Int32)), (.int (x2 &&& (2147483647 : Int32))), (.int (1 : Int32))])) (fun τ κ => XS.iload X0.here hx rfl (hb hby at_36) rfl κ) ?_
  refine Gl.st (g' := (mkF m 39 #[.val (.int x0), .val (.int x1), .val (.int x2), .val (.int x3), .val (.int x), .val (.int y), .unset, .unset, .unset, .unset, .unset, .unset, .unset, .unset] [(.int (x * y)), (.int (1024 : Int32)), (.int (64 : Int32)), (.int (x2 &&& (2147483647 : Int32))), (.int (1 : Int32))])) (fun τ κ => XS.imul X0.here hx rfl (hb hby at_38) rfl κ) ?_
  refine Gl.st (g' := (mkF m 40 #[.val (.int x0), .val (.int x1), .val (.int x2), .val (.int x3), .val (.int x), .val (.int y), .unset, .unset, .unset, .unset, .unset, .unset, .unset, .unset] [(.int ((1024 : Int32) / (x * y))), (.int (64 : Int32)), (.int (x2 &&& (2147483647 : Int32))), (.int (1 : Int32))])) (fun τ κ => XS.idiv X0.here hx rfl (hb hby at_39) rfl (own_nz fW.2.1) κ) ?_
  have fD2 := own_div fW.2.1 fW.2.2
  generalize ((1024 : Int32) / (x * y)) = d2 at fD2 ⊢
  obtain ⟨rv45, _, ⟨T45, L45, k45, n45⟩, -, X45, ⟨Lc45, hQ45, l45, y45, z45⟩, st45⟩ := Jvm.LawKit.callS X0 hx (y := (⟨"java/lang/Math", "min", "(II)I"⟩ : MethodName)) hown (mvT hZ (hw _ (List.mem_of_getElem? (i := 1) rfl))) (mvT hZ (hw _ (List.mem_of_getElem? (i := 2) rfl))) (mvT hZ (hw _ (List.mem_of_getElem? (i := 3) rfl))) (mvT hZ (hw _ (List.mem_of_getElem? (i := 4) rfl))) (by decide) (backOf (W := 2) (rm1 l Z a0 hw [] (64 : Int32) d2 h0 n0 Z0 ) hZ (hw _ (List.mem_of_getElem? (i := 4) rfl)) (hw _ (List.mem_of_getElem? (i := 3) rfl)) (by decide) (by decide)) (g := (mkF m 40 #[.val (.int x0), .val (.int x1), .val (.int x2), .val (.int x3), .val (.int x), .val (.int y), .unset, .unset, .unset, .unset, .unset, .unset, .unset, .unset] [(.int d2), (.int (64 : Int32)), (.int (x2 &&& (2147483647 : Int32))), (.int (1 : Int32))])) rfl (by rw [hml]; rfl) (argsL := [(.int (64 : Int32)), (.int d2)]) (rest := [(.int (x2 &&& (2147483647 : Int32))), (.int (1 : Int32))]) (lenOf pd_1 rfl) rfl (by show 2 * 0 + _ ≤ _; exact Nat.le_of_eq rfl) (hb hby at_40) (fun _ _ => ⟨rfl, e0, (by decide : 0 + 0 ≤ _), (by decide : 0 + 0 ≤ _)⟩)
  dsimp only [Pt.U, Pt.locs, Pt.cells, Pt.slots] at X45 l45 y45 z45 st45 hQ45
  subst l45 y45 z45
  obtain ⟨rfl, N45q, e45⟩ := hQ45
  have N45 := Fr.app N0 N45q
  refine Gl.st (g' := (mkF m 43 #[.val (.int x0), .val (.int x1), .val (.int x2), .val (.int x3), .val (.int x), .val (.int y), .unset, .unset, .unset, .unset, .unset, .unset, .unset, .unset] [(.int (own_min (64 : Int32) d2)), (.int (x2 &&& (2147483647 : Int32))), (.int (1 : Int32))])) (fun τ κ => st45 _ κ) ?_
  have fM := own_min64 (d := d2) (by omega)
  generalize (own_min (64 : Int32) d2) = mm at fM ⊢
  refine Gl.st (g' := (mkF m 44 #[.val (.int x0), .val (.int x1), .val (.int x2), .val (.int x3), .val (.int x), .val (.int y), .unset, .unset, .unset, .unset, .unset, .unset, .unset, .unset] [(.int ((x2 &&& (2147483647 : Int32)) % mm)), (.int (1 : Int32))])) (fun τ κ => iremM (g := (mkF m 43 #[.val (.int x0), .val (.int x1), .val (.int x2), .val (.int x3), .val (.int x), .val (.int y), .unset, .unset, .unset, .unset, .unset, .unset, .unset, .unset] [(.int mm), (.int (x2 &&& (2147483647 : Int32))), (.int (1 : Int32))])) X45 hx rfl (hb hby at_43) rfl (own_nz (by omega)) κ) ?_
  refine Gl.st (g' := (mkF m 45 #[.val (.int x0), .val (.int x1), .val (.int x2), .val (.int x3), .val (.int x), .val (.int y), .unset, .unset, .unset, .unset, .unset, .unset, .unset, .unset] [(.int ((1 : Int32) + ((x2 &&& (2147483647 : Int32)) % mm)))])) (fun τ κ => XS.iadd X45.here hx rfl (hb hby at_44) rfl κ) ?_
  have fZ := own_rem (p := x2) (d := mm) (by omega) (by omega)
  generalize ((1 : Int32) + ((x2 &&& (2147483647 : Int32)) % mm)) = z at fZ ⊢
  have fWZ : (x * y).toInt * z.toInt ≤ 1024 := own_le (by omega) fD2.2.2 (by omega)
  have fC := own_mul fW.2.1 fZ.1 fWZ
  refine Gl.st (g' := (mkF m 47 #[.val (.int x0), .val (.int x1), .val (.int x2), .val (.int x3), .val (.int x), .val (.int y), .val (.int z), .unset, .unset, .unset, .unset, .unset, .unset, .unset] [])) (fun τ κ => XS.istore X45.here hx rfl (hb hby at_45) rfl (l' := #[.val (.int x0), .val (.int x1), .val (.int x2), .val (.int x3), .val (.int x), .val (.int y), .val (.int z), .unset, .unset, .unset, .unset, .unset, .unset, .unset]) rfl κ) ?_
  refine Gl.st (g' := (mkF m 49 #[.val (.int x0), .val (.int x1), .val (.int x2), .val (.int x3), .val (.int x), .val (.int y), .val (.int z), .unset, .unset, .unset, .unset, .unset, .unset, .unset] [(.int x)])) (fun τ κ => XS.iload X45.here hx rfl (hb hby at_47) rfl κ) ?_
  refine Gl.st (g' := (mkF m 51 #[.val (.int x0), .val (.int x1), .val (.int x2), .val (.int x3), .val (.int x), .val (.int y), .val (.int z), .unset, .unset, .unset, .unset, .unset, .unset, .unset] [(.int y), (.int x)])) (fun τ κ => XS.iload X45.here hx rfl (hb hby at_49) rfl κ) ?_
  refine Gl.st (g' := (mkF m 52 #[.val (.int x0), .val (.int x1), .val (.int x2), .val (.int x3), .val (.int x), .val (.int y), .val (.int z), .unset, .unset, .unset, .unset, .unset, .unset, .unset] [(.int (x * y))])) (fun τ κ => XS.imul X45.here hx rfl (hb hby at_51) rfl κ) ?_
  refine Gl.st (g' := (mkF m 54 #[.val (.int x0), .val (.int x1), .val (.int x2), .val (.int x3), .val (.int x), .val (.int y), .val (.int z), .unset, .unset, .unset, .unset, .unset, .unset, .unset] [(.int z), (.int (x * y))])) (fun τ κ => XS.iload X45.here hx rfl (hb hby at_52) rfl κ) ?_
  refine Gl.st (g' := (mkF m 55 #[.val (.int x0), .val (.int x1), .val (.int x2), .val (.int x3), .val (.int x), .val (.int y), .val (.int z), .unset, .unset, .unset, .unset, .unset, .unset, .unset] [(.int ((x * y) * z))])) (fun τ κ => XS.imul X45.here hx rfl (hb hby at_54) rfl κ) ?_
  refine Gl.st (g' := (mkF m 57 #[.val (.int x0), .val (.int x1), .val (.int x2), .val (.int x3), .val (.int x), .val (.int y), .val (.int z), .val (.int ((x * y) * z)), .unset, .unset, .unset, .unset, .unset, .unset] [])) (fun τ κ => XS.istore X45.here hx rfl (hb hby at_55) rfl (l' := #[.val (.int x0), .val (.int x1), .val (.int x2), .val (.int x3), .val (.int x), .val (.int y), .val (.int z), .val (.int ((x * y) * z)), .unset, .unset, .unset, .unset, .unset, .unset]) rfl κ) ?_
  refine Gl.st (g' := (mkF m 58 #[.val (.int x0), .val (.int x1), .val (.int x2), .val (.int x3), .val (.int x), .val (.int y), .val (.int z), .val (.int ((x * y) * z)), .unset, .unset, .unset, .unset, .unset, .unset] [(.int x3)])) (fun τ κ => XS.iloadN X45.here hx rfl (hb hby at_57) rfl κ) ?_
  refine Gl.st (g' := (mkF m 60 #[.val (.int x0), .val (.int x1), .val (.int x2), .val (.int x3), .val (.int x), .val (.int y), .val (.int z), .val (.int ((x * y) * z)), .unset, .unset, .unset, .unset, .unset, .unset] [(.int (2147483647 : Int32)), (.int x3)])) (fun τ κ => X45.ldcInt hx hown (mvT hZ (hw _ (List.mem_of_getElem? (i := 0) rfl))) (g := (mkF m 58 #[.val (.int x0), .val (.int x1), .val (.int x2), .val (.int x3), .val (.int x), .val (.int y), .val (.int z), .val (.int ((x * y) * z)), .unset, .unset, .unset, .unset, .unset, .unset] [(.int x3)])) rfl (hb hby at_58) _ κ) ?_
  refine Gl.st (g' := (mkF m 61 #[.val (.int x0), .val (.int x1), .val (.int x2), .val (.int x3), .val (.int x), .val (.int y), .val (.int z), .val (.int ((x * y) * z)), .unset, .unset, .unset, .unset, .unset, .unset] [(.int (x3 &&& (2147483647 : Int32)))])) (fun τ κ => XS.iand X45.here hx rfl (hb hby at_60) rfl κ) ?_
  refine Gl.st (g' := (mkF m 63 #[.val (.int x0), .val (.int x1), .val (.int x2), .val (.int x3), .val (.int x), .val (.int y), .val (.int z), .val (.int ((x * y) * z)), .unset, .unset, .unset, .unset, .unset, .unset] [(.int ((x * y) * z)), (.int (x3 &&& (2147483647 : Int32)))])) (fun τ κ => XS.iload X45.here hx rfl (hb hby at_61) rfl κ) ?_
  refine Gl.st (g' := (mkF m 64 #[.val (.int x0), .val (.int x1), .val (.int x2), .val (.int x3), .val (.int x), .val (.int y), .val (.int z), .val (.int ((x * y) * z)), .unset, .unset, .unset, .unset, .unset, .unset] [(.int ((x3 &&& (2147483647 : Int32)) % ((x * y) * z)))])) (fun τ κ => iremM (g := (mkF m 63 #[.val (.int x0), .val (.int x1), .val (.int x2), .val (.int x3), .val (.int x), .val (.int y), .val (.int z), .val (.int ((x * y) * z)), .unset, .unset, .unset, .unset, .unset, .unset] [(.int ((x * y) * z)), (.int (x3 &&& (2147483647 : Int32)))])) X45 hx rfl (hb hby at_63) rfl (own_nz fC.2.1) κ) ?_
  have fL := own_lin (p := x3) (d := (x * y) * z) fC.2.1
  generalize ((x3 &&& (2147483647 : Int32)) % ((x * y) * z)) = lin at fL ⊢
  have co := own_co (w := x * y) fX.1 fY.1 fZ.1 fW.1 fW.2 fWZ fL.1 (by omega) fX.2 fY.2
  refine Gl.st (g' := (mkF m 66 #[.val (.int x0), .val (.int x1), .val (.int x2), .val (.int x3), .val (.int x), .val (.int y), .val (.int z), .val (.int ((x * y) * z)), .val (.int lin), .unset, .unset, .unset, .unset, .unset] [])) (fun τ κ => XS.istore X45.here hx rfl (hb hby at_64) rfl (l' := #[.val (.int x0), .val (.int x1), .val (.int x2), .val (.int x3), .val (.int x), .val (.int y), .val (.int z), .val (.int ((x * y) * z)), .val (.int lin), .unset, .unset, .unset, .unset, .unset]) rfl κ) ?_
  obtain ⟨T46, h46, X46, e46, E46, A46, D46, -, st46⟩ := newO X45 hx hZ hown (hw _ (List.mem_of_getElem? (i := 5) rfl)) (hw _ (List.mem_of_getElem? (i := 6) rfl)) (hw _ (List.mem_of_getElem? (i := 7) rfl)) e45 (g := (mkF m 66 #[.val (.int x0), .val (.int x1), .val (.int x2), .val (.int x3), .val (.int x), .val (.int y), .val (.int z), .val (.int ((x * y) * z)), .val (.int lin), .unset, .unset, .unset, .unset, .unset] [])) rfl (hb hby at_66) (by decide) (by decide)
  obtain ⟨b46, g46⟩ : ∃ z, z = h0.size := ⟨_, rfl⟩
  rw [← g46] at A46 D46 st46
  have g_b46 : n0 ≤ b46 := Nat.le_trans Z0 (Nat.le_of_eq g46.symm)
  have sz_b46 : h0.size ≤ b46 := Nat.le_trans (Keep.refl h0 []).1 (Nat.le_of_eq g46.symm)
  have Z46 : n0 ≤ h46.size := Nat.le_trans Z0 E46.1
  have K46 : Keep h0 h46 [] := (Keep.refl h0 []).ext E46
  have F_47 : Fld Z h46 b46 "com/example/warpcheck/warpcheck/BlockShape" "x" "I" (.int (0 : Int32)) := D46 (Or.inr (hw _ (List.mem_of_getElem? (i := 20) rfl))) (ty := .int) (by decide)
  have F_48 : Fld Z h46 b46 "com/example/warpcheck/warpcheck/BlockShape" "y" "I" (.int (0 : Int32)) := D46 (Or.inr (hw _ (List.mem_of_getElem? (i := 22) rfl))) (ty := .int) (by decide)
  have F_49 : Fld Z h46 b46 "com/example/warpcheck/warpcheck/BlockShape" "z" "I" (.int (0 : Int32)) := D46 (Or.inr (hw _ (List.mem_of_getElem? (i := 24) rfl))) (ty := .int) (by decide)
  refine Gl.st (g' := (mkF m 69 #[.val (.int x0), .val (.int x1), .val (.int x2), .val (.int x3), .val (.int x), .val (.int y), .val (.int z), .val (.int ((x * y) * z)), .val (.int lin), .unset, .unset, .unset, .unset, .unset] [(.ref b46)])) (fun τ κ => st46 _ κ) ?_
  refine Gl.st (g' := (mkF m 70 #[.val (.int x0), .val (.int x1), .val (.int x2), .val (.int x3), .val (.int x), .val (.int y), .val (.int z), .val (.int ((x * y) * z)), .val (.int lin), .unset, .unset, .unset, .unset, .unset] [(.ref b46), (.ref b46)])) (fun τ κ => XS.dup X46.here hx rfl (hb hby at_69) rfl rfl κ) ?_
  refine Gl.st (g' := (mkF m 72 #[.val (.int x0), .val (.int x1), .val (.int x2), .val (.int x3), .val (.int x), .val (.int y), .val (.int z), .val (.int ((x * y) * z)), .val (.int lin), .unset, .unset, .unset, .unset, .unset] [(.int x), (.ref b46), (.ref b46)])) (fun τ κ => XS.iload X46.here hx rfl (hb hby at_70) rfl κ) ?_
  refine Gl.st (g' := (mkF m 74 #[.val (.int x0), .val (.int x1), .val (.int x2), .val (.int x3), .val (.int x), .val (.int y), .val (.int z), .val (.int ((x * y) * z)), .val (.int lin), .unset, .unset, .unset, .unset, .unset] [(.int y), (.int x), (.ref b46), (.ref b46)])) (fun τ κ => XS.iload X46.here hx rfl (hb hby at_72) rfl κ) ?_
  refine Gl.st (g' := (mkF m 76 #[.val (.int x0), .val (.int x1), .val (.int x2), .val (.int x3), .val (.int x), .val (.int y), .val (.int z), .val (.int ((x * y) * z)), .val (.int lin), .unset, .unset, .unset, .unset, .unset] [(.int z), (.int y), (.int x), (.ref b46), (.ref b46)])) (fun τ κ => XS.iload X46.here hx rfl (hb hby at_74) rfl κ) ?_
  obtain ⟨rv50, _, ⟨T50, L50, k50, n50⟩, -, X50, ⟨Lc50, hQ50, l50, y50, z50⟩, st50⟩ := X46.specialBack hx (y := (⟨"com/example/warpcheck/warpcheck/BlockShape", "<init>", "(III)V"⟩ : MethodName)) rfl hown (mvT hZ (hw _ (List.mem_of_getElem? (i := 8) rfl))) (mvT hZ (hw _ (List.mem_of_getElem? (i := 9) rfl))) (mvT hZ (hw _ (List.mem_of_getElem? (i := 10) rfl))) (by decide) (backOf (W := 1) (rm2 l Z a0 hw [] b46 x y z h46 n0 Z46 A46 g_b46 F_47 F_48 F_49) hZ (hw _ (List.mem_of_getElem? (i := 10) rfl)) (hw _ (List.mem_of_getElem? (i := 7) rfl)) (by decide) (by decide)) (g := (mkF m 76 #[.val (.int x0), .val (.int x1), .val (.int x2), .val (.int x3), .val (.int x), .val (.int y), .val (.int z), .val (.int ((x * y) * z)), .val (.int lin), .unset, .unset, .unset, .unset, .unset] [(.int z), (.int y), (.int x), (.ref b46), (.ref b46)])) rfl (by rw [hml]; rfl) (Steps.refl _) (a := b46) (argsL := [(.int x), (.int y), (.int z)]) (rest := [(.ref b46)]) (lenOf pd_2 rfl) rfl (by show 2 * 0 + _ ≤ _; exact Nat.le_of_eq rfl) (hb hby at_76) (fun _ _ => ⟨rfl, e46, (by decide : 1 + 0 ≤ _), (by decide : 3 + 0 ≤ _)⟩)
  dsimp only [Pt.U, Pt.locs, Pt.cells, Pt.slots] at X50 l50 y50 z50 st50 hQ50
  subst l50 y50 z50
  obtain ⟨rfl, N50q, Kc50, Ec50, Fc50_0, Fc50_1, Fc50_2⟩ := hQ50
  have E_51 := A46.keep Kc50
  have N50 := Fr.app N45 N50q
  have Z50 : n0 ≤ T50.heap.size := Nat.le_trans Z46 Kc50.1
  have K50 : Keep h0 T50.heap [] := K46.trans Kc50 (allS (Or.inr sz_b46) all0)
  refine Gl.st (g' := (mkF m 79 #[.val (.int x0), .val (.int x1), .val (.int x2), .val (.int x3), .val (.int x), .val (.int y), .val (.int z), .val (.int ((x * y) * z)), .val (.int lin), .unset, .unset, .unset, .unset, .unset] [(.ref b46)])) (fun τ κ => st50.trans κ) ?_
  refine Gl.st (g' := (mkF m 81 #[.val (.int x0), .val (.int x1), .val (.int x2), .val (.int x3), .val (.int x), .val (.int y), .val (.int z), .val (.int ((x * y) * z)), .val (.int lin), .val (.ref b46), .unset, .unset, .unset, .unset] [])) (fun τ κ => XS.astore X50.here hx rfl (hb hby at_79) rfl rfl (l' := #[.val (.int x0), .val (.int x1), .val (.int x2), .val (.int x3), .val (.int x), .val (.int y), .val (.int z), .val (.int ((x * y) * z)), .val (.int lin), .val (.ref b46), .unset, .unset, .unset, .unset]) rfl κ) ?_
  refine Gl.st (g' := (mkF m 83 #[.val (.int x0), .val (.int x1), .val (.int x2), .val (.int x3), .val (.int x), .val (.int y), .val (.int z), .val (.int ((x * y) * z)), .val (.int lin), .val (.ref b46), .unset, .unset, .unset, .unset] [(.ref b46)])) (fun τ κ => XS.aload X50.here hx rfl (hb hby at_81) rfl rfl κ) ?_
  refine Gl.st (g' := (mkF m 85 #[.val (.int x0), .val (.int x1), .val (.int x2), .val (.int x3), .val (.int x), .val (.int y), .val (.int z), .val (.int ((x * y) * z)), .val (.int lin), .val (.ref b46), .unset, .unset, .unset, .unset] [(.int lin), (.ref b46)])) (fun τ κ => XS.iload X50.here hx rfl (hb hby at_83) rfl κ) ?_
  obtain ⟨cq55, kq55, q55a, q55b, q55c⟩ := isOf hZ rfl Ec50
  obtain ⟨rv55, _, ⟨T55, L55, k55, n55⟩, -, X55, ⟨Lc55, hQ55, l55, y55, z55⟩, st55⟩ := X50.virtualBack hx (y := (⟨"com/example/warpcheck/warpcheck/BlockShape", "coordinates", "(I)[I"⟩ : MethodName)) (z := (⟨"com/example/warpcheck/warpcheck/BlockShape", "coordinates", "(I)[I"⟩ : MethodName)) hown (mvT hZ (hw _ (List.mem_of_getElem? (i := 25) rfl))) (mvT hZ (hw _ (List.mem_of_getElem? (i := 26) rfl))) (notFace_of_selects (args := #[]) (mvT hZ (hw _ (List.mem_of_getElem? (i := 28) rfl)))) (mvT hZ (hw _ (List.mem_of_getElem? (i := 28) rfl))) (mvT hZ (hw _ (List.mem_of_getElem? (i := 27) rfl))) (by decide) (backOf (W := 0) (rm5 l Z a0 hw [] b46 lin x y T50.heap n0 Z50 Fc50_0 Fc50_1 (own_nz fX.1) (own_nz fY.1) (own_nz fW.2.1)) hZ (hw _ (List.mem_of_getElem? (i := 29) rfl)) (hw _ (List.mem_of_getElem? (i := 7) rfl)) (by decide) (by decide)) q55a q55c (g := (mkF m 85 #[.val (.int x0), .val (.int x1), .val (.int x2), .val (.int x3), .val (.int x), .val (.int y), .val (.int z), .val (.int ((x * y) * z)), .val (.int lin), .val (.ref b46), .unset, .unset, .unset, .unset] [(.int lin), (.ref b46)])) rfl (by rw [hml]; rfl) (Steps.refl _) (argsL := [(.int lin)]) (rest := []) (lenOf pd_3 rfl) rfl (by show 2 * 0 + _ ≤ _; exact Nat.le_of_eq rfl) (hb hby at_85) (fun _ _ => ⟨rfl, rfl, (by decide : 1 + 1 ≤ _), (by decide : 3 + 3 ≤ _)⟩)
  dsimp only [Pt.U, Pt.locs, Pt.cells, Pt.slots] at X55 l55 y55 z55 st55 hQ55
  subst l55 y55 z55
  obtain ⟨b55, kk55, rfl, N55q, Kc55, s55, V55⟩ := hQ55
  have ne_b46_b55 : b46 ≠ b55 := Nat.ne_of_lt (Nat.lt_of_lt_of_le Ec50.lt s55)
  have g_b55 : n0 ≤ b55 := Nat.le_trans Z50 s55
  have sz_b55 : h0.size ≤ b55 := Nat.le_trans K50.1 s55
  have E_56 := Ec50.keep Kc55
  have F_57 := Fc50_0.keep Kc55 nin0
  have F_58 := Fc50_1.keep Kc55 nin0
  have F_59 := Fc50_2.keep Kc55 nin0
  have N55 := Fr.app N50 N55q
  have Z55 : n0 ≤ T55.heap.size := Nat.le_trans Z50 Kc55.1
  have K55 : Keep h0 T55.heap [] := K50.trans Kc55 all0
  refine Gl.st (g' := (mkF m 88 #[.val (.int x0), .val (.int x1), .val (.int x2), .val (.int x3), .val (.int x), .val (.int y), .val (.int z), .val (.int ((x * y) * z)), .val (.int lin), .val (.ref b46), .unset, .unset, .unset, .unset] [(.ref b55)])) (fun τ κ => st55.trans κ) ?_
  refine Gl.st (g' := (mkF m 90 #[.val (.int x0), .val (.int x1), .val (.int x2), .val (.int x3), .val (.int x), .val (.int y), .val (.int z), .val (.int ((x * y) * z)), .val (.int lin), .val (.ref b46), .val (.ref b55), .unset, .unset, .unset] [])) (fun τ κ => XS.astore X55.here hx rfl (hb hby at_88) rfl rfl (l' := #[.val (.int x0), .val (.int x1), .val (.int x2), .val (.int x3), .val (.int x), .val (.int y), .val (.int z), .val (.int ((x * y) * z)), .val (.int lin), .val (.ref b46), .val (.ref b55), .unset, .unset, .unset]) rfl κ) ?_
  refine Gl.st (g' := (mkF m 92 #[.val (.int x0), .val (.int x1), .val (.int x2), .val (.int x3), .val (.int x), .val (.int y), .val (.int z), .val (.int ((x * y) * z)), .val (.int lin), .val (.ref b46), .val (.ref b55), .unset, .unset, .unset] [(.ref b55)])) (fun τ κ => XS.aload X55.here hx rfl (hb hby at_90) rfl rfl κ) ?_
  refine Gl.st (g' := (mkF m 95 #[.val (.int x0), .val (.int x1), .val (.int x2), .val (.int x3), .val (.int x), .val (.int y), .val (.int z), .val (.int ((x * y) * z)), .val (.int lin), .val (.ref b46), .val (.ref b55), .unset, .unset, .unset] [])) (fun τ κ => XS.ifnullNo X55.here hx rfl (hb hby at_92) rfl κ) ?_
  refine Gl.st (g' := (mkF m 97 #[.val (.int x0), .val (.int x1), .val (.int x2), .val (.int x3), .val (.int x), .val (.int y), .val (.int z), .val (.int ((x * y) * z)), .val (.int lin), .val (.ref b46), .val (.ref b55), .unset, .unset, .unset] [(.ref b55)])) (fun τ κ => XS.aload X55.here hx rfl (hb hby at_95) rfl rfl κ) ?_
  obtain ⟨cl_o60, Ar_o60, q_o60, S_o60, M_o60, H_o60, G_o60⟩ := id V55
  refine Gl.st (g' := (mkF m 98 #[.val (.int x0), .val (.int x1), .val (.int x2), .val (.int x3), .val (.int x), .val (.int y), .val (.int z), .val (.int ((x * y) * z)), .val (.int lin), .val (.ref b46), .val (.ref b55), .unset, .unset, .unset] [(.int (3 : Int32))])) (fun τ κ => X55.arraylength hx Ar_o60.1 (State.isArrayOf_alike hZ.alike Ar_o60.2.1) (g := (mkF m 97 #[.val (.int x0), .val (.int x1), .val (.int x2), .val (.int x3), .val (.int x), .val (.int y), .val (.int z), .val (.int ((x * y) * z)), .val (.int lin), .val (.ref b46), .val (.ref b55), .unset, .unset, .unset] [(.ref b55)])) rfl rfl (hb hby at_97) _ (by rw [len_of S_o60 M_o60]; exact κ)) ?_
  refine Gl.st (g' := (mkF m 99 #[.val (.int x0), .val (.int x1), .val (.int x2), .val (.int x3), .val (.int x), .val (.int y), .val (.int z), .val (.int ((x * y) * z)), .val (.int lin), .val (.ref b46), .val (.ref b55), .unset, .unset, .unset] [(.int (3 : Int32)), (.int (3 : Int32))])) (fun τ κ => XS.iconst X55.here hx rfl (hb hby at_98) κ) ?_
  have hc61 : (3 : Int32) = (3 : Int32) := by decide
  refine Gl.st (g' := (mkF m 104 #[.val (.int x0), .val (.int x1), .val (.int x2), .val (.int x3), .val (.int x), .val (.int y), .val (.int z), .val (.int ((x * y) * z)), .val (.int lin), .val (.ref b46), .val (.ref b55), .unset, .unset, .unset] [])) (fun τ κ => XS.icmpYes X55.here hx rfl (pc0 := 99) (pc' := 104) rfl (hb hby at_99) rfl (teq hc61).1 (by decide) (by decide) κ) ?_
  refine Gl.st (g' := (mkF m 106 #[.val (.int x0), .val (.int x1), .val (.int x2), .val (.int x3), .val (.int x), .val (.int y), .val (.int z), .val (.int ((x * y) * z)), .val (.int lin), .val (.ref b46), .val (.ref b55), .unset, .unset, .unset] [(.ref b55)])) (fun τ κ => XS.aload X55.here hx rfl (hb hby at_104) rfl rfl κ) ?_
  refine Gl.st (g' := (mkF m 107 #[.val (.int x0), .val (.int x1), .val (.int x2), .val (.int x3), .val (.int x), .val (.int y), .val (.int z), .val (.int ((x * y) * z)), .val (.int lin), .val (.ref b46), .val (.ref b55), .unset, .unset, .unset] [(.int (0 : Int32)), (.ref b55)])) (fun τ κ => XS.iconst X55.here hx rfl (hb hby at_106) κ) ?_
  obtain ⟨cl_o62, Ar_o62, q_o62, S_o62, M_o62, H_o62, G_o62⟩ := id V55
  have hin_o62 : ¬ ((0 : Int32) < 0 ∨ cl_o62.slots.size ≤ ((0 : Int32)).toNatClampNeg) := inb_of S_o62 ⟨by decide, by decide⟩
  refine Gl.st (g' := (mkF m 108 #[.val (.int x0), .val (.int x1), .val (.int x2), .val (.int x3), .val (.int x), .val (.int y), .val (.int z), .val (.int ((x * y) * z)), .val (.int lin), .val (.ref b46), .val (.ref b55), .unset, .unset, .unset] [(.int (lin % x))])) (fun τ κ => X55.iaload hx (j := (0 : Int32)) (v := (.int (lin % x))) Ar_o62.1 (State.isArrayOf_alike hZ.alike Ar_o62.2.1) Ar_o62.2.2 hin_o62 (H_o62 0 (by rw [S_o62]; decide)) (g := (mkF m 107 #[.val (.int x0), .val (.int x1), .val (.int x2), .val (.int x3), .val (.int x), .val (.int y), .val (.int z), .val (.int ((x * y) * z)), .val (.int lin), .val (.ref b46), .val (.ref b55), .unset, .unset, .unset] [(.int (0 : Int32)), (.ref b55)])) rfl rfl (hb hby at_107) _ κ) ?_
  refine Gl.st (g' := (mkF m 110 #[.val (.int x0), .val (.int x1), .val (.int x2), .val (.int x3), .val (.int x), .val (.int y), .val (.int z), .val (.int ((x * y) * z)), .val (.int lin), .val (.ref b46), .val (.ref b55), .val (.int (lin % x)), .unset, .unset] [])) (fun τ κ => XS.istore X55.here hx rfl (hb hby at_108) rfl (l' := #[.val (.int x0), .val (.int x1), .val (.int x2), .val (.int x3), .val (.int x), .val (.int y), .val (.int z), .val (.int ((x * y) * z)), .val (.int lin), .val (.ref b46), .val (.ref b55), .val (.int (lin % x)), .unset, .unset]) rfl κ) ?_
  refine Gl.st (g' := (mkF m 112 #[.val (.int x0), .val (.int x1), .val (.int x2), .val (.int x3), .val (.int x), .val (.int y), .val (.int z), .val (.int ((x * y) * z)), .val (.int lin), .val (.ref b46), .val (.ref b55), .val (.int (lin % x)), .unset, .unset] [(.ref b55)])) (fun τ κ => XS.aload X55.here hx rfl (hb hby at_110) rfl rfl κ) ?_
  refine Gl.st (g' := (mkF m 113 #[.val (.int x0), .val (.int x1), .val (.int x2), .val (.int x3), .val (.int x), .val (.int y), .val (.int z), .val (.int ((x * y) * z)), .val (.int lin), .val (.ref b46), .val (.ref b55), .val (.int (lin % x)), .unset, .unset] [(.int (1 : Int32)), (.ref b55)])) (fun τ κ => XS.iconst X55.here hx rfl (hb hby at_112) κ) ?_
  obtain ⟨cl_o63, Ar_o63, q_o63, S_o63, M_o63, H_o63, G_o63⟩ := id V55
  have hin_o63 : ¬ ((1 : Int32) < 0 ∨ cl_o63.slots.size ≤ ((1 : Int32)).toNatClampNeg) := inb_of S_o63 ⟨by decide, by decide⟩
  refine Gl.st (g' := (mkF m 114 #[.val (.int x0), .val (.int x1), .val (.int x2), .val (.int x3), .val (.int x), .val (.int y), .val (.int z), .val (.int ((x * y) * z)), .val (.int lin), .val (.ref b46), .val (.ref b55), .val (.int (lin % x)), .unset, .unset] [(.int ((lin / x) % y))])) (fun τ κ => X55.iaload hx (j := (1 : Int32)) (v := (.int ((lin / x) % y))) Ar_o63.1 (State.isArrayOf_alike hZ.alike Ar_o63.2.1) Ar_o63.2.2 hin_o63 (H_o63 1 (by rw [S_o63]; decide)) (g := (mkF m 113 #[.val (.int x0), .val (.int x1), .val (.int x2), .val (.int x3), .val (.int x), .val (.int y), .val (.int z), .val (.int ((x * y) * z)), .val (.int lin), .val (.ref b46), .val (.ref b55), .val (.int (lin % x)), .unset, .unset] [(.int (1 : Int32)), (.ref b55)])) rfl rfl (hb hby at_113) _ κ) ?_
  refine Gl.st (g' := (mkF m 116 #[.val (.int x0), .val (.int x1), .val (.int x2), .val (.int x3), .val (.int x), .val (.int y), .val (.int z), .val (.int ((x * y) * z)), .val (.int lin), .val (.ref b46), .val (.ref b55), .val (.int (lin % x)), .val (.int ((lin / x) % y)), .unset] [])) (fun τ κ => XS.istore X55.here hx rfl (hb hby at_114) rfl (l' := #[.val (.int x0), .val (.int x1), .val (.int x2), .val (.int x3), .val (.int x), .val (.int y), .val (.int z), .val (.int ((x * y) * z)), .val (.int lin), .val (.ref b46), .val (.ref b55), .val (.int (lin % x)), .val (.int ((lin / x) % y)), .unset]) rfl κ) ?_
  refine Gl.st (g' := (mkF m 118 #[.val (.int x0), .val (.int x1), .val (.int x2), .val (.int x3), .val (.int x), .val (.int y), .val (.int z), .val (.int ((x * y) * z)), .val (.int lin), .val (.ref b46), .val (.ref b55), .val (.int (lin % x)), .val (.int ((lin / x) % y)), .unset] [(.ref b55)])) (fun τ κ => XS.aload X55.here hx rfl (hb hby at_116) rfl rfl κ) ?_
  refine Gl.st (g' := (mkF m 119 #[.val (.int x0), .val (.int x1), .val (.int x2), .val (.int x3), .val (.int x), .val (.int y), .val (.int z), .val (.int ((x * y) * z)), .val (.int lin), .val (.ref b46), .val (.ref b55), .val (.int (lin % x)), .val (.int ((lin / x) % y)), .unset] [(.int (2 : Int32)), (.ref b55)])) (fun τ κ => XS.iconst X55.here hx rfl (hb hby at_118) κ) ?_
  obtain ⟨cl_o64, Ar_o64, q_o64, S_o64, M_o64, H_o64, G_o64⟩ := id V55
  have hin_o64 : ¬ ((2 : Int32) < 0 ∨ cl_o64.slots.size ≤ ((2 : Int32)).toNatClampNeg) := inb_of S_o64 ⟨by decide, by decide⟩
  refine Gl.st (g' := (mkF m 120 #[.val (.int x0), .val (.int x1), .val (.int x2), .val (.int x3), .val (.int x), .val (.int y), .val (.int z), .val (.int ((x * y) * z)), .val (.int lin), .val (.ref b46), .val (.ref b55), .val (.int (lin % x)), .val (.int ((lin / x) % y)), .unset] [(.int (lin / (x * y)))])) (fun τ κ => X55.iaload hx (j := (2 : Int32)) (v := (.int (lin / (x * y)))) Ar_o64.1 (State.isArrayOf_alike hZ.alike Ar_o64.2.1) Ar_o64.2.2 hin_o64 (H_o64 2 (by rw [S_o64]; decide)) (g := (mkF m 119 #[.val (.int x0), .val (.int x1), .val (.int x2), .val (.int x3), .val (.int x), .val (.int y), .val (.int z), .val (.int ((x * y) * z)), .val (.int lin), .val (.ref b46), .val (.ref b55), .val (.int (lin % x)), .val (.int ((lin / x) % y)), .unset] [(.int (2 : Int32)), (.ref b55)])) rfl rfl (hb hby at_119) _ κ) ?_
  refine Gl.st (g' := (mkF m 122 #[.val (.int x0), .val (.int x1), .val (.int x2), .val (.int x3), .val (.int x), .val (.int y), .val (.int z), .val (.int ((x * y) * z)), .val (.int lin), .val (.ref b46), .val (.ref b55), .val (.int (lin % x)), .val (.int ((lin / x) % y)), .val (.int (lin / (x * y)))] [])) (fun τ κ => XS.istore X55.here hx rfl (hb hby at_120) rfl (l' := #[.val (.int x0), .val (.int x1), .val (.int x2), .val (.int x3), .val (.int x), .val (.int y), .val (.int z), .val (.int ((x * y) * z)), .val (.int lin), .val (.ref b46), .val (.ref b55), .val (.int (lin % x)), .val (.int ((lin / x) % y)), .val (.int (lin / (x * y)))]) rfl κ) ?_
  refine Gl.st (g' := (mkF m 124 #[.val (.int x0), .val (.int x1), .val (.int x2), .val (.int x3), .val (.int x), .val (.int y), .val (.int z), .val (.int ((x * y) * z)), .val (.int lin), .val (.ref b46), .val (.ref b55), .val (.int (lin % x)), .val (.int ((lin / x) % y)), .val (.int (lin / (x * y)))] [(.int (lin % x))])) (fun τ κ => XS.iload X55.here hx rfl (hb hby at_122) rfl κ) ?_
  have hc65 : ¬ ((lin % x) < (0 : Int32)) := co.1.1
  refine Gl.st (g' := (mkF m 127 #[.val (.int x0), .val (.int x1), .val (.int x2), .val (.int x3), .val (.int x), .val (.int y), .val (.int z), .val (.int ((x * y) * z)), .val (.int lin), .val (.ref b46), .val (.ref b55), .val (.int (lin % x)), .val (.int ((lin / x) % y)), .val (.int (lin / (x * y)))] [])) (fun τ κ => XS.ifNo X55.here hx rfl (hb hby at_124) rfl ((if0 _ _).trans (flt hc65).1) κ) ?_
  refine Gl.st (g' := (mkF m 129 #[.val (.int x0), .val (.int x1), .val (.int x2), .val (.int x3), .val (.int x), .val (.int y), .val (.int z), .val (.int ((x * y) * z)), .val (.int lin), .val (.ref b46), .val (.ref b55), .val (.int (lin % x)), .val (.int ((lin / x) % y)), .val (.int (lin / (x * y)))] [(.int (lin % x))])) (fun τ κ => XS.iload X55.here hx rfl (hb hby at_127) rfl κ) ?_
  refine Gl.st (g' := (mkF m 131 #[.val (.int x0), .val (.int x1), .val (.int x2), .val (.int x3), .val (.int x), .val (.int y), .val (.int z), .val (.int ((x * y) * z)), .val (.int lin), .val (.ref b46), .val (.ref b55), .val (.int (lin % x)), .val (.int ((lin / x) % y)), .val (.int (lin / (x * y)))] [(.int x), (.int (lin % x))])) (fun τ κ => XS.iload X55.here hx rfl (hb hby at_129) rfl κ) ?_
  have hc66 : (lin % x) < x := co.1.2
  refine Gl.st (g' := (mkF m 134 #[.val (.int x0), .val (.int x1), .val (.int x2), .val (.int x3), .val (.int x), .val (.int y), .val (.int z), .val (.int ((x * y) * z)), .val (.int lin), .val (.ref b46), .val (.ref b55), .val (.int (lin % x)), .val (.int ((lin / x) % y)), .val (.int (lin / (x * y)))] [])) (fun τ κ => XS.icmpNo X55.here hx rfl (hb hby at_131) rfl (tlt hc66).2.1 κ) ?_
  refine Gl.st (g' := (mkF m 136 #[.val (.int x0), .val (.int x1), .val (.int x2), .val (.int x3), .val (.int x), .val (.int y), .val (.int z), .val (.int ((x * y) * z)), .val (.int lin), .val (.ref b46), .val (.ref b55), .val (.int (lin % x)), .val (.int ((lin / x) % y)), .val (.int (lin / (x * y)))] [(.int ((lin / x) % y))])) (fun τ κ => XS.iload X55.here hx rfl (hb hby at_134) rfl κ) ?_
  have hc67 : ¬ (((lin / x) % y) < (0 : Int32)) := co.2.1.1
  refine Gl.st (g' := (mkF m 139 #[.val (.int x0), .val (.int x1), .val (.int x2), .val (.int x3), .val (.int x), .val (.int y), .val (.int z), .val (.int ((x * y) * z)), .val (.int lin), .val (.ref b46), .val (.ref b55), .val (.int (lin % x)), .val (.int ((lin / x) % y)), .val (.int (lin / (x * y)))] [])) (fun τ κ => XS.ifNo X55.here hx rfl (hb hby at_136) rfl ((if0 _ _).trans (flt hc67).1) κ) ?_
  refine Gl.st (g' := (mkF m 141 #[.val (.int x0), .val (.int x1), .val (.int x2), .val (.int x3), .val (.int x), .val (.int y), .val (.int z), .val (.int ((x * y) * z)), .val (.int lin), .val (.ref b46), .val (.ref b55), .val (.int (lin % x)), .val (.int ((lin / x) % y)), .val (.int (lin / (x * y)))] [(.int ((lin / x) % y))])) (fun τ κ => XS.iload X55.here hx rfl (hb hby at_139) rfl κ) ?_
  refine Gl.st (g' := (mkF m 143 #[.val (.int x0), .val (.int x1), .val (.int x2), .val (.int x3), .val (.int x), .val (.int y), .val (.int z), .val (.int ((x * y) * z)), .val (.int lin), .val (.ref b46), .val (.ref b55), .val (.int (lin % x)), .val (.int ((lin / x) % y)), .val (.int (lin / (x * y)))] [(.int y), (.int ((lin / x) % y))])) (fun τ κ => XS.iload X55.here hx rfl (hb hby at_141) rfl κ) ?_
  have hc68 : ((lin / x) % y) < y := co.2.1.2
  refine Gl.st (g' := (mkF m 146 #[.val (.int x0), .val (.int x1), .val (.int x2), .val (.int x3), .val (.int x), .val (.int y), .val (.int z), .val (.int ((x * y) * z)), .val (.int lin), .val (.ref b46), .val (.ref b55), .val (.int (lin % x)), .val (.int ((lin / x) % y)), .val (.int (lin / (x * y)))] [])) (fun τ κ => XS.icmpNo X55.here hx rfl (hb hby at_143) rfl (tlt hc68).2.1 κ) ?_
  refine Gl.st (g' := (mkF m 148 #[.val (.int x0), .val (.int x1), .val (.int x2), .val (.int x3), .val (.int x), .val (.int y), .val (.int z), .val (.int ((x * y) * z)), .val (.int lin), .val (.ref b46), .val (.ref b55), .val (.int (lin % x)), .val (.int ((lin / x) % y)), .val (.int (lin / (x * y)))] [(.int (lin / (x * y)))])) (fun τ κ => XS.iload X55.here hx rfl (hb hby at_146) rfl κ) ?_
  have hc69 : ¬ ((lin / (x * y)) < (0 : Int32)) := co.2.2.1.1
  refine Gl.st (g' := (mkF m 151 #[.val (.int x0), .val (.int x1), .val (.int x2), .val (.int x3), .val (.int x), .val (.int y), .val (.int z), .val (.int ((x * y) * z)), .val (.int lin), .val (.ref b46), .val (.ref b55), .val (.int (lin % x)), .val (.int ((lin / x) % y)), .val (.int (lin / (x * y)))] [])) (fun τ κ => XS.ifNo X55.here hx rfl (hb hby at_148) rfl ((if0 _ _).trans (flt hc69).1) κ) ?_
  refine Gl.st (g' := (mkF m 153 #[.val (.int x0), .val (.int x1), .val (.int x2), .val (.int x3), .val (.int x), .val (.int y), .val (.int z), .val (.int ((x * y) * z)), .val (.int lin), .val (.ref b46), .val (.ref b55), .val (.int (lin % x)), .val (.int ((lin / x) % y)), .val (.int (lin / (x * y)))] [(.int (lin / (x * y)))])) (fun τ κ => XS.iload X55.here hx rfl (hb hby at_151) rfl κ) ?_
  refine Gl.st (g' := (mkF m 155 #[.val (.int x0), .val (.int x1), .val (.int x2), .val (.int x3), .val (.int x), .val (.int y), .val (.int z), .val (.int ((x * y) * z)), .val (.int lin), .val (.ref b46), .val (.ref b55), .val (.int (lin % x)), .val (.int ((lin / x) % y)), .val (.int (lin / (x * y)))] [(.int z), (.int (lin / (x * y)))])) (fun τ κ => XS.iload X55.here hx rfl (hb hby at_153) rfl κ) ?_
  have hc70 : (lin / (x * y)) < z := co.2.2.1.2
  refine Gl.st (g' := (mkF m 160 #[.val (.int x0), .val (.int x1), .val (.int x2), .val (.int x3), .val (.int x), .val (.int y), .val (.int z), .val (.int ((x * y) * z)), .val (.int lin), .val (.ref b46), .val (.ref b55), .val (.int (lin % x)), .val (.int ((lin / x) % y)), .val (.int (lin / (x * y)))] [])) (fun τ κ => XS.icmpYes X55.here hx rfl (pc0 := 155) (pc' := 160) rfl (hb hby at_155) rfl (tlt hc70).1 (by decide) (by decide) κ) ?_
  refine Gl.st (g' := (mkF m 162 #[.val (.int x0), .val (.int x1), .val (.int x2), .val (.int x3), .val (.int x), .val (.int y), .val (.int z), .val (.int ((x * y) * z)), .val (.int lin), .val (.ref b46), .val (.ref b55), .val (.int (lin % x)), .val (.int ((lin / x) % y)), .val (.int (lin / (x * y)))] [(.int (lin % x))])) (fun τ κ => XS.iload X55.here hx rfl (hb hby at_160) rfl κ) ?_
  refine Gl.st (g' := (mkF m 164 #[.val (.int x0), .val (.int x1), .val (.int x2), .val (.int x3), .val (.int x), .val (.int y), .val (.int z), .val (.int ((x * y) * z)), .val (.int lin), .val (.ref b46), .val (.ref b55), .val (.int (lin % x)), .val (.int ((lin / x) % y)), .val (.int (lin / (x * y)))] [(.int x), (.int (lin % x))])) (fun τ κ => XS.iload X55.here hx rfl (hb hby at_162) rfl κ) ?_
  refine Gl.st (g' := (mkF m 166 #[.val (.int x0), .val (.int x1), .val (.int x2), .val (.int x3), .val (.int x), .val (.int y), .val (.int z), .val (.int ((x * y) * z)), .val (.int lin), .val (.ref b46), .val (.ref b55), .val (.int (lin % x)), .val (.int ((lin / x) % y)), .val (.int (lin / (x * y)))] [(.int ((lin / x) % y)), (.int x), (.int (lin % x))])) (fun τ κ => XS.iload X55.here hx rfl (hb hby at_164) rfl κ) ?_
  refine Gl.st (g' := (mkF m 168 #[.val (.int x0), .val (.int x1), .val (.int x2), .val (.int x3), .val (.int x), .val (.int y), .val (.int z), .val (.int ((x * y) * z)), .val (.int lin), .val (.ref b46), .val (.ref b55), .val (.int (lin % x)), .val (.int ((lin / x) % y)), .val (.int (lin / (x * y)))] [(.int y), (.int ((lin / x) % y)), (.int x), (.int (lin % x))])) (fun τ κ => XS.iload X55.here hx rfl (hb hby at_166) rfl κ) ?_
  refine Gl.st (g' := (mkF m 170 #[.val (.int x0), .val (.int x1), .val (.int x2), .val (.int x3), .val (.int x), .val (.int y), .val (.int z), .val (.int ((x * y) * z)), .val (.int lin), .val (.ref b46), .val (.ref b55), .val (.int (lin % x)), .val (.int ((lin / x) % y)), .val (.int (lin / (x * y)))] [(.int (lin / (x * y))), (.int y), (.int ((lin / x) % y)), (.int x), (.int (lin % x))])) (fun τ κ => XS.iload X55.here hx rfl (hb hby at_168) rfl κ) ?_
  refine Gl.st (g' := (mkF m 171 #[.val (.int x0), .val (.int x1), .val (.int x2), .val (.int x3), .val (.int x), .val (.int y), .val (.int z), .val (.int ((x * y) * z)), .val (.int lin), .val (.ref b46), .val (.ref b55), .val (.int (lin % x)), .val (.int ((lin / x) % y)), .val (.int (lin / (x * y)))] [(.int (y * (lin / (x * y)))), (.int ((lin / x) % y)), (.int x), (.int (lin % x))])) (fun τ κ => XS.imul X55.here hx rfl (hb hby at_170) rfl κ) ?_
  refine Gl.st (g' := (mkF m 172 #[.val (.int x0), .val (.int x1), .val (.int x2), .val (.int x3), .val (.int x), .val (.int y), .val (.int z), .val (.int ((x * y) * z)), .val (.int lin), .val (.ref b46), .val (.ref b55), .val (.int (lin % x)), .val (.int ((lin / x) % y)), .val (.int (lin / (x * y)))] [(.int (((lin / x) % y) + (y * (lin / (x * y))))), (.int x), (.int (lin % x))])) (fun τ κ => XS.iadd X55.here hx rfl (hb hby at_171) rfl κ) ?_
  refine Gl.st (g' := (mkF m 173 #[.val (.int x0), .val (.int x1), .val (.int x2), .val (.int x3), .val (.int x), .val (.int y), .val (.int z), .val (.int ((x * y) * z)), .val (.int lin), .val (.ref b46), .val (.ref b55), .val (.int (lin % x)), .val (.int ((lin / x) % y)), .val (.int (lin / (x * y)))] [(.int (x * (((lin / x) % y) + (y * (lin / (x * y)))))), (.int (lin % x))])) (fun τ κ => XS.imul X55.here hx rfl (hb hby at_172) rfl κ) ?_
  refine Gl.st (g' := (mkF m 174 #[.val (.int x0), .val (.int x1), .val (.int x2), .val (.int x3), .val (.int x), .val (.int y), .val (.int z), .val (.int ((x * y) * z)), .val (.int lin), .val (.ref b46), .val (.ref b55), .val (.int (lin % x)), .val (.int ((lin / x) % y)), .val (.int (lin / (x * y)))] [(.int ((lin % x) + (x * (((lin / x) % y) + (y * (lin / (x * y)))))))])) (fun τ κ => XS.iadd X55.here hx rfl (hb hby at_173) rfl κ) ?_
  refine Gl.st (g' := (mkF m 176 #[.val (.int x0), .val (.int x1), .val (.int x2), .val (.int x3), .val (.int x), .val (.int y), .val (.int z), .val (.int ((x * y) * z)), .val (.int lin), .val (.ref b46), .val (.ref b55), .val (.int (lin % x)), .val (.int ((lin / x) % y)), .val (.int (lin / (x * y)))] [(.int lin), (.int ((lin % x) + (x * (((lin / x) % y) + (y * (lin / (x * y)))))))])) (fun τ κ => XS.iload X55.here hx rfl (hb hby at_174) rfl κ) ?_
  have hc71 : ((lin % x) + (x * (((lin / x) % y) + (y * (lin / (x * y)))))) = lin := co.2.2.2
  refine Gl.st (g' := (mkF m 179 #[.val (.int x0), .val (.int x1), .val (.int x2), .val (.int x3), .val (.int x), .val (.int y), .val (.int z), .val (.int ((x * y) * z)), .val (.int lin), .val (.ref b46), .val (.ref b55), .val (.int (lin % x)), .val (.int ((lin / x) % y)), .val (.int (lin / (x * y)))] [])) (fun τ κ => XS.icmpNo X55.here hx rfl (hb hby at_176) rfl (teq hc71).2 κ) ?_
  refine Gl.st (g' := (mkF m 180 #[.val (.int x0), .val (.int x1), .val (.int x2), .val (.int x3), .val (.int x), .val (.int y), .val (.int z), .val (.int ((x * y) * z)), .val (.int lin), .val (.ref b46), .val (.ref b55), .val (.int (lin % x)), .val (.int ((lin / x) % y)), .val (.int (lin / (x * y)))] [(.int (1 : Int32))])) (fun τ κ => XS.iconst X55.here hx rfl (hb hby at_179) κ) ?_
  refine Gl.st (g' := (mkF m 184 #[.val (.int x0), .val (.int x1), .val (.int x2), .val (.int x3), .val (.int x), .val (.int y), .val (.int z), .val (.int ((x * y) * z)), .val (.int lin), .val (.ref b46), .val (.ref b55), .val (.int (lin % x)), .val (.int ((lin / x) % y)), .val (.int (lin / (x * y)))] [(.int (1 : Int32))])) (fun τ κ => XS.goto X55.here hx rfl (pc0 := 180) (pc' := 184) rfl (hb hby at_180) (by decide) (by decide) κ) ?_
  exact Gl.ret (v := some (.int (1 : Int32))) X55 Bd.notSynchronized (fun h => by rw [Bd.returns] at h; cases h) rfl (fun fs hr => retN X55 hx (t := .boolean) Bd.returns (by simp) (hb hby at_184) hr) (by decide) (by decide) ⟨rfl, N55⟩
set_option maxRecDepth 65536 in
set_option maxHeartbeats 40000000 in
theorem comes_1 {Post : Tables → Env → Array Value → State → Outcome → State → Prop} (hpost : ∀ tb e args s v u, (limb_1_1.after args s (.returned v) u = true ∧ limb_1_2.after args s (.returned v) u = true ∧ True) → FrameEnd s (.returned v) u (Jvm.fieldLocs frame_1_writes args s ++ Jvm.arrayLocs frame_1_arrays args s ++ Jvm.staticLocs frame_1_statics s) 16 128 → Post tb e args s (.returned v) u) :
    ArmFor flags0 classFile x code maxLocals ret World_1 tables_1 room_1 Calls_1 rest_1 Pre_1 Post := by
  intro l hfl _ _ p e ha hc hk s m args below hf hA hF happ hP
  obtain ⟨hcalls, hrest, hpre⟩ := hP
  obtain ⟨-, -, -, hnamed, -, -, -, hat⟩ := (Spec.applies_iff hf).mp happ
  obtain ⟨hg, hn⟩ := and_e (Cond.before_iff.mp (show (Jvm.Cond.and given_1 narrow_1).before args s = true from hpre))
  obtain ⟨hcount, hg0⟩ := and_e hg
  obtain ⟨gi0, hg1⟩ := and_e hg0
  obtain ⟨gi1, hg2⟩ := and_e hg1
  obtain ⟨gi2, hg3⟩ := and_e hg2
  have gi3 := hg3
  obtain ⟨w0, w1, w2, w3, rfl⟩ : ∃ w0 w1 w2 w3 : Value, args = #[w0, w1, w2, w3] := by
    have hs : args.size = 4 := by simpa [Cond.value, given_1] using hcount
    obtain ⟨L⟩ := args
    match L, hs with
    | [w0, w1, w2, w3], _ => exact ⟨w0, w1, w2, w3, rfl⟩
  have hw := fun d (hd : d ∈ tables_1) => atoms_spec (ws := Jvm.Cond.code x code maxLocals ret :: tables_1) hat d (List.mem_cons_of_mem _ hd)
  obtain ⟨i0, ei0⟩ := is_v gi0
  obtain rfl : w0 = (.int i0) := Option.some.inj ei0
  obtain ⟨i1, ei1⟩ := is_v gi1
  obtain rfl : w1 = (.int i1) := Option.some.inj ei1
  obtain ⟨i2, ei2⟩ := is_v gi2
  obtain rfl : w2 = (.int i2) := Option.some.inj ei2
  obtain ⟨i3, ei3⟩ := is_v gi3
  obtain rfl : w3 = (.int i3) := Option.some.inj ei3
  obtain ⟨n, o, h1, h2, h3, _, L, rfl, ⟨rfl, N⟩, hq⟩ := rm0 l s _ hw tables_1 i0 i1 i2 i3  s.heap s.heap.size (Nat.le_refl _)  p e ha hc hk s m _ below hf ((Spec.applies_iff_loose hf).mp happ).1 ⟨rfl, State.Warmed39.refl s, rfl⟩ trivial
  refine ⟨n, _, h1, h2, h3, hpost _ _ _ _ _ _ ⟨Cond.after_iff.mpr rfl, Cond.after_iff.mpr (eq_i res_at (Term.int_eval (1)) rfl), trivial⟩ ⟨hq.1, hq.2.1, (hq.2.2.sift fun y hy => Or.inr (N y hy)).mono (by decide) (by decide)⟩⟩
theorem main_1_1 : Claimed_1_1 := comes_1 fun _ _ _ _ _ _ h hF => ⟨h.1, hF⟩
theorem main_1_2 : Claimed_1_2 := comes_1 fun _ _ _ _ _ _ h hF => ⟨h.2.1, hF⟩
end Jvm.Pilot.@@N@@
namespace Jvm.Pilot.@@N@@
open Jvm Jvm.ClassFile Sem Op Lib Jvm.Free Jvm.Stand Jvm.Pilot.@@N@@.Jvm.D
/-! MADE BY PROGRAM (witnessworld.py) out of the Statement's table words and the real class files: 11 classes; the members and pool entries that the words name. The judged class is class 1, her method 1. -/
namespace start1
open Jvm.ClassFile
def u (s : String) : CpInfo := .utf8 (stringToUtf16 s)
/-- a pool by its gaps: so many unusable entries, then the entry; so many at the end -/
def gap : Nat → List CpInfo → List CpInfo
  | 0, r => r
  | n + 1, r => .unusable :: gap n r
def poolList (es : List (Nat × CpInfo)) (last : Nat) : List CpInfo := es.foldr (fun e r => gap e.1 (e.2 :: r)) (gap last [])
def pool (es : List (Nat × CpInfo)) (last : Nat) : Array CpInfo := ⟨poolList es last⟩
def fileOf (pool : Array CpInfo) (this : Nat) (attrs : Array Attribute := #[]) (ms : Array MethodInfo := #[]) (fl : Nat := 33) (sup : Nat := 0) (ifs : Array Nat := #[]) (fds : Array FieldInfo := #[]) : ClassFile where
  minorVersion := 0
  majorVersion := 65
  constantPool := pool
  accessFlags := fl
  thisClass := this
  superClass := sup
  interfaces := ifs
  fields := fds
  methods := ms
  attributes := attrs
def plain (name : String) (sup : Option ClassId) : Class where
  name := name
  kind := .ordinary
  loader := none
  accessFlags := 33
  super := sup
  interfaces := #[]
  cf := none
  fields := #[]
  methods := #[]
  instanceTypes := #[]
  staticTypes := #[]
  resolved := #[]
  callSites := []
  init := .initialized
  statics := none
  mirror := none

def pool0 : Array CpInfo := pool [(5, u "<init>"), (0, u "()V"), (1, .class_ 10), (1, u "java/lang/Object")] 113

def k0c0 : Code := { maxStack := 0, maxLocals := 1, code := object_method_1_code, exceptionTable := #[], attributes := #[] }
def k0m0 : Method := { name := "<init>", desc := "()V", sig := { parameters := [], returnType := none }, accessFlags := 1, code := some k0c0 }
/-- java/lang/Object -/
def k0 : Class := { plain "java/lang/Object" none with
  accessFlags := 33
  interfaces := #[]
  cf := some (fileOf pool0 8 #[] #[{ accessFlags := 1, nameIndex := 5, descriptorIndex := 6, attributes := #[] }] 33 0 #[] #[])
  fields := #[]
  methods := #[k0m0]
  instanceTypes := #[]
  staticTypes := #[]
  resolved := Array.replicate 124 none
  statics := none }

def pool1 : Array CpInfo := pool [(2, .class_ 4), (1, u "java/lang/Object"), (0, u "<init>"), (0, u "()V"), (0, .integer 2147483647), (0, .methodref 9 10), (0, .class_ 11), (0, .nameAndType 12 13), (0, u "java/lang/Math"), (0, u "min"), (0, u "(II)I"), (0, .class_ 15), (0, u "com/example/warpcheck/warpcheck/BlockShape"), (0, .methodref 14 17), (0, .nameAndType 5 18), (0, u "(III)V"), (0, .methodref 14 20), (0, .nameAndType 21 22), (0, u "coordinates"), (0, u "(I)[I"), (0, .class_ 24), (0, u "com/example/warpcheck/warpcheck/BlockShapeCoordinatesPinLaw"), (2, u "law"), (0, u "(IIII)Z")] 5

def k1m0 : Method := { name := "<init>", desc := "()V", sig := { parameters := [], returnType := none }, accessFlags := 1, code := none }
def k1c1 : Code := { maxStack := 6, maxLocals := 14, code := code, exceptionTable := #[], attributes := #[] }
def k1m1 : Method := { name := "law", desc := "(IIII)Z", sig := { parameters := [.int, .int, .int, .int], returnType := some .boolean }, accessFlags := 9, code := some k1c1 }
/-- com/example/warpcheck/warpcheck/BlockShapeCoordinatesPinLaw -/
def k1 : Class := { plain "com/example/warpcheck/warpcheck/BlockShapeCoordinatesPinLaw" (some 0) with
  accessFlags := 49
  interfaces := #[]
  cf := some (fileOf pool1 23 #[] #[{ accessFlags := 1, nameIndex := 5, descriptorIndex := 6, attributes := #[] }, { accessFlags := 9, nameIndex := 27, descriptorIndex := 28, attributes := #[] }] 49 2 #[] #[])
  fields := #[]
  methods := #[k1m0, k1m1]
  instanceTypes := #[]
  staticTypes := #[]
  resolved := Array.replicate 34 none
  statics := none }

def pool2 : Array CpInfo := pool [(1, .class_ 2), (0, u "java/lang/Math"), (1, .class_ 6), (1, u "java/lang/Object"), (0, u "<init>"), (0, u "()V"), (89, .class_ 100), (1, u "java/lang/Math$RandomNumberGeneratorHolder"), (71, u "negativeZeroFloatBits"), (0, u "J"), (2, u "negativeZeroDoubleBits"), (24, u "min"), (43, u "$assertionsDisabled"), (0, u "Z"), (88, u "(II)I"), (2, u "twoToTheDoubleScaleDown"), (0, u "D"), (4, u "twoToTheDoubleScaleUp"), (9, u "E"), (3, u "PI"), (2, u "TAU"), (2, u "DEGREES_TO_RADIANS"), (0, u "RADIANS_TO_DEGREES")] 94

def k2m0 : Method := { name := "<init>", desc := "()V", sig := { parameters := [], returnType := none }, accessFlags := 2, code := none }
def k2c1 : Code := { maxStack := 2, maxLocals := 2, code := jdk_29_method_69_code, exceptionTable := #[], attributes := #[] }
def k2m1 : Method := { name := "min", desc := "(II)I", sig := { parameters := [.int, .int], returnType := some .int }, accessFlags := 9, code := some k2c1 }
/-- java/lang/Math -/
def k2 : Class := { plain "java/lang/Math" (some 0) with
  accessFlags := 49
  interfaces := #[]
  cf := some (fileOf pool2 1 #[.nestMembers #[98]] #[{ accessFlags := 2, nameIndex := 7, descriptorIndex := 8, attributes := #[] }, { accessFlags := 9, nameIndex := 201, descriptorIndex := 335, attributes := #[] }] 49 4 #[] #[{ accessFlags := 25, nameIndex := 354, descriptorIndex := 339, attributes := #[] }, { accessFlags := 25, nameIndex := 358, descriptorIndex := 339, attributes := #[] }, { accessFlags := 25, nameIndex := 361, descriptorIndex := 339, attributes := #[] }, { accessFlags := 26, nameIndex := 364, descriptorIndex := 339, attributes := #[] }, { accessFlags := 26, nameIndex := 365, descriptorIndex := 339, attributes := #[] }, { accessFlags := 26, nameIndex := 172, descriptorIndex := 173, attributes := #[] }, { accessFlags := 26, nameIndex := 176, descriptorIndex := 173, attributes := #[] }, { accessFlags := 8, nameIndex := 344, descriptorIndex := 339, attributes := #[] }, { accessFlags := 8, nameIndex := 338, descriptorIndex := 339, attributes := #[] }, { accessFlags := 4120, nameIndex := 245, descriptorIndex := 246, attributes := #[] }])
  fields := #[{ name := "E", type := .double, accessFlags := 25, slot := 0, constantValue := 0 }, { name := "PI", type := .double, accessFlags := 25, slot := 1, constantValue := 0 }, { name := "TAU", type := .double, accessFlags := 25, slot := 2, constantValue := 0 }, { name := "DEGREES_TO_RADIANS", type := .double, accessFlags := 26, slot := 3, constantValue := 0 }, { name := "RADIANS_TO_DEGREES", type := .double, accessFlags := 26, slot := 4, constantValue := 0 }, { name := "negativeZeroFloatBits", type := .long, accessFlags := 26, slot := 5, constantValue := 0 }, { name := "negativeZeroDoubleBits", type := .long, accessFlags := 26, slot := 6, constantValue := 0 }, { name := "twoToTheDoubleScaleUp", type := .double, accessFlags := 8, slot := 7, constantValue := 0 }, { name := "twoToTheDoubleScaleDown", type := .double, accessFlags := 8, slot := 8, constantValue := 0 }, { name := "$assertionsDisabled", type := .boolean, accessFlags := 4120, slot := 9, constantValue := 0 }]
  methods := #[k2m0, k2m1]
  instanceTypes := #[]
  staticTypes := #[.double, .double, .double, .double, .double, .long, .long, .double, .double, .boolean]
  resolved := Array.replicate 460 none
  statics := none }

def pool3 : Array CpInfo := pool [(1, .methodref 2 3), (0, .class_ 4), (0, .nameAndType 5 6), (0, u "java/lang/Object"), (0, u "<init>"), (0, u "()V"), (0, .class_ 8), (0, u "java/lang/Record")] 13

def k3c0 : Code := { maxStack := 1, maxLocals := 1, code := jdk_30_method_1_code, exceptionTable := #[], attributes := #[] }
def k3m0 : Method := { name := "<init>", desc := "()V", sig := { parameters := [], returnType := none }, accessFlags := 4, code := some k3c0 }
/-- java/lang/Record -/
def k3 : Class := { plain "java/lang/Record" (some 0) with
  accessFlags := 1057
  interfaces := #[]
  cf := some (fileOf pool3 7 #[] #[{ accessFlags := 4, nameIndex := 5, descriptorIndex := 6, attributes := #[] }] 1057 2 #[] #[])
  fields := #[]
  methods := #[k3m0]
  instanceTypes := #[]
  staticTypes := #[]
  resolved := Array.replicate 22 none
  statics := none }

def pool4 : Array CpInfo := pool [(1, .methodref 2 3), (0, .class_ 4), (0, .nameAndType 5 6), (0, u "java/lang/Record"), (0, u "<init>"), (0, u "()V"), (0, .fieldref 8 9), (0, .class_ 10), (0, .nameAndType 11 12), (0, u "com/example/warpcheck/warpcheck/BlockShape"), (0, u "x"), (0, u "I"), (0, .fieldref 8 14), (0, .nameAndType 15 12), (0, u "y"), (0, .fieldref 8 17), (0, .nameAndType 18 12), (0, u "z"), (16, u "coordinates"), (0, u "(I)[I"), (16, u "MAX_THREADS"), (2, u "MAX_Z"), (1, u "WARP_SIZE"), (1, u "(III)V")] 38

def k4c0 : Code := { maxStack := 2, maxLocals := 4, code := prog_14_method_1_code, exceptionTable := #[], attributes := #[] }
def k4m0 : Method := { name := "<init>", desc := "(III)V", sig := { parameters := [.int, .int, .int], returnType := none }, accessFlags := 0, code := some k4c0 }
def k4c1 : Code := { maxStack := 6, maxLocals := 2, code := prog_14_method_6_code, exceptionTable := #[], attributes := #[] }
def k4m1 : Method := { name := "coordinates", desc := "(I)[I", sig := { parameters := [.int], returnType := some (.array .int) }, accessFlags := 0, code := some k4c1 }
/-- com/example/warpcheck/warpcheck/BlockShape -/
def k4 : Class := { plain "com/example/warpcheck/warpcheck/BlockShape" (some 3) with
  accessFlags := 48
  interfaces := #[]
  cf := some (fileOf pool4 8 #[] #[{ accessFlags := 0, nameIndex := 5, descriptorIndex := 60, attributes := #[] }, { accessFlags := 0, nameIndex := 35, descriptorIndex := 36, attributes := #[] }] 48 2 #[] #[{ accessFlags := 18, nameIndex := 11, descriptorIndex := 12, attributes := #[] }, { accessFlags := 18, nameIndex := 15, descriptorIndex := 12, attributes := #[] }, { accessFlags := 18, nameIndex := 18, descriptorIndex := 12, attributes := #[] }, { accessFlags := 24, nameIndex := 53, descriptorIndex := 12, attributes := #[] }, { accessFlags := 24, nameIndex := 56, descriptorIndex := 12, attributes := #[] }, { accessFlags := 24, nameIndex := 58, descriptorIndex := 12, attributes := #[] }])
  fields := #[{ name := "x", type := .int, accessFlags := 18, slot := 0, constantValue := 0 }, { name := "y", type := .int, accessFlags := 18, slot := 1, constantValue := 0 }, { name := "z", type := .int, accessFlags := 18, slot := 2, constantValue := 0 }, { name := "MAX_THREADS", type := .int, accessFlags := 24, slot := 0, constantValue := 0 }, { name := "MAX_Z", type := .int, accessFlags := 24, slot := 1, constantValue := 0 }, { name := "WARP_SIZE", type := .int, accessFlags := 24, slot := 2, constantValue := 0 }]
  methods := #[k4m0, k4m1]
  instanceTypes := #[.int, .int, .int]
  staticTypes := #[.int, .int, .int]
  resolved := Array.replicate 99 none
  statics := none }

def pool5 : Array CpInfo := pool [(1, u "java/lang/Cloneable"), (0, .class_ 1), (0, u "java/lang/Object"), (0, .class_ 3)] 3

/-- java/lang/Cloneable -/
def k5 : Class := { plain "java/lang/Cloneable" (some 0) with
  accessFlags := 1537
  interfaces := #[]
  cf := some (fileOf pool5 2 #[] #[] 1537 4 #[] #[])
  fields := #[]
  methods := #[]
  instanceTypes := #[]
  staticTypes := #[]
  resolved := Array.replicate 8 none
  statics := none }

def pool6 : Array CpInfo := pool [(1, u "java/io/Serializable"), (0, .class_ 1), (0, u "java/lang/Object"), (0, .class_ 3)] 3

/-- java/io/Serializable -/
def k6 : Class := { plain "java/io/Serializable" (some 0) with
  accessFlags := 1537
  interfaces := #[]
  cf := some (fileOf pool6 2 #[] #[] 1537 4 #[] #[])
  fields := #[]
  methods := #[]
  instanceTypes := #[]
  staticTypes := #[]
  resolved := Array.replicate 8 none
  statics := none }

/-- the primitive byte -/
def k7 : Class := { plain "byte" none with kind := .primitive 'B', accessFlags := 0x411 }
/-- [B -/
def k8 : Class := { plain "[B" (some 0) with kind := .array 7 .byte, interfaces := #[5, 6], accessFlags := 1041 }

/-- the primitive int -/
def k9 : Class := { plain "int" none with kind := .primitive 'I', accessFlags := 0x411 }
/-- [I -/
def k10 : Class := { plain "[I" (some 0) with kind := .array 9 .int, interfaces := #[5, 6], accessFlags := 1041 }

def heap : Heap := #[]
def classes : Array Class := #[k0, k1, k2, k3, k4, k5, k6, k7, k8, k9, k10]
def interned : List (Array UInt16 × Addr) := []
def slotsUsed : Nat := 0
def theMethod : MethodId := ⟨1, 1⟩
def args0 : Array Value := #[.int 5, .int 5, .int 5, .int 5]
def aboutOver (below : List Frame) : State where
  vm := { classes := classes, interned := interned.toArray }
  heap := heap
  slotsUsed := slotsUsed
  threads := #[{ frames := .invoking theMethod args0 :: below }]
def below0 : List Frame := [.native { method := ⟨0, 0⟩, args := #[] }]
def about1 : State := aboutOver below0
def p0 : Program := .bare "" "" ""
def e0 : Env := launch0.env 0 0 0
theorem w_frames : about1.frames = Frame.invoking theMethod args0 :: below0 := rfl
set_option maxRecDepth 65536 in
theorem w_args : argsFit about1.vm theMethod args0 = true := by decide +kernel
set_option maxRecDepth 65536 in
theorem w_heap : heapFits about1 = true := by decide +kernel
set_option maxRecDepth 65536 in
theorem w_runnable : about1.curStatus? = some .runnable := by decide +kernel
set_option maxRecDepth 65536 in
theorem w_alone : about1.alone = true := by decide +kernel
set_option maxRecDepth 65536 in
theorem w_named : about1.methodNamed? x = some theMethod := by decide +kernel
set_option maxRecDepth 65536 in
theorem w_hears : about1.hears theMethod below0 = true := by decide +kernel
set_option maxRecDepth 65536 in
theorem w_ripe : about1.ripe theMethod args0 below0 = true := by decide +kernel
theorem w_running : about1.status = .running := rfl
set_option maxRecDepth 65536 in
theorem w_room : about1.hasRoom e0.platform room_1 = true :=
  launch0.hasRoom_least _ room_1 (by decide +kernel) (by decide +kernel) (by decide +kernel) (by decide +kernel) (by decide +kernel) (by decide +kernel)
theorem allAtoms_all (ts : List Jvm.Cond) (a : Array Jvm.Value) (st : Jvm.State) : (allAtoms ts).before a st = ts.all (fun c => c.before a st) := by
  induction ts with
  | nil => rfl
  | cons c t ih =>
    show (Jvm.Cond.and c (allAtoms t)).before a st = _
    rw [Jvm.Cond.before_and, ih, List.all_cons]
def words1 : List Jvm.Cond := Jvm.Cond.code x code maxLocals ret :: tables_1
/-- a 'code' word, met by the world's own term for the bytes: nothing is compared byte by byte -/
theorem code_word {y : MethodName} {bytes : ByteArray} {mx : Nat} {rt : Option FieldType} {a : Array Value} {s : State} {m : MethodId} {meth : Method} {c : Code} (h1 : s.methodNamed? y = some m) (h2 : s.vm.method? m = some meth) (h3 : meth.code = some c) (h4 : c.code = bytes)
    (h5 : (c.maxLocals == mx && c.exceptionTable.isEmpty && decide (c.maxStack ≤ mostOperands) && decide (meth.sig.returnType = rt) && !meth.locks && decide (parseMethodDescriptor y.desc = some meth.sig)) = true) : (Jvm.Cond.code y bytes mx rt).before a s = true := by
  simp only [Bool.and_eq_true, beq_iff_eq, Bool.not_eq_true', decide_eq_true_eq] at h5
  obtain ⟨⟨⟨⟨⟨g1, g2⟩, g3⟩, g4⟩, g5⟩, g6⟩ := h5
  simp [Cond.before, Cond.holds, Cond.value, h1, h2, h3, h4, g1, g2, g3, g4, g5, g6]
def isCode : Jvm.Cond → Bool
  | .code _ _ _ _ => true
  | _ => false
theorem all_split {L : List Jvm.Cond} {P : Jvm.Cond → Bool} (h1 : L.all (fun c => isCode c || P c) = true) (h2 : ∀ c ∈ L.filter isCode, P c = true) : L.all P = true := by
  refine List.all_eq_true.mpr fun c hc => ?_
  have h := List.all_eq_true.mp h1 c hc
  rcases Bool.eq_false_or_eq_true (isCode c) with hi | hi
  · exact h2 c (List.mem_filter.mpr ⟨hc, hi⟩)
  · simpa [hi] using h
set_option maxRecDepth 65536 in
theorem w_c0 : (Jvm.Cond.code x code maxLocals ret).before args0 about1 = true := code_word (m := ⟨1, 1⟩) (meth := k1m1) (c := k1c1) (by decide +kernel) rfl rfl rfl (by decide +kernel)
set_option maxRecDepth 65536 in
theorem w_c1 : (Jvm.Cond.code ({ cls := "java/lang/Math", name := "min", desc := "(II)I" } : Jvm.MethodName) jdk_29_method_69_code (2 : Nat) (Option.some Jvm.ClassFile.FieldType.int)).before args0 about1 = true := code_word (m := ⟨2, 1⟩) (meth := k2m1) (c := k2c1) (by decide +kernel) rfl rfl rfl (by decide +kernel)
set_option maxRecDepth 65536 in
theorem w_c2 : (Jvm.Cond.code ({ cls := "com/example/warpcheck/warpcheck/BlockShape", name := "<init>", desc := "(III)V" } : Jvm.MethodName) prog_14_method_1_code (4 : Nat) (Option.none : Option Jvm.ClassFile.FieldType)).before args0 about1 = true := code_word (m := ⟨4, 0⟩) (meth := k4m0) (c := k4c0) (by decide +kernel) rfl rfl rfl (by decide +kernel)
set_option maxRecDepth 65536 in
theorem w_c3 : (Jvm.Cond.code ({ cls := "java/lang/Record", name := "<init>", desc := "()V" } : Jvm.MethodName) jdk_30_method_1_code (1 : Nat) (Option.none : Option Jvm.ClassFile.FieldType)).before args0 about1 = true := code_word (m := ⟨3, 0⟩) (meth := k3m0) (c := k3c0) (by decide +kernel) rfl rfl rfl (by decide +kernel)
set_option maxRecDepth 65536 in
theorem w_c4 : (Jvm.Cond.code ({ cls := "java/lang/Object", name := "<init>", desc := "()V" } : Jvm.MethodName) object_method_1_code (1 : Nat) (Option.none : Option Jvm.ClassFile.FieldType)).before args0 about1 = true := code_word (m := ⟨0, 0⟩) (meth := k0m0) (c := k0c0) (by decide +kernel) rfl rfl rfl (by decide +kernel)
set_option maxRecDepth 65536 in
theorem w_c5 : (Jvm.Cond.code ({ cls := "com/example/warpcheck/warpcheck/BlockShape", name := "coordinates", desc := "(I)[I" } : Jvm.MethodName) prog_14_method_6_code (2 : Nat) (Option.some (Jvm.ClassFile.FieldType.array Jvm.ClassFile.FieldType.int))).before args0 about1 = true := code_word (m := ⟨4, 1⟩) (meth := k4m1) (c := k4c1) (by decide +kernel) rfl rfl rfl (by decide +kernel)
def codes1 : List Jvm.Cond := [Jvm.Cond.code x code maxLocals ret, Jvm.Cond.code ({ cls := "java/lang/Math", name := "min", desc := "(II)I" } : Jvm.MethodName) jdk_29_method_69_code (2 : Nat) (Option.some Jvm.ClassFile.FieldType.int), Jvm.Cond.code ({ cls := "com/example/warpcheck/warpcheck/BlockShape", name := "<init>", desc := "(III)V" } : Jvm.MethodName) prog_14_method_1_code (4 : Nat) (Option.none : Option Jvm.ClassFile.FieldType), Jvm.Cond.code ({ cls := "java/lang/Record", name := "<init>", desc := "()V" } : Jvm.MethodName) jdk_30_method_1_code (1 : Nat) (Option.none : Option Jvm.ClassFile.FieldType), Jvm.Cond.code ({ cls := "java/lang/Object", name := "<init>", desc := "()V" } : Jvm.MethodName) object_method_1_code (1 : Nat) (Option.none : Option Jvm.ClassFile.FieldType), Jvm.Cond.code ({ cls := "com/example/warpcheck/warpcheck/BlockShape", name := "coordinates", desc := "(I)[I" } : Jvm.MethodName) prog_14_method_6_code (2 : Nat) (Option.some (Jvm.ClassFile.FieldType.array Jvm.ClassFile.FieldType.int))]
set_option maxRecDepth 65536 in
theorem codes_eq : words1.filter isCode = codes1 := rfl
theorem w_codes : ∀ c ∈ words1.filter isCode, c.before args0 about1 = true := by
  rw [codes_eq]
  intro c hc
  simp only [codes1, List.mem_cons, List.not_mem_nil, or_false] at hc
  rcases hc with rfl | rfl | rfl | rfl | rfl | rfl
  · exact w_c0
  · exact w_c1
  · exact w_c2
  · exact w_c3
  · exact w_c4
  · exact w_c5
set_option maxRecDepth 65536 in
theorem w_t1 : (words1.take 24).all (fun c => isCode c || c.before args0 about1) = true := by decide +kernel
set_option maxRecDepth 65536 in
theorem w_t2 : (words1.drop 24).all (fun c => isCode c || c.before args0 about1) = true := by decide +kernel
theorem w_tables : (allAtoms (Jvm.Cond.code x code maxLocals ret :: tables_1)).before args0 about1 = true := by
  rw [allAtoms_all]
  show words1.all (fun c => c.before args0 about1) = true
  refine all_split ?_ w_codes
  rw [← List.take_append_drop 24 words1, List.all_append, w_t1, w_t2]
  rfl
set_option maxRecDepth 65536 in
theorem w_case : (Jvm.Cond.and given_1 narrow_1).before args0 about1 = true := by decide +kernel
theorem w_applies : (headSpec (Jvm.Cond.code x code maxLocals ret :: tables_1) room_1).applies x e0.platform about1 = true :=
  (Spec.applies_iff w_frames).mpr ⟨w_running, w_runnable, w_alone, w_named, w_hears, w_ripe, w_room, w_tables⟩
theorem atStart : AtStart classFile x code maxLocals ret World_1 tables_1 room_1 Calls_1 rest_1 Pre_1 launch0 p0 e0 about1 theMethod args0 below0 :=
  ⟨lists_1, trivial, launch0.admits_env _ _ _, launch0.least_env, fairChoices_fair.cas, fairChoices_fair.clock, w_frames, w_args, w_heap, w_applies, trivial, trivial, w_case⟩
end start1
theorem witness_1 : WitnessClaimed_1 := ⟨start1.p0, start1.e0, start1.about1, start1.theMethod, start1.args0, start1.below0, start1.atStart⟩
end Jvm.Pilot.@@N@@
