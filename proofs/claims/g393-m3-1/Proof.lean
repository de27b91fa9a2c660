import JvmDerived
import JvmDerived.Pilot.@@N@@Statement
import JvmDerived.Pilot.@@N@@Code
set_option linter.unusedVariables false
set_option linter.unusedSimpArgs false

namespace Jvm.RoadKit
open Sem ClassFile Op Lib Jvm.Stand Jvm.Free Jvm.LawKit
section New
variable {p : Program} {l : Launch} {e : Env} {R : Room} {s : State} {m : MethodId} {args : Array Value} {below : List Frame} {meth : Method} {c : Code} {T : State} {locs : List Loc} {cells slots : Nat}
theorem retI (X : Stand p l e R s m args below meth c T locs cells slots) (hx : p.tables.exec = Jvm.exec) {pc : Nat} {Ls : Array Slot} {z : Int32} {rest : List Value} (hret : meth.sig.returnType = some .int) (hd : decode c.code pc = .ok (.ireturn, 1)) {fs : List Frame}
    (hl : ∀ (f : JFrame) (acts : List Action), f.method = m → f.locked = none → f.entered = [] → (doReturn e (T.setTop f) acts (some (.int z))).1 = T.setFrames fs) : Steps p.tables e below (T.setTop (mkF m pc Ls (.int z :: rest))) (T.setFrames fs) := by
  have hm' : T.vm.method? m = some meth := X.method'
  have hn : narrow .int (.int z) = .int z := rfl
  show Steps p.tables e below (T.setTop { method := m, pc := pc, locals := Ls, stack := _ :: rest, locked := none }) _
  jvm_step X.here [X.here.top, hx, hd, hm', hret, hn]
  first | (intro acts; rw [hl _ acts rfl rfl rfl]) | rw [hl _ _ rfl rfl rfl]
  exact Steps.refl _
/-- the walk's goal, at any point of it -/
def Gl (p : Program) (e : Env) (below : List Frame) (s : State) (Q : Option Value → Heap → List Loc → Prop) (C N : Nat) (T : State) (g : JFrame) : Prop :=
  ∃ s₂ o, Steps p.tables e below (T.setTop g) s₂ ∧ s₂.status = .running ∧ Ended s₂ below o ∧ ∃ v L, o = .returned v ∧ Q v s₂.heap L ∧ FrameEnd s o s₂ L C N
variable {Q : Option Value → Heap → List Loc → Prop} {C N : Nat} {T' : State} {g g' : JFrame} {h : Heap}
theorem Gl.st (f : ∀ t, Steps p.tables e below (T'.setTop g') t → Steps p.tables e below (T.setTop g) t) (k : Gl p e below s Q C N T' g') : Gl p e below s Q C N T g := by
  obtain ⟨s₂, o, h1, r⟩ := k
  exact ⟨s₂, o, f _ h1, r⟩
theorem Gl.ret (X : Stand p l e R s m args below meth c T locs cells slots) (hlk : meth.locks = false) {v : Option Value} (hv : meth.sig.returnType = none → v = none) (eT : T.heap = h)
    (f : ∀ fs, (∀ (f : JFrame) (acts : List Action), f.method = m → f.locked = none → f.entered = [] → (doReturn e (T.setTop f) acts v).1 = T.setFrames fs) → Steps p.tables e below (T.setTop g) (T.setFrames fs)) (hc : cells ≤ C) (hn : slots ≤ N) (hQ : Q v h locs) : Gl p e below s Q C N T g := by
  obtain ⟨fs, hr, hrun, hended, hW, hsame⟩ := X.leave (v := v) hv hlk
  exact ⟨_, _, f fs hr, hrun, hended, _, _, rfl, by show Q v T.heap _; rw [eT]; exact hQ, ⟨_, rfl⟩, hW, hsame.mono hc hn⟩
theorem Arv.cellX {Z : State} {h : Heap} {a : Addr} {k : ClassId} {ty : FieldType} {z : Int32} {vs : List Value} {dv : Value} (F : Arv Z h a k ty z vs dv) : ∃ c : Cell, h[a]? = some c ∧ ∀ q, c.vm ≠ .statics q := by
  obtain ⟨c, A, -⟩ := F; exact ⟨c, A.1, A.2.1.1⟩
theorem selPrivate {s : State} {args : Array Value} {y z : MethodName} (hzy : z.cls = y.cls) (hsel : (Cond.selects z.cls z z).before args s = true) (hpriv : s.PrivateAt y) (hinst : (Cond.instanceMethod y).before args s = true) (hy : y.cls ≠ "java/lang/invoke/MethodHandle" ∧ y.cls ≠ "java/lang/invoke/VarHandle") : (Cond.selects y.cls y y).before args s = true := by
  obtain ⟨c2, r2, m2, -, -, q3, -, kP, hkP, hkPi⟩ := Cond.selects_spec hsel
  exact selects_self_of_private (by rw [← hzy]; exact findClass_of_methodNamed q3) hkP hkPi hpriv hinst hy
theorem Sta.keepX {Z : State} {h h' : Heap} {C n d : String} {v : Value} {ws : List Addr} (F : Sta Z h C n d v) (K : Keep h h' ws) (q : ∀ x ∈ ws, ∃ c : Cell, h[x]? = some c ∧ ∀ q, c.vm ≠ .statics q) : Sta Z h' C n d v := by
  obtain ⟨cf, i, k, f, st, cell, h1, h2, h3, h4, h5, h6, h7⟩ := F
  refine ⟨cf, i, k, f, st, cell, h1, h2, h3, h4, K.2.1 st cell h5 fun z => ?_, h6, h7⟩
  obtain ⟨c, e1, e2⟩ := q st z
  cases h5.symm.trans e1
  cases hv : cell.vm <;> simp [hv, VmData.isStatics] at h6
  exact e2 _ hv
end New
end Jvm.RoadKit
namespace Jvm.Pilot.@@N@@
open Jvm Jvm.ClassFile Sem Op Lib Jvm.Free Jvm.Stand Jvm.LawKit Jvm.RoadKit Bundle Jvm.Pilot.@@N@@.Jvm.D

def own_sh (x : Int64) (k : Int32) : Int64 := ((x.toUInt64 >>> (k &&& 0x3f).toInt64.toUInt64).toInt64)
def own_m1 (x : Int64) : Int64 := (x ^^^ own_sh x 30) * (-4658895280553007687 : Int64)
def own_m2 (x : Int64) : Int64 := (x ^^^ own_sh x 27) * (-7723592293110705685 : Int64)
def own_mix (x : Int64) : Int64 := own_m2 (own_m1 x) ^^^ own_sh (own_m2 (own_m1 x)) 31
def own_nw (c x : Int64) : Int64 := x * ((2 : Int64) - c * x)
def own_inv (c : Int64) : Int64 := own_nw c (own_nw c (own_nw c (own_nw c (own_nw c c))))
def own_x31 (x : Int64) : Int64 := (x ^^^ own_sh x 31) ^^^ own_sh x 62
def own_x27 (x : Int64) : Int64 := (x ^^^ own_sh x 27) ^^^ own_sh x 54
def own_x30 (x : Int64) : Int64 := (x ^^^ own_sh x 30) ^^^ own_sh x 60
def own_t (x : Int64) : Int64 := own_x31 x * own_inv (-7723592293110705685 : Int64)
def own_s (x : Int64) : Int64 := own_x27 (own_t x) * own_inv (-4658895280553007687 : Int64)
def own_unmix (x : Int64) : Int64 := own_x30 (own_s x)
theorem own_bx (b : BitVec 64) (k : Nat) (hk : 64 ≤ 3 * k) : ((b ^^^ b >>> k) ^^^ (b ^^^ b >>> k) >>> k) ^^^ (b ^^^ b >>> k) >>> (2 * k) = b := by
  apply BitVec.eq_of_getLsbD_eq
  intro i hi
  simp only [BitVec.getLsbD_xor, BitVec.getLsbD_ushiftRight]
  have e1 : k + (k + i) = 2 * k + i := by omega
  have e2 : b.getLsbD (k + (2 * k + i)) = false := BitVec.getLsbD_of_ge _ _ (by omega)
  rw [e1, e2]
  cases b.getLsbD i <;> cases b.getLsbD (k + i) <;> cases b.getLsbD (2 * k + i) <;> rfl
theorem own_b31 (x : Int64) : (own_sh x 31).toBitVec = x.toBitVec >>> 31 := rfl
theorem own_b62 (x : Int64) : (own_sh x 62).toBitVec = x.toBitVec >>> 62 := rfl
theorem own_b27 (x : Int64) : (own_sh x 27).toBitVec = x.toBitVec >>> 27 := rfl
theorem own_b54 (x : Int64) : (own_sh x 54).toBitVec = x.toBitVec >>> 54 := rfl
theorem own_b30 (x : Int64) : (own_sh x 30).toBitVec = x.toBitVec >>> 30 := rfl
theorem own_b60 (x : Int64) : (own_sh x 60).toBitVec = x.toBitVec >>> 60 := rfl
theorem own_y31 (z : Int64) : own_x31 (z ^^^ own_sh z 31) = z := by
  apply Int64.toBitVec_inj.mp
  simp only [own_x31, Int64.toBitVec_xor, own_b31, own_b62]
  exact own_bx z.toBitVec 31 (by decide)
theorem own_y27 (z : Int64) : own_x27 (z ^^^ own_sh z 27) = z := by
  apply Int64.toBitVec_inj.mp
  simp only [own_x27, Int64.toBitVec_xor, own_b27, own_b54]
  exact own_bx z.toBitVec 27 (by decide)
theorem own_y30 (z : Int64) : own_x30 (z ^^^ own_sh z 30) = z := by
  apply Int64.toBitVec_inj.mp
  simp only [own_x30, Int64.toBitVec_xor, own_b30, own_b60]
  exact own_bx z.toBitVec 30 (by decide)
theorem own_i1 : own_inv (-4658895280553007687 : Int64) * (-4658895280553007687 : Int64) = (1 : Int64) := by decide +kernel
theorem own_i2 : own_inv (-7723592293110705685 : Int64) * (-7723592293110705685 : Int64) = (1 : Int64) := by decide +kernel
theorem own_back (x : Int64) : own_unmix (own_mix x) = x := by
  unfold own_unmix own_s own_t own_mix
  rw [own_y31]
  rw [show own_m2 (own_m1 x) = (own_m1 x ^^^ own_sh (own_m1 x) 27) * (-7723592293110705685 : Int64) from rfl, Int64.mul_assoc, Int64.mul_comm (-7723592293110705685 : Int64), own_i2, Int64.mul_one, own_y27]
  rw [show own_m1 x = (x ^^^ own_sh x 30) * (-4658895280553007687 : Int64) from rfl, Int64.mul_assoc, Int64.mul_comm (-4658895280553007687 : Int64), own_i1, Int64.mul_one, own_y30]
theorem own_a2 (x : Int64) : own_unmix (own_mix ((x + (-7046029254386353131 : Int64)) + (-7046029254386353131 : Int64))) = (x + (4354685564936845354 : Int64)) := by
  rw [own_back, Int64.add_assoc]; rfl
theorem own_a3 (x : Int64) : own_unmix (own_mix (((x + (-7046029254386353131 : Int64)) + (-7046029254386353131 : Int64)) + (-7046029254386353131 : Int64))) = (x + (-2691343689449507777 : Int64)) := by
  rw [own_back, Int64.add_assoc, Int64.add_assoc]; rfl
theorem d1_0 : decode prog_27_method_1_code 0 = .ok (.aload_n 0, 1) := by decide +kernel
theorem d1_1 : decode prog_27_method_1_code 1 = .ok (.invokespecial 1, 3) := by decide +kernel
theorem d1_4 : decode prog_27_method_1_code 4 = .ok (.aload_n 0, 1) := by decide +kernel
theorem d1_5 : decode prog_27_method_1_code 5 = .ok (.lload_n 1, 1) := by decide +kernel
theorem d1_6 : decode prog_27_method_1_code 6 = .ok (.putfield 7, 3) := by decide +kernel
theorem d1_9 : decode prog_27_method_1_code 9 = .ok (.return_, 1) := by decide +kernel
theorem pn_com_example_wanderpath_wanderpath_SeededRandom : plainName "com/example/wanderpath/wanderpath/SeededRandom" = true := by first | (simp [plainName, overriddenIn]; done) | decide +kernel
theorem ef_rm1 (m : MethodId) (a : Addr) (pp : Int64) : entryFrame m #[(.ref a), (.long pp)] 3 = mkF m 0 #[.val (.ref a), .val (.long pp), .second] [] := by first | (simp [entryFrame, mkF, argsToLocals, Value.category]; done) | rfl
def Q_rm1 (Z : State) (a : Addr) (pp : Int64)  (h0 : Heap) (n0 : Nat) (v : Option Value) (h : Heap) (L : List Loc) : Prop := v = none ∧ Fr n0 L ∧ Keep h0 h [a] ∧ Exa Z h a "com/example/wanderpath/wanderpath/SeededRandom" ∧ Fld Z h a "com/example/wanderpath/wanderpath/SeededRandom" "state" "J" (.long pp)
set_option maxRecDepth 65536 in
set_option maxHeartbeats 40000000 in
theorem rm1 (l : Launch) (Z : State) (a0 : Array Value) (hw : ∀ d ∈ tables_1, d.before a0 Z = true) (ws : List Jvm.Cond) (a : Addr) (pp : Int64)  (h0 : Heap) (n0 : Nat) (Z0 : n0 ≤ h0.size) (E0 : Exa Z h0 a "com/example/wanderpath/wanderpath/SeededRandom") (g0 : n0 ≤ a) (F0 : Fld Z h0 a "com/example/wanderpath/wanderpath/SeededRandom" "state" "J" (.long (0 : Int64))) :
    MetFree l (⟨"com/example/wanderpath/wanderpath/SeededRandom", "<init>", "(J)V"⟩ : MethodName) (head1 (Jvm.Cond.code (⟨"com/example/wanderpath/wanderpath/SeededRandom", "<init>", "(J)V"⟩ : MethodName) prog_27_method_1_code 3 none :: ws) ({ frames := 1, cells := 0, slots := 0, locals := 12 } : Room)) (fun aα Uα => aα = #[(.ref a), (.long pp)] ∧ Z.Warmed39 Uα.vm ∧ Uα.heap = h0) (fun _ _ _ _ _ => True) (fun _ Uα oα Uβ => ∃ vα Lα, oα = .returned vα ∧ Q_rm1 Z a pp  h0 n0 vα Uβ.heap Lα ∧ FrameEnd Uα oα Uβ Lα ({ frames := 1, cells := 0, slots := 0, locals := 12 } : Room).cells ({ frames := 1, cells := 0, slots := 0, locals := 12 } : Room).slots) := by
  refine MetFree.of_bodySF (plainFor_of_name pn_com_example_wanderpath_wanderpath_SeededRandom) hisR ?_
  intro p e s m args below meth c s₁ Bd hml0 hP hK
  obtain ⟨rfl, hZ, hh⟩ := hP
  have hx := Bd.exec
  have hby := Bd.bytes
  have hml : c.maxLocals = 3 := hml0
  have hown : s.vm.findClass "com/example/wanderpath/wanderpath/SeededRandom" = some m.cls := findClass_of_methodNamed Bd.named
  have hnm := (name_of_methodNamed Bd.named Bd.method).1
  have X0 : Stand p l e ({ frames := 1, cells := 0, slots := 0, locals := 12 } : Room) s m #[(.ref a), (.long pp)] below meth c s₁ [] 0 0 := Stand.of_body Bd
  have e0 : s₁.heap = h0 := by rw [← hh, Bd.state]; rfl
  have N0 := Fr.nil n0
  suffices k0 : Gl p e below s (Q_rm1 Z a pp  h0 n0) ({ frames := 1, cells := 0, slots := 0, locals := 12 } : Room).cells ({ frames := 1, cells := 0, slots := 0, locals := 12 } : Room).slots s₁ (mkF m 0 #[.val (.ref a), .val (.long pp), .second] []) from Gl.st (fun t k => castTop (ef_rm1 m a pp) k) k0
  refine Gl.st (g' := (mkF m 1 #[.val (.ref a), .val (.long pp), .second] [(.ref a)])) (fun τ κ => XS.aloadN X0.here hx rfl (hb hby d1_0) rfl rfl κ) ?_
  obtain ⟨T1, X1, e1, st1⟩ := initO X0 hx hZ hown (hw _ (List.mem_of_getElem? (i := 7) rfl)) (hw _ (List.mem_of_getElem? (i := 8) rfl)) (hw _ (List.mem_of_getElem? (i := 9) rfl)) e0 (g := (mkF m 1 #[.val (.ref a), .val (.long pp), .second] [(.ref a)])) rfl (by rw [hml]; rfl) rfl (hb hby d1_1) (by decide) (W := 0) (by show 2 * 0 + _ ≤ _; exact Nat.le_of_eq rfl) (by decide)
  refine Gl.st (g' := (mkF m 4 #[.val (.ref a), .val (.long pp), .second] [])) (fun τ κ => st1 _ κ) ?_
  refine Gl.st (g' := (mkF m 5 #[.val (.ref a), .val (.long pp), .second] [(.ref a)])) (fun τ κ => XS.aloadN X1.here hx rfl (hb hby d1_4) rfl rfl κ) ?_
  refine Gl.st (g' := (mkF m 6 #[.val (.ref a), .val (.long pp), .second] [(.long pp), (.ref a)])) (fun τ κ => XS.lloadN X1.here hx rfl (hb hby d1_5) rfl κ) ?_
  obtain ⟨T2, h2, X2, e2, W2, st2⟩ := putF X1 hx hZ hown (host := "") (Or.inl (hw _ (List.mem_of_getElem? (i := 10) rfl))) Via.refl e1 F0 E0 (Or.inl (hw _ (List.mem_of_getElem? (i := 11) rfl))) (hw _ (List.mem_of_getElem? (i := 2) rfl)) (ty := .long) (by decide) rfl rfl (g := (mkF m 6 #[.val (.ref a), .val (.long pp), .second] [(.long pp), (.ref a)])) rfl rfl (hb hby d1_6)
  have E_3 := E0.wr W2
  have N2 := Fr.snoc X2 N0 g0
  have Z2 : n0 ≤ h2.size := Nat.le_trans Z0 (Nat.le_of_eq W2.size.symm)
  have K2 : Keep h0 h2 [a] := (Keep.refl h0 [a]).wr W2 (Or.inl (List.mem_of_getElem? (i := 0) rfl))
  have F_5 := F0.same W2
  refine Gl.st (g' := (mkF m 9 #[.val (.ref a), .val (.long pp), .second] [])) (fun τ κ => st2 _ κ) ?_
  exact Gl.ret (v := none) X2 Bd.notSynchronized (fun _ => rfl) e2 (fun fs hr => X2.returnOut hx Bd.returns (hb hby d1_9) hr) (by decide) (by decide) ⟨rfl, N2, K2, E_3, F_5⟩
theorem d3_0 : decode prog_27_method_2_code 0 = .ok (.aload_n 0, 1) := by decide +kernel
theorem d3_1 : decode prog_27_method_2_code 1 = .ok (.dup, 1) := by decide +kernel
theorem d3_2 : decode prog_27_method_2_code 2 = .ok (.getfield 7, 3) := by decide +kernel
theorem d3_5 : decode prog_27_method_2_code 5 = .ok (.ldc2_w 13, 3) := by decide +kernel
theorem d3_8 : decode prog_27_method_2_code 8 = .ok (.ladd, 1) := by decide +kernel
theorem d3_9 : decode prog_27_method_2_code 9 = .ok (.putfield 7, 3) := by decide +kernel
theorem d3_12 : decode prog_27_method_2_code 12 = .ok (.aload_n 0, 1) := by decide +kernel
theorem d3_13 : decode prog_27_method_2_code 13 = .ok (.getfield 7, 3) := by decide +kernel
theorem d3_16 : decode prog_27_method_2_code 16 = .ok (.lstore_n 1, 1) := by decide +kernel
theorem d3_17 : decode prog_27_method_2_code 17 = .ok (.lload_n 1, 1) := by decide +kernel
theorem d3_18 : decode prog_27_method_2_code 18 = .ok (.lload_n 1, 1) := by decide +kernel
theorem d3_19 : decode prog_27_method_2_code 19 = .ok (.bipush 30, 2) := by decide +kernel
theorem d3_21 : decode prog_27_method_2_code 21 = .ok (.lushr, 1) := by decide +kernel
theorem d3_22 : decode prog_27_method_2_code 22 = .ok (.lxor, 1) := by decide +kernel
theorem d3_23 : decode prog_27_method_2_code 23 = .ok (.ldc2_w 15, 3) := by decide +kernel
theorem d3_26 : decode prog_27_method_2_code 26 = .ok (.lmul, 1) := by decide +kernel
theorem d3_27 : decode prog_27_method_2_code 27 = .ok (.lstore_n 1, 1) := by decide +kernel
theorem d3_28 : decode prog_27_method_2_code 28 = .ok (.lload_n 1, 1) := by decide +kernel
theorem d3_29 : decode prog_27_method_2_code 29 = .ok (.lload_n 1, 1) := by decide +kernel
theorem d3_30 : decode prog_27_method_2_code 30 = .ok (.bipush 27, 2) := by decide +kernel
theorem d3_32 : decode prog_27_method_2_code 32 = .ok (.lushr, 1) := by decide +kernel
theorem d3_33 : decode prog_27_method_2_code 33 = .ok (.lxor, 1) := by decide +kernel
theorem d3_34 : decode prog_27_method_2_code 34 = .ok (.ldc2_w 17, 3) := by decide +kernel
theorem d3_37 : decode prog_27_method_2_code 37 = .ok (.lmul, 1) := by decide +kernel
theorem d3_38 : decode prog_27_method_2_code 38 = .ok (.lstore_n 1, 1) := by decide +kernel
theorem d3_39 : decode prog_27_method_2_code 39 = .ok (.lload_n 1, 1) := by decide +kernel
theorem d3_40 : decode prog_27_method_2_code 40 = .ok (.lload_n 1, 1) := by decide +kernel
theorem d3_41 : decode prog_27_method_2_code 41 = .ok (.bipush 31, 2) := by decide +kernel
theorem d3_43 : decode prog_27_method_2_code 43 = .ok (.lushr, 1) := by decide +kernel
theorem d3_44 : decode prog_27_method_2_code 44 = .ok (.lxor, 1) := by decide +kernel
theorem d3_45 : decode prog_27_method_2_code 45 = .ok (.lreturn, 1) := by decide +kernel
theorem ef_rm3 (m : MethodId) (a : Addr) : entryFrame m #[(.ref a)] 3 = mkF m 0 #[.val (.ref a), .unset, .unset] [] := by first | (simp [entryFrame, mkF, argsToLocals, Value.category]; done) | rfl
def Q_rm3 (Z : State) (a : Addr) (w : Int64) (h0 : Heap) (n0 : Nat) (v : Option Value) (h : Heap) (L : List Loc) : Prop := v = some (.long (own_mix (w + (-7046029254386353131 : Int64)))) ∧ Fr n0 L ∧ Keep h0 h [a] ∧ Exa Z h a "com/example/wanderpath/wanderpath/SeededRandom" ∧ Fld Z h a "com/example/wanderpath/wanderpath/SeededRandom" "state" "J" (.long (w + (-7046029254386353131 : Int64)))
set_option maxRecDepth 65536 in
set_option maxHeartbeats 40000000 in
theorem rm3 (l : Launch) (Z : State) (a0 : Array Value) (hw : ∀ d ∈ tables_1, d.before a0 Z = true) (ws : List Jvm.Cond) (a : Addr) (w : Int64) (h0 : Heap) (n0 : Nat) (Z0 : n0 ≤ h0.size) (E0 : Exa Z h0 a "com/example/wanderpath/wanderpath/SeededRandom") (g0 : n0 ≤ a) (F0 : Fld Z h0 a "com/example/wanderpath/wanderpath/SeededRandom" "state" "J" (.long w))  :
    MetFree l (⟨"com/example/wanderpath/wanderpath/SeededRandom", "nextLong", "()J"⟩ : MethodName) (head1 (Jvm.Cond.code (⟨"com/example/wanderpath/wanderpath/SeededRandom", "nextLong", "()J"⟩ : MethodName) prog_27_method_2_code 3 (some .long) :: ws) ({ frames := 0, cells := 0, slots := 0, locals := 0 } : Room)) (fun aα Uα => aα = #[(.ref a)] ∧ Z.Warmed39 Uα.vm ∧ Uα.heap = h0) (fun _ _ _ _ _ => True) (fun _ Uα oα Uβ => ∃ vα Lα, oα = .returned vα ∧ Q_rm3 Z a w h0 n0 vα Uβ.heap Lα ∧ FrameEnd Uα oα Uβ Lα ({ frames := 0, cells := 0, slots := 0, locals := 0 } : Room).cells ({ frames := 0, cells := 0, slots := 0, locals := 0 } : Room).slots) := by
  refine MetFree.of_bodySF (plainFor_of_name pn_com_example_wanderpath_wanderpath_SeededRandom) hisR ?_
  intro p e s m args below meth c s₁ Bd hml0 hP hK
  obtain ⟨rfl, hZ, hh⟩ := hP
  have hx := Bd.exec
  have hby := Bd.bytes
  have hml : c.maxLocals = 3 := hml0
  have hown : s.vm.findClass "com/example/wanderpath/wanderpath/SeededRandom" = some m.cls := findClass_of_methodNamed Bd.named
  have hnm := (name_of_methodNamed Bd.named Bd.method).1
  have X0 : Stand p l e ({ frames := 0, cells := 0, slots := 0, locals := 0 } : Room) s m #[(.ref a)] below meth c s₁ [] 0 0 := Stand.of_body Bd
  have e0 : s₁.heap = h0 := by rw [← hh, Bd.state]; rfl
  have N0 := Fr.nil n0
  suffices k0 : Gl p e below s (Q_rm3 Z a w h0 n0) ({ frames := 0, cells := 0, slots := 0, locals := 0 } : Room).cells ({ frames := 0, cells := 0, slots := 0, locals := 0 } : Room).slots s₁ (mkF m 0 #[.val (.ref a), .unset, .unset] []) from Gl.st (fun t k => castTop (ef_rm3 m a) k) k0
  refine Gl.st (g' := (mkF m 1 #[.val (.ref a), .unset, .unset] [(.ref a)])) (fun τ κ => XS.aloadN X0.here hx rfl (hb hby d3_0) rfl rfl κ) ?_
  refine Gl.st (g' := (mkF m 2 #[.val (.ref a), .unset, .unset] [(.ref a), (.ref a)])) (fun τ κ => XS.dup X0.here hx rfl (hb hby d3_1) rfl rfl κ) ?_
  obtain ⟨T6, X6, e6, st6⟩ := getF X0 hx hZ hown (host := "") (Or.inl (hw _ (List.mem_of_getElem? (i := 10) rfl))) Via.refl e0 F0 (g := (mkF m 2 #[.val (.ref a), .unset, .unset] [(.ref a), (.ref a)])) rfl rfl (hb hby d3_2)
  refine Gl.st (g' := (mkF m 5 #[.val (.ref a), .unset, .unset] [(.long w), (.ref a)])) (fun τ κ => st6 _ κ) ?_
  refine Gl.st (g' := (mkF m 8 #[.val (.ref a), .unset, .unset] [(.long (-7046029254386353131 : Int64)), (.long w), (.ref a)])) (fun τ κ => X6.ldc2Long hx hown (mvT hZ (hw _ (List.mem_of_getElem? (i := 17) rfl))) (g := (mkF m 5 #[.val (.ref a), .unset, .unset] [(.long w), (.ref a)])) rfl (hb hby d3_5) _ κ) ?_
  refine Gl.st (g' := (mkF m 9 #[.val (.ref a), .unset, .unset] [(.long (w + (-7046029254386353131 : Int64))), (.ref a)])) (fun τ κ => XS.ladd X6.here hx rfl (hb hby d3_8) rfl κ) ?_
  obtain ⟨T7, h7, X7, e7, W7, st7⟩ := putF X6 hx hZ hown (host := "") (Or.inl (hw _ (List.mem_of_getElem? (i := 10) rfl))) Via.refl e6 F0 E0 (Or.inl (hw _ (List.mem_of_getElem? (i := 11) rfl))) (hw _ (List.mem_of_getElem? (i := 2) rfl)) (ty := .long) (by decide) rfl rfl (g := (mkF m 9 #[.val (.ref a), .unset, .unset] [(.long (w + (-7046029254386353131 : Int64))), (.ref a)])) rfl rfl (hb hby d3_9)
  have E_8 := E0.wr W7
  have N7 := Fr.snoc X7 N0 g0
  have Z7 : n0 ≤ h7.size := Nat.le_trans Z0 (Nat.le_of_eq W7.size.symm)
  have K7 : Keep h0 h7 [a] := (Keep.refl h0 [a]).wr W7 (Or.inl (List.mem_of_getElem? (i := 0) rfl))
  have F_10 := F0.same W7
  refine Gl.st (g' := (mkF m 12 #[.val (.ref a), .unset, .unset] [])) (fun τ κ => st7 _ κ) ?_
  refine Gl.st (g' := (mkF m 13 #[.val (.ref a), .unset, .unset] [(.ref a)])) (fun τ κ => XS.aloadN X7.here hx rfl (hb hby d3_12) rfl rfl κ) ?_
  obtain ⟨T11, X11, e11, st11⟩ := getF X7 hx hZ hown (host := "") (Or.inl (hw _ (List.mem_of_getElem? (i := 10) rfl))) Via.refl e7 F_10 (g := (mkF m 13 #[.val (.ref a), .unset, .unset] [(.ref a)])) rfl rfl (hb hby d3_13)
  refine Gl.st (g' := (mkF m 16 #[.val (.ref a), .unset, .unset] [(.long (w + (-7046029254386353131 : Int64)))])) (fun τ κ => st11 _ κ) ?_
  refine Gl.st (g' := (mkF m 17 #[.val (.ref a), .val (.long (w + (-7046029254386353131 : Int64))), .second] [])) (fun τ κ => XS.lstoreN X11.here hx rfl (hb hby d3_16) rfl (l' := #[.val (.ref a), .val (.long (w + (-7046029254386353131 : Int64))), .second]) rfl κ) ?_
  refine Gl.st (g' := (mkF m 18 #[.val (.ref a), .val (.long (w + (-7046029254386353131 : Int64))), .second] [(.long (w + (-7046029254386353131 : Int64)))])) (fun τ κ => XS.lloadN X11.here hx rfl (hb hby d3_17) rfl κ) ?_
  refine Gl.st (g' := (mkF m 19 #[.val (.ref a), .val (.long (w + (-7046029254386353131 : Int64))), .second] [(.long (w + (-7046029254386353131 : Int64))), (.long (w + (-7046029254386353131 : Int64)))])) (fun τ κ => XS.lloadN X11.here hx rfl (hb hby d3_18) rfl κ) ?_
  refine Gl.st (g' := (mkF m 21 #[.val (.ref a), .val (.long (w + (-7046029254386353131 : Int64))), .second] [(.int (30 : Int32)), (.long (w + (-7046029254386353131 : Int64))), (.long (w + (-7046029254386353131 : Int64)))])) (fun τ κ => XS.bipush X11.here hx rfl (hb hby d3_19) κ) ?_
  refine Gl.st (g' := (mkF m 22 #[.val (.ref a), .val (.long (w + (-7046029254386353131 : Int64))), .second] [(.long (((w + (-7046029254386353131 : Int64)).toUInt64 >>> ((30 : Int32) &&& 0x3f).toInt64.toUInt64).toInt64)), (.long (w + (-7046029254386353131 : Int64)))])) (fun τ κ => XS.lushr X11.here hx rfl (hb hby d3_21) rfl κ) ?_
  refine Gl.st (g' := (mkF m 23 #[.val (.ref a), .val (.long (w + (-7046029254386353131 : Int64))), .second] [(.long ((w + (-7046029254386353131 : Int64)) ^^^ (((w + (-7046029254386353131 : Int64)).toUInt64 >>> ((30 : Int32) &&& 0x3f).toInt64.toUInt64).toInt64)))])) (fun τ κ => XS.lxor X11.here hx rfl (hb hby d3_22) rfl κ) ?_
  refine Gl.st (g' := (mkF m 26 #[.val (.ref a), .val (.long (w + (-7046029254386353131 : Int64))), .second] [(.long (-4658895280553007687 : Int64)), (.long ((w + (-7046029254386353131 : Int64)) ^^^ (((w + (-7046029254386353131 : Int64)).toUInt64 >>> ((30 : Int32) &&& 0x3f).toInt64.toUInt64).toInt64)))])) (fun τ κ => X11.ldc2Long hx hown (mvT hZ (hw _ (List.mem_of_getElem? (i := 18) rfl))) (g := (mkF m 23 #[.val (.ref a), .val (.long (w + (-7046029254386353131 : Int64))), .second] [(.long ((w + (-7046029254386353131 : Int64)) ^^^ (((w + (-7046029254386353131 : Int64)).toUInt64 >>> ((30 : Int32) &&& 0x3f).toInt64.toUInt64).toInt64)))])) rfl (hb hby d3_23) _ κ) ?_
  refine Gl.st (g' := (mkF m 27 #[.val (.ref a), .val (.long (w + (-7046029254386353131 : Int64))), .second] [(.long (((w + (-7046029254386353131 : Int64)) ^^^ (((w + (-7046029254386353131 : Int64)).toUInt64 >>> ((30 : Int32) &&& 0x3f).toInt64.toUInt64).toInt64)) * (-4658895280553007687 : Int64)))])) (fun τ κ => XS.lmul X11.here hx rfl (hb hby d3_26) rfl κ) ?_
  refine Gl.st (g' := (mkF m 27 #[.val (.ref a), .val (.long (w + (-7046029254386353131 : Int64))), .second] [(.long (own_m1 (w + (-7046029254386353131 : Int64))))])) (fun τ κ => κ) ?_
  refine Gl.st (g' := (mkF m 28 #[.val (.ref a), .val (.long (own_m1 (w + (-7046029254386353131 : Int64)))), .second] [])) (fun τ κ => XS.lstoreN X11.here hx rfl (hb hby d3_27) rfl (l' := #[.val (.ref a), .val (.long (own_m1 (w + (-7046029254386353131 : Int64)))), .second]) rfl κ) ?_
  refine Gl.st (g' := (mkF m 29 #[.val (.ref a), .val (.long (own_m1 (w + (-7046029254386353131 : Int64)))), .second] [(.long (own_m1 (w + (-7046029254386353131 : Int64))))])) (fun τ κ => XS.lloadN X11.here hx rfl (hb hby d3_28) rfl κ) ?_
  refine Gl.st (g' := (mkF m 30 #[.val (.ref a), .val (.long (own_m1 (w + (-7046029254386353131 : Int64)))), .second] [(.long (own_m1 (w + (-7046029254386353131 : Int64)))), (.long (own_m1 (w + (-7046029254386353131 : Int64))))])) (fun τ κ => XS.lloadN X11.here hx rfl (hb hby d3_29) rfl κ) ?_
  refine Gl.st (g' := (mkF m 32 #[.val (.ref a), .val (.long (own_m1 (w + (-7046029254386353131 : Int64)))), .second] [(.int (27 : Int32)), (.long (own_m1 (w + (-7046029254386353131 : Int64)))), (.long (own_m1 (w + (-7046029254386353131 : Int64))))])) (fun τ κ => XS.bipush X11.here hx rfl (hb hby d3_30) κ) ?_
  refine Gl.st (g' := (mkF m 33 #[.val (.ref a), .val (.long (own_m1 (w + (-7046029254386353131 : Int64)))), .second] [(.long (((own_m1 (w + (-7046029254386353131 : Int64))).toUInt64 >>> ((27 : Int32) &&& 0x3f).toInt64.toUInt64).toInt64)), (.long (own_m1 (w + (-7046029254386353131 : Int64))))])) (fun τ κ => XS.lushr X11.here hx rfl (hb hby d3_32) rfl κ) ?_
  refine Gl.st (g' := (mkF m 34 #[.val (.ref a), .val (.long (own_m1 (w + (-7046029254386353131 : Int64)))), .second] [(.long ((own_m1 (w + (-7046029254386353131 : Int64))) ^^^ (((own_m1 (w + (-7046029254386353131 : Int64))).toUInt64 >>> ((27 : Int32) &&& 0x3f).toInt64.toUInt64).toInt64)))])) (fun τ κ => XS.lxor X11.here hx rfl (hb hby d3_33) rfl κ) ?_
  refine Gl.st (g' := (mkF m 37 #[.val (.ref a), .val (.long (own_m1 (w + (-7046029254386353131 : Int64)))), .second] [(.long (-7723592293110705685 : Int64)), (.long ((own_m1 (w + (-7046029254386353131 : Int64))) ^^^ (((own_m1 (w + (-7046029254386353131 : Int64))).toUInt64 >>> ((27 : Int32) &&& 0x3f).toInt64.toUInt64).toInt64)))])) (fun τ κ => X11.ldc2Long hx hown (mvT hZ (hw _ (List.mem_of_getElem? (i := 19) rfl))) (g := (mkF m 34 #[.val (.ref a), .val (.long (own_m1 (w + (-7046029254386353131 : Int64)))), .second] [(.long ((own_m1 (w + (-7046029254386353131 : Int64))) ^^^ (((own_m1 (w + (-7046029254386353131 : Int64))).toUInt64 >>> ((27 : Int32) &&& 0x3f).toInt64.toUInt64).toInt64)))])) rfl (hb hby d3_34) _ κ) ?_
  refine Gl.st (g' := (mkF m 38 #[.val (.ref a), .val (.long (own_m1 (w + (-7046029254386353131 : Int64)))), .second] [(.long (((own_m1 (w + (-7046029254386353131 : Int64))) ^^^ (((own_m1 (w + (-7046029254386353131 : Int64))).toUInt64 >>> ((27 : Int32) &&& 0x3f).toInt64.toUInt64).toInt64)) * (-7723592293110705685 : Int64)))])) (fun τ κ => XS.lmul X11.here hx rfl (hb hby d3_37) rfl κ) ?_
  refine Gl.st (g' := (mkF m 38 #[.val (.ref a), .val (.long (own_m1 (w + (-7046029254386353131 : Int64)))), .second] [(.long (own_m2 (own_m1 (w + (-7046029254386353131 : Int64)))))])) (fun τ κ => κ) ?_
  refine Gl.st (g' := (mkF m 39 #[.val (.ref a), .val (.long (own_m2 (own_m1 (w + (-7046029254386353131 : Int64))))), .second] [])) (fun τ κ => XS.lstoreN X11.here hx rfl (hb hby d3_38) rfl (l' := #[.val (.ref a), .val (.long (own_m2 (own_m1 (w + (-7046029254386353131 : Int64))))), .second]) rfl κ) ?_
  refine Gl.st (g' := (mkF m 40 #[.val (.ref a), .val (.long (own_m2 (own_m1 (w + (-7046029254386353131 : Int64))))), .second] [(.long (own_m2 (own_m1 (w + (-7046029254386353131 : Int64)))))])) (fun τ κ => XS.lloadN X11.here hx rfl (hb hby d3_39) rfl κ) ?_
  refine Gl.st (g' := (mkF m 41 #[.val (.ref a), .val (.long (own_m2 (own_m1 (w + (-7046029254386353131 : Int64))))), .second] [(.long (own_m2 (own_m1 (w + (-7046029254386353131 : Int64))))), (.long (own_m2 (own_m1 (w + (-7046029254386353131 : Int64)))))])) (fun τ κ => XS.lloadN X11.here hx rfl (hb hby d3_40) rfl κ) ?_
  refine Gl.st (g' := (mkF m 43 #[.val (.ref a), .val (.long (own_m2 (own_m1 (w + (-7046029254386353131 : Int64))))), .second] [(.int (31 : Int32)), (.long (own_m2 (own_m1 (w + (-7046029254386353131 : Int64))))), (.long (own_m2 (own_m1 (w + (-7046029254386353131 : Int64)))))])) (fun τ κ => XS.bipush X11.here hx rfl (hb hby d3_41) κ) ?_
  refine Gl.st (g' := (mkF m 44 #[.val (.ref a), .val (.long (own_m2 (own_m1 (w + (-7046029254386353131 : Int64))))), .second] [(.long (((own_m2 (own_m1 (w + (-7046029254386353131 : Int64)))).toUInt64 >>> ((31 : Int32) &&& 0x3f).toInt64.toUInt64).toInt64)), (.long (own_m2 (own_m1 (w + (-7046029254386353131 : Int64)))))])) (fun τ κ => XS.lushr X11.here hx rfl (hb hby d3_43) rfl κ) ?_
  refine Gl.st (g' := (mkF m 45 #[.val (.ref a), .val (.long (own_m2 (own_m1 (w + (-7046029254386353131 : Int64))))), .second] [(.long ((own_m2 (own_m1 (w + (-7046029254386353131 : Int64)))) ^^^ (((own_m2 (own_m1 (w + (-7046029254386353131 : Int64)))).toUInt64 >>> ((31 : Int32) &&& 0x3f).toInt64.toUInt64).toInt64)))])) (fun τ κ => XS.lxor X11.here hx rfl (hb hby d3_44) rfl κ) ?_
  refine Gl.st (g' := (mkF m 45 #[.val (.ref a), .val (.long (own_m2 (own_m1 (w + (-7046029254386353131 : Int64))))), .second] [(.long (own_mix (w + (-7046029254386353131 : Int64))))])) (fun τ κ => κ) ?_
  exact Gl.ret (v := some (.long (own_mix (w + (-7046029254386353131 : Int64))))) X11 Bd.notSynchronized (fun h => by rw [Bd.returns] at h; cases h) e11 (fun fs hr => (by
      jvm_step X11.here [X11.here.top, hx, (hb hby d3_45), X11.method', Bd.returns, narrow]
      first | (intro acts; rw [hr _ acts rfl rfl rfl]) | rw [hr _ _ rfl rfl rfl]
      exact Steps.refl _)) (by decide) (by decide) ⟨rfl, N7, K7, E_8, F_10⟩
theorem d4_0 : decode method_2_code 0 = .ok (.lload_n 0, 1) := by decide +kernel
theorem d4_1 : decode method_2_code 1 = .ok (.lstore_n 2, 1) := by decide +kernel
theorem d4_2 : decode method_2_code 2 = .ok (.lload_n 2, 1) := by decide +kernel
theorem d4_3 : decode method_2_code 3 = .ok (.ldc2_w 7, 3) := by decide +kernel
theorem d4_6 : decode method_2_code 6 = .ok (.lload_n 0, 1) := by decide +kernel
theorem d4_7 : decode method_2_code 7 = .ok (.lload_n 2, 1) := by decide +kernel
theorem d4_8 : decode method_2_code 8 = .ok (.lmul, 1) := by decide +kernel
theorem d4_9 : decode method_2_code 9 = .ok (.lsub, 1) := by decide +kernel
theorem d4_10 : decode method_2_code 10 = .ok (.lmul, 1) := by decide +kernel
theorem d4_11 : decode method_2_code 11 = .ok (.lstore_n 2, 1) := by decide +kernel
theorem d4_12 : decode method_2_code 12 = .ok (.lload_n 2, 1) := by decide +kernel
theorem d4_13 : decode method_2_code 13 = .ok (.ldc2_w 7, 3) := by decide +kernel
theorem d4_16 : decode method_2_code 16 = .ok (.lload_n 0, 1) := by decide +kernel
theorem d4_17 : decode method_2_code 17 = .ok (.lload_n 2, 1) := by decide +kernel
theorem d4_18 : decode method_2_code 18 = .ok (.lmul, 1) := by decide +kernel
theorem d4_19 : decode method_2_code 19 = .ok (.lsub, 1) := by decide +kernel
theorem d4_20 : decode method_2_code 20 = .ok (.lmul, 1) := by decide +kernel
theorem d4_21 : decode method_2_code 21 = .ok (.lstore_n 2, 1) := by decide +kernel
theorem d4_22 : decode method_2_code 22 = .ok (.lload_n 2, 1) := by decide +kernel
theorem d4_23 : decode method_2_code 23 = .ok (.ldc2_w 7, 3) := by decide +kernel
theorem d4_26 : decode method_2_code 26 = .ok (.lload_n 0, 1) := by decide +kernel
theorem d4_27 : decode method_2_code 27 = .ok (.lload_n 2, 1) := by decide +kernel
theorem d4_28 : decode method_2_code 28 = .ok (.lmul, 1) := by decide +kernel
theorem d4_29 : decode method_2_code 29 = .ok (.lsub, 1) := by decide +kernel
theorem d4_30 : decode method_2_code 30 = .ok (.lmul, 1) := by decide +kernel
theorem d4_31 : decode method_2_code 31 = .ok (.lstore_n 2, 1) := by decide +kernel
theorem d4_32 : decode method_2_code 32 = .ok (.lload_n 2, 1) := by decide +kernel
theorem d4_33 : decode method_2_code 33 = .ok (.ldc2_w 7, 3) := by decide +kernel
theorem d4_36 : decode method_2_code 36 = .ok (.lload_n 0, 1) := by decide +kernel
theorem d4_37 : decode method_2_code 37 = .ok (.lload_n 2, 1) := by decide +kernel
theorem d4_38 : decode method_2_code 38 = .ok (.lmul, 1) := by decide +kernel
theorem d4_39 : decode method_2_code 39 = .ok (.lsub, 1) := by decide +kernel
theorem d4_40 : decode method_2_code 40 = .ok (.lmul, 1) := by decide +kernel
theorem d4_41 : decode method_2_code 41 = .ok (.lstore_n 2, 1) := by decide +kernel
theorem d4_42 : decode method_2_code 42 = .ok (.lload_n 2, 1) := by decide +kernel
theorem d4_43 : decode method_2_code 43 = .ok (.ldc2_w 7, 3) := by decide +kernel
theorem d4_46 : decode method_2_code 46 = .ok (.lload_n 0, 1) := by decide +kernel
theorem d4_47 : decode method_2_code 47 = .ok (.lload_n 2, 1) := by decide +kernel
theorem d4_48 : decode method_2_code 48 = .ok (.lmul, 1) := by decide +kernel
theorem d4_49 : decode method_2_code 49 = .ok (.lsub, 1) := by decide +kernel
theorem d4_50 : decode method_2_code 50 = .ok (.lmul, 1) := by decide +kernel
theorem d4_51 : decode method_2_code 51 = .ok (.lstore_n 2, 1) := by decide +kernel
theorem d4_52 : decode method_2_code 52 = .ok (.lload_n 2, 1) := by decide +kernel
theorem d4_53 : decode method_2_code 53 = .ok (.lreturn, 1) := by decide +kernel
theorem pn_com_example_wanderpath_wanderpath_SeededRandomNextLongPinLaw : plainName "com/example/wanderpath/wanderpath/SeededRandomNextLongPinLaw" = true := by first | (simp [plainName, overriddenIn]; done) | decide +kernel
theorem ef_rm4 (m : MethodId) (c0 : Int64) : entryFrame m #[(.long c0)] 4 = mkF m 0 #[.val (.long c0), .second, .unset, .unset] [] := by first | (simp [entryFrame, mkF, argsToLocals, Value.category]; done) | rfl
def Q_rm4 (Z : State) (c0 : Int64)  (h0 : Heap) (n0 : Nat) (v : Option Value) (h : Heap) (L : List Loc) : Prop := v = some (.long (own_inv c0)) ∧ Fr n0 L ∧ h = h0
set_option maxRecDepth 65536 in
set_option maxHeartbeats 40000000 in
theorem rm4 (l : Launch) (Z : State) (a0 : Array Value) (hw : ∀ d ∈ tables_1, d.before a0 Z = true) (ws : List Jvm.Cond) (c0 : Int64)  (h0 : Heap) (n0 : Nat) (Z0 : n0 ≤ h0.size)  :
    MetFree l (⟨"com/example/wanderpath/wanderpath/SeededRandomNextLongPinLaw", "inv", "(J)J"⟩ : MethodName) (head1 (Jvm.Cond.code (⟨"com/example/wanderpath/wanderpath/SeededRandomNextLongPinLaw", "inv", "(J)J"⟩ : MethodName) method_2_code 4 (some .long) :: ws) ({ frames := 0, cells := 0, slots := 0, locals := 0 } : Room)) (fun aα Uα => aα = #[(.long c0)] ∧ Z.Warmed39 Uα.vm ∧ Uα.heap = h0) (fun _ _ _ _ _ => True) (fun _ Uα oα Uβ => ∃ vα Lα, oα = .returned vα ∧ Q_rm4 Z c0  h0 n0 vα Uβ.heap Lα ∧ FrameEnd Uα oα Uβ Lα ({ frames := 0, cells := 0, slots := 0, locals := 0 } : Room).cells ({ frames := 0, cells := 0, slots := 0, locals := 0 } : Room).slots) := by
  refine MetFree.of_bodySF (plainFor_of_name pn_com_example_wanderpath_wanderpath_SeededRandomNextLongPinLaw) hisR ?_
  intro p e s m args below meth c s₁ Bd hml0 hP hK
  obtain ⟨rfl, hZ, hh⟩ := hP
  have hx := Bd.exec
  have hby := Bd.bytes
  have hml : c.maxLocals = 4 := hml0
  have hown : s.vm.findClass "com/example/wanderpath/wanderpath/SeededRandomNextLongPinLaw" = some m.cls := findClass_of_methodNamed Bd.named
  have hnm := (name_of_methodNamed Bd.named Bd.method).1
  have X0 : Stand p l e ({ frames := 0, cells := 0, slots := 0, locals := 0 } : Room) s m #[(.long c0)] below meth c s₁ [] 0 0 := Stand.of_body Bd
  have e0 : s₁.heap = h0 := by rw [← hh, Bd.state]; rfl
  have N0 := Fr.nil n0
  suffices k0 : Gl p e below s (Q_rm4 Z c0  h0 n0) ({ frames := 0, cells := 0, slots := 0, locals := 0 } : Room).cells ({ frames := 0, cells := 0, slots := 0, locals := 0 } : Room).slots s₁ (mkF m 0 #[.val (.long c0), .second, .unset, .unset] []) from Gl.st (fun t k => castTop (ef_rm4 m c0) k) k0
  refine Gl.st (g' := (mkF m 1 #[.val (.long c0), .second, .unset, .unset] [(.long c0)])) (fun τ κ => XS.lloadN X0.here hx rfl (hb hby d4_0) rfl κ) ?_
  refine Gl.st (g' := (mkF m 2 #[.val (.long c0), .second, .val (.long c0), .second] [])) (fun τ κ => XS.lstoreN X0.here hx rfl (hb hby d4_1) rfl (l' := #[.val (.long c0), .second, .val (.long c0), .second]) rfl κ) ?_
  refine Gl.st (g' := (mkF m 3 #[.val (.long c0), .second, .val (.long c0), .second] [(.long c0)])) (fun τ κ => XS.lloadN X0.here hx rfl (hb hby d4_2) rfl κ) ?_
  refine Gl.st (g' := (mkF m 6 #[.val (.long c0), .second, .val (.long c0), .second] [(.long (2 : Int64)), (.long c0)])) (fun τ κ => X0.ldc2Long hx hown (mvT hZ (hw _ (List.mem_of_getElem? (i := 25) rfl))) (g := (mkF m 3 #[.val (.long c0), .second, .val (.long c0), .second] [(.long c0)])) rfl (hb hby d4_3) _ κ) ?_
  refine Gl.st (g' := (mkF m 7 #[.val (.long c0), .second, .val (.long c0), .second] [(.long c0), (.long (2 : Int64)), (.long c0)])) (fun τ κ => XS.lloadN X0.here hx rfl (hb hby d4_6) rfl κ) ?_
  refine Gl.st (g' := (mkF m 8 #[.val (.long c0), .second, .val (.long c0), .second] [(.long c0), (.long c0), (.long (2 : Int64)), (.long c0)])) (fun τ κ => XS.lloadN X0.here hx rfl (hb hby d4_7) rfl κ) ?_
  refine Gl.st (g' := (mkF m 9 #[.val (.long c0), .second, .val (.long c0), .second] [(.long (c0 * c0)), (.long (2 : Int64)), (.long c0)])) (fun τ κ => XS.lmul X0.here hx rfl (hb hby d4_8) rfl κ) ?_
  refine Gl.st (g' := (mkF m 10 #[.val (.long c0), .second, .val (.long c0), .second] [(.long ((2 : Int64) - (c0 * c0))), (.long c0)])) (fun τ κ => XS.lsub X0.here hx rfl (hb hby d4_9) rfl κ) ?_
  refine Gl.st (g' := (mkF m 11 #[.val (.long c0), .second, .val (.long c0), .second] [(.long (c0 * ((2 : Int64) - (c0 * c0))))])) (fun τ κ => XS.lmul X0.here hx rfl (hb hby d4_10) rfl κ) ?_
  refine Gl.st (g' := (mkF m 11 #[.val (.long c0), .second, .val (.long c0), .second] [(.long (own_nw c0 c0))])) (fun τ κ => κ) ?_
  refine Gl.st (g' := (mkF m 12 #[.val (.long c0), .second, .val (.long (own_nw c0 c0)), .second] [])) (fun τ κ => XS.lstoreN X0.here hx rfl (hb hby d4_11) rfl (l' := #[.val (.long c0), .second, .val (.long (own_nw c0 c0)), .second]) rfl κ) ?_
  refine Gl.st (g' := (mkF m 13 #[.val (.long c0), .second, .val (.long (own_nw c0 c0)), .second] [(.long (own_nw c0 c0))])) (fun τ κ => XS.lloadN X0.here hx rfl (hb hby d4_12) rfl κ) ?_
  refine Gl.st (g' := (mkF m 16 #[.val (.long c0), .second, .val (.long (own_nw c0 c0)), .second] [(.long (2 : Int64)), (.long (own_nw c0 c0))])) (fun τ κ => X0.ldc2Long hx hown (mvT hZ (hw _ (List.mem_of_getElem? (i := 25) rfl))) (g := (mkF m 13 #[.val (.long c0), .second, .val (.long (own_nw c0 c0)), .second] [(.long (own_nw c0 c0))])) rfl (hb hby d4_13) _ κ) ?_
  refine Gl.st (g' := (mkF m 17 #[.val (.long c0), .second, .val (.long (own_nw c0 c0)), .second] [(.long c0), (.long (2 : Int64)), (.long (own_nw c0 c0))])) (fun τ κ => XS.lloadN X0.here hx rfl (hb hby d4_16) rfl κ) ?_
  refine Gl.st (g' := (mkF m 18 #[.val (.long c0), .second, .val (.long (own_nw c0 c0)), .second] [(.long (own_nw c0 c0)), (.long c0), (.long (2 : Int64)), (.long (own_nw c0 c0))])) (fun τ κ => XS.lloadN X0.here hx rfl (hb hby d4_17) rfl κ) ?_
  refine Gl.st (g' := (mkF m 19 #[.val (.long c0), .second, .val (.long (own_nw c0 c0)), .second] [(.long (c0 * (own_nw c0 c0))), (.long (2 : Int64)), (.long (own_nw c0 c0))])) (fun τ κ => XS.lmul X0.here hx rfl (hb hby d4_18) rfl κ) ?_
  refine Gl.st (g' := (mkF m 20 #[.val (.long c0), .second, .val (.long (own_nw c0 c0)), .second] [(.long ((2 : Int64) - (c0 * (own_nw c0 c0)))), (.long (own_nw c0 c0))])) (fun τ κ => XS.lsub X0.here hx rfl (hb hby d4_19) rfl κ) ?_
  refine Gl.st (g' := (mkF m 21 #[.val (.long c0), .second, .val (.long (own_nw c0 c0)), .second] [(.long ((own_nw c0 c0) * ((2 : Int64) - (c0 * (own_nw c0 c0)))))])) (fun τ κ => XS.lmul X0.here hx rfl (hb hby d4_20) rfl κ) ?_
  refine Gl.st (g' := (mkF m 21 #[.val (.long c0), .second, .val (.long (own_nw c0 c0)), .second] [(.long (own_nw c0 (own_nw c0 c0)))])) (fun τ κ => κ) ?_
  refine Gl.st (g' := (mkF m 22 #[.val (.long c0), .second, .val (.long (own_nw c0 (own_nw c0 c0))), .second] [])) (fun τ κ => XS.lstoreN X0.here hx rfl (hb hby d4_21) rfl (l' := #[.val (.long c0), .second, .val (.long (own_nw c0 (own_nw c0 c0))), .second]) rfl κ) ?_
  refine Gl.st (g' := (mkF m 23 #[.val (.long c0), .second, .val (.long (own_nw c0 (own_nw c0 c0))), .second] [(.long (own_nw c0 (own_nw c0 c0)))])) (fun τ κ => XS.lloadN X0.here hx rfl (hb hby d4_22) rfl κ) ?_
  refine Gl.st (g' := (mkF m 26 #[.val (.long c0), .second, .val (.long (own_nw c0 (own_nw c0 c0))), .second] [(.long (2 : Int64)), (.long (own_nw c0 (own_nw c0 c0)))])) (fun τ κ => X0.ldc2Long hx hown (mvT hZ (hw _ (List.mem_of_getElem? (i := 25) rfl))) (g := (mkF m 23 #[.val (.long c0), .second, .val (.long (own_nw c0 (own_nw c0 c0))), .second] [(.long (own_nw c0 (own_nw c0 c0)))])) rfl (hb hby d4_23) _ κ) ?_
  refine Gl.st (g' := (mkF m 27 #[.val (.long c0), .second, .val (.long (own_nw c0 (own_nw c0 c0))), .second] [(.long c0), (.long (2 : Int64)), (.long (own_nw c0 (own_nw c0 c0)))])) (fun τ κ => XS.lloadN X0.here hx rfl (hb hby d4_26) rfl κ) ?_
  refine Gl.st (g' := (mkF m 28 #[.val (.long c0), .second, .val (.long (own_nw c0 (own_nw c0 c0))), .second] [(.long (own_nw c0 (own_nw c0 c0))), (.long c0), (.long (2 : Int64)), (.long (own_nw c0 (own_nw c0 c0)))])) (fun τ κ => XS.lloadN X0.here hx rfl (hb hby d4_27) rfl κ) ?_
  refine Gl.st (g' := (mkF m 29 #[.val (.long c0), .second, .val (.long (own_nw c0 (own_nw c0 c0))), .second] [(.long (c0 * (own_nw c0 (own_nw c0 c0)))), (.long (2 : Int64)), (.long (own_nw c0 (own_nw c0 c0)))])) (fun τ κ => XS.lmul X0.here hx rfl (hb hby d4_28) rfl κ) ?_
  refine Gl.st (g' := (mkF m 30 #[.val (.long c0), .second, .val (.long (own_nw c0 (own_nw c0 c0))), .second] [(.long ((2 : Int64) - (c0 * (own_nw c0 (own_nw c0 c0))))), (.long (own_nw c0 (own_nw c0 c0)))])) (fun τ κ => XS.lsub X0.here hx rfl (hb hby d4_29) rfl κ) ?_
  refine Gl.st (g' := (mkF m 31 #[.val (.long c0), .second, .val (.long (own_nw c0 (own_nw c0 c0))), .second] [(.long ((own_nw c0 (own_nw c0 c0)) * ((2 : Int64) - (c0 * (own_nw c0 (own_nw c0 c0))))))])) (fun τ κ => XS.lmul X0.here hx rfl (hb hby d4_30) rfl κ) ?_
  refine Gl.st (g' := (mkF m 31 #[.val (.long c0), .second, .val (.long (own_nw c0 (own_nw c0 c0))), .second] [(.long (own_nw c0 (own_nw c0 (own_nw c0 c0))))])) (fun τ κ => κ) ?_
  refine Gl.st (g' := (mkF m 32 #[.val (.long c0), .second, .val (.long (own_nw c0 (own_nw c0 (own_nw c0 c0)))), .second] [])) (fun τ κ => XS.lstoreN X0.here hx rfl (hb hby d4_31) rfl (l' := #[.val (.long c0), .second, .val (.long (own_nw c0 (own_nw c0 (own_nw c0 c0)))), .second]) rfl κ) ?_
  refine Gl.st (g' := (mkF m 33 #[.val (.long c0), .second, .val (.long (own_nw c0 (own_nw c0 (own_nw c0 c0)))), .second] [(.long (own_nw c0 (own_nw c0 (own_nw c0 c0))))])) (fun τ κ => XS.lloadN X0.here hx rfl (hb hby d4_32) rfl κ) ?_
  refine Gl.st (g' := (mkF m 36 #[.val (.long c0), .second, .val (.long (own_nw c0 (own_nw c0 (own_nw c0 c0)))), .second] [(.long (2 : Int64)), (.long (own_nw c0 (own_nw c0 (own_nw c0 c0))))])) (fun τ κ => X0.ldc2Long hx hown (mvT hZ (hw _ (List.mem_of_getElem? (i := 25) rfl))) (g := (mkF m 33 #[.val (.long c0), .second, .val (.long (own_nw c0 (own_nw c0 (own_nw c0 c0)))), .second] [(.long (own_nw c0 (own_nw c0 (own_nw c0 c0))))])) rfl (hb hby d4_33) _ κ) ?_
  refine Gl.st (g' := (mkF m 37 #[.val (.long c0), .second, .val (.long (own_nw c0 (own_nw c0 (own_nw c0 c0)))), .second] [(.long c0), (.long (2 : Int64)), (.long (own_nw c0 (own_nw c0 (own_nw c0 c0))))])) (fun τ κ => XS.lloadN X0.here hx rfl (hb hby d4_36) rfl κ) ?_
  refine Gl.st (g' := (mkF m 38 #[.val (.long c0), .second, .val (.long (own_nw c0 (own_nw c0 (own_nw c0 c0)))), .second] [(.long (own_nw c0 (own_nw c0 (own_nw c0 c0)))), (.long c0), (.long (2 : Int64)), (.long (own_nw c0 (own_nw c0 (own_nw c0 c0))))])) (fun τ κ => XS.lloadN X0.here hx rfl (hb hby d4_37) rfl κ) ?_
  refine Gl.st (g' := (mkF m 39 #[.val (.long c0), .second, .val (.long (own_nw c0 (own_nw c0 (own_nw c0 c0)))), .second] [(.long (c0 * (own_nw c0 (own_nw c0 (own_nw c0 c0))))), (.long (2 : Int64)), (.long (own_nw c0 (own_nw c0 (own_nw c0 c0))))])) (fun τ κ => XS.lmul X0.here hx rfl (hb hby d4_38) rfl κ) ?_
  refine Gl.st (g' := (mkF m 40 #[.val (.long c0), .second, .val (.long (own_nw c0 (own_nw c0 (own_nw c0 c0)))), .second] [(.long ((2 : Int64) - (c0 * (own_nw c0 (own_nw c0 (own_nw c0 c0)))))), (.long (own_nw c0 (own_nw c0 (own_nw c0 c0))))])) (fun τ κ => XS.lsub X0.here hx rfl (hb hby d4_39) rfl κ) ?_
  refine Gl.st (g' := (mkF m 41 #[.val (.long c0), .second, .val (.long (own_nw c0 (own_nw c0 (own_nw c0 c0)))), .second] [(.long ((own_nw c0 (own_nw c0 (own_nw c0 c0))) * ((2 : Int64) - (c0 * (own_nw c0 (own_nw c0 (own_nw c0 c0)))))))])) (fun τ κ => XS.lmul X0.here hx rfl (hb hby d4_40) rfl κ) ?_
  refine Gl.st (g' := (mkF m 41 #[.val (.long c0), .second, .val (.long (own_nw c0 (own_nw c0 (own_nw c0 c0)))), .second] [(.long (own_nw c0 (own_nw c0 (own_nw c0 (own_nw c0 c0)))))])) (fun τ κ => κ) ?_
  refine Gl.st (g' := (mkF m 42 #[.val (.long c0), .second, .val (.long (own_nw c0 (own_nw c0 (own_nw c0 (own_nw c0 c0))))), .second] [])) (fun τ κ => XS.lstoreN X0.here hx rfl (hb hby d4_41) rfl (l' := #[.val (.long c0), .second, .val (.long (own_nw c0 (own_nw c0 (own_nw c0 (own_nw c0 c0))))), .second]) rfl κ) ?_
  refine Gl.st (g' := (mkF m 43 #[.val (.long c0), .second, .val (.long (own_nw c0 (own_nw c0 (own_nw c0 (own_nw c0 c0))))), .second] [(.long (own_nw c0 (own_nw c0 (own_nw c0 (own_nw c0 c0)))))])) (fun τ κ => XS.lloadN X0.here hx rfl (hb hby d4_42) rfl κ) ?_
  refine Gl.st (g' := (mkF m 46 #[.val (.long c0), .second, .val (.long (own_nw c0 (own_nw c0 (own_nw c0 (own_nw c0 c0))))), .second] [(.long (2 : Int64)), (.long (own_nw c0 (own_nw c0 (own_nw c0 (own_nw c0 c0)))))])) (fun τ κ => X0.ldc2Long hx hown (mvT hZ (hw _ (List.mem_of_getElem? (i := 25) rfl))) (g := (mkF m 43 #[.val (.long c0), .second, .val (.long (own_nw c0 (own_nw c0 (own_nw c0 (own_nw c0 c0))))), .second] [(.long (own_nw c0 (own_nw c0 (own_nw c0 (own_nw c0 c0)))))])) rfl (hb hby d4_43) _ κ) ?_
  refine Gl.st (g' := (mkF m 47 #[.val (.long c0), .second, .val (.long (own_nw c0 (own_nw c0 (own_nw c0 (own_nw c0 c0))))), .second] [(.long c0), (.long (2 : Int64)), (.long (own_nw c0 (own_nw c0 (own_nw c0 (own_nw c0 c0)))))])) (fun τ κ => XS.lloadN X0.here hx rfl (hb hby d4_46) rfl κ) ?_
  refine Gl.st (g' := (mkF m 48 #[.val (.long c0), .second, .val (.long (own_nw c0 (own_nw c0 (own_nw c0 (own_nw c0 c0))))), .second] [(.long (own_nw c0 (own_nw c0 (own_nw c0 (own_nw c0 c0))))), (.long c0), (.long (2 : Int64)), (.long (own_nw c0 (own_nw c0 (own_nw c0 (own_nw c0 c0)))))])) (fun τ κ => XS.lloadN X0.here hx rfl (hb hby d4_47) rfl κ) ?_
  refine Gl.st (g' := (mkF m 49 #[.val (.long c0), .second, .val (.long (own_nw c0 (own_nw c0 (own_nw c0 (own_nw c0 c0))))), .second] [(.long (c0 * (own_nw c0 (own_nw c0 (own_nw c0 (own_nw c0 c0)))))), (.long (2 : Int64)), (.long (own_nw c0 (own_nw c0 (own_nw c0 (own_nw c0 c0)))))])) (fun τ κ => XS.lmul X0.here hx rfl (hb hby d4_48) rfl κ) ?_
  refine Gl.st (g' := (mkF m 50 #[.val (.long c0), .second, .val (.long (own_nw c0 (own_nw c0 (own_nw c0 (own_nw c0 c0))))), .second] [(.long ((2 : Int64) - (c0 * (own_nw c0 (own_nw c0 (own_nw c0 (own_nw c0 c0))))))), (.long (own_nw c0 (own_nw c0 (own_nw c0 (own_nw c0 c0)))))])) (fun τ κ => XS.lsub X0.here hx rfl (hb hby d4_49) rfl κ) ?_
  refine Gl.st (g' := (mkF m 51 #[.val (.long c0), .second, .val (.long (own_nw c0 (own_nw c0 (own_nw c0 (own_nw c0 c0))))), .second] [(.long ((own_nw c0 (own_nw c0 (own_nw c0 (own_nw c0 c0)))) * ((2 : Int64) - (c0 * (own_nw c0 (own_nw c0 (own_nw c0 (own_nw c0 c0))))))))])) (fun τ κ => XS.lmul X0.here hx rfl (hb hby d4_50) rfl κ) ?_
  refine Gl.st (g' := (mkF m 51 #[.val (.long c0), .second, .val (.long (own_nw c0 (own_nw c0 (own_nw c0 (own_nw c0 c0))))), .second] [(.long (own_nw c0 (own_nw c0 (own_nw c0 (own_nw c0 (own_nw c0 c0))))))])) (fun τ κ => κ) ?_
  refine Gl.st (g' := (mkF m 52 #[.val (.long c0), .second, .val (.long (own_nw c0 (own_nw c0 (own_nw c0 (own_nw c0 (own_nw c0 c0)))))), .second] [])) (fun τ κ => XS.lstoreN X0.here hx rfl (hb hby d4_51) rfl (l' := #[.val (.long c0), .second, .val (.long (own_nw c0 (own_nw c0 (own_nw c0 (own_nw c0 (own_nw c0 c0)))))), .second]) rfl κ) ?_
  refine Gl.st (g' := (mkF m 53 #[.val (.long c0), .second, .val (.long (own_nw c0 (own_nw c0 (own_nw c0 (own_nw c0 (own_nw c0 c0)))))), .second] [(.long (own_nw c0 (own_nw c0 (own_nw c0 (own_nw c0 (own_nw c0 c0))))))])) (fun τ κ => XS.lloadN X0.here hx rfl (hb hby d4_52) rfl κ) ?_
  exact Gl.ret (v := some (.long (own_nw c0 (own_nw c0 (own_nw c0 (own_nw c0 (own_nw c0 c0))))))) X0 Bd.notSynchronized (fun h => by rw [Bd.returns] at h; cases h) e0 (fun fs hr => (by
      jvm_step X0.here [X0.here.top, hx, (hb hby d4_53), X0.method', Bd.returns, narrow]
      first | (intro acts; rw [hr _ acts rfl rfl rfl]) | rw [hr _ _ rfl rfl rfl]
      exact Steps.refl _)) (by decide) (by decide) ⟨rfl, N0, rfl⟩
theorem d5_0 : decode method_3_code 0 = .ok (.lload_n 0, 1) := by decide +kernel
theorem d5_1 : decode method_3_code 1 = .ok (.lload_n 0, 1) := by decide +kernel
theorem d5_2 : decode method_3_code 2 = .ok (.bipush 31, 2) := by decide +kernel
theorem d5_4 : decode method_3_code 4 = .ok (.lushr, 1) := by decide +kernel
theorem d5_5 : decode method_3_code 5 = .ok (.lxor, 1) := by decide +kernel
theorem d5_6 : decode method_3_code 6 = .ok (.lload_n 0, 1) := by decide +kernel
theorem d5_7 : decode method_3_code 7 = .ok (.bipush 62, 2) := by decide +kernel
theorem d5_9 : decode method_3_code 9 = .ok (.lushr, 1) := by decide +kernel
theorem d5_10 : decode method_3_code 10 = .ok (.lxor, 1) := by decide +kernel
theorem d5_11 : decode method_3_code 11 = .ok (.lstore_n 2, 1) := by decide +kernel
theorem d5_12 : decode method_3_code 12 = .ok (.lload_n 2, 1) := by decide +kernel
theorem d5_13 : decode method_3_code 13 = .ok (.ldc2_w 9, 3) := by decide +kernel
theorem d5_16 : decode method_3_code 16 = .ok (.invokestatic 11, 3) := by decide +kernel
theorem pd_0 : parseMethodDescriptor "(J)J" = some ⟨[.long], some .long⟩ := by decide +kernel
theorem d5_19 : decode method_3_code 19 = .ok (.lmul, 1) := by decide +kernel
theorem d5_20 : decode method_3_code 20 = .ok (.lstore 4, 2) := by decide +kernel
theorem d5_22 : decode method_3_code 22 = .ok (.lload 4, 2) := by decide +kernel
theorem d5_24 : decode method_3_code 24 = .ok (.lload 4, 2) := by decide +kernel
theorem d5_26 : decode method_3_code 26 = .ok (.bipush 27, 2) := by decide +kernel
theorem d5_28 : decode method_3_code 28 = .ok (.lushr, 1) := by decide +kernel
theorem d5_29 : decode method_3_code 29 = .ok (.lxor, 1) := by decide +kernel
theorem d5_30 : decode method_3_code 30 = .ok (.lload 4, 2) := by decide +kernel
theorem d5_32 : decode method_3_code 32 = .ok (.bipush 54, 2) := by decide +kernel
theorem d5_34 : decode method_3_code 34 = .ok (.lushr, 1) := by decide +kernel
theorem d5_35 : decode method_3_code 35 = .ok (.lxor, 1) := by decide +kernel
theorem d5_36 : decode method_3_code 36 = .ok (.lstore 6, 2) := by decide +kernel
theorem d5_38 : decode method_3_code 38 = .ok (.lload 6, 2) := by decide +kernel
theorem d5_40 : decode method_3_code 40 = .ok (.ldc2_w 17, 3) := by decide +kernel
theorem d5_43 : decode method_3_code 43 = .ok (.invokestatic 11, 3) := by decide +kernel
theorem d5_46 : decode method_3_code 46 = .ok (.lmul, 1) := by decide +kernel
theorem d5_47 : decode method_3_code 47 = .ok (.lstore 8, 2) := by decide +kernel
theorem d5_49 : decode method_3_code 49 = .ok (.lload 8, 2) := by decide +kernel
theorem d5_51 : decode method_3_code 51 = .ok (.lload 8, 2) := by decide +kernel
theorem d5_53 : decode method_3_code 53 = .ok (.bipush 30, 2) := by decide +kernel
theorem d5_55 : decode method_3_code 55 = .ok (.lushr, 1) := by decide +kernel
theorem d5_56 : decode method_3_code 56 = .ok (.lxor, 1) := by decide +kernel
theorem d5_57 : decode method_3_code 57 = .ok (.lload 8, 2) := by decide +kernel
theorem d5_59 : decode method_3_code 59 = .ok (.bipush 60, 2) := by decide +kernel
theorem d5_61 : decode method_3_code 61 = .ok (.lushr, 1) := by decide +kernel
theorem d5_62 : decode method_3_code 62 = .ok (.lxor, 1) := by decide +kernel
theorem d5_63 : decode method_3_code 63 = .ok (.lreturn, 1) := by decide +kernel
theorem ef_rm5 (m : MethodId) (o : Int64) : entryFrame m #[(.long o)] 10 = mkF m 0 #[.val (.long o), .second, .unset, .unset, .unset, .unset, .unset, .unset, .unset, .unset] [] := by first | (simp [entryFrame, mkF, argsToLocals, Value.category]; done) | rfl
def Q_rm5 (Z : State) (o : Int64)  (h0 : Heap) (n0 : Nat) (v : Option Value) (h : Heap) (L : List Loc) : Prop := v = some (.long (own_unmix o)) ∧ Fr n0 L ∧ h = h0
set_option maxRecDepth 65536 in
set_option maxHeartbeats 40000000 in
theorem rm5 (l : Launch) (Z : State) (a0 : Array Value) (hw : ∀ d ∈ tables_1, d.before a0 Z = true) (ws : List Jvm.Cond) (o : Int64)  (h0 : Heap) (n0 : Nat) (Z0 : n0 ≤ h0.size)  :
    MetFree l (⟨"com/example/wanderpath/wanderpath/SeededRandomNextLongPinLaw", "unmix", "(J)J"⟩ : MethodName) (head1 (Jvm.Cond.code (⟨"com/example/wanderpath/wanderpath/SeededRandomNextLongPinLaw", "unmix", "(J)J"⟩ : MethodName) method_3_code 10 (some .long) :: ws) ({ frames := 1, cells := 0, slots := 0, locals := 17 } : Room)) (fun aα Uα => aα = #[(.long o)] ∧ Z.Warmed39 Uα.vm ∧ Uα.heap = h0) (fun _ _ _ _ _ => True) (fun _ Uα oα Uβ => ∃ vα Lα, oα = .returned vα ∧ Q_rm5 Z o  h0 n0 vα Uβ.heap Lα ∧ FrameEnd Uα oα Uβ Lα ({ frames := 1, cells := 0, slots := 0, locals := 17 } : Room).cells ({ frames := 1, cells := 0, slots := 0, locals := 17 } : Room).slots) := by
  refine MetFree.of_bodySF (plainFor_of_name pn_com_example_wanderpath_wanderpath_SeededRandomNextLongPinLaw) hisR ?_
  intro p e s m args below meth c s₁ Bd hml0 hP hK
  obtain ⟨rfl, hZ, hh⟩ := hP
  have hx := Bd.exec
  have hby := Bd.bytes
  have hml : c.maxLocals = 10 := hml0
  have hown : s.vm.findClass "com/example/wanderpath/wanderpath/SeededRandomNextLongPinLaw" = some m.cls := findClass_of_methodNamed Bd.named
  have hnm := (name_of_methodNamed Bd.named Bd.method).1
  have X0 : Stand p l e ({ frames := 1, cells := 0, slots := 0, locals := 17 } : Room) s m #[(.long o)] below meth c s₁ [] 0 0 := Stand.of_body Bd
  have e0 : s₁.heap = h0 := by rw [← hh, Bd.state]; rfl
  have N0 := Fr.nil n0
  suffices k0 : Gl p e below s (Q_rm5 Z o  h0 n0) ({ frames := 1, cells := 0, slots := 0, locals := 17 } : Room).cells ({ frames := 1, cells := 0, slots := 0, locals := 17 } : Room).slots s₁ (mkF m 0 #[.val (.long o), .second, .unset, .unset, .unset, .unset, .unset, .unset, .unset, .unset] []) from Gl.st (fun t k => castTop (ef_rm5 m o) k) k0
  refine Gl.st (g' := (mkF m 1 #[.val (.long o), .second, .unset, .unset, .unset, .unset, .unset, .unset, .unset, .unset] [(.long o)])) (fun τ κ => XS.lloadN X0.here hx rfl (hb hby d5_0) rfl κ) ?_
  refine Gl.st (g' := (mkF m 2 #[.val (.long o), .second, .unset, .unset, .unset, .unset, .unset, .unset, .unset, .unset] [(.long o), (.long o)])) (fun τ κ => XS.lloadN X0.here hx rfl (hb hby d5_1) rfl κ) ?_
  refine Gl.st (g' := (mkF m 4 #[.val (.long o), .second, .unset, .unset, .unset, .unset, .unset, .unset, .unset, .unset] [(.int (31 : Int32)), (.long o), (.long o)])) (fun τ κ => XS.bipush X0.here hx rfl (hb hby d5_2) κ) ?_
  refine Gl.st (g' := (mkF m 5 #[.val (.long o), .second, .unset, .unset, .unset, .unset, .unset, .unset, .unset, .unset] [(.long ((o.toUInt64 >>> ((31 : Int32) &&& 0x3f).toInt64.toUInt64).toInt64)), (.long o)])) (fun τ κ => XS.lushr X0.here hx rfl (hb hby d5_4) rfl κ) ?_
  refine Gl.st (g' := (mkF m 6 #[.val (.long o), .second, .unset, .unset, .unset, .unset, .unset, .unset, .unset, .unset] [(.long (o ^^^ ((o.toUInt64 >>> ((31 : Int32) &&& 0x3f).toInt64.toUInt64).toInt64)))])) (fun τ κ => XS.lxor X0.here hx rfl (hb hby d5_5) rfl κ) ?_
  refine Gl.st (g' := (mkF m 7 #[.val (.long o), .second, .unset, .unset, .unset, .unset, .unset, .unset, .unset, .unset] [(.long o), (.long (o ^^^ ((o.toUInt64 >>> ((31 : Int32) &&& 0x3f).toInt64.toUInt64).toInt64)))])) (fun τ κ => XS.lloadN X0.here hx rfl (hb hby d5_6) rfl κ) ?_
  refine Gl.st (g' := (mkF m 9 #[.val (.long o), .second, .unset, .unset, .unset, .unset, .unset, .unset, .unset, .unset] [(.int (62 : Int32)), (.long o), (.long (o ^^^ ((o.toUInt64 >>> ((31 : Int32) &&& 0x3f).toInt64.toUInt64).toInt64)))])) (fun τ κ => XS.bipush X0.here hx rfl (hb hby d5_7) κ) ?_
  refine Gl.st (g' := (mkF m 10 #[.val (.long o), .second, .unset, .unset, .unset, .unset, .unset, .unset, .unset, .unset] [(.long ((o.toUInt64 >>> ((62 : Int32) &&& 0x3f).toInt64.toUInt64).toInt64)), (.long (o ^^^ ((o.toUInt64 >>> ((31 : Int32) &&& 0x3f).toInt64.toUInt64).toInt64)))])) (fun τ κ => XS.lushr X0.here hx rfl (hb hby d5_9) rfl κ) ?_
  refine Gl.st (g' := (mkF m 11 #[.val (.long o), .second, .unset, .unset, .unset, .unset, .unset, .unset, .unset, .unset] [(.long ((o ^^^ ((o.toUInt64 >>> ((31 : Int32) &&& 0x3f).toInt64.toUInt64).toInt64)) ^^^ ((o.toUInt64 >>> ((62 : Int32) &&& 0x3f).toInt64.toUInt64).toInt64)))])) (fun τ κ => XS.lxor X0.here hx rfl (hb hby d5_10) rfl κ) ?_
  refine Gl.st (g' := (mkF m 11 #[.val (.long o), .second, .unset, .unset, .unset, .unset, .unset, .unset, .unset, .unset] [(.long (own_x31 o))])) (fun τ κ => κ) ?_
  refine Gl.st (g' := (mkF m 12 #[.val (.long o), .second, .val (.long (own_x31 o)), .second, .unset, .unset, .unset, .unset, .unset, .unset] [])) (fun τ κ => XS.lstoreN X0.here hx rfl (hb hby d5_11) rfl (l' := #[.val (.long o), .second, .val (.long (own_x31 o)), .second, .unset, .unset, .unset, .unset, .unset, .unset]) rfl κ) ?_
  refine Gl.st (g' := (mkF m 13 #[.val (.long o), .second, .val (.long (own_x31 o)), .second, .unset, .unset, .unset, .unset, .unset, .unset] [(.long (own_x31 o))])) (fun τ κ => XS.lloadN X0.here hx rfl (hb hby d5_12) rfl κ) ?_
  refine Gl.st (g' := (mkF m 16 #[.val (.long o), .second, .val (.long (own_x31 o)), .second, .unset, .unset, .unset, .unset, .unset, .unset] [(.long (-7723592293110705685 : Int64)), (.long (own_x31 o))])) (fun τ κ => X0.ldc2Long hx hown (mvT hZ (hw _ (List.mem_of_getElem? (i := 20) rfl))) (g := (mkF m 13 #[.val (.long o), .second, .val (.long (own_x31 o)), .second, .unset, .unset, .unset, .unset, .unset, .unset] [(.long (own_x31 o))])) rfl (hb hby d5_13) _ κ) ?_
  obtain ⟨rv12, _, ⟨T12, L12, k12, n12⟩, -, X12, ⟨Lc12, hQ12, l12, y12, z12⟩, st12⟩ := Jvm.LawKit.callS X0 hx (y := (⟨"com/example/wanderpath/wanderpath/SeededRandomNextLongPinLaw", "inv", "(J)J"⟩ : MethodName)) hown (mvT hZ (hw _ (List.mem_of_getElem? (i := 21) rfl))) (mvT hZ (hw _ (List.mem_of_getElem? (i := 22) rfl))) (mvT hZ (hw _ (List.mem_of_getElem? (i := 23) rfl))) (mvT hZ (hw _ (List.mem_of_getElem? (i := 24) rfl))) (by decide) (backOf (W := 2) (rm4 l Z a0 hw [] (-7723592293110705685 : Int64) h0 n0 Z0 ) hZ (hw _ (List.mem_of_getElem? (i := 24) rfl)) (hw _ (List.mem_of_getElem? (i := 23) rfl)) (by decide) (by decide)) (g := (mkF m 16 #[.val (.long o), .second, .val (.long (own_x31 o)), .second, .unset, .unset, .unset, .unset, .unset, .unset] [(.long (-7723592293110705685 : Int64)), (.long (own_x31 o))])) rfl (by rw [hml]; rfl) (argsL := [(.long (-7723592293110705685 : Int64))]) (rest := [(.long (own_x31 o))]) (lenOf pd_0 rfl) rfl (by show 2 * 0 + _ ≤ _; exact Nat.le_of_eq rfl) (hb hby d5_16) (fun _ _ => ⟨rfl, e0, (by decide : 0 + 0 ≤ _), (by decide : 0 + 0 ≤ _)⟩)
  dsimp only [Pt.U, Pt.locs, Pt.cells, Pt.slots] at X12 l12 y12 z12 st12 hQ12
  subst l12 y12 z12
  obtain ⟨rfl, N12q, e12⟩ := hQ12
  have N12 := Fr.app N0 N12q
  refine Gl.st (g' := (mkF m 19 #[.val (.long o), .second, .val (.long (own_x31 o)), .second, .unset, .unset, .unset, .unset, .unset, .unset] [(.long (own_inv (-7723592293110705685 : Int64))), (.long (own_x31 o))])) (fun τ κ => st12 _ κ) ?_
  refine Gl.st (g' := (mkF m 20 #[.val (.long o), .second, .val (.long (own_x31 o)), .second, .unset, .unset, .unset, .unset, .unset, .unset] [(.long ((own_x31 o) * (own_inv (-7723592293110705685 : Int64))))])) (fun τ κ => XS.lmul X12.here hx rfl (hb hby d5_19) rfl κ) ?_
  refine Gl.st (g' := (mkF m 20 #[.val (.long o), .second, .val (.long (own_x31 o)), .second, .unset, .unset, .unset, .unset, .unset, .unset] [(.long (own_t o))])) (fun τ κ => κ) ?_
  refine Gl.st (g' := (mkF m 22 #[.val (.long o), .second, .val (.long (own_x31 o)), .second, .val (.long (own_t o)), .second, .unset, .unset, .unset, .unset] [])) (fun τ κ => XS.lstore X12.here hx rfl (hb hby d5_20) rfl (l' := #[.val (.long o), .second, .val (.long (own_x31 o)), .second, .val (.long (own_t o)), .second, .unset, .unset, .unset, .unset]) rfl κ) ?_
  refine Gl.st (g' := (mkF m 24 #[.val (.long o), .second, .val (.long (own_x31 o)), .second, .val (.long (own_t o)), .second, .unset, .unset, .unset, .unset] [(.long (own_t o))])) (fun τ κ => XS.lload X12.here hx rfl (hb hby d5_22) rfl κ) ?_
  refine Gl.st (g' := (mkF m 26 #[.val (.long o), .second, .val (.long (own_x31 o)), .second, .val (.long (own_t o)), .second, .unset, .unset, .unset, .unset] [(.long (own_t o)), (.long (own_t o))])) (fun τ κ => XS.lload X12.here hx rfl (hb hby d5_24) rfl κ) ?_
  refine Gl.st (g' := (mkF m 28 #[.val (.long o), .second, .val (.long (own_x31 o)), .second, .val (.long (own_t o)), .second, .unset, .unset, .unset, .unset] [(.int (27 : Int32)), (.long (own_t o)), (.long (own_t o))])) (fun τ κ => XS.bipush X12.here hx rfl (hb hby d5_26) κ) ?_
  refine Gl.st (g' := (mkF m 29 #[.val (.long o), .second, .val (.long (own_x31 o)), .second, .val (.long (own_t o)), .second, .unset, .unset, .unset, .unset] [(.long (((own_t o).toUInt64 >>> ((27 : Int32) &&& 0x3f).toInt64.toUInt64).toInt64)), (.long (own_t o))])) (fun τ κ => XS.lushr X12.here hx rfl (hb hby d5_28) rfl κ) ?_
  refine Gl.st (g' := (mkF m 30 #[.val (.long o), .second, .val (.long (own_x31 o)), .second, .val (.long (own_t o)), .second, .unset, .unset, .unset, .unset] [(.long ((own_t o) ^^^ (((own_t o).toUInt64 >>> ((27 : Int32) &&& 0x3f).toInt64.toUInt64).toInt64)))])) (fun τ κ => XS.lxor X12.here hx rfl (hb hby d5_29) rfl κ) ?_
  refine Gl.st (g' := (mkF m 32 #[.val (.long o), .second, .val (.long (own_x31 o)), .second, .val (.long (own_t o)), .second, .unset, .unset, .unset, .unset] [(.long (own_t o)), (.long ((own_t o) ^^^ (((own_t o).toUInt64 >>> ((27 : Int32) &&& 0x3f).toInt64.toUInt64).toInt64)))])) (fun τ κ => XS.lload X12.here hx rfl (hb hby d5_30) rfl κ) ?_
  refine Gl.st (g' := (mkF m 34 #[.val (.long o), .second, .val (.long (own_x31 o)), .second, .val (.long (own_t o)), .second, .unset, .unset, .unset, .unset] [(.int (54 : Int32)), (.long (own_t o)), (.long ((own_t o) ^^^ (((own_t o).toUInt64 >>> ((27 : Int32) &&& 0x3f).toInt64.toUInt64).toInt64)))])) (fun τ κ => XS.bipush X12.here hx rfl (hb hby d5_32) κ) ?_
  refine Gl.st (g' := (mkF m 35 #[.val (.long o), .second, .val (.long (own_x31 o)), .second, .val (.long (own_t o)), .second, .unset, .unset, .unset, .unset] [(.long (((own_t o).toUInt64 >>> ((54 : Int32) &&& 0x3f).toInt64.toUInt64).toInt64)), (.long ((own_t o) ^^^ (((own_t o).toUInt64 >>> ((27 : Int32) &&& 0x3f).toInt64.toUInt64).toInt64)))])) (fun τ κ => XS.lushr X12.here hx rfl (hb hby d5_34) rfl κ) ?_
  refine Gl.st (g' := (mkF m 36 #[.val (.long o), .second, .val (.long (own_x31 o)), .second, .val (.long (own_t o)), .second, .unset, .unset, .unset, .unset] [(.long (((own_t o) ^^^ (((own_t o).toUInt64 >>> ((27 : Int32) &&& 0x3f).toInt64.toUInt64).toInt64)) ^^^ (((own_t o).toUInt64 >>> ((54 : Int32) &&& 0x3f).toInt64.toUInt64).toInt64)))])) (fun τ κ => XS.lxor X12.here hx rfl (hb hby d5_35) rfl κ) ?_
  refine Gl.st (g' := (mkF m 36 #[.val (.long o), .second, .val (.long (own_x31 o)), .second, .val (.long (own_t o)), .second, .unset, .unset, .unset, .unset] [(.long (own_x27 (own_t o)))])) (fun τ κ => κ) ?_
  refine Gl.st (g' := (mkF m 38 #[.val (.long o), .second, .val (.long (own_x31 o)), .second, .val (.long (own_t o)), .second, .val (.long (own_x27 (own_t o))), .second, .unset, .unset] [])) (fun τ κ => XS.lstore X12.here hx rfl (hb hby d5_36) rfl (l' := #[.val (.long o), .second, .val (.long (own_x31 o)), .second, .val (.long (own_t o)), .second, .val (.long (own_x27 (own_t o))), .second, .unset, .unset]) rfl κ) ?_
  refine Gl.st (g' := (mkF m 40 #[.val (.long o), .second, .val (.long (own_x31 o)), .second, .val (.long (own_t o)), .second, .val (.long (own_x27 (own_t o))), .second, .unset, .unset] [(.long (own_x27 (own_t o)))])) (fun τ κ => XS.lload X12.here hx rfl (hb hby d5_38) rfl κ) ?_
  refine Gl.st (g' := (mkF m 43 #[.val (.long o), .second, .val (.long (own_x31 o)), .second, .val (.long (own_t o)), .second, .val (.long (own_x27 (own_t o))), .second, .unset, .unset] [(.long (-4658895280553007687 : Int64)), (.long (own_x27 (own_t o)))])) (fun τ κ => X12.ldc2Long hx hown (mvT hZ (hw _ (List.mem_of_getElem? (i := 26) rfl))) (g := (mkF m 40 #[.val (.long o), .second, .val (.long (own_x31 o)), .second, .val (.long (own_t o)), .second, .val (.long (own_x27 (own_t o))), .second, .unset, .unset] [(.long (own_x27 (own_t o)))])) rfl (hb hby d5_40) _ κ) ?_
  obtain ⟨rv13, _, ⟨T13, L13, k13, n13⟩, -, X13, ⟨Lc13, hQ13, l13, y13, z13⟩, st13⟩ := Jvm.LawKit.callS X12 hx (y := (⟨"com/example/wanderpath/wanderpath/SeededRandomNextLongPinLaw", "inv", "(J)J"⟩ : MethodName)) hown (mvT hZ (hw _ (List.mem_of_getElem? (i := 21) rfl))) (mvT hZ (hw _ (List.mem_of_getElem? (i := 22) rfl))) (mvT hZ (hw _ (List.mem_of_getElem? (i := 23) rfl))) (mvT hZ (hw _ (List.mem_of_getElem? (i := 24) rfl))) (by decide) (backOf (W := 2) (rm4 l Z a0 hw [] (-4658895280553007687 : Int64) h0 n0 Z0 ) hZ (hw _ (List.mem_of_getElem? (i := 24) rfl)) (hw _ (List.mem_of_getElem? (i := 23) rfl)) (by decide) (by decide)) (g := (mkF m 43 #[.val (.long o), .second, .val (.long (own_x31 o)), .second, .val (.long (own_t o)), .second, .val (.long (own_x27 (own_t o))), .second, .unset, .unset] [(.long (-4658895280553007687 : Int64)), (.long (own_x27 (own_t o)))])) rfl (by rw [hml]; rfl) (argsL := [(.long (-4658895280553007687 : Int64))]) (rest := [(.long (own_x27 (own_t o)))]) (lenOf pd_0 rfl) rfl (by show 2 * 0 + _ ≤ _; exact Nat.le_of_eq rfl) (hb hby d5_43) (fun _ _ => ⟨rfl, e12, (by decide : 0 + 0 ≤ _), (by decide : 0 + 0 ≤ _)⟩)
  dsimp only [Pt.U, Pt.locs, Pt.cells, Pt.slots] at X13 l13 y13 z13 st13 hQ13
  subst l13 y13 z13
  obtain ⟨rfl, N13q, e13⟩ := hQ13
  have N13 := Fr.app N12 N13q
  refine Gl.st (g' := (mkF m 46 #[.val (.long o), .second, .val (.long (own_x31 o)), .second, .val (.long (own_t o)), .second, .val (.long (own_x27 (own_t o))), .second, .unset, .unset] [(.long (own_inv (-4658895280553007687 : Int64))), (.long (own_x27 (own_t o)))])) (fun τ κ => st13 _ κ) ?_
  refine Gl.st (g' := (mkF m 47 #[.val (.long o), .second, .val (.long (own_x31 o)), .second, .val (.long (own_t o)), .second, .val (.long (own_x27 (own_t o))), .second, .unset, .unset] [(.long ((own_x27 (own_t o)) * (own_inv (-4658895280553007687 : Int64))))])) (fun τ κ => XS.lmul X13.here hx rfl (hb hby d5_46) rfl κ) ?_
  refine Gl.st (g' := (mkF m 47 #[.val (.long o), .second, .val (.long (own_x31 o)), .second, .val (.long (own_t o)), .second, .val (.long (own_x27 (own_t o))), .second, .unset, .unset] [(.long (own_s o))])) (fun τ κ => κ) ?_
  refine Gl.st (g' := (mkF m 49 #[.val (.long o), .second, .val (.long (own_x31 o)), .second, .val (.long (own_t o)), .second, .val (.long (own_x27 (own_t o))), .second, .val (.long (own_s o)), .second] [])) (fun τ κ => XS.lstore X13.here hx rfl (hb hby d5_47) rfl (l' := #[.val (.long o), .second, .val (.long (own_x31 o)), .second, .val (.long (own_t o)), .second, .val (.long (own_x27 (own_t o))), .second, .val (.long (own_s o)), .second]) rfl κ) ?_
  refine Gl.st (g' := (mkF m 51 #[.val (.long o), .second, .val (.long (own_x31 o)), .second, .val (.long (own_t o)), .second, .val (.long (own_x27 (own_t o))), .second, .val (.long (own_s o)), .second] [(.long (own_s o))])) (fun τ κ => XS.lload X13.here hx rfl (hb hby d5_49) rfl κ) ?_
  refine Gl.st (g' := (mkF m 53 #[.val (.long o), .second, .val (.long (own_x31 o)), .second, .val (.long (own_t o)), .second, .val (.long (own_x27 (own_t o))), .second, .val (.long (own_s o)), .second] [(.long (own_s o)), (.long (own_s o))])) (fun τ κ => XS.lload X13.here hx rfl (hb hby d5_51) rfl κ) ?_
  refine Gl.st (g' := (mkF m 55 #[.val (.long o), .second, .val (.long (own_x31 o)), .second, .val (.long (own_t o)), .second, .val (.long (own_x27 (own_t o))), .second, .val (.long (own_s o)), .second] [(.int (30 : Int32)), (.long (own_s o)), (.long (own_s o))])) (fun τ κ => XS.bipush X13.here hx rfl (hb hby d5_53) κ) ?_
  refine Gl.st (g' := (mkF m 56 #[.val (.long o), .second, .val (.long (own_x31 o)), .second, .val (.long (own_t o)), .second, .val (.long (own_x27 (own_t o))), .second, .val (.long (own_s o)), .second] [(.long (((own_s o).toUInt64 >>> ((30 : Int32) &&& 0x3f).toInt64.toUInt64).toInt64)), (.long (own_s o))])) (fun τ κ => XS.lushr X13.here hx rfl (hb hby d5_55) rfl κ) ?_
  refine Gl.st (g' := (mkF m 57 #[.val (.long o), .second, .val (.long (own_x31 o)), .second, .val (.long (own_t o)), .second, .val (.long (own_x27 (own_t o))), .second, .val (.long (own_s o)), .second] [(.long ((own_s o) ^^^ (((own_s o).toUInt64 >>> ((30 : Int32) &&& 0x3f).toInt64.toUInt64).toInt64)))])) (fun τ κ => XS.lxor X13.here hx rfl (hb hby d5_56) rfl κ) ?_
  refine Gl.st (g' := (mkF m 59 #[.val (.long o), .second, .val (.long (own_x31 o)), .second, .val (.long (own_t o)), .second, .val (.long (own_x27 (own_t o))), .second, .val (.long (own_s o)), .second] [(.long (own_s o)), (.long ((own_s o) ^^^ (((own_s o).toUInt64 >>> ((30 : Int32) &&& 0x3f).toInt64.toUInt64).toInt64)))])) (fun τ κ => XS.lload X13.here hx rfl (hb hby d5_57) rfl κ) ?_
  refine Gl.st (g' := (mkF m 61 #[.val (.long o), .second, .val (.long (own_x31 o)), .second, .val (.long (own_t o)), .second, .val (.long (own_x27 (own_t o))), .second, .val (.long (own_s o)), .second] [(.int (60 : Int32)), (.long (own_s o)), (.long ((own_s o) ^^^ (((own_s o).toUInt64 >>> ((30 : Int32) &&& 0x3f).toInt64.toUInt64).toInt64)))])) (fun τ κ => XS.bipush X13.here hx rfl (hb hby d5_59) κ) ?_
  refine Gl.st (g' := (mkF m 62 #[.val (.long o), .second, .val (.long (own_x31 o)), .second, .val (.long (own_t o)), .second, .val (.long (own_x27 (own_t o))), .second, .val (.long (own_s o)), .second] [(.long (((own_s o).toUInt64 >>> ((60 : Int32) &&& 0x3f).toInt64.toUInt64).toInt64)), (.long ((own_s o) ^^^ (((own_s o).toUInt64 >>> ((30 : Int32) &&& 0x3f).toInt64.toUInt64).toInt64)))])) (fun τ κ => XS.lushr X13.here hx rfl (hb hby d5_61) rfl κ) ?_
  refine Gl.st (g' := (mkF m 63 #[.val (.long o), .second, .val (.long (own_x31 o)), .second, .val (.long (own_t o)), .second, .val (.long (own_x27 (own_t o))), .second, .val (.long (own_s o)), .second] [(.long (((own_s o) ^^^ (((own_s o).toUInt64 >>> ((30 : Int32) &&& 0x3f).toInt64.toUInt64).toInt64)) ^^^ (((own_s o).toUInt64 >>> ((60 : Int32) &&& 0x3f).toInt64.toUInt64).toInt64)))])) (fun τ κ => XS.lxor X13.here hx rfl (hb hby d5_62) rfl κ) ?_
  refine Gl.st (g' := (mkF m 63 #[.val (.long o), .second, .val (.long (own_x31 o)), .second, .val (.long (own_t o)), .second, .val (.long (own_x27 (own_t o))), .second, .val (.long (own_s o)), .second] [(.long (own_unmix o))])) (fun τ κ => κ) ?_
  exact Gl.ret (v := some (.long (own_unmix o))) X13 Bd.notSynchronized (fun h => by rw [Bd.returns] at h; cases h) e13 (fun fs hr => (by
      jvm_step X13.here [X13.here.top, hx, (hb hby d5_63), X13.method', Bd.returns, narrow]
      first | (intro acts; rw [hr _ acts rfl rfl rfl]) | rw [hr _ _ rfl rfl rfl]
      exact Steps.refl _)) (by decide) (by decide) ⟨rfl, N13, rfl⟩
theorem pd_1 : parseMethodDescriptor "(J)V" = some ⟨[.long], none⟩ := by decide +kernel
theorem pd_2 : parseMethodDescriptor "()J" = some ⟨[], some .long⟩ := by decide +kernel
theorem ef_rm0 (m : MethodId) (x0 : Int64) : entryFrame m #[(.long x0)] maxLocals = mkF m 0 #[.val (.long x0), .second, .unset, .unset, .unset, .unset, .unset, .unset, .unset, .unset, .unset, .unset] [] := by first | (simp [entryFrame, mkF, argsToLocals, Value.category, maxLocals]; done) | rfl
def Q_rm0 (Z : State) (x0 : Int64)  (h0 : Heap) (n0 : Nat) (v : Option Value) (h : Heap) (L : List Loc) : Prop := v = some (.int 1) ∧ Fr n0 L
set_option maxRecDepth 65536 in
set_option maxHeartbeats 40000000 in
theorem rm0 (l : Launch) (Z : State) (a0 : Array Value) (hw : ∀ d ∈ tables_1, d.before a0 Z = true) (ws : List Jvm.Cond) (x0 : Int64)  (h0 : Heap) (n0 : Nat) (Z0 : n0 ≤ h0.size)  :
    MetFree l x (head1 (Jvm.Cond.code x code maxLocals ret :: ws) room_1) (fun aα Uα => aα = #[(.long x0)] ∧ Z.Warmed39 Uα.vm ∧ Uα.heap = h0) (fun _ _ _ _ _ => True) (fun _ Uα oα Uβ => ∃ vα Lα, oα = .returned vα ∧ Q_rm0 Z x0  h0 n0 vα Uβ.heap Lα ∧ FrameEnd Uα oα Uβ Lα 1 1) := by
  refine MetFree.of_bodySF (plainFor_of_name pn_com_example_wanderpath_wanderpath_SeededRandomNextLongPinLaw) hisR ?_
  intro p e s m args below meth c s₁ Bd hml0 hP hK
  obtain ⟨rfl, hZ, hh⟩ := hP
  have hx := Bd.exec
  have hby := Bd.bytes
  have hml : c.maxLocals = 12 := hml0
  have hown : s.vm.findClass "com/example/wanderpath/wanderpath/SeededRandomNextLongPinLaw" = some m.cls := findClass_of_methodNamed Bd.named
  have hnm := (name_of_methodNamed Bd.named Bd.method).1
  have X0 : Stand p l e room_1 s m #[(.long x0)] below meth c s₁ [] 0 0 := Stand.of_body Bd
  have e0 : s₁.heap = h0 := by rw [← hh, Bd.state]; rfl
  have N0 := Fr.nil n0
  suffices k0 : Gl p e below s (Q_rm0 Z x0  h0 n0) 1 1 s₁ (mkF m 0 #[.val (.long x0), .second, .unset, .unset, .unset, .unset, .unset, .unset, .unset, .unset, .unset, .unset] []) from Gl.st (fun t k => castTop (ef_rm0 m x0) k) k0
  refine Gl.st (g' := (mkF m 3 #[.val (.long x0), .second, .unset, .unset, .unset, .unset, .unset, .unset, .unset, .unset, .unset, .unset] [(.long (-7046029254386353131 : Int64))])) (fun τ κ => X0.ldc2Long hx hown (mvT hZ (hw _ (List.mem_of_getElem? (i := 0) rfl))) (g := (mkF m 0 #[.val (.long x0), .second, .unset, .unset, .unset, .unset, .unset, .unset, .unset, .unset, .unset, .unset] [])) rfl (hb hby at_0) _ κ) ?_
  refine Gl.st (g' := (mkF m 4 #[.val (.long x0), .second, .val (.long (-7046029254386353131 : Int64)), .second, .unset, .unset, .unset, .unset, .unset, .unset, .unset, .unset] [])) (fun τ κ => XS.lstoreN X0.here hx rfl (hb hby at_3) rfl (l' := #[.val (.long x0), .second, .val (.long (-7046029254386353131 : Int64)), .second, .unset, .unset, .unset, .unset, .unset, .unset, .unset, .unset]) rfl κ) ?_
  obtain ⟨T14, h14, X14, e14, E14, A14, D14, -, st14⟩ := newO X0 hx hZ hown (hw _ (List.mem_of_getElem? (i := 1) rfl)) (hw _ (List.mem_of_getElem? (i := 2) rfl)) (hw _ (List.mem_of_getElem? (i := 3) rfl)) e0 (g := (mkF m 4 #[.val (.long x0), .second, .val (.long (-7046029254386353131 : Int64)), .second, .unset, .unset, .unset, .unset, .unset, .unset, .unset, .unset] [])) rfl (hb hby at_4) (by decide) (by decide)
  obtain ⟨b14, g14⟩ : ∃ z, z = h0.size := ⟨_, rfl⟩
  rw [← g14] at A14 D14 st14
  have g_b14 : n0 ≤ b14 := Nat.le_trans Z0 (Nat.le_of_eq g14.symm)
  have sz_b14 : h0.size ≤ b14 := Nat.le_trans (Keep.refl h0 []).1 (Nat.le_of_eq g14.symm)
  have Z14 : n0 ≤ h14.size := Nat.le_trans Z0 E14.1
  have K14 : Keep h0 h14 [] := (Keep.refl h0 []).ext E14
  have F_15 : Fld Z h14 b14 "com/example/wanderpath/wanderpath/SeededRandom" "state" "J" (.long (0 : Int64)) := D14 (Or.inl (hw _ (List.mem_of_getElem? (i := 11) rfl))) (ty := .long) (by decide)
  refine Gl.st (g' := (mkF m 7 #[.val (.long x0), .second, .val (.long (-7046029254386353131 : Int64)), .second, .unset, .unset, .unset, .unset, .unset, .unset, .unset, .unset] [(.ref b14)])) (fun τ κ => st14 _ κ) ?_
  refine Gl.st (g' := (mkF m 8 #[.val (.long x0), .second, .val (.long (-7046029254386353131 : Int64)), .second, .unset, .unset, .unset, .unset, .unset, .unset, .unset, .unset] [(.ref b14), (.ref b14)])) (fun τ κ => XS.dup X14.here hx rfl (hb hby at_7) rfl rfl κ) ?_
  refine Gl.st (g' := (mkF m 9 #[.val (.long x0), .second, .val (.long (-7046029254386353131 : Int64)), .second, .unset, .unset, .unset, .unset, .unset, .unset, .unset, .unset] [(.long x0), (.ref b14), (.ref b14)])) (fun τ κ => XS.lloadN X14.here hx rfl (hb hby at_8) rfl κ) ?_
  obtain ⟨rv16, _, ⟨T16, L16, k16, n16⟩, -, X16, ⟨Lc16, hQ16, l16, y16, z16⟩, st16⟩ := X14.specialBack hx (y := (⟨"com/example/wanderpath/wanderpath/SeededRandom", "<init>", "(J)V"⟩ : MethodName)) rfl hown (mvT hZ (hw _ (List.mem_of_getElem? (i := 4) rfl))) (mvT hZ (hw _ (List.mem_of_getElem? (i := 5) rfl))) (mvT hZ (hw _ (List.mem_of_getElem? (i := 6) rfl))) (by decide) (backOf (W := 1) (rm1 l Z a0 hw [] b14 x0 h14 n0 Z14 A14 g_b14 F_15) hZ (hw _ (List.mem_of_getElem? (i := 6) rfl)) (hw _ (List.mem_of_getElem? (i := 3) rfl)) (by decide) (by decide)) (g := (mkF m 9 #[.val (.long x0), .second, .val (.long (-7046029254386353131 : Int64)), .second, .unset, .unset, .unset, .unset, .unset, .unset, .unset, .unset] [(.long x0), (.ref b14), (.ref b14)])) rfl (by rw [hml]; rfl) (Steps.refl _) (a := b14) (argsL := [(.long x0)]) (rest := [(.ref b14)]) (lenOf pd_1 rfl) rfl (by show 2 * 0 + _ ≤ _; exact Nat.le_of_eq rfl) (hb hby at_9) (fun _ _ => ⟨rfl, e14, (by decide : 1 + 0 ≤ _), (by decide : 1 + 0 ≤ _)⟩)
  dsimp only [Pt.U, Pt.locs, Pt.cells, Pt.slots] at X16 l16 y16 z16 st16 hQ16
  subst l16 y16 z16
  obtain ⟨rfl, N16q, Kc16, Ec16, Fc16_0⟩ := hQ16
  have E_17 := A14.keep Kc16
  have N16 := Fr.app N0 N16q
  have Z16 : n0 ≤ T16.heap.size := Nat.le_trans Z14 Kc16.1
  have K16 : Keep h0 T16.heap [] := K14.trans Kc16 (allS (Or.inr sz_b14) all0)
  refine Gl.st (g' := (mkF m 12 #[.val (.long x0), .second, .val (.long (-7046029254386353131 : Int64)), .second, .unset, .unset, .unset, .unset, .unset, .unset, .unset, .unset] [(.ref b14)])) (fun τ κ => st16.trans κ) ?_
  refine Gl.st (g' := (mkF m 14 #[.val (.long x0), .second, .val (.long (-7046029254386353131 : Int64)), .second, .val (.ref b14), .unset, .unset, .unset, .unset, .unset, .unset, .unset] [])) (fun τ κ => XS.astore X16.here hx rfl (hb hby at_12) rfl rfl (l' := #[.val (.long x0), .second, .val (.long (-7046029254386353131 : Int64)), .second, .val (.ref b14), .unset, .unset, .unset, .unset, .unset, .unset, .unset]) rfl κ) ?_
  refine Gl.st (g' := (mkF m 16 #[.val (.long x0), .second, .val (.long (-7046029254386353131 : Int64)), .second, .val (.ref b14), .unset, .unset, .unset, .unset, .unset, .unset, .unset] [(.ref b14)])) (fun τ κ => XS.aload X16.here hx rfl (hb hby at_14) rfl rfl κ) ?_
  obtain ⟨cq19, kq19, q19a, q19b, q19c⟩ := isOf hZ rfl Ec16
  obtain ⟨rv19, _, ⟨T19, L19, k19, n19⟩, -, X19, ⟨Lc19, hQ19, l19, y19, z19⟩, st19⟩ := X16.virtualBack hx (y := (⟨"com/example/wanderpath/wanderpath/SeededRandom", "nextLong", "()J"⟩ : MethodName)) (z := (⟨"com/example/wanderpath/wanderpath/SeededRandom", "nextLong", "()J"⟩ : MethodName)) hown (mvT hZ (hw _ (List.mem_of_getElem? (i := 12) rfl))) (mvT hZ (hw _ (List.mem_of_getElem? (i := 13) rfl))) (notFace_of_selects (args := #[]) (mvT hZ (hw _ (List.mem_of_getElem? (i := 15) rfl)))) (mvT hZ (hw _ (List.mem_of_getElem? (i := 15) rfl))) (mvT hZ (hw _ (List.mem_of_getElem? (i := 14) rfl))) (by decide) (backOf (W := 0) (rm3 l Z a0 hw [] b14 x0 T16.heap n0 Z16 Ec16 g_b14 Fc16_0) hZ (hw _ (List.mem_of_getElem? (i := 16) rfl)) (hw _ (List.mem_of_getElem? (i := 3) rfl)) (by decide) (by decide)) q19a q19c (g := (mkF m 16 #[.val (.long x0), .second, .val (.long (-7046029254386353131 : Int64)), .second, .val (.ref b14), .unset, .unset, .unset, .unset, .unset, .unset, .unset] [(.ref b14)])) rfl (by rw [hml]; rfl) (Steps.refl _) (argsL := []) (rest := []) (lenOf pd_2 rfl) rfl (by show 2 * 0 + _ ≤ _; exact Nat.le_of_eq rfl) (hb hby at_16) (fun _ _ => ⟨rfl, rfl, (by decide : 1 + 0 ≤ _), (by decide : 1 + 0 ≤ _)⟩)
  dsimp only [Pt.U, Pt.locs, Pt.cells, Pt.slots] at X19 l19 y19 z19 st19 hQ19
  subst l19 y19 z19
  obtain ⟨rfl, N19q, Kc19, Ec19, Fc19_0⟩ := hQ19
  have E_20 := Ec16.keep Kc19
  have N19 := Fr.app N16 N19q
  have Z19 : n0 ≤ T19.heap.size := Nat.le_trans Z16 Kc19.1
  have K19 : Keep h0 T19.heap [] := K16.trans Kc19 (allS (Or.inr sz_b14) all0)
  refine Gl.st (g' := (mkF m 19 #[.val (.long x0), .second, .val (.long (-7046029254386353131 : Int64)), .second, .val (.ref b14), .unset, .unset, .unset, .unset, .unset, .unset, .unset] [(.long (own_mix (x0 + (-7046029254386353131 : Int64))))])) (fun τ κ => st19.trans κ) ?_
  refine Gl.st (g' := (mkF m 21 #[.val (.long x0), .second, .val (.long (-7046029254386353131 : Int64)), .second, .val (.ref b14), .val (.long (own_mix (x0 + (-7046029254386353131 : Int64)))), .second, .unset, .unset, .unset, .unset, .unset] [])) (fun τ κ => XS.lstore X19.here hx rfl (hb hby at_19) rfl (l' := #[.val (.long x0), .second, .val (.long (-7046029254386353131 : Int64)), .second, .val (.ref b14), .val (.long (own_mix (x0 + (-7046029254386353131 : Int64)))), .second, .unset, .unset, .unset, .unset, .unset]) rfl κ) ?_
  refine Gl.st (g' := (mkF m 23 #[.val (.long x0), .second, .val (.long (-7046029254386353131 : Int64)), .second, .val (.ref b14), .val (.long (own_mix (x0 + (-7046029254386353131 : Int64)))), .second, .unset, .unset, .unset, .unset, .unset] [(.ref b14)])) (fun τ κ => XS.aload X19.here hx rfl (hb hby at_21) rfl rfl κ) ?_
  obtain ⟨cq22, kq22, q22a, q22b, q22c⟩ := isOf hZ rfl Ec19
  obtain ⟨rv22, _, ⟨T22, L22, k22, n22⟩, -, X22, ⟨Lc22, hQ22, l22, y22, z22⟩, st22⟩ := X19.virtualBack hx (y := (⟨"com/example/wanderpath/wanderpath/SeededRandom", "nextLong", "()J"⟩ : MethodName)) (z := (⟨"com/example/wanderpath/wanderpath/SeededRandom", "nextLong", "()J"⟩ : MethodName)) hown (mvT hZ (hw _ (List.mem_of_getElem? (i := 12) rfl))) (mvT hZ (hw _ (List.mem_of_getElem? (i := 13) rfl))) (notFace_of_selects (args := #[]) (mvT hZ (hw _ (List.mem_of_getElem? (i := 15) rfl)))) (mvT hZ (hw _ (List.mem_of_getElem? (i := 15) rfl))) (mvT hZ (hw _ (List.mem_of_getElem? (i := 14) rfl))) (by decide) (backOf (W := 0) (rm3 l Z a0 hw [] b14 (x0 + (-7046029254386353131 : Int64)) T19.heap n0 Z19 Ec19 g_b14 Fc19_0) hZ (hw _ (List.mem_of_getElem? (i := 16) rfl)) (hw _ (List.mem_of_getElem? (i := 3) rfl)) (by decide) (by decide)) q22a q22c (g := (mkF m 23 #[.val (.long x0), .second, .val (.long (-7046029254386353131 : Int64)), .second, .val (.ref b14), .val (.long (own_mix (x0 + (-7046029254386353131 : Int64)))), .second, .unset, .unset, .unset, .unset, .unset] [(.ref b14)])) rfl (by rw [hml]; rfl) (Steps.refl _) (argsL := []) (rest := []) (lenOf pd_2 rfl) rfl (by show 2 * 0 + _ ≤ _; exact Nat.le_of_eq rfl) (hb hby at_23) (fun _ _ => ⟨rfl, rfl, (by decide : 1 + 0 ≤ _), (by decide : 1 + 0 ≤ _)⟩)
  dsimp only [Pt.U, Pt.locs, Pt.cells, Pt.slots] at X22 l22 y22 z22 st22 hQ22
  subst l22 y22 z22
  obtain ⟨rfl, N22q, Kc22, Ec22, Fc22_0⟩ := hQ22
  have E_23 := Ec19.keep Kc22
  have N22 := Fr.app N19 N22q
  have Z22 : n0 ≤ T22.heap.size := Nat.le_trans Z19 Kc22.1
  have K22 : Keep h0 T22.heap [] := K19.trans Kc22 (allS (Or.inr sz_b14) all0)
  refine Gl.st (g' := (mkF m 26 #[.val (.long x0), .second, .val (.long (-7046029254386353131 : Int64)), .second, .val (.ref b14), .val (.long (own_mix (x0 + (-7046029254386353131 : Int64)))), .second, .unset, .unset, .unset, .unset, .unset] [(.long (own_mix ((x0 + (-7046029254386353131 : Int64)) + (-7046029254386353131 : Int64))))])) (fun τ κ => st22.trans κ) ?_
  refine Gl.st (g' := (mkF m 28 #[.val (.long x0), .second, .val (.long (-7046029254386353131 : Int64)), .second, .val (.ref b14), .val (.long (own_mix (x0 + (-7046029254386353131 : Int64)))), .second, .val (.long (own_mix ((x0 + (-7046029254386353131 : Int64)) + (-7046029254386353131 : Int64)))), .second, .unset, .unset, .unset] [])) (fun τ κ => XS.lstore X22.here hx rfl (hb hby at_26) rfl (l' := #[.val (.long x0), .second, .val (.long (-7046029254386353131 : Int64)), .second, .val (.ref b14), .val (.long (own_mix (x0 + (-7046029254386353131 : Int64)))), .second, .val (.long (own_mix ((x0 + (-7046029254386353131 : Int64)) + (-7046029254386353131 : Int64)))), .second, .unset, .unset, .unset]) rfl κ) ?_
  refine Gl.st (g' := (mkF m 30 #[.val (.long x0), .second, .val (.long (-7046029254386353131 : Int64)), .second, .val (.ref b14), .val (.long (own_mix (x0 + (-7046029254386353131 : Int64)))), .second, .val (.long (own_mix ((x0 + (-7046029254386353131 : Int64)) + (-7046029254386353131 : Int64)))), .second, .unset, .unset, .unset] [(.ref b14)])) (fun τ κ => XS.aload X22.here hx rfl (hb hby at_28) rfl rfl κ) ?_
  obtain ⟨cq25, kq25, q25a, q25b, q25c⟩ := isOf hZ rfl Ec22
  obtain ⟨rv25, _, ⟨T25, L25, k25, n25⟩, -, X25, ⟨Lc25, hQ25, l25, y25, z25⟩, st25⟩ := X22.virtualBack hx (y := (⟨"com/example/wanderpath/wanderpath/SeededRandom", "nextLong", "()J"⟩ : MethodName)) (z := (⟨"com/example/wanderpath/wanderpath/SeededRandom", "nextLong", "()J"⟩ : MethodName)) hown (mvT hZ (hw _ (List.mem_of_getElem? (i := 12) rfl))) (mvT hZ (hw _ (List.mem_of_getElem? (i := 13) rfl))) (notFace_of_selects (args := #[]) (mvT hZ (hw _ (List.mem_of_getElem? (i := 15) rfl)))) (mvT hZ (hw _ (List.mem_of_getElem? (i := 15) rfl))) (mvT hZ (hw _ (List.mem_of_getElem? (i := 14) rfl))) (by decide) (backOf (W := 0) (rm3 l Z a0 hw [] b14 ((x0 + (-7046029254386353131 : Int64)) + (-7046029254386353131 : Int64)) T22.heap n0 Z22 Ec22 g_b14 Fc22_0) hZ (hw _ (List.mem_of_getElem? (i := 16) rfl)) (hw _ (List.mem_of_getElem? (i := 3) rfl)) (by decide) (by decide)) q25a q25c (g := (mkF m 30 #[.val (.long x0), .second, .val (.long (-7046029254386353131 : Int64)), .second, .val (.ref b14), .val (.long (own_mix (x0 + (-7046029254386353131 : Int64)))), .second, .val (.long (own_mix ((x0 + (-7046029254386353131 : Int64)) + (-7046029254386353131 : Int64)))), .second, .unset, .unset, .unset] [(.ref b14)])) rfl (by rw [hml]; rfl) (Steps.refl _) (argsL := []) (rest := []) (lenOf pd_2 rfl) rfl (by show 2 * 0 + _ ≤ _; exact Nat.le_of_eq rfl) (hb hby at_30) (fun _ _ => ⟨rfl, rfl, (by decide : 1 + 0 ≤ _), (by decide : 1 + 0 ≤ _)⟩)
  dsimp only [Pt.U, Pt.locs, Pt.cells, Pt.slots] at X25 l25 y25 z25 st25 hQ25
  subst l25 y25 z25
  obtain ⟨rfl, N25q, Kc25, Ec25, Fc25_0⟩ := hQ25
  have E_26 := Ec22.keep Kc25
  have N25 := Fr.app N22 N25q
  have Z25 : n0 ≤ T25.heap.size := Nat.le_trans Z22 Kc25.1
  have K25 : Keep h0 T25.heap [] := K22.trans Kc25 (allS (Or.inr sz_b14) all0)
  refine Gl.st (g' := (mkF m 33 #[.val (.long x0), .second, .val (.long (-7046029254386353131 : Int64)), .second, .val (.ref b14), .val (.long (own_mix (x0 + (-7046029254386353131 : Int64)))), .second, .val (.long (own_mix ((x0 + (-7046029254386353131 : Int64)) + (-7046029254386353131 : Int64)))), .second, .unset, .unset, .unset] [(.long (own_mix (((x0 + (-7046029254386353131 : Int64)) + (-7046029254386353131 : Int64)) + (-7046029254386353131 : Int64))))])) (fun τ κ => st25.trans κ) ?_
  refine Gl.st (g' := (mkF m 35 #[.val (.long x0), .second, .val (.long (-7046029254386353131 : Int64)), .second, .val (.ref b14), .val (.long (own_mix (x0 + (-7046029254386353131 : Int64)))), .second, .val (.long (own_mix ((x0 + (-7046029254386353131 : Int64)) + (-7046029254386353131 : Int64)))), .second, .val (.long (own_mix (((x0 + (-7046029254386353131 : Int64)) + (-7046029254386353131 : Int64)) + (-7046029254386353131 : Int64)))), .second, .unset] [])) (fun τ κ => XS.lstore X25.here hx rfl (hb hby at_33) rfl (l' := #[.val (.long x0), .second, .val (.long (-7046029254386353131 : Int64)), .second, .val (.ref b14), .val (.long (own_mix (x0 + (-7046029254386353131 : Int64)))), .second, .val (.long (own_mix ((x0 + (-7046029254386353131 : Int64)) + (-7046029254386353131 : Int64)))), .second, .val (.long (own_mix (((x0 + (-7046029254386353131 : Int64)) + (-7046029254386353131 : Int64)) + (-7046029254386353131 : Int64)))), .second, .unset]) rfl κ) ?_
  refine Gl.st (g' := (mkF m 38 #[.val (.long x0), .second, .val (.long (-7046029254386353131 : Int64)), .second, .val (.ref b14), .val (.long (own_mix (x0 + (-7046029254386353131 : Int64)))), .second, .val (.long (own_mix ((x0 + (-7046029254386353131 : Int64)) + (-7046029254386353131 : Int64)))), .second, .val (.long (own_mix (((x0 + (-7046029254386353131 : Int64)) + (-7046029254386353131 : Int64)) + (-7046029254386353131 : Int64)))), .second, .unset] [(.long (-7723592293110705685 : Int64))])) (fun τ κ => X25.ldc2Long hx hown (mvT hZ (hw _ (List.mem_of_getElem? (i := 20) rfl))) (g := (mkF m 35 #[.val (.long x0), .second, .val (.long (-7046029254386353131 : Int64)), .second, .val (.ref b14), .val (.long (own_mix (x0 + (-7046029254386353131 : Int64)))), .second, .val (.long (own_mix ((x0 + (-7046029254386353131 : Int64)) + (-7046029254386353131 : Int64)))), .second, .val (.long (own_mix (((x0 + (-7046029254386353131 : Int64)) + (-7046029254386353131 : Int64)) + (-7046029254386353131 : Int64)))), .second, .unset] [])) rfl (hb hby at_35) _ κ) ?_
  obtain ⟨rv28, _, ⟨T28, L28, k28, n28⟩, -, X28, ⟨Lc28, hQ28, l28, y28, z28⟩, st28⟩ := Jvm.LawKit.callS X25 hx (y := (⟨"com/example/wanderpath/wanderpath/SeededRandomNextLongPinLaw", "inv", "(J)J"⟩ : MethodName)) hown (mvT hZ (hw _ (List.mem_of_getElem? (i := 21) rfl))) (mvT hZ (hw _ (List.mem_of_getElem? (i := 22) rfl))) (mvT hZ (hw _ (List.mem_of_getElem? (i := 23) rfl))) (mvT hZ (hw _ (List.mem_of_getElem? (i := 24) rfl))) (by decide) (backOf (W := 0) (rm4 l Z a0 hw [] (-7723592293110705685 : Int64) T25.heap n0 Z25 ) hZ (hw _ (List.mem_of_getElem? (i := 24) rfl)) (hw _ (List.mem_of_getElem? (i := 23) rfl)) (by decide) (by decide)) (g := (mkF m 38 #[.val (.long x0), .second, .val (.long (-7046029254386353131 : Int64)), .second, .val (.ref b14), .val (.long (own_mix (x0 + (-7046029254386353131 : Int64)))), .second, .val (.long (own_mix ((x0 + (-7046029254386353131 : Int64)) + (-7046029254386353131 : Int64)))), .second, .val (.long (own_mix (((x0 + (-7046029254386353131 : Int64)) + (-7046029254386353131 : Int64)) + (-7046029254386353131 : Int64)))), .second, .unset] [(.long (-7723592293110705685 : Int64))])) rfl (by rw [hml]; rfl) (argsL := [(.long (-7723592293110705685 : Int64))]) (rest := []) (lenOf pd_0 rfl) rfl (by show 2 * 0 + _ ≤ _; exact Nat.le_of_eq rfl) (hb hby at_38) (fun _ _ => ⟨rfl, rfl, (by decide : 1 + 0 ≤ _), (by decide : 1 + 0 ≤ _)⟩)
  dsimp only [Pt.U, Pt.locs, Pt.cells, Pt.slots] at X28 l28 y28 z28 st28 hQ28
  subst l28 y28 z28
  obtain ⟨rfl, N28q, e28⟩ := hQ28
  have N28 := Fr.app N25 N28q
  refine Gl.st (g' := (mkF m 41 #[.val (.long x0), .second, .val (.long (-7046029254386353131 : Int64)), .second, .val (.ref b14), .val (.long (own_mix (x0 + (-7046029254386353131 : Int64)))), .second, .val (.long (own_mix ((x0 + (-7046029254386353131 : Int64)) + (-7046029254386353131 : Int64)))), .second, .val (.long (own_mix (((x0 + (-7046029254386353131 : Int64)) + (-7046029254386353131 : Int64)) + (-7046029254386353131 : Int64)))), .second, .unset] [(.long (own_inv (-7723592293110705685 : Int64)))])) (fun τ κ => st28 _ κ) ?_
  refine Gl.st (g' := (mkF m 44 #[.val (.long x0), .second, .val (.long (-7046029254386353131 : Int64)), .second, .val (.ref b14), .val (.long (own_mix (x0 + (-7046029254386353131 : Int64)))), .second, .val (.long (own_mix ((x0 + (-7046029254386353131 : Int64)) + (-7046029254386353131 : Int64)))), .second, .val (.long (own_mix (((x0 + (-7046029254386353131 : Int64)) + (-7046029254386353131 : Int64)) + (-7046029254386353131 : Int64)))), .second, .unset] [(.long (-7723592293110705685 : Int64)), (.long (own_inv (-7723592293110705685 : Int64)))])) (fun τ κ => X28.ldc2Long hx hown (mvT hZ (hw _ (List.mem_of_getElem? (i := 20) rfl))) (g := (mkF m 41 #[.val (.long x0), .second, .val (.long (-7046029254386353131 : Int64)), .second, .val (.ref b14), .val (.long (own_mix (x0 + (-7046029254386353131 : Int64)))), .second, .val (.long (own_mix ((x0 + (-7046029254386353131 : Int64)) + (-7046029254386353131 : Int64)))), .second, .val (.long (own_mix (((x0 + (-7046029254386353131 : Int64)) + (-7046029254386353131 : Int64)) + (-7046029254386353131 : Int64)))), .second, .unset] [(.long (own_inv (-7723592293110705685 : Int64)))])) rfl (hb hby at_41) _ κ) ?_
  refine Gl.st (g' := (mkF m 45 #[.val (.long x0), .second, .val (.long (-7046029254386353131 : Int64)), .second, .val (.ref b14), .val (.long (own_mix (x0 + (-7046029254386353131 : Int64)))), .second, .val (.long (own_mix ((x0 + (-7046029254386353131 : Int64)) + (-7046029254386353131 : Int64)))), .second, .val (.long (own_mix (((x0 + (-7046029254386353131 : Int64)) + (-7046029254386353131 : Int64)) + (-7046029254386353131 : Int64)))), .second, .unset] [(.long ((own_inv (-7723592293110705685 : Int64)) * (-7723592293110705685 : Int64)))])) (fun τ κ => XS.lmul X28.here hx rfl (hb hby at_44) rfl κ) ?_
  refine Gl.st (g' := (mkF m 46 #[.val (.long x0), .second, .val (.long (-7046029254386353131 : Int64)), .second, .val (.ref b14), .val (.long (own_mix (x0 + (-7046029254386353131 : Int64)))), .second, .val (.long (own_mix ((x0 + (-7046029254386353131 : Int64)) + (-7046029254386353131 : Int64)))), .second, .val (.long (own_mix (((x0 + (-7046029254386353131 : Int64)) + (-7046029254386353131 : Int64)) + (-7046029254386353131 : Int64)))), .second, .unset] [(.long (1 : Int64)), (.long ((own_inv (-7723592293110705685 : Int64)) * (-7723592293110705685 : Int64)))])) (fun τ κ => XS.lconst X28.here hx rfl (hb hby at_45) κ) ?_
  refine Gl.st (g' := (mkF m 47 #[.val (.long x0), .second, .val (.long (-7046029254386353131 : Int64)), .second, .val (.ref b14), .val (.long (own_mix (x0 + (-7046029254386353131 : Int64)))), .second, .val (.long (own_mix ((x0 + (-7046029254386353131 : Int64)) + (-7046029254386353131 : Int64)))), .second, .val (.long (own_mix (((x0 + (-7046029254386353131 : Int64)) + (-7046029254386353131 : Int64)) + (-7046029254386353131 : Int64)))), .second, .unset] [(.int (lcmpW ((own_inv (-7723592293110705685 : Int64)) * (-7723592293110705685 : Int64)) (1 : Int64)))])) (fun τ κ => XS.lcmp X28.here hx rfl (hb hby at_46) rfl κ) ?_
  have hc29 : ((own_inv (-7723592293110705685 : Int64)) * (-7723592293110705685 : Int64)) = (1 : Int64) := own_i2
  refine Gl.st (g' := (mkF m 50 #[.val (.long x0), .second, .val (.long (-7046029254386353131 : Int64)), .second, .val (.ref b14), .val (.long (own_mix (x0 + (-7046029254386353131 : Int64)))), .second, .val (.long (own_mix ((x0 + (-7046029254386353131 : Int64)) + (-7046029254386353131 : Int64)))), .second, .val (.long (own_mix (((x0 + (-7046029254386353131 : Int64)) + (-7046029254386353131 : Int64)) + (-7046029254386353131 : Int64)))), .second, .unset] [])) (fun τ κ => XS.ifNo X28.here hx rfl (hb hby at_47) rfl ((if0 _ _).trans (teq ((lw_eq ((own_inv (-7723592293110705685 : Int64)) * (-7723592293110705685 : Int64)) (1 : Int64)).mpr hc29)).2) κ) ?_
  refine Gl.st (g' := (mkF m 53 #[.val (.long x0), .second, .val (.long (-7046029254386353131 : Int64)), .second, .val (.ref b14), .val (.long (own_mix (x0 + (-7046029254386353131 : Int64)))), .second, .val (.long (own_mix ((x0 + (-7046029254386353131 : Int64)) + (-7046029254386353131 : Int64)))), .second, .val (.long (own_mix (((x0 + (-7046029254386353131 : Int64)) + (-7046029254386353131 : Int64)) + (-7046029254386353131 : Int64)))), .second, .unset] [(.long (-4658895280553007687 : Int64))])) (fun τ κ => X28.ldc2Long hx hown (mvT hZ (hw _ (List.mem_of_getElem? (i := 26) rfl))) (g := (mkF m 50 #[.val (.long x0), .second, .val (.long (-7046029254386353131 : Int64)), .second, .val (.ref b14), .val (.long (own_mix (x0 + (-7046029254386353131 : Int64)))), .second, .val (.long (own_mix ((x0 + (-7046029254386353131 : Int64)) + (-7046029254386353131 : Int64)))), .second, .val (.long (own_mix (((x0 + (-7046029254386353131 : Int64)) + (-7046029254386353131 : Int64)) + (-7046029254386353131 : Int64)))), .second, .unset] [])) rfl (hb hby at_50) _ κ) ?_
  obtain ⟨rv30, _, ⟨T30, L30, k30, n30⟩, -, X30, ⟨Lc30, hQ30, l30, y30, z30⟩, st30⟩ := Jvm.LawKit.callS X28 hx (y := (⟨"com/example/wanderpath/wanderpath/SeededRandomNextLongPinLaw", "inv", "(J)J"⟩ : MethodName)) hown (mvT hZ (hw _ (List.mem_of_getElem? (i := 21) rfl))) (mvT hZ (hw _ (List.mem_of_getElem? (i := 22) rfl))) (mvT hZ (hw _ (List.mem_of_getElem? (i := 23) rfl))) (mvT hZ (hw _ (List.mem_of_getElem? (i := 24) rfl))) (by decide) (backOf (W := 0) (rm4 l Z a0 hw [] (-4658895280553007687 : Int64) T25.heap n0 Z25 ) hZ (hw _ (List.mem_of_getElem? (i := 24) rfl)) (hw _ (List.mem_of_getElem? (i := 23) rfl)) (by decide) (by decide)) (g := (mkF m 53 #[.val (.long x0), .second, .val (.long (-7046029254386353131 : Int64)), .second, .val (.ref b14), .val (.long (own_mix (x0 + (-7046029254386353131 : Int64)))), .second, .val (.long (own_mix ((x0 + (-7046029254386353131 : Int64)) + (-7046029254386353131 : Int64)))), .second, .val (.long (own_mix (((x0 + (-7046029254386353131 : Int64)) + (-7046029254386353131 : Int64)) + (-7046029254386353131 : Int64)))), .second, .unset] [(.long (-4658895280553007687 : Int64))])) rfl (by rw [hml]; rfl) (argsL := [(.long (-4658895280553007687 : Int64))]) (rest := []) (lenOf pd_0 rfl) rfl (by show 2 * 0 + _ ≤ _; exact Nat.le_of_eq rfl) (hb hby at_53) (fun _ _ => ⟨rfl, e28, (by decide : 1 + 0 ≤ _), (by decide : 1 + 0 ≤ _)⟩)
  dsimp only [Pt.U, Pt.locs, Pt.cells, Pt.slots] at X30 l30 y30 z30 st30 hQ30
  subst l30 y30 z30
  obtain ⟨rfl, N30q, e30⟩ := hQ30
  have N30 := Fr.app N28 N30q
  refine Gl.st (g' := (mkF m 56 #[.val (.long x0), .second, .val (.long (-7046029254386353131 : Int64)), .second, .val (.ref b14), .val (.long (own_mix (x0 + (-7046029254386353131 : Int64)))), .second, .val (.long (own_mix ((x0 + (-7046029254386353131 : Int64)) + (-7046029254386353131 : Int64)))), .second, .val (.long (own_mix (((x0 + (-7046029254386353131 : Int64)) + (-7046029254386353131 : Int64)) + (-7046029254386353131 : Int64)))), .second, .unset] [(.long (own_inv (-4658895280553007687 : Int64)))])) (fun τ κ => st30 _ κ) ?_
  refine Gl.st (g' := (mkF m 59 #[.val (.long x0), .second, .val (.long (-7046029254386353131 : Int64)), .second, .val (.ref b14), .val (.long (own_mix (x0 + (-7046029254386353131 : Int64)))), .second, .val (.long (own_mix ((x0 + (-7046029254386353131 : Int64)) + (-7046029254386353131 : Int64)))), .second, .val (.long (own_mix (((x0 + (-7046029254386353131 : Int64)) + (-7046029254386353131 : Int64)) + (-7046029254386353131 : Int64)))), .second, .unset] [(.long (-4658895280553007687 : Int64)), (.long (own_inv (-4658895280553007687 : Int64)))])) (fun τ κ => X30.ldc2Long hx hown (mvT hZ (hw _ (List.mem_of_getElem? (i := 26) rfl))) (g := (mkF m 56 #[.val (.long x0), .second, .val (.long (-7046029254386353131 : Int64)), .second, .val (.ref b14), .val (.long (own_mix (x0 + (-7046029254386353131 : Int64)))), .second, .val (.long (own_mix ((x0 + (-7046029254386353131 : Int64)) + (-7046029254386353131 : Int64)))), .second, .val (.long (own_mix (((x0 + (-7046029254386353131 : Int64)) + (-7046029254386353131 : Int64)) + (-7046029254386353131 : Int64)))), .second, .unset] [(.long (own_inv (-4658895280553007687 : Int64)))])) rfl (hb hby at_56) _ κ) ?_
  refine Gl.st (g' := (mkF m 60 #[.val (.long x0), .second, .val (.long (-7046029254386353131 : Int64)), .second, .val (.ref b14), .val (.long (own_mix (x0 + (-7046029254386353131 : Int64)))), .second, .val (.long (own_mix ((x0 + (-7046029254386353131 : Int64)) + (-7046029254386353131 : Int64)))), .second, .val (.long (own_mix (((x0 + (-7046029254386353131 : Int64)) + (-7046029254386353131 : Int64)) + (-7046029254386353131 : Int64)))), .second, .unset] [(.long ((own_inv (-4658895280553007687 : Int64)) * (-4658895280553007687 : Int64)))])) (fun τ κ => XS.lmul X30.here hx rfl (hb hby at_59) rfl κ) ?_
  refine Gl.st (g' := (mkF m 61 #[.val (.long x0), .second, .val (.long (-7046029254386353131 : Int64)), .second, .val (.ref b14), .val (.long (own_mix (x0 + (-7046029254386353131 : Int64)))), .second, .val (.long (own_mix ((x0 + (-7046029254386353131 : Int64)) + (-7046029254386353131 : Int64)))), .second, .val (.long (own_mix (((x0 + (-7046029254386353131 : Int64)) + (-7046029254386353131 : Int64)) + (-7046029254386353131 : Int64)))), .second, .unset] [(.long (1 : Int64)), (.long ((own_inv (-4658895280553007687 : Int64)) * (-4658895280553007687 : Int64)))])) (fun τ κ => XS.lconst X30.here hx rfl (hb hby at_60) κ) ?_
  refine Gl.st (g' := (mkF m 62 #[.val (.long x0), .second, .val (.long (-7046029254386353131 : Int64)), .second, .val (.ref b14), .val (.long (own_mix (x0 + (-7046029254386353131 : Int64)))), .second, .val (.long (own_mix ((x0 + (-7046029254386353131 : Int64)) + (-7046029254386353131 : Int64)))), .second, .val (.long (own_mix (((x0 + (-7046029254386353131 : Int64)) + (-7046029254386353131 : Int64)) + (-7046029254386353131 : Int64)))), .second, .unset] [(.int (lcmpW ((own_inv (-4658895280553007687 : Int64)) * (-4658895280553007687 : Int64)) (1 : Int64)))])) (fun τ κ => XS.lcmp X30.here hx rfl (hb hby at_61) rfl κ) ?_
  have hc31 : ((own_inv (-4658895280553007687 : Int64)) * (-4658895280553007687 : Int64)) = (1 : Int64) := own_i1
  refine Gl.st (g' := (mkF m 65 #[.val (.long x0), .second, .val (.long (-7046029254386353131 : Int64)), .second, .val (.ref b14), .val (.long (own_mix (x0 + (-7046029254386353131 : Int64)))), .second, .val (.long (own_mix ((x0 + (-7046029254386353131 : Int64)) + (-7046029254386353131 : Int64)))), .second, .val (.long (own_mix (((x0 + (-7046029254386353131 : Int64)) + (-7046029254386353131 : Int64)) + (-7046029254386353131 : Int64)))), .second, .unset] [])) (fun τ κ => XS.ifNo X30.here hx rfl (hb hby at_62) rfl ((if0 _ _).trans (teq ((lw_eq ((own_inv (-4658895280553007687 : Int64)) * (-4658895280553007687 : Int64)) (1 : Int64)).mpr hc31)).2) κ) ?_
  refine Gl.st (g' := (mkF m 66 #[.val (.long x0), .second, .val (.long (-7046029254386353131 : Int64)), .second, .val (.ref b14), .val (.long (own_mix (x0 + (-7046029254386353131 : Int64)))), .second, .val (.long (own_mix ((x0 + (-7046029254386353131 : Int64)) + (-7046029254386353131 : Int64)))), .second, .val (.long (own_mix (((x0 + (-7046029254386353131 : Int64)) + (-7046029254386353131 : Int64)) + (-7046029254386353131 : Int64)))), .second, .unset] [(.int (1 : Int32))])) (fun τ κ => XS.iconst X30.here hx rfl (hb hby at_65) κ) ?_
  refine Gl.st (g' := (mkF m 70 #[.val (.long x0), .second, .val (.long (-7046029254386353131 : Int64)), .second, .val (.ref b14), .val (.long (own_mix (x0 + (-7046029254386353131 : Int64)))), .second, .val (.long (own_mix ((x0 + (-7046029254386353131 : Int64)) + (-7046029254386353131 : Int64)))), .second, .val (.long (own_mix (((x0 + (-7046029254386353131 : Int64)) + (-7046029254386353131 : Int64)) + (-7046029254386353131 : Int64)))), .second, .unset] [(.int (1 : Int32))])) (fun τ κ => XS.goto X30.here hx rfl (pc0 := 66) (pc' := 70) rfl (hb hby at_66) (by decide) (by decide) κ) ?_
  refine Gl.st (g' := (mkF m 72 #[.val (.long x0), .second, .val (.long (-7046029254386353131 : Int64)), .second, .val (.ref b14), .val (.long (own_mix (x0 + (-7046029254386353131 : Int64)))), .second, .val (.long (own_mix ((x0 + (-7046029254386353131 : Int64)) + (-7046029254386353131 : Int64)))), .second, .val (.long (own_mix (((x0 + (-7046029254386353131 : Int64)) + (-7046029254386353131 : Int64)) + (-7046029254386353131 : Int64)))), .second, .val (.int (1 : Int32))] [])) (fun τ κ => XS.istore X30.here hx rfl (hb hby at_70) rfl (l' := #[.val (.long x0), .second, .val (.long (-7046029254386353131 : Int64)), .second, .val (.ref b14), .val (.long (own_mix (x0 + (-7046029254386353131 : Int64)))), .second, .val (.long (own_mix ((x0 + (-7046029254386353131 : Int64)) + (-7046029254386353131 : Int64)))), .second, .val (.long (own_mix (((x0 + (-7046029254386353131 : Int64)) + (-7046029254386353131 : Int64)) + (-7046029254386353131 : Int64)))), .second, .val (.int (1 : Int32))]) rfl κ) ?_
  refine Gl.st (g' := (mkF m 74 #[.val (.long x0), .second, .val (.long (-7046029254386353131 : Int64)), .second, .val (.ref b14), .val (.long (own_mix (x0 + (-7046029254386353131 : Int64)))), .second, .val (.long (own_mix ((x0 + (-7046029254386353131 : Int64)) + (-7046029254386353131 : Int64)))), .second, .val (.long (own_mix (((x0 + (-7046029254386353131 : Int64)) + (-7046029254386353131 : Int64)) + (-7046029254386353131 : Int64)))), .second, .val (.int (1 : Int32))] [(.int (1 : Int32))])) (fun τ κ => XS.iload X30.here hx rfl (hb hby at_72) rfl κ) ?_
  have hc32 : ¬ ((1 : Int32) = (0 : Int32)) := by decide
  refine Gl.st (g' := (mkF m 77 #[.val (.long x0), .second, .val (.long (-7046029254386353131 : Int64)), .second, .val (.ref b14), .val (.long (own_mix (x0 + (-7046029254386353131 : Int64)))), .second, .val (.long (own_mix ((x0 + (-7046029254386353131 : Int64)) + (-7046029254386353131 : Int64)))), .second, .val (.long (own_mix (((x0 + (-7046029254386353131 : Int64)) + (-7046029254386353131 : Int64)) + (-7046029254386353131 : Int64)))), .second, .val (.int (1 : Int32))] [])) (fun τ κ => XS.ifNo X30.here hx rfl (hb hby at_74) rfl ((if0 _ _).trans (feq hc32).1) κ) ?_
  refine Gl.st (g' := (mkF m 79 #[.val (.long x0), .second, .val (.long (-7046029254386353131 : Int64)), .second, .val (.ref b14), .val (.long (own_mix (x0 + (-7046029254386353131 : Int64)))), .second, .val (.long (own_mix ((x0 + (-7046029254386353131 : Int64)) + (-7046029254386353131 : Int64)))), .second, .val (.long (own_mix (((x0 + (-7046029254386353131 : Int64)) + (-7046029254386353131 : Int64)) + (-7046029254386353131 : Int64)))), .second, .val (.int (1 : Int32))] [(.long (own_mix (x0 + (-7046029254386353131 : Int64))))])) (fun τ κ => XS.lload X30.here hx rfl (hb hby at_77) rfl κ) ?_
  obtain ⟨rv33, _, ⟨T33, L33, k33, n33⟩, -, X33, ⟨Lc33, hQ33, l33, y33, z33⟩, st33⟩ := Jvm.LawKit.callS X30 hx (y := (⟨"com/example/wanderpath/wanderpath/SeededRandomNextLongPinLaw", "unmix", "(J)J"⟩ : MethodName)) hown (mvT hZ (hw _ (List.mem_of_getElem? (i := 27) rfl))) (mvT hZ (hw _ (List.mem_of_getElem? (i := 28) rfl))) (mvT hZ (hw _ (List.mem_of_getElem? (i := 23) rfl))) (mvT hZ (hw _ (List.mem_of_getElem? (i := 29) rfl))) (by decide) (backOf (W := 0) (rm5 l Z a0 hw [] (own_mix (x0 + (-7046029254386353131 : Int64))) T25.heap n0 Z25 ) hZ (hw _ (List.mem_of_getElem? (i := 29) rfl)) (hw _ (List.mem_of_getElem? (i := 23) rfl)) (by decide) (by decide)) (g := (mkF m 79 #[.val (.long x0), .second, .val (.long (-7046029254386353131 : Int64)), .second, .val (.ref b14), .val (.long (own_mix (x0 + (-7046029254386353131 : Int64)))), .second, .val (.long (own_mix ((x0 + (-7046029254386353131 : Int64)) + (-7046029254386353131 : Int64)))), .second, .val (.long (own_mix (((x0 + (-7046029254386353131 : Int64)) + (-7046029254386353131 : Int64)) + (-7046029254386353131 : Int64)))), .second, .val (.int (1 : Int32))] [(.long (own_mix (x0 + (-7046029254386353131 : Int64))))])) rfl (by rw [hml]; rfl) (argsL := [(.long (own_mix (x0 + (-7046029254386353131 : Int64))))]) (rest := []) (lenOf pd_0 rfl) rfl (by show 2 * 0 + _ ≤ _; exact Nat.le_of_eq rfl) (hb hby at_79) (fun _ _ => ⟨rfl, e30, (by decide : 1 + 0 ≤ _), (by decide : 1 + 0 ≤ _)⟩)
  dsimp only [Pt.U, Pt.locs, Pt.cells, Pt.slots] at X33 l33 y33 z33 st33 hQ33
  subst l33 y33 z33
  obtain ⟨rfl, N33q, e33⟩ := hQ33
  have N33 := Fr.app N30 N33q
  refine Gl.st (g' := (mkF m 82 #[.val (.long x0), .second, .val (.long (-7046029254386353131 : Int64)), .second, .val (.ref b14), .val (.long (own_mix (x0 + (-7046029254386353131 : Int64)))), .second, .val (.long (own_mix ((x0 + (-7046029254386353131 : Int64)) + (-7046029254386353131 : Int64)))), .second, .val (.long (own_mix (((x0 + (-7046029254386353131 : Int64)) + (-7046029254386353131 : Int64)) + (-7046029254386353131 : Int64)))), .second, .val (.int (1 : Int32))] [(.long (own_unmix (own_mix (x0 + (-7046029254386353131 : Int64)))))])) (fun τ κ => st33 _ κ) ?_
  refine Gl.st (g' := (mkF m 83 #[.val (.long x0), .second, .val (.long (-7046029254386353131 : Int64)), .second, .val (.ref b14), .val (.long (own_mix (x0 + (-7046029254386353131 : Int64)))), .second, .val (.long (own_mix ((x0 + (-7046029254386353131 : Int64)) + (-7046029254386353131 : Int64)))), .second, .val (.long (own_mix (((x0 + (-7046029254386353131 : Int64)) + (-7046029254386353131 : Int64)) + (-7046029254386353131 : Int64)))), .second, .val (.int (1 : Int32))] [(.long x0), (.long (own_unmix (own_mix (x0 + (-7046029254386353131 : Int64)))))])) (fun τ κ => XS.lloadN X33.here hx rfl (hb hby at_82) rfl κ) ?_
  refine Gl.st (g' := (mkF m 84 #[.val (.long x0), .second, .val (.long (-7046029254386353131 : Int64)), .second, .val (.ref b14), .val (.long (own_mix (x0 + (-7046029254386353131 : Int64)))), .second, .val (.long (own_mix ((x0 + (-7046029254386353131 : Int64)) + (-7046029254386353131 : Int64)))), .second, .val (.long (own_mix (((x0 + (-7046029254386353131 : Int64)) + (-7046029254386353131 : Int64)) + (-7046029254386353131 : Int64)))), .second, .val (.int (1 : Int32))] [(.long (-7046029254386353131 : Int64)), (.long x0), (.long (own_unmix (own_mix (x0 + (-7046029254386353131 : Int64)))))])) (fun τ κ => XS.lloadN X33.here hx rfl (hb hby at_83) rfl κ) ?_
  refine Gl.st (g' := (mkF m 85 #[.val (.long x0), .second, .val (.long (-7046029254386353131 : Int64)), .second, .val (.ref b14), .val (.long (own_mix (x0 + (-7046029254386353131 : Int64)))), .second, .val (.long (own_mix ((x0 + (-7046029254386353131 : Int64)) + (-7046029254386353131 : Int64)))), .second, .val (.long (own_mix (((x0 + (-7046029254386353131 : Int64)) + (-7046029254386353131 : Int64)) + (-7046029254386353131 : Int64)))), .second, .val (.int (1 : Int32))] [(.long (x0 + (-7046029254386353131 : Int64))), (.long (own_unmix (own_mix (x0 + (-7046029254386353131 : Int64)))))])) (fun τ κ => XS.ladd X33.here hx rfl (hb hby at_84) rfl κ) ?_
  refine Gl.st (g' := (mkF m 86 #[.val (.long x0), .second, .val (.long (-7046029254386353131 : Int64)), .second, .val (.ref b14), .val (.long (own_mix (x0 + (-7046029254386353131 : Int64)))), .second, .val (.long (own_mix ((x0 + (-7046029254386353131 : Int64)) + (-7046029254386353131 : Int64)))), .second, .val (.long (own_mix (((x0 + (-7046029254386353131 : Int64)) + (-7046029254386353131 : Int64)) + (-7046029254386353131 : Int64)))), .second, .val (.int (1 : Int32))] [(.int (lcmpW (own_unmix (own_mix (x0 + (-7046029254386353131 : Int64)))) (x0 + (-7046029254386353131 : Int64))))])) (fun τ κ => XS.lcmp X33.here hx rfl (hb hby at_85) rfl κ) ?_
  have hc34 : (own_unmix (own_mix (x0 + (-7046029254386353131 : Int64)))) = (x0 + (-7046029254386353131 : Int64)) := own_back _
  refine Gl.st (g' := (mkF m 89 #[.val (.long x0), .second, .val (.long (-7046029254386353131 : Int64)), .second, .val (.ref b14), .val (.long (own_mix (x0 + (-7046029254386353131 : Int64)))), .second, .val (.long (own_mix ((x0 + (-7046029254386353131 : Int64)) + (-7046029254386353131 : Int64)))), .second, .val (.long (own_mix (((x0 + (-7046029254386353131 : Int64)) + (-7046029254386353131 : Int64)) + (-7046029254386353131 : Int64)))), .second, .val (.int (1 : Int32))] [])) (fun τ κ => XS.ifNo X33.here hx rfl (hb hby at_86) rfl ((if0 _ _).trans (teq ((lw_eq (own_unmix (own_mix (x0 + (-7046029254386353131 : Int64)))) (x0 + (-7046029254386353131 : Int64))).mpr hc34)).2) κ) ?_
  refine Gl.st (g' := (mkF m 91 #[.val (.long x0), .second, .val (.long (-7046029254386353131 : Int64)), .second, .val (.ref b14), .val (.long (own_mix (x0 + (-7046029254386353131 : Int64)))), .second, .val (.long (own_mix ((x0 + (-7046029254386353131 : Int64)) + (-7046029254386353131 : Int64)))), .second, .val (.long (own_mix (((x0 + (-7046029254386353131 : Int64)) + (-7046029254386353131 : Int64)) + (-7046029254386353131 : Int64)))), .second, .val (.int (1 : Int32))] [(.long (own_mix ((x0 + (-7046029254386353131 : Int64)) + (-7046029254386353131 : Int64))))])) (fun τ κ => XS.lload X33.here hx rfl (hb hby at_89) rfl κ) ?_
  obtain ⟨rv35, _, ⟨T35, L35, k35, n35⟩, -, X35, ⟨Lc35, hQ35, l35, y35, z35⟩, st35⟩ := Jvm.LawKit.callS X33 hx (y := (⟨"com/example/wanderpath/wanderpath/SeededRandomNextLongPinLaw", "unmix", "(J)J"⟩ : MethodName)) hown (mvT hZ (hw _ (List.mem_of_getElem? (i := 27) rfl))) (mvT hZ (hw _ (List.mem_of_getElem? (i := 28) rfl))) (mvT hZ (hw _ (List.mem_of_getElem? (i := 23) rfl))) (mvT hZ (hw _ (List.mem_of_getElem? (i := 29) rfl))) (by decide) (backOf (W := 0) (rm5 l Z a0 hw [] (own_mix ((x0 + (-7046029254386353131 : Int64)) + (-7046029254386353131 : Int64))) T25.heap n0 Z25 ) hZ (hw _ (List.mem_of_getElem? (i := 29) rfl)) (hw _ (List.mem_of_getElem? (i := 23) rfl)) (by decide) (by decide)) (g := (mkF m 91 #[.val (.long x0), .second, .val (.long (-7046029254386353131 : Int64)), .second, .val (.ref b14), .val (.long (own_mix (x0 + (-7046029254386353131 : Int64)))), .second, .val (.long (own_mix ((x0 + (-7046029254386353131 : Int64)) + (-7046029254386353131 : Int64)))), .second, .val (.long (own_mix (((x0 + (-7046029254386353131 : Int64)) + (-7046029254386353131 : Int64)) + (-7046029254386353131 : Int64)))), .second, .val (.int (1 : Int32))] [(.long (own_mix ((x0 + (-7046029254386353131 : Int64)) + (-7046029254386353131 : Int64))))])) rfl (by rw [hml]; rfl) (argsL := [(.long (own_mix ((x0 + (-7046029254386353131 : Int64)) + (-7046029254386353131 : Int64))))]) (rest := []) (lenOf pd_0 rfl) rfl (by show 2 * 0 + _ ≤ _; exact Nat.le_of_eq rfl) (hb hby at_91) (fun _ _ => ⟨rfl, e33, (by decide : 1 + 0 ≤ _), (by decide : 1 + 0 ≤ _)⟩)
  dsimp only [Pt.U, Pt.locs, Pt.cells, Pt.slots] at X35 l35 y35 z35 st35 hQ35
  subst l35 y35 z35
  obtain ⟨rfl, N35q, e35⟩ := hQ35
  have N35 := Fr.app N33 N35q
  refine Gl.st (g' := (mkF m 94 #[.val (.long x0), .second, .val (.long (-7046029254386353131 : Int64)), .second, .val (.ref b14), .val (.long (own_mix (x0 + (-7046029254386353131 : Int64)))), .second, .val (.long (own_mix ((x0 + (-7046029254386353131 : Int64)) + (-7046029254386353131 : Int64)))), .second, .val (.long (own_mix (((x0 + (-7046029254386353131 : Int64)) + (-7046029254386353131 : Int64)) + (-7046029254386353131 : Int64)))), .second, .val (.int (1 : Int32))] [(.long (own_unmix (own_mix ((x0 + (-7046029254386353131 : Int64)) + (-7046029254386353131 : Int64)))))])) (fun τ κ => st35 _ κ) ?_
  refine Gl.st (g' := (mkF m 95 #[.val (.long x0), .second, .val (.long (-7046029254386353131 : Int64)), .second, .val (.ref b14), .val (.long (own_mix (x0 + (-7046029254386353131 : Int64)))), .second, .val (.long (own_mix ((x0 + (-7046029254386353131 : Int64)) + (-7046029254386353131 : Int64)))), .second, .val (.long (own_mix (((x0 + (-7046029254386353131 : Int64)) + (-7046029254386353131 : Int64)) + (-7046029254386353131 : Int64)))), .second, .val (.int (1 : Int32))] [(.long x0), (.long (own_unmix (own_mix ((x0 + (-7046029254386353131 : Int64)) + (-7046029254386353131 : Int64)))))])) (fun τ κ => XS.lloadN X35.here hx rfl (hb hby at_94) rfl κ) ?_
  refine Gl.st (g' := (mkF m 98 #[.val (.long x0), .second, .val (.long (-7046029254386353131 : Int64)), .second, .val (.ref b14), .val (.long (own_mix (x0 + (-7046029254386353131 : Int64)))), .second, .val (.long (own_mix ((x0 + (-7046029254386353131 : Int64)) + (-7046029254386353131 : Int64)))), .second, .val (.long (own_mix (((x0 + (-7046029254386353131 : Int64)) + (-7046029254386353131 : Int64)) + (-7046029254386353131 : Int64)))), .second, .val (.int (1 : Int32))] [(.long (2 : Int64)), (.long x0), (.long (own_unmix (own_mix ((x0 + (-7046029254386353131 : Int64)) + (-7046029254386353131 : Int64)))))])) (fun τ κ => X35.ldc2Long hx hown (mvT hZ (hw _ (List.mem_of_getElem? (i := 25) rfl))) (g := (mkF m 95 #[.val (.long x0), .second, .val (.long (-7046029254386353131 : Int64)), .second, .val (.ref b14), .val (.long (own_mix (x0 + (-7046029254386353131 : Int64)))), .second, .val (.long (own_mix ((x0 + (-7046029254386353131 : Int64)) + (-7046029254386353131 : Int64)))), .second, .val (.long (own_mix (((x0 + (-7046029254386353131 : Int64)) + (-7046029254386353131 : Int64)) + (-7046029254386353131 : Int64)))), .second, .val (.int (1 : Int32))] [(.long x0), (.long (own_unmix (own_mix ((x0 + (-7046029254386353131 : Int64)) + (-7046029254386353131 : Int64)))))])) rfl (hb hby at_95) _ κ) ?_
  refine Gl.st (g' := (mkF m 99 #[.val (.long x0), .second, .val (.long (-7046029254386353131 : Int64)), .second, .val (.ref b14), .val (.long (own_mix (x0 + (-7046029254386353131 : Int64)))), .second, .val (.long (own_mix ((x0 + (-7046029254386353131 : Int64)) + (-7046029254386353131 : Int64)))), .second, .val (.long (own_mix (((x0 + (-7046029254386353131 : Int64)) + (-7046029254386353131 : Int64)) + (-7046029254386353131 : Int64)))), .second, .val (.int (1 : Int32))] [(.long (-7046029254386353131 : Int64)), (.long (2 : Int64)), (.long x0), (.long (own_unmix (own_mix ((x0 + (-7046029254386353131 : Int64)) + (-7046029254386353131 : Int64)))))])) (fun τ κ => XS.lloadN X35.here hx rfl (hb hby at_98) rfl κ) ?_
  refine Gl.st (g' := (mkF m 100 #[.val (.long x0), .second, .val (.long (-7046029254386353131 : Int64)), .second, .val (.ref b14), .val (.long (own_mix (x0 + (-7046029254386353131 : Int64)))), .second, .val (.long (own_mix ((x0 + (-7046029254386353131 : Int64)) + (-7046029254386353131 : Int64)))), .second, .val (.long (own_mix (((x0 + (-7046029254386353131 : Int64)) + (-7046029254386353131 : Int64)) + (-7046029254386353131 : Int64)))), .second, .val (.int (1 : Int32))] [(.long (4354685564936845354 : Int64)), (.long x0), (.long (own_unmix (own_mix ((x0 + (-7046029254386353131 : Int64)) + (-7046029254386353131 : Int64)))))])) (fun τ κ => XS.lmul X35.here hx rfl (hb hby at_99) rfl κ) ?_
  refine Gl.st (g' := (mkF m 101 #[.val (.long x0), .second, .val (.long (-7046029254386353131 : Int64)), .second, .val (.ref b14), .val (.long (own_mix (x0 + (-7046029254386353131 : Int64)))), .second, .val (.long (own_mix ((x0 + (-7046029254386353131 : Int64)) + (-7046029254386353131 : Int64)))), .second, .val (.long (own_mix (((x0 + (-7046029254386353131 : Int64)) + (-7046029254386353131 : Int64)) + (-7046029254386353131 : Int64)))), .second, .val (.int (1 : Int32))] [(.long (x0 + (4354685564936845354 : Int64))), (.long (own_unmix (own_mix ((x0 + (-7046029254386353131 : Int64)) + (-7046029254386353131 : Int64)))))])) (fun τ κ => XS.ladd X35.here hx rfl (hb hby at_100) rfl κ) ?_
  refine Gl.st (g' := (mkF m 102 #[.val (.long x0), .second, .val (.long (-7046029254386353131 : Int64)), .second, .val (.ref b14), .val (.long (own_mix (x0 + (-7046029254386353131 : Int64)))), .second, .val (.long (own_mix ((x0 + (-7046029254386353131 : Int64)) + (-7046029254386353131 : Int64)))), .second, .val (.long (own_mix (((x0 + (-7046029254386353131 : Int64)) + (-7046029254386353131 : Int64)) + (-7046029254386353131 : Int64)))), .second, .val (.int (1 : Int32))] [(.int (lcmpW (own_unmix (own_mix ((x0 + (-7046029254386353131 : Int64)) + (-7046029254386353131 : Int64)))) (x0 + (4354685564936845354 : Int64))))])) (fun τ κ => XS.lcmp X35.here hx rfl (hb hby at_101) rfl κ) ?_
  have hc36 : (own_unmix (own_mix ((x0 + (-7046029254386353131 : Int64)) + (-7046029254386353131 : Int64)))) = (x0 + (4354685564936845354 : Int64)) := own_a2 _
  refine Gl.st (g' := (mkF m 105 #[.val (.long x0), .second, .val (.long (-7046029254386353131 : Int64)), .second, .val (.ref b14), .val (.long (own_mix (x0 + (-7046029254386353131 : Int64)))), .second, .val (.long (own_mix ((x0 + (-7046029254386353131 : Int64)) + (-7046029254386353131 : Int64)))), .second, .val (.long (own_mix (((x0 + (-7046029254386353131 : Int64)) + (-7046029254386353131 : Int64)) + (-7046029254386353131 : Int64)))), .second, .val (.int (1 : Int32))] [])) (fun τ κ => XS.ifNo X35.here hx rfl (hb hby at_102) rfl ((if0 _ _).trans (teq ((lw_eq (own_unmix (own_mix ((x0 + (-7046029254386353131 : Int64)) + (-7046029254386353131 : Int64)))) (x0 + (4354685564936845354 : Int64))).mpr hc36)).2) κ) ?_
  refine Gl.st (g' := (mkF m 107 #[.val (.long x0), .second, .val (.long (-7046029254386353131 : Int64)), .second, .val (.ref b14), .val (.long (own_mix (x0 + (-7046029254386353131 : Int64)))), .second, .val (.long (own_mix ((x0 + (-7046029254386353131 : Int64)) + (-7046029254386353131 : Int64)))), .second, .val (.long (own_mix (((x0 + (-7046029254386353131 : Int64)) + (-7046029254386353131 : Int64)) + (-7046029254386353131 : Int64)))), .second, .val (.int (1 : Int32))] [(.long (own_mix (((x0 + (-7046029254386353131 : Int64)) + (-7046029254386353131 : Int64)) + (-7046029254386353131 : Int64))))])) (fun τ κ => XS.lload X35.here hx rfl (hb hby at_105) rfl κ) ?_
  obtain ⟨rv37, _, ⟨T37, L37, k37, n37⟩, -, X37, ⟨Lc37, hQ37, l37, y37, z37⟩, st37⟩ := Jvm.LawKit.callS X35 hx (y := (⟨"com/example/wanderpath/wanderpath/SeededRandomNextLongPinLaw", "unmix", "(J)J"⟩ : MethodName)) hown (mvT hZ (hw _ (List.mem_of_getElem? (i := 27) rfl))) (mvT hZ (hw _ (List.mem_of_getElem? (i := 28) rfl))) (mvT hZ (hw _ (List.mem_of_getElem? (i := 23) rfl))) (mvT hZ (hw _ (List.mem_of_getElem? (i := 29) rfl))) (by decide) (backOf (W := 0) (rm5 l Z a0 hw [] (own_mix (((x0 + (-7046029254386353131 : Int64)) + (-7046029254386353131 : Int64)) + (-7046029254386353131 : Int64))) T25.heap n0 Z25 ) hZ (hw _ (List.mem_of_getElem? (i := 29) rfl)) (hw _ (List.mem_of_getElem? (i := 23) rfl)) (by decide) (by decide)) (g := (mkF m 107 #[.val (.long x0), .second, .val (.long (-7046029254386353131 : Int64)), .second, .val (.ref b14), .val (.long (own_mix (x0 + (-7046029254386353131 : Int64)))), .second, .val (.long (own_mix ((x0 + (-7046029254386353131 : Int64)) + (-7046029254386353131 : Int64)))), .second, .val (.long (own_mix (((x0 + (-7046029254386353131 : Int64)) + (-7046029254386353131 : Int64)) + (-7046029254386353131 : Int64)))), .second, .val (.int (1 : Int32))] [(.long (own_mix (((x0 + (-7046029254386353131 : Int64)) + (-7046029254386353131 : Int64)) + (-7046029254386353131 : Int64))))])) rfl (by rw [hml]; rfl) (argsL := [(.long (own_mix (((x0 + (-7046029254386353131 : Int64)) + (-7046029254386353131 : Int64)) + (-7046029254386353131 : Int64))))]) (rest := []) (lenOf pd_0 rfl) rfl (by show 2 * 0 + _ ≤ _; exact Nat.le_of_eq rfl) (hb hby at_107) (fun _ _ => ⟨rfl, e35, (by decide : 1 + 0 ≤ _), (by decide : 1 + 0 ≤ _)⟩)
  dsimp only [Pt.U, Pt.locs, Pt.cells, Pt.slots] at X37 l37 y37 z37 st37 hQ37
  subst l37 y37 z37
  obtain ⟨rfl, N37q, e37⟩ := hQ37
  have N37 := Fr.app N35 N37q
  refine Gl.st (g' := (mkF m 110 #[.val (.long x0), .second, .val (.long (-7046029254386353131 : Int64)), .second, .val (.ref b14), .val (.long (own_mix (x0 + (-7046029254386353131 : Int64)))), .second, .val (.long (own_mix ((x0 + (-7046029254386353131 : Int64)) + (-7046029254386353131 : Int64)))), .second, .val (.long (own_mix (((x0 + (-7046029254386353131 : Int64)) + (-7046029254386353131 : Int64)) + (-7046029254386353131 : Int64)))), .second, .val (.int (1 : Int32))] [(.long (own_unmix (own_mix (((x0 + (-7046029254386353131 : Int64)) + (-7046029254386353131 : Int64)) + (-7046029254386353131 : Int64)))))])) (fun τ κ => st37 _ κ) ?_
  refine Gl.st (g' := (mkF m 111 #[.val (.long x0), .second, .val (.long (-7046029254386353131 : Int64)), .second, .val (.ref b14), .val (.long (own_mix (x0 + (-7046029254386353131 : Int64)))), .second, .val (.long (own_mix ((x0 + (-7046029254386353131 : Int64)) + (-7046029254386353131 : Int64)))), .second, .val (.long (own_mix (((x0 + (-7046029254386353131 : Int64)) + (-7046029254386353131 : Int64)) + (-7046029254386353131 : Int64)))), .second, .val (.int (1 : Int32))] [(.long x0), (.long (own_unmix (own_mix (((x0 + (-7046029254386353131 : Int64)) + (-7046029254386353131 : Int64)) + (-7046029254386353131 : Int64)))))])) (fun τ κ => XS.lloadN X37.here hx rfl (hb hby at_110) rfl κ) ?_
  refine Gl.st (g' := (mkF m 114 #[.val (.long x0), .second, .val (.long (-7046029254386353131 : Int64)), .second, .val (.ref b14), .val (.long (own_mix (x0 + (-7046029254386353131 : Int64)))), .second, .val (.long (own_mix ((x0 + (-7046029254386353131 : Int64)) + (-7046029254386353131 : Int64)))), .second, .val (.long (own_mix (((x0 + (-7046029254386353131 : Int64)) + (-7046029254386353131 : Int64)) + (-7046029254386353131 : Int64)))), .second, .val (.int (1 : Int32))] [(.long (3 : Int64)), (.long x0), (.long (own_unmix (own_mix (((x0 + (-7046029254386353131 : Int64)) + (-7046029254386353131 : Int64)) + (-7046029254386353131 : Int64)))))])) (fun τ κ => X37.ldc2Long hx hown (mvT hZ (hw _ (List.mem_of_getElem? (i := 30) rfl))) (g := (mkF m 111 #[.val (.long x0), .second, .val (.long (-7046029254386353131 : Int64)), .second, .val (.ref b14), .val (.long (own_mix (x0 + (-7046029254386353131 : Int64)))), .second, .val (.long (own_mix ((x0 + (-7046029254386353131 : Int64)) + (-7046029254386353131 : Int64)))), .second, .val (.long (own_mix (((x0 + (-7046029254386353131 : Int64)) + (-7046029254386353131 : Int64)) + (-7046029254386353131 : Int64)))), .second, .val (.int (1 : Int32))] [(.long x0), (.long (own_unmix (own_mix (((x0 + (-7046029254386353131 : Int64)) + (-7046029254386353131 : Int64)) + (-7046029254386353131 : Int64)))))])) rfl (hb hby at_111) _ κ) ?_
  refine Gl.st (g' := (mkF m 115 #[.val (.long x0), .second, .val (.long (-7046029254386353131 : Int64)), .second, .val (.ref b14), .val (.long (own_mix (x0 + (-7046029254386353131 : Int64)))), .second, .val (.long (own_mix ((x0 + (-7046029254386353131 : Int64)) + (-7046029254386353131 : Int64)))), .second, .val (.long (own_mix (((x0 + (-7046029254386353131 : Int64)) + (-7046029254386353131 : Int64)) + (-7046029254386353131 : Int64)))), .second, .val (.int (1 : Int32))] [(.long (-7046029254386353131 : Int64)), (.long (3 : Int64)), (.long x0), (.long (own_unmix (own_mix (((x0 + (-7046029254386353131 : Int64)) + (-7046029254386353131 : Int64)) + (-7046029254386353131 : Int64)))))])) (fun τ κ => XS.lloadN X37.here hx rfl (hb hby at_114) rfl κ) ?_
  refine Gl.st (g' := (mkF m 116 #[.val (.long x0), .second, .val (.long (-7046029254386353131 : Int64)), .second, .val (.ref b14), .val (.long (own_mix (x0 + (-7046029254386353131 : Int64)))), .second, .val (.long (own_mix ((x0 + (-7046029254386353131 : Int64)) + (-7046029254386353131 : Int64)))), .second, .val (.long (own_mix (((x0 + (-7046029254386353131 : Int64)) + (-7046029254386353131 : Int64)) + (-7046029254386353131 : Int64)))), .second, .val (.int (1 : Int32))] [(.long (-2691343689449507777 : Int64)), (.long x0), (.long (own_unmix (own_mix (((x0 + (-7046029254386353131 : Int64)) + (-7046029254386353131 : Int64)) + (-7046029254386353131 : Int64)))))])) (fun τ κ => XS.lmul X37.here hx rfl (hb hby at_115) rfl κ) ?_
  refine Gl.st (g' := (mkF m 117 #[.val (.long x0), .second, .val (.long (-7046029254386353131 : Int64)), .second, .val (.ref b14), .val (.long (own_mix (x0 + (-7046029254386353131 : Int64)))), .second, .val (.long (own_mix ((x0 + (-7046029254386353131 : Int64)) + (-7046029254386353131 : Int64)))), .second, .val (.long (own_mix (((x0 + (-7046029254386353131 : Int64)) + (-7046029254386353131 : Int64)) + (-7046029254386353131 : Int64)))), .second, .val (.int (1 : Int32))] [(.long (x0 + (-2691343689449507777 : Int64))), (.long (own_unmix (own_mix (((x0 + (-7046029254386353131 : Int64)) + (-7046029254386353131 : Int64)) + (-7046029254386353131 : Int64)))))])) (fun τ κ => XS.ladd X37.here hx rfl (hb hby at_116) rfl κ) ?_
  refine Gl.st (g' := (mkF m 118 #[.val (.long x0), .second, .val (.long (-7046029254386353131 : Int64)), .second, .val (.ref b14), .val (.long (own_mix (x0 + (-7046029254386353131 : Int64)))), .second, .val (.long (own_mix ((x0 + (-7046029254386353131 : Int64)) + (-7046029254386353131 : Int64)))), .second, .val (.long (own_mix (((x0 + (-7046029254386353131 : Int64)) + (-7046029254386353131 : Int64)) + (-7046029254386353131 : Int64)))), .second, .val (.int (1 : Int32))] [(.int (lcmpW (own_unmix (own_mix (((x0 + (-7046029254386353131 : Int64)) + (-7046029254386353131 : Int64)) + (-7046029254386353131 : Int64)))) (x0 + (-2691343689449507777 : Int64))))])) (fun τ κ => XS.lcmp X37.here hx rfl (hb hby at_117) rfl κ) ?_
  have hc38 : (own_unmix (own_mix (((x0 + (-7046029254386353131 : Int64)) + (-7046029254386353131 : Int64)) + (-7046029254386353131 : Int64)))) = (x0 + (-2691343689449507777 : Int64)) := own_a3 _
  refine Gl.st (g' := (mkF m 121 #[.val (.long x0), .second, .val (.long (-7046029254386353131 : Int64)), .second, .val (.ref b14), .val (.long (own_mix (x0 + (-7046029254386353131 : Int64)))), .second, .val (.long (own_mix ((x0 + (-7046029254386353131 : Int64)) + (-7046029254386353131 : Int64)))), .second, .val (.long (own_mix (((x0 + (-7046029254386353131 : Int64)) + (-7046029254386353131 : Int64)) + (-7046029254386353131 : Int64)))), .second, .val (.int (1 : Int32))] [])) (fun τ κ => XS.ifNo X37.here hx rfl (hb hby at_118) rfl ((if0 _ _).trans (teq ((lw_eq (own_unmix (own_mix (((x0 + (-7046029254386353131 : Int64)) + (-7046029254386353131 : Int64)) + (-7046029254386353131 : Int64)))) (x0 + (-2691343689449507777 : Int64))).mpr hc38)).2) κ) ?_
  refine Gl.st (g' := (mkF m 122 #[.val (.long x0), .second, .val (.long (-7046029254386353131 : Int64)), .second, .val (.ref b14), .val (.long (own_mix (x0 + (-7046029254386353131 : Int64)))), .second, .val (.long (own_mix ((x0 + (-7046029254386353131 : Int64)) + (-7046029254386353131 : Int64)))), .second, .val (.long (own_mix (((x0 + (-7046029254386353131 : Int64)) + (-7046029254386353131 : Int64)) + (-7046029254386353131 : Int64)))), .second, .val (.int (1 : Int32))] [(.int (1 : Int32))])) (fun τ κ => XS.iconst X37.here hx rfl (hb hby at_121) κ) ?_
  refine Gl.st (g' := (mkF m 126 #[.val (.long x0), .second, .val (.long (-7046029254386353131 : Int64)), .second, .val (.ref b14), .val (.long (own_mix (x0 + (-7046029254386353131 : Int64)))), .second, .val (.long (own_mix ((x0 + (-7046029254386353131 : Int64)) + (-7046029254386353131 : Int64)))), .second, .val (.long (own_mix (((x0 + (-7046029254386353131 : Int64)) + (-7046029254386353131 : Int64)) + (-7046029254386353131 : Int64)))), .second, .val (.int (1 : Int32))] [(.int (1 : Int32))])) (fun τ κ => XS.goto X37.here hx rfl (pc0 := 122) (pc' := 126) rfl (hb hby at_122) (by decide) (by decide) κ) ?_
  exact Gl.ret (v := some (.int (1 : Int32))) X37 Bd.notSynchronized (fun h => by rw [Bd.returns] at h; cases h) e37 (fun fs hr => retN X37 hx (t := .boolean) Bd.returns (by simp) (hb hby at_126) hr) (by decide) (by decide) ⟨rfl, N37⟩
set_option maxRecDepth 65536 in
set_option maxHeartbeats 40000000 in
theorem comes_1 {Post : Tables → Env → Array Value → State → Outcome → State → Prop} (hpost : ∀ tb e args s v u, (limb_1_1.after args s (.returned v) u = true ∧ limb_1_2.after args s (.returned v) u = true ∧ True) → FrameEnd s (.returned v) u (Jvm.fieldLocs frame_1_writes args s ++ Jvm.arrayLocs frame_1_arrays args s ++ Jvm.staticLocs frame_1_statics s) 16 128 → Post tb e args s (.returned v) u) :
    ArmFor flags0 classFile x code maxLocals ret World_1 tables_1 room_1 Calls_1 rest_1 Pre_1 Post := by
  intro l hfl _ _ p e ha hc hk s m args below hf hA hF happ hP
  obtain ⟨hcalls, hrest, hpre⟩ := hP
  obtain ⟨-, -, -, hnamed, -, -, -, hat⟩ := (Spec.applies_iff hf).mp happ
  obtain ⟨hg, hn⟩ := and_e (Cond.before_iff.mp (show (Jvm.Cond.and given_1 narrow_1).before args s = true from hpre))
  obtain ⟨hcount, hg0⟩ := and_e hg
  have gi0 := hg0
  obtain ⟨w0, rfl⟩ : ∃ w0 : Value, args = #[w0] := by
    have hs : args.size = 1 := by simpa [Cond.value, given_1] using hcount
    obtain ⟨L⟩ := args
    match L, hs with
    | [w0], _ => exact ⟨w0, rfl⟩
  have hw := fun d (hd : d ∈ tables_1) => atoms_spec (ws := Jvm.Cond.code x code maxLocals ret :: tables_1) hat d (List.mem_cons_of_mem _ hd)
  obtain ⟨i0, ei0⟩ := isL_v gi0
  obtain rfl : w0 = (.long i0) := Option.some.inj ei0
  obtain ⟨n, o, h1, h2, h3, _, L, rfl, ⟨rfl, N⟩, hq⟩ := rm0 l s _ hw tables_1 i0  s.heap s.heap.size (Nat.le_refl _)  p e ha hc hk s m _ below hf ((Spec.applies_iff_loose hf).mp happ).1 ⟨rfl, State.Warmed39.refl s, rfl⟩ trivial
  refine ⟨n, _, h1, h2, h3, hpost _ _ _ _ _ _ ⟨Cond.after_iff.mpr rfl, Cond.after_iff.mpr (eq_i res_at (Term.int_eval (1)) rfl), trivial⟩ ⟨hq.1, hq.2.1, (hq.2.2.sift fun y hy => Or.inr (N y hy)).mono (by decide) (by decide)⟩⟩
theorem main_1_1 : Claimed_1_1 := comes_1 fun _ _ _ _ _ _ h hF => ⟨h.1, hF⟩
theorem main_1_2 : Claimed_1_2 := comes_1 fun _ _ _ _ _ _ h hF => ⟨h.2.1, hF⟩
end Jvm.Pilot.@@N@@
namespace Jvm.Pilot.@@N@@
open Jvm Jvm.ClassFile Sem Op Lib Jvm.Free Jvm.Stand Jvm.Pilot.@@N@@.Jvm.D
/-! MADE BY PROGRAM (witnessworld.py) out of the Statement's table words and the real class files: 9 classes; the members and pool entries that the words name. The judged class is class 1, her method 3. -/
namespace start1
open Jvm.ClassFile
def u (s : String) : CpInfo := .utf8 (stringToUtf16 s)
/-- a pool by its gaps: so many unusable entries, then the entry; so many at the end -/
def gap : Nat → List CpInfo → List CpInfo
  | 0, r => r
  | n + 1, r => .unusable :: gap n r
def poolList (es : List (Nat × CpInfo)) (last : Nat) : List CpInfo := es.foldr (fun e r => gap e.1 (e.2 :: r)) (gap last [])
def pool (es : List (Nat × CpInfo)) (last : Nat) : Array CpInfo := ⟨poolList es last⟩
def fileOf (pool : Array CpInfo) (this : Nat) (attrs : Array Attribute := #[]) (ms : Array MethodInfo := #[]) (fl : Nat := 33) (sup : Nat := 0) (ifs : Array Nat := #[]) (fds : Array FieldInfo := #[]) : ClassFile where
  minorVersion := 0
  majorVersion := 65
  constantPool := pool
  accessFlags := fl
  thisClass := this
  superClass := sup
  interfaces := ifs
  fields := fds
  methods := ms
  attributes := attrs
def plain (name : String) (sup : Option ClassId) : Class where
  name := name
  kind := .ordinary
  loader := none
  accessFlags := 33
  super := sup
  interfaces := #[]
  cf := none
  fields := #[]
  methods := #[]
  instanceTypes := #[]
  staticTypes := #[]
  resolved := #[]
  callSites := []
  init := .initialized
  statics := none
  mirror := none

def pool0 : Array CpInfo := pool [(5, u "<init>"), (0, u "()V"), (1, .class_ 10), (1, u "java/lang/Object")] 113

def k0c0 : Code := { maxStack := 0, maxLocals := 1, code := object_method_1_code, exceptionTable := #[], attributes := #[] }
def k0m0 : Method := { name := "<init>", desc := "()V", sig := { parameters := [], returnType := none }, accessFlags := 1, code := some k0c0 }
/-- java/lang/Object -/
def k0 : Class := { plain "java/lang/Object" none with
  accessFlags := 33
  interfaces := #[]
  cf := some (fileOf pool0 8 #[] #[{ accessFlags := 1, nameIndex := 5, descriptorIndex := 6, attributes := #[] }] 33 0 #[] #[])
  fields := #[]
  methods := #[k0m0]
  instanceTypes := #[]
  staticTypes := #[]
  resolved := Array.replicate 124 none
  statics := none }

def pool1 : Array CpInfo := pool [(2, .class_ 4), (1, u "java/lang/Object"), (0, u "<init>"), (0, u "()V"), (0, .long 2), (1, .long 10723151780598845931), (1, .methodref 12 13), (0, .class_ 14), (0, .nameAndType 15 16), (0, u "com/example/wanderpath/wanderpath/SeededRandomNextLongPinLaw"), (0, u "inv"), (0, u "(J)J"), (0, .long 13787848793156543929), (1, .long 11400714819323198485), (1, .class_ 22), (0, u "com/example/wanderpath/wanderpath/SeededRandom"), (0, .methodref 21 24), (0, .nameAndType 5 25), (0, u "(J)V"), (0, .methodref 21 27), (0, .nameAndType 28 29), (0, u "nextLong"), (0, u "()J"), (0, .methodref 12 31), (0, .nameAndType 32 16), (0, u "unmix"), (0, .long 3), (3, u "law"), (0, u "(J)Z")] 3

def k1m0 : Method := { name := "<init>", desc := "()V", sig := { parameters := [], returnType := none }, accessFlags := 1, code := none }
def k1c1 : Code := { maxStack := 8, maxLocals := 4, code := method_2_code, exceptionTable := #[], attributes := #[] }
def k1m1 : Method := { name := "inv", desc := "(J)J", sig := { parameters := [.long], returnType := some .long }, accessFlags := 10, code := some k1c1 }
def k1c2 : Code := { maxStack := 5, maxLocals := 10, code := method_3_code, exceptionTable := #[], attributes := #[] }
def k1m2 : Method := { name := "unmix", desc := "(J)J", sig := { parameters := [.long], returnType := some .long }, accessFlags := 10, code := some k1c2 }
def k1c3 : Code := { maxStack := 8, maxLocals := 12, code := code, exceptionTable := #[], attributes := #[] }
def k1m3 : Method := { name := "law", desc := "(J)Z", sig := { parameters := [.long], returnType := some .boolean }, accessFlags := 9, code := some k1c3 }
/-- com/example/wanderpath/wanderpath/SeededRandomNextLongPinLaw -/
def k1 : Class := { plain "com/example/wanderpath/wanderpath/SeededRandomNextLongPinLaw" (some 0) with
  accessFlags := 49
  interfaces := #[]
  cf := some (fileOf pool1 12 #[] #[{ accessFlags := 1, nameIndex := 5, descriptorIndex := 6, attributes := #[] }, { accessFlags := 10, nameIndex := 15, descriptorIndex := 16, attributes := #[] }, { accessFlags := 10, nameIndex := 32, descriptorIndex := 16, attributes := #[] }, { accessFlags := 9, nameIndex := 37, descriptorIndex := 38, attributes := #[] }] 49 2 #[] #[])
  fields := #[]
  methods := #[k1m0, k1m1, k1m2, k1m3]
  instanceTypes := #[]
  staticTypes := #[]
  resolved := Array.replicate 42 none
  statics := none }

def pool2 : Array CpInfo := pool [(1, .methodref 2 3), (0, .class_ 4), (0, .nameAndType 5 6), (0, u "java/lang/Object"), (0, u "<init>"), (0, u "()V"), (0, .fieldref 8 9), (0, .class_ 10), (0, .nameAndType 11 12), (0, u "com/example/wanderpath/wanderpath/SeededRandom"), (0, u "state"), (0, u "J"), (0, .long 11400714819323198485), (1, .long 13787848793156543929), (1, .long 10723151780598845931), (14, u "nextLong"), (0, u "()J"), (4, u "GAMMA"), (1, u "(J)V")] 24

def k2c0 : Code := { maxStack := 3, maxLocals := 3, code := prog_27_method_1_code, exceptionTable := #[], attributes := #[] }
def k2m0 : Method := { name := "<init>", desc := "(J)V", sig := { parameters := [.long], returnType := none }, accessFlags := 0, code := some k2c0 }
def k2c1 : Code := { maxStack := 5, maxLocals := 3, code := prog_27_method_2_code, exceptionTable := #[], attributes := #[] }
def k2m1 : Method := { name := "nextLong", desc := "()J", sig := { parameters := [], returnType := some .long }, accessFlags := 0, code := some k2c1 }
/-- com/example/wanderpath/wanderpath/SeededRandom -/
def k2 : Class := { plain "com/example/wanderpath/wanderpath/SeededRandom" (some 0) with
  accessFlags := 48
  interfaces := #[]
  cf := some (fileOf pool2 8 #[] #[{ accessFlags := 0, nameIndex := 5, descriptorIndex := 40, attributes := #[] }, { accessFlags := 0, nameIndex := 32, descriptorIndex := 33, attributes := #[] }] 48 2 #[] #[{ accessFlags := 26, nameIndex := 38, descriptorIndex := 12, attributes := #[] }, { accessFlags := 2, nameIndex := 11, descriptorIndex := 12, attributes := #[] }])
  fields := #[{ name := "GAMMA", type := .long, accessFlags := 26, slot := 0, constantValue := 0 }, { name := "state", type := .long, accessFlags := 2, slot := 0, constantValue := 0 }]
  methods := #[k2m0, k2m1]
  instanceTypes := #[.long]
  staticTypes := #[.long]
  resolved := Array.replicate 65 none
  statics := none }

def pool3 : Array CpInfo := pool [(1, u "java/lang/Cloneable"), (0, .class_ 1), (0, u "java/lang/Object"), (0, .class_ 3)] 3

/-- java/lang/Cloneable -/
def k3 : Class := { plain "java/lang/Cloneable" (some 0) with
  accessFlags := 1537
  interfaces := #[]
  cf := some (fileOf pool3 2 #[] #[] 1537 4 #[] #[])
  fields := #[]
  methods := #[]
  instanceTypes := #[]
  staticTypes := #[]
  resolved := Array.replicate 8 none
  statics := none }

def pool4 : Array CpInfo := pool [(1, u "java/io/Serializable"), (0, .class_ 1), (0, u "java/lang/Object"), (0, .class_ 3)] 3

/-- java/io/Serializable -/
def k4 : Class := { plain "java/io/Serializable" (some 0) with
  accessFlags := 1537
  interfaces := #[]
  cf := some (fileOf pool4 2 #[] #[] 1537 4 #[] #[])
  fields := #[]
  methods := #[]
  instanceTypes := #[]
  staticTypes := #[]
  resolved := Array.replicate 8 none
  statics := none }

/-- the primitive byte -/
def k5 : Class := { plain "byte" none with kind := .primitive 'B', accessFlags := 0x411 }
/-- [B -/
def k6 : Class := { plain "[B" (some 0) with kind := .array 5 .byte, interfaces := #[3, 4], accessFlags := 1041 }

/-- the primitive int -/
def k7 : Class := { plain "int" none with kind := .primitive 'I', accessFlags := 0x411 }
/-- [I -/
def k8 : Class := { plain "[I" (some 0) with kind := .array 7 .int, interfaces := #[3, 4], accessFlags := 1041 }

def heap : Heap := #[]
def classes : Array Class := #[k0, k1, k2, k3, k4, k5, k6, k7, k8]
def interned : List (Array UInt16 × Addr) := []
def slotsUsed : Nat := 0
def theMethod : MethodId := ⟨1, 3⟩
def args0 : Array Value := #[.long 5]
def aboutOver (below : List Frame) : State where
  vm := { classes := classes, interned := interned.toArray }
  heap := heap
  slotsUsed := slotsUsed
  threads := #[{ frames := .invoking theMethod args0 :: below }]
def below0 : List Frame := [.native { method := ⟨0, 0⟩, args := #[] }]
def about1 : State := aboutOver below0
def p0 : Program := .bare "" "" ""
def e0 : Env := launch0.env 0 0 0
theorem w_frames : about1.frames = Frame.invoking theMethod args0 :: below0 := rfl
set_option maxRecDepth 65536 in
theorem w_args : argsFit about1.vm theMethod args0 = true := by decide +kernel
set_option maxRecDepth 65536 in
theorem w_heap : heapFits about1 = true := by decide +kernel
set_option maxRecDepth 65536 in
theorem w_runnable : about1.curStatus? = some .runnable := by decide +kernel
set_option maxRecDepth 65536 in
theorem w_alone : about1.alone = true := by decide +kernel
set_option maxRecDepth 65536 in
theorem w_named : about1.methodNamed? x = some theMethod := by decide +kernel
set_option maxRecDepth 65536 in
theorem w_hears : about1.hears theMethod below0 = true := by decide +kernel
set_option maxRecDepth 65536 in
theorem w_ripe : about1.ripe theMethod args0 below0 = true := by decide +kernel
theorem w_running : about1.status = .running := rfl
set_option maxRecDepth 65536 in
theorem w_room : about1.hasRoom e0.platform room_1 = true :=
  launch0.hasRoom_least _ room_1 (by decide +kernel) (by decide +kernel) (by decide +kernel) (by decide +kernel) (by decide +kernel) (by decide +kernel)
theorem allAtoms_all (ts : List Jvm.Cond) (a : Array Jvm.Value) (st : Jvm.State) : (allAtoms ts).before a st = ts.all (fun c => c.before a st) := by
  induction ts with
  | nil => rfl
  | cons c t ih =>
    show (Jvm.Cond.and c (allAtoms t)).before a st = _
    rw [Jvm.Cond.before_and, ih, List.all_cons]
def words1 : List Jvm.Cond := Jvm.Cond.code x code maxLocals ret :: tables_1
/-- a 'code' word, met by the world's own term for the bytes: nothing is compared byte by byte -/
theorem code_word {y : MethodName} {bytes : ByteArray} {mx : Nat} {rt : Option FieldType} {a : Array Value} {s : State} {m : MethodId} {meth : Method} {c : Code} (h1 : s.methodNamed? y = some m) (h2 : s.vm.method? m = some meth) (h3 : meth.code = some c) (h4 : c.code = bytes)
    (h5 : (c.maxLocals == mx && c.exceptionTable.isEmpty && decide (c.maxStack ≤ mostOperands) && decide (meth.sig.returnType = rt) && !meth.locks && decide (parseMethodDescriptor y.desc = some meth.sig)) = true) : (Jvm.Cond.code y bytes mx rt).before a s = true := by
  simp only [Bool.and_eq_true, beq_iff_eq, Bool.not_eq_true', decide_eq_true_eq] at h5
  obtain ⟨⟨⟨⟨⟨g1, g2⟩, g3⟩, g4⟩, g5⟩, g6⟩ := h5
  simp [Cond.before, Cond.holds, Cond.value, h1, h2, h3, h4, g1, g2, g3, g4, g5, g6]
def isCode : Jvm.Cond → Bool
  | .code _ _ _ _ => true
  | _ => false
theorem all_split {L : List Jvm.Cond} {P : Jvm.Cond → Bool} (h1 : L.all (fun c => isCode c || P c) = true) (h2 : ∀ c ∈ L.filter isCode, P c = true) : L.all P = true := by
  refine List.all_eq_true.mpr fun c hc => ?_
  have h := List.all_eq_true.mp h1 c hc
  rcases Bool.eq_false_or_eq_true (isCode c) with hi | hi
  · exact h2 c (List.mem_filter.mpr ⟨hc, hi⟩)
  · simpa [hi] using h
set_option maxRecDepth 65536 in
theorem w_c0 : (Jvm.Cond.code x code maxLocals ret).before args0 about1 = true := code_word (m := ⟨1, 3⟩) (meth := k1m3) (c := k1c3) (by decide +kernel) rfl rfl rfl (by decide +kernel)
set_option maxRecDepth 65536 in
theorem w_c1 : (Jvm.Cond.code ({ cls := "com/example/wanderpath/wanderpath/SeededRandom", name := "<init>", desc := "(J)V" } : Jvm.MethodName) prog_27_method_1_code (3 : Nat) (Option.none : Option Jvm.ClassFile.FieldType)).before args0 about1 = true := code_word (m := ⟨2, 0⟩) (meth := k2m0) (c := k2c0) (by decide +kernel) rfl rfl rfl (by decide +kernel)
set_option maxRecDepth 65536 in
theorem w_c2 : (Jvm.Cond.code ({ cls := "java/lang/Object", name := "<init>", desc := "()V" } : Jvm.MethodName) object_method_1_code (1 : Nat) (Option.none : Option Jvm.ClassFile.FieldType)).before args0 about1 = true := code_word (m := ⟨0, 0⟩) (meth := k0m0) (c := k0c0) (by decide +kernel) rfl rfl rfl (by decide +kernel)
set_option maxRecDepth 65536 in
theorem w_c3 : (Jvm.Cond.code ({ cls := "com/example/wanderpath/wanderpath/SeededRandom", name := "nextLong", desc := "()J" } : Jvm.MethodName) prog_27_method_2_code (3 : Nat) (Option.some Jvm.ClassFile.FieldType.long)).before args0 about1 = true := code_word (m := ⟨2, 1⟩) (meth := k2m1) (c := k2c1) (by decide +kernel) rfl rfl rfl (by decide +kernel)
set_option maxRecDepth 65536 in
theorem w_c4 : (Jvm.Cond.code ({ cls := "com/example/wanderpath/wanderpath/SeededRandomNextLongPinLaw", name := "inv", desc := "(J)J" } : Jvm.MethodName) method_2_code (4 : Nat) (Option.some Jvm.ClassFile.FieldType.long)).before args0 about1 = true := code_word (m := ⟨1, 1⟩) (meth := k1m1) (c := k1c1) (by decide +kernel) rfl rfl rfl (by decide +kernel)
set_option maxRecDepth 65536 in
theorem w_c5 : (Jvm.Cond.code ({ cls := "com/example/wanderpath/wanderpath/SeededRandomNextLongPinLaw", name := "unmix", desc := "(J)J" } : Jvm.MethodName) method_3_code (10 : Nat) (Option.some Jvm.ClassFile.FieldType.long)).before args0 about1 = true := code_word (m := ⟨1, 2⟩) (meth := k1m2) (c := k1c2) (by decide +kernel) rfl rfl rfl (by decide +kernel)
def codes1 : List Jvm.Cond := [Jvm.Cond.code x code maxLocals ret, Jvm.Cond.code ({ cls := "com/example/wanderpath/wanderpath/SeededRandom", name := "<init>", desc := "(J)V" } : Jvm.MethodName) prog_27_method_1_code (3 : Nat) (Option.none : Option Jvm.ClassFile.FieldType), Jvm.Cond.code ({ cls := "java/lang/Object", name := "<init>", desc := "()V" } : Jvm.MethodName) object_method_1_code (1 : Nat) (Option.none : Option Jvm.ClassFile.FieldType), Jvm.Cond.code ({ cls := "com/example/wanderpath/wanderpath/SeededRandom", name := "nextLong", desc := "()J" } : Jvm.MethodName) prog_27_method_2_code (3 : Nat) (Option.some Jvm.ClassFile.FieldType.long), Jvm.Cond.code ({ cls := "com/example/wanderpath/wanderpath/SeededRandomNextLongPinLaw", name := "inv", desc := "(J)J" } : Jvm.MethodName) method_2_code (4 : Nat) (Option.some Jvm.ClassFile.FieldType.long), Jvm.Cond.code ({ cls := "com/example/wanderpath/wanderpath/SeededRandomNextLongPinLaw", name := "unmix", desc := "(J)J" } : Jvm.MethodName) method_3_code (10 : Nat) (Option.some Jvm.ClassFile.FieldType.long)]
set_option maxRecDepth 65536 in
theorem codes_eq : words1.filter isCode = codes1 := rfl
theorem w_codes : ∀ c ∈ words1.filter isCode, c.before args0 about1 = true := by
  rw [codes_eq]
  intro c hc
  simp only [codes1, List.mem_cons, List.not_mem_nil, or_false] at hc
  rcases hc with rfl | rfl | rfl | rfl | rfl | rfl
  · exact w_c0
  · exact w_c1
  · exact w_c2
  · exact w_c3
  · exact w_c4
  · exact w_c5
set_option maxRecDepth 65536 in
theorem w_t1 : (words1.take 24).all (fun c => isCode c || c.before args0 about1) = true := by decide +kernel
set_option maxRecDepth 65536 in
theorem w_t2 : (words1.drop 24).all (fun c => isCode c || c.before args0 about1) = true := by decide +kernel
theorem w_tables : (allAtoms (Jvm.Cond.code x code maxLocals ret :: tables_1)).before args0 about1 = true := by
  rw [allAtoms_all]
  show words1.all (fun c => c.before args0 about1) = true
  refine all_split ?_ w_codes
  rw [← List.take_append_drop 24 words1, List.all_append, w_t1, w_t2]
  rfl
set_option maxRecDepth 65536 in
theorem w_case : (Jvm.Cond.and given_1 narrow_1).before args0 about1 = true := by decide +kernel
theorem w_applies : (headSpec (Jvm.Cond.code x code maxLocals ret :: tables_1) room_1).applies x e0.platform about1 = true :=
  (Spec.applies_iff w_frames).mpr ⟨w_running, w_runnable, w_alone, w_named, w_hears, w_ripe, w_room, w_tables⟩
theorem atStart : AtStart classFile x code maxLocals ret World_1 tables_1 room_1 Calls_1 rest_1 Pre_1 launch0 p0 e0 about1 theMethod args0 below0 :=
  ⟨lists_1, trivial, launch0.admits_env _ _ _, launch0.least_env, fairChoices_fair.cas, fairChoices_fair.clock, w_frames, w_args, w_heap, w_applies, trivial, trivial, w_case⟩
end start1
theorem witness_1 : WitnessClaimed_1 := ⟨start1.p0, start1.e0, start1.about1, start1.theMethod, start1.args0, start1.below0, start1.atStart⟩
end Jvm.Pilot.@@N@@
