import JvmDerived
import JvmDerived.Pilot.@@N@@Statement
import JvmDerived.Pilot.@@N@@Code
set_option linter.unusedVariables false
set_option linter.unusedSimpArgs false
@@BLOCK:NumsL.lean.txt@@
namespace Jvm.RoadKit
open Sem ClassFile Op Lib Jvm.Stand Jvm.Free Jvm.LawKit
section New
variable {p : Program} {l : Launch} {e : Env} {R : Room} {s : State} {m : MethodId} {args : Array Value} {below : List Frame} {meth : Method} {c : Code} {T : State} {locs : List Loc} {cells slots : Nat}
theorem retI (X : Stand p l e R s m args below meth c T locs cells slots) (hx : p.tables.exec = Jvm.exec) {pc : Nat} {Ls : Array Slot} {z : Int32} {rest : List Value} (hret : meth.sig.returnType = some .int) (hd : decode c.code pc = .ok (.ireturn, 1)) {fs : List Frame}
    (hl : ∀ (f : JFrame) (acts : List Action), f.method = m → f.locked = none → f.entered = [] → (doReturn e (T.setTop f) acts (some (.int z))).1 = T.setFrames fs) : Steps p.tables e below (T.setTop (mkF m pc Ls (.int z :: rest))) (T.setFrames fs) := by
  have hm' : T.vm.method? m = some meth := X.method'
  have hn : narrow .int (.int z) = .int z := rfl
  show Steps p.tables e below (T.setTop { method := m, pc := pc, locals := Ls, stack := _ :: rest, locked := none }) _
  jvm_step X.here [X.here.top, hx, hd, hm', hret, hn]
  first | (intro acts; rw [hl _ acts rfl rfl rfl]) | rw [hl _ _ rfl rfl rfl]
  exact Steps.refl _
/-- the walk's goal, at any point of it -/
def Gl (p : Program) (e : Env) (below : List Frame) (s : State) (Q : Option Value → Heap → List Loc → Prop) (C N : Nat) (T : State) (g : JFrame) : Prop :=
  ∃ s₂ o, Steps p.tables e below (T.setTop g) s₂ ∧ s₂.status = .running ∧ Ended s₂ below o ∧ ∃ v L, o = .returned v ∧ Q v s₂.heap L ∧ FrameEnd s o s₂ L C N
variable {Q : Option Value → Heap → List Loc → Prop} {C N : Nat} {T' : State} {g g' : JFrame} {h : Heap}
theorem Gl.st (f : ∀ t, Steps p.tables e below (T'.setTop g') t → Steps p.tables e below (T.setTop g) t) (k : Gl p e below s Q C N T' g') : Gl p e below s Q C N T g := by
  obtain ⟨s₂, o, h1, r⟩ := k
  exact ⟨s₂, o, f _ h1, r⟩
theorem Gl.ret (X : Stand p l e R s m args below meth c T locs cells slots) (hlk : meth.locks = false) {v : Option Value} (hv : meth.sig.returnType = none → v = none) (eT : T.heap = h)
    (f : ∀ fs, (∀ (f : JFrame) (acts : List Action), f.method = m → f.locked = none → f.entered = [] → (doReturn e (T.setTop f) acts v).1 = T.setFrames fs) → Steps p.tables e below (T.setTop g) (T.setFrames fs)) (hc : cells ≤ C) (hn : slots ≤ N) (hQ : Q v h locs) : Gl p e below s Q C N T g := by
  obtain ⟨fs, hr, hrun, hended, hW, hsame⟩ := X.leave (v := v) hv hlk
  exact ⟨_, _, f fs hr, hrun, hended, _, _, rfl, by show Q v T.heap _; rw [eT]; exact hQ, ⟨_, rfl⟩, hW, hsame.mono hc hn⟩
theorem Arv.cellX {Z : State} {h : Heap} {a : Addr} {k : ClassId} {ty : FieldType} {z : Int32} {vs : List Value} {dv : Value} (F : Arv Z h a k ty z vs dv) : ∃ c : Cell, h[a]? = some c ∧ ∀ q, c.vm ≠ .statics q := by
  obtain ⟨c, A, -⟩ := F; exact ⟨c, A.1, A.2.1.1⟩
theorem selPrivate {s : State} {args : Array Value} {y z : MethodName} (hzy : z.cls = y.cls) (hsel : (Cond.selects z.cls z z).before args s = true) (hpriv : s.PrivateAt y) (hinst : (Cond.instanceMethod y).before args s = true) (hy : y.cls ≠ "java/lang/invoke/MethodHandle" ∧ y.cls ≠ "java/lang/invoke/VarHandle") : (Cond.selects y.cls y y).before args s = true := by
  obtain ⟨c2, r2, m2, -, -, q3, -, kP, hkP, hkPi⟩ := Cond.selects_spec hsel
  exact selects_self_of_private (by rw [← hzy]; exact findClass_of_methodNamed q3) hkP hkPi hpriv hinst hy
theorem Sta.keepX {Z : State} {h h' : Heap} {C n d : String} {v : Value} {ws : List Addr} (F : Sta Z h C n d v) (K : Keep h h' ws) (q : ∀ x ∈ ws, ∃ c : Cell, h[x]? = some c ∧ ∀ q, c.vm ≠ .statics q) : Sta Z h' C n d v := by
  obtain ⟨cf, i, k, f, st, cell, h1, h2, h3, h4, h5, h6, h7⟩ := F
  refine ⟨cf, i, k, f, st, cell, h1, h2, h3, h4, K.2.1 st cell h5 fun z => ?_, h6, h7⟩
  obtain ⟨c, e1, e2⟩ := q st z
  cases h5.symm.trans e1
  cases hv : cell.vm <;> simp [hv, VmData.isStatics] at h6
  exact e2 _ hv
end New
end Jvm.RoadKit
namespace Jvm.Pilot.@@N@@
open Jvm Jvm.ClassFile Sem Op Lib Jvm.Free Jvm.Stand Jvm.LawKit Jvm.RoadKit Bundle Jvm.Pilot.@@N@@.Jvm.D

theorem own_rem (x : Int64) : -32767 ≤ (x - (x / (32768 : Int64)) * (32768 : Int64)).toInt ∧ (x - (x / (32768 : Int64)) * (32768 : Int64)).toInt ≤ 32767 := by
  have h := c_lrem x 32768 32768 rfl
  by_cases p : 0 ≤ x.toInt
  · have := h.1 p; omega
  · have := h.2 (by omega); omega
def own_abs (c : Int64) : Int64 := if c < 0 then -c else c
def own_gentle (a b c d : Int64) : Int32 := if (0 : Int64) < a * c + b * d then (if (2 : Int64) * (a * c + b * d) * (a * c + b * d) < (a * a + b * b) * (c * c + d * d) then 0 else 1) else 0
theorem own_bd {x y : Int} (h1 : -32767 ≤ x) (h2 : x ≤ 32767) (h3 : -32767 ≤ y) (h4 : y ≤ 32767) : -1073676289 ≤ x * y ∧ x * y ≤ 1073676289 := by
  have := mc h1 h2 h3 h4
  omega
theorem own_sqn (x : Int) : 0 ≤ x * x := by
  rcases Int.le_total 0 x with h | h
  · exact Int.mul_nonneg h h
  · exact Int.mul_nonneg_of_nonpos_of_nonpos h h
theorem own_lag (a b c d : Int) : (a * a + b * b) * (c * c + d * d) = (a * c + b * d) * (a * c + b * d) + (a * d - b * c) * (a * d - b * c) := by grind
theorem own_sq {x y : Int} (hx : 0 ≤ x) (hy : 0 ≤ y) : x * x < y * y ↔ x < y := by
  constructor
  · intro h
    apply Int.lt_of_not_ge
    intro q
    have := Int.mul_le_mul q q hy hx
    omega
  · intro h
    have h1 := Int.mul_le_mul (Int.le_of_lt h) (Int.le_refl x) hx hy
    have h2 := Int.mul_lt_mul_of_pos_left h (show 0 < y by omega)
    omega
theorem own_main (a b c d : Int64) (ha : -32767 ≤ a.toInt ∧ a.toInt ≤ 32767) (hb : -32767 ≤ b.toInt ∧ b.toInt ≤ 32767) (hc : -32767 ≤ c.toInt ∧ c.toInt ≤ 32767) (hd : -32767 ≤ d.toInt ∧ d.toInt ≤ 32767) (h : (0 : Int64) < a * c + b * d) :
    ((2 : Int64) * (a * c + b * d) * (a * c + b * d) < (a * a + b * b) * (c * c + d * d)) ↔ a * c + b * d < own_abs (a * d - b * c) := by
  have b1 := own_bd ha.1 ha.2 hc.1 hc.2
  have b2 := own_bd hb.1 hb.2 hd.1 hd.2
  have b3 := own_bd ha.1 ha.2 hd.1 hd.2
  have b4 := own_bd hb.1 hb.2 hc.1 hc.2
  have b5 := own_bd ha.1 ha.2 ha.1 ha.2
  have b6 := own_bd hb.1 hb.2 hb.1 hb.2
  have b7 := own_bd hc.1 hc.2 hc.1 hc.2
  have b8 := own_bd hd.1 hd.2 hd.1 hd.2
  have e1 : (a * c).toInt = a.toInt * c.toInt := Jvm.Kit.i64_mul (by omega) (by omega)
  have e2 : (b * d).toInt = b.toInt * d.toInt := Jvm.Kit.i64_mul (by omega) (by omega)
  have e3 : (a * d).toInt = a.toInt * d.toInt := Jvm.Kit.i64_mul (by omega) (by omega)
  have e4 : (b * c).toInt = b.toInt * c.toInt := Jvm.Kit.i64_mul (by omega) (by omega)
  have e5 : (a * a).toInt = a.toInt * a.toInt := Jvm.Kit.i64_mul (by omega) (by omega)
  have e6 : (b * b).toInt = b.toInt * b.toInt := Jvm.Kit.i64_mul (by omega) (by omega)
  have e7 : (c * c).toInt = c.toInt * c.toInt := Jvm.Kit.i64_mul (by omega) (by omega)
  have e8 : (d * d).toInt = d.toInt * d.toInt := Jvm.Kit.i64_mul (by omega) (by omega)
  have eD : (a * c + b * d).toInt = a.toInt * c.toInt + b.toInt * d.toInt := by rw [Jvm.Kit.i64_add (by omega) (by omega), e1, e2]
  have eX : (a * d - b * c).toInt = a.toInt * d.toInt - b.toInt * c.toInt := by rw [Jvm.Kit.i64_sub (by omega) (by omega), e3, e4]
  have eU : (a * a + b * b).toInt = a.toInt * a.toInt + b.toInt * b.toInt := by rw [Jvm.Kit.i64_add (by omega) (by omega), e5, e6]
  have eV : (c * c + d * d).toInt = c.toInt * c.toInt + d.toInt * d.toInt := by rw [Jvm.Kit.i64_add (by omega) (by omega), e7, e8]
  have lag := own_lag a.toInt b.toInt c.toInt d.toInt
  rw [← eD, ← eX, ← eU, ← eV] at lag
  have rD : -2147352578 ≤ (a * c + b * d).toInt ∧ (a * c + b * d).toInt ≤ 2147352578 := by omega
  have rX : -2147352578 ≤ (a * d - b * c).toInt ∧ (a * d - b * c).toInt ≤ 2147352578 := by omega
  have rU : 0 ≤ (a * a + b * b).toInt ∧ (a * a + b * b).toInt ≤ 2147352578 := by
    have := own_sqn a.toInt; have := own_sqn b.toInt; omega
  have rV : 0 ≤ (c * c + d * d).toInt ∧ (c * c + d * d).toInt ≤ 2147352578 := by
    have := own_sqn c.toInt; have := own_sqn d.toInt; omega
  have hD : 0 < (a * c + b * d).toInt := by rw [Int64.lt_iff_toInt_lt] at h; exact h
  clear eD eX eU eV e1 e2 e3 e4 e5 e6 e7 e8 b1 b2 b3 b4 b5 b6 b7 b8 h
  generalize a * c + b * d = D at *
  generalize a * d - b * c = X at *
  generalize a * a + b * b = U at *
  generalize c * c + d * d = V at *
  have p1 := mc rD.1 rD.2 rD.1 rD.2
  have p1' := own_sqn D.toInt
  have p2 := mc rU.1 rU.2 rV.1 rV.2
  have p3 : D.toInt * D.toInt ≤ 4611123094245646084 := by
    have := Int.mul_le_mul rD.2 rD.2 (by omega) (by omega); omega
  have q1 : ((2 : Int64) * D).toInt = 2 * D.toInt := by rw [Jvm.Kit.i64_mul] <;> (rw [show (2 : Int64).toInt = 2 from rfl]) <;> omega
  have q1' : 2 * D.toInt * D.toInt = 2 * (D.toInt * D.toInt) := Int.mul_assoc 2 D.toInt D.toInt
  have q2 : ((2 : Int64) * D * D).toInt = 2 * (D.toInt * D.toInt) := by
    rw [Jvm.Kit.i64_mul] <;> rw [q1, q1'] <;> omega
  have p4 : U.toInt * V.toInt ≤ 4611123094245646084 := by
    have := Int.mul_le_mul rU.2 rV.2 rV.1 (by omega); omega
  have p5 : 0 ≤ U.toInt * V.toInt := Int.mul_nonneg rU.1 rV.1
  have q3 : (U * V).toInt = U.toInt * V.toInt := Jvm.Kit.i64_mul (by omega) (by omega)
  have q4 : (own_abs X).toInt = if X.toInt < 0 then -X.toInt else X.toInt := by
    unfold own_abs
    by_cases z : X < 0
    · have z' : X.toInt < 0 := by rw [Int64.lt_iff_toInt_lt] at z; exact z
      rw [if_pos z, if_pos z', Jvm.Kit.i64_neg (by omega)]
    · have z' : ¬ X.toInt < 0 := by rw [Int64.lt_iff_toInt_lt] at z; exact z
      rw [if_neg z, if_neg z']
  rw [Int64.lt_iff_toInt_lt, Int64.lt_iff_toInt_lt, q2, q3, q4, lag]
  have e : (2 * (D.toInt * D.toInt) < D.toInt * D.toInt + X.toInt * X.toInt) ↔ D.toInt * D.toInt < X.toInt * X.toInt := by omega
  rw [e]
  by_cases z : X.toInt < 0
  · have w := own_sq (x := D.toInt) (y := -X.toInt) (by omega) (by omega)
    rw [Int.neg_mul_neg] at w
    rw [if_pos z]; exact w
  · rw [if_neg z, own_sq (by omega) (by omega)]
theorem own_e1 {a b c d : Int64} (h : ¬ (0 : Int64) < a * c + b * d) : own_gentle a b c d = 0 := by simp [own_gentle, h]
theorem own_e2 {a b c d : Int64} (ha : -32767 ≤ a.toInt ∧ a.toInt ≤ 32767) (hb : -32767 ≤ b.toInt ∧ b.toInt ≤ 32767) (hc : -32767 ≤ c.toInt ∧ c.toInt ≤ 32767) (hd : -32767 ≤ d.toInt ∧ d.toInt ≤ 32767) (h : (0 : Int64) < a * c + b * d) (k : a * c + b * d < own_abs (a * d - b * c)) : own_gentle a b c d = 0 := by
  simp [own_gentle, h, (own_main a b c d ha hb hc hd h).mpr k]
theorem own_e3 {a b c d : Int64} (ha : -32767 ≤ a.toInt ∧ a.toInt ≤ 32767) (hb : -32767 ≤ b.toInt ∧ b.toInt ≤ 32767) (hc : -32767 ≤ c.toInt ∧ c.toInt ≤ 32767) (hd : -32767 ≤ d.toInt ∧ d.toInt ≤ 32767) (h : (0 : Int64) < a * c + b * d) (k : ¬ a * c + b * d < own_abs (a * d - b * c)) : own_gentle a b c d = 1 := by
  have := mt (own_main a b c d ha hb hc hd h).mp k
  simp [own_gentle, h, this]
theorem d2_0 : decode jdk_29_method_61_code 0 = .ok (.lload_n 0, 1) := by decide +kernel
theorem d2_1 : decode jdk_29_method_61_code 1 = .ok (.lconst 0, 1) := by decide +kernel
theorem d2_2 : decode jdk_29_method_61_code 2 = .ok (.lcmp, 1) := by decide +kernel
theorem d2_3 : decode jdk_29_method_61_code 3 = .ok (.ifCond .ge 8, 3) := by decide +kernel
theorem d2_6 : decode jdk_29_method_61_code 6 = .ok (.lload_n 0, 1) := by decide +kernel
theorem d2_7 : decode jdk_29_method_61_code 7 = .ok (.lneg, 1) := by decide +kernel
theorem d2_8 : decode jdk_29_method_61_code 8 = .ok (.goto 4, 3) := by decide +kernel
theorem d2_12 : decode jdk_29_method_61_code 12 = .ok (.lreturn, 1) := by decide +kernel
theorem d2_11 : decode jdk_29_method_61_code 11 = .ok (.lload_n 0, 1) := by decide +kernel
theorem ef_rm2 (m : MethodId) (q : Int64) : entryFrame m #[(.long q)] 2 = mkF m 0 #[.val (.long q), .second] [] := by first | (simp [entryFrame, mkF, argsToLocals, Value.category]; done) | rfl
def Q_rm2 (Z : State) (q : Int64)  (h0 : Heap) (n0 : Nat) (v : Option Value) (h : Heap) (L : List Loc) : Prop := v = some (.long (own_abs q)) ∧ Fr n0 L ∧ h = h0
set_option maxRecDepth 65536 in
set_option maxHeartbeats 40000000 in
theorem rm2 (l : Launch) (Z : State) (a0 : Array Value) (hw : ∀ d ∈ tables_1, d.before a0 Z = true) (ws : List Jvm.Cond) (q : Int64)  (h0 : Heap) (n0 : Nat) (Z0 : n0 ≤ h0.size)  :
    MetFree l (⟨"java/lang/Math", "abs", "(J)J"⟩ : MethodName) (head1 (Jvm.Cond.code (⟨"java/lang/Math", "abs", "(J)J"⟩ : MethodName) jdk_29_method_61_code 2 (some .long) :: ws) ({ frames := 0, cells := 0, slots := 0, locals := 0 } : Room)) (fun aα Uα => aα = #[(.long q)] ∧ Z.Warmed39 Uα.vm ∧ Uα.heap = h0) (fun _ _ _ _ _ => True) (fun _ Uα oα Uβ => ∃ vα Lα, oα = .returned vα ∧ Q_rm2 Z q  h0 n0 vα Uβ.heap Lα ∧ FrameEnd Uα oα Uβ Lα ({ frames := 0, cells := 0, slots := 0, locals := 0 } : Room).cells ({ frames := 0, cells := 0, slots := 0, locals := 0 } : Room).slots) := by
  refine MetFree.of_bodySF (Jvm.Free.JP.mathPlain rfl (by decide +kernel)) hisR ?_
  intro p e s m args below meth c s₁ Bd hml0 hP hK
  obtain ⟨rfl, hZ, hh⟩ := hP
  have hx := Bd.exec
  have hby := Bd.bytes
  have hml : c.maxLocals = 2 := hml0
  have hown : s.vm.findClass "java/lang/Math" = some m.cls := findClass_of_methodNamed Bd.named
  have hnm := (name_of_methodNamed Bd.named Bd.method).1
  have X0 : Stand p l e ({ frames := 0, cells := 0, slots := 0, locals := 0 } : Room) s m #[(.long q)] below meth c s₁ [] 0 0 := Stand.of_body Bd
  have e0 : s₁.heap = h0 := by rw [← hh, Bd.state]; rfl
  have N0 := Fr.nil n0
  suffices k0 : Gl p e below s (Q_rm2 Z q  h0 n0) ({ frames := 0, cells := 0, slots := 0, locals := 0 } : Room).cells ({ frames := 0, cells := 0, slots := 0, locals := 0 } : Room).slots s₁ (mkF m 0 #[.val (.long q), .second] []) from Gl.st (fun t k => castTop (ef_rm2 m q) k) k0
  refine Gl.st (g' := (mkF m 1 #[.val (.long q), .second] [(.long q)])) (fun τ κ => XS.lloadN X0.here hx rfl (hb hby d2_0) rfl κ) ?_
  refine Gl.st (g' := (mkF m 2 #[.val (.long q), .second] [(.long (0 : Int64)), (.long q)])) (fun τ κ => XS.lconst X0.here hx rfl (hb hby d2_1) κ) ?_
  refine Gl.st (g' := (mkF m 3 #[.val (.long q), .second] [(.int (lcmpW q (0 : Int64)))])) (fun τ κ => XS.lcmp X0.here hx rfl (hb hby d2_2) rfl κ) ?_
  by_cases hc1 : q < (0 : Int64)
  · -- pc 3: q < (0 : Int64)
    refine Gl.st (g' := (mkF m 6 #[.val (.long q), .second] [])) (fun τ κ => XS.ifNo X0.here hx rfl (hb hby d2_3) rfl ((if0 _ _).trans (tlt ((lw_lt q (0 : Int64)).mpr hc1)).2.1) κ) ?_
    refine Gl.st (g' := (mkF m 7 #[.val (.long q), .second] [(.long q)])) (fun τ κ => XS.lloadN X0.here hx rfl (hb hby d2_6) rfl κ) ?_
    refine Gl.st (g' := (mkF m 8 #[.val (.long q), .second] [(.long (-q))])) (fun τ κ => XS.lneg X0.here hx rfl (hb hby d2_7) rfl κ) ?_
    refine Gl.st (g' := (mkF m 12 #[.val (.long q), .second] [(.long (-q))])) (fun τ κ => XS.goto X0.here hx rfl (pc0 := 8) (pc' := 12) rfl (hb hby d2_8) (by decide) (by decide) κ) ?_
    exact Gl.ret (v := some (.long (-q))) X0 Bd.notSynchronized (fun h => by rw [Bd.returns] at h; cases h) e0 (fun fs hr => (by
        jvm_step X0.here [X0.here.top, hx, (hb hby d2_12), X0.method', Bd.returns, narrow]
        first | (intro acts; rw [hr _ acts rfl rfl rfl]) | rw [hr _ _ rfl rfl rfl]
        exact Steps.refl _)) (by decide) (by decide) ⟨by simp only [own_abs, hc1, if_true, if_false], N0, rfl⟩
  · -- pc 3: not q < (0 : Int64)
    refine Gl.st (g' := (mkF m 11 #[.val (.long q), .second] [])) (fun τ κ => XS.ifYes X0.here hx rfl (pc0 := 3) (pc' := 11) rfl (hb hby d2_3) rfl ((if0 _ _).trans (flt (mt (lw_lt q (0 : Int64)).mp hc1)).2.1) (by decide) (by decide) κ) ?_
    refine Gl.st (g' := (mkF m 12 #[.val (.long q), .second] [(.long q)])) (fun τ κ => XS.lloadN X0.here hx rfl (hb hby d2_11) rfl κ) ?_
    exact Gl.ret (v := some (.long q)) X0 Bd.notSynchronized (fun h => by rw [Bd.returns] at h; cases h) e0 (fun fs hr => (by
        jvm_step X0.here [X0.here.top, hx, (hb hby d2_12), X0.method', Bd.returns, narrow]
        first | (intro acts; rw [hr _ acts rfl rfl rfl]) | rw [hr _ _ rfl rfl rfl]
        exact Steps.refl _)) (by decide) (by decide) ⟨by simp only [own_abs, hc1, if_true, if_false], N0, rfl⟩
theorem d1_0 : decode prog_32_method_12_code 0 = .ok (.lload_n 0, 1) := by decide +kernel
theorem d1_1 : decode prog_32_method_12_code 1 = .ok (.lload 4, 2) := by decide +kernel
theorem d1_3 : decode prog_32_method_12_code 3 = .ok (.lmul, 1) := by decide +kernel
theorem d1_4 : decode prog_32_method_12_code 4 = .ok (.lload_n 2, 1) := by decide +kernel
theorem d1_5 : decode prog_32_method_12_code 5 = .ok (.lload 6, 2) := by decide +kernel
theorem d1_7 : decode prog_32_method_12_code 7 = .ok (.lmul, 1) := by decide +kernel
theorem d1_8 : decode prog_32_method_12_code 8 = .ok (.ladd, 1) := by decide +kernel
theorem d1_9 : decode prog_32_method_12_code 9 = .ok (.lstore 8, 2) := by decide +kernel
theorem d1_11 : decode prog_32_method_12_code 11 = .ok (.lload 8, 2) := by decide +kernel
theorem d1_13 : decode prog_32_method_12_code 13 = .ok (.lconst 0, 1) := by decide +kernel
theorem d1_14 : decode prog_32_method_12_code 14 = .ok (.lcmp, 1) := by decide +kernel
theorem d1_15 : decode prog_32_method_12_code 15 = .ok (.ifCond .le 39, 3) := by decide +kernel
theorem d1_18 : decode prog_32_method_12_code 18 = .ok (.ldc2_w 210, 3) := by decide +kernel
theorem d1_21 : decode prog_32_method_12_code 21 = .ok (.lload 8, 2) := by decide +kernel
theorem d1_23 : decode prog_32_method_12_code 23 = .ok (.lmul, 1) := by decide +kernel
theorem d1_24 : decode prog_32_method_12_code 24 = .ok (.lload 8, 2) := by decide +kernel
theorem d1_26 : decode prog_32_method_12_code 26 = .ok (.lmul, 1) := by decide +kernel
theorem d1_27 : decode prog_32_method_12_code 27 = .ok (.lload_n 0, 1) := by decide +kernel
theorem d1_28 : decode prog_32_method_12_code 28 = .ok (.lload_n 0, 1) := by decide +kernel
theorem d1_29 : decode prog_32_method_12_code 29 = .ok (.lmul, 1) := by decide +kernel
theorem d1_30 : decode prog_32_method_12_code 30 = .ok (.lload_n 2, 1) := by decide +kernel
theorem d1_31 : decode prog_32_method_12_code 31 = .ok (.lload_n 2, 1) := by decide +kernel
theorem d1_32 : decode prog_32_method_12_code 32 = .ok (.lmul, 1) := by decide +kernel
theorem d1_33 : decode prog_32_method_12_code 33 = .ok (.ladd, 1) := by decide +kernel
theorem d1_34 : decode prog_32_method_12_code 34 = .ok (.lload 4, 2) := by decide +kernel
theorem d1_36 : decode prog_32_method_12_code 36 = .ok (.lload 4, 2) := by decide +kernel
theorem d1_38 : decode prog_32_method_12_code 38 = .ok (.lmul, 1) := by decide +kernel
theorem d1_39 : decode prog_32_method_12_code 39 = .ok (.lload 6, 2) := by decide +kernel
theorem d1_41 : decode prog_32_method_12_code 41 = .ok (.lload 6, 2) := by decide +kernel
theorem d1_43 : decode prog_32_method_12_code 43 = .ok (.lmul, 1) := by decide +kernel
theorem d1_44 : decode prog_32_method_12_code 44 = .ok (.ladd, 1) := by decide +kernel
theorem d1_45 : decode prog_32_method_12_code 45 = .ok (.lmul, 1) := by decide +kernel
theorem d1_46 : decode prog_32_method_12_code 46 = .ok (.lcmp, 1) := by decide +kernel
theorem d1_47 : decode prog_32_method_12_code 47 = .ok (.ifCond .lt 7, 3) := by decide +kernel
theorem d1_54 : decode prog_32_method_12_code 54 = .ok (.iconst 0, 1) := by decide +kernel
theorem d1_55 : decode prog_32_method_12_code 55 = .ok (.ireturn, 1) := by decide +kernel
theorem d1_50 : decode prog_32_method_12_code 50 = .ok (.iconst 1, 1) := by decide +kernel
theorem d1_51 : decode prog_32_method_12_code 51 = .ok (.goto 4, 3) := by decide +kernel
theorem pn_com_example_wanderpath_wanderpath_Winding : plainName "com/example/wanderpath/wanderpath/Winding" = true := by first | (simp [plainName, overriddenIn]; done) | decide +kernel
theorem ef_rm1 (m : MethodId) (a : Int64) (b : Int64) (c1 : Int64) (d : Int64) : entryFrame m #[(.long a), (.long b), (.long c1), (.long d)] 10 = mkF m 0 #[.val (.long a), .second, .val (.long b), .second, .val (.long c1), .second, .val (.long d), .second, .unset, .unset] [] := by first | (simp [entryFrame, mkF, argsToLocals, Value.category]; done) | rfl
def Q_rm1 (Z : State) (a : Int64) (b : Int64) (c1 : Int64) (d : Int64)  (h0 : Heap) (n0 : Nat) (v : Option Value) (h : Heap) (L : List Loc) : Prop := v = some (.int (own_gentle a b c1 d)) ∧ Fr n0 L ∧ h = h0
set_option maxRecDepth 65536 in
set_option maxHeartbeats 40000000 in
theorem rm1 (l : Launch) (Z : State) (a0 : Array Value) (hw : ∀ d ∈ tables_1, d.before a0 Z = true) (ws : List Jvm.Cond) (a : Int64) (b : Int64) (c1 : Int64) (d : Int64)  (h0 : Heap) (n0 : Nat) (Z0 : n0 ≤ h0.size)  :
    MetFree l (⟨"com/example/wanderpath/wanderpath/Winding", "isGentleTurn", "(JJJJ)Z"⟩ : MethodName) (head1 (Jvm.Cond.code (⟨"com/example/wanderpath/wanderpath/Winding", "isGentleTurn", "(JJJJ)Z"⟩ : MethodName) prog_32_method_12_code 10 (some .boolean) :: ws) ({ frames := 0, cells := 0, slots := 0, locals := 0 } : Room)) (fun aα Uα => aα = #[(.long a), (.long b), (.long c1), (.long d)] ∧ Z.Warmed39 Uα.vm ∧ Uα.heap = h0) (fun _ _ _ _ _ => True) (fun _ Uα oα Uβ => ∃ vα Lα, oα = .returned vα ∧ Q_rm1 Z a b c1 d  h0 n0 vα Uβ.heap Lα ∧ FrameEnd Uα oα Uβ Lα ({ frames := 0, cells := 0, slots := 0, locals := 0 } : Room).cells ({ frames := 0, cells := 0, slots := 0, locals := 0 } : Room).slots) := by
  refine MetFree.of_bodySF (plainFor_of_name pn_com_example_wanderpath_wanderpath_Winding) hisR ?_
  intro p e s m args below meth c s₁ Bd hml0 hP hK
  obtain ⟨rfl, hZ, hh⟩ := hP
  have hx := Bd.exec
  have hby := Bd.bytes
  have hml : c.maxLocals = 10 := hml0
  have hown : s.vm.findClass "com/example/wanderpath/wanderpath/Winding" = some m.cls := findClass_of_methodNamed Bd.named
  have hnm := (name_of_methodNamed Bd.named Bd.method).1
  have X0 : Stand p l e ({ frames := 0, cells := 0, slots := 0, locals := 0 } : Room) s m #[(.long a), (.long b), (.long c1), (.long d)] below meth c s₁ [] 0 0 := Stand.of_body Bd
  have e0 : s₁.heap = h0 := by rw [← hh, Bd.state]; rfl
  have N0 := Fr.nil n0
  suffices k0 : Gl p e below s (Q_rm1 Z a b c1 d  h0 n0) ({ frames := 0, cells := 0, slots := 0, locals := 0 } : Room).cells ({ frames := 0, cells := 0, slots := 0, locals := 0 } : Room).slots s₁ (mkF m 0 #[.val (.long a), .second, .val (.long b), .second, .val (.long c1), .second, .val (.long d), .second, .unset, .unset] []) from Gl.st (fun t k => castTop (ef_rm1 m a b c1 d) k) k0
  refine Gl.st (g' := (mkF m 1 #[.val (.long a), .second, .val (.long b), .second, .val (.long c1), .second, .val (.long d), .second, .unset, .unset] [(.long a)])) (fun τ κ => XS.lloadN X0.here hx rfl (hb hby d1_0) rfl κ) ?_
  refine Gl.st (g' := (mkF m 3 #[.val (.long a), .second, .val (.long b), .second, .val (.long c1), .second, .val (.long d), .second, .unset, .unset] [(.long c1), (.long a)])) (fun τ κ => XS.lload X0.here hx rfl (hb hby d1_1) rfl κ) ?_
  refine Gl.st (g' := (mkF m 4 #[.val (.long a), .second, .val (.long b), .second, .val (.long c1), .second, .val (.long d), .second, .unset, .unset] [(.long (a * c1))])) (fun τ κ => XS.lmul X0.here hx rfl (hb hby d1_3) rfl κ) ?_
  refine Gl.st (g' := (mkF m 5 #[.val (.long a), .second, .val (.long b), .second, .val (.long c1), .second, .val (.long d), .second, .unset, .unset] [(.long b), (.long (a * c1))])) (fun τ κ => XS.lloadN X0.here hx rfl (hb hby d1_4) rfl κ) ?_
  refine Gl.st (g' := (mkF m 7 #[.val (.long a), .second, .val (.long b), .second, .val (.long c1), .second, .val (.long d), .second, .unset, .unset] [(.long d), (.long b), (.long (a * c1))])) (fun τ κ => XS.lload X0.here hx rfl (hb hby d1_5) rfl κ) ?_
  refine Gl.st (g' := (mkF m 8 #[.val (.long a), .second, .val (.long b), .second, .val (.long c1), .second, .val (.long d), .second, .unset, .unset] [(.long (b * d)), (.long (a * c1))])) (fun τ κ => XS.lmul X0.here hx rfl (hb hby d1_7) rfl κ) ?_
  refine Gl.st (g' := (mkF m 9 #[.val (.long a), .second, .val (.long b), .second, .val (.long c1), .second, .val (.long d), .second, .unset, .unset] [(.long ((a * c1) + (b * d)))])) (fun τ κ => XS.ladd X0.here hx rfl (hb hby d1_8) rfl κ) ?_
  refine Gl.st (g' := (mkF m 11 #[.val (.long a), .second, .val (.long b), .second, .val (.long c1), .second, .val (.long d), .second, .val (.long ((a * c1) + (b * d))), .second] [])) (fun τ κ => XS.lstore X0.here hx rfl (hb hby d1_9) rfl (l' := #[.val (.long a), .second, .val (.long b), .second, .val (.long c1), .second, .val (.long d), .second, .val (.long ((a * c1) + (b * d))), .second]) rfl κ) ?_
  refine Gl.st (g' := (mkF m 13 #[.val (.long a), .second, .val (.long b), .second, .val (.long c1), .second, .val (.long d), .second, .val (.long ((a * c1) + (b * d))), .second] [(.long ((a * c1) + (b * d)))])) (fun τ κ => XS.lload X0.here hx rfl (hb hby d1_11) rfl κ) ?_
  refine Gl.st (g' := (mkF m 14 #[.val (.long a), .second, .val (.long b), .second, .val (.long c1), .second, .val (.long d), .second, .val (.long ((a * c1) + (b * d))), .second] [(.long (0 : Int64)), (.long ((a * c1) + (b * d)))])) (fun τ κ => XS.lconst X0.here hx rfl (hb hby d1_13) κ) ?_
  refine Gl.st (g' := (mkF m 15 #[.val (.long a), .second, .val (.long b), .second, .val (.long c1), .second, .val (.long d), .second, .val (.long ((a * c1) + (b * d))), .second] [(.int (lcmpW ((a * c1) + (b * d)) (0 : Int64)))])) (fun τ κ => XS.lcmp X0.here hx rfl (hb hby d1_14) rfl κ) ?_
  by_cases hc2 : (0 : Int64) < ((a * c1) + (b * d))
  · -- pc 15: (0 : Int64) < ((a * c1) + (b * d))
    refine Gl.st (g' := (mkF m 18 #[.val (.long a), .second, .val (.long b), .second, .val (.long c1), .second, .val (.long d), .second, .val (.long ((a * c1) + (b * d))), .second] [])) (fun τ κ => XS.ifNo X0.here hx rfl (hb hby d1_15) rfl ((if0 _ _).trans (tlt ((lw_gt ((a * c1) + (b * d)) (0 : Int64)).mpr hc2)).2.2.2) κ) ?_
    refine Gl.st (g' := (mkF m 21 #[.val (.long a), .second, .val (.long b), .second, .val (.long c1), .second, .val (.long d), .second, .val (.long ((a * c1) + (b * d))), .second] [(.long (2 : Int64))])) (fun τ κ => X0.ldc2Long hx hown (mvT hZ (hw _ (List.mem_of_getElem? (i := 9) rfl))) (g := (mkF m 18 #[.val (.long a), .second, .val (.long b), .second, .val (.long c1), .second, .val (.long d), .second, .val (.long ((a * c1) + (b * d))), .second] [])) rfl (hb hby d1_18) _ κ) ?_
    refine Gl.st (g' := (mkF m 23 #[.val (.long a), .second, .val (.long b), .second, .val (.long c1), .second, .val (.long d), .second, .val (.long ((a * c1) + (b * d))), .second] [(.long ((a * c1) + (b * d))), (.long (2 : Int64))])) (fun τ κ => XS.lload X0.here hx rfl (hb hby d1_21) rfl κ) ?_
    refine Gl.st (g' := (mkF m 24 #[.val (.long a), .second, .val (.long b), .second, .val (.long c1), .second, .val (.long d), .second, .val (.long ((a * c1) + (b * d))), .second] [(.long ((2 : Int64) * ((a * c1) + (b * d))))])) (fun τ κ => XS.lmul X0.here hx rfl (hb hby d1_23) rfl κ) ?_
    refine Gl.st (g' := (mkF m 26 #[.val (.long a), .second, .val (.long b), .second, .val (.long c1), .second, .val (.long d), .second, .val (.long ((a * c1) + (b * d))), .second] [(.long ((a * c1) + (b * d))), (.long ((2 : Int64) * ((a * c1) + (b * d))))])) (fun τ κ => XS.lload X0.here hx rfl (hb hby d1_24) rfl κ) ?_
    refine Gl.st (g' := (mkF m 27 #[.val (.long a), .second, .val (.long b), .second, .val (.long c1), .second, .val (.long d), .second, .val (.long ((a * c1) + (b * d))), .second] [(.long (((2 : Int64) * ((a * c1) + (b * d))) * ((a * c1) + (b * d))))])) (fun τ κ => XS.lmul X0.here hx rfl (hb hby d1_26) rfl κ) ?_
    refine Gl.st (g' := (mkF m 28 #[.val (.long a), .second, .val (.long b), .second, .val (.long c1), .second, .val (.long d), .second, .val (.long ((a * c1) + (b * d))), .second] [(.long a), (.long (((2 : Int64) * ((a * c1) + (b * d))) * ((a * c1) + (b * d))))])) (fun τ κ => XS.lloadN X0.here hx rfl (hb hby d1_27) rfl κ) ?_
    refine Gl.st (g' := (mkF m 29 #[.val (.long a), .second, .val (.long b), .second, .val (.long c1), .second, .val (.long d), .second, .val (.long ((a * c1) + (b * d))), .second] [(.long a), (.long a), (.long (((2 : Int64) * ((a * c1) + (b * d))) * ((a * c1) + (b * d))))])) (fun τ κ => XS.lloadN X0.here hx rfl (hb hby d1_28) rfl κ) ?_
    refine Gl.st (g' := (mkF m 30 #[.val (.long a), .second, .val (.long b), .second, .val (.long c1), .second, .val (.long d), .second, .val (.long ((a * c1) + (b * d))), .second] [(.long (a * a)), (.long (((2 : Int64) * ((a * c1) + (b * d))) * ((a * c1) + (b * d))))])) (fun τ κ => XS.lmul X0.here hx rfl (hb hby d1_29) rfl κ) ?_
    refine Gl.st (g' := (mkF m 31 #[.val (.long a), .second, .val (.long b), .second, .val (.long c1), .second, .val (.long d), .second, .val (.long ((a * c1) + (b * d))), .second] [(.long b), (.long (a * a)), (.long (((2 : Int64) * ((a * c1) + (b * d))) * ((a * c1) + (b * d))))])) (fun τ κ => XS.lloadN X0.here hx rfl (hb hby d1_30) rfl κ) ?_
    refine Gl.st (g' := (mkF m 32 #[.val (.long a), .second, .val (.long b), .second, .val (.long c1), .second, .val (.long d), .second, .val (.long ((a * c1) + (b * d))), .second] [(.long b), (.long b), (.long (a * a)), (.long (((2 : Int64) * ((a * c1) + (b * d))) * ((a * c1) + (b * d))))])) (fun τ κ => XS.lloadN X0.here hx rfl (hb hby d1_31) rfl κ) ?_
    refine Gl.st (g' := (mkF m 33 #[.val (.long a), .second, .val (.long b), .second, .val (.long c1), .second, .val (.long d), .second, .val (.long ((a * c1) + (b * d))), .second] [(.long (b * b)), (.long (a * a)), (.long (((2 : Int64) * ((a * c1) + (b * d))) * ((a * c1) + (b * d))))])) (fun τ κ => XS.lmul X0.here hx rfl (hb hby d1_32) rfl κ) ?_
    refine Gl.st (g' := (mkF m 34 #[.val (.long a), .second, .val (.long b), .second, .val (.long c1), .second, .val (.long d), .second, .val (.long ((a * c1) + (b * d))), .second] [(.long ((a * a) + (b * b))), (.long (((2 : Int64) * ((a * c1) + (b * d))) * ((a * c1) + (b * d))))])) (fun τ κ => XS.ladd X0.here hx rfl (hb hby d1_33) rfl κ) ?_
    refine Gl.st (g' := (mkF m 36 #[.val (.long a), .second, .val (.long b), .second, .val (.long c1), .second, .val (.long d), .second, .val (.long ((a * c1) + (b * d))), .second] [(.long c1), (.long ((a * a) + (b * b))), (.long (((2 : Int64) * ((a * c1) + (b * d))) * ((a * c1) + (b * d))))])) (fun τ κ => XS.lload X0.here hx rfl (hb hby d1_34) rfl κ) ?_
    refine Gl.st (g' := (mkF m 38 #[.val (.long a), .second, .val (.long b), .second, .val (.long c1), .second, .val (.long d), .second, .val (.long ((a * c1) + (b * d))), .second] [(.long c1), (.long c1), (.long ((a * a) + (b * b))), (.long (((2 : Int64) * ((a * c1) + (b * d))) * ((a * c1) + (b * d))))])) (fun τ κ => XS.lload X0.here hx rfl (hb hby d1_36) rfl κ) ?_
    refine Gl.st (g' := (mkF m 39 #[.val (.long a), .second, .val (.long b), .second, .val (.long c1), .second, .val (.long d), .second, .val (.long ((a * c1) + (b * d))), .second] [(.long (c1 * c1)), (.long ((a * a) + (b * b))), (.long (((2 : Int64) * ((a * c1) + (b * d))) * ((a * c1) + (b * d))))])) (fun τ κ => XS.lmul X0.here hx rfl (hb hby d1_38) rfl κ) ?_
    refine Gl.st (g' := (mkF m 41 #[.val (.long a), .second, .val (.long b), .second, .val (.long c1), .second, .val (.long d), .second, .val (.long ((a * c1) + (b * d))), .second] [(.long d), (.long (c1 * c1)), (.long ((a * a) + (b * b))), (.long (((2 : Int64) * ((a * c1) + (b * d))) * ((a * c1) + (b * d))))])) (fun τ κ => XS.lload X0.here hx rfl (hb hby d1_39) rfl κ) ?_
    refine Gl.st (g' := (mkF m 43 #[.val (.long a), .second, .val (.long b), .second, .val (.long c1), .second, .val (.long d), .second, .val (.long ((a * c1) + (b * d))), .second] [(.long d), (.long d), (.long (c1 * c1)), (.long ((a * a) + (b * b))), (.long (((2 : Int64) * ((a * c1) + (b * d))) * ((a * c1) + (b * d))))])) (fun τ κ => XS.lload X0.here hx rfl (hb hby d1_41) rfl κ) ?_
    refine Gl.st (g' := (mkF m 44 #[.val (.long a), .second, .val (.long b), .second, .val (.long c1), .second, .val (.long d), .second, .val (.long ((a * c1) + (b * d))), .second] [(.long (d * d)), (.long (c1 * c1)), (.long ((a * a) + (b * b))), (.long (((2 : Int64) * ((a * c1) + (b * d))) * ((a * c1) + (b * d))))])) (fun τ κ => XS.lmul X0.here hx rfl (hb hby d1_43) rfl κ) ?_
    refine Gl.st (g' := (mkF m 45 #[.val (.long a), .second, .val (.long b), .second, .val (.long c1), .second, .val (.long d), .second, .val (.long ((a * c1) + (b * d))), .second] [(.long ((c1 * c1) + (d * d))), (.long ((a * a) + (b * b))), (.long (((2 : Int64) * ((a * c1) + (b * d))) * ((a * c1) + (b * d))))])) (fun τ κ => XS.ladd X0.here hx rfl (hb hby d1_44) rfl κ) ?_
    refine Gl.st (g' := (mkF m 46 #[.val (.long a), .second, .val (.long b), .second, .val (.long c1), .second, .val (.long d), .second, .val (.long ((a * c1) + (b * d))), .second] [(.long (((a * a) + (b * b)) * ((c1 * c1) + (d * d)))), (.long (((2 : Int64) * ((a * c1) + (b * d))) * ((a * c1) + (b * d))))])) (fun τ κ => XS.lmul X0.here hx rfl (hb hby d1_45) rfl κ) ?_
    refine Gl.st (g' := (mkF m 47 #[.val (.long a), .second, .val (.long b), .second, .val (.long c1), .second, .val (.long d), .second, .val (.long ((a * c1) + (b * d))), .second] [(.int (lcmpW (((2 : Int64) * ((a * c1) + (b * d))) * ((a * c1) + (b * d))) (((a * a) + (b * b)) * ((c1 * c1) + (d * d)))))])) (fun τ κ => XS.lcmp X0.here hx rfl (hb hby d1_46) rfl κ) ?_
    by_cases hc3 : (((2 : Int64) * ((a * c1) + (b * d))) * ((a * c1) + (b * d))) < (((a * a) + (b * b)) * ((c1 * c1) + (d * d)))
    · -- pc 47: (((2 : Int64) * ((a * c1) + (b * d))) * ((a * c1) + (b * d))) < (((a * a) + (b * b)) * ((c1 * c1) + (d * d)))
      refine Gl.st (g' := (mkF m 54 #[.val (.long a), .second, .val (.long b), .second, .val (.long c1), .second, .val (.long d), .second, .val (.long ((a * c1) + (b * d))), .second] [])) (fun τ κ => XS.ifYes X0.here hx rfl (pc0 := 47) (pc' := 54) rfl (hb hby d1_47) rfl ((if0 _ _).trans (tlt ((lw_lt (((2 : Int64) * ((a * c1) + (b * d))) * ((a * c1) + (b * d))) (((a * a) + (b * b)) * ((c1 * c1) + (d * d)))).mpr hc3)).1) (by decide) (by decide) κ) ?_
      refine Gl.st (g' := (mkF m 55 #[.val (.long a), .second, .val (.long b), .second, .val (.long c1), .second, .val (.long d), .second, .val (.long ((a * c1) + (b * d))), .second] [(.int (0 : Int32))])) (fun τ κ => XS.iconst X0.here hx rfl (hb hby d1_54) κ) ?_
      exact Gl.ret (v := some (.int (0 : Int32))) X0 Bd.notSynchronized (fun h => by rw [Bd.returns] at h; cases h) e0 (fun fs hr => retN X0 hx (t := .boolean) Bd.returns (by simp) (hb hby d1_55) hr) (by decide) (by decide) ⟨by simp only [own_gentle, hc2, hc3, if_true, if_false], N0, rfl⟩
    · -- pc 47: not (((2 : Int64) * ((a * c1) + (b * d))) * ((a * c1) + (b * d))) < (((a * a) + (b * b)) * ((c1 * c1) + (d * d)))
      refine Gl.st (g' := (mkF m 50 #[.val (.long a), .second, .val (.long b), .second, .val (.long c1), .second, .val (.long d), .second, .val (.long ((a * c1) + (b * d))), .second] [])) (fun τ κ => XS.ifNo X0.here hx rfl (hb hby d1_47) rfl ((if0 _ _).trans (flt (mt (lw_lt (((2 : Int64) * ((a * c1) + (b * d))) * ((a * c1) + (b * d))) (((a * a) + (b * b)) * ((c1 * c1) + (d * d)))).mp hc3)).1) κ) ?_
      refine Gl.st (g' := (mkF m 51 #[.val (.long a), .second, .val (.long b), .second, .val (.long c1), .second, .val (.long d), .second, .val (.long ((a * c1) + (b * d))), .second] [(.int (1 : Int32))])) (fun τ κ => XS.iconst X0.here hx rfl (hb hby d1_50) κ) ?_
      refine Gl.st (g' := (mkF m 55 #[.val (.long a), .second, .val (.long b), .second, .val (.long c1), .second, .val (.long d), .second, .val (.long ((a * c1) + (b * d))), .second] [(.int (1 : Int32))])) (fun τ κ => XS.goto X0.here hx rfl (pc0 := 51) (pc' := 55) rfl (hb hby d1_51) (by decide) (by decide) κ) ?_
      exact Gl.ret (v := some (.int (1 : Int32))) X0 Bd.notSynchronized (fun h => by rw [Bd.returns] at h; cases h) e0 (fun fs hr => retN X0 hx (t := .boolean) Bd.returns (by simp) (hb hby d1_55) hr) (by decide) (by decide) ⟨by simp only [own_gentle, hc2, hc3, if_true, if_false], N0, rfl⟩
  · -- pc 15: not (0 : Int64) < ((a * c1) + (b * d))
    refine Gl.st (g' := (mkF m 54 #[.val (.long a), .second, .val (.long b), .second, .val (.long c1), .second, .val (.long d), .second, .val (.long ((a * c1) + (b * d))), .second] [])) (fun τ κ => XS.ifYes X0.here hx rfl (pc0 := 15) (pc' := 54) rfl (hb hby d1_15) rfl ((if0 _ _).trans (flt (mt (lw_gt ((a * c1) + (b * d)) (0 : Int64)).mp hc2)).2.2.2) (by decide) (by decide) κ) ?_
    refine Gl.st (g' := (mkF m 55 #[.val (.long a), .second, .val (.long b), .second, .val (.long c1), .second, .val (.long d), .second, .val (.long ((a * c1) + (b * d))), .second] [(.int (0 : Int32))])) (fun τ κ => XS.iconst X0.here hx rfl (hb hby d1_54) κ) ?_
    exact Gl.ret (v := some (.int (0 : Int32))) X0 Bd.notSynchronized (fun h => by rw [Bd.returns] at h; cases h) e0 (fun fs hr => retN X0 hx (t := .boolean) Bd.returns (by simp) (hb hby d1_55) hr) (by decide) (by decide) ⟨by simp only [own_gentle, hc2, if_true, if_false], N0, rfl⟩
theorem pd_0 : parseMethodDescriptor "(J)J" = some ⟨[.long], some .long⟩ := by decide +kernel
theorem pd_1 : parseMethodDescriptor "(JJJJ)Z" = some ⟨[.long, .long, .long, .long], some .boolean⟩ := by decide +kernel
theorem pn_com_example_wanderpath_wanderpath_WindingIsGentleTurnPinLaw : plainName "com/example/wanderpath/wanderpath/WindingIsGentleTurnPinLaw" = true := by first | (simp [plainName, overriddenIn]; done) | decide +kernel
theorem ef_rm0 (m : MethodId) (p0 : Int64) (p1 : Int64) (p2 : Int64) (p3 : Int64) : entryFrame m #[(.long p0), (.long p1), (.long p2), (.long p3)] maxLocals = mkF m 0 #[.val (.long p0), .second, .val (.long p1), .second, .val (.long p2), .second, .val (.long p3), .second, .unset, .unset, .unset, .unset, .unset, .unset, .unset, .unset, .unset, .unset, .unset, .unset, .unset] [] := by first | (simp [entryFrame, mkF, argsToLocals, Value.category, maxLocals]; done) | rfl
def Q_rm0 (Z : State) (p0 : Int64) (p1 : Int64) (p2 : Int64) (p3 : Int64)  (h0 : Heap) (n0 : Nat) (v : Option Value) (h : Heap) (L : List Loc) : Prop := v = some (.int 1) ∧ Fr n0 L
set_option maxRecDepth 65536 in
set_option maxHeartbeats 40000000 in
theorem rm0 (l : Launch) (Z : State) (a0 : Array Value) (hw : ∀ d ∈ tables_1, d.before a0 Z = true) (ws : List Jvm.Cond) (p0 : Int64) (p1 : Int64) (p2 : Int64) (p3 : Int64)  (h0 : Heap) (n0 : Nat) (Z0 : n0 ≤ h0.size)  :
    MetFree l x (head1 (Jvm.Cond.code x code maxLocals ret :: ws) room_1) (fun aα Uα => aα = #[(.long p0), (.long p1), (.long p2), (.long p3)] ∧ Z.Warmed39 Uα.vm ∧ Uα.heap = h0) (fun _ _ _ _ _ => True) (fun _ Uα oα Uβ => ∃ vα Lα, oα = .returned vα ∧ Q_rm0 Z p0 p1 p2 p3  h0 n0 vα Uβ.heap Lα ∧ FrameEnd Uα oα Uβ Lα 0 0) := by
  refine MetFree.of_bodySF (plainFor_of_name pn_com_example_wanderpath_wanderpath_WindingIsGentleTurnPinLaw) hisR ?_
  intro p e s m args below meth c s₁ Bd hml0 hP hK
  obtain ⟨rfl, hZ, hh⟩ := hP
  have hx := Bd.exec
  have hby := Bd.bytes
  have hml : c.maxLocals = 21 := hml0
  have hown : s.vm.findClass "com/example/wanderpath/wanderpath/WindingIsGentleTurnPinLaw" = some m.cls := findClass_of_methodNamed Bd.named
  have hnm := (name_of_methodNamed Bd.named Bd.method).1
  have X0 : Stand p l e room_1 s m #[(.long p0), (.long p1), (.long p2), (.long p3)] below meth c s₁ [] 0 0 := Stand.of_body Bd
  have e0 : s₁.heap = h0 := by rw [← hh, Bd.state]; rfl
  have N0 := Fr.nil n0
  suffices k0 : Gl p e below s (Q_rm0 Z p0 p1 p2 p3  h0 n0) 0 0 s₁ (mkF m 0 #[.val (.long p0), .second, .val (.long p1), .second, .val (.long p2), .second, .val (.long p3), .second, .unset, .unset, .unset, .unset, .unset, .unset, .unset, .unset, .unset, .unset, .unset, .unset, .unset] []) from Gl.st (fun t k => castTop (ef_rm0 m p0 p1 p2 p3) k) k0
  refine Gl.st (g' := (mkF m 1 #[.val (.long p0), .second, .val (.long p1), .second, .val (.long p2), .second, .val (.long p3), .second, .unset, .unset, .unset, .unset, .unset, .unset, .unset, .unset, .unset, .unset, .unset, .unset, .unset] [(.long p0)])) (fun τ κ => XS.lloadN X0.here hx rfl (hb hby at_0) rfl κ) ?_
  refine Gl.st (g' := (mkF m 4 #[.val (.long p0), .second, .val (.long p1), .second, .val (.long p2), .second, .val (.long p3), .second, .unset, .unset, .unset, .unset, .unset, .unset, .unset, .unset, .unset, .unset, .unset, .unset, .unset] [(.long (32768 : Int64)), (.long p0)])) (fun τ κ => X0.ldc2Long hx hown (mvT hZ (hw _ (List.mem_of_getElem? (i := 0) rfl))) (g := (mkF m 1 #[.val (.long p0), .second, .val (.long p1), .second, .val (.long p2), .second, .val (.long p3), .second, .unset, .unset, .unset, .unset, .unset, .unset, .unset, .unset, .unset, .unset, .unset, .unset, .unset] [(.long p0)])) rfl (hb hby at_1) _ κ) ?_
  refine Gl.st (g' := (mkF m 5 #[.val (.long p0), .second, .val (.long p1), .second, .val (.long p2), .second, .val (.long p3), .second, .unset, .unset, .unset, .unset, .unset, .unset, .unset, .unset, .unset, .unset, .unset, .unset, .unset] [(.long (p0 - (p0 / (32768 : Int64)) * (32768 : Int64)))])) (fun τ κ => XS.lrem X0.here hx rfl (hb hby at_4) rfl (by decide) κ) ?_
  have hua := own_rem p0
  generalize (p0 - (p0 / (32768 : Int64)) * (32768 : Int64)) = ua at hua ⊢
  refine Gl.st (g' := (mkF m 7 #[.val (.long p0), .second, .val (.long p1), .second, .val (.long p2), .second, .val (.long p3), .second, .val (.long ua), .second, .unset, .unset, .unset, .unset, .unset, .unset, .unset, .unset, .unset, .unset, .unset] [])) (fun τ κ => XS.lstore X0.here hx rfl (hb hby at_5) rfl (l' := #[.val (.long p0), .second, .val (.long p1), .second, .val (.long p2), .second, .val (.long p3), .second, .val (.long ua), .second, .unset, .unset, .unset, .unset, .unset, .unset, .unset, .unset, .unset, .unset, .unset]) rfl κ) ?_
  refine Gl.st (g' := (mkF m 8 #[.val (.long p0), .second, .val (.long p1), .second, .val (.long p2), .second, .val (.long p3), .second, .val (.long ua), .second, .unset, .unset, .unset, .unset, .unset, .unset, .unset, .unset, .unset, .unset, .unset] [(.long p1)])) (fun τ κ => XS.lloadN X0.here hx rfl (hb hby at_7) rfl κ) ?_
  refine Gl.st (g' := (mkF m 11 #[.val (.long p0), .second, .val (.long p1), .second, .val (.long p2), .second, .val (.long p3), .second, .val (.long ua), .second, .unset, .unset, .unset, .unset, .unset, .unset, .unset, .unset, .unset, .unset, .unset] [(.long (32768 : Int64)), (.long p1)])) (fun τ κ => X0.ldc2Long hx hown (mvT hZ (hw _ (List.mem_of_getElem? (i := 0) rfl))) (g := (mkF m 8 #[.val (.long p0), .second, .val (.long p1), .second, .val (.long p2), .second, .val (.long p3), .second, .val (.long ua), .second, .unset, .unset, .unset, .unset, .unset, .unset, .unset, .unset, .unset, .unset, .unset] [(.long p1)])) rfl (hb hby at_8) _ κ) ?_
  refine Gl.st (g' := (mkF m 12 #[.val (.long p0), .second, .val (.long p1), .second, .val (.long p2), .second, .val (.long p3), .second, .val (.long ua), .second, .unset, .unset, .unset, .unset, .unset, .unset, .unset, .unset, .unset, .unset, .unset] [(.long (p1 - (p1 / (32768 : Int64)) * (32768 : Int64)))])) (fun τ κ => XS.lrem X0.here hx rfl (hb hby at_11) rfl (by decide) κ) ?_
  have hub := own_rem p1
  generalize (p1 - (p1 / (32768 : Int64)) * (32768 : Int64)) = ub at hub ⊢
  refine Gl.st (g' := (mkF m 14 #[.val (.long p0), .second, .val (.long p1), .second, .val (.long p2), .second, .val (.long p3), .second, .val (.long ua), .second, .val (.long ub), .second, .unset, .unset, .unset, .unset, .unset, .unset, .unset, .unset, .unset] [])) (fun τ κ => XS.lstore X0.here hx rfl (hb hby at_12) rfl (l' := #[.val (.long p0), .second, .val (.long p1), .second, .val (.long p2), .second, .val (.long p3), .second, .val (.long ua), .second, .val (.long ub), .second, .unset, .unset, .unset, .unset, .unset, .unset, .unset, .unset, .unset]) rfl κ) ?_
  refine Gl.st (g' := (mkF m 16 #[.val (.long p0), .second, .val (.long p1), .second, .val (.long p2), .second, .val (.long p3), .second, .val (.long ua), .second, .val (.long ub), .second, .unset, .unset, .unset, .unset, .unset, .unset, .unset, .unset, .unset] [(.long p2)])) (fun τ κ => XS.lload X0.here hx rfl (hb hby at_14) rfl κ) ?_
  refine Gl.st (g' := (mkF m 19 #[.val (.long p0), .second, .val (.long p1), .second, .val (.long p2), .second, .val (.long p3), .second, .val (.long ua), .second, .val (.long ub), .second, .unset, .unset, .unset, .unset, .unset, .unset, .unset, .unset, .unset] [(.long (32768 : Int64)), (.long p2)])) (fun τ κ => X0.ldc2Long hx hown (mvT hZ (hw _ (List.mem_of_getElem? (i := 0) rfl))) (g := (mkF m 16 #[.val (.long p0), .second, .val (.long p1), .second, .val (.long p2), .second, .val (.long p3), .second, .val (.long ua), .second, .val (.long ub), .second, .unset, .unset, .unset, .unset, .unset, .unset, .unset, .unset, .unset] [(.long p2)])) rfl (hb hby at_16) _ κ) ?_
  refine Gl.st (g' := (mkF m 20 #[.val (.long p0), .second, .val (.long p1), .second, .val (.long p2), .second, .val (.long p3), .second, .val (.long ua), .second, .val (.long ub), .second, .unset, .unset, .unset, .unset, .unset, .unset, .unset, .unset, .unset] [(.long (p2 - (p2 / (32768 : Int64)) * (32768 : Int64)))])) (fun τ κ => XS.lrem X0.here hx rfl (hb hby at_19) rfl (by decide) κ) ?_
  have huc := own_rem p2
  generalize (p2 - (p2 / (32768 : Int64)) * (32768 : Int64)) = uc at huc ⊢
  refine Gl.st (g' := (mkF m 22 #[.val (.long p0), .second, .val (.long p1), .second, .val (.long p2), .second, .val (.long p3), .second, .val (.long ua), .second, .val (.long ub), .second, .val (.long uc), .second, .unset, .unset, .unset, .unset, .unset, .unset, .unset] [])) (fun τ κ => XS.lstore X0.here hx rfl (hb hby at_20) rfl (l' := #[.val (.long p0), .second, .val (.long p1), .second, .val (.long p2), .second, .val (.long p3), .second, .val (.long ua), .second, .val (.long ub), .second, .val (.long uc), .second, .unset, .unset, .unset, .unset, .unset, .unset, .unset]) rfl κ) ?_
  refine Gl.st (g' := (mkF m 24 #[.val (.long p0), .second, .val (.long p1), .second, .val (.long p2), .second, .val (.long p3), .second, .val (.long ua), .second, .val (.long ub), .second, .val (.long uc), .second, .unset, .unset, .unset, .unset, .unset, .unset, .unset] [(.long p3)])) (fun τ κ => XS.lload X0.here hx rfl (hb hby at_22) rfl κ) ?_
  refine Gl.st (g' := (mkF m 27 #[.val (.long p0), .second, .val (.long p1), .second, .val (.long p2), .second, .val (.long p3), .second, .val (.long ua), .second, .val (.long ub), .second, .val (.long uc), .second, .unset, .unset, .unset, .unset, .unset, .unset, .unset] [(.long (32768 : Int64)), (.long p3)])) (fun τ κ => X0.ldc2Long hx hown (mvT hZ (hw _ (List.mem_of_getElem? (i := 0) rfl))) (g := (mkF m 24 #[.val (.long p0), .second, .val (.long p1), .second, .val (.long p2), .second, .val (.long p3), .second, .val (.long ua), .second, .val (.long ub), .second, .val (.long uc), .second, .unset, .unset, .unset, .unset, .unset, .unset, .unset] [(.long p3)])) rfl (hb hby at_24) _ κ) ?_
  refine Gl.st (g' := (mkF m 28 #[.val (.long p0), .second, .val (.long p1), .second, .val (.long p2), .second, .val (.long p3), .second, .val (.long ua), .second, .val (.long ub), .second, .val (.long uc), .second, .unset, .unset, .unset, .unset, .unset, .unset, .unset] [(.long (p3 - (p3 / (32768 : Int64)) * (32768 : Int64)))])) (fun τ κ => XS.lrem X0.here hx rfl (hb hby at_27) rfl (by decide) κ) ?_
  have hud := own_rem p3
  generalize (p3 - (p3 / (32768 : Int64)) * (32768 : Int64)) = ud at hud ⊢
  refine Gl.st (g' := (mkF m 30 #[.val (.long p0), .second, .val (.long p1), .second, .val (.long p2), .second, .val (.long p3), .second, .val (.long ua), .second, .val (.long ub), .second, .val (.long uc), .second, .val (.long ud), .second, .unset, .unset, .unset, .unset, .unset] [])) (fun τ κ => XS.lstore X0.here hx rfl (hb hby at_28) rfl (l' := #[.val (.long p0), .second, .val (.long p1), .second, .val (.long p2), .second, .val (.long p3), .second, .val (.long ua), .second, .val (.long ub), .second, .val (.long uc), .second, .val (.long ud), .second, .unset, .unset, .unset, .unset, .unset]) rfl κ) ?_
  refine Gl.st (g' := (mkF m 32 #[.val (.long p0), .second, .val (.long p1), .second, .val (.long p2), .second, .val (.long p3), .second, .val (.long ua), .second, .val (.long ub), .second, .val (.long uc), .second, .val (.long ud), .second, .unset, .unset, .unset, .unset, .unset] [(.long ua)])) (fun τ κ => XS.lload X0.here hx rfl (hb hby at_30) rfl κ) ?_
  refine Gl.st (g' := (mkF m 34 #[.val (.long p0), .second, .val (.long p1), .second, .val (.long p2), .second, .val (.long p3), .second, .val (.long ua), .second, .val (.long ub), .second, .val (.long uc), .second, .val (.long ud), .second, .unset, .unset, .unset, .unset, .unset] [(.long uc), (.long ua)])) (fun τ κ => XS.lload X0.here hx rfl (hb hby at_32) rfl κ) ?_
  refine Gl.st (g' := (mkF m 35 #[.val (.long p0), .second, .val (.long p1), .second, .val (.long p2), .second, .val (.long p3), .second, .val (.long ua), .second, .val (.long ub), .second, .val (.long uc), .second, .val (.long ud), .second, .unset, .unset, .unset, .unset, .unset] [(.long (ua * uc))])) (fun τ κ => XS.lmul X0.here hx rfl (hb hby at_34) rfl κ) ?_
  refine Gl.st (g' := (mkF m 37 #[.val (.long p0), .second, .val (.long p1), .second, .val (.long p2), .second, .val (.long p3), .second, .val (.long ua), .second, .val (.long ub), .second, .val (.long uc), .second, .val (.long ud), .second, .unset, .unset, .unset, .unset, .unset] [(.long ub), (.long (ua * uc))])) (fun τ κ => XS.lload X0.here hx rfl (hb hby at_35) rfl κ) ?_
  refine Gl.st (g' := (mkF m 39 #[.val (.long p0), .second, .val (.long p1), .second, .val (.long p2), .second, .val (.long p3), .second, .val (.long ua), .second, .val (.long ub), .second, .val (.long uc), .second, .val (.long ud), .second, .unset, .unset, .unset, .unset, .unset] [(.long ud), (.long ub), (.long (ua * uc))])) (fun τ κ => XS.lload X0.here hx rfl (hb hby at_37) rfl κ) ?_
  refine Gl.st (g' := (mkF m 40 #[.val (.long p0), .second, .val (.long p1), .second, .val (.long p2), .second, .val (.long p3), .second, .val (.long ua), .second, .val (.long ub), .second, .val (.long uc), .second, .val (.long ud), .second, .unset, .unset, .unset, .unset, .unset] [(.long (ub * ud)), (.long (ua * uc))])) (fun τ κ => XS.lmul X0.here hx rfl (hb hby at_39) rfl κ) ?_
  refine Gl.st (g' := (mkF m 41 #[.val (.long p0), .second, .val (.long p1), .second, .val (.long p2), .second, .val (.long p3), .second, .val (.long ua), .second, .val (.long ub), .second, .val (.long uc), .second, .val (.long ud), .second, .unset, .unset, .unset, .unset, .unset] [(.long ((ua * uc) + (ub * ud)))])) (fun τ κ => XS.ladd X0.here hx rfl (hb hby at_40) rfl κ) ?_
  refine Gl.st (g' := (mkF m 43 #[.val (.long p0), .second, .val (.long p1), .second, .val (.long p2), .second, .val (.long p3), .second, .val (.long ua), .second, .val (.long ub), .second, .val (.long uc), .second, .val (.long ud), .second, .val (.long ((ua * uc) + (ub * ud))), .second, .unset, .unset, .unset] [])) (fun τ κ => XS.lstore X0.here hx rfl (hb hby at_41) rfl (l' := #[.val (.long p0), .second, .val (.long p1), .second, .val (.long p2), .second, .val (.long p3), .second, .val (.long ua), .second, .val (.long ub), .second, .val (.long uc), .second, .val (.long ud), .second, .val (.long ((ua * uc) + (ub * ud))), .second, .unset, .unset, .unset]) rfl κ) ?_
  refine Gl.st (g' := (mkF m 45 #[.val (.long p0), .second, .val (.long p1), .second, .val (.long p2), .second, .val (.long p3), .second, .val (.long ua), .second, .val (.long ub), .second, .val (.long uc), .second, .val (.long ud), .second, .val (.long ((ua * uc) + (ub * ud))), .second, .unset, .unset, .unset] [(.long ua)])) (fun τ κ => XS.lload X0.here hx rfl (hb hby at_43) rfl κ) ?_
  refine Gl.st (g' := (mkF m 47 #[.val (.long p0), .second, .val (.long p1), .second, .val (.long p2), .second, .val (.long p3), .second, .val (.long ua), .second, .val (.long ub), .second, .val (.long uc), .second, .val (.long ud), .second, .val (.long ((ua * uc) + (ub * ud))), .second, .unset, .unset, .unset] [(.long ud), (.long ua)])) (fun τ κ => XS.lload X0.here hx rfl (hb hby at_45) rfl κ) ?_
  refine Gl.st (g' := (mkF m 48 #[.val (.long p0), .second, .val (.long p1), .second, .val (.long p2), .second, .val (.long p3), .second, .val (.long ua), .second, .val (.long ub), .second, .val (.long uc), .second, .val (.long ud), .second, .val (.long ((ua * uc) + (ub * ud))), .second, .unset, .unset, .unset] [(.long (ua * ud))])) (fun τ κ => XS.lmul X0.here hx rfl (hb hby at_47) rfl κ) ?_
  refine Gl.st (g' := (mkF m 50 #[.val (.long p0), .second, .val (.long p1), .second, .val (.long p2), .second, .val (.long p3), .second, .val (.long ua), .second, .val (.long ub), .second, .val (.long uc), .second, .val (.long ud), .second, .val (.long ((ua * uc) + (ub * ud))), .second, .unset, .unset, .unset] [(.long ub), (.long (ua * ud))])) (fun τ κ => XS.lload X0.here hx rfl (hb hby at_48) rfl κ) ?_
  refine Gl.st (g' := (mkF m 52 #[.val (.long p0), .second, .val (.long p1), .second, .val (.long p2), .second, .val (.long p3), .second, .val (.long ua), .second, .val (.long ub), .second, .val (.long uc), .second, .val (.long ud), .second, .val (.long ((ua * uc) + (ub * ud))), .second, .unset, .unset, .unset] [(.long uc), (.long ub), (.long (ua * ud))])) (fun τ κ => XS.lload X0.here hx rfl (hb hby at_50) rfl κ) ?_
  refine Gl.st (g' := (mkF m 53 #[.val (.long p0), .second, .val (.long p1), .second, .val (.long p2), .second, .val (.long p3), .second, .val (.long ua), .second, .val (.long ub), .second, .val (.long uc), .second, .val (.long ud), .second, .val (.long ((ua * uc) + (ub * ud))), .second, .unset, .unset, .unset] [(.long (ub * uc)), (.long (ua * ud))])) (fun τ κ => XS.lmul X0.here hx rfl (hb hby at_52) rfl κ) ?_
  refine Gl.st (g' := (mkF m 54 #[.val (.long p0), .second, .val (.long p1), .second, .val (.long p2), .second, .val (.long p3), .second, .val (.long ua), .second, .val (.long ub), .second, .val (.long uc), .second, .val (.long ud), .second, .val (.long ((ua * uc) + (ub * ud))), .second, .unset, .unset, .unset] [(.long ((ua * ud) - (ub * uc)))])) (fun τ κ => XS.lsub X0.here hx rfl (hb hby at_53) rfl κ) ?_
  refine Gl.st (g' := (mkF m 56 #[.val (.long p0), .second, .val (.long p1), .second, .val (.long p2), .second, .val (.long p3), .second, .val (.long ua), .second, .val (.long ub), .second, .val (.long uc), .second, .val (.long ud), .second, .val (.long ((ua * uc) + (ub * ud))), .second, .val (.long ((ua * ud) - (ub * uc))), .second, .unset] [])) (fun τ κ => XS.lstore X0.here hx rfl (hb hby at_54) rfl (l' := #[.val (.long p0), .second, .val (.long p1), .second, .val (.long p2), .second, .val (.long p3), .second, .val (.long ua), .second, .val (.long ub), .second, .val (.long uc), .second, .val (.long ud), .second, .val (.long ((ua * uc) + (ub * ud))), .second, .val (.long ((ua * ud) - (ub * uc))), .second, .unset]) rfl κ) ?_
  refine Gl.st (g' := (mkF m 58 #[.val (.long p0), .second, .val (.long p1), .second, .val (.long p2), .second, .val (.long p3), .second, .val (.long ua), .second, .val (.long ub), .second, .val (.long uc), .second, .val (.long ud), .second, .val (.long ((ua * uc) + (ub * ud))), .second, .val (.long ((ua * ud) - (ub * uc))), .second, .unset] [(.long ((ua * uc) + (ub * ud)))])) (fun τ κ => XS.lload X0.here hx rfl (hb hby at_56) rfl κ) ?_
  refine Gl.st (g' := (mkF m 59 #[.val (.long p0), .second, .val (.long p1), .second, .val (.long p2), .second, .val (.long p3), .second, .val (.long ua), .second, .val (.long ub), .second, .val (.long uc), .second, .val (.long ud), .second, .val (.long ((ua * uc) + (ub * ud))), .second, .val (.long ((ua * ud) - (ub * uc))), .second, .unset] [(.long (0 : Int64)), (.long ((ua * uc) + (ub * ud)))])) (fun τ κ => XS.lconst X0.here hx rfl (hb hby at_58) κ) ?_
  refine Gl.st (g' := (mkF m 60 #[.val (.long p0), .second, .val (.long p1), .second, .val (.long p2), .second, .val (.long p3), .second, .val (.long ua), .second, .val (.long ub), .second, .val (.long uc), .second, .val (.long ud), .second, .val (.long ((ua * uc) + (ub * ud))), .second, .val (.long ((ua * ud) - (ub * uc))), .second, .unset] [(.int (lcmpW ((ua * uc) + (ub * ud)) (0 : Int64)))])) (fun τ κ => XS.lcmp X0.here hx rfl (hb hby at_59) rfl κ) ?_
  by_cases hc4 : (0 : Int64) < ((ua * uc) + (ub * ud))
  · -- pc 60: (0 : Int64) < ((ua * uc) + (ub * ud))
    refine Gl.st (g' := (mkF m 63 #[.val (.long p0), .second, .val (.long p1), .second, .val (.long p2), .second, .val (.long p3), .second, .val (.long ua), .second, .val (.long ub), .second, .val (.long uc), .second, .val (.long ud), .second, .val (.long ((ua * uc) + (ub * ud))), .second, .val (.long ((ua * ud) - (ub * uc))), .second, .unset] [])) (fun τ κ => XS.ifNo X0.here hx rfl (hb hby at_60) rfl ((if0 _ _).trans (tlt ((lw_gt ((ua * uc) + (ub * ud)) (0 : Int64)).mpr hc4)).2.2.2) κ) ?_
    refine Gl.st (g' := (mkF m 65 #[.val (.long p0), .second, .val (.long p1), .second, .val (.long p2), .second, .val (.long p3), .second, .val (.long ua), .second, .val (.long ub), .second, .val (.long uc), .second, .val (.long ud), .second, .val (.long ((ua * uc) + (ub * ud))), .second, .val (.long ((ua * ud) - (ub * uc))), .second, .unset] [(.long ((ua * uc) + (ub * ud)))])) (fun τ κ => XS.lload X0.here hx rfl (hb hby at_63) rfl κ) ?_
    refine Gl.st (g' := (mkF m 67 #[.val (.long p0), .second, .val (.long p1), .second, .val (.long p2), .second, .val (.long p3), .second, .val (.long ua), .second, .val (.long ub), .second, .val (.long uc), .second, .val (.long ud), .second, .val (.long ((ua * uc) + (ub * ud))), .second, .val (.long ((ua * ud) - (ub * uc))), .second, .unset] [(.long ((ua * ud) - (ub * uc))), (.long ((ua * uc) + (ub * ud)))])) (fun τ κ => XS.lload X0.here hx rfl (hb hby at_65) rfl κ) ?_
    obtain ⟨rv5, _, ⟨T5, L5, k5, n5⟩, -, X5, ⟨Lc5, hQ5, l5, y5, z5⟩, st5⟩ := Jvm.LawKit.callS X0 hx (y := (⟨"java/lang/Math", "abs", "(J)J"⟩ : MethodName)) hown (mvT hZ (hw _ (List.mem_of_getElem? (i := 5) rfl))) (mvT hZ (hw _ (List.mem_of_getElem? (i := 6) rfl))) (mvT hZ (hw _ (List.mem_of_getElem? (i := 7) rfl))) (mvT hZ (hw _ (List.mem_of_getElem? (i := 8) rfl))) (by decide) (backOf (W := 2) (rm2 l Z a0 hw [] ((ua * ud) - (ub * uc)) h0 n0 Z0 ) hZ (hw _ (List.mem_of_getElem? (i := 8) rfl)) (hw _ (List.mem_of_getElem? (i := 7) rfl)) (by decide) (by decide)) (g := (mkF m 67 #[.val (.long p0), .second, .val (.long p1), .second, .val (.long p2), .second, .val (.long p3), .second, .val (.long ua), .second, .val (.long ub), .second, .val (.long uc), .second, .val (.long ud), .second, .val (.long ((ua * uc) + (ub * ud))), .second, .val (.long ((ua * ud) - (ub * uc))), .second, .unset] [(.long ((ua * ud) - (ub * uc))), (.long ((ua * uc) + (ub * ud)))])) rfl (by rw [hml]; rfl) (argsL := [(.long ((ua * ud) - (ub * uc)))]) (rest := [(.long ((ua * uc) + (ub * ud)))]) (lenOf pd_0 rfl) rfl (by show 2 * 0 + _ ≤ _; exact Nat.le_of_eq rfl) (hb hby at_67) (fun _ _ => ⟨rfl, e0, (by decide : 0 + 0 ≤ _), (by decide : 0 + 0 ≤ _)⟩)
    dsimp only [Pt.U, Pt.locs, Pt.cells, Pt.slots] at X5 l5 y5 z5 st5 hQ5
    subst l5 y5 z5
    obtain ⟨rfl, N5q, e5⟩ := hQ5
    have N5 := Fr.app N0 N5q
    refine Gl.st (g' := (mkF m 70 #[.val (.long p0), .second, .val (.long p1), .second, .val (.long p2), .second, .val (.long p3), .second, .val (.long ua), .second, .val (.long ub), .second, .val (.long uc), .second, .val (.long ud), .second, .val (.long ((ua * uc) + (ub * ud))), .second, .val (.long ((ua * ud) - (ub * uc))), .second, .unset] [(.long (own_abs ((ua * ud) - (ub * uc)))), (.long ((ua * uc) + (ub * ud)))])) (fun τ κ => st5 _ κ) ?_
    refine Gl.st (g' := (mkF m 71 #[.val (.long p0), .second, .val (.long p1), .second, .val (.long p2), .second, .val (.long p3), .second, .val (.long ua), .second, .val (.long ub), .second, .val (.long uc), .second, .val (.long ud), .second, .val (.long ((ua * uc) + (ub * ud))), .second, .val (.long ((ua * ud) - (ub * uc))), .second, .unset] [(.int (lcmpW ((ua * uc) + (ub * ud)) (own_abs ((ua * ud) - (ub * uc)))))])) (fun τ κ => XS.lcmp X5.here hx rfl (hb hby at_70) rfl κ) ?_
    by_cases hc6 : ((ua * uc) + (ub * ud)) < (own_abs ((ua * ud) - (ub * uc)))
    · -- pc 71: ((ua * uc) + (ub * ud)) < (own_abs ((ua * ud) - (ub * uc)))
      refine Gl.st (g' := (mkF m 78 #[.val (.long p0), .second, .val (.long p1), .second, .val (.long p2), .second, .val (.long p3), .second, .val (.long ua), .second, .val (.long ub), .second, .val (.long uc), .second, .val (.long ud), .second, .val (.long ((ua * uc) + (ub * ud))), .second, .val (.long ((ua * ud) - (ub * uc))), .second, .unset] [])) (fun τ κ => XS.ifYes X5.here hx rfl (pc0 := 71) (pc' := 78) rfl (hb hby at_71) rfl ((if0 _ _).trans (tlt ((lw_lt ((ua * uc) + (ub * ud)) (own_abs ((ua * ud) - (ub * uc)))).mpr hc6)).1) (by decide) (by decide) κ) ?_
      refine Gl.st (g' := (mkF m 79 #[.val (.long p0), .second, .val (.long p1), .second, .val (.long p2), .second, .val (.long p3), .second, .val (.long ua), .second, .val (.long ub), .second, .val (.long uc), .second, .val (.long ud), .second, .val (.long ((ua * uc) + (ub * ud))), .second, .val (.long ((ua * ud) - (ub * uc))), .second, .unset] [(.int (0 : Int32))])) (fun τ κ => XS.iconst X5.here hx rfl (hb hby at_78) κ) ?_
      refine Gl.st (g' := (mkF m 81 #[.val (.long p0), .second, .val (.long p1), .second, .val (.long p2), .second, .val (.long p3), .second, .val (.long ua), .second, .val (.long ub), .second, .val (.long uc), .second, .val (.long ud), .second, .val (.long ((ua * uc) + (ub * ud))), .second, .val (.long ((ua * ud) - (ub * uc))), .second, .val (.int (0 : Int32))] [])) (fun τ κ => XS.istore X5.here hx rfl (hb hby at_79) rfl (l' := #[.val (.long p0), .second, .val (.long p1), .second, .val (.long p2), .second, .val (.long p3), .second, .val (.long ua), .second, .val (.long ub), .second, .val (.long uc), .second, .val (.long ud), .second, .val (.long ((ua * uc) + (ub * ud))), .second, .val (.long ((ua * ud) - (ub * uc))), .second, .val (.int (0 : Int32))]) rfl κ) ?_
      refine Gl.st (g' := (mkF m 83 #[.val (.long p0), .second, .val (.long p1), .second, .val (.long p2), .second, .val (.long p3), .second, .val (.long ua), .second, .val (.long ub), .second, .val (.long uc), .second, .val (.long ud), .second, .val (.long ((ua * uc) + (ub * ud))), .second, .val (.long ((ua * ud) - (ub * uc))), .second, .val (.int (0 : Int32))] [(.long ua)])) (fun τ κ => XS.lload X5.here hx rfl (hb hby at_81) rfl κ) ?_
      refine Gl.st (g' := (mkF m 85 #[.val (.long p0), .second, .val (.long p1), .second, .val (.long p2), .second, .val (.long p3), .second, .val (.long ua), .second, .val (.long ub), .second, .val (.long uc), .second, .val (.long ud), .second, .val (.long ((ua * uc) + (ub * ud))), .second, .val (.long ((ua * ud) - (ub * uc))), .second, .val (.int (0 : Int32))] [(.long ub), (.long ua)])) (fun τ κ => XS.lload X5.here hx rfl (hb hby at_83) rfl κ) ?_
      refine Gl.st (g' := (mkF m 87 #[.val (.long p0), .second, .val (.long p1), .second, .val (.long p2), .second, .val (.long p3), .second, .val (.long ua), .second, .val (.long ub), .second, .val (.long uc), .second, .val (.long ud), .second, .val (.long ((ua * uc) + (ub * ud))), .second, .val (.long ((ua * ud) - (ub * uc))), .second, .val (.int (0 : Int32))] [(.long uc), (.long ub), (.long ua)])) (fun τ κ => XS.lload X5.here hx rfl (hb hby at_85) rfl κ) ?_
      refine Gl.st (g' := (mkF m 89 #[.val (.long p0), .second, .val (.long p1), .second, .val (.long p2), .second, .val (.long p3), .second, .val (.long ua), .second, .val (.long ub), .second, .val (.long uc), .second, .val (.long ud), .second, .val (.long ((ua * uc) + (ub * ud))), .second, .val (.long ((ua * ud) - (ub * uc))), .second, .val (.int (0 : Int32))] [(.long ud), (.long uc), (.long ub), (.long ua)])) (fun τ κ => XS.lload X5.here hx rfl (hb hby at_87) rfl κ) ?_
      obtain ⟨rv7, _, ⟨T7, L7, k7, n7⟩, -, X7, ⟨Lc7, hQ7, l7, y7, z7⟩, st7⟩ := Jvm.LawKit.callS X5 hx (y := (⟨"com/example/wanderpath/wanderpath/Winding", "isGentleTurn", "(JJJJ)Z"⟩ : MethodName)) hown (mvT hZ (hw _ (List.mem_of_getElem? (i := 1) rfl))) (mvT hZ (hw _ (List.mem_of_getElem? (i := 2) rfl))) (mvT hZ (hw _ (List.mem_of_getElem? (i := 3) rfl))) (mvT hZ (hw _ (List.mem_of_getElem? (i := 4) rfl))) (by decide) (backOf (W := 0) (rm1 l Z a0 hw [] ua ub uc ud h0 n0 Z0 ) hZ (hw _ (List.mem_of_getElem? (i := 4) rfl)) (hw _ (List.mem_of_getElem? (i := 3) rfl)) (by decide) (by decide)) (g := (mkF m 89 #[.val (.long p0), .second, .val (.long p1), .second, .val (.long p2), .second, .val (.long p3), .second, .val (.long ua), .second, .val (.long ub), .second, .val (.long uc), .second, .val (.long ud), .second, .val (.long ((ua * uc) + (ub * ud))), .second, .val (.long ((ua * ud) - (ub * uc))), .second, .val (.int (0 : Int32))] [(.long ud), (.long uc), (.long ub), (.long ua)])) rfl (by rw [hml]; rfl) (argsL := [(.long ua), (.long ub), (.long uc), (.long ud)]) (rest := []) (lenOf pd_1 rfl) rfl (by show 2 * 0 + _ ≤ _; exact Nat.le_of_eq rfl) (hb hby at_89) (fun _ _ => ⟨rfl, e5, (by decide : 0 + 0 ≤ _), (by decide : 0 + 0 ≤ _)⟩)
      dsimp only [Pt.U, Pt.locs, Pt.cells, Pt.slots] at X7 l7 y7 z7 st7 hQ7
      subst l7 y7 z7
      obtain ⟨rfl, N7q, e7⟩ := hQ7
      have N7 := Fr.app N5 N7q
      refine Gl.st (g' := (mkF m 92 #[.val (.long p0), .second, .val (.long p1), .second, .val (.long p2), .second, .val (.long p3), .second, .val (.long ua), .second, .val (.long ub), .second, .val (.long uc), .second, .val (.long ud), .second, .val (.long ((ua * uc) + (ub * ud))), .second, .val (.long ((ua * ud) - (ub * uc))), .second, .val (.int (0 : Int32))] [(.int (own_gentle ua ub uc ud))])) (fun τ κ => st7 _ κ) ?_
      refine Gl.st (g' := (mkF m 94 #[.val (.long p0), .second, .val (.long p1), .second, .val (.long p2), .second, .val (.long p3), .second, .val (.long ua), .second, .val (.long ub), .second, .val (.long uc), .second, .val (.long ud), .second, .val (.long ((ua * uc) + (ub * ud))), .second, .val (.long ((ua * ud) - (ub * uc))), .second, .val (.int (0 : Int32))] [(.int (0 : Int32)), (.int (own_gentle ua ub uc ud))])) (fun τ κ => XS.iload X7.here hx rfl (hb hby at_92) rfl κ) ?_
      have hc8 : (own_gentle ua ub uc ud) = (0 : Int32) := own_e2 hua hub huc hud hc4 hc6
      refine Gl.st (g' := (mkF m 97 #[.val (.long p0), .second, .val (.long p1), .second, .val (.long p2), .second, .val (.long p3), .second, .val (.long ua), .second, .val (.long ub), .second, .val (.long uc), .second, .val (.long ud), .second, .val (.long ((ua * uc) + (ub * ud))), .second, .val (.long ((ua * ud) - (ub * uc))), .second, .val (.int (0 : Int32))] [])) (fun τ κ => XS.icmpNo X7.here hx rfl (hb hby at_94) rfl (teq hc8).2 κ) ?_
      refine Gl.st (g' := (mkF m 98 #[.val (.long p0), .second, .val (.long p1), .second, .val (.long p2), .second, .val (.long p3), .second, .val (.long ua), .second, .val (.long ub), .second, .val (.long uc), .second, .val (.long ud), .second, .val (.long ((ua * uc) + (ub * ud))), .second, .val (.long ((ua * ud) - (ub * uc))), .second, .val (.int (0 : Int32))] [(.int (1 : Int32))])) (fun τ κ => XS.iconst X7.here hx rfl (hb hby at_97) κ) ?_
      refine Gl.st (g' := (mkF m 102 #[.val (.long p0), .second, .val (.long p1), .second, .val (.long p2), .second, .val (.long p3), .second, .val (.long ua), .second, .val (.long ub), .second, .val (.long uc), .second, .val (.long ud), .second, .val (.long ((ua * uc) + (ub * ud))), .second, .val (.long ((ua * ud) - (ub * uc))), .second, .val (.int (0 : Int32))] [(.int (1 : Int32))])) (fun τ κ => XS.goto X7.here hx rfl (pc0 := 98) (pc' := 102) rfl (hb hby at_98) (by decide) (by decide) κ) ?_
      exact Gl.ret (v := some (.int (1 : Int32))) X7 Bd.notSynchronized (fun h => by rw [Bd.returns] at h; cases h) e7 (fun fs hr => retN X7 hx (t := .boolean) Bd.returns (by simp) (hb hby at_102) hr) (by decide) (by decide) ⟨rfl, N7⟩
    · -- pc 71: not ((ua * uc) + (ub * ud)) < (own_abs ((ua * ud) - (ub * uc)))
      refine Gl.st (g' := (mkF m 74 #[.val (.long p0), .second, .val (.long p1), .second, .val (.long p2), .second, .val (.long p3), .second, .val (.long ua), .second, .val (.long ub), .second, .val (.long uc), .second, .val (.long ud), .second, .val (.long ((ua * uc) + (ub * ud))), .second, .val (.long ((ua * ud) - (ub * uc))), .second, .unset] [])) (fun τ κ => XS.ifNo X5.here hx rfl (hb hby at_71) rfl ((if0 _ _).trans (flt (mt (lw_lt ((ua * uc) + (ub * ud)) (own_abs ((ua * ud) - (ub * uc)))).mp hc6)).1) κ) ?_
      refine Gl.st (g' := (mkF m 75 #[.val (.long p0), .second, .val (.long p1), .second, .val (.long p2), .second, .val (.long p3), .second, .val (.long ua), .second, .val (.long ub), .second, .val (.long uc), .second, .val (.long ud), .second, .val (.long ((ua * uc) + (ub * ud))), .second, .val (.long ((ua * ud) - (ub * uc))), .second, .unset] [(.int (1 : Int32))])) (fun τ κ => XS.iconst X5.here hx rfl (hb hby at_74) κ) ?_
      refine Gl.st (g' := (mkF m 79 #[.val (.long p0), .second, .val (.long p1), .second, .val (.long p2), .second, .val (.long p3), .second, .val (.long ua), .second, .val (.long ub), .second, .val (.long uc), .second, .val (.long ud), .second, .val (.long ((ua * uc) + (ub * ud))), .second, .val (.long ((ua * ud) - (ub * uc))), .second, .unset] [(.int (1 : Int32))])) (fun τ κ => XS.goto X5.here hx rfl (pc0 := 75) (pc' := 79) rfl (hb hby at_75) (by decide) (by decide) κ) ?_
      refine Gl.st (g' := (mkF m 81 #[.val (.long p0), .second, .val (.long p1), .second, .val (.long p2), .second, .val (.long p3), .second, .val (.long ua), .second, .val (.long ub), .second, .val (.long uc), .second, .val (.long ud), .second, .val (.long ((ua * uc) + (ub * ud))), .second, .val (.long ((ua * ud) - (ub * uc))), .second, .val (.int (1 : Int32))] [])) (fun τ κ => XS.istore X5.here hx rfl (hb hby at_79) rfl (l' := #[.val (.long p0), .second, .val (.long p1), .second, .val (.long p2), .second, .val (.long p3), .second, .val (.long ua), .second, .val (.long ub), .second, .val (.long uc), .second, .val (.long ud), .second, .val (.long ((ua * uc) + (ub * ud))), .second, .val (.long ((ua * ud) - (ub * uc))), .second, .val (.int (1 : Int32))]) rfl κ) ?_
      refine Gl.st (g' := (mkF m 83 #[.val (.long p0), .second, .val (.long p1), .second, .val (.long p2), .second, .val (.long p3), .second, .val (.long ua), .second, .val (.long ub), .second, .val (.long uc), .second, .val (.long ud), .second, .val (.long ((ua * uc) + (ub * ud))), .second, .val (.long ((ua * ud) - (ub * uc))), .second, .val (.int (1 : Int32))] [(.long ua)])) (fun τ κ => XS.lload X5.here hx rfl (hb hby at_81) rfl κ) ?_
      refine Gl.st (g' := (mkF m 85 #[.val (.long p0), .second, .val (.long p1), .second, .val (.long p2), .second, .val (.long p3), .second, .val (.long ua), .second, .val (.long ub), .second, .val (.long uc), .second, .val (.long ud), .second, .val (.long ((ua * uc) + (ub * ud))), .second, .val (.long ((ua * ud) - (ub * uc))), .second, .val (.int (1 : Int32))] [(.long ub), (.long ua)])) (fun τ κ => XS.lload X5.here hx rfl (hb hby at_83) rfl κ) ?_
      refine Gl.st (g' := (mkF m 87 #[.val (.long p0), .second, .val (.long p1), .second, .val (.long p2), .second, .val (.long p3), .second, .val (.long ua), .second, .val (.long ub), .second, .val (.long uc), .second, .val (.long ud), .second, .val (.long ((ua * uc) + (ub * ud))), .second, .val (.long ((ua * ud) - (ub * uc))), .second, .val (.int (1 : Int32))] [(.long uc), (.long ub), (.long ua)])) (fun τ κ => XS.lload X5.here hx rfl (hb hby at_85) rfl κ) ?_
      refine Gl.st (g' := (mkF m 89 #[.val (.long p0), .second, .val (.long p1), .second, .val (.long p2), .second, .val (.long p3), .second, .val (.long ua), .second, .val (.long ub), .second, .val (.long uc), .second, .val (.long ud), .second, .val (.long ((ua * uc) + (ub * ud))), .second, .val (.long ((ua * ud) - (ub * uc))), .second, .val (.int (1 : Int32))] [(.long ud), (.long uc), (.long ub), (.long ua)])) (fun τ κ => XS.lload X5.here hx rfl (hb hby at_87) rfl κ) ?_
      obtain ⟨rv9, _, ⟨T9, L9, k9, n9⟩, -, X9, ⟨Lc9, hQ9, l9, y9, z9⟩, st9⟩ := Jvm.LawKit.callS X5 hx (y := (⟨"com/example/wanderpath/wanderpath/Winding", "isGentleTurn", "(JJJJ)Z"⟩ : MethodName)) hown (mvT hZ (hw _ (List.mem_of_getElem? (i := 1) rfl))) (mvT hZ (hw _ (List.mem_of_getElem? (i := 2) rfl))) (mvT hZ (hw _ (List.mem_of_getElem? (i := 3) rfl))) (mvT hZ (hw _ (List.mem_of_getElem? (i := 4) rfl))) (by decide) (backOf (W := 0) (rm1 l Z a0 hw [] ua ub uc ud h0 n0 Z0 ) hZ (hw _ (List.mem_of_getElem? (i := 4) rfl)) (hw _ (List.mem_of_getElem? (i := 3) rfl)) (by decide) (by decide)) (g := (mkF m 89 #[.val (.long p0), .second, .val (.long p1), .second, .val (.long p2), .second, .val (.long p3), .second, .val (.long ua), .second, .val (.long ub), .second, .val (.long uc), .second, .val (.long ud), .second, .val (.long ((ua * uc) + (ub * ud))), .second, .val (.long ((ua * ud) - (ub * uc))), .second, .val (.int (1 : Int32))] [(.long ud), (.long uc), (.long ub), (.long ua)])) rfl (by rw [hml]; rfl) (argsL := [(.long ua), (.long ub), (.long uc), (.long ud)]) (rest := []) (lenOf pd_1 rfl) rfl (by show 2 * 0 + _ ≤ _; exact Nat.le_of_eq rfl) (hb hby at_89) (fun _ _ => ⟨rfl, e5, (by decide : 0 + 0 ≤ _), (by decide : 0 + 0 ≤ _)⟩)
      dsimp only [Pt.U, Pt.locs, Pt.cells, Pt.slots] at X9 l9 y9 z9 st9 hQ9
      subst l9 y9 z9
      obtain ⟨rfl, N9q, e9⟩ := hQ9
      have N9 := Fr.app N5 N9q
      refine Gl.st (g' := (mkF m 92 #[.val (.long p0), .second, .val (.long p1), .second, .val (.long p2), .second, .val (.long p3), .second, .val (.long ua), .second, .val (.long ub), .second, .val (.long uc), .second, .val (.long ud), .second, .val (.long ((ua * uc) + (ub * ud))), .second, .val (.long ((ua * ud) - (ub * uc))), .second, .val (.int (1 : Int32))] [(.int (own_gentle ua ub uc ud))])) (fun τ κ => st9 _ κ) ?_
      refine Gl.st (g' := (mkF m 94 #[.val (.long p0), .second, .val (.long p1), .second, .val (.long p2), .second, .val (.long p3), .second, .val (.long ua), .second, .val (.long ub), .second, .val (.long uc), .second, .val (.long ud), .second, .val (.long ((ua * uc) + (ub * ud))), .second, .val (.long ((ua * ud) - (ub * uc))), .second, .val (.int (1 : Int32))] [(.int (1 : Int32)), (.int (own_gentle ua ub uc ud))])) (fun τ κ => XS.iload X9.here hx rfl (hb hby at_92) rfl κ) ?_
      have hc10 : (own_gentle ua ub uc ud) = (1 : Int32) := own_e3 hua hub huc hud hc4 hc6
      refine Gl.st (g' := (mkF m 97 #[.val (.long p0), .second, .val (.long p1), .second, .val (.long p2), .second, .val (.long p3), .second, .val (.long ua), .second, .val (.long ub), .second, .val (.long uc), .second, .val (.long ud), .second, .val (.long ((ua * uc) + (ub * ud))), .second, .val (.long ((ua * ud) - (ub * uc))), .second, .val (.int (1 : Int32))] [])) (fun τ κ => XS.icmpNo X9.here hx rfl (hb hby at_94) rfl (teq hc10).2 κ) ?_
      refine Gl.st (g' := (mkF m 98 #[.val (.long p0), .second, .val (.long p1), .second, .val (.long p2), .second, .val (.long p3), .second, .val (.long ua), .second, .val (.long ub), .second, .val (.long uc), .second, .val (.long ud), .second, .val (.long ((ua * uc) + (ub * ud))), .second, .val (.long ((ua * ud) - (ub * uc))), .second, .val (.int (1 : Int32))] [(.int (1 : Int32))])) (fun τ κ => XS.iconst X9.here hx rfl (hb hby at_97) κ) ?_
      refine Gl.st (g' := (mkF m 102 #[.val (.long p0), .second, .val (.long p1), .second, .val (.long p2), .second, .val (.long p3), .second, .val (.long ua), .second, .val (.long ub), .second, .val (.long uc), .second, .val (.long ud), .second, .val (.long ((ua * uc) + (ub * ud))), .second, .val (.long ((ua * ud) - (ub * uc))), .second, .val (.int (1 : Int32))] [(.int (1 : Int32))])) (fun τ κ => XS.goto X9.here hx rfl (pc0 := 98) (pc' := 102) rfl (hb hby at_98) (by decide) (by decide) κ) ?_
      exact Gl.ret (v := some (.int (1 : Int32))) X9 Bd.notSynchronized (fun h => by rw [Bd.returns] at h; cases h) e9 (fun fs hr => retN X9 hx (t := .boolean) Bd.returns (by simp) (hb hby at_102) hr) (by decide) (by decide) ⟨rfl, N9⟩
  · -- pc 60: not (0 : Int64) < ((ua * uc) + (ub * ud))
    refine Gl.st (g' := (mkF m 78 #[.val (.long p0), .second, .val (.long p1), .second, .val (.long p2), .second, .val (.long p3), .second, .val (.long ua), .second, .val (.long ub), .second, .val (.long uc), .second, .val (.long ud), .second, .val (.long ((ua * uc) + (ub * ud))), .second, .val (.long ((ua * ud) - (ub * uc))), .second, .unset] [])) (fun τ κ => XS.ifYes X0.here hx rfl (pc0 := 60) (pc' := 78) rfl (hb hby at_60) rfl ((if0 _ _).trans (flt (mt (lw_gt ((ua * uc) + (ub * ud)) (0 : Int64)).mp hc4)).2.2.2) (by decide) (by decide) κ) ?_
    refine Gl.st (g' := (mkF m 79 #[.val (.long p0), .second, .val (.long p1), .second, .val (.long p2), .second, .val (.long p3), .second, .val (.long ua), .second, .val (.long ub), .second, .val (.long uc), .second, .val (.long ud), .second, .val (.long ((ua * uc) + (ub * ud))), .second, .val (.long ((ua * ud) - (ub * uc))), .second, .unset] [(.int (0 : Int32))])) (fun τ κ => XS.iconst X0.here hx rfl (hb hby at_78) κ) ?_
    refine Gl.st (g' := (mkF m 81 #[.val (.long p0), .second, .val (.long p1), .second, .val (.long p2), .second, .val (.long p3), .second, .val (.long ua), .second, .val (.long ub), .second, .val (.long uc), .second, .val (.long ud), .second, .val (.long ((ua * uc) + (ub * ud))), .second, .val (.long ((ua * ud) - (ub * uc))), .second, .val (.int (0 : Int32))] [])) (fun τ κ => XS.istore X0.here hx rfl (hb hby at_79) rfl (l' := #[.val (.long p0), .second, .val (.long p1), .second, .val (.long p2), .second, .val (.long p3), .second, .val (.long ua), .second, .val (.long ub), .second, .val (.long uc), .second, .val (.long ud), .second, .val (.long ((ua * uc) + (ub * ud))), .second, .val (.long ((ua * ud) - (ub * uc))), .second, .val (.int (0 : Int32))]) rfl κ) ?_
    refine Gl.st (g' := (mkF m 83 #[.val (.long p0), .second, .val (.long p1), .second, .val (.long p2), .second, .val (.long p3), .second, .val (.long ua), .second, .val (.long ub), .second, .val (.long uc), .second, .val (.long ud), .second, .val (.long ((ua * uc) + (ub * ud))), .second, .val (.long ((ua * ud) - (ub * uc))), .second, .val (.int (0 : Int32))] [(.long ua)])) (fun τ κ => XS.lload X0.here hx rfl (hb hby at_81) rfl κ) ?_
    refine Gl.st (g' := (mkF m 85 #[.val (.long p0), .second, .val (.long p1), .second, .val (.long p2), .second, .val (.long p3), .second, .val (.long ua), .second, .val (.long ub), .second, .val (.long uc), .second, .val (.long ud), .second, .val (.long ((ua * uc) + (ub * ud))), .second, .val (.long ((ua * ud) - (ub * uc))), .second, .val (.int (0 : Int32))] [(.long ub), (.long ua)])) (fun τ κ => XS.lload X0.here hx rfl (hb hby at_83) rfl κ) ?_
    refine Gl.st (g' := (mkF m 87 #[.val (.long p0), .second, .val (.long p1), .second, .val (.long p2), .second, .val (.long p3), .second, .val (.long ua), .second, .val (.long ub), .second, .val (.long uc), .second, .val (.long ud), .second, .val (.long ((ua * uc) + (ub * ud))), .second, .val (.long ((ua * ud) - (ub * uc))), .second, .val (.int (0 : Int32))] [(.long uc), (.long ub), (.long ua)])) (fun τ κ => XS.lload X0.here hx rfl (hb hby at_85) rfl κ) ?_
    refine Gl.st (g' := (mkF m 89 #[.val (.long p0), .second, .val (.long p1), .second, .val (.long p2), .second, .val (.long p3), .second, .val (.long ua), .second, .val (.long ub), .second, .val (.long uc), .second, .val (.long ud), .second, .val (.long ((ua * uc) + (ub * ud))), .second, .val (.long ((ua * ud) - (ub * uc))), .second, .val (.int (0 : Int32))] [(.long ud), (.long uc), (.long ub), (.long ua)])) (fun τ κ => XS.lload X0.here hx rfl (hb hby at_87) rfl κ) ?_
    obtain ⟨rv11, _, ⟨T11, L11, k11, n11⟩, -, X11, ⟨Lc11, hQ11, l11, y11, z11⟩, st11⟩ := Jvm.LawKit.callS X0 hx (y := (⟨"com/example/wanderpath/wanderpath/Winding", "isGentleTurn", "(JJJJ)Z"⟩ : MethodName)) hown (mvT hZ (hw _ (List.mem_of_getElem? (i := 1) rfl))) (mvT hZ (hw _ (List.mem_of_getElem? (i := 2) rfl))) (mvT hZ (hw _ (List.mem_of_getElem? (i := 3) rfl))) (mvT hZ (hw _ (List.mem_of_getElem? (i := 4) rfl))) (by decide) (backOf (W := 0) (rm1 l Z a0 hw [] ua ub uc ud h0 n0 Z0 ) hZ (hw _ (List.mem_of_getElem? (i := 4) rfl)) (hw _ (List.mem_of_getElem? (i := 3) rfl)) (by decide) (by decide)) (g := (mkF m 89 #[.val (.long p0), .second, .val (.long p1), .second, .val (.long p2), .second, .val (.long p3), .second, .val (.long ua), .second, .val (.long ub), .second, .val (.long uc), .second, .val (.long ud), .second, .val (.long ((ua * uc) + (ub * ud))), .second, .val (.long ((ua * ud) - (ub * uc))), .second, .val (.int (0 : Int32))] [(.long ud), (.long uc), (.long ub), (.long ua)])) rfl (by rw [hml]; rfl) (argsL := [(.long ua), (.long ub), (.long uc), (.long ud)]) (rest := []) (lenOf pd_1 rfl) rfl (by show 2 * 0 + _ ≤ _; exact Nat.le_of_eq rfl) (hb hby at_89) (fun _ _ => ⟨rfl, e0, (by decide : 0 + 0 ≤ _), (by decide : 0 + 0 ≤ _)⟩)
    dsimp only [Pt.U, Pt.locs, Pt.cells, Pt.slots] at X11 l11 y11 z11 st11 hQ11
    subst l11 y11 z11
    obtain ⟨rfl, N11q, e11⟩ := hQ11
    have N11 := Fr.app N0 N11q
    refine Gl.st (g' := (mkF m 92 #[.val (.long p0), .second, .val (.long p1), .second, .val (.long p2), .second, .val (.long p3), .second, .val (.long ua), .second, .val (.long ub), .second, .val (.long uc), .second, .val (.long ud), .second, .val (.long ((ua * uc) + (ub * ud))), .second, .val (.long ((ua * ud) - (ub * uc))), .second, .val (.int (0 : Int32))] [(.int (own_gentle ua ub uc ud))])) (fun τ κ => st11 _ κ) ?_
    refine Gl.st (g' := (mkF m 94 #[.val (.long p0), .second, .val (.long p1), .second, .val (.long p2), .second, .val (.long p3), .second, .val (.long ua), .second, .val (.long ub), .second, .val (.long uc), .second, .val (.long ud), .second, .val (.long ((ua * uc) + (ub * ud))), .second, .val (.long ((ua * ud) - (ub * uc))), .second, .val (.int (0 : Int32))] [(.int (0 : Int32)), (.int (own_gentle ua ub uc ud))])) (fun τ κ => XS.iload X11.here hx rfl (hb hby at_92) rfl κ) ?_
    have hc12 : (own_gentle ua ub uc ud) = (0 : Int32) := own_e1 hc4
    refine Gl.st (g' := (mkF m 97 #[.val (.long p0), .second, .val (.long p1), .second, .val (.long p2), .second, .val (.long p3), .second, .val (.long ua), .second, .val (.long ub), .second, .val (.long uc), .second, .val (.long ud), .second, .val (.long ((ua * uc) + (ub * ud))), .second, .val (.long ((ua * ud) - (ub * uc))), .second, .val (.int (0 : Int32))] [])) (fun τ κ => XS.icmpNo X11.here hx rfl (hb hby at_94) rfl (teq hc12).2 κ) ?_
    refine Gl.st (g' := (mkF m 98 #[.val (.long p0), .second, .val (.long p1), .second, .val (.long p2), .second, .val (.long p3), .second, .val (.long ua), .second, .val (.long ub), .second, .val (.long uc), .second, .val (.long ud), .second, .val (.long ((ua * uc) + (ub * ud))), .second, .val (.long ((ua * ud) - (ub * uc))), .second, .val (.int (0 : Int32))] [(.int (1 : Int32))])) (fun τ κ => XS.iconst X11.here hx rfl (hb hby at_97) κ) ?_
    refine Gl.st (g' := (mkF m 102 #[.val (.long p0), .second, .val (.long p1), .second, .val (.long p2), .second, .val (.long p3), .second, .val (.long ua), .second, .val (.long ub), .second, .val (.long uc), .second, .val (.long ud), .second, .val (.long ((ua * uc) + (ub * ud))), .second, .val (.long ((ua * ud) - (ub * uc))), .second, .val (.int (0 : Int32))] [(.int (1 : Int32))])) (fun τ κ => XS.goto X11.here hx rfl (pc0 := 98) (pc' := 102) rfl (hb hby at_98) (by decide) (by decide) κ) ?_
    exact Gl.ret (v := some (.int (1 : Int32))) X11 Bd.notSynchronized (fun h => by rw [Bd.returns] at h; cases h) e11 (fun fs hr => retN X11 hx (t := .boolean) Bd.returns (by simp) (hb hby at_102) hr) (by decide) (by decide) ⟨rfl, N11⟩
set_option maxRecDepth 65536 in
set_option maxHeartbeats 40000000 in
theorem comes_1 {Post : Tables → Env → Array Value → State → Outcome → State → Prop} (hpost : ∀ tb e args s v u, (limb_1_1.after args s (.returned v) u = true ∧ limb_1_2.after args s (.returned v) u = true ∧ True) → FrameEnd s (.returned v) u (Jvm.fieldLocs frame_1_writes args s ++ Jvm.arrayLocs frame_1_arrays args s ++ Jvm.staticLocs frame_1_statics s) 0 0 → Post tb e args s (.returned v) u) :
    ArmFor flags0 classFile x code maxLocals ret World_1 tables_1 room_1 Calls_1 rest_1 Pre_1 Post := by
  intro l hfl _ _ p e ha hc hk s m args below hf hA hF happ hP
  obtain ⟨hcalls, hrest, hpre⟩ := hP
  obtain ⟨-, -, -, hnamed, -, -, -, hat⟩ := (Spec.applies_iff hf).mp happ
  obtain ⟨hg, hn⟩ := and_e (Cond.before_iff.mp (show (Jvm.Cond.and given_1 narrow_1).before args s = true from hpre))
  obtain ⟨hcount, hg0⟩ := and_e hg
  obtain ⟨gi0, hg1⟩ := and_e hg0
  obtain ⟨gi1, hg2⟩ := and_e hg1
  obtain ⟨gi2, hg3⟩ := and_e hg2
  have gi3 := hg3
  obtain ⟨w0, w1, w2, w3, rfl⟩ : ∃ w0 w1 w2 w3 : Value, args = #[w0, w1, w2, w3] := by
    have hs : args.size = 4 := by simpa [Cond.value, given_1] using hcount
    obtain ⟨L⟩ := args
    match L, hs with
    | [w0, w1, w2, w3], _ => exact ⟨w0, w1, w2, w3, rfl⟩
  have hw := fun d (hd : d ∈ tables_1) => atoms_spec (ws := Jvm.Cond.code x code maxLocals ret :: tables_1) hat d (List.mem_cons_of_mem _ hd)
  obtain ⟨i0, ei0⟩ := isL_v gi0
  obtain rfl : w0 = (.long i0) := Option.some.inj ei0
  obtain ⟨i1, ei1⟩ := isL_v gi1
  obtain rfl : w1 = (.long i1) := Option.some.inj ei1
  obtain ⟨i2, ei2⟩ := isL_v gi2
  obtain rfl : w2 = (.long i2) := Option.some.inj ei2
  obtain ⟨i3, ei3⟩ := isL_v gi3
  obtain rfl : w3 = (.long i3) := Option.some.inj ei3
  obtain ⟨n, o, h1, h2, h3, _, L, rfl, ⟨rfl, N⟩, hq⟩ := rm0 l s _ hw tables_1 i0 i1 i2 i3  s.heap s.heap.size (Nat.le_refl _)  p e ha hc hk s m _ below hf ((Spec.applies_iff_loose hf).mp happ).1 ⟨rfl, State.Warmed39.refl s, rfl⟩ trivial
  refine ⟨n, _, h1, h2, h3, hpost _ _ _ _ _ _ ⟨Cond.after_iff.mpr rfl, Cond.after_iff.mpr (eq_i res_at (Term.int_eval (1)) rfl), trivial⟩ ⟨hq.1, hq.2.1, (hq.2.2.sift fun y hy => Or.inr (N y hy)).mono (by decide) (by decide)⟩⟩
theorem main_1_1 : Claimed_1_1 := comes_1 fun _ _ _ _ _ _ h hF => ⟨h.1, hF⟩
theorem main_1_2 : Claimed_1_2 := comes_1 fun _ _ _ _ _ _ h hF => ⟨h.2.1, hF⟩
end Jvm.Pilot.@@N@@
namespace Jvm.Pilot.@@N@@
open Jvm Jvm.ClassFile Sem Op Lib Jvm.Free Jvm.Stand Jvm.Pilot.@@N@@.Jvm.D
/-! MADE BY PROGRAM (witnessworld.py) out of the Statement's table words and the real class files: 10 classes; the members and pool entries that the words name. The judged class is class 1, her method 1. -/
namespace start1
open Jvm.ClassFile
def u (s : String) : CpInfo := .utf8 (stringToUtf16 s)
/-- a pool by its gaps: so many unusable entries, then the entry; so many at the end -/
def gap : Nat → List CpInfo → List CpInfo
  | 0, r => r
  | n + 1, r => .unusable :: gap n r
def poolList (es : List (Nat × CpInfo)) (last : Nat) : List CpInfo := es.foldr (fun e r => gap e.1 (e.2 :: r)) (gap last [])
def pool (es : List (Nat × CpInfo)) (last : Nat) : Array CpInfo := ⟨poolList es last⟩
def fileOf (pool : Array CpInfo) (this : Nat) (attrs : Array Attribute := #[]) (ms : Array MethodInfo := #[]) (fl : Nat := 33) (sup : Nat := 0) (ifs : Array Nat := #[]) (fds : Array FieldInfo := #[]) : ClassFile where
  minorVersion := 0
  majorVersion := 65
  constantPool := pool
  accessFlags := fl
  thisClass := this
  superClass := sup
  interfaces := ifs
  fields := fds
  methods := ms
  attributes := attrs
def plain (name : String) (sup : Option ClassId) : Class where
  name := name
  kind := .ordinary
  loader := none
  accessFlags := 33
  super := sup
  interfaces := #[]
  cf := none
  fields := #[]
  methods := #[]
  instanceTypes := #[]
  staticTypes := #[]
  resolved := #[]
  callSites := []
  init := .initialized
  statics := none
  mirror := none

def pool0 : Array CpInfo := pool [(5, u "<init>"), (0, u "()V"), (1, .class_ 10), (1, u "java/lang/Object")] 113

def k0m0 : Method := { name := "<init>", desc := "()V", sig := { parameters := [], returnType := none }, accessFlags := 1, code := none }
/-- java/lang/Object -/
def k0 : Class := { plain "java/lang/Object" none with
  accessFlags := 33
  interfaces := #[]
  cf := some (fileOf pool0 8 #[] #[{ accessFlags := 1, nameIndex := 5, descriptorIndex := 6, attributes := #[] }] 33 0 #[] #[])
  fields := #[]
  methods := #[k0m0]
  instanceTypes := #[]
  staticTypes := #[]
  resolved := Array.replicate 124 none
  statics := none }

def pool1 : Array CpInfo := pool [(2, .class_ 4), (1, u "java/lang/Object"), (0, u "<init>"), (0, u "()V"), (0, .long 32768), (1, .methodref 10 11), (0, .class_ 12), (0, .nameAndType 13 14), (0, u "java/lang/Math"), (0, u "abs"), (0, u "(J)J"), (0, .methodref 16 17), (0, .class_ 18), (0, .nameAndType 19 20), (0, u "com/example/wanderpath/wanderpath/Winding"), (0, u "isGentleTurn"), (0, u "(JJJJ)Z"), (0, .class_ 22), (0, u "com/example/wanderpath/wanderpath/WindingIsGentleTurnPinLaw"), (2, u "law")] 3

def k1m0 : Method := { name := "<init>", desc := "()V", sig := { parameters := [], returnType := none }, accessFlags := 2, code := none }
def k1c1 : Code := { maxStack := 8, maxLocals := 21, code := code, exceptionTable := #[], attributes := #[] }
def k1m1 : Method := { name := "law", desc := "(JJJJ)Z", sig := { parameters := [.long, .long, .long, .long], returnType := some .boolean }, accessFlags := 9, code := some k1c1 }
/-- com/example/wanderpath/wanderpath/WindingIsGentleTurnPinLaw -/
def k1 : Class := { plain "com/example/wanderpath/wanderpath/WindingIsGentleTurnPinLaw" (some 0) with
  accessFlags := 49
  interfaces := #[]
  cf := some (fileOf pool1 21 #[] #[{ accessFlags := 2, nameIndex := 5, descriptorIndex := 6, attributes := #[] }, { accessFlags := 9, nameIndex := 25, descriptorIndex := 20, attributes := #[] }] 49 2 #[] #[])
  fields := #[]
  methods := #[k1m0, k1m1]
  instanceTypes := #[]
  staticTypes := #[]
  resolved := Array.replicate 29 none
  statics := none }

def pool2 : Array CpInfo := pool [(1, .class_ 2), (0, u "com/example/wanderpath/wanderpath/Winding"), (79, .class_ 84), (1, u "java/lang/Object"), (3, u "lineIn"), (0, u "[I"), (2, u "lineOut"), (2, u "grid"), (0, u "Lcom/example/wanderpath/wanderpath/Grid;"), (6, u "blocked"), (0, u "[Z"), (7, u "random"), (0, u "Lcom/example/wanderpath/wanderpath/SeededRandom;"), (5, u "owner"), (22, u "waypoints"), (2, u "xs"), (2, u "ys"), (2, u "between"), (2, u "betweenCount"), (53, u "isGentleTurn"), (0, u "(JJJJ)Z"), (0, .long 2), (32, u "DEFAULT_BEND"), (0, u "I"), (2, u "MIN_SPACING"), (1, u "MAX_SPACING"), (1, u "MIN_GAP"), (0, u "MAX_GAP"), (1, u "MAX_BETWEEN"), (1, u "OFF_ROAD"), (1, u "ON_ROAD")] 27

def k2c0 : Code := { maxStack := 10, maxLocals := 10, code := prog_32_method_12_code, exceptionTable := #[], attributes := #[] }
def k2m0 : Method := { name := "isGentleTurn", desc := "(JJJJ)Z", sig := { parameters := [.long, .long, .long, .long], returnType := some .boolean }, accessFlags := 8, code := some k2c0 }
/-- com/example/wanderpath/wanderpath/Winding -/
def k2 : Class := { plain "com/example/wanderpath/wanderpath/Winding" (some 0) with
  accessFlags := 49
  interfaces := #[]
  cf := some (fileOf pool2 1 #[] #[{ accessFlags := 8, nameIndex := 208, descriptorIndex := 209, attributes := #[] }] 49 82 #[] #[{ accessFlags := 25, nameIndex := 243, descriptorIndex := 244, attributes := #[] }, { accessFlags := 26, nameIndex := 247, descriptorIndex := 244, attributes := #[] }, { accessFlags := 26, nameIndex := 249, descriptorIndex := 244, attributes := #[] }, { accessFlags := 26, nameIndex := 251, descriptorIndex := 244, attributes := #[] }, { accessFlags := 26, nameIndex := 252, descriptorIndex := 244, attributes := #[] }, { accessFlags := 26, nameIndex := 254, descriptorIndex := 244, attributes := #[] }, { accessFlags := 26, nameIndex := 256, descriptorIndex := 244, attributes := #[] }, { accessFlags := 26, nameIndex := 258, descriptorIndex := 244, attributes := #[] }, { accessFlags := 18, nameIndex := 95, descriptorIndex := 96, attributes := #[] }, { accessFlags := 18, nameIndex := 103, descriptorIndex := 104, attributes := #[] }, { accessFlags := 18, nameIndex := 112, descriptorIndex := 113, attributes := #[] }, { accessFlags := 2, nameIndex := 142, descriptorIndex := 89, attributes := #[] }, { accessFlags := 2, nameIndex := 145, descriptorIndex := 89, attributes := #[] }, { accessFlags := 2, nameIndex := 148, descriptorIndex := 89, attributes := #[] }, { accessFlags := 2, nameIndex := 151, descriptorIndex := 89, attributes := #[] }, { accessFlags := 2, nameIndex := 154, descriptorIndex := 89, attributes := #[] }, { accessFlags := 18, nameIndex := 119, descriptorIndex := 89, attributes := #[] }, { accessFlags := 18, nameIndex := 88, descriptorIndex := 89, attributes := #[] }, { accessFlags := 18, nameIndex := 92, descriptorIndex := 89, attributes := #[] }])
  fields := #[{ name := "DEFAULT_BEND", type := .int, accessFlags := 25, slot := 0, constantValue := 0 }, { name := "MIN_SPACING", type := .int, accessFlags := 26, slot := 1, constantValue := 0 }, { name := "MAX_SPACING", type := .int, accessFlags := 26, slot := 2, constantValue := 0 }, { name := "MIN_GAP", type := .int, accessFlags := 26, slot := 3, constantValue := 0 }, { name := "MAX_GAP", type := .int, accessFlags := 26, slot := 4, constantValue := 0 }, { name := "MAX_BETWEEN", type := .int, accessFlags := 26, slot := 5, constantValue := 0 }, { name := "OFF_ROAD", type := .int, accessFlags := 26, slot := 6, constantValue := 0 }, { name := "ON_ROAD", type := .int, accessFlags := 26, slot := 7, constantValue := 0 }, { name := "grid", type := (.object "com/example/wanderpath/wanderpath/Grid"), accessFlags := 18, slot := 0, constantValue := 0 }, { name := "blocked", type := (.array .boolean), accessFlags := 18, slot := 1, constantValue := 0 }, { name := "random", type := (.object "com/example/wanderpath/wanderpath/SeededRandom"), accessFlags := 18, slot := 2, constantValue := 0 }, { name := "waypoints", type := (.array .int), accessFlags := 2, slot := 3, constantValue := 0 }, { name := "xs", type := (.array .int), accessFlags := 2, slot := 4, constantValue := 0 }, { name := "ys", type := (.array .int), accessFlags := 2, slot := 5, constantValue := 0 }, { name := "between", type := (.array .int), accessFlags := 2, slot := 6, constantValue := 0 }, { name := "betweenCount", type := (.array .int), accessFlags := 2, slot := 7, constantValue := 0 }, { name := "owner", type := (.array .int), accessFlags := 18, slot := 8, constantValue := 0 }, { name := "lineIn", type := (.array .int), accessFlags := 18, slot := 9, constantValue := 0 }, { name := "lineOut", type := (.array .int), accessFlags := 18, slot := 10, constantValue := 0 }]
  methods := #[k2m0]
  instanceTypes := #[(.object "com/example/wanderpath/wanderpath/Grid"), (.array .boolean), (.object "com/example/wanderpath/wanderpath/SeededRandom"), (.array .int), (.array .int), (.array .int), (.array .int), (.array .int), (.array .int), (.array .int), (.array .int)]
  staticTypes := #[.int, .int, .int, .int, .int, .int, .int, .int]
  resolved := Array.replicate 286 none
  statics := none }

def pool3 : Array CpInfo := pool [(1, .class_ 2), (0, u "java/lang/Math"), (1, .class_ 6), (1, u "java/lang/Object"), (0, u "<init>"), (0, u "()V"), (89, .class_ 100), (1, u "java/lang/Math$RandomNumberGeneratorHolder"), (23, u "abs"), (0, u "(J)J"), (46, u "negativeZeroFloatBits"), (0, u "J"), (2, u "negativeZeroDoubleBits"), (68, u "$assertionsDisabled"), (0, u "Z"), (91, u "twoToTheDoubleScaleDown"), (0, u "D"), (4, u "twoToTheDoubleScaleUp"), (9, u "E"), (3, u "PI"), (2, u "TAU"), (2, u "DEGREES_TO_RADIANS"), (0, u "RADIANS_TO_DEGREES")] 94

def k3m0 : Method := { name := "<init>", desc := "()V", sig := { parameters := [], returnType := none }, accessFlags := 2, code := none }
def k3c1 : Code := { maxStack := 4, maxLocals := 2, code := jdk_29_method_61_code, exceptionTable := #[], attributes := #[] }
def k3m1 : Method := { name := "abs", desc := "(J)J", sig := { parameters := [.long], returnType := some .long }, accessFlags := 9, code := some k3c1 }
/-- java/lang/Math -/
def k3 : Class := { plain "java/lang/Math" (some 0) with
  accessFlags := 49
  interfaces := #[]
  cf := some (fileOf pool3 1 #[.nestMembers #[98]] #[{ accessFlags := 2, nameIndex := 7, descriptorIndex := 8, attributes := #[] }, { accessFlags := 9, nameIndex := 124, descriptorIndex := 125, attributes := #[] }] 49 4 #[] #[{ accessFlags := 25, nameIndex := 354, descriptorIndex := 339, attributes := #[] }, { accessFlags := 25, nameIndex := 358, descriptorIndex := 339, attributes := #[] }, { accessFlags := 25, nameIndex := 361, descriptorIndex := 339, attributes := #[] }, { accessFlags := 26, nameIndex := 364, descriptorIndex := 339, attributes := #[] }, { accessFlags := 26, nameIndex := 365, descriptorIndex := 339, attributes := #[] }, { accessFlags := 26, nameIndex := 172, descriptorIndex := 173, attributes := #[] }, { accessFlags := 26, nameIndex := 176, descriptorIndex := 173, attributes := #[] }, { accessFlags := 8, nameIndex := 344, descriptorIndex := 339, attributes := #[] }, { accessFlags := 8, nameIndex := 338, descriptorIndex := 339, attributes := #[] }, { accessFlags := 4120, nameIndex := 245, descriptorIndex := 246, attributes := #[] }])
  fields := #[{ name := "E", type := .double, accessFlags := 25, slot := 0, constantValue := 0 }, { name := "PI", type := .double, accessFlags := 25, slot := 1, constantValue := 0 }, { name := "TAU", type := .double, accessFlags := 25, slot := 2, constantValue := 0 }, { name := "DEGREES_TO_RADIANS", type := .double, accessFlags := 26, slot := 3, constantValue := 0 }, { name := "RADIANS_TO_DEGREES", type := .double, accessFlags := 26, slot := 4, constantValue := 0 }, { name := "negativeZeroFloatBits", type := .long, accessFlags := 26, slot := 5, constantValue := 0 }, { name := "negativeZeroDoubleBits", type := .long, accessFlags := 26, slot := 6, constantValue := 0 }, { name := "twoToTheDoubleScaleUp", type := .double, accessFlags := 8, slot := 7, constantValue := 0 }, { name := "twoToTheDoubleScaleDown", type := .double, accessFlags := 8, slot := 8, constantValue := 0 }, { name := "$assertionsDisabled", type := .boolean, accessFlags := 4120, slot := 9, constantValue := 0 }]
  methods := #[k3m0, k3m1]
  instanceTypes := #[]
  staticTypes := #[.double, .double, .double, .double, .double, .long, .long, .double, .double, .boolean]
  resolved := Array.replicate 460 none
  statics := none }

def pool4 : Array CpInfo := pool [(1, u "java/lang/Cloneable"), (0, .class_ 1), (0, u "java/lang/Object"), (0, .class_ 3)] 3

/-- java/lang/Cloneable -/
def k4 : Class := { plain "java/lang/Cloneable" (some 0) with
  accessFlags := 1537
  interfaces := #[]
  cf := some (fileOf pool4 2 #[] #[] 1537 4 #[] #[])
  fields := #[]
  methods := #[]
  instanceTypes := #[]
  staticTypes := #[]
  resolved := Array.replicate 8 none
  statics := none }

def pool5 : Array CpInfo := pool [(1, u "java/io/Serializable"), (0, .class_ 1), (0, u "java/lang/Object"), (0, .class_ 3)] 3

/-- java/io/Serializable -/
def k5 : Class := { plain "java/io/Serializable" (some 0) with
  accessFlags := 1537
  interfaces := #[]
  cf := some (fileOf pool5 2 #[] #[] 1537 4 #[] #[])
  fields := #[]
  methods := #[]
  instanceTypes := #[]
  staticTypes := #[]
  resolved := Array.replicate 8 none
  statics := none }

/-- the primitive byte -/
def k6 : Class := { plain "byte" none with kind := .primitive 'B', accessFlags := 0x411 }
/-- [B -/
def k7 : Class := { plain "[B" (some 0) with kind := .array 6 .byte, interfaces := #[4, 5], accessFlags := 1041 }

/-- the primitive int -/
def k8 : Class := { plain "int" none with kind := .primitive 'I', accessFlags := 0x411 }
/-- [I -/
def k9 : Class := { plain "[I" (some 0) with kind := .array 8 .int, interfaces := #[4, 5], accessFlags := 1041 }

def heap : Heap := #[]
def classes : Array Class := #[k0, k1, k2, k3, k4, k5, k6, k7, k8, k9]
def interned : List (Array UInt16 × Addr) := []
def slotsUsed : Nat := 0
def theMethod : MethodId := ⟨1, 1⟩
def args0 : Array Value := #[.long 5, .long 5, .long 5, .long 5]
def aboutOver (below : List Frame) : State where
  vm := { classes := classes, interned := interned.toArray }
  heap := heap
  slotsUsed := slotsUsed
  threads := #[{ frames := .invoking theMethod args0 :: below }]
def below0 : List Frame := [.native { method := ⟨0, 0⟩, args := #[] }]
def about1 : State := aboutOver below0
def p0 : Program := .bare "" "" ""
def e0 : Env := launch0.env 0 0 0
theorem w_frames : about1.frames = Frame.invoking theMethod args0 :: below0 := rfl
set_option maxRecDepth 65536 in
theorem w_args : argsFit about1.vm theMethod args0 = true := by decide +kernel
set_option maxRecDepth 65536 in
theorem w_heap : heapFits about1 = true := by decide +kernel
set_option maxRecDepth 65536 in
theorem w_runnable : about1.curStatus? = some .runnable := by decide +kernel
set_option maxRecDepth 65536 in
theorem w_alone : about1.alone = true := by decide +kernel
set_option maxRecDepth 65536 in
theorem w_named : about1.methodNamed? x = some theMethod := by decide +kernel
set_option maxRecDepth 65536 in
theorem w_hears : about1.hears theMethod below0 = true := by decide +kernel
set_option maxRecDepth 65536 in
theorem w_ripe : about1.ripe theMethod args0 below0 = true := by decide +kernel
theorem w_running : about1.status = .running := rfl
set_option maxRecDepth 65536 in
theorem w_room : about1.hasRoom e0.platform room_1 = true :=
  launch0.hasRoom_least _ room_1 (by decide +kernel) (by decide +kernel) (by decide +kernel) (by decide +kernel) (by decide +kernel) (by decide +kernel)
theorem allAtoms_all (ts : List Jvm.Cond) (a : Array Jvm.Value) (st : Jvm.State) : (allAtoms ts).before a st = ts.all (fun c => c.before a st) := by
  induction ts with
  | nil => rfl
  | cons c t ih =>
    show (Jvm.Cond.and c (allAtoms t)).before a st = _
    rw [Jvm.Cond.before_and, ih, List.all_cons]
def words1 : List Jvm.Cond := Jvm.Cond.code x code maxLocals ret :: tables_1
/-- a 'code' word, met by the world's own term for the bytes: nothing is compared byte by byte -/
theorem code_word {y : MethodName} {bytes : ByteArray} {mx : Nat} {rt : Option FieldType} {a : Array Value} {s : State} {m : MethodId} {meth : Method} {c : Code} (h1 : s.methodNamed? y = some m) (h2 : s.vm.method? m = some meth) (h3 : meth.code = some c) (h4 : c.code = bytes)
    (h5 : (c.maxLocals == mx && c.exceptionTable.isEmpty && decide (c.maxStack ≤ mostOperands) && decide (meth.sig.returnType = rt) && !meth.locks && decide (parseMethodDescriptor y.desc = some meth.sig)) = true) : (Jvm.Cond.code y bytes mx rt).before a s = true := by
  simp only [Bool.and_eq_true, beq_iff_eq, Bool.not_eq_true', decide_eq_true_eq] at h5
  obtain ⟨⟨⟨⟨⟨g1, g2⟩, g3⟩, g4⟩, g5⟩, g6⟩ := h5
  simp [Cond.before, Cond.holds, Cond.value, h1, h2, h3, h4, g1, g2, g3, g4, g5, g6]
def isCode : Jvm.Cond → Bool
  | .code _ _ _ _ => true
  | _ => false
theorem all_split {L : List Jvm.Cond} {P : Jvm.Cond → Bool} (h1 : L.all (fun c => isCode c || P c) = true) (h2 : ∀ c ∈ L.filter isCode, P c = true) : L.all P = true := by
  refine List.all_eq_true.mpr fun c hc => ?_
  have h := List.all_eq_true.mp h1 c hc
  rcases Bool.eq_false_or_eq_true (isCode c) with hi | hi
  · exact h2 c (List.mem_filter.mpr ⟨hc, hi⟩)
  · simpa [hi] using h
set_option maxRecDepth 65536 in
theorem w_c0 : (Jvm.Cond.code x code maxLocals ret).before args0 about1 = true := code_word (m := ⟨1, 1⟩) (meth := k1m1) (c := k1c1) (by decide +kernel) rfl rfl rfl (by decide +kernel)
set_option maxRecDepth 65536 in
theorem w_c1 : (Jvm.Cond.code ({ cls := "com/example/wanderpath/wanderpath/Winding", name := "isGentleTurn", desc := "(JJJJ)Z" } : Jvm.MethodName) prog_32_method_12_code (10 : Nat) (Option.some Jvm.ClassFile.FieldType.boolean)).before args0 about1 = true := code_word (m := ⟨2, 0⟩) (meth := k2m0) (c := k2c0) (by decide +kernel) rfl rfl rfl (by decide +kernel)
set_option maxRecDepth 65536 in
theorem w_c2 : (Jvm.Cond.code ({ cls := "java/lang/Math", name := "abs", desc := "(J)J" } : Jvm.MethodName) jdk_29_method_61_code (2 : Nat) (Option.some Jvm.ClassFile.FieldType.long)).before args0 about1 = true := code_word (m := ⟨3, 1⟩) (meth := k3m1) (c := k3c1) (by decide +kernel) rfl rfl rfl (by decide +kernel)
def codes1 : List Jvm.Cond := [Jvm.Cond.code x code maxLocals ret, Jvm.Cond.code ({ cls := "com/example/wanderpath/wanderpath/Winding", name := "isGentleTurn", desc := "(JJJJ)Z" } : Jvm.MethodName) prog_32_method_12_code (10 : Nat) (Option.some Jvm.ClassFile.FieldType.boolean), Jvm.Cond.code ({ cls := "java/lang/Math", name := "abs", desc := "(J)J" } : Jvm.MethodName) jdk_29_method_61_code (2 : Nat) (Option.some Jvm.ClassFile.FieldType.long)]
set_option maxRecDepth 65536 in
theorem codes_eq : words1.filter isCode = codes1 := rfl
theorem w_codes : ∀ c ∈ words1.filter isCode, c.before args0 about1 = true := by
  rw [codes_eq]
  intro c hc
  simp only [codes1, List.mem_cons, List.not_mem_nil, or_false] at hc
  rcases hc with rfl | rfl | rfl
  · exact w_c0
  · exact w_c1
  · exact w_c2
set_option maxRecDepth 65536 in
theorem w_t1 : words1.all (fun c => isCode c || c.before args0 about1) = true := by decide +kernel
theorem w_tables : (allAtoms (Jvm.Cond.code x code maxLocals ret :: tables_1)).before args0 about1 = true := by
  rw [allAtoms_all]
  show words1.all (fun c => c.before args0 about1) = true
  refine all_split ?_ w_codes
  rw [w_t1]
set_option maxRecDepth 65536 in
theorem w_case : (Jvm.Cond.and given_1 narrow_1).before args0 about1 = true := by decide +kernel
theorem w_applies : (headSpec (Jvm.Cond.code x code maxLocals ret :: tables_1) room_1).applies x e0.platform about1 = true :=
  (Spec.applies_iff w_frames).mpr ⟨w_running, w_runnable, w_alone, w_named, w_hears, w_ripe, w_room, w_tables⟩
theorem atStart : AtStart classFile x code maxLocals ret World_1 tables_1 room_1 Calls_1 rest_1 Pre_1 launch0 p0 e0 about1 theMethod args0 below0 :=
  ⟨lists_1, trivial, launch0.admits_env _ _ _, launch0.least_env, fairChoices_fair.cas, fairChoices_fair.clock, w_frames, w_args, w_heap, w_applies, trivial, trivial, w_case⟩
end start1
theorem witness_1 : WitnessClaimed_1 := ⟨start1.p0, start1.e0, start1.about1, start1.theMethod, start1.args0, start1.below0, start1.atStart⟩
end Jvm.Pilot.@@N@@
