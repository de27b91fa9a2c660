import JvmDerived
import JvmDerived.Pilot.@@N@@Statement
import JvmDerived.Pilot.@@N@@Code
set_option linter.unusedVariables false
set_option linter.unusedSimpArgs false

namespace Jvm.RoadKit
open Sem ClassFile Op Lib Jvm.Stand Jvm.Free Jvm.LawKit
section New
variable {p : Program} {l : Launch} {e : Env} {R : Room} {s : State} {m : MethodId} {args : Array Value} {below : List Frame} {meth : Method} {c : Code} {T : State} {locs : List Loc} {cells slots : Nat}
theorem retI (X : Stand p l e R s m args below meth c T locs cells slots) (hx : p.tables.exec = Jvm.exec) {pc : Nat} {Ls : Array Slot} {z : Int32} {rest : List Value} (hret : meth.sig.returnType = some .int) (hd : decode c.code pc = .ok (.ireturn, 1)) {fs : List Frame}
    (hl : ∀ (f : JFrame) (acts : List Action), f.method = m → f.locked = none → f.entered = [] → (doReturn e (T.setTop f) acts (some (.int z))).1 = T.setFrames fs) : Steps p.tables e below (T.setTop (mkF m pc Ls (.int z :: rest))) (T.setFrames fs) := by
  have hm' : T.vm.method? m = some meth := X.method'
  have hn : narrow .int (.int z) = .int z := rfl
  show Steps p.tables e below (T.setTop { method := m, pc := pc, locals := Ls, stack := _ :: rest, locked := none }) _
  jvm_step X.here [X.here.top, hx, hd, hm', hret, hn]
  first | (intro acts; rw [hl _ acts rfl rfl rfl]) | rw [hl _ _ rfl rfl rfl]
  exact Steps.refl _
/-- the walk's goal, at any point of it -/
def Gl (p : Program) (e : Env) (below : List Frame) (s : State) (Q : Option Value → Heap → List Loc → Prop) (C N : Nat) (T : State) (g : JFrame) : Prop :=
  ∃ s₂ o, Steps p.tables e below (T.setTop g) s₂ ∧ s₂.status = .running ∧ Ended s₂ below o ∧ ∃ v L, o = .returned v ∧ Q v s₂.heap L ∧ FrameEnd s o s₂ L C N
variable {Q : Option Value → Heap → List Loc → Prop} {C N : Nat} {T' : State} {g g' : JFrame} {h : Heap}
theorem Gl.st (f : ∀ t, Steps p.tables e below (T'.setTop g') t → Steps p.tables e below (T.setTop g) t) (k : Gl p e below s Q C N T' g') : Gl p e below s Q C N T g := by
  obtain ⟨s₂, o, h1, r⟩ := k
  exact ⟨s₂, o, f _ h1, r⟩
theorem Gl.ret (X : Stand p l e R s m args below meth c T locs cells slots) (hlk : meth.locks = false) {v : Option Value} (hv : meth.sig.returnType = none → v = none) (eT : T.heap = h)
    (f : ∀ fs, (∀ (f : JFrame) (acts : List Action), f.method = m → f.locked = none → f.entered = [] → (doReturn e (T.setTop f) acts v).1 = T.setFrames fs) → Steps p.tables e below (T.setTop g) (T.setFrames fs)) (hc : cells ≤ C) (hn : slots ≤ N) (hQ : Q v h locs) : Gl p e below s Q C N T g := by
  obtain ⟨fs, hr, hrun, hended, hW, hsame⟩ := X.leave (v := v) hv hlk
  exact ⟨_, _, f fs hr, hrun, hended, _, _, rfl, by show Q v T.heap _; rw [eT]; exact hQ, ⟨_, rfl⟩, hW, hsame.mono hc hn⟩
theorem Arv.cellX {Z : State} {h : Heap} {a : Addr} {k : ClassId} {ty : FieldType} {z : Int32} {vs : List Value} {dv : Value} (F : Arv Z h a k ty z vs dv) : ∃ c : Cell, h[a]? = some c ∧ ∀ q, c.vm ≠ .statics q := by
  obtain ⟨c, A, -⟩ := F; exact ⟨c, A.1, A.2.1.1⟩
theorem selPrivate {s : State} {args : Array Value} {y z : MethodName} (hzy : z.cls = y.cls) (hsel : (Cond.selects z.cls z z).before args s = true) (hpriv : s.PrivateAt y) (hinst : (Cond.instanceMethod y).before args s = true) (hy : y.cls ≠ "java/lang/invoke/MethodHandle" ∧ y.cls ≠ "java/lang/invoke/VarHandle") : (Cond.selects y.cls y y).before args s = true := by
  obtain ⟨c2, r2, m2, -, -, q3, -, kP, hkP, hkPi⟩ := Cond.selects_spec hsel
  exact selects_self_of_private (by rw [← hzy]; exact findClass_of_methodNamed q3) hkP hkPi hpriv hinst hy
theorem Sta.keepX {Z : State} {h h' : Heap} {C n d : String} {v : Value} {ws : List Addr} (F : Sta Z h C n d v) (K : Keep h h' ws) (q : ∀ x ∈ ws, ∃ c : Cell, h[x]? = some c ∧ ∀ q, c.vm ≠ .statics q) : Sta Z h' C n d v := by
  obtain ⟨cf, i, k, f, st, cell, h1, h2, h3, h4, h5, h6, h7⟩ := F
  refine ⟨cf, i, k, f, st, cell, h1, h2, h3, h4, K.2.1 st cell h5 fun z => ?_, h6, h7⟩
  obtain ⟨c, e1, e2⟩ := q st z
  cases h5.symm.trans e1
  cases hv : cell.vm <;> simp [hv, VmData.isStatics] at h6
  exact e2 _ hv
end New
end Jvm.RoadKit
namespace Jvm.Pilot.@@N@@
open Jvm Jvm.ClassFile Sem Op Lib Jvm.Free Jvm.Stand Jvm.LawKit Jvm.RoadKit Bundle Jvm.Pilot.@@N@@.Jvm.D

def own_digit (c : Int32) : Int32 := if c < 48 then 0 else if 57 < c then 0 else 1
theorem own_none (c : Int32) (h0 : ¬ c = 48) (h1 : ¬ c = 49) (h2 : ¬ c = 50) (h3 : ¬ c = 51) (h4 : ¬ c = 52) (h5 : ¬ c = 53) (h6 : ¬ c = 54) (h7 : ¬ c = 55) (h8 : ¬ c = 56) (h9 : ¬ c = 57) : own_digit c = 0 := by
  unfold own_digit
  by_cases a : c < 48
  · simp [a]
  · by_cases b : 57 < c
    · simp [a, b]
    · exfalso
      rw [Int32.lt_iff_toInt_lt] at a b
      rw [← Int32.toInt_inj] at h0 h1 h2 h3 h4 h5 h6 h7 h8 h9
      simp only [show (48 : Int32).toInt = 48 from rfl, show (49 : Int32).toInt = 49 from rfl, show (50 : Int32).toInt = 50 from rfl, show (51 : Int32).toInt = 51 from rfl, show (52 : Int32).toInt = 52 from rfl, show (53 : Int32).toInt = 53 from rfl, show (54 : Int32).toInt = 54 from rfl, show (55 : Int32).toInt = 55 from rfl, show (56 : Int32).toInt = 56 from rfl, show (57 : Int32).toInt = 57 from rfl] at *
      omega
theorem d1_0 : decode prog_1_method_5_code 0 = .ok (.iload_n 0, 1) := by decide +kernel
theorem d1_1 : decode prog_1_method_5_code 1 = .ok (.bipush 48, 2) := by decide +kernel
theorem d1_3 : decode prog_1_method_5_code 3 = .ok (.if_icmp .lt 13, 3) := by decide +kernel
theorem d1_16 : decode prog_1_method_5_code 16 = .ok (.iconst 0, 1) := by decide +kernel
theorem d1_17 : decode prog_1_method_5_code 17 = .ok (.ireturn, 1) := by decide +kernel
theorem d1_6 : decode prog_1_method_5_code 6 = .ok (.iload_n 0, 1) := by decide +kernel
theorem d1_7 : decode prog_1_method_5_code 7 = .ok (.bipush 57, 2) := by decide +kernel
theorem d1_9 : decode prog_1_method_5_code 9 = .ok (.if_icmp .gt 7, 3) := by decide +kernel
theorem d1_12 : decode prog_1_method_5_code 12 = .ok (.iconst 1, 1) := by decide +kernel
theorem d1_13 : decode prog_1_method_5_code 13 = .ok (.goto 4, 3) := by decide +kernel
theorem pn_com_example_sealgrant_sealgrant_Ascii : plainName "com/example/sealgrant/sealgrant/Ascii" = true := by first | (simp [plainName, overriddenIn]; done) | decide +kernel
theorem ef_rm1 (m : MethodId) (ch : Int32) : entryFrame m #[(.int ch)] 1 = mkF m 0 #[.val (.int ch)] [] := by first | (simp [entryFrame, mkF, argsToLocals, Value.category]; done) | rfl
def Q_rm1 (Z : State) (ch : Int32)  (h0 : Heap) (n0 : Nat) (v : Option Value) (h : Heap) (L : List Loc) : Prop := v = some (.int (own_digit ch)) ∧ Fr n0 L ∧ h = h0
set_option maxRecDepth 65536 in
set_option maxHeartbeats 40000000 in
theorem rm1 (l : Launch) (Z : State) (a0 : Array Value) (hw : ∀ d ∈ tables_1, d.before a0 Z = true) (ws : List Jvm.Cond) (ch : Int32)  (h0 : Heap) (n0 : Nat) (Z0 : n0 ≤ h0.size)  :
    MetFree l (⟨"com/example/sealgrant/sealgrant/Ascii", "digit", "(C)Z"⟩ : MethodName) (head1 (Jvm.Cond.code (⟨"com/example/sealgrant/sealgrant/Ascii", "digit", "(C)Z"⟩ : MethodName) prog_1_method_5_code 1 (some .boolean) :: ws) ({ frames := 0, cells := 0, slots := 0, locals := 0 } : Room)) (fun a U => a = #[(.int ch)] ∧ Z.Warmed39 U.vm ∧ U.heap = h0) (fun _ _ _ _ _ => True) (fun _ U o U' => ∃ v L, o = .returned v ∧ Q_rm1 Z ch  h0 n0 v U'.heap L ∧ FrameEnd U o U' L ({ frames := 0, cells := 0, slots := 0, locals := 0 } : Room).cells ({ frames := 0, cells := 0, slots := 0, locals := 0 } : Room).slots) := by
  refine MetFree.of_bodySF (plainFor_of_name pn_com_example_sealgrant_sealgrant_Ascii) hisR ?_
  intro p e s m args below meth c s₁ Bd hml0 hP hK
  obtain ⟨rfl, hZ, hh⟩ := hP
  have hx := Bd.exec
  have hby := Bd.bytes
  have hml : c.maxLocals = 1 := hml0
  have hown : s.vm.findClass "com/example/sealgrant/sealgrant/Ascii" = some m.cls := findClass_of_methodNamed Bd.named
  have hnm := (name_of_methodNamed Bd.named Bd.method).1
  have X0 : Stand p l e ({ frames := 0, cells := 0, slots := 0, locals := 0 } : Room) s m #[(.int ch)] below meth c s₁ [] 0 0 := Stand.of_body Bd
  have e0 : s₁.heap = h0 := by rw [← hh, Bd.state]; rfl
  have N0 := Fr.nil n0
  suffices k0 : Gl p e below s (Q_rm1 Z ch  h0 n0) ({ frames := 0, cells := 0, slots := 0, locals := 0 } : Room).cells ({ frames := 0, cells := 0, slots := 0, locals := 0 } : Room).slots s₁ (mkF m 0 #[.val (.int ch)] []) from Gl.st (fun t k => castTop (ef_rm1 m ch) k) k0
  refine Gl.st (g' := (mkF m 1 #[.val (.int ch)] [(.int ch)])) (fun τ κ => XS.iloadN X0.here hx rfl (hb hby d1_0) rfl κ) ?_
  refine Gl.st (g' := (mkF m 3 #[.val (.int ch)] [(.int (48 : Int32)), (.int ch)])) (fun τ κ => XS.bipush X0.here hx rfl (hb hby d1_1) κ) ?_
  by_cases hc1 : ch < (48 : Int32)
  · -- pc 3: ch < (48 : Int32)
    refine Gl.st (g' := (mkF m 16 #[.val (.int ch)] [])) (fun τ κ => XS.icmpYes X0.here hx rfl (pc0 := 3) (pc' := 16) rfl (hb hby d1_3) rfl (tlt hc1).1 (by decide) (by decide) κ) ?_
    refine Gl.st (g' := (mkF m 17 #[.val (.int ch)] [(.int (0 : Int32))])) (fun τ κ => XS.iconst X0.here hx rfl (hb hby d1_16) κ) ?_
    exact Gl.ret (v := some (.int (0 : Int32))) X0 Bd.notSynchronized (fun h => by rw [Bd.returns] at h; cases h) e0 (fun fs hr => retN X0 hx (t := .boolean) Bd.returns (by simp) (hb hby d1_17) hr) (by decide) (by decide) ⟨by simp [own_digit, hc1], N0, rfl⟩
  · -- pc 3: not ch < (48 : Int32)
    refine Gl.st (g' := (mkF m 6 #[.val (.int ch)] [])) (fun τ κ => XS.icmpNo X0.here hx rfl (hb hby d1_3) rfl (flt hc1).1 κ) ?_
    refine Gl.st (g' := (mkF m 7 #[.val (.int ch)] [(.int ch)])) (fun τ κ => XS.iloadN X0.here hx rfl (hb hby d1_6) rfl κ) ?_
    refine Gl.st (g' := (mkF m 9 #[.val (.int ch)] [(.int (57 : Int32)), (.int ch)])) (fun τ κ => XS.bipush X0.here hx rfl (hb hby d1_7) κ) ?_
    by_cases hc2 : (57 : Int32) < ch
    · -- pc 9: (57 : Int32) < ch
      refine Gl.st (g' := (mkF m 16 #[.val (.int ch)] [])) (fun τ κ => XS.icmpYes X0.here hx rfl (pc0 := 9) (pc' := 16) rfl (hb hby d1_9) rfl (tlt hc2).2.2.1 (by decide) (by decide) κ) ?_
      refine Gl.st (g' := (mkF m 17 #[.val (.int ch)] [(.int (0 : Int32))])) (fun τ κ => XS.iconst X0.here hx rfl (hb hby d1_16) κ) ?_
      exact Gl.ret (v := some (.int (0 : Int32))) X0 Bd.notSynchronized (fun h => by rw [Bd.returns] at h; cases h) e0 (fun fs hr => retN X0 hx (t := .boolean) Bd.returns (by simp) (hb hby d1_17) hr) (by decide) (by decide) ⟨by simp [own_digit, hc1, hc2], N0, rfl⟩
    · -- pc 9: not (57 : Int32) < ch
      refine Gl.st (g' := (mkF m 12 #[.val (.int ch)] [])) (fun τ κ => XS.icmpNo X0.here hx rfl (hb hby d1_9) rfl (flt hc2).2.2.1 κ) ?_
      refine Gl.st (g' := (mkF m 13 #[.val (.int ch)] [(.int (1 : Int32))])) (fun τ κ => XS.iconst X0.here hx rfl (hb hby d1_12) κ) ?_
      refine Gl.st (g' := (mkF m 17 #[.val (.int ch)] [(.int (1 : Int32))])) (fun τ κ => XS.goto X0.here hx rfl (pc0 := 13) (pc' := 17) rfl (hb hby d1_13) (by decide) (by decide) κ) ?_
      exact Gl.ret (v := some (.int (1 : Int32))) X0 Bd.notSynchronized (fun h => by rw [Bd.returns] at h; cases h) e0 (fun fs hr => retN X0 hx (t := .boolean) Bd.returns (by simp) (hb hby d1_17) hr) (by decide) (by decide) ⟨by simp [own_digit, hc1, hc2], N0, rfl⟩
theorem pd_0 : parseMethodDescriptor "(C)Z" = some ⟨[.char], some .boolean⟩ := by decide +kernel
theorem pn_com_example_sealgrant_sealgrant_AsciiDigitPinLaw : plainName "com/example/sealgrant/sealgrant/AsciiDigitPinLaw" = true := by first | (simp [plainName, overriddenIn]; done) | decide +kernel
theorem ef_rm0 (m : MethodId) (x0 : Int32) : entryFrame m #[(.int x0)] maxLocals = mkF m 0 #[.val (.int x0), .unset, .unset] [] := by first | (simp [entryFrame, mkF, argsToLocals, Value.category, maxLocals]; done) | rfl
def Q_rm0 (Z : State) (x0 : Int32)  (h0 : Heap) (n0 : Nat) (v : Option Value) (h : Heap) (L : List Loc) : Prop := v = some (.int 1) ∧ Fr n0 L
set_option maxRecDepth 65536 in
set_option maxHeartbeats 40000000 in
theorem rm0 (l : Launch) (Z : State) (a0 : Array Value) (hw : ∀ d ∈ tables_1, d.before a0 Z = true) (ws : List Jvm.Cond) (x0 : Int32)  (h0 : Heap) (n0 : Nat) (Z0 : n0 ≤ h0.size)  :
    MetFree l x (head1 (Jvm.Cond.code x code maxLocals ret :: ws) room_1) (fun a U => a = #[(.int x0)] ∧ Z.Warmed39 U.vm ∧ U.heap = h0) (fun _ _ _ _ _ => True) (fun _ U o U' => ∃ v L, o = .returned v ∧ Q_rm0 Z x0  h0 n0 v U'.heap L ∧ FrameEnd U o U' L 0 0) := by
  refine MetFree.of_bodySF (plainFor_of_name pn_com_example_sealgrant_sealgrant_AsciiDigitPinLaw) hisR ?_
  intro p e s m args below meth c s₁ Bd hml0 hP hK
  obtain ⟨rfl, hZ, hh⟩ := hP
  have hx := Bd.exec
  have hby := Bd.bytes
  have hml : c.maxLocals = 3 := hml0
  have hown : s.vm.findClass "com/example/sealgrant/sealgrant/AsciiDigitPinLaw" = some m.cls := findClass_of_methodNamed Bd.named
  have hnm := (name_of_methodNamed Bd.named Bd.method).1
  have X0 : Stand p l e room_1 s m #[(.int x0)] below meth c s₁ [] 0 0 := Stand.of_body Bd
  have e0 : s₁.heap = h0 := by rw [← hh, Bd.state]; rfl
  have N0 := Fr.nil n0
  suffices k0 : Gl p e below s (Q_rm0 Z x0  h0 n0) 0 0 s₁ (mkF m 0 #[.val (.int x0), .unset, .unset] []) from Gl.st (fun t k => castTop (ef_rm0 m x0) k) k0
  refine Gl.st (g' := (mkF m 1 #[.val (.int x0), .unset, .unset] [(.int x0)])) (fun τ κ => XS.iloadN X0.here hx rfl (hb hby at_0) rfl κ) ?_
  refine Gl.st (g' := (mkF m 2 #[.val (.int x0), .unset, .unset] [(.int (x0.toUInt32.toUInt16.toUInt32.toInt32))])) (fun τ κ => XS.i2c X0.here hx rfl (hb hby at_1) rfl κ) ?_
  generalize hcx : (x0.toUInt32.toUInt16.toUInt32.toInt32) = c1
  refine Gl.st (g' := (mkF m 3 #[.val (.int x0), .val (.int c1), .unset] [])) (fun τ κ => XS.istoreN X0.here hx rfl (hb hby at_2) rfl (l' := #[.val (.int x0), .val (.int c1), .unset]) rfl κ) ?_
  refine Gl.st (g' := (mkF m 4 #[.val (.int x0), .val (.int c1), .unset] [(.int c1)])) (fun τ κ => XS.iloadN X0.here hx rfl (hb hby at_3) rfl κ) ?_
  refine Gl.st (g' := (mkF m 6 #[.val (.int x0), .val (.int c1), .unset] [(.int (48 : Int32)), (.int c1)])) (fun τ κ => XS.bipush X0.here hx rfl (hb hby at_4) κ) ?_
  by_cases hc3 : c1 = (48 : Int32)
  · -- pc 6: c1 = (48 : Int32)
    refine Gl.st (g' := (mkF m 63 #[.val (.int x0), .val (.int c1), .unset] [])) (fun τ κ => XS.icmpYes X0.here hx rfl (pc0 := 6) (pc' := 63) rfl (hb hby at_6) rfl (teq hc3).1 (by decide) (by decide) κ) ?_
    refine Gl.st (g' := (mkF m 64 #[.val (.int x0), .val (.int c1), .unset] [(.int (1 : Int32))])) (fun τ κ => XS.iconst X0.here hx rfl (hb hby at_63) κ) ?_
    refine Gl.st (g' := (mkF m 68 #[.val (.int x0), .val (.int c1), .unset] [(.int (1 : Int32))])) (fun τ κ => XS.goto X0.here hx rfl (pc0 := 64) (pc' := 68) rfl (hb hby at_64) (by decide) (by decide) κ) ?_
    refine Gl.st (g' := (mkF m 69 #[.val (.int x0), .val (.int c1), .val (.int (1 : Int32))] [])) (fun τ κ => XS.istoreN X0.here hx rfl (hb hby at_68) rfl (l' := #[.val (.int x0), .val (.int c1), .val (.int (1 : Int32))]) rfl κ) ?_
    refine Gl.st (g' := (mkF m 70 #[.val (.int x0), .val (.int c1), .val (.int (1 : Int32))] [(.int c1)])) (fun τ κ => XS.iloadN X0.here hx rfl (hb hby at_69) rfl κ) ?_
    obtain ⟨rv4, _, ⟨T4, L4, k4, n4⟩, -, X4, ⟨Lc4, hQ4, l4, y4, z4⟩, st4⟩ := Jvm.LawKit.callS X0 hx (y := (⟨"com/example/sealgrant/sealgrant/Ascii", "digit", "(C)Z"⟩ : MethodName)) hown (mvT hZ (hw _ (List.mem_of_getElem? (i := 0) rfl))) (mvT hZ (hw _ (List.mem_of_getElem? (i := 1) rfl))) (mvT hZ (hw _ (List.mem_of_getElem? (i := 2) rfl))) (mvT hZ (hw _ (List.mem_of_getElem? (i := 3) rfl))) (by decide) (backOf (W := 0) (rm1 l Z a0 hw [] c1 h0 n0 Z0 ) hZ (hw _ (List.mem_of_getElem? (i := 3) rfl)) (hw _ (List.mem_of_getElem? (i := 2) rfl)) (by decide) (by decide)) (g := (mkF m 70 #[.val (.int x0), .val (.int c1), .val (.int (1 : Int32))] [(.int c1)])) rfl (by rw [hml]; rfl) (argsL := [(.int c1)]) (rest := []) (lenOf pd_0 rfl) rfl (by show 2 * 0 + _ ≤ _; exact Nat.le_of_eq rfl) (hb hby at_70) (fun _ _ => ⟨rfl, e0, (by decide : 0 + 0 ≤ _), (by decide : 0 + 0 ≤ _)⟩)
    dsimp only [Pt.U, Pt.locs, Pt.cells, Pt.slots] at X4 l4 y4 z4 st4 hQ4
    subst l4 y4 z4
    obtain ⟨rfl, N4q, e4⟩ := hQ4
    have N4 := Fr.app N0 N4q
    refine Gl.st (g' := (mkF m 73 #[.val (.int x0), .val (.int c1), .val (.int (1 : Int32))] [(.int (own_digit c1))])) (fun τ κ => st4 _ κ) ?_
    refine Gl.st (g' := (mkF m 74 #[.val (.int x0), .val (.int c1), .val (.int (1 : Int32))] [(.int (1 : Int32)), (.int (own_digit c1))])) (fun τ κ => XS.iloadN X4.here hx rfl (hb hby at_73) rfl κ) ?_
    have hc5 : (own_digit c1) = (1 : Int32) := by rw [hc3]; decide
    refine Gl.st (g' := (mkF m 77 #[.val (.int x0), .val (.int c1), .val (.int (1 : Int32))] [])) (fun τ κ => XS.icmpNo X4.here hx rfl (hb hby at_74) rfl (teq hc5).2 κ) ?_
    refine Gl.st (g' := (mkF m 78 #[.val (.int x0), .val (.int c1), .val (.int (1 : Int32))] [(.int (1 : Int32))])) (fun τ κ => XS.iconst X4.here hx rfl (hb hby at_77) κ) ?_
    refine Gl.st (g' := (mkF m 82 #[.val (.int x0), .val (.int c1), .val (.int (1 : Int32))] [(.int (1 : Int32))])) (fun τ κ => XS.goto X4.here hx rfl (pc0 := 78) (pc' := 82) rfl (hb hby at_78) (by decide) (by decide) κ) ?_
    exact Gl.ret (v := some (.int (1 : Int32))) X4 Bd.notSynchronized (fun h => by rw [Bd.returns] at h; cases h) e4 (fun fs hr => retN X4 hx (t := .boolean) Bd.returns (by simp) (hb hby at_82) hr) (by decide) (by decide) ⟨rfl, N4⟩
  · -- pc 6: not c1 = (48 : Int32)
    refine Gl.st (g' := (mkF m 9 #[.val (.int x0), .val (.int c1), .unset] [])) (fun τ κ => XS.icmpNo X0.here hx rfl (hb hby at_6) rfl (feq hc3).1 κ) ?_
    refine Gl.st (g' := (mkF m 10 #[.val (.int x0), .val (.int c1), .unset] [(.int c1)])) (fun τ κ => XS.iloadN X0.here hx rfl (hb hby at_9) rfl κ) ?_
    refine Gl.st (g' := (mkF m 12 #[.val (.int x0), .val (.int c1), .unset] [(.int (49 : Int32)), (.int c1)])) (fun τ κ => XS.bipush X0.here hx rfl (hb hby at_10) κ) ?_
    by_cases hc6 : c1 = (49 : Int32)
    · -- pc 12: c1 = (49 : Int32)
      refine Gl.st (g' := (mkF m 63 #[.val (.int x0), .val (.int c1), .unset] [])) (fun τ κ => XS.icmpYes X0.here hx rfl (pc0 := 12) (pc' := 63) rfl (hb hby at_12) rfl (teq hc6).1 (by decide) (by decide) κ) ?_
      refine Gl.st (g' := (mkF m 64 #[.val (.int x0), .val (.int c1), .unset] [(.int (1 : Int32))])) (fun τ κ => XS.iconst X0.here hx rfl (hb hby at_63) κ) ?_
      refine Gl.st (g' := (mkF m 68 #[.val (.int x0), .val (.int c1), .unset] [(.int (1 : Int32))])) (fun τ κ => XS.goto X0.here hx rfl (pc0 := 64) (pc' := 68) rfl (hb hby at_64) (by decide) (by decide) κ) ?_
      refine Gl.st (g' := (mkF m 69 #[.val (.int x0), .val (.int c1), .val (.int (1 : Int32))] [])) (fun τ κ => XS.istoreN X0.here hx rfl (hb hby at_68) rfl (l' := #[.val (.int x0), .val (.int c1), .val (.int (1 : Int32))]) rfl κ) ?_
      refine Gl.st (g' := (mkF m 70 #[.val (.int x0), .val (.int c1), .val (.int (1 : Int32))] [(.int c1)])) (fun τ κ => XS.iloadN X0.here hx rfl (hb hby at_69) rfl κ) ?_
      obtain ⟨rv7, _, ⟨T7, L7, k7, n7⟩, -, X7, ⟨Lc7, hQ7, l7, y7, z7⟩, st7⟩ := Jvm.LawKit.callS X0 hx (y := (⟨"com/example/sealgrant/sealgrant/Ascii", "digit", "(C)Z"⟩ : MethodName)) hown (mvT hZ (hw _ (List.mem_of_getElem? (i := 0) rfl))) (mvT hZ (hw _ (List.mem_of_getElem? (i := 1) rfl))) (mvT hZ (hw _ (List.mem_of_getElem? (i := 2) rfl))) (mvT hZ (hw _ (List.mem_of_getElem? (i := 3) rfl))) (by decide) (backOf (W := 0) (rm1 l Z a0 hw [] c1 h0 n0 Z0 ) hZ (hw _ (List.mem_of_getElem? (i := 3) rfl)) (hw _ (List.mem_of_getElem? (i := 2) rfl)) (by decide) (by decide)) (g := (mkF m 70 #[.val (.int x0), .val (.int c1), .val (.int (1 : Int32))] [(.int c1)])) rfl (by rw [hml]; rfl) (argsL := [(.int c1)]) (rest := []) (lenOf pd_0 rfl) rfl (by show 2 * 0 + _ ≤ _; exact Nat.le_of_eq rfl) (hb hby at_70) (fun _ _ => ⟨rfl, e0, (by decide : 0 + 0 ≤ _), (by decide : 0 + 0 ≤ _)⟩)
      dsimp only [Pt.U, Pt.locs, Pt.cells, Pt.slots] at X7 l7 y7 z7 st7 hQ7
      subst l7 y7 z7
      obtain ⟨rfl, N7q, e7⟩ := hQ7
      have N7 := Fr.app N0 N7q
      refine Gl.st (g' := (mkF m 73 #[.val (.int x0), .val (.int c1), .val (.int (1 : Int32))] [(.int (own_digit c1))])) (fun τ κ => st7 _ κ) ?_
      refine Gl.st (g' := (mkF m 74 #[.val (.int x0), .val (.int c1), .val (.int (1 : Int32))] [(.int (1 : Int32)), (.int (own_digit c1))])) (fun τ κ => XS.iloadN X7.here hx rfl (hb hby at_73) rfl κ) ?_
      have hc8 : (own_digit c1) = (1 : Int32) := by rw [hc6]; decide
      refine Gl.st (g' := (mkF m 77 #[.val (.int x0), .val (.int c1), .val (.int (1 : Int32))] [])) (fun τ κ => XS.icmpNo X7.here hx rfl (hb hby at_74) rfl (teq hc8).2 κ) ?_
      refine Gl.st (g' := (mkF m 78 #[.val (.int x0), .val (.int c1), .val (.int (1 : Int32))] [(.int (1 : Int32))])) (fun τ κ => XS.iconst X7.here hx rfl (hb hby at_77) κ) ?_
      refine Gl.st (g' := (mkF m 82 #[.val (.int x0), .val (.int c1), .val (.int (1 : Int32))] [(.int (1 : Int32))])) (fun τ κ => XS.goto X7.here hx rfl (pc0 := 78) (pc' := 82) rfl (hb hby at_78) (by decide) (by decide) κ) ?_
      exact Gl.ret (v := some (.int (1 : Int32))) X7 Bd.notSynchronized (fun h => by rw [Bd.returns] at h; cases h) e7 (fun fs hr => retN X7 hx (t := .boolean) Bd.returns (by simp) (hb hby at_82) hr) (by decide) (by decide) ⟨rfl, N7⟩
    · -- pc 12: not c1 = (49 : Int32)
      refine Gl.st (g' := (mkF m 15 #[.val (.int x0), .val (.int c1), .unset] [])) (fun τ κ => XS.icmpNo X0.here hx rfl (hb hby at_12) rfl (feq hc6).1 κ) ?_
      refine Gl.st (g' := (mkF m 16 #[.val (.int x0), .val (.int c1), .unset] [(.int c1)])) (fun τ κ => XS.iloadN X0.here hx rfl (hb hby at_15) rfl κ) ?_
      refine Gl.st (g' := (mkF m 18 #[.val (.int x0), .val (.int c1), .unset] [(.int (50 : Int32)), (.int c1)])) (fun τ κ => XS.bipush X0.here hx rfl (hb hby at_16) κ) ?_
      by_cases hc9 : c1 = (50 : Int32)
      · -- pc 18: c1 = (50 : Int32)
        refine Gl.st (g' := (mkF m 63 #[.val (.int x0), .val (.int c1), .unset] [])) (fun τ κ => XS.icmpYes X0.here hx rfl (pc0 := 18) (pc' := 63) rfl (hb hby at_18) rfl (teq hc9).1 (by decide) (by decide) κ) ?_
        refine Gl.st (g' := (mkF m 64 #[.val (.int x0), .val (.int c1), .unset] [(.int (1 : Int32))])) (fun τ κ => XS.iconst X0.here hx rfl (hb hby at_63) κ) ?_
        refine Gl.st (g' := (mkF m 68 #[.val (.int x0), .val (.int c1), .unset] [(.int (1 : Int32))])) (fun τ κ => XS.goto X0.here hx rfl (pc0 := 64) (pc' := 68) rfl (hb hby at_64) (by decide) (by decide) κ) ?_
        refine Gl.st (g' := (mkF m 69 #[.val (.int x0), .val (.int c1), .val (.int (1 : Int32))] [])) (fun τ κ => XS.istoreN X0.here hx rfl (hb hby at_68) rfl (l' := #[.val (.int x0), .val (.int c1), .val (.int (1 : Int32))]) rfl κ) ?_
        refine Gl.st (g' := (mkF m 70 #[.val (.int x0), .val (.int c1), .val (.int (1 : Int32))] [(.int c1)])) (fun τ κ => XS.iloadN X0.here hx rfl (hb hby at_69) rfl κ) ?_
        obtain ⟨rv10, _, ⟨T10, L10, k10, n10⟩, -, X10, ⟨Lc10, hQ10, l10, y10, z10⟩, st10⟩ := Jvm.LawKit.callS X0 hx (y := (⟨"com/example/sealgrant/sealgrant/Ascii", "digit", "(C)Z"⟩ : MethodName)) hown (mvT hZ (hw _ (List.mem_of_getElem? (i := 0) rfl))) (mvT hZ (hw _ (List.mem_of_getElem? (i := 1) rfl))) (mvT hZ (hw _ (List.mem_of_getElem? (i := 2) rfl))) (mvT hZ (hw _ (List.mem_of_getElem? (i := 3) rfl))) (by decide) (backOf (W := 0) (rm1 l Z a0 hw [] c1 h0 n0 Z0 ) hZ (hw _ (List.mem_of_getElem? (i := 3) rfl)) (hw _ (List.mem_of_getElem? (i := 2) rfl)) (by decide) (by decide)) (g := (mkF m 70 #[.val (.int x0), .val (.int c1), .val (.int (1 : Int32))] [(.int c1)])) rfl (by rw [hml]; rfl) (argsL := [(.int c1)]) (rest := []) (lenOf pd_0 rfl) rfl (by show 2 * 0 + _ ≤ _; exact Nat.le_of_eq rfl) (hb hby at_70) (fun _ _ => ⟨rfl, e0, (by decide : 0 + 0 ≤ _), (by decide : 0 + 0 ≤ _)⟩)
        dsimp only [Pt.U, Pt.locs, Pt.cells, Pt.slots] at X10 l10 y10 z10 st10 hQ10
        subst l10 y10 z10
        obtain ⟨rfl, N10q, e10⟩ := hQ10
        have N10 := Fr.app N0 N10q
        refine Gl.st (g' := (mkF m 73 #[.val (.int x0), .val (.int c1), .val (.int (1 : Int32))] [(.int (own_digit c1))])) (fun τ κ => st10 _ κ) ?_
        refine Gl.st (g' := (mkF m 74 #[.val (.int x0), .val (.int c1), .val (.int (1 : Int32))] [(.int (1 : Int32)), (.int (own_digit c1))])) (fun τ κ => XS.iloadN X10.here hx rfl (hb hby at_73) rfl κ) ?_
        have hc11 : (own_digit c1) = (1 : Int32) := by rw [hc9]; decide
        refine Gl.st (g' := (mkF m 77 #[.val (.int x0), .val (.int c1), .val (.int (1 : Int32))] [])) (fun τ κ => XS.icmpNo X10.here hx rfl (hb hby at_74) rfl (teq hc11).2 κ) ?_
        refine Gl.st (g' := (mkF m 78 #[.val (.int x0), .val (.int c1), .val (.int (1 : Int32))] [(.int (1 : Int32))])) (fun τ κ => XS.iconst X10.here hx rfl (hb hby at_77) κ) ?_
        refine Gl.st (g' := (mkF m 82 #[.val (.int x0), .val (.int c1), .val (.int (1 : Int32))] [(.int (1 : Int32))])) (fun τ κ => XS.goto X10.here hx rfl (pc0 := 78) (pc' := 82) rfl (hb hby at_78) (by decide) (by decide) κ) ?_
        exact Gl.ret (v := some (.int (1 : Int32))) X10 Bd.notSynchronized (fun h => by rw [Bd.returns] at h; cases h) e10 (fun fs hr => retN X10 hx (t := .boolean) Bd.returns (by simp) (hb hby at_82) hr) (by decide) (by decide) ⟨rfl, N10⟩
      · -- pc 18: not c1 = (50 : Int32)
        refine Gl.st (g' := (mkF m 21 #[.val (.int x0), .val (.int c1), .unset] [])) (fun τ κ => XS.icmpNo X0.here hx rfl (hb hby at_18) rfl (feq hc9).1 κ) ?_
        refine Gl.st (g' := (mkF m 22 #[.val (.int x0), .val (.int c1), .unset] [(.int c1)])) (fun τ κ => XS.iloadN X0.here hx rfl (hb hby at_21) rfl κ) ?_
        refine Gl.st (g' := (mkF m 24 #[.val (.int x0), .val (.int c1), .unset] [(.int (51 : Int32)), (.int c1)])) (fun τ κ => XS.bipush X0.here hx rfl (hb hby at_22) κ) ?_
        by_cases hc12 : c1 = (51 : Int32)
        · -- pc 24: c1 = (51 : Int32)
          refine Gl.st (g' := (mkF m 63 #[.val (.int x0), .val (.int c1), .unset] [])) (fun τ κ => XS.icmpYes X0.here hx rfl (pc0 := 24) (pc' := 63) rfl (hb hby at_24) rfl (teq hc12).1 (by decide) (by decide) κ) ?_
          refine Gl.st (g' := (mkF m 64 #[.val (.int x0), .val (.int c1), .unset] [(.int (1 : Int32))])) (fun τ κ => XS.iconst X0.here hx rfl (hb hby at_63) κ) ?_
          refine Gl.st (g' := (mkF m 68 #[.val (.int x0), .val (.int c1), .unset] [(.int (1 : Int32))])) (fun τ κ => XS.goto X0.here hx rfl (pc0 := 64) (pc' := 68) rfl (hb hby at_64) (by decide) (by decide) κ) ?_
          refine Gl.st (g' := (mkF m 69 #[.val (.int x0), .val (.int c1), .val (.int (1 : Int32))] [])) (fun τ κ => XS.istoreN X0.here hx rfl (hb hby at_68) rfl (l' := #[.val (.int x0), .val (.int c1), .val (.int (1 : Int32))]) rfl κ) ?_
          refine Gl.st (g' := (mkF m 70 #[.val (.int x0), .val (.int c1), .val (.int (1 : Int32))] [(.int c1)])) (fun τ κ => XS.iloadN X0.here hx rfl (hb hby at_69) rfl κ) ?_
          obtain ⟨rv13, _, ⟨T13, L13, k13, n13⟩, -, X13, ⟨Lc13, hQ13, l13, y13, z13⟩, st13⟩ := Jvm.LawKit.callS X0 hx (y := (⟨"com/example/sealgrant/sealgrant/Ascii", "digit", "(C)Z"⟩ : MethodName)) hown (mvT hZ (hw _ (List.mem_of_getElem? (i := 0) rfl))) (mvT hZ (hw _ (List.mem_of_getElem? (i := 1) rfl))) (mvT hZ (hw _ (List.mem_of_getElem? (i := 2) rfl))) (mvT hZ (hw _ (List.mem_of_getElem? (i := 3) rfl))) (by decide) (backOf (W := 0) (rm1 l Z a0 hw [] c1 h0 n0 Z0 ) hZ (hw _ (List.mem_of_getElem? (i := 3) rfl)) (hw _ (List.mem_of_getElem? (i := 2) rfl)) (by decide) (by decide)) (g := (mkF m 70 #[.val (.int x0), .val (.int c1), .val (.int (1 : Int32))] [(.int c1)])) rfl (by rw [hml]; rfl) (argsL := [(.int c1)]) (rest := []) (lenOf pd_0 rfl) rfl (by show 2 * 0 + _ ≤ _; exact Nat.le_of_eq rfl) (hb hby at_70) (fun _ _ => ⟨rfl, e0, (by decide : 0 + 0 ≤ _), (by decide : 0 + 0 ≤ _)⟩)
          dsimp only [Pt.U, Pt.locs, Pt.cells, Pt.slots] at X13 l13 y13 z13 st13 hQ13
          subst l13 y13 z13
          obtain ⟨rfl, N13q, e13⟩ := hQ13
          have N13 := Fr.app N0 N13q
          refine Gl.st (g' := (mkF m 73 #[.val (.int x0), .val (.int c1), .val (.int (1 : Int32))] [(.int (own_digit c1))])) (fun τ κ => st13 _ κ) ?_
          refine Gl.st (g' := (mkF m 74 #[.val (.int x0), .val (.int c1), .val (.int (1 : Int32))] [(.int (1 : Int32)), (.int (own_digit c1))])) (fun τ κ => XS.iloadN X13.here hx rfl (hb hby at_73) rfl κ) ?_
          have hc14 : (own_digit c1) = (1 : Int32) := by rw [hc12]; decide
          refine Gl.st (g' := (mkF m 77 #[.val (.int x0), .val (.int c1), .val (.int (1 : Int32))] [])) (fun τ κ => XS.icmpNo X13.here hx rfl (hb hby at_74) rfl (teq hc14).2 κ) ?_
          refine Gl.st (g' := (mkF m 78 #[.val (.int x0), .val (.int c1), .val (.int (1 : Int32))] [(.int (1 : Int32))])) (fun τ κ => XS.iconst X13.here hx rfl (hb hby at_77) κ) ?_
          refine Gl.st (g' := (mkF m 82 #[.val (.int x0), .val (.int c1), .val (.int (1 : Int32))] [(.int (1 : Int32))])) (fun τ κ => XS.goto X13.here hx rfl (pc0 := 78) (pc' := 82) rfl (hb hby at_78) (by decide) (by decide) κ) ?_
          exact Gl.ret (v := some (.int (1 : Int32))) X13 Bd.notSynchronized (fun h => by rw [Bd.returns] at h; cases h) e13 (fun fs hr => retN X13 hx (t := .boolean) Bd.returns (by simp) (hb hby at_82) hr) (by decide) (by decide) ⟨rfl, N13⟩
        · -- pc 24: not c1 = (51 : Int32)
          refine Gl.st (g' := (mkF m 27 #[.val (.int x0), .val (.int c1), .unset] [])) (fun τ κ => XS.icmpNo X0.here hx rfl (hb hby at_24) rfl (feq hc12).1 κ) ?_
          refine Gl.st (g' := (mkF m 28 #[.val (.int x0), .val (.int c1), .unset] [(.int c1)])) (fun τ κ => XS.iloadN X0.here hx rfl (hb hby at_27) rfl κ) ?_
          refine Gl.st (g' := (mkF m 30 #[.val (.int x0), .val (.int c1), .unset] [(.int (52 : Int32)), (.int c1)])) (fun τ κ => XS.bipush X0.here hx rfl (hb hby at_28) κ) ?_
          by_cases hc15 : c1 = (52 : Int32)
          · -- pc 30: c1 = (52 : Int32)
            refine Gl.st (g' := (mkF m 63 #[.val (.int x0), .val (.int c1), .unset] [])) (fun τ κ => XS.icmpYes X0.here hx rfl (pc0 := 30) (pc' := 63) rfl (hb hby at_30) rfl (teq hc15).1 (by decide) (by decide) κ) ?_
            refine Gl.st (g' := (mkF m 64 #[.val (.int x0), .val (.int c1), .unset] [(.int (1 : Int32))])) (fun τ κ => XS.iconst X0.here hx rfl (hb hby at_63) κ) ?_
            refine Gl.st (g' := (mkF m 68 #[.val (.int x0), .val (.int c1), .unset] [(.int (1 : Int32))])) (fun τ κ => XS.goto X0.here hx rfl (pc0 := 64) (pc' := 68) rfl (hb hby at_64) (by decide) (by decide) κ) ?_
            refine Gl.st (g' := (mkF m 69 #[.val (.int x0), .val (.int c1), .val (.int (1 : Int32))] [])) (fun τ κ => XS.istoreN X0.here hx rfl (hb hby at_68) rfl (l' := #[.val (.int x0), .val (.int c1), .val (.int (1 : Int32))]) rfl κ) ?_
            refine Gl.st (g' := (mkF m 70 #[.val (.int x0), .val (.int c1), .val (.int (1 : Int32))] [(.int c1)])) (fun τ κ => XS.iloadN X0.here hx rfl (hb hby at_69) rfl κ) ?_
            obtain ⟨rv16, _, ⟨T16, L16, k16, n16⟩, -, X16, ⟨Lc16, hQ16, l16, y16, z16⟩, st16⟩ := Jvm.LawKit.callS X0 hx (y := (⟨"com/example/sealgrant/sealgrant/Ascii", "digit", "(C)Z"⟩ : MethodName)) hown (mvT hZ (hw _ (List.mem_of_getElem? (i := 0) rfl))) (mvT hZ (hw _ (List.mem_of_getElem? (i := 1) rfl))) (mvT hZ (hw _ (List.mem_of_getElem? (i := 2) rfl))) (mvT hZ (hw _ (List.mem_of_getElem? (i := 3) rfl))) (by decide) (backOf (W := 0) (rm1 l Z a0 hw [] c1 h0 n0 Z0 ) hZ (hw _ (List.mem_of_getElem? (i := 3) rfl)) (hw _ (List.mem_of_getElem? (i := 2) rfl)) (by decide) (by decide)) (g := (mkF m 70 #[.val (.int x0), .val (.int c1), .val (.int (1 : Int32))] [(.int c1)])) rfl (by rw [hml]; rfl) (argsL := [(.int c1)]) (rest := []) (lenOf pd_0 rfl) rfl (by show 2 * 0 + _ ≤ _; exact Nat.le_of_eq rfl) (hb hby at_70) (fun _ _ => ⟨rfl, e0, (by decide : 0 + 0 ≤ _), (by decide : 0 + 0 ≤ _)⟩)
            dsimp only [Pt.U, Pt.locs, Pt.cells, Pt.slots] at X16 l16 y16 z16 st16 hQ16
            subst l16 y16 z16
            obtain ⟨rfl, N16q, e16⟩ := hQ16
            have N16 := Fr.app N0 N16q
            refine Gl.st (g' := (mkF m 73 #[.val (.int x0), .val (.int c1), .val (.int (1 : Int32))] [(.int (own_digit c1))])) (fun τ κ => st16 _ κ) ?_
            refine Gl.st (g' := (mkF m 74 #[.val (.int x0), .val (.int c1), .val (.int (1 : Int32))] [(.int (1 : Int32)), (.int (own_digit c1))])) (fun τ κ => XS.iloadN X16.here hx rfl (hb hby at_73) rfl κ) ?_
            have hc17 : (own_digit c1) = (1 : Int32) := by rw [hc15]; decide
            refine Gl.st (g' := (mkF m 77 #[.val (.int x0), .val (.int c1), .val (.int (1 : Int32))] [])) (fun τ κ => XS.icmpNo X16.here hx rfl (hb hby at_74) rfl (teq hc17).2 κ) ?_
            refine Gl.st (g' := (mkF m 78 #[.val (.int x0), .val (.int c1), .val (.int (1 : Int32))] [(.int (1 : Int32))])) (fun τ κ => XS.iconst X16.here hx rfl (hb hby at_77) κ) ?_
            refine Gl.st (g' := (mkF m 82 #[.val (.int x0), .val (.int c1), .val (.int (1 : Int32))] [(.int (1 : Int32))])) (fun τ κ => XS.goto X16.here hx rfl (pc0 := 78) (pc' := 82) rfl (hb hby at_78) (by decide) (by decide) κ) ?_
            exact Gl.ret (v := some (.int (1 : Int32))) X16 Bd.notSynchronized (fun h => by rw [Bd.returns] at h; cases h) e16 (fun fs hr => retN X16 hx (t := .boolean) Bd.returns (by simp) (hb hby at_82) hr) (by decide) (by decide) ⟨rfl, N16⟩
          · -- pc 30: not c1 = (52 : Int32)
            refine Gl.st (g' := (mkF m 33 #[.val (.int x0), .val (.int c1), .unset] [])) (fun τ κ => XS.icmpNo X0.here hx rfl (hb hby at_30) rfl (feq hc15).1 κ) ?_
            refine Gl.st (g' := (mkF m 34 #[.val (.int x0), .val (.int c1), .unset] [(.int c1)])) (fun τ κ => XS.iloadN X0.here hx rfl (hb hby at_33) rfl κ) ?_
            refine Gl.st (g' := (mkF m 36 #[.val (.int x0), .val (.int c1), .unset] [(.int (53 : Int32)), (.int c1)])) (fun τ κ => XS.bipush X0.here hx rfl (hb hby at_34) κ) ?_
            by_cases hc18 : c1 = (53 : Int32)
            · -- pc 36: c1 = (53 : Int32)
              refine Gl.st (g' := (mkF m 63 #[.val (.int x0), .val (.int c1), .unset] [])) (fun τ κ => XS.icmpYes X0.here hx rfl (pc0 := 36) (pc' := 63) rfl (hb hby at_36) rfl (teq hc18).1 (by decide) (by decide) κ) ?_
              refine Gl.st (g' := (mkF m 64 #[.val (.int x0), .val (.int c1), .unset] [(.int (1 : Int32))])) (fun τ κ => XS.iconst X0.here hx rfl (hb hby at_63) κ) ?_
              refine Gl.st (g' := (mkF m 68 #[.val (.int x0), .val (.int c1), .unset] [(.int (1 : Int32))])) (fun τ κ => XS.goto X0.here hx rfl (pc0 := 64) (pc' := 68) rfl (hb hby at_64) (by decide) (by decide) κ) ?_
              refine Gl.st (g' := (mkF m 69 #[.val (.int x0), .val (.int c1), .val (.int (1 : Int32))] [])) (fun τ κ => XS.istoreN X0.here hx rfl (hb hby at_68) rfl (l' := #[.val (.int x0), .val (.int c1), .val (.int (1 : Int32))]) rfl κ) ?_
              refine Gl.st (g' := (mkF m 70 #[.val (.int x0), .val (.int c1), .val (.int (1 : Int32))] [(.int c1)])) (fun τ κ => XS.iloadN X0.here hx rfl (hb hby at_69) rfl κ) ?_
              obtain ⟨rv19, _, ⟨T19, L19, k19, n19⟩, -, X19, ⟨Lc19, hQ19, l19, y19, z19⟩, st19⟩ := Jvm.LawKit.callS X0 hx (y := (⟨"com/example/sealgrant/sealgrant/Ascii", "digit", "(C)Z"⟩ : MethodName)) hown (mvT hZ (hw _ (List.mem_of_getElem? (i := 0) rfl))) (mvT hZ (hw _ (List.mem_of_getElem? (i := 1) rfl))) (mvT hZ (hw _ (List.mem_of_getElem? (i := 2) rfl))) (mvT hZ (hw _ (List.mem_of_getElem? (i := 3) rfl))) (by decide) (backOf (W := 0) (rm1 l Z a0 hw [] c1 h0 n0 Z0 ) hZ (hw _ (List.mem_of_getElem? (i := 3) rfl)) (hw _ (List.mem_of_getElem? (i := 2) rfl)) (by decide) (by decide)) (g := (mkF m 70 #[.val (.int x0), .val (.int c1), .val (.int (1 : Int32))] [(.int c1)])) rfl (by rw [hml]; rfl) (argsL := [(.int c1)]) (rest := []) (lenOf pd_0 rfl) rfl (by show 2 * 0 + _ ≤ _; exact Nat.le_of_eq rfl) (hb hby at_70) (fun _ _ => ⟨rfl, e0, (by decide : 0 + 0 ≤ _), (by decide : 0 + 0 ≤ _)⟩)
              dsimp only [Pt.U, Pt.locs, Pt.cells, Pt.slots] at X19 l19 y19 z19 st19 hQ19
              subst l19 y19 z19
              obtain ⟨rfl, N19q, e19⟩ := hQ19
              have N19 := Fr.app N0 N19q
              refine Gl.st (g' := (mkF m 73 #[.val (.int x0), .val (.int c1), .val (.int (1 : Int32))] [(.int (own_digit c1))])) (fun τ κ => st19 _ κ) ?_
              refine Gl.st (g' := (mkF m 74 #[.val (.int x0), .val (.int c1), .val (.int (1 : Int32))] [(.int (1 : Int32)), (.int (own_digit c1))])) (fun τ κ => XS.iloadN X19.here hx rfl (hb hby at_73) rfl κ) ?_
              have hc20 : (own_digit c1) = (1 : Int32) := by rw [hc18]; decide
              refine Gl.st (g' := (mkF m 77 #[.val (.int x0), .val (.int c1), .val (.int (1 : Int32))] [])) (fun τ κ => XS.icmpNo X19.here hx rfl (hb hby at_74) rfl (teq hc20).2 κ) ?_
              refine Gl.st (g' := (mkF m 78 #[.val (.int x0), .val (.int c1), .val (.int (1 : Int32))] [(.int (1 : Int32))])) (fun τ κ => XS.iconst X19.here hx rfl (hb hby at_77) κ) ?_
              refine Gl.st (g' := (mkF m 82 #[.val (.int x0), .val (.int c1), .val (.int (1 : Int32))] [(.int (1 : Int32))])) (fun τ κ => XS.goto X19.here hx rfl (pc0 := 78) (pc' := 82) rfl (hb hby at_78) (by decide) (by decide) κ) ?_
              exact Gl.ret (v := some (.int (1 : Int32))) X19 Bd.notSynchronized (fun h => by rw [Bd.returns] at h; cases h) e19 (fun fs hr => retN X19 hx (t := .boolean) Bd.returns (by simp) (hb hby at_82) hr) (by decide) (by decide) ⟨rfl, N19⟩
            · -- pc 36: not c1 = (53 : Int32)
              refine Gl.st (g' := (mkF m 39 #[.val (.int x0), .val (.int c1), .unset] [])) (fun τ κ => XS.icmpNo X0.here hx rfl (hb hby at_36) rfl (feq hc18).1 κ) ?_
              refine Gl.st (g' := (mkF m 40 #[.val (.int x0), .val (.int c1), .unset] [(.int c1)])) (fun τ κ => XS.iloadN X0.here hx rfl (hb hby at_39) rfl κ) ?_
              refine Gl.st (g' := (mkF m 42 #[.val (.int x0), .val (.int c1), .unset] [(.int (54 : Int32)), (.int c1)])) (fun τ κ => XS.bipush X0.here hx rfl (hb hby at_40) κ) ?_
              by_cases hc21 : c1 = (54 : Int32)
              · -- pc 42: c1 = (54 : Int32)
                refine Gl.st (g' := (mkF m 63 #[.val (.int x0), .val (.int c1), .unset] [])) (fun τ κ => XS.icmpYes X0.here hx rfl (pc0 := 42) (pc' := 63) rfl (hb hby at_42) rfl (teq hc21).1 (by decide) (by decide) κ) ?_
                refine Gl.st (g' := (mkF m 64 #[.val (.int x0), .val (.int c1), .unset] [(.int (1 : Int32))])) (fun τ κ => XS.iconst X0.here hx rfl (hb hby at_63) κ) ?_
                refine Gl.st (g' := (mkF m 68 #[.val (.int x0), .val (.int c1), .unset] [(.int (1 : Int32))])) (fun τ κ => XS.goto X0.here hx rfl (pc0 := 64) (pc' := 68) rfl (hb hby at_64) (by decide) (by decide) κ) ?_
                refine Gl.st (g' := (mkF m 69 #[.val (.int x0), .val (.int c1), .val (.int (1 : Int32))] [])) (fun τ κ => XS.istoreN X0.here hx rfl (hb hby at_68) rfl (l' := #[.val (.int x0), .val (.int c1), .val (.int (1 : Int32))]) rfl κ) ?_
                refine Gl.st (g' := (mkF m 70 #[.val (.int x0), .val (.int c1), .val (.int (1 : Int32))] [(.int c1)])) (fun τ κ => XS.iloadN X0.here hx rfl (hb hby at_69) rfl κ) ?_
                obtain ⟨rv22, _, ⟨T22, L22, k22, n22⟩, -, X22, ⟨Lc22, hQ22, l22, y22, z22⟩, st22⟩ := Jvm.LawKit.callS X0 hx (y := (⟨"com/example/sealgrant/sealgrant/Ascii", "digit", "(C)Z"⟩ : MethodName)) hown (mvT hZ (hw _ (List.mem_of_getElem? (i := 0) rfl))) (mvT hZ (hw _ (List.mem_of_getElem? (i := 1) rfl))) (mvT hZ (hw _ (List.mem_of_getElem? (i := 2) rfl))) (mvT hZ (hw _ (List.mem_of_getElem? (i := 3) rfl))) (by decide) (backOf (W := 0) (rm1 l Z a0 hw [] c1 h0 n0 Z0 ) hZ (hw _ (List.mem_of_getElem? (i := 3) rfl)) (hw _ (List.mem_of_getElem? (i := 2) rfl)) (by decide) (by decide)) (g := (mkF m 70 #[.val (.int x0), .val (.int c1), .val (.int (1 : Int32))] [(.int c1)])) rfl (by rw [hml]; rfl) (argsL := [(.int c1)]) (rest := []) (lenOf pd_0 rfl) rfl (by show 2 * 0 + _ ≤ _; exact Nat.le_of_eq rfl) (hb hby at_70) (fun _ _ => ⟨rfl, e0, (by decide : 0 + 0 ≤ _), (by decide : 0 + 0 ≤ _)⟩)
                dsimp only [Pt.U, Pt.locs, Pt.cells, Pt.slots] at X22 l22 y22 z22 st22 hQ22
                subst l22 y22 z22
                obtain ⟨rfl, N22q, e22⟩ := hQ22
                have N22 := Fr.app N0 N22q
                refine Gl.st (g' := (mkF m 73 #[.val (.int x0), .val (.int c1), .val (.int (1 : Int32))] [(.int (own_digit c1))])) (fun τ κ => st22 _ κ) ?_
                refine Gl.st (g' := (mkF m 74 #[.val (.int x0), .val (.int c1), .val (.int (1 : Int32))] [(.int (1 : Int32)), (.int (own_digit c1))])) (fun τ κ => XS.iloadN X22.here hx rfl (hb hby at_73) rfl κ) ?_
                have hc23 : (own_digit c1) = (1 : Int32) := by rw [hc21]; decide
                refine Gl.st (g' := (mkF m 77 #[.val (.int x0), .val (.int c1), .val (.int (1 : Int32))] [])) (fun τ κ => XS.icmpNo X22.here hx rfl (hb hby at_74) rfl (teq hc23).2 κ) ?_
                refine Gl.st (g' := (mkF m 78 #[.val (.int x0), .val (.int c1), .val (.int (1 : Int32))] [(.int (1 : Int32))])) (fun τ κ => XS.iconst X22.here hx rfl (hb hby at_77) κ) ?_
                refine Gl.st (g' := (mkF m 82 #[.val (.int x0), .val (.int c1), .val (.int (1 : Int32))] [(.int (1 : Int32))])) (fun τ κ => XS.goto X22.here hx rfl (pc0 := 78) (pc' := 82) rfl (hb hby at_78) (by decide) (by decide) κ) ?_
                exact Gl.ret (v := some (.int (1 : Int32))) X22 Bd.notSynchronized (fun h => by rw [Bd.returns] at h; cases h) e22 (fun fs hr => retN X22 hx (t := .boolean) Bd.returns (by simp) (hb hby at_82) hr) (by decide) (by decide) ⟨rfl, N22⟩
              · -- pc 42: not c1 = (54 : Int32)
                refine Gl.st (g' := (mkF m 45 #[.val (.int x0), .val (.int c1), .unset] [])) (fun τ κ => XS.icmpNo X0.here hx rfl (hb hby at_42) rfl (feq hc21).1 κ) ?_
                refine Gl.st (g' := (mkF m 46 #[.val (.int x0), .val (.int c1), .unset] [(.int c1)])) (fun τ κ => XS.iloadN X0.here hx rfl (hb hby at_45) rfl κ) ?_
                refine Gl.st (g' := (mkF m 48 #[.val (.int x0), .val (.int c1), .unset] [(.int (55 : Int32)), (.int c1)])) (fun τ κ => XS.bipush X0.here hx rfl (hb hby at_46) κ) ?_
                by_cases hc24 : c1 = (55 : Int32)
                · -- pc 48: c1 = (55 : Int32)
                  refine Gl.st (g' := (mkF m 63 #[.val (.int x0), .val (.int c1), .unset] [])) (fun τ κ => XS.icmpYes X0.here hx rfl (pc0 := 48) (pc' := 63) rfl (hb hby at_48) rfl (teq hc24).1 (by decide) (by decide) κ) ?_
                  refine Gl.st (g' := (mkF m 64 #[.val (.int x0), .val (.int c1), .unset] [(.int (1 : Int32))])) (fun τ κ => XS.iconst X0.here hx rfl (hb hby at_63) κ) ?_
                  refine Gl.st (g' := (mkF m 68 #[.val (.int x0), .val (.int c1), .unset] [(.int (1 : Int32))])) (fun τ κ => XS.goto X0.here hx rfl (pc0 := 64) (pc' := 68) rfl (hb hby at_64) (by decide) (by decide) κ) ?_
                  refine Gl.st (g' := (mkF m 69 #[.val (.int x0), .val (.int c1), .val (.int (1 : Int32))] [])) (fun τ κ => XS.istoreN X0.here hx rfl (hb hby at_68) rfl (l' := #[.val (.int x0), .val (.int c1), .val (.int (1 : Int32))]) rfl κ) ?_
                  refine Gl.st (g' := (mkF m 70 #[.val (.int x0), .val (.int c1), .val (.int (1 : Int32))] [(.int c1)])) (fun τ κ => XS.iloadN X0.here hx rfl (hb hby at_69) rfl κ) ?_
                  obtain ⟨rv25, _, ⟨T25, L25, k25, n25⟩, -, X25, ⟨Lc25, hQ25, l25, y25, z25⟩, st25⟩ := Jvm.LawKit.callS X0 hx (y := (⟨"com/example/sealgrant/sealgrant/Ascii", "digit", "(C)Z"⟩ : MethodName)) hown (mvT hZ (hw _ (List.mem_of_getElem? (i := 0) rfl))) (mvT hZ (hw _ (List.mem_of_getElem? (i := 1) rfl))) (mvT hZ (hw _ (List.mem_of_getElem? (i := 2) rfl))) (mvT hZ (hw _ (List.mem_of_getElem? (i := 3) rfl))) (by decide) (backOf (W := 0) (rm1 l Z a0 hw [] c1 h0 n0 Z0 ) hZ (hw _ (List.mem_of_getElem? (i := 3) rfl)) (hw _ (List.mem_of_getElem? (i := 2) rfl)) (by decide) (by decide)) (g := (mkF m 70 #[.val (.int x0), .val (.int c1), .val (.int (1 : Int32))] [(.int c1)])) rfl (by rw [hml]; rfl) (argsL := [(.int c1)]) (rest := []) (lenOf pd_0 rfl) rfl (by show 2 * 0 + _ ≤ _; exact Nat.le_of_eq rfl) (hb hby at_70) (fun _ _ => ⟨rfl, e0, (by decide : 0 + 0 ≤ _), (by decide : 0 + 0 ≤ _)⟩)
                  dsimp only [Pt.U, Pt.locs, Pt.cells, Pt.slots] at X25 l25 y25 z25 st25 hQ25
                  subst l25 y25 z25
                  obtain ⟨rfl, N25q, e25⟩ := hQ25
                  have N25 := Fr.app N0 N25q
                  refine Gl.st (g' := (mkF m 73 #[.val (.int x0), .val (.int c1), .val (.int (1 : Int32))] [(.int (own_digit c1))])) (fun τ κ => st25 _ κ) ?_
                  refine Gl.st (g' := (mkF m 74 #[.val (.int x0), .val (.int c1), .val (.int (1 : Int32))] [(.int (1 : Int32)), (.int (own_digit c1))])) (fun τ κ => XS.iloadN X25.here hx rfl (hb hby at_73) rfl κ) ?_
                  have hc26 : (own_digit c1) = (1 : Int32) := by rw [hc24]; decide
                  refine Gl.st (g' := (mkF m 77 #[.val (.int x0), .val (.int c1), .val (.int (1 : Int32))] [])) (fun τ κ => XS.icmpNo X25.here hx rfl (hb hby at_74) rfl (teq hc26).2 κ) ?_
                  refine Gl.st (g' := (mkF m 78 #[.val (.int x0), .val (.int c1), .val (.int (1 : Int32))] [(.int (1 : Int32))])) (fun τ κ => XS.iconst X25.here hx rfl (hb hby at_77) κ) ?_
                  refine Gl.st (g' := (mkF m 82 #[.val (.int x0), .val (.int c1), .val (.int (1 : Int32))] [(.int (1 : Int32))])) (fun τ κ => XS.goto X25.here hx rfl (pc0 := 78) (pc' := 82) rfl (hb hby at_78) (by decide) (by decide) κ) ?_
                  exact Gl.ret (v := some (.int (1 : Int32))) X25 Bd.notSynchronized (fun h => by rw [Bd.returns] at h; cases h) e25 (fun fs hr => retN X25 hx (t := .boolean) Bd.returns (by simp) (hb hby at_82) hr) (by decide) (by decide) ⟨rfl, N25⟩
                · -- pc 48: not c1 = (55 : Int32)
                  refine Gl.st (g' := (mkF m 51 #[.val (.int x0), .val (.int c1), .unset] [])) (fun τ κ => XS.icmpNo X0.here hx rfl (hb hby at_48) rfl (feq hc24).1 κ) ?_
                  refine Gl.st (g' := (mkF m 52 #[.val (.int x0), .val (.int c1), .unset] [(.int c1)])) (fun τ κ => XS.iloadN X0.here hx rfl (hb hby at_51) rfl κ) ?_
                  refine Gl.st (g' := (mkF m 54 #[.val (.int x0), .val (.int c1), .unset] [(.int (56 : Int32)), (.int c1)])) (fun τ κ => XS.bipush X0.here hx rfl (hb hby at_52) κ) ?_
                  by_cases hc27 : c1 = (56 : Int32)
                  · -- pc 54: c1 = (56 : Int32)
                    refine Gl.st (g' := (mkF m 63 #[.val (.int x0), .val (.int c1), .unset] [])) (fun τ κ => XS.icmpYes X0.here hx rfl (pc0 := 54) (pc' := 63) rfl (hb hby at_54) rfl (teq hc27).1 (by decide) (by decide) κ) ?_
                    refine Gl.st (g' := (mkF m 64 #[.val (.int x0), .val (.int c1), .unset] [(.int (1 : Int32))])) (fun τ κ => XS.iconst X0.here hx rfl (hb hby at_63) κ) ?_
                    refine Gl.st (g' := (mkF m 68 #[.val (.int x0), .val (.int c1), .unset] [(.int (1 : Int32))])) (fun τ κ => XS.goto X0.here hx rfl (pc0 := 64) (pc' := 68) rfl (hb hby at_64) (by decide) (by decide) κ) ?_
                    refine Gl.st (g' := (mkF m 69 #[.val (.int x0), .val (.int c1), .val (.int (1 : Int32))] [])) (fun τ κ => XS.istoreN X0.here hx rfl (hb hby at_68) rfl (l' := #[.val (.int x0), .val (.int c1), .val (.int (1 : Int32))]) rfl κ) ?_
                    refine Gl.st (g' := (mkF m 70 #[.val (.int x0), .val (.int c1), .val (.int (1 : Int32))] [(.int c1)])) (fun τ κ => XS.iloadN X0.here hx rfl (hb hby at_69) rfl κ) ?_
                    obtain ⟨rv28, _, ⟨T28, L28, k28, n28⟩, -, X28, ⟨Lc28, hQ28, l28, y28, z28⟩, st28⟩ := Jvm.LawKit.callS X0 hx (y := (⟨"com/example/sealgrant/sealgrant/Ascii", "digit", "(C)Z"⟩ : MethodName)) hown (mvT hZ (hw _ (List.mem_of_getElem? (i := 0) rfl))) (mvT hZ (hw _ (List.mem_of_getElem? (i := 1) rfl))) (mvT hZ (hw _ (List.mem_of_getElem? (i := 2) rfl))) (mvT hZ (hw _ (List.mem_of_getElem? (i := 3) rfl))) (by decide) (backOf (W := 0) (rm1 l Z a0 hw [] c1 h0 n0 Z0 ) hZ (hw _ (List.mem_of_getElem? (i := 3) rfl)) (hw _ (List.mem_of_getElem? (i := 2) rfl)) (by decide) (by decide)) (g := (mkF m 70 #[.val (.int x0), .val (.int c1), .val (.int (1 : Int32))] [(.int c1)])) rfl (by rw [hml]; rfl) (argsL := [(.int c1)]) (rest := []) (lenOf pd_0 rfl) rfl (by show 2 * 0 + _ ≤ _; exact Nat.le_of_eq rfl) (hb hby at_70) (fun _ _ => ⟨rfl, e0, (by decide : 0 + 0 ≤ _), (by decide : 0 + 0 ≤ _)⟩)
                    dsimp only [Pt.U, Pt.locs, Pt.cells, Pt.slots] at X28 l28 y28 z28 st28 hQ28
                    subst l28 y28 z28
                    obtain ⟨rfl, N28q, e28⟩ := hQ28
                    have N28 := Fr.app N0 N28q
                    refine Gl.st (g' := (mkF m 73 #[.val (.int x0), .val (.int c1), .val (.int (1 : Int32))] [(.int (own_digit c1))])) (fun τ κ => st28 _ κ) ?_
                    refine Gl.st (g' := (mkF m 74 #[.val (.int x0), .val (.int c1), .val (.int (1 : Int32))] [(.int (1 : Int32)), (.int (own_digit c1))])) (fun τ κ => XS.iloadN X28.here hx rfl (hb hby at_73) rfl κ) ?_
                    have hc29 : (own_digit c1) = (1 : Int32) := by rw [hc27]; decide
                    refine Gl.st (g' := (mkF m 77 #[.val (.int x0), .val (.int c1), .val (.int (1 : Int32))] [])) (fun τ κ => XS.icmpNo X28.here hx rfl (hb hby at_74) rfl (teq hc29).2 κ) ?_
                    refine Gl.st (g' := (mkF m 78 #[.val (.int x0), .val (.int c1), .val (.int (1 : Int32))] [(.int (1 : Int32))])) (fun τ κ => XS.iconst X28.here hx rfl (hb hby at_77) κ) ?_
                    refine Gl.st (g' := (mkF m 82 #[.val (.int x0), .val (.int c1), .val (.int (1 : Int32))] [(.int (1 : Int32))])) (fun τ κ => XS.goto X28.here hx rfl (pc0 := 78) (pc' := 82) rfl (hb hby at_78) (by decide) (by decide) κ) ?_
                    exact Gl.ret (v := some (.int (1 : Int32))) X28 Bd.notSynchronized (fun h => by rw [Bd.returns] at h; cases h) e28 (fun fs hr => retN X28 hx (t := .boolean) Bd.returns (by simp) (hb hby at_82) hr) (by decide) (by decide) ⟨rfl, N28⟩
                  · -- pc 54: not c1 = (56 : Int32)
                    refine Gl.st (g' := (mkF m 57 #[.val (.int x0), .val (.int c1), .unset] [])) (fun τ κ => XS.icmpNo X0.here hx rfl (hb hby at_54) rfl (feq hc27).1 κ) ?_
                    refine Gl.st (g' := (mkF m 58 #[.val (.int x0), .val (.int c1), .unset] [(.int c1)])) (fun τ κ => XS.iloadN X0.here hx rfl (hb hby at_57) rfl κ) ?_
                    refine Gl.st (g' := (mkF m 60 #[.val (.int x0), .val (.int c1), .unset] [(.int (57 : Int32)), (.int c1)])) (fun τ κ => XS.bipush X0.here hx rfl (hb hby at_58) κ) ?_
                    by_cases hc30 : c1 = (57 : Int32)
                    · -- pc 60: c1 = (57 : Int32)
                      refine Gl.st (g' := (mkF m 63 #[.val (.int x0), .val (.int c1), .unset] [])) (fun τ κ => XS.icmpNo X0.here hx rfl (hb hby at_60) rfl (teq hc30).2 κ) ?_
                      refine Gl.st (g' := (mkF m 64 #[.val (.int x0), .val (.int c1), .unset] [(.int (1 : Int32))])) (fun τ κ => XS.iconst X0.here hx rfl (hb hby at_63) κ) ?_
                      refine Gl.st (g' := (mkF m 68 #[.val (.int x0), .val (.int c1), .unset] [(.int (1 : Int32))])) (fun τ κ => XS.goto X0.here hx rfl (pc0 := 64) (pc' := 68) rfl (hb hby at_64) (by decide) (by decide) κ) ?_
                      refine Gl.st (g' := (mkF m 69 #[.val (.int x0), .val (.int c1), .val (.int (1 : Int32))] [])) (fun τ κ => XS.istoreN X0.here hx rfl (hb hby at_68) rfl (l' := #[.val (.int x0), .val (.int c1), .val (.int (1 : Int32))]) rfl κ) ?_
                      refine Gl.st (g' := (mkF m 70 #[.val (.int x0), .val (.int c1), .val (.int (1 : Int32))] [(.int c1)])) (fun τ κ => XS.iloadN X0.here hx rfl (hb hby at_69) rfl κ) ?_
                      obtain ⟨rv31, _, ⟨T31, L31, k31, n31⟩, -, X31, ⟨Lc31, hQ31, l31, y31, z31⟩, st31⟩ := Jvm.LawKit.callS X0 hx (y := (⟨"com/example/sealgrant/sealgrant/Ascii", "digit", "(C)Z"⟩ : MethodName)) hown (mvT hZ (hw _ (List.mem_of_getElem? (i := 0) rfl))) (mvT hZ (hw _ (List.mem_of_getElem? (i := 1) rfl))) (mvT hZ (hw _ (List.mem_of_getElem? (i := 2) rfl))) (mvT hZ (hw _ (List.mem_of_getElem? (i := 3) rfl))) (by decide) (backOf (W := 0) (rm1 l Z a0 hw [] c1 h0 n0 Z0 ) hZ (hw _ (List.mem_of_getElem? (i := 3) rfl)) (hw _ (List.mem_of_getElem? (i := 2) rfl)) (by decide) (by decide)) (g := (mkF m 70 #[.val (.int x0), .val (.int c1), .val (.int (1 : Int32))] [(.int c1)])) rfl (by rw [hml]; rfl) (argsL := [(.int c1)]) (rest := []) (lenOf pd_0 rfl) rfl (by show 2 * 0 + _ ≤ _; exact Nat.le_of_eq rfl) (hb hby at_70) (fun _ _ => ⟨rfl, e0, (by decide : 0 + 0 ≤ _), (by decide : 0 + 0 ≤ _)⟩)
                      dsimp only [Pt.U, Pt.locs, Pt.cells, Pt.slots] at X31 l31 y31 z31 st31 hQ31
                      subst l31 y31 z31
                      obtain ⟨rfl, N31q, e31⟩ := hQ31
                      have N31 := Fr.app N0 N31q
                      refine Gl.st (g' := (mkF m 73 #[.val (.int x0), .val (.int c1), .val (.int (1 : Int32))] [(.int (own_digit c1))])) (fun τ κ => st31 _ κ) ?_
                      refine Gl.st (g' := (mkF m 74 #[.val (.int x0), .val (.int c1), .val (.int (1 : Int32))] [(.int (1 : Int32)), (.int (own_digit c1))])) (fun τ κ => XS.iloadN X31.here hx rfl (hb hby at_73) rfl κ) ?_
                      have hc32 : (own_digit c1) = (1 : Int32) := by rw [hc30]; decide
                      refine Gl.st (g' := (mkF m 77 #[.val (.int x0), .val (.int c1), .val (.int (1 : Int32))] [])) (fun τ κ => XS.icmpNo X31.here hx rfl (hb hby at_74) rfl (teq hc32).2 κ) ?_
                      refine Gl.st (g' := (mkF m 78 #[.val (.int x0), .val (.int c1), .val (.int (1 : Int32))] [(.int (1 : Int32))])) (fun τ κ => XS.iconst X31.here hx rfl (hb hby at_77) κ) ?_
                      refine Gl.st (g' := (mkF m 82 #[.val (.int x0), .val (.int c1), .val (.int (1 : Int32))] [(.int (1 : Int32))])) (fun τ κ => XS.goto X31.here hx rfl (pc0 := 78) (pc' := 82) rfl (hb hby at_78) (by decide) (by decide) κ) ?_
                      exact Gl.ret (v := some (.int (1 : Int32))) X31 Bd.notSynchronized (fun h => by rw [Bd.returns] at h; cases h) e31 (fun fs hr => retN X31 hx (t := .boolean) Bd.returns (by simp) (hb hby at_82) hr) (by decide) (by decide) ⟨rfl, N31⟩
                    · -- pc 60: not c1 = (57 : Int32)
                      refine Gl.st (g' := (mkF m 67 #[.val (.int x0), .val (.int c1), .unset] [])) (fun τ κ => XS.icmpYes X0.here hx rfl (pc0 := 60) (pc' := 67) rfl (hb hby at_60) rfl (feq hc30).2 (by decide) (by decide) κ) ?_
                      refine Gl.st (g' := (mkF m 68 #[.val (.int x0), .val (.int c1), .unset] [(.int (0 : Int32))])) (fun τ κ => XS.iconst X0.here hx rfl (hb hby at_67) κ) ?_
                      refine Gl.st (g' := (mkF m 69 #[.val (.int x0), .val (.int c1), .val (.int (0 : Int32))] [])) (fun τ κ => XS.istoreN X0.here hx rfl (hb hby at_68) rfl (l' := #[.val (.int x0), .val (.int c1), .val (.int (0 : Int32))]) rfl κ) ?_
                      refine Gl.st (g' := (mkF m 70 #[.val (.int x0), .val (.int c1), .val (.int (0 : Int32))] [(.int c1)])) (fun τ κ => XS.iloadN X0.here hx rfl (hb hby at_69) rfl κ) ?_
                      obtain ⟨rv33, _, ⟨T33, L33, k33, n33⟩, -, X33, ⟨Lc33, hQ33, l33, y33, z33⟩, st33⟩ := Jvm.LawKit.callS X0 hx (y := (⟨"com/example/sealgrant/sealgrant/Ascii", "digit", "(C)Z"⟩ : MethodName)) hown (mvT hZ (hw _ (List.mem_of_getElem? (i := 0) rfl))) (mvT hZ (hw _ (List.mem_of_getElem? (i := 1) rfl))) (mvT hZ (hw _ (List.mem_of_getElem? (i := 2) rfl))) (mvT hZ (hw _ (List.mem_of_getElem? (i := 3) rfl))) (by decide) (backOf (W := 0) (rm1 l Z a0 hw [] c1 h0 n0 Z0 ) hZ (hw _ (List.mem_of_getElem? (i := 3) rfl)) (hw _ (List.mem_of_getElem? (i := 2) rfl)) (by decide) (by decide)) (g := (mkF m 70 #[.val (.int x0), .val (.int c1), .val (.int (0 : Int32))] [(.int c1)])) rfl (by rw [hml]; rfl) (argsL := [(.int c1)]) (rest := []) (lenOf pd_0 rfl) rfl (by show 2 * 0 + _ ≤ _; exact Nat.le_of_eq rfl) (hb hby at_70) (fun _ _ => ⟨rfl, e0, (by decide : 0 + 0 ≤ _), (by decide : 0 + 0 ≤ _)⟩)
                      dsimp only [Pt.U, Pt.locs, Pt.cells, Pt.slots] at X33 l33 y33 z33 st33 hQ33
                      subst l33 y33 z33
                      obtain ⟨rfl, N33q, e33⟩ := hQ33
                      have N33 := Fr.app N0 N33q
                      refine Gl.st (g' := (mkF m 73 #[.val (.int x0), .val (.int c1), .val (.int (0 : Int32))] [(.int (own_digit c1))])) (fun τ κ => st33 _ κ) ?_
                      refine Gl.st (g' := (mkF m 74 #[.val (.int x0), .val (.int c1), .val (.int (0 : Int32))] [(.int (0 : Int32)), (.int (own_digit c1))])) (fun τ κ => XS.iloadN X33.here hx rfl (hb hby at_73) rfl κ) ?_
                      have hc34 : (own_digit c1) = (0 : Int32) := own_none c1 hc3 hc6 hc9 hc12 hc15 hc18 hc21 hc24 hc27 hc30
                      refine Gl.st (g' := (mkF m 77 #[.val (.int x0), .val (.int c1), .val (.int (0 : Int32))] [])) (fun τ κ => XS.icmpNo X33.here hx rfl (hb hby at_74) rfl (teq hc34).2 κ) ?_
                      refine Gl.st (g' := (mkF m 78 #[.val (.int x0), .val (.int c1), .val (.int (0 : Int32))] [(.int (1 : Int32))])) (fun τ κ => XS.iconst X33.here hx rfl (hb hby at_77) κ) ?_
                      refine Gl.st (g' := (mkF m 82 #[.val (.int x0), .val (.int c1), .val (.int (0 : Int32))] [(.int (1 : Int32))])) (fun τ κ => XS.goto X33.here hx rfl (pc0 := 78) (pc' := 82) rfl (hb hby at_78) (by decide) (by decide) κ) ?_
                      exact Gl.ret (v := some (.int (1 : Int32))) X33 Bd.notSynchronized (fun h => by rw [Bd.returns] at h; cases h) e33 (fun fs hr => retN X33 hx (t := .boolean) Bd.returns (by simp) (hb hby at_82) hr) (by decide) (by decide) ⟨rfl, N33⟩
set_option maxRecDepth 65536 in
set_option maxHeartbeats 40000000 in
theorem comes_1 {Post : Tables → Env → Array Value → State → Outcome → State → Prop} (hpost : ∀ tb e args s v u, (limb_1_1.after args s (.returned v) u = true ∧ limb_1_2.after args s (.returned v) u = true ∧ True) → FrameEnd s (.returned v) u (Jvm.fieldLocs frame_1_writes args s ++ Jvm.arrayLocs frame_1_arrays args s ++ Jvm.staticLocs frame_1_statics s) 0 0 → Post tb e args s (.returned v) u) :
    ArmFor flags0 classFile x code maxLocals ret World_1 tables_1 room_1 Calls_1 rest_1 Pre_1 Post := by
  intro l hfl _ _ p e ha hc hk s m args below hf hA hF happ hP
  obtain ⟨hcalls, hrest, hpre⟩ := hP
  obtain ⟨-, -, -, hnamed, -, -, -, hat⟩ := (Spec.applies_iff hf).mp happ
  obtain ⟨hg, hn⟩ := and_e (Cond.before_iff.mp (show (Jvm.Cond.and given_1 narrow_1).before args s = true from hpre))
  obtain ⟨hcount, hg0⟩ := and_e hg
  have gi0 := hg0
  obtain ⟨w0, rfl⟩ : ∃ w0 : Value, args = #[w0] := by
    have hs : args.size = 1 := by simpa [Cond.value, given_1] using hcount
    obtain ⟨L⟩ := args
    match L, hs with
    | [w0], _ => exact ⟨w0, rfl⟩
  have hw := fun d (hd : d ∈ tables_1) => atoms_spec (ws := Jvm.Cond.code x code maxLocals ret :: tables_1) hat d (List.mem_cons_of_mem _ hd)
  obtain ⟨i0, ei0⟩ := is_v gi0
  obtain rfl : w0 = (.int i0) := Option.some.inj ei0
  obtain ⟨n, o, h1, h2, h3, _, L, rfl, ⟨rfl, N⟩, hq⟩ := rm0 l s _ hw tables_1 i0  s.heap s.heap.size (Nat.le_refl _)  p e ha hc hk s m _ below hf ((Spec.applies_iff_loose hf).mp happ).1 ⟨rfl, State.Warmed39.refl s, rfl⟩ trivial
  refine ⟨n, _, h1, h2, h3, hpost _ _ _ _ _ _ ⟨Cond.after_iff.mpr rfl, Cond.after_iff.mpr (eq_i res_at (Term.int_eval (1)) rfl), trivial⟩ ⟨hq.1, hq.2.1, (hq.2.2.sift fun y hy => Or.inr (N y hy)).mono (by decide) (by decide)⟩⟩
theorem main_1_1 : Claimed_1_1 := comes_1 fun _ _ _ _ _ _ h hF => ⟨h.1, hF⟩
theorem main_1_2 : Claimed_1_2 := comes_1 fun _ _ _ _ _ _ h hF => ⟨h.2.1, hF⟩
end Jvm.Pilot.@@N@@
namespace Jvm.Pilot.@@N@@
open Jvm Jvm.ClassFile Sem Op Lib Jvm.Free Jvm.Stand Jvm.Pilot.@@N@@.Jvm.D
/-! MADE BY PROGRAM (witnessworld.py) out of the Statement's table words and the real class files: 9 classes; the members and pool entries that the words name. The judged class is class 1, her method 1. -/
namespace start1
open Jvm.ClassFile
def u (s : String) : CpInfo := .utf8 (stringToUtf16 s)
/-- a pool by its gaps: so many unusable entries, then the entry; so many at the end -/
def gap : Nat → List CpInfo → List CpInfo
  | 0, r => r
  | n + 1, r => .unusable :: gap n r
def poolList (es : List (Nat × CpInfo)) (last : Nat) : List CpInfo := es.foldr (fun e r => gap e.1 (e.2 :: r)) (gap last [])
def pool (es : List (Nat × CpInfo)) (last : Nat) : Array CpInfo := ⟨poolList es last⟩
def fileOf (pool : Array CpInfo) (this : Nat) (attrs : Array Attribute := #[]) (ms : Array MethodInfo := #[]) (fl : Nat := 33) (sup : Nat := 0) (ifs : Array Nat := #[]) (fds : Array FieldInfo := #[]) : ClassFile where
  minorVersion := 0
  majorVersion := 65
  constantPool := pool
  accessFlags := fl
  thisClass := this
  superClass := sup
  interfaces := ifs
  fields := fds
  methods := ms
  attributes := attrs
def plain (name : String) (sup : Option ClassId) : Class where
  name := name
  kind := .ordinary
  loader := none
  accessFlags := 33
  super := sup
  interfaces := #[]
  cf := none
  fields := #[]
  methods := #[]
  instanceTypes := #[]
  staticTypes := #[]
  resolved := #[]
  callSites := []
  init := .initialized
  statics := none
  mirror := none

def pool0 : Array CpInfo := pool [(5, u "<init>"), (0, u "()V"), (1, .class_ 10), (1, u "java/lang/Object")] 113

def k0m0 : Method := { name := "<init>", desc := "()V", sig := { parameters := [], returnType := none }, accessFlags := 1, code := none }
/-- java/lang/Object -/
def k0 : Class := { plain "java/lang/Object" none with
  accessFlags := 33
  interfaces := #[]
  cf := some (fileOf pool0 8 #[] #[{ accessFlags := 1, nameIndex := 5, descriptorIndex := 6, attributes := #[] }] 33 0 #[] #[])
  fields := #[]
  methods := #[k0m0]
  instanceTypes := #[]
  staticTypes := #[]
  resolved := Array.replicate 124 none
  statics := none }

def pool1 : Array CpInfo := pool [(2, .class_ 4), (1, u "java/lang/Object"), (0, u "<init>"), (0, u "()V"), (0, .methodref 8 9), (0, .class_ 10), (0, .nameAndType 11 12), (0, u "com/example/sealgrant/sealgrant/Ascii"), (0, u "digit"), (0, u "(C)Z"), (0, .class_ 14), (0, u "com/example/sealgrant/sealgrant/AsciiDigitPinLaw"), (2, u "law"), (0, u "(I)Z")] 3

def k1m0 : Method := { name := "<init>", desc := "()V", sig := { parameters := [], returnType := none }, accessFlags := 2, code := none }
def k1c1 : Code := { maxStack := 2, maxLocals := 3, code := code, exceptionTable := #[], attributes := #[] }
def k1m1 : Method := { name := "law", desc := "(I)Z", sig := { parameters := [.int], returnType := some .boolean }, accessFlags := 9, code := some k1c1 }
/-- com/example/sealgrant/sealgrant/AsciiDigitPinLaw -/
def k1 : Class := { plain "com/example/sealgrant/sealgrant/AsciiDigitPinLaw" (some 0) with
  accessFlags := 49
  interfaces := #[]
  cf := some (fileOf pool1 13 #[] #[{ accessFlags := 2, nameIndex := 5, descriptorIndex := 6, attributes := #[] }, { accessFlags := 9, nameIndex := 17, descriptorIndex := 18, attributes := #[] }] 49 2 #[] #[])
  fields := #[]
  methods := #[k1m0, k1m1]
  instanceTypes := #[]
  staticTypes := #[]
  resolved := Array.replicate 22 none
  statics := none }

def pool2 : Array CpInfo := pool [(2, .class_ 4), (1, u "java/lang/Object"), (0, u "<init>"), (0, u "()V"), (15, .class_ 24), (1, u "com/example/sealgrant/sealgrant/Ascii"), (0, u "digit"), (0, u "(C)Z")] 9

def k2m0 : Method := { name := "<init>", desc := "()V", sig := { parameters := [], returnType := none }, accessFlags := 2, code := none }
def k2c1 : Code := { maxStack := 2, maxLocals := 1, code := prog_1_method_5_code, exceptionTable := #[], attributes := #[] }
def k2m1 : Method := { name := "digit", desc := "(C)Z", sig := { parameters := [.char], returnType := some .boolean }, accessFlags := 8, code := some k2c1 }
/-- com/example/sealgrant/sealgrant/Ascii -/
def k2 : Class := { plain "com/example/sealgrant/sealgrant/Ascii" (some 0) with
  accessFlags := 48
  interfaces := #[]
  cf := some (fileOf pool2 22 #[] #[{ accessFlags := 2, nameIndex := 5, descriptorIndex := 6, attributes := #[] }, { accessFlags := 8, nameIndex := 25, descriptorIndex := 26, attributes := #[] }] 48 2 #[] #[])
  fields := #[]
  methods := #[k2m0, k2m1]
  instanceTypes := #[]
  staticTypes := #[]
  resolved := Array.replicate 36 none
  statics := none }

def pool3 : Array CpInfo := pool [(1, u "java/lang/Cloneable"), (0, .class_ 1), (0, u "java/lang/Object"), (0, .class_ 3)] 3

/-- java/lang/Cloneable -/
def k3 : Class := { plain "java/lang/Cloneable" (some 0) with
  accessFlags := 1537
  interfaces := #[]
  cf := some (fileOf pool3 2 #[] #[] 1537 4 #[] #[])
  fields := #[]
  methods := #[]
  instanceTypes := #[]
  staticTypes := #[]
  resolved := Array.replicate 8 none
  statics := none }

def pool4 : Array CpInfo := pool [(1, u "java/io/Serializable"), (0, .class_ 1), (0, u "java/lang/Object"), (0, .class_ 3)] 3

/-- java/io/Serializable -/
def k4 : Class := { plain "java/io/Serializable" (some 0) with
  accessFlags := 1537
  interfaces := #[]
  cf := some (fileOf pool4 2 #[] #[] 1537 4 #[] #[])
  fields := #[]
  methods := #[]
  instanceTypes := #[]
  staticTypes := #[]
  resolved := Array.replicate 8 none
  statics := none }

/-- the primitive byte -/
def k5 : Class := { plain "byte" none with kind := .primitive 'B', accessFlags := 0x411 }
/-- [B -/
def k6 : Class := { plain "[B" (some 0) with kind := .array 5 .byte, interfaces := #[3, 4], accessFlags := 1041 }

/-- the primitive int -/
def k7 : Class := { plain "int" none with kind := .primitive 'I', accessFlags := 0x411 }
/-- [I -/
def k8 : Class := { plain "[I" (some 0) with kind := .array 7 .int, interfaces := #[3, 4], accessFlags := 1041 }

def heap : Heap := #[]
def classes : Array Class := #[k0, k1, k2, k3, k4, k5, k6, k7, k8]
def interned : List (Array UInt16 × Addr) := []
def slotsUsed : Nat := 0
def theMethod : MethodId := ⟨1, 1⟩
def args0 : Array Value := #[.int 5]
def aboutOver (below : List Frame) : State where
  vm := { classes := classes, interned := interned.toArray }
  heap := heap
  slotsUsed := slotsUsed
  threads := #[{ frames := .invoking theMethod args0 :: below }]
def below0 : List Frame := [.native { method := ⟨0, 0⟩, args := #[] }]
def about1 : State := aboutOver below0
def p0 : Program := .bare "" "" ""
def e0 : Env := launch0.env 0 0 0
theorem w_frames : about1.frames = Frame.invoking theMethod args0 :: below0 := rfl
set_option maxRecDepth 65536 in
theorem w_args : argsFit about1.vm theMethod args0 = true := by decide +kernel
set_option maxRecDepth 65536 in
theorem w_heap : heapFits about1 = true := by decide +kernel
set_option maxRecDepth 65536 in
theorem w_runnable : about1.curStatus? = some .runnable := by decide +kernel
set_option maxRecDepth 65536 in
theorem w_alone : about1.alone = true := by decide +kernel
set_option maxRecDepth 65536 in
theorem w_named : about1.methodNamed? x = some theMethod := by decide +kernel
set_option maxRecDepth 65536 in
theorem w_hears : about1.hears theMethod below0 = true := by decide +kernel
set_option maxRecDepth 65536 in
theorem w_ripe : about1.ripe theMethod args0 below0 = true := by decide +kernel
theorem w_running : about1.status = .running := rfl
set_option maxRecDepth 65536 in
theorem w_room : about1.hasRoom e0.platform room_1 = true :=
  launch0.hasRoom_least _ room_1 (by decide +kernel) (by decide +kernel) (by decide +kernel) (by decide +kernel) (by decide +kernel) (by decide +kernel)
theorem allAtoms_all (ts : List Jvm.Cond) (a : Array Jvm.Value) (st : Jvm.State) : (allAtoms ts).before a st = ts.all (fun c => c.before a st) := by
  induction ts with
  | nil => rfl
  | cons c t ih =>
    show (Jvm.Cond.and c (allAtoms t)).before a st = _
    rw [Jvm.Cond.before_and, ih, List.all_cons]
def words1 : List Jvm.Cond := Jvm.Cond.code x code maxLocals ret :: tables_1
/-- a 'code' word, met by the world's own term for the bytes: nothing is compared byte by byte -/
theorem code_word {y : MethodName} {bytes : ByteArray} {mx : Nat} {rt : Option FieldType} {a : Array Value} {s : State} {m : MethodId} {meth : Method} {c : Code} (h1 : s.methodNamed? y = some m) (h2 : s.vm.method? m = some meth) (h3 : meth.code = some c) (h4 : c.code = bytes)
    (h5 : (c.maxLocals == mx && c.exceptionTable.isEmpty && decide (c.maxStack ≤ mostOperands) && decide (meth.sig.returnType = rt) && !meth.locks && decide (parseMethodDescriptor y.desc = some meth.sig)) = true) : (Jvm.Cond.code y bytes mx rt).before a s = true := by
  simp only [Bool.and_eq_true, beq_iff_eq, Bool.not_eq_true', decide_eq_true_eq] at h5
  obtain ⟨⟨⟨⟨⟨g1, g2⟩, g3⟩, g4⟩, g5⟩, g6⟩ := h5
  simp [Cond.before, Cond.holds, Cond.value, h1, h2, h3, h4, g1, g2, g3, g4, g5, g6]
def isCode : Jvm.Cond → Bool
  | .code _ _ _ _ => true
  | _ => false
theorem all_split {L : List Jvm.Cond} {P : Jvm.Cond → Bool} (h1 : L.all (fun c => isCode c || P c) = true) (h2 : ∀ c ∈ L.filter isCode, P c = true) : L.all P = true := by
  refine List.all_eq_true.mpr fun c hc => ?_
  have h := List.all_eq_true.mp h1 c hc
  rcases Bool.eq_false_or_eq_true (isCode c) with hi | hi
  · exact h2 c (List.mem_filter.mpr ⟨hc, hi⟩)
  · simpa [hi] using h
set_option maxRecDepth 65536 in
theorem w_c0 : (Jvm.Cond.code x code maxLocals ret).before args0 about1 = true := code_word (m := ⟨1, 1⟩) (meth := k1m1) (c := k1c1) (by decide +kernel) rfl rfl rfl (by decide +kernel)
set_option maxRecDepth 65536 in
theorem w_c1 : (Jvm.Cond.code ({ cls := "com/example/sealgrant/sealgrant/Ascii", name := "digit", desc := "(C)Z" } : Jvm.MethodName) prog_1_method_5_code (1 : Nat) (Option.some Jvm.ClassFile.FieldType.boolean)).before args0 about1 = true := code_word (m := ⟨2, 1⟩) (meth := k2m1) (c := k2c1) (by decide +kernel) rfl rfl rfl (by decide +kernel)
def codes1 : List Jvm.Cond := [Jvm.Cond.code x code maxLocals ret, Jvm.Cond.code ({ cls := "com/example/sealgrant/sealgrant/Ascii", name := "digit", desc := "(C)Z" } : Jvm.MethodName) prog_1_method_5_code (1 : Nat) (Option.some Jvm.ClassFile.FieldType.boolean)]
set_option maxRecDepth 65536 in
theorem codes_eq : words1.filter isCode = codes1 := rfl
theorem w_codes : ∀ c ∈ words1.filter isCode, c.before args0 about1 = true := by
  rw [codes_eq]
  intro c hc
  simp only [codes1, List.mem_cons, List.not_mem_nil, or_false] at hc
  rcases hc with rfl | rfl
  · exact w_c0
  · exact w_c1
set_option maxRecDepth 65536 in
theorem w_t1 : words1.all (fun c => isCode c || c.before args0 about1) = true := by decide +kernel
theorem w_tables : (allAtoms (Jvm.Cond.code x code maxLocals ret :: tables_1)).before args0 about1 = true := by
  rw [allAtoms_all]
  show words1.all (fun c => c.before args0 about1) = true
  refine all_split ?_ w_codes
  rw [w_t1]
set_option maxRecDepth 65536 in
theorem w_case : (Jvm.Cond.and given_1 narrow_1).before args0 about1 = true := by decide +kernel
theorem w_applies : (headSpec (Jvm.Cond.code x code maxLocals ret :: tables_1) room_1).applies x e0.platform about1 = true :=
  (Spec.applies_iff w_frames).mpr ⟨w_running, w_runnable, w_alone, w_named, w_hears, w_ripe, w_room, w_tables⟩
theorem atStart : AtStart classFile x code maxLocals ret World_1 tables_1 room_1 Calls_1 rest_1 Pre_1 launch0 p0 e0 about1 theMethod args0 below0 :=
  ⟨lists_1, trivial, launch0.admits_env _ _ _, launch0.least_env, fairChoices_fair.cas, fairChoices_fair.clock, w_frames, w_args, w_heap, w_applies, trivial, trivial, w_case⟩
end start1
theorem witness_1 : WitnessClaimed_1 := ⟨start1.p0, start1.e0, start1.about1, start1.theMethod, start1.args0, start1.below0, start1.atStart⟩
end Jvm.Pilot.@@N@@
