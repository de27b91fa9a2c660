import JvmDerived
import JvmDerived.Pilot.@@N@@Statement
import JvmDerived.Pilot.@@N@@Code
set_option linter.unusedVariables false
set_option linter.unusedSimpArgs false

namespace Jvm.RoadKit
open Sem ClassFile Op Lib Jvm.Stand Jvm.Free Jvm.LawKit
section New
variable {p : Program} {l : Launch} {e : Env} {R : Room} {s : State} {m : MethodId} {args : Array Value} {below : List Frame} {meth : Method} {c : Code} {T : State} {locs : List Loc} {cells slots : Nat}
theorem retI (X : Stand p l e R s m args below meth c T locs cells slots) (hx : p.tables.exec = Jvm.exec) {pc : Nat} {Ls : Array Slot} {z : Int32} {rest : List Value} (hret : meth.sig.returnType = some .int) (hd : decode c.code pc = .ok (.ireturn, 1)) {fs : List Frame}
    (hl : ∀ (f : JFrame) (acts : List Action), f.method = m → f.locked = none → f.entered = [] → (doReturn e (T.setTop f) acts (some (.int z))).1 = T.setFrames fs) : Steps p.tables e below (T.setTop (mkF m pc Ls (.int z :: rest))) (T.setFrames fs) := by
  have hm' : T.vm.method? m = some meth := X.method'
  have hn : narrow .int (.int z) = .int z := rfl
  show Steps p.tables e below (T.setTop { method := m, pc := pc, locals := Ls, stack := _ :: rest, locked := none }) _
  jvm_step X.here [X.here.top, hx, hd, hm', hret, hn]
  first | (intro acts; rw [hl _ acts rfl rfl rfl]) | rw [hl _ _ rfl rfl rfl]
  exact Steps.refl _
/-- the walk's goal, at any point of it -/
def Gl (p : Program) (e : Env) (below : List Frame) (s : State) (Q : Option Value → Heap → List Loc → Prop) (C N : Nat) (T : State) (g : JFrame) : Prop :=
  ∃ s₂ o, Steps p.tables e below (T.setTop g) s₂ ∧ s₂.status = .running ∧ Ended s₂ below o ∧ ∃ v L, o = .returned v ∧ Q v s₂.heap L ∧ FrameEnd s o s₂ L C N
variable {Q : Option Value → Heap → List Loc → Prop} {C N : Nat} {T' : State} {g g' : JFrame} {h : Heap}
theorem Gl.st (f : ∀ t, Steps p.tables e below (T'.setTop g') t → Steps p.tables e below (T.setTop g) t) (k : Gl p e below s Q C N T' g') : Gl p e below s Q C N T g := by
  obtain ⟨s₂, o, h1, r⟩ := k
  exact ⟨s₂, o, f _ h1, r⟩
theorem Gl.ret (X : Stand p l e R s m args below meth c T locs cells slots) (hlk : meth.locks = false) {v : Option Value} (hv : meth.sig.returnType = none → v = none) (eT : T.heap = h)
    (f : ∀ fs, (∀ (f : JFrame) (acts : List Action), f.method = m → f.locked = none → f.entered = [] → (doReturn e (T.setTop f) acts v).1 = T.setFrames fs) → Steps p.tables e below (T.setTop g) (T.setFrames fs)) (hc : cells ≤ C) (hn : slots ≤ N) (hQ : Q v h locs) : Gl p e below s Q C N T g := by
  obtain ⟨fs, hr, hrun, hended, hW, hsame⟩ := X.leave (v := v) hv hlk
  exact ⟨_, _, f fs hr, hrun, hended, _, _, rfl, by show Q v T.heap _; rw [eT]; exact hQ, ⟨_, rfl⟩, hW, hsame.mono hc hn⟩
theorem Arv.cellX {Z : State} {h : Heap} {a : Addr} {k : ClassId} {ty : FieldType} {z : Int32} {vs : List Value} {dv : Value} (F : Arv Z h a k ty z vs dv) : ∃ c : Cell, h[a]? = some c ∧ ∀ q, c.vm ≠ .statics q := by
  obtain ⟨c, A, -⟩ := F; exact ⟨c, A.1, A.2.1.1⟩
theorem selPrivate {s : State} {args : Array Value} {y z : MethodName} (hzy : z.cls = y.cls) (hsel : (Cond.selects z.cls z z).before args s = true) (hpriv : s.PrivateAt y) (hinst : (Cond.instanceMethod y).before args s = true) (hy : y.cls ≠ "java/lang/invoke/MethodHandle" ∧ y.cls ≠ "java/lang/invoke/VarHandle") : (Cond.selects y.cls y y).before args s = true := by
  obtain ⟨c2, r2, m2, -, -, q3, -, kP, hkP, hkPi⟩ := Cond.selects_spec hsel
  exact selects_self_of_private (by rw [← hzy]; exact findClass_of_methodNamed q3) hkP hkPi hpriv hinst hy
theorem Sta.keepX {Z : State} {h h' : Heap} {C n d : String} {v : Value} {ws : List Addr} (F : Sta Z h C n d v) (K : Keep h h' ws) (q : ∀ x ∈ ws, ∃ c : Cell, h[x]? = some c ∧ ∀ q, c.vm ≠ .statics q) : Sta Z h' C n d v := by
  obtain ⟨cf, i, k, f, st, cell, h1, h2, h3, h4, h5, h6, h7⟩ := F
  refine ⟨cf, i, k, f, st, cell, h1, h2, h3, h4, K.2.1 st cell h5 fun z => ?_, h6, h7⟩
  obtain ⟨c, e1, e2⟩ := q st z
  cases h5.symm.trans e1
  cases hv : cell.vm <;> simp [hv, VmData.isStatics] at h6
  exact e2 _ hv
end New
end Jvm.RoadKit
namespace Jvm.Pilot.@@N@@
open Jvm Jvm.ClassFile Sem Op Lib Jvm.Free Jvm.Stand Jvm.LawKit Jvm.RoadKit Bundle Jvm.Pilot.@@N@@.Jvm.D

theorem own_eqi {args : Array Value} {s : State} {t : Term} {k : Int32} (h : (Cond.eq t (.int k)).value args s none s [] = some true) : t.eval args s none [] s = some (.int k) := by
  obtain ⟨x, y, h1, h2, h3, -⟩ := cmp_v (Or.inl h)
  cases (Term.int_eval k).symm.trans h2
  cases x <;> simp [Cond.value, h1, Term.int_eval] at h ⊢
  exact h
def own_cb (p a b c : Int32) : Int32 := if 9 < p then (if 26 < p then c else b) else a
theorem own_e0 {p a b c : Int32} (h : p < 10) : own_cb p a b c = a := by
  have q : ¬ 9 < p := by
    rw [Int32.lt_iff_toInt_lt] at h ⊢; simp only [show (9 : Int32).toInt = 9 from rfl, show (10 : Int32).toInt = 10 from rfl] at *; omega
  simp [own_cb, q]
theorem own_e1 {p a b c : Int32} (h : ¬ p < 10) (h' : p < 27) : own_cb p a b c = b := by
  have q : 9 < p := by
    rw [Int32.lt_iff_toInt_lt] at h ⊢; simp only [show (9 : Int32).toInt = 9 from rfl, show (10 : Int32).toInt = 10 from rfl] at *; omega
  have r : ¬ 26 < p := by
    rw [Int32.lt_iff_toInt_lt] at h' ⊢; simp only [show (26 : Int32).toInt = 26 from rfl, show (27 : Int32).toInt = 27 from rfl] at *; omega
  simp [own_cb, q, r]
theorem own_e2 {p a b c : Int32} (h : ¬ p < 10) (h' : ¬ p < 27) : own_cb p a b c = c := by
  have q : 9 < p := by
    rw [Int32.lt_iff_toInt_lt] at h ⊢; simp only [show (9 : Int32).toInt = 9 from rfl, show (10 : Int32).toInt = 10 from rfl] at *; omega
  have r : 26 < p := by
    rw [Int32.lt_iff_toInt_lt] at h' ⊢; simp only [show (26 : Int32).toInt = 26 from rfl, show (27 : Int32).toInt = 27 from rfl] at *; omega
  simp [own_cb, q, r]
theorem own_arv3 {args : Array Value} {s : State} {t : Term} {x : Addr} {v0 v1 v2 : Int32} (ev : t.eval args s none [] s = some (.ref x)) (ha : (Cond.arrayOf t .int).value args s none s [] = some true) (hl : (Term.length t).eval args s none [] s = some (.int 3))
    (h0 : (Term.elem t (.int 0)).eval args s none [] s = some (.int v0)) (h1 : (Term.elem t (.int 1)).eval args s none [] s = some (.int v1)) (h2 : (Term.elem t (.int 2)).eval args s none [] s = some (.int v2)) : ∃ k, Arv s s.heap x k .int (3 : Int32) [.int v0, .int v1, .int v2] (.int (0 : Int32)) := by
  obtain ⟨c, A⟩ := Arr.start ev ha
  have fin : s.arrayAt? x = some c := A.fin (Vm.Alike.refl _)
  have g0 := elem_in h0 ev (Term.int_eval 0) A.1
  have g1 := elem_in h1 ev (Term.int_eval 1) A.1
  have g2 := elem_in h2 ev (Term.int_eval 2) A.1
  have sz : c.slots.size = 3 := by
    simp only [Term.eval, ev, Option.bind_eq_bind, Option.bind_some, fin] at hl
    split at hl
    · rename_i hlt
      have e : c.slots.size.toInt32 = 3 := Value.int.inj (Option.some.inj hl)
      have e2 : (c.slots.size.toInt32).toInt = 3 := by rw [e]; rfl
      have e3 : (c.slots.size.toInt32).toInt = (c.slots.size : Int) := Int32.toInt_ofNat_of_lt (by omega)
      omega
    · cases hl
  refine ⟨c.cls, c, A, rfl, by rw [sz]; rfl, by decide, ?_, ?_⟩
  · intro k hk
    rw [sz] at hk
    match k, hk with
    | 0, _ => exact g0.2
    | 1, _ => exact g1.2
    | 2, _ => exact g2.2
  · intro k hk
    rw [sz] at hk
    match k, hk with
    | 0, _ => rfl
    | 1, _ => rfl
    | 2, _ => rfl
theorem d1_0 : decode prog_24_method_4_code 0 = .ok (.iload_n 1, 1) := by decide +kernel
theorem d1_1 : decode prog_24_method_4_code 1 = .ok (.bipush 9, 2) := by decide +kernel
theorem d1_3 : decode prog_24_method_4_code 3 = .ok (.if_icmp .gt 8, 3) := by decide +kernel
theorem d1_11 : decode prog_24_method_4_code 11 = .ok (.iload_n 1, 1) := by decide +kernel
theorem d1_12 : decode prog_24_method_4_code 12 = .ok (.bipush 26, 2) := by decide +kernel
theorem d1_14 : decode prog_24_method_4_code 14 = .ok (.if_icmp .gt 8, 3) := by decide +kernel
theorem d1_22 : decode prog_24_method_4_code 22 = .ok (.iconst 2, 1) := by decide +kernel
theorem d1_23 : decode prog_24_method_4_code 23 = .ok (.istore_n 2, 1) := by decide +kernel
theorem d1_24 : decode prog_24_method_4_code 24 = .ok (.aload_n 0, 1) := by decide +kernel
theorem d1_25 : decode prog_24_method_4_code 25 = .ok (.getfield 40, 3) := by decide +kernel
theorem d1_28 : decode prog_24_method_4_code 28 = .ok (.iload_n 2, 1) := by decide +kernel
theorem d1_29 : decode prog_24_method_4_code 29 = .ok (.iaload, 1) := by decide +kernel
theorem d1_30 : decode prog_24_method_4_code 30 = .ok (.ireturn, 1) := by decide +kernel
theorem d1_17 : decode prog_24_method_4_code 17 = .ok (.iconst 1, 1) := by decide +kernel
theorem d1_18 : decode prog_24_method_4_code 18 = .ok (.istore_n 2, 1) := by decide +kernel
theorem d1_19 : decode prog_24_method_4_code 19 = .ok (.goto 5, 3) := by decide +kernel
theorem d1_6 : decode prog_24_method_4_code 6 = .ok (.iconst 0, 1) := by decide +kernel
theorem d1_7 : decode prog_24_method_4_code 7 = .ok (.istore_n 2, 1) := by decide +kernel
theorem d1_8 : decode prog_24_method_4_code 8 = .ok (.goto 16, 3) := by decide +kernel
theorem pn_com_example_quietzone_quietzone_QrSegment_Mode : plainName "com/example/quietzone/quietzone/QrSegment$Mode" = true := by first | (simp [plainName, overriddenIn]; done) | decide +kernel
theorem ef_rm1 (m : MethodId) (a : Addr) (pp : Int32) : entryFrame m #[(.ref a), (.int pp)] 3 = mkF m 0 #[.val (.ref a), .val (.int pp), .unset] [] := by first | (simp [entryFrame, mkF, argsToLocals, Value.category]; done) | rfl
def Q_rm1 (Z : State) (a : Addr) (pp : Int32) (t : Addr) (k : ClassId) (v0 v1 v2 : Int32) (h0 : Heap) (n0 : Nat) (v : Option Value) (h : Heap) (L : List Loc) : Prop := v = some (.int (own_cb pp v0 v1 v2)) ∧ Fr n0 L ∧ h = h0
set_option maxRecDepth 65536 in
set_option maxHeartbeats 40000000 in
theorem rm1 (l : Launch) (Z : State) (a0 : Array Value) (hw : ∀ d ∈ tables_1, d.before a0 Z = true) (ws : List Jvm.Cond) (a : Addr) (pp : Int32) (t : Addr) (k : ClassId) (v0 v1 v2 : Int32) (h0 : Heap) (n0 : Nat) (Z0 : n0 ≤ h0.size) (F0 : Fld Z h0 a "com/example/quietzone/quietzone/QrSegment$Mode" "countBits" "[I" (.ref t)) (V0 : Arv Z h0 t k .int (3 : Int32) [.int v0, .int v1, .int v2] (.int (0 : Int32))) :
    MetFree l (⟨"com/example/quietzone/quietzone/QrSegment$Mode", "countBits", "(I)I"⟩ : MethodName) (head1 (Jvm.Cond.code (⟨"com/example/quietzone/quietzone/QrSegment$Mode", "countBits", "(I)I"⟩ : MethodName) prog_24_method_4_code 3 (some .int) :: ws) ({ frames := 0, cells := 0, slots := 0, locals := 0 } : Room)) (fun aα Uα => aα = #[(.ref a), (.int pp)] ∧ Z.Warmed39 Uα.vm ∧ Uα.heap = h0) (fun _ _ _ _ _ => True) (fun _ Uα oα Uβ => ∃ vα Lα, oα = .returned vα ∧ Q_rm1 Z a pp t k v0 v1 v2 h0 n0 vα Uβ.heap Lα ∧ FrameEnd Uα oα Uβ Lα ({ frames := 0, cells := 0, slots := 0, locals := 0 } : Room).cells ({ frames := 0, cells := 0, slots := 0, locals := 0 } : Room).slots) := by
  refine MetFree.of_bodySF (plainFor_of_name pn_com_example_quietzone_quietzone_QrSegment_Mode) hisR ?_
  intro p e s m args below meth c s₁ Bd hml0 hP hKα
  obtain ⟨rfl, hZ, hh⟩ := hP
  have hx := Bd.exec
  have hby := Bd.bytes
  have hml : c.maxLocals = 3 := hml0
  have hown : s.vm.findClass "com/example/quietzone/quietzone/QrSegment$Mode" = some m.cls := findClass_of_methodNamed Bd.named
  have hnm := (name_of_methodNamed Bd.named Bd.method).1
  have X0 : Stand p l e ({ frames := 0, cells := 0, slots := 0, locals := 0 } : Room) s m #[(.ref a), (.int pp)] below meth c s₁ [] 0 0 := Stand.of_body Bd
  have e0 : s₁.heap = h0 := by rw [← hh, Bd.state]; rfl
  have N0 := Fr.nil n0
  suffices k0 : Gl p e below s (Q_rm1 Z a pp t k v0 v1 v2 h0 n0) ({ frames := 0, cells := 0, slots := 0, locals := 0 } : Room).cells ({ frames := 0, cells := 0, slots := 0, locals := 0 } : Room).slots s₁ (mkF m 0 #[.val (.ref a), .val (.int pp), .unset] []) from Gl.st (fun τ κ => castTop (ef_rm1 m a pp) κ) k0
  refine Gl.st (g' := (mkF m 1 #[.val (.ref a), .val (.int pp), .unset] [(.int pp)])) (fun τ κ => XS.iloadN X0.here hx rfl (hb hby d1_0) rfl κ) ?_
  refine Gl.st (g' := (mkF m 3 #[.val (.ref a), .val (.int pp), .unset] [(.int (9 : Int32)), (.int pp)])) (fun τ κ => XS.bipush X0.here hx rfl (hb hby d1_1) κ) ?_
  by_cases hc1 : (9 : Int32) < pp
  · -- pc 3: (9 : Int32) < pp
    refine Gl.st (g' := (mkF m 11 #[.val (.ref a), .val (.int pp), .unset] [])) (fun τ κ => XS.icmpYes X0.here hx rfl (pc0 := 3) (pc' := 11) rfl (hb hby d1_3) rfl (tlt hc1).2.2.1 (by decide) (by decide) κ) ?_
    refine Gl.st (g' := (mkF m 12 #[.val (.ref a), .val (.int pp), .unset] [(.int pp)])) (fun τ κ => XS.iloadN X0.here hx rfl (hb hby d1_11) rfl κ) ?_
    refine Gl.st (g' := (mkF m 14 #[.val (.ref a), .val (.int pp), .unset] [(.int (26 : Int32)), (.int pp)])) (fun τ κ => XS.bipush X0.here hx rfl (hb hby d1_12) κ) ?_
    by_cases hc2 : (26 : Int32) < pp
    · -- pc 14: (26 : Int32) < pp
      refine Gl.st (g' := (mkF m 22 #[.val (.ref a), .val (.int pp), .unset] [])) (fun τ κ => XS.icmpYes X0.here hx rfl (pc0 := 14) (pc' := 22) rfl (hb hby d1_14) rfl (tlt hc2).2.2.1 (by decide) (by decide) κ) ?_
      refine Gl.st (g' := (mkF m 23 #[.val (.ref a), .val (.int pp), .unset] [(.int (2 : Int32))])) (fun τ κ => XS.iconst X0.here hx rfl (hb hby d1_22) κ) ?_
      refine Gl.st (g' := (mkF m 24 #[.val (.ref a), .val (.int pp), .val (.int (2 : Int32))] [])) (fun τ κ => XS.istoreN X0.here hx rfl (hb hby d1_23) rfl (l' := #[.val (.ref a), .val (.int pp), .val (.int (2 : Int32))]) rfl κ) ?_
      refine Gl.st (g' := (mkF m 25 #[.val (.ref a), .val (.int pp), .val (.int (2 : Int32))] [(.ref a)])) (fun τ κ => XS.aloadN X0.here hx rfl (hb hby d1_24) rfl rfl κ) ?_
      obtain ⟨T3, X3, e3, st3⟩ := getF X0 hx hZ hown (host := "") (Or.inl (hw _ (List.mem_of_getElem? (i := 9) rfl))) Via.refl e0 F0 (g := (mkF m 25 #[.val (.ref a), .val (.int pp), .val (.int (2 : Int32))] [(.ref a)])) rfl rfl (hb hby d1_25)
      refine Gl.st (g' := (mkF m 28 #[.val (.ref a), .val (.int pp), .val (.int (2 : Int32))] [(.ref t)])) (fun τ κ => st3 _ κ) ?_
      refine Gl.st (g' := (mkF m 29 #[.val (.ref a), .val (.int pp), .val (.int (2 : Int32))] [(.int (2 : Int32)), (.ref t)])) (fun τ κ => XS.iloadN X3.here hx rfl (hb hby d1_28) rfl κ) ?_
      obtain ⟨cl_o4, Ar_o4, q_o4, S_o4, M_o4, H_o4, G_o4⟩ := id V0
      have hin_o4 : ¬ ((2 : Int32) < 0 ∨ cl_o4.slots.size ≤ ((2 : Int32)).toNatClampNeg) := inb_of S_o4 ⟨by decide, by decide⟩
      refine Gl.st (g' := (mkF m 30 #[.val (.ref a), .val (.int pp), .val (.int (2 : Int32))] [(.int v2)])) (fun τ κ => X3.iaload hx (j := (2 : Int32)) (v := (.int v2)) (by rw [e3]; exact Ar_o4.1) (State.isArrayOf_alike hZ.alike Ar_o4.2.1) Ar_o4.2.2 hin_o4 (H_o4 2 (by rw [S_o4]; decide)) (g := (mkF m 29 #[.val (.ref a), .val (.int pp), .val (.int (2 : Int32))] [(.int (2 : Int32)), (.ref t)])) rfl rfl (hb hby d1_29) _ κ) ?_
      exact Gl.ret (v := some (.int v2)) X3 Bd.notSynchronized (fun h => by rw [Bd.returns] at h; cases h) e3 (fun fs hr => retI X3 hx Bd.returns (hb hby d1_30) hr) (by decide) (by decide) ⟨by simp only [own_cb, hc1, hc2, if_true, if_false], N0, rfl⟩
    · -- pc 14: not (26 : Int32) < pp
      refine Gl.st (g' := (mkF m 17 #[.val (.ref a), .val (.int pp), .unset] [])) (fun τ κ => XS.icmpNo X0.here hx rfl (hb hby d1_14) rfl (flt hc2).2.2.1 κ) ?_
      refine Gl.st (g' := (mkF m 18 #[.val (.ref a), .val (.int pp), .unset] [(.int (1 : Int32))])) (fun τ κ => XS.iconst X0.here hx rfl (hb hby d1_17) κ) ?_
      refine Gl.st (g' := (mkF m 19 #[.val (.ref a), .val (.int pp), .val (.int (1 : Int32))] [])) (fun τ κ => XS.istoreN X0.here hx rfl (hb hby d1_18) rfl (l' := #[.val (.ref a), .val (.int pp), .val (.int (1 : Int32))]) rfl κ) ?_
      refine Gl.st (g' := (mkF m 24 #[.val (.ref a), .val (.int pp), .val (.int (1 : Int32))] [])) (fun τ κ => XS.goto X0.here hx rfl (pc0 := 19) (pc' := 24) rfl (hb hby d1_19) (by decide) (by decide) κ) ?_
      refine Gl.st (g' := (mkF m 25 #[.val (.ref a), .val (.int pp), .val (.int (1 : Int32))] [(.ref a)])) (fun τ κ => XS.aloadN X0.here hx rfl (hb hby d1_24) rfl rfl κ) ?_
      obtain ⟨T5, X5, e5, st5⟩ := getF X0 hx hZ hown (host := "") (Or.inl (hw _ (List.mem_of_getElem? (i := 9) rfl))) Via.refl e0 F0 (g := (mkF m 25 #[.val (.ref a), .val (.int pp), .val (.int (1 : Int32))] [(.ref a)])) rfl rfl (hb hby d1_25)
      refine Gl.st (g' := (mkF m 28 #[.val (.ref a), .val (.int pp), .val (.int (1 : Int32))] [(.ref t)])) (fun τ κ => st5 _ κ) ?_
      refine Gl.st (g' := (mkF m 29 #[.val (.ref a), .val (.int pp), .val (.int (1 : Int32))] [(.int (1 : Int32)), (.ref t)])) (fun τ κ => XS.iloadN X5.here hx rfl (hb hby d1_28) rfl κ) ?_
      obtain ⟨cl_o6, Ar_o6, q_o6, S_o6, M_o6, H_o6, G_o6⟩ := id V0
      have hin_o6 : ¬ ((1 : Int32) < 0 ∨ cl_o6.slots.size ≤ ((1 : Int32)).toNatClampNeg) := inb_of S_o6 ⟨by decide, by decide⟩
      refine Gl.st (g' := (mkF m 30 #[.val (.ref a), .val (.int pp), .val (.int (1 : Int32))] [(.int v1)])) (fun τ κ => X5.iaload hx (j := (1 : Int32)) (v := (.int v1)) (by rw [e5]; exact Ar_o6.1) (State.isArrayOf_alike hZ.alike Ar_o6.2.1) Ar_o6.2.2 hin_o6 (H_o6 1 (by rw [S_o6]; decide)) (g := (mkF m 29 #[.val (.ref a), .val (.int pp), .val (.int (1 : Int32))] [(.int (1 : Int32)), (.ref t)])) rfl rfl (hb hby d1_29) _ κ) ?_
      exact Gl.ret (v := some (.int v1)) X5 Bd.notSynchronized (fun h => by rw [Bd.returns] at h; cases h) e5 (fun fs hr => retI X5 hx Bd.returns (hb hby d1_30) hr) (by decide) (by decide) ⟨by simp only [own_cb, hc1, hc2, if_true, if_false], N0, rfl⟩
  · -- pc 3: not (9 : Int32) < pp
    refine Gl.st (g' := (mkF m 6 #[.val (.ref a), .val (.int pp), .unset] [])) (fun τ κ => XS.icmpNo X0.here hx rfl (hb hby d1_3) rfl (flt hc1).2.2.1 κ) ?_
    refine Gl.st (g' := (mkF m 7 #[.val (.ref a), .val (.int pp), .unset] [(.int (0 : Int32))])) (fun τ κ => XS.iconst X0.here hx rfl (hb hby d1_6) κ) ?_
    refine Gl.st (g' := (mkF m 8 #[.val (.ref a), .val (.int pp), .val (.int (0 : Int32))] [])) (fun τ κ => XS.istoreN X0.here hx rfl (hb hby d1_7) rfl (l' := #[.val (.ref a), .val (.int pp), .val (.int (0 : Int32))]) rfl κ) ?_
    refine Gl.st (g' := (mkF m 24 #[.val (.ref a), .val (.int pp), .val (.int (0 : Int32))] [])) (fun τ κ => XS.goto X0.here hx rfl (pc0 := 8) (pc' := 24) rfl (hb hby d1_8) (by decide) (by decide) κ) ?_
    refine Gl.st (g' := (mkF m 25 #[.val (.ref a), .val (.int pp), .val (.int (0 : Int32))] [(.ref a)])) (fun τ κ => XS.aloadN X0.here hx rfl (hb hby d1_24) rfl rfl κ) ?_
    obtain ⟨T7, X7, e7, st7⟩ := getF X0 hx hZ hown (host := "") (Or.inl (hw _ (List.mem_of_getElem? (i := 9) rfl))) Via.refl e0 F0 (g := (mkF m 25 #[.val (.ref a), .val (.int pp), .val (.int (0 : Int32))] [(.ref a)])) rfl rfl (hb hby d1_25)
    refine Gl.st (g' := (mkF m 28 #[.val (.ref a), .val (.int pp), .val (.int (0 : Int32))] [(.ref t)])) (fun τ κ => st7 _ κ) ?_
    refine Gl.st (g' := (mkF m 29 #[.val (.ref a), .val (.int pp), .val (.int (0 : Int32))] [(.int (0 : Int32)), (.ref t)])) (fun τ κ => XS.iloadN X7.here hx rfl (hb hby d1_28) rfl κ) ?_
    obtain ⟨cl_o8, Ar_o8, q_o8, S_o8, M_o8, H_o8, G_o8⟩ := id V0
    have hin_o8 : ¬ ((0 : Int32) < 0 ∨ cl_o8.slots.size ≤ ((0 : Int32)).toNatClampNeg) := inb_of S_o8 ⟨by decide, by decide⟩
    refine Gl.st (g' := (mkF m 30 #[.val (.ref a), .val (.int pp), .val (.int (0 : Int32))] [(.int v0)])) (fun τ κ => X7.iaload hx (j := (0 : Int32)) (v := (.int v0)) (by rw [e7]; exact Ar_o8.1) (State.isArrayOf_alike hZ.alike Ar_o8.2.1) Ar_o8.2.2 hin_o8 (H_o8 0 (by rw [S_o8]; decide)) (g := (mkF m 29 #[.val (.ref a), .val (.int pp), .val (.int (0 : Int32))] [(.int (0 : Int32)), (.ref t)])) rfl rfl (hb hby d1_29) _ κ) ?_
    exact Gl.ret (v := some (.int v0)) X7 Bd.notSynchronized (fun h => by rw [Bd.returns] at h; cases h) e7 (fun fs hr => retI X7 hx Bd.returns (hb hby d1_30) hr) (by decide) (by decide) ⟨by simp only [own_cb, hc1, if_true, if_false], N0, rfl⟩
theorem pd_0 : parseMethodDescriptor "(I)I" = some ⟨[.int], some .int⟩ := by decide +kernel
theorem pn_com_example_quietzone_quietzone_ModeCountBitsPinLaw : plainName "com/example/quietzone/quietzone/ModeCountBitsPinLaw" = true := by first | (simp [plainName, overriddenIn]; done) | decide +kernel
theorem ef_rm0 (m : MethodId) (x0 : Int32) (x1 : Int32) : entryFrame m #[(.int x0), (.int x1)] maxLocals = mkF m 0 #[.val (.int x0), .val (.int x1), .unset, .unset, .unset, .unset, .unset, .unset, .unset] [] := by first | (simp [entryFrame, mkF, argsToLocals, Value.category, maxLocals]; done) | rfl
def Q_rm0 (Z : State) (x0 : Int32) (x1 : Int32) (a_NUMERIC t_NUMERIC : Addr) (k_NUMERIC : ClassId) (a_ALPHANUMERIC t_ALPHANUMERIC : Addr) (k_ALPHANUMERIC : ClassId) (a_BYTE t_BYTE : Addr) (k_BYTE : ClassId) (h0 : Heap) (n0 : Nat) (v : Option Value) (h : Heap) (L : List Loc) : Prop := v = some (.int 1) ∧ Fr n0 L
set_option maxRecDepth 65536 in
set_option maxHeartbeats 40000000 in
theorem rm0 (l : Launch) (Z : State) (a0 : Array Value) (hw : ∀ d ∈ tables_1, d.before a0 Z = true) (ws : List Jvm.Cond) (x0 : Int32) (x1 : Int32) (a_NUMERIC t_NUMERIC : Addr) (k_NUMERIC : ClassId) (a_ALPHANUMERIC t_ALPHANUMERIC : Addr) (k_ALPHANUMERIC : ClassId) (a_BYTE t_BYTE : Addr) (k_BYTE : ClassId) (h0 : Heap) (n0 : Nat) (Z0 : n0 ≤ h0.size) (S_NUMERIC : Sta Z h0 "com/example/quietzone/quietzone/QrSegment$Mode" "NUMERIC" "Lcom/example/quietzone/quietzone/QrSegment$Mode;" (.ref a_NUMERIC)) (E_NUMERIC : Exa Z h0 a_NUMERIC "com/example/quietzone/quietzone/QrSegment$Mode") (F_NUMERIC : Fld Z h0 a_NUMERIC "com/example/quietzone/quietzone/QrSegment$Mode" "countBits" "[I" (.ref t_NUMERIC)) (V_NUMERIC : Arv Z h0 t_NUMERIC k_NUMERIC .int (3 : Int32) [.int (10 : Int32), .int (12 : Int32), .int (14 : Int32)] (.int (0 : Int32))) (S_ALPHANUMERIC : Sta Z h0 "com/example/quietzone/quietzone/QrSegment$Mode" "ALPHANUMERIC" "Lcom/example/quietzone/quietzone/QrSegment$Mode;" (.ref a_ALPHANUMERIC)) (E_ALPHANUMERIC : Exa Z h0 a_ALPHANUMERIC "com/example/quietzone/quietzone/QrSegment$Mode") (F_ALPHANUMERIC : Fld Z h0 a_ALPHANUMERIC "com/example/quietzone/quietzone/QrSegment$Mode" "countBits" "[I" (.ref t_ALPHANUMERIC)) (V_ALPHANUMERIC : Arv Z h0 t_ALPHANUMERIC k_ALPHANUMERIC .int (3 : Int32) [.int (9 : Int32), .int (11 : Int32), .int (13 : Int32)] (.int (0 : Int32))) (S_BYTE : Sta Z h0 "com/example/quietzone/quietzone/QrSegment$Mode" "BYTE" "Lcom/example/quietzone/quietzone/QrSegment$Mode;" (.ref a_BYTE)) (E_BYTE : Exa Z h0 a_BYTE "com/example/quietzone/quietzone/QrSegment$Mode") (F_BYTE : Fld Z h0 a_BYTE "com/example/quietzone/quietzone/QrSegment$Mode" "countBits" "[I" (.ref t_BYTE)) (V_BYTE : Arv Z h0 t_BYTE k_BYTE .int (3 : Int32) [.int (8 : Int32), .int (16 : Int32), .int (16 : Int32)] (.int (0 : Int32))) :
    MetFree l x (head1 (Jvm.Cond.code x code maxLocals ret :: ws) room_1) (fun aα Uα => aα = #[(.int x0), (.int x1)] ∧ Z.Warmed39 Uα.vm ∧ Uα.heap = h0) (fun _ _ _ _ _ => True) (fun _ Uα oα Uβ => ∃ vα Lα, oα = .returned vα ∧ Q_rm0 Z x0 x1 a_NUMERIC t_NUMERIC k_NUMERIC a_ALPHANUMERIC t_ALPHANUMERIC k_ALPHANUMERIC a_BYTE t_BYTE k_BYTE h0 n0 vα Uβ.heap Lα ∧ FrameEnd Uα oα Uβ Lα 0 0) := by
  refine MetFree.of_bodySF (plainFor_of_name pn_com_example_quietzone_quietzone_ModeCountBitsPinLaw) hisR ?_
  intro p e s m args below meth c s₁ Bd hml0 hP hKα
  obtain ⟨rfl, hZ, hh⟩ := hP
  have hx := Bd.exec
  have hby := Bd.bytes
  have hml : c.maxLocals = 9 := hml0
  have hown : s.vm.findClass "com/example/quietzone/quietzone/ModeCountBitsPinLaw" = some m.cls := findClass_of_methodNamed Bd.named
  have hnm := (name_of_methodNamed Bd.named Bd.method).1
  have X0 : Stand p l e room_1 s m #[(.int x0), (.int x1)] below meth c s₁ [] 0 0 := Stand.of_body Bd
  have e0 : s₁.heap = h0 := by rw [← hh, Bd.state]; rfl
  have N0 := Fr.nil n0
  suffices k0 : Gl p e below s (Q_rm0 Z x0 x1 a_NUMERIC t_NUMERIC k_NUMERIC a_ALPHANUMERIC t_ALPHANUMERIC k_ALPHANUMERIC a_BYTE t_BYTE k_BYTE h0 n0) 0 0 s₁ (mkF m 0 #[.val (.int x0), .val (.int x1), .unset, .unset, .unset, .unset, .unset, .unset, .unset] []) from Gl.st (fun τ κ => castTop (ef_rm0 m x0 x1) κ) k0
  refine Gl.st (g' := (mkF m 1 #[.val (.int x0), .val (.int x1), .unset, .unset, .unset, .unset, .unset, .unset, .unset] [(.int x0)])) (fun τ κ => XS.iloadN X0.here hx rfl (hb hby at_0) rfl κ) ?_
  refine Gl.st (g' := (mkF m 3 #[.val (.int x0), .val (.int x1), .unset, .unset, .unset, .unset, .unset, .unset, .unset] [(.int (2147483647 : Int32)), (.int x0)])) (fun τ κ => X0.ldcInt hx hown (mvT hZ (hw _ (List.mem_of_getElem? (i := 0) rfl))) (g := (mkF m 1 #[.val (.int x0), .val (.int x1), .unset, .unset, .unset, .unset, .unset, .unset, .unset] [(.int x0)])) rfl (hb hby at_1) _ κ) ?_
  refine Gl.st (g' := (mkF m 4 #[.val (.int x0), .val (.int x1), .unset, .unset, .unset, .unset, .unset, .unset, .unset] [(.int (x0 &&& (2147483647 : Int32)))])) (fun τ κ => XS.iand X0.here hx rfl (hb hby at_3) rfl κ) ?_
  refine Gl.st (g' := (mkF m 5 #[.val (.int x0), .val (.int x1), .unset, .unset, .unset, .unset, .unset, .unset, .unset] [(.int (3 : Int32)), (.int (x0 &&& (2147483647 : Int32)))])) (fun τ κ => XS.iconst X0.here hx rfl (hb hby at_4) κ) ?_
  refine Gl.st (g' := (mkF m 6 #[.val (.int x0), .val (.int x1), .unset, .unset, .unset, .unset, .unset, .unset, .unset] [(.int ((x0 &&& (2147483647 : Int32)) % (3 : Int32)))])) (fun τ κ => iremM (g := (mkF m 5 #[.val (.int x0), .val (.int x1), .unset, .unset, .unset, .unset, .unset, .unset, .unset] [(.int (3 : Int32)), (.int (x0 &&& (2147483647 : Int32)))])) X0 hx rfl (hb hby at_5) rfl (by decide) κ) ?_
  refine Gl.st (g' := (mkF m 7 #[.val (.int x0), .val (.int x1), .val (.int ((x0 &&& (2147483647 : Int32)) % (3 : Int32))), .unset, .unset, .unset, .unset, .unset, .unset] [])) (fun τ κ => XS.istoreN X0.here hx rfl (hb hby at_6) rfl (l' := #[.val (.int x0), .val (.int x1), .val (.int ((x0 &&& (2147483647 : Int32)) % (3 : Int32))), .unset, .unset, .unset, .unset, .unset, .unset]) rfl κ) ?_
  refine Gl.st (g' := (mkF m 8 #[.val (.int x0), .val (.int x1), .val (.int ((x0 &&& (2147483647 : Int32)) % (3 : Int32))), .unset, .unset, .unset, .unset, .unset, .unset] [(.int (1 : Int32))])) (fun τ κ => XS.iconst X0.here hx rfl (hb hby at_7) κ) ?_
  refine Gl.st (g' := (mkF m 9 #[.val (.int x0), .val (.int x1), .val (.int ((x0 &&& (2147483647 : Int32)) % (3 : Int32))), .unset, .unset, .unset, .unset, .unset, .unset] [(.int x1), (.int (1 : Int32))])) (fun τ κ => XS.iloadN X0.here hx rfl (hb hby at_8) rfl κ) ?_
  refine Gl.st (g' := (mkF m 11 #[.val (.int x0), .val (.int x1), .val (.int ((x0 &&& (2147483647 : Int32)) % (3 : Int32))), .unset, .unset, .unset, .unset, .unset, .unset] [(.int (2147483647 : Int32)), (.int x1), (.int (1 : Int32))])) (fun τ κ => X0.ldcInt hx hown (mvT hZ (hw _ (List.mem_of_getElem? (i := 0) rfl))) (g := (mkF m 9 #[.val (.int x0), .val (.int x1), .val (.int ((x0 &&& (2147483647 : Int32)) % (3 : Int32))), .unset, .unset, .unset, .unset, .unset, .unset] [(.int x1), (.int (1 : Int32))])) rfl (hb hby at_9) _ κ) ?_
  refine Gl.st (g' := (mkF m 12 #[.val (.int x0), .val (.int x1), .val (.int ((x0 &&& (2147483647 : Int32)) % (3 : Int32))), .unset, .unset, .unset, .unset, .unset, .unset] [(.int (x1 &&& (2147483647 : Int32))), (.int (1 : Int32))])) (fun τ κ => XS.iand X0.here hx rfl (hb hby at_11) rfl κ) ?_
  refine Gl.st (g' := (mkF m 14 #[.val (.int x0), .val (.int x1), .val (.int ((x0 &&& (2147483647 : Int32)) % (3 : Int32))), .unset, .unset, .unset, .unset, .unset, .unset] [(.int (40 : Int32)), (.int (x1 &&& (2147483647 : Int32))), (.int (1 : Int32))])) (fun τ κ => XS.bipush X0.here hx rfl (hb hby at_12) κ) ?_
  refine Gl.st (g' := (mkF m 15 #[.val (.int x0), .val (.int x1), .val (.int ((x0 &&& (2147483647 : Int32)) % (3 : Int32))), .unset, .unset, .unset, .unset, .unset, .unset] [(.int ((x1 &&& (2147483647 : Int32)) % (40 : Int32))), (.int (1 : Int32))])) (fun τ κ => iremM (g := (mkF m 14 #[.val (.int x0), .val (.int x1), .val (.int ((x0 &&& (2147483647 : Int32)) % (3 : Int32))), .unset, .unset, .unset, .unset, .unset, .unset] [(.int (40 : Int32)), (.int (x1 &&& (2147483647 : Int32))), (.int (1 : Int32))])) X0 hx rfl (hb hby at_14) rfl (by decide) κ) ?_
  refine Gl.st (g' := (mkF m 16 #[.val (.int x0), .val (.int x1), .val (.int ((x0 &&& (2147483647 : Int32)) % (3 : Int32))), .unset, .unset, .unset, .unset, .unset, .unset] [(.int ((1 : Int32) + ((x1 &&& (2147483647 : Int32)) % (40 : Int32))))])) (fun τ κ => XS.iadd X0.here hx rfl (hb hby at_15) rfl κ) ?_
  refine Gl.st (g' := (mkF m 17 #[.val (.int x0), .val (.int x1), .val (.int ((x0 &&& (2147483647 : Int32)) % (3 : Int32))), .val (.int ((1 : Int32) + ((x1 &&& (2147483647 : Int32)) % (40 : Int32)))), .unset, .unset, .unset, .unset, .unset] [])) (fun τ κ => XS.istoreN X0.here hx rfl (hb hby at_16) rfl (l' := #[.val (.int x0), .val (.int x1), .val (.int ((x0 &&& (2147483647 : Int32)) % (3 : Int32))), .val (.int ((1 : Int32) + ((x1 &&& (2147483647 : Int32)) % (40 : Int32)))), .unset, .unset, .unset, .unset, .unset]) rfl κ) ?_
  refine Gl.st (g' := (mkF m 18 #[.val (.int x0), .val (.int x1), .val (.int ((x0 &&& (2147483647 : Int32)) % (3 : Int32))), .val (.int ((1 : Int32) + ((x1 &&& (2147483647 : Int32)) % (40 : Int32)))), .unset, .unset, .unset, .unset, .unset] [(.int ((x0 &&& (2147483647 : Int32)) % (3 : Int32)))])) (fun τ κ => XS.iloadN X0.here hx rfl (hb hby at_17) rfl κ) ?_
  by_cases hc9 : ((x0 &&& (2147483647 : Int32)) % (3 : Int32)) = (0 : Int32)
  · -- pc 18: ((x0 &&& (2147483647 : Int32)) % (3 : Int32)) = (0 : Int32)
    refine Gl.st (g' := (mkF m 21 #[.val (.int x0), .val (.int x1), .val (.int ((x0 &&& (2147483647 : Int32)) % (3 : Int32))), .val (.int ((1 : Int32) + ((x1 &&& (2147483647 : Int32)) % (40 : Int32)))), .unset, .unset, .unset, .unset, .unset] [])) (fun τ κ => XS.ifNo X0.here hx rfl (hb hby at_18) rfl ((if0 _ _).trans (teq hc9).2) κ) ?_
    obtain ⟨T10, X10, e10, st10⟩ := getS2 X0 hx hZ hown (host := "") (Or.inl (hw _ (List.mem_of_getElem? (i := 1) rfl))) Via.refl e0 S_NUMERIC (g := (mkF m 21 #[.val (.int x0), .val (.int x1), .val (.int ((x0 &&& (2147483647 : Int32)) % (3 : Int32))), .val (.int ((1 : Int32) + ((x1 &&& (2147483647 : Int32)) % (40 : Int32)))), .unset, .unset, .unset, .unset, .unset] [])) rfl (hb hby at_21)
    refine Gl.st (g' := (mkF m 24 #[.val (.int x0), .val (.int x1), .val (.int ((x0 &&& (2147483647 : Int32)) % (3 : Int32))), .val (.int ((1 : Int32) + ((x1 &&& (2147483647 : Int32)) % (40 : Int32)))), .unset, .unset, .unset, .unset, .unset] [(.ref a_NUMERIC)])) (fun τ κ => st10 _ κ) ?_
    refine Gl.st (g' := (mkF m 26 #[.val (.int x0), .val (.int x1), .val (.int ((x0 &&& (2147483647 : Int32)) % (3 : Int32))), .val (.int ((1 : Int32) + ((x1 &&& (2147483647 : Int32)) % (40 : Int32)))), .val (.ref a_NUMERIC), .unset, .unset, .unset, .unset] [])) (fun τ κ => XS.astore X10.here hx rfl (hb hby at_24) rfl rfl (l' := #[.val (.int x0), .val (.int x1), .val (.int ((x0 &&& (2147483647 : Int32)) % (3 : Int32))), .val (.int ((1 : Int32) + ((x1 &&& (2147483647 : Int32)) % (40 : Int32)))), .val (.ref a_NUMERIC), .unset, .unset, .unset, .unset]) rfl κ) ?_
    refine Gl.st (g' := (mkF m 28 #[.val (.int x0), .val (.int x1), .val (.int ((x0 &&& (2147483647 : Int32)) % (3 : Int32))), .val (.int ((1 : Int32) + ((x1 &&& (2147483647 : Int32)) % (40 : Int32)))), .val (.ref a_NUMERIC), .unset, .unset, .unset, .unset] [(.int (10 : Int32))])) (fun τ κ => XS.bipush X10.here hx rfl (hb hby at_26) κ) ?_
    refine Gl.st (g' := (mkF m 30 #[.val (.int x0), .val (.int x1), .val (.int ((x0 &&& (2147483647 : Int32)) % (3 : Int32))), .val (.int ((1 : Int32) + ((x1 &&& (2147483647 : Int32)) % (40 : Int32)))), .val (.ref a_NUMERIC), .val (.int (10 : Int32)), .unset, .unset, .unset] [])) (fun τ κ => XS.istore X10.here hx rfl (hb hby at_28) rfl (l' := #[.val (.int x0), .val (.int x1), .val (.int ((x0 &&& (2147483647 : Int32)) % (3 : Int32))), .val (.int ((1 : Int32) + ((x1 &&& (2147483647 : Int32)) % (40 : Int32)))), .val (.ref a_NUMERIC), .val (.int (10 : Int32)), .unset, .unset, .unset]) rfl κ) ?_
    refine Gl.st (g' := (mkF m 32 #[.val (.int x0), .val (.int x1), .val (.int ((x0 &&& (2147483647 : Int32)) % (3 : Int32))), .val (.int ((1 : Int32) + ((x1 &&& (2147483647 : Int32)) % (40 : Int32)))), .val (.ref a_NUMERIC), .val (.int (10 : Int32)), .unset, .unset, .unset] [(.int (12 : Int32))])) (fun τ κ => XS.bipush X10.here hx rfl (hb hby at_30) κ) ?_
    refine Gl.st (g' := (mkF m 34 #[.val (.int x0), .val (.int x1), .val (.int ((x0 &&& (2147483647 : Int32)) % (3 : Int32))), .val (.int ((1 : Int32) + ((x1 &&& (2147483647 : Int32)) % (40 : Int32)))), .val (.ref a_NUMERIC), .val (.int (10 : Int32)), .val (.int (12 : Int32)), .unset, .unset] [])) (fun τ κ => XS.istore X10.here hx rfl (hb hby at_32) rfl (l' := #[.val (.int x0), .val (.int x1), .val (.int ((x0 &&& (2147483647 : Int32)) % (3 : Int32))), .val (.int ((1 : Int32) + ((x1 &&& (2147483647 : Int32)) % (40 : Int32)))), .val (.ref a_NUMERIC), .val (.int (10 : Int32)), .val (.int (12 : Int32)), .unset, .unset]) rfl κ) ?_
    refine Gl.st (g' := (mkF m 36 #[.val (.int x0), .val (.int x1), .val (.int ((x0 &&& (2147483647 : Int32)) % (3 : Int32))), .val (.int ((1 : Int32) + ((x1 &&& (2147483647 : Int32)) % (40 : Int32)))), .val (.ref a_NUMERIC), .val (.int (10 : Int32)), .val (.int (12 : Int32)), .unset, .unset] [(.int (14 : Int32))])) (fun τ κ => XS.bipush X10.here hx rfl (hb hby at_34) κ) ?_
    refine Gl.st (g' := (mkF m 38 #[.val (.int x0), .val (.int x1), .val (.int ((x0 &&& (2147483647 : Int32)) % (3 : Int32))), .val (.int ((1 : Int32) + ((x1 &&& (2147483647 : Int32)) % (40 : Int32)))), .val (.ref a_NUMERIC), .val (.int (10 : Int32)), .val (.int (12 : Int32)), .val (.int (14 : Int32)), .unset] [])) (fun τ κ => XS.istore X10.here hx rfl (hb hby at_36) rfl (l' := #[.val (.int x0), .val (.int x1), .val (.int ((x0 &&& (2147483647 : Int32)) % (3 : Int32))), .val (.int ((1 : Int32) + ((x1 &&& (2147483647 : Int32)) % (40 : Int32)))), .val (.ref a_NUMERIC), .val (.int (10 : Int32)), .val (.int (12 : Int32)), .val (.int (14 : Int32)), .unset]) rfl κ) ?_
    refine Gl.st (g' := (mkF m 83 #[.val (.int x0), .val (.int x1), .val (.int ((x0 &&& (2147483647 : Int32)) % (3 : Int32))), .val (.int ((1 : Int32) + ((x1 &&& (2147483647 : Int32)) % (40 : Int32)))), .val (.ref a_NUMERIC), .val (.int (10 : Int32)), .val (.int (12 : Int32)), .val (.int (14 : Int32)), .unset] [])) (fun τ κ => XS.goto X10.here hx rfl (pc0 := 38) (pc' := 83) rfl (hb hby at_38) (by decide) (by decide) κ) ?_
    refine Gl.st (g' := (mkF m 84 #[.val (.int x0), .val (.int x1), .val (.int ((x0 &&& (2147483647 : Int32)) % (3 : Int32))), .val (.int ((1 : Int32) + ((x1 &&& (2147483647 : Int32)) % (40 : Int32)))), .val (.ref a_NUMERIC), .val (.int (10 : Int32)), .val (.int (12 : Int32)), .val (.int (14 : Int32)), .unset] [(.int ((1 : Int32) + ((x1 &&& (2147483647 : Int32)) % (40 : Int32))))])) (fun τ κ => XS.iloadN X10.here hx rfl (hb hby at_83) rfl κ) ?_
    refine Gl.st (g' := (mkF m 86 #[.val (.int x0), .val (.int x1), .val (.int ((x0 &&& (2147483647 : Int32)) % (3 : Int32))), .val (.int ((1 : Int32) + ((x1 &&& (2147483647 : Int32)) % (40 : Int32)))), .val (.ref a_NUMERIC), .val (.int (10 : Int32)), .val (.int (12 : Int32)), .val (.int (14 : Int32)), .unset] [(.int (10 : Int32)), (.int ((1 : Int32) + ((x1 &&& (2147483647 : Int32)) % (40 : Int32))))])) (fun τ κ => XS.bipush X10.here hx rfl (hb hby at_84) κ) ?_
    by_cases hc11 : ((1 : Int32) + ((x1 &&& (2147483647 : Int32)) % (40 : Int32))) < (10 : Int32)
    · -- pc 86: ((1 : Int32) + ((x1 &&& (2147483647 : Int32)) % (40 : Int32))) < (10 : Int32)
      refine Gl.st (g' := (mkF m 89 #[.val (.int x0), .val (.int x1), .val (.int ((x0 &&& (2147483647 : Int32)) % (3 : Int32))), .val (.int ((1 : Int32) + ((x1 &&& (2147483647 : Int32)) % (40 : Int32)))), .val (.ref a_NUMERIC), .val (.int (10 : Int32)), .val (.int (12 : Int32)), .val (.int (14 : Int32)), .unset] [])) (fun τ κ => XS.icmpNo X10.here hx rfl (hb hby at_86) rfl (tlt hc11).2.1 κ) ?_
      refine Gl.st (g' := (mkF m 91 #[.val (.int x0), .val (.int x1), .val (.int ((x0 &&& (2147483647 : Int32)) % (3 : Int32))), .val (.int ((1 : Int32) + ((x1 &&& (2147483647 : Int32)) % (40 : Int32)))), .val (.ref a_NUMERIC), .val (.int (10 : Int32)), .val (.int (12 : Int32)), .val (.int (14 : Int32)), .unset] [(.int (10 : Int32))])) (fun τ κ => XS.iload X10.here hx rfl (hb hby at_89) rfl κ) ?_
      refine Gl.st (g' := (mkF m 93 #[.val (.int x0), .val (.int x1), .val (.int ((x0 &&& (2147483647 : Int32)) % (3 : Int32))), .val (.int ((1 : Int32) + ((x1 &&& (2147483647 : Int32)) % (40 : Int32)))), .val (.ref a_NUMERIC), .val (.int (10 : Int32)), .val (.int (12 : Int32)), .val (.int (14 : Int32)), .val (.int (10 : Int32))] [])) (fun τ κ => XS.istore X10.here hx rfl (hb hby at_91) rfl (l' := #[.val (.int x0), .val (.int x1), .val (.int ((x0 &&& (2147483647 : Int32)) % (3 : Int32))), .val (.int ((1 : Int32) + ((x1 &&& (2147483647 : Int32)) % (40 : Int32)))), .val (.ref a_NUMERIC), .val (.int (10 : Int32)), .val (.int (12 : Int32)), .val (.int (14 : Int32)), .val (.int (10 : Int32))]) rfl κ) ?_
      refine Gl.st (g' := (mkF m 113 #[.val (.int x0), .val (.int x1), .val (.int ((x0 &&& (2147483647 : Int32)) % (3 : Int32))), .val (.int ((1 : Int32) + ((x1 &&& (2147483647 : Int32)) % (40 : Int32)))), .val (.ref a_NUMERIC), .val (.int (10 : Int32)), .val (.int (12 : Int32)), .val (.int (14 : Int32)), .val (.int (10 : Int32))] [])) (fun τ κ => XS.goto X10.here hx rfl (pc0 := 93) (pc' := 113) rfl (hb hby at_93) (by decide) (by decide) κ) ?_
      refine Gl.st (g' := (mkF m 115 #[.val (.int x0), .val (.int x1), .val (.int ((x0 &&& (2147483647 : Int32)) % (3 : Int32))), .val (.int ((1 : Int32) + ((x1 &&& (2147483647 : Int32)) % (40 : Int32)))), .val (.ref a_NUMERIC), .val (.int (10 : Int32)), .val (.int (12 : Int32)), .val (.int (14 : Int32)), .val (.int (10 : Int32))] [(.ref a_NUMERIC)])) (fun τ κ => XS.aload X10.here hx rfl (hb hby at_113) rfl rfl κ) ?_
      refine Gl.st (g' := (mkF m 116 #[.val (.int x0), .val (.int x1), .val (.int ((x0 &&& (2147483647 : Int32)) % (3 : Int32))), .val (.int ((1 : Int32) + ((x1 &&& (2147483647 : Int32)) % (40 : Int32)))), .val (.ref a_NUMERIC), .val (.int (10 : Int32)), .val (.int (12 : Int32)), .val (.int (14 : Int32)), .val (.int (10 : Int32))] [(.int ((1 : Int32) + ((x1 &&& (2147483647 : Int32)) % (40 : Int32)))), (.ref a_NUMERIC)])) (fun τ κ => XS.iloadN X10.here hx rfl (hb hby at_115) rfl κ) ?_
      obtain ⟨cq12, kq12, q12a, q12b, q12c⟩ := isOf hZ e10 E_NUMERIC
      obtain ⟨rv12, _, ⟨T12, L12, k12, n12⟩, -, X12, ⟨Lc12, hQ12, l12, y12, z12⟩, st12⟩ := X10.virtualBack hx (y := (⟨"com/example/quietzone/quietzone/QrSegment$Mode", "countBits", "(I)I"⟩ : MethodName)) (z := (⟨"com/example/quietzone/quietzone/QrSegment$Mode", "countBits", "(I)I"⟩ : MethodName)) hown (mvT hZ (hw _ (List.mem_of_getElem? (i := 4) rfl))) (mvT hZ (hw _ (List.mem_of_getElem? (i := 5) rfl))) (notFace_of_selects (args := #[]) (mvT hZ (hw _ (List.mem_of_getElem? (i := 7) rfl)))) (mvT hZ (hw _ (List.mem_of_getElem? (i := 7) rfl))) (mvT hZ (hw _ (List.mem_of_getElem? (i := 6) rfl))) (by decide) (backOf (W := 0) (rm1 l Z a0 hw [] a_NUMERIC ((1 : Int32) + ((x1 &&& (2147483647 : Int32)) % (40 : Int32))) t_NUMERIC k_NUMERIC (10 : Int32) (12 : Int32) (14 : Int32) h0 n0 Z0 F_NUMERIC V_NUMERIC) hZ (hw _ (List.mem_of_getElem? (i := 8) rfl)) (hw _ (List.mem_of_getElem? (i := 2) rfl)) (by decide) (by decide)) q12a q12c (g := (mkF m 116 #[.val (.int x0), .val (.int x1), .val (.int ((x0 &&& (2147483647 : Int32)) % (3 : Int32))), .val (.int ((1 : Int32) + ((x1 &&& (2147483647 : Int32)) % (40 : Int32)))), .val (.ref a_NUMERIC), .val (.int (10 : Int32)), .val (.int (12 : Int32)), .val (.int (14 : Int32)), .val (.int (10 : Int32))] [(.int ((1 : Int32) + ((x1 &&& (2147483647 : Int32)) % (40 : Int32)))), (.ref a_NUMERIC)])) rfl (by rw [hml]; rfl) (Steps.refl _) (argsL := [(.int ((1 : Int32) + ((x1 &&& (2147483647 : Int32)) % (40 : Int32))))]) (rest := []) (lenOf pd_0 rfl) rfl (by show 2 * 0 + _ ≤ _; exact Nat.le_of_eq rfl) (hb hby at_116) (fun _ _ => ⟨rfl, e10, (by decide : 0 + 0 ≤ _), (by decide : 0 + 0 ≤ _)⟩)
      dsimp only [Pt.U, Pt.locs, Pt.cells, Pt.slots] at X12 l12 y12 z12 st12 hQ12
      subst l12 y12 z12
      obtain ⟨rfl, N12q, e12⟩ := hQ12
      have N12 := Fr.app N0 N12q
      refine Gl.st (g' := (mkF m 119 #[.val (.int x0), .val (.int x1), .val (.int ((x0 &&& (2147483647 : Int32)) % (3 : Int32))), .val (.int ((1 : Int32) + ((x1 &&& (2147483647 : Int32)) % (40 : Int32)))), .val (.ref a_NUMERIC), .val (.int (10 : Int32)), .val (.int (12 : Int32)), .val (.int (14 : Int32)), .val (.int (10 : Int32))] [(.int (own_cb ((1 : Int32) + ((x1 &&& (2147483647 : Int32)) % (40 : Int32))) (10 : Int32) (12 : Int32) (14 : Int32)))])) (fun τ κ => st12.trans κ) ?_
      refine Gl.st (g' := (mkF m 121 #[.val (.int x0), .val (.int x1), .val (.int ((x0 &&& (2147483647 : Int32)) % (3 : Int32))), .val (.int ((1 : Int32) + ((x1 &&& (2147483647 : Int32)) % (40 : Int32)))), .val (.ref a_NUMERIC), .val (.int (10 : Int32)), .val (.int (12 : Int32)), .val (.int (14 : Int32)), .val (.int (10 : Int32))] [(.int (10 : Int32)), (.int (own_cb ((1 : Int32) + ((x1 &&& (2147483647 : Int32)) % (40 : Int32))) (10 : Int32) (12 : Int32) (14 : Int32)))])) (fun τ κ => XS.iload X12.here hx rfl (hb hby at_119) rfl κ) ?_
      have hc13 : (own_cb ((1 : Int32) + ((x1 &&& (2147483647 : Int32)) % (40 : Int32))) (10 : Int32) (12 : Int32) (14 : Int32)) = (10 : Int32) := own_e0 hc11
      refine Gl.st (g' := (mkF m 124 #[.val (.int x0), .val (.int x1), .val (.int ((x0 &&& (2147483647 : Int32)) % (3 : Int32))), .val (.int ((1 : Int32) + ((x1 &&& (2147483647 : Int32)) % (40 : Int32)))), .val (.ref a_NUMERIC), .val (.int (10 : Int32)), .val (.int (12 : Int32)), .val (.int (14 : Int32)), .val (.int (10 : Int32))] [])) (fun τ κ => XS.icmpNo X12.here hx rfl (hb hby at_121) rfl (teq hc13).2 κ) ?_
      refine Gl.st (g' := (mkF m 125 #[.val (.int x0), .val (.int x1), .val (.int ((x0 &&& (2147483647 : Int32)) % (3 : Int32))), .val (.int ((1 : Int32) + ((x1 &&& (2147483647 : Int32)) % (40 : Int32)))), .val (.ref a_NUMERIC), .val (.int (10 : Int32)), .val (.int (12 : Int32)), .val (.int (14 : Int32)), .val (.int (10 : Int32))] [(.int (1 : Int32))])) (fun τ κ => XS.iconst X12.here hx rfl (hb hby at_124) κ) ?_
      refine Gl.st (g' := (mkF m 129 #[.val (.int x0), .val (.int x1), .val (.int ((x0 &&& (2147483647 : Int32)) % (3 : Int32))), .val (.int ((1 : Int32) + ((x1 &&& (2147483647 : Int32)) % (40 : Int32)))), .val (.ref a_NUMERIC), .val (.int (10 : Int32)), .val (.int (12 : Int32)), .val (.int (14 : Int32)), .val (.int (10 : Int32))] [(.int (1 : Int32))])) (fun τ κ => XS.goto X12.here hx rfl (pc0 := 125) (pc' := 129) rfl (hb hby at_125) (by decide) (by decide) κ) ?_
      exact Gl.ret (v := some (.int (1 : Int32))) X12 Bd.notSynchronized (fun h => by rw [Bd.returns] at h; cases h) e12 (fun fs hr => retN X12 hx (t := .boolean) Bd.returns (by simp) (hb hby at_129) hr) (by decide) (by decide) ⟨rfl, N12⟩
    · -- pc 86: not ((1 : Int32) + ((x1 &&& (2147483647 : Int32)) % (40 : Int32))) < (10 : Int32)
      refine Gl.st (g' := (mkF m 96 #[.val (.int x0), .val (.int x1), .val (.int ((x0 &&& (2147483647 : Int32)) % (3 : Int32))), .val (.int ((1 : Int32) + ((x1 &&& (2147483647 : Int32)) % (40 : Int32)))), .val (.ref a_NUMERIC), .val (.int (10 : Int32)), .val (.int (12 : Int32)), .val (.int (14 : Int32)), .unset] [])) (fun τ κ => XS.icmpYes X10.here hx rfl (pc0 := 86) (pc' := 96) rfl (hb hby at_86) rfl (flt hc11).2.1 (by decide) (by decide) κ) ?_
      refine Gl.st (g' := (mkF m 97 #[.val (.int x0), .val (.int x1), .val (.int ((x0 &&& (2147483647 : Int32)) % (3 : Int32))), .val (.int ((1 : Int32) + ((x1 &&& (2147483647 : Int32)) % (40 : Int32)))), .val (.ref a_NUMERIC), .val (.int (10 : Int32)), .val (.int (12 : Int32)), .val (.int (14 : Int32)), .unset] [(.int ((1 : Int32) + ((x1 &&& (2147483647 : Int32)) % (40 : Int32))))])) (fun τ κ => XS.iloadN X10.here hx rfl (hb hby at_96) rfl κ) ?_
      refine Gl.st (g' := (mkF m 99 #[.val (.int x0), .val (.int x1), .val (.int ((x0 &&& (2147483647 : Int32)) % (3 : Int32))), .val (.int ((1 : Int32) + ((x1 &&& (2147483647 : Int32)) % (40 : Int32)))), .val (.ref a_NUMERIC), .val (.int (10 : Int32)), .val (.int (12 : Int32)), .val (.int (14 : Int32)), .unset] [(.int (27 : Int32)), (.int ((1 : Int32) + ((x1 &&& (2147483647 : Int32)) % (40 : Int32))))])) (fun τ κ => XS.bipush X10.here hx rfl (hb hby at_97) κ) ?_
      by_cases hc14 : ((1 : Int32) + ((x1 &&& (2147483647 : Int32)) % (40 : Int32))) < (27 : Int32)
      · -- pc 99: ((1 : Int32) + ((x1 &&& (2147483647 : Int32)) % (40 : Int32))) < (27 : Int32)
        refine Gl.st (g' := (mkF m 102 #[.val (.int x0), .val (.int x1), .val (.int ((x0 &&& (2147483647 : Int32)) % (3 : Int32))), .val (.int ((1 : Int32) + ((x1 &&& (2147483647 : Int32)) % (40 : Int32)))), .val (.ref a_NUMERIC), .val (.int (10 : Int32)), .val (.int (12 : Int32)), .val (.int (14 : Int32)), .unset] [])) (fun τ κ => XS.icmpNo X10.here hx rfl (hb hby at_99) rfl (tlt hc14).2.1 κ) ?_
        refine Gl.st (g' := (mkF m 104 #[.val (.int x0), .val (.int x1), .val (.int ((x0 &&& (2147483647 : Int32)) % (3 : Int32))), .val (.int ((1 : Int32) + ((x1 &&& (2147483647 : Int32)) % (40 : Int32)))), .val (.ref a_NUMERIC), .val (.int (10 : Int32)), .val (.int (12 : Int32)), .val (.int (14 : Int32)), .unset] [(.int (12 : Int32))])) (fun τ κ => XS.iload X10.here hx rfl (hb hby at_102) rfl κ) ?_
        refine Gl.st (g' := (mkF m 106 #[.val (.int x0), .val (.int x1), .val (.int ((x0 &&& (2147483647 : Int32)) % (3 : Int32))), .val (.int ((1 : Int32) + ((x1 &&& (2147483647 : Int32)) % (40 : Int32)))), .val (.ref a_NUMERIC), .val (.int (10 : Int32)), .val (.int (12 : Int32)), .val (.int (14 : Int32)), .val (.int (12 : Int32))] [])) (fun τ κ => XS.istore X10.here hx rfl (hb hby at_104) rfl (l' := #[.val (.int x0), .val (.int x1), .val (.int ((x0 &&& (2147483647 : Int32)) % (3 : Int32))), .val (.int ((1 : Int32) + ((x1 &&& (2147483647 : Int32)) % (40 : Int32)))), .val (.ref a_NUMERIC), .val (.int (10 : Int32)), .val (.int (12 : Int32)), .val (.int (14 : Int32)), .val (.int (12 : Int32))]) rfl κ) ?_
        refine Gl.st (g' := (mkF m 113 #[.val (.int x0), .val (.int x1), .val (.int ((x0 &&& (2147483647 : Int32)) % (3 : Int32))), .val (.int ((1 : Int32) + ((x1 &&& (2147483647 : Int32)) % (40 : Int32)))), .val (.ref a_NUMERIC), .val (.int (10 : Int32)), .val (.int (12 : Int32)), .val (.int (14 : Int32)), .val (.int (12 : Int32))] [])) (fun τ κ => XS.goto X10.here hx rfl (pc0 := 106) (pc' := 113) rfl (hb hby at_106) (by decide) (by decide) κ) ?_
        refine Gl.st (g' := (mkF m 115 #[.val (.int x0), .val (.int x1), .val (.int ((x0 &&& (2147483647 : Int32)) % (3 : Int32))), .val (.int ((1 : Int32) + ((x1 &&& (2147483647 : Int32)) % (40 : Int32)))), .val (.ref a_NUMERIC), .val (.int (10 : Int32)), .val (.int (12 : Int32)), .val (.int (14 : Int32)), .val (.int (12 : Int32))] [(.ref a_NUMERIC)])) (fun τ κ => XS.aload X10.here hx rfl (hb hby at_113) rfl rfl κ) ?_
        refine Gl.st (g' := (mkF m 116 #[.val (.int x0), .val (.int x1), .val (.int ((x0 &&& (2147483647 : Int32)) % (3 : Int32))), .val (.int ((1 : Int32) + ((x1 &&& (2147483647 : Int32)) % (40 : Int32)))), .val (.ref a_NUMERIC), .val (.int (10 : Int32)), .val (.int (12 : Int32)), .val (.int (14 : Int32)), .val (.int (12 : Int32))] [(.int ((1 : Int32) + ((x1 &&& (2147483647 : Int32)) % (40 : Int32)))), (.ref a_NUMERIC)])) (fun τ κ => XS.iloadN X10.here hx rfl (hb hby at_115) rfl κ) ?_
        obtain ⟨cq15, kq15, q15a, q15b, q15c⟩ := isOf hZ e10 E_NUMERIC
        obtain ⟨rv15, _, ⟨T15, L15, k15, n15⟩, -, X15, ⟨Lc15, hQ15, l15, y15, z15⟩, st15⟩ := X10.virtualBack hx (y := (⟨"com/example/quietzone/quietzone/QrSegment$Mode", "countBits", "(I)I"⟩ : MethodName)) (z := (⟨"com/example/quietzone/quietzone/QrSegment$Mode", "countBits", "(I)I"⟩ : MethodName)) hown (mvT hZ (hw _ (List.mem_of_getElem? (i := 4) rfl))) (mvT hZ (hw _ (List.mem_of_getElem? (i := 5) rfl))) (notFace_of_selects (args := #[]) (mvT hZ (hw _ (List.mem_of_getElem? (i := 7) rfl)))) (mvT hZ (hw _ (List.mem_of_getElem? (i := 7) rfl))) (mvT hZ (hw _ (List.mem_of_getElem? (i := 6) rfl))) (by decide) (backOf (W := 0) (rm1 l Z a0 hw [] a_NUMERIC ((1 : Int32) + ((x1 &&& (2147483647 : Int32)) % (40 : Int32))) t_NUMERIC k_NUMERIC (10 : Int32) (12 : Int32) (14 : Int32) h0 n0 Z0 F_NUMERIC V_NUMERIC) hZ (hw _ (List.mem_of_getElem? (i := 8) rfl)) (hw _ (List.mem_of_getElem? (i := 2) rfl)) (by decide) (by decide)) q15a q15c (g := (mkF m 116 #[.val (.int x0), .val (.int x1), .val (.int ((x0 &&& (2147483647 : Int32)) % (3 : Int32))), .val (.int ((1 : Int32) + ((x1 &&& (2147483647 : Int32)) % (40 : Int32)))), .val (.ref a_NUMERIC), .val (.int (10 : Int32)), .val (.int (12 : Int32)), .val (.int (14 : Int32)), .val (.int (12 : Int32))] [(.int ((1 : Int32) + ((x1 &&& (2147483647 : Int32)) % (40 : Int32)))), (.ref a_NUMERIC)])) rfl (by rw [hml]; rfl) (Steps.refl _) (argsL := [(.int ((1 : Int32) + ((x1 &&& (2147483647 : Int32)) % (40 : Int32))))]) (rest := []) (lenOf pd_0 rfl) rfl (by show 2 * 0 + _ ≤ _; exact Nat.le_of_eq rfl) (hb hby at_116) (fun _ _ => ⟨rfl, e10, (by decide : 0 + 0 ≤ _), (by decide : 0 + 0 ≤ _)⟩)
        dsimp only [Pt.U, Pt.locs, Pt.cells, Pt.slots] at X15 l15 y15 z15 st15 hQ15
        subst l15 y15 z15
        obtain ⟨rfl, N15q, e15⟩ := hQ15
        have N15 := Fr.app N0 N15q
        refine Gl.st (g' := (mkF m 119 #[.val (.int x0), .val (.int x1), .val (.int ((x0 &&& (2147483647 : Int32)) % (3 : Int32))), .val (.int ((1 : Int32) + ((x1 &&& (2147483647 : Int32)) % (40 : Int32)))), .val (.ref a_NUMERIC), .val (.int (10 : Int32)), .val (.int (12 : Int32)), .val (.int (14 : Int32)), .val (.int (12 : Int32))] [(.int (own_cb ((1 : Int32) + ((x1 &&& (2147483647 : Int32)) % (40 : Int32))) (10 : Int32) (12 : Int32) (14 : Int32)))])) (fun τ κ => st15.trans κ) ?_
        refine Gl.st (g' := (mkF m 121 #[.val (.int x0), .val (.int x1), .val (.int ((x0 &&& (2147483647 : Int32)) % (3 : Int32))), .val (.int ((1 : Int32) + ((x1 &&& (2147483647 : Int32)) % (40 : Int32)))), .val (.ref a_NUMERIC), .val (.int (10 : Int32)), .val (.int (12 : Int32)), .val (.int (14 : Int32)), .val (.int (12 : Int32))] [(.int (12 : Int32)), (.int (own_cb ((1 : Int32) + ((x1 &&& (2147483647 : Int32)) % (40 : Int32))) (10 : Int32) (12 : Int32) (14 : Int32)))])) (fun τ κ => XS.iload X15.here hx rfl (hb hby at_119) rfl κ) ?_
        have hc16 : (own_cb ((1 : Int32) + ((x1 &&& (2147483647 : Int32)) % (40 : Int32))) (10 : Int32) (12 : Int32) (14 : Int32)) = (12 : Int32) := own_e1 hc11 hc14
        refine Gl.st (g' := (mkF m 124 #[.val (.int x0), .val (.int x1), .val (.int ((x0 &&& (2147483647 : Int32)) % (3 : Int32))), .val (.int ((1 : Int32) + ((x1 &&& (2147483647 : Int32)) % (40 : Int32)))), .val (.ref a_NUMERIC), .val (.int (10 : Int32)), .val (.int (12 : Int32)), .val (.int (14 : Int32)), .val (.int (12 : Int32))] [])) (fun τ κ => XS.icmpNo X15.here hx rfl (hb hby at_121) rfl (teq hc16).2 κ) ?_
        refine Gl.st (g' := (mkF m 125 #[.val (.int x0), .val (.int x1), .val (.int ((x0 &&& (2147483647 : Int32)) % (3 : Int32))), .val (.int ((1 : Int32) + ((x1 &&& (2147483647 : Int32)) % (40 : Int32)))), .val (.ref a_NUMERIC), .val (.int (10 : Int32)), .val (.int (12 : Int32)), .val (.int (14 : Int32)), .val (.int (12 : Int32))] [(.int (1 : Int32))])) (fun τ κ => XS.iconst X15.here hx rfl (hb hby at_124) κ) ?_
        refine Gl.st (g' := (mkF m 129 #[.val (.int x0), .val (.int x1), .val (.int ((x0 &&& (2147483647 : Int32)) % (3 : Int32))), .val (.int ((1 : Int32) + ((x1 &&& (2147483647 : Int32)) % (40 : Int32)))), .val (.ref a_NUMERIC), .val (.int (10 : Int32)), .val (.int (12 : Int32)), .val (.int (14 : Int32)), .val (.int (12 : Int32))] [(.int (1 : Int32))])) (fun τ κ => XS.goto X15.here hx rfl (pc0 := 125) (pc' := 129) rfl (hb hby at_125) (by decide) (by decide) κ) ?_
        exact Gl.ret (v := some (.int (1 : Int32))) X15 Bd.notSynchronized (fun h => by rw [Bd.returns] at h; cases h) e15 (fun fs hr => retN X15 hx (t := .boolean) Bd.returns (by simp) (hb hby at_129) hr) (by decide) (by decide) ⟨rfl, N15⟩
      · -- pc 99: not ((1 : Int32) + ((x1 &&& (2147483647 : Int32)) % (40 : Int32))) < (27 : Int32)
        refine Gl.st (g' := (mkF m 109 #[.val (.int x0), .val (.int x1), .val (.int ((x0 &&& (2147483647 : Int32)) % (3 : Int32))), .val (.int ((1 : Int32) + ((x1 &&& (2147483647 : Int32)) % (40 : Int32)))), .val (.ref a_NUMERIC), .val (.int (10 : Int32)), .val (.int (12 : Int32)), .val (.int (14 : Int32)), .unset] [])) (fun τ κ => XS.icmpYes X10.here hx rfl (pc0 := 99) (pc' := 109) rfl (hb hby at_99) rfl (flt hc14).2.1 (by decide) (by decide) κ) ?_
        refine Gl.st (g' := (mkF m 111 #[.val (.int x0), .val (.int x1), .val (.int ((x0 &&& (2147483647 : Int32)) % (3 : Int32))), .val (.int ((1 : Int32) + ((x1 &&& (2147483647 : Int32)) % (40 : Int32)))), .val (.ref a_NUMERIC), .val (.int (10 : Int32)), .val (.int (12 : Int32)), .val (.int (14 : Int32)), .unset] [(.int (14 : Int32))])) (fun τ κ => XS.iload X10.here hx rfl (hb hby at_109) rfl κ) ?_
        refine Gl.st (g' := (mkF m 113 #[.val (.int x0), .val (.int x1), .val (.int ((x0 &&& (2147483647 : Int32)) % (3 : Int32))), .val (.int ((1 : Int32) + ((x1 &&& (2147483647 : Int32)) % (40 : Int32)))), .val (.ref a_NUMERIC), .val (.int (10 : Int32)), .val (.int (12 : Int32)), .val (.int (14 : Int32)), .val (.int (14 : Int32))] [])) (fun τ κ => XS.istore X10.here hx rfl (hb hby at_111) rfl (l' := #[.val (.int x0), .val (.int x1), .val (.int ((x0 &&& (2147483647 : Int32)) % (3 : Int32))), .val (.int ((1 : Int32) + ((x1 &&& (2147483647 : Int32)) % (40 : Int32)))), .val (.ref a_NUMERIC), .val (.int (10 : Int32)), .val (.int (12 : Int32)), .val (.int (14 : Int32)), .val (.int (14 : Int32))]) rfl κ) ?_
        refine Gl.st (g' := (mkF m 115 #[.val (.int x0), .val (.int x1), .val (.int ((x0 &&& (2147483647 : Int32)) % (3 : Int32))), .val (.int ((1 : Int32) + ((x1 &&& (2147483647 : Int32)) % (40 : Int32)))), .val (.ref a_NUMERIC), .val (.int (10 : Int32)), .val (.int (12 : Int32)), .val (.int (14 : Int32)), .val (.int (14 : Int32))] [(.ref a_NUMERIC)])) (fun τ κ => XS.aload X10.here hx rfl (hb hby at_113) rfl rfl κ) ?_
        refine Gl.st (g' := (mkF m 116 #[.val (.int x0), .val (.int x1), .val (.int ((x0 &&& (2147483647 : Int32)) % (3 : Int32))), .val (.int ((1 : Int32) + ((x1 &&& (2147483647 : Int32)) % (40 : Int32)))), .val (.ref a_NUMERIC), .val (.int (10 : Int32)), .val (.int (12 : Int32)), .val (.int (14 : Int32)), .val (.int (14 : Int32))] [(.int ((1 : Int32) + ((x1 &&& (2147483647 : Int32)) % (40 : Int32)))), (.ref a_NUMERIC)])) (fun τ κ => XS.iloadN X10.here hx rfl (hb hby at_115) rfl κ) ?_
        obtain ⟨cq17, kq17, q17a, q17b, q17c⟩ := isOf hZ e10 E_NUMERIC
        obtain ⟨rv17, _, ⟨T17, L17, k17, n17⟩, -, X17, ⟨Lc17, hQ17, l17, y17, z17⟩, st17⟩ := X10.virtualBack hx (y := (⟨"com/example/quietzone/quietzone/QrSegment$Mode", "countBits", "(I)I"⟩ : MethodName)) (z := (⟨"com/example/quietzone/quietzone/QrSegment$Mode", "countBits", "(I)I"⟩ : MethodName)) hown (mvT hZ (hw _ (List.mem_of_getElem? (i := 4) rfl))) (mvT hZ (hw _ (List.mem_of_getElem? (i := 5) rfl))) (notFace_of_selects (args := #[]) (mvT hZ (hw _ (List.mem_of_getElem? (i := 7) rfl)))) (mvT hZ (hw _ (List.mem_of_getElem? (i := 7) rfl))) (mvT hZ (hw _ (List.mem_of_getElem? (i := 6) rfl))) (by decide) (backOf (W := 0) (rm1 l Z a0 hw [] a_NUMERIC ((1 : Int32) + ((x1 &&& (2147483647 : Int32)) % (40 : Int32))) t_NUMERIC k_NUMERIC (10 : Int32) (12 : Int32) (14 : Int32) h0 n0 Z0 F_NUMERIC V_NUMERIC) hZ (hw _ (List.mem_of_getElem? (i := 8) rfl)) (hw _ (List.mem_of_getElem? (i := 2) rfl)) (by decide) (by decide)) q17a q17c (g := (mkF m 116 #[.val (.int x0), .val (.int x1), .val (.int ((x0 &&& (2147483647 : Int32)) % (3 : Int32))), .val (.int ((1 : Int32) + ((x1 &&& (2147483647 : Int32)) % (40 : Int32)))), .val (.ref a_NUMERIC), .val (.int (10 : Int32)), .val (.int (12 : Int32)), .val (.int (14 : Int32)), .val (.int (14 : Int32))] [(.int ((1 : Int32) + ((x1 &&& (2147483647 : Int32)) % (40 : Int32)))), (.ref a_NUMERIC)])) rfl (by rw [hml]; rfl) (Steps.refl _) (argsL := [(.int ((1 : Int32) + ((x1 &&& (2147483647 : Int32)) % (40 : Int32))))]) (rest := []) (lenOf pd_0 rfl) rfl (by show 2 * 0 + _ ≤ _; exact Nat.le_of_eq rfl) (hb hby at_116) (fun _ _ => ⟨rfl, e10, (by decide : 0 + 0 ≤ _), (by decide : 0 + 0 ≤ _)⟩)
        dsimp only [Pt.U, Pt.locs, Pt.cells, Pt.slots] at X17 l17 y17 z17 st17 hQ17
        subst l17 y17 z17
        obtain ⟨rfl, N17q, e17⟩ := hQ17
        have N17 := Fr.app N0 N17q
        refine Gl.st (g' := (mkF m 119 #[.val (.int x0), .val (.int x1), .val (.int ((x0 &&& (2147483647 : Int32)) % (3 : Int32))), .val (.int ((1 : Int32) + ((x1 &&& (2147483647 : Int32)) % (40 : Int32)))), .val (.ref a_NUMERIC), .val (.int (10 : Int32)), .val (.int (12 : Int32)), .val (.int (14 : Int32)), .val (.int (14 : Int32))] [(.int (own_cb ((1 : Int32) + ((x1 &&& (2147483647 : Int32)) % (40 : Int32))) (10 : Int32) (12 : Int32) (14 : Int32)))])) (fun τ κ => st17.trans κ) ?_
        refine Gl.st (g' := (mkF m 121 #[.val (.int x0), .val (.int x1), .val (.int ((x0 &&& (2147483647 : Int32)) % (3 : Int32))), .val (.int ((1 : Int32) + ((x1 &&& (2147483647 : Int32)) % (40 : Int32)))), .val (.ref a_NUMERIC), .val (.int (10 : Int32)), .val (.int (12 : Int32)), .val (.int (14 : Int32)), .val (.int (14 : Int32))] [(.int (14 : Int32)), (.int (own_cb ((1 : Int32) + ((x1 &&& (2147483647 : Int32)) % (40 : Int32))) (10 : Int32) (12 : Int32) (14 : Int32)))])) (fun τ κ => XS.iload X17.here hx rfl (hb hby at_119) rfl κ) ?_
        have hc18 : (own_cb ((1 : Int32) + ((x1 &&& (2147483647 : Int32)) % (40 : Int32))) (10 : Int32) (12 : Int32) (14 : Int32)) = (14 : Int32) := own_e2 hc11 hc14
        refine Gl.st (g' := (mkF m 124 #[.val (.int x0), .val (.int x1), .val (.int ((x0 &&& (2147483647 : Int32)) % (3 : Int32))), .val (.int ((1 : Int32) + ((x1 &&& (2147483647 : Int32)) % (40 : Int32)))), .val (.ref a_NUMERIC), .val (.int (10 : Int32)), .val (.int (12 : Int32)), .val (.int (14 : Int32)), .val (.int (14 : Int32))] [])) (fun τ κ => XS.icmpNo X17.here hx rfl (hb hby at_121) rfl (teq hc18).2 κ) ?_
        refine Gl.st (g' := (mkF m 125 #[.val (.int x0), .val (.int x1), .val (.int ((x0 &&& (2147483647 : Int32)) % (3 : Int32))), .val (.int ((1 : Int32) + ((x1 &&& (2147483647 : Int32)) % (40 : Int32)))), .val (.ref a_NUMERIC), .val (.int (10 : Int32)), .val (.int (12 : Int32)), .val (.int (14 : Int32)), .val (.int (14 : Int32))] [(.int (1 : Int32))])) (fun τ κ => XS.iconst X17.here hx rfl (hb hby at_124) κ) ?_
        refine Gl.st (g' := (mkF m 129 #[.val (.int x0), .val (.int x1), .val (.int ((x0 &&& (2147483647 : Int32)) % (3 : Int32))), .val (.int ((1 : Int32) + ((x1 &&& (2147483647 : Int32)) % (40 : Int32)))), .val (.ref a_NUMERIC), .val (.int (10 : Int32)), .val (.int (12 : Int32)), .val (.int (14 : Int32)), .val (.int (14 : Int32))] [(.int (1 : Int32))])) (fun τ κ => XS.goto X17.here hx rfl (pc0 := 125) (pc' := 129) rfl (hb hby at_125) (by decide) (by decide) κ) ?_
        exact Gl.ret (v := some (.int (1 : Int32))) X17 Bd.notSynchronized (fun h => by rw [Bd.returns] at h; cases h) e17 (fun fs hr => retN X17 hx (t := .boolean) Bd.returns (by simp) (hb hby at_129) hr) (by decide) (by decide) ⟨rfl, N17⟩
  · -- pc 18: not ((x0 &&& (2147483647 : Int32)) % (3 : Int32)) = (0 : Int32)
    refine Gl.st (g' := (mkF m 41 #[.val (.int x0), .val (.int x1), .val (.int ((x0 &&& (2147483647 : Int32)) % (3 : Int32))), .val (.int ((1 : Int32) + ((x1 &&& (2147483647 : Int32)) % (40 : Int32)))), .unset, .unset, .unset, .unset, .unset] [])) (fun τ κ => XS.ifYes X0.here hx rfl (pc0 := 18) (pc' := 41) rfl (hb hby at_18) rfl ((if0 _ _).trans (feq hc9).2) (by decide) (by decide) κ) ?_
    refine Gl.st (g' := (mkF m 42 #[.val (.int x0), .val (.int x1), .val (.int ((x0 &&& (2147483647 : Int32)) % (3 : Int32))), .val (.int ((1 : Int32) + ((x1 &&& (2147483647 : Int32)) % (40 : Int32)))), .unset, .unset, .unset, .unset, .unset] [(.int ((x0 &&& (2147483647 : Int32)) % (3 : Int32)))])) (fun τ κ => XS.iloadN X0.here hx rfl (hb hby at_41) rfl κ) ?_
    refine Gl.st (g' := (mkF m 43 #[.val (.int x0), .val (.int x1), .val (.int ((x0 &&& (2147483647 : Int32)) % (3 : Int32))), .val (.int ((1 : Int32) + ((x1 &&& (2147483647 : Int32)) % (40 : Int32)))), .unset, .unset, .unset, .unset, .unset] [(.int (1 : Int32)), (.int ((x0 &&& (2147483647 : Int32)) % (3 : Int32)))])) (fun τ κ => XS.iconst X0.here hx rfl (hb hby at_42) κ) ?_
    by_cases hc19 : ((x0 &&& (2147483647 : Int32)) % (3 : Int32)) = (1 : Int32)
    · -- pc 43: ((x0 &&& (2147483647 : Int32)) % (3 : Int32)) = (1 : Int32)
      refine Gl.st (g' := (mkF m 46 #[.val (.int x0), .val (.int x1), .val (.int ((x0 &&& (2147483647 : Int32)) % (3 : Int32))), .val (.int ((1 : Int32) + ((x1 &&& (2147483647 : Int32)) % (40 : Int32)))), .unset, .unset, .unset, .unset, .unset] [])) (fun τ κ => XS.icmpNo X0.here hx rfl (hb hby at_43) rfl (teq hc19).2 κ) ?_
      obtain ⟨T20, X20, e20, st20⟩ := getS2 X0 hx hZ hown (host := "") (Or.inl (hw _ (List.mem_of_getElem? (i := 13) rfl))) Via.refl e0 S_ALPHANUMERIC (g := (mkF m 46 #[.val (.int x0), .val (.int x1), .val (.int ((x0 &&& (2147483647 : Int32)) % (3 : Int32))), .val (.int ((1 : Int32) + ((x1 &&& (2147483647 : Int32)) % (40 : Int32)))), .unset, .unset, .unset, .unset, .unset] [])) rfl (hb hby at_46)
      refine Gl.st (g' := (mkF m 49 #[.val (.int x0), .val (.int x1), .val (.int ((x0 &&& (2147483647 : Int32)) % (3 : Int32))), .val (.int ((1 : Int32) + ((x1 &&& (2147483647 : Int32)) % (40 : Int32)))), .unset, .unset, .unset, .unset, .unset] [(.ref a_ALPHANUMERIC)])) (fun τ κ => st20 _ κ) ?_
      refine Gl.st (g' := (mkF m 51 #[.val (.int x0), .val (.int x1), .val (.int ((x0 &&& (2147483647 : Int32)) % (3 : Int32))), .val (.int ((1 : Int32) + ((x1 &&& (2147483647 : Int32)) % (40 : Int32)))), .val (.ref a_ALPHANUMERIC), .unset, .unset, .unset, .unset] [])) (fun τ κ => XS.astore X20.here hx rfl (hb hby at_49) rfl rfl (l' := #[.val (.int x0), .val (.int x1), .val (.int ((x0 &&& (2147483647 : Int32)) % (3 : Int32))), .val (.int ((1 : Int32) + ((x1 &&& (2147483647 : Int32)) % (40 : Int32)))), .val (.ref a_ALPHANUMERIC), .unset, .unset, .unset, .unset]) rfl κ) ?_
      refine Gl.st (g' := (mkF m 53 #[.val (.int x0), .val (.int x1), .val (.int ((x0 &&& (2147483647 : Int32)) % (3 : Int32))), .val (.int ((1 : Int32) + ((x1 &&& (2147483647 : Int32)) % (40 : Int32)))), .val (.ref a_ALPHANUMERIC), .unset, .unset, .unset, .unset] [(.int (9 : Int32))])) (fun τ κ => XS.bipush X20.here hx rfl (hb hby at_51) κ) ?_
      refine Gl.st (g' := (mkF m 55 #[.val (.int x0), .val (.int x1), .val (.int ((x0 &&& (2147483647 : Int32)) % (3 : Int32))), .val (.int ((1 : Int32) + ((x1 &&& (2147483647 : Int32)) % (40 : Int32)))), .val (.ref a_ALPHANUMERIC), .val (.int (9 : Int32)), .unset, .unset, .unset] [])) (fun τ κ => XS.istore X20.here hx rfl (hb hby at_53) rfl (l' := #[.val (.int x0), .val (.int x1), .val (.int ((x0 &&& (2147483647 : Int32)) % (3 : Int32))), .val (.int ((1 : Int32) + ((x1 &&& (2147483647 : Int32)) % (40 : Int32)))), .val (.ref a_ALPHANUMERIC), .val (.int (9 : Int32)), .unset, .unset, .unset]) rfl κ) ?_
      refine Gl.st (g' := (mkF m 57 #[.val (.int x0), .val (.int x1), .val (.int ((x0 &&& (2147483647 : Int32)) % (3 : Int32))), .val (.int ((1 : Int32) + ((x1 &&& (2147483647 : Int32)) % (40 : Int32)))), .val (.ref a_ALPHANUMERIC), .val (.int (9 : Int32)), .unset, .unset, .unset] [(.int (11 : Int32))])) (fun τ κ => XS.bipush X20.here hx rfl (hb hby at_55) κ) ?_
      refine Gl.st (g' := (mkF m 59 #[.val (.int x0), .val (.int x1), .val (.int ((x0 &&& (2147483647 : Int32)) % (3 : Int32))), .val (.int ((1 : Int32) + ((x1 &&& (2147483647 : Int32)) % (40 : Int32)))), .val (.ref a_ALPHANUMERIC), .val (.int (9 : Int32)), .val (.int (11 : Int32)), .unset, .unset] [])) (fun τ κ => XS.istore X20.here hx rfl (hb hby at_57) rfl (l' := #[.val (.int x0), .val (.int x1), .val (.int ((x0 &&& (2147483647 : Int32)) % (3 : Int32))), .val (.int ((1 : Int32) + ((x1 &&& (2147483647 : Int32)) % (40 : Int32)))), .val (.ref a_ALPHANUMERIC), .val (.int (9 : Int32)), .val (.int (11 : Int32)), .unset, .unset]) rfl κ) ?_
      refine Gl.st (g' := (mkF m 61 #[.val (.int x0), .val (.int x1), .val (.int ((x0 &&& (2147483647 : Int32)) % (3 : Int32))), .val (.int ((1 : Int32) + ((x1 &&& (2147483647 : Int32)) % (40 : Int32)))), .val (.ref a_ALPHANUMERIC), .val (.int (9 : Int32)), .val (.int (11 : Int32)), .unset, .unset] [(.int (13 : Int32))])) (fun τ κ => XS.bipush X20.here hx rfl (hb hby at_59) κ) ?_
      refine Gl.st (g' := (mkF m 63 #[.val (.int x0), .val (.int x1), .val (.int ((x0 &&& (2147483647 : Int32)) % (3 : Int32))), .val (.int ((1 : Int32) + ((x1 &&& (2147483647 : Int32)) % (40 : Int32)))), .val (.ref a_ALPHANUMERIC), .val (.int (9 : Int32)), .val (.int (11 : Int32)), .val (.int (13 : Int32)), .unset] [])) (fun τ κ => XS.istore X20.here hx rfl (hb hby at_61) rfl (l' := #[.val (.int x0), .val (.int x1), .val (.int ((x0 &&& (2147483647 : Int32)) % (3 : Int32))), .val (.int ((1 : Int32) + ((x1 &&& (2147483647 : Int32)) % (40 : Int32)))), .val (.ref a_ALPHANUMERIC), .val (.int (9 : Int32)), .val (.int (11 : Int32)), .val (.int (13 : Int32)), .unset]) rfl κ) ?_
      refine Gl.st (g' := (mkF m 83 #[.val (.int x0), .val (.int x1), .val (.int ((x0 &&& (2147483647 : Int32)) % (3 : Int32))), .val (.int ((1 : Int32) + ((x1 &&& (2147483647 : Int32)) % (40 : Int32)))), .val (.ref a_ALPHANUMERIC), .val (.int (9 : Int32)), .val (.int (11 : Int32)), .val (.int (13 : Int32)), .unset] [])) (fun τ κ => XS.goto X20.here hx rfl (pc0 := 63) (pc' := 83) rfl (hb hby at_63) (by decide) (by decide) κ) ?_
      refine Gl.st (g' := (mkF m 84 #[.val (.int x0), .val (.int x1), .val (.int ((x0 &&& (2147483647 : Int32)) % (3 : Int32))), .val (.int ((1 : Int32) + ((x1 &&& (2147483647 : Int32)) % (40 : Int32)))), .val (.ref a_ALPHANUMERIC), .val (.int (9 : Int32)), .val (.int (11 : Int32)), .val (.int (13 : Int32)), .unset] [(.int ((1 : Int32) + ((x1 &&& (2147483647 : Int32)) % (40 : Int32))))])) (fun τ κ => XS.iloadN X20.here hx rfl (hb hby at_83) rfl κ) ?_
      refine Gl.st (g' := (mkF m 86 #[.val (.int x0), .val (.int x1), .val (.int ((x0 &&& (2147483647 : Int32)) % (3 : Int32))), .val (.int ((1 : Int32) + ((x1 &&& (2147483647 : Int32)) % (40 : Int32)))), .val (.ref a_ALPHANUMERIC), .val (.int (9 : Int32)), .val (.int (11 : Int32)), .val (.int (13 : Int32)), .unset] [(.int (10 : Int32)), (.int ((1 : Int32) + ((x1 &&& (2147483647 : Int32)) % (40 : Int32))))])) (fun τ κ => XS.bipush X20.here hx rfl (hb hby at_84) κ) ?_
      by_cases hc21 : ((1 : Int32) + ((x1 &&& (2147483647 : Int32)) % (40 : Int32))) < (10 : Int32)
      · -- pc 86: ((1 : Int32) + ((x1 &&& (2147483647 : Int32)) % (40 : Int32))) < (10 : Int32)
        refine Gl.st (g' := (mkF m 89 #[.val (.int x0), .val (.int x1), .val (.int ((x0 &&& (2147483647 : Int32)) % (3 : Int32))), .val (.int ((1 : Int32) + ((x1 &&& (2147483647 : Int32)) % (40 : Int32)))), .val (.ref a_ALPHANUMERIC), .val (.int (9 : Int32)), .val (.int (11 : Int32)), .val (.int (13 : Int32)), .unset] [])) (fun τ κ => XS.icmpNo X20.here hx rfl (hb hby at_86) rfl (tlt hc21).2.1 κ) ?_
        refine Gl.st (g' := (mkF m 91 #[.val (.int x0), .val (.int x1), .val (.int ((x0 &&& (2147483647 : Int32)) % (3 : Int32))), .val (.int ((1 : Int32) + ((x1 &&& (2147483647 : Int32)) % (40 : Int32)))), .val (.ref a_ALPHANUMERIC), .val (.int (9 : Int32)), .val (.int (11 : Int32)), .val (.int (13 : Int32)), .unset] [(.int (9 : Int32))])) (fun τ κ => XS.iload X20.here hx rfl (hb hby at_89) rfl κ) ?_
        refine Gl.st (g' := (mkF m 93 #[.val (.int x0), .val (.int x1), .val (.int ((x0 &&& (2147483647 : Int32)) % (3 : Int32))), .val (.int ((1 : Int32) + ((x1 &&& (2147483647 : Int32)) % (40 : Int32)))), .val (.ref a_ALPHANUMERIC), .val (.int (9 : Int32)), .val (.int (11 : Int32)), .val (.int (13 : Int32)), .val (.int (9 : Int32))] [])) (fun τ κ => XS.istore X20.here hx rfl (hb hby at_91) rfl (l' := #[.val (.int x0), .val (.int x1), .val (.int ((x0 &&& (2147483647 : Int32)) % (3 : Int32))), .val (.int ((1 : Int32) + ((x1 &&& (2147483647 : Int32)) % (40 : Int32)))), .val (.ref a_ALPHANUMERIC), .val (.int (9 : Int32)), .val (.int (11 : Int32)), .val (.int (13 : Int32)), .val (.int (9 : Int32))]) rfl κ) ?_
        refine Gl.st (g' := (mkF m 113 #[.val (.int x0), .val (.int x1), .val (.int ((x0 &&& (2147483647 : Int32)) % (3 : Int32))), .val (.int ((1 : Int32) + ((x1 &&& (2147483647 : Int32)) % (40 : Int32)))), .val (.ref a_ALPHANUMERIC), .val (.int (9 : Int32)), .val (.int (11 : Int32)), .val (.int (13 : Int32)), .val (.int (9 : Int32))] [])) (fun τ κ => XS.goto X20.here hx rfl (pc0 := 93) (pc' := 113) rfl (hb hby at_93) (by decide) (by decide) κ) ?_
        refine Gl.st (g' := (mkF m 115 #[.val (.int x0), .val (.int x1), .val (.int ((x0 &&& (2147483647 : Int32)) % (3 : Int32))), .val (.int ((1 : Int32) + ((x1 &&& (2147483647 : Int32)) % (40 : Int32)))), .val (.ref a_ALPHANUMERIC), .val (.int (9 : Int32)), .val (.int (11 : Int32)), .val (.int (13 : Int32)), .val (.int (9 : Int32))] [(.ref a_ALPHANUMERIC)])) (fun τ κ => XS.aload X20.here hx rfl (hb hby at_113) rfl rfl κ) ?_
        refine Gl.st (g' := (mkF m 116 #[.val (.int x0), .val (.int x1), .val (.int ((x0 &&& (2147483647 : Int32)) % (3 : Int32))), .val (.int ((1 : Int32) + ((x1 &&& (2147483647 : Int32)) % (40 : Int32)))), .val (.ref a_ALPHANUMERIC), .val (.int (9 : Int32)), .val (.int (11 : Int32)), .val (.int (13 : Int32)), .val (.int (9 : Int32))] [(.int ((1 : Int32) + ((x1 &&& (2147483647 : Int32)) % (40 : Int32)))), (.ref a_ALPHANUMERIC)])) (fun τ κ => XS.iloadN X20.here hx rfl (hb hby at_115) rfl κ) ?_
        obtain ⟨cq22, kq22, q22a, q22b, q22c⟩ := isOf hZ e20 E_ALPHANUMERIC
        obtain ⟨rv22, _, ⟨T22, L22, k22, n22⟩, -, X22, ⟨Lc22, hQ22, l22, y22, z22⟩, st22⟩ := X20.virtualBack hx (y := (⟨"com/example/quietzone/quietzone/QrSegment$Mode", "countBits", "(I)I"⟩ : MethodName)) (z := (⟨"com/example/quietzone/quietzone/QrSegment$Mode", "countBits", "(I)I"⟩ : MethodName)) hown (mvT hZ (hw _ (List.mem_of_getElem? (i := 4) rfl))) (mvT hZ (hw _ (List.mem_of_getElem? (i := 5) rfl))) (notFace_of_selects (args := #[]) (mvT hZ (hw _ (List.mem_of_getElem? (i := 7) rfl)))) (mvT hZ (hw _ (List.mem_of_getElem? (i := 7) rfl))) (mvT hZ (hw _ (List.mem_of_getElem? (i := 6) rfl))) (by decide) (backOf (W := 0) (rm1 l Z a0 hw [] a_ALPHANUMERIC ((1 : Int32) + ((x1 &&& (2147483647 : Int32)) % (40 : Int32))) t_ALPHANUMERIC k_ALPHANUMERIC (9 : Int32) (11 : Int32) (13 : Int32) h0 n0 Z0 F_ALPHANUMERIC V_ALPHANUMERIC) hZ (hw _ (List.mem_of_getElem? (i := 8) rfl)) (hw _ (List.mem_of_getElem? (i := 2) rfl)) (by decide) (by decide)) q22a q22c (g := (mkF m 116 #[.val (.int x0), .val (.int x1), .val (.int ((x0 &&& (2147483647 : Int32)) % (3 : Int32))), .val (.int ((1 : Int32) + ((x1 &&& (2147483647 : Int32)) % (40 : Int32)))), .val (.ref a_ALPHANUMERIC), .val (.int (9 : Int32)), .val (.int (11 : Int32)), .val (.int (13 : Int32)), .val (.int (9 : Int32))] [(.int ((1 : Int32) + ((x1 &&& (2147483647 : Int32)) % (40 : Int32)))), (.ref a_ALPHANUMERIC)])) rfl (by rw [hml]; rfl) (Steps.refl _) (argsL := [(.int ((1 : Int32) + ((x1 &&& (2147483647 : Int32)) % (40 : Int32))))]) (rest := []) (lenOf pd_0 rfl) rfl (by show 2 * 0 + _ ≤ _; exact Nat.le_of_eq rfl) (hb hby at_116) (fun _ _ => ⟨rfl, e20, (by decide : 0 + 0 ≤ _), (by decide : 0 + 0 ≤ _)⟩)
        dsimp only [Pt.U, Pt.locs, Pt.cells, Pt.slots] at X22 l22 y22 z22 st22 hQ22
        subst l22 y22 z22
        obtain ⟨rfl, N22q, e22⟩ := hQ22
        have N22 := Fr.app N0 N22q
        refine Gl.st (g' := (mkF m 119 #[.val (.int x0), .val (.int x1), .val (.int ((x0 &&& (2147483647 : Int32)) % (3 : Int32))), .val (.int ((1 : Int32) + ((x1 &&& (2147483647 : Int32)) % (40 : Int32)))), .val (.ref a_ALPHANUMERIC), .val (.int (9 : Int32)), .val (.int (11 : Int32)), .val (.int (13 : Int32)), .val (.int (9 : Int32))] [(.int (own_cb ((1 : Int32) + ((x1 &&& (2147483647 : Int32)) % (40 : Int32))) (9 : Int32) (11 : Int32) (13 : Int32)))])) (fun τ κ => st22.trans κ) ?_
        refine Gl.st (g' := (mkF m 121 #[.val (.int x0), .val (.int x1), .val (.int ((x0 &&& (2147483647 : Int32)) % (3 : Int32))), .val (.int ((1 : Int32) + ((x1 &&& (2147483647 : Int32)) % (40 : Int32)))), .val (.ref a_ALPHANUMERIC), .val (.int (9 : Int32)), .val (.int (11 : Int32)), .val (.int (13 : Int32)), .val (.int (9 : Int32))] [(.int (9 : Int32)), (.int (own_cb ((1 : Int32) + ((x1 &&& (2147483647 : Int32)) % (40 : Int32))) (9 : Int32) (11 : Int32) (13 : Int32)))])) (fun τ κ => XS.iload X22.here hx rfl (hb hby at_119) rfl κ) ?_
        have hc23 : (own_cb ((1 : Int32) + ((x1 &&& (2147483647 : Int32)) % (40 : Int32))) (9 : Int32) (11 : Int32) (13 : Int32)) = (9 : Int32) := own_e0 hc21
        refine Gl.st (g' := (mkF m 124 #[.val (.int x0), .val (.int x1), .val (.int ((x0 &&& (2147483647 : Int32)) % (3 : Int32))), .val (.int ((1 : Int32) + ((x1 &&& (2147483647 : Int32)) % (40 : Int32)))), .val (.ref a_ALPHANUMERIC), .val (.int (9 : Int32)), .val (.int (11 : Int32)), .val (.int (13 : Int32)), .val (.int (9 : Int32))] [])) (fun τ κ => XS.icmpNo X22.here hx rfl (hb hby at_121) rfl (teq hc23).2 κ) ?_
        refine Gl.st (g' := (mkF m 125 #[.val (.int x0), .val (.int x1), .val (.int ((x0 &&& (2147483647 : Int32)) % (3 : Int32))), .val (.int ((1 : Int32) + ((x1 &&& (2147483647 : Int32)) % (40 : Int32)))), .val (.ref a_ALPHANUMERIC), .val (.int (9 : Int32)), .val (.int (11 : Int32)), .val (.int (13 : Int32)), .val (.int (9 : Int32))] [(.int (1 : Int32))])) (fun τ κ => XS.iconst X22.here hx rfl (hb hby at_124) κ) ?_
        refine Gl.st (g' := (mkF m 129 #[.val (.int x0), .val (.int x1), .val (.int ((x0 &&& (2147483647 : Int32)) % (3 : Int32))), .val (.int ((1 : Int32) + ((x1 &&& (2147483647 : Int32)) % (40 : Int32)))), .val (.ref a_ALPHANUMERIC), .val (.int (9 : Int32)), .val (.int (11 : Int32)), .val (.int (13 : Int32)), .val (.int (9 : Int32))] [(.int (1 : Int32))])) (fun τ κ => XS.goto X22.here hx rfl (pc0 := 125) (pc' := 129) rfl (hb hby at_125) (by decide) (by decide) κ) ?_
        exact Gl.ret (v := some (.int (1 : Int32))) X22 Bd.notSynchronized (fun h => by rw [Bd.returns] at h; cases h) e22 (fun fs hr => retN X22 hx (t := .boolean) Bd.returns (by simp) (hb hby at_129) hr) (by decide) (by decide) ⟨rfl, N22⟩
      · -- pc 86: not ((1 : Int32) + ((x1 &&& (2147483647 : Int32)) % (40 : Int32))) < (10 : Int32)
        refine Gl.st (g' := (mkF m 96 #[.val (.int x0), .val (.int x1), .val (.int ((x0 &&& (2147483647 : Int32)) % (3 : Int32))), .val (.int ((1 : Int32) + ((x1 &&& (2147483647 : Int32)) % (40 : Int32)))), .val (.ref a_ALPHANUMERIC), .val (.int (9 : Int32)), .val (.int (11 : Int32)), .val (.int (13 : Int32)), .unset] [])) (fun τ κ => XS.icmpYes X20.here hx rfl (pc0 := 86) (pc' := 96) rfl (hb hby at_86) rfl (flt hc21).2.1 (by decide) (by decide) κ) ?_
        refine Gl.st (g' := (mkF m 97 #[.val (.int x0), .val (.int x1), .val (.int ((x0 &&& (2147483647 : Int32)) % (3 : Int32))), .val (.int ((1 : Int32) + ((x1 &&& (2147483647 : Int32)) % (40 : Int32)))), .val (.ref a_ALPHANUMERIC), .val (.int (9 : Int32)), .val (.int (11 : Int32)), .val (.int (13 : Int32)), .unset] [(.int ((1 : Int32) + ((x1 &&& (2147483647 : Int32)) % (40 : Int32))))])) (fun τ κ => XS.iloadN X20.here hx rfl (hb hby at_96) rfl κ) ?_
        refine Gl.st (g' := (mkF m 99 #[.val (.int x0), .val (.int x1), .val (.int ((x0 &&& (2147483647 : Int32)) % (3 : Int32))), .val (.int ((1 : Int32) + ((x1 &&& (2147483647 : Int32)) % (40 : Int32)))), .val (.ref a_ALPHANUMERIC), .val (.int (9 : Int32)), .val (.int (11 : Int32)), .val (.int (13 : Int32)), .unset] [(.int (27 : Int32)), (.int ((1 : Int32) + ((x1 &&& (2147483647 : Int32)) % (40 : Int32))))])) (fun τ κ => XS.bipush X20.here hx rfl (hb hby at_97) κ) ?_
        by_cases hc24 : ((1 : Int32) + ((x1 &&& (2147483647 : Int32)) % (40 : Int32))) < (27 : Int32)
        · -- pc 99: ((1 : Int32) + ((x1 &&& (2147483647 : Int32)) % (40 : Int32))) < (27 : Int32)
          refine Gl.st (g' := (mkF m 102 #[.val (.int x0), .val (.int x1), .val (.int ((x0 &&& (2147483647 : Int32)) % (3 : Int32))), .val (.int ((1 : Int32) + ((x1 &&& (2147483647 : Int32)) % (40 : Int32)))), .val (.ref a_ALPHANUMERIC), .val (.int (9 : Int32)), .val (.int (11 : Int32)), .val (.int (13 : Int32)), .unset] [])) (fun τ κ => XS.icmpNo X20.here hx rfl (hb hby at_99) rfl (tlt hc24).2.1 κ) ?_
          refine Gl.st (g' := (mkF m 104 #[.val (.int x0), .val (.int x1), .val (.int ((x0 &&& (2147483647 : Int32)) % (3 : Int32))), .val (.int ((1 : Int32) + ((x1 &&& (2147483647 : Int32)) % (40 : Int32)))), .val (.ref a_ALPHANUMERIC), .val (.int (9 : Int32)), .val (.int (11 : Int32)), .val (.int (13 : Int32)), .unset] [(.int (11 : Int32))])) (fun τ κ => XS.iload X20.here hx rfl (hb hby at_102) rfl κ) ?_
          refine Gl.st (g' := (mkF m 106 #[.val (.int x0), .val (.int x1), .val (.int ((x0 &&& (2147483647 : Int32)) % (3 : Int32))), .val (.int ((1 : Int32) + ((x1 &&& (2147483647 : Int32)) % (40 : Int32)))), .val (.ref a_ALPHANUMERIC), .val (.int (9 : Int32)), .val (.int (11 : Int32)), .val (.int (13 : Int32)), .val (.int (11 : Int32))] [])) (fun τ κ => XS.istore X20.here hx rfl (hb hby at_104) rfl (l' := #[.val (.int x0), .val (.int x1), .val (.int ((x0 &&& (2147483647 : Int32)) % (3 : Int32))), .val (.int ((1 : Int32) + ((x1 &&& (2147483647 : Int32)) % (40 : Int32)))), .val (.ref a_ALPHANUMERIC), .val (.int (9 : Int32)), .val (.int (11 : Int32)), .val (.int (13 : Int32)), .val (.int (11 : Int32))]) rfl κ) ?_
          refine Gl.st (g' := (mkF m 113 #[.val (.int x0), .val (.int x1), .val (.int ((x0 &&& (2147483647 : Int32)) % (3 : Int32))), .val (.int ((1 : Int32) + ((x1 &&& (2147483647 : Int32)) % (40 : Int32)))), .val (.ref a_ALPHANUMERIC), .val (.int (9 : Int32)), .val (.int (11 : Int32)), .val (.int (13 : Int32)), .val (.int (11 : Int32))] [])) (fun τ κ => XS.goto X20.here hx rfl (pc0 := 106) (pc' := 113) rfl (hb hby at_106) (by decide) (by decide) κ) ?_
          refine Gl.st (g' := (mkF m 115 #[.val (.int x0), .val (.int x1), .val (.int ((x0 &&& (2147483647 : Int32)) % (3 : Int32))), .val (.int ((1 : Int32) + ((x1 &&& (2147483647 : Int32)) % (40 : Int32)))), .val (.ref a_ALPHANUMERIC), .val (.int (9 : Int32)), .val (.int (11 : Int32)), .val (.int (13 : Int32)), .val (.int (11 : Int32))] [(.ref a_ALPHANUMERIC)])) (fun τ κ => XS.aload X20.here hx rfl (hb hby at_113) rfl rfl κ) ?_
          refine Gl.st (g' := (mkF m 116 #[.val (.int x0), .val (.int x1), .val (.int ((x0 &&& (2147483647 : Int32)) % (3 : Int32))), .val (.int ((1 : Int32) + ((x1 &&& (2147483647 : Int32)) % (40 : Int32)))), .val (.ref a_ALPHANUMERIC), .val (.int (9 : Int32)), .val (.int (11 : Int32)), .val (.int (13 : Int32)), .val (.int (11 : Int32))] [(.int ((1 : Int32) + ((x1 &&& (2147483647 : Int32)) % (40 : Int32)))), (.ref a_ALPHANUMERIC)])) (fun τ κ => XS.iloadN X20.here hx rfl (hb hby at_115) rfl κ) ?_
          obtain ⟨cq25, kq25, q25a, q25b, q25c⟩ := isOf hZ e20 E_ALPHANUMERIC
          obtain ⟨rv25, _, ⟨T25, L25, k25, n25⟩, -, X25, ⟨Lc25, hQ25, l25, y25, z25⟩, st25⟩ := X20.virtualBack hx (y := (⟨"com/example/quietzone/quietzone/QrSegment$Mode", "countBits", "(I)I"⟩ : MethodName)) (z := (⟨"com/example/quietzone/quietzone/QrSegment$Mode", "countBits", "(I)I"⟩ : MethodName)) hown (mvT hZ (hw _ (List.mem_of_getElem? (i := 4) rfl))) (mvT hZ (hw _ (List.mem_of_getElem? (i := 5) rfl))) (notFace_of_selects (args := #[]) (mvT hZ (hw _ (List.mem_of_getElem? (i := 7) rfl)))) (mvT hZ (hw _ (List.mem_of_getElem? (i := 7) rfl))) (mvT hZ (hw _ (List.mem_of_getElem? (i := 6) rfl))) (by decide) (backOf (W := 0) (rm1 l Z a0 hw [] a_ALPHANUMERIC ((1 : Int32) + ((x1 &&& (2147483647 : Int32)) % (40 : Int32))) t_ALPHANUMERIC k_ALPHANUMERIC (9 : Int32) (11 : Int32) (13 : Int32) h0 n0 Z0 F_ALPHANUMERIC V_ALPHANUMERIC) hZ (hw _ (List.mem_of_getElem? (i := 8) rfl)) (hw _ (List.mem_of_getElem? (i := 2) rfl)) (by decide) (by decide)) q25a q25c (g := (mkF m 116 #[.val (.int x0), .val (.int x1), .val (.int ((x0 &&& (2147483647 : Int32)) % (3 : Int32))), .val (.int ((1 : Int32) + ((x1 &&& (2147483647 : Int32)) % (40 : Int32)))), .val (.ref a_ALPHANUMERIC), .val (.int (9 : Int32)), .val (.int (11 : Int32)), .val (.int (13 : Int32)), .val (.int (11 : Int32))] [(.int ((1 : Int32) + ((x1 &&& (2147483647 : Int32)) % (40 : Int32)))), (.ref a_ALPHANUMERIC)])) rfl (by rw [hml]; rfl) (Steps.refl _) (argsL := [(.int ((1 : Int32) + ((x1 &&& (2147483647 : Int32)) % (40 : Int32))))]) (rest := []) (lenOf pd_0 rfl) rfl (by show 2 * 0 + _ ≤ _; exact Nat.le_of_eq rfl) (hb hby at_116) (fun _ _ => ⟨rfl, e20, (by decide : 0 + 0 ≤ _), (by decide : 0 + 0 ≤ _)⟩)
          dsimp only [Pt.U, Pt.locs, Pt.cells, Pt.slots] at X25 l25 y25 z25 st25 hQ25
          subst l25 y25 z25
          obtain ⟨rfl, N25q, e25⟩ := hQ25
          have N25 := Fr.app N0 N25q
          refine Gl.st (g' := (mkF m 119 #[.val (.int x0), .val (.int x1), .val (.int ((x0 &&& (2147483647 : Int32)) % (3 : Int32))), .val (.int ((1 : Int32) + ((x1 &&& (2147483647 : Int32)) % (40 : Int32)))), .val (.ref a_ALPHANUMERIC), .val (.int (9 : Int32)), .val (.int (11 : Int32)), .val (.int (13 : Int32)), .val (.int (11 : Int32))] [(.int (own_cb ((1 : Int32) + ((x1 &&& (2147483647 : Int32)) % (40 : Int32))) (9 : Int32) (11 : Int32) (13 : Int32)))])) (fun τ κ => st25.trans κ) ?_
          refine Gl.st (g' := (mkF m 121 #[.val (.int x0), .val (.int x1), .val (.int ((x0 &&& (2147483647 : Int32)) % (3 : Int32))), .val (.int ((1 : Int32) + ((x1 &&& (2147483647 : Int32)) % (40 : Int32)))), .val (.ref a_ALPHANUMERIC), .val (.int (9 : Int32)), .val (.int (11 : Int32)), .val (.int (13 : Int32)), .val (.int (11 : Int32))] [(.int (11 : Int32)), (.int (own_cb ((1 : Int32) + ((x1 &&& (2147483647 : Int32)) % (40 : Int32))) (9 : Int32) (11 : Int32) (13 : Int32)))])) (fun τ κ => XS.iload X25.here hx rfl (hb hby at_119) rfl κ) ?_
          have hc26 : (own_cb ((1 : Int32) + ((x1 &&& (2147483647 : Int32)) % (40 : Int32))) (9 : Int32) (11 : Int32) (13 : Int32)) = (11 : Int32) := own_e1 hc21 hc24
          refine Gl.st (g' := (mkF m 124 #[.val (.int x0), .val (.int x1), .val (.int ((x0 &&& (2147483647 : Int32)) % (3 : Int32))), .val (.int ((1 : Int32) + ((x1 &&& (2147483647 : Int32)) % (40 : Int32)))), .val (.ref a_ALPHANUMERIC), .val (.int (9 : Int32)), .val (.int (11 : Int32)), .val (.int (13 : Int32)), .val (.int (11 : Int32))] [])) (fun τ κ => XS.icmpNo X25.here hx rfl (hb hby at_121) rfl (teq hc26).2 κ) ?_
          refine Gl.st (g' := (mkF m 125 #[.val (.int x0), .val (.int x1), .val (.int ((x0 &&& (2147483647 : Int32)) % (3 : Int32))), .val (.int ((1 : Int32) + ((x1 &&& (2147483647 : Int32)) % (40 : Int32)))), .val (.ref a_ALPHANUMERIC), .val (.int (9 : Int32)), .val (.int (11 : Int32)), .val (.int (13 : Int32)), .val (.int (11 : Int32))] [(.int (1 : Int32))])) (fun τ κ => XS.iconst X25.here hx rfl (hb hby at_124) κ) ?_
          refine Gl.st (g' := (mkF m 129 #[.val (.int x0), .val (.int x1), .val (.int ((x0 &&& (2147483647 : Int32)) % (3 : Int32))), .val (.int ((1 : Int32) + ((x1 &&& (2147483647 : Int32)) % (40 : Int32)))), .val (.ref a_ALPHANUMERIC), .val (.int (9 : Int32)), .val (.int (11 : Int32)), .val (.int (13 : Int32)), .val (.int (11 : Int32))] [(.int (1 : Int32))])) (fun τ κ => XS.goto X25.here hx rfl (pc0 := 125) (pc' := 129) rfl (hb hby at_125) (by decide) (by decide) κ) ?_
          exact Gl.ret (v := some (.int (1 : Int32))) X25 Bd.notSynchronized (fun h => by rw [Bd.returns] at h; cases h) e25 (fun fs hr => retN X25 hx (t := .boolean) Bd.returns (by simp) (hb hby at_129) hr) (by decide) (by decide) ⟨rfl, N25⟩
        · -- pc 99: not ((1 : Int32) + ((x1 &&& (2147483647 : Int32)) % (40 : Int32))) < (27 : Int32)
          refine Gl.st (g' := (mkF m 109 #[.val (.int x0), .val (.int x1), .val (.int ((x0 &&& (2147483647 : Int32)) % (3 : Int32))), .val (.int ((1 : Int32) + ((x1 &&& (2147483647 : Int32)) % (40 : Int32)))), .val (.ref a_ALPHANUMERIC), .val (.int (9 : Int32)), .val (.int (11 : Int32)), .val (.int (13 : Int32)), .unset] [])) (fun τ κ => XS.icmpYes X20.here hx rfl (pc0 := 99) (pc' := 109) rfl (hb hby at_99) rfl (flt hc24).2.1 (by decide) (by decide) κ) ?_
          refine Gl.st (g' := (mkF m 111 #[.val (.int x0), .val (.int x1), .val (.int ((x0 &&& (2147483647 : Int32)) % (3 : Int32))), .val (.int ((1 : Int32) + ((x1 &&& (2147483647 : Int32)) % (40 : Int32)))), .val (.ref a_ALPHANUMERIC), .val (.int (9 : Int32)), .val (.int (11 : Int32)), .val (.int (13 : Int32)), .unset] [(.int (13 : Int32))])) (fun τ κ => XS.iload X20.here hx rfl (hb hby at_109) rfl κ) ?_
          refine Gl.st (g' := (mkF m 113 #[.val (.int x0), .val (.int x1), .val (.int ((x0 &&& (2147483647 : Int32)) % (3 : Int32))), .val (.int ((1 : Int32) + ((x1 &&& (2147483647 : Int32)) % (40 : Int32)))), .val (.ref a_ALPHANUMERIC), .val (.int (9 : Int32)), .val (.int (11 : Int32)), .val (.int (13 : Int32)), .val (.int (13 : Int32))] [])) (fun τ κ => XS.istore X20.here hx rfl (hb hby at_111) rfl (l' := #[.val (.int x0), .val (.int x1), .val (.int ((x0 &&& (2147483647 : Int32)) % (3 : Int32))), .val (.int ((1 : Int32) + ((x1 &&& (2147483647 : Int32)) % (40 : Int32)))), .val (.ref a_ALPHANUMERIC), .val (.int (9 : Int32)), .val (.int (11 : Int32)), .val (.int (13 : Int32)), .val (.int (13 : Int32))]) rfl κ) ?_
          refine Gl.st (g' := (mkF m 115 #[.val (.int x0), .val (.int x1), .val (.int ((x0 &&& (2147483647 : Int32)) % (3 : Int32))), .val (.int ((1 : Int32) + ((x1 &&& (2147483647 : Int32)) % (40 : Int32)))), .val (.ref a_ALPHANUMERIC), .val (.int (9 : Int32)), .val (.int (11 : Int32)), .val (.int (13 : Int32)), .val (.int (13 : Int32))] [(.ref a_ALPHANUMERIC)])) (fun τ κ => XS.aload X20.here hx rfl (hb hby at_113) rfl rfl κ) ?_
          refine Gl.st (g' := (mkF m 116 #[.val (.int x0), .val (.int x1), .val (.int ((x0 &&& (2147483647 : Int32)) % (3 : Int32))), .val (.int ((1 : Int32) + ((x1 &&& (2147483647 : Int32)) % (40 : Int32)))), .val (.ref a_ALPHANUMERIC), .val (.int (9 : Int32)), .val (.int (11 : Int32)), .val (.int (13 : Int32)), .val (.int (13 : Int32))] [(.int ((1 : Int32) + ((x1 &&& (2147483647 : Int32)) % (40 : Int32)))), (.ref a_ALPHANUMERIC)])) (fun τ κ => XS.iloadN X20.here hx rfl (hb hby at_115) rfl κ) ?_
          obtain ⟨cq27, kq27, q27a, q27b, q27c⟩ := isOf hZ e20 E_ALPHANUMERIC
          obtain ⟨rv27, _, ⟨T27, L27, k27, n27⟩, -, X27, ⟨Lc27, hQ27, l27, y27, z27⟩, st27⟩ := X20.virtualBack hx (y := (⟨"com/example/quietzone/quietzone/QrSegment$Mode", "countBits", "(I)I"⟩ : MethodName)) (z := (⟨"com/example/quietzone/quietzone/QrSegment$Mode", "countBits", "(I)I"⟩ : MethodName)) hown (mvT hZ (hw _ (List.mem_of_getElem? (i := 4) rfl))) (mvT hZ (hw _ (List.mem_of_getElem? (i := 5) rfl))) (notFace_of_selects (args := #[]) (mvT hZ (hw _ (List.mem_of_getElem? (i := 7) rfl)))) (mvT hZ (hw _ (List.mem_of_getElem? (i := 7) rfl))) (mvT hZ (hw _ (List.mem_of_getElem? (i := 6) rfl))) (by decide) (backOf (W := 0) (rm1 l Z a0 hw [] a_ALPHANUMERIC ((1 : Int32) + ((x1 &&& (2147483647 : Int32)) % (40 : Int32))) t_ALPHANUMERIC k_ALPHANUMERIC (9 : Int32) (11 : Int32) (13 : Int32) h0 n0 Z0 F_ALPHANUMERIC V_ALPHANUMERIC) hZ (hw _ (List.mem_of_getElem? (i := 8) rfl)) (hw _ (List.mem_of_getElem? (i := 2) rfl)) (by decide) (by decide)) q27a q27c (g := (mkF m 116 #[.val (.int x0), .val (.int x1), .val (.int ((x0 &&& (2147483647 : Int32)) % (3 : Int32))), .val (.int ((1 : Int32) + ((x1 &&& (2147483647 : Int32)) % (40 : Int32)))), .val (.ref a_ALPHANUMERIC), .val (.int (9 : Int32)), .val (.int (11 : Int32)), .val (.int (13 : Int32)), .val (.int (13 : Int32))] [(.int ((1 : Int32) + ((x1 &&& (2147483647 : Int32)) % (40 : Int32)))), (.ref a_ALPHANUMERIC)])) rfl (by rw [hml]; rfl) (Steps.refl _) (argsL := [(.int ((1 : Int32) + ((x1 &&& (2147483647 : Int32)) % (40 : Int32))))]) (rest := []) (lenOf pd_0 rfl) rfl (by show 2 * 0 + _ ≤ _; exact Nat.le_of_eq rfl) (hb hby at_116) (fun _ _ => ⟨rfl, e20, (by decide : 0 + 0 ≤ _), (by decide : 0 + 0 ≤ _)⟩)
          dsimp only [Pt.U, Pt.locs, Pt.cells, Pt.slots] at X27 l27 y27 z27 st27 hQ27
          subst l27 y27 z27
          obtain ⟨rfl, N27q, e27⟩ := hQ27
          have N27 := Fr.app N0 N27q
          refine Gl.st (g' := (mkF m 119 #[.val (.int x0), .val (.int x1), .val (.int ((x0 &&& (2147483647 : Int32)) % (3 : Int32))), .val (.int ((1 : Int32) + ((x1 &&& (2147483647 : Int32)) % (40 : Int32)))), .val (.ref a_ALPHANUMERIC), .val (.int (9 : Int32)), .val (.int (11 : Int32)), .val (.int (13 : Int32)), .val (.int (13 : Int32))] [(.int (own_cb ((1 : Int32) + ((x1 &&& (2147483647 : Int32)) % (40 : Int32))) (9 : Int32) (11 : Int32) (13 : Int32)))])) (fun τ κ => st27.trans κ) ?_
          refine Gl.st (g' := (mkF m 121 #[.val (.int x0), .val (.int x1), .val (.int ((x0 &&& (2147483647 : Int32)) % (3 : Int32))), .val (.int ((1 : Int32) + ((x1 &&& (2147483647 : Int32)) % (40 : Int32)))), .val (.ref a_ALPHANUMERIC), .val (.int (9 : Int32)), .val (.int (11 : Int32)), .val (.int (13 : Int32)), .val (.int (13 : Int32))] [(.int (13 : Int32)), (.int (own_cb ((1 : Int32) + ((x1 &&& (2147483647 : Int32)) % (40 : Int32))) (9 : Int32) (11 : Int32) (13 : Int32)))])) (fun τ κ => XS.iload X27.here hx rfl (hb hby at_119) rfl κ) ?_
          have hc28 : (own_cb ((1 : Int32) + ((x1 &&& (2147483647 : Int32)) % (40 : Int32))) (9 : Int32) (11 : Int32) (13 : Int32)) = (13 : Int32) := own_e2 hc21 hc24
          refine Gl.st (g' := (mkF m 124 #[.val (.int x0), .val (.int x1), .val (.int ((x0 &&& (2147483647 : Int32)) % (3 : Int32))), .val (.int ((1 : Int32) + ((x1 &&& (2147483647 : Int32)) % (40 : Int32)))), .val (.ref a_ALPHANUMERIC), .val (.int (9 : Int32)), .val (.int (11 : Int32)), .val (.int (13 : Int32)), .val (.int (13 : Int32))] [])) (fun τ κ => XS.icmpNo X27.here hx rfl (hb hby at_121) rfl (teq hc28).2 κ) ?_
          refine Gl.st (g' := (mkF m 125 #[.val (.int x0), .val (.int x1), .val (.int ((x0 &&& (2147483647 : Int32)) % (3 : Int32))), .val (.int ((1 : Int32) + ((x1 &&& (2147483647 : Int32)) % (40 : Int32)))), .val (.ref a_ALPHANUMERIC), .val (.int (9 : Int32)), .val (.int (11 : Int32)), .val (.int (13 : Int32)), .val (.int (13 : Int32))] [(.int (1 : Int32))])) (fun τ κ => XS.iconst X27.here hx rfl (hb hby at_124) κ) ?_
          refine Gl.st (g' := (mkF m 129 #[.val (.int x0), .val (.int x1), .val (.int ((x0 &&& (2147483647 : Int32)) % (3 : Int32))), .val (.int ((1 : Int32) + ((x1 &&& (2147483647 : Int32)) % (40 : Int32)))), .val (.ref a_ALPHANUMERIC), .val (.int (9 : Int32)), .val (.int (11 : Int32)), .val (.int (13 : Int32)), .val (.int (13 : Int32))] [(.int (1 : Int32))])) (fun τ κ => XS.goto X27.here hx rfl (pc0 := 125) (pc' := 129) rfl (hb hby at_125) (by decide) (by decide) κ) ?_
          exact Gl.ret (v := some (.int (1 : Int32))) X27 Bd.notSynchronized (fun h => by rw [Bd.returns] at h; cases h) e27 (fun fs hr => retN X27 hx (t := .boolean) Bd.returns (by simp) (hb hby at_129) hr) (by decide) (by decide) ⟨rfl, N27⟩
    · -- pc 43: not ((x0 &&& (2147483647 : Int32)) % (3 : Int32)) = (1 : Int32)
      refine Gl.st (g' := (mkF m 66 #[.val (.int x0), .val (.int x1), .val (.int ((x0 &&& (2147483647 : Int32)) % (3 : Int32))), .val (.int ((1 : Int32) + ((x1 &&& (2147483647 : Int32)) % (40 : Int32)))), .unset, .unset, .unset, .unset, .unset] [])) (fun τ κ => XS.icmpYes X0.here hx rfl (pc0 := 43) (pc' := 66) rfl (hb hby at_43) rfl (feq hc19).2 (by decide) (by decide) κ) ?_
      obtain ⟨T29, X29, e29, st29⟩ := getS2 X0 hx hZ hown (host := "") (Or.inl (hw _ (List.mem_of_getElem? (i := 11) rfl))) Via.refl e0 S_BYTE (g := (mkF m 66 #[.val (.int x0), .val (.int x1), .val (.int ((x0 &&& (2147483647 : Int32)) % (3 : Int32))), .val (.int ((1 : Int32) + ((x1 &&& (2147483647 : Int32)) % (40 : Int32)))), .unset, .unset, .unset, .unset, .unset] [])) rfl (hb hby at_66)
      refine Gl.st (g' := (mkF m 69 #[.val (.int x0), .val (.int x1), .val (.int ((x0 &&& (2147483647 : Int32)) % (3 : Int32))), .val (.int ((1 : Int32) + ((x1 &&& (2147483647 : Int32)) % (40 : Int32)))), .unset, .unset, .unset, .unset, .unset] [(.ref a_BYTE)])) (fun τ κ => st29 _ κ) ?_
      refine Gl.st (g' := (mkF m 71 #[.val (.int x0), .val (.int x1), .val (.int ((x0 &&& (2147483647 : Int32)) % (3 : Int32))), .val (.int ((1 : Int32) + ((x1 &&& (2147483647 : Int32)) % (40 : Int32)))), .val (.ref a_BYTE), .unset, .unset, .unset, .unset] [])) (fun τ κ => XS.astore X29.here hx rfl (hb hby at_69) rfl rfl (l' := #[.val (.int x0), .val (.int x1), .val (.int ((x0 &&& (2147483647 : Int32)) % (3 : Int32))), .val (.int ((1 : Int32) + ((x1 &&& (2147483647 : Int32)) % (40 : Int32)))), .val (.ref a_BYTE), .unset, .unset, .unset, .unset]) rfl κ) ?_
      refine Gl.st (g' := (mkF m 73 #[.val (.int x0), .val (.int x1), .val (.int ((x0 &&& (2147483647 : Int32)) % (3 : Int32))), .val (.int ((1 : Int32) + ((x1 &&& (2147483647 : Int32)) % (40 : Int32)))), .val (.ref a_BYTE), .unset, .unset, .unset, .unset] [(.int (8 : Int32))])) (fun τ κ => XS.bipush X29.here hx rfl (hb hby at_71) κ) ?_
      refine Gl.st (g' := (mkF m 75 #[.val (.int x0), .val (.int x1), .val (.int ((x0 &&& (2147483647 : Int32)) % (3 : Int32))), .val (.int ((1 : Int32) + ((x1 &&& (2147483647 : Int32)) % (40 : Int32)))), .val (.ref a_BYTE), .val (.int (8 : Int32)), .unset, .unset, .unset] [])) (fun τ κ => XS.istore X29.here hx rfl (hb hby at_73) rfl (l' := #[.val (.int x0), .val (.int x1), .val (.int ((x0 &&& (2147483647 : Int32)) % (3 : Int32))), .val (.int ((1 : Int32) + ((x1 &&& (2147483647 : Int32)) % (40 : Int32)))), .val (.ref a_BYTE), .val (.int (8 : Int32)), .unset, .unset, .unset]) rfl κ) ?_
      refine Gl.st (g' := (mkF m 77 #[.val (.int x0), .val (.int x1), .val (.int ((x0 &&& (2147483647 : Int32)) % (3 : Int32))), .val (.int ((1 : Int32) + ((x1 &&& (2147483647 : Int32)) % (40 : Int32)))), .val (.ref a_BYTE), .val (.int (8 : Int32)), .unset, .unset, .unset] [(.int (16 : Int32))])) (fun τ κ => XS.bipush X29.here hx rfl (hb hby at_75) κ) ?_
      refine Gl.st (g' := (mkF m 79 #[.val (.int x0), .val (.int x1), .val (.int ((x0 &&& (2147483647 : Int32)) % (3 : Int32))), .val (.int ((1 : Int32) + ((x1 &&& (2147483647 : Int32)) % (40 : Int32)))), .val (.ref a_BYTE), .val (.int (8 : Int32)), .val (.int (16 : Int32)), .unset, .unset] [])) (fun τ κ => XS.istore X29.here hx rfl (hb hby at_77) rfl (l' := #[.val (.int x0), .val (.int x1), .val (.int ((x0 &&& (2147483647 : Int32)) % (3 : Int32))), .val (.int ((1 : Int32) + ((x1 &&& (2147483647 : Int32)) % (40 : Int32)))), .val (.ref a_BYTE), .val (.int (8 : Int32)), .val (.int (16 : Int32)), .unset, .unset]) rfl κ) ?_
      refine Gl.st (g' := (mkF m 81 #[.val (.int x0), .val (.int x1), .val (.int ((x0 &&& (2147483647 : Int32)) % (3 : Int32))), .val (.int ((1 : Int32) + ((x1 &&& (2147483647 : Int32)) % (40 : Int32)))), .val (.ref a_BYTE), .val (.int (8 : Int32)), .val (.int (16 : Int32)), .unset, .unset] [(.int (16 : Int32))])) (fun τ κ => XS.bipush X29.here hx rfl (hb hby at_79) κ) ?_
      refine Gl.st (g' := (mkF m 83 #[.val (.int x0), .val (.int x1), .val (.int ((x0 &&& (2147483647 : Int32)) % (3 : Int32))), .val (.int ((1 : Int32) + ((x1 &&& (2147483647 : Int32)) % (40 : Int32)))), .val (.ref a_BYTE), .val (.int (8 : Int32)), .val (.int (16 : Int32)), .val (.int (16 : Int32)), .unset] [])) (fun τ κ => XS.istore X29.here hx rfl (hb hby at_81) rfl (l' := #[.val (.int x0), .val (.int x1), .val (.int ((x0 &&& (2147483647 : Int32)) % (3 : Int32))), .val (.int ((1 : Int32) + ((x1 &&& (2147483647 : Int32)) % (40 : Int32)))), .val (.ref a_BYTE), .val (.int (8 : Int32)), .val (.int (16 : Int32)), .val (.int (16 : Int32)), .unset]) rfl κ) ?_
      refine Gl.st (g' := (mkF m 84 #[.val (.int x0), .val (.int x1), .val (.int ((x0 &&& (2147483647 : Int32)) % (3 : Int32))), .val (.int ((1 : Int32) + ((x1 &&& (2147483647 : Int32)) % (40 : Int32)))), .val (.ref a_BYTE), .val (.int (8 : Int32)), .val (.int (16 : Int32)), .val (.int (16 : Int32)), .unset] [(.int ((1 : Int32) + ((x1 &&& (2147483647 : Int32)) % (40 : Int32))))])) (fun τ κ => XS.iloadN X29.here hx rfl (hb hby at_83) rfl κ) ?_
      refine Gl.st (g' := (mkF m 86 #[.val (.int x0), .val (.int x1), .val (.int ((x0 &&& (2147483647 : Int32)) % (3 : Int32))), .val (.int ((1 : Int32) + ((x1 &&& (2147483647 : Int32)) % (40 : Int32)))), .val (.ref a_BYTE), .val (.int (8 : Int32)), .val (.int (16 : Int32)), .val (.int (16 : Int32)), .unset] [(.int (10 : Int32)), (.int ((1 : Int32) + ((x1 &&& (2147483647 : Int32)) % (40 : Int32))))])) (fun τ κ => XS.bipush X29.here hx rfl (hb hby at_84) κ) ?_
      by_cases hc30 : ((1 : Int32) + ((x1 &&& (2147483647 : Int32)) % (40 : Int32))) < (10 : Int32)
      · -- pc 86: ((1 : Int32) + ((x1 &&& (2147483647 : Int32)) % (40 : Int32))) < (10 : Int32)
        refine Gl.st (g' := (mkF m 89 #[.val (.int x0), .val (.int x1), .val (.int ((x0 &&& (2147483647 : Int32)) % (3 : Int32))), .val (.int ((1 : Int32) + ((x1 &&& (2147483647 : Int32)) % (40 : Int32)))), .val (.ref a_BYTE), .val (.int (8 : Int32)), .val (.int (16 : Int32)), .val (.int (16 : Int32)), .unset] [])) (fun τ κ => XS.icmpNo X29.here hx rfl (hb hby at_86) rfl (tlt hc30).2.1 κ) ?_
        refine Gl.st (g' := (mkF m 91 #[.val (.int x0), .val (.int x1), .val (.int ((x0 &&& (2147483647 : Int32)) % (3 : Int32))), .val (.int ((1 : Int32) + ((x1 &&& (2147483647 : Int32)) % (40 : Int32)))), .val (.ref a_BYTE), .val (.int (8 : Int32)), .val (.int (16 : Int32)), .val (.int (16 : Int32)), .unset] [(.int (8 : Int32))])) (fun τ κ => XS.iload X29.here hx rfl (hb hby at_89) rfl κ) ?_
        refine Gl.st (g' := (mkF m 93 #[.val (.int x0), .val (.int x1), .val (.int ((x0 &&& (2147483647 : Int32)) % (3 : Int32))), .val (.int ((1 : Int32) + ((x1 &&& (2147483647 : Int32)) % (40 : Int32)))), .val (.ref a_BYTE), .val (.int (8 : Int32)), .val (.int (16 : Int32)), .val (.int (16 : Int32)), .val (.int (8 : Int32))] [])) (fun τ κ => XS.istore X29.here hx rfl (hb hby at_91) rfl (l' := #[.val (.int x0), .val (.int x1), .val (.int ((x0 &&& (2147483647 : Int32)) % (3 : Int32))), .val (.int ((1 : Int32) + ((x1 &&& (2147483647 : Int32)) % (40 : Int32)))), .val (.ref a_BYTE), .val (.int (8 : Int32)), .val (.int (16 : Int32)), .val (.int (16 : Int32)), .val (.int (8 : Int32))]) rfl κ) ?_
        refine Gl.st (g' := (mkF m 113 #[.val (.int x0), .val (.int x1), .val (.int ((x0 &&& (2147483647 : Int32)) % (3 : Int32))), .val (.int ((1 : Int32) + ((x1 &&& (2147483647 : Int32)) % (40 : Int32)))), .val (.ref a_BYTE), .val (.int (8 : Int32)), .val (.int (16 : Int32)), .val (.int (16 : Int32)), .val (.int (8 : Int32))] [])) (fun τ κ => XS.goto X29.here hx rfl (pc0 := 93) (pc' := 113) rfl (hb hby at_93) (by decide) (by decide) κ) ?_
        refine Gl.st (g' := (mkF m 115 #[.val (.int x0), .val (.int x1), .val (.int ((x0 &&& (2147483647 : Int32)) % (3 : Int32))), .val (.int ((1 : Int32) + ((x1 &&& (2147483647 : Int32)) % (40 : Int32)))), .val (.ref a_BYTE), .val (.int (8 : Int32)), .val (.int (16 : Int32)), .val (.int (16 : Int32)), .val (.int (8 : Int32))] [(.ref a_BYTE)])) (fun τ κ => XS.aload X29.here hx rfl (hb hby at_113) rfl rfl κ) ?_
        refine Gl.st (g' := (mkF m 116 #[.val (.int x0), .val (.int x1), .val (.int ((x0 &&& (2147483647 : Int32)) % (3 : Int32))), .val (.int ((1 : Int32) + ((x1 &&& (2147483647 : Int32)) % (40 : Int32)))), .val (.ref a_BYTE), .val (.int (8 : Int32)), .val (.int (16 : Int32)), .val (.int (16 : Int32)), .val (.int (8 : Int32))] [(.int ((1 : Int32) + ((x1 &&& (2147483647 : Int32)) % (40 : Int32)))), (.ref a_BYTE)])) (fun τ κ => XS.iloadN X29.here hx rfl (hb hby at_115) rfl κ) ?_
        obtain ⟨cq31, kq31, q31a, q31b, q31c⟩ := isOf hZ e29 E_BYTE
        obtain ⟨rv31, _, ⟨T31, L31, k31, n31⟩, -, X31, ⟨Lc31, hQ31, l31, y31, z31⟩, st31⟩ := X29.virtualBack hx (y := (⟨"com/example/quietzone/quietzone/QrSegment$Mode", "countBits", "(I)I"⟩ : MethodName)) (z := (⟨"com/example/quietzone/quietzone/QrSegment$Mode", "countBits", "(I)I"⟩ : MethodName)) hown (mvT hZ (hw _ (List.mem_of_getElem? (i := 4) rfl))) (mvT hZ (hw _ (List.mem_of_getElem? (i := 5) rfl))) (notFace_of_selects (args := #[]) (mvT hZ (hw _ (List.mem_of_getElem? (i := 7) rfl)))) (mvT hZ (hw _ (List.mem_of_getElem? (i := 7) rfl))) (mvT hZ (hw _ (List.mem_of_getElem? (i := 6) rfl))) (by decide) (backOf (W := 0) (rm1 l Z a0 hw [] a_BYTE ((1 : Int32) + ((x1 &&& (2147483647 : Int32)) % (40 : Int32))) t_BYTE k_BYTE (8 : Int32) (16 : Int32) (16 : Int32) h0 n0 Z0 F_BYTE V_BYTE) hZ (hw _ (List.mem_of_getElem? (i := 8) rfl)) (hw _ (List.mem_of_getElem? (i := 2) rfl)) (by decide) (by decide)) q31a q31c (g := (mkF m 116 #[.val (.int x0), .val (.int x1), .val (.int ((x0 &&& (2147483647 : Int32)) % (3 : Int32))), .val (.int ((1 : Int32) + ((x1 &&& (2147483647 : Int32)) % (40 : Int32)))), .val (.ref a_BYTE), .val (.int (8 : Int32)), .val (.int (16 : Int32)), .val (.int (16 : Int32)), .val (.int (8 : Int32))] [(.int ((1 : Int32) + ((x1 &&& (2147483647 : Int32)) % (40 : Int32)))), (.ref a_BYTE)])) rfl (by rw [hml]; rfl) (Steps.refl _) (argsL := [(.int ((1 : Int32) + ((x1 &&& (2147483647 : Int32)) % (40 : Int32))))]) (rest := []) (lenOf pd_0 rfl) rfl (by show 2 * 0 + _ ≤ _; exact Nat.le_of_eq rfl) (hb hby at_116) (fun _ _ => ⟨rfl, e29, (by decide : 0 + 0 ≤ _), (by decide : 0 + 0 ≤ _)⟩)
        dsimp only [Pt.U, Pt.locs, Pt.cells, Pt.slots] at X31 l31 y31 z31 st31 hQ31
        subst l31 y31 z31
        obtain ⟨rfl, N31q, e31⟩ := hQ31
        have N31 := Fr.app N0 N31q
        refine Gl.st (g' := (mkF m 119 #[.val (.int x0), .val (.int x1), .val (.int ((x0 &&& (2147483647 : Int32)) % (3 : Int32))), .val (.int ((1 : Int32) + ((x1 &&& (2147483647 : Int32)) % (40 : Int32)))), .val (.ref a_BYTE), .val (.int (8 : Int32)), .val (.int (16 : Int32)), .val (.int (16 : Int32)), .val (.int (8 : Int32))] [(.int (own_cb ((1 : Int32) + ((x1 &&& (2147483647 : Int32)) % (40 : Int32))) (8 : Int32) (16 : Int32) (16 : Int32)))])) (fun τ κ => st31.trans κ) ?_
        refine Gl.st (g' := (mkF m 121 #[.val (.int x0), .val (.int x1), .val (.int ((x0 &&& (2147483647 : Int32)) % (3 : Int32))), .val (.int ((1 : Int32) + ((x1 &&& (2147483647 : Int32)) % (40 : Int32)))), .val (.ref a_BYTE), .val (.int (8 : Int32)), .val (.int (16 : Int32)), .val (.int (16 : Int32)), .val (.int (8 : Int32))] [(.int (8 : Int32)), (.int (own_cb ((1 : Int32) + ((x1 &&& (2147483647 : Int32)) % (40 : Int32))) (8 : Int32) (16 : Int32) (16 : Int32)))])) (fun τ κ => XS.iload X31.here hx rfl (hb hby at_119) rfl κ) ?_
        have hc32 : (own_cb ((1 : Int32) + ((x1 &&& (2147483647 : Int32)) % (40 : Int32))) (8 : Int32) (16 : Int32) (16 : Int32)) = (8 : Int32) := own_e0 hc30
        refine Gl.st (g' := (mkF m 124 #[.val (.int x0), .val (.int x1), .val (.int ((x0 &&& (2147483647 : Int32)) % (3 : Int32))), .val (.int ((1 : Int32) + ((x1 &&& (2147483647 : Int32)) % (40 : Int32)))), .val (.ref a_BYTE), .val (.int (8 : Int32)), .val (.int (16 : Int32)), .val (.int (16 : Int32)), .val (.int (8 : Int32))] [])) (fun τ κ => XS.icmpNo X31.here hx rfl (hb hby at_121) rfl (teq hc32).2 κ) ?_
        refine Gl.st (g' := (mkF m 125 #[.val (.int x0), .val (.int x1), .val (.int ((x0 &&& (2147483647 : Int32)) % (3 : Int32))), .val (.int ((1 : Int32) + ((x1 &&& (2147483647 : Int32)) % (40 : Int32)))), .val (.ref a_BYTE), .val (.int (8 : Int32)), .val (.int (16 : Int32)), .val (.int (16 : Int32)), .val (.int (8 : Int32))] [(.int (1 : Int32))])) (fun τ κ => XS.iconst X31.here hx rfl (hb hby at_124) κ) ?_
        refine Gl.st (g' := (mkF m 129 #[.val (.int x0), .val (.int x1), .val (.int ((x0 &&& (2147483647 : Int32)) % (3 : Int32))), .val (.int ((1 : Int32) + ((x1 &&& (2147483647 : Int32)) % (40 : Int32)))), .val (.ref a_BYTE), .val (.int (8 : Int32)), .val (.int (16 : Int32)), .val (.int (16 : Int32)), .val (.int (8 : Int32))] [(.int (1 : Int32))])) (fun τ κ => XS.goto X31.here hx rfl (pc0 := 125) (pc' := 129) rfl (hb hby at_125) (by decide) (by decide) κ) ?_
        exact Gl.ret (v := some (.int (1 : Int32))) X31 Bd.notSynchronized (fun h => by rw [Bd.returns] at h; cases h) e31 (fun fs hr => retN X31 hx (t := .boolean) Bd.returns (by simp) (hb hby at_129) hr) (by decide) (by decide) ⟨rfl, N31⟩
      · -- pc 86: not ((1 : Int32) + ((x1 &&& (2147483647 : Int32)) % (40 : Int32))) < (10 : Int32)
        refine Gl.st (g' := (mkF m 96 #[.val (.int x0), .val (.int x1), .val (.int ((x0 &&& (2147483647 : Int32)) % (3 : Int32))), .val (.int ((1 : Int32) + ((x1 &&& (2147483647 : Int32)) % (40 : Int32)))), .val (.ref a_BYTE), .val (.int (8 : Int32)), .val (.int (16 : Int32)), .val (.int (16 : Int32)), .unset] [])) (fun τ κ => XS.icmpYes X29.here hx rfl (pc0 := 86) (pc' := 96) rfl (hb hby at_86) rfl (flt hc30).2.1 (by decide) (by decide) κ) ?_
        refine Gl.st (g' := (mkF m 97 #[.val (.int x0), .val (.int x1), .val (.int ((x0 &&& (2147483647 : Int32)) % (3 : Int32))), .val (.int ((1 : Int32) + ((x1 &&& (2147483647 : Int32)) % (40 : Int32)))), .val (.ref a_BYTE), .val (.int (8 : Int32)), .val (.int (16 : Int32)), .val (.int (16 : Int32)), .unset] [(.int ((1 : Int32) + ((x1 &&& (2147483647 : Int32)) % (40 : Int32))))])) (fun τ κ => XS.iloadN X29.here hx rfl (hb hby at_96) rfl κ) ?_
        refine Gl.st (g' := (mkF m 99 #[.val (.int x0), .val (.int x1), .val (.int ((x0 &&& (2147483647 : Int32)) % (3 : Int32))), .val (.int ((1 : Int32) + ((x1 &&& (2147483647 : Int32)) % (40 : Int32)))), .val (.ref a_BYTE), .val (.int (8 : Int32)), .val (.int (16 : Int32)), .val (.int (16 : Int32)), .unset] [(.int (27 : Int32)), (.int ((1 : Int32) + ((x1 &&& (2147483647 : Int32)) % (40 : Int32))))])) (fun τ κ => XS.bipush X29.here hx rfl (hb hby at_97) κ) ?_
        by_cases hc33 : ((1 : Int32) + ((x1 &&& (2147483647 : Int32)) % (40 : Int32))) < (27 : Int32)
        · -- pc 99: ((1 : Int32) + ((x1 &&& (2147483647 : Int32)) % (40 : Int32))) < (27 : Int32)
          refine Gl.st (g' := (mkF m 102 #[.val (.int x0), .val (.int x1), .val (.int ((x0 &&& (2147483647 : Int32)) % (3 : Int32))), .val (.int ((1 : Int32) + ((x1 &&& (2147483647 : Int32)) % (40 : Int32)))), .val (.ref a_BYTE), .val (.int (8 : Int32)), .val (.int (16 : Int32)), .val (.int (16 : Int32)), .unset] [])) (fun τ κ => XS.icmpNo X29.here hx rfl (hb hby at_99) rfl (tlt hc33).2.1 κ) ?_
          refine Gl.st (g' := (mkF m 104 #[.val (.int x0), .val (.int x1), .val (.int ((x0 &&& (2147483647 : Int32)) % (3 : Int32))), .val (.int ((1 : Int32) + ((x1 &&& (2147483647 : Int32)) % (40 : Int32)))), .val (.ref a_BYTE), .val (.int (8 : Int32)), .val (.int (16 : Int32)), .val (.int (16 : Int32)), .unset] [(.int (16 : Int32))])) (fun τ κ => XS.iload X29.here hx rfl (hb hby at_102) rfl κ) ?_
          refine Gl.st (g' := (mkF m 106 #[.val (.int x0), .val (.int x1), .val (.int ((x0 &&& (2147483647 : Int32)) % (3 : Int32))), .val (.int ((1 : Int32) + ((x1 &&& (2147483647 : Int32)) % (40 : Int32)))), .val (.ref a_BYTE), .val (.int (8 : Int32)), .val (.int (16 : Int32)), .val (.int (16 : Int32)), .val (.int (16 : Int32))] [])) (fun τ κ => XS.istore X29.here hx rfl (hb hby at_104) rfl (l' := #[.val (.int x0), .val (.int x1), .val (.int ((x0 &&& (2147483647 : Int32)) % (3 : Int32))), .val (.int ((1 : Int32) + ((x1 &&& (2147483647 : Int32)) % (40 : Int32)))), .val (.ref a_BYTE), .val (.int (8 : Int32)), .val (.int (16 : Int32)), .val (.int (16 : Int32)), .val (.int (16 : Int32))]) rfl κ) ?_
          refine Gl.st (g' := (mkF m 113 #[.val (.int x0), .val (.int x1), .val (.int ((x0 &&& (2147483647 : Int32)) % (3 : Int32))), .val (.int ((1 : Int32) + ((x1 &&& (2147483647 : Int32)) % (40 : Int32)))), .val (.ref a_BYTE), .val (.int (8 : Int32)), .val (.int (16 : Int32)), .val (.int (16 : Int32)), .val (.int (16 : Int32))] [])) (fun τ κ => XS.goto X29.here hx rfl (pc0 := 106) (pc' := 113) rfl (hb hby at_106) (by decide) (by decide) κ) ?_
          refine Gl.st (g' := (mkF m 115 #[.val (.int x0), .val (.int x1), .val (.int ((x0 &&& (2147483647 : Int32)) % (3 : Int32))), .val (.int ((1 : Int32) + ((x1 &&& (2147483647 : Int32)) % (40 : Int32)))), .val (.ref a_BYTE), .val (.int (8 : Int32)), .val (.int (16 : Int32)), .val (.int (16 : Int32)), .val (.int (16 : Int32))] [(.ref a_BYTE)])) (fun τ κ => XS.aload X29.here hx rfl (hb hby at_113) rfl rfl κ) ?_
          refine Gl.st (g' := (mkF m 116 #[.val (.int x0), .val (.int x1), .val (.int ((x0 &&& (2147483647 : Int32)) % (3 : Int32))), .val (.int ((1 : Int32) + ((x1 &&& (2147483647 : Int32)) % (40 : Int32)))), .val (.ref a_BYTE), .val (.int (8 : Int32)), .val (.int (16 : Int32)), .val (.int (16 : Int32)), .val (.int (16 : Int32))] [(.int ((1 : Int32) + ((x1 &&& (2147483647 : Int32)) % (40 : Int32)))), (.ref a_BYTE)])) (fun τ κ => XS.iloadN X29.here hx rfl (hb hby at_115) rfl κ) ?_
          obtain ⟨cq34, kq34, q34a, q34b, q34c⟩ := isOf hZ e29 E_BYTE
          obtain ⟨rv34, _, ⟨T34, L34, k34, n34⟩, -, X34, ⟨Lc34, hQ34, l34, y34, z34⟩, st34⟩ := X29.virtualBack hx (y := (⟨"com/example/quietzone/quietzone/QrSegment$Mode", "countBits", "(I)I"⟩ : MethodName)) (z := (⟨"com/example/quietzone/quietzone/QrSegment$Mode", "countBits", "(I)I"⟩ : MethodName)) hown (mvT hZ (hw _ (List.mem_of_getElem? (i := 4) rfl))) (mvT hZ (hw _ (List.mem_of_getElem? (i := 5) rfl))) (notFace_of_selects (args := #[]) (mvT hZ (hw _ (List.mem_of_getElem? (i := 7) rfl)))) (mvT hZ (hw _ (List.mem_of_getElem? (i := 7) rfl))) (mvT hZ (hw _ (List.mem_of_getElem? (i := 6) rfl))) (by decide) (backOf (W := 0) (rm1 l Z a0 hw [] a_BYTE ((1 : Int32) + ((x1 &&& (2147483647 : Int32)) % (40 : Int32))) t_BYTE k_BYTE (8 : Int32) (16 : Int32) (16 : Int32) h0 n0 Z0 F_BYTE V_BYTE) hZ (hw _ (List.mem_of_getElem? (i := 8) rfl)) (hw _ (List.mem_of_getElem? (i := 2) rfl)) (by decide) (by decide)) q34a q34c (g := (mkF m 116 #[.val (.int x0), .val (.int x1), .val (.int ((x0 &&& (2147483647 : Int32)) % (3 : Int32))), .val (.int ((1 : Int32) + ((x1 &&& (2147483647 : Int32)) % (40 : Int32)))), .val (.ref a_BYTE), .val (.int (8 : Int32)), .val (.int (16 : Int32)), .val (.int (16 : Int32)), .val (.int (16 : Int32))] [(.int ((1 : Int32) + ((x1 &&& (2147483647 : Int32)) % (40 : Int32)))), (.ref a_BYTE)])) rfl (by rw [hml]; rfl) (Steps.refl _) (argsL := [(.int ((1 : Int32) + ((x1 &&& (2147483647 : Int32)) % (40 : Int32))))]) (rest := []) (lenOf pd_0 rfl) rfl (by show 2 * 0 + _ ≤ _; exact Nat.le_of_eq rfl) (hb hby at_116) (fun _ _ => ⟨rfl, e29, (by decide : 0 + 0 ≤ _), (by decide : 0 + 0 ≤ _)⟩)
          dsimp only [Pt.U, Pt.locs, Pt.cells, Pt.slots] at X34 l34 y34 z34 st34 hQ34
          subst l34 y34 z34
          obtain ⟨rfl, N34q, e34⟩ := hQ34
          have N34 := Fr.app N0 N34q
          refine Gl.st (g' := (mkF m 119 #[.val (.int x0), .val (.int x1), .val (.int ((x0 &&& (2147483647 : Int32)) % (3 : Int32))), .val (.int ((1 : Int32) + ((x1 &&& (2147483647 : Int32)) % (40 : Int32)))), .val (.ref a_BYTE), .val (.int (8 : Int32)), .val (.int (16 : Int32)), .val (.int (16 : Int32)), .val (.int (16 : Int32))] [(.int (own_cb ((1 : Int32) + ((x1 &&& (2147483647 : Int32)) % (40 : Int32))) (8 : Int32) (16 : Int32) (16 : Int32)))])) (fun τ κ => st34.trans κ) ?_
          refine Gl.st (g' := (mkF m 121 #[.val (.int x0), .val (.int x1), .val (.int ((x0 &&& (2147483647 : Int32)) % (3 : Int32))), .val (.int ((1 : Int32) + ((x1 &&& (2147483647 : Int32)) % (40 : Int32)))), .val (.ref a_BYTE), .val (.int (8 : Int32)), .val (.int (16 : Int32)), .val (.int (16 : Int32)), .val (.int (16 : Int32))] [(.int (16 : Int32)), (.int (own_cb ((1 : Int32) + ((x1 &&& (2147483647 : Int32)) % (40 : Int32))) (8 : Int32) (16 : Int32) (16 : Int32)))])) (fun τ κ => XS.iload X34.here hx rfl (hb hby at_119) rfl κ) ?_
          have hc35 : (own_cb ((1 : Int32) + ((x1 &&& (2147483647 : Int32)) % (40 : Int32))) (8 : Int32) (16 : Int32) (16 : Int32)) = (16 : Int32) := own_e1 hc30 hc33
          refine Gl.st (g' := (mkF m 124 #[.val (.int x0), .val (.int x1), .val (.int ((x0 &&& (2147483647 : Int32)) % (3 : Int32))), .val (.int ((1 : Int32) + ((x1 &&& (2147483647 : Int32)) % (40 : Int32)))), .val (.ref a_BYTE), .val (.int (8 : Int32)), .val (.int (16 : Int32)), .val (.int (16 : Int32)), .val (.int (16 : Int32))] [])) (fun τ κ => XS.icmpNo X34.here hx rfl (hb hby at_121) rfl (teq hc35).2 κ) ?_
          refine Gl.st (g' := (mkF m 125 #[.val (.int x0), .val (.int x1), .val (.int ((x0 &&& (2147483647 : Int32)) % (3 : Int32))), .val (.int ((1 : Int32) + ((x1 &&& (2147483647 : Int32)) % (40 : Int32)))), .val (.ref a_BYTE), .val (.int (8 : Int32)), .val (.int (16 : Int32)), .val (.int (16 : Int32)), .val (.int (16 : Int32))] [(.int (1 : Int32))])) (fun τ κ => XS.iconst X34.here hx rfl (hb hby at_124) κ) ?_
          refine Gl.st (g' := (mkF m 129 #[.val (.int x0), .val (.int x1), .val (.int ((x0 &&& (2147483647 : Int32)) % (3 : Int32))), .val (.int ((1 : Int32) + ((x1 &&& (2147483647 : Int32)) % (40 : Int32)))), .val (.ref a_BYTE), .val (.int (8 : Int32)), .val (.int (16 : Int32)), .val (.int (16 : Int32)), .val (.int (16 : Int32))] [(.int (1 : Int32))])) (fun τ κ => XS.goto X34.here hx rfl (pc0 := 125) (pc' := 129) rfl (hb hby at_125) (by decide) (by decide) κ) ?_
          exact Gl.ret (v := some (.int (1 : Int32))) X34 Bd.notSynchronized (fun h => by rw [Bd.returns] at h; cases h) e34 (fun fs hr => retN X34 hx (t := .boolean) Bd.returns (by simp) (hb hby at_129) hr) (by decide) (by decide) ⟨rfl, N34⟩
        · -- pc 99: not ((1 : Int32) + ((x1 &&& (2147483647 : Int32)) % (40 : Int32))) < (27 : Int32)
          refine Gl.st (g' := (mkF m 109 #[.val (.int x0), .val (.int x1), .val (.int ((x0 &&& (2147483647 : Int32)) % (3 : Int32))), .val (.int ((1 : Int32) + ((x1 &&& (2147483647 : Int32)) % (40 : Int32)))), .val (.ref a_BYTE), .val (.int (8 : Int32)), .val (.int (16 : Int32)), .val (.int (16 : Int32)), .unset] [])) (fun τ κ => XS.icmpYes X29.here hx rfl (pc0 := 99) (pc' := 109) rfl (hb hby at_99) rfl (flt hc33).2.1 (by decide) (by decide) κ) ?_
          refine Gl.st (g' := (mkF m 111 #[.val (.int x0), .val (.int x1), .val (.int ((x0 &&& (2147483647 : Int32)) % (3 : Int32))), .val (.int ((1 : Int32) + ((x1 &&& (2147483647 : Int32)) % (40 : Int32)))), .val (.ref a_BYTE), .val (.int (8 : Int32)), .val (.int (16 : Int32)), .val (.int (16 : Int32)), .unset] [(.int (16 : Int32))])) (fun τ κ => XS.iload X29.here hx rfl (hb hby at_109) rfl κ) ?_
          refine Gl.st (g' := (mkF m 113 #[.val (.int x0), .val (.int x1), .val (.int ((x0 &&& (2147483647 : Int32)) % (3 : Int32))), .val (.int ((1 : Int32) + ((x1 &&& (2147483647 : Int32)) % (40 : Int32)))), .val (.ref a_BYTE), .val (.int (8 : Int32)), .val (.int (16 : Int32)), .val (.int (16 : Int32)), .val (.int (16 : Int32))] [])) (fun τ κ => XS.istore X29.here hx rfl (hb hby at_111) rfl (l' := #[.val (.int x0), .val (.int x1), .val (.int ((x0 &&& (2147483647 : Int32)) % (3 : Int32))), .val (.int ((1 : Int32) + ((x1 &&& (2147483647 : Int32)) % (40 : Int32)))), .val (.ref a_BYTE), .val (.int (8 : Int32)), .val (.int (16 : Int32)), .val (.int (16 : Int32)), .val (.int (16 : Int32))]) rfl κ) ?_
          refine Gl.st (g' := (mkF m 115 #[.val (.int x0), .val (.int x1), .val (.int ((x0 &&& (2147483647 : Int32)) % (3 : Int32))), .val (.int ((1 : Int32) + ((x1 &&& (2147483647 : Int32)) % (40 : Int32)))), .val (.ref a_BYTE), .val (.int (8 : Int32)), .val (.int (16 : Int32)), .val (.int (16 : Int32)), .val (.int (16 : Int32))] [(.ref a_BYTE)])) (fun τ κ => XS.aload X29.here hx rfl (hb hby at_113) rfl rfl κ) ?_
          refine Gl.st (g' := (mkF m 116 #[.val (.int x0), .val (.int x1), .val (.int ((x0 &&& (2147483647 : Int32)) % (3 : Int32))), .val (.int ((1 : Int32) + ((x1 &&& (2147483647 : Int32)) % (40 : Int32)))), .val (.ref a_BYTE), .val (.int (8 : Int32)), .val (.int (16 : Int32)), .val (.int (16 : Int32)), .val (.int (16 : Int32))] [(.int ((1 : Int32) + ((x1 &&& (2147483647 : Int32)) % (40 : Int32)))), (.ref a_BYTE)])) (fun τ κ => XS.iloadN X29.here hx rfl (hb hby at_115) rfl κ) ?_
          obtain ⟨cq36, kq36, q36a, q36b, q36c⟩ := isOf hZ e29 E_BYTE
          obtain ⟨rv36, _, ⟨T36, L36, k36, n36⟩, -, X36, ⟨Lc36, hQ36, l36, y36, z36⟩, st36⟩ := X29.virtualBack hx (y := (⟨"com/example/quietzone/quietzone/QrSegment$Mode", "countBits", "(I)I"⟩ : MethodName)) (z := (⟨"com/example/quietzone/quietzone/QrSegment$Mode", "countBits", "(I)I"⟩ : MethodName)) hown (mvT hZ (hw _ (List.mem_of_getElem? (i := 4) rfl))) (mvT hZ (hw _ (List.mem_of_getElem? (i := 5) rfl))) (notFace_of_selects (args := #[]) (mvT hZ (hw _ (List.mem_of_getElem? (i := 7) rfl)))) (mvT hZ (hw _ (List.mem_of_getElem? (i := 7) rfl))) (mvT hZ (hw _ (List.mem_of_getElem? (i := 6) rfl))) (by decide) (backOf (W := 0) (rm1 l Z a0 hw [] a_BYTE ((1 : Int32) + ((x1 &&& (2147483647 : Int32)) % (40 : Int32))) t_BYTE k_BYTE (8 : Int32) (16 : Int32) (16 : Int32) h0 n0 Z0 F_BYTE V_BYTE) hZ (hw _ (List.mem_of_getElem? (i := 8) rfl)) (hw _ (List.mem_of_getElem? (i := 2) rfl)) (by decide) (by decide)) q36a q36c (g := (mkF m 116 #[.val (.int x0), .val (.int x1), .val (.int ((x0 &&& (2147483647 : Int32)) % (3 : Int32))), .val (.int ((1 : Int32) + ((x1 &&& (2147483647 : Int32)) % (40 : Int32)))), .val (.ref a_BYTE), .val (.int (8 : Int32)), .val (.int (16 : Int32)), .val (.int (16 : Int32)), .val (.int (16 : Int32))] [(.int ((1 : Int32) + ((x1 &&& (2147483647 : Int32)) % (40 : Int32)))), (.ref a_BYTE)])) rfl (by rw [hml]; rfl) (Steps.refl _) (argsL := [(.int ((1 : Int32) + ((x1 &&& (2147483647 : Int32)) % (40 : Int32))))]) (rest := []) (lenOf pd_0 rfl) rfl (by show 2 * 0 + _ ≤ _; exact Nat.le_of_eq rfl) (hb hby at_116) (fun _ _ => ⟨rfl, e29, (by decide : 0 + 0 ≤ _), (by decide : 0 + 0 ≤ _)⟩)
          dsimp only [Pt.U, Pt.locs, Pt.cells, Pt.slots] at X36 l36 y36 z36 st36 hQ36
          subst l36 y36 z36
          obtain ⟨rfl, N36q, e36⟩ := hQ36
          have N36 := Fr.app N0 N36q
          refine Gl.st (g' := (mkF m 119 #[.val (.int x0), .val (.int x1), .val (.int ((x0 &&& (2147483647 : Int32)) % (3 : Int32))), .val (.int ((1 : Int32) + ((x1 &&& (2147483647 : Int32)) % (40 : Int32)))), .val (.ref a_BYTE), .val (.int (8 : Int32)), .val (.int (16 : Int32)), .val (.int (16 : Int32)), .val (.int (16 : Int32))] [(.int (own_cb ((1 : Int32) + ((x1 &&& (2147483647 : Int32)) % (40 : Int32))) (8 : Int32) (16 : Int32) (16 : Int32)))])) (fun τ κ => st36.trans κ) ?_
          refine Gl.st (g' := (mkF m 121 #[.val (.int x0), .val (.int x1), .val (.int ((x0 &&& (2147483647 : Int32)) % (3 : Int32))), .val (.int ((1 : Int32) + ((x1 &&& (2147483647 : Int32)) % (40 : Int32)))), .val (.ref a_BYTE), .val (.int (8 : Int32)), .val (.int (16 : Int32)), .val (.int (16 : Int32)), .val (.int (16 : Int32))] [(.int (16 : Int32)), (.int (own_cb ((1 : Int32) + ((x1 &&& (2147483647 : Int32)) % (40 : Int32))) (8 : Int32) (16 : Int32) (16 : Int32)))])) (fun τ κ => XS.iload X36.here hx rfl (hb hby at_119) rfl κ) ?_
          have hc37 : (own_cb ((1 : Int32) + ((x1 &&& (2147483647 : Int32)) % (40 : Int32))) (8 : Int32) (16 : Int32) (16 : Int32)) = (16 : Int32) := own_e2 hc30 hc33
          refine Gl.st (g' := (mkF m 124 #[.val (.int x0), .val (.int x1), .val (.int ((x0 &&& (2147483647 : Int32)) % (3 : Int32))), .val (.int ((1 : Int32) + ((x1 &&& (2147483647 : Int32)) % (40 : Int32)))), .val (.ref a_BYTE), .val (.int (8 : Int32)), .val (.int (16 : Int32)), .val (.int (16 : Int32)), .val (.int (16 : Int32))] [])) (fun τ κ => XS.icmpNo X36.here hx rfl (hb hby at_121) rfl (teq hc37).2 κ) ?_
          refine Gl.st (g' := (mkF m 125 #[.val (.int x0), .val (.int x1), .val (.int ((x0 &&& (2147483647 : Int32)) % (3 : Int32))), .val (.int ((1 : Int32) + ((x1 &&& (2147483647 : Int32)) % (40 : Int32)))), .val (.ref a_BYTE), .val (.int (8 : Int32)), .val (.int (16 : Int32)), .val (.int (16 : Int32)), .val (.int (16 : Int32))] [(.int (1 : Int32))])) (fun τ κ => XS.iconst X36.here hx rfl (hb hby at_124) κ) ?_
          refine Gl.st (g' := (mkF m 129 #[.val (.int x0), .val (.int x1), .val (.int ((x0 &&& (2147483647 : Int32)) % (3 : Int32))), .val (.int ((1 : Int32) + ((x1 &&& (2147483647 : Int32)) % (40 : Int32)))), .val (.ref a_BYTE), .val (.int (8 : Int32)), .val (.int (16 : Int32)), .val (.int (16 : Int32)), .val (.int (16 : Int32))] [(.int (1 : Int32))])) (fun τ κ => XS.goto X36.here hx rfl (pc0 := 125) (pc' := 129) rfl (hb hby at_125) (by decide) (by decide) κ) ?_
          exact Gl.ret (v := some (.int (1 : Int32))) X36 Bd.notSynchronized (fun h => by rw [Bd.returns] at h; cases h) e36 (fun fs hr => retN X36 hx (t := .boolean) Bd.returns (by simp) (hb hby at_129) hr) (by decide) (by decide) ⟨rfl, N36⟩
set_option maxRecDepth 65536 in
set_option maxHeartbeats 40000000 in
theorem comes_1 {Post : Tables → Env → Array Value → State → Outcome → State → Prop} (hpost : ∀ tb e args s v u, (limb_1_1.after args s (.returned v) u = true ∧ limb_1_2.after args s (.returned v) u = true ∧ True) → FrameEnd s (.returned v) u (Jvm.fieldLocs frame_1_writes args s ++ Jvm.arrayLocs frame_1_arrays args s ++ Jvm.staticLocs frame_1_statics s) 0 0 → Post tb e args s (.returned v) u) :
    ArmFor flags0 classFile x code maxLocals ret World_1 tables_1 room_1 Calls_1 rest_1 Pre_1 Post := by
  intro l hfl _ _ p e ha hc hk s m args below hf hA hF happ hP
  obtain ⟨hcalls, hrest, hpre⟩ := hP
  obtain ⟨-, -, -, hnamed, -, -, -, hat⟩ := (Spec.applies_iff hf).mp happ
  obtain ⟨hg, hn⟩ := and_e (Cond.before_iff.mp (show (Jvm.Cond.and given_1 narrow_1).before args s = true from hpre))
  obtain ⟨hcount, hg0⟩ := and_e hg
  obtain ⟨gi0, hg1⟩ := and_e hg0
  have gi1 := hg1
  obtain ⟨w0, w1, rfl⟩ : ∃ w0 w1 : Value, args = #[w0, w1] := by
    have hs : args.size = 2 := by simpa [Cond.value, given_1] using hcount
    obtain ⟨L⟩ := args
    match L, hs with
    | [w0, w1], _ => exact ⟨w0, w1, rfl⟩
  have hw := fun d (hd : d ∈ tables_1) => atoms_spec (ws := Jvm.Cond.code x code maxLocals ret :: tables_1) hat d (List.mem_cons_of_mem _ hd)
  obtain ⟨i0, ei0⟩ := is_v gi0
  obtain rfl : w0 = (.int i0) := Option.some.inj ei0
  obtain ⟨i1, ei1⟩ := is_v gi1
  obtain rfl : w1 = (.int i1) := Option.some.inj ei1
  obtain ⟨cn38, cn39⟩ := and_e hn
  obtain ⟨cn40, cn41⟩ := and_e cn39
  obtain ⟨cn42, cn43⟩ := and_e cn41
  obtain ⟨cn44, cn45⟩ := and_e cn43
  obtain ⟨cn46, cn47⟩ := and_e cn45
  obtain ⟨cn48, cn49⟩ := and_e cn47
  obtain ⟨cn50, cn51⟩ := and_e cn49
  obtain ⟨cn52, cn53⟩ := and_e cn51
  obtain ⟨cn54, cn55⟩ := and_e cn53
  obtain ⟨cn56, cn57⟩ := and_e cn55
  obtain ⟨cn58, cn59⟩ := and_e cn57
  obtain ⟨cn60, cn61⟩ := and_e cn59
  obtain ⟨cn62, cn63⟩ := and_e cn61
  obtain ⟨cn64, cn65⟩ := and_e cn63
  obtain ⟨cn66, cn67⟩ := and_e cn65
  obtain ⟨cn68, cn69⟩ := and_e cn67
  obtain ⟨cn70, cn71⟩ := and_e cn69
  obtain ⟨a_NUMERIC, ev_NUMERIC⟩ := exa_v cn38
  have S_NUMERIC := Sta.start ev_NUMERIC (Or.inr ⟨(hw _ (List.mem_of_getElem? (i := 2) rfl)), (hw _ (List.mem_of_getElem? (i := 3) rfl))⟩)
  have E_NUMERIC := Exa.start ev_NUMERIC cn38
  obtain ⟨t_NUMERIC, et_NUMERIC⟩ := arr_v cn40
  have F_NUMERIC := Fld.start ((fld_at ev_NUMERIC).symm.trans et_NUMERIC)
  obtain ⟨k_NUMERIC, V_NUMERIC⟩ := own_arv3 et_NUMERIC cn40 (own_eqi cn42) (own_eqi cn44) (own_eqi cn54) (own_eqi cn68)
  obtain ⟨a_ALPHANUMERIC, ev_ALPHANUMERIC⟩ := exa_v cn58
  have S_ALPHANUMERIC := Sta.start ev_ALPHANUMERIC (Or.inr ⟨(hw _ (List.mem_of_getElem? (i := 2) rfl)), (hw _ (List.mem_of_getElem? (i := 14) rfl))⟩)
  have E_ALPHANUMERIC := Exa.start ev_ALPHANUMERIC cn58
  obtain ⟨t_ALPHANUMERIC, et_ALPHANUMERIC⟩ := arr_v cn60
  have F_ALPHANUMERIC := Fld.start ((fld_at ev_ALPHANUMERIC).symm.trans et_ALPHANUMERIC)
  obtain ⟨k_ALPHANUMERIC, V_ALPHANUMERIC⟩ := own_arv3 et_ALPHANUMERIC cn60 (own_eqi cn62) (own_eqi cn64) (own_eqi cn66) (own_eqi cn71)
  obtain ⟨a_BYTE, ev_BYTE⟩ := exa_v cn46
  have S_BYTE := Sta.start ev_BYTE (Or.inr ⟨(hw _ (List.mem_of_getElem? (i := 2) rfl)), (hw _ (List.mem_of_getElem? (i := 12) rfl))⟩)
  have E_BYTE := Exa.start ev_BYTE cn46
  obtain ⟨t_BYTE, et_BYTE⟩ := arr_v cn48
  have F_BYTE := Fld.start ((fld_at ev_BYTE).symm.trans et_BYTE)
  obtain ⟨k_BYTE, V_BYTE⟩ := own_arv3 et_BYTE cn48 (own_eqi cn50) (own_eqi cn52) (own_eqi cn70) (own_eqi cn56)
  obtain ⟨n, o, h1, h2, h3, _, L, rfl, ⟨rfl, N⟩, hq⟩ := rm0 l s _ hw tables_1 i0 i1 a_NUMERIC t_NUMERIC k_NUMERIC a_ALPHANUMERIC t_ALPHANUMERIC k_ALPHANUMERIC a_BYTE t_BYTE k_BYTE s.heap s.heap.size (Nat.le_refl _) S_NUMERIC E_NUMERIC F_NUMERIC V_NUMERIC S_ALPHANUMERIC E_ALPHANUMERIC F_ALPHANUMERIC V_ALPHANUMERIC S_BYTE E_BYTE F_BYTE V_BYTE p e ha hc hk s m _ below hf ((Spec.applies_iff_loose hf).mp happ).1 ⟨rfl, State.Warmed39.refl s, rfl⟩ trivial
  refine ⟨n, _, h1, h2, h3, hpost _ _ _ _ _ _ ⟨Cond.after_iff.mpr rfl, Cond.after_iff.mpr (eq_i res_at (Term.int_eval (1)) rfl), trivial⟩ ⟨hq.1, hq.2.1, (hq.2.2.sift fun y hy => Or.inr (N y hy)).mono (by decide) (by decide)⟩⟩
theorem main_1_1 : Claimed_1_1 := comes_1 fun _ _ _ _ _ _ h hF => ⟨h.1, hF⟩
theorem main_1_2 : Claimed_1_2 := comes_1 fun _ _ _ _ _ _ h hF => ⟨h.2.1, hF⟩
end Jvm.Pilot.@@N@@
namespace Jvm.Pilot.@@N@@
open Jvm Jvm.ClassFile Sem Op Lib Jvm.Free Jvm.Stand Jvm.Pilot.@@N@@.Jvm.D
/-! MADE BY PROGRAM (witnessworld.py) out of the Statement's table words and the real class files: 12 classes; the members and pool entries that the words name. The judged class is class 1, her method 1. -/
namespace start1
open Jvm.ClassFile
def u (s : String) : CpInfo := .utf8 (stringToUtf16 s)
/-- a pool by its gaps: so many unusable entries, then the entry; so many at the end -/
def gap : Nat → List CpInfo → List CpInfo
  | 0, r => r
  | n + 1, r => .unusable :: gap n r
def poolList (es : List (Nat × CpInfo)) (last : Nat) : List CpInfo := es.foldr (fun e r => gap e.1 (e.2 :: r)) (gap last [])
def pool (es : List (Nat × CpInfo)) (last : Nat) : Array CpInfo := ⟨poolList es last⟩
def fileOf (pool : Array CpInfo) (this : Nat) (attrs : Array Attribute := #[]) (ms : Array MethodInfo := #[]) (fl : Nat := 33) (sup : Nat := 0) (ifs : Array Nat := #[]) (fds : Array FieldInfo := #[]) : ClassFile where
  minorVersion := 0
  majorVersion := 65
  constantPool := pool
  accessFlags := fl
  thisClass := this
  superClass := sup
  interfaces := ifs
  fields := fds
  methods := ms
  attributes := attrs
def plain (name : String) (sup : Option ClassId) : Class where
  name := name
  kind := .ordinary
  loader := none
  accessFlags := 33
  super := sup
  interfaces := #[]
  cf := none
  fields := #[]
  methods := #[]
  instanceTypes := #[]
  staticTypes := #[]
  resolved := #[]
  callSites := []
  init := .initialized
  statics := none
  mirror := none

def pool0 : Array CpInfo := pool [(5, u "<init>"), (0, u "()V"), (1, .class_ 10), (1, u "java/lang/Object")] 113

def k0m0 : Method := { name := "<init>", desc := "()V", sig := { parameters := [], returnType := none }, accessFlags := 1, code := none }
/-- java/lang/Object -/
def k0 : Class := { plain "java/lang/Object" none with
  accessFlags := 33
  interfaces := #[]
  cf := some (fileOf pool0 8 #[] #[{ accessFlags := 1, nameIndex := 5, descriptorIndex := 6, attributes := #[] }] 33 0 #[] #[])
  fields := #[]
  methods := #[k0m0]
  instanceTypes := #[]
  staticTypes := #[]
  resolved := Array.replicate 124 none
  statics := none }

def pool1 : Array CpInfo := pool [(2, .class_ 4), (1, u "java/lang/Object"), (0, u "<init>"), (0, u "()V"), (0, .integer 2147483647), (0, .fieldref 9 10), (0, .class_ 11), (0, .nameAndType 12 13), (0, u "com/example/quietzone/quietzone/QrSegment$Mode"), (0, u "NUMERIC"), (0, u "Lcom/example/quietzone/quietzone/QrSegment$Mode;"), (0, .fieldref 9 15), (0, .nameAndType 16 13), (0, u "ALPHANUMERIC"), (0, .fieldref 9 18), (0, .nameAndType 19 13), (0, u "BYTE"), (0, .methodref 9 21), (0, .nameAndType 22 23), (0, u "countBits"), (0, u "(I)I"), (0, .class_ 25), (0, u "com/example/quietzone/quietzone/ModeCountBitsPinLaw"), (2, u "law"), (0, u "(II)Z")] 7

def k1m0 : Method := { name := "<init>", desc := "()V", sig := { parameters := [], returnType := none }, accessFlags := 1, code := none }
def k1c1 : Code := { maxStack := 3, maxLocals := 9, code := code, exceptionTable := #[], attributes := #[] }
def k1m1 : Method := { name := "law", desc := "(II)Z", sig := { parameters := [.int, .int], returnType := some .boolean }, accessFlags := 9, code := some k1c1 }
/-- com/example/quietzone/quietzone/ModeCountBitsPinLaw -/
def k1 : Class := { plain "com/example/quietzone/quietzone/ModeCountBitsPinLaw" (some 0) with
  accessFlags := 49
  interfaces := #[]
  cf := some (fileOf pool1 24 #[] #[{ accessFlags := 1, nameIndex := 5, descriptorIndex := 6, attributes := #[] }, { accessFlags := 9, nameIndex := 28, descriptorIndex := 29, attributes := #[] }] 49 2 #[] #[])
  fields := #[]
  methods := #[k1m0, k1m1]
  instanceTypes := #[]
  staticTypes := #[]
  resolved := Array.replicate 37 none
  statics := none }

def pool2 : Array CpInfo := pool [(1, .class_ 2), (0, u "java/lang/constant/Constable"), (0, .class_ 4), (0, u "java/lang/Object")] 6

/-- java/lang/constant/Constable -/
def k2 : Class := { plain "java/lang/constant/Constable" (some 0) with
  accessFlags := 1537
  interfaces := #[]
  cf := some (fileOf pool2 1 #[] #[] 1537 3 #[] #[])
  fields := #[]
  methods := #[]
  instanceTypes := #[]
  staticTypes := #[]
  resolved := Array.replicate 11 none
  statics := none }

def pool3 : Array CpInfo := pool [(1, .class_ 2), (0, u "java/lang/Comparable"), (0, .class_ 4), (0, u "java/lang/Object")] 7

/-- java/lang/Comparable -/
def k3 : Class := { plain "java/lang/Comparable" (some 0) with
  accessFlags := 1537
  interfaces := #[]
  cf := some (fileOf pool3 1 #[] #[] 1537 3 #[] #[])
  fields := #[]
  methods := #[]
  instanceTypes := #[]
  staticTypes := #[]
  resolved := Array.replicate 12 none
  statics := none }

def pool4 : Array CpInfo := pool [(1, .class_ 2), (0, u "java/io/Serializable"), (0, .class_ 4), (0, u "java/lang/Object")] 2

/-- java/io/Serializable -/
def k4 : Class := { plain "java/io/Serializable" (some 0) with
  accessFlags := 1537
  interfaces := #[]
  cf := some (fileOf pool4 1 #[] #[] 1537 3 #[] #[])
  fields := #[]
  methods := #[]
  instanceTypes := #[]
  staticTypes := #[]
  resolved := Array.replicate 7 none
  statics := none }

def pool5 : Array CpInfo := pool [(2, .class_ 4), (1, u "java/lang/Enum"), (0, u "name"), (0, u "Ljava/lang/String;"), (2, u "ordinal"), (0, u "I"), (1, .class_ 14), (1, u "java/lang/Object"), (4, u "hash"), (86, .class_ 108), (1, u "java/lang/Enum$EnumDesc"), (2, .class_ 112), (0, u "java/lang/constant/Constable"), (0, .class_ 114), (0, u "java/lang/Comparable"), (0, .class_ 116), (0, u "java/io/Serializable")] 87

/-- java/lang/Enum -/
def k5 : Class := { plain "java/lang/Enum" (some 0) with
  accessFlags := 1057
  interfaces := #[2, 3, 4]
  cf := some (fileOf pool5 2 #[.nestMembers #[106]] #[] 1057 12 #[111, 113, 115] #[{ accessFlags := 18, nameIndex := 5, descriptorIndex := 6, attributes := #[] }, { accessFlags := 18, nameIndex := 9, descriptorIndex := 10, attributes := #[] }, { accessFlags := 2, nameIndex := 19, descriptorIndex := 10, attributes := #[] }])
  fields := #[{ name := "name", type := (.object "java/lang/String"), accessFlags := 18, slot := 0, constantValue := 0 }, { name := "ordinal", type := .int, accessFlags := 18, slot := 1, constantValue := 0 }, { name := "hash", type := .int, accessFlags := 2, slot := 2, constantValue := 0 }]
  methods := #[]
  instanceTypes := #[(.object "java/lang/String"), .int, .int]
  staticTypes := #[]
  resolved := Array.replicate 204 none
  statics := none }

def pool6 : Array CpInfo := pool [(1, .class_ 2), (0, u "com/example/quietzone/quietzone/QrSegment$Mode"), (2, u "NUMERIC"), (0, u "Lcom/example/quietzone/quietzone/QrSegment$Mode;"), (2, u "ALPHANUMERIC"), (2, u "BYTE"), (2, u "$VALUES"), (0, u "[Lcom/example/quietzone/quietzone/QrSegment$Mode;"), (6, .class_ 25), (1, u "java/lang/Enum"), (8, u "description"), (0, u "Ljava/lang/String;"), (2, u "indicator"), (0, u "I"), (0, .fieldref 1 41), (0, .nameAndType 42 43), (0, u "countBits"), (0, u "[I"), (23, u "(I)I"), (7, .class_ 76), (0, u "com/example/quietzone/quietzone/QrSegment")] 2

def k6c0 : Code := { maxStack := 2, maxLocals := 3, code := prog_24_method_4_code, exceptionTable := #[], attributes := #[] }
def k6m0 : Method := { name := "countBits", desc := "(I)I", sig := { parameters := [.int], returnType := some .int }, accessFlags := 0, code := some k6c0 }
/-- com/example/quietzone/quietzone/QrSegment$Mode -/
def k6 : Class := { plain "com/example/quietzone/quietzone/QrSegment$Mode" (some 5) with
  accessFlags := 16432
  interfaces := #[]
  cf := some (fileOf pool6 1 #[.nestHost 75] #[{ accessFlags := 0, nameIndex := 42, descriptorIndex := 67, attributes := #[] }] 16432 23 #[] #[{ accessFlags := 16409, nameIndex := 5, descriptorIndex := 6, attributes := #[] }, { accessFlags := 16409, nameIndex := 9, descriptorIndex := 6, attributes := #[] }, { accessFlags := 16409, nameIndex := 12, descriptorIndex := 6, attributes := #[] }, { accessFlags := 18, nameIndex := 34, descriptorIndex := 35, attributes := #[] }, { accessFlags := 18, nameIndex := 38, descriptorIndex := 39, attributes := #[] }, { accessFlags := 18, nameIndex := 42, descriptorIndex := 43, attributes := #[] }, { accessFlags := 4122, nameIndex := 15, descriptorIndex := 16, attributes := #[] }])
  fields := #[{ name := "NUMERIC", type := (.object "com/example/quietzone/quietzone/QrSegment$Mode"), accessFlags := 16409, slot := 0, constantValue := 0 }, { name := "ALPHANUMERIC", type := (.object "com/example/quietzone/quietzone/QrSegment$Mode"), accessFlags := 16409, slot := 1, constantValue := 0 }, { name := "BYTE", type := (.object "com/example/quietzone/quietzone/QrSegment$Mode"), accessFlags := 16409, slot := 2, constantValue := 0 }, { name := "description", type := (.object "java/lang/String"), accessFlags := 18, slot := 3, constantValue := 0 }, { name := "indicator", type := .int, accessFlags := 18, slot := 4, constantValue := 0 }, { name := "countBits", type := (.array .int), accessFlags := 18, slot := 5, constantValue := 0 }, { name := "$VALUES", type := (.array (.object "com/example/quietzone/quietzone/QrSegment$Mode")), accessFlags := 4122, slot := 3, constantValue := 0 }]
  methods := #[k6m0]
  instanceTypes := #[(.object "java/lang/String"), .int, .int, (.object "java/lang/String"), .int, (.array .int)]
  staticTypes := #[(.object "com/example/quietzone/quietzone/QrSegment$Mode"), (.object "com/example/quietzone/quietzone/QrSegment$Mode"), (.object "com/example/quietzone/quietzone/QrSegment$Mode"), (.array (.object "com/example/quietzone/quietzone/QrSegment$Mode"))]
  resolved := Array.replicate 79 none
  statics := some 0 }

def pool7 : Array CpInfo := pool [(1, u "java/lang/Cloneable"), (0, .class_ 1), (0, u "java/lang/Object"), (0, .class_ 3)] 3

/-- java/lang/Cloneable -/
def k7 : Class := { plain "java/lang/Cloneable" (some 0) with
  accessFlags := 1537
  interfaces := #[]
  cf := some (fileOf pool7 2 #[] #[] 1537 4 #[] #[])
  fields := #[]
  methods := #[]
  instanceTypes := #[]
  staticTypes := #[]
  resolved := Array.replicate 8 none
  statics := none }

/-- the primitive byte -/
def k8 : Class := { plain "byte" none with kind := .primitive 'B', accessFlags := 0x411 }
/-- [B -/
def k9 : Class := { plain "[B" (some 0) with kind := .array 8 .byte, interfaces := #[7, 4], accessFlags := 1041 }

/-- the primitive int -/
def k10 : Class := { plain "int" none with kind := .primitive 'I', accessFlags := 0x411 }
/-- [I -/
def k11 : Class := { plain "[I" (some 0) with kind := .array 10 .int, interfaces := #[7, 4], accessFlags := 1041 }

def heap : Heap := #[{ cls := 6, slots := #[.ref 1, .ref 2, .ref 3, .null], vm := .statics 6 },
  { cls := 6, slots := #[.null, .int 0, .int 0, .null, .int 0, .ref 4], vm := .none },
  { cls := 6, slots := #[.null, .int 1, .int 0, .null, .int 0, .ref 5], vm := .none },
  { cls := 6, slots := #[.null, .int 2, .int 0, .null, .int 0, .ref 6], vm := .none },
  { cls := 11, slots := #[.int 10, .int 12, .int 14], vm := .none },
  { cls := 11, slots := #[.int 9, .int 11, .int 13], vm := .none },
  { cls := 11, slots := #[.int 8, .int 16, .int 16], vm := .none }]
def classes : Array Class := #[k0, k1, k2, k3, k4, k5, k6, k7, k8, k9, k10, k11]
def interned : List (Array UInt16 × Addr) := []
def slotsUsed : Nat := 31
def theMethod : MethodId := ⟨1, 1⟩
def args0 : Array Value := #[.int 5, .int 5]
def aboutOver (below : List Frame) : State where
  vm := { classes := classes, interned := interned.toArray }
  heap := heap
  slotsUsed := slotsUsed
  threads := #[{ frames := .invoking theMethod args0 :: below }]
def below0 : List Frame := [.native { method := ⟨0, 0⟩, args := #[] }]
def about1 : State := aboutOver below0
def p0 : Program := .bare "" "" ""
def e0 : Env := launch0.env 0 0 0
theorem w_frames : about1.frames = Frame.invoking theMethod args0 :: below0 := rfl
set_option maxRecDepth 65536 in
theorem w_args : argsFit about1.vm theMethod args0 = true := by decide +kernel
set_option maxRecDepth 65536 in
theorem w_heap : heapFits about1 = true := by decide +kernel
set_option maxRecDepth 65536 in
theorem w_runnable : about1.curStatus? = some .runnable := by decide +kernel
set_option maxRecDepth 65536 in
theorem w_alone : about1.alone = true := by decide +kernel
set_option maxRecDepth 65536 in
theorem w_named : about1.methodNamed? x = some theMethod := by decide +kernel
set_option maxRecDepth 65536 in
theorem w_hears : about1.hears theMethod below0 = true := by decide +kernel
set_option maxRecDepth 65536 in
theorem w_ripe : about1.ripe theMethod args0 below0 = true := by decide +kernel
theorem w_running : about1.status = .running := rfl
set_option maxRecDepth 65536 in
theorem w_room : about1.hasRoom e0.platform room_1 = true :=
  launch0.hasRoom_least _ room_1 (by decide +kernel) (by decide +kernel) (by decide +kernel) (by decide +kernel) (by decide +kernel) (by decide +kernel)
theorem allAtoms_all (ts : List Jvm.Cond) (a : Array Jvm.Value) (st : Jvm.State) : (allAtoms ts).before a st = ts.all (fun c => c.before a st) := by
  induction ts with
  | nil => rfl
  | cons c t ih =>
    show (Jvm.Cond.and c (allAtoms t)).before a st = _
    rw [Jvm.Cond.before_and, ih, List.all_cons]
def words1 : List Jvm.Cond := Jvm.Cond.code x code maxLocals ret :: tables_1
/-- a 'code' word, met by the world's own term for the bytes: nothing is compared byte by byte -/
theorem code_word {y : MethodName} {bytes : ByteArray} {mx : Nat} {rt : Option FieldType} {a : Array Value} {s : State} {m : MethodId} {meth : Method} {c : Code} (h1 : s.methodNamed? y = some m) (h2 : s.vm.method? m = some meth) (h3 : meth.code = some c) (h4 : c.code = bytes)
    (h5 : (c.maxLocals == mx && c.exceptionTable.isEmpty && decide (c.maxStack ≤ mostOperands) && decide (meth.sig.returnType = rt) && !meth.locks && decide (parseMethodDescriptor y.desc = some meth.sig)) = true) : (Jvm.Cond.code y bytes mx rt).before a s = true := by
  simp only [Bool.and_eq_true, beq_iff_eq, Bool.not_eq_true', decide_eq_true_eq] at h5
  obtain ⟨⟨⟨⟨⟨g1, g2⟩, g3⟩, g4⟩, g5⟩, g6⟩ := h5
  simp [Cond.before, Cond.holds, Cond.value, h1, h2, h3, h4, g1, g2, g3, g4, g5, g6]
def isCode : Jvm.Cond → Bool
  | .code _ _ _ _ => true
  | _ => false
theorem all_split {L : List Jvm.Cond} {P : Jvm.Cond → Bool} (h1 : L.all (fun c => isCode c || P c) = true) (h2 : ∀ c ∈ L.filter isCode, P c = true) : L.all P = true := by
  refine List.all_eq_true.mpr fun c hc => ?_
  have h := List.all_eq_true.mp h1 c hc
  rcases Bool.eq_false_or_eq_true (isCode c) with hi | hi
  · exact h2 c (List.mem_filter.mpr ⟨hc, hi⟩)
  · simpa [hi] using h
set_option maxRecDepth 65536 in
theorem w_c0 : (Jvm.Cond.code x code maxLocals ret).before args0 about1 = true := code_word (m := ⟨1, 1⟩) (meth := k1m1) (c := k1c1) (by decide +kernel) rfl rfl rfl (by decide +kernel)
set_option maxRecDepth 65536 in
theorem w_c1 : (Jvm.Cond.code ({ cls := "com/example/quietzone/quietzone/QrSegment$Mode", name := "countBits", desc := "(I)I" } : Jvm.MethodName) prog_24_method_4_code (3 : Nat) (Option.some Jvm.ClassFile.FieldType.int)).before args0 about1 = true := code_word (m := ⟨6, 0⟩) (meth := k6m0) (c := k6c0) (by decide +kernel) rfl rfl rfl (by decide +kernel)
def codes1 : List Jvm.Cond := [Jvm.Cond.code x code maxLocals ret, Jvm.Cond.code ({ cls := "com/example/quietzone/quietzone/QrSegment$Mode", name := "countBits", desc := "(I)I" } : Jvm.MethodName) prog_24_method_4_code (3 : Nat) (Option.some Jvm.ClassFile.FieldType.int)]
set_option maxRecDepth 65536 in
theorem codes_eq : words1.filter isCode = codes1 := rfl
theorem w_codes : ∀ c ∈ words1.filter isCode, c.before args0 about1 = true := by
  rw [codes_eq]
  intro c hc
  simp only [codes1, List.mem_cons, List.not_mem_nil, or_false] at hc
  rcases hc with rfl | rfl
  · exact w_c0
  · exact w_c1
set_option maxRecDepth 65536 in
theorem w_t1 : words1.all (fun c => isCode c || c.before args0 about1) = true := by decide +kernel
theorem w_tables : (allAtoms (Jvm.Cond.code x code maxLocals ret :: tables_1)).before args0 about1 = true := by
  rw [allAtoms_all]
  show words1.all (fun c => c.before args0 about1) = true
  refine all_split ?_ w_codes
  rw [w_t1]
set_option maxRecDepth 65536 in
theorem w_case : (Jvm.Cond.and given_1 narrow_1).before args0 about1 = true := by decide +kernel
theorem w_applies : (headSpec (Jvm.Cond.code x code maxLocals ret :: tables_1) room_1).applies x e0.platform about1 = true :=
  (Spec.applies_iff w_frames).mpr ⟨w_running, w_runnable, w_alone, w_named, w_hears, w_ripe, w_room, w_tables⟩
theorem atStart : AtStart classFile x code maxLocals ret World_1 tables_1 room_1 Calls_1 rest_1 Pre_1 launch0 p0 e0 about1 theMethod args0 below0 :=
  ⟨lists_1, trivial, launch0.admits_env _ _ _, launch0.least_env, fairChoices_fair.cas, fairChoices_fair.clock, w_frames, w_args, w_heap, w_applies, trivial, trivial, w_case⟩
end start1
theorem witness_1 : WitnessClaimed_1 := ⟨start1.p0, start1.e0, start1.about1, start1.theMethod, start1.args0, start1.below0, start1.atStart⟩
end Jvm.Pilot.@@N@@
