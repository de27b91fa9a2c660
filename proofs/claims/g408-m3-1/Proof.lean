import JvmDerived
import JvmDerived.Pilot.@@N@@Statement
import JvmDerived.Pilot.@@N@@Code
set_option linter.unusedVariables false
set_option linter.unusedSimpArgs false

namespace Jvm.RoadKit
open Sem ClassFile Op Lib Jvm.Stand Jvm.Free Jvm.LawKit
section New
variable {p : Program} {l : Launch} {e : Env} {R : Room} {s : State} {m : MethodId} {args : Array Value} {below : List Frame} {meth : Method} {c : Code} {T : State} {locs : List Loc} {cells slots : Nat}
theorem retI (X : Stand p l e R s m args below meth c T locs cells slots) (hx : p.tables.exec = Jvm.exec) {pc : Nat} {Ls : Array Slot} {z : Int32} {rest : List Value} (hret : meth.sig.returnType = some .int) (hd : decode c.code pc = .ok (.ireturn, 1)) {fs : List Frame}
    (hl : ∀ (f : JFrame) (acts : List Action), f.method = m → f.locked = none → f.entered = [] → (doReturn e (T.setTop f) acts (some (.int z))).1 = T.setFrames fs) : Steps p.tables e below (T.setTop (mkF m pc Ls (.int z :: rest))) (T.setFrames fs) := by
  have hm' : T.vm.method? m = some meth := X.method'
  have hn : narrow .int (.int z) = .int z := rfl
  show Steps p.tables e below (T.setTop { method := m, pc := pc, locals := Ls, stack := _ :: rest, locked := none }) _
  jvm_step X.here [X.here.top, hx, hd, hm', hret, hn]
  first | (intro acts; rw [hl _ acts rfl rfl rfl]) | rw [hl _ _ rfl rfl rfl]
  exact Steps.refl _
/-- the walk's goal, at any point of it -/
def Gl (p : Program) (e : Env) (below : List Frame) (s : State) (Q : Option Value → Heap → List Loc → Prop) (C N : Nat) (T : State) (g : JFrame) : Prop :=
  ∃ s₂ o, Steps p.tables e below (T.setTop g) s₂ ∧ s₂.status = .running ∧ Ended s₂ below o ∧ ∃ v L, o = .returned v ∧ Q v s₂.heap L ∧ FrameEnd s o s₂ L C N
variable {Q : Option Value → Heap → List Loc → Prop} {C N : Nat} {T' : State} {g g' : JFrame} {h : Heap}
theorem Gl.st (f : ∀ t, Steps p.tables e below (T'.setTop g') t → Steps p.tables e below (T.setTop g) t) (k : Gl p e below s Q C N T' g') : Gl p e below s Q C N T g := by
  obtain ⟨s₂, o, h1, r⟩ := k
  exact ⟨s₂, o, f _ h1, r⟩
theorem Gl.ret (X : Stand p l e R s m args below meth c T locs cells slots) (hlk : meth.locks = false) {v : Option Value} (hv : meth.sig.returnType = none → v = none) (eT : T.heap = h)
    (f : ∀ fs, (∀ (f : JFrame) (acts : List Action), f.method = m → f.locked = none → f.entered = [] → (doReturn e (T.setTop f) acts v).1 = T.setFrames fs) → Steps p.tables e below (T.setTop g) (T.setFrames fs)) (hc : cells ≤ C) (hn : slots ≤ N) (hQ : Q v h locs) : Gl p e below s Q C N T g := by
  obtain ⟨fs, hr, hrun, hended, hW, hsame⟩ := X.leave (v := v) hv hlk
  exact ⟨_, _, f fs hr, hrun, hended, _, _, rfl, by show Q v T.heap _; rw [eT]; exact hQ, ⟨_, rfl⟩, hW, hsame.mono hc hn⟩
theorem Arv.cellX {Z : State} {h : Heap} {a : Addr} {k : ClassId} {ty : FieldType} {z : Int32} {vs : List Value} {dv : Value} (F : Arv Z h a k ty z vs dv) : ∃ c : Cell, h[a]? = some c ∧ ∀ q, c.vm ≠ .statics q := by
  obtain ⟨c, A, -⟩ := F; exact ⟨c, A.1, A.2.1.1⟩
theorem selPrivate {s : State} {args : Array Value} {y z : MethodName} (hzy : z.cls = y.cls) (hsel : (Cond.selects z.cls z z).before args s = true) (hpriv : s.PrivateAt y) (hinst : (Cond.instanceMethod y).before args s = true) (hy : y.cls ≠ "java/lang/invoke/MethodHandle" ∧ y.cls ≠ "java/lang/invoke/VarHandle") : (Cond.selects y.cls y y).before args s = true := by
  obtain ⟨c2, r2, m2, -, -, q3, -, kP, hkP, hkPi⟩ := Cond.selects_spec hsel
  exact selects_self_of_private (by rw [← hzy]; exact findClass_of_methodNamed q3) hkP hkPi hpriv hinst hy
theorem Sta.keepX {Z : State} {h h' : Heap} {C n d : String} {v : Value} {ws : List Addr} (F : Sta Z h C n d v) (K : Keep h h' ws) (q : ∀ x ∈ ws, ∃ c : Cell, h[x]? = some c ∧ ∀ q, c.vm ≠ .statics q) : Sta Z h' C n d v := by
  obtain ⟨cf, i, k, f, st, cell, h1, h2, h3, h4, h5, h6, h7⟩ := F
  refine ⟨cf, i, k, f, st, cell, h1, h2, h3, h4, K.2.1 st cell h5 fun z => ?_, h6, h7⟩
  obtain ⟨c, e1, e2⟩ := q st z
  cases h5.symm.trans e1
  cases hv : cell.vm <;> simp [hv, VmData.isStatics] at h6
  exact e2 _ hv
end New
end Jvm.RoadKit
namespace Jvm.Pilot.@@N@@
open Jvm Jvm.ClassFile Sem Op Lib Jvm.Free Jvm.Stand Jvm.LawKit Jvm.RoadKit Bundle Jvm.Pilot.@@N@@.Jvm.D

theorem d12_0 : decode jdk_30_method_1_code 0 = .ok (.aload_n 0, 1) := by decide +kernel
theorem d12_1 : decode jdk_30_method_1_code 1 = .ok (.invokespecial 1, 3) := by decide +kernel
theorem d12_4 : decode jdk_30_method_1_code 4 = .ok (.return_, 1) := by decide +kernel
theorem pn_java_lang_Record : plainName "java/lang/Record" = true := by first | (simp [plainName, overriddenIn]; done) | decide +kernel
theorem ef_rm12 (m : MethodId) (a : Addr) : entryFrame m #[(.ref a)] 1 = mkF m 0 #[.val (.ref a)] [] := by first | (simp [entryFrame, mkF, argsToLocals, Value.category]; done) | rfl
def Q_rm12 (Z : State) (a : Addr)  (h0 : Heap) (n0 : Nat) (v : Option Value) (h : Heap) (L : List Loc) : Prop := v = none ∧ Fr n0 L ∧ h = h0
set_option maxRecDepth 65536 in
set_option maxHeartbeats 40000000 in
theorem rm12 (l : Launch) (Z : State) (a0 : Array Value) (hw : ∀ d ∈ tables_1, d.before a0 Z = true) (ws : List Jvm.Cond) (a : Addr)  (h0 : Heap) (n0 : Nat) (Z0 : n0 ≤ h0.size)  :
    MetFree l (⟨"java/lang/Record", "<init>", "()V"⟩ : MethodName) (head1 (Jvm.Cond.code (⟨"java/lang/Record", "<init>", "()V"⟩ : MethodName) jdk_30_method_1_code 1 none :: ws) ({ frames := 1, cells := 0, slots := 0, locals := 12 } : Room)) (fun aα Uα => aα = #[(.ref a)] ∧ Z.Warmed39 Uα.vm ∧ Uα.heap = h0) (fun _ _ _ _ _ => True) (fun _ Uα oα Uβ => ∃ vα Lα, oα = .returned vα ∧ Q_rm12 Z a  h0 n0 vα Uβ.heap Lα ∧ FrameEnd Uα oα Uβ Lα ({ frames := 1, cells := 0, slots := 0, locals := 12 } : Room).cells ({ frames := 1, cells := 0, slots := 0, locals := 12 } : Room).slots) := by
  refine MetFree.of_bodySF (plainFor_of_name pn_java_lang_Record) hisR ?_
  intro p e s m args below meth c s₁ Bd hml0 hP hKα
  obtain ⟨rfl, hZ, hh⟩ := hP
  have hx := Bd.exec
  have hby := Bd.bytes
  have hml : c.maxLocals = 1 := hml0
  have hown : s.vm.findClass "java/lang/Record" = some m.cls := findClass_of_methodNamed Bd.named
  have hnm := (name_of_methodNamed Bd.named Bd.method).1
  have X0 : Stand p l e ({ frames := 1, cells := 0, slots := 0, locals := 12 } : Room) s m #[(.ref a)] below meth c s₁ [] 0 0 := Stand.of_body Bd
  have e0 : s₁.heap = h0 := by rw [← hh, Bd.state]; rfl
  have N0 := Fr.nil n0
  suffices k0 : Gl p e below s (Q_rm12 Z a  h0 n0) ({ frames := 1, cells := 0, slots := 0, locals := 12 } : Room).cells ({ frames := 1, cells := 0, slots := 0, locals := 12 } : Room).slots s₁ (mkF m 0 #[.val (.ref a)] []) from Gl.st (fun τ κ => castTop (ef_rm12 m a) κ) k0
  refine Gl.st (g' := (mkF m 1 #[.val (.ref a)] [(.ref a)])) (fun τ κ => XS.aloadN X0.here hx rfl (hb hby d12_0) rfl rfl κ) ?_
  obtain ⟨T1, X1, e1, st1⟩ := initO X0 hx hZ hown (hw _ (List.mem_of_getElem? (i := 55) rfl)) (hw _ (List.mem_of_getElem? (i := 12) rfl)) (hw _ (List.mem_of_getElem? (i := 13) rfl)) e0 (g := (mkF m 1 #[.val (.ref a)] [(.ref a)])) rfl (by rw [hml]; rfl) rfl (hb hby d12_1) (by decide) (W := 0) (by show 2 * 0 + _ ≤ _; exact Nat.le_of_eq rfl) (by decide)
  refine Gl.st (g' := (mkF m 4 #[.val (.ref a)] [])) (fun τ κ => st1 _ κ) ?_
  exact Gl.ret (v := none) X1 Bd.notSynchronized (fun _ => rfl) e1 (fun fs hr => X1.returnOut hx Bd.returns (hb hby d12_4) hr) (by decide) (by decide) ⟨rfl, N0, rfl⟩
theorem d17_0 : decode jdk_18_method_1_code 0 = .ok (.aload_n 0, 1) := by decide +kernel
theorem d17_1 : decode jdk_18_method_1_code 1 = .ok (.invokespecial 1, 3) := by decide +kernel
theorem d17_4 : decode jdk_18_method_1_code 4 = .ok (.return_, 1) := by decide +kernel
theorem pn_java_lang_Number : plainName "java/lang/Number" = true := by first | (simp [plainName, overriddenIn]; done) | decide +kernel
theorem ef_rm17 (m : MethodId) (a : Addr) : entryFrame m #[(.ref a)] 1 = mkF m 0 #[.val (.ref a)] [] := by first | (simp [entryFrame, mkF, argsToLocals, Value.category]; done) | rfl
def Q_rm17 (Z : State) (a : Addr)  (h0 : Heap) (n0 : Nat) (v : Option Value) (h : Heap) (L : List Loc) : Prop := v = none ∧ Fr n0 L ∧ h = h0
set_option maxRecDepth 65536 in
set_option maxHeartbeats 40000000 in
theorem rm17 (l : Launch) (Z : State) (a0 : Array Value) (hw : ∀ d ∈ tables_1, d.before a0 Z = true) (ws : List Jvm.Cond) (a : Addr)  (h0 : Heap) (n0 : Nat) (Z0 : n0 ≤ h0.size)  :
    MetFree l (⟨"java/lang/Number", "<init>", "()V"⟩ : MethodName) (head1 (Jvm.Cond.code (⟨"java/lang/Number", "<init>", "()V"⟩ : MethodName) jdk_18_method_1_code 1 none :: ws) ({ frames := 1, cells := 0, slots := 0, locals := 12 } : Room)) (fun aα Uα => aα = #[(.ref a)] ∧ Z.Warmed39 Uα.vm ∧ Uα.heap = h0) (fun _ _ _ _ _ => True) (fun _ Uα oα Uβ => ∃ vα Lα, oα = .returned vα ∧ Q_rm17 Z a  h0 n0 vα Uβ.heap Lα ∧ FrameEnd Uα oα Uβ Lα ({ frames := 1, cells := 0, slots := 0, locals := 12 } : Room).cells ({ frames := 1, cells := 0, slots := 0, locals := 12 } : Room).slots) := by
  refine MetFree.of_bodySF (plainFor_of_name pn_java_lang_Number) hisR ?_
  intro p e s m args below meth c s₁ Bd hml0 hP hKα
  obtain ⟨rfl, hZ, hh⟩ := hP
  have hx := Bd.exec
  have hby := Bd.bytes
  have hml : c.maxLocals = 1 := hml0
  have hown : s.vm.findClass "java/lang/Number" = some m.cls := findClass_of_methodNamed Bd.named
  have hnm := (name_of_methodNamed Bd.named Bd.method).1
  have X0 : Stand p l e ({ frames := 1, cells := 0, slots := 0, locals := 12 } : Room) s m #[(.ref a)] below meth c s₁ [] 0 0 := Stand.of_body Bd
  have e0 : s₁.heap = h0 := by rw [← hh, Bd.state]; rfl
  have N0 := Fr.nil n0
  suffices k0 : Gl p e below s (Q_rm17 Z a  h0 n0) ({ frames := 1, cells := 0, slots := 0, locals := 12 } : Room).cells ({ frames := 1, cells := 0, slots := 0, locals := 12 } : Room).slots s₁ (mkF m 0 #[.val (.ref a)] []) from Gl.st (fun τ κ => castTop (ef_rm17 m a) κ) k0
  refine Gl.st (g' := (mkF m 1 #[.val (.ref a)] [(.ref a)])) (fun τ κ => XS.aloadN X0.here hx rfl (hb hby d17_0) rfl rfl κ) ?_
  obtain ⟨T2, X2, e2, st2⟩ := initO X0 hx hZ hown (hw _ (List.mem_of_getElem? (i := 99) rfl)) (hw _ (List.mem_of_getElem? (i := 12) rfl)) (hw _ (List.mem_of_getElem? (i := 13) rfl)) e0 (g := (mkF m 1 #[.val (.ref a)] [(.ref a)])) rfl (by rw [hml]; rfl) rfl (hb hby d17_1) (by decide) (W := 0) (by show 2 * 0 + _ ≤ _; exact Nat.le_of_eq rfl) (by decide)
  refine Gl.st (g' := (mkF m 4 #[.val (.ref a)] [])) (fun τ κ => st2 _ κ) ?_
  exact Gl.ret (v := none) X2 Bd.notSynchronized (fun _ => rfl) e2 (fun fs hr => X2.returnOut hx Bd.returns (hb hby d17_4) hr) (by decide) (by decide) ⟨rfl, N0, rfl⟩
theorem d5_0 : decode jdk_52_method_21_code 0 = .ok (.iconst 0, 1) := by decide +kernel
theorem d5_1 : decode jdk_52_method_21_code 1 = .ok (.istore 5, 2) := by decide +kernel
theorem d5_3 : decode jdk_52_method_21_code 3 = .ok (.iload 5, 2) := by decide +kernel
theorem d5_5 : decode jdk_52_method_21_code 5 = .ok (.iload 4, 2) := by decide +kernel
theorem d5_7 : decode jdk_52_method_21_code 7 = .ok (.if_icmp .ge 37, 3) := by decide +kernel
theorem d5_10 : decode jdk_52_method_21_code 10 = .ok (.aload_n 0, 1) := by decide +kernel
theorem d5_11 : decode jdk_52_method_21_code 11 = .ok (.iload_n 1, 1) := by decide +kernel
theorem d5_12 : decode jdk_52_method_21_code 12 = .ok (.caload, 1) := by decide +kernel
theorem d5_13 : decode jdk_52_method_21_code 13 = .ok (.istore 6, 2) := by decide +kernel
theorem d5_15 : decode jdk_52_method_21_code 15 = .ok (.iload 6, 2) := by decide +kernel
theorem d5_17 : decode jdk_52_method_21_code 17 = .ok (.sipush 255, 3) := by decide +kernel
theorem d5_20 : decode jdk_52_method_21_code 20 = .ok (.if_icmp .le 6, 3) := by decide +kernel
theorem d5_26 : decode jdk_52_method_21_code 26 = .ok (.aload_n 2, 1) := by decide +kernel
theorem d5_27 : decode jdk_52_method_21_code 27 = .ok (.iload_n 3, 1) := by decide +kernel
theorem d5_28 : decode jdk_52_method_21_code 28 = .ok (.iload 6, 2) := by decide +kernel
theorem d5_30 : decode jdk_52_method_21_code 30 = .ok (.i2b, 1) := by decide +kernel
theorem d5_31 : decode jdk_52_method_21_code 31 = .ok (.bastore, 1) := by decide +kernel
theorem d5_32 : decode jdk_52_method_21_code 32 = .ok (.iinc 1 1, 3) := by decide +kernel
theorem d5_35 : decode jdk_52_method_21_code 35 = .ok (.iinc 3 1, 3) := by decide +kernel
theorem d5_38 : decode jdk_52_method_21_code 38 = .ok (.iinc 5 1, 3) := by decide +kernel
theorem d5_41 : decode jdk_52_method_21_code 41 = .ok (.goto (-38), 3) := by decide +kernel
theorem d5_44 : decode jdk_52_method_21_code 44 = .ok (.iload 4, 2) := by decide +kernel
theorem d5_46 : decode jdk_52_method_21_code 46 = .ok (.ireturn, 1) := by decide +kernel
theorem pn_java_lang_StringUTF16 : plainName "java/lang/StringUTF16" = true := by first | (simp [plainName, overriddenIn]; done) | decide +kernel
theorem ef_rm5 (m : MethodId) (ca : Addr) (ba : Addr) : entryFrame m #[(.ref ca), (.int (0 : Int32)), (.ref ba), (.int (0 : Int32)), (.int (2 : Int32))] 7 = mkF m 0 #[.val (.ref ca), .val (.int (0 : Int32)), .val (.ref ba), .val (.int (0 : Int32)), .val (.int (2 : Int32)), .unset, .unset] [] := by first | (simp [entryFrame, mkF, argsToLocals, Value.category]; done) | rfl
def Q_rm5 (Z : State) (ca : Addr) (ba : Addr) (kc kb : ClassId) (c0 c1 : Int32) (h0 : Heap) (n0 : Nat) (v : Option Value) (h : Heap) (L : List Loc) : Prop := v = some (.int (2 : Int32)) ∧ Fr n0 L ∧ Keep h0 h [ba] ∧ ∃ vs, Arv Z h ba kb .byte (2 : Int32) vs (.int (0 : Int32))
set_option maxRecDepth 65536 in
set_option maxHeartbeats 40000000 in
theorem rm5 (l : Launch) (Z : State) (a0 : Array Value) (hw : ∀ d ∈ tables_1, d.before a0 Z = true) (ws : List Jvm.Cond) (ca : Addr) (ba : Addr) (kc kb : ClassId) (c0 c1 : Int32) (h0 : Heap) (n0 : Nat) (Z0 : n0 ≤ h0.size) (V0 : Arv Z h0 ca kc .char (2 : Int32) [(.int c0), (.int c1)] (.int (0 : Int32))) (V1 : Arv Z h0 ba kb .byte (2 : Int32) [(.int (0 : Int32)), (.int (0 : Int32))] (.int (0 : Int32))) (gb : n0 ≤ ba) (hne : ca ≠ ba) (h0c : ¬ (255 : Int32) < c0) (h1c : ¬ (255 : Int32) < c1) :
    MetFree l (⟨"java/lang/StringUTF16", "compress", "([CI[BII)I"⟩ : MethodName) (head1 (Jvm.Cond.code (⟨"java/lang/StringUTF16", "compress", "([CI[BII)I"⟩ : MethodName) jdk_52_method_21_code 7 (some .int) :: ws) ({ frames := 0, cells := 0, slots := 0, locals := 0 } : Room)) (fun aα Uα => aα = #[(.ref ca), (.int (0 : Int32)), (.ref ba), (.int (0 : Int32)), (.int (2 : Int32))] ∧ Z.Warmed39 Uα.vm ∧ Uα.heap = h0) (fun _ _ _ _ _ => True) (fun _ Uα oα Uβ => ∃ vα Lα, oα = .returned vα ∧ Q_rm5 Z ca ba kc kb c0 c1 h0 n0 vα Uβ.heap Lα ∧ FrameEnd Uα oα Uβ Lα ({ frames := 0, cells := 0, slots := 0, locals := 0 } : Room).cells ({ frames := 0, cells := 0, slots := 0, locals := 0 } : Room).slots) := by
  refine MetFree.of_bodySF (plainFor_of_name pn_java_lang_StringUTF16) hisR ?_
  intro p e s m args below meth c s₁ Bd hml0 hP hKα
  obtain ⟨rfl, hZ, hh⟩ := hP
  have hx := Bd.exec
  have hby := Bd.bytes
  have hml : c.maxLocals = 7 := hml0
  have hown : s.vm.findClass "java/lang/StringUTF16" = some m.cls := findClass_of_methodNamed Bd.named
  have hnm := (name_of_methodNamed Bd.named Bd.method).1
  have X0 : Stand p l e ({ frames := 0, cells := 0, slots := 0, locals := 0 } : Room) s m #[(.ref ca), (.int (0 : Int32)), (.ref ba), (.int (0 : Int32)), (.int (2 : Int32))] below meth c s₁ [] 0 0 := Stand.of_body Bd
  have e0 : s₁.heap = h0 := by rw [← hh, Bd.state]; rfl
  have N0 := Fr.nil n0
  suffices k0 : Gl p e below s (Q_rm5 Z ca ba kc kb c0 c1 h0 n0) ({ frames := 0, cells := 0, slots := 0, locals := 0 } : Room).cells ({ frames := 0, cells := 0, slots := 0, locals := 0 } : Room).slots s₁ (mkF m 0 #[.val (.ref ca), .val (.int (0 : Int32)), .val (.ref ba), .val (.int (0 : Int32)), .val (.int (2 : Int32)), .unset, .unset] []) from Gl.st (fun τ κ => castTop (ef_rm5 m ca ba) κ) k0
  refine Gl.st (g' := (mkF m 1 #[.val (.ref ca), .val (.int (0 : Int32)), .val (.ref ba), .val (.int (0 : Int32)), .val (.int (2 : Int32)), .unset, .unset] [(.int (0 : Int32))])) (fun τ κ => XS.iconst X0.here hx rfl (hb hby d5_0) κ) ?_
  refine Gl.st (g' := (mkF m 3 #[.val (.ref ca), .val (.int (0 : Int32)), .val (.ref ba), .val (.int (0 : Int32)), .val (.int (2 : Int32)), .val (.int (0 : Int32)), .unset] [])) (fun τ κ => XS.istore X0.here hx rfl (hb hby d5_1) rfl (l' := #[.val (.ref ca), .val (.int (0 : Int32)), .val (.ref ba), .val (.int (0 : Int32)), .val (.int (2 : Int32)), .val (.int (0 : Int32)), .unset]) rfl κ) ?_
  refine Gl.st (g' := (mkF m 5 #[.val (.ref ca), .val (.int (0 : Int32)), .val (.ref ba), .val (.int (0 : Int32)), .val (.int (2 : Int32)), .val (.int (0 : Int32)), .unset] [(.int (0 : Int32))])) (fun τ κ => XS.iload X0.here hx rfl (hb hby d5_3) rfl κ) ?_
  refine Gl.st (g' := (mkF m 7 #[.val (.ref ca), .val (.int (0 : Int32)), .val (.ref ba), .val (.int (0 : Int32)), .val (.int (2 : Int32)), .val (.int (0 : Int32)), .unset] [(.int (2 : Int32)), (.int (0 : Int32))])) (fun τ κ => XS.iload X0.here hx rfl (hb hby d5_5) rfl κ) ?_
  have hc3 : (0 : Int32) < (2 : Int32) := by decide
  refine Gl.st (g' := (mkF m 10 #[.val (.ref ca), .val (.int (0 : Int32)), .val (.ref ba), .val (.int (0 : Int32)), .val (.int (2 : Int32)), .val (.int (0 : Int32)), .unset] [])) (fun τ κ => XS.icmpNo X0.here hx rfl (hb hby d5_7) rfl (tlt hc3).2.1 κ) ?_
  refine Gl.st (g' := (mkF m 11 #[.val (.ref ca), .val (.int (0 : Int32)), .val (.ref ba), .val (.int (0 : Int32)), .val (.int (2 : Int32)), .val (.int (0 : Int32)), .unset] [(.ref ca)])) (fun τ κ => XS.aloadN X0.here hx rfl (hb hby d5_10) rfl rfl κ) ?_
  refine Gl.st (g' := (mkF m 12 #[.val (.ref ca), .val (.int (0 : Int32)), .val (.ref ba), .val (.int (0 : Int32)), .val (.int (2 : Int32)), .val (.int (0 : Int32)), .unset] [(.int (0 : Int32)), (.ref ca)])) (fun τ κ => XS.iloadN X0.here hx rfl (hb hby d5_11) rfl κ) ?_
  obtain ⟨cl_o4, Ar_o4, q_o4, S_o4, M_o4, H_o4, G_o4⟩ := id V0
  have hin_o4 : ¬ ((0 : Int32) < 0 ∨ cl_o4.slots.size ≤ ((0 : Int32)).toNatClampNeg) := inb_of S_o4 ⟨by decide, by decide⟩
  refine Gl.st (g' := (mkF m 13 #[.val (.ref ca), .val (.int (0 : Int32)), .val (.ref ba), .val (.int (0 : Int32)), .val (.int (2 : Int32)), .val (.int (0 : Int32)), .unset] [(.int c0)])) (fun τ κ => X0.caload hx (j := (0 : Int32)) (v := (.int c0)) (by rw [e0]; exact Ar_o4.1) (State.isArrayOf_alike hZ.alike Ar_o4.2.1) Ar_o4.2.2 hin_o4 (H_o4 0 (by rw [S_o4]; decide)) (g := (mkF m 12 #[.val (.ref ca), .val (.int (0 : Int32)), .val (.ref ba), .val (.int (0 : Int32)), .val (.int (2 : Int32)), .val (.int (0 : Int32)), .unset] [(.int (0 : Int32)), (.ref ca)])) rfl rfl (hb hby d5_12) _ κ) ?_
  refine Gl.st (g' := (mkF m 15 #[.val (.ref ca), .val (.int (0 : Int32)), .val (.ref ba), .val (.int (0 : Int32)), .val (.int (2 : Int32)), .val (.int (0 : Int32)), .val (.int c0)] [])) (fun τ κ => XS.istore X0.here hx rfl (hb hby d5_13) rfl (l' := #[.val (.ref ca), .val (.int (0 : Int32)), .val (.ref ba), .val (.int (0 : Int32)), .val (.int (2 : Int32)), .val (.int (0 : Int32)), .val (.int c0)]) rfl κ) ?_
  refine Gl.st (g' := (mkF m 17 #[.val (.ref ca), .val (.int (0 : Int32)), .val (.ref ba), .val (.int (0 : Int32)), .val (.int (2 : Int32)), .val (.int (0 : Int32)), .val (.int c0)] [(.int c0)])) (fun τ κ => XS.iload X0.here hx rfl (hb hby d5_15) rfl κ) ?_
  refine Gl.st (g' := (mkF m 20 #[.val (.ref ca), .val (.int (0 : Int32)), .val (.ref ba), .val (.int (0 : Int32)), .val (.int (2 : Int32)), .val (.int (0 : Int32)), .val (.int c0)] [(.int (255 : Int32)), (.int c0)])) (fun τ κ => XS.sipush X0.here hx rfl (hb hby d5_17) κ) ?_
  have hc5 : ¬ ((255 : Int32) < c0) := h0c
  refine Gl.st (g' := (mkF m 26 #[.val (.ref ca), .val (.int (0 : Int32)), .val (.ref ba), .val (.int (0 : Int32)), .val (.int (2 : Int32)), .val (.int (0 : Int32)), .val (.int c0)] [])) (fun τ κ => XS.icmpYes X0.here hx rfl (pc0 := 20) (pc' := 26) rfl (hb hby d5_20) rfl (flt hc5).2.2.2 (by decide) (by decide) κ) ?_
  refine Gl.st (g' := (mkF m 27 #[.val (.ref ca), .val (.int (0 : Int32)), .val (.ref ba), .val (.int (0 : Int32)), .val (.int (2 : Int32)), .val (.int (0 : Int32)), .val (.int c0)] [(.ref ba)])) (fun τ κ => XS.aloadN X0.here hx rfl (hb hby d5_26) rfl rfl κ) ?_
  refine Gl.st (g' := (mkF m 28 #[.val (.ref ca), .val (.int (0 : Int32)), .val (.ref ba), .val (.int (0 : Int32)), .val (.int (2 : Int32)), .val (.int (0 : Int32)), .val (.int c0)] [(.int (0 : Int32)), (.ref ba)])) (fun τ κ => XS.iloadN X0.here hx rfl (hb hby d5_27) rfl κ) ?_
  refine Gl.st (g' := (mkF m 30 #[.val (.ref ca), .val (.int (0 : Int32)), .val (.ref ba), .val (.int (0 : Int32)), .val (.int (2 : Int32)), .val (.int (0 : Int32)), .val (.int c0)] [(.int c0), (.int (0 : Int32)), (.ref ba)])) (fun τ κ => XS.iload X0.here hx rfl (hb hby d5_28) rfl κ) ?_
  refine Gl.st (g' := (mkF m 31 #[.val (.ref ca), .val (.int (0 : Int32)), .val (.ref ba), .val (.int (0 : Int32)), .val (.int (2 : Int32)), .val (.int (0 : Int32)), .val (.int c0)] [(.int (c0.toInt8.toInt32)), (.int (0 : Int32)), (.ref ba)])) (fun τ κ => XS.i2b X0.here hx rfl (hb hby d5_30) rfl κ) ?_
  obtain ⟨cl_o6, Ar_o6, q_o6, S_o6, M_o6, H_o6, G_o6⟩ := id V1
  have hin_o6 : ¬ ((0 : Int32) < 0 ∨ cl_o6.slots.size ≤ ((0 : Int32)).toNatClampNeg) := inb_of S_o6 ⟨by decide, by decide⟩
  obtain ⟨T7, h7, X7, e7, W7, st7⟩ := stB X0 hx hZ e0 Ar_o6 (j := (0 : Int32)) hin_o6 (g := (mkF m 31 #[.val (.ref ca), .val (.int (0 : Int32)), .val (.ref ba), .val (.int (0 : Int32)), .val (.int (2 : Int32)), .val (.int (0 : Int32)), .val (.int c0)] [(.int (c0.toInt8.toInt32)), (.int (0 : Int32)), (.ref ba)])) rfl rfl (hb hby d5_31)
  have V_8 := V0.other W7 hne
  have N7 := Fr.snoc X7 N0 gb
  have Z7 : n0 ≤ h7.size := Nat.le_trans Z0 (Nat.le_of_eq W7.size.symm)
  have K7 : Keep h0 h7 [ba] := (Keep.refl h0 [ba]).wr W7 (Or.inl (List.mem_of_getElem? (i := 0) rfl))
  have V_ba_7 : Arv Z h7 ba kb .byte (2 : Int32) [(.int (nar .byte (c0.toInt8.toInt32))), (.int (0 : Int32))] (.int (0 : Int32)) := Arv.set Ar_o6 q_o6 S_o6 M_o6 H_o6 G_o6 (fits_nar_byte _) W7 0 rfl (Nat.le_of_ble_eq_true rfl)
  refine Gl.st (g' := (mkF m 32 #[.val (.ref ca), .val (.int (0 : Int32)), .val (.ref ba), .val (.int (0 : Int32)), .val (.int (2 : Int32)), .val (.int (0 : Int32)), .val (.int c0)] [])) (fun τ κ => st7 _ κ) ?_
  refine Gl.st (g' := (mkF m 35 #[.val (.ref ca), .val (.int (1 : Int32)), .val (.ref ba), .val (.int (0 : Int32)), .val (.int (2 : Int32)), .val (.int (0 : Int32)), .val (.int c0)] [])) (fun τ κ => XS.iinc X7.here hx rfl (hb hby d5_32) rfl (l' := #[.val (.ref ca), .val (.int (1 : Int32)), .val (.ref ba), .val (.int (0 : Int32)), .val (.int (2 : Int32)), .val (.int (0 : Int32)), .val (.int c0)]) rfl κ) ?_
  refine Gl.st (g' := (mkF m 38 #[.val (.ref ca), .val (.int (1 : Int32)), .val (.ref ba), .val (.int (1 : Int32)), .val (.int (2 : Int32)), .val (.int (0 : Int32)), .val (.int c0)] [])) (fun τ κ => XS.iinc X7.here hx rfl (hb hby d5_35) rfl (l' := #[.val (.ref ca), .val (.int (1 : Int32)), .val (.ref ba), .val (.int (1 : Int32)), .val (.int (2 : Int32)), .val (.int (0 : Int32)), .val (.int c0)]) rfl κ) ?_
  refine Gl.st (g' := (mkF m 41 #[.val (.ref ca), .val (.int (1 : Int32)), .val (.ref ba), .val (.int (1 : Int32)), .val (.int (2 : Int32)), .val (.int (1 : Int32)), .val (.int c0)] [])) (fun τ κ => XS.iinc X7.here hx rfl (hb hby d5_38) rfl (l' := #[.val (.ref ca), .val (.int (1 : Int32)), .val (.ref ba), .val (.int (1 : Int32)), .val (.int (2 : Int32)), .val (.int (1 : Int32)), .val (.int c0)]) rfl κ) ?_
  refine Gl.st (g' := (mkF m 3 #[.val (.ref ca), .val (.int (1 : Int32)), .val (.ref ba), .val (.int (1 : Int32)), .val (.int (2 : Int32)), .val (.int (1 : Int32)), .val (.int c0)] [])) (fun τ κ => XS.goto X7.here hx rfl (pc0 := 41) (pc' := 3) rfl (hb hby d5_41) (by decide) (by decide) κ) ?_
  refine Gl.st (g' := (mkF m 5 #[.val (.ref ca), .val (.int (1 : Int32)), .val (.ref ba), .val (.int (1 : Int32)), .val (.int (2 : Int32)), .val (.int (1 : Int32)), .val (.int c0)] [(.int (1 : Int32))])) (fun τ κ => XS.iload X7.here hx rfl (hb hby d5_3) rfl κ) ?_
  refine Gl.st (g' := (mkF m 7 #[.val (.ref ca), .val (.int (1 : Int32)), .val (.ref ba), .val (.int (1 : Int32)), .val (.int (2 : Int32)), .val (.int (1 : Int32)), .val (.int c0)] [(.int (2 : Int32)), (.int (1 : Int32))])) (fun τ κ => XS.iload X7.here hx rfl (hb hby d5_5) rfl κ) ?_
  have hc10 : (1 : Int32) < (2 : Int32) := by decide
  refine Gl.st (g' := (mkF m 10 #[.val (.ref ca), .val (.int (1 : Int32)), .val (.ref ba), .val (.int (1 : Int32)), .val (.int (2 : Int32)), .val (.int (1 : Int32)), .val (.int c0)] [])) (fun τ κ => XS.icmpNo X7.here hx rfl (hb hby d5_7) rfl (tlt hc10).2.1 κ) ?_
  refine Gl.st (g' := (mkF m 11 #[.val (.ref ca), .val (.int (1 : Int32)), .val (.ref ba), .val (.int (1 : Int32)), .val (.int (2 : Int32)), .val (.int (1 : Int32)), .val (.int c0)] [(.ref ca)])) (fun τ κ => XS.aloadN X7.here hx rfl (hb hby d5_10) rfl rfl κ) ?_
  refine Gl.st (g' := (mkF m 12 #[.val (.ref ca), .val (.int (1 : Int32)), .val (.ref ba), .val (.int (1 : Int32)), .val (.int (2 : Int32)), .val (.int (1 : Int32)), .val (.int c0)] [(.int (1 : Int32)), (.ref ca)])) (fun τ κ => XS.iloadN X7.here hx rfl (hb hby d5_11) rfl κ) ?_
  obtain ⟨cl_o11, Ar_o11, q_o11, S_o11, M_o11, H_o11, G_o11⟩ := id V_8
  have hin_o11 : ¬ ((1 : Int32) < 0 ∨ cl_o11.slots.size ≤ ((1 : Int32)).toNatClampNeg) := inb_of S_o11 ⟨by decide, by decide⟩
  refine Gl.st (g' := (mkF m 13 #[.val (.ref ca), .val (.int (1 : Int32)), .val (.ref ba), .val (.int (1 : Int32)), .val (.int (2 : Int32)), .val (.int (1 : Int32)), .val (.int c0)] [(.int c1)])) (fun τ κ => X7.caload hx (j := (1 : Int32)) (v := (.int c1)) (by rw [e7]; exact Ar_o11.1) (State.isArrayOf_alike hZ.alike Ar_o11.2.1) Ar_o11.2.2 hin_o11 (H_o11 1 (by rw [S_o11]; decide)) (g := (mkF m 12 #[.val (.ref ca), .val (.int (1 : Int32)), .val (.ref ba), .val (.int (1 : Int32)), .val (.int (2 : Int32)), .val (.int (1 : Int32)), .val (.int c0)] [(.int (1 : Int32)), (.ref ca)])) rfl rfl (hb hby d5_12) _ κ) ?_
  refine Gl.st (g' := (mkF m 15 #[.val (.ref ca), .val (.int (1 : Int32)), .val (.ref ba), .val (.int (1 : Int32)), .val (.int (2 : Int32)), .val (.int (1 : Int32)), .val (.int c1)] [])) (fun τ κ => XS.istore X7.here hx rfl (hb hby d5_13) rfl (l' := #[.val (.ref ca), .val (.int (1 : Int32)), .val (.ref ba), .val (.int (1 : Int32)), .val (.int (2 : Int32)), .val (.int (1 : Int32)), .val (.int c1)]) rfl κ) ?_
  refine Gl.st (g' := (mkF m 17 #[.val (.ref ca), .val (.int (1 : Int32)), .val (.ref ba), .val (.int (1 : Int32)), .val (.int (2 : Int32)), .val (.int (1 : Int32)), .val (.int c1)] [(.int c1)])) (fun τ κ => XS.iload X7.here hx rfl (hb hby d5_15) rfl κ) ?_
  refine Gl.st (g' := (mkF m 20 #[.val (.ref ca), .val (.int (1 : Int32)), .val (.ref ba), .val (.int (1 : Int32)), .val (.int (2 : Int32)), .val (.int (1 : Int32)), .val (.int c1)] [(.int (255 : Int32)), (.int c1)])) (fun τ κ => XS.sipush X7.here hx rfl (hb hby d5_17) κ) ?_
  have hc12 : ¬ ((255 : Int32) < c1) := h1c
  refine Gl.st (g' := (mkF m 26 #[.val (.ref ca), .val (.int (1 : Int32)), .val (.ref ba), .val (.int (1 : Int32)), .val (.int (2 : Int32)), .val (.int (1 : Int32)), .val (.int c1)] [])) (fun τ κ => XS.icmpYes X7.here hx rfl (pc0 := 20) (pc' := 26) rfl (hb hby d5_20) rfl (flt hc12).2.2.2 (by decide) (by decide) κ) ?_
  refine Gl.st (g' := (mkF m 27 #[.val (.ref ca), .val (.int (1 : Int32)), .val (.ref ba), .val (.int (1 : Int32)), .val (.int (2 : Int32)), .val (.int (1 : Int32)), .val (.int c1)] [(.ref ba)])) (fun τ κ => XS.aloadN X7.here hx rfl (hb hby d5_26) rfl rfl κ) ?_
  refine Gl.st (g' := (mkF m 28 #[.val (.ref ca), .val (.int (1 : Int32)), .val (.ref ba), .val (.int (1 : Int32)), .val (.int (2 : Int32)), .val (.int (1 : Int32)), .val (.int c1)] [(.int (1 : Int32)), (.ref ba)])) (fun τ κ => XS.iloadN X7.here hx rfl (hb hby d5_27) rfl κ) ?_
  refine Gl.st (g' := (mkF m 30 #[.val (.ref ca), .val (.int (1 : Int32)), .val (.ref ba), .val (.int (1 : Int32)), .val (.int (2 : Int32)), .val (.int (1 : Int32)), .val (.int c1)] [(.int c1), (.int (1 : Int32)), (.ref ba)])) (fun τ κ => XS.iload X7.here hx rfl (hb hby d5_28) rfl κ) ?_
  refine Gl.st (g' := (mkF m 31 #[.val (.ref ca), .val (.int (1 : Int32)), .val (.ref ba), .val (.int (1 : Int32)), .val (.int (2 : Int32)), .val (.int (1 : Int32)), .val (.int c1)] [(.int (c1.toInt8.toInt32)), (.int (1 : Int32)), (.ref ba)])) (fun τ κ => XS.i2b X7.here hx rfl (hb hby d5_30) rfl κ) ?_
  obtain ⟨cl_o13, Ar_o13, q_o13, S_o13, M_o13, H_o13, G_o13⟩ := id V_ba_7
  have hin_o13 : ¬ ((1 : Int32) < 0 ∨ cl_o13.slots.size ≤ ((1 : Int32)).toNatClampNeg) := inb_of S_o13 ⟨by decide, by decide⟩
  obtain ⟨T14, h14, X14, e14, W14, st14⟩ := stB X7 hx hZ e7 Ar_o13 (j := (1 : Int32)) hin_o13 (g := (mkF m 31 #[.val (.ref ca), .val (.int (1 : Int32)), .val (.ref ba), .val (.int (1 : Int32)), .val (.int (2 : Int32)), .val (.int (1 : Int32)), .val (.int c1)] [(.int (c1.toInt8.toInt32)), (.int (1 : Int32)), (.ref ba)])) rfl rfl (hb hby d5_31)
  have V_15 := V_8.other W14 hne
  have N14 := Fr.snoc X14 N7 gb
  have Z14 : n0 ≤ h14.size := Nat.le_trans Z7 (Nat.le_of_eq W14.size.symm)
  have K14 : Keep h0 h14 [ba] := K7.wr W14 (Or.inl (List.mem_of_getElem? (i := 0) rfl))
  have V_ba_14 : Arv Z h14 ba kb .byte (2 : Int32) [(.int (nar .byte (c0.toInt8.toInt32))), (.int (nar .byte (c1.toInt8.toInt32)))] (.int (0 : Int32)) := Arv.set Ar_o13 q_o13 S_o13 M_o13 H_o13 G_o13 (fits_nar_byte _) W14 1 rfl (Nat.le_of_ble_eq_true rfl)
  refine Gl.st (g' := (mkF m 32 #[.val (.ref ca), .val (.int (1 : Int32)), .val (.ref ba), .val (.int (1 : Int32)), .val (.int (2 : Int32)), .val (.int (1 : Int32)), .val (.int c1)] [])) (fun τ κ => st14 _ κ) ?_
  refine Gl.st (g' := (mkF m 35 #[.val (.ref ca), .val (.int (2 : Int32)), .val (.ref ba), .val (.int (1 : Int32)), .val (.int (2 : Int32)), .val (.int (1 : Int32)), .val (.int c1)] [])) (fun τ κ => XS.iinc X14.here hx rfl (hb hby d5_32) rfl (l' := #[.val (.ref ca), .val (.int (2 : Int32)), .val (.ref ba), .val (.int (1 : Int32)), .val (.int (2 : Int32)), .val (.int (1 : Int32)), .val (.int c1)]) rfl κ) ?_
  refine Gl.st (g' := (mkF m 38 #[.val (.ref ca), .val (.int (2 : Int32)), .val (.ref ba), .val (.int (2 : Int32)), .val (.int (2 : Int32)), .val (.int (1 : Int32)), .val (.int c1)] [])) (fun τ κ => XS.iinc X14.here hx rfl (hb hby d5_35) rfl (l' := #[.val (.ref ca), .val (.int (2 : Int32)), .val (.ref ba), .val (.int (2 : Int32)), .val (.int (2 : Int32)), .val (.int (1 : Int32)), .val (.int c1)]) rfl κ) ?_
  refine Gl.st (g' := (mkF m 41 #[.val (.ref ca), .val (.int (2 : Int32)), .val (.ref ba), .val (.int (2 : Int32)), .val (.int (2 : Int32)), .val (.int (2 : Int32)), .val (.int c1)] [])) (fun τ κ => XS.iinc X14.here hx rfl (hb hby d5_38) rfl (l' := #[.val (.ref ca), .val (.int (2 : Int32)), .val (.ref ba), .val (.int (2 : Int32)), .val (.int (2 : Int32)), .val (.int (2 : Int32)), .val (.int c1)]) rfl κ) ?_
  refine Gl.st (g' := (mkF m 3 #[.val (.ref ca), .val (.int (2 : Int32)), .val (.ref ba), .val (.int (2 : Int32)), .val (.int (2 : Int32)), .val (.int (2 : Int32)), .val (.int c1)] [])) (fun τ κ => XS.goto X14.here hx rfl (pc0 := 41) (pc' := 3) rfl (hb hby d5_41) (by decide) (by decide) κ) ?_
  refine Gl.st (g' := (mkF m 5 #[.val (.ref ca), .val (.int (2 : Int32)), .val (.ref ba), .val (.int (2 : Int32)), .val (.int (2 : Int32)), .val (.int (2 : Int32)), .val (.int c1)] [(.int (2 : Int32))])) (fun τ κ => XS.iload X14.here hx rfl (hb hby d5_3) rfl κ) ?_
  refine Gl.st (g' := (mkF m 7 #[.val (.ref ca), .val (.int (2 : Int32)), .val (.ref ba), .val (.int (2 : Int32)), .val (.int (2 : Int32)), .val (.int (2 : Int32)), .val (.int c1)] [(.int (2 : Int32)), (.int (2 : Int32))])) (fun τ κ => XS.iload X14.here hx rfl (hb hby d5_5) rfl κ) ?_
  have hc17 : ¬ ((2 : Int32) < (2 : Int32)) := by decide
  refine Gl.st (g' := (mkF m 44 #[.val (.ref ca), .val (.int (2 : Int32)), .val (.ref ba), .val (.int (2 : Int32)), .val (.int (2 : Int32)), .val (.int (2 : Int32)), .val (.int c1)] [])) (fun τ κ => XS.icmpYes X14.here hx rfl (pc0 := 7) (pc' := 44) rfl (hb hby d5_7) rfl (flt hc17).2.1 (by decide) (by decide) κ) ?_
  refine Gl.st (g' := (mkF m 46 #[.val (.ref ca), .val (.int (2 : Int32)), .val (.ref ba), .val (.int (2 : Int32)), .val (.int (2 : Int32)), .val (.int (2 : Int32)), .val (.int c1)] [(.int (2 : Int32))])) (fun τ κ => XS.iload X14.here hx rfl (hb hby d5_44) rfl κ) ?_
  exact Gl.ret (v := some (.int (2 : Int32))) X14 Bd.notSynchronized (fun h => by rw [Bd.returns] at h; cases h) e14 (fun fs hr => retI X14 hx Bd.returns (hb hby d5_46) hr) (by decide) (by decide) ⟨rfl, N14, K14, _, V_ba_14⟩
theorem d4_0 : decode jdk_52_method_16_code 0 = .ok (.iload_n 2, 1) := by decide +kernel
theorem d4_1 : decode jdk_52_method_16_code 1 = .ok (.newarray .byte, 2) := by decide +kernel
theorem d4_3 : decode jdk_52_method_16_code 3 = .ok (.astore_n 3, 1) := by decide +kernel
theorem d4_4 : decode jdk_52_method_16_code 4 = .ok (.aload_n 0, 1) := by decide +kernel
theorem d4_5 : decode jdk_52_method_16_code 5 = .ok (.iload_n 1, 1) := by decide +kernel
theorem d4_6 : decode jdk_52_method_16_code 6 = .ok (.aload_n 3, 1) := by decide +kernel
theorem d4_7 : decode jdk_52_method_16_code 7 = .ok (.iconst 0, 1) := by decide +kernel
theorem d4_8 : decode jdk_52_method_16_code 8 = .ok (.iload_n 2, 1) := by decide +kernel
theorem d4_9 : decode jdk_52_method_16_code 9 = .ok (.invokestatic 115, 3) := by decide +kernel
theorem pd_0 : parseMethodDescriptor "([CI[BII)I" = some ⟨[(.array .char), .int, (.array .byte), .int, .int], some .int⟩ := by decide +kernel
theorem d4_12 : decode jdk_52_method_16_code 12 = .ok (.istore 4, 2) := by decide +kernel
theorem d4_14 : decode jdk_52_method_16_code 14 = .ok (.iload 4, 2) := by decide +kernel
theorem d4_16 : decode jdk_52_method_16_code 16 = .ok (.iload_n 2, 1) := by decide +kernel
theorem d4_17 : decode jdk_52_method_16_code 17 = .ok (.if_icmp .eq 40, 3) := by decide +kernel
theorem d4_57 : decode jdk_52_method_16_code 57 = .ok (.aload_n 3, 1) := by decide +kernel
theorem d4_58 : decode jdk_52_method_16_code 58 = .ok (.areturn, 1) := by decide +kernel
theorem ef_rm4 (m : MethodId) (ca : Addr) : entryFrame m #[(.ref ca), (.int (0 : Int32)), (.int (2 : Int32))] 6 = mkF m 0 #[.val (.ref ca), .val (.int (0 : Int32)), .val (.int (2 : Int32)), .unset, .unset, .unset] [] := by first | (simp [entryFrame, mkF, argsToLocals, Value.category]; done) | rfl
def Q_rm4 (Z : State) (ca : Addr) (kc : ClassId) (c0 c1 : Int32) (h0 : Heap) (n0 : Nat) (v : Option Value) (h : Heap) (L : List Loc) : Prop := ∃ b k vs, v = some (.ref b) ∧ Fr n0 L ∧ Keep h0 h [] ∧ h0.size ≤ b ∧ Arv Z h b k .byte (2 : Int32) vs (.int (0 : Int32))
set_option maxRecDepth 65536 in
set_option maxHeartbeats 40000000 in
theorem rm4 (l : Launch) (Z : State) (a0 : Array Value) (hw : ∀ d ∈ tables_1, d.before a0 Z = true) (ws : List Jvm.Cond) (ca : Addr) (kc : ClassId) (c0 c1 : Int32) (h0 : Heap) (n0 : Nat) (Z0 : n0 ≤ h0.size) (V0 : Arv Z h0 ca kc .char (2 : Int32) [(.int c0), (.int c1)] (.int (0 : Int32))) (h0c : ¬ (255 : Int32) < c0) (h1c : ¬ (255 : Int32) < c1) :
    MetFree l (⟨"java/lang/StringUTF16", "compress", "([CII)[B"⟩ : MethodName) (head1 (Jvm.Cond.code (⟨"java/lang/StringUTF16", "compress", "([CII)[B"⟩ : MethodName) jdk_52_method_16_code 6 (some (.array .byte)) :: ws) ({ frames := 1, cells := 1, slots := 2, locals := 18 } : Room)) (fun aα Uα => aα = #[(.ref ca), (.int (0 : Int32)), (.int (2 : Int32))] ∧ Z.Warmed39 Uα.vm ∧ Uα.heap = h0) (fun _ _ _ _ _ => True) (fun _ Uα oα Uβ => ∃ vα Lα, oα = .returned vα ∧ Q_rm4 Z ca kc c0 c1 h0 n0 vα Uβ.heap Lα ∧ FrameEnd Uα oα Uβ Lα ({ frames := 1, cells := 1, slots := 2, locals := 18 } : Room).cells ({ frames := 1, cells := 1, slots := 2, locals := 18 } : Room).slots) := by
  refine MetFree.of_bodySF (plainFor_of_name pn_java_lang_StringUTF16) hisR ?_
  intro p e s m args below meth c s₁ Bd hml0 hP hKα
  obtain ⟨rfl, hZ, hh⟩ := hP
  have hx := Bd.exec
  have hby := Bd.bytes
  have hml : c.maxLocals = 6 := hml0
  have hown : s.vm.findClass "java/lang/StringUTF16" = some m.cls := findClass_of_methodNamed Bd.named
  have hnm := (name_of_methodNamed Bd.named Bd.method).1
  have X0 : Stand p l e ({ frames := 1, cells := 1, slots := 2, locals := 18 } : Room) s m #[(.ref ca), (.int (0 : Int32)), (.int (2 : Int32))] below meth c s₁ [] 0 0 := Stand.of_body Bd
  have e0 : s₁.heap = h0 := by rw [← hh, Bd.state]; rfl
  have N0 := Fr.nil n0
  suffices k0 : Gl p e below s (Q_rm4 Z ca kc c0 c1 h0 n0) ({ frames := 1, cells := 1, slots := 2, locals := 18 } : Room).cells ({ frames := 1, cells := 1, slots := 2, locals := 18 } : Room).slots s₁ (mkF m 0 #[.val (.ref ca), .val (.int (0 : Int32)), .val (.int (2 : Int32)), .unset, .unset, .unset] []) from Gl.st (fun τ κ => castTop (ef_rm4 m ca) κ) k0
  refine Gl.st (g' := (mkF m 1 #[.val (.ref ca), .val (.int (0 : Int32)), .val (.int (2 : Int32)), .unset, .unset, .unset] [(.int (2 : Int32))])) (fun τ κ => XS.iloadN X0.here hx rfl (hb hby d4_0) rfl κ) ?_
  obtain ⟨T18, h18, k18, X18, e18, E18, A18, st18⟩ := newP X0 hx hZ (hw _ (List.mem_of_getElem? (i := 19) rfl)) e0 (g := (mkF m 1 #[.val (.ref ca), .val (.int (0 : Int32)), .val (.int (2 : Int32)), .unset, .unset, .unset] [(.int (2 : Int32))])) rfl (hb hby d4_1) rfl (by decide) (cap := 2) (by decide) (by decide) (by decide) (by decide)
  obtain ⟨b18, g18⟩ : ∃ z, z = h0.size := ⟨_, rfl⟩
  rw [← g18] at A18 st18
  have ne_ca_b18 : ca ≠ b18 := Nat.ne_of_lt (Nat.lt_of_lt_of_le V0.lt (Nat.le_of_eq g18.symm))
  have V_19 := V0.ext E18
  have g_b18 : n0 ≤ b18 := Nat.le_trans Z0 (Nat.le_of_eq g18.symm)
  have sz_b18 : h0.size ≤ b18 := Nat.le_trans (Keep.refl h0 []).1 (Nat.le_of_eq g18.symm)
  have Z18 : n0 ≤ h18.size := Nat.le_trans Z0 E18.1
  have K18 : Keep h0 h18 [] := (Keep.refl h0 []).ext E18
  have V_b18 : Arv Z h18 b18 k18 .byte (2 : Int32) [(.int (0 : Int32)), (.int (0 : Int32))] (.int (0 : Int32)) := (Arv.new A18 (by decide)).pad (pad_rep [] (.int (0 : Int32)) 2)
  refine Gl.st (g' := (mkF m 3 #[.val (.ref ca), .val (.int (0 : Int32)), .val (.int (2 : Int32)), .unset, .unset, .unset] [(.ref b18)])) (fun τ κ => st18 _ κ) ?_
  refine Gl.st (g' := (mkF m 4 #[.val (.ref ca), .val (.int (0 : Int32)), .val (.int (2 : Int32)), .val (.ref b18), .unset, .unset] [])) (fun τ κ => XS.astoreN X18.here hx rfl (hb hby d4_3) rfl rfl (l' := #[.val (.ref ca), .val (.int (0 : Int32)), .val (.int (2 : Int32)), .val (.ref b18), .unset, .unset]) rfl κ) ?_
  refine Gl.st (g' := (mkF m 5 #[.val (.ref ca), .val (.int (0 : Int32)), .val (.int (2 : Int32)), .val (.ref b18), .unset, .unset] [(.ref ca)])) (fun τ κ => XS.aloadN X18.here hx rfl (hb hby d4_4) rfl rfl κ) ?_
  refine Gl.st (g' := (mkF m 6 #[.val (.ref ca), .val (.int (0 : Int32)), .val (.int (2 : Int32)), .val (.ref b18), .unset, .unset] [(.int (0 : Int32)), (.ref ca)])) (fun τ κ => XS.iloadN X18.here hx rfl (hb hby d4_5) rfl κ) ?_
  refine Gl.st (g' := (mkF m 7 #[.val (.ref ca), .val (.int (0 : Int32)), .val (.int (2 : Int32)), .val (.ref b18), .unset, .unset] [(.ref b18), (.int (0 : Int32)), (.ref ca)])) (fun τ κ => XS.aloadN X18.here hx rfl (hb hby d4_6) rfl rfl κ) ?_
  refine Gl.st (g' := (mkF m 8 #[.val (.ref ca), .val (.int (0 : Int32)), .val (.int (2 : Int32)), .val (.ref b18), .unset, .unset] [(.int (0 : Int32)), (.ref b18), (.int (0 : Int32)), (.ref ca)])) (fun τ κ => XS.iconst X18.here hx rfl (hb hby d4_7) κ) ?_
  refine Gl.st (g' := (mkF m 9 #[.val (.ref ca), .val (.int (0 : Int32)), .val (.int (2 : Int32)), .val (.ref b18), .unset, .unset] [(.int (2 : Int32)), (.int (0 : Int32)), (.ref b18), (.int (0 : Int32)), (.ref ca)])) (fun τ κ => XS.iloadN X18.here hx rfl (hb hby d4_8) rfl κ) ?_
  obtain ⟨rv20, _, ⟨T20, L20, k20, n20⟩, -, X20, ⟨Lc20, hQ20, l20, y20, z20⟩, st20⟩ := Jvm.LawKit.callS X18 hx (y := (⟨"java/lang/StringUTF16", "compress", "([CI[BII)I"⟩ : MethodName)) hown (mvT hZ (hw _ (List.mem_of_getElem? (i := 20) rfl))) (mvT hZ (hw _ (List.mem_of_getElem? (i := 21) rfl))) (mvT hZ (hw _ (List.mem_of_getElem? (i := 17) rfl))) (mvT hZ (hw _ (List.mem_of_getElem? (i := 22) rfl))) (by decide) (backOf (W := 0) (rm5 l Z a0 hw [] ca b18 kc k18 c0 c1 h18 n0 Z18 V_19 V_b18 g_b18 ne_ca_b18 h0c h1c) hZ (hw _ (List.mem_of_getElem? (i := 22) rfl)) (hw _ (List.mem_of_getElem? (i := 17) rfl)) (by decide) (by decide)) (g := (mkF m 9 #[.val (.ref ca), .val (.int (0 : Int32)), .val (.int (2 : Int32)), .val (.ref b18), .unset, .unset] [(.int (2 : Int32)), (.int (0 : Int32)), (.ref b18), (.int (0 : Int32)), (.ref ca)])) rfl (by rw [hml]; rfl) (argsL := [(.ref ca), (.int (0 : Int32)), (.ref b18), (.int (0 : Int32)), (.int (2 : Int32))]) (rest := []) (lenOf pd_0 rfl) rfl (by show 2 * 0 + _ ≤ _; exact Nat.le_of_eq rfl) (hb hby d4_9) (fun _ _ => ⟨rfl, e18, (by decide : 1 + 0 ≤ _), (by decide : 2 + 0 ≤ _)⟩)
  dsimp only [Pt.U, Pt.locs, Pt.cells, Pt.slots] at X20 l20 y20 z20 st20 hQ20
  subst l20 y20 z20
  obtain ⟨rfl, N20q, Kc20, vs20, V20⟩ := hQ20
  have V_21 := V_19.keep Kc20 (ninS ne_ca_b18 nin0)
  have N20 := Fr.app N0 N20q
  have Z20 : n0 ≤ T20.heap.size := Nat.le_trans Z18 Kc20.1
  have K20 : Keep h0 T20.heap [] := K18.trans Kc20 (allS (Or.inr sz_b18) all0)
  refine Gl.st (g' := (mkF m 12 #[.val (.ref ca), .val (.int (0 : Int32)), .val (.int (2 : Int32)), .val (.ref b18), .unset, .unset] [(.int (2 : Int32))])) (fun τ κ => st20 _ κ) ?_
  refine Gl.st (g' := (mkF m 14 #[.val (.ref ca), .val (.int (0 : Int32)), .val (.int (2 : Int32)), .val (.ref b18), .val (.int (2 : Int32)), .unset] [])) (fun τ κ => XS.istore X20.here hx rfl (hb hby d4_12) rfl (l' := #[.val (.ref ca), .val (.int (0 : Int32)), .val (.int (2 : Int32)), .val (.ref b18), .val (.int (2 : Int32)), .unset]) rfl κ) ?_
  refine Gl.st (g' := (mkF m 16 #[.val (.ref ca), .val (.int (0 : Int32)), .val (.int (2 : Int32)), .val (.ref b18), .val (.int (2 : Int32)), .unset] [(.int (2 : Int32))])) (fun τ κ => XS.iload X20.here hx rfl (hb hby d4_14) rfl κ) ?_
  refine Gl.st (g' := (mkF m 17 #[.val (.ref ca), .val (.int (0 : Int32)), .val (.int (2 : Int32)), .val (.ref b18), .val (.int (2 : Int32)), .unset] [(.int (2 : Int32)), (.int (2 : Int32))])) (fun τ κ => XS.iloadN X20.here hx rfl (hb hby d4_16) rfl κ) ?_
  have hc23 : (2 : Int32) = (2 : Int32) := by decide
  refine Gl.st (g' := (mkF m 57 #[.val (.ref ca), .val (.int (0 : Int32)), .val (.int (2 : Int32)), .val (.ref b18), .val (.int (2 : Int32)), .unset] [])) (fun τ κ => XS.icmpYes X20.here hx rfl (pc0 := 17) (pc' := 57) rfl (hb hby d4_17) rfl (teq hc23).1 (by decide) (by decide) κ) ?_
  refine Gl.st (g' := (mkF m 58 #[.val (.ref ca), .val (.int (0 : Int32)), .val (.int (2 : Int32)), .val (.ref b18), .val (.int (2 : Int32)), .unset] [(.ref b18)])) (fun τ κ => XS.aloadN X20.here hx rfl (hb hby d4_57) rfl rfl κ) ?_
  exact Gl.ret (v := some (.ref b18)) X20 Bd.notSynchronized (fun h => by rw [Bd.returns] at h; cases h) rfl (fun fs hr => (by
      jvm_step X20.here [X20.here.top, hx, (hb hby d4_58), X20.method', Bd.returns, Value.isRef, FieldType.isReference]
      first | (intro acts; rw [hr _ acts rfl rfl rfl]) | rw [hr _ _ rfl rfl rfl]
      exact Steps.refl _)) (by decide) (by decide) ⟨b18, k18, _, rfl, N20, K20, sz_b18, V20⟩
theorem d6_0 : decode jdk_52_method_15_code 0 = .ok (.iload_n 1, 1) := by decide +kernel
theorem d6_1 : decode jdk_52_method_15_code 1 = .ok (.aload_n 0, 1) := by decide +kernel
theorem d6_2 : decode jdk_52_method_15_code 2 = .ok (.arraylength, 1) := by decide +kernel
theorem d6_3 : decode jdk_52_method_15_code 3 = .ok (.isub, 1) := by decide +kernel
theorem d6_4 : decode jdk_52_method_15_code 4 = .ok (.bipush 31, 2) := by decide +kernel
theorem d6_6 : decode jdk_52_method_15_code 6 = .ok (.iushr, 1) := by decide +kernel
theorem d6_7 : decode jdk_52_method_15_code 7 = .ok (.i2b, 1) := by decide +kernel
theorem d6_8 : decode jdk_52_method_15_code 8 = .ok (.ireturn, 1) := by decide +kernel
theorem ef_rm6 (m : MethodId) (ba : Addr) : entryFrame m #[(.ref ba), (.int (2 : Int32))] 2 = mkF m 0 #[.val (.ref ba), .val (.int (2 : Int32))] [] := by first | (simp [entryFrame, mkF, argsToLocals, Value.category]; done) | rfl
def Q_rm6 (Z : State) (ba : Addr) (kb : ClassId) (vs : List Value) (h0 : Heap) (n0 : Nat) (v : Option Value) (h : Heap) (L : List Loc) : Prop := ∃ z, v = some (.int z) ∧ Fr n0 L ∧ h = h0
set_option maxRecDepth 65536 in
set_option maxHeartbeats 40000000 in
theorem rm6 (l : Launch) (Z : State) (a0 : Array Value) (hw : ∀ d ∈ tables_1, d.before a0 Z = true) (ws : List Jvm.Cond) (ba : Addr) (kb : ClassId) (vs : List Value) (h0 : Heap) (n0 : Nat) (Z0 : n0 ≤ h0.size) (V0 : Arv Z h0 ba kb .byte (2 : Int32) vs (.int (0 : Int32))) :
    MetFree l (⟨"java/lang/StringUTF16", "coderFromArrayLen", "([BI)B"⟩ : MethodName) (head1 (Jvm.Cond.code (⟨"java/lang/StringUTF16", "coderFromArrayLen", "([BI)B"⟩ : MethodName) jdk_52_method_15_code 2 (some .byte) :: ws) ({ frames := 0, cells := 0, slots := 0, locals := 0 } : Room)) (fun aα Uα => aα = #[(.ref ba), (.int (2 : Int32))] ∧ Z.Warmed39 Uα.vm ∧ Uα.heap = h0) (fun _ _ _ _ _ => True) (fun _ Uα oα Uβ => ∃ vα Lα, oα = .returned vα ∧ Q_rm6 Z ba kb vs h0 n0 vα Uβ.heap Lα ∧ FrameEnd Uα oα Uβ Lα ({ frames := 0, cells := 0, slots := 0, locals := 0 } : Room).cells ({ frames := 0, cells := 0, slots := 0, locals := 0 } : Room).slots) := by
  refine MetFree.of_bodySF (plainFor_of_name pn_java_lang_StringUTF16) hisR ?_
  intro p e s m args below meth c s₁ Bd hml0 hP hKα
  obtain ⟨rfl, hZ, hh⟩ := hP
  have hx := Bd.exec
  have hby := Bd.bytes
  have hml : c.maxLocals = 2 := hml0
  have hown : s.vm.findClass "java/lang/StringUTF16" = some m.cls := findClass_of_methodNamed Bd.named
  have hnm := (name_of_methodNamed Bd.named Bd.method).1
  have X0 : Stand p l e ({ frames := 0, cells := 0, slots := 0, locals := 0 } : Room) s m #[(.ref ba), (.int (2 : Int32))] below meth c s₁ [] 0 0 := Stand.of_body Bd
  have e0 : s₁.heap = h0 := by rw [← hh, Bd.state]; rfl
  have N0 := Fr.nil n0
  suffices k0 : Gl p e below s (Q_rm6 Z ba kb vs h0 n0) ({ frames := 0, cells := 0, slots := 0, locals := 0 } : Room).cells ({ frames := 0, cells := 0, slots := 0, locals := 0 } : Room).slots s₁ (mkF m 0 #[.val (.ref ba), .val (.int (2 : Int32))] []) from Gl.st (fun τ κ => castTop (ef_rm6 m ba) κ) k0
  refine Gl.st (g' := (mkF m 1 #[.val (.ref ba), .val (.int (2 : Int32))] [(.int (2 : Int32))])) (fun τ κ => XS.iloadN X0.here hx rfl (hb hby d6_0) rfl κ) ?_
  refine Gl.st (g' := (mkF m 2 #[.val (.ref ba), .val (.int (2 : Int32))] [(.ref ba), (.int (2 : Int32))])) (fun τ κ => XS.aloadN X0.here hx rfl (hb hby d6_1) rfl rfl κ) ?_
  obtain ⟨cl_o24, Ar_o24, q_o24, S_o24, M_o24, H_o24, G_o24⟩ := id V0
  refine Gl.st (g' := (mkF m 3 #[.val (.ref ba), .val (.int (2 : Int32))] [(.int (2 : Int32)), (.int (2 : Int32))])) (fun τ κ => X0.arraylength hx (by rw [e0]; exact Ar_o24.1) (State.isArrayOf_alike hZ.alike Ar_o24.2.1) (g := (mkF m 2 #[.val (.ref ba), .val (.int (2 : Int32))] [(.ref ba), (.int (2 : Int32))])) rfl rfl (hb hby d6_2) _ (by rw [len_of S_o24 M_o24]; exact κ)) ?_
  refine Gl.st (g' := (mkF m 4 #[.val (.ref ba), .val (.int (2 : Int32))] [(.int (0 : Int32))])) (fun τ κ => XS.isub X0.here hx rfl (hb hby d6_3) rfl κ) ?_
  refine Gl.st (g' := (mkF m 6 #[.val (.ref ba), .val (.int (2 : Int32))] [(.int (31 : Int32)), (.int (0 : Int32))])) (fun τ κ => XS.bipush X0.here hx rfl (hb hby d6_4) κ) ?_
  refine Gl.st (g' := (mkF m 7 #[.val (.ref ba), .val (.int (2 : Int32))] [(.int (((0 : Int32).toUInt32 >>> ((31 : Int32) &&& 31).toUInt32).toInt32))])) (fun τ κ => XS.iushr X0.here hx rfl (hb hby d6_6) rfl κ) ?_
  refine Gl.st (g' := (mkF m 8 #[.val (.ref ba), .val (.int (2 : Int32))] [(.int ((((0 : Int32).toUInt32 >>> ((31 : Int32) &&& 31).toUInt32).toInt32).toInt8.toInt32))])) (fun τ κ => XS.i2b X0.here hx rfl (hb hby d6_7) rfl κ) ?_
  exact Gl.ret (v := some (.int (nar .byte ((((0 : Int32).toUInt32 >>> ((31 : Int32) &&& 31).toUInt32).toInt32).toInt8.toInt32)))) X0 Bd.notSynchronized (fun h => by rw [Bd.returns] at h; cases h) e0 (fun fs hr => retN X0 hx (t := .byte) Bd.returns (by simp) (hb hby d6_8) hr) (by decide) (by decide) ⟨_, rfl, N0, rfl⟩
theorem d2_0 : decode jdk_42_method_149_code 0 = .ok (.aload_n 0, 1) := by decide +kernel
theorem d2_1 : decode jdk_42_method_149_code 1 = .ok (.invokespecial 1, 3) := by decide +kernel
theorem d2_4 : decode jdk_42_method_149_code 4 = .ok (.iload_n 3, 1) := by decide +kernel
theorem d2_5 : decode jdk_42_method_149_code 5 = .ok (.ifCond .ne 22, 3) := by decide +kernel
theorem d2_27 : decode jdk_42_method_149_code 27 = .ok (.getstatic 38, 3) := by decide +kernel
theorem d2_30 : decode jdk_42_method_149_code 30 = .ok (.ifCond .eq 28, 3) := by decide +kernel
theorem d2_33 : decode jdk_42_method_149_code 33 = .ok (.aload_n 1, 1) := by decide +kernel
theorem d2_34 : decode jdk_42_method_149_code 34 = .ok (.iload_n 2, 1) := by decide +kernel
theorem d2_35 : decode jdk_42_method_149_code 35 = .ok (.iload_n 3, 1) := by decide +kernel
theorem d2_36 : decode jdk_42_method_149_code 36 = .ok (.invokestatic 177, 3) := by decide +kernel
theorem pd_1 : parseMethodDescriptor "([CII)[B" = some ⟨[(.array .char), .int, .int], some (.array .byte)⟩ := by decide +kernel
theorem d2_39 : decode jdk_42_method_149_code 39 = .ok (.astore 5, 2) := by decide +kernel
theorem d2_41 : decode jdk_42_method_149_code 41 = .ok (.aload_n 0, 1) := by decide +kernel
theorem d2_42 : decode jdk_42_method_149_code 42 = .ok (.aload 5, 2) := by decide +kernel
theorem d2_44 : decode jdk_42_method_149_code 44 = .ok (.iload_n 3, 1) := by decide +kernel
theorem d2_45 : decode jdk_42_method_149_code 45 = .ok (.invokestatic 47, 3) := by decide +kernel
theorem pd_2 : parseMethodDescriptor "([BI)B" = some ⟨[(.array .byte), .int], some .byte⟩ := by decide +kernel
theorem d2_48 : decode jdk_42_method_149_code 48 = .ok (.putfield 15, 3) := by decide +kernel
theorem d2_51 : decode jdk_42_method_149_code 51 = .ok (.aload_n 0, 1) := by decide +kernel
theorem d2_52 : decode jdk_42_method_149_code 52 = .ok (.aload 5, 2) := by decide +kernel
theorem d2_54 : decode jdk_42_method_149_code 54 = .ok (.putfield 9, 3) := by decide +kernel
theorem d2_57 : decode jdk_42_method_149_code 57 = .ok (.return_, 1) := by decide +kernel
theorem pn_java_lang_String : plainName "java/lang/String" = true := by first | (simp [plainName, overriddenIn]; done) | decide +kernel
theorem ef_rm2 (m : MethodId) (a : Addr) (ca : Addr) : entryFrame m #[(.ref a), (.ref ca), (.int (0 : Int32)), (.int (2 : Int32)), .null] 6 = mkF m 0 #[.val (.ref a), .val (.ref ca), .val (.int (0 : Int32)), .val (.int (2 : Int32)), .val .null, .unset] [] := by first | (simp [entryFrame, mkF, argsToLocals, Value.category]; done) | rfl
def Q_rm2 (Z : State) (a : Addr) (ca : Addr) (kc : ClassId) (c0 c1 cs : Int32) (h0 : Heap) (n0 : Nat) (v : Option Value) (h : Heap) (L : List Loc) : Prop := v = none ∧ Fr n0 L ∧ Keep h0 h [a]
set_option maxRecDepth 65536 in
set_option maxHeartbeats 40000000 in
theorem rm2 (l : Launch) (Z : State) (a0 : Array Value) (hw : ∀ d ∈ tables_1, d.before a0 Z = true) (ws : List Jvm.Cond) (a : Addr) (ca : Addr) (kc : ClassId) (c0 c1 cs : Int32) (h0 : Heap) (n0 : Nat) (Z0 : n0 ≤ h0.size) (E0 : Exa Z h0 a "java/lang/String") (g0 : n0 ≤ a) (FV : Fld Z h0 a "java/lang/String" "value" "[B" .null) (FC : Fld Z h0 a "java/lang/String" "coder" "B" (.int (0 : Int32))) (hac : a ≠ ca) (S0 : Sta Z h0 "java/lang/String" "COMPACT_STRINGS" "Z" (.int cs)) (hcs : ¬ cs = (0 : Int32)) (V0 : Arv Z h0 ca kc .char (2 : Int32) [(.int c0), (.int c1)] (.int (0 : Int32))) (h0c : ¬ (255 : Int32) < c0) (h1c : ¬ (255 : Int32) < c1) :
    MetFree l (⟨"java/lang/String", "<init>", "([CIILjava/lang/Void;)V"⟩ : MethodName) (head1 (Jvm.Cond.code (⟨"java/lang/String", "<init>", "([CIILjava/lang/Void;)V"⟩ : MethodName) jdk_42_method_149_code 6 none :: ws) ({ frames := 2, cells := 1, slots := 2, locals := 35 } : Room)) (fun aα Uα => aα = #[(.ref a), (.ref ca), (.int (0 : Int32)), (.int (2 : Int32)), .null] ∧ Z.Warmed39 Uα.vm ∧ Uα.heap = h0) (fun _ _ _ _ _ => True) (fun _ Uα oα Uβ => ∃ vα Lα, oα = .returned vα ∧ Q_rm2 Z a ca kc c0 c1 cs h0 n0 vα Uβ.heap Lα ∧ FrameEnd Uα oα Uβ Lα ({ frames := 2, cells := 1, slots := 2, locals := 35 } : Room).cells ({ frames := 2, cells := 1, slots := 2, locals := 35 } : Room).slots) := by
  refine MetFree.of_bodySF (plainFor_of_name pn_java_lang_String) hisR ?_
  intro p e s m args below meth c s₁ Bd hml0 hP hKα
  obtain ⟨rfl, hZ, hh⟩ := hP
  have hx := Bd.exec
  have hby := Bd.bytes
  have hml : c.maxLocals = 6 := hml0
  have hown : s.vm.findClass "java/lang/String" = some m.cls := findClass_of_methodNamed Bd.named
  have hnm := (name_of_methodNamed Bd.named Bd.method).1
  have X0 : Stand p l e ({ frames := 2, cells := 1, slots := 2, locals := 35 } : Room) s m #[(.ref a), (.ref ca), (.int (0 : Int32)), (.int (2 : Int32)), .null] below meth c s₁ [] 0 0 := Stand.of_body Bd
  have e0 : s₁.heap = h0 := by rw [← hh, Bd.state]; rfl
  have N0 := Fr.nil n0
  suffices k0 : Gl p e below s (Q_rm2 Z a ca kc c0 c1 cs h0 n0) ({ frames := 2, cells := 1, slots := 2, locals := 35 } : Room).cells ({ frames := 2, cells := 1, slots := 2, locals := 35 } : Room).slots s₁ (mkF m 0 #[.val (.ref a), .val (.ref ca), .val (.int (0 : Int32)), .val (.int (2 : Int32)), .val .null, .unset] []) from Gl.st (fun τ κ => castTop (ef_rm2 m a ca) κ) k0
  refine Gl.st (g' := (mkF m 1 #[.val (.ref a), .val (.ref ca), .val (.int (0 : Int32)), .val (.int (2 : Int32)), .val .null, .unset] [(.ref a)])) (fun τ κ => XS.aloadN X0.here hx rfl (hb hby d2_0) rfl rfl κ) ?_
  obtain ⟨T25, X25, e25, st25⟩ := initO X0 hx hZ hown (hw _ (List.mem_of_getElem? (i := 11) rfl)) (hw _ (List.mem_of_getElem? (i := 12) rfl)) (hw _ (List.mem_of_getElem? (i := 13) rfl)) e0 (g := (mkF m 1 #[.val (.ref a), .val (.ref ca), .val (.int (0 : Int32)), .val (.int (2 : Int32)), .val .null, .unset] [(.ref a)])) rfl (by rw [hml]; rfl) rfl (hb hby d2_1) (by decide) (W := 0) (by show 2 * 0 + _ ≤ _; exact Nat.le_of_eq rfl) (by decide)
  refine Gl.st (g' := (mkF m 4 #[.val (.ref a), .val (.ref ca), .val (.int (0 : Int32)), .val (.int (2 : Int32)), .val .null, .unset] [])) (fun τ κ => st25 _ κ) ?_
  refine Gl.st (g' := (mkF m 5 #[.val (.ref a), .val (.ref ca), .val (.int (0 : Int32)), .val (.int (2 : Int32)), .val .null, .unset] [(.int (2 : Int32))])) (fun τ κ => XS.iloadN X25.here hx rfl (hb hby d2_4) rfl κ) ?_
  have hc26 : ¬ ((2 : Int32) = (0 : Int32)) := by decide
  refine Gl.st (g' := (mkF m 27 #[.val (.ref a), .val (.ref ca), .val (.int (0 : Int32)), .val (.int (2 : Int32)), .val .null, .unset] [])) (fun τ κ => XS.ifYes X25.here hx rfl (pc0 := 5) (pc' := 27) rfl (hb hby d2_5) rfl ((if0 _ _).trans (feq hc26).2) (by decide) (by decide) κ) ?_
  obtain ⟨T27, X27, e27, st27⟩ := getS2 X25 hx hZ hown (host := "") (Or.inl (hw _ (List.mem_of_getElem? (i := 14) rfl))) Via.refl e25 S0 (g := (mkF m 27 #[.val (.ref a), .val (.ref ca), .val (.int (0 : Int32)), .val (.int (2 : Int32)), .val .null, .unset] [])) rfl (hb hby d2_27)
  refine Gl.st (g' := (mkF m 30 #[.val (.ref a), .val (.ref ca), .val (.int (0 : Int32)), .val (.int (2 : Int32)), .val .null, .unset] [(.int cs)])) (fun τ κ => st27 _ κ) ?_
  have hc28 : ¬ (cs = (0 : Int32)) := hcs
  refine Gl.st (g' := (mkF m 33 #[.val (.ref a), .val (.ref ca), .val (.int (0 : Int32)), .val (.int (2 : Int32)), .val .null, .unset] [])) (fun τ κ => XS.ifNo X27.here hx rfl (hb hby d2_30) rfl ((if0 _ _).trans (feq hc28).1) κ) ?_
  refine Gl.st (g' := (mkF m 34 #[.val (.ref a), .val (.ref ca), .val (.int (0 : Int32)), .val (.int (2 : Int32)), .val .null, .unset] [(.ref ca)])) (fun τ κ => XS.aloadN X27.here hx rfl (hb hby d2_33) rfl rfl κ) ?_
  refine Gl.st (g' := (mkF m 35 #[.val (.ref a), .val (.ref ca), .val (.int (0 : Int32)), .val (.int (2 : Int32)), .val .null, .unset] [(.int (0 : Int32)), (.ref ca)])) (fun τ κ => XS.iloadN X27.here hx rfl (hb hby d2_34) rfl κ) ?_
  refine Gl.st (g' := (mkF m 36 #[.val (.ref a), .val (.ref ca), .val (.int (0 : Int32)), .val (.int (2 : Int32)), .val .null, .unset] [(.int (2 : Int32)), (.int (0 : Int32)), (.ref ca)])) (fun τ κ => XS.iloadN X27.here hx rfl (hb hby d2_35) rfl κ) ?_
  obtain ⟨rv29, _, ⟨T29, L29, k29, n29⟩, -, X29, ⟨Lc29, hQ29, l29, y29, z29⟩, st29⟩ := Jvm.LawKit.callS X27 hx (y := (⟨"java/lang/StringUTF16", "compress", "([CII)[B"⟩ : MethodName)) hown (mvT hZ (hw _ (List.mem_of_getElem? (i := 15) rfl))) (mvT hZ (hw _ (List.mem_of_getElem? (i := 16) rfl))) (mvT hZ (hw _ (List.mem_of_getElem? (i := 17) rfl))) (mvT hZ (hw _ (List.mem_of_getElem? (i := 18) rfl))) (by decide) (backOf (W := 0) (rm4 l Z a0 hw [] ca kc c0 c1 h0 n0 Z0 V0 h0c h1c) hZ (hw _ (List.mem_of_getElem? (i := 18) rfl)) (hw _ (List.mem_of_getElem? (i := 17) rfl)) (by decide) (by decide)) (g := (mkF m 36 #[.val (.ref a), .val (.ref ca), .val (.int (0 : Int32)), .val (.int (2 : Int32)), .val .null, .unset] [(.int (2 : Int32)), (.int (0 : Int32)), (.ref ca)])) rfl (by rw [hml]; rfl) (argsL := [(.ref ca), (.int (0 : Int32)), (.int (2 : Int32))]) (rest := []) (lenOf pd_1 rfl) rfl (by show 2 * 0 + _ ≤ _; exact Nat.le_of_eq rfl) (hb hby d2_36) (fun _ _ => ⟨rfl, e27, (by decide : 0 + 1 ≤ _), (by decide : 0 + 2 ≤ _)⟩)
  dsimp only [Pt.U, Pt.locs, Pt.cells, Pt.slots] at X29 l29 y29 z29 st29 hQ29
  subst l29 y29 z29
  obtain ⟨b29, kk29, vs29, rfl, N29q, Kc29, s29, V29⟩ := hQ29
  have ne_a_b29 : a ≠ b29 := Nat.ne_of_lt (Nat.lt_of_lt_of_le E0.lt s29)
  have ne_ca_b29 : ca ≠ b29 := Nat.ne_of_lt (Nat.lt_of_lt_of_le V0.lt s29)
  have g_b29 : n0 ≤ b29 := Nat.le_trans Z0 s29
  have sz_b29 : h0.size ≤ b29 := Nat.le_trans (Keep.refl h0 [a]).1 s29
  have E_30 := E0.keep Kc29
  have F_31 := FV.keep Kc29 nin0
  have F_32 := FC.keep Kc29 nin0
  have S_33 := Sta.keepX S0 Kc29 all0
  have V_34 := V0.keep Kc29 nin0
  have N29 := Fr.app N0 N29q
  have Z29 : n0 ≤ T29.heap.size := Nat.le_trans Z0 Kc29.1
  have K29 : Keep h0 T29.heap [a] := (Keep.refl h0 [a]).trans Kc29 all0
  refine Gl.st (g' := (mkF m 39 #[.val (.ref a), .val (.ref ca), .val (.int (0 : Int32)), .val (.int (2 : Int32)), .val .null, .unset] [(.ref b29)])) (fun τ κ => st29 _ κ) ?_
  refine Gl.st (g' := (mkF m 41 #[.val (.ref a), .val (.ref ca), .val (.int (0 : Int32)), .val (.int (2 : Int32)), .val .null, .val (.ref b29)] [])) (fun τ κ => XS.astore X29.here hx rfl (hb hby d2_39) rfl rfl (l' := #[.val (.ref a), .val (.ref ca), .val (.int (0 : Int32)), .val (.int (2 : Int32)), .val .null, .val (.ref b29)]) rfl κ) ?_
  refine Gl.st (g' := (mkF m 42 #[.val (.ref a), .val (.ref ca), .val (.int (0 : Int32)), .val (.int (2 : Int32)), .val .null, .val (.ref b29)] [(.ref a)])) (fun τ κ => XS.aloadN X29.here hx rfl (hb hby d2_41) rfl rfl κ) ?_
  refine Gl.st (g' := (mkF m 44 #[.val (.ref a), .val (.ref ca), .val (.int (0 : Int32)), .val (.int (2 : Int32)), .val .null, .val (.ref b29)] [(.ref b29), (.ref a)])) (fun τ κ => XS.aload X29.here hx rfl (hb hby d2_42) rfl rfl κ) ?_
  refine Gl.st (g' := (mkF m 45 #[.val (.ref a), .val (.ref ca), .val (.int (0 : Int32)), .val (.int (2 : Int32)), .val .null, .val (.ref b29)] [(.int (2 : Int32)), (.ref b29), (.ref a)])) (fun τ κ => XS.iloadN X29.here hx rfl (hb hby d2_44) rfl κ) ?_
  obtain ⟨rv35, _, ⟨T35, L35, k35, n35⟩, -, X35, ⟨Lc35, hQ35, l35, y35, z35⟩, st35⟩ := Jvm.LawKit.callS X29 hx (y := (⟨"java/lang/StringUTF16", "coderFromArrayLen", "([BI)B"⟩ : MethodName)) hown (mvT hZ (hw _ (List.mem_of_getElem? (i := 23) rfl))) (mvT hZ (hw _ (List.mem_of_getElem? (i := 24) rfl))) (mvT hZ (hw _ (List.mem_of_getElem? (i := 17) rfl))) (mvT hZ (hw _ (List.mem_of_getElem? (i := 25) rfl))) (by decide) (backOf (W := 1) (rm6 l Z a0 hw [] b29 kk29 vs29 T29.heap n0 Z29 V29) hZ (hw _ (List.mem_of_getElem? (i := 25) rfl)) (hw _ (List.mem_of_getElem? (i := 17) rfl)) (by decide) (by decide)) (g := (mkF m 45 #[.val (.ref a), .val (.ref ca), .val (.int (0 : Int32)), .val (.int (2 : Int32)), .val .null, .val (.ref b29)] [(.int (2 : Int32)), (.ref b29), (.ref a)])) rfl (by rw [hml]; rfl) (argsL := [(.ref b29), (.int (2 : Int32))]) (rest := [(.ref a)]) (lenOf pd_2 rfl) rfl (by show 2 * 0 + _ ≤ _; exact Nat.le_of_eq rfl) (hb hby d2_45) (fun _ _ => ⟨rfl, rfl, (by decide : 1 + 0 ≤ _), (by decide : 2 + 0 ≤ _)⟩)
  dsimp only [Pt.U, Pt.locs, Pt.cells, Pt.slots] at X35 l35 y35 z35 st35 hQ35
  subst l35 y35 z35
  obtain ⟨z35_, rfl, N35q, e35⟩ := hQ35
  have N35 := Fr.app N29 N35q
  refine Gl.st (g' := (mkF m 48 #[.val (.ref a), .val (.ref ca), .val (.int (0 : Int32)), .val (.int (2 : Int32)), .val .null, .val (.ref b29)] [(.int z35_), (.ref a)])) (fun τ κ => st35 _ κ) ?_
  obtain ⟨T36, h36, X36, e36, W36, st36⟩ := putFN X35 hx hZ hown (hw _ (List.mem_of_getElem? (i := 26) rfl)) Via.refl e35 F_32 E_30 (Or.inr ⟨(hw _ (List.mem_of_getElem? (i := 27) rfl)), rfl, hnm⟩) (hw _ (List.mem_of_getElem? (i := 1) rfl)) (ty := .byte) (v' := (.int (nar .byte z35_))) (by decide) rfl (fits_nar_byte _) (g := (mkF m 48 #[.val (.ref a), .val (.ref ca), .val (.int (0 : Int32)), .val (.int (2 : Int32)), .val .null, .val (.ref b29)] [(.int z35_), (.ref a)])) rfl rfl (hb hby d2_48)
  have E_37 := E_30.wr W36
  have F_38 := F_31.other W36 (Or.inr (slot_ne (Or.inr (hw _ (List.mem_of_getElem? (i := 29) rfl))) (Or.inr (hw _ (List.mem_of_getElem? (i := 27) rfl))) (by decide) (t := (.array .byte)) (t' := .byte) (by decide) (by decide)))
  have S_40 := S_33.wr W36
  have V_41 := V_34.other W36 (Ne.symm hac)
  have V_42 := V29.other W36 (Ne.symm ne_a_b29)
  have N36 := Fr.snoc X36 N35 g0
  have Z36 : n0 ≤ h36.size := Nat.le_trans Z29 (Nat.le_of_eq W36.size.symm)
  have K36 : Keep h0 h36 [a] := K29.wr W36 (Or.inl (List.mem_of_getElem? (i := 0) rfl))
  have F_43 := F_32.same W36
  refine Gl.st (g' := (mkF m 51 #[.val (.ref a), .val (.ref ca), .val (.int (0 : Int32)), .val (.int (2 : Int32)), .val .null, .val (.ref b29)] [])) (fun τ κ => st36 _ κ) ?_
  refine Gl.st (g' := (mkF m 52 #[.val (.ref a), .val (.ref ca), .val (.int (0 : Int32)), .val (.int (2 : Int32)), .val .null, .val (.ref b29)] [(.ref a)])) (fun τ κ => XS.aloadN X36.here hx rfl (hb hby d2_51) rfl rfl κ) ?_
  refine Gl.st (g' := (mkF m 54 #[.val (.ref a), .val (.ref ca), .val (.int (0 : Int32)), .val (.int (2 : Int32)), .val .null, .val (.ref b29)] [(.ref b29), (.ref a)])) (fun τ κ => XS.aload X36.here hx rfl (hb hby d2_52) rfl rfl κ) ?_
  obtain ⟨T44, h44, X44, e44, W44, st44⟩ := putF X36 hx hZ hown (host := "") (Or.inl (hw _ (List.mem_of_getElem? (i := 28) rfl))) Via.refl e36 F_38 E_37 (Or.inr ⟨(hw _ (List.mem_of_getElem? (i := 29) rfl)), rfl, hnm⟩) (hw _ (List.mem_of_getElem? (i := 1) rfl)) (ty := (.array .byte)) (by decide) rfl rfl (g := (mkF m 54 #[.val (.ref a), .val (.ref ca), .val (.int (0 : Int32)), .val (.int (2 : Int32)), .val .null, .val (.ref b29)] [(.ref b29), (.ref a)])) rfl rfl (hb hby d2_54)
  have E_45 := E_37.wr W44
  have F_47 := F_43.other W44 (Or.inr (slot_ne (Or.inr (hw _ (List.mem_of_getElem? (i := 27) rfl))) (Or.inr (hw _ (List.mem_of_getElem? (i := 29) rfl))) (by decide) (t := .byte) (t' := (.array .byte)) (by decide) (by decide)))
  have S_48 := S_40.wr W44
  have V_49 := V_41.other W44 (Ne.symm hac)
  have V_50 := V_42.other W44 (Ne.symm ne_a_b29)
  have N44 := Fr.snoc X44 N36 g0
  have Z44 : n0 ≤ h44.size := Nat.le_trans Z36 (Nat.le_of_eq W44.size.symm)
  have K44 : Keep h0 h44 [a] := K36.wr W44 (Or.inl (List.mem_of_getElem? (i := 0) rfl))
  have F_51 := F_38.same W44
  refine Gl.st (g' := (mkF m 57 #[.val (.ref a), .val (.ref ca), .val (.int (0 : Int32)), .val (.int (2 : Int32)), .val .null, .val (.ref b29)] [])) (fun τ κ => st44 _ κ) ?_
  exact Gl.ret (v := none) X44 Bd.notSynchronized (fun _ => rfl) e44 (fun fs hr => X44.returnOut hx Bd.returns (hb hby d2_57) hr) (by decide) (by decide) ⟨rfl, N44, K44⟩
theorem d1_0 : decode jdk_42_method_3_code 0 = .ok (.aload_n 0, 1) := by decide +kernel
theorem d1_1 : decode jdk_42_method_3_code 1 = .ok (.aload_n 1, 1) := by decide +kernel
theorem d1_2 : decode jdk_42_method_3_code 2 = .ok (.iconst 0, 1) := by decide +kernel
theorem d1_3 : decode jdk_42_method_3_code 3 = .ok (.aload_n 1, 1) := by decide +kernel
theorem d1_4 : decode jdk_42_method_3_code 4 = .ok (.arraylength, 1) := by decide +kernel
theorem d1_5 : decode jdk_42_method_3_code 5 = .ok (.aconst_null, 1) := by decide +kernel
theorem d1_6 : decode jdk_42_method_3_code 6 = .ok (.invokespecial 27, 3) := by decide +kernel
theorem pd_3 : parseMethodDescriptor "([CIILjava/lang/Void;)V" = some ⟨[(.array .char), .int, .int, (.object "java/lang/Void")], none⟩ := by decide +kernel
theorem d1_9 : decode jdk_42_method_3_code 9 = .ok (.return_, 1) := by decide +kernel
theorem ef_rm1 (m : MethodId) (a : Addr) (ca : Addr) : entryFrame m #[(.ref a), (.ref ca)] 2 = mkF m 0 #[.val (.ref a), .val (.ref ca)] [] := by first | (simp [entryFrame, mkF, argsToLocals, Value.category]; done) | rfl
def Q_rm1 (Z : State) (a : Addr) (ca : Addr) (kc : ClassId) (c0 c1 cs : Int32) (h0 : Heap) (n0 : Nat) (v : Option Value) (h : Heap) (L : List Loc) : Prop := v = none ∧ Fr n0 L ∧ Keep h0 h [a]
set_option maxRecDepth 65536 in
set_option maxHeartbeats 40000000 in
theorem rm1 (l : Launch) (Z : State) (a0 : Array Value) (hw : ∀ d ∈ tables_1, d.before a0 Z = true) (ws : List Jvm.Cond) (a : Addr) (ca : Addr) (kc : ClassId) (c0 c1 cs : Int32) (h0 : Heap) (n0 : Nat) (Z0 : n0 ≤ h0.size) (E0 : Exa Z h0 a "java/lang/String") (g0 : n0 ≤ a) (FV : Fld Z h0 a "java/lang/String" "value" "[B" .null) (FC : Fld Z h0 a "java/lang/String" "coder" "B" (.int (0 : Int32))) (hac : a ≠ ca) (S0 : Sta Z h0 "java/lang/String" "COMPACT_STRINGS" "Z" (.int cs)) (hcs : ¬ cs = (0 : Int32)) (V0 : Arv Z h0 ca kc .char (2 : Int32) [(.int c0), (.int c1)] (.int (0 : Int32))) (h0c : ¬ (255 : Int32) < c0) (h1c : ¬ (255 : Int32) < c1) :
    MetFree l (⟨"java/lang/String", "<init>", "([C)V"⟩ : MethodName) (head1 (Jvm.Cond.code (⟨"java/lang/String", "<init>", "([C)V"⟩ : MethodName) jdk_42_method_3_code 2 none :: ws) ({ frames := 3, cells := 1, slots := 2, locals := 52 } : Room)) (fun aα Uα => aα = #[(.ref a), (.ref ca)] ∧ Z.Warmed39 Uα.vm ∧ Uα.heap = h0) (fun _ _ _ _ _ => True) (fun _ Uα oα Uβ => ∃ vα Lα, oα = .returned vα ∧ Q_rm1 Z a ca kc c0 c1 cs h0 n0 vα Uβ.heap Lα ∧ FrameEnd Uα oα Uβ Lα ({ frames := 3, cells := 1, slots := 2, locals := 52 } : Room).cells ({ frames := 3, cells := 1, slots := 2, locals := 52 } : Room).slots) := by
  refine MetFree.of_bodySF (plainFor_of_name pn_java_lang_String) hisR ?_
  intro p e s m args below meth c s₁ Bd hml0 hP hKα
  obtain ⟨rfl, hZ, hh⟩ := hP
  have hx := Bd.exec
  have hby := Bd.bytes
  have hml : c.maxLocals = 2 := hml0
  have hown : s.vm.findClass "java/lang/String" = some m.cls := findClass_of_methodNamed Bd.named
  have hnm := (name_of_methodNamed Bd.named Bd.method).1
  have X0 : Stand p l e ({ frames := 3, cells := 1, slots := 2, locals := 52 } : Room) s m #[(.ref a), (.ref ca)] below meth c s₁ [] 0 0 := Stand.of_body Bd
  have e0 : s₁.heap = h0 := by rw [← hh, Bd.state]; rfl
  have N0 := Fr.nil n0
  suffices k0 : Gl p e below s (Q_rm1 Z a ca kc c0 c1 cs h0 n0) ({ frames := 3, cells := 1, slots := 2, locals := 52 } : Room).cells ({ frames := 3, cells := 1, slots := 2, locals := 52 } : Room).slots s₁ (mkF m 0 #[.val (.ref a), .val (.ref ca)] []) from Gl.st (fun τ κ => castTop (ef_rm1 m a ca) κ) k0
  refine Gl.st (g' := (mkF m 1 #[.val (.ref a), .val (.ref ca)] [(.ref a)])) (fun τ κ => XS.aloadN X0.here hx rfl (hb hby d1_0) rfl rfl κ) ?_
  refine Gl.st (g' := (mkF m 2 #[.val (.ref a), .val (.ref ca)] [(.ref ca), (.ref a)])) (fun τ κ => XS.aloadN X0.here hx rfl (hb hby d1_1) rfl rfl κ) ?_
  refine Gl.st (g' := (mkF m 3 #[.val (.ref a), .val (.ref ca)] [(.int (0 : Int32)), (.ref ca), (.ref a)])) (fun τ κ => XS.iconst X0.here hx rfl (hb hby d1_2) κ) ?_
  refine Gl.st (g' := (mkF m 4 #[.val (.ref a), .val (.ref ca)] [(.ref ca), (.int (0 : Int32)), (.ref ca), (.ref a)])) (fun τ κ => XS.aloadN X0.here hx rfl (hb hby d1_3) rfl rfl κ) ?_
  obtain ⟨cl_o52, Ar_o52, q_o52, S_o52, M_o52, H_o52, G_o52⟩ := id V0
  refine Gl.st (g' := (mkF m 5 #[.val (.ref a), .val (.ref ca)] [(.int (2 : Int32)), (.int (0 : Int32)), (.ref ca), (.ref a)])) (fun τ κ => X0.arraylength hx (by rw [e0]; exact Ar_o52.1) (State.isArrayOf_alike hZ.alike Ar_o52.2.1) (g := (mkF m 4 #[.val (.ref a), .val (.ref ca)] [(.ref ca), (.int (0 : Int32)), (.ref ca), (.ref a)])) rfl rfl (hb hby d1_4) _ (by rw [len_of S_o52 M_o52]; exact κ)) ?_
  refine Gl.st (g' := (mkF m 6 #[.val (.ref a), .val (.ref ca)] [.null, (.int (2 : Int32)), (.int (0 : Int32)), (.ref ca), (.ref a)])) (fun τ κ => XS.aconstNull X0.here hx rfl (hb hby d1_5) κ) ?_
  obtain ⟨rv53, _, ⟨T53, L53, k53, n53⟩, -, X53, ⟨Lc53, hQ53, l53, y53, z53⟩, st53⟩ := X0.specialBack hx (y := (⟨"java/lang/String", "<init>", "([CIILjava/lang/Void;)V"⟩ : MethodName)) rfl hown (mvT hZ (hw _ (List.mem_of_getElem? (i := 7) rfl))) (mvT hZ (hw _ (List.mem_of_getElem? (i := 8) rfl))) (mvT hZ (hw _ (List.mem_of_getElem? (i := 10) rfl))) (by decide) (backOf (W := 0) (rm2 l Z a0 hw [] a ca kc c0 c1 cs h0 n0 Z0 E0 g0 FV FC hac S0 hcs V0 h0c h1c) hZ (hw _ (List.mem_of_getElem? (i := 10) rfl)) (hw _ (List.mem_of_getElem? (i := 2) rfl)) (by decide) (by decide)) (g := (mkF m 6 #[.val (.ref a), .val (.ref ca)] [.null, (.int (2 : Int32)), (.int (0 : Int32)), (.ref ca), (.ref a)])) rfl (by rw [hml]; rfl) (Steps.refl _) (a := a) (argsL := [(.ref ca), (.int (0 : Int32)), (.int (2 : Int32)), .null]) (rest := []) (lenOf pd_3 rfl) rfl (by show 2 * 0 + _ ≤ _; exact Nat.le_of_eq rfl) (hb hby d1_6) (fun _ _ => ⟨rfl, e0, (by decide : 0 + 1 ≤ _), (by decide : 0 + 2 ≤ _)⟩)
  dsimp only [Pt.U, Pt.locs, Pt.cells, Pt.slots] at X53 l53 y53 z53 st53 hQ53
  subst l53 y53 z53
  obtain ⟨rfl, N53q, Kc53⟩ := hQ53
  have E_54 := E0.keep Kc53
  have S_57 := Sta.keepX S0 Kc53 (allS (P := fun x => ∃ c : Cell, h0[x]? = some c ∧ ∀ q, c.vm ≠ .statics q) E0.cell all0)
  have V_58 := V0.keep Kc53 (ninS (Ne.symm hac) nin0)
  have N53 := Fr.app N0 N53q
  have Z53 : n0 ≤ T53.heap.size := Nat.le_trans Z0 Kc53.1
  have K53 : Keep h0 T53.heap [a] := (Keep.refl h0 [a]).trans Kc53 (allS (Or.inl (List.mem_of_getElem? (i := 0) rfl)) all0)
  refine Gl.st (g' := (mkF m 9 #[.val (.ref a), .val (.ref ca)] [])) (fun τ κ => st53.trans κ) ?_
  exact Gl.ret (v := none) X53 Bd.notSynchronized (fun _ => rfl) rfl (fun fs hr => X53.returnOut hx Bd.returns (hb hby d1_9) hr) (by decide) (by decide) ⟨rfl, N53, K53⟩
theorem d8_0 : decode jdk_43_method_3_code 0 = .ok (.iload_n 0, 1) := by decide +kernel
theorem d8_1 : decode jdk_43_method_3_code 1 = .ok (.sipush 255, 3) := by decide +kernel
theorem d8_4 : decode jdk_43_method_3_code 4 = .ok (.if_icmp .gt 7, 3) := by decide +kernel
theorem d8_7 : decode jdk_43_method_3_code 7 = .ok (.iconst 1, 1) := by decide +kernel
theorem d8_8 : decode jdk_43_method_3_code 8 = .ok (.goto 4, 3) := by decide +kernel
theorem d8_12 : decode jdk_43_method_3_code 12 = .ok (.ireturn, 1) := by decide +kernel
theorem pn_java_lang_StringLatin1 : plainName "java/lang/StringLatin1" = true := by first | (simp [plainName, overriddenIn]; done) | decide +kernel
theorem ef_rm8 (m : MethodId) (ch : Int32) : entryFrame m #[(.int ch)] 1 = mkF m 0 #[.val (.int ch)] [] := by first | (simp [entryFrame, mkF, argsToLocals, Value.category]; done) | rfl
def Q_rm8 (Z : State) (ch : Int32)  (h0 : Heap) (n0 : Nat) (v : Option Value) (h : Heap) (L : List Loc) : Prop := v = some (.int (1 : Int32)) ∧ Fr n0 L ∧ h = h0
set_option maxRecDepth 65536 in
set_option maxHeartbeats 40000000 in
theorem rm8 (l : Launch) (Z : State) (a0 : Array Value) (hw : ∀ d ∈ tables_1, d.before a0 Z = true) (ws : List Jvm.Cond) (ch : Int32)  (h0 : Heap) (n0 : Nat) (Z0 : n0 ≤ h0.size) (h : ¬ (255 : Int32) < ch) :
    MetFree l (⟨"java/lang/StringLatin1", "canEncode", "(C)Z"⟩ : MethodName) (head1 (Jvm.Cond.code (⟨"java/lang/StringLatin1", "canEncode", "(C)Z"⟩ : MethodName) jdk_43_method_3_code 1 (some .boolean) :: ws) ({ frames := 0, cells := 0, slots := 0, locals := 0 } : Room)) (fun aα Uα => aα = #[(.int ch)] ∧ Z.Warmed39 Uα.vm ∧ Uα.heap = h0) (fun _ _ _ _ _ => True) (fun _ Uα oα Uβ => ∃ vα Lα, oα = .returned vα ∧ Q_rm8 Z ch  h0 n0 vα Uβ.heap Lα ∧ FrameEnd Uα oα Uβ Lα ({ frames := 0, cells := 0, slots := 0, locals := 0 } : Room).cells ({ frames := 0, cells := 0, slots := 0, locals := 0 } : Room).slots) := by
  refine MetFree.of_bodySF (plainFor_of_name pn_java_lang_StringLatin1) hisR ?_
  intro p e s m args below meth c s₁ Bd hml0 hP hKα
  obtain ⟨rfl, hZ, hh⟩ := hP
  have hx := Bd.exec
  have hby := Bd.bytes
  have hml : c.maxLocals = 1 := hml0
  have hown : s.vm.findClass "java/lang/StringLatin1" = some m.cls := findClass_of_methodNamed Bd.named
  have hnm := (name_of_methodNamed Bd.named Bd.method).1
  have X0 : Stand p l e ({ frames := 0, cells := 0, slots := 0, locals := 0 } : Room) s m #[(.int ch)] below meth c s₁ [] 0 0 := Stand.of_body Bd
  have e0 : s₁.heap = h0 := by rw [← hh, Bd.state]; rfl
  have N0 := Fr.nil n0
  suffices k0 : Gl p e below s (Q_rm8 Z ch  h0 n0) ({ frames := 0, cells := 0, slots := 0, locals := 0 } : Room).cells ({ frames := 0, cells := 0, slots := 0, locals := 0 } : Room).slots s₁ (mkF m 0 #[.val (.int ch)] []) from Gl.st (fun τ κ => castTop (ef_rm8 m ch) κ) k0
  refine Gl.st (g' := (mkF m 1 #[.val (.int ch)] [(.int ch)])) (fun τ κ => XS.iloadN X0.here hx rfl (hb hby d8_0) rfl κ) ?_
  refine Gl.st (g' := (mkF m 4 #[.val (.int ch)] [(.int (255 : Int32)), (.int ch)])) (fun τ κ => XS.sipush X0.here hx rfl (hb hby d8_1) κ) ?_
  have hc59 : ¬ ((255 : Int32) < ch) := h
  refine Gl.st (g' := (mkF m 7 #[.val (.int ch)] [])) (fun τ κ => XS.icmpNo X0.here hx rfl (hb hby d8_4) rfl (flt hc59).2.2.1 κ) ?_
  refine Gl.st (g' := (mkF m 8 #[.val (.int ch)] [(.int (1 : Int32))])) (fun τ κ => XS.iconst X0.here hx rfl (hb hby d8_7) κ) ?_
  refine Gl.st (g' := (mkF m 12 #[.val (.int ch)] [(.int (1 : Int32))])) (fun τ κ => XS.goto X0.here hx rfl (pc0 := 8) (pc' := 12) rfl (hb hby d8_8) (by decide) (by decide) κ) ?_
  exact Gl.ret (v := some (.int (1 : Int32))) X0 Bd.notSynchronized (fun h => by rw [Bd.returns] at h; cases h) e0 (fun fs hr => retN X0 hx (t := .boolean) Bd.returns (by simp) (hb hby d8_12) hr) (by decide) (by decide) ⟨rfl, N0, rfl⟩
theorem d9_0 : decode jdk_43_method_46_code 0 = .ok (.iconst 1, 1) := by decide +kernel
theorem d9_1 : decode jdk_43_method_46_code 1 = .ok (.newarray .byte, 2) := by decide +kernel
theorem d9_3 : decode jdk_43_method_46_code 3 = .ok (.dup, 1) := by decide +kernel
theorem d9_4 : decode jdk_43_method_46_code 4 = .ok (.iconst 0, 1) := by decide +kernel
theorem d9_5 : decode jdk_43_method_46_code 5 = .ok (.iload_n 0, 1) := by decide +kernel
theorem d9_6 : decode jdk_43_method_46_code 6 = .ok (.i2b, 1) := by decide +kernel
theorem d9_7 : decode jdk_43_method_46_code 7 = .ok (.bastore, 1) := by decide +kernel
theorem d9_8 : decode jdk_43_method_46_code 8 = .ok (.areturn, 1) := by decide +kernel
theorem ef_rm9 (m : MethodId) (ch : Int32) : entryFrame m #[(.int ch)] 1 = mkF m 0 #[.val (.int ch)] [] := by first | (simp [entryFrame, mkF, argsToLocals, Value.category]; done) | rfl
def Q_rm9 (Z : State) (ch : Int32)  (h0 : Heap) (n0 : Nat) (v : Option Value) (h : Heap) (L : List Loc) : Prop := ∃ b k vs, v = some (.ref b) ∧ Fr n0 L ∧ Keep h0 h [] ∧ h0.size ≤ b ∧ Arv Z h b k .byte (1 : Int32) vs (.int (0 : Int32))
set_option maxRecDepth 65536 in
set_option maxHeartbeats 40000000 in
theorem rm9 (l : Launch) (Z : State) (a0 : Array Value) (hw : ∀ d ∈ tables_1, d.before a0 Z = true) (ws : List Jvm.Cond) (ch : Int32)  (h0 : Heap) (n0 : Nat) (Z0 : n0 ≤ h0.size)  :
    MetFree l (⟨"java/lang/StringLatin1", "toBytes", "(C)[B"⟩ : MethodName) (head1 (Jvm.Cond.code (⟨"java/lang/StringLatin1", "toBytes", "(C)[B"⟩ : MethodName) jdk_43_method_46_code 1 (some (.array .byte)) :: ws) ({ frames := 0, cells := 1, slots := 1, locals := 0 } : Room)) (fun aα Uα => aα = #[(.int ch)] ∧ Z.Warmed39 Uα.vm ∧ Uα.heap = h0) (fun _ _ _ _ _ => True) (fun _ Uα oα Uβ => ∃ vα Lα, oα = .returned vα ∧ Q_rm9 Z ch  h0 n0 vα Uβ.heap Lα ∧ FrameEnd Uα oα Uβ Lα ({ frames := 0, cells := 1, slots := 1, locals := 0 } : Room).cells ({ frames := 0, cells := 1, slots := 1, locals := 0 } : Room).slots) := by
  refine MetFree.of_bodySF (plainFor_of_name pn_java_lang_StringLatin1) hisR ?_
  intro p e s m args below meth c s₁ Bd hml0 hP hKα
  obtain ⟨rfl, hZ, hh⟩ := hP
  have hx := Bd.exec
  have hby := Bd.bytes
  have hml : c.maxLocals = 1 := hml0
  have hown : s.vm.findClass "java/lang/StringLatin1" = some m.cls := findClass_of_methodNamed Bd.named
  have hnm := (name_of_methodNamed Bd.named Bd.method).1
  have X0 : Stand p l e ({ frames := 0, cells := 1, slots := 1, locals := 0 } : Room) s m #[(.int ch)] below meth c s₁ [] 0 0 := Stand.of_body Bd
  have e0 : s₁.heap = h0 := by rw [← hh, Bd.state]; rfl
  have N0 := Fr.nil n0
  suffices k0 : Gl p e below s (Q_rm9 Z ch  h0 n0) ({ frames := 0, cells := 1, slots := 1, locals := 0 } : Room).cells ({ frames := 0, cells := 1, slots := 1, locals := 0 } : Room).slots s₁ (mkF m 0 #[.val (.int ch)] []) from Gl.st (fun τ κ => castTop (ef_rm9 m ch) κ) k0
  refine Gl.st (g' := (mkF m 1 #[.val (.int ch)] [(.int (1 : Int32))])) (fun τ κ => XS.iconst X0.here hx rfl (hb hby d9_0) κ) ?_
  obtain ⟨T60, h60, k60, X60, e60, E60, A60, st60⟩ := newP X0 hx hZ (hw _ (List.mem_of_getElem? (i := 19) rfl)) e0 (g := (mkF m 1 #[.val (.int ch)] [(.int (1 : Int32))])) rfl (hb hby d9_1) rfl (by decide) (cap := 1) (by decide) (by decide) (by decide) (by decide)
  obtain ⟨b60, g60⟩ : ∃ z, z = h0.size := ⟨_, rfl⟩
  rw [← g60] at A60 st60
  have g_b60 : n0 ≤ b60 := Nat.le_trans Z0 (Nat.le_of_eq g60.symm)
  have sz_b60 : h0.size ≤ b60 := Nat.le_trans (Keep.refl h0 []).1 (Nat.le_of_eq g60.symm)
  have Z60 : n0 ≤ h60.size := Nat.le_trans Z0 E60.1
  have K60 : Keep h0 h60 [] := (Keep.refl h0 []).ext E60
  have V_b60 : Arv Z h60 b60 k60 .byte (1 : Int32) [(.int (0 : Int32))] (.int (0 : Int32)) := (Arv.new A60 (by decide)).pad (pad_rep [] (.int (0 : Int32)) 1)
  refine Gl.st (g' := (mkF m 3 #[.val (.int ch)] [(.ref b60)])) (fun τ κ => st60 _ κ) ?_
  refine Gl.st (g' := (mkF m 4 #[.val (.int ch)] [(.ref b60), (.ref b60)])) (fun τ κ => XS.dup X60.here hx rfl (hb hby d9_3) rfl rfl κ) ?_
  refine Gl.st (g' := (mkF m 5 #[.val (.int ch)] [(.int (0 : Int32)), (.ref b60), (.ref b60)])) (fun τ κ => XS.iconst X60.here hx rfl (hb hby d9_4) κ) ?_
  refine Gl.st (g' := (mkF m 6 #[.val (.int ch)] [(.int ch), (.int (0 : Int32)), (.ref b60), (.ref b60)])) (fun τ κ => XS.iloadN X60.here hx rfl (hb hby d9_5) rfl κ) ?_
  refine Gl.st (g' := (mkF m 7 #[.val (.int ch)] [(.int (ch.toInt8.toInt32)), (.int (0 : Int32)), (.ref b60), (.ref b60)])) (fun τ κ => XS.i2b X60.here hx rfl (hb hby d9_6) rfl κ) ?_
  obtain ⟨cl_o61, Ar_o61, q_o61, S_o61, M_o61, H_o61, G_o61⟩ := id V_b60
  have hin_o61 : ¬ ((0 : Int32) < 0 ∨ cl_o61.slots.size ≤ ((0 : Int32)).toNatClampNeg) := inb_of S_o61 ⟨by decide, by decide⟩
  obtain ⟨T62, h62, X62, e62, W62, st62⟩ := stB X60 hx hZ e60 Ar_o61 (j := (0 : Int32)) hin_o61 (g := (mkF m 7 #[.val (.int ch)] [(.int (ch.toInt8.toInt32)), (.int (0 : Int32)), (.ref b60), (.ref b60)])) rfl rfl (hb hby d9_7)
  have N62 := Fr.snoc X62 N0 g_b60
  have Z62 : n0 ≤ h62.size := Nat.le_trans Z60 (Nat.le_of_eq W62.size.symm)
  have K62 : Keep h0 h62 [] := K60.wr W62 (Or.inr sz_b60)
  have V_b60_62 : Arv Z h62 b60 k60 .byte (1 : Int32) [(.int (nar .byte (ch.toInt8.toInt32)))] (.int (0 : Int32)) := Arv.set Ar_o61 q_o61 S_o61 M_o61 H_o61 G_o61 (fits_nar_byte _) W62 0 rfl (Nat.le_of_ble_eq_true rfl)
  refine Gl.st (g' := (mkF m 8 #[.val (.int ch)] [(.ref b60)])) (fun τ κ => st62 _ κ) ?_
  exact Gl.ret (v := some (.ref b60)) X62 Bd.notSynchronized (fun h => by rw [Bd.returns] at h; cases h) e62 (fun fs hr => (by
      jvm_step X62.here [X62.here.top, hx, (hb hby d9_8), X62.method', Bd.returns, Value.isRef, FieldType.isReference]
      first | (intro acts; rw [hr _ acts rfl rfl rfl]) | rw [hr _ _ rfl rfl rfl]
      exact Steps.refl _)) (by decide) (by decide) ⟨b60, k60, _, rfl, N62, K62, sz_b60, V_b60_62⟩
theorem d10_0 : decode jdk_42_method_151_code 0 = .ok (.aload_n 0, 1) := by decide +kernel
theorem d10_1 : decode jdk_42_method_151_code 1 = .ok (.invokespecial 1, 3) := by decide +kernel
theorem d10_4 : decode jdk_42_method_151_code 4 = .ok (.aload_n 0, 1) := by decide +kernel
theorem d10_5 : decode jdk_42_method_151_code 5 = .ok (.aload_n 1, 1) := by decide +kernel
theorem d10_6 : decode jdk_42_method_151_code 6 = .ok (.putfield 9, 3) := by decide +kernel
theorem d10_9 : decode jdk_42_method_151_code 9 = .ok (.aload_n 0, 1) := by decide +kernel
theorem d10_10 : decode jdk_42_method_151_code 10 = .ok (.iload_n 2, 1) := by decide +kernel
theorem d10_11 : decode jdk_42_method_151_code 11 = .ok (.putfield 15, 3) := by decide +kernel
theorem d10_14 : decode jdk_42_method_151_code 14 = .ok (.return_, 1) := by decide +kernel
theorem ef_rm10 (m : MethodId) (a : Addr) (ba : Addr) (cd : Int32) : entryFrame m #[(.ref a), (.ref ba), (.int cd)] 3 = mkF m 0 #[.val (.ref a), .val (.ref ba), .val (.int cd)] [] := by first | (simp [entryFrame, mkF, argsToLocals, Value.category]; done) | rfl
def Q_rm10 (Z : State) (a : Addr) (ba : Addr) (cd : Int32)  (h0 : Heap) (n0 : Nat) (v : Option Value) (h : Heap) (L : List Loc) : Prop := v = none ∧ Fr n0 L ∧ Keep h0 h [a]
set_option maxRecDepth 65536 in
set_option maxHeartbeats 40000000 in
theorem rm10 (l : Launch) (Z : State) (a0 : Array Value) (hw : ∀ d ∈ tables_1, d.before a0 Z = true) (ws : List Jvm.Cond) (a : Addr) (ba : Addr) (cd : Int32)  (h0 : Heap) (n0 : Nat) (Z0 : n0 ≤ h0.size) (E0 : Exa Z h0 a "java/lang/String") (g0 : n0 ≤ a) (FV : Fld Z h0 a "java/lang/String" "value" "[B" .null) (FC : Fld Z h0 a "java/lang/String" "coder" "B" (.int (0 : Int32))) :
    MetFree l (⟨"java/lang/String", "<init>", "([BB)V"⟩ : MethodName) (head1 (Jvm.Cond.code (⟨"java/lang/String", "<init>", "([BB)V"⟩ : MethodName) jdk_42_method_151_code 3 none :: ws) ({ frames := 1, cells := 0, slots := 0, locals := 12 } : Room)) (fun aα Uα => aα = #[(.ref a), (.ref ba), (.int cd)] ∧ Z.Warmed39 Uα.vm ∧ Uα.heap = h0) (fun _ _ _ _ _ => True) (fun _ Uα oα Uβ => ∃ vα Lα, oα = .returned vα ∧ Q_rm10 Z a ba cd  h0 n0 vα Uβ.heap Lα ∧ FrameEnd Uα oα Uβ Lα ({ frames := 1, cells := 0, slots := 0, locals := 12 } : Room).cells ({ frames := 1, cells := 0, slots := 0, locals := 12 } : Room).slots) := by
  refine MetFree.of_bodySF (plainFor_of_name pn_java_lang_String) hisR ?_
  intro p e s m args below meth c s₁ Bd hml0 hP hKα
  obtain ⟨rfl, hZ, hh⟩ := hP
  have hx := Bd.exec
  have hby := Bd.bytes
  have hml : c.maxLocals = 3 := hml0
  have hown : s.vm.findClass "java/lang/String" = some m.cls := findClass_of_methodNamed Bd.named
  have hnm := (name_of_methodNamed Bd.named Bd.method).1
  have X0 : Stand p l e ({ frames := 1, cells := 0, slots := 0, locals := 12 } : Room) s m #[(.ref a), (.ref ba), (.int cd)] below meth c s₁ [] 0 0 := Stand.of_body Bd
  have e0 : s₁.heap = h0 := by rw [← hh, Bd.state]; rfl
  have N0 := Fr.nil n0
  suffices k0 : Gl p e below s (Q_rm10 Z a ba cd  h0 n0) ({ frames := 1, cells := 0, slots := 0, locals := 12 } : Room).cells ({ frames := 1, cells := 0, slots := 0, locals := 12 } : Room).slots s₁ (mkF m 0 #[.val (.ref a), .val (.ref ba), .val (.int cd)] []) from Gl.st (fun τ κ => castTop (ef_rm10 m a ba cd) κ) k0
  refine Gl.st (g' := (mkF m 1 #[.val (.ref a), .val (.ref ba), .val (.int cd)] [(.ref a)])) (fun τ κ => XS.aloadN X0.here hx rfl (hb hby d10_0) rfl rfl κ) ?_
  obtain ⟨T64, X64, e64, st64⟩ := initO X0 hx hZ hown (hw _ (List.mem_of_getElem? (i := 11) rfl)) (hw _ (List.mem_of_getElem? (i := 12) rfl)) (hw _ (List.mem_of_getElem? (i := 13) rfl)) e0 (g := (mkF m 1 #[.val (.ref a), .val (.ref ba), .val (.int cd)] [(.ref a)])) rfl (by rw [hml]; rfl) rfl (hb hby d10_1) (by decide) (W := 0) (by show 2 * 0 + _ ≤ _; exact Nat.le_of_eq rfl) (by decide)
  refine Gl.st (g' := (mkF m 4 #[.val (.ref a), .val (.ref ba), .val (.int cd)] [])) (fun τ κ => st64 _ κ) ?_
  refine Gl.st (g' := (mkF m 5 #[.val (.ref a), .val (.ref ba), .val (.int cd)] [(.ref a)])) (fun τ κ => XS.aloadN X64.here hx rfl (hb hby d10_4) rfl rfl κ) ?_
  refine Gl.st (g' := (mkF m 6 #[.val (.ref a), .val (.ref ba), .val (.int cd)] [(.ref ba), (.ref a)])) (fun τ κ => XS.aloadN X64.here hx rfl (hb hby d10_5) rfl rfl κ) ?_
  obtain ⟨T65, h65, X65, e65, W65, st65⟩ := putF X64 hx hZ hown (host := "") (Or.inl (hw _ (List.mem_of_getElem? (i := 28) rfl))) Via.refl e64 FV E0 (Or.inr ⟨(hw _ (List.mem_of_getElem? (i := 29) rfl)), rfl, hnm⟩) (hw _ (List.mem_of_getElem? (i := 1) rfl)) (ty := (.array .byte)) (by decide) rfl rfl (g := (mkF m 6 #[.val (.ref a), .val (.ref ba), .val (.int cd)] [(.ref ba), (.ref a)])) rfl rfl (hb hby d10_6)
  have E_66 := E0.wr W65
  have F_68 := FC.other W65 (Or.inr (slot_ne (Or.inr (hw _ (List.mem_of_getElem? (i := 27) rfl))) (Or.inr (hw _ (List.mem_of_getElem? (i := 29) rfl))) (by decide) (t := .byte) (t' := (.array .byte)) (by decide) (by decide)))
  have N65 := Fr.snoc X65 N0 g0
  have Z65 : n0 ≤ h65.size := Nat.le_trans Z0 (Nat.le_of_eq W65.size.symm)
  have K65 : Keep h0 h65 [a] := (Keep.refl h0 [a]).wr W65 (Or.inl (List.mem_of_getElem? (i := 0) rfl))
  have F_69 := FV.same W65
  refine Gl.st (g' := (mkF m 9 #[.val (.ref a), .val (.ref ba), .val (.int cd)] [])) (fun τ κ => st65 _ κ) ?_
  refine Gl.st (g' := (mkF m 10 #[.val (.ref a), .val (.ref ba), .val (.int cd)] [(.ref a)])) (fun τ κ => XS.aloadN X65.here hx rfl (hb hby d10_9) rfl rfl κ) ?_
  refine Gl.st (g' := (mkF m 11 #[.val (.ref a), .val (.ref ba), .val (.int cd)] [(.int cd), (.ref a)])) (fun τ κ => XS.iloadN X65.here hx rfl (hb hby d10_10) rfl κ) ?_
  obtain ⟨T70, h70, X70, e70, W70, st70⟩ := putFN X65 hx hZ hown (hw _ (List.mem_of_getElem? (i := 26) rfl)) Via.refl e65 F_68 E_66 (Or.inr ⟨(hw _ (List.mem_of_getElem? (i := 27) rfl)), rfl, hnm⟩) (hw _ (List.mem_of_getElem? (i := 1) rfl)) (ty := .byte) (v' := (.int (nar .byte cd))) (by decide) rfl (fits_nar_byte _) (g := (mkF m 11 #[.val (.ref a), .val (.ref ba), .val (.int cd)] [(.int cd), (.ref a)])) rfl rfl (hb hby d10_11)
  have E_71 := E_66.wr W70
  have F_72 := F_69.other W70 (Or.inr (slot_ne (Or.inr (hw _ (List.mem_of_getElem? (i := 29) rfl))) (Or.inr (hw _ (List.mem_of_getElem? (i := 27) rfl))) (by decide) (t := (.array .byte)) (t' := .byte) (by decide) (by decide)))
  have N70 := Fr.snoc X70 N65 g0
  have Z70 : n0 ≤ h70.size := Nat.le_trans Z65 (Nat.le_of_eq W70.size.symm)
  have K70 : Keep h0 h70 [a] := K65.wr W70 (Or.inl (List.mem_of_getElem? (i := 0) rfl))
  have F_74 := F_68.same W70
  refine Gl.st (g' := (mkF m 14 #[.val (.ref a), .val (.ref ba), .val (.int cd)] [])) (fun τ κ => st70 _ κ) ?_
  exact Gl.ret (v := none) X70 Bd.notSynchronized (fun _ => rfl) e70 (fun fs hr => X70.returnOut hx Bd.returns (hb hby d10_14) hr) (by decide) (by decide) ⟨rfl, N70, K70⟩
theorem d7_0 : decode jdk_42_method_139_code 0 = .ok (.getstatic 38, 3) := by decide +kernel
theorem d7_3 : decode jdk_42_method_139_code 3 = .ok (.ifCond .eq 23, 3) := by decide +kernel
theorem d7_6 : decode jdk_42_method_139_code 6 = .ok (.iload_n 0, 1) := by decide +kernel
theorem d7_7 : decode jdk_42_method_139_code 7 = .ok (.invokestatic 1015, 3) := by decide +kernel
theorem pd_4 : parseMethodDescriptor "(C)Z" = some ⟨[.char], some .boolean⟩ := by decide +kernel
theorem d7_10 : decode jdk_42_method_139_code 10 = .ok (.ifCond .eq 16, 3) := by decide +kernel
theorem d7_13 : decode jdk_42_method_139_code 13 = .ok (.new 10, 3) := by decide +kernel
theorem d7_16 : decode jdk_42_method_139_code 16 = .ok (.dup, 1) := by decide +kernel
theorem d7_17 : decode jdk_42_method_139_code 17 = .ok (.iload_n 0, 1) := by decide +kernel
theorem d7_18 : decode jdk_42_method_139_code 18 = .ok (.invokestatic 1018, 3) := by decide +kernel
theorem pd_5 : parseMethodDescriptor "(C)[B" = some ⟨[.char], some (.array .byte)⟩ := by decide +kernel
theorem d7_21 : decode jdk_42_method_139_code 21 = .ok (.iconst 0, 1) := by decide +kernel
theorem d7_22 : decode jdk_42_method_139_code 22 = .ok (.invokespecial 209, 3) := by decide +kernel
theorem pd_6 : parseMethodDescriptor "([BB)V" = some ⟨[(.array .byte), .byte], none⟩ := by decide +kernel
theorem d7_25 : decode jdk_42_method_139_code 25 = .ok (.areturn, 1) := by decide +kernel
theorem ef_rm7 (m : MethodId) (ch : Int32) : entryFrame m #[(.int ch)] 1 = mkF m 0 #[.val (.int ch)] [] := by first | (simp [entryFrame, mkF, argsToLocals, Value.category]; done) | rfl
def Q_rm7 (Z : State) (ch : Int32) (cs : Int32) (h0 : Heap) (n0 : Nat) (v : Option Value) (h : Heap) (L : List Loc) : Prop := ∃ b, v = some (.ref b) ∧ Fr n0 L ∧ Keep h0 h [] ∧ h0.size ≤ b
set_option maxRecDepth 65536 in
set_option maxHeartbeats 40000000 in
theorem rm7 (l : Launch) (Z : State) (a0 : Array Value) (hw : ∀ d ∈ tables_1, d.before a0 Z = true) (ws : List Jvm.Cond) (ch : Int32) (cs : Int32) (h0 : Heap) (n0 : Nat) (Z0 : n0 ≤ h0.size) (S0 : Sta Z h0 "java/lang/String" "COMPACT_STRINGS" "Z" (.int cs)) (hcs : ¬ cs = (0 : Int32)) (hch : ¬ (255 : Int32) < ch) :
    MetFree l (⟨"java/lang/String", "valueOf", "(C)Ljava/lang/String;"⟩ : MethodName) (head1 (Jvm.Cond.code (⟨"java/lang/String", "valueOf", "(C)Ljava/lang/String;"⟩ : MethodName) jdk_42_method_139_code 1 (some (.object "java/lang/String")) :: ws) ({ frames := 2, cells := 2, slots := 5, locals := 27 } : Room)) (fun aα Uα => aα = #[(.int ch)] ∧ Z.Warmed39 Uα.vm ∧ Uα.heap = h0) (fun _ _ _ _ _ => True) (fun _ Uα oα Uβ => ∃ vα Lα, oα = .returned vα ∧ Q_rm7 Z ch cs h0 n0 vα Uβ.heap Lα ∧ FrameEnd Uα oα Uβ Lα ({ frames := 2, cells := 2, slots := 5, locals := 27 } : Room).cells ({ frames := 2, cells := 2, slots := 5, locals := 27 } : Room).slots) := by
  refine MetFree.of_bodySF (plainFor_of_name pn_java_lang_String) hisR ?_
  intro p e s m args below meth c s₁ Bd hml0 hP hKα
  obtain ⟨rfl, hZ, hh⟩ := hP
  have hx := Bd.exec
  have hby := Bd.bytes
  have hml : c.maxLocals = 1 := hml0
  have hown : s.vm.findClass "java/lang/String" = some m.cls := findClass_of_methodNamed Bd.named
  have hnm := (name_of_methodNamed Bd.named Bd.method).1
  have X0 : Stand p l e ({ frames := 2, cells := 2, slots := 5, locals := 27 } : Room) s m #[(.int ch)] below meth c s₁ [] 0 0 := Stand.of_body Bd
  have e0 : s₁.heap = h0 := by rw [← hh, Bd.state]; rfl
  have N0 := Fr.nil n0
  suffices k0 : Gl p e below s (Q_rm7 Z ch cs h0 n0) ({ frames := 2, cells := 2, slots := 5, locals := 27 } : Room).cells ({ frames := 2, cells := 2, slots := 5, locals := 27 } : Room).slots s₁ (mkF m 0 #[.val (.int ch)] []) from Gl.st (fun τ κ => castTop (ef_rm7 m ch) κ) k0
  obtain ⟨T75, X75, e75, st75⟩ := getS2 X0 hx hZ hown (host := "") (Or.inl (hw _ (List.mem_of_getElem? (i := 14) rfl))) Via.refl e0 S0 (g := (mkF m 0 #[.val (.int ch)] [])) rfl (hb hby d7_0)
  refine Gl.st (g' := (mkF m 3 #[.val (.int ch)] [(.int cs)])) (fun τ κ => st75 _ κ) ?_
  have hc76 : ¬ (cs = (0 : Int32)) := hcs
  refine Gl.st (g' := (mkF m 6 #[.val (.int ch)] [])) (fun τ κ => XS.ifNo X75.here hx rfl (hb hby d7_3) rfl ((if0 _ _).trans (feq hc76).1) κ) ?_
  refine Gl.st (g' := (mkF m 7 #[.val (.int ch)] [(.int ch)])) (fun τ κ => XS.iloadN X75.here hx rfl (hb hby d7_6) rfl κ) ?_
  obtain ⟨rv77, _, ⟨T77, L77, k77, n77⟩, -, X77, ⟨Lc77, hQ77, l77, y77, z77⟩, st77⟩ := Jvm.LawKit.callS X75 hx (y := (⟨"java/lang/StringLatin1", "canEncode", "(C)Z"⟩ : MethodName)) hown (mvT hZ (hw _ (List.mem_of_getElem? (i := 33) rfl))) (mvT hZ (hw _ (List.mem_of_getElem? (i := 34) rfl))) (mvT hZ (hw _ (List.mem_of_getElem? (i := 35) rfl))) (mvT hZ (hw _ (List.mem_of_getElem? (i := 36) rfl))) (by decide) (backOf (W := 0) (rm8 l Z a0 hw [] ch h0 n0 Z0 hch) hZ (hw _ (List.mem_of_getElem? (i := 36) rfl)) (hw _ (List.mem_of_getElem? (i := 35) rfl)) (by decide) (by decide)) (g := (mkF m 7 #[.val (.int ch)] [(.int ch)])) rfl (by rw [hml]; rfl) (argsL := [(.int ch)]) (rest := []) (lenOf pd_4 rfl) rfl (by show 2 * 0 + _ ≤ _; exact Nat.le_of_eq rfl) (hb hby d7_7) (fun _ _ => ⟨rfl, e75, (by decide : 0 + 0 ≤ _), (by decide : 0 + 0 ≤ _)⟩)
  dsimp only [Pt.U, Pt.locs, Pt.cells, Pt.slots] at X77 l77 y77 z77 st77 hQ77
  subst l77 y77 z77
  obtain ⟨rfl, N77q, e77⟩ := hQ77
  have N77 := Fr.app N0 N77q
  refine Gl.st (g' := (mkF m 10 #[.val (.int ch)] [(.int (1 : Int32))])) (fun τ κ => st77 _ κ) ?_
  have hc78 : ¬ ((1 : Int32) = (0 : Int32)) := by decide
  refine Gl.st (g' := (mkF m 13 #[.val (.int ch)] [])) (fun τ κ => XS.ifNo X77.here hx rfl (hb hby d7_10) rfl ((if0 _ _).trans (feq hc78).1) κ) ?_
  obtain ⟨T79, h79, X79, e79, E79, A79, D79, -, st79⟩ := newO X77 hx hZ hown (hw _ (List.mem_of_getElem? (i := 37) rfl)) (hw _ (List.mem_of_getElem? (i := 1) rfl)) (hw _ (List.mem_of_getElem? (i := 2) rfl)) e77 (g := (mkF m 13 #[.val (.int ch)] [])) rfl (hb hby d7_13) (by decide) (by decide)
  obtain ⟨b79, g79⟩ : ∃ z, z = h0.size := ⟨_, rfl⟩
  rw [← g79] at A79 D79 st79
  have S_80 := S0.ext E79
  have g_b79 : n0 ≤ b79 := Nat.le_trans Z0 (Nat.le_of_eq g79.symm)
  have sz_b79 : h0.size ≤ b79 := Nat.le_trans (Keep.refl h0 []).1 (Nat.le_of_eq g79.symm)
  have Z79 : n0 ≤ h79.size := Nat.le_trans Z0 E79.1
  have K79 : Keep h0 h79 [] := (Keep.refl h0 []).ext E79
  have F_81 : Fld Z h79 b79 "java/lang/String" "coder" "B" (.int (0 : Int32)) := D79 (Or.inr (hw _ (List.mem_of_getElem? (i := 27) rfl))) (ty := .byte) (by decide)
  have F_82 : Fld Z h79 b79 "java/lang/String" "value" "[B" .null := D79 (Or.inr (hw _ (List.mem_of_getElem? (i := 29) rfl))) (ty := (.array .byte)) (by decide)
  refine Gl.st (g' := (mkF m 16 #[.val (.int ch)] [(.ref b79)])) (fun τ κ => st79 _ κ) ?_
  refine Gl.st (g' := (mkF m 17 #[.val (.int ch)] [(.ref b79), (.ref b79)])) (fun τ κ => XS.dup X79.here hx rfl (hb hby d7_16) rfl rfl κ) ?_
  refine Gl.st (g' := (mkF m 18 #[.val (.int ch)] [(.int ch), (.ref b79), (.ref b79)])) (fun τ κ => XS.iloadN X79.here hx rfl (hb hby d7_17) rfl κ) ?_
  obtain ⟨rv83, _, ⟨T83, L83, k83, n83⟩, -, X83, ⟨Lc83, hQ83, l83, y83, z83⟩, st83⟩ := Jvm.LawKit.callS X79 hx (y := (⟨"java/lang/StringLatin1", "toBytes", "(C)[B"⟩ : MethodName)) hown (mvT hZ (hw _ (List.mem_of_getElem? (i := 38) rfl))) (mvT hZ (hw _ (List.mem_of_getElem? (i := 39) rfl))) (mvT hZ (hw _ (List.mem_of_getElem? (i := 35) rfl))) (mvT hZ (hw _ (List.mem_of_getElem? (i := 40) rfl))) (by decide) (backOf (W := 2) (rm9 l Z a0 hw [] ch h79 n0 Z79 ) hZ (hw _ (List.mem_of_getElem? (i := 40) rfl)) (hw _ (List.mem_of_getElem? (i := 35) rfl)) (by decide) (by decide)) (g := (mkF m 18 #[.val (.int ch)] [(.int ch), (.ref b79), (.ref b79)])) rfl (by rw [hml]; rfl) (argsL := [(.int ch)]) (rest := [(.ref b79), (.ref b79)]) (lenOf pd_5 rfl) rfl (by show 2 * 0 + _ ≤ _; exact Nat.le_of_eq rfl) (hb hby d7_18) (fun _ _ => ⟨rfl, e79, (by decide : 1 + 1 ≤ _), (by decide : 4 + 1 ≤ _)⟩)
  dsimp only [Pt.U, Pt.locs, Pt.cells, Pt.slots] at X83 l83 y83 z83 st83 hQ83
  subst l83 y83 z83
  obtain ⟨b83, kk83, vs83, rfl, N83q, Kc83, s83, V83⟩ := hQ83
  have ne_b79_b83 : b79 ≠ b83 := Nat.ne_of_lt (Nat.lt_of_lt_of_le A79.lt s83)
  have g_b83 : n0 ≤ b83 := Nat.le_trans Z79 s83
  have sz_b83 : h0.size ≤ b83 := Nat.le_trans K79.1 s83
  have S_84 := Sta.keepX S_80 Kc83 all0
  have E_85 := A79.keep Kc83
  have F_86 := F_81.keep Kc83 nin0
  have F_87 := F_82.keep Kc83 nin0
  have N83 := Fr.app N77 N83q
  have Z83 : n0 ≤ T83.heap.size := Nat.le_trans Z79 Kc83.1
  have K83 : Keep h0 T83.heap [] := K79.trans Kc83 all0
  refine Gl.st (g' := (mkF m 21 #[.val (.int ch)] [(.ref b83), (.ref b79), (.ref b79)])) (fun τ κ => st83 _ κ) ?_
  refine Gl.st (g' := (mkF m 22 #[.val (.int ch)] [(.int (0 : Int32)), (.ref b83), (.ref b79), (.ref b79)])) (fun τ κ => XS.iconst X83.here hx rfl (hb hby d7_21) κ) ?_
  obtain ⟨rv88, _, ⟨T88, L88, k88, n88⟩, -, X88, ⟨Lc88, hQ88, l88, y88, z88⟩, st88⟩ := X83.specialBack hx (y := (⟨"java/lang/String", "<init>", "([BB)V"⟩ : MethodName)) rfl hown (mvT hZ (hw _ (List.mem_of_getElem? (i := 41) rfl))) (mvT hZ (hw _ (List.mem_of_getElem? (i := 42) rfl))) (mvT hZ (hw _ (List.mem_of_getElem? (i := 43) rfl))) (by decide) (backOf (W := 1) (rm10 l Z a0 hw [] b79 b83 (0 : Int32) T83.heap n0 Z83 E_85 g_b79 F_87 F_86) hZ (hw _ (List.mem_of_getElem? (i := 43) rfl)) (hw _ (List.mem_of_getElem? (i := 2) rfl)) (by decide) (by decide)) (g := (mkF m 22 #[.val (.int ch)] [(.int (0 : Int32)), (.ref b83), (.ref b79), (.ref b79)])) rfl (by rw [hml]; rfl) (Steps.refl _) (a := b79) (argsL := [(.ref b83), (.int (0 : Int32))]) (rest := [(.ref b79)]) (lenOf pd_6 rfl) rfl (by show 2 * 0 + _ ≤ _; exact Nat.le_of_eq rfl) (hb hby d7_22) (fun _ _ => ⟨rfl, rfl, (by decide : 2 + 0 ≤ _), (by decide : 5 + 0 ≤ _)⟩)
  dsimp only [Pt.U, Pt.locs, Pt.cells, Pt.slots] at X88 l88 y88 z88 st88 hQ88
  subst l88 y88 z88
  obtain ⟨rfl, N88q, Kc88⟩ := hQ88
  have S_89 := Sta.keepX S_84 Kc88 (allS (P := fun x => ∃ c : Cell, T83.heap[x]? = some c ∧ ∀ q, c.vm ≠ .statics q) E_85.cell all0)
  have E_90 := E_85.keep Kc88
  have V_93 := V83.keep Kc88 (ninS (Ne.symm ne_b79_b83) nin0)
  have N88 := Fr.app N83 N88q
  have Z88 : n0 ≤ T88.heap.size := Nat.le_trans Z83 Kc88.1
  have K88 : Keep h0 T88.heap [] := K83.trans Kc88 (allS (Or.inr sz_b79) all0)
  refine Gl.st (g' := (mkF m 25 #[.val (.int ch)] [(.ref b79)])) (fun τ κ => st88.trans κ) ?_
  exact Gl.ret (v := some (.ref b79)) X88 Bd.notSynchronized (fun h => by rw [Bd.returns] at h; cases h) rfl (fun fs hr => (by
      jvm_step X88.here [X88.here.top, hx, (hb hby d7_25), X88.method', Bd.returns, Value.isRef, FieldType.isReference]
      first | (intro acts; rw [hr _ acts rfl rfl rfl]) | rw [hr _ _ rfl rfl rfl]
      exact Steps.refl _)) (by decide) (by decide) ⟨b79, rfl, N88, K88, sz_b79⟩
theorem d11_0 : decode prog_183_method_2_code 0 = .ok (.aload_n 0, 1) := by decide +kernel
theorem d11_1 : decode prog_183_method_2_code 1 = .ok (.invokespecial 1, 3) := by decide +kernel
theorem pd_7 : parseMethodDescriptor "()V" = some ⟨[], none⟩ := by decide +kernel
theorem d11_4 : decode prog_183_method_2_code 4 = .ok (.aload_n 0, 1) := by decide +kernel
theorem d11_5 : decode prog_183_method_2_code 5 = .ok (.iload_n 1, 1) := by decide +kernel
theorem d11_6 : decode prog_183_method_2_code 6 = .ok (.putfield 7, 3) := by decide +kernel
theorem d11_9 : decode prog_183_method_2_code 9 = .ok (.aload_n 0, 1) := by decide +kernel
theorem d11_10 : decode prog_183_method_2_code 10 = .ok (.lload_n 2, 1) := by decide +kernel
theorem d11_11 : decode prog_183_method_2_code 11 = .ok (.putfield 13, 3) := by decide +kernel
theorem d11_14 : decode prog_183_method_2_code 14 = .ok (.aload_n 0, 1) := by decide +kernel
theorem d11_15 : decode prog_183_method_2_code 15 = .ok (.aload 4, 2) := by decide +kernel
theorem d11_17 : decode prog_183_method_2_code 17 = .ok (.putfield 17, 3) := by decide +kernel
theorem d11_20 : decode prog_183_method_2_code 20 = .ok (.return_, 1) := by decide +kernel
theorem pn_com_example_warpcheck_warpcheck_Term_Input : plainName "com/example/warpcheck/warpcheck/Term$Input" = true := by first | (simp [plainName, overriddenIn]; done) | decide +kernel
theorem ef_rm_in1 (m : MethodId) (a : Addr) (p1 : Int32) (q2 : Int64) : entryFrame m #[(.ref a), (.int p1), (.long q2), .null] 5 = mkF m 0 #[.val (.ref a), .val (.int p1), .val (.long q2), .second, .val .null] [] := by first | (simp [entryFrame, mkF, argsToLocals, Value.category]; done) | rfl
def Q_rm_in1 (Z : State) (a : Addr) (p1 : Int32) (q2 : Int64)  (h0 : Heap) (n0 : Nat) (v : Option Value) (h : Heap) (L : List Loc) : Prop := v = none ∧ Fr n0 L ∧ Keep h0 h [a] ∧ Exa Z h a "com/example/warpcheck/warpcheck/Term$Input" ∧ Fld Z h a "com/example/warpcheck/warpcheck/Term$Input" "arg" "I" (.int p1) ∧ Fld Z h a "com/example/warpcheck/warpcheck/Term$Input" "index" "J" (.long q2)
set_option maxRecDepth 65536 in
set_option maxHeartbeats 40000000 in
theorem rm_in1 (l : Launch) (Z : State) (a0 : Array Value) (hw : ∀ d ∈ tables_1, d.before a0 Z = true) (ws : List Jvm.Cond) (a : Addr) (p1 : Int32) (q2 : Int64)  (h0 : Heap) (n0 : Nat) (Z0 : n0 ≤ h0.size) (E0 : Exa Z h0 a "com/example/warpcheck/warpcheck/Term$Input") (g0 : n0 ≤ a) (F0 : Fld Z h0 a "com/example/warpcheck/warpcheck/Term$Input" "arg" "I" (.int (0 : Int32))) (F1 : Fld Z h0 a "com/example/warpcheck/warpcheck/Term$Input" "index" "J" (.long (0 : Int64))) (F2 : Fld Z h0 a "com/example/warpcheck/warpcheck/Term$Input" "variable" "Ljava/lang/String;" .null) :
    MetFree l (⟨"com/example/warpcheck/warpcheck/Term$Input", "<init>", "(IJLjava/lang/String;)V"⟩ : MethodName) (head1 (Jvm.Cond.code (⟨"com/example/warpcheck/warpcheck/Term$Input", "<init>", "(IJLjava/lang/String;)V"⟩ : MethodName) prog_183_method_2_code 5 none :: ws) ({ frames := 2, cells := 0, slots := 0, locals := 24 } : Room)) (fun aα Uα => aα = #[(.ref a), (.int p1), (.long q2), .null] ∧ Z.Warmed39 Uα.vm ∧ Uα.heap = h0) (fun _ _ _ _ _ => True) (fun _ Uα oα Uβ => ∃ vα Lα, oα = .returned vα ∧ Q_rm_in1 Z a p1 q2  h0 n0 vα Uβ.heap Lα ∧ FrameEnd Uα oα Uβ Lα ({ frames := 2, cells := 0, slots := 0, locals := 24 } : Room).cells ({ frames := 2, cells := 0, slots := 0, locals := 24 } : Room).slots) := by
  refine MetFree.of_bodySF (plainFor_of_name pn_com_example_warpcheck_warpcheck_Term_Input) hisR ?_
  intro p e s m args below meth c s₁ Bd hml0 hP hKα
  obtain ⟨rfl, hZ, hh⟩ := hP
  have hx := Bd.exec
  have hby := Bd.bytes
  have hml : c.maxLocals = 5 := hml0
  have hown : s.vm.findClass "com/example/warpcheck/warpcheck/Term$Input" = some m.cls := findClass_of_methodNamed Bd.named
  have hnm := (name_of_methodNamed Bd.named Bd.method).1
  have X0 : Stand p l e ({ frames := 2, cells := 0, slots := 0, locals := 24 } : Room) s m #[(.ref a), (.int p1), (.long q2), .null] below meth c s₁ [] 0 0 := Stand.of_body Bd
  have e0 : s₁.heap = h0 := by rw [← hh, Bd.state]; rfl
  have N0 := Fr.nil n0
  suffices k0 : Gl p e below s (Q_rm_in1 Z a p1 q2  h0 n0) ({ frames := 2, cells := 0, slots := 0, locals := 24 } : Room).cells ({ frames := 2, cells := 0, slots := 0, locals := 24 } : Room).slots s₁ (mkF m 0 #[.val (.ref a), .val (.int p1), .val (.long q2), .second, .val .null] []) from Gl.st (fun τ κ => castTop (ef_rm_in1 m a p1 q2) κ) k0
  refine Gl.st (g' := (mkF m 1 #[.val (.ref a), .val (.int p1), .val (.long q2), .second, .val .null] [(.ref a)])) (fun τ κ => XS.aloadN X0.here hx rfl (hb hby d11_0) rfl rfl κ) ?_
  obtain ⟨rv94, _, ⟨T94, L94, k94, n94⟩, -, X94, ⟨Lc94, hQ94, l94, y94, z94⟩, st94⟩ := X0.specialBack hx (y := (⟨"java/lang/Record", "<init>", "()V"⟩ : MethodName)) rfl hown (mvT hZ (hw _ (List.mem_of_getElem? (i := 50) rfl))) (mvT hZ (hw _ (List.mem_of_getElem? (i := 51) rfl))) (mvT hZ (hw _ (List.mem_of_getElem? (i := 54) rfl))) (by decide) (backOf (W := 0) (rm12 l Z a0 hw [] a h0 n0 Z0 ) hZ (hw _ (List.mem_of_getElem? (i := 54) rfl)) (hw _ (List.mem_of_getElem? (i := 53) rfl)) (by decide) (by decide)) (g := (mkF m 1 #[.val (.ref a), .val (.int p1), .val (.long q2), .second, .val .null] [(.ref a)])) rfl (by rw [hml]; rfl) (Steps.refl _) (a := a) (argsL := []) (rest := []) (lenOf pd_7 rfl) rfl (by show 2 * 0 + _ ≤ _; exact Nat.le_of_eq rfl) (hb hby d11_1) (fun _ _ => ⟨rfl, e0, (by decide : 0 + 0 ≤ _), (by decide : 0 + 0 ≤ _)⟩)
  dsimp only [Pt.U, Pt.locs, Pt.cells, Pt.slots] at X94 l94 y94 z94 st94 hQ94
  subst l94 y94 z94
  obtain ⟨rfl, N94q, e94⟩ := hQ94
  have N94 := Fr.app N0 N94q
  refine Gl.st (g' := (mkF m 4 #[.val (.ref a), .val (.int p1), .val (.long q2), .second, .val .null] [])) (fun τ κ => st94.trans κ) ?_
  refine Gl.st (g' := (mkF m 5 #[.val (.ref a), .val (.int p1), .val (.long q2), .second, .val .null] [(.ref a)])) (fun τ κ => XS.aloadN X94.here hx rfl (hb hby d11_4) rfl rfl κ) ?_
  refine Gl.st (g' := (mkF m 6 #[.val (.ref a), .val (.int p1), .val (.long q2), .second, .val .null] [(.int p1), (.ref a)])) (fun τ κ => XS.iloadN X94.here hx rfl (hb hby d11_5) rfl κ) ?_
  obtain ⟨T95, h95, X95, e95, W95, st95⟩ := putF X94 hx hZ hown (host := "") (Or.inl (hw _ (List.mem_of_getElem? (i := 56) rfl))) Via.refl e94 F0 E0 (Or.inr ⟨(hw _ (List.mem_of_getElem? (i := 57) rfl)), rfl, hnm⟩) (hw _ (List.mem_of_getElem? (i := 45) rfl)) (ty := .int) (by decide) rfl rfl (g := (mkF m 6 #[.val (.ref a), .val (.int p1), .val (.long q2), .second, .val .null] [(.int p1), (.ref a)])) rfl rfl (hb hby d11_6)
  have E_96 := E0.wr W95
  have F_98 := F1.other W95 (Or.inr (slot_ne (Or.inr (hw _ (List.mem_of_getElem? (i := 59) rfl))) (Or.inr (hw _ (List.mem_of_getElem? (i := 57) rfl))) (by decide) (t := .long) (t' := .int) (by decide) (by decide)))
  have F_99 := F2.other W95 (Or.inr (slot_ne (Or.inr (hw _ (List.mem_of_getElem? (i := 61) rfl))) (Or.inr (hw _ (List.mem_of_getElem? (i := 57) rfl))) (by decide) (t := (.object "java/lang/String")) (t' := .int) (by decide) (by decide)))
  have N95 := Fr.snoc X95 N94 g0
  have Z95 : n0 ≤ h95.size := Nat.le_trans Z0 (Nat.le_of_eq W95.size.symm)
  have K95 : Keep h0 h95 [a] := (Keep.refl h0 [a]).wr W95 (Or.inl (List.mem_of_getElem? (i := 0) rfl))
  have F_100 := F0.same W95
  refine Gl.st (g' := (mkF m 9 #[.val (.ref a), .val (.int p1), .val (.long q2), .second, .val .null] [])) (fun τ κ => st95 _ κ) ?_
  refine Gl.st (g' := (mkF m 10 #[.val (.ref a), .val (.int p1), .val (.long q2), .second, .val .null] [(.ref a)])) (fun τ κ => XS.aloadN X95.here hx rfl (hb hby d11_9) rfl rfl κ) ?_
  refine Gl.st (g' := (mkF m 11 #[.val (.ref a), .val (.int p1), .val (.long q2), .second, .val .null] [(.long q2), (.ref a)])) (fun τ κ => XS.lloadN X95.here hx rfl (hb hby d11_10) rfl κ) ?_
  obtain ⟨T101, h101, X101, e101, W101, st101⟩ := putF X95 hx hZ hown (host := "") (Or.inl (hw _ (List.mem_of_getElem? (i := 58) rfl))) Via.refl e95 F_98 E_96 (Or.inr ⟨(hw _ (List.mem_of_getElem? (i := 59) rfl)), rfl, hnm⟩) (hw _ (List.mem_of_getElem? (i := 45) rfl)) (ty := .long) (by decide) rfl rfl (g := (mkF m 11 #[.val (.ref a), .val (.int p1), .val (.long q2), .second, .val .null] [(.long q2), (.ref a)])) rfl rfl (hb hby d11_11)
  have E_102 := E_96.wr W101
  have F_103 := F_100.other W101 (Or.inr (slot_ne (Or.inr (hw _ (List.mem_of_getElem? (i := 57) rfl))) (Or.inr (hw _ (List.mem_of_getElem? (i := 59) rfl))) (by decide) (t := .int) (t' := .long) (by decide) (by decide)))
  have F_105 := F_99.other W101 (Or.inr (slot_ne (Or.inr (hw _ (List.mem_of_getElem? (i := 61) rfl))) (Or.inr (hw _ (List.mem_of_getElem? (i := 59) rfl))) (by decide) (t := (.object "java/lang/String")) (t' := .long) (by decide) (by decide)))
  have N101 := Fr.snoc X101 N95 g0
  have Z101 : n0 ≤ h101.size := Nat.le_trans Z95 (Nat.le_of_eq W101.size.symm)
  have K101 : Keep h0 h101 [a] := K95.wr W101 (Or.inl (List.mem_of_getElem? (i := 0) rfl))
  have F_106 := F_98.same W101
  refine Gl.st (g' := (mkF m 14 #[.val (.ref a), .val (.int p1), .val (.long q2), .second, .val .null] [])) (fun τ κ => st101 _ κ) ?_
  refine Gl.st (g' := (mkF m 15 #[.val (.ref a), .val (.int p1), .val (.long q2), .second, .val .null] [(.ref a)])) (fun τ κ => XS.aloadN X101.here hx rfl (hb hby d11_14) rfl rfl κ) ?_
  refine Gl.st (g' := (mkF m 17 #[.val (.ref a), .val (.int p1), .val (.long q2), .second, .val .null] [.null, (.ref a)])) (fun τ κ => XS.aload X101.here hx rfl (hb hby d11_15) rfl rfl κ) ?_
  obtain ⟨T107, h107, X107, e107, W107, st107⟩ := putF X101 hx hZ hown (host := "") (Or.inl (hw _ (List.mem_of_getElem? (i := 60) rfl))) Via.refl e101 F_105 E_102 (Or.inr ⟨(hw _ (List.mem_of_getElem? (i := 61) rfl)), rfl, hnm⟩) (hw _ (List.mem_of_getElem? (i := 45) rfl)) (ty := (.object "java/lang/String")) (by decide) rfl rfl (g := (mkF m 17 #[.val (.ref a), .val (.int p1), .val (.long q2), .second, .val .null] [.null, (.ref a)])) rfl rfl (hb hby d11_17)
  have E_108 := E_102.wr W107
  have F_109 := F_103.other W107 (Or.inr (slot_ne (Or.inr (hw _ (List.mem_of_getElem? (i := 57) rfl))) (Or.inr (hw _ (List.mem_of_getElem? (i := 61) rfl))) (by decide) (t := .int) (t' := (.object "java/lang/String")) (by decide) (by decide)))
  have F_110 := F_106.other W107 (Or.inr (slot_ne (Or.inr (hw _ (List.mem_of_getElem? (i := 59) rfl))) (Or.inr (hw _ (List.mem_of_getElem? (i := 61) rfl))) (by decide) (t := .long) (t' := (.object "java/lang/String")) (by decide) (by decide)))
  have N107 := Fr.snoc X107 N101 g0
  have Z107 : n0 ≤ h107.size := Nat.le_trans Z101 (Nat.le_of_eq W107.size.symm)
  have K107 : Keep h0 h107 [a] := K101.wr W107 (Or.inl (List.mem_of_getElem? (i := 0) rfl))
  have F_112 := F_105.same W107
  refine Gl.st (g' := (mkF m 20 #[.val (.ref a), .val (.int p1), .val (.long q2), .second, .val .null] [])) (fun τ κ => st107 _ κ) ?_
  exact Gl.ret (v := none) X107 Bd.notSynchronized (fun _ => rfl) e107 (fun fs hr => X107.returnOut hx Bd.returns (hb hby d11_20) hr) (by decide) (by decide) ⟨rfl, N107, K107, E_108, F_109, F_110⟩
theorem ef_rm_in0 (m : MethodId) (a : Addr) (p1 : Int32) (q2 : Int64) (r3 : Addr) : entryFrame m #[(.ref a), (.int p1), (.long q2), (.ref r3)] 5 = mkF m 0 #[.val (.ref a), .val (.int p1), .val (.long q2), .second, .val (.ref r3)] [] := by first | (simp [entryFrame, mkF, argsToLocals, Value.category]; done) | rfl
def Q_rm_in0 (Z : State) (a : Addr) (p1 : Int32) (q2 : Int64) (r3 : Addr)  (h0 : Heap) (n0 : Nat) (v : Option Value) (h : Heap) (L : List Loc) : Prop := v = none ∧ Fr n0 L ∧ Keep h0 h [a] ∧ Exa Z h a "com/example/warpcheck/warpcheck/Term$Input" ∧ Fld Z h a "com/example/warpcheck/warpcheck/Term$Input" "arg" "I" (.int p1) ∧ Fld Z h a "com/example/warpcheck/warpcheck/Term$Input" "index" "J" (.long q2)
set_option maxRecDepth 65536 in
set_option maxHeartbeats 40000000 in
theorem rm_in0 (l : Launch) (Z : State) (a0 : Array Value) (hw : ∀ d ∈ tables_1, d.before a0 Z = true) (ws : List Jvm.Cond) (a : Addr) (p1 : Int32) (q2 : Int64) (r3 : Addr)  (h0 : Heap) (n0 : Nat) (Z0 : n0 ≤ h0.size) (E0 : Exa Z h0 a "com/example/warpcheck/warpcheck/Term$Input") (g0 : n0 ≤ a) (F0 : Fld Z h0 a "com/example/warpcheck/warpcheck/Term$Input" "arg" "I" (.int (0 : Int32))) (F1 : Fld Z h0 a "com/example/warpcheck/warpcheck/Term$Input" "index" "J" (.long (0 : Int64))) (F2 : Fld Z h0 a "com/example/warpcheck/warpcheck/Term$Input" "variable" "Ljava/lang/String;" .null) :
    MetFree l (⟨"com/example/warpcheck/warpcheck/Term$Input", "<init>", "(IJLjava/lang/String;)V"⟩ : MethodName) (head1 (Jvm.Cond.code (⟨"com/example/warpcheck/warpcheck/Term$Input", "<init>", "(IJLjava/lang/String;)V"⟩ : MethodName) prog_183_method_2_code 5 none :: ws) ({ frames := 2, cells := 0, slots := 0, locals := 24 } : Room)) (fun aα Uα => aα = #[(.ref a), (.int p1), (.long q2), (.ref r3)] ∧ Z.Warmed39 Uα.vm ∧ Uα.heap = h0) (fun _ _ _ _ _ => True) (fun _ Uα oα Uβ => ∃ vα Lα, oα = .returned vα ∧ Q_rm_in0 Z a p1 q2 r3  h0 n0 vα Uβ.heap Lα ∧ FrameEnd Uα oα Uβ Lα ({ frames := 2, cells := 0, slots := 0, locals := 24 } : Room).cells ({ frames := 2, cells := 0, slots := 0, locals := 24 } : Room).slots) := by
  refine MetFree.of_bodySF (plainFor_of_name pn_com_example_warpcheck_warpcheck_Term_Input) hisR ?_
  intro p e s m args below meth c s₁ Bd hml0 hP hKα
  obtain ⟨rfl, hZ, hh⟩ := hP
  have hx := Bd.exec
  have hby := Bd.bytes
  have hml : c.maxLocals = 5 := hml0
  have hown : s.vm.findClass "com/example/warpcheck/warpcheck/Term$Input" = some m.cls := findClass_of_methodNamed Bd.named
  have hnm := (name_of_methodNamed Bd.named Bd.method).1
  have X0 : Stand p l e ({ frames := 2, cells := 0, slots := 0, locals := 24 } : Room) s m #[(.ref a), (.int p1), (.long q2), (.ref r3)] below meth c s₁ [] 0 0 := Stand.of_body Bd
  have e0 : s₁.heap = h0 := by rw [← hh, Bd.state]; rfl
  have N0 := Fr.nil n0
  suffices k0 : Gl p e below s (Q_rm_in0 Z a p1 q2 r3  h0 n0) ({ frames := 2, cells := 0, slots := 0, locals := 24 } : Room).cells ({ frames := 2, cells := 0, slots := 0, locals := 24 } : Room).slots s₁ (mkF m 0 #[.val (.ref a), .val (.int p1), .val (.long q2), .second, .val (.ref r3)] []) from Gl.st (fun τ κ => castTop (ef_rm_in0 m a p1 q2 r3) κ) k0
  refine Gl.st (g' := (mkF m 1 #[.val (.ref a), .val (.int p1), .val (.long q2), .second, .val (.ref r3)] [(.ref a)])) (fun τ κ => XS.aloadN X0.here hx rfl (hb hby d11_0) rfl rfl κ) ?_
  obtain ⟨rv113, _, ⟨T113, L113, k113, n113⟩, -, X113, ⟨Lc113, hQ113, l113, y113, z113⟩, st113⟩ := X0.specialBack hx (y := (⟨"java/lang/Record", "<init>", "()V"⟩ : MethodName)) rfl hown (mvT hZ (hw _ (List.mem_of_getElem? (i := 50) rfl))) (mvT hZ (hw _ (List.mem_of_getElem? (i := 51) rfl))) (mvT hZ (hw _ (List.mem_of_getElem? (i := 54) rfl))) (by decide) (backOf (W := 0) (rm12 l Z a0 hw [] a h0 n0 Z0 ) hZ (hw _ (List.mem_of_getElem? (i := 54) rfl)) (hw _ (List.mem_of_getElem? (i := 53) rfl)) (by decide) (by decide)) (g := (mkF m 1 #[.val (.ref a), .val (.int p1), .val (.long q2), .second, .val (.ref r3)] [(.ref a)])) rfl (by rw [hml]; rfl) (Steps.refl _) (a := a) (argsL := []) (rest := []) (lenOf pd_7 rfl) rfl (by show 2 * 0 + _ ≤ _; exact Nat.le_of_eq rfl) (hb hby d11_1) (fun _ _ => ⟨rfl, e0, (by decide : 0 + 0 ≤ _), (by decide : 0 + 0 ≤ _)⟩)
  dsimp only [Pt.U, Pt.locs, Pt.cells, Pt.slots] at X113 l113 y113 z113 st113 hQ113
  subst l113 y113 z113
  obtain ⟨rfl, N113q, e113⟩ := hQ113
  have N113 := Fr.app N0 N113q
  refine Gl.st (g' := (mkF m 4 #[.val (.ref a), .val (.int p1), .val (.long q2), .second, .val (.ref r3)] [])) (fun τ κ => st113.trans κ) ?_
  refine Gl.st (g' := (mkF m 5 #[.val (.ref a), .val (.int p1), .val (.long q2), .second, .val (.ref r3)] [(.ref a)])) (fun τ κ => XS.aloadN X113.here hx rfl (hb hby d11_4) rfl rfl κ) ?_
  refine Gl.st (g' := (mkF m 6 #[.val (.ref a), .val (.int p1), .val (.long q2), .second, .val (.ref r3)] [(.int p1), (.ref a)])) (fun τ κ => XS.iloadN X113.here hx rfl (hb hby d11_5) rfl κ) ?_
  obtain ⟨T114, h114, X114, e114, W114, st114⟩ := putF X113 hx hZ hown (host := "") (Or.inl (hw _ (List.mem_of_getElem? (i := 56) rfl))) Via.refl e113 F0 E0 (Or.inr ⟨(hw _ (List.mem_of_getElem? (i := 57) rfl)), rfl, hnm⟩) (hw _ (List.mem_of_getElem? (i := 45) rfl)) (ty := .int) (by decide) rfl rfl (g := (mkF m 6 #[.val (.ref a), .val (.int p1), .val (.long q2), .second, .val (.ref r3)] [(.int p1), (.ref a)])) rfl rfl (hb hby d11_6)
  have E_115 := E0.wr W114
  have F_117 := F1.other W114 (Or.inr (slot_ne (Or.inr (hw _ (List.mem_of_getElem? (i := 59) rfl))) (Or.inr (hw _ (List.mem_of_getElem? (i := 57) rfl))) (by decide) (t := .long) (t' := .int) (by decide) (by decide)))
  have F_118 := F2.other W114 (Or.inr (slot_ne (Or.inr (hw _ (List.mem_of_getElem? (i := 61) rfl))) (Or.inr (hw _ (List.mem_of_getElem? (i := 57) rfl))) (by decide) (t := (.object "java/lang/String")) (t' := .int) (by decide) (by decide)))
  have N114 := Fr.snoc X114 N113 g0
  have Z114 : n0 ≤ h114.size := Nat.le_trans Z0 (Nat.le_of_eq W114.size.symm)
  have K114 : Keep h0 h114 [a] := (Keep.refl h0 [a]).wr W114 (Or.inl (List.mem_of_getElem? (i := 0) rfl))
  have F_119 := F0.same W114
  refine Gl.st (g' := (mkF m 9 #[.val (.ref a), .val (.int p1), .val (.long q2), .second, .val (.ref r3)] [])) (fun τ κ => st114 _ κ) ?_
  refine Gl.st (g' := (mkF m 10 #[.val (.ref a), .val (.int p1), .val (.long q2), .second, .val (.ref r3)] [(.ref a)])) (fun τ κ => XS.aloadN X114.here hx rfl (hb hby d11_9) rfl rfl κ) ?_
  refine Gl.st (g' := (mkF m 11 #[.val (.ref a), .val (.int p1), .val (.long q2), .second, .val (.ref r3)] [(.long q2), (.ref a)])) (fun τ κ => XS.lloadN X114.here hx rfl (hb hby d11_10) rfl κ) ?_
  obtain ⟨T120, h120, X120, e120, W120, st120⟩ := putF X114 hx hZ hown (host := "") (Or.inl (hw _ (List.mem_of_getElem? (i := 58) rfl))) Via.refl e114 F_117 E_115 (Or.inr ⟨(hw _ (List.mem_of_getElem? (i := 59) rfl)), rfl, hnm⟩) (hw _ (List.mem_of_getElem? (i := 45) rfl)) (ty := .long) (by decide) rfl rfl (g := (mkF m 11 #[.val (.ref a), .val (.int p1), .val (.long q2), .second, .val (.ref r3)] [(.long q2), (.ref a)])) rfl rfl (hb hby d11_11)
  have E_121 := E_115.wr W120
  have F_122 := F_119.other W120 (Or.inr (slot_ne (Or.inr (hw _ (List.mem_of_getElem? (i := 57) rfl))) (Or.inr (hw _ (List.mem_of_getElem? (i := 59) rfl))) (by decide) (t := .int) (t' := .long) (by decide) (by decide)))
  have F_124 := F_118.other W120 (Or.inr (slot_ne (Or.inr (hw _ (List.mem_of_getElem? (i := 61) rfl))) (Or.inr (hw _ (List.mem_of_getElem? (i := 59) rfl))) (by decide) (t := (.object "java/lang/String")) (t' := .long) (by decide) (by decide)))
  have N120 := Fr.snoc X120 N114 g0
  have Z120 : n0 ≤ h120.size := Nat.le_trans Z114 (Nat.le_of_eq W120.size.symm)
  have K120 : Keep h0 h120 [a] := K114.wr W120 (Or.inl (List.mem_of_getElem? (i := 0) rfl))
  have F_125 := F_117.same W120
  refine Gl.st (g' := (mkF m 14 #[.val (.ref a), .val (.int p1), .val (.long q2), .second, .val (.ref r3)] [])) (fun τ κ => st120 _ κ) ?_
  refine Gl.st (g' := (mkF m 15 #[.val (.ref a), .val (.int p1), .val (.long q2), .second, .val (.ref r3)] [(.ref a)])) (fun τ κ => XS.aloadN X120.here hx rfl (hb hby d11_14) rfl rfl κ) ?_
  refine Gl.st (g' := (mkF m 17 #[.val (.ref a), .val (.int p1), .val (.long q2), .second, .val (.ref r3)] [(.ref r3), (.ref a)])) (fun τ κ => XS.aload X120.here hx rfl (hb hby d11_15) rfl rfl κ) ?_
  obtain ⟨T126, h126, X126, e126, W126, st126⟩ := putF X120 hx hZ hown (host := "") (Or.inl (hw _ (List.mem_of_getElem? (i := 60) rfl))) Via.refl e120 F_124 E_121 (Or.inr ⟨(hw _ (List.mem_of_getElem? (i := 61) rfl)), rfl, hnm⟩) (hw _ (List.mem_of_getElem? (i := 45) rfl)) (ty := (.object "java/lang/String")) (by decide) rfl rfl (g := (mkF m 17 #[.val (.ref a), .val (.int p1), .val (.long q2), .second, .val (.ref r3)] [(.ref r3), (.ref a)])) rfl rfl (hb hby d11_17)
  have E_127 := E_121.wr W126
  have F_128 := F_122.other W126 (Or.inr (slot_ne (Or.inr (hw _ (List.mem_of_getElem? (i := 57) rfl))) (Or.inr (hw _ (List.mem_of_getElem? (i := 61) rfl))) (by decide) (t := .int) (t' := (.object "java/lang/String")) (by decide) (by decide)))
  have F_129 := F_125.other W126 (Or.inr (slot_ne (Or.inr (hw _ (List.mem_of_getElem? (i := 59) rfl))) (Or.inr (hw _ (List.mem_of_getElem? (i := 61) rfl))) (by decide) (t := .long) (t' := (.object "java/lang/String")) (by decide) (by decide)))
  have N126 := Fr.snoc X126 N120 g0
  have Z126 : n0 ≤ h126.size := Nat.le_trans Z120 (Nat.le_of_eq W126.size.symm)
  have K126 : Keep h0 h126 [a] := K120.wr W126 (Or.inl (List.mem_of_getElem? (i := 0) rfl))
  have F_131 := F_124.same W126
  refine Gl.st (g' := (mkF m 20 #[.val (.ref a), .val (.int p1), .val (.long q2), .second, .val (.ref r3)] [])) (fun τ κ => st126 _ κ) ?_
  exact Gl.ret (v := none) X126 Bd.notSynchronized (fun _ => rfl) e126 (fun fs hr => X126.returnOut hx Bd.returns (hb hby d11_20) hr) (by decide) (by decide) ⟨rfl, N126, K126, E_127, F_128, F_129⟩
def own_eq (a : Int32) (i : Int64) (b : Int32) (j : Int64) : Int32 := if a = b then (if i = j then 1 else 0) else 0
theorem own_nots {Z : State} {a0 : Array Value} {C D O K : String} {n : Nat} (w1 : (Cond.superclass C D).before a0 Z = true) (w2 : (Cond.superclass D O).before a0 Z = true) (w3 : (Cond.noSuperclass O).before a0 Z = true) (wi : (Cond.instantiable K n).before a0 Z = true) (n1 : C ≠ K) (n2 : D ≠ K) (n3 : O ≠ K) : ∃ c t, Z.vm.findClass C = some c ∧ Z.vm.findClass K = some t ∧ Z.vm.assignable c t = false := by
  obtain ⟨t, kt, t1, t2, t3, t4, -, -⟩ := Cond.instantiable_spec wi
  simp only [Bool.or_eq_false_iff] at t4
  obtain ⟨o, ko, o1, o2, o3, -, -⟩ := Cond.noSuperclass_spec w3
  have eo : ∀ fuel, Z.vm.isSubclassAux fuel o t = false := fun fuel => by
    cases fuel with
    | zero => rfl
    | succ f => simp [Vm.isSubclassAux, ids_ne o1 t1 n3, o2, o3]
  obtain ⟨d, d1⟩ := found_sup w2
  obtain ⟨p, k, kp, h1, h2, h3, h4, -⟩ := Cond.superclass_spec d1 w2
  cases o1.symm.trans h1
  have ed : ∀ fuel, Z.vm.isSubclassAux fuel d t = false := fun fuel => by
    cases fuel with
    | zero => rfl
    | succ f => simp [Vm.isSubclassAux, ids_ne d1 t1 n2, h2, h4, eo]
  obtain ⟨c, c1⟩ := found_sup w1
  obtain ⟨p', k', kp', g1, g2, g3, g4, g5, -, g7⟩ := Cond.superclass_spec c1 w1
  cases d1.symm.trans g1
  have ec : ∀ fuel, Z.vm.isSubclassAux fuel c t = false := fun fuel => by
    cases fuel with
    | zero => rfl
    | succ f => simp [Vm.isSubclassAux, ids_ne c1 t1 n1, g2, g4, ed]
  refine ⟨c, t, c1, t1, ?_⟩
  show Z.vm.assignableAux (255 + 1) c t = false
  simp [Vm.assignableAux, ids_ne c1 t1 n1, g2, t2, g5, t3, t4.1, Vm.isSubclass, ec]
def own_hash (a : Int32) (i : Int64) : Int32 := ((((((a.toInt64 * (-7046029254386353131 : Int64)) + i) * (-4658895280553007687 : Int64))) ^^^ (((((((a.toInt64 * (-7046029254386353131 : Int64)) + i) * (-4658895280553007687 : Int64))).toUInt64 >>> ((31 : Int32) &&& 0x3f).toInt64.toUInt64).toInt64))).toInt32)
theorem d13_0 : decode prog_183_method_4_code 0 = .ok (.aload_n 1, 1) := by decide +kernel
theorem d13_1 : decode prog_183_method_4_code 1 = .ok (.instanceof 8, 3) := by decide +kernel
theorem d13_4 : decode prog_183_method_4_code 4 = .ok (.ifCond .eq 35, 3) := by decide +kernel
theorem d13_7 : decode prog_183_method_4_code 7 = .ok (.aload_n 1, 1) := by decide +kernel
theorem d13_8 : decode prog_183_method_4_code 8 = .ok (.checkcast 8, 3) := by decide +kernel
theorem d13_11 : decode prog_183_method_4_code 11 = .ok (.astore_n 2, 1) := by decide +kernel
theorem d13_12 : decode prog_183_method_4_code 12 = .ok (.aload_n 0, 1) := by decide +kernel
theorem d13_13 : decode prog_183_method_4_code 13 = .ok (.getfield 7, 3) := by decide +kernel
theorem d13_16 : decode prog_183_method_4_code 16 = .ok (.aload_n 2, 1) := by decide +kernel
theorem d13_17 : decode prog_183_method_4_code 17 = .ok (.getfield 7, 3) := by decide +kernel
theorem d13_20 : decode prog_183_method_4_code 20 = .ok (.if_icmp .ne 19, 3) := by decide +kernel
theorem d13_23 : decode prog_183_method_4_code 23 = .ok (.aload_n 0, 1) := by decide +kernel
theorem d13_24 : decode prog_183_method_4_code 24 = .ok (.getfield 13, 3) := by decide +kernel
theorem d13_27 : decode prog_183_method_4_code 27 = .ok (.aload_n 2, 1) := by decide +kernel
theorem d13_28 : decode prog_183_method_4_code 28 = .ok (.getfield 13, 3) := by decide +kernel
theorem d13_31 : decode prog_183_method_4_code 31 = .ok (.lcmp, 1) := by decide +kernel
theorem d13_32 : decode prog_183_method_4_code 32 = .ok (.ifCond .ne 7, 3) := by decide +kernel
theorem d13_35 : decode prog_183_method_4_code 35 = .ok (.iconst 1, 1) := by decide +kernel
theorem d13_36 : decode prog_183_method_4_code 36 = .ok (.goto 4, 3) := by decide +kernel
theorem d13_40 : decode prog_183_method_4_code 40 = .ok (.ireturn, 1) := by decide +kernel
theorem d13_39 : decode prog_183_method_4_code 39 = .ok (.iconst 0, 1) := by decide +kernel
theorem ef_rm_eq (m : MethodId) (a : Addr) (el : Addr) : entryFrame m #[(.ref a), (.ref el)] 3 = mkF m 0 #[.val (.ref a), .val (.ref el), .unset] [] := by first | (simp [entryFrame, mkF, argsToLocals, Value.category]; done) | rfl
def Q_rm_eq (Z : State) (a : Addr) (el : Addr) (w0 u0 : Int32) (w1 u1 : Int64) (h0 : Heap) (n0 : Nat) (v : Option Value) (h : Heap) (L : List Loc) : Prop := v = some (.int (own_eq w0 w1 u0 u1)) ∧ Fr n0 L ∧ h = h0
set_option maxRecDepth 65536 in
set_option maxHeartbeats 40000000 in
theorem rm_eq (l : Launch) (Z : State) (a0 : Array Value) (hw : ∀ d ∈ tables_1, d.before a0 Z = true) (ws : List Jvm.Cond) (a : Addr) (el : Addr) (w0 u0 : Int32) (w1 u1 : Int64) (h0 : Heap) (n0 : Nat) (Z0 : n0 ≤ h0.size) (E1 : Exa Z h0 el "com/example/warpcheck/warpcheck/Term$Input") (F0 : Fld Z h0 a "com/example/warpcheck/warpcheck/Term$Input" "arg" "I" (.int w0)) (F1 : Fld Z h0 a "com/example/warpcheck/warpcheck/Term$Input" "index" "J" (.long w1)) (F2 : Fld Z h0 el "com/example/warpcheck/warpcheck/Term$Input" "arg" "I" (.int u0)) (F3 : Fld Z h0 el "com/example/warpcheck/warpcheck/Term$Input" "index" "J" (.long u1)) :
    MetFree l (⟨"com/example/warpcheck/warpcheck/Term$Input", "equals", "(Ljava/lang/Object;)Z"⟩ : MethodName) (head1 (Jvm.Cond.code (⟨"com/example/warpcheck/warpcheck/Term$Input", "equals", "(Ljava/lang/Object;)Z"⟩ : MethodName) prog_183_method_4_code 3 (some .boolean) :: ws) ({ frames := 0, cells := 0, slots := 0, locals := 0 } : Room)) (fun aα Uα => aα = #[(.ref a), (.ref el)] ∧ Z.Warmed39 Uα.vm ∧ Uα.heap = h0) (fun _ _ _ _ _ => True) (fun _ Uα oα Uβ => ∃ vα Lα, oα = .returned vα ∧ Q_rm_eq Z a el w0 u0 w1 u1 h0 n0 vα Uβ.heap Lα ∧ FrameEnd Uα oα Uβ Lα ({ frames := 0, cells := 0, slots := 0, locals := 0 } : Room).cells ({ frames := 0, cells := 0, slots := 0, locals := 0 } : Room).slots) := by
  refine MetFree.of_bodySF (plainFor_of_name pn_com_example_warpcheck_warpcheck_Term_Input) hisR ?_
  intro p e s m args below meth c s₁ Bd hml0 hP hKα
  obtain ⟨rfl, hZ, hh⟩ := hP
  have hx := Bd.exec
  have hby := Bd.bytes
  have hml : c.maxLocals = 3 := hml0
  have hown : s.vm.findClass "com/example/warpcheck/warpcheck/Term$Input" = some m.cls := findClass_of_methodNamed Bd.named
  have hnm := (name_of_methodNamed Bd.named Bd.method).1
  have X0 : Stand p l e ({ frames := 0, cells := 0, slots := 0, locals := 0 } : Room) s m #[(.ref a), (.ref el)] below meth c s₁ [] 0 0 := Stand.of_body Bd
  have e0 : s₁.heap = h0 := by rw [← hh, Bd.state]; rfl
  have N0 := Fr.nil n0
  suffices k0 : Gl p e below s (Q_rm_eq Z a el w0 u0 w1 u1 h0 n0) ({ frames := 0, cells := 0, slots := 0, locals := 0 } : Room).cells ({ frames := 0, cells := 0, slots := 0, locals := 0 } : Room).slots s₁ (mkF m 0 #[.val (.ref a), .val (.ref el), .unset] []) from Gl.st (fun τ κ => castTop (ef_rm_eq m a el) κ) k0
  refine Gl.st (g' := (mkF m 1 #[.val (.ref a), .val (.ref el), .unset] [(.ref el)])) (fun τ κ => XS.aloadN X0.here hx rfl (hb hby d13_0) rfl rfl κ) ?_
  obtain ⟨T132, X132, e132, st132⟩ := instY X0 hx hZ hown (hw _ (List.mem_of_getElem? (i := 67) rfl)) e0 (Ins.self E1) (g := (mkF m 1 #[.val (.ref a), .val (.ref el), .unset] [(.ref el)])) rfl rfl (hb hby d13_1)
  refine Gl.st (g' := (mkF m 4 #[.val (.ref a), .val (.ref el), .unset] [(.int (1 : Int32))])) (fun τ κ => st132 _ κ) ?_
  have hc133 : ¬ ((1 : Int32) = (0 : Int32)) := by decide
  refine Gl.st (g' := (mkF m 7 #[.val (.ref a), .val (.ref el), .unset] [])) (fun τ κ => XS.ifNo X132.here hx rfl (hb hby d13_4) rfl ((if0 _ _).trans (feq hc133).1) κ) ?_
  refine Gl.st (g' := (mkF m 8 #[.val (.ref a), .val (.ref el), .unset] [(.ref el)])) (fun τ κ => XS.aloadN X132.here hx rfl (hb hby d13_7) rfl rfl κ) ?_
  obtain ⟨T134, X134, e134, st134⟩ := castY X132 hx hZ hown (hw _ (List.mem_of_getElem? (i := 67) rfl)) e132 (Ins.self E1) (g := (mkF m 8 #[.val (.ref a), .val (.ref el), .unset] [(.ref el)])) rfl rfl (hb hby d13_8)
  refine Gl.st (g' := (mkF m 11 #[.val (.ref a), .val (.ref el), .unset] [(.ref el)])) (fun τ κ => st134 _ κ) ?_
  refine Gl.st (g' := (mkF m 12 #[.val (.ref a), .val (.ref el), .val (.ref el)] [])) (fun τ κ => XS.astoreN X134.here hx rfl (hb hby d13_11) rfl rfl (l' := #[.val (.ref a), .val (.ref el), .val (.ref el)]) rfl κ) ?_
  refine Gl.st (g' := (mkF m 13 #[.val (.ref a), .val (.ref el), .val (.ref el)] [(.ref a)])) (fun τ κ => XS.aloadN X134.here hx rfl (hb hby d13_12) rfl rfl κ) ?_
  obtain ⟨T135, X135, e135, st135⟩ := getF X134 hx hZ hown (host := "") (Or.inl (hw _ (List.mem_of_getElem? (i := 56) rfl))) Via.refl e134 F0 (g := (mkF m 13 #[.val (.ref a), .val (.ref el), .val (.ref el)] [(.ref a)])) rfl rfl (hb hby d13_13)
  refine Gl.st (g' := (mkF m 16 #[.val (.ref a), .val (.ref el), .val (.ref el)] [(.int w0)])) (fun τ κ => st135 _ κ) ?_
  refine Gl.st (g' := (mkF m 17 #[.val (.ref a), .val (.ref el), .val (.ref el)] [(.ref el), (.int w0)])) (fun τ κ => XS.aloadN X135.here hx rfl (hb hby d13_16) rfl rfl κ) ?_
  obtain ⟨T136, X136, e136, st136⟩ := getF X135 hx hZ hown (host := "") (Or.inl (hw _ (List.mem_of_getElem? (i := 56) rfl))) Via.refl e135 F2 (g := (mkF m 17 #[.val (.ref a), .val (.ref el), .val (.ref el)] [(.ref el), (.int w0)])) rfl rfl (hb hby d13_17)
  refine Gl.st (g' := (mkF m 20 #[.val (.ref a), .val (.ref el), .val (.ref el)] [(.int u0), (.int w0)])) (fun τ κ => st136 _ κ) ?_
  by_cases hc137 : w0 = u0
  · -- pc 20: w0 = u0
    refine Gl.st (g' := (mkF m 23 #[.val (.ref a), .val (.ref el), .val (.ref el)] [])) (fun τ κ => XS.icmpNo X136.here hx rfl (hb hby d13_20) rfl (teq hc137).2 κ) ?_
    refine Gl.st (g' := (mkF m 24 #[.val (.ref a), .val (.ref el), .val (.ref el)] [(.ref a)])) (fun τ κ => XS.aloadN X136.here hx rfl (hb hby d13_23) rfl rfl κ) ?_
    obtain ⟨T138, X138, e138, st138⟩ := getF X136 hx hZ hown (host := "") (Or.inl (hw _ (List.mem_of_getElem? (i := 58) rfl))) Via.refl e136 F1 (g := (mkF m 24 #[.val (.ref a), .val (.ref el), .val (.ref el)] [(.ref a)])) rfl rfl (hb hby d13_24)
    refine Gl.st (g' := (mkF m 27 #[.val (.ref a), .val (.ref el), .val (.ref el)] [(.long w1)])) (fun τ κ => st138 _ κ) ?_
    refine Gl.st (g' := (mkF m 28 #[.val (.ref a), .val (.ref el), .val (.ref el)] [(.ref el), (.long w1)])) (fun τ κ => XS.aloadN X138.here hx rfl (hb hby d13_27) rfl rfl κ) ?_
    obtain ⟨T139, X139, e139, st139⟩ := getF X138 hx hZ hown (host := "") (Or.inl (hw _ (List.mem_of_getElem? (i := 58) rfl))) Via.refl e138 F3 (g := (mkF m 28 #[.val (.ref a), .val (.ref el), .val (.ref el)] [(.ref el), (.long w1)])) rfl rfl (hb hby d13_28)
    refine Gl.st (g' := (mkF m 31 #[.val (.ref a), .val (.ref el), .val (.ref el)] [(.long u1), (.long w1)])) (fun τ κ => st139 _ κ) ?_
    refine Gl.st (g' := (mkF m 32 #[.val (.ref a), .val (.ref el), .val (.ref el)] [(.int (lcmpW w1 u1))])) (fun τ κ => XS.lcmp X139.here hx rfl (hb hby d13_31) rfl κ) ?_
    by_cases hc140 : w1 = u1
    · -- pc 32: w1 = u1
      refine Gl.st (g' := (mkF m 35 #[.val (.ref a), .val (.ref el), .val (.ref el)] [])) (fun τ κ => XS.ifNo X139.here hx rfl (hb hby d13_32) rfl ((if0 _ _).trans (teq ((lw_eq w1 u1).mpr hc140)).2) κ) ?_
      refine Gl.st (g' := (mkF m 36 #[.val (.ref a), .val (.ref el), .val (.ref el)] [(.int (1 : Int32))])) (fun τ κ => XS.iconst X139.here hx rfl (hb hby d13_35) κ) ?_
      refine Gl.st (g' := (mkF m 40 #[.val (.ref a), .val (.ref el), .val (.ref el)] [(.int (1 : Int32))])) (fun τ κ => XS.goto X139.here hx rfl (pc0 := 36) (pc' := 40) rfl (hb hby d13_36) (by decide) (by decide) κ) ?_
      exact Gl.ret (v := some (.int (1 : Int32))) X139 Bd.notSynchronized (fun h => by rw [Bd.returns] at h; cases h) e139 (fun fs hr => retN X139 hx (t := .boolean) Bd.returns (by simp) (hb hby d13_40) hr) (by decide) (by decide) ⟨by simp only [own_eq, hc137, hc140, if_true, if_false], N0, rfl⟩
    · -- pc 32: not w1 = u1
      refine Gl.st (g' := (mkF m 39 #[.val (.ref a), .val (.ref el), .val (.ref el)] [])) (fun τ κ => XS.ifYes X139.here hx rfl (pc0 := 32) (pc' := 39) rfl (hb hby d13_32) rfl ((if0 _ _).trans (feq (mt (lw_eq w1 u1).mp hc140)).2) (by decide) (by decide) κ) ?_
      refine Gl.st (g' := (mkF m 40 #[.val (.ref a), .val (.ref el), .val (.ref el)] [(.int (0 : Int32))])) (fun τ κ => XS.iconst X139.here hx rfl (hb hby d13_39) κ) ?_
      exact Gl.ret (v := some (.int (0 : Int32))) X139 Bd.notSynchronized (fun h => by rw [Bd.returns] at h; cases h) e139 (fun fs hr => retN X139 hx (t := .boolean) Bd.returns (by simp) (hb hby d13_40) hr) (by decide) (by decide) ⟨by simp only [own_eq, hc137, hc140, if_true, if_false], N0, rfl⟩
  · -- pc 20: not w0 = u0
    refine Gl.st (g' := (mkF m 39 #[.val (.ref a), .val (.ref el), .val (.ref el)] [])) (fun τ κ => XS.icmpYes X136.here hx rfl (pc0 := 20) (pc' := 39) rfl (hb hby d13_20) rfl (feq hc137).2 (by decide) (by decide) κ) ?_
    refine Gl.st (g' := (mkF m 40 #[.val (.ref a), .val (.ref el), .val (.ref el)] [(.int (0 : Int32))])) (fun τ κ => XS.iconst X136.here hx rfl (hb hby d13_39) κ) ?_
    exact Gl.ret (v := some (.int (0 : Int32))) X136 Bd.notSynchronized (fun h => by rw [Bd.returns] at h; cases h) e136 (fun fs hr => retN X136 hx (t := .boolean) Bd.returns (by simp) (hb hby d13_40) hr) (by decide) (by decide) ⟨by simp only [own_eq, hc137, if_true, if_false], N0, rfl⟩
theorem ef_rm_eqn (m : MethodId) (a : Addr) : entryFrame m #[(.ref a), .null] 3 = mkF m 0 #[.val (.ref a), .val .null, .unset] [] := by first | (simp [entryFrame, mkF, argsToLocals, Value.category]; done) | rfl
def Q_rm_eqn (Z : State) (a : Addr)  (h0 : Heap) (n0 : Nat) (v : Option Value) (h : Heap) (L : List Loc) : Prop := v = some (.int (0 : Int32)) ∧ Fr n0 L ∧ h = h0
set_option maxRecDepth 65536 in
set_option maxHeartbeats 40000000 in
theorem rm_eqn (l : Launch) (Z : State) (a0 : Array Value) (hw : ∀ d ∈ tables_1, d.before a0 Z = true) (ws : List Jvm.Cond) (a : Addr)  (h0 : Heap) (n0 : Nat) (Z0 : n0 ≤ h0.size)  :
    MetFree l (⟨"com/example/warpcheck/warpcheck/Term$Input", "equals", "(Ljava/lang/Object;)Z"⟩ : MethodName) (head1 (Jvm.Cond.code (⟨"com/example/warpcheck/warpcheck/Term$Input", "equals", "(Ljava/lang/Object;)Z"⟩ : MethodName) prog_183_method_4_code 3 (some .boolean) :: ws) ({ frames := 0, cells := 0, slots := 0, locals := 0 } : Room)) (fun aα Uα => aα = #[(.ref a), .null] ∧ Z.Warmed39 Uα.vm ∧ Uα.heap = h0) (fun _ _ _ _ _ => True) (fun _ Uα oα Uβ => ∃ vα Lα, oα = .returned vα ∧ Q_rm_eqn Z a  h0 n0 vα Uβ.heap Lα ∧ FrameEnd Uα oα Uβ Lα ({ frames := 0, cells := 0, slots := 0, locals := 0 } : Room).cells ({ frames := 0, cells := 0, slots := 0, locals := 0 } : Room).slots) := by
  refine MetFree.of_bodySF (plainFor_of_name pn_com_example_warpcheck_warpcheck_Term_Input) hisR ?_
  intro p e s m args below meth c s₁ Bd hml0 hP hKα
  obtain ⟨rfl, hZ, hh⟩ := hP
  have hx := Bd.exec
  have hby := Bd.bytes
  have hml : c.maxLocals = 3 := hml0
  have hown : s.vm.findClass "com/example/warpcheck/warpcheck/Term$Input" = some m.cls := findClass_of_methodNamed Bd.named
  have hnm := (name_of_methodNamed Bd.named Bd.method).1
  have X0 : Stand p l e ({ frames := 0, cells := 0, slots := 0, locals := 0 } : Room) s m #[(.ref a), .null] below meth c s₁ [] 0 0 := Stand.of_body Bd
  have e0 : s₁.heap = h0 := by rw [← hh, Bd.state]; rfl
  have N0 := Fr.nil n0
  suffices k0 : Gl p e below s (Q_rm_eqn Z a  h0 n0) ({ frames := 0, cells := 0, slots := 0, locals := 0 } : Room).cells ({ frames := 0, cells := 0, slots := 0, locals := 0 } : Room).slots s₁ (mkF m 0 #[.val (.ref a), .val .null, .unset] []) from Gl.st (fun τ κ => castTop (ef_rm_eqn m a) κ) k0
  refine Gl.st (g' := (mkF m 1 #[.val (.ref a), .val .null, .unset] [.null])) (fun τ κ => XS.aloadN X0.here hx rfl (hb hby d13_0) rfl rfl κ) ?_
  refine Gl.st (g' := (mkF m 4 #[.val (.ref a), .val .null, .unset] [(.int (0 : Int32))])) (fun τ κ => X0.instanceofNull hx (g := (mkF m 1 #[.val (.ref a), .val .null, .unset] [.null])) rfl rfl (hb hby d13_1) _ κ) ?_
  have hc141 : (0 : Int32) = (0 : Int32) := by decide
  refine Gl.st (g' := (mkF m 39 #[.val (.ref a), .val .null, .unset] [])) (fun τ κ => XS.ifYes X0.here hx rfl (pc0 := 4) (pc' := 39) rfl (hb hby d13_4) rfl ((if0 _ _).trans (teq hc141).1) (by decide) (by decide) κ) ?_
  refine Gl.st (g' := (mkF m 40 #[.val (.ref a), .val .null, .unset] [(.int (0 : Int32))])) (fun τ κ => XS.iconst X0.here hx rfl (hb hby d13_39) κ) ?_
  exact Gl.ret (v := some (.int (0 : Int32))) X0 Bd.notSynchronized (fun h => by rw [Bd.returns] at h; cases h) e0 (fun fs hr => retN X0 hx (t := .boolean) Bd.returns (by simp) (hb hby d13_40) hr) (by decide) (by decide) ⟨rfl, N0, rfl⟩
theorem ef_rm_eql (m : MethodId) (a : Addr) (el : Addr) : entryFrame m #[(.ref a), (.ref el)] 3 = mkF m 0 #[.val (.ref a), .val (.ref el), .unset] [] := by first | (simp [entryFrame, mkF, argsToLocals, Value.category]; done) | rfl
def Q_rm_eql (Z : State) (a : Addr) (el : Addr)  (h0 : Heap) (n0 : Nat) (v : Option Value) (h : Heap) (L : List Loc) : Prop := v = some (.int (0 : Int32)) ∧ Fr n0 L ∧ h = h0
set_option maxRecDepth 65536 in
set_option maxHeartbeats 40000000 in
theorem rm_eql (l : Launch) (Z : State) (a0 : Array Value) (hw : ∀ d ∈ tables_1, d.before a0 Z = true) (ws : List Jvm.Cond) (a : Addr) (el : Addr)  (h0 : Heap) (n0 : Nat) (Z0 : n0 ≤ h0.size) (E1 : Exa Z h0 el "java/lang/Long") :
    MetFree l (⟨"com/example/warpcheck/warpcheck/Term$Input", "equals", "(Ljava/lang/Object;)Z"⟩ : MethodName) (head1 (Jvm.Cond.code (⟨"com/example/warpcheck/warpcheck/Term$Input", "equals", "(Ljava/lang/Object;)Z"⟩ : MethodName) prog_183_method_4_code 3 (some .boolean) :: ws) ({ frames := 0, cells := 0, slots := 0, locals := 0 } : Room)) (fun aα Uα => aα = #[(.ref a), (.ref el)] ∧ Z.Warmed39 Uα.vm ∧ Uα.heap = h0) (fun _ _ _ _ _ => True) (fun _ Uα oα Uβ => ∃ vα Lα, oα = .returned vα ∧ Q_rm_eql Z a el  h0 n0 vα Uβ.heap Lα ∧ FrameEnd Uα oα Uβ Lα ({ frames := 0, cells := 0, slots := 0, locals := 0 } : Room).cells ({ frames := 0, cells := 0, slots := 0, locals := 0 } : Room).slots) := by
  refine MetFree.of_bodySF (plainFor_of_name pn_com_example_warpcheck_warpcheck_Term_Input) hisR ?_
  intro p e s m args below meth c s₁ Bd hml0 hP hKα
  obtain ⟨rfl, hZ, hh⟩ := hP
  have hx := Bd.exec
  have hby := Bd.bytes
  have hml : c.maxLocals = 3 := hml0
  have hown : s.vm.findClass "com/example/warpcheck/warpcheck/Term$Input" = some m.cls := findClass_of_methodNamed Bd.named
  have hnm := (name_of_methodNamed Bd.named Bd.method).1
  have X0 : Stand p l e ({ frames := 0, cells := 0, slots := 0, locals := 0 } : Room) s m #[(.ref a), (.ref el)] below meth c s₁ [] 0 0 := Stand.of_body Bd
  have e0 : s₁.heap = h0 := by rw [← hh, Bd.state]; rfl
  have N0 := Fr.nil n0
  suffices k0 : Gl p e below s (Q_rm_eql Z a el  h0 n0) ({ frames := 0, cells := 0, slots := 0, locals := 0 } : Room).cells ({ frames := 0, cells := 0, slots := 0, locals := 0 } : Room).slots s₁ (mkF m 0 #[.val (.ref a), .val (.ref el), .unset] []) from Gl.st (fun τ κ => castTop (ef_rm_eql m a el) κ) k0
  refine Gl.st (g' := (mkF m 1 #[.val (.ref a), .val (.ref el), .unset] [(.ref el)])) (fun τ κ => XS.aloadN X0.here hx rfl (hb hby d13_0) rfl rfl κ) ?_
  obtain ⟨T142, X142, e142, st142⟩ := instNo X0 hx hZ hown (hw _ (List.mem_of_getElem? (i := 67) rfl)) e0 E1 (own_nots (hw _ (List.mem_of_getElem? (i := 77) rfl)) (hw _ (List.mem_of_getElem? (i := 78) rfl)) (hw _ (List.mem_of_getElem? (i := 79) rfl)) (hw _ (List.mem_of_getElem? (i := 45) rfl)) (by decide) (by decide) (by decide)) (g := (mkF m 1 #[.val (.ref a), .val (.ref el), .unset] [(.ref el)])) rfl rfl (hb hby d13_1)
  refine Gl.st (g' := (mkF m 4 #[.val (.ref a), .val (.ref el), .unset] [(.int (0 : Int32))])) (fun τ κ => st142 _ κ) ?_
  have hc143 : (0 : Int32) = (0 : Int32) := by decide
  refine Gl.st (g' := (mkF m 39 #[.val (.ref a), .val (.ref el), .unset] [])) (fun τ κ => XS.ifYes X142.here hx rfl (pc0 := 4) (pc' := 39) rfl (hb hby d13_4) rfl ((if0 _ _).trans (teq hc143).1) (by decide) (by decide) κ) ?_
  refine Gl.st (g' := (mkF m 40 #[.val (.ref a), .val (.ref el), .unset] [(.int (0 : Int32))])) (fun τ κ => XS.iconst X142.here hx rfl (hb hby d13_39) κ) ?_
  exact Gl.ret (v := some (.int (0 : Int32))) X142 Bd.notSynchronized (fun h => by rw [Bd.returns] at h; cases h) e142 (fun fs hr => retN X142 hx (t := .boolean) Bd.returns (by simp) (hb hby d13_40) hr) (by decide) (by decide) ⟨rfl, N0, rfl⟩
theorem d15_0 : decode prog_183_method_5_code 0 = .ok (.aload_n 0, 1) := by decide +kernel
theorem d15_1 : decode prog_183_method_5_code 1 = .ok (.getfield 7, 3) := by decide +kernel
theorem d15_4 : decode prog_183_method_5_code 4 = .ok (.i2l, 1) := by decide +kernel
theorem d15_5 : decode prog_183_method_5_code 5 = .ok (.ldc2_w 35, 3) := by decide +kernel
theorem d15_8 : decode prog_183_method_5_code 8 = .ok (.lmul, 1) := by decide +kernel
theorem d15_9 : decode prog_183_method_5_code 9 = .ok (.aload_n 0, 1) := by decide +kernel
theorem d15_10 : decode prog_183_method_5_code 10 = .ok (.getfield 13, 3) := by decide +kernel
theorem d15_13 : decode prog_183_method_5_code 13 = .ok (.ladd, 1) := by decide +kernel
theorem d15_14 : decode prog_183_method_5_code 14 = .ok (.ldc2_w 37, 3) := by decide +kernel
theorem d15_17 : decode prog_183_method_5_code 17 = .ok (.lmul, 1) := by decide +kernel
theorem d15_18 : decode prog_183_method_5_code 18 = .ok (.lstore_n 1, 1) := by decide +kernel
theorem d15_19 : decode prog_183_method_5_code 19 = .ok (.lload_n 1, 1) := by decide +kernel
theorem d15_20 : decode prog_183_method_5_code 20 = .ok (.lload_n 1, 1) := by decide +kernel
theorem d15_21 : decode prog_183_method_5_code 21 = .ok (.bipush 31, 2) := by decide +kernel
theorem d15_23 : decode prog_183_method_5_code 23 = .ok (.lushr, 1) := by decide +kernel
theorem d15_24 : decode prog_183_method_5_code 24 = .ok (.lxor, 1) := by decide +kernel
theorem d15_25 : decode prog_183_method_5_code 25 = .ok (.l2i, 1) := by decide +kernel
theorem d15_26 : decode prog_183_method_5_code 26 = .ok (.ireturn, 1) := by decide +kernel
theorem ef_rm15 (m : MethodId) (a : Addr) : entryFrame m #[(.ref a)] 3 = mkF m 0 #[.val (.ref a), .unset, .unset] [] := by first | (simp [entryFrame, mkF, argsToLocals, Value.category]; done) | rfl
def Q_rm15 (Z : State) (a : Addr) (w0 : Int32) (w1 : Int64) (h0 : Heap) (n0 : Nat) (v : Option Value) (h : Heap) (L : List Loc) : Prop := v = some (.int (own_hash w0 w1)) ∧ Fr n0 L ∧ h = h0
set_option maxRecDepth 65536 in
set_option maxHeartbeats 40000000 in
theorem rm15 (l : Launch) (Z : State) (a0 : Array Value) (hw : ∀ d ∈ tables_1, d.before a0 Z = true) (ws : List Jvm.Cond) (a : Addr) (w0 : Int32) (w1 : Int64) (h0 : Heap) (n0 : Nat) (Z0 : n0 ≤ h0.size)  (F0 : Fld Z h0 a "com/example/warpcheck/warpcheck/Term$Input" "arg" "I" (.int w0)) (F1 : Fld Z h0 a "com/example/warpcheck/warpcheck/Term$Input" "index" "J" (.long w1))  :
    MetFree l (⟨"com/example/warpcheck/warpcheck/Term$Input", "hashCode", "()I"⟩ : MethodName) (head1 (Jvm.Cond.code (⟨"com/example/warpcheck/warpcheck/Term$Input", "hashCode", "()I"⟩ : MethodName) prog_183_method_5_code 3 (some .int) :: ws) ({ frames := 0, cells := 0, slots := 0, locals := 0 } : Room)) (fun aα Uα => aα = #[(.ref a)] ∧ Z.Warmed39 Uα.vm ∧ Uα.heap = h0) (fun _ _ _ _ _ => True) (fun _ Uα oα Uβ => ∃ vα Lα, oα = .returned vα ∧ Q_rm15 Z a w0 w1 h0 n0 vα Uβ.heap Lα ∧ FrameEnd Uα oα Uβ Lα ({ frames := 0, cells := 0, slots := 0, locals := 0 } : Room).cells ({ frames := 0, cells := 0, slots := 0, locals := 0 } : Room).slots) := by
  refine MetFree.of_bodySF (plainFor_of_name pn_com_example_warpcheck_warpcheck_Term_Input) hisR ?_
  intro p e s m args below meth c s₁ Bd hml0 hP hKα
  obtain ⟨rfl, hZ, hh⟩ := hP
  have hx := Bd.exec
  have hby := Bd.bytes
  have hml : c.maxLocals = 3 := hml0
  have hown : s.vm.findClass "com/example/warpcheck/warpcheck/Term$Input" = some m.cls := findClass_of_methodNamed Bd.named
  have hnm := (name_of_methodNamed Bd.named Bd.method).1
  have X0 : Stand p l e ({ frames := 0, cells := 0, slots := 0, locals := 0 } : Room) s m #[(.ref a)] below meth c s₁ [] 0 0 := Stand.of_body Bd
  have e0 : s₁.heap = h0 := by rw [← hh, Bd.state]; rfl
  have N0 := Fr.nil n0
  suffices k0 : Gl p e below s (Q_rm15 Z a w0 w1 h0 n0) ({ frames := 0, cells := 0, slots := 0, locals := 0 } : Room).cells ({ frames := 0, cells := 0, slots := 0, locals := 0 } : Room).slots s₁ (mkF m 0 #[.val (.ref a), .unset, .unset] []) from Gl.st (fun τ κ => castTop (ef_rm15 m a) κ) k0
  refine Gl.st (g' := (mkF m 1 #[.val (.ref a), .unset, .unset] [(.ref a)])) (fun τ κ => XS.aloadN X0.here hx rfl (hb hby d15_0) rfl rfl κ) ?_
  obtain ⟨T144, X144, e144, st144⟩ := getF X0 hx hZ hown (host := "") (Or.inl (hw _ (List.mem_of_getElem? (i := 56) rfl))) Via.refl e0 F0 (g := (mkF m 1 #[.val (.ref a), .unset, .unset] [(.ref a)])) rfl rfl (hb hby d15_1)
  refine Gl.st (g' := (mkF m 4 #[.val (.ref a), .unset, .unset] [(.int w0)])) (fun τ κ => st144 _ κ) ?_
  refine Gl.st (g' := (mkF m 5 #[.val (.ref a), .unset, .unset] [(.long (w0.toInt64))])) (fun τ κ => XS.i2l X144.here hx rfl (hb hby d15_4) rfl κ) ?_
  refine Gl.st (g' := (mkF m 8 #[.val (.ref a), .unset, .unset] [(.long (-7046029254386353131 : Int64)), (.long (w0.toInt64))])) (fun τ κ => X144.ldc2Long hx hown (mvT hZ (hw _ (List.mem_of_getElem? (i := 85) rfl))) (g := (mkF m 5 #[.val (.ref a), .unset, .unset] [(.long (w0.toInt64))])) rfl (hb hby d15_5) _ κ) ?_
  refine Gl.st (g' := (mkF m 9 #[.val (.ref a), .unset, .unset] [(.long ((w0.toInt64) * (-7046029254386353131 : Int64)))])) (fun τ κ => XS.lmul X144.here hx rfl (hb hby d15_8) rfl κ) ?_
  refine Gl.st (g' := (mkF m 10 #[.val (.ref a), .unset, .unset] [(.ref a), (.long ((w0.toInt64) * (-7046029254386353131 : Int64)))])) (fun τ κ => XS.aloadN X144.here hx rfl (hb hby d15_9) rfl rfl κ) ?_
  obtain ⟨T145, X145, e145, st145⟩ := getF X144 hx hZ hown (host := "") (Or.inl (hw _ (List.mem_of_getElem? (i := 58) rfl))) Via.refl e144 F1 (g := (mkF m 10 #[.val (.ref a), .unset, .unset] [(.ref a), (.long ((w0.toInt64) * (-7046029254386353131 : Int64)))])) rfl rfl (hb hby d15_10)
  refine Gl.st (g' := (mkF m 13 #[.val (.ref a), .unset, .unset] [(.long w1), (.long ((w0.toInt64) * (-7046029254386353131 : Int64)))])) (fun τ κ => st145 _ κ) ?_
  refine Gl.st (g' := (mkF m 14 #[.val (.ref a), .unset, .unset] [(.long (((w0.toInt64) * (-7046029254386353131 : Int64)) + w1))])) (fun τ κ => XS.ladd X145.here hx rfl (hb hby d15_13) rfl κ) ?_
  refine Gl.st (g' := (mkF m 17 #[.val (.ref a), .unset, .unset] [(.long (-4658895280553007687 : Int64)), (.long (((w0.toInt64) * (-7046029254386353131 : Int64)) + w1))])) (fun τ κ => X145.ldc2Long hx hown (mvT hZ (hw _ (List.mem_of_getElem? (i := 86) rfl))) (g := (mkF m 14 #[.val (.ref a), .unset, .unset] [(.long (((w0.toInt64) * (-7046029254386353131 : Int64)) + w1))])) rfl (hb hby d15_14) _ κ) ?_
  refine Gl.st (g' := (mkF m 18 #[.val (.ref a), .unset, .unset] [(.long ((((w0.toInt64) * (-7046029254386353131 : Int64)) + w1) * (-4658895280553007687 : Int64)))])) (fun τ κ => XS.lmul X145.here hx rfl (hb hby d15_17) rfl κ) ?_
  refine Gl.st (g' := (mkF m 19 #[.val (.ref a), .val (.long ((((w0.toInt64) * (-7046029254386353131 : Int64)) + w1) * (-4658895280553007687 : Int64))), .second] [])) (fun τ κ => XS.lstoreN X145.here hx rfl (hb hby d15_18) rfl (l' := #[.val (.ref a), .val (.long ((((w0.toInt64) * (-7046029254386353131 : Int64)) + w1) * (-4658895280553007687 : Int64))), .second]) rfl κ) ?_
  refine Gl.st (g' := (mkF m 20 #[.val (.ref a), .val (.long ((((w0.toInt64) * (-7046029254386353131 : Int64)) + w1) * (-4658895280553007687 : Int64))), .second] [(.long ((((w0.toInt64) * (-7046029254386353131 : Int64)) + w1) * (-4658895280553007687 : Int64)))])) (fun τ κ => XS.lloadN X145.here hx rfl (hb hby d15_19) rfl κ) ?_
  refine Gl.st (g' := (mkF m 21 #[.val (.ref a), .val (.long ((((w0.toInt64) * (-7046029254386353131 : Int64)) + w1) * (-4658895280553007687 : Int64))), .second] [(.long ((((w0.toInt64) * (-7046029254386353131 : Int64)) + w1) * (-4658895280553007687 : Int64))), (.long ((((w0.toInt64) * (-7046029254386353131 : Int64)) + w1) * (-4658895280553007687 : Int64)))])) (fun τ κ => XS.lloadN X145.here hx rfl (hb hby d15_20) rfl κ) ?_
  refine Gl.st (g' := (mkF m 23 #[.val (.ref a), .val (.long ((((w0.toInt64) * (-7046029254386353131 : Int64)) + w1) * (-4658895280553007687 : Int64))), .second] [(.int (31 : Int32)), (.long ((((w0.toInt64) * (-7046029254386353131 : Int64)) + w1) * (-4658895280553007687 : Int64))), (.long ((((w0.toInt64) * (-7046029254386353131 : Int64)) + w1) * (-4658895280553007687 : Int64)))])) (fun τ κ => XS.bipush X145.here hx rfl (hb hby d15_21) κ) ?_
  refine Gl.st (g' := (mkF m 24 #[.val (.ref a), .val (.long ((((w0.toInt64) * (-7046029254386353131 : Int64)) + w1) * (-4658895280553007687 : Int64))), .second] [(.long ((((((w0.toInt64) * (-7046029254386353131 : Int64)) + w1) * (-4658895280553007687 : Int64)).toUInt64 >>> ((31 : Int32) &&& 0x3f).toInt64.toUInt64).toInt64)), (.long ((((w0.toInt64) * (-7046029254386353131 : Int64)) + w1) * (-4658895280553007687 : Int64)))])) (fun τ κ => XS.lushr X145.here hx rfl (hb hby d15_23) rfl κ) ?_
  refine Gl.st (g' := (mkF m 25 #[.val (.ref a), .val (.long ((((w0.toInt64) * (-7046029254386353131 : Int64)) + w1) * (-4658895280553007687 : Int64))), .second] [(.long (((((w0.toInt64) * (-7046029254386353131 : Int64)) + w1) * (-4658895280553007687 : Int64)) ^^^ ((((((w0.toInt64) * (-7046029254386353131 : Int64)) + w1) * (-4658895280553007687 : Int64)).toUInt64 >>> ((31 : Int32) &&& 0x3f).toInt64.toUInt64).toInt64)))])) (fun τ κ => XS.lxor X145.here hx rfl (hb hby d15_24) rfl κ) ?_
  refine Gl.st (g' := (mkF m 26 #[.val (.ref a), .val (.long ((((w0.toInt64) * (-7046029254386353131 : Int64)) + w1) * (-4658895280553007687 : Int64))), .second] [(.int ((((((w0.toInt64) * (-7046029254386353131 : Int64)) + w1) * (-4658895280553007687 : Int64)) ^^^ ((((((w0.toInt64) * (-7046029254386353131 : Int64)) + w1) * (-4658895280553007687 : Int64)).toUInt64 >>> ((31 : Int32) &&& 0x3f).toInt64.toUInt64).toInt64)).toInt32))])) (fun τ κ => XS.l2i X145.here hx rfl (hb hby d15_25) rfl κ) ?_
  exact Gl.ret (v := some (.int ((((((w0.toInt64) * (-7046029254386353131 : Int64)) + w1) * (-4658895280553007687 : Int64)) ^^^ ((((((w0.toInt64) * (-7046029254386353131 : Int64)) + w1) * (-4658895280553007687 : Int64)).toUInt64 >>> ((31 : Int32) &&& 0x3f).toInt64.toUInt64).toInt64)).toInt32))) X145 Bd.notSynchronized (fun h => by rw [Bd.returns] at h; cases h) e145 (fun fs hr => retI X145 hx Bd.returns (hb hby d15_26) hr) (by decide) (by decide) ⟨rfl, N0, rfl⟩
theorem d16_0 : decode jdk_35_method_26_code 0 = .ok (.aload_n 0, 1) := by decide +kernel
theorem d16_1 : decode jdk_35_method_26_code 1 = .ok (.invokespecial 270, 3) := by decide +kernel
theorem d16_4 : decode jdk_35_method_26_code 4 = .ok (.aload_n 0, 1) := by decide +kernel
theorem d16_5 : decode jdk_35_method_26_code 5 = .ok (.lload_n 1, 1) := by decide +kernel
theorem d16_6 : decode jdk_35_method_26_code 6 = .ok (.putfield 273, 3) := by decide +kernel
theorem d16_9 : decode jdk_35_method_26_code 9 = .ok (.return_, 1) := by decide +kernel
theorem pn_java_lang_Long : plainName "java/lang/Long" = true := by first | (simp [plainName, overriddenIn]; done) | decide +kernel
theorem ef_rm16 (m : MethodId) (a : Addr) (q1 : Int64) : entryFrame m #[(.ref a), (.long q1)] 3 = mkF m 0 #[.val (.ref a), .val (.long q1), .second] [] := by first | (simp [entryFrame, mkF, argsToLocals, Value.category]; done) | rfl
def Q_rm16 (Z : State) (a : Addr) (q1 : Int64)  (h0 : Heap) (n0 : Nat) (v : Option Value) (h : Heap) (L : List Loc) : Prop := v = none ∧ Fr n0 L ∧ Keep h0 h [a] ∧ Exa Z h a "java/lang/Long" ∧ Fld Z h a "java/lang/Long" "value" "J" (.long q1)
set_option maxRecDepth 65536 in
set_option maxHeartbeats 40000000 in
theorem rm16 (l : Launch) (Z : State) (a0 : Array Value) (hw : ∀ d ∈ tables_1, d.before a0 Z = true) (ws : List Jvm.Cond) (a : Addr) (q1 : Int64)  (h0 : Heap) (n0 : Nat) (Z0 : n0 ≤ h0.size) (E0 : Exa Z h0 a "java/lang/Long") (g0 : n0 ≤ a) (F0 : Fld Z h0 a "java/lang/Long" "value" "J" (.long (0 : Int64))) :
    MetFree l (⟨"java/lang/Long", "<init>", "(J)V"⟩ : MethodName) (head1 (Jvm.Cond.code (⟨"java/lang/Long", "<init>", "(J)V"⟩ : MethodName) jdk_35_method_26_code 3 none :: ws) ({ frames := 2, cells := 0, slots := 0, locals := 24 } : Room)) (fun aα Uα => aα = #[(.ref a), (.long q1)] ∧ Z.Warmed39 Uα.vm ∧ Uα.heap = h0) (fun _ _ _ _ _ => True) (fun _ Uα oα Uβ => ∃ vα Lα, oα = .returned vα ∧ Q_rm16 Z a q1  h0 n0 vα Uβ.heap Lα ∧ FrameEnd Uα oα Uβ Lα ({ frames := 2, cells := 0, slots := 0, locals := 24 } : Room).cells ({ frames := 2, cells := 0, slots := 0, locals := 24 } : Room).slots) := by
  refine MetFree.of_bodySF (plainFor_of_name pn_java_lang_Long) hisR ?_
  intro p e s m args below meth c s₁ Bd hml0 hP hKα
  obtain ⟨rfl, hZ, hh⟩ := hP
  have hx := Bd.exec
  have hby := Bd.bytes
  have hml : c.maxLocals = 3 := hml0
  have hown : s.vm.findClass "java/lang/Long" = some m.cls := findClass_of_methodNamed Bd.named
  have hnm := (name_of_methodNamed Bd.named Bd.method).1
  have X0 : Stand p l e ({ frames := 2, cells := 0, slots := 0, locals := 24 } : Room) s m #[(.ref a), (.long q1)] below meth c s₁ [] 0 0 := Stand.of_body Bd
  have e0 : s₁.heap = h0 := by rw [← hh, Bd.state]; rfl
  have N0 := Fr.nil n0
  suffices k0 : Gl p e below s (Q_rm16 Z a q1  h0 n0) ({ frames := 2, cells := 0, slots := 0, locals := 24 } : Room).cells ({ frames := 2, cells := 0, slots := 0, locals := 24 } : Room).slots s₁ (mkF m 0 #[.val (.ref a), .val (.long q1), .second] []) from Gl.st (fun τ κ => castTop (ef_rm16 m a q1) κ) k0
  refine Gl.st (g' := (mkF m 1 #[.val (.ref a), .val (.long q1), .second] [(.ref a)])) (fun τ κ => XS.aloadN X0.here hx rfl (hb hby d16_0) rfl rfl κ) ?_
  obtain ⟨rv146, _, ⟨T146, L146, k146, n146⟩, -, X146, ⟨Lc146, hQ146, l146, y146, z146⟩, st146⟩ := X0.specialBack hx (y := (⟨"java/lang/Number", "<init>", "()V"⟩ : MethodName)) rfl hown (mvT hZ (hw _ (List.mem_of_getElem? (i := 93) rfl))) (mvT hZ (hw _ (List.mem_of_getElem? (i := 94) rfl))) (mvT hZ (hw _ (List.mem_of_getElem? (i := 98) rfl))) (by decide) (backOf (W := 0) (rm17 l Z a0 hw [] a h0 n0 Z0 ) hZ (hw _ (List.mem_of_getElem? (i := 98) rfl)) (hw _ (List.mem_of_getElem? (i := 97) rfl)) (by decide) (by decide)) (g := (mkF m 1 #[.val (.ref a), .val (.long q1), .second] [(.ref a)])) rfl (by rw [hml]; rfl) (Steps.refl _) (a := a) (argsL := []) (rest := []) (lenOf pd_7 rfl) rfl (by show 2 * 0 + _ ≤ _; exact Nat.le_of_eq rfl) (hb hby d16_1) (fun _ _ => ⟨rfl, e0, (by decide : 0 + 0 ≤ _), (by decide : 0 + 0 ≤ _)⟩)
  dsimp only [Pt.U, Pt.locs, Pt.cells, Pt.slots] at X146 l146 y146 z146 st146 hQ146
  subst l146 y146 z146
  obtain ⟨rfl, N146q, e146⟩ := hQ146
  have N146 := Fr.app N0 N146q
  refine Gl.st (g' := (mkF m 4 #[.val (.ref a), .val (.long q1), .second] [])) (fun τ κ => st146.trans κ) ?_
  refine Gl.st (g' := (mkF m 5 #[.val (.ref a), .val (.long q1), .second] [(.ref a)])) (fun τ κ => XS.aloadN X146.here hx rfl (hb hby d16_4) rfl rfl κ) ?_
  refine Gl.st (g' := (mkF m 6 #[.val (.ref a), .val (.long q1), .second] [(.long q1), (.ref a)])) (fun τ κ => XS.lloadN X146.here hx rfl (hb hby d16_5) rfl κ) ?_
  obtain ⟨T147, h147, X147, e147, W147, st147⟩ := putF X146 hx hZ hown (host := "") (Or.inl (hw _ (List.mem_of_getElem? (i := 100) rfl))) Via.refl e146 F0 E0 (Or.inr ⟨(hw _ (List.mem_of_getElem? (i := 101) rfl)), rfl, hnm⟩) (hw _ (List.mem_of_getElem? (i := 88) rfl)) (ty := .long) (by decide) rfl rfl (g := (mkF m 6 #[.val (.ref a), .val (.long q1), .second] [(.long q1), (.ref a)])) rfl rfl (hb hby d16_6)
  have E_148 := E0.wr W147
  have N147 := Fr.snoc X147 N146 g0
  have Z147 : n0 ≤ h147.size := Nat.le_trans Z0 (Nat.le_of_eq W147.size.symm)
  have K147 : Keep h0 h147 [a] := (Keep.refl h0 [a]).wr W147 (Or.inl (List.mem_of_getElem? (i := 0) rfl))
  have F_150 := F0.same W147
  refine Gl.st (g' := (mkF m 9 #[.val (.ref a), .val (.long q1), .second] [])) (fun τ κ => st147 _ κ) ?_
  exact Gl.ret (v := none) X147 Bd.notSynchronized (fun _ => rfl) e147 (fun fs hr => X147.returnOut hx Bd.returns (hb hby d16_9) hr) (by decide) (by decide) ⟨rfl, N147, K147, E_148, F_150⟩
def own_HE (Z : State) (h : Heap) (vs : List Value) : Prop := ∀ j, j < 256 → ∃ b, vs.getD j .null = .ref b ∧ Exa Z h b "java/lang/Long"
theorem own_HE.ext {Z : State} {h h' : Heap} {vs : List Value} (F : own_HE Z h vs) (E : Ext h h') : own_HE Z h' vs := fun j hj => let ⟨b, e, x⟩ := F j hj; ⟨b, e, x.ext E⟩
theorem own_HE.wr {Z : State} {h h' : Heap} {vs : List Value} {a : Addr} {sl : Nat} {v : Value} (F : own_HE Z h vs) (W : Wr h h' a sl v) : own_HE Z h' vs := fun j hj => let ⟨b, e, x⟩ := F j hj; ⟨b, e, x.wr W⟩
theorem own_HE.keep {Z : State} {h h' : Heap} {vs : List Value} {ws : List Addr} (F : own_HE Z h vs) (K : Keep h h' ws) : own_HE Z h' vs := fun j hj => let ⟨b, e, x⟩ := F j hj; ⟨b, e, x.keep K⟩
theorem own_ix {q : Int64} (h1 : ¬ q < (-128 : Int64)) (h2 : ¬ (127 : Int64) < q) : (¬ (q.toInt32 + (128 : Int32)) < 0 ∧ (q.toInt32 + (128 : Int32)) < (256 : Int32)) ∧ (q.toInt32 + (128 : Int32)).toNatClampNeg < 256 := by
  rw [Int64.lt_iff_toInt_lt, show (-128 : Int64).toInt = -128 from rfl] at h1
  rw [Int64.lt_iff_toInt_lt, show (127 : Int64).toInt = 127 from rfl] at h2
  have a := c_l2i q
  have b := c_iadd q.toInt32 128
  have l1 := Int32.le_toInt q.toInt32; have l2 := Int32.toInt_lt q.toInt32
  have m1 := Int32.le_toInt (q.toInt32 + 128); have m2 := Int32.toInt_lt (q.toInt32 + 128)
  rw [show (128 : Int32).toInt = 128 from rfl] at b
  have e : (q.toInt32 + (128 : Int32)).toInt = q.toInt + 128 := by omega
  refine ⟨⟨?_, ?_⟩, ?_⟩
  · rw [Int32.lt_iff_toInt_lt, e, show (0 : Int32).toInt = 0 from rfl]; omega
  · rw [Int32.lt_iff_toInt_lt, e, show (256 : Int32).toInt = 256 from rfl]; omega
  · simp only [Int32.toNatClampNeg, e]; omega
theorem d14_0 : decode jdk_35_method_24_code 0 = .ok (.sipush 128, 3) := by decide +kernel
theorem d14_3 : decode jdk_35_method_24_code 3 = .ok (.istore_n 2, 1) := by decide +kernel
theorem d14_4 : decode jdk_35_method_24_code 4 = .ok (.lload_n 0, 1) := by decide +kernel
theorem d14_5 : decode jdk_35_method_24_code 5 = .ok (.ldc2_w 230, 3) := by decide +kernel
theorem d14_8 : decode jdk_35_method_24_code 8 = .ok (.lcmp, 1) := by decide +kernel
theorem d14_9 : decode jdk_35_method_24_code 9 = .ok (.ifCond .lt 22, 3) := by decide +kernel
theorem d14_31 : decode jdk_35_method_24_code 31 = .ok (.new 1, 3) := by decide +kernel
theorem d14_34 : decode jdk_35_method_24_code 34 = .ok (.dup, 1) := by decide +kernel
theorem d14_35 : decode jdk_35_method_24_code 35 = .ok (.lload_n 0, 1) := by decide +kernel
theorem d14_36 : decode jdk_35_method_24_code 36 = .ok (.invokespecial 240, 3) := by decide +kernel
theorem pd_8 : parseMethodDescriptor "(J)V" = some ⟨[.long], none⟩ := by decide +kernel
theorem d14_39 : decode jdk_35_method_24_code 39 = .ok (.areturn, 1) := by decide +kernel
theorem d14_12 : decode jdk_35_method_24_code 12 = .ok (.lload_n 0, 1) := by decide +kernel
theorem d14_13 : decode jdk_35_method_24_code 13 = .ok (.ldc2_w 232, 3) := by decide +kernel
theorem d14_16 : decode jdk_35_method_24_code 16 = .ok (.lcmp, 1) := by decide +kernel
theorem d14_17 : decode jdk_35_method_24_code 17 = .ok (.ifCond .gt 14, 3) := by decide +kernel
theorem d14_20 : decode jdk_35_method_24_code 20 = .ok (.getstatic 234, 3) := by decide +kernel
theorem d14_23 : decode jdk_35_method_24_code 23 = .ok (.lload_n 0, 1) := by decide +kernel
theorem d14_24 : decode jdk_35_method_24_code 24 = .ok (.l2i, 1) := by decide +kernel
theorem d14_25 : decode jdk_35_method_24_code 25 = .ok (.sipush 128, 3) := by decide +kernel
theorem d14_28 : decode jdk_35_method_24_code 28 = .ok (.iadd, 1) := by decide +kernel
theorem d14_29 : decode jdk_35_method_24_code 29 = .ok (.aaload, 1) := by decide +kernel
theorem d14_30 : decode jdk_35_method_24_code 30 = .ok (.areturn, 1) := by decide +kernel
theorem ef_rm14 (m : MethodId) (q1 : Int64) : entryFrame m #[(.long q1)] 3 = mkF m 0 #[.val (.long q1), .second, .unset] [] := by first | (simp [entryFrame, mkF, argsToLocals, Value.category]; done) | rfl
def Q_rm14 (Z : State) (q1 : Int64) (lc : Addr) (kl : ClassId) (vl : List Value) (h0 : Heap) (n0 : Nat) (v : Option Value) (h : Heap) (L : List Loc) : Prop := ∃ b, v = some (.ref b) ∧ Fr n0 L ∧ Keep h0 h [] ∧ Exa Z h b "java/lang/Long"
set_option maxRecDepth 65536 in
set_option maxHeartbeats 40000000 in
theorem rm14 (l : Launch) (Z : State) (a0 : Array Value) (hw : ∀ d ∈ tables_1, d.before a0 Z = true) (ws : List Jvm.Cond) (q1 : Int64) (lc : Addr) (kl : ClassId) (vl : List Value) (h0 : Heap) (n0 : Nat) (Z0 : n0 ≤ h0.size) (SL : Sta Z h0 "java/lang/Long$LongCache" "cache" "[Ljava/lang/Long;" (.ref lc)) (VL : Arv Z h0 lc kl (.object "java/lang/Long") (256 : Int32) vl .null) (HE : own_HE Z h0 vl) :
    MetFree l (⟨"java/lang/Long", "valueOf", "(J)Ljava/lang/Long;"⟩ : MethodName) (head1 (Jvm.Cond.code (⟨"java/lang/Long", "valueOf", "(J)Ljava/lang/Long;"⟩ : MethodName) jdk_35_method_24_code 3 (some (.object "java/lang/Long")) :: ws) ({ frames := 3, cells := 1, slots := 1, locals := 39 } : Room)) (fun aα Uα => aα = #[(.long q1)] ∧ Z.Warmed39 Uα.vm ∧ Uα.heap = h0) (fun _ _ _ _ _ => True) (fun _ Uα oα Uβ => ∃ vα Lα, oα = .returned vα ∧ Q_rm14 Z q1 lc kl vl h0 n0 vα Uβ.heap Lα ∧ FrameEnd Uα oα Uβ Lα ({ frames := 3, cells := 1, slots := 1, locals := 39 } : Room).cells ({ frames := 3, cells := 1, slots := 1, locals := 39 } : Room).slots) := by
  refine MetFree.of_bodySF (plainFor_of_name pn_java_lang_Long) hisR ?_
  intro p e s m args below meth c s₁ Bd hml0 hP hKα
  obtain ⟨rfl, hZ, hh⟩ := hP
  have hx := Bd.exec
  have hby := Bd.bytes
  have hml : c.maxLocals = 3 := hml0
  have hown : s.vm.findClass "java/lang/Long" = some m.cls := findClass_of_methodNamed Bd.named
  have hnm := (name_of_methodNamed Bd.named Bd.method).1
  have X0 : Stand p l e ({ frames := 3, cells := 1, slots := 1, locals := 39 } : Room) s m #[(.long q1)] below meth c s₁ [] 0 0 := Stand.of_body Bd
  have e0 : s₁.heap = h0 := by rw [← hh, Bd.state]; rfl
  have N0 := Fr.nil n0
  suffices k0 : Gl p e below s (Q_rm14 Z q1 lc kl vl h0 n0) ({ frames := 3, cells := 1, slots := 1, locals := 39 } : Room).cells ({ frames := 3, cells := 1, slots := 1, locals := 39 } : Room).slots s₁ (mkF m 0 #[.val (.long q1), .second, .unset] []) from Gl.st (fun τ κ => castTop (ef_rm14 m q1) κ) k0
  refine Gl.st (g' := (mkF m 3 #[.val (.long q1), .second, .unset] [(.int (128 : Int32))])) (fun τ κ => XS.sipush X0.here hx rfl (hb hby d14_0) κ) ?_
  refine Gl.st (g' := (mkF m 4 #[.val (.long q1), .second, .val (.int (128 : Int32))] [])) (fun τ κ => XS.istoreN X0.here hx rfl (hb hby d14_3) rfl (l' := #[.val (.long q1), .second, .val (.int (128 : Int32))]) rfl κ) ?_
  refine Gl.st (g' := (mkF m 5 #[.val (.long q1), .second, .val (.int (128 : Int32))] [(.long q1)])) (fun τ κ => XS.lloadN X0.here hx rfl (hb hby d14_4) rfl κ) ?_
  refine Gl.st (g' := (mkF m 8 #[.val (.long q1), .second, .val (.int (128 : Int32))] [(.long (-128 : Int64)), (.long q1)])) (fun τ κ => X0.ldc2Long hx hown (mvT hZ (hw _ (List.mem_of_getElem? (i := 73) rfl))) (g := (mkF m 5 #[.val (.long q1), .second, .val (.int (128 : Int32))] [(.long q1)])) rfl (hb hby d14_5) _ κ) ?_
  refine Gl.st (g' := (mkF m 9 #[.val (.long q1), .second, .val (.int (128 : Int32))] [(.int (lcmpW q1 (-128 : Int64)))])) (fun τ κ => XS.lcmp X0.here hx rfl (hb hby d14_8) rfl κ) ?_
  by_cases hc151 : q1 < (-128 : Int64)
  · -- pc 9: q1 < (-128 : Int64)
    refine Gl.st (g' := (mkF m 31 #[.val (.long q1), .second, .val (.int (128 : Int32))] [])) (fun τ κ => XS.ifYes X0.here hx rfl (pc0 := 9) (pc' := 31) rfl (hb hby d14_9) rfl ((if0 _ _).trans (tlt ((lw_lt q1 (-128 : Int64)).mpr hc151)).1) (by decide) (by decide) κ) ?_
    obtain ⟨T152, h152, X152, e152, E152, A152, D152, -, st152⟩ := newO X0 hx hZ hown (hw _ (List.mem_of_getElem? (i := 87) rfl)) (hw _ (List.mem_of_getElem? (i := 88) rfl)) (hw _ (List.mem_of_getElem? (i := 71) rfl)) e0 (g := (mkF m 31 #[.val (.long q1), .second, .val (.int (128 : Int32))] [])) rfl (hb hby d14_31) (by decide) (by decide)
    obtain ⟨b152, g152⟩ : ∃ z, z = h0.size := ⟨_, rfl⟩
    rw [← g152] at A152 D152 st152
    have ne_lc_b152 : lc ≠ b152 := Nat.ne_of_lt (Nat.lt_of_lt_of_le VL.lt (Nat.le_of_eq g152.symm))
    have S_153 := SL.ext E152
    have V_154 := VL.ext E152
    have X_155 := HE.ext E152
    have g_b152 : n0 ≤ b152 := Nat.le_trans Z0 (Nat.le_of_eq g152.symm)
    have sz_b152 : h0.size ≤ b152 := Nat.le_trans (Keep.refl h0 []).1 (Nat.le_of_eq g152.symm)
    have Z152 : n0 ≤ h152.size := Nat.le_trans Z0 E152.1
    have K152 : Keep h0 h152 [] := (Keep.refl h0 []).ext E152
    have F_156 : Fld Z h152 b152 "java/lang/Long" "value" "J" (.long (0 : Int64)) := D152 (Or.inr (hw _ (List.mem_of_getElem? (i := 101) rfl))) (ty := .long) (by decide)
    refine Gl.st (g' := (mkF m 34 #[.val (.long q1), .second, .val (.int (128 : Int32))] [(.ref b152)])) (fun τ κ => st152 _ κ) ?_
    refine Gl.st (g' := (mkF m 35 #[.val (.long q1), .second, .val (.int (128 : Int32))] [(.ref b152), (.ref b152)])) (fun τ κ => XS.dup X152.here hx rfl (hb hby d14_34) rfl rfl κ) ?_
    refine Gl.st (g' := (mkF m 36 #[.val (.long q1), .second, .val (.int (128 : Int32))] [(.long q1), (.ref b152), (.ref b152)])) (fun τ κ => XS.lloadN X152.here hx rfl (hb hby d14_35) rfl κ) ?_
    obtain ⟨rv157, _, ⟨T157, L157, k157, n157⟩, -, X157, ⟨Lc157, hQ157, l157, y157, z157⟩, st157⟩ := X152.specialBack hx (y := (⟨"java/lang/Long", "<init>", "(J)V"⟩ : MethodName)) rfl hown (mvT hZ (hw _ (List.mem_of_getElem? (i := 89) rfl))) (mvT hZ (hw _ (List.mem_of_getElem? (i := 90) rfl))) (mvT hZ (hw _ (List.mem_of_getElem? (i := 92) rfl))) (by decide) (backOf (W := 1) (rm16 l Z a0 hw [] b152 q1 h152 n0 Z152 A152 g_b152 F_156) hZ (hw _ (List.mem_of_getElem? (i := 92) rfl)) (hw _ (List.mem_of_getElem? (i := 71) rfl)) (by decide) (by decide)) (g := (mkF m 36 #[.val (.long q1), .second, .val (.int (128 : Int32))] [(.long q1), (.ref b152), (.ref b152)])) rfl (by rw [hml]; rfl) (Steps.refl _) (a := b152) (argsL := [(.long q1)]) (rest := [(.ref b152)]) (lenOf pd_8 rfl) rfl (by show 2 * 0 + _ ≤ _; exact Nat.le_of_eq rfl) (hb hby d14_36) (fun _ _ => ⟨rfl, e152, (by decide : 1 + 0 ≤ _), (by decide : 1 + 0 ≤ _)⟩)
    dsimp only [Pt.U, Pt.locs, Pt.cells, Pt.slots] at X157 l157 y157 z157 st157 hQ157
    subst l157 y157 z157
    obtain ⟨rfl, N157q, Kc157, Ec157, Fc157_0⟩ := hQ157
    have S_158 := Sta.keepX S_153 Kc157 (allS (P := fun x => ∃ c : Cell, h152[x]? = some c ∧ ∀ q, c.vm ≠ .statics q) A152.cell all0)
    have V_159 := V_154.keep Kc157 (ninS ne_lc_b152 nin0)
    have X_160 := X_155.keep Kc157
    have E_161 := A152.keep Kc157
    have N157 := Fr.app N0 N157q
    have Z157 : n0 ≤ T157.heap.size := Nat.le_trans Z152 Kc157.1
    have K157 : Keep h0 T157.heap [] := K152.trans Kc157 (allS (Or.inr sz_b152) all0)
    refine Gl.st (g' := (mkF m 39 #[.val (.long q1), .second, .val (.int (128 : Int32))] [(.ref b152)])) (fun τ κ => st157.trans κ) ?_
    exact Gl.ret (v := some (.ref b152)) X157 Bd.notSynchronized (fun h => by rw [Bd.returns] at h; cases h) rfl (fun fs hr => (by
        jvm_step X157.here [X157.here.top, hx, (hb hby d14_39), X157.method', Bd.returns, Value.isRef, FieldType.isReference]
        first | (intro acts; rw [hr _ acts rfl rfl rfl]) | rw [hr _ _ rfl rfl rfl]
        exact Steps.refl _)) (by decide) (by decide) ⟨b152, rfl, N157, K157, Ec157⟩
  · -- pc 9: not q1 < (-128 : Int64)
    refine Gl.st (g' := (mkF m 12 #[.val (.long q1), .second, .val (.int (128 : Int32))] [])) (fun τ κ => XS.ifNo X0.here hx rfl (hb hby d14_9) rfl ((if0 _ _).trans (flt (mt (lw_lt q1 (-128 : Int64)).mp hc151)).1) κ) ?_
    refine Gl.st (g' := (mkF m 13 #[.val (.long q1), .second, .val (.int (128 : Int32))] [(.long q1)])) (fun τ κ => XS.lloadN X0.here hx rfl (hb hby d14_12) rfl κ) ?_
    refine Gl.st (g' := (mkF m 16 #[.val (.long q1), .second, .val (.int (128 : Int32))] [(.long (127 : Int64)), (.long q1)])) (fun τ κ => X0.ldc2Long hx hown (mvT hZ (hw _ (List.mem_of_getElem? (i := 74) rfl))) (g := (mkF m 13 #[.val (.long q1), .second, .val (.int (128 : Int32))] [(.long q1)])) rfl (hb hby d14_13) _ κ) ?_
    refine Gl.st (g' := (mkF m 17 #[.val (.long q1), .second, .val (.int (128 : Int32))] [(.int (lcmpW q1 (127 : Int64)))])) (fun τ κ => XS.lcmp X0.here hx rfl (hb hby d14_16) rfl κ) ?_
    by_cases hc163 : (127 : Int64) < q1
    · -- pc 17: (127 : Int64) < q1
      refine Gl.st (g' := (mkF m 31 #[.val (.long q1), .second, .val (.int (128 : Int32))] [])) (fun τ κ => XS.ifYes X0.here hx rfl (pc0 := 17) (pc' := 31) rfl (hb hby d14_17) rfl ((if0 _ _).trans (tlt ((lw_gt q1 (127 : Int64)).mpr hc163)).2.2.1) (by decide) (by decide) κ) ?_
      obtain ⟨T164, h164, X164, e164, E164, A164, D164, -, st164⟩ := newO X0 hx hZ hown (hw _ (List.mem_of_getElem? (i := 87) rfl)) (hw _ (List.mem_of_getElem? (i := 88) rfl)) (hw _ (List.mem_of_getElem? (i := 71) rfl)) e0 (g := (mkF m 31 #[.val (.long q1), .second, .val (.int (128 : Int32))] [])) rfl (hb hby d14_31) (by decide) (by decide)
      obtain ⟨b164, g164⟩ : ∃ z, z = h0.size := ⟨_, rfl⟩
      rw [← g164] at A164 D164 st164
      have ne_lc_b164 : lc ≠ b164 := Nat.ne_of_lt (Nat.lt_of_lt_of_le VL.lt (Nat.le_of_eq g164.symm))
      have S_165 := SL.ext E164
      have V_166 := VL.ext E164
      have X_167 := HE.ext E164
      have g_b164 : n0 ≤ b164 := Nat.le_trans Z0 (Nat.le_of_eq g164.symm)
      have sz_b164 : h0.size ≤ b164 := Nat.le_trans (Keep.refl h0 []).1 (Nat.le_of_eq g164.symm)
      have Z164 : n0 ≤ h164.size := Nat.le_trans Z0 E164.1
      have K164 : Keep h0 h164 [] := (Keep.refl h0 []).ext E164
      have F_168 : Fld Z h164 b164 "java/lang/Long" "value" "J" (.long (0 : Int64)) := D164 (Or.inr (hw _ (List.mem_of_getElem? (i := 101) rfl))) (ty := .long) (by decide)
      refine Gl.st (g' := (mkF m 34 #[.val (.long q1), .second, .val (.int (128 : Int32))] [(.ref b164)])) (fun τ κ => st164 _ κ) ?_
      refine Gl.st (g' := (mkF m 35 #[.val (.long q1), .second, .val (.int (128 : Int32))] [(.ref b164), (.ref b164)])) (fun τ κ => XS.dup X164.here hx rfl (hb hby d14_34) rfl rfl κ) ?_
      refine Gl.st (g' := (mkF m 36 #[.val (.long q1), .second, .val (.int (128 : Int32))] [(.long q1), (.ref b164), (.ref b164)])) (fun τ κ => XS.lloadN X164.here hx rfl (hb hby d14_35) rfl κ) ?_
      obtain ⟨rv169, _, ⟨T169, L169, k169, n169⟩, -, X169, ⟨Lc169, hQ169, l169, y169, z169⟩, st169⟩ := X164.specialBack hx (y := (⟨"java/lang/Long", "<init>", "(J)V"⟩ : MethodName)) rfl hown (mvT hZ (hw _ (List.mem_of_getElem? (i := 89) rfl))) (mvT hZ (hw _ (List.mem_of_getElem? (i := 90) rfl))) (mvT hZ (hw _ (List.mem_of_getElem? (i := 92) rfl))) (by decide) (backOf (W := 1) (rm16 l Z a0 hw [] b164 q1 h164 n0 Z164 A164 g_b164 F_168) hZ (hw _ (List.mem_of_getElem? (i := 92) rfl)) (hw _ (List.mem_of_getElem? (i := 71) rfl)) (by decide) (by decide)) (g := (mkF m 36 #[.val (.long q1), .second, .val (.int (128 : Int32))] [(.long q1), (.ref b164), (.ref b164)])) rfl (by rw [hml]; rfl) (Steps.refl _) (a := b164) (argsL := [(.long q1)]) (rest := [(.ref b164)]) (lenOf pd_8 rfl) rfl (by show 2 * 0 + _ ≤ _; exact Nat.le_of_eq rfl) (hb hby d14_36) (fun _ _ => ⟨rfl, e164, (by decide : 1 + 0 ≤ _), (by decide : 1 + 0 ≤ _)⟩)
      dsimp only [Pt.U, Pt.locs, Pt.cells, Pt.slots] at X169 l169 y169 z169 st169 hQ169
      subst l169 y169 z169
      obtain ⟨rfl, N169q, Kc169, Ec169, Fc169_0⟩ := hQ169
      have S_170 := Sta.keepX S_165 Kc169 (allS (P := fun x => ∃ c : Cell, h164[x]? = some c ∧ ∀ q, c.vm ≠ .statics q) A164.cell all0)
      have V_171 := V_166.keep Kc169 (ninS ne_lc_b164 nin0)
      have X_172 := X_167.keep Kc169
      have E_173 := A164.keep Kc169
      have N169 := Fr.app N0 N169q
      have Z169 : n0 ≤ T169.heap.size := Nat.le_trans Z164 Kc169.1
      have K169 : Keep h0 T169.heap [] := K164.trans Kc169 (allS (Or.inr sz_b164) all0)
      refine Gl.st (g' := (mkF m 39 #[.val (.long q1), .second, .val (.int (128 : Int32))] [(.ref b164)])) (fun τ κ => st169.trans κ) ?_
      exact Gl.ret (v := some (.ref b164)) X169 Bd.notSynchronized (fun h => by rw [Bd.returns] at h; cases h) rfl (fun fs hr => (by
          jvm_step X169.here [X169.here.top, hx, (hb hby d14_39), X169.method', Bd.returns, Value.isRef, FieldType.isReference]
          first | (intro acts; rw [hr _ acts rfl rfl rfl]) | rw [hr _ _ rfl rfl rfl]
          exact Steps.refl _)) (by decide) (by decide) ⟨b164, rfl, N169, K169, Ec169⟩
    · -- pc 17: not (127 : Int64) < q1
      refine Gl.st (g' := (mkF m 20 #[.val (.long q1), .second, .val (.int (128 : Int32))] [])) (fun τ κ => XS.ifNo X0.here hx rfl (hb hby d14_17) rfl ((if0 _ _).trans (flt (mt (lw_gt q1 (127 : Int64)).mp hc163)).2.2.1) κ) ?_
      obtain ⟨T175, X175, e175, st175⟩ := getS2 X0 hx hZ hown (host := "") (Or.inl (hw _ (List.mem_of_getElem? (i := 75) rfl))) Via.refl e0 SL (g := (mkF m 20 #[.val (.long q1), .second, .val (.int (128 : Int32))] [])) rfl (hb hby d14_20)
      refine Gl.st (g' := (mkF m 23 #[.val (.long q1), .second, .val (.int (128 : Int32))] [(.ref lc)])) (fun τ κ => st175 _ κ) ?_
      refine Gl.st (g' := (mkF m 24 #[.val (.long q1), .second, .val (.int (128 : Int32))] [(.long q1), (.ref lc)])) (fun τ κ => XS.lloadN X175.here hx rfl (hb hby d14_23) rfl κ) ?_
      refine Gl.st (g' := (mkF m 25 #[.val (.long q1), .second, .val (.int (128 : Int32))] [(.int (q1.toInt32)), (.ref lc)])) (fun τ κ => XS.l2i X175.here hx rfl (hb hby d14_24) rfl κ) ?_
      refine Gl.st (g' := (mkF m 28 #[.val (.long q1), .second, .val (.int (128 : Int32))] [(.int (128 : Int32)), (.int (q1.toInt32)), (.ref lc)])) (fun τ κ => XS.sipush X175.here hx rfl (hb hby d14_25) κ) ?_
      refine Gl.st (g' := (mkF m 29 #[.val (.long q1), .second, .val (.int (128 : Int32))] [(.int ((q1.toInt32) + (128 : Int32))), (.ref lc)])) (fun τ κ => XS.iadd X175.here hx rfl (hb hby d14_28) rfl κ) ?_
      obtain ⟨cl_o176, Ar_o176, q_o176, S_o176, M_o176, H_o176, G_o176⟩ := id VL
      have hin_o176 : ¬ (((q1.toInt32) + (128 : Int32)) < 0 ∨ cl_o176.slots.size ≤ (((q1.toInt32) + (128 : Int32))).toNatClampNeg) := inb_of S_o176 (own_ix hc151 hc163).1
      obtain ⟨bx177, hb177, Ex177⟩ := HE _ (own_ix hc151 hc163).2
      refine Gl.st (g' := (mkF m 30 #[.val (.long q1), .second, .val (.int (128 : Int32))] [(.ref bx177)])) (fun τ κ => X175.aaload hx (j := ((q1.toInt32) + (128 : Int32))) (v := (.ref bx177)) (by rw [e175]; exact Ar_o176.1) (State.isArrayOf_alike hZ.alike Ar_o176.2.1) rfl Ar_o176.2.2 hin_o176 ((H_o176 _ (Nat.lt_of_not_le fun q => hin_o176 (Or.inr q))).trans (congrArg some hb177)) (g := (mkF m 29 #[.val (.long q1), .second, .val (.int (128 : Int32))] [(.int ((q1.toInt32) + (128 : Int32))), (.ref lc)])) rfl rfl (hb hby d14_29) _ κ) ?_
      exact Gl.ret (v := some (.ref bx177)) X175 Bd.notSynchronized (fun h => by rw [Bd.returns] at h; cases h) e175 (fun fs hr => (by
          jvm_step X175.here [X175.here.top, hx, (hb hby d14_30), X175.method', Bd.returns, Value.isRef, FieldType.isReference]
          first | (intro acts; rw [hr _ acts rfl rfl rfl]) | rw [hr _ _ rfl rfl rfl]
          exact Steps.refl _)) (by decide) (by decide) ⟨bx177, rfl, N0, (Keep.refl h0 []), Ex177⟩
theorem own_f11 {a b : Int32} {i j : Int64} (h : a = b) (k : i = j) : own_eq a i b j = 1 := by simp only [own_eq, h, k, if_true]
theorem own_f10 {a b : Int32} {i j : Int64} (h : a = b) (k : ¬ i = j) : own_eq a i b j = 0 := by simp only [own_eq, h, k, if_true, if_false]
theorem own_f00 {a b : Int32} {i j : Int64} (h : ¬ a = b) : own_eq a i b j = 0 := by simp only [own_eq, h, if_false]
theorem own_se (a : Int32) (i : Int64) : own_eq a i a i = 1 := own_f11 rfl rfl
theorem pd_9 : parseMethodDescriptor "(Ljava/lang/Object;)Z" = some ⟨[(.object "java/lang/Object")], some .boolean⟩ := by decide +kernel
theorem pd_10 : parseMethodDescriptor "(J)Ljava/lang/Long;" = some ⟨[.long], some (.object "java/lang/Long")⟩ := by decide +kernel
theorem pd_11 : parseMethodDescriptor "()I" = some ⟨[], some .int⟩ := by decide +kernel
set_option maxRecDepth 65536 in
set_option maxHeartbeats 40000000 in
theorem own_t130 {p : Program} {l : Launch} {e : Env} {s : State} {m : MethodId} {args : Array Value} {below : List Frame} {meth : Method} {c : Code} {Z : State} {a0 : Array Value} {QQ : Option Value → Heap → List Loc → Prop} {CC NN : Nat} (hx : p.tables.exec = Jvm.exec) (hZ : Z.Warmed39 s.vm) (hw : ∀ d ∈ tables_1, d.before a0 Z = true) (hby : c.code = code) (hml : c.maxLocals = 22) (hown : s.vm.findClass "com/example/warpcheck/warpcheck/InputEqualsPinLaw" = some m.cls) {l3 : Slot} {l4 : Slot} {l5 : Slot} {l6 : Slot} {l7 : Slot} {l11 : Slot} {l12 : Slot} {x0 bb : Int32} {x1 jj : Int64} {xx yy lc : Addr} {kl : ClassId} {vl : List Value} {n0 : Nat} {T0 : State} {h1 : Heap} {locs : List Loc} (X0 : Stand p l e room_1 s m args below meth c T0 locs 7 19) (e1 : T0.heap = h1) (N0 : Fr n0 locs) (Z0 : n0 ≤ h1.size) (E0 : Exa Z h1 xx "com/example/warpcheck/warpcheck/Term$Input") (E1 : Exa Z h1 yy "com/example/warpcheck/warpcheck/Term$Input") (F0 : Fld Z h1 xx "com/example/warpcheck/warpcheck/Term$Input" "arg" "I" (.int x0)) (F1 : Fld Z h1 xx "com/example/warpcheck/warpcheck/Term$Input" "index" "J" (.long x1)) (F2 : Fld Z h1 yy "com/example/warpcheck/warpcheck/Term$Input" "arg" "I" (.int bb)) (F3 : Fld Z h1 yy "com/example/warpcheck/warpcheck/Term$Input" "index" "J" (.long jj)) (SL : Sta Z h1 "java/lang/Long$LongCache" "cache" "[Ljava/lang/Long;" (.ref lc)) (VL : Arv Z h1 lc kl (.object "java/lang/Long") (256 : Int32) vl .null) (HE : own_HE Z h1 vl)
    (cont : ∀ (T' : State) (h' : Heap) (locs' : List Loc) (Ls : Array Slot), Stand p l e room_1 s m args below meth c T' locs' 8 20 → T'.heap = h' → Fr n0 locs' → Gl p e below s QQ CC NN T' (mkF m 276 Ls [(.int (1 : Int32))])) :
    Gl p e below s QQ CC NN T0 (mkF m 130 #[.val (.int x0), .val (.long x1), .second, l3, l4, l5, l6, l7, .val (.int bb), .val (.long jj), .second, l11, l12, .val (.ref xx), .val (.ref yy), .unset, .unset, .unset, .unset, .unset, .unset, .unset] []) := by
  refine Gl.st (g' := (mkF m 131 #[.val (.int x0), .val (.long x1), .second, l3, l4, l5, l6, l7, .val (.int bb), .val (.long jj), .second, l11, l12, .val (.ref xx), .val (.ref yy), .unset, .unset, .unset, .unset, .unset, .unset, .unset] [(.int x0)])) (fun τ κ => XS.iloadN X0.here hx rfl (hb hby at_130) rfl κ) ?_
  refine Gl.st (g' := (mkF m 133 #[.val (.int x0), .val (.long x1), .second, l3, l4, l5, l6, l7, .val (.int bb), .val (.long jj), .second, l11, l12, .val (.ref xx), .val (.ref yy), .unset, .unset, .unset, .unset, .unset, .unset, .unset] [(.int bb), (.int x0)])) (fun τ κ => XS.iload X0.here hx rfl (hb hby at_131) rfl κ) ?_
  by_cases hc178 : x0 = bb
  · -- pc 133: x0 = bb
    refine Gl.st (g' := (mkF m 136 #[.val (.int x0), .val (.long x1), .second, l3, l4, l5, l6, l7, .val (.int bb), .val (.long jj), .second, l11, l12, .val (.ref xx), .val (.ref yy), .unset, .unset, .unset, .unset, .unset, .unset, .unset] [])) (fun τ κ => XS.icmpNo X0.here hx rfl (hb hby at_133) rfl (teq hc178).2 κ) ?_
    refine Gl.st (g' := (mkF m 137 #[.val (.int x0), .val (.long x1), .second, l3, l4, l5, l6, l7, .val (.int bb), .val (.long jj), .second, l11, l12, .val (.ref xx), .val (.ref yy), .unset, .unset, .unset, .unset, .unset, .unset, .unset] [(.long x1)])) (fun τ κ => XS.lloadN X0.here hx rfl (hb hby at_136) rfl κ) ?_
    refine Gl.st (g' := (mkF m 139 #[.val (.int x0), .val (.long x1), .second, l3, l4, l5, l6, l7, .val (.int bb), .val (.long jj), .second, l11, l12, .val (.ref xx), .val (.ref yy), .unset, .unset, .unset, .unset, .unset, .unset, .unset] [(.long jj), (.long x1)])) (fun τ κ => XS.lload X0.here hx rfl (hb hby at_137) rfl κ) ?_
    refine Gl.st (g' := (mkF m 140 #[.val (.int x0), .val (.long x1), .second, l3, l4, l5, l6, l7, .val (.int bb), .val (.long jj), .second, l11, l12, .val (.ref xx), .val (.ref yy), .unset, .unset, .unset, .unset, .unset, .unset, .unset] [(.int (lcmpW x1 jj))])) (fun τ κ => XS.lcmp X0.here hx rfl (hb hby at_139) rfl κ) ?_
    by_cases hc179 : x1 = jj
    · -- pc 140: x1 = jj
      refine Gl.st (g' := (mkF m 143 #[.val (.int x0), .val (.long x1), .second, l3, l4, l5, l6, l7, .val (.int bb), .val (.long jj), .second, l11, l12, .val (.ref xx), .val (.ref yy), .unset, .unset, .unset, .unset, .unset, .unset, .unset] [])) (fun τ κ => XS.ifNo X0.here hx rfl (hb hby at_140) rfl ((if0 _ _).trans (teq ((lw_eq x1 jj).mpr hc179)).2) κ) ?_
      refine Gl.st (g' := (mkF m 144 #[.val (.int x0), .val (.long x1), .second, l3, l4, l5, l6, l7, .val (.int bb), .val (.long jj), .second, l11, l12, .val (.ref xx), .val (.ref yy), .unset, .unset, .unset, .unset, .unset, .unset, .unset] [(.int (1 : Int32))])) (fun τ κ => XS.iconst X0.here hx rfl (hb hby at_143) κ) ?_
      refine Gl.st (g' := (mkF m 148 #[.val (.int x0), .val (.long x1), .second, l3, l4, l5, l6, l7, .val (.int bb), .val (.long jj), .second, l11, l12, .val (.ref xx), .val (.ref yy), .unset, .unset, .unset, .unset, .unset, .unset, .unset] [(.int (1 : Int32))])) (fun τ κ => XS.goto X0.here hx rfl (pc0 := 144) (pc' := 148) rfl (hb hby at_144) (by decide) (by decide) κ) ?_
      refine Gl.st (g' := (mkF m 150 #[.val (.int x0), .val (.long x1), .second, l3, l4, l5, l6, l7, .val (.int bb), .val (.long jj), .second, l11, l12, .val (.ref xx), .val (.ref yy), .val (.int (1 : Int32)), .unset, .unset, .unset, .unset, .unset, .unset] [])) (fun τ κ => XS.istore X0.here hx rfl (hb hby at_148) rfl (l' := #[.val (.int x0), .val (.long x1), .second, l3, l4, l5, l6, l7, .val (.int bb), .val (.long jj), .second, l11, l12, .val (.ref xx), .val (.ref yy), .val (.int (1 : Int32)), .unset, .unset, .unset, .unset, .unset, .unset]) rfl κ) ?_
      refine Gl.st (g' := (mkF m 152 #[.val (.int x0), .val (.long x1), .second, l3, l4, l5, l6, l7, .val (.int bb), .val (.long jj), .second, l11, l12, .val (.ref xx), .val (.ref yy), .val (.int (1 : Int32)), .unset, .unset, .unset, .unset, .unset, .unset] [(.ref xx)])) (fun τ κ => XS.aload X0.here hx rfl (hb hby at_150) rfl rfl κ) ?_
      refine Gl.st (g' := (mkF m 154 #[.val (.int x0), .val (.long x1), .second, l3, l4, l5, l6, l7, .val (.int bb), .val (.long jj), .second, l11, l12, .val (.ref xx), .val (.ref yy), .val (.int (1 : Int32)), .unset, .unset, .unset, .unset, .unset, .unset] [(.ref yy), (.ref xx)])) (fun τ κ => XS.aload X0.here hx rfl (hb hby at_152) rfl rfl κ) ?_
      obtain ⟨cq180, kq180, q180a, q180b, q180c⟩ := isOf hZ e1 E0
      obtain ⟨rv180, _, ⟨T180, L180, k180, n180⟩, -, X180, ⟨Lc180, hQ180, l180, y180, z180⟩, st180⟩ := X0.virtualBack hx (y := (⟨"com/example/warpcheck/warpcheck/Term$Input", "equals", "(Ljava/lang/Object;)Z"⟩ : MethodName)) (z := (⟨"com/example/warpcheck/warpcheck/Term$Input", "equals", "(Ljava/lang/Object;)Z"⟩ : MethodName)) hown (mvT hZ (hw _ (List.mem_of_getElem? (i := 62) rfl))) (mvT hZ (hw _ (List.mem_of_getElem? (i := 63) rfl))) (notFace_of_selects (args := #[]) (mvT hZ (hw _ (List.mem_of_getElem? (i := 65) rfl)))) (mvT hZ (hw _ (List.mem_of_getElem? (i := 65) rfl))) (mvT hZ (hw _ (List.mem_of_getElem? (i := 64) rfl))) (by decide) (backOf (W := 0) (rm_eq l Z a0 hw [] xx yy x0 bb x1 jj h1 n0 Z0 E1 F0 F1 F2 F3) hZ (hw _ (List.mem_of_getElem? (i := 66) rfl)) (hw _ (List.mem_of_getElem? (i := 46) rfl)) (by decide) (by decide)) q180a q180c (g := (mkF m 154 #[.val (.int x0), .val (.long x1), .second, l3, l4, l5, l6, l7, .val (.int bb), .val (.long jj), .second, l11, l12, .val (.ref xx), .val (.ref yy), .val (.int (1 : Int32)), .unset, .unset, .unset, .unset, .unset, .unset] [(.ref yy), (.ref xx)])) rfl (by rw [hml]; rfl) (Steps.refl _) (argsL := [(.ref yy)]) (rest := []) (lenOf pd_9 rfl) rfl (by show 2 * 0 + _ ≤ _; exact Nat.le_of_eq rfl) (hb hby at_154) (fun _ _ => ⟨rfl, e1, (by decide : 7 + 0 ≤ _), (by decide : 19 + 0 ≤ _)⟩)
      dsimp only [Pt.U, Pt.locs, Pt.cells, Pt.slots] at X180 l180 y180 z180 st180 hQ180
      subst l180 y180 z180
      obtain ⟨rfl, N180q, e180⟩ := hQ180
      have N180 := Fr.app N0 N180q
      refine Gl.st (g' := (mkF m 157 #[.val (.int x0), .val (.long x1), .second, l3, l4, l5, l6, l7, .val (.int bb), .val (.long jj), .second, l11, l12, .val (.ref xx), .val (.ref yy), .val (.int (1 : Int32)), .unset, .unset, .unset, .unset, .unset, .unset] [(.int (own_eq x0 x1 bb jj))])) (fun τ κ => st180.trans κ) ?_
      rw [show (own_eq x0 x1 bb jj) = (1 : Int32) from (own_f11 hc178 hc179)]
      refine Gl.st (g' := (mkF m 159 #[.val (.int x0), .val (.long x1), .second, l3, l4, l5, l6, l7, .val (.int bb), .val (.long jj), .second, l11, l12, .val (.ref xx), .val (.ref yy), .val (.int (1 : Int32)), .val (.int (1 : Int32)), .unset, .unset, .unset, .unset, .unset] [])) (fun τ κ => XS.istore X180.here hx rfl (hb hby at_157) rfl (l' := #[.val (.int x0), .val (.long x1), .second, l3, l4, l5, l6, l7, .val (.int bb), .val (.long jj), .second, l11, l12, .val (.ref xx), .val (.ref yy), .val (.int (1 : Int32)), .val (.int (1 : Int32)), .unset, .unset, .unset, .unset, .unset]) rfl κ) ?_
      refine Gl.st (g' := (mkF m 161 #[.val (.int x0), .val (.long x1), .second, l3, l4, l5, l6, l7, .val (.int bb), .val (.long jj), .second, l11, l12, .val (.ref xx), .val (.ref yy), .val (.int (1 : Int32)), .val (.int (1 : Int32)), .unset, .unset, .unset, .unset, .unset] [(.ref yy)])) (fun τ κ => XS.aload X180.here hx rfl (hb hby at_159) rfl rfl κ) ?_
      refine Gl.st (g' := (mkF m 163 #[.val (.int x0), .val (.long x1), .second, l3, l4, l5, l6, l7, .val (.int bb), .val (.long jj), .second, l11, l12, .val (.ref xx), .val (.ref yy), .val (.int (1 : Int32)), .val (.int (1 : Int32)), .unset, .unset, .unset, .unset, .unset] [(.ref xx), (.ref yy)])) (fun τ κ => XS.aload X180.here hx rfl (hb hby at_161) rfl rfl κ) ?_
      obtain ⟨cq181, kq181, q181a, q181b, q181c⟩ := isOf hZ e180 E1
      obtain ⟨rv181, _, ⟨T181, L181, k181, n181⟩, -, X181, ⟨Lc181, hQ181, l181, y181, z181⟩, st181⟩ := X180.virtualBack hx (y := (⟨"com/example/warpcheck/warpcheck/Term$Input", "equals", "(Ljava/lang/Object;)Z"⟩ : MethodName)) (z := (⟨"com/example/warpcheck/warpcheck/Term$Input", "equals", "(Ljava/lang/Object;)Z"⟩ : MethodName)) hown (mvT hZ (hw _ (List.mem_of_getElem? (i := 62) rfl))) (mvT hZ (hw _ (List.mem_of_getElem? (i := 63) rfl))) (notFace_of_selects (args := #[]) (mvT hZ (hw _ (List.mem_of_getElem? (i := 65) rfl)))) (mvT hZ (hw _ (List.mem_of_getElem? (i := 65) rfl))) (mvT hZ (hw _ (List.mem_of_getElem? (i := 64) rfl))) (by decide) (backOf (W := 0) (rm_eq l Z a0 hw [] yy xx bb x0 jj x1 h1 n0 Z0 E0 F2 F3 F0 F1) hZ (hw _ (List.mem_of_getElem? (i := 66) rfl)) (hw _ (List.mem_of_getElem? (i := 46) rfl)) (by decide) (by decide)) q181a q181c (g := (mkF m 163 #[.val (.int x0), .val (.long x1), .second, l3, l4, l5, l6, l7, .val (.int bb), .val (.long jj), .second, l11, l12, .val (.ref xx), .val (.ref yy), .val (.int (1 : Int32)), .val (.int (1 : Int32)), .unset, .unset, .unset, .unset, .unset] [(.ref xx), (.ref yy)])) rfl (by rw [hml]; rfl) (Steps.refl _) (argsL := [(.ref xx)]) (rest := []) (lenOf pd_9 rfl) rfl (by show 2 * 0 + _ ≤ _; exact Nat.le_of_eq rfl) (hb hby at_163) (fun _ _ => ⟨rfl, e180, (by decide : 7 + 0 ≤ _), (by decide : 19 + 0 ≤ _)⟩)
      dsimp only [Pt.U, Pt.locs, Pt.cells, Pt.slots] at X181 l181 y181 z181 st181 hQ181
      subst l181 y181 z181
      obtain ⟨rfl, N181q, e181⟩ := hQ181
      have N181 := Fr.app N180 N181q
      refine Gl.st (g' := (mkF m 166 #[.val (.int x0), .val (.long x1), .second, l3, l4, l5, l6, l7, .val (.int bb), .val (.long jj), .second, l11, l12, .val (.ref xx), .val (.ref yy), .val (.int (1 : Int32)), .val (.int (1 : Int32)), .unset, .unset, .unset, .unset, .unset] [(.int (own_eq bb jj x0 x1))])) (fun τ κ => st181.trans κ) ?_
      rw [show (own_eq bb jj x0 x1) = (1 : Int32) from (own_f11 hc178.symm hc179.symm)]
      refine Gl.st (g' := (mkF m 168 #[.val (.int x0), .val (.long x1), .second, l3, l4, l5, l6, l7, .val (.int bb), .val (.long jj), .second, l11, l12, .val (.ref xx), .val (.ref yy), .val (.int (1 : Int32)), .val (.int (1 : Int32)), .val (.int (1 : Int32)), .unset, .unset, .unset, .unset] [])) (fun τ κ => XS.istore X181.here hx rfl (hb hby at_166) rfl (l' := #[.val (.int x0), .val (.long x1), .second, l3, l4, l5, l6, l7, .val (.int bb), .val (.long jj), .second, l11, l12, .val (.ref xx), .val (.ref yy), .val (.int (1 : Int32)), .val (.int (1 : Int32)), .val (.int (1 : Int32)), .unset, .unset, .unset, .unset]) rfl κ) ?_
      refine Gl.st (g' := (mkF m 170 #[.val (.int x0), .val (.long x1), .second, l3, l4, l5, l6, l7, .val (.int bb), .val (.long jj), .second, l11, l12, .val (.ref xx), .val (.ref yy), .val (.int (1 : Int32)), .val (.int (1 : Int32)), .val (.int (1 : Int32)), .unset, .unset, .unset, .unset] [(.ref xx)])) (fun τ κ => XS.aload X181.here hx rfl (hb hby at_168) rfl rfl κ) ?_
      refine Gl.st (g' := (mkF m 172 #[.val (.int x0), .val (.long x1), .second, l3, l4, l5, l6, l7, .val (.int bb), .val (.long jj), .second, l11, l12, .val (.ref xx), .val (.ref yy), .val (.int (1 : Int32)), .val (.int (1 : Int32)), .val (.int (1 : Int32)), .unset, .unset, .unset, .unset] [(.ref xx), (.ref xx)])) (fun τ κ => XS.aload X181.here hx rfl (hb hby at_170) rfl rfl κ) ?_
      obtain ⟨cq182, kq182, q182a, q182b, q182c⟩ := isOf hZ e181 E0
      obtain ⟨rv182, _, ⟨T182, L182, k182, n182⟩, -, X182, ⟨Lc182, hQ182, l182, y182, z182⟩, st182⟩ := X181.virtualBack hx (y := (⟨"com/example/warpcheck/warpcheck/Term$Input", "equals", "(Ljava/lang/Object;)Z"⟩ : MethodName)) (z := (⟨"com/example/warpcheck/warpcheck/Term$Input", "equals", "(Ljava/lang/Object;)Z"⟩ : MethodName)) hown (mvT hZ (hw _ (List.mem_of_getElem? (i := 62) rfl))) (mvT hZ (hw _ (List.mem_of_getElem? (i := 63) rfl))) (notFace_of_selects (args := #[]) (mvT hZ (hw _ (List.mem_of_getElem? (i := 65) rfl)))) (mvT hZ (hw _ (List.mem_of_getElem? (i := 65) rfl))) (mvT hZ (hw _ (List.mem_of_getElem? (i := 64) rfl))) (by decide) (backOf (W := 0) (rm_eq l Z a0 hw [] xx xx x0 x0 x1 x1 h1 n0 Z0 E0 F0 F1 F0 F1) hZ (hw _ (List.mem_of_getElem? (i := 66) rfl)) (hw _ (List.mem_of_getElem? (i := 46) rfl)) (by decide) (by decide)) q182a q182c (g := (mkF m 172 #[.val (.int x0), .val (.long x1), .second, l3, l4, l5, l6, l7, .val (.int bb), .val (.long jj), .second, l11, l12, .val (.ref xx), .val (.ref yy), .val (.int (1 : Int32)), .val (.int (1 : Int32)), .val (.int (1 : Int32)), .unset, .unset, .unset, .unset] [(.ref xx), (.ref xx)])) rfl (by rw [hml]; rfl) (Steps.refl _) (argsL := [(.ref xx)]) (rest := []) (lenOf pd_9 rfl) rfl (by show 2 * 0 + _ ≤ _; exact Nat.le_of_eq rfl) (hb hby at_172) (fun _ _ => ⟨rfl, e181, (by decide : 7 + 0 ≤ _), (by decide : 19 + 0 ≤ _)⟩)
      dsimp only [Pt.U, Pt.locs, Pt.cells, Pt.slots] at X182 l182 y182 z182 st182 hQ182
      subst l182 y182 z182
      obtain ⟨rfl, N182q, e182⟩ := hQ182
      have N182 := Fr.app N181 N182q
      refine Gl.st (g' := (mkF m 175 #[.val (.int x0), .val (.long x1), .second, l3, l4, l5, l6, l7, .val (.int bb), .val (.long jj), .second, l11, l12, .val (.ref xx), .val (.ref yy), .val (.int (1 : Int32)), .val (.int (1 : Int32)), .val (.int (1 : Int32)), .unset, .unset, .unset, .unset] [(.int (own_eq x0 x1 x0 x1))])) (fun τ κ => st182.trans κ) ?_
      rw [show (own_eq x0 x1 x0 x1) = (1 : Int32) from (own_se _ _)]
      refine Gl.st (g' := (mkF m 177 #[.val (.int x0), .val (.long x1), .second, l3, l4, l5, l6, l7, .val (.int bb), .val (.long jj), .second, l11, l12, .val (.ref xx), .val (.ref yy), .val (.int (1 : Int32)), .val (.int (1 : Int32)), .val (.int (1 : Int32)), .val (.int (1 : Int32)), .unset, .unset, .unset] [])) (fun τ κ => XS.istore X182.here hx rfl (hb hby at_175) rfl (l' := #[.val (.int x0), .val (.long x1), .second, l3, l4, l5, l6, l7, .val (.int bb), .val (.long jj), .second, l11, l12, .val (.ref xx), .val (.ref yy), .val (.int (1 : Int32)), .val (.int (1 : Int32)), .val (.int (1 : Int32)), .val (.int (1 : Int32)), .unset, .unset, .unset]) rfl κ) ?_
      refine Gl.st (g' := (mkF m 179 #[.val (.int x0), .val (.long x1), .second, l3, l4, l5, l6, l7, .val (.int bb), .val (.long jj), .second, l11, l12, .val (.ref xx), .val (.ref yy), .val (.int (1 : Int32)), .val (.int (1 : Int32)), .val (.int (1 : Int32)), .val (.int (1 : Int32)), .unset, .unset, .unset] [(.ref xx)])) (fun τ κ => XS.aload X182.here hx rfl (hb hby at_177) rfl rfl κ) ?_
      refine Gl.st (g' := (mkF m 180 #[.val (.int x0), .val (.long x1), .second, l3, l4, l5, l6, l7, .val (.int bb), .val (.long jj), .second, l11, l12, .val (.ref xx), .val (.ref yy), .val (.int (1 : Int32)), .val (.int (1 : Int32)), .val (.int (1 : Int32)), .val (.int (1 : Int32)), .unset, .unset, .unset] [.null, (.ref xx)])) (fun τ κ => XS.aconstNull X182.here hx rfl (hb hby at_179) κ) ?_
      obtain ⟨cq183, kq183, q183a, q183b, q183c⟩ := isOf hZ e182 E0
      obtain ⟨rv183, _, ⟨T183, L183, k183, n183⟩, -, X183, ⟨Lc183, hQ183, l183, y183, z183⟩, st183⟩ := X182.virtualBack hx (y := (⟨"com/example/warpcheck/warpcheck/Term$Input", "equals", "(Ljava/lang/Object;)Z"⟩ : MethodName)) (z := (⟨"com/example/warpcheck/warpcheck/Term$Input", "equals", "(Ljava/lang/Object;)Z"⟩ : MethodName)) hown (mvT hZ (hw _ (List.mem_of_getElem? (i := 62) rfl))) (mvT hZ (hw _ (List.mem_of_getElem? (i := 63) rfl))) (notFace_of_selects (args := #[]) (mvT hZ (hw _ (List.mem_of_getElem? (i := 65) rfl)))) (mvT hZ (hw _ (List.mem_of_getElem? (i := 65) rfl))) (mvT hZ (hw _ (List.mem_of_getElem? (i := 64) rfl))) (by decide) (backOf (W := 0) (rm_eqn l Z a0 hw [] xx h1 n0 Z0 ) hZ (hw _ (List.mem_of_getElem? (i := 66) rfl)) (hw _ (List.mem_of_getElem? (i := 46) rfl)) (by decide) (by decide)) q183a q183c (g := (mkF m 180 #[.val (.int x0), .val (.long x1), .second, l3, l4, l5, l6, l7, .val (.int bb), .val (.long jj), .second, l11, l12, .val (.ref xx), .val (.ref yy), .val (.int (1 : Int32)), .val (.int (1 : Int32)), .val (.int (1 : Int32)), .val (.int (1 : Int32)), .unset, .unset, .unset] [.null, (.ref xx)])) rfl (by rw [hml]; rfl) (Steps.refl _) (argsL := [.null]) (rest := []) (lenOf pd_9 rfl) rfl (by show 2 * 0 + _ ≤ _; exact Nat.le_of_eq rfl) (hb hby at_180) (fun _ _ => ⟨rfl, e182, (by decide : 7 + 0 ≤ _), (by decide : 19 + 0 ≤ _)⟩)
      dsimp only [Pt.U, Pt.locs, Pt.cells, Pt.slots] at X183 l183 y183 z183 st183 hQ183
      subst l183 y183 z183
      obtain ⟨rfl, N183q, e183⟩ := hQ183
      have N183 := Fr.app N182 N183q
      refine Gl.st (g' := (mkF m 183 #[.val (.int x0), .val (.long x1), .second, l3, l4, l5, l6, l7, .val (.int bb), .val (.long jj), .second, l11, l12, .val (.ref xx), .val (.ref yy), .val (.int (1 : Int32)), .val (.int (1 : Int32)), .val (.int (1 : Int32)), .val (.int (1 : Int32)), .unset, .unset, .unset] [(.int (0 : Int32))])) (fun τ κ => st183.trans κ) ?_
      have hc184 : (0 : Int32) = (0 : Int32) := by decide
      refine Gl.st (g' := (mkF m 186 #[.val (.int x0), .val (.long x1), .second, l3, l4, l5, l6, l7, .val (.int bb), .val (.long jj), .second, l11, l12, .val (.ref xx), .val (.ref yy), .val (.int (1 : Int32)), .val (.int (1 : Int32)), .val (.int (1 : Int32)), .val (.int (1 : Int32)), .unset, .unset, .unset] [])) (fun τ κ => XS.ifNo X183.here hx rfl (hb hby at_183) rfl ((if0 _ _).trans (teq hc184).2) κ) ?_
      refine Gl.st (g' := (mkF m 187 #[.val (.int x0), .val (.long x1), .second, l3, l4, l5, l6, l7, .val (.int bb), .val (.long jj), .second, l11, l12, .val (.ref xx), .val (.ref yy), .val (.int (1 : Int32)), .val (.int (1 : Int32)), .val (.int (1 : Int32)), .val (.int (1 : Int32)), .unset, .unset, .unset] [(.int (1 : Int32))])) (fun τ κ => XS.iconst X183.here hx rfl (hb hby at_186) κ) ?_
      refine Gl.st (g' := (mkF m 191 #[.val (.int x0), .val (.long x1), .second, l3, l4, l5, l6, l7, .val (.int bb), .val (.long jj), .second, l11, l12, .val (.ref xx), .val (.ref yy), .val (.int (1 : Int32)), .val (.int (1 : Int32)), .val (.int (1 : Int32)), .val (.int (1 : Int32)), .unset, .unset, .unset] [(.int (1 : Int32))])) (fun τ κ => XS.goto X183.here hx rfl (pc0 := 187) (pc' := 191) rfl (hb hby at_187) (by decide) (by decide) κ) ?_
      refine Gl.st (g' := (mkF m 193 #[.val (.int x0), .val (.long x1), .second, l3, l4, l5, l6, l7, .val (.int bb), .val (.long jj), .second, l11, l12, .val (.ref xx), .val (.ref yy), .val (.int (1 : Int32)), .val (.int (1 : Int32)), .val (.int (1 : Int32)), .val (.int (1 : Int32)), .val (.int (1 : Int32)), .unset, .unset] [])) (fun τ κ => XS.istore X183.here hx rfl (hb hby at_191) rfl (l' := #[.val (.int x0), .val (.long x1), .second, l3, l4, l5, l6, l7, .val (.int bb), .val (.long jj), .second, l11, l12, .val (.ref xx), .val (.ref yy), .val (.int (1 : Int32)), .val (.int (1 : Int32)), .val (.int (1 : Int32)), .val (.int (1 : Int32)), .val (.int (1 : Int32)), .unset, .unset]) rfl κ) ?_
      refine Gl.st (g' := (mkF m 195 #[.val (.int x0), .val (.long x1), .second, l3, l4, l5, l6, l7, .val (.int bb), .val (.long jj), .second, l11, l12, .val (.ref xx), .val (.ref yy), .val (.int (1 : Int32)), .val (.int (1 : Int32)), .val (.int (1 : Int32)), .val (.int (1 : Int32)), .val (.int (1 : Int32)), .unset, .unset] [(.ref xx)])) (fun τ κ => XS.aload X183.here hx rfl (hb hby at_193) rfl rfl κ) ?_
      refine Gl.st (g' := (mkF m 196 #[.val (.int x0), .val (.long x1), .second, l3, l4, l5, l6, l7, .val (.int bb), .val (.long jj), .second, l11, l12, .val (.ref xx), .val (.ref yy), .val (.int (1 : Int32)), .val (.int (1 : Int32)), .val (.int (1 : Int32)), .val (.int (1 : Int32)), .val (.int (1 : Int32)), .unset, .unset] [(.long x1), (.ref xx)])) (fun τ κ => XS.lloadN X183.here hx rfl (hb hby at_195) rfl κ) ?_
      obtain ⟨rv185, _, ⟨T185, L185, k185, n185⟩, -, X185, ⟨Lc185, hQ185, l185, y185, z185⟩, st185⟩ := Jvm.LawKit.callS X183 hx (y := (⟨"java/lang/Long", "valueOf", "(J)Ljava/lang/Long;"⟩ : MethodName)) hown (mvT hZ (hw _ (List.mem_of_getElem? (i := 69) rfl))) (mvT hZ (hw _ (List.mem_of_getElem? (i := 70) rfl))) (mvT hZ (hw _ (List.mem_of_getElem? (i := 71) rfl))) (mvT hZ (hw _ (List.mem_of_getElem? (i := 72) rfl))) (by decide) (backOf (W := 1) (rm14 l Z a0 hw [] x1 lc kl vl h1 n0 Z0 SL VL HE) hZ (hw _ (List.mem_of_getElem? (i := 72) rfl)) (hw _ (List.mem_of_getElem? (i := 71) rfl)) (by decide) (by decide)) (g := (mkF m 196 #[.val (.int x0), .val (.long x1), .second, l3, l4, l5, l6, l7, .val (.int bb), .val (.long jj), .second, l11, l12, .val (.ref xx), .val (.ref yy), .val (.int (1 : Int32)), .val (.int (1 : Int32)), .val (.int (1 : Int32)), .val (.int (1 : Int32)), .val (.int (1 : Int32)), .unset, .unset] [(.long x1), (.ref xx)])) rfl (by rw [hml]; rfl) (argsL := [(.long x1)]) (rest := [(.ref xx)]) (lenOf pd_10 rfl) rfl (by show 2 * 0 + _ ≤ _; exact Nat.le_of_eq rfl) (hb hby at_196) (fun _ _ => ⟨rfl, e183, (by decide : 7 + 1 ≤ _), (by decide : 19 + 1 ≤ _)⟩)
      dsimp only [Pt.U, Pt.locs, Pt.cells, Pt.slots] at X185 l185 y185 z185 st185 hQ185
      subst l185 y185 z185
      obtain ⟨b185, rfl, N185q, Kc185, Ex185⟩ := hQ185
      have E_186 := E0.keep Kc185
      have E_187 := E1.keep Kc185
      have F_188 := F0.keep Kc185 nin0
      have F_189 := F1.keep Kc185 nin0
      have F_190 := F2.keep Kc185 nin0
      have F_191 := F3.keep Kc185 nin0
      have S_192 := Sta.keepX SL Kc185 all0
      have V_193 := VL.keep Kc185 nin0
      have X_194 := HE.keep Kc185
      have N185 := Fr.app N183 N185q
      have Z185 : n0 ≤ T185.heap.size := Nat.le_trans Z0 Kc185.1
      have K185 : Keep h1 T185.heap [] := (Keep.refl h1 []).trans Kc185 all0
      refine Gl.st (g' := (mkF m 199 #[.val (.int x0), .val (.long x1), .second, l3, l4, l5, l6, l7, .val (.int bb), .val (.long jj), .second, l11, l12, .val (.ref xx), .val (.ref yy), .val (.int (1 : Int32)), .val (.int (1 : Int32)), .val (.int (1 : Int32)), .val (.int (1 : Int32)), .val (.int (1 : Int32)), .unset, .unset] [(.ref b185), (.ref xx)])) (fun τ κ => st185 _ κ) ?_
      obtain ⟨cq195, kq195, q195a, q195b, q195c⟩ := isOf hZ rfl E_186
      obtain ⟨rv195, _, ⟨T195, L195, k195, n195⟩, -, X195, ⟨Lc195, hQ195, l195, y195, z195⟩, st195⟩ := X185.virtualBack hx (y := (⟨"com/example/warpcheck/warpcheck/Term$Input", "equals", "(Ljava/lang/Object;)Z"⟩ : MethodName)) (z := (⟨"com/example/warpcheck/warpcheck/Term$Input", "equals", "(Ljava/lang/Object;)Z"⟩ : MethodName)) hown (mvT hZ (hw _ (List.mem_of_getElem? (i := 62) rfl))) (mvT hZ (hw _ (List.mem_of_getElem? (i := 63) rfl))) (notFace_of_selects (args := #[]) (mvT hZ (hw _ (List.mem_of_getElem? (i := 65) rfl)))) (mvT hZ (hw _ (List.mem_of_getElem? (i := 65) rfl))) (mvT hZ (hw _ (List.mem_of_getElem? (i := 64) rfl))) (by decide) (backOf (W := 0) (rm_eql l Z a0 hw [] xx b185 T185.heap n0 Z185 Ex185) hZ (hw _ (List.mem_of_getElem? (i := 66) rfl)) (hw _ (List.mem_of_getElem? (i := 46) rfl)) (by decide) (by decide)) q195a q195c (g := (mkF m 199 #[.val (.int x0), .val (.long x1), .second, l3, l4, l5, l6, l7, .val (.int bb), .val (.long jj), .second, l11, l12, .val (.ref xx), .val (.ref yy), .val (.int (1 : Int32)), .val (.int (1 : Int32)), .val (.int (1 : Int32)), .val (.int (1 : Int32)), .val (.int (1 : Int32)), .unset, .unset] [(.ref b185), (.ref xx)])) rfl (by rw [hml]; rfl) (Steps.refl _) (argsL := [(.ref b185)]) (rest := []) (lenOf pd_9 rfl) rfl (by show 2 * 0 + _ ≤ _; exact Nat.le_of_eq rfl) (hb hby at_199) (fun _ _ => ⟨rfl, rfl, (by decide : 8 + 0 ≤ _), (by decide : 20 + 0 ≤ _)⟩)
      dsimp only [Pt.U, Pt.locs, Pt.cells, Pt.slots] at X195 l195 y195 z195 st195 hQ195
      subst l195 y195 z195
      obtain ⟨rfl, N195q, e195⟩ := hQ195
      have N195 := Fr.app N185 N195q
      refine Gl.st (g' := (mkF m 202 #[.val (.int x0), .val (.long x1), .second, l3, l4, l5, l6, l7, .val (.int bb), .val (.long jj), .second, l11, l12, .val (.ref xx), .val (.ref yy), .val (.int (1 : Int32)), .val (.int (1 : Int32)), .val (.int (1 : Int32)), .val (.int (1 : Int32)), .val (.int (1 : Int32)), .unset, .unset] [(.int (0 : Int32))])) (fun τ κ => st195.trans κ) ?_
      have hc196 : (0 : Int32) = (0 : Int32) := by decide
      refine Gl.st (g' := (mkF m 205 #[.val (.int x0), .val (.long x1), .second, l3, l4, l5, l6, l7, .val (.int bb), .val (.long jj), .second, l11, l12, .val (.ref xx), .val (.ref yy), .val (.int (1 : Int32)), .val (.int (1 : Int32)), .val (.int (1 : Int32)), .val (.int (1 : Int32)), .val (.int (1 : Int32)), .unset, .unset] [])) (fun τ κ => XS.ifNo X195.here hx rfl (hb hby at_202) rfl ((if0 _ _).trans (teq hc196).2) κ) ?_
      refine Gl.st (g' := (mkF m 206 #[.val (.int x0), .val (.long x1), .second, l3, l4, l5, l6, l7, .val (.int bb), .val (.long jj), .second, l11, l12, .val (.ref xx), .val (.ref yy), .val (.int (1 : Int32)), .val (.int (1 : Int32)), .val (.int (1 : Int32)), .val (.int (1 : Int32)), .val (.int (1 : Int32)), .unset, .unset] [(.int (1 : Int32))])) (fun τ κ => XS.iconst X195.here hx rfl (hb hby at_205) κ) ?_
      refine Gl.st (g' := (mkF m 210 #[.val (.int x0), .val (.long x1), .second, l3, l4, l5, l6, l7, .val (.int bb), .val (.long jj), .second, l11, l12, .val (.ref xx), .val (.ref yy), .val (.int (1 : Int32)), .val (.int (1 : Int32)), .val (.int (1 : Int32)), .val (.int (1 : Int32)), .val (.int (1 : Int32)), .unset, .unset] [(.int (1 : Int32))])) (fun τ κ => XS.goto X195.here hx rfl (pc0 := 206) (pc' := 210) rfl (hb hby at_206) (by decide) (by decide) κ) ?_
      refine Gl.st (g' := (mkF m 212 #[.val (.int x0), .val (.long x1), .second, l3, l4, l5, l6, l7, .val (.int bb), .val (.long jj), .second, l11, l12, .val (.ref xx), .val (.ref yy), .val (.int (1 : Int32)), .val (.int (1 : Int32)), .val (.int (1 : Int32)), .val (.int (1 : Int32)), .val (.int (1 : Int32)), .val (.int (1 : Int32)), .unset] [])) (fun τ κ => XS.istore X195.here hx rfl (hb hby at_210) rfl (l' := #[.val (.int x0), .val (.long x1), .second, l3, l4, l5, l6, l7, .val (.int bb), .val (.long jj), .second, l11, l12, .val (.ref xx), .val (.ref yy), .val (.int (1 : Int32)), .val (.int (1 : Int32)), .val (.int (1 : Int32)), .val (.int (1 : Int32)), .val (.int (1 : Int32)), .val (.int (1 : Int32)), .unset]) rfl κ) ?_
      refine Gl.st (g' := (mkF m 214 #[.val (.int x0), .val (.long x1), .second, l3, l4, l5, l6, l7, .val (.int bb), .val (.long jj), .second, l11, l12, .val (.ref xx), .val (.ref yy), .val (.int (1 : Int32)), .val (.int (1 : Int32)), .val (.int (1 : Int32)), .val (.int (1 : Int32)), .val (.int (1 : Int32)), .val (.int (1 : Int32)), .unset] [(.int (1 : Int32))])) (fun τ κ => XS.iload X195.here hx rfl (hb hby at_212) rfl κ) ?_
      have hc197 : ¬ ((1 : Int32) = (0 : Int32)) := by decide
      refine Gl.st (g' := (mkF m 217 #[.val (.int x0), .val (.long x1), .second, l3, l4, l5, l6, l7, .val (.int bb), .val (.long jj), .second, l11, l12, .val (.ref xx), .val (.ref yy), .val (.int (1 : Int32)), .val (.int (1 : Int32)), .val (.int (1 : Int32)), .val (.int (1 : Int32)), .val (.int (1 : Int32)), .val (.int (1 : Int32)), .unset] [])) (fun τ κ => XS.ifNo X195.here hx rfl (hb hby at_214) rfl ((if0 _ _).trans (feq hc197).1) κ) ?_
      refine Gl.st (g' := (mkF m 219 #[.val (.int x0), .val (.long x1), .second, l3, l4, l5, l6, l7, .val (.int bb), .val (.long jj), .second, l11, l12, .val (.ref xx), .val (.ref yy), .val (.int (1 : Int32)), .val (.int (1 : Int32)), .val (.int (1 : Int32)), .val (.int (1 : Int32)), .val (.int (1 : Int32)), .val (.int (1 : Int32)), .unset] [(.ref xx)])) (fun τ κ => XS.aload X195.here hx rfl (hb hby at_217) rfl rfl κ) ?_
      obtain ⟨cq198, kq198, q198a, q198b, q198c⟩ := isOf hZ e195 E_186
      obtain ⟨rv198, _, ⟨T198, L198, k198, n198⟩, -, X198, ⟨Lc198, hQ198, l198, y198, z198⟩, st198⟩ := X195.virtualBack hx (y := (⟨"com/example/warpcheck/warpcheck/Term$Input", "hashCode", "()I"⟩ : MethodName)) (z := (⟨"com/example/warpcheck/warpcheck/Term$Input", "hashCode", "()I"⟩ : MethodName)) hown (mvT hZ (hw _ (List.mem_of_getElem? (i := 80) rfl))) (mvT hZ (hw _ (List.mem_of_getElem? (i := 81) rfl))) (notFace_of_selects (args := #[]) (mvT hZ (hw _ (List.mem_of_getElem? (i := 83) rfl)))) (mvT hZ (hw _ (List.mem_of_getElem? (i := 83) rfl))) (mvT hZ (hw _ (List.mem_of_getElem? (i := 82) rfl))) (by decide) (backOf (W := 0) (rm15 l Z a0 hw [] xx x0 x1 T185.heap n0 Z185 F_188 F_189) hZ (hw _ (List.mem_of_getElem? (i := 84) rfl)) (hw _ (List.mem_of_getElem? (i := 46) rfl)) (by decide) (by decide)) q198a q198c (g := (mkF m 219 #[.val (.int x0), .val (.long x1), .second, l3, l4, l5, l6, l7, .val (.int bb), .val (.long jj), .second, l11, l12, .val (.ref xx), .val (.ref yy), .val (.int (1 : Int32)), .val (.int (1 : Int32)), .val (.int (1 : Int32)), .val (.int (1 : Int32)), .val (.int (1 : Int32)), .val (.int (1 : Int32)), .unset] [(.ref xx)])) rfl (by rw [hml]; rfl) (Steps.refl _) (argsL := []) (rest := []) (lenOf pd_11 rfl) rfl (by show 2 * 0 + _ ≤ _; exact Nat.le_of_eq rfl) (hb hby at_219) (fun _ _ => ⟨rfl, e195, (by decide : 8 + 0 ≤ _), (by decide : 20 + 0 ≤ _)⟩)
      dsimp only [Pt.U, Pt.locs, Pt.cells, Pt.slots] at X198 l198 y198 z198 st198 hQ198
      subst l198 y198 z198
      obtain ⟨rfl, N198q, e198⟩ := hQ198
      have N198 := Fr.app N195 N198q
      refine Gl.st (g' := (mkF m 222 #[.val (.int x0), .val (.long x1), .second, l3, l4, l5, l6, l7, .val (.int bb), .val (.long jj), .second, l11, l12, .val (.ref xx), .val (.ref yy), .val (.int (1 : Int32)), .val (.int (1 : Int32)), .val (.int (1 : Int32)), .val (.int (1 : Int32)), .val (.int (1 : Int32)), .val (.int (1 : Int32)), .unset] [(.int (own_hash x0 x1))])) (fun τ κ => st198.trans κ) ?_
      refine Gl.st (g' := (mkF m 224 #[.val (.int x0), .val (.long x1), .second, l3, l4, l5, l6, l7, .val (.int bb), .val (.long jj), .second, l11, l12, .val (.ref xx), .val (.ref yy), .val (.int (1 : Int32)), .val (.int (1 : Int32)), .val (.int (1 : Int32)), .val (.int (1 : Int32)), .val (.int (1 : Int32)), .val (.int (1 : Int32)), .unset] [(.ref yy), (.int (own_hash x0 x1))])) (fun τ κ => XS.aload X198.here hx rfl (hb hby at_222) rfl rfl κ) ?_
      obtain ⟨cq199, kq199, q199a, q199b, q199c⟩ := isOf hZ e198 E_187
      obtain ⟨rv199, _, ⟨T199, L199, k199, n199⟩, -, X199, ⟨Lc199, hQ199, l199, y199, z199⟩, st199⟩ := X198.virtualBack hx (y := (⟨"com/example/warpcheck/warpcheck/Term$Input", "hashCode", "()I"⟩ : MethodName)) (z := (⟨"com/example/warpcheck/warpcheck/Term$Input", "hashCode", "()I"⟩ : MethodName)) hown (mvT hZ (hw _ (List.mem_of_getElem? (i := 80) rfl))) (mvT hZ (hw _ (List.mem_of_getElem? (i := 81) rfl))) (notFace_of_selects (args := #[]) (mvT hZ (hw _ (List.mem_of_getElem? (i := 83) rfl)))) (mvT hZ (hw _ (List.mem_of_getElem? (i := 83) rfl))) (mvT hZ (hw _ (List.mem_of_getElem? (i := 82) rfl))) (by decide) (backOf (W := 1) (rm15 l Z a0 hw [] yy bb jj T185.heap n0 Z185 F_190 F_191) hZ (hw _ (List.mem_of_getElem? (i := 84) rfl)) (hw _ (List.mem_of_getElem? (i := 46) rfl)) (by decide) (by decide)) q199a q199c (g := (mkF m 224 #[.val (.int x0), .val (.long x1), .second, l3, l4, l5, l6, l7, .val (.int bb), .val (.long jj), .second, l11, l12, .val (.ref xx), .val (.ref yy), .val (.int (1 : Int32)), .val (.int (1 : Int32)), .val (.int (1 : Int32)), .val (.int (1 : Int32)), .val (.int (1 : Int32)), .val (.int (1 : Int32)), .unset] [(.ref yy), (.int (own_hash x0 x1))])) rfl (by rw [hml]; rfl) (Steps.refl _) (argsL := []) (rest := [(.int (own_hash x0 x1))]) (lenOf pd_11 rfl) rfl (by show 2 * 0 + _ ≤ _; exact Nat.le_of_eq rfl) (hb hby at_224) (fun _ _ => ⟨rfl, e198, (by decide : 8 + 0 ≤ _), (by decide : 20 + 0 ≤ _)⟩)
      dsimp only [Pt.U, Pt.locs, Pt.cells, Pt.slots] at X199 l199 y199 z199 st199 hQ199
      subst l199 y199 z199
      obtain ⟨rfl, N199q, e199⟩ := hQ199
      have N199 := Fr.app N198 N199q
      refine Gl.st (g' := (mkF m 227 #[.val (.int x0), .val (.long x1), .second, l3, l4, l5, l6, l7, .val (.int bb), .val (.long jj), .second, l11, l12, .val (.ref xx), .val (.ref yy), .val (.int (1 : Int32)), .val (.int (1 : Int32)), .val (.int (1 : Int32)), .val (.int (1 : Int32)), .val (.int (1 : Int32)), .val (.int (1 : Int32)), .unset] [(.int (own_hash bb jj)), (.int (own_hash x0 x1))])) (fun τ κ => st199.trans κ) ?_
      have hc200 : (own_hash x0 x1) = (own_hash bb jj) := by rw [hc178, hc179]
      refine Gl.st (g' := (mkF m 230 #[.val (.int x0), .val (.long x1), .second, l3, l4, l5, l6, l7, .val (.int bb), .val (.long jj), .second, l11, l12, .val (.ref xx), .val (.ref yy), .val (.int (1 : Int32)), .val (.int (1 : Int32)), .val (.int (1 : Int32)), .val (.int (1 : Int32)), .val (.int (1 : Int32)), .val (.int (1 : Int32)), .unset] [])) (fun τ κ => XS.icmpNo X199.here hx rfl (hb hby at_227) rfl (teq hc200).2 κ) ?_
      refine Gl.st (g' := (mkF m 231 #[.val (.int x0), .val (.long x1), .second, l3, l4, l5, l6, l7, .val (.int bb), .val (.long jj), .second, l11, l12, .val (.ref xx), .val (.ref yy), .val (.int (1 : Int32)), .val (.int (1 : Int32)), .val (.int (1 : Int32)), .val (.int (1 : Int32)), .val (.int (1 : Int32)), .val (.int (1 : Int32)), .unset] [(.int (1 : Int32))])) (fun τ κ => XS.iconst X199.here hx rfl (hb hby at_230) κ) ?_
      refine Gl.st (g' := (mkF m 235 #[.val (.int x0), .val (.long x1), .second, l3, l4, l5, l6, l7, .val (.int bb), .val (.long jj), .second, l11, l12, .val (.ref xx), .val (.ref yy), .val (.int (1 : Int32)), .val (.int (1 : Int32)), .val (.int (1 : Int32)), .val (.int (1 : Int32)), .val (.int (1 : Int32)), .val (.int (1 : Int32)), .unset] [(.int (1 : Int32))])) (fun τ κ => XS.goto X199.here hx rfl (pc0 := 231) (pc' := 235) rfl (hb hby at_231) (by decide) (by decide) κ) ?_
      refine Gl.st (g' := (mkF m 237 #[.val (.int x0), .val (.long x1), .second, l3, l4, l5, l6, l7, .val (.int bb), .val (.long jj), .second, l11, l12, .val (.ref xx), .val (.ref yy), .val (.int (1 : Int32)), .val (.int (1 : Int32)), .val (.int (1 : Int32)), .val (.int (1 : Int32)), .val (.int (1 : Int32)), .val (.int (1 : Int32)), .val (.int (1 : Int32))] [])) (fun τ κ => XS.istore X199.here hx rfl (hb hby at_235) rfl (l' := #[.val (.int x0), .val (.long x1), .second, l3, l4, l5, l6, l7, .val (.int bb), .val (.long jj), .second, l11, l12, .val (.ref xx), .val (.ref yy), .val (.int (1 : Int32)), .val (.int (1 : Int32)), .val (.int (1 : Int32)), .val (.int (1 : Int32)), .val (.int (1 : Int32)), .val (.int (1 : Int32)), .val (.int (1 : Int32))]) rfl κ) ?_
      refine Gl.st (g' := (mkF m 239 #[.val (.int x0), .val (.long x1), .second, l3, l4, l5, l6, l7, .val (.int bb), .val (.long jj), .second, l11, l12, .val (.ref xx), .val (.ref yy), .val (.int (1 : Int32)), .val (.int (1 : Int32)), .val (.int (1 : Int32)), .val (.int (1 : Int32)), .val (.int (1 : Int32)), .val (.int (1 : Int32)), .val (.int (1 : Int32))] [(.int (1 : Int32))])) (fun τ κ => XS.iload X199.here hx rfl (hb hby at_237) rfl κ) ?_
      refine Gl.st (g' := (mkF m 241 #[.val (.int x0), .val (.long x1), .second, l3, l4, l5, l6, l7, .val (.int bb), .val (.long jj), .second, l11, l12, .val (.ref xx), .val (.ref yy), .val (.int (1 : Int32)), .val (.int (1 : Int32)), .val (.int (1 : Int32)), .val (.int (1 : Int32)), .val (.int (1 : Int32)), .val (.int (1 : Int32)), .val (.int (1 : Int32))] [(.int (1 : Int32)), (.int (1 : Int32))])) (fun τ κ => XS.iload X199.here hx rfl (hb hby at_239) rfl κ) ?_
      have hc201 : (1 : Int32) = (1 : Int32) := by decide
      refine Gl.st (g' := (mkF m 244 #[.val (.int x0), .val (.long x1), .second, l3, l4, l5, l6, l7, .val (.int bb), .val (.long jj), .second, l11, l12, .val (.ref xx), .val (.ref yy), .val (.int (1 : Int32)), .val (.int (1 : Int32)), .val (.int (1 : Int32)), .val (.int (1 : Int32)), .val (.int (1 : Int32)), .val (.int (1 : Int32)), .val (.int (1 : Int32))] [])) (fun τ κ => XS.icmpNo X199.here hx rfl (hb hby at_241) rfl (teq hc201).2 κ) ?_
      refine Gl.st (g' := (mkF m 246 #[.val (.int x0), .val (.long x1), .second, l3, l4, l5, l6, l7, .val (.int bb), .val (.long jj), .second, l11, l12, .val (.ref xx), .val (.ref yy), .val (.int (1 : Int32)), .val (.int (1 : Int32)), .val (.int (1 : Int32)), .val (.int (1 : Int32)), .val (.int (1 : Int32)), .val (.int (1 : Int32)), .val (.int (1 : Int32))] [(.int (1 : Int32))])) (fun τ κ => XS.iload X199.here hx rfl (hb hby at_244) rfl κ) ?_
      refine Gl.st (g' := (mkF m 248 #[.val (.int x0), .val (.long x1), .second, l3, l4, l5, l6, l7, .val (.int bb), .val (.long jj), .second, l11, l12, .val (.ref xx), .val (.ref yy), .val (.int (1 : Int32)), .val (.int (1 : Int32)), .val (.int (1 : Int32)), .val (.int (1 : Int32)), .val (.int (1 : Int32)), .val (.int (1 : Int32)), .val (.int (1 : Int32))] [(.int (1 : Int32)), (.int (1 : Int32))])) (fun τ κ => XS.iload X199.here hx rfl (hb hby at_246) rfl κ) ?_
      have hc202 : (1 : Int32) = (1 : Int32) := by decide
      refine Gl.st (g' := (mkF m 251 #[.val (.int x0), .val (.long x1), .second, l3, l4, l5, l6, l7, .val (.int bb), .val (.long jj), .second, l11, l12, .val (.ref xx), .val (.ref yy), .val (.int (1 : Int32)), .val (.int (1 : Int32)), .val (.int (1 : Int32)), .val (.int (1 : Int32)), .val (.int (1 : Int32)), .val (.int (1 : Int32)), .val (.int (1 : Int32))] [])) (fun τ κ => XS.icmpNo X199.here hx rfl (hb hby at_248) rfl (teq hc202).2 κ) ?_
      refine Gl.st (g' := (mkF m 253 #[.val (.int x0), .val (.long x1), .second, l3, l4, l5, l6, l7, .val (.int bb), .val (.long jj), .second, l11, l12, .val (.ref xx), .val (.ref yy), .val (.int (1 : Int32)), .val (.int (1 : Int32)), .val (.int (1 : Int32)), .val (.int (1 : Int32)), .val (.int (1 : Int32)), .val (.int (1 : Int32)), .val (.int (1 : Int32))] [(.int (1 : Int32))])) (fun τ κ => XS.iload X199.here hx rfl (hb hby at_251) rfl κ) ?_
      have hc203 : ¬ ((1 : Int32) = (0 : Int32)) := by decide
      refine Gl.st (g' := (mkF m 256 #[.val (.int x0), .val (.long x1), .second, l3, l4, l5, l6, l7, .val (.int bb), .val (.long jj), .second, l11, l12, .val (.ref xx), .val (.ref yy), .val (.int (1 : Int32)), .val (.int (1 : Int32)), .val (.int (1 : Int32)), .val (.int (1 : Int32)), .val (.int (1 : Int32)), .val (.int (1 : Int32)), .val (.int (1 : Int32))] [])) (fun τ κ => XS.ifNo X199.here hx rfl (hb hby at_253) rfl ((if0 _ _).trans (feq hc203).1) κ) ?_
      refine Gl.st (g' := (mkF m 258 #[.val (.int x0), .val (.long x1), .second, l3, l4, l5, l6, l7, .val (.int bb), .val (.long jj), .second, l11, l12, .val (.ref xx), .val (.ref yy), .val (.int (1 : Int32)), .val (.int (1 : Int32)), .val (.int (1 : Int32)), .val (.int (1 : Int32)), .val (.int (1 : Int32)), .val (.int (1 : Int32)), .val (.int (1 : Int32))] [(.int (1 : Int32))])) (fun τ κ => XS.iload X199.here hx rfl (hb hby at_256) rfl κ) ?_
      have hc204 : ¬ ((1 : Int32) = (0 : Int32)) := by decide
      refine Gl.st (g' := (mkF m 261 #[.val (.int x0), .val (.long x1), .second, l3, l4, l5, l6, l7, .val (.int bb), .val (.long jj), .second, l11, l12, .val (.ref xx), .val (.ref yy), .val (.int (1 : Int32)), .val (.int (1 : Int32)), .val (.int (1 : Int32)), .val (.int (1 : Int32)), .val (.int (1 : Int32)), .val (.int (1 : Int32)), .val (.int (1 : Int32))] [])) (fun τ κ => XS.ifNo X199.here hx rfl (hb hby at_258) rfl ((if0 _ _).trans (feq hc204).1) κ) ?_
      refine Gl.st (g' := (mkF m 263 #[.val (.int x0), .val (.long x1), .second, l3, l4, l5, l6, l7, .val (.int bb), .val (.long jj), .second, l11, l12, .val (.ref xx), .val (.ref yy), .val (.int (1 : Int32)), .val (.int (1 : Int32)), .val (.int (1 : Int32)), .val (.int (1 : Int32)), .val (.int (1 : Int32)), .val (.int (1 : Int32)), .val (.int (1 : Int32))] [(.int (1 : Int32))])) (fun τ κ => XS.iload X199.here hx rfl (hb hby at_261) rfl κ) ?_
      have hc205 : ¬ ((1 : Int32) = (0 : Int32)) := by decide
      refine Gl.st (g' := (mkF m 266 #[.val (.int x0), .val (.long x1), .second, l3, l4, l5, l6, l7, .val (.int bb), .val (.long jj), .second, l11, l12, .val (.ref xx), .val (.ref yy), .val (.int (1 : Int32)), .val (.int (1 : Int32)), .val (.int (1 : Int32)), .val (.int (1 : Int32)), .val (.int (1 : Int32)), .val (.int (1 : Int32)), .val (.int (1 : Int32))] [])) (fun τ κ => XS.ifNo X199.here hx rfl (hb hby at_263) rfl ((if0 _ _).trans (feq hc205).1) κ) ?_
      refine Gl.st (g' := (mkF m 268 #[.val (.int x0), .val (.long x1), .second, l3, l4, l5, l6, l7, .val (.int bb), .val (.long jj), .second, l11, l12, .val (.ref xx), .val (.ref yy), .val (.int (1 : Int32)), .val (.int (1 : Int32)), .val (.int (1 : Int32)), .val (.int (1 : Int32)), .val (.int (1 : Int32)), .val (.int (1 : Int32)), .val (.int (1 : Int32))] [(.int (1 : Int32))])) (fun τ κ => XS.iload X199.here hx rfl (hb hby at_266) rfl κ) ?_
      have hc206 : ¬ ((1 : Int32) = (0 : Int32)) := by decide
      refine Gl.st (g' := (mkF m 271 #[.val (.int x0), .val (.long x1), .second, l3, l4, l5, l6, l7, .val (.int bb), .val (.long jj), .second, l11, l12, .val (.ref xx), .val (.ref yy), .val (.int (1 : Int32)), .val (.int (1 : Int32)), .val (.int (1 : Int32)), .val (.int (1 : Int32)), .val (.int (1 : Int32)), .val (.int (1 : Int32)), .val (.int (1 : Int32))] [])) (fun τ κ => XS.ifNo X199.here hx rfl (hb hby at_268) rfl ((if0 _ _).trans (feq hc206).1) κ) ?_
      refine Gl.st (g' := (mkF m 272 #[.val (.int x0), .val (.long x1), .second, l3, l4, l5, l6, l7, .val (.int bb), .val (.long jj), .second, l11, l12, .val (.ref xx), .val (.ref yy), .val (.int (1 : Int32)), .val (.int (1 : Int32)), .val (.int (1 : Int32)), .val (.int (1 : Int32)), .val (.int (1 : Int32)), .val (.int (1 : Int32)), .val (.int (1 : Int32))] [(.int (1 : Int32))])) (fun τ κ => XS.iconst X199.here hx rfl (hb hby at_271) κ) ?_
      refine Gl.st (g' := (mkF m 276 #[.val (.int x0), .val (.long x1), .second, l3, l4, l5, l6, l7, .val (.int bb), .val (.long jj), .second, l11, l12, .val (.ref xx), .val (.ref yy), .val (.int (1 : Int32)), .val (.int (1 : Int32)), .val (.int (1 : Int32)), .val (.int (1 : Int32)), .val (.int (1 : Int32)), .val (.int (1 : Int32)), .val (.int (1 : Int32))] [(.int (1 : Int32))])) (fun τ κ => XS.goto X199.here hx rfl (pc0 := 272) (pc' := 276) rfl (hb hby at_272) (by decide) (by decide) κ) ?_
      exact cont _ _ _ _ X199 e199 N199
    · -- pc 140: not x1 = jj
      refine Gl.st (g' := (mkF m 147 #[.val (.int x0), .val (.long x1), .second, l3, l4, l5, l6, l7, .val (.int bb), .val (.long jj), .second, l11, l12, .val (.ref xx), .val (.ref yy), .unset, .unset, .unset, .unset, .unset, .unset, .unset] [])) (fun τ κ => XS.ifYes X0.here hx rfl (pc0 := 140) (pc' := 147) rfl (hb hby at_140) rfl ((if0 _ _).trans (feq (mt (lw_eq x1 jj).mp hc179)).2) (by decide) (by decide) κ) ?_
      refine Gl.st (g' := (mkF m 148 #[.val (.int x0), .val (.long x1), .second, l3, l4, l5, l6, l7, .val (.int bb), .val (.long jj), .second, l11, l12, .val (.ref xx), .val (.ref yy), .unset, .unset, .unset, .unset, .unset, .unset, .unset] [(.int (0 : Int32))])) (fun τ κ => XS.iconst X0.here hx rfl (hb hby at_147) κ) ?_
      refine Gl.st (g' := (mkF m 150 #[.val (.int x0), .val (.long x1), .second, l3, l4, l5, l6, l7, .val (.int bb), .val (.long jj), .second, l11, l12, .val (.ref xx), .val (.ref yy), .val (.int (0 : Int32)), .unset, .unset, .unset, .unset, .unset, .unset] [])) (fun τ κ => XS.istore X0.here hx rfl (hb hby at_148) rfl (l' := #[.val (.int x0), .val (.long x1), .second, l3, l4, l5, l6, l7, .val (.int bb), .val (.long jj), .second, l11, l12, .val (.ref xx), .val (.ref yy), .val (.int (0 : Int32)), .unset, .unset, .unset, .unset, .unset, .unset]) rfl κ) ?_
      refine Gl.st (g' := (mkF m 152 #[.val (.int x0), .val (.long x1), .second, l3, l4, l5, l6, l7, .val (.int bb), .val (.long jj), .second, l11, l12, .val (.ref xx), .val (.ref yy), .val (.int (0 : Int32)), .unset, .unset, .unset, .unset, .unset, .unset] [(.ref xx)])) (fun τ κ => XS.aload X0.here hx rfl (hb hby at_150) rfl rfl κ) ?_
      refine Gl.st (g' := (mkF m 154 #[.val (.int x0), .val (.long x1), .second, l3, l4, l5, l6, l7, .val (.int bb), .val (.long jj), .second, l11, l12, .val (.ref xx), .val (.ref yy), .val (.int (0 : Int32)), .unset, .unset, .unset, .unset, .unset, .unset] [(.ref yy), (.ref xx)])) (fun τ κ => XS.aload X0.here hx rfl (hb hby at_152) rfl rfl κ) ?_
      obtain ⟨cq207, kq207, q207a, q207b, q207c⟩ := isOf hZ e1 E0
      obtain ⟨rv207, _, ⟨T207, L207, k207, n207⟩, -, X207, ⟨Lc207, hQ207, l207, y207, z207⟩, st207⟩ := X0.virtualBack hx (y := (⟨"com/example/warpcheck/warpcheck/Term$Input", "equals", "(Ljava/lang/Object;)Z"⟩ : MethodName)) (z := (⟨"com/example/warpcheck/warpcheck/Term$Input", "equals", "(Ljava/lang/Object;)Z"⟩ : MethodName)) hown (mvT hZ (hw _ (List.mem_of_getElem? (i := 62) rfl))) (mvT hZ (hw _ (List.mem_of_getElem? (i := 63) rfl))) (notFace_of_selects (args := #[]) (mvT hZ (hw _ (List.mem_of_getElem? (i := 65) rfl)))) (mvT hZ (hw _ (List.mem_of_getElem? (i := 65) rfl))) (mvT hZ (hw _ (List.mem_of_getElem? (i := 64) rfl))) (by decide) (backOf (W := 0) (rm_eq l Z a0 hw [] xx yy x0 bb x1 jj h1 n0 Z0 E1 F0 F1 F2 F3) hZ (hw _ (List.mem_of_getElem? (i := 66) rfl)) (hw _ (List.mem_of_getElem? (i := 46) rfl)) (by decide) (by decide)) q207a q207c (g := (mkF m 154 #[.val (.int x0), .val (.long x1), .second, l3, l4, l5, l6, l7, .val (.int bb), .val (.long jj), .second, l11, l12, .val (.ref xx), .val (.ref yy), .val (.int (0 : Int32)), .unset, .unset, .unset, .unset, .unset, .unset] [(.ref yy), (.ref xx)])) rfl (by rw [hml]; rfl) (Steps.refl _) (argsL := [(.ref yy)]) (rest := []) (lenOf pd_9 rfl) rfl (by show 2 * 0 + _ ≤ _; exact Nat.le_of_eq rfl) (hb hby at_154) (fun _ _ => ⟨rfl, e1, (by decide : 7 + 0 ≤ _), (by decide : 19 + 0 ≤ _)⟩)
      dsimp only [Pt.U, Pt.locs, Pt.cells, Pt.slots] at X207 l207 y207 z207 st207 hQ207
      subst l207 y207 z207
      obtain ⟨rfl, N207q, e207⟩ := hQ207
      have N207 := Fr.app N0 N207q
      refine Gl.st (g' := (mkF m 157 #[.val (.int x0), .val (.long x1), .second, l3, l4, l5, l6, l7, .val (.int bb), .val (.long jj), .second, l11, l12, .val (.ref xx), .val (.ref yy), .val (.int (0 : Int32)), .unset, .unset, .unset, .unset, .unset, .unset] [(.int (own_eq x0 x1 bb jj))])) (fun τ κ => st207.trans κ) ?_
      rw [show (own_eq x0 x1 bb jj) = (0 : Int32) from (own_f10 hc178 hc179)]
      refine Gl.st (g' := (mkF m 159 #[.val (.int x0), .val (.long x1), .second, l3, l4, l5, l6, l7, .val (.int bb), .val (.long jj), .second, l11, l12, .val (.ref xx), .val (.ref yy), .val (.int (0 : Int32)), .val (.int (0 : Int32)), .unset, .unset, .unset, .unset, .unset] [])) (fun τ κ => XS.istore X207.here hx rfl (hb hby at_157) rfl (l' := #[.val (.int x0), .val (.long x1), .second, l3, l4, l5, l6, l7, .val (.int bb), .val (.long jj), .second, l11, l12, .val (.ref xx), .val (.ref yy), .val (.int (0 : Int32)), .val (.int (0 : Int32)), .unset, .unset, .unset, .unset, .unset]) rfl κ) ?_
      refine Gl.st (g' := (mkF m 161 #[.val (.int x0), .val (.long x1), .second, l3, l4, l5, l6, l7, .val (.int bb), .val (.long jj), .second, l11, l12, .val (.ref xx), .val (.ref yy), .val (.int (0 : Int32)), .val (.int (0 : Int32)), .unset, .unset, .unset, .unset, .unset] [(.ref yy)])) (fun τ κ => XS.aload X207.here hx rfl (hb hby at_159) rfl rfl κ) ?_
      refine Gl.st (g' := (mkF m 163 #[.val (.int x0), .val (.long x1), .second, l3, l4, l5, l6, l7, .val (.int bb), .val (.long jj), .second, l11, l12, .val (.ref xx), .val (.ref yy), .val (.int (0 : Int32)), .val (.int (0 : Int32)), .unset, .unset, .unset, .unset, .unset] [(.ref xx), (.ref yy)])) (fun τ κ => XS.aload X207.here hx rfl (hb hby at_161) rfl rfl κ) ?_
      obtain ⟨cq208, kq208, q208a, q208b, q208c⟩ := isOf hZ e207 E1
      obtain ⟨rv208, _, ⟨T208, L208, k208, n208⟩, -, X208, ⟨Lc208, hQ208, l208, y208, z208⟩, st208⟩ := X207.virtualBack hx (y := (⟨"com/example/warpcheck/warpcheck/Term$Input", "equals", "(Ljava/lang/Object;)Z"⟩ : MethodName)) (z := (⟨"com/example/warpcheck/warpcheck/Term$Input", "equals", "(Ljava/lang/Object;)Z"⟩ : MethodName)) hown (mvT hZ (hw _ (List.mem_of_getElem? (i := 62) rfl))) (mvT hZ (hw _ (List.mem_of_getElem? (i := 63) rfl))) (notFace_of_selects (args := #[]) (mvT hZ (hw _ (List.mem_of_getElem? (i := 65) rfl)))) (mvT hZ (hw _ (List.mem_of_getElem? (i := 65) rfl))) (mvT hZ (hw _ (List.mem_of_getElem? (i := 64) rfl))) (by decide) (backOf (W := 0) (rm_eq l Z a0 hw [] yy xx bb x0 jj x1 h1 n0 Z0 E0 F2 F3 F0 F1) hZ (hw _ (List.mem_of_getElem? (i := 66) rfl)) (hw _ (List.mem_of_getElem? (i := 46) rfl)) (by decide) (by decide)) q208a q208c (g := (mkF m 163 #[.val (.int x0), .val (.long x1), .second, l3, l4, l5, l6, l7, .val (.int bb), .val (.long jj), .second, l11, l12, .val (.ref xx), .val (.ref yy), .val (.int (0 : Int32)), .val (.int (0 : Int32)), .unset, .unset, .unset, .unset, .unset] [(.ref xx), (.ref yy)])) rfl (by rw [hml]; rfl) (Steps.refl _) (argsL := [(.ref xx)]) (rest := []) (lenOf pd_9 rfl) rfl (by show 2 * 0 + _ ≤ _; exact Nat.le_of_eq rfl) (hb hby at_163) (fun _ _ => ⟨rfl, e207, (by decide : 7 + 0 ≤ _), (by decide : 19 + 0 ≤ _)⟩)
      dsimp only [Pt.U, Pt.locs, Pt.cells, Pt.slots] at X208 l208 y208 z208 st208 hQ208
      subst l208 y208 z208
      obtain ⟨rfl, N208q, e208⟩ := hQ208
      have N208 := Fr.app N207 N208q
      refine Gl.st (g' := (mkF m 166 #[.val (.int x0), .val (.long x1), .second, l3, l4, l5, l6, l7, .val (.int bb), .val (.long jj), .second, l11, l12, .val (.ref xx), .val (.ref yy), .val (.int (0 : Int32)), .val (.int (0 : Int32)), .unset, .unset, .unset, .unset, .unset] [(.int (own_eq bb jj x0 x1))])) (fun τ κ => st208.trans κ) ?_
      rw [show (own_eq bb jj x0 x1) = (0 : Int32) from (own_f10 hc178.symm (fun q => hc179 q.symm))]
      refine Gl.st (g' := (mkF m 168 #[.val (.int x0), .val (.long x1), .second, l3, l4, l5, l6, l7, .val (.int bb), .val (.long jj), .second, l11, l12, .val (.ref xx), .val (.ref yy), .val (.int (0 : Int32)), .val (.int (0 : Int32)), .val (.int (0 : Int32)), .unset, .unset, .unset, .unset] [])) (fun τ κ => XS.istore X208.here hx rfl (hb hby at_166) rfl (l' := #[.val (.int x0), .val (.long x1), .second, l3, l4, l5, l6, l7, .val (.int bb), .val (.long jj), .second, l11, l12, .val (.ref xx), .val (.ref yy), .val (.int (0 : Int32)), .val (.int (0 : Int32)), .val (.int (0 : Int32)), .unset, .unset, .unset, .unset]) rfl κ) ?_
      refine Gl.st (g' := (mkF m 170 #[.val (.int x0), .val (.long x1), .second, l3, l4, l5, l6, l7, .val (.int bb), .val (.long jj), .second, l11, l12, .val (.ref xx), .val (.ref yy), .val (.int (0 : Int32)), .val (.int (0 : Int32)), .val (.int (0 : Int32)), .unset, .unset, .unset, .unset] [(.ref xx)])) (fun τ κ => XS.aload X208.here hx rfl (hb hby at_168) rfl rfl κ) ?_
      refine Gl.st (g' := (mkF m 172 #[.val (.int x0), .val (.long x1), .second, l3, l4, l5, l6, l7, .val (.int bb), .val (.long jj), .second, l11, l12, .val (.ref xx), .val (.ref yy), .val (.int (0 : Int32)), .val (.int (0 : Int32)), .val (.int (0 : Int32)), .unset, .unset, .unset, .unset] [(.ref xx), (.ref xx)])) (fun τ κ => XS.aload X208.here hx rfl (hb hby at_170) rfl rfl κ) ?_
      obtain ⟨cq209, kq209, q209a, q209b, q209c⟩ := isOf hZ e208 E0
      obtain ⟨rv209, _, ⟨T209, L209, k209, n209⟩, -, X209, ⟨Lc209, hQ209, l209, y209, z209⟩, st209⟩ := X208.virtualBack hx (y := (⟨"com/example/warpcheck/warpcheck/Term$Input", "equals", "(Ljava/lang/Object;)Z"⟩ : MethodName)) (z := (⟨"com/example/warpcheck/warpcheck/Term$Input", "equals", "(Ljava/lang/Object;)Z"⟩ : MethodName)) hown (mvT hZ (hw _ (List.mem_of_getElem? (i := 62) rfl))) (mvT hZ (hw _ (List.mem_of_getElem? (i := 63) rfl))) (notFace_of_selects (args := #[]) (mvT hZ (hw _ (List.mem_of_getElem? (i := 65) rfl)))) (mvT hZ (hw _ (List.mem_of_getElem? (i := 65) rfl))) (mvT hZ (hw _ (List.mem_of_getElem? (i := 64) rfl))) (by decide) (backOf (W := 0) (rm_eq l Z a0 hw [] xx xx x0 x0 x1 x1 h1 n0 Z0 E0 F0 F1 F0 F1) hZ (hw _ (List.mem_of_getElem? (i := 66) rfl)) (hw _ (List.mem_of_getElem? (i := 46) rfl)) (by decide) (by decide)) q209a q209c (g := (mkF m 172 #[.val (.int x0), .val (.long x1), .second, l3, l4, l5, l6, l7, .val (.int bb), .val (.long jj), .second, l11, l12, .val (.ref xx), .val (.ref yy), .val (.int (0 : Int32)), .val (.int (0 : Int32)), .val (.int (0 : Int32)), .unset, .unset, .unset, .unset] [(.ref xx), (.ref xx)])) rfl (by rw [hml]; rfl) (Steps.refl _) (argsL := [(.ref xx)]) (rest := []) (lenOf pd_9 rfl) rfl (by show 2 * 0 + _ ≤ _; exact Nat.le_of_eq rfl) (hb hby at_172) (fun _ _ => ⟨rfl, e208, (by decide : 7 + 0 ≤ _), (by decide : 19 + 0 ≤ _)⟩)
      dsimp only [Pt.U, Pt.locs, Pt.cells, Pt.slots] at X209 l209 y209 z209 st209 hQ209
      subst l209 y209 z209
      obtain ⟨rfl, N209q, e209⟩ := hQ209
      have N209 := Fr.app N208 N209q
      refine Gl.st (g' := (mkF m 175 #[.val (.int x0), .val (.long x1), .second, l3, l4, l5, l6, l7, .val (.int bb), .val (.long jj), .second, l11, l12, .val (.ref xx), .val (.ref yy), .val (.int (0 : Int32)), .val (.int (0 : Int32)), .val (.int (0 : Int32)), .unset, .unset, .unset, .unset] [(.int (own_eq x0 x1 x0 x1))])) (fun τ κ => st209.trans κ) ?_
      rw [show (own_eq x0 x1 x0 x1) = (1 : Int32) from (own_se _ _)]
      refine Gl.st (g' := (mkF m 177 #[.val (.int x0), .val (.long x1), .second, l3, l4, l5, l6, l7, .val (.int bb), .val (.long jj), .second, l11, l12, .val (.ref xx), .val (.ref yy), .val (.int (0 : Int32)), .val (.int (0 : Int32)), .val (.int (0 : Int32)), .val (.int (1 : Int32)), .unset, .unset, .unset] [])) (fun τ κ => XS.istore X209.here hx rfl (hb hby at_175) rfl (l' := #[.val (.int x0), .val (.long x1), .second, l3, l4, l5, l6, l7, .val (.int bb), .val (.long jj), .second, l11, l12, .val (.ref xx), .val (.ref yy), .val (.int (0 : Int32)), .val (.int (0 : Int32)), .val (.int (0 : Int32)), .val (.int (1 : Int32)), .unset, .unset, .unset]) rfl κ) ?_
      refine Gl.st (g' := (mkF m 179 #[.val (.int x0), .val (.long x1), .second, l3, l4, l5, l6, l7, .val (.int bb), .val (.long jj), .second, l11, l12, .val (.ref xx), .val (.ref yy), .val (.int (0 : Int32)), .val (.int (0 : Int32)), .val (.int (0 : Int32)), .val (.int (1 : Int32)), .unset, .unset, .unset] [(.ref xx)])) (fun τ κ => XS.aload X209.here hx rfl (hb hby at_177) rfl rfl κ) ?_
      refine Gl.st (g' := (mkF m 180 #[.val (.int x0), .val (.long x1), .second, l3, l4, l5, l6, l7, .val (.int bb), .val (.long jj), .second, l11, l12, .val (.ref xx), .val (.ref yy), .val (.int (0 : Int32)), .val (.int (0 : Int32)), .val (.int (0 : Int32)), .val (.int (1 : Int32)), .unset, .unset, .unset] [.null, (.ref xx)])) (fun τ κ => XS.aconstNull X209.here hx rfl (hb hby at_179) κ) ?_
      obtain ⟨cq210, kq210, q210a, q210b, q210c⟩ := isOf hZ e209 E0
      obtain ⟨rv210, _, ⟨T210, L210, k210, n210⟩, -, X210, ⟨Lc210, hQ210, l210, y210, z210⟩, st210⟩ := X209.virtualBack hx (y := (⟨"com/example/warpcheck/warpcheck/Term$Input", "equals", "(Ljava/lang/Object;)Z"⟩ : MethodName)) (z := (⟨"com/example/warpcheck/warpcheck/Term$Input", "equals", "(Ljava/lang/Object;)Z"⟩ : MethodName)) hown (mvT hZ (hw _ (List.mem_of_getElem? (i := 62) rfl))) (mvT hZ (hw _ (List.mem_of_getElem? (i := 63) rfl))) (notFace_of_selects (args := #[]) (mvT hZ (hw _ (List.mem_of_getElem? (i := 65) rfl)))) (mvT hZ (hw _ (List.mem_of_getElem? (i := 65) rfl))) (mvT hZ (hw _ (List.mem_of_getElem? (i := 64) rfl))) (by decide) (backOf (W := 0) (rm_eqn l Z a0 hw [] xx h1 n0 Z0 ) hZ (hw _ (List.mem_of_getElem? (i := 66) rfl)) (hw _ (List.mem_of_getElem? (i := 46) rfl)) (by decide) (by decide)) q210a q210c (g := (mkF m 180 #[.val (.int x0), .val (.long x1), .second, l3, l4, l5, l6, l7, .val (.int bb), .val (.long jj), .second, l11, l12, .val (.ref xx), .val (.ref yy), .val (.int (0 : Int32)), .val (.int (0 : Int32)), .val (.int (0 : Int32)), .val (.int (1 : Int32)), .unset, .unset, .unset] [.null, (.ref xx)])) rfl (by rw [hml]; rfl) (Steps.refl _) (argsL := [.null]) (rest := []) (lenOf pd_9 rfl) rfl (by show 2 * 0 + _ ≤ _; exact Nat.le_of_eq rfl) (hb hby at_180) (fun _ _ => ⟨rfl, e209, (by decide : 7 + 0 ≤ _), (by decide : 19 + 0 ≤ _)⟩)
      dsimp only [Pt.U, Pt.locs, Pt.cells, Pt.slots] at X210 l210 y210 z210 st210 hQ210
      subst l210 y210 z210
      obtain ⟨rfl, N210q, e210⟩ := hQ210
      have N210 := Fr.app N209 N210q
      refine Gl.st (g' := (mkF m 183 #[.val (.int x0), .val (.long x1), .second, l3, l4, l5, l6, l7, .val (.int bb), .val (.long jj), .second, l11, l12, .val (.ref xx), .val (.ref yy), .val (.int (0 : Int32)), .val (.int (0 : Int32)), .val (.int (0 : Int32)), .val (.int (1 : Int32)), .unset, .unset, .unset] [(.int (0 : Int32))])) (fun τ κ => st210.trans κ) ?_
      have hc211 : (0 : Int32) = (0 : Int32) := by decide
      refine Gl.st (g' := (mkF m 186 #[.val (.int x0), .val (.long x1), .second, l3, l4, l5, l6, l7, .val (.int bb), .val (.long jj), .second, l11, l12, .val (.ref xx), .val (.ref yy), .val (.int (0 : Int32)), .val (.int (0 : Int32)), .val (.int (0 : Int32)), .val (.int (1 : Int32)), .unset, .unset, .unset] [])) (fun τ κ => XS.ifNo X210.here hx rfl (hb hby at_183) rfl ((if0 _ _).trans (teq hc211).2) κ) ?_
      refine Gl.st (g' := (mkF m 187 #[.val (.int x0), .val (.long x1), .second, l3, l4, l5, l6, l7, .val (.int bb), .val (.long jj), .second, l11, l12, .val (.ref xx), .val (.ref yy), .val (.int (0 : Int32)), .val (.int (0 : Int32)), .val (.int (0 : Int32)), .val (.int (1 : Int32)), .unset, .unset, .unset] [(.int (1 : Int32))])) (fun τ κ => XS.iconst X210.here hx rfl (hb hby at_186) κ) ?_
      refine Gl.st (g' := (mkF m 191 #[.val (.int x0), .val (.long x1), .second, l3, l4, l5, l6, l7, .val (.int bb), .val (.long jj), .second, l11, l12, .val (.ref xx), .val (.ref yy), .val (.int (0 : Int32)), .val (.int (0 : Int32)), .val (.int (0 : Int32)), .val (.int (1 : Int32)), .unset, .unset, .unset] [(.int (1 : Int32))])) (fun τ κ => XS.goto X210.here hx rfl (pc0 := 187) (pc' := 191) rfl (hb hby at_187) (by decide) (by decide) κ) ?_
      refine Gl.st (g' := (mkF m 193 #[.val (.int x0), .val (.long x1), .second, l3, l4, l5, l6, l7, .val (.int bb), .val (.long jj), .second, l11, l12, .val (.ref xx), .val (.ref yy), .val (.int (0 : Int32)), .val (.int (0 : Int32)), .val (.int (0 : Int32)), .val (.int (1 : Int32)), .val (.int (1 : Int32)), .unset, .unset] [])) (fun τ κ => XS.istore X210.here hx rfl (hb hby at_191) rfl (l' := #[.val (.int x0), .val (.long x1), .second, l3, l4, l5, l6, l7, .val (.int bb), .val (.long jj), .second, l11, l12, .val (.ref xx), .val (.ref yy), .val (.int (0 : Int32)), .val (.int (0 : Int32)), .val (.int (0 : Int32)), .val (.int (1 : Int32)), .val (.int (1 : Int32)), .unset, .unset]) rfl κ) ?_
      refine Gl.st (g' := (mkF m 195 #[.val (.int x0), .val (.long x1), .second, l3, l4, l5, l6, l7, .val (.int bb), .val (.long jj), .second, l11, l12, .val (.ref xx), .val (.ref yy), .val (.int (0 : Int32)), .val (.int (0 : Int32)), .val (.int (0 : Int32)), .val (.int (1 : Int32)), .val (.int (1 : Int32)), .unset, .unset] [(.ref xx)])) (fun τ κ => XS.aload X210.here hx rfl (hb hby at_193) rfl rfl κ) ?_
      refine Gl.st (g' := (mkF m 196 #[.val (.int x0), .val (.long x1), .second, l3, l4, l5, l6, l7, .val (.int bb), .val (.long jj), .second, l11, l12, .val (.ref xx), .val (.ref yy), .val (.int (0 : Int32)), .val (.int (0 : Int32)), .val (.int (0 : Int32)), .val (.int (1 : Int32)), .val (.int (1 : Int32)), .unset, .unset] [(.long x1), (.ref xx)])) (fun τ κ => XS.lloadN X210.here hx rfl (hb hby at_195) rfl κ) ?_
      obtain ⟨rv212, _, ⟨T212, L212, k212, n212⟩, -, X212, ⟨Lc212, hQ212, l212, y212, z212⟩, st212⟩ := Jvm.LawKit.callS X210 hx (y := (⟨"java/lang/Long", "valueOf", "(J)Ljava/lang/Long;"⟩ : MethodName)) hown (mvT hZ (hw _ (List.mem_of_getElem? (i := 69) rfl))) (mvT hZ (hw _ (List.mem_of_getElem? (i := 70) rfl))) (mvT hZ (hw _ (List.mem_of_getElem? (i := 71) rfl))) (mvT hZ (hw _ (List.mem_of_getElem? (i := 72) rfl))) (by decide) (backOf (W := 1) (rm14 l Z a0 hw [] x1 lc kl vl h1 n0 Z0 SL VL HE) hZ (hw _ (List.mem_of_getElem? (i := 72) rfl)) (hw _ (List.mem_of_getElem? (i := 71) rfl)) (by decide) (by decide)) (g := (mkF m 196 #[.val (.int x0), .val (.long x1), .second, l3, l4, l5, l6, l7, .val (.int bb), .val (.long jj), .second, l11, l12, .val (.ref xx), .val (.ref yy), .val (.int (0 : Int32)), .val (.int (0 : Int32)), .val (.int (0 : Int32)), .val (.int (1 : Int32)), .val (.int (1 : Int32)), .unset, .unset] [(.long x1), (.ref xx)])) rfl (by rw [hml]; rfl) (argsL := [(.long x1)]) (rest := [(.ref xx)]) (lenOf pd_10 rfl) rfl (by show 2 * 0 + _ ≤ _; exact Nat.le_of_eq rfl) (hb hby at_196) (fun _ _ => ⟨rfl, e210, (by decide : 7 + 1 ≤ _), (by decide : 19 + 1 ≤ _)⟩)
      dsimp only [Pt.U, Pt.locs, Pt.cells, Pt.slots] at X212 l212 y212 z212 st212 hQ212
      subst l212 y212 z212
      obtain ⟨b212, rfl, N212q, Kc212, Ex212⟩ := hQ212
      have E_213 := E0.keep Kc212
      have E_214 := E1.keep Kc212
      have F_215 := F0.keep Kc212 nin0
      have F_216 := F1.keep Kc212 nin0
      have F_217 := F2.keep Kc212 nin0
      have F_218 := F3.keep Kc212 nin0
      have S_219 := Sta.keepX SL Kc212 all0
      have V_220 := VL.keep Kc212 nin0
      have X_221 := HE.keep Kc212
      have N212 := Fr.app N210 N212q
      have Z212 : n0 ≤ T212.heap.size := Nat.le_trans Z0 Kc212.1
      have K212 : Keep h1 T212.heap [] := (Keep.refl h1 []).trans Kc212 all0
      refine Gl.st (g' := (mkF m 199 #[.val (.int x0), .val (.long x1), .second, l3, l4, l5, l6, l7, .val (.int bb), .val (.long jj), .second, l11, l12, .val (.ref xx), .val (.ref yy), .val (.int (0 : Int32)), .val (.int (0 : Int32)), .val (.int (0 : Int32)), .val (.int (1 : Int32)), .val (.int (1 : Int32)), .unset, .unset] [(.ref b212), (.ref xx)])) (fun τ κ => st212 _ κ) ?_
      obtain ⟨cq222, kq222, q222a, q222b, q222c⟩ := isOf hZ rfl E_213
      obtain ⟨rv222, _, ⟨T222, L222, k222, n222⟩, -, X222, ⟨Lc222, hQ222, l222, y222, z222⟩, st222⟩ := X212.virtualBack hx (y := (⟨"com/example/warpcheck/warpcheck/Term$Input", "equals", "(Ljava/lang/Object;)Z"⟩ : MethodName)) (z := (⟨"com/example/warpcheck/warpcheck/Term$Input", "equals", "(Ljava/lang/Object;)Z"⟩ : MethodName)) hown (mvT hZ (hw _ (List.mem_of_getElem? (i := 62) rfl))) (mvT hZ (hw _ (List.mem_of_getElem? (i := 63) rfl))) (notFace_of_selects (args := #[]) (mvT hZ (hw _ (List.mem_of_getElem? (i := 65) rfl)))) (mvT hZ (hw _ (List.mem_of_getElem? (i := 65) rfl))) (mvT hZ (hw _ (List.mem_of_getElem? (i := 64) rfl))) (by decide) (backOf (W := 0) (rm_eql l Z a0 hw [] xx b212 T212.heap n0 Z212 Ex212) hZ (hw _ (List.mem_of_getElem? (i := 66) rfl)) (hw _ (List.mem_of_getElem? (i := 46) rfl)) (by decide) (by decide)) q222a q222c (g := (mkF m 199 #[.val (.int x0), .val (.long x1), .second, l3, l4, l5, l6, l7, .val (.int bb), .val (.long jj), .second, l11, l12, .val (.ref xx), .val (.ref yy), .val (.int (0 : Int32)), .val (.int (0 : Int32)), .val (.int (0 : Int32)), .val (.int (1 : Int32)), .val (.int (1 : Int32)), .unset, .unset] [(.ref b212), (.ref xx)])) rfl (by rw [hml]; rfl) (Steps.refl _) (argsL := [(.ref b212)]) (rest := []) (lenOf pd_9 rfl) rfl (by show 2 * 0 + _ ≤ _; exact Nat.le_of_eq rfl) (hb hby at_199) (fun _ _ => ⟨rfl, rfl, (by decide : 8 + 0 ≤ _), (by decide : 20 + 0 ≤ _)⟩)
      dsimp only [Pt.U, Pt.locs, Pt.cells, Pt.slots] at X222 l222 y222 z222 st222 hQ222
      subst l222 y222 z222
      obtain ⟨rfl, N222q, e222⟩ := hQ222
      have N222 := Fr.app N212 N222q
      refine Gl.st (g' := (mkF m 202 #[.val (.int x0), .val (.long x1), .second, l3, l4, l5, l6, l7, .val (.int bb), .val (.long jj), .second, l11, l12, .val (.ref xx), .val (.ref yy), .val (.int (0 : Int32)), .val (.int (0 : Int32)), .val (.int (0 : Int32)), .val (.int (1 : Int32)), .val (.int (1 : Int32)), .unset, .unset] [(.int (0 : Int32))])) (fun τ κ => st222.trans κ) ?_
      have hc223 : (0 : Int32) = (0 : Int32) := by decide
      refine Gl.st (g' := (mkF m 205 #[.val (.int x0), .val (.long x1), .second, l3, l4, l5, l6, l7, .val (.int bb), .val (.long jj), .second, l11, l12, .val (.ref xx), .val (.ref yy), .val (.int (0 : Int32)), .val (.int (0 : Int32)), .val (.int (0 : Int32)), .val (.int (1 : Int32)), .val (.int (1 : Int32)), .unset, .unset] [])) (fun τ κ => XS.ifNo X222.here hx rfl (hb hby at_202) rfl ((if0 _ _).trans (teq hc223).2) κ) ?_
      refine Gl.st (g' := (mkF m 206 #[.val (.int x0), .val (.long x1), .second, l3, l4, l5, l6, l7, .val (.int bb), .val (.long jj), .second, l11, l12, .val (.ref xx), .val (.ref yy), .val (.int (0 : Int32)), .val (.int (0 : Int32)), .val (.int (0 : Int32)), .val (.int (1 : Int32)), .val (.int (1 : Int32)), .unset, .unset] [(.int (1 : Int32))])) (fun τ κ => XS.iconst X222.here hx rfl (hb hby at_205) κ) ?_
      refine Gl.st (g' := (mkF m 210 #[.val (.int x0), .val (.long x1), .second, l3, l4, l5, l6, l7, .val (.int bb), .val (.long jj), .second, l11, l12, .val (.ref xx), .val (.ref yy), .val (.int (0 : Int32)), .val (.int (0 : Int32)), .val (.int (0 : Int32)), .val (.int (1 : Int32)), .val (.int (1 : Int32)), .unset, .unset] [(.int (1 : Int32))])) (fun τ κ => XS.goto X222.here hx rfl (pc0 := 206) (pc' := 210) rfl (hb hby at_206) (by decide) (by decide) κ) ?_
      refine Gl.st (g' := (mkF m 212 #[.val (.int x0), .val (.long x1), .second, l3, l4, l5, l6, l7, .val (.int bb), .val (.long jj), .second, l11, l12, .val (.ref xx), .val (.ref yy), .val (.int (0 : Int32)), .val (.int (0 : Int32)), .val (.int (0 : Int32)), .val (.int (1 : Int32)), .val (.int (1 : Int32)), .val (.int (1 : Int32)), .unset] [])) (fun τ κ => XS.istore X222.here hx rfl (hb hby at_210) rfl (l' := #[.val (.int x0), .val (.long x1), .second, l3, l4, l5, l6, l7, .val (.int bb), .val (.long jj), .second, l11, l12, .val (.ref xx), .val (.ref yy), .val (.int (0 : Int32)), .val (.int (0 : Int32)), .val (.int (0 : Int32)), .val (.int (1 : Int32)), .val (.int (1 : Int32)), .val (.int (1 : Int32)), .unset]) rfl κ) ?_
      refine Gl.st (g' := (mkF m 214 #[.val (.int x0), .val (.long x1), .second, l3, l4, l5, l6, l7, .val (.int bb), .val (.long jj), .second, l11, l12, .val (.ref xx), .val (.ref yy), .val (.int (0 : Int32)), .val (.int (0 : Int32)), .val (.int (0 : Int32)), .val (.int (1 : Int32)), .val (.int (1 : Int32)), .val (.int (1 : Int32)), .unset] [(.int (0 : Int32))])) (fun τ κ => XS.iload X222.here hx rfl (hb hby at_212) rfl κ) ?_
      have hc224 : (0 : Int32) = (0 : Int32) := by decide
      refine Gl.st (g' := (mkF m 230 #[.val (.int x0), .val (.long x1), .second, l3, l4, l5, l6, l7, .val (.int bb), .val (.long jj), .second, l11, l12, .val (.ref xx), .val (.ref yy), .val (.int (0 : Int32)), .val (.int (0 : Int32)), .val (.int (0 : Int32)), .val (.int (1 : Int32)), .val (.int (1 : Int32)), .val (.int (1 : Int32)), .unset] [])) (fun τ κ => XS.ifYes X222.here hx rfl (pc0 := 214) (pc' := 230) rfl (hb hby at_214) rfl ((if0 _ _).trans (teq hc224).1) (by decide) (by decide) κ) ?_
      refine Gl.st (g' := (mkF m 231 #[.val (.int x0), .val (.long x1), .second, l3, l4, l5, l6, l7, .val (.int bb), .val (.long jj), .second, l11, l12, .val (.ref xx), .val (.ref yy), .val (.int (0 : Int32)), .val (.int (0 : Int32)), .val (.int (0 : Int32)), .val (.int (1 : Int32)), .val (.int (1 : Int32)), .val (.int (1 : Int32)), .unset] [(.int (1 : Int32))])) (fun τ κ => XS.iconst X222.here hx rfl (hb hby at_230) κ) ?_
      refine Gl.st (g' := (mkF m 235 #[.val (.int x0), .val (.long x1), .second, l3, l4, l5, l6, l7, .val (.int bb), .val (.long jj), .second, l11, l12, .val (.ref xx), .val (.ref yy), .val (.int (0 : Int32)), .val (.int (0 : Int32)), .val (.int (0 : Int32)), .val (.int (1 : Int32)), .val (.int (1 : Int32)), .val (.int (1 : Int32)), .unset] [(.int (1 : Int32))])) (fun τ κ => XS.goto X222.here hx rfl (pc0 := 231) (pc' := 235) rfl (hb hby at_231) (by decide) (by decide) κ) ?_
      refine Gl.st (g' := (mkF m 237 #[.val (.int x0), .val (.long x1), .second, l3, l4, l5, l6, l7, .val (.int bb), .val (.long jj), .second, l11, l12, .val (.ref xx), .val (.ref yy), .val (.int (0 : Int32)), .val (.int (0 : Int32)), .val (.int (0 : Int32)), .val (.int (1 : Int32)), .val (.int (1 : Int32)), .val (.int (1 : Int32)), .val (.int (1 : Int32))] [])) (fun τ κ => XS.istore X222.here hx rfl (hb hby at_235) rfl (l' := #[.val (.int x0), .val (.long x1), .second, l3, l4, l5, l6, l7, .val (.int bb), .val (.long jj), .second, l11, l12, .val (.ref xx), .val (.ref yy), .val (.int (0 : Int32)), .val (.int (0 : Int32)), .val (.int (0 : Int32)), .val (.int (1 : Int32)), .val (.int (1 : Int32)), .val (.int (1 : Int32)), .val (.int (1 : Int32))]) rfl κ) ?_
      refine Gl.st (g' := (mkF m 239 #[.val (.int x0), .val (.long x1), .second, l3, l4, l5, l6, l7, .val (.int bb), .val (.long jj), .second, l11, l12, .val (.ref xx), .val (.ref yy), .val (.int (0 : Int32)), .val (.int (0 : Int32)), .val (.int (0 : Int32)), .val (.int (1 : Int32)), .val (.int (1 : Int32)), .val (.int (1 : Int32)), .val (.int (1 : Int32))] [(.int (0 : Int32))])) (fun τ κ => XS.iload X222.here hx rfl (hb hby at_237) rfl κ) ?_
      refine Gl.st (g' := (mkF m 241 #[.val (.int x0), .val (.long x1), .second, l3, l4, l5, l6, l7, .val (.int bb), .val (.long jj), .second, l11, l12, .val (.ref xx), .val (.ref yy), .val (.int (0 : Int32)), .val (.int (0 : Int32)), .val (.int (0 : Int32)), .val (.int (1 : Int32)), .val (.int (1 : Int32)), .val (.int (1 : Int32)), .val (.int (1 : Int32))] [(.int (0 : Int32)), (.int (0 : Int32))])) (fun τ κ => XS.iload X222.here hx rfl (hb hby at_239) rfl κ) ?_
      have hc225 : (0 : Int32) = (0 : Int32) := by decide
      refine Gl.st (g' := (mkF m 244 #[.val (.int x0), .val (.long x1), .second, l3, l4, l5, l6, l7, .val (.int bb), .val (.long jj), .second, l11, l12, .val (.ref xx), .val (.ref yy), .val (.int (0 : Int32)), .val (.int (0 : Int32)), .val (.int (0 : Int32)), .val (.int (1 : Int32)), .val (.int (1 : Int32)), .val (.int (1 : Int32)), .val (.int (1 : Int32))] [])) (fun τ κ => XS.icmpNo X222.here hx rfl (hb hby at_241) rfl (teq hc225).2 κ) ?_
      refine Gl.st (g' := (mkF m 246 #[.val (.int x0), .val (.long x1), .second, l3, l4, l5, l6, l7, .val (.int bb), .val (.long jj), .second, l11, l12, .val (.ref xx), .val (.ref yy), .val (.int (0 : Int32)), .val (.int (0 : Int32)), .val (.int (0 : Int32)), .val (.int (1 : Int32)), .val (.int (1 : Int32)), .val (.int (1 : Int32)), .val (.int (1 : Int32))] [(.int (0 : Int32))])) (fun τ κ => XS.iload X222.here hx rfl (hb hby at_244) rfl κ) ?_
      refine Gl.st (g' := (mkF m 248 #[.val (.int x0), .val (.long x1), .second, l3, l4, l5, l6, l7, .val (.int bb), .val (.long jj), .second, l11, l12, .val (.ref xx), .val (.ref yy), .val (.int (0 : Int32)), .val (.int (0 : Int32)), .val (.int (0 : Int32)), .val (.int (1 : Int32)), .val (.int (1 : Int32)), .val (.int (1 : Int32)), .val (.int (1 : Int32))] [(.int (0 : Int32)), (.int (0 : Int32))])) (fun τ κ => XS.iload X222.here hx rfl (hb hby at_246) rfl κ) ?_
      have hc226 : (0 : Int32) = (0 : Int32) := by decide
      refine Gl.st (g' := (mkF m 251 #[.val (.int x0), .val (.long x1), .second, l3, l4, l5, l6, l7, .val (.int bb), .val (.long jj), .second, l11, l12, .val (.ref xx), .val (.ref yy), .val (.int (0 : Int32)), .val (.int (0 : Int32)), .val (.int (0 : Int32)), .val (.int (1 : Int32)), .val (.int (1 : Int32)), .val (.int (1 : Int32)), .val (.int (1 : Int32))] [])) (fun τ κ => XS.icmpNo X222.here hx rfl (hb hby at_248) rfl (teq hc226).2 κ) ?_
      refine Gl.st (g' := (mkF m 253 #[.val (.int x0), .val (.long x1), .second, l3, l4, l5, l6, l7, .val (.int bb), .val (.long jj), .second, l11, l12, .val (.ref xx), .val (.ref yy), .val (.int (0 : Int32)), .val (.int (0 : Int32)), .val (.int (0 : Int32)), .val (.int (1 : Int32)), .val (.int (1 : Int32)), .val (.int (1 : Int32)), .val (.int (1 : Int32))] [(.int (1 : Int32))])) (fun τ κ => XS.iload X222.here hx rfl (hb hby at_251) rfl κ) ?_
      have hc227 : ¬ ((1 : Int32) = (0 : Int32)) := by decide
      refine Gl.st (g' := (mkF m 256 #[.val (.int x0), .val (.long x1), .second, l3, l4, l5, l6, l7, .val (.int bb), .val (.long jj), .second, l11, l12, .val (.ref xx), .val (.ref yy), .val (.int (0 : Int32)), .val (.int (0 : Int32)), .val (.int (0 : Int32)), .val (.int (1 : Int32)), .val (.int (1 : Int32)), .val (.int (1 : Int32)), .val (.int (1 : Int32))] [])) (fun τ κ => XS.ifNo X222.here hx rfl (hb hby at_253) rfl ((if0 _ _).trans (feq hc227).1) κ) ?_
      refine Gl.st (g' := (mkF m 258 #[.val (.int x0), .val (.long x1), .second, l3, l4, l5, l6, l7, .val (.int bb), .val (.long jj), .second, l11, l12, .val (.ref xx), .val (.ref yy), .val (.int (0 : Int32)), .val (.int (0 : Int32)), .val (.int (0 : Int32)), .val (.int (1 : Int32)), .val (.int (1 : Int32)), .val (.int (1 : Int32)), .val (.int (1 : Int32))] [(.int (1 : Int32))])) (fun τ κ => XS.iload X222.here hx rfl (hb hby at_256) rfl κ) ?_
      have hc228 : ¬ ((1 : Int32) = (0 : Int32)) := by decide
      refine Gl.st (g' := (mkF m 261 #[.val (.int x0), .val (.long x1), .second, l3, l4, l5, l6, l7, .val (.int bb), .val (.long jj), .second, l11, l12, .val (.ref xx), .val (.ref yy), .val (.int (0 : Int32)), .val (.int (0 : Int32)), .val (.int (0 : Int32)), .val (.int (1 : Int32)), .val (.int (1 : Int32)), .val (.int (1 : Int32)), .val (.int (1 : Int32))] [])) (fun τ κ => XS.ifNo X222.here hx rfl (hb hby at_258) rfl ((if0 _ _).trans (feq hc228).1) κ) ?_
      refine Gl.st (g' := (mkF m 263 #[.val (.int x0), .val (.long x1), .second, l3, l4, l5, l6, l7, .val (.int bb), .val (.long jj), .second, l11, l12, .val (.ref xx), .val (.ref yy), .val (.int (0 : Int32)), .val (.int (0 : Int32)), .val (.int (0 : Int32)), .val (.int (1 : Int32)), .val (.int (1 : Int32)), .val (.int (1 : Int32)), .val (.int (1 : Int32))] [(.int (1 : Int32))])) (fun τ κ => XS.iload X222.here hx rfl (hb hby at_261) rfl κ) ?_
      have hc229 : ¬ ((1 : Int32) = (0 : Int32)) := by decide
      refine Gl.st (g' := (mkF m 266 #[.val (.int x0), .val (.long x1), .second, l3, l4, l5, l6, l7, .val (.int bb), .val (.long jj), .second, l11, l12, .val (.ref xx), .val (.ref yy), .val (.int (0 : Int32)), .val (.int (0 : Int32)), .val (.int (0 : Int32)), .val (.int (1 : Int32)), .val (.int (1 : Int32)), .val (.int (1 : Int32)), .val (.int (1 : Int32))] [])) (fun τ κ => XS.ifNo X222.here hx rfl (hb hby at_263) rfl ((if0 _ _).trans (feq hc229).1) κ) ?_
      refine Gl.st (g' := (mkF m 268 #[.val (.int x0), .val (.long x1), .second, l3, l4, l5, l6, l7, .val (.int bb), .val (.long jj), .second, l11, l12, .val (.ref xx), .val (.ref yy), .val (.int (0 : Int32)), .val (.int (0 : Int32)), .val (.int (0 : Int32)), .val (.int (1 : Int32)), .val (.int (1 : Int32)), .val (.int (1 : Int32)), .val (.int (1 : Int32))] [(.int (1 : Int32))])) (fun τ κ => XS.iload X222.here hx rfl (hb hby at_266) rfl κ) ?_
      have hc230 : ¬ ((1 : Int32) = (0 : Int32)) := by decide
      refine Gl.st (g' := (mkF m 271 #[.val (.int x0), .val (.long x1), .second, l3, l4, l5, l6, l7, .val (.int bb), .val (.long jj), .second, l11, l12, .val (.ref xx), .val (.ref yy), .val (.int (0 : Int32)), .val (.int (0 : Int32)), .val (.int (0 : Int32)), .val (.int (1 : Int32)), .val (.int (1 : Int32)), .val (.int (1 : Int32)), .val (.int (1 : Int32))] [])) (fun τ κ => XS.ifNo X222.here hx rfl (hb hby at_268) rfl ((if0 _ _).trans (feq hc230).1) κ) ?_
      refine Gl.st (g' := (mkF m 272 #[.val (.int x0), .val (.long x1), .second, l3, l4, l5, l6, l7, .val (.int bb), .val (.long jj), .second, l11, l12, .val (.ref xx), .val (.ref yy), .val (.int (0 : Int32)), .val (.int (0 : Int32)), .val (.int (0 : Int32)), .val (.int (1 : Int32)), .val (.int (1 : Int32)), .val (.int (1 : Int32)), .val (.int (1 : Int32))] [(.int (1 : Int32))])) (fun τ κ => XS.iconst X222.here hx rfl (hb hby at_271) κ) ?_
      refine Gl.st (g' := (mkF m 276 #[.val (.int x0), .val (.long x1), .second, l3, l4, l5, l6, l7, .val (.int bb), .val (.long jj), .second, l11, l12, .val (.ref xx), .val (.ref yy), .val (.int (0 : Int32)), .val (.int (0 : Int32)), .val (.int (0 : Int32)), .val (.int (1 : Int32)), .val (.int (1 : Int32)), .val (.int (1 : Int32)), .val (.int (1 : Int32))] [(.int (1 : Int32))])) (fun τ κ => XS.goto X222.here hx rfl (pc0 := 272) (pc' := 276) rfl (hb hby at_272) (by decide) (by decide) κ) ?_
      exact cont _ _ _ _ X222 e222 N222
  · -- pc 133: not x0 = bb
    refine Gl.st (g' := (mkF m 147 #[.val (.int x0), .val (.long x1), .second, l3, l4, l5, l6, l7, .val (.int bb), .val (.long jj), .second, l11, l12, .val (.ref xx), .val (.ref yy), .unset, .unset, .unset, .unset, .unset, .unset, .unset] [])) (fun τ κ => XS.icmpYes X0.here hx rfl (pc0 := 133) (pc' := 147) rfl (hb hby at_133) rfl (feq hc178).2 (by decide) (by decide) κ) ?_
    refine Gl.st (g' := (mkF m 148 #[.val (.int x0), .val (.long x1), .second, l3, l4, l5, l6, l7, .val (.int bb), .val (.long jj), .second, l11, l12, .val (.ref xx), .val (.ref yy), .unset, .unset, .unset, .unset, .unset, .unset, .unset] [(.int (0 : Int32))])) (fun τ κ => XS.iconst X0.here hx rfl (hb hby at_147) κ) ?_
    refine Gl.st (g' := (mkF m 150 #[.val (.int x0), .val (.long x1), .second, l3, l4, l5, l6, l7, .val (.int bb), .val (.long jj), .second, l11, l12, .val (.ref xx), .val (.ref yy), .val (.int (0 : Int32)), .unset, .unset, .unset, .unset, .unset, .unset] [])) (fun τ κ => XS.istore X0.here hx rfl (hb hby at_148) rfl (l' := #[.val (.int x0), .val (.long x1), .second, l3, l4, l5, l6, l7, .val (.int bb), .val (.long jj), .second, l11, l12, .val (.ref xx), .val (.ref yy), .val (.int (0 : Int32)), .unset, .unset, .unset, .unset, .unset, .unset]) rfl κ) ?_
    refine Gl.st (g' := (mkF m 152 #[.val (.int x0), .val (.long x1), .second, l3, l4, l5, l6, l7, .val (.int bb), .val (.long jj), .second, l11, l12, .val (.ref xx), .val (.ref yy), .val (.int (0 : Int32)), .unset, .unset, .unset, .unset, .unset, .unset] [(.ref xx)])) (fun τ κ => XS.aload X0.here hx rfl (hb hby at_150) rfl rfl κ) ?_
    refine Gl.st (g' := (mkF m 154 #[.val (.int x0), .val (.long x1), .second, l3, l4, l5, l6, l7, .val (.int bb), .val (.long jj), .second, l11, l12, .val (.ref xx), .val (.ref yy), .val (.int (0 : Int32)), .unset, .unset, .unset, .unset, .unset, .unset] [(.ref yy), (.ref xx)])) (fun τ κ => XS.aload X0.here hx rfl (hb hby at_152) rfl rfl κ) ?_
    obtain ⟨cq231, kq231, q231a, q231b, q231c⟩ := isOf hZ e1 E0
    obtain ⟨rv231, _, ⟨T231, L231, k231, n231⟩, -, X231, ⟨Lc231, hQ231, l231, y231, z231⟩, st231⟩ := X0.virtualBack hx (y := (⟨"com/example/warpcheck/warpcheck/Term$Input", "equals", "(Ljava/lang/Object;)Z"⟩ : MethodName)) (z := (⟨"com/example/warpcheck/warpcheck/Term$Input", "equals", "(Ljava/lang/Object;)Z"⟩ : MethodName)) hown (mvT hZ (hw _ (List.mem_of_getElem? (i := 62) rfl))) (mvT hZ (hw _ (List.mem_of_getElem? (i := 63) rfl))) (notFace_of_selects (args := #[]) (mvT hZ (hw _ (List.mem_of_getElem? (i := 65) rfl)))) (mvT hZ (hw _ (List.mem_of_getElem? (i := 65) rfl))) (mvT hZ (hw _ (List.mem_of_getElem? (i := 64) rfl))) (by decide) (backOf (W := 0) (rm_eq l Z a0 hw [] xx yy x0 bb x1 jj h1 n0 Z0 E1 F0 F1 F2 F3) hZ (hw _ (List.mem_of_getElem? (i := 66) rfl)) (hw _ (List.mem_of_getElem? (i := 46) rfl)) (by decide) (by decide)) q231a q231c (g := (mkF m 154 #[.val (.int x0), .val (.long x1), .second, l3, l4, l5, l6, l7, .val (.int bb), .val (.long jj), .second, l11, l12, .val (.ref xx), .val (.ref yy), .val (.int (0 : Int32)), .unset, .unset, .unset, .unset, .unset, .unset] [(.ref yy), (.ref xx)])) rfl (by rw [hml]; rfl) (Steps.refl _) (argsL := [(.ref yy)]) (rest := []) (lenOf pd_9 rfl) rfl (by show 2 * 0 + _ ≤ _; exact Nat.le_of_eq rfl) (hb hby at_154) (fun _ _ => ⟨rfl, e1, (by decide : 7 + 0 ≤ _), (by decide : 19 + 0 ≤ _)⟩)
    dsimp only [Pt.U, Pt.locs, Pt.cells, Pt.slots] at X231 l231 y231 z231 st231 hQ231
    subst l231 y231 z231
    obtain ⟨rfl, N231q, e231⟩ := hQ231
    have N231 := Fr.app N0 N231q
    refine Gl.st (g' := (mkF m 157 #[.val (.int x0), .val (.long x1), .second, l3, l4, l5, l6, l7, .val (.int bb), .val (.long jj), .second, l11, l12, .val (.ref xx), .val (.ref yy), .val (.int (0 : Int32)), .unset, .unset, .unset, .unset, .unset, .unset] [(.int (own_eq x0 x1 bb jj))])) (fun τ κ => st231.trans κ) ?_
    rw [show (own_eq x0 x1 bb jj) = (0 : Int32) from (own_f00 hc178)]
    refine Gl.st (g' := (mkF m 159 #[.val (.int x0), .val (.long x1), .second, l3, l4, l5, l6, l7, .val (.int bb), .val (.long jj), .second, l11, l12, .val (.ref xx), .val (.ref yy), .val (.int (0 : Int32)), .val (.int (0 : Int32)), .unset, .unset, .unset, .unset, .unset] [])) (fun τ κ => XS.istore X231.here hx rfl (hb hby at_157) rfl (l' := #[.val (.int x0), .val (.long x1), .second, l3, l4, l5, l6, l7, .val (.int bb), .val (.long jj), .second, l11, l12, .val (.ref xx), .val (.ref yy), .val (.int (0 : Int32)), .val (.int (0 : Int32)), .unset, .unset, .unset, .unset, .unset]) rfl κ) ?_
    refine Gl.st (g' := (mkF m 161 #[.val (.int x0), .val (.long x1), .second, l3, l4, l5, l6, l7, .val (.int bb), .val (.long jj), .second, l11, l12, .val (.ref xx), .val (.ref yy), .val (.int (0 : Int32)), .val (.int (0 : Int32)), .unset, .unset, .unset, .unset, .unset] [(.ref yy)])) (fun τ κ => XS.aload X231.here hx rfl (hb hby at_159) rfl rfl κ) ?_
    refine Gl.st (g' := (mkF m 163 #[.val (.int x0), .val (.long x1), .second, l3, l4, l5, l6, l7, .val (.int bb), .val (.long jj), .second, l11, l12, .val (.ref xx), .val (.ref yy), .val (.int (0 : Int32)), .val (.int (0 : Int32)), .unset, .unset, .unset, .unset, .unset] [(.ref xx), (.ref yy)])) (fun τ κ => XS.aload X231.here hx rfl (hb hby at_161) rfl rfl κ) ?_
    obtain ⟨cq232, kq232, q232a, q232b, q232c⟩ := isOf hZ e231 E1
    obtain ⟨rv232, _, ⟨T232, L232, k232, n232⟩, -, X232, ⟨Lc232, hQ232, l232, y232, z232⟩, st232⟩ := X231.virtualBack hx (y := (⟨"com/example/warpcheck/warpcheck/Term$Input", "equals", "(Ljava/lang/Object;)Z"⟩ : MethodName)) (z := (⟨"com/example/warpcheck/warpcheck/Term$Input", "equals", "(Ljava/lang/Object;)Z"⟩ : MethodName)) hown (mvT hZ (hw _ (List.mem_of_getElem? (i := 62) rfl))) (mvT hZ (hw _ (List.mem_of_getElem? (i := 63) rfl))) (notFace_of_selects (args := #[]) (mvT hZ (hw _ (List.mem_of_getElem? (i := 65) rfl)))) (mvT hZ (hw _ (List.mem_of_getElem? (i := 65) rfl))) (mvT hZ (hw _ (List.mem_of_getElem? (i := 64) rfl))) (by decide) (backOf (W := 0) (rm_eq l Z a0 hw [] yy xx bb x0 jj x1 h1 n0 Z0 E0 F2 F3 F0 F1) hZ (hw _ (List.mem_of_getElem? (i := 66) rfl)) (hw _ (List.mem_of_getElem? (i := 46) rfl)) (by decide) (by decide)) q232a q232c (g := (mkF m 163 #[.val (.int x0), .val (.long x1), .second, l3, l4, l5, l6, l7, .val (.int bb), .val (.long jj), .second, l11, l12, .val (.ref xx), .val (.ref yy), .val (.int (0 : Int32)), .val (.int (0 : Int32)), .unset, .unset, .unset, .unset, .unset] [(.ref xx), (.ref yy)])) rfl (by rw [hml]; rfl) (Steps.refl _) (argsL := [(.ref xx)]) (rest := []) (lenOf pd_9 rfl) rfl (by show 2 * 0 + _ ≤ _; exact Nat.le_of_eq rfl) (hb hby at_163) (fun _ _ => ⟨rfl, e231, (by decide : 7 + 0 ≤ _), (by decide : 19 + 0 ≤ _)⟩)
    dsimp only [Pt.U, Pt.locs, Pt.cells, Pt.slots] at X232 l232 y232 z232 st232 hQ232
    subst l232 y232 z232
    obtain ⟨rfl, N232q, e232⟩ := hQ232
    have N232 := Fr.app N231 N232q
    refine Gl.st (g' := (mkF m 166 #[.val (.int x0), .val (.long x1), .second, l3, l4, l5, l6, l7, .val (.int bb), .val (.long jj), .second, l11, l12, .val (.ref xx), .val (.ref yy), .val (.int (0 : Int32)), .val (.int (0 : Int32)), .unset, .unset, .unset, .unset, .unset] [(.int (own_eq bb jj x0 x1))])) (fun τ κ => st232.trans κ) ?_
    rw [show (own_eq bb jj x0 x1) = (0 : Int32) from (own_f00 (fun q => hc178 q.symm))]
    refine Gl.st (g' := (mkF m 168 #[.val (.int x0), .val (.long x1), .second, l3, l4, l5, l6, l7, .val (.int bb), .val (.long jj), .second, l11, l12, .val (.ref xx), .val (.ref yy), .val (.int (0 : Int32)), .val (.int (0 : Int32)), .val (.int (0 : Int32)), .unset, .unset, .unset, .unset] [])) (fun τ κ => XS.istore X232.here hx rfl (hb hby at_166) rfl (l' := #[.val (.int x0), .val (.long x1), .second, l3, l4, l5, l6, l7, .val (.int bb), .val (.long jj), .second, l11, l12, .val (.ref xx), .val (.ref yy), .val (.int (0 : Int32)), .val (.int (0 : Int32)), .val (.int (0 : Int32)), .unset, .unset, .unset, .unset]) rfl κ) ?_
    refine Gl.st (g' := (mkF m 170 #[.val (.int x0), .val (.long x1), .second, l3, l4, l5, l6, l7, .val (.int bb), .val (.long jj), .second, l11, l12, .val (.ref xx), .val (.ref yy), .val (.int (0 : Int32)), .val (.int (0 : Int32)), .val (.int (0 : Int32)), .unset, .unset, .unset, .unset] [(.ref xx)])) (fun τ κ => XS.aload X232.here hx rfl (hb hby at_168) rfl rfl κ) ?_
    refine Gl.st (g' := (mkF m 172 #[.val (.int x0), .val (.long x1), .second, l3, l4, l5, l6, l7, .val (.int bb), .val (.long jj), .second, l11, l12, .val (.ref xx), .val (.ref yy), .val (.int (0 : Int32)), .val (.int (0 : Int32)), .val (.int (0 : Int32)), .unset, .unset, .unset, .unset] [(.ref xx), (.ref xx)])) (fun τ κ => XS.aload X232.here hx rfl (hb hby at_170) rfl rfl κ) ?_
    obtain ⟨cq233, kq233, q233a, q233b, q233c⟩ := isOf hZ e232 E0
    obtain ⟨rv233, _, ⟨T233, L233, k233, n233⟩, -, X233, ⟨Lc233, hQ233, l233, y233, z233⟩, st233⟩ := X232.virtualBack hx (y := (⟨"com/example/warpcheck/warpcheck/Term$Input", "equals", "(Ljava/lang/Object;)Z"⟩ : MethodName)) (z := (⟨"com/example/warpcheck/warpcheck/Term$Input", "equals", "(Ljava/lang/Object;)Z"⟩ : MethodName)) hown (mvT hZ (hw _ (List.mem_of_getElem? (i := 62) rfl))) (mvT hZ (hw _ (List.mem_of_getElem? (i := 63) rfl))) (notFace_of_selects (args := #[]) (mvT hZ (hw _ (List.mem_of_getElem? (i := 65) rfl)))) (mvT hZ (hw _ (List.mem_of_getElem? (i := 65) rfl))) (mvT hZ (hw _ (List.mem_of_getElem? (i := 64) rfl))) (by decide) (backOf (W := 0) (rm_eq l Z a0 hw [] xx xx x0 x0 x1 x1 h1 n0 Z0 E0 F0 F1 F0 F1) hZ (hw _ (List.mem_of_getElem? (i := 66) rfl)) (hw _ (List.mem_of_getElem? (i := 46) rfl)) (by decide) (by decide)) q233a q233c (g := (mkF m 172 #[.val (.int x0), .val (.long x1), .second, l3, l4, l5, l6, l7, .val (.int bb), .val (.long jj), .second, l11, l12, .val (.ref xx), .val (.ref yy), .val (.int (0 : Int32)), .val (.int (0 : Int32)), .val (.int (0 : Int32)), .unset, .unset, .unset, .unset] [(.ref xx), (.ref xx)])) rfl (by rw [hml]; rfl) (Steps.refl _) (argsL := [(.ref xx)]) (rest := []) (lenOf pd_9 rfl) rfl (by show 2 * 0 + _ ≤ _; exact Nat.le_of_eq rfl) (hb hby at_172) (fun _ _ => ⟨rfl, e232, (by decide : 7 + 0 ≤ _), (by decide : 19 + 0 ≤ _)⟩)
    dsimp only [Pt.U, Pt.locs, Pt.cells, Pt.slots] at X233 l233 y233 z233 st233 hQ233
    subst l233 y233 z233
    obtain ⟨rfl, N233q, e233⟩ := hQ233
    have N233 := Fr.app N232 N233q
    refine Gl.st (g' := (mkF m 175 #[.val (.int x0), .val (.long x1), .second, l3, l4, l5, l6, l7, .val (.int bb), .val (.long jj), .second, l11, l12, .val (.ref xx), .val (.ref yy), .val (.int (0 : Int32)), .val (.int (0 : Int32)), .val (.int (0 : Int32)), .unset, .unset, .unset, .unset] [(.int (own_eq x0 x1 x0 x1))])) (fun τ κ => st233.trans κ) ?_
    rw [show (own_eq x0 x1 x0 x1) = (1 : Int32) from (own_se _ _)]
    refine Gl.st (g' := (mkF m 177 #[.val (.int x0), .val (.long x1), .second, l3, l4, l5, l6, l7, .val (.int bb), .val (.long jj), .second, l11, l12, .val (.ref xx), .val (.ref yy), .val (.int (0 : Int32)), .val (.int (0 : Int32)), .val (.int (0 : Int32)), .val (.int (1 : Int32)), .unset, .unset, .unset] [])) (fun τ κ => XS.istore X233.here hx rfl (hb hby at_175) rfl (l' := #[.val (.int x0), .val (.long x1), .second, l3, l4, l5, l6, l7, .val (.int bb), .val (.long jj), .second, l11, l12, .val (.ref xx), .val (.ref yy), .val (.int (0 : Int32)), .val (.int (0 : Int32)), .val (.int (0 : Int32)), .val (.int (1 : Int32)), .unset, .unset, .unset]) rfl κ) ?_
    refine Gl.st (g' := (mkF m 179 #[.val (.int x0), .val (.long x1), .second, l3, l4, l5, l6, l7, .val (.int bb), .val (.long jj), .second, l11, l12, .val (.ref xx), .val (.ref yy), .val (.int (0 : Int32)), .val (.int (0 : Int32)), .val (.int (0 : Int32)), .val (.int (1 : Int32)), .unset, .unset, .unset] [(.ref xx)])) (fun τ κ => XS.aload X233.here hx rfl (hb hby at_177) rfl rfl κ) ?_
    refine Gl.st (g' := (mkF m 180 #[.val (.int x0), .val (.long x1), .second, l3, l4, l5, l6, l7, .val (.int bb), .val (.long jj), .second, l11, l12, .val (.ref xx), .val (.ref yy), .val (.int (0 : Int32)), .val (.int (0 : Int32)), .val (.int (0 : Int32)), .val (.int (1 : Int32)), .unset, .unset, .unset] [.null, (.ref xx)])) (fun τ κ => XS.aconstNull X233.here hx rfl (hb hby at_179) κ) ?_
    obtain ⟨cq234, kq234, q234a, q234b, q234c⟩ := isOf hZ e233 E0
    obtain ⟨rv234, _, ⟨T234, L234, k234, n234⟩, -, X234, ⟨Lc234, hQ234, l234, y234, z234⟩, st234⟩ := X233.virtualBack hx (y := (⟨"com/example/warpcheck/warpcheck/Term$Input", "equals", "(Ljava/lang/Object;)Z"⟩ : MethodName)) (z := (⟨"com/example/warpcheck/warpcheck/Term$Input", "equals", "(Ljava/lang/Object;)Z"⟩ : MethodName)) hown (mvT hZ (hw _ (List.mem_of_getElem? (i := 62) rfl))) (mvT hZ (hw _ (List.mem_of_getElem? (i := 63) rfl))) (notFace_of_selects (args := #[]) (mvT hZ (hw _ (List.mem_of_getElem? (i := 65) rfl)))) (mvT hZ (hw _ (List.mem_of_getElem? (i := 65) rfl))) (mvT hZ (hw _ (List.mem_of_getElem? (i := 64) rfl))) (by decide) (backOf (W := 0) (rm_eqn l Z a0 hw [] xx h1 n0 Z0 ) hZ (hw _ (List.mem_of_getElem? (i := 66) rfl)) (hw _ (List.mem_of_getElem? (i := 46) rfl)) (by decide) (by decide)) q234a q234c (g := (mkF m 180 #[.val (.int x0), .val (.long x1), .second, l3, l4, l5, l6, l7, .val (.int bb), .val (.long jj), .second, l11, l12, .val (.ref xx), .val (.ref yy), .val (.int (0 : Int32)), .val (.int (0 : Int32)), .val (.int (0 : Int32)), .val (.int (1 : Int32)), .unset, .unset, .unset] [.null, (.ref xx)])) rfl (by rw [hml]; rfl) (Steps.refl _) (argsL := [.null]) (rest := []) (lenOf pd_9 rfl) rfl (by show 2 * 0 + _ ≤ _; exact Nat.le_of_eq rfl) (hb hby at_180) (fun _ _ => ⟨rfl, e233, (by decide : 7 + 0 ≤ _), (by decide : 19 + 0 ≤ _)⟩)
    dsimp only [Pt.U, Pt.locs, Pt.cells, Pt.slots] at X234 l234 y234 z234 st234 hQ234
    subst l234 y234 z234
    obtain ⟨rfl, N234q, e234⟩ := hQ234
    have N234 := Fr.app N233 N234q
    refine Gl.st (g' := (mkF m 183 #[.val (.int x0), .val (.long x1), .second, l3, l4, l5, l6, l7, .val (.int bb), .val (.long jj), .second, l11, l12, .val (.ref xx), .val (.ref yy), .val (.int (0 : Int32)), .val (.int (0 : Int32)), .val (.int (0 : Int32)), .val (.int (1 : Int32)), .unset, .unset, .unset] [(.int (0 : Int32))])) (fun τ κ => st234.trans κ) ?_
    have hc235 : (0 : Int32) = (0 : Int32) := by decide
    refine Gl.st (g' := (mkF m 186 #[.val (.int x0), .val (.long x1), .second, l3, l4, l5, l6, l7, .val (.int bb), .val (.long jj), .second, l11, l12, .val (.ref xx), .val (.ref yy), .val (.int (0 : Int32)), .val (.int (0 : Int32)), .val (.int (0 : Int32)), .val (.int (1 : Int32)), .unset, .unset, .unset] [])) (fun τ κ => XS.ifNo X234.here hx rfl (hb hby at_183) rfl ((if0 _ _).trans (teq hc235).2) κ) ?_
    refine Gl.st (g' := (mkF m 187 #[.val (.int x0), .val (.long x1), .second, l3, l4, l5, l6, l7, .val (.int bb), .val (.long jj), .second, l11, l12, .val (.ref xx), .val (.ref yy), .val (.int (0 : Int32)), .val (.int (0 : Int32)), .val (.int (0 : Int32)), .val (.int (1 : Int32)), .unset, .unset, .unset] [(.int (1 : Int32))])) (fun τ κ => XS.iconst X234.here hx rfl (hb hby at_186) κ) ?_
    refine Gl.st (g' := (mkF m 191 #[.val (.int x0), .val (.long x1), .second, l3, l4, l5, l6, l7, .val (.int bb), .val (.long jj), .second, l11, l12, .val (.ref xx), .val (.ref yy), .val (.int (0 : Int32)), .val (.int (0 : Int32)), .val (.int (0 : Int32)), .val (.int (1 : Int32)), .unset, .unset, .unset] [(.int (1 : Int32))])) (fun τ κ => XS.goto X234.here hx rfl (pc0 := 187) (pc' := 191) rfl (hb hby at_187) (by decide) (by decide) κ) ?_
    refine Gl.st (g' := (mkF m 193 #[.val (.int x0), .val (.long x1), .second, l3, l4, l5, l6, l7, .val (.int bb), .val (.long jj), .second, l11, l12, .val (.ref xx), .val (.ref yy), .val (.int (0 : Int32)), .val (.int (0 : Int32)), .val (.int (0 : Int32)), .val (.int (1 : Int32)), .val (.int (1 : Int32)), .unset, .unset] [])) (fun τ κ => XS.istore X234.here hx rfl (hb hby at_191) rfl (l' := #[.val (.int x0), .val (.long x1), .second, l3, l4, l5, l6, l7, .val (.int bb), .val (.long jj), .second, l11, l12, .val (.ref xx), .val (.ref yy), .val (.int (0 : Int32)), .val (.int (0 : Int32)), .val (.int (0 : Int32)), .val (.int (1 : Int32)), .val (.int (1 : Int32)), .unset, .unset]) rfl κ) ?_
    refine Gl.st (g' := (mkF m 195 #[.val (.int x0), .val (.long x1), .second, l3, l4, l5, l6, l7, .val (.int bb), .val (.long jj), .second, l11, l12, .val (.ref xx), .val (.ref yy), .val (.int (0 : Int32)), .val (.int (0 : Int32)), .val (.int (0 : Int32)), .val (.int (1 : Int32)), .val (.int (1 : Int32)), .unset, .unset] [(.ref xx)])) (fun τ κ => XS.aload X234.here hx rfl (hb hby at_193) rfl rfl κ) ?_
    refine Gl.st (g' := (mkF m 196 #[.val (.int x0), .val (.long x1), .second, l3, l4, l5, l6, l7, .val (.int bb), .val (.long jj), .second, l11, l12, .val (.ref xx), .val (.ref yy), .val (.int (0 : Int32)), .val (.int (0 : Int32)), .val (.int (0 : Int32)), .val (.int (1 : Int32)), .val (.int (1 : Int32)), .unset, .unset] [(.long x1), (.ref xx)])) (fun τ κ => XS.lloadN X234.here hx rfl (hb hby at_195) rfl κ) ?_
    obtain ⟨rv236, _, ⟨T236, L236, k236, n236⟩, -, X236, ⟨Lc236, hQ236, l236, y236, z236⟩, st236⟩ := Jvm.LawKit.callS X234 hx (y := (⟨"java/lang/Long", "valueOf", "(J)Ljava/lang/Long;"⟩ : MethodName)) hown (mvT hZ (hw _ (List.mem_of_getElem? (i := 69) rfl))) (mvT hZ (hw _ (List.mem_of_getElem? (i := 70) rfl))) (mvT hZ (hw _ (List.mem_of_getElem? (i := 71) rfl))) (mvT hZ (hw _ (List.mem_of_getElem? (i := 72) rfl))) (by decide) (backOf (W := 1) (rm14 l Z a0 hw [] x1 lc kl vl h1 n0 Z0 SL VL HE) hZ (hw _ (List.mem_of_getElem? (i := 72) rfl)) (hw _ (List.mem_of_getElem? (i := 71) rfl)) (by decide) (by decide)) (g := (mkF m 196 #[.val (.int x0), .val (.long x1), .second, l3, l4, l5, l6, l7, .val (.int bb), .val (.long jj), .second, l11, l12, .val (.ref xx), .val (.ref yy), .val (.int (0 : Int32)), .val (.int (0 : Int32)), .val (.int (0 : Int32)), .val (.int (1 : Int32)), .val (.int (1 : Int32)), .unset, .unset] [(.long x1), (.ref xx)])) rfl (by rw [hml]; rfl) (argsL := [(.long x1)]) (rest := [(.ref xx)]) (lenOf pd_10 rfl) rfl (by show 2 * 0 + _ ≤ _; exact Nat.le_of_eq rfl) (hb hby at_196) (fun _ _ => ⟨rfl, e234, (by decide : 7 + 1 ≤ _), (by decide : 19 + 1 ≤ _)⟩)
    dsimp only [Pt.U, Pt.locs, Pt.cells, Pt.slots] at X236 l236 y236 z236 st236 hQ236
    subst l236 y236 z236
    obtain ⟨b236, rfl, N236q, Kc236, Ex236⟩ := hQ236
    have E_237 := E0.keep Kc236
    have E_238 := E1.keep Kc236
    have F_239 := F0.keep Kc236 nin0
    have F_240 := F1.keep Kc236 nin0
    have F_241 := F2.keep Kc236 nin0
    have F_242 := F3.keep Kc236 nin0
    have S_243 := Sta.keepX SL Kc236 all0
    have V_244 := VL.keep Kc236 nin0
    have X_245 := HE.keep Kc236
    have N236 := Fr.app N234 N236q
    have Z236 : n0 ≤ T236.heap.size := Nat.le_trans Z0 Kc236.1
    have K236 : Keep h1 T236.heap [] := (Keep.refl h1 []).trans Kc236 all0
    refine Gl.st (g' := (mkF m 199 #[.val (.int x0), .val (.long x1), .second, l3, l4, l5, l6, l7, .val (.int bb), .val (.long jj), .second, l11, l12, .val (.ref xx), .val (.ref yy), .val (.int (0 : Int32)), .val (.int (0 : Int32)), .val (.int (0 : Int32)), .val (.int (1 : Int32)), .val (.int (1 : Int32)), .unset, .unset] [(.ref b236), (.ref xx)])) (fun τ κ => st236 _ κ) ?_
    obtain ⟨cq246, kq246, q246a, q246b, q246c⟩ := isOf hZ rfl E_237
    obtain ⟨rv246, _, ⟨T246, L246, k246, n246⟩, -, X246, ⟨Lc246, hQ246, l246, y246, z246⟩, st246⟩ := X236.virtualBack hx (y := (⟨"com/example/warpcheck/warpcheck/Term$Input", "equals", "(Ljava/lang/Object;)Z"⟩ : MethodName)) (z := (⟨"com/example/warpcheck/warpcheck/Term$Input", "equals", "(Ljava/lang/Object;)Z"⟩ : MethodName)) hown (mvT hZ (hw _ (List.mem_of_getElem? (i := 62) rfl))) (mvT hZ (hw _ (List.mem_of_getElem? (i := 63) rfl))) (notFace_of_selects (args := #[]) (mvT hZ (hw _ (List.mem_of_getElem? (i := 65) rfl)))) (mvT hZ (hw _ (List.mem_of_getElem? (i := 65) rfl))) (mvT hZ (hw _ (List.mem_of_getElem? (i := 64) rfl))) (by decide) (backOf (W := 0) (rm_eql l Z a0 hw [] xx b236 T236.heap n0 Z236 Ex236) hZ (hw _ (List.mem_of_getElem? (i := 66) rfl)) (hw _ (List.mem_of_getElem? (i := 46) rfl)) (by decide) (by decide)) q246a q246c (g := (mkF m 199 #[.val (.int x0), .val (.long x1), .second, l3, l4, l5, l6, l7, .val (.int bb), .val (.long jj), .second, l11, l12, .val (.ref xx), .val (.ref yy), .val (.int (0 : Int32)), .val (.int (0 : Int32)), .val (.int (0 : Int32)), .val (.int (1 : Int32)), .val (.int (1 : Int32)), .unset, .unset] [(.ref b236), (.ref xx)])) rfl (by rw [hml]; rfl) (Steps.refl _) (argsL := [(.ref b236)]) (rest := []) (lenOf pd_9 rfl) rfl (by show 2 * 0 + _ ≤ _; exact Nat.le_of_eq rfl) (hb hby at_199) (fun _ _ => ⟨rfl, rfl, (by decide : 8 + 0 ≤ _), (by decide : 20 + 0 ≤ _)⟩)
    dsimp only [Pt.U, Pt.locs, Pt.cells, Pt.slots] at X246 l246 y246 z246 st246 hQ246
    subst l246 y246 z246
    obtain ⟨rfl, N246q, e246⟩ := hQ246
    have N246 := Fr.app N236 N246q
    refine Gl.st (g' := (mkF m 202 #[.val (.int x0), .val (.long x1), .second, l3, l4, l5, l6, l7, .val (.int bb), .val (.long jj), .second, l11, l12, .val (.ref xx), .val (.ref yy), .val (.int (0 : Int32)), .val (.int (0 : Int32)), .val (.int (0 : Int32)), .val (.int (1 : Int32)), .val (.int (1 : Int32)), .unset, .unset] [(.int (0 : Int32))])) (fun τ κ => st246.trans κ) ?_
    have hc247 : (0 : Int32) = (0 : Int32) := by decide
    refine Gl.st (g' := (mkF m 205 #[.val (.int x0), .val (.long x1), .second, l3, l4, l5, l6, l7, .val (.int bb), .val (.long jj), .second, l11, l12, .val (.ref xx), .val (.ref yy), .val (.int (0 : Int32)), .val (.int (0 : Int32)), .val (.int (0 : Int32)), .val (.int (1 : Int32)), .val (.int (1 : Int32)), .unset, .unset] [])) (fun τ κ => XS.ifNo X246.here hx rfl (hb hby at_202) rfl ((if0 _ _).trans (teq hc247).2) κ) ?_
    refine Gl.st (g' := (mkF m 206 #[.val (.int x0), .val (.long x1), .second, l3, l4, l5, l6, l7, .val (.int bb), .val (.long jj), .second, l11, l12, .val (.ref xx), .val (.ref yy), .val (.int (0 : Int32)), .val (.int (0 : Int32)), .val (.int (0 : Int32)), .val (.int (1 : Int32)), .val (.int (1 : Int32)), .unset, .unset] [(.int (1 : Int32))])) (fun τ κ => XS.iconst X246.here hx rfl (hb hby at_205) κ) ?_
    refine Gl.st (g' := (mkF m 210 #[.val (.int x0), .val (.long x1), .second, l3, l4, l5, l6, l7, .val (.int bb), .val (.long jj), .second, l11, l12, .val (.ref xx), .val (.ref yy), .val (.int (0 : Int32)), .val (.int (0 : Int32)), .val (.int (0 : Int32)), .val (.int (1 : Int32)), .val (.int (1 : Int32)), .unset, .unset] [(.int (1 : Int32))])) (fun τ κ => XS.goto X246.here hx rfl (pc0 := 206) (pc' := 210) rfl (hb hby at_206) (by decide) (by decide) κ) ?_
    refine Gl.st (g' := (mkF m 212 #[.val (.int x0), .val (.long x1), .second, l3, l4, l5, l6, l7, .val (.int bb), .val (.long jj), .second, l11, l12, .val (.ref xx), .val (.ref yy), .val (.int (0 : Int32)), .val (.int (0 : Int32)), .val (.int (0 : Int32)), .val (.int (1 : Int32)), .val (.int (1 : Int32)), .val (.int (1 : Int32)), .unset] [])) (fun τ κ => XS.istore X246.here hx rfl (hb hby at_210) rfl (l' := #[.val (.int x0), .val (.long x1), .second, l3, l4, l5, l6, l7, .val (.int bb), .val (.long jj), .second, l11, l12, .val (.ref xx), .val (.ref yy), .val (.int (0 : Int32)), .val (.int (0 : Int32)), .val (.int (0 : Int32)), .val (.int (1 : Int32)), .val (.int (1 : Int32)), .val (.int (1 : Int32)), .unset]) rfl κ) ?_
    refine Gl.st (g' := (mkF m 214 #[.val (.int x0), .val (.long x1), .second, l3, l4, l5, l6, l7, .val (.int bb), .val (.long jj), .second, l11, l12, .val (.ref xx), .val (.ref yy), .val (.int (0 : Int32)), .val (.int (0 : Int32)), .val (.int (0 : Int32)), .val (.int (1 : Int32)), .val (.int (1 : Int32)), .val (.int (1 : Int32)), .unset] [(.int (0 : Int32))])) (fun τ κ => XS.iload X246.here hx rfl (hb hby at_212) rfl κ) ?_
    have hc248 : (0 : Int32) = (0 : Int32) := by decide
    refine Gl.st (g' := (mkF m 230 #[.val (.int x0), .val (.long x1), .second, l3, l4, l5, l6, l7, .val (.int bb), .val (.long jj), .second, l11, l12, .val (.ref xx), .val (.ref yy), .val (.int (0 : Int32)), .val (.int (0 : Int32)), .val (.int (0 : Int32)), .val (.int (1 : Int32)), .val (.int (1 : Int32)), .val (.int (1 : Int32)), .unset] [])) (fun τ κ => XS.ifYes X246.here hx rfl (pc0 := 214) (pc' := 230) rfl (hb hby at_214) rfl ((if0 _ _).trans (teq hc248).1) (by decide) (by decide) κ) ?_
    refine Gl.st (g' := (mkF m 231 #[.val (.int x0), .val (.long x1), .second, l3, l4, l5, l6, l7, .val (.int bb), .val (.long jj), .second, l11, l12, .val (.ref xx), .val (.ref yy), .val (.int (0 : Int32)), .val (.int (0 : Int32)), .val (.int (0 : Int32)), .val (.int (1 : Int32)), .val (.int (1 : Int32)), .val (.int (1 : Int32)), .unset] [(.int (1 : Int32))])) (fun τ κ => XS.iconst X246.here hx rfl (hb hby at_230) κ) ?_
    refine Gl.st (g' := (mkF m 235 #[.val (.int x0), .val (.long x1), .second, l3, l4, l5, l6, l7, .val (.int bb), .val (.long jj), .second, l11, l12, .val (.ref xx), .val (.ref yy), .val (.int (0 : Int32)), .val (.int (0 : Int32)), .val (.int (0 : Int32)), .val (.int (1 : Int32)), .val (.int (1 : Int32)), .val (.int (1 : Int32)), .unset] [(.int (1 : Int32))])) (fun τ κ => XS.goto X246.here hx rfl (pc0 := 231) (pc' := 235) rfl (hb hby at_231) (by decide) (by decide) κ) ?_
    refine Gl.st (g' := (mkF m 237 #[.val (.int x0), .val (.long x1), .second, l3, l4, l5, l6, l7, .val (.int bb), .val (.long jj), .second, l11, l12, .val (.ref xx), .val (.ref yy), .val (.int (0 : Int32)), .val (.int (0 : Int32)), .val (.int (0 : Int32)), .val (.int (1 : Int32)), .val (.int (1 : Int32)), .val (.int (1 : Int32)), .val (.int (1 : Int32))] [])) (fun τ κ => XS.istore X246.here hx rfl (hb hby at_235) rfl (l' := #[.val (.int x0), .val (.long x1), .second, l3, l4, l5, l6, l7, .val (.int bb), .val (.long jj), .second, l11, l12, .val (.ref xx), .val (.ref yy), .val (.int (0 : Int32)), .val (.int (0 : Int32)), .val (.int (0 : Int32)), .val (.int (1 : Int32)), .val (.int (1 : Int32)), .val (.int (1 : Int32)), .val (.int (1 : Int32))]) rfl κ) ?_
    refine Gl.st (g' := (mkF m 239 #[.val (.int x0), .val (.long x1), .second, l3, l4, l5, l6, l7, .val (.int bb), .val (.long jj), .second, l11, l12, .val (.ref xx), .val (.ref yy), .val (.int (0 : Int32)), .val (.int (0 : Int32)), .val (.int (0 : Int32)), .val (.int (1 : Int32)), .val (.int (1 : Int32)), .val (.int (1 : Int32)), .val (.int (1 : Int32))] [(.int (0 : Int32))])) (fun τ κ => XS.iload X246.here hx rfl (hb hby at_237) rfl κ) ?_
    refine Gl.st (g' := (mkF m 241 #[.val (.int x0), .val (.long x1), .second, l3, l4, l5, l6, l7, .val (.int bb), .val (.long jj), .second, l11, l12, .val (.ref xx), .val (.ref yy), .val (.int (0 : Int32)), .val (.int (0 : Int32)), .val (.int (0 : Int32)), .val (.int (1 : Int32)), .val (.int (1 : Int32)), .val (.int (1 : Int32)), .val (.int (1 : Int32))] [(.int (0 : Int32)), (.int (0 : Int32))])) (fun τ κ => XS.iload X246.here hx rfl (hb hby at_239) rfl κ) ?_
    have hc249 : (0 : Int32) = (0 : Int32) := by decide
    refine Gl.st (g' := (mkF m 244 #[.val (.int x0), .val (.long x1), .second, l3, l4, l5, l6, l7, .val (.int bb), .val (.long jj), .second, l11, l12, .val (.ref xx), .val (.ref yy), .val (.int (0 : Int32)), .val (.int (0 : Int32)), .val (.int (0 : Int32)), .val (.int (1 : Int32)), .val (.int (1 : Int32)), .val (.int (1 : Int32)), .val (.int (1 : Int32))] [])) (fun τ κ => XS.icmpNo X246.here hx rfl (hb hby at_241) rfl (teq hc249).2 κ) ?_
    refine Gl.st (g' := (mkF m 246 #[.val (.int x0), .val (.long x1), .second, l3, l4, l5, l6, l7, .val (.int bb), .val (.long jj), .second, l11, l12, .val (.ref xx), .val (.ref yy), .val (.int (0 : Int32)), .val (.int (0 : Int32)), .val (.int (0 : Int32)), .val (.int (1 : Int32)), .val (.int (1 : Int32)), .val (.int (1 : Int32)), .val (.int (1 : Int32))] [(.int (0 : Int32))])) (fun τ κ => XS.iload X246.here hx rfl (hb hby at_244) rfl κ) ?_
    refine Gl.st (g' := (mkF m 248 #[.val (.int x0), .val (.long x1), .second, l3, l4, l5, l6, l7, .val (.int bb), .val (.long jj), .second, l11, l12, .val (.ref xx), .val (.ref yy), .val (.int (0 : Int32)), .val (.int (0 : Int32)), .val (.int (0 : Int32)), .val (.int (1 : Int32)), .val (.int (1 : Int32)), .val (.int (1 : Int32)), .val (.int (1 : Int32))] [(.int (0 : Int32)), (.int (0 : Int32))])) (fun τ κ => XS.iload X246.here hx rfl (hb hby at_246) rfl κ) ?_
    have hc250 : (0 : Int32) = (0 : Int32) := by decide
    refine Gl.st (g' := (mkF m 251 #[.val (.int x0), .val (.long x1), .second, l3, l4, l5, l6, l7, .val (.int bb), .val (.long jj), .second, l11, l12, .val (.ref xx), .val (.ref yy), .val (.int (0 : Int32)), .val (.int (0 : Int32)), .val (.int (0 : Int32)), .val (.int (1 : Int32)), .val (.int (1 : Int32)), .val (.int (1 : Int32)), .val (.int (1 : Int32))] [])) (fun τ κ => XS.icmpNo X246.here hx rfl (hb hby at_248) rfl (teq hc250).2 κ) ?_
    refine Gl.st (g' := (mkF m 253 #[.val (.int x0), .val (.long x1), .second, l3, l4, l5, l6, l7, .val (.int bb), .val (.long jj), .second, l11, l12, .val (.ref xx), .val (.ref yy), .val (.int (0 : Int32)), .val (.int (0 : Int32)), .val (.int (0 : Int32)), .val (.int (1 : Int32)), .val (.int (1 : Int32)), .val (.int (1 : Int32)), .val (.int (1 : Int32))] [(.int (1 : Int32))])) (fun τ κ => XS.iload X246.here hx rfl (hb hby at_251) rfl κ) ?_
    have hc251 : ¬ ((1 : Int32) = (0 : Int32)) := by decide
    refine Gl.st (g' := (mkF m 256 #[.val (.int x0), .val (.long x1), .second, l3, l4, l5, l6, l7, .val (.int bb), .val (.long jj), .second, l11, l12, .val (.ref xx), .val (.ref yy), .val (.int (0 : Int32)), .val (.int (0 : Int32)), .val (.int (0 : Int32)), .val (.int (1 : Int32)), .val (.int (1 : Int32)), .val (.int (1 : Int32)), .val (.int (1 : Int32))] [])) (fun τ κ => XS.ifNo X246.here hx rfl (hb hby at_253) rfl ((if0 _ _).trans (feq hc251).1) κ) ?_
    refine Gl.st (g' := (mkF m 258 #[.val (.int x0), .val (.long x1), .second, l3, l4, l5, l6, l7, .val (.int bb), .val (.long jj), .second, l11, l12, .val (.ref xx), .val (.ref yy), .val (.int (0 : Int32)), .val (.int (0 : Int32)), .val (.int (0 : Int32)), .val (.int (1 : Int32)), .val (.int (1 : Int32)), .val (.int (1 : Int32)), .val (.int (1 : Int32))] [(.int (1 : Int32))])) (fun τ κ => XS.iload X246.here hx rfl (hb hby at_256) rfl κ) ?_
    have hc252 : ¬ ((1 : Int32) = (0 : Int32)) := by decide
    refine Gl.st (g' := (mkF m 261 #[.val (.int x0), .val (.long x1), .second, l3, l4, l5, l6, l7, .val (.int bb), .val (.long jj), .second, l11, l12, .val (.ref xx), .val (.ref yy), .val (.int (0 : Int32)), .val (.int (0 : Int32)), .val (.int (0 : Int32)), .val (.int (1 : Int32)), .val (.int (1 : Int32)), .val (.int (1 : Int32)), .val (.int (1 : Int32))] [])) (fun τ κ => XS.ifNo X246.here hx rfl (hb hby at_258) rfl ((if0 _ _).trans (feq hc252).1) κ) ?_
    refine Gl.st (g' := (mkF m 263 #[.val (.int x0), .val (.long x1), .second, l3, l4, l5, l6, l7, .val (.int bb), .val (.long jj), .second, l11, l12, .val (.ref xx), .val (.ref yy), .val (.int (0 : Int32)), .val (.int (0 : Int32)), .val (.int (0 : Int32)), .val (.int (1 : Int32)), .val (.int (1 : Int32)), .val (.int (1 : Int32)), .val (.int (1 : Int32))] [(.int (1 : Int32))])) (fun τ κ => XS.iload X246.here hx rfl (hb hby at_261) rfl κ) ?_
    have hc253 : ¬ ((1 : Int32) = (0 : Int32)) := by decide
    refine Gl.st (g' := (mkF m 266 #[.val (.int x0), .val (.long x1), .second, l3, l4, l5, l6, l7, .val (.int bb), .val (.long jj), .second, l11, l12, .val (.ref xx), .val (.ref yy), .val (.int (0 : Int32)), .val (.int (0 : Int32)), .val (.int (0 : Int32)), .val (.int (1 : Int32)), .val (.int (1 : Int32)), .val (.int (1 : Int32)), .val (.int (1 : Int32))] [])) (fun τ κ => XS.ifNo X246.here hx rfl (hb hby at_263) rfl ((if0 _ _).trans (feq hc253).1) κ) ?_
    refine Gl.st (g' := (mkF m 268 #[.val (.int x0), .val (.long x1), .second, l3, l4, l5, l6, l7, .val (.int bb), .val (.long jj), .second, l11, l12, .val (.ref xx), .val (.ref yy), .val (.int (0 : Int32)), .val (.int (0 : Int32)), .val (.int (0 : Int32)), .val (.int (1 : Int32)), .val (.int (1 : Int32)), .val (.int (1 : Int32)), .val (.int (1 : Int32))] [(.int (1 : Int32))])) (fun τ κ => XS.iload X246.here hx rfl (hb hby at_266) rfl κ) ?_
    have hc254 : ¬ ((1 : Int32) = (0 : Int32)) := by decide
    refine Gl.st (g' := (mkF m 271 #[.val (.int x0), .val (.long x1), .second, l3, l4, l5, l6, l7, .val (.int bb), .val (.long jj), .second, l11, l12, .val (.ref xx), .val (.ref yy), .val (.int (0 : Int32)), .val (.int (0 : Int32)), .val (.int (0 : Int32)), .val (.int (1 : Int32)), .val (.int (1 : Int32)), .val (.int (1 : Int32)), .val (.int (1 : Int32))] [])) (fun τ κ => XS.ifNo X246.here hx rfl (hb hby at_268) rfl ((if0 _ _).trans (feq hc254).1) κ) ?_
    refine Gl.st (g' := (mkF m 272 #[.val (.int x0), .val (.long x1), .second, l3, l4, l5, l6, l7, .val (.int bb), .val (.long jj), .second, l11, l12, .val (.ref xx), .val (.ref yy), .val (.int (0 : Int32)), .val (.int (0 : Int32)), .val (.int (0 : Int32)), .val (.int (1 : Int32)), .val (.int (1 : Int32)), .val (.int (1 : Int32)), .val (.int (1 : Int32))] [(.int (1 : Int32))])) (fun τ κ => XS.iconst X246.here hx rfl (hb hby at_271) κ) ?_
    refine Gl.st (g' := (mkF m 276 #[.val (.int x0), .val (.long x1), .second, l3, l4, l5, l6, l7, .val (.int bb), .val (.long jj), .second, l11, l12, .val (.ref xx), .val (.ref yy), .val (.int (0 : Int32)), .val (.int (0 : Int32)), .val (.int (0 : Int32)), .val (.int (1 : Int32)), .val (.int (1 : Int32)), .val (.int (1 : Int32)), .val (.int (1 : Int32))] [(.int (1 : Int32))])) (fun τ κ => XS.goto X246.here hx rfl (pc0 := 272) (pc' := 276) rfl (hb hby at_272) (by decide) (by decide) κ) ?_
    exact cont _ _ _ _ X246 e246 N246
theorem own_u8 {y : Int32} (h0 : 0 ≤ y.toInt) (h1 : y.toInt ≤ 255) : (y.toUInt32.toUInt16.toUInt32.toInt32).toInt = y.toInt := by
  have := c_i2c y; omega
theorem own_b8 (x : Int32) : 0 ≤ (x &&& (255 : Int32)).toInt ∧ (x &&& (255 : Int32)).toInt ≤ 255 := by
  have h := c_mask x 255 8 (by decide) (by decide); omega
theorem own_c2 (x : Int32) : ¬ (255 : Int32) < ((x &&& (255 : Int32)).toUInt32.toUInt16.toUInt32.toInt32) := by
  have b := own_b8 x
  rw [Int32.lt_iff_toInt_lt, own_u8 b.1 b.2, show (255 : Int32).toInt = 255 from rfl]; omega
theorem own_c1 (x : Int32) : ¬ (255 : Int32) < (nar .char ((x &&& (255 : Int32)).toUInt32.toUInt16.toUInt32.toInt32)) := by
  have b := own_b8 x
  have e := own_u8 b.1 b.2
  have e2 := own_u8 (y := ((x &&& (255 : Int32)).toUInt32.toUInt16.toUInt32.toInt32)) (by omega) (by omega)
  show ¬ (255 : Int32) < ((((x &&& (255 : Int32)).toUInt32.toUInt16.toUInt32.toInt32)).toUInt32.toUInt16.toUInt32.toInt32)
  rw [Int32.lt_iff_toInt_lt, e2, e, show (255 : Int32).toInt = 255 from rfl]; omega
theorem pd_12 : parseMethodDescriptor "([C)V" = some ⟨[(.array .char)], none⟩ := by decide +kernel
theorem pd_13 : parseMethodDescriptor "(C)Ljava/lang/String;" = some ⟨[.char], some (.object "java/lang/String")⟩ := by decide +kernel
theorem pd_14 : parseMethodDescriptor "(IJLjava/lang/String;)V" = some ⟨[.int, .long, (.object "java/lang/String")], none⟩ := by decide +kernel
set_option maxRecDepth 65536 in
set_option maxHeartbeats 40000000 in
theorem own_m29 {p : Program} {l : Launch} {e : Env} {s : State} {m : MethodId} {args : Array Value} {below : List Frame} {meth : Method} {c : Code} {Z : State} {a0 : Array Value} {QQ : Option Value → Heap → List Loc → Prop} {CC NN : Nat} (hx : p.tables.exec = Jvm.exec) (hZ : Z.Warmed39 s.vm) (hw : ∀ d ∈ tables_1, d.before a0 Z = true) (hby : c.code = code) (hml : c.maxLocals = 22) (hown : s.vm.findClass "com/example/warpcheck/warpcheck/InputEqualsPinLaw" = some m.cls) {l3 : Slot} {l4 : Slot} {l5 : Slot} {x0 x4 x5 bb cs : Int32} {x1 jj : Int64} {lc : Addr} {kl : ClassId} {vl : List Value} {n0 : Nat} {T0 : State} {h1 : Heap} {locs : List Loc} (X0 : Stand p l e room_1 s m args below meth c T0 locs 0 0) (e1 : T0.heap = h1) (N0 : Fr n0 locs) (Z0 : n0 ≤ h1.size) (S0 : Sta Z h1 "java/lang/String" "COMPACT_STRINGS" "Z" (.int cs)) (hcs : ¬ cs = (0 : Int32)) (SL : Sta Z h1 "java/lang/Long$LongCache" "cache" "[Ljava/lang/Long;" (.ref lc)) (VL : Arv Z h1 lc kl (.object "java/lang/Long") (256 : Int32) vl .null) (HE : own_HE Z h1 vl)
    (cont : ∀ (T' : State) (h' : Heap) (locs' : List Loc) (Ls : Array Slot), Stand p l e room_1 s m args below meth c T' locs' 8 20 → T'.heap = h' → Fr n0 locs' → Gl p e below s QQ CC NN T' (mkF m 276 Ls [(.int (1 : Int32))])) :
    Gl p e below s QQ CC NN T0 (mkF m 29 #[.val (.int x0), .val (.long x1), .second, l3, l4, l5, .val (.int x4), .val (.int x5), .val (.int bb), .val (.long jj), .second, .unset, .unset, .unset, .unset, .unset, .unset, .unset, .unset, .unset, .unset, .unset] []) := by
  refine Gl.st (g' := (mkF m 31 #[.val (.int x0), .val (.long x1), .second, l3, l4, l5, .val (.int x4), .val (.int x5), .val (.int bb), .val (.long jj), .second, .unset, .unset, .unset, .unset, .unset, .unset, .unset, .unset, .unset, .unset, .unset] [(.int x5)])) (fun τ κ => XS.iload X0.here hx rfl (hb hby at_29) rfl κ) ?_
  refine Gl.st (g' := (mkF m 32 #[.val (.int x0), .val (.long x1), .second, l3, l4, l5, .val (.int x4), .val (.int x5), .val (.int bb), .val (.long jj), .second, .unset, .unset, .unset, .unset, .unset, .unset, .unset, .unset, .unset, .unset, .unset] [(.int (4 : Int32)), (.int x5)])) (fun τ κ => XS.iconst X0.here hx rfl (hb hby at_31) κ) ?_
  refine Gl.st (g' := (mkF m 33 #[.val (.int x0), .val (.long x1), .second, l3, l4, l5, .val (.int x4), .val (.int x5), .val (.int bb), .val (.long jj), .second, .unset, .unset, .unset, .unset, .unset, .unset, .unset, .unset, .unset, .unset, .unset] [(.int (x5 &&& (4 : Int32)))])) (fun τ κ => XS.iand X0.here hx rfl (hb hby at_32) rfl κ) ?_
  by_cases hc255 : (x5 &&& (4 : Int32)) = (0 : Int32)
  · -- pc 33: (x5 &&& (4 : Int32)) = (0 : Int32)
    refine Gl.st (g' := (mkF m 40 #[.val (.int x0), .val (.long x1), .second, l3, l4, l5, .val (.int x4), .val (.int x5), .val (.int bb), .val (.long jj), .second, .unset, .unset, .unset, .unset, .unset, .unset, .unset, .unset, .unset, .unset, .unset] [])) (fun τ κ => XS.ifYes X0.here hx rfl (pc0 := 33) (pc' := 40) rfl (hb hby at_33) rfl ((if0 _ _).trans (teq hc255).1) (by decide) (by decide) κ) ?_
    obtain ⟨T256, h256, X256, e256, E256, A256, D256, -, st256⟩ := newO X0 hx hZ hown (hw _ (List.mem_of_getElem? (i := 0) rfl)) (hw _ (List.mem_of_getElem? (i := 1) rfl)) (hw _ (List.mem_of_getElem? (i := 2) rfl)) e1 (g := (mkF m 40 #[.val (.int x0), .val (.long x1), .second, l3, l4, l5, .val (.int x4), .val (.int x5), .val (.int bb), .val (.long jj), .second, .unset, .unset, .unset, .unset, .unset, .unset, .unset, .unset, .unset, .unset, .unset] [])) rfl (hb hby at_40) (by decide) (by decide)
    obtain ⟨b256, g256⟩ : ∃ z, z = h1.size := ⟨_, rfl⟩
    rw [← g256] at A256 D256 st256
    have ne_lc_b256 : lc ≠ b256 := Nat.ne_of_lt (Nat.lt_of_lt_of_le VL.lt (Nat.le_of_eq g256.symm))
    have S_257 := S0.ext E256
    have S_258 := SL.ext E256
    have V_259 := VL.ext E256
    have X_260 := HE.ext E256
    have g_b256 : n0 ≤ b256 := Nat.le_trans Z0 (Nat.le_of_eq g256.symm)
    have sz_b256 : h1.size ≤ b256 := Nat.le_trans (Keep.refl h1 []).1 (Nat.le_of_eq g256.symm)
    have Z256 : n0 ≤ h256.size := Nat.le_trans Z0 E256.1
    have K256 : Keep h1 h256 [] := (Keep.refl h1 []).ext E256
    have F_261 : Fld Z h256 b256 "java/lang/String" "coder" "B" (.int (0 : Int32)) := D256 (Or.inr (hw _ (List.mem_of_getElem? (i := 27) rfl))) (ty := .byte) (by decide)
    have F_262 : Fld Z h256 b256 "java/lang/String" "value" "[B" .null := D256 (Or.inr (hw _ (List.mem_of_getElem? (i := 29) rfl))) (ty := (.array .byte)) (by decide)
    refine Gl.st (g' := (mkF m 43 #[.val (.int x0), .val (.long x1), .second, l3, l4, l5, .val (.int x4), .val (.int x5), .val (.int bb), .val (.long jj), .second, .unset, .unset, .unset, .unset, .unset, .unset, .unset, .unset, .unset, .unset, .unset] [(.ref b256)])) (fun τ κ => st256 _ κ) ?_
    refine Gl.st (g' := (mkF m 44 #[.val (.int x0), .val (.long x1), .second, l3, l4, l5, .val (.int x4), .val (.int x5), .val (.int bb), .val (.long jj), .second, .unset, .unset, .unset, .unset, .unset, .unset, .unset, .unset, .unset, .unset, .unset] [(.ref b256), (.ref b256)])) (fun τ κ => XS.dup X256.here hx rfl (hb hby at_43) rfl rfl κ) ?_
    refine Gl.st (g' := (mkF m 45 #[.val (.int x0), .val (.long x1), .second, l3, l4, l5, .val (.int x4), .val (.int x5), .val (.int bb), .val (.long jj), .second, .unset, .unset, .unset, .unset, .unset, .unset, .unset, .unset, .unset, .unset, .unset] [(.int (2 : Int32)), (.ref b256), (.ref b256)])) (fun τ κ => XS.iconst X256.here hx rfl (hb hby at_44) κ) ?_
    obtain ⟨T263, h263, k263, X263, e263, E263, A263, st263⟩ := newP X256 hx hZ (hw _ (List.mem_of_getElem? (i := 3) rfl)) e256 (g := (mkF m 45 #[.val (.int x0), .val (.long x1), .second, l3, l4, l5, .val (.int x4), .val (.int x5), .val (.int bb), .val (.long jj), .second, .unset, .unset, .unset, .unset, .unset, .unset, .unset, .unset, .unset, .unset, .unset] [(.int (2 : Int32)), (.ref b256), (.ref b256)])) rfl (hb hby at_45) rfl (by decide) (cap := 2) (by decide) (by decide) (by decide) (by decide)
    obtain ⟨b263, g263⟩ : ∃ z, z = h256.size := ⟨_, rfl⟩
    rw [← g263] at A263 st263
    have ne_lc_b263 : lc ≠ b263 := Nat.ne_of_lt (Nat.lt_of_lt_of_le V_259.lt (Nat.le_of_eq g263.symm))
    have ne_b256_b263 : b256 ≠ b263 := Nat.ne_of_lt (Nat.lt_of_lt_of_le A256.lt (Nat.le_of_eq g263.symm))
    have S_264 := S_257.ext E263
    have S_265 := S_258.ext E263
    have V_266 := V_259.ext E263
    have X_267 := X_260.ext E263
    have E_268 := A256.ext E263
    have F_269 := F_261.ext E263
    have F_270 := F_262.ext E263
    have g_b263 : n0 ≤ b263 := Nat.le_trans Z256 (Nat.le_of_eq g263.symm)
    have sz_b263 : h1.size ≤ b263 := Nat.le_trans K256.1 (Nat.le_of_eq g263.symm)
    have Z263 : n0 ≤ h263.size := Nat.le_trans Z256 E263.1
    have K263 : Keep h1 h263 [] := K256.ext E263
    have V_b263 : Arv Z h263 b263 k263 .char (2 : Int32) [(.int (0 : Int32)), (.int (0 : Int32))] (.int (0 : Int32)) := (Arv.new A263 (by decide)).pad (pad_rep [] (.int (0 : Int32)) 2)
    refine Gl.st (g' := (mkF m 47 #[.val (.int x0), .val (.long x1), .second, l3, l4, l5, .val (.int x4), .val (.int x5), .val (.int bb), .val (.long jj), .second, .unset, .unset, .unset, .unset, .unset, .unset, .unset, .unset, .unset, .unset, .unset] [(.ref b263), (.ref b256), (.ref b256)])) (fun τ κ => st263 _ κ) ?_
    refine Gl.st (g' := (mkF m 48 #[.val (.int x0), .val (.long x1), .second, l3, l4, l5, .val (.int x4), .val (.int x5), .val (.int bb), .val (.long jj), .second, .unset, .unset, .unset, .unset, .unset, .unset, .unset, .unset, .unset, .unset, .unset] [(.ref b263), (.ref b263), (.ref b256), (.ref b256)])) (fun τ κ => XS.dup X263.here hx rfl (hb hby at_47) rfl rfl κ) ?_
    refine Gl.st (g' := (mkF m 49 #[.val (.int x0), .val (.long x1), .second, l3, l4, l5, .val (.int x4), .val (.int x5), .val (.int bb), .val (.long jj), .second, .unset, .unset, .unset, .unset, .unset, .unset, .unset, .unset, .unset, .unset, .unset] [(.int (0 : Int32)), (.ref b263), (.ref b263), (.ref b256), (.ref b256)])) (fun τ κ => XS.iconst X263.here hx rfl (hb hby at_48) κ) ?_
    refine Gl.st (g' := (mkF m 51 #[.val (.int x0), .val (.long x1), .second, l3, l4, l5, .val (.int x4), .val (.int x5), .val (.int bb), .val (.long jj), .second, .unset, .unset, .unset, .unset, .unset, .unset, .unset, .unset, .unset, .unset, .unset] [(.int x4), (.int (0 : Int32)), (.ref b263), (.ref b263), (.ref b256), (.ref b256)])) (fun τ κ => XS.iload X263.here hx rfl (hb hby at_49) rfl κ) ?_
    refine Gl.st (g' := (mkF m 54 #[.val (.int x0), .val (.long x1), .second, l3, l4, l5, .val (.int x4), .val (.int x5), .val (.int bb), .val (.long jj), .second, .unset, .unset, .unset, .unset, .unset, .unset, .unset, .unset, .unset, .unset, .unset] [(.int (255 : Int32)), (.int x4), (.int (0 : Int32)), (.ref b263), (.ref b263), (.ref b256), (.ref b256)])) (fun τ κ => XS.sipush X263.here hx rfl (hb hby at_51) κ) ?_
    refine Gl.st (g' := (mkF m 55 #[.val (.int x0), .val (.long x1), .second, l3, l4, l5, .val (.int x4), .val (.int x5), .val (.int bb), .val (.long jj), .second, .unset, .unset, .unset, .unset, .unset, .unset, .unset, .unset, .unset, .unset, .unset] [(.int (x4 &&& (255 : Int32))), (.int (0 : Int32)), (.ref b263), (.ref b263), (.ref b256), (.ref b256)])) (fun τ κ => XS.iand X263.here hx rfl (hb hby at_54) rfl κ) ?_
    refine Gl.st (g' := (mkF m 56 #[.val (.int x0), .val (.long x1), .second, l3, l4, l5, .val (.int x4), .val (.int x5), .val (.int bb), .val (.long jj), .second, .unset, .unset, .unset, .unset, .unset, .unset, .unset, .unset, .unset, .unset, .unset] [(.int ((x4 &&& (255 : Int32)).toUInt32.toUInt16.toUInt32.toInt32)), (.int (0 : Int32)), (.ref b263), (.ref b263), (.ref b256), (.ref b256)])) (fun τ κ => XS.i2c X263.here hx rfl (hb hby at_55) rfl κ) ?_
    obtain ⟨cl_o271, Ar_o271, q_o271, S_o271, M_o271, H_o271, G_o271⟩ := id V_b263
    have hin_o271 : ¬ ((0 : Int32) < 0 ∨ cl_o271.slots.size ≤ ((0 : Int32)).toNatClampNeg) := inb_of S_o271 ⟨by decide, by decide⟩
    obtain ⟨T272, h272, X272, e272, W272, st272⟩ := stC X263 hx hZ e263 Ar_o271 (j := (0 : Int32)) hin_o271 (g := (mkF m 56 #[.val (.int x0), .val (.long x1), .second, l3, l4, l5, .val (.int x4), .val (.int x5), .val (.int bb), .val (.long jj), .second, .unset, .unset, .unset, .unset, .unset, .unset, .unset, .unset, .unset, .unset, .unset] [(.int ((x4 &&& (255 : Int32)).toUInt32.toUInt16.toUInt32.toInt32)), (.int (0 : Int32)), (.ref b263), (.ref b263), (.ref b256), (.ref b256)])) rfl rfl (hb hby at_56)
    have S_273 := S_264.wr W272
    have S_274 := S_265.wr W272
    have V_275 := V_266.other W272 ne_lc_b263
    have X_276 := X_267.wr W272
    have E_277 := E_268.wr W272
    have F_278 := F_269.other W272 (Or.inl ne_b256_b263)
    have F_279 := F_270.other W272 (Or.inl ne_b256_b263)
    have N272 := Fr.snoc X272 N0 g_b263
    have Z272 : n0 ≤ h272.size := Nat.le_trans Z263 (Nat.le_of_eq W272.size.symm)
    have K272 : Keep h1 h272 [] := K263.wr W272 (Or.inr sz_b263)
    have V_b263_272 : Arv Z h272 b263 k263 .char (2 : Int32) [(.int (nar .char ((x4 &&& (255 : Int32)).toUInt32.toUInt16.toUInt32.toInt32))), (.int (0 : Int32))] (.int (0 : Int32)) := Arv.set Ar_o271 q_o271 S_o271 M_o271 H_o271 G_o271 (fits_nar_char _) W272 0 rfl (Nat.le_of_ble_eq_true rfl)
    refine Gl.st (g' := (mkF m 57 #[.val (.int x0), .val (.long x1), .second, l3, l4, l5, .val (.int x4), .val (.int x5), .val (.int bb), .val (.long jj), .second, .unset, .unset, .unset, .unset, .unset, .unset, .unset, .unset, .unset, .unset, .unset] [(.ref b263), (.ref b256), (.ref b256)])) (fun τ κ => st272 _ κ) ?_
    refine Gl.st (g' := (mkF m 58 #[.val (.int x0), .val (.long x1), .second, l3, l4, l5, .val (.int x4), .val (.int x5), .val (.int bb), .val (.long jj), .second, .unset, .unset, .unset, .unset, .unset, .unset, .unset, .unset, .unset, .unset, .unset] [(.ref b263), (.ref b263), (.ref b256), (.ref b256)])) (fun τ κ => XS.dup X272.here hx rfl (hb hby at_57) rfl rfl κ) ?_
    refine Gl.st (g' := (mkF m 59 #[.val (.int x0), .val (.long x1), .second, l3, l4, l5, .val (.int x4), .val (.int x5), .val (.int bb), .val (.long jj), .second, .unset, .unset, .unset, .unset, .unset, .unset, .unset, .unset, .unset, .unset, .unset] [(.int (1 : Int32)), (.ref b263), (.ref b263), (.ref b256), (.ref b256)])) (fun τ κ => XS.iconst X272.here hx rfl (hb hby at_58) κ) ?_
    refine Gl.st (g' := (mkF m 61 #[.val (.int x0), .val (.long x1), .second, l3, l4, l5, .val (.int x4), .val (.int x5), .val (.int bb), .val (.long jj), .second, .unset, .unset, .unset, .unset, .unset, .unset, .unset, .unset, .unset, .unset, .unset] [(.int x4), (.int (1 : Int32)), (.ref b263), (.ref b263), (.ref b256), (.ref b256)])) (fun τ κ => XS.iload X272.here hx rfl (hb hby at_59) rfl κ) ?_
    refine Gl.st (g' := (mkF m 63 #[.val (.int x0), .val (.long x1), .second, l3, l4, l5, .val (.int x4), .val (.int x5), .val (.int bb), .val (.long jj), .second, .unset, .unset, .unset, .unset, .unset, .unset, .unset, .unset, .unset, .unset, .unset] [(.int (8 : Int32)), (.int x4), (.int (1 : Int32)), (.ref b263), (.ref b263), (.ref b256), (.ref b256)])) (fun τ κ => XS.bipush X272.here hx rfl (hb hby at_61) κ) ?_
    refine Gl.st (g' := (mkF m 64 #[.val (.int x0), .val (.long x1), .second, l3, l4, l5, .val (.int x4), .val (.int x5), .val (.int bb), .val (.long jj), .second, .unset, .unset, .unset, .unset, .unset, .unset, .unset, .unset, .unset, .unset, .unset] [(.int ((x4.toUInt32 >>> ((8 : Int32) &&& 31).toUInt32).toInt32)), (.int (1 : Int32)), (.ref b263), (.ref b263), (.ref b256), (.ref b256)])) (fun τ κ => XS.iushr X272.here hx rfl (hb hby at_63) rfl κ) ?_
    refine Gl.st (g' := (mkF m 67 #[.val (.int x0), .val (.long x1), .second, l3, l4, l5, .val (.int x4), .val (.int x5), .val (.int bb), .val (.long jj), .second, .unset, .unset, .unset, .unset, .unset, .unset, .unset, .unset, .unset, .unset, .unset] [(.int (255 : Int32)), (.int ((x4.toUInt32 >>> ((8 : Int32) &&& 31).toUInt32).toInt32)), (.int (1 : Int32)), (.ref b263), (.ref b263), (.ref b256), (.ref b256)])) (fun τ κ => XS.sipush X272.here hx rfl (hb hby at_64) κ) ?_
    refine Gl.st (g' := (mkF m 68 #[.val (.int x0), .val (.long x1), .second, l3, l4, l5, .val (.int x4), .val (.int x5), .val (.int bb), .val (.long jj), .second, .unset, .unset, .unset, .unset, .unset, .unset, .unset, .unset, .unset, .unset, .unset] [(.int (((x4.toUInt32 >>> ((8 : Int32) &&& 31).toUInt32).toInt32) &&& (255 : Int32))), (.int (1 : Int32)), (.ref b263), (.ref b263), (.ref b256), (.ref b256)])) (fun τ κ => XS.iand X272.here hx rfl (hb hby at_67) rfl κ) ?_
    refine Gl.st (g' := (mkF m 69 #[.val (.int x0), .val (.long x1), .second, l3, l4, l5, .val (.int x4), .val (.int x5), .val (.int bb), .val (.long jj), .second, .unset, .unset, .unset, .unset, .unset, .unset, .unset, .unset, .unset, .unset, .unset] [(.int ((((x4.toUInt32 >>> ((8 : Int32) &&& 31).toUInt32).toInt32) &&& (255 : Int32)).toUInt32.toUInt16.toUInt32.toInt32)), (.int (1 : Int32)), (.ref b263), (.ref b263), (.ref b256), (.ref b256)])) (fun τ κ => XS.i2c X272.here hx rfl (hb hby at_68) rfl κ) ?_
    obtain ⟨cl_o281, Ar_o281, q_o281, S_o281, M_o281, H_o281, G_o281⟩ := id V_b263_272
    have hin_o281 : ¬ ((1 : Int32) < 0 ∨ cl_o281.slots.size ≤ ((1 : Int32)).toNatClampNeg) := inb_of S_o281 ⟨by decide, by decide⟩
    obtain ⟨T282, h282, X282, e282, W282, st282⟩ := stC X272 hx hZ e272 Ar_o281 (j := (1 : Int32)) hin_o281 (g := (mkF m 69 #[.val (.int x0), .val (.long x1), .second, l3, l4, l5, .val (.int x4), .val (.int x5), .val (.int bb), .val (.long jj), .second, .unset, .unset, .unset, .unset, .unset, .unset, .unset, .unset, .unset, .unset, .unset] [(.int ((((x4.toUInt32 >>> ((8 : Int32) &&& 31).toUInt32).toInt32) &&& (255 : Int32)).toUInt32.toUInt16.toUInt32.toInt32)), (.int (1 : Int32)), (.ref b263), (.ref b263), (.ref b256), (.ref b256)])) rfl rfl (hb hby at_69)
    have S_283 := S_273.wr W282
    have S_284 := S_274.wr W282
    have V_285 := V_275.other W282 ne_lc_b263
    have X_286 := X_276.wr W282
    have E_287 := E_277.wr W282
    have F_288 := F_278.other W282 (Or.inl ne_b256_b263)
    have F_289 := F_279.other W282 (Or.inl ne_b256_b263)
    have N282 := Fr.snoc X282 N272 g_b263
    have Z282 : n0 ≤ h282.size := Nat.le_trans Z272 (Nat.le_of_eq W282.size.symm)
    have K282 : Keep h1 h282 [] := K272.wr W282 (Or.inr sz_b263)
    have V_b263_282 : Arv Z h282 b263 k263 .char (2 : Int32) [(.int (nar .char ((x4 &&& (255 : Int32)).toUInt32.toUInt16.toUInt32.toInt32))), (.int (nar .char ((((x4.toUInt32 >>> ((8 : Int32) &&& 31).toUInt32).toInt32) &&& (255 : Int32)).toUInt32.toUInt16.toUInt32.toInt32)))] (.int (0 : Int32)) := Arv.set Ar_o281 q_o281 S_o281 M_o281 H_o281 G_o281 (fits_nar_char _) W282 1 rfl (Nat.le_of_ble_eq_true rfl)
    refine Gl.st (g' := (mkF m 70 #[.val (.int x0), .val (.long x1), .second, l3, l4, l5, .val (.int x4), .val (.int x5), .val (.int bb), .val (.long jj), .second, .unset, .unset, .unset, .unset, .unset, .unset, .unset, .unset, .unset, .unset, .unset] [(.ref b263), (.ref b256), (.ref b256)])) (fun τ κ => st282 _ κ) ?_
    obtain ⟨rv291, _, ⟨T291, L291, k291, n291⟩, -, X291, ⟨Lc291, hQ291, l291, y291, z291⟩, st291⟩ := X282.specialBack hx (y := (⟨"java/lang/String", "<init>", "([C)V"⟩ : MethodName)) rfl hown (mvT hZ (hw _ (List.mem_of_getElem? (i := 4) rfl))) (mvT hZ (hw _ (List.mem_of_getElem? (i := 5) rfl))) (mvT hZ (hw _ (List.mem_of_getElem? (i := 6) rfl))) (by decide) (backOf (W := 1) (rm1 l Z a0 hw [] b256 b263 k263 (nar .char ((x4 &&& (255 : Int32)).toUInt32.toUInt16.toUInt32.toInt32)) (nar .char ((((x4.toUInt32 >>> ((8 : Int32) &&& 31).toUInt32).toInt32) &&& (255 : Int32)).toUInt32.toUInt16.toUInt32.toInt32)) cs h282 n0 Z282 E_287 g_b256 F_289 F_288 ne_b256_b263 S_283 hcs V_b263_282 (own_c1 _) (own_c1 _)) hZ (hw _ (List.mem_of_getElem? (i := 6) rfl)) (hw _ (List.mem_of_getElem? (i := 2) rfl)) (by decide) (by decide)) (g := (mkF m 70 #[.val (.int x0), .val (.long x1), .second, l3, l4, l5, .val (.int x4), .val (.int x5), .val (.int bb), .val (.long jj), .second, .unset, .unset, .unset, .unset, .unset, .unset, .unset, .unset, .unset, .unset, .unset] [(.ref b263), (.ref b256), (.ref b256)])) rfl (by rw [hml]; rfl) (Steps.refl _) (a := b256) (argsL := [(.ref b263)]) (rest := [(.ref b256)]) (lenOf pd_12 rfl) rfl (by show 2 * 0 + _ ≤ _; exact Nat.le_of_eq rfl) (hb hby at_70) (fun _ _ => ⟨rfl, e282, (by decide : 2 + 1 ≤ _), (by decide : 6 + 2 ≤ _)⟩)
    dsimp only [Pt.U, Pt.locs, Pt.cells, Pt.slots] at X291 l291 y291 z291 st291 hQ291
    subst l291 y291 z291
    obtain ⟨rfl, N291q, Kc291⟩ := hQ291
    have S_292 := Sta.keepX S_283 Kc291 (allS (P := fun x => ∃ c : Cell, h282[x]? = some c ∧ ∀ q, c.vm ≠ .statics q) E_287.cell all0)
    have S_293 := Sta.keepX S_284 Kc291 (allS (P := fun x => ∃ c : Cell, h282[x]? = some c ∧ ∀ q, c.vm ≠ .statics q) E_287.cell all0)
    have V_294 := V_285.keep Kc291 (ninS ne_lc_b256 nin0)
    have X_295 := X_286.keep Kc291
    have E_296 := E_287.keep Kc291
    have V_299 := V_b263_282.keep Kc291 (ninS (Ne.symm ne_b256_b263) nin0)
    have N291 := Fr.app N282 N291q
    have Z291 : n0 ≤ T291.heap.size := Nat.le_trans Z282 Kc291.1
    have K291 : Keep h1 T291.heap [] := K282.trans Kc291 (allS (Or.inr sz_b256) all0)
    refine Gl.st (g' := (mkF m 73 #[.val (.int x0), .val (.long x1), .second, l3, l4, l5, .val (.int x4), .val (.int x5), .val (.int bb), .val (.long jj), .second, .unset, .unset, .unset, .unset, .unset, .unset, .unset, .unset, .unset, .unset, .unset] [(.ref b256)])) (fun τ κ => st291.trans κ) ?_
    refine Gl.st (g' := (mkF m 75 #[.val (.int x0), .val (.long x1), .second, l3, l4, l5, .val (.int x4), .val (.int x5), .val (.int bb), .val (.long jj), .second, .val (.ref b256), .unset, .unset, .unset, .unset, .unset, .unset, .unset, .unset, .unset, .unset] [])) (fun τ κ => XS.astore X291.here hx rfl (hb hby at_73) rfl rfl (l' := #[.val (.int x0), .val (.long x1), .second, l3, l4, l5, .val (.int x4), .val (.int x5), .val (.int bb), .val (.long jj), .second, .val (.ref b256), .unset, .unset, .unset, .unset, .unset, .unset, .unset, .unset, .unset, .unset]) rfl κ) ?_
    refine Gl.st (g' := (mkF m 77 #[.val (.int x0), .val (.long x1), .second, l3, l4, l5, .val (.int x4), .val (.int x5), .val (.int bb), .val (.long jj), .second, .val (.ref b256), .unset, .unset, .unset, .unset, .unset, .unset, .unset, .unset, .unset, .unset] [(.int x5)])) (fun τ κ => XS.iload X291.here hx rfl (hb hby at_75) rfl κ) ?_
    refine Gl.st (g' := (mkF m 79 #[.val (.int x0), .val (.long x1), .second, l3, l4, l5, .val (.int x4), .val (.int x5), .val (.int bb), .val (.long jj), .second, .val (.ref b256), .unset, .unset, .unset, .unset, .unset, .unset, .unset, .unset, .unset, .unset] [(.int (8 : Int32)), (.int x5)])) (fun τ κ => XS.bipush X291.here hx rfl (hb hby at_77) κ) ?_
    refine Gl.st (g' := (mkF m 80 #[.val (.int x0), .val (.long x1), .second, l3, l4, l5, .val (.int x4), .val (.int x5), .val (.int bb), .val (.long jj), .second, .val (.ref b256), .unset, .unset, .unset, .unset, .unset, .unset, .unset, .unset, .unset, .unset] [(.int (x5 &&& (8 : Int32)))])) (fun τ κ => XS.iand X291.here hx rfl (hb hby at_79) rfl κ) ?_
    by_cases hc300 : (x5 &&& (8 : Int32)) = (0 : Int32)
    · -- pc 80: (x5 &&& (8 : Int32)) = (0 : Int32)
      refine Gl.st (g' := (mkF m 87 #[.val (.int x0), .val (.long x1), .second, l3, l4, l5, .val (.int x4), .val (.int x5), .val (.int bb), .val (.long jj), .second, .val (.ref b256), .unset, .unset, .unset, .unset, .unset, .unset, .unset, .unset, .unset, .unset] [])) (fun τ κ => XS.ifYes X291.here hx rfl (pc0 := 80) (pc' := 87) rfl (hb hby at_80) rfl ((if0 _ _).trans (teq hc300).1) (by decide) (by decide) κ) ?_
      refine Gl.st (g' := (mkF m 89 #[.val (.int x0), .val (.long x1), .second, l3, l4, l5, .val (.int x4), .val (.int x5), .val (.int bb), .val (.long jj), .second, .val (.ref b256), .unset, .unset, .unset, .unset, .unset, .unset, .unset, .unset, .unset, .unset] [(.int x4)])) (fun τ κ => XS.iload X291.here hx rfl (hb hby at_87) rfl κ) ?_
      refine Gl.st (g' := (mkF m 91 #[.val (.int x0), .val (.long x1), .second, l3, l4, l5, .val (.int x4), .val (.int x5), .val (.int bb), .val (.long jj), .second, .val (.ref b256), .unset, .unset, .unset, .unset, .unset, .unset, .unset, .unset, .unset, .unset] [(.int (16 : Int32)), (.int x4)])) (fun τ κ => XS.bipush X291.here hx rfl (hb hby at_89) κ) ?_
      refine Gl.st (g' := (mkF m 92 #[.val (.int x0), .val (.long x1), .second, l3, l4, l5, .val (.int x4), .val (.int x5), .val (.int bb), .val (.long jj), .second, .val (.ref b256), .unset, .unset, .unset, .unset, .unset, .unset, .unset, .unset, .unset, .unset] [(.int ((x4.toUInt32 >>> ((16 : Int32) &&& 31).toUInt32).toInt32))])) (fun τ κ => XS.iushr X291.here hx rfl (hb hby at_91) rfl κ) ?_
      refine Gl.st (g' := (mkF m 95 #[.val (.int x0), .val (.long x1), .second, l3, l4, l5, .val (.int x4), .val (.int x5), .val (.int bb), .val (.long jj), .second, .val (.ref b256), .unset, .unset, .unset, .unset, .unset, .unset, .unset, .unset, .unset, .unset] [(.int (255 : Int32)), (.int ((x4.toUInt32 >>> ((16 : Int32) &&& 31).toUInt32).toInt32))])) (fun τ κ => XS.sipush X291.here hx rfl (hb hby at_92) κ) ?_
      refine Gl.st (g' := (mkF m 96 #[.val (.int x0), .val (.long x1), .second, l3, l4, l5, .val (.int x4), .val (.int x5), .val (.int bb), .val (.long jj), .second, .val (.ref b256), .unset, .unset, .unset, .unset, .unset, .unset, .unset, .unset, .unset, .unset] [(.int (((x4.toUInt32 >>> ((16 : Int32) &&& 31).toUInt32).toInt32) &&& (255 : Int32)))])) (fun τ κ => XS.iand X291.here hx rfl (hb hby at_95) rfl κ) ?_
      refine Gl.st (g' := (mkF m 97 #[.val (.int x0), .val (.long x1), .second, l3, l4, l5, .val (.int x4), .val (.int x5), .val (.int bb), .val (.long jj), .second, .val (.ref b256), .unset, .unset, .unset, .unset, .unset, .unset, .unset, .unset, .unset, .unset] [(.int ((((x4.toUInt32 >>> ((16 : Int32) &&& 31).toUInt32).toInt32) &&& (255 : Int32)).toUInt32.toUInt16.toUInt32.toInt32))])) (fun τ κ => XS.i2c X291.here hx rfl (hb hby at_96) rfl κ) ?_
      obtain ⟨rv301, _, ⟨T301, L301, k301, n301⟩, -, X301, ⟨Lc301, hQ301, l301, y301, z301⟩, st301⟩ := Jvm.LawKit.callS X291 hx (y := (⟨"java/lang/String", "valueOf", "(C)Ljava/lang/String;"⟩ : MethodName)) hown (mvT hZ (hw _ (List.mem_of_getElem? (i := 30) rfl))) (mvT hZ (hw _ (List.mem_of_getElem? (i := 31) rfl))) (mvT hZ (hw _ (List.mem_of_getElem? (i := 2) rfl))) (mvT hZ (hw _ (List.mem_of_getElem? (i := 32) rfl))) (by decide) (backOf (W := 0) (rm7 l Z a0 hw [] ((((x4.toUInt32 >>> ((16 : Int32) &&& 31).toUInt32).toInt32) &&& (255 : Int32)).toUInt32.toUInt16.toUInt32.toInt32) cs T291.heap n0 Z291 S_292 hcs (own_c2 _)) hZ (hw _ (List.mem_of_getElem? (i := 32) rfl)) (hw _ (List.mem_of_getElem? (i := 2) rfl)) (by decide) (by decide)) (g := (mkF m 97 #[.val (.int x0), .val (.long x1), .second, l3, l4, l5, .val (.int x4), .val (.int x5), .val (.int bb), .val (.long jj), .second, .val (.ref b256), .unset, .unset, .unset, .unset, .unset, .unset, .unset, .unset, .unset, .unset] [(.int ((((x4.toUInt32 >>> ((16 : Int32) &&& 31).toUInt32).toInt32) &&& (255 : Int32)).toUInt32.toUInt16.toUInt32.toInt32))])) rfl (by rw [hml]; rfl) (argsL := [(.int ((((x4.toUInt32 >>> ((16 : Int32) &&& 31).toUInt32).toInt32) &&& (255 : Int32)).toUInt32.toUInt16.toUInt32.toInt32))]) (rest := []) (lenOf pd_13 rfl) rfl (by show 2 * 0 + _ ≤ _; exact Nat.le_of_eq rfl) (hb hby at_97) (fun _ _ => ⟨rfl, rfl, (by decide : 3 + 2 ≤ _), (by decide : 8 + 5 ≤ _)⟩)
      dsimp only [Pt.U, Pt.locs, Pt.cells, Pt.slots] at X301 l301 y301 z301 st301 hQ301
      subst l301 y301 z301
      obtain ⟨b301, rfl, N301q, Kc301, s301⟩ := hQ301
      have S_302 := Sta.keepX S_292 Kc301 all0
      have S_303 := Sta.keepX S_293 Kc301 all0
      have V_304 := V_294.keep Kc301 nin0
      have X_305 := X_295.keep Kc301
      have N301 := Fr.app N291 N301q
      have Z301 : n0 ≤ T301.heap.size := Nat.le_trans Z291 Kc301.1
      have K301 : Keep h1 T301.heap [] := K291.trans Kc301 all0
      refine Gl.st (g' := (mkF m 100 #[.val (.int x0), .val (.long x1), .second, l3, l4, l5, .val (.int x4), .val (.int x5), .val (.int bb), .val (.long jj), .second, .val (.ref b256), .unset, .unset, .unset, .unset, .unset, .unset, .unset, .unset, .unset, .unset] [(.ref b301)])) (fun τ κ => st301 _ κ) ?_
      refine Gl.st (g' := (mkF m 102 #[.val (.int x0), .val (.long x1), .second, l3, l4, l5, .val (.int x4), .val (.int x5), .val (.int bb), .val (.long jj), .second, .val (.ref b256), .val (.ref b301), .unset, .unset, .unset, .unset, .unset, .unset, .unset, .unset, .unset] [])) (fun τ κ => XS.astore X301.here hx rfl (hb hby at_100) rfl rfl (l' := #[.val (.int x0), .val (.long x1), .second, l3, l4, l5, .val (.int x4), .val (.int x5), .val (.int bb), .val (.long jj), .second, .val (.ref b256), .val (.ref b301), .unset, .unset, .unset, .unset, .unset, .unset, .unset, .unset, .unset]) rfl κ) ?_
      obtain ⟨T306, h306, X306, e306, E306, A306, D306, -, st306⟩ := newO X301 hx hZ hown (hw _ (List.mem_of_getElem? (i := 44) rfl)) (hw _ (List.mem_of_getElem? (i := 45) rfl)) (hw _ (List.mem_of_getElem? (i := 46) rfl)) rfl (g := (mkF m 102 #[.val (.int x0), .val (.long x1), .second, l3, l4, l5, .val (.int x4), .val (.int x5), .val (.int bb), .val (.long jj), .second, .val (.ref b256), .val (.ref b301), .unset, .unset, .unset, .unset, .unset, .unset, .unset, .unset, .unset] [])) rfl (hb hby at_102) (by decide) (by decide)
      obtain ⟨b306, g306⟩ : ∃ z, z = T301.heap.size := ⟨_, rfl⟩
      rw [← g306] at A306 D306 st306
      have ne_lc_b306 : lc ≠ b306 := Nat.ne_of_lt (Nat.lt_of_lt_of_le V_304.lt (Nat.le_of_eq g306.symm))
      have S_307 := S_302.ext E306
      have S_308 := S_303.ext E306
      have V_309 := V_304.ext E306
      have X_310 := X_305.ext E306
      have g_b306 : n0 ≤ b306 := Nat.le_trans Z301 (Nat.le_of_eq g306.symm)
      have sz_b306 : h1.size ≤ b306 := Nat.le_trans K301.1 (Nat.le_of_eq g306.symm)
      have Z306 : n0 ≤ h306.size := Nat.le_trans Z301 E306.1
      have K306 : Keep h1 h306 [] := K301.ext E306
      have F_311 : Fld Z h306 b306 "com/example/warpcheck/warpcheck/Term$Input" "arg" "I" (.int (0 : Int32)) := D306 (Or.inr (hw _ (List.mem_of_getElem? (i := 57) rfl))) (ty := .int) (by decide)
      have F_312 : Fld Z h306 b306 "com/example/warpcheck/warpcheck/Term$Input" "index" "J" (.long (0 : Int64)) := D306 (Or.inr (hw _ (List.mem_of_getElem? (i := 59) rfl))) (ty := .long) (by decide)
      have F_313 : Fld Z h306 b306 "com/example/warpcheck/warpcheck/Term$Input" "variable" "Ljava/lang/String;" .null := D306 (Or.inr (hw _ (List.mem_of_getElem? (i := 61) rfl))) (ty := (.object "java/lang/String")) (by decide)
      refine Gl.st (g' := (mkF m 105 #[.val (.int x0), .val (.long x1), .second, l3, l4, l5, .val (.int x4), .val (.int x5), .val (.int bb), .val (.long jj), .second, .val (.ref b256), .val (.ref b301), .unset, .unset, .unset, .unset, .unset, .unset, .unset, .unset, .unset] [(.ref b306)])) (fun τ κ => st306 _ κ) ?_
      refine Gl.st (g' := (mkF m 106 #[.val (.int x0), .val (.long x1), .second, l3, l4, l5, .val (.int x4), .val (.int x5), .val (.int bb), .val (.long jj), .second, .val (.ref b256), .val (.ref b301), .unset, .unset, .unset, .unset, .unset, .unset, .unset, .unset, .unset] [(.ref b306), (.ref b306)])) (fun τ κ => XS.dup X306.here hx rfl (hb hby at_105) rfl rfl κ) ?_
      refine Gl.st (g' := (mkF m 107 #[.val (.int x0), .val (.long x1), .second, l3, l4, l5, .val (.int x4), .val (.int x5), .val (.int bb), .val (.long jj), .second, .val (.ref b256), .val (.ref b301), .unset, .unset, .unset, .unset, .unset, .unset, .unset, .unset, .unset] [(.int x0), (.ref b306), (.ref b306)])) (fun τ κ => XS.iloadN X306.here hx rfl (hb hby at_106) rfl κ) ?_
      refine Gl.st (g' := (mkF m 108 #[.val (.int x0), .val (.long x1), .second, l3, l4, l5, .val (.int x4), .val (.int x5), .val (.int bb), .val (.long jj), .second, .val (.ref b256), .val (.ref b301), .unset, .unset, .unset, .unset, .unset, .unset, .unset, .unset, .unset] [(.long x1), (.int x0), (.ref b306), (.ref b306)])) (fun τ κ => XS.lloadN X306.here hx rfl (hb hby at_107) rfl κ) ?_
      refine Gl.st (g' := (mkF m 110 #[.val (.int x0), .val (.long x1), .second, l3, l4, l5, .val (.int x4), .val (.int x5), .val (.int bb), .val (.long jj), .second, .val (.ref b256), .val (.ref b301), .unset, .unset, .unset, .unset, .unset, .unset, .unset, .unset, .unset] [(.ref b256), (.long x1), (.int x0), (.ref b306), (.ref b306)])) (fun τ κ => XS.aload X306.here hx rfl (hb hby at_108) rfl rfl κ) ?_
      obtain ⟨rv314, _, ⟨T314, L314, k314, n314⟩, -, X314, ⟨Lc314, hQ314, l314, y314, z314⟩, st314⟩ := X306.specialBack hx (y := (⟨"com/example/warpcheck/warpcheck/Term$Input", "<init>", "(IJLjava/lang/String;)V"⟩ : MethodName)) rfl hown (mvT hZ (hw _ (List.mem_of_getElem? (i := 47) rfl))) (mvT hZ (hw _ (List.mem_of_getElem? (i := 48) rfl))) (mvT hZ (hw _ (List.mem_of_getElem? (i := 49) rfl))) (by decide) (backOf (W := 1) (rm_in0 l Z a0 hw [] b306 x0 x1 b256 h306 n0 Z306 A306 g_b306 F_311 F_312 F_313) hZ (hw _ (List.mem_of_getElem? (i := 49) rfl)) (hw _ (List.mem_of_getElem? (i := 46) rfl)) (by decide) (by decide)) (g := (mkF m 110 #[.val (.int x0), .val (.long x1), .second, l3, l4, l5, .val (.int x4), .val (.int x5), .val (.int bb), .val (.long jj), .second, .val (.ref b256), .val (.ref b301), .unset, .unset, .unset, .unset, .unset, .unset, .unset, .unset, .unset] [(.ref b256), (.long x1), (.int x0), (.ref b306), (.ref b306)])) rfl (by rw [hml]; rfl) (Steps.refl _) (a := b306) (argsL := [(.int x0), (.long x1), (.ref b256)]) (rest := [(.ref b306)]) (lenOf pd_14 rfl) rfl (by show 2 * 0 + _ ≤ _; exact Nat.le_of_eq rfl) (hb hby at_110) (fun _ _ => ⟨rfl, e306, (by decide : 6 + 0 ≤ _), (by decide : 16 + 0 ≤ _)⟩)
      dsimp only [Pt.U, Pt.locs, Pt.cells, Pt.slots] at X314 l314 y314 z314 st314 hQ314
      subst l314 y314 z314
      obtain ⟨rfl, N314q, Kc314, Ec314, FA314, FI314⟩ := hQ314
      have S_315 := Sta.keepX S_307 Kc314 (allS (P := fun x => ∃ c : Cell, h306[x]? = some c ∧ ∀ q, c.vm ≠ .statics q) A306.cell all0)
      have S_316 := Sta.keepX S_308 Kc314 (allS (P := fun x => ∃ c : Cell, h306[x]? = some c ∧ ∀ q, c.vm ≠ .statics q) A306.cell all0)
      have V_317 := V_309.keep Kc314 (ninS ne_lc_b306 nin0)
      have X_318 := X_310.keep Kc314
      have E_319 := A306.keep Kc314
      have N314 := Fr.app N301 N314q
      have Z314 : n0 ≤ T314.heap.size := Nat.le_trans Z306 Kc314.1
      have K314 : Keep h1 T314.heap [] := K306.trans Kc314 (allS (Or.inr sz_b306) all0)
      refine Gl.st (g' := (mkF m 113 #[.val (.int x0), .val (.long x1), .second, l3, l4, l5, .val (.int x4), .val (.int x5), .val (.int bb), .val (.long jj), .second, .val (.ref b256), .val (.ref b301), .unset, .unset, .unset, .unset, .unset, .unset, .unset, .unset, .unset] [(.ref b306)])) (fun τ κ => st314.trans κ) ?_
      refine Gl.st (g' := (mkF m 115 #[.val (.int x0), .val (.long x1), .second, l3, l4, l5, .val (.int x4), .val (.int x5), .val (.int bb), .val (.long jj), .second, .val (.ref b256), .val (.ref b301), .val (.ref b306), .unset, .unset, .unset, .unset, .unset, .unset, .unset, .unset] [])) (fun τ κ => XS.astore X314.here hx rfl (hb hby at_113) rfl rfl (l' := #[.val (.int x0), .val (.long x1), .second, l3, l4, l5, .val (.int x4), .val (.int x5), .val (.int bb), .val (.long jj), .second, .val (.ref b256), .val (.ref b301), .val (.ref b306), .unset, .unset, .unset, .unset, .unset, .unset, .unset, .unset]) rfl κ) ?_
      obtain ⟨T323, h323, X323, e323, E323, A323, D323, -, st323⟩ := newO X314 hx hZ hown (hw _ (List.mem_of_getElem? (i := 44) rfl)) (hw _ (List.mem_of_getElem? (i := 45) rfl)) (hw _ (List.mem_of_getElem? (i := 46) rfl)) rfl (g := (mkF m 115 #[.val (.int x0), .val (.long x1), .second, l3, l4, l5, .val (.int x4), .val (.int x5), .val (.int bb), .val (.long jj), .second, .val (.ref b256), .val (.ref b301), .val (.ref b306), .unset, .unset, .unset, .unset, .unset, .unset, .unset, .unset] [])) rfl (hb hby at_115) (by decide) (by decide)
      obtain ⟨b323, g323⟩ : ∃ z, z = T314.heap.size := ⟨_, rfl⟩
      rw [← g323] at A323 D323 st323
      have ne_lc_b323 : lc ≠ b323 := Nat.ne_of_lt (Nat.lt_of_lt_of_le V_317.lt (Nat.le_of_eq g323.symm))
      have ne_b306_b323 : b306 ≠ b323 := Nat.ne_of_lt (Nat.lt_of_lt_of_le Ec314.lt (Nat.le_of_eq g323.symm))
      have S_324 := S_315.ext E323
      have S_325 := S_316.ext E323
      have V_326 := V_317.ext E323
      have X_327 := X_318.ext E323
      have E_328 := Ec314.ext E323
      have F_329 := FA314.ext E323
      have F_330 := FI314.ext E323
      have g_b323 : n0 ≤ b323 := Nat.le_trans Z314 (Nat.le_of_eq g323.symm)
      have sz_b323 : h1.size ≤ b323 := Nat.le_trans K314.1 (Nat.le_of_eq g323.symm)
      have Z323 : n0 ≤ h323.size := Nat.le_trans Z314 E323.1
      have K323 : Keep h1 h323 [] := K314.ext E323
      have F_331 : Fld Z h323 b323 "com/example/warpcheck/warpcheck/Term$Input" "arg" "I" (.int (0 : Int32)) := D323 (Or.inr (hw _ (List.mem_of_getElem? (i := 57) rfl))) (ty := .int) (by decide)
      have F_332 : Fld Z h323 b323 "com/example/warpcheck/warpcheck/Term$Input" "index" "J" (.long (0 : Int64)) := D323 (Or.inr (hw _ (List.mem_of_getElem? (i := 59) rfl))) (ty := .long) (by decide)
      have F_333 : Fld Z h323 b323 "com/example/warpcheck/warpcheck/Term$Input" "variable" "Ljava/lang/String;" .null := D323 (Or.inr (hw _ (List.mem_of_getElem? (i := 61) rfl))) (ty := (.object "java/lang/String")) (by decide)
      refine Gl.st (g' := (mkF m 118 #[.val (.int x0), .val (.long x1), .second, l3, l4, l5, .val (.int x4), .val (.int x5), .val (.int bb), .val (.long jj), .second, .val (.ref b256), .val (.ref b301), .val (.ref b306), .unset, .unset, .unset, .unset, .unset, .unset, .unset, .unset] [(.ref b323)])) (fun τ κ => st323 _ κ) ?_
      refine Gl.st (g' := (mkF m 119 #[.val (.int x0), .val (.long x1), .second, l3, l4, l5, .val (.int x4), .val (.int x5), .val (.int bb), .val (.long jj), .second, .val (.ref b256), .val (.ref b301), .val (.ref b306), .unset, .unset, .unset, .unset, .unset, .unset, .unset, .unset] [(.ref b323), (.ref b323)])) (fun τ κ => XS.dup X323.here hx rfl (hb hby at_118) rfl rfl κ) ?_
      refine Gl.st (g' := (mkF m 121 #[.val (.int x0), .val (.long x1), .second, l3, l4, l5, .val (.int x4), .val (.int x5), .val (.int bb), .val (.long jj), .second, .val (.ref b256), .val (.ref b301), .val (.ref b306), .unset, .unset, .unset, .unset, .unset, .unset, .unset, .unset] [(.int bb), (.ref b323), (.ref b323)])) (fun τ κ => XS.iload X323.here hx rfl (hb hby at_119) rfl κ) ?_
      refine Gl.st (g' := (mkF m 123 #[.val (.int x0), .val (.long x1), .second, l3, l4, l5, .val (.int x4), .val (.int x5), .val (.int bb), .val (.long jj), .second, .val (.ref b256), .val (.ref b301), .val (.ref b306), .unset, .unset, .unset, .unset, .unset, .unset, .unset, .unset] [(.long jj), (.int bb), (.ref b323), (.ref b323)])) (fun τ κ => XS.lload X323.here hx rfl (hb hby at_121) rfl κ) ?_
      refine Gl.st (g' := (mkF m 125 #[.val (.int x0), .val (.long x1), .second, l3, l4, l5, .val (.int x4), .val (.int x5), .val (.int bb), .val (.long jj), .second, .val (.ref b256), .val (.ref b301), .val (.ref b306), .unset, .unset, .unset, .unset, .unset, .unset, .unset, .unset] [(.ref b301), (.long jj), (.int bb), (.ref b323), (.ref b323)])) (fun τ κ => XS.aload X323.here hx rfl (hb hby at_123) rfl rfl κ) ?_
      obtain ⟨rv334, _, ⟨T334, L334, k334, n334⟩, -, X334, ⟨Lc334, hQ334, l334, y334, z334⟩, st334⟩ := X323.specialBack hx (y := (⟨"com/example/warpcheck/warpcheck/Term$Input", "<init>", "(IJLjava/lang/String;)V"⟩ : MethodName)) rfl hown (mvT hZ (hw _ (List.mem_of_getElem? (i := 47) rfl))) (mvT hZ (hw _ (List.mem_of_getElem? (i := 48) rfl))) (mvT hZ (hw _ (List.mem_of_getElem? (i := 49) rfl))) (by decide) (backOf (W := 1) (rm_in0 l Z a0 hw [] b323 bb jj b301 h323 n0 Z323 A323 g_b323 F_331 F_332 F_333) hZ (hw _ (List.mem_of_getElem? (i := 49) rfl)) (hw _ (List.mem_of_getElem? (i := 46) rfl)) (by decide) (by decide)) (g := (mkF m 125 #[.val (.int x0), .val (.long x1), .second, l3, l4, l5, .val (.int x4), .val (.int x5), .val (.int bb), .val (.long jj), .second, .val (.ref b256), .val (.ref b301), .val (.ref b306), .unset, .unset, .unset, .unset, .unset, .unset, .unset, .unset] [(.ref b301), (.long jj), (.int bb), (.ref b323), (.ref b323)])) rfl (by rw [hml]; rfl) (Steps.refl _) (a := b323) (argsL := [(.int bb), (.long jj), (.ref b301)]) (rest := [(.ref b323)]) (lenOf pd_14 rfl) rfl (by show 2 * 0 + _ ≤ _; exact Nat.le_of_eq rfl) (hb hby at_125) (fun _ _ => ⟨rfl, e323, (by decide : 7 + 0 ≤ _), (by decide : 19 + 0 ≤ _)⟩)
      dsimp only [Pt.U, Pt.locs, Pt.cells, Pt.slots] at X334 l334 y334 z334 st334 hQ334
      subst l334 y334 z334
      obtain ⟨rfl, N334q, Kc334, Ec334, FA334, FI334⟩ := hQ334
      have S_335 := Sta.keepX S_324 Kc334 (allS (P := fun x => ∃ c : Cell, h323[x]? = some c ∧ ∀ q, c.vm ≠ .statics q) A323.cell all0)
      have S_336 := Sta.keepX S_325 Kc334 (allS (P := fun x => ∃ c : Cell, h323[x]? = some c ∧ ∀ q, c.vm ≠ .statics q) A323.cell all0)
      have V_337 := V_326.keep Kc334 (ninS ne_lc_b323 nin0)
      have X_338 := X_327.keep Kc334
      have E_339 := E_328.keep Kc334
      have F_340 := F_329.keep Kc334 (ninS ne_b306_b323 nin0)
      have F_341 := F_330.keep Kc334 (ninS ne_b306_b323 nin0)
      have E_342 := A323.keep Kc334
      have N334 := Fr.app N314 N334q
      have Z334 : n0 ≤ T334.heap.size := Nat.le_trans Z323 Kc334.1
      have K334 : Keep h1 T334.heap [] := K323.trans Kc334 (allS (Or.inr sz_b323) all0)
      refine Gl.st (g' := (mkF m 128 #[.val (.int x0), .val (.long x1), .second, l3, l4, l5, .val (.int x4), .val (.int x5), .val (.int bb), .val (.long jj), .second, .val (.ref b256), .val (.ref b301), .val (.ref b306), .unset, .unset, .unset, .unset, .unset, .unset, .unset, .unset] [(.ref b323)])) (fun τ κ => st334.trans κ) ?_
      refine Gl.st (g' := (mkF m 130 #[.val (.int x0), .val (.long x1), .second, l3, l4, l5, .val (.int x4), .val (.int x5), .val (.int bb), .val (.long jj), .second, .val (.ref b256), .val (.ref b301), .val (.ref b306), .val (.ref b323), .unset, .unset, .unset, .unset, .unset, .unset, .unset] [])) (fun τ κ => XS.astore X334.here hx rfl (hb hby at_128) rfl rfl (l' := #[.val (.int x0), .val (.long x1), .second, l3, l4, l5, .val (.int x4), .val (.int x5), .val (.int bb), .val (.long jj), .second, .val (.ref b256), .val (.ref b301), .val (.ref b306), .val (.ref b323), .unset, .unset, .unset, .unset, .unset, .unset, .unset]) rfl κ) ?_
      exact own_t130 hx hZ hw hby hml hown (X334.more (by decide) (by decide)) rfl N334 Z334 E_339 Ec334 F_340 F_341 FA334 FI334 S_336 V_337 X_338 cont
    · -- pc 80: not (x5 &&& (8 : Int32)) = (0 : Int32)
      refine Gl.st (g' := (mkF m 83 #[.val (.int x0), .val (.long x1), .second, l3, l4, l5, .val (.int x4), .val (.int x5), .val (.int bb), .val (.long jj), .second, .val (.ref b256), .unset, .unset, .unset, .unset, .unset, .unset, .unset, .unset, .unset, .unset] [])) (fun τ κ => XS.ifNo X291.here hx rfl (hb hby at_80) rfl ((if0 _ _).trans (feq hc300).1) κ) ?_
      refine Gl.st (g' := (mkF m 84 #[.val (.int x0), .val (.long x1), .second, l3, l4, l5, .val (.int x4), .val (.int x5), .val (.int bb), .val (.long jj), .second, .val (.ref b256), .unset, .unset, .unset, .unset, .unset, .unset, .unset, .unset, .unset, .unset] [.null])) (fun τ κ => XS.aconstNull X291.here hx rfl (hb hby at_83) κ) ?_
      refine Gl.st (g' := (mkF m 100 #[.val (.int x0), .val (.long x1), .second, l3, l4, l5, .val (.int x4), .val (.int x5), .val (.int bb), .val (.long jj), .second, .val (.ref b256), .unset, .unset, .unset, .unset, .unset, .unset, .unset, .unset, .unset, .unset] [.null])) (fun τ κ => XS.goto X291.here hx rfl (pc0 := 84) (pc' := 100) rfl (hb hby at_84) (by decide) (by decide) κ) ?_
      refine Gl.st (g' := (mkF m 102 #[.val (.int x0), .val (.long x1), .second, l3, l4, l5, .val (.int x4), .val (.int x5), .val (.int bb), .val (.long jj), .second, .val (.ref b256), .val .null, .unset, .unset, .unset, .unset, .unset, .unset, .unset, .unset, .unset] [])) (fun τ κ => XS.astore X291.here hx rfl (hb hby at_100) rfl rfl (l' := #[.val (.int x0), .val (.long x1), .second, l3, l4, l5, .val (.int x4), .val (.int x5), .val (.int bb), .val (.long jj), .second, .val (.ref b256), .val .null, .unset, .unset, .unset, .unset, .unset, .unset, .unset, .unset, .unset]) rfl κ) ?_
      obtain ⟨T346, h346, X346, e346, E346, A346, D346, -, st346⟩ := newO X291 hx hZ hown (hw _ (List.mem_of_getElem? (i := 44) rfl)) (hw _ (List.mem_of_getElem? (i := 45) rfl)) (hw _ (List.mem_of_getElem? (i := 46) rfl)) rfl (g := (mkF m 102 #[.val (.int x0), .val (.long x1), .second, l3, l4, l5, .val (.int x4), .val (.int x5), .val (.int bb), .val (.long jj), .second, .val (.ref b256), .val .null, .unset, .unset, .unset, .unset, .unset, .unset, .unset, .unset, .unset] [])) rfl (hb hby at_102) (by decide) (by decide)
      obtain ⟨b346, g346⟩ : ∃ z, z = T291.heap.size := ⟨_, rfl⟩
      rw [← g346] at A346 D346 st346
      have ne_lc_b346 : lc ≠ b346 := Nat.ne_of_lt (Nat.lt_of_lt_of_le V_294.lt (Nat.le_of_eq g346.symm))
      have S_347 := S_292.ext E346
      have S_348 := S_293.ext E346
      have V_349 := V_294.ext E346
      have X_350 := X_295.ext E346
      have g_b346 : n0 ≤ b346 := Nat.le_trans Z291 (Nat.le_of_eq g346.symm)
      have sz_b346 : h1.size ≤ b346 := Nat.le_trans K291.1 (Nat.le_of_eq g346.symm)
      have Z346 : n0 ≤ h346.size := Nat.le_trans Z291 E346.1
      have K346 : Keep h1 h346 [] := K291.ext E346
      have F_351 : Fld Z h346 b346 "com/example/warpcheck/warpcheck/Term$Input" "arg" "I" (.int (0 : Int32)) := D346 (Or.inr (hw _ (List.mem_of_getElem? (i := 57) rfl))) (ty := .int) (by decide)
      have F_352 : Fld Z h346 b346 "com/example/warpcheck/warpcheck/Term$Input" "index" "J" (.long (0 : Int64)) := D346 (Or.inr (hw _ (List.mem_of_getElem? (i := 59) rfl))) (ty := .long) (by decide)
      have F_353 : Fld Z h346 b346 "com/example/warpcheck/warpcheck/Term$Input" "variable" "Ljava/lang/String;" .null := D346 (Or.inr (hw _ (List.mem_of_getElem? (i := 61) rfl))) (ty := (.object "java/lang/String")) (by decide)
      refine Gl.st (g' := (mkF m 105 #[.val (.int x0), .val (.long x1), .second, l3, l4, l5, .val (.int x4), .val (.int x5), .val (.int bb), .val (.long jj), .second, .val (.ref b256), .val .null, .unset, .unset, .unset, .unset, .unset, .unset, .unset, .unset, .unset] [(.ref b346)])) (fun τ κ => st346 _ κ) ?_
      refine Gl.st (g' := (mkF m 106 #[.val (.int x0), .val (.long x1), .second, l3, l4, l5, .val (.int x4), .val (.int x5), .val (.int bb), .val (.long jj), .second, .val (.ref b256), .val .null, .unset, .unset, .unset, .unset, .unset, .unset, .unset, .unset, .unset] [(.ref b346), (.ref b346)])) (fun τ κ => XS.dup X346.here hx rfl (hb hby at_105) rfl rfl κ) ?_
      refine Gl.st (g' := (mkF m 107 #[.val (.int x0), .val (.long x1), .second, l3, l4, l5, .val (.int x4), .val (.int x5), .val (.int bb), .val (.long jj), .second, .val (.ref b256), .val .null, .unset, .unset, .unset, .unset, .unset, .unset, .unset, .unset, .unset] [(.int x0), (.ref b346), (.ref b346)])) (fun τ κ => XS.iloadN X346.here hx rfl (hb hby at_106) rfl κ) ?_
      refine Gl.st (g' := (mkF m 108 #[.val (.int x0), .val (.long x1), .second, l3, l4, l5, .val (.int x4), .val (.int x5), .val (.int bb), .val (.long jj), .second, .val (.ref b256), .val .null, .unset, .unset, .unset, .unset, .unset, .unset, .unset, .unset, .unset] [(.long x1), (.int x0), (.ref b346), (.ref b346)])) (fun τ κ => XS.lloadN X346.here hx rfl (hb hby at_107) rfl κ) ?_
      refine Gl.st (g' := (mkF m 110 #[.val (.int x0), .val (.long x1), .second, l3, l4, l5, .val (.int x4), .val (.int x5), .val (.int bb), .val (.long jj), .second, .val (.ref b256), .val .null, .unset, .unset, .unset, .unset, .unset, .unset, .unset, .unset, .unset] [(.ref b256), (.long x1), (.int x0), (.ref b346), (.ref b346)])) (fun τ κ => XS.aload X346.here hx rfl (hb hby at_108) rfl rfl κ) ?_
      obtain ⟨rv354, _, ⟨T354, L354, k354, n354⟩, -, X354, ⟨Lc354, hQ354, l354, y354, z354⟩, st354⟩ := X346.specialBack hx (y := (⟨"com/example/warpcheck/warpcheck/Term$Input", "<init>", "(IJLjava/lang/String;)V"⟩ : MethodName)) rfl hown (mvT hZ (hw _ (List.mem_of_getElem? (i := 47) rfl))) (mvT hZ (hw _ (List.mem_of_getElem? (i := 48) rfl))) (mvT hZ (hw _ (List.mem_of_getElem? (i := 49) rfl))) (by decide) (backOf (W := 1) (rm_in0 l Z a0 hw [] b346 x0 x1 b256 h346 n0 Z346 A346 g_b346 F_351 F_352 F_353) hZ (hw _ (List.mem_of_getElem? (i := 49) rfl)) (hw _ (List.mem_of_getElem? (i := 46) rfl)) (by decide) (by decide)) (g := (mkF m 110 #[.val (.int x0), .val (.long x1), .second, l3, l4, l5, .val (.int x4), .val (.int x5), .val (.int bb), .val (.long jj), .second, .val (.ref b256), .val .null, .unset, .unset, .unset, .unset, .unset, .unset, .unset, .unset, .unset] [(.ref b256), (.long x1), (.int x0), (.ref b346), (.ref b346)])) rfl (by rw [hml]; rfl) (Steps.refl _) (a := b346) (argsL := [(.int x0), (.long x1), (.ref b256)]) (rest := [(.ref b346)]) (lenOf pd_14 rfl) rfl (by show 2 * 0 + _ ≤ _; exact Nat.le_of_eq rfl) (hb hby at_110) (fun _ _ => ⟨rfl, e346, (by decide : 4 + 0 ≤ _), (by decide : 11 + 0 ≤ _)⟩)
      dsimp only [Pt.U, Pt.locs, Pt.cells, Pt.slots] at X354 l354 y354 z354 st354 hQ354
      subst l354 y354 z354
      obtain ⟨rfl, N354q, Kc354, Ec354, FA354, FI354⟩ := hQ354
      have S_355 := Sta.keepX S_347 Kc354 (allS (P := fun x => ∃ c : Cell, h346[x]? = some c ∧ ∀ q, c.vm ≠ .statics q) A346.cell all0)
      have S_356 := Sta.keepX S_348 Kc354 (allS (P := fun x => ∃ c : Cell, h346[x]? = some c ∧ ∀ q, c.vm ≠ .statics q) A346.cell all0)
      have V_357 := V_349.keep Kc354 (ninS ne_lc_b346 nin0)
      have X_358 := X_350.keep Kc354
      have E_359 := A346.keep Kc354
      have N354 := Fr.app N291 N354q
      have Z354 : n0 ≤ T354.heap.size := Nat.le_trans Z346 Kc354.1
      have K354 : Keep h1 T354.heap [] := K346.trans Kc354 (allS (Or.inr sz_b346) all0)
      refine Gl.st (g' := (mkF m 113 #[.val (.int x0), .val (.long x1), .second, l3, l4, l5, .val (.int x4), .val (.int x5), .val (.int bb), .val (.long jj), .second, .val (.ref b256), .val .null, .unset, .unset, .unset, .unset, .unset, .unset, .unset, .unset, .unset] [(.ref b346)])) (fun τ κ => st354.trans κ) ?_
      refine Gl.st (g' := (mkF m 115 #[.val (.int x0), .val (.long x1), .second, l3, l4, l5, .val (.int x4), .val (.int x5), .val (.int bb), .val (.long jj), .second, .val (.ref b256), .val .null, .val (.ref b346), .unset, .unset, .unset, .unset, .unset, .unset, .unset, .unset] [])) (fun τ κ => XS.astore X354.here hx rfl (hb hby at_113) rfl rfl (l' := #[.val (.int x0), .val (.long x1), .second, l3, l4, l5, .val (.int x4), .val (.int x5), .val (.int bb), .val (.long jj), .second, .val (.ref b256), .val .null, .val (.ref b346), .unset, .unset, .unset, .unset, .unset, .unset, .unset, .unset]) rfl κ) ?_
      obtain ⟨T363, h363, X363, e363, E363, A363, D363, -, st363⟩ := newO X354 hx hZ hown (hw _ (List.mem_of_getElem? (i := 44) rfl)) (hw _ (List.mem_of_getElem? (i := 45) rfl)) (hw _ (List.mem_of_getElem? (i := 46) rfl)) rfl (g := (mkF m 115 #[.val (.int x0), .val (.long x1), .second, l3, l4, l5, .val (.int x4), .val (.int x5), .val (.int bb), .val (.long jj), .second, .val (.ref b256), .val .null, .val (.ref b346), .unset, .unset, .unset, .unset, .unset, .unset, .unset, .unset] [])) rfl (hb hby at_115) (by decide) (by decide)
      obtain ⟨b363, g363⟩ : ∃ z, z = T354.heap.size := ⟨_, rfl⟩
      rw [← g363] at A363 D363 st363
      have ne_lc_b363 : lc ≠ b363 := Nat.ne_of_lt (Nat.lt_of_lt_of_le V_357.lt (Nat.le_of_eq g363.symm))
      have ne_b346_b363 : b346 ≠ b363 := Nat.ne_of_lt (Nat.lt_of_lt_of_le Ec354.lt (Nat.le_of_eq g363.symm))
      have S_364 := S_355.ext E363
      have S_365 := S_356.ext E363
      have V_366 := V_357.ext E363
      have X_367 := X_358.ext E363
      have E_368 := Ec354.ext E363
      have F_369 := FA354.ext E363
      have F_370 := FI354.ext E363
      have g_b363 : n0 ≤ b363 := Nat.le_trans Z354 (Nat.le_of_eq g363.symm)
      have sz_b363 : h1.size ≤ b363 := Nat.le_trans K354.1 (Nat.le_of_eq g363.symm)
      have Z363 : n0 ≤ h363.size := Nat.le_trans Z354 E363.1
      have K363 : Keep h1 h363 [] := K354.ext E363
      have F_371 : Fld Z h363 b363 "com/example/warpcheck/warpcheck/Term$Input" "arg" "I" (.int (0 : Int32)) := D363 (Or.inr (hw _ (List.mem_of_getElem? (i := 57) rfl))) (ty := .int) (by decide)
      have F_372 : Fld Z h363 b363 "com/example/warpcheck/warpcheck/Term$Input" "index" "J" (.long (0 : Int64)) := D363 (Or.inr (hw _ (List.mem_of_getElem? (i := 59) rfl))) (ty := .long) (by decide)
      have F_373 : Fld Z h363 b363 "com/example/warpcheck/warpcheck/Term$Input" "variable" "Ljava/lang/String;" .null := D363 (Or.inr (hw _ (List.mem_of_getElem? (i := 61) rfl))) (ty := (.object "java/lang/String")) (by decide)
      refine Gl.st (g' := (mkF m 118 #[.val (.int x0), .val (.long x1), .second, l3, l4, l5, .val (.int x4), .val (.int x5), .val (.int bb), .val (.long jj), .second, .val (.ref b256), .val .null, .val (.ref b346), .unset, .unset, .unset, .unset, .unset, .unset, .unset, .unset] [(.ref b363)])) (fun τ κ => st363 _ κ) ?_
      refine Gl.st (g' := (mkF m 119 #[.val (.int x0), .val (.long x1), .second, l3, l4, l5, .val (.int x4), .val (.int x5), .val (.int bb), .val (.long jj), .second, .val (.ref b256), .val .null, .val (.ref b346), .unset, .unset, .unset, .unset, .unset, .unset, .unset, .unset] [(.ref b363), (.ref b363)])) (fun τ κ => XS.dup X363.here hx rfl (hb hby at_118) rfl rfl κ) ?_
      refine Gl.st (g' := (mkF m 121 #[.val (.int x0), .val (.long x1), .second, l3, l4, l5, .val (.int x4), .val (.int x5), .val (.int bb), .val (.long jj), .second, .val (.ref b256), .val .null, .val (.ref b346), .unset, .unset, .unset, .unset, .unset, .unset, .unset, .unset] [(.int bb), (.ref b363), (.ref b363)])) (fun τ κ => XS.iload X363.here hx rfl (hb hby at_119) rfl κ) ?_
      refine Gl.st (g' := (mkF m 123 #[.val (.int x0), .val (.long x1), .second, l3, l4, l5, .val (.int x4), .val (.int x5), .val (.int bb), .val (.long jj), .second, .val (.ref b256), .val .null, .val (.ref b346), .unset, .unset, .unset, .unset, .unset, .unset, .unset, .unset] [(.long jj), (.int bb), (.ref b363), (.ref b363)])) (fun τ κ => XS.lload X363.here hx rfl (hb hby at_121) rfl κ) ?_
      refine Gl.st (g' := (mkF m 125 #[.val (.int x0), .val (.long x1), .second, l3, l4, l5, .val (.int x4), .val (.int x5), .val (.int bb), .val (.long jj), .second, .val (.ref b256), .val .null, .val (.ref b346), .unset, .unset, .unset, .unset, .unset, .unset, .unset, .unset] [.null, (.long jj), (.int bb), (.ref b363), (.ref b363)])) (fun τ κ => XS.aload X363.here hx rfl (hb hby at_123) rfl rfl κ) ?_
      obtain ⟨rv374, _, ⟨T374, L374, k374, n374⟩, -, X374, ⟨Lc374, hQ374, l374, y374, z374⟩, st374⟩ := X363.specialBack hx (y := (⟨"com/example/warpcheck/warpcheck/Term$Input", "<init>", "(IJLjava/lang/String;)V"⟩ : MethodName)) rfl hown (mvT hZ (hw _ (List.mem_of_getElem? (i := 47) rfl))) (mvT hZ (hw _ (List.mem_of_getElem? (i := 48) rfl))) (mvT hZ (hw _ (List.mem_of_getElem? (i := 49) rfl))) (by decide) (backOf (W := 1) (rm_in1 l Z a0 hw [] b363 bb jj h363 n0 Z363 A363 g_b363 F_371 F_372 F_373) hZ (hw _ (List.mem_of_getElem? (i := 49) rfl)) (hw _ (List.mem_of_getElem? (i := 46) rfl)) (by decide) (by decide)) (g := (mkF m 125 #[.val (.int x0), .val (.long x1), .second, l3, l4, l5, .val (.int x4), .val (.int x5), .val (.int bb), .val (.long jj), .second, .val (.ref b256), .val .null, .val (.ref b346), .unset, .unset, .unset, .unset, .unset, .unset, .unset, .unset] [.null, (.long jj), (.int bb), (.ref b363), (.ref b363)])) rfl (by rw [hml]; rfl) (Steps.refl _) (a := b363) (argsL := [(.int bb), (.long jj), .null]) (rest := [(.ref b363)]) (lenOf pd_14 rfl) rfl (by show 2 * 0 + _ ≤ _; exact Nat.le_of_eq rfl) (hb hby at_125) (fun _ _ => ⟨rfl, e363, (by decide : 5 + 0 ≤ _), (by decide : 14 + 0 ≤ _)⟩)
      dsimp only [Pt.U, Pt.locs, Pt.cells, Pt.slots] at X374 l374 y374 z374 st374 hQ374
      subst l374 y374 z374
      obtain ⟨rfl, N374q, Kc374, Ec374, FA374, FI374⟩ := hQ374
      have S_375 := Sta.keepX S_364 Kc374 (allS (P := fun x => ∃ c : Cell, h363[x]? = some c ∧ ∀ q, c.vm ≠ .statics q) A363.cell all0)
      have S_376 := Sta.keepX S_365 Kc374 (allS (P := fun x => ∃ c : Cell, h363[x]? = some c ∧ ∀ q, c.vm ≠ .statics q) A363.cell all0)
      have V_377 := V_366.keep Kc374 (ninS ne_lc_b363 nin0)
      have X_378 := X_367.keep Kc374
      have E_379 := E_368.keep Kc374
      have F_380 := F_369.keep Kc374 (ninS ne_b346_b363 nin0)
      have F_381 := F_370.keep Kc374 (ninS ne_b346_b363 nin0)
      have E_382 := A363.keep Kc374
      have N374 := Fr.app N354 N374q
      have Z374 : n0 ≤ T374.heap.size := Nat.le_trans Z363 Kc374.1
      have K374 : Keep h1 T374.heap [] := K363.trans Kc374 (allS (Or.inr sz_b363) all0)
      refine Gl.st (g' := (mkF m 128 #[.val (.int x0), .val (.long x1), .second, l3, l4, l5, .val (.int x4), .val (.int x5), .val (.int bb), .val (.long jj), .second, .val (.ref b256), .val .null, .val (.ref b346), .unset, .unset, .unset, .unset, .unset, .unset, .unset, .unset] [(.ref b363)])) (fun τ κ => st374.trans κ) ?_
      refine Gl.st (g' := (mkF m 130 #[.val (.int x0), .val (.long x1), .second, l3, l4, l5, .val (.int x4), .val (.int x5), .val (.int bb), .val (.long jj), .second, .val (.ref b256), .val .null, .val (.ref b346), .val (.ref b363), .unset, .unset, .unset, .unset, .unset, .unset, .unset] [])) (fun τ κ => XS.astore X374.here hx rfl (hb hby at_128) rfl rfl (l' := #[.val (.int x0), .val (.long x1), .second, l3, l4, l5, .val (.int x4), .val (.int x5), .val (.int bb), .val (.long jj), .second, .val (.ref b256), .val .null, .val (.ref b346), .val (.ref b363), .unset, .unset, .unset, .unset, .unset, .unset, .unset]) rfl κ) ?_
      exact own_t130 hx hZ hw hby hml hown (X374.more (by decide) (by decide)) rfl N374 Z374 E_379 Ec374 F_380 F_381 FA374 FI374 S_376 V_377 X_378 cont
  · -- pc 33: not (x5 &&& (4 : Int32)) = (0 : Int32)
    refine Gl.st (g' := (mkF m 36 #[.val (.int x0), .val (.long x1), .second, l3, l4, l5, .val (.int x4), .val (.int x5), .val (.int bb), .val (.long jj), .second, .unset, .unset, .unset, .unset, .unset, .unset, .unset, .unset, .unset, .unset, .unset] [])) (fun τ κ => XS.ifNo X0.here hx rfl (hb hby at_33) rfl ((if0 _ _).trans (feq hc255).1) κ) ?_
    refine Gl.st (g' := (mkF m 37 #[.val (.int x0), .val (.long x1), .second, l3, l4, l5, .val (.int x4), .val (.int x5), .val (.int bb), .val (.long jj), .second, .unset, .unset, .unset, .unset, .unset, .unset, .unset, .unset, .unset, .unset, .unset] [.null])) (fun τ κ => XS.aconstNull X0.here hx rfl (hb hby at_36) κ) ?_
    refine Gl.st (g' := (mkF m 73 #[.val (.int x0), .val (.long x1), .second, l3, l4, l5, .val (.int x4), .val (.int x5), .val (.int bb), .val (.long jj), .second, .unset, .unset, .unset, .unset, .unset, .unset, .unset, .unset, .unset, .unset, .unset] [.null])) (fun τ κ => XS.goto X0.here hx rfl (pc0 := 37) (pc' := 73) rfl (hb hby at_37) (by decide) (by decide) κ) ?_
    refine Gl.st (g' := (mkF m 75 #[.val (.int x0), .val (.long x1), .second, l3, l4, l5, .val (.int x4), .val (.int x5), .val (.int bb), .val (.long jj), .second, .val .null, .unset, .unset, .unset, .unset, .unset, .unset, .unset, .unset, .unset, .unset] [])) (fun τ κ => XS.astore X0.here hx rfl (hb hby at_73) rfl rfl (l' := #[.val (.int x0), .val (.long x1), .second, l3, l4, l5, .val (.int x4), .val (.int x5), .val (.int bb), .val (.long jj), .second, .val .null, .unset, .unset, .unset, .unset, .unset, .unset, .unset, .unset, .unset, .unset]) rfl κ) ?_
    refine Gl.st (g' := (mkF m 77 #[.val (.int x0), .val (.long x1), .second, l3, l4, l5, .val (.int x4), .val (.int x5), .val (.int bb), .val (.long jj), .second, .val .null, .unset, .unset, .unset, .unset, .unset, .unset, .unset, .unset, .unset, .unset] [(.int x5)])) (fun τ κ => XS.iload X0.here hx rfl (hb hby at_75) rfl κ) ?_
    refine Gl.st (g' := (mkF m 79 #[.val (.int x0), .val (.long x1), .second, l3, l4, l5, .val (.int x4), .val (.int x5), .val (.int bb), .val (.long jj), .second, .val .null, .unset, .unset, .unset, .unset, .unset, .unset, .unset, .unset, .unset, .unset] [(.int (8 : Int32)), (.int x5)])) (fun τ κ => XS.bipush X0.here hx rfl (hb hby at_77) κ) ?_
    refine Gl.st (g' := (mkF m 80 #[.val (.int x0), .val (.long x1), .second, l3, l4, l5, .val (.int x4), .val (.int x5), .val (.int bb), .val (.long jj), .second, .val .null, .unset, .unset, .unset, .unset, .unset, .unset, .unset, .unset, .unset, .unset] [(.int (x5 &&& (8 : Int32)))])) (fun τ κ => XS.iand X0.here hx rfl (hb hby at_79) rfl κ) ?_
    by_cases hc386 : (x5 &&& (8 : Int32)) = (0 : Int32)
    · -- pc 80: (x5 &&& (8 : Int32)) = (0 : Int32)
      refine Gl.st (g' := (mkF m 87 #[.val (.int x0), .val (.long x1), .second, l3, l4, l5, .val (.int x4), .val (.int x5), .val (.int bb), .val (.long jj), .second, .val .null, .unset, .unset, .unset, .unset, .unset, .unset, .unset, .unset, .unset, .unset] [])) (fun τ κ => XS.ifYes X0.here hx rfl (pc0 := 80) (pc' := 87) rfl (hb hby at_80) rfl ((if0 _ _).trans (teq hc386).1) (by decide) (by decide) κ) ?_
      refine Gl.st (g' := (mkF m 89 #[.val (.int x0), .val (.long x1), .second, l3, l4, l5, .val (.int x4), .val (.int x5), .val (.int bb), .val (.long jj), .second, .val .null, .unset, .unset, .unset, .unset, .unset, .unset, .unset, .unset, .unset, .unset] [(.int x4)])) (fun τ κ => XS.iload X0.here hx rfl (hb hby at_87) rfl κ) ?_
      refine Gl.st (g' := (mkF m 91 #[.val (.int x0), .val (.long x1), .second, l3, l4, l5, .val (.int x4), .val (.int x5), .val (.int bb), .val (.long jj), .second, .val .null, .unset, .unset, .unset, .unset, .unset, .unset, .unset, .unset, .unset, .unset] [(.int (16 : Int32)), (.int x4)])) (fun τ κ => XS.bipush X0.here hx rfl (hb hby at_89) κ) ?_
      refine Gl.st (g' := (mkF m 92 #[.val (.int x0), .val (.long x1), .second, l3, l4, l5, .val (.int x4), .val (.int x5), .val (.int bb), .val (.long jj), .second, .val .null, .unset, .unset, .unset, .unset, .unset, .unset, .unset, .unset, .unset, .unset] [(.int ((x4.toUInt32 >>> ((16 : Int32) &&& 31).toUInt32).toInt32))])) (fun τ κ => XS.iushr X0.here hx rfl (hb hby at_91) rfl κ) ?_
      refine Gl.st (g' := (mkF m 95 #[.val (.int x0), .val (.long x1), .second, l3, l4, l5, .val (.int x4), .val (.int x5), .val (.int bb), .val (.long jj), .second, .val .null, .unset, .unset, .unset, .unset, .unset, .unset, .unset, .unset, .unset, .unset] [(.int (255 : Int32)), (.int ((x4.toUInt32 >>> ((16 : Int32) &&& 31).toUInt32).toInt32))])) (fun τ κ => XS.sipush X0.here hx rfl (hb hby at_92) κ) ?_
      refine Gl.st (g' := (mkF m 96 #[.val (.int x0), .val (.long x1), .second, l3, l4, l5, .val (.int x4), .val (.int x5), .val (.int bb), .val (.long jj), .second, .val .null, .unset, .unset, .unset, .unset, .unset, .unset, .unset, .unset, .unset, .unset] [(.int (((x4.toUInt32 >>> ((16 : Int32) &&& 31).toUInt32).toInt32) &&& (255 : Int32)))])) (fun τ κ => XS.iand X0.here hx rfl (hb hby at_95) rfl κ) ?_
      refine Gl.st (g' := (mkF m 97 #[.val (.int x0), .val (.long x1), .second, l3, l4, l5, .val (.int x4), .val (.int x5), .val (.int bb), .val (.long jj), .second, .val .null, .unset, .unset, .unset, .unset, .unset, .unset, .unset, .unset, .unset, .unset] [(.int ((((x4.toUInt32 >>> ((16 : Int32) &&& 31).toUInt32).toInt32) &&& (255 : Int32)).toUInt32.toUInt16.toUInt32.toInt32))])) (fun τ κ => XS.i2c X0.here hx rfl (hb hby at_96) rfl κ) ?_
      obtain ⟨rv387, _, ⟨T387, L387, k387, n387⟩, -, X387, ⟨Lc387, hQ387, l387, y387, z387⟩, st387⟩ := Jvm.LawKit.callS X0 hx (y := (⟨"java/lang/String", "valueOf", "(C)Ljava/lang/String;"⟩ : MethodName)) hown (mvT hZ (hw _ (List.mem_of_getElem? (i := 30) rfl))) (mvT hZ (hw _ (List.mem_of_getElem? (i := 31) rfl))) (mvT hZ (hw _ (List.mem_of_getElem? (i := 2) rfl))) (mvT hZ (hw _ (List.mem_of_getElem? (i := 32) rfl))) (by decide) (backOf (W := 0) (rm7 l Z a0 hw [] ((((x4.toUInt32 >>> ((16 : Int32) &&& 31).toUInt32).toInt32) &&& (255 : Int32)).toUInt32.toUInt16.toUInt32.toInt32) cs h1 n0 Z0 S0 hcs (own_c2 _)) hZ (hw _ (List.mem_of_getElem? (i := 32) rfl)) (hw _ (List.mem_of_getElem? (i := 2) rfl)) (by decide) (by decide)) (g := (mkF m 97 #[.val (.int x0), .val (.long x1), .second, l3, l4, l5, .val (.int x4), .val (.int x5), .val (.int bb), .val (.long jj), .second, .val .null, .unset, .unset, .unset, .unset, .unset, .unset, .unset, .unset, .unset, .unset] [(.int ((((x4.toUInt32 >>> ((16 : Int32) &&& 31).toUInt32).toInt32) &&& (255 : Int32)).toUInt32.toUInt16.toUInt32.toInt32))])) rfl (by rw [hml]; rfl) (argsL := [(.int ((((x4.toUInt32 >>> ((16 : Int32) &&& 31).toUInt32).toInt32) &&& (255 : Int32)).toUInt32.toUInt16.toUInt32.toInt32))]) (rest := []) (lenOf pd_13 rfl) rfl (by show 2 * 0 + _ ≤ _; exact Nat.le_of_eq rfl) (hb hby at_97) (fun _ _ => ⟨rfl, e1, (by decide : 0 + 2 ≤ _), (by decide : 0 + 5 ≤ _)⟩)
      dsimp only [Pt.U, Pt.locs, Pt.cells, Pt.slots] at X387 l387 y387 z387 st387 hQ387
      subst l387 y387 z387
      obtain ⟨b387, rfl, N387q, Kc387, s387⟩ := hQ387
      have S_388 := Sta.keepX S0 Kc387 all0
      have S_389 := Sta.keepX SL Kc387 all0
      have V_390 := VL.keep Kc387 nin0
      have X_391 := HE.keep Kc387
      have N387 := Fr.app N0 N387q
      have Z387 : n0 ≤ T387.heap.size := Nat.le_trans Z0 Kc387.1
      have K387 : Keep h1 T387.heap [] := (Keep.refl h1 []).trans Kc387 all0
      refine Gl.st (g' := (mkF m 100 #[.val (.int x0), .val (.long x1), .second, l3, l4, l5, .val (.int x4), .val (.int x5), .val (.int bb), .val (.long jj), .second, .val .null, .unset, .unset, .unset, .unset, .unset, .unset, .unset, .unset, .unset, .unset] [(.ref b387)])) (fun τ κ => st387 _ κ) ?_
      refine Gl.st (g' := (mkF m 102 #[.val (.int x0), .val (.long x1), .second, l3, l4, l5, .val (.int x4), .val (.int x5), .val (.int bb), .val (.long jj), .second, .val .null, .val (.ref b387), .unset, .unset, .unset, .unset, .unset, .unset, .unset, .unset, .unset] [])) (fun τ κ => XS.astore X387.here hx rfl (hb hby at_100) rfl rfl (l' := #[.val (.int x0), .val (.long x1), .second, l3, l4, l5, .val (.int x4), .val (.int x5), .val (.int bb), .val (.long jj), .second, .val .null, .val (.ref b387), .unset, .unset, .unset, .unset, .unset, .unset, .unset, .unset, .unset]) rfl κ) ?_
      obtain ⟨T392, h392, X392, e392, E392, A392, D392, -, st392⟩ := newO X387 hx hZ hown (hw _ (List.mem_of_getElem? (i := 44) rfl)) (hw _ (List.mem_of_getElem? (i := 45) rfl)) (hw _ (List.mem_of_getElem? (i := 46) rfl)) rfl (g := (mkF m 102 #[.val (.int x0), .val (.long x1), .second, l3, l4, l5, .val (.int x4), .val (.int x5), .val (.int bb), .val (.long jj), .second, .val .null, .val (.ref b387), .unset, .unset, .unset, .unset, .unset, .unset, .unset, .unset, .unset] [])) rfl (hb hby at_102) (by decide) (by decide)
      obtain ⟨b392, g392⟩ : ∃ z, z = T387.heap.size := ⟨_, rfl⟩
      rw [← g392] at A392 D392 st392
      have ne_lc_b392 : lc ≠ b392 := Nat.ne_of_lt (Nat.lt_of_lt_of_le V_390.lt (Nat.le_of_eq g392.symm))
      have S_393 := S_388.ext E392
      have S_394 := S_389.ext E392
      have V_395 := V_390.ext E392
      have X_396 := X_391.ext E392
      have g_b392 : n0 ≤ b392 := Nat.le_trans Z387 (Nat.le_of_eq g392.symm)
      have sz_b392 : h1.size ≤ b392 := Nat.le_trans K387.1 (Nat.le_of_eq g392.symm)
      have Z392 : n0 ≤ h392.size := Nat.le_trans Z387 E392.1
      have K392 : Keep h1 h392 [] := K387.ext E392
      have F_397 : Fld Z h392 b392 "com/example/warpcheck/warpcheck/Term$Input" "arg" "I" (.int (0 : Int32)) := D392 (Or.inr (hw _ (List.mem_of_getElem? (i := 57) rfl))) (ty := .int) (by decide)
      have F_398 : Fld Z h392 b392 "com/example/warpcheck/warpcheck/Term$Input" "index" "J" (.long (0 : Int64)) := D392 (Or.inr (hw _ (List.mem_of_getElem? (i := 59) rfl))) (ty := .long) (by decide)
      have F_399 : Fld Z h392 b392 "com/example/warpcheck/warpcheck/Term$Input" "variable" "Ljava/lang/String;" .null := D392 (Or.inr (hw _ (List.mem_of_getElem? (i := 61) rfl))) (ty := (.object "java/lang/String")) (by decide)
      refine Gl.st (g' := (mkF m 105 #[.val (.int x0), .val (.long x1), .second, l3, l4, l5, .val (.int x4), .val (.int x5), .val (.int bb), .val (.long jj), .second, .val .null, .val (.ref b387), .unset, .unset, .unset, .unset, .unset, .unset, .unset, .unset, .unset] [(.ref b392)])) (fun τ κ => st392 _ κ) ?_
      refine Gl.st (g' := (mkF m 106 #[.val (.int x0), .val (.long x1), .second, l3, l4, l5, .val (.int x4), .val (.int x5), .val (.int bb), .val (.long jj), .second, .val .null, .val (.ref b387), .unset, .unset, .unset, .unset, .unset, .unset, .unset, .unset, .unset] [(.ref b392), (.ref b392)])) (fun τ κ => XS.dup X392.here hx rfl (hb hby at_105) rfl rfl κ) ?_
      refine Gl.st (g' := (mkF m 107 #[.val (.int x0), .val (.long x1), .second, l3, l4, l5, .val (.int x4), .val (.int x5), .val (.int bb), .val (.long jj), .second, .val .null, .val (.ref b387), .unset, .unset, .unset, .unset, .unset, .unset, .unset, .unset, .unset] [(.int x0), (.ref b392), (.ref b392)])) (fun τ κ => XS.iloadN X392.here hx rfl (hb hby at_106) rfl κ) ?_
      refine Gl.st (g' := (mkF m 108 #[.val (.int x0), .val (.long x1), .second, l3, l4, l5, .val (.int x4), .val (.int x5), .val (.int bb), .val (.long jj), .second, .val .null, .val (.ref b387), .unset, .unset, .unset, .unset, .unset, .unset, .unset, .unset, .unset] [(.long x1), (.int x0), (.ref b392), (.ref b392)])) (fun τ κ => XS.lloadN X392.here hx rfl (hb hby at_107) rfl κ) ?_
      refine Gl.st (g' := (mkF m 110 #[.val (.int x0), .val (.long x1), .second, l3, l4, l5, .val (.int x4), .val (.int x5), .val (.int bb), .val (.long jj), .second, .val .null, .val (.ref b387), .unset, .unset, .unset, .unset, .unset, .unset, .unset, .unset, .unset] [.null, (.long x1), (.int x0), (.ref b392), (.ref b392)])) (fun τ κ => XS.aload X392.here hx rfl (hb hby at_108) rfl rfl κ) ?_
      obtain ⟨rv400, _, ⟨T400, L400, k400, n400⟩, -, X400, ⟨Lc400, hQ400, l400, y400, z400⟩, st400⟩ := X392.specialBack hx (y := (⟨"com/example/warpcheck/warpcheck/Term$Input", "<init>", "(IJLjava/lang/String;)V"⟩ : MethodName)) rfl hown (mvT hZ (hw _ (List.mem_of_getElem? (i := 47) rfl))) (mvT hZ (hw _ (List.mem_of_getElem? (i := 48) rfl))) (mvT hZ (hw _ (List.mem_of_getElem? (i := 49) rfl))) (by decide) (backOf (W := 1) (rm_in1 l Z a0 hw [] b392 x0 x1 h392 n0 Z392 A392 g_b392 F_397 F_398 F_399) hZ (hw _ (List.mem_of_getElem? (i := 49) rfl)) (hw _ (List.mem_of_getElem? (i := 46) rfl)) (by decide) (by decide)) (g := (mkF m 110 #[.val (.int x0), .val (.long x1), .second, l3, l4, l5, .val (.int x4), .val (.int x5), .val (.int bb), .val (.long jj), .second, .val .null, .val (.ref b387), .unset, .unset, .unset, .unset, .unset, .unset, .unset, .unset, .unset] [.null, (.long x1), (.int x0), (.ref b392), (.ref b392)])) rfl (by rw [hml]; rfl) (Steps.refl _) (a := b392) (argsL := [(.int x0), (.long x1), .null]) (rest := [(.ref b392)]) (lenOf pd_14 rfl) rfl (by show 2 * 0 + _ ≤ _; exact Nat.le_of_eq rfl) (hb hby at_110) (fun _ _ => ⟨rfl, e392, (by decide : 3 + 0 ≤ _), (by decide : 8 + 0 ≤ _)⟩)
      dsimp only [Pt.U, Pt.locs, Pt.cells, Pt.slots] at X400 l400 y400 z400 st400 hQ400
      subst l400 y400 z400
      obtain ⟨rfl, N400q, Kc400, Ec400, FA400, FI400⟩ := hQ400
      have S_401 := Sta.keepX S_393 Kc400 (allS (P := fun x => ∃ c : Cell, h392[x]? = some c ∧ ∀ q, c.vm ≠ .statics q) A392.cell all0)
      have S_402 := Sta.keepX S_394 Kc400 (allS (P := fun x => ∃ c : Cell, h392[x]? = some c ∧ ∀ q, c.vm ≠ .statics q) A392.cell all0)
      have V_403 := V_395.keep Kc400 (ninS ne_lc_b392 nin0)
      have X_404 := X_396.keep Kc400
      have E_405 := A392.keep Kc400
      have N400 := Fr.app N387 N400q
      have Z400 : n0 ≤ T400.heap.size := Nat.le_trans Z392 Kc400.1
      have K400 : Keep h1 T400.heap [] := K392.trans Kc400 (allS (Or.inr sz_b392) all0)
      refine Gl.st (g' := (mkF m 113 #[.val (.int x0), .val (.long x1), .second, l3, l4, l5, .val (.int x4), .val (.int x5), .val (.int bb), .val (.long jj), .second, .val .null, .val (.ref b387), .unset, .unset, .unset, .unset, .unset, .unset, .unset, .unset, .unset] [(.ref b392)])) (fun τ κ => st400.trans κ) ?_
      refine Gl.st (g' := (mkF m 115 #[.val (.int x0), .val (.long x1), .second, l3, l4, l5, .val (.int x4), .val (.int x5), .val (.int bb), .val (.long jj), .second, .val .null, .val (.ref b387), .val (.ref b392), .unset, .unset, .unset, .unset, .unset, .unset, .unset, .unset] [])) (fun τ κ => XS.astore X400.here hx rfl (hb hby at_113) rfl rfl (l' := #[.val (.int x0), .val (.long x1), .second, l3, l4, l5, .val (.int x4), .val (.int x5), .val (.int bb), .val (.long jj), .second, .val .null, .val (.ref b387), .val (.ref b392), .unset, .unset, .unset, .unset, .unset, .unset, .unset, .unset]) rfl κ) ?_
      obtain ⟨T409, h409, X409, e409, E409, A409, D409, -, st409⟩ := newO X400 hx hZ hown (hw _ (List.mem_of_getElem? (i := 44) rfl)) (hw _ (List.mem_of_getElem? (i := 45) rfl)) (hw _ (List.mem_of_getElem? (i := 46) rfl)) rfl (g := (mkF m 115 #[.val (.int x0), .val (.long x1), .second, l3, l4, l5, .val (.int x4), .val (.int x5), .val (.int bb), .val (.long jj), .second, .val .null, .val (.ref b387), .val (.ref b392), .unset, .unset, .unset, .unset, .unset, .unset, .unset, .unset] [])) rfl (hb hby at_115) (by decide) (by decide)
      obtain ⟨b409, g409⟩ : ∃ z, z = T400.heap.size := ⟨_, rfl⟩
      rw [← g409] at A409 D409 st409
      have ne_lc_b409 : lc ≠ b409 := Nat.ne_of_lt (Nat.lt_of_lt_of_le V_403.lt (Nat.le_of_eq g409.symm))
      have ne_b392_b409 : b392 ≠ b409 := Nat.ne_of_lt (Nat.lt_of_lt_of_le Ec400.lt (Nat.le_of_eq g409.symm))
      have S_410 := S_401.ext E409
      have S_411 := S_402.ext E409
      have V_412 := V_403.ext E409
      have X_413 := X_404.ext E409
      have E_414 := Ec400.ext E409
      have F_415 := FA400.ext E409
      have F_416 := FI400.ext E409
      have g_b409 : n0 ≤ b409 := Nat.le_trans Z400 (Nat.le_of_eq g409.symm)
      have sz_b409 : h1.size ≤ b409 := Nat.le_trans K400.1 (Nat.le_of_eq g409.symm)
      have Z409 : n0 ≤ h409.size := Nat.le_trans Z400 E409.1
      have K409 : Keep h1 h409 [] := K400.ext E409
      have F_417 : Fld Z h409 b409 "com/example/warpcheck/warpcheck/Term$Input" "arg" "I" (.int (0 : Int32)) := D409 (Or.inr (hw _ (List.mem_of_getElem? (i := 57) rfl))) (ty := .int) (by decide)
      have F_418 : Fld Z h409 b409 "com/example/warpcheck/warpcheck/Term$Input" "index" "J" (.long (0 : Int64)) := D409 (Or.inr (hw _ (List.mem_of_getElem? (i := 59) rfl))) (ty := .long) (by decide)
      have F_419 : Fld Z h409 b409 "com/example/warpcheck/warpcheck/Term$Input" "variable" "Ljava/lang/String;" .null := D409 (Or.inr (hw _ (List.mem_of_getElem? (i := 61) rfl))) (ty := (.object "java/lang/String")) (by decide)
      refine Gl.st (g' := (mkF m 118 #[.val (.int x0), .val (.long x1), .second, l3, l4, l5, .val (.int x4), .val (.int x5), .val (.int bb), .val (.long jj), .second, .val .null, .val (.ref b387), .val (.ref b392), .unset, .unset, .unset, .unset, .unset, .unset, .unset, .unset] [(.ref b409)])) (fun τ κ => st409 _ κ) ?_
      refine Gl.st (g' := (mkF m 119 #[.val (.int x0), .val (.long x1), .second, l3, l4, l5, .val (.int x4), .val (.int x5), .val (.int bb), .val (.long jj), .second, .val .null, .val (.ref b387), .val (.ref b392), .unset, .unset, .unset, .unset, .unset, .unset, .unset, .unset] [(.ref b409), (.ref b409)])) (fun τ κ => XS.dup X409.here hx rfl (hb hby at_118) rfl rfl κ) ?_
      refine Gl.st (g' := (mkF m 121 #[.val (.int x0), .val (.long x1), .second, l3, l4, l5, .val (.int x4), .val (.int x5), .val (.int bb), .val (.long jj), .second, .val .null, .val (.ref b387), .val (.ref b392), .unset, .unset, .unset, .unset, .unset, .unset, .unset, .unset] [(.int bb), (.ref b409), (.ref b409)])) (fun τ κ => XS.iload X409.here hx rfl (hb hby at_119) rfl κ) ?_
      refine Gl.st (g' := (mkF m 123 #[.val (.int x0), .val (.long x1), .second, l3, l4, l5, .val (.int x4), .val (.int x5), .val (.int bb), .val (.long jj), .second, .val .null, .val (.ref b387), .val (.ref b392), .unset, .unset, .unset, .unset, .unset, .unset, .unset, .unset] [(.long jj), (.int bb), (.ref b409), (.ref b409)])) (fun τ κ => XS.lload X409.here hx rfl (hb hby at_121) rfl κ) ?_
      refine Gl.st (g' := (mkF m 125 #[.val (.int x0), .val (.long x1), .second, l3, l4, l5, .val (.int x4), .val (.int x5), .val (.int bb), .val (.long jj), .second, .val .null, .val (.ref b387), .val (.ref b392), .unset, .unset, .unset, .unset, .unset, .unset, .unset, .unset] [(.ref b387), (.long jj), (.int bb), (.ref b409), (.ref b409)])) (fun τ κ => XS.aload X409.here hx rfl (hb hby at_123) rfl rfl κ) ?_
      obtain ⟨rv420, _, ⟨T420, L420, k420, n420⟩, -, X420, ⟨Lc420, hQ420, l420, y420, z420⟩, st420⟩ := X409.specialBack hx (y := (⟨"com/example/warpcheck/warpcheck/Term$Input", "<init>", "(IJLjava/lang/String;)V"⟩ : MethodName)) rfl hown (mvT hZ (hw _ (List.mem_of_getElem? (i := 47) rfl))) (mvT hZ (hw _ (List.mem_of_getElem? (i := 48) rfl))) (mvT hZ (hw _ (List.mem_of_getElem? (i := 49) rfl))) (by decide) (backOf (W := 1) (rm_in0 l Z a0 hw [] b409 bb jj b387 h409 n0 Z409 A409 g_b409 F_417 F_418 F_419) hZ (hw _ (List.mem_of_getElem? (i := 49) rfl)) (hw _ (List.mem_of_getElem? (i := 46) rfl)) (by decide) (by decide)) (g := (mkF m 125 #[.val (.int x0), .val (.long x1), .second, l3, l4, l5, .val (.int x4), .val (.int x5), .val (.int bb), .val (.long jj), .second, .val .null, .val (.ref b387), .val (.ref b392), .unset, .unset, .unset, .unset, .unset, .unset, .unset, .unset] [(.ref b387), (.long jj), (.int bb), (.ref b409), (.ref b409)])) rfl (by rw [hml]; rfl) (Steps.refl _) (a := b409) (argsL := [(.int bb), (.long jj), (.ref b387)]) (rest := [(.ref b409)]) (lenOf pd_14 rfl) rfl (by show 2 * 0 + _ ≤ _; exact Nat.le_of_eq rfl) (hb hby at_125) (fun _ _ => ⟨rfl, e409, (by decide : 4 + 0 ≤ _), (by decide : 11 + 0 ≤ _)⟩)
      dsimp only [Pt.U, Pt.locs, Pt.cells, Pt.slots] at X420 l420 y420 z420 st420 hQ420
      subst l420 y420 z420
      obtain ⟨rfl, N420q, Kc420, Ec420, FA420, FI420⟩ := hQ420
      have S_421 := Sta.keepX S_410 Kc420 (allS (P := fun x => ∃ c : Cell, h409[x]? = some c ∧ ∀ q, c.vm ≠ .statics q) A409.cell all0)
      have S_422 := Sta.keepX S_411 Kc420 (allS (P := fun x => ∃ c : Cell, h409[x]? = some c ∧ ∀ q, c.vm ≠ .statics q) A409.cell all0)
      have V_423 := V_412.keep Kc420 (ninS ne_lc_b409 nin0)
      have X_424 := X_413.keep Kc420
      have E_425 := E_414.keep Kc420
      have F_426 := F_415.keep Kc420 (ninS ne_b392_b409 nin0)
      have F_427 := F_416.keep Kc420 (ninS ne_b392_b409 nin0)
      have E_428 := A409.keep Kc420
      have N420 := Fr.app N400 N420q
      have Z420 : n0 ≤ T420.heap.size := Nat.le_trans Z409 Kc420.1
      have K420 : Keep h1 T420.heap [] := K409.trans Kc420 (allS (Or.inr sz_b409) all0)
      refine Gl.st (g' := (mkF m 128 #[.val (.int x0), .val (.long x1), .second, l3, l4, l5, .val (.int x4), .val (.int x5), .val (.int bb), .val (.long jj), .second, .val .null, .val (.ref b387), .val (.ref b392), .unset, .unset, .unset, .unset, .unset, .unset, .unset, .unset] [(.ref b409)])) (fun τ κ => st420.trans κ) ?_
      refine Gl.st (g' := (mkF m 130 #[.val (.int x0), .val (.long x1), .second, l3, l4, l5, .val (.int x4), .val (.int x5), .val (.int bb), .val (.long jj), .second, .val .null, .val (.ref b387), .val (.ref b392), .val (.ref b409), .unset, .unset, .unset, .unset, .unset, .unset, .unset] [])) (fun τ κ => XS.astore X420.here hx rfl (hb hby at_128) rfl rfl (l' := #[.val (.int x0), .val (.long x1), .second, l3, l4, l5, .val (.int x4), .val (.int x5), .val (.int bb), .val (.long jj), .second, .val .null, .val (.ref b387), .val (.ref b392), .val (.ref b409), .unset, .unset, .unset, .unset, .unset, .unset, .unset]) rfl κ) ?_
      exact own_t130 hx hZ hw hby hml hown (X420.more (by decide) (by decide)) rfl N420 Z420 E_425 Ec420 F_426 F_427 FA420 FI420 S_422 V_423 X_424 cont
    · -- pc 80: not (x5 &&& (8 : Int32)) = (0 : Int32)
      refine Gl.st (g' := (mkF m 83 #[.val (.int x0), .val (.long x1), .second, l3, l4, l5, .val (.int x4), .val (.int x5), .val (.int bb), .val (.long jj), .second, .val .null, .unset, .unset, .unset, .unset, .unset, .unset, .unset, .unset, .unset, .unset] [])) (fun τ κ => XS.ifNo X0.here hx rfl (hb hby at_80) rfl ((if0 _ _).trans (feq hc386).1) κ) ?_
      refine Gl.st (g' := (mkF m 84 #[.val (.int x0), .val (.long x1), .second, l3, l4, l5, .val (.int x4), .val (.int x5), .val (.int bb), .val (.long jj), .second, .val .null, .unset, .unset, .unset, .unset, .unset, .unset, .unset, .unset, .unset, .unset] [.null])) (fun τ κ => XS.aconstNull X0.here hx rfl (hb hby at_83) κ) ?_
      refine Gl.st (g' := (mkF m 100 #[.val (.int x0), .val (.long x1), .second, l3, l4, l5, .val (.int x4), .val (.int x5), .val (.int bb), .val (.long jj), .second, .val .null, .unset, .unset, .unset, .unset, .unset, .unset, .unset, .unset, .unset, .unset] [.null])) (fun τ κ => XS.goto X0.here hx rfl (pc0 := 84) (pc' := 100) rfl (hb hby at_84) (by decide) (by decide) κ) ?_
      refine Gl.st (g' := (mkF m 102 #[.val (.int x0), .val (.long x1), .second, l3, l4, l5, .val (.int x4), .val (.int x5), .val (.int bb), .val (.long jj), .second, .val .null, .val .null, .unset, .unset, .unset, .unset, .unset, .unset, .unset, .unset, .unset] [])) (fun τ κ => XS.astore X0.here hx rfl (hb hby at_100) rfl rfl (l' := #[.val (.int x0), .val (.long x1), .second, l3, l4, l5, .val (.int x4), .val (.int x5), .val (.int bb), .val (.long jj), .second, .val .null, .val .null, .unset, .unset, .unset, .unset, .unset, .unset, .unset, .unset, .unset]) rfl κ) ?_
      obtain ⟨T432, h432, X432, e432, E432, A432, D432, -, st432⟩ := newO X0 hx hZ hown (hw _ (List.mem_of_getElem? (i := 44) rfl)) (hw _ (List.mem_of_getElem? (i := 45) rfl)) (hw _ (List.mem_of_getElem? (i := 46) rfl)) e1 (g := (mkF m 102 #[.val (.int x0), .val (.long x1), .second, l3, l4, l5, .val (.int x4), .val (.int x5), .val (.int bb), .val (.long jj), .second, .val .null, .val .null, .unset, .unset, .unset, .unset, .unset, .unset, .unset, .unset, .unset] [])) rfl (hb hby at_102) (by decide) (by decide)
      obtain ⟨b432, g432⟩ : ∃ z, z = h1.size := ⟨_, rfl⟩
      rw [← g432] at A432 D432 st432
      have ne_lc_b432 : lc ≠ b432 := Nat.ne_of_lt (Nat.lt_of_lt_of_le VL.lt (Nat.le_of_eq g432.symm))
      have S_433 := S0.ext E432
      have S_434 := SL.ext E432
      have V_435 := VL.ext E432
      have X_436 := HE.ext E432
      have g_b432 : n0 ≤ b432 := Nat.le_trans Z0 (Nat.le_of_eq g432.symm)
      have sz_b432 : h1.size ≤ b432 := Nat.le_trans (Keep.refl h1 []).1 (Nat.le_of_eq g432.symm)
      have Z432 : n0 ≤ h432.size := Nat.le_trans Z0 E432.1
      have K432 : Keep h1 h432 [] := (Keep.refl h1 []).ext E432
      have F_437 : Fld Z h432 b432 "com/example/warpcheck/warpcheck/Term$Input" "arg" "I" (.int (0 : Int32)) := D432 (Or.inr (hw _ (List.mem_of_getElem? (i := 57) rfl))) (ty := .int) (by decide)
      have F_438 : Fld Z h432 b432 "com/example/warpcheck/warpcheck/Term$Input" "index" "J" (.long (0 : Int64)) := D432 (Or.inr (hw _ (List.mem_of_getElem? (i := 59) rfl))) (ty := .long) (by decide)
      have F_439 : Fld Z h432 b432 "com/example/warpcheck/warpcheck/Term$Input" "variable" "Ljava/lang/String;" .null := D432 (Or.inr (hw _ (List.mem_of_getElem? (i := 61) rfl))) (ty := (.object "java/lang/String")) (by decide)
      refine Gl.st (g' := (mkF m 105 #[.val (.int x0), .val (.long x1), .second, l3, l4, l5, .val (.int x4), .val (.int x5), .val (.int bb), .val (.long jj), .second, .val .null, .val .null, .unset, .unset, .unset, .unset, .unset, .unset, .unset, .unset, .unset] [(.ref b432)])) (fun τ κ => st432 _ κ) ?_
      refine Gl.st (g' := (mkF m 106 #[.val (.int x0), .val (.long x1), .second, l3, l4, l5, .val (.int x4), .val (.int x5), .val (.int bb), .val (.long jj), .second, .val .null, .val .null, .unset, .unset, .unset, .unset, .unset, .unset, .unset, .unset, .unset] [(.ref b432), (.ref b432)])) (fun τ κ => XS.dup X432.here hx rfl (hb hby at_105) rfl rfl κ) ?_
      refine Gl.st (g' := (mkF m 107 #[.val (.int x0), .val (.long x1), .second, l3, l4, l5, .val (.int x4), .val (.int x5), .val (.int bb), .val (.long jj), .second, .val .null, .val .null, .unset, .unset, .unset, .unset, .unset, .unset, .unset, .unset, .unset] [(.int x0), (.ref b432), (.ref b432)])) (fun τ κ => XS.iloadN X432.here hx rfl (hb hby at_106) rfl κ) ?_
      refine Gl.st (g' := (mkF m 108 #[.val (.int x0), .val (.long x1), .second, l3, l4, l5, .val (.int x4), .val (.int x5), .val (.int bb), .val (.long jj), .second, .val .null, .val .null, .unset, .unset, .unset, .unset, .unset, .unset, .unset, .unset, .unset] [(.long x1), (.int x0), (.ref b432), (.ref b432)])) (fun τ κ => XS.lloadN X432.here hx rfl (hb hby at_107) rfl κ) ?_
      refine Gl.st (g' := (mkF m 110 #[.val (.int x0), .val (.long x1), .second, l3, l4, l5, .val (.int x4), .val (.int x5), .val (.int bb), .val (.long jj), .second, .val .null, .val .null, .unset, .unset, .unset, .unset, .unset, .unset, .unset, .unset, .unset] [.null, (.long x1), (.int x0), (.ref b432), (.ref b432)])) (fun τ κ => XS.aload X432.here hx rfl (hb hby at_108) rfl rfl κ) ?_
      obtain ⟨rv440, _, ⟨T440, L440, k440, n440⟩, -, X440, ⟨Lc440, hQ440, l440, y440, z440⟩, st440⟩ := X432.specialBack hx (y := (⟨"com/example/warpcheck/warpcheck/Term$Input", "<init>", "(IJLjava/lang/String;)V"⟩ : MethodName)) rfl hown (mvT hZ (hw _ (List.mem_of_getElem? (i := 47) rfl))) (mvT hZ (hw _ (List.mem_of_getElem? (i := 48) rfl))) (mvT hZ (hw _ (List.mem_of_getElem? (i := 49) rfl))) (by decide) (backOf (W := 1) (rm_in1 l Z a0 hw [] b432 x0 x1 h432 n0 Z432 A432 g_b432 F_437 F_438 F_439) hZ (hw _ (List.mem_of_getElem? (i := 49) rfl)) (hw _ (List.mem_of_getElem? (i := 46) rfl)) (by decide) (by decide)) (g := (mkF m 110 #[.val (.int x0), .val (.long x1), .second, l3, l4, l5, .val (.int x4), .val (.int x5), .val (.int bb), .val (.long jj), .second, .val .null, .val .null, .unset, .unset, .unset, .unset, .unset, .unset, .unset, .unset, .unset] [.null, (.long x1), (.int x0), (.ref b432), (.ref b432)])) rfl (by rw [hml]; rfl) (Steps.refl _) (a := b432) (argsL := [(.int x0), (.long x1), .null]) (rest := [(.ref b432)]) (lenOf pd_14 rfl) rfl (by show 2 * 0 + _ ≤ _; exact Nat.le_of_eq rfl) (hb hby at_110) (fun _ _ => ⟨rfl, e432, (by decide : 1 + 0 ≤ _), (by decide : 3 + 0 ≤ _)⟩)
      dsimp only [Pt.U, Pt.locs, Pt.cells, Pt.slots] at X440 l440 y440 z440 st440 hQ440
      subst l440 y440 z440
      obtain ⟨rfl, N440q, Kc440, Ec440, FA440, FI440⟩ := hQ440
      have S_441 := Sta.keepX S_433 Kc440 (allS (P := fun x => ∃ c : Cell, h432[x]? = some c ∧ ∀ q, c.vm ≠ .statics q) A432.cell all0)
      have S_442 := Sta.keepX S_434 Kc440 (allS (P := fun x => ∃ c : Cell, h432[x]? = some c ∧ ∀ q, c.vm ≠ .statics q) A432.cell all0)
      have V_443 := V_435.keep Kc440 (ninS ne_lc_b432 nin0)
      have X_444 := X_436.keep Kc440
      have E_445 := A432.keep Kc440
      have N440 := Fr.app N0 N440q
      have Z440 : n0 ≤ T440.heap.size := Nat.le_trans Z432 Kc440.1
      have K440 : Keep h1 T440.heap [] := K432.trans Kc440 (allS (Or.inr sz_b432) all0)
      refine Gl.st (g' := (mkF m 113 #[.val (.int x0), .val (.long x1), .second, l3, l4, l5, .val (.int x4), .val (.int x5), .val (.int bb), .val (.long jj), .second, .val .null, .val .null, .unset, .unset, .unset, .unset, .unset, .unset, .unset, .unset, .unset] [(.ref b432)])) (fun τ κ => st440.trans κ) ?_
      refine Gl.st (g' := (mkF m 115 #[.val (.int x0), .val (.long x1), .second, l3, l4, l5, .val (.int x4), .val (.int x5), .val (.int bb), .val (.long jj), .second, .val .null, .val .null, .val (.ref b432), .unset, .unset, .unset, .unset, .unset, .unset, .unset, .unset] [])) (fun τ κ => XS.astore X440.here hx rfl (hb hby at_113) rfl rfl (l' := #[.val (.int x0), .val (.long x1), .second, l3, l4, l5, .val (.int x4), .val (.int x5), .val (.int bb), .val (.long jj), .second, .val .null, .val .null, .val (.ref b432), .unset, .unset, .unset, .unset, .unset, .unset, .unset, .unset]) rfl κ) ?_
      obtain ⟨T449, h449, X449, e449, E449, A449, D449, -, st449⟩ := newO X440 hx hZ hown (hw _ (List.mem_of_getElem? (i := 44) rfl)) (hw _ (List.mem_of_getElem? (i := 45) rfl)) (hw _ (List.mem_of_getElem? (i := 46) rfl)) rfl (g := (mkF m 115 #[.val (.int x0), .val (.long x1), .second, l3, l4, l5, .val (.int x4), .val (.int x5), .val (.int bb), .val (.long jj), .second, .val .null, .val .null, .val (.ref b432), .unset, .unset, .unset, .unset, .unset, .unset, .unset, .unset] [])) rfl (hb hby at_115) (by decide) (by decide)
      obtain ⟨b449, g449⟩ : ∃ z, z = T440.heap.size := ⟨_, rfl⟩
      rw [← g449] at A449 D449 st449
      have ne_lc_b449 : lc ≠ b449 := Nat.ne_of_lt (Nat.lt_of_lt_of_le V_443.lt (Nat.le_of_eq g449.symm))
      have ne_b432_b449 : b432 ≠ b449 := Nat.ne_of_lt (Nat.lt_of_lt_of_le Ec440.lt (Nat.le_of_eq g449.symm))
      have S_450 := S_441.ext E449
      have S_451 := S_442.ext E449
      have V_452 := V_443.ext E449
      have X_453 := X_444.ext E449
      have E_454 := Ec440.ext E449
      have F_455 := FA440.ext E449
      have F_456 := FI440.ext E449
      have g_b449 : n0 ≤ b449 := Nat.le_trans Z440 (Nat.le_of_eq g449.symm)
      have sz_b449 : h1.size ≤ b449 := Nat.le_trans K440.1 (Nat.le_of_eq g449.symm)
      have Z449 : n0 ≤ h449.size := Nat.le_trans Z440 E449.1
      have K449 : Keep h1 h449 [] := K440.ext E449
      have F_457 : Fld Z h449 b449 "com/example/warpcheck/warpcheck/Term$Input" "arg" "I" (.int (0 : Int32)) := D449 (Or.inr (hw _ (List.mem_of_getElem? (i := 57) rfl))) (ty := .int) (by decide)
      have F_458 : Fld Z h449 b449 "com/example/warpcheck/warpcheck/Term$Input" "index" "J" (.long (0 : Int64)) := D449 (Or.inr (hw _ (List.mem_of_getElem? (i := 59) rfl))) (ty := .long) (by decide)
      have F_459 : Fld Z h449 b449 "com/example/warpcheck/warpcheck/Term$Input" "variable" "Ljava/lang/String;" .null := D449 (Or.inr (hw _ (List.mem_of_getElem? (i := 61) rfl))) (ty := (.object "java/lang/String")) (by decide)
      refine Gl.st (g' := (mkF m 118 #[.val (.int x0), .val (.long x1), .second, l3, l4, l5, .val (.int x4), .val (.int x5), .val (.int bb), .val (.long jj), .second, .val .null, .val .null, .val (.ref b432), .unset, .unset, .unset, .unset, .unset, .unset, .unset, .unset] [(.ref b449)])) (fun τ κ => st449 _ κ) ?_
      refine Gl.st (g' := (mkF m 119 #[.val (.int x0), .val (.long x1), .second, l3, l4, l5, .val (.int x4), .val (.int x5), .val (.int bb), .val (.long jj), .second, .val .null, .val .null, .val (.ref b432), .unset, .unset, .unset, .unset, .unset, .unset, .unset, .unset] [(.ref b449), (.ref b449)])) (fun τ κ => XS.dup X449.here hx rfl (hb hby at_118) rfl rfl κ) ?_
      refine Gl.st (g' := (mkF m 121 #[.val (.int x0), .val (.long x1), .second, l3, l4, l5, .val (.int x4), .val (.int x5), .val (.int bb), .val (.long jj), .second, .val .null, .val .null, .val (.ref b432), .unset, .unset, .unset, .unset, .unset, .unset, .unset, .unset] [(.int bb), (.ref b449), (.ref b449)])) (fun τ κ => XS.iload X449.here hx rfl (hb hby at_119) rfl κ) ?_
      refine Gl.st (g' := (mkF m 123 #[.val (.int x0), .val (.long x1), .second, l3, l4, l5, .val (.int x4), .val (.int x5), .val (.int bb), .val (.long jj), .second, .val .null, .val .null, .val (.ref b432), .unset, .unset, .unset, .unset, .unset, .unset, .unset, .unset] [(.long jj), (.int bb), (.ref b449), (.ref b449)])) (fun τ κ => XS.lload X449.here hx rfl (hb hby at_121) rfl κ) ?_
      refine Gl.st (g' := (mkF m 125 #[.val (.int x0), .val (.long x1), .second, l3, l4, l5, .val (.int x4), .val (.int x5), .val (.int bb), .val (.long jj), .second, .val .null, .val .null, .val (.ref b432), .unset, .unset, .unset, .unset, .unset, .unset, .unset, .unset] [.null, (.long jj), (.int bb), (.ref b449), (.ref b449)])) (fun τ κ => XS.aload X449.here hx rfl (hb hby at_123) rfl rfl κ) ?_
      obtain ⟨rv460, _, ⟨T460, L460, k460, n460⟩, -, X460, ⟨Lc460, hQ460, l460, y460, z460⟩, st460⟩ := X449.specialBack hx (y := (⟨"com/example/warpcheck/warpcheck/Term$Input", "<init>", "(IJLjava/lang/String;)V"⟩ : MethodName)) rfl hown (mvT hZ (hw _ (List.mem_of_getElem? (i := 47) rfl))) (mvT hZ (hw _ (List.mem_of_getElem? (i := 48) rfl))) (mvT hZ (hw _ (List.mem_of_getElem? (i := 49) rfl))) (by decide) (backOf (W := 1) (rm_in1 l Z a0 hw [] b449 bb jj h449 n0 Z449 A449 g_b449 F_457 F_458 F_459) hZ (hw _ (List.mem_of_getElem? (i := 49) rfl)) (hw _ (List.mem_of_getElem? (i := 46) rfl)) (by decide) (by decide)) (g := (mkF m 125 #[.val (.int x0), .val (.long x1), .second, l3, l4, l5, .val (.int x4), .val (.int x5), .val (.int bb), .val (.long jj), .second, .val .null, .val .null, .val (.ref b432), .unset, .unset, .unset, .unset, .unset, .unset, .unset, .unset] [.null, (.long jj), (.int bb), (.ref b449), (.ref b449)])) rfl (by rw [hml]; rfl) (Steps.refl _) (a := b449) (argsL := [(.int bb), (.long jj), .null]) (rest := [(.ref b449)]) (lenOf pd_14 rfl) rfl (by show 2 * 0 + _ ≤ _; exact Nat.le_of_eq rfl) (hb hby at_125) (fun _ _ => ⟨rfl, e449, (by decide : 2 + 0 ≤ _), (by decide : 6 + 0 ≤ _)⟩)
      dsimp only [Pt.U, Pt.locs, Pt.cells, Pt.slots] at X460 l460 y460 z460 st460 hQ460
      subst l460 y460 z460
      obtain ⟨rfl, N460q, Kc460, Ec460, FA460, FI460⟩ := hQ460
      have S_461 := Sta.keepX S_450 Kc460 (allS (P := fun x => ∃ c : Cell, h449[x]? = some c ∧ ∀ q, c.vm ≠ .statics q) A449.cell all0)
      have S_462 := Sta.keepX S_451 Kc460 (allS (P := fun x => ∃ c : Cell, h449[x]? = some c ∧ ∀ q, c.vm ≠ .statics q) A449.cell all0)
      have V_463 := V_452.keep Kc460 (ninS ne_lc_b449 nin0)
      have X_464 := X_453.keep Kc460
      have E_465 := E_454.keep Kc460
      have F_466 := F_455.keep Kc460 (ninS ne_b432_b449 nin0)
      have F_467 := F_456.keep Kc460 (ninS ne_b432_b449 nin0)
      have E_468 := A449.keep Kc460
      have N460 := Fr.app N440 N460q
      have Z460 : n0 ≤ T460.heap.size := Nat.le_trans Z449 Kc460.1
      have K460 : Keep h1 T460.heap [] := K449.trans Kc460 (allS (Or.inr sz_b449) all0)
      refine Gl.st (g' := (mkF m 128 #[.val (.int x0), .val (.long x1), .second, l3, l4, l5, .val (.int x4), .val (.int x5), .val (.int bb), .val (.long jj), .second, .val .null, .val .null, .val (.ref b432), .unset, .unset, .unset, .unset, .unset, .unset, .unset, .unset] [(.ref b449)])) (fun τ κ => st460.trans κ) ?_
      refine Gl.st (g' := (mkF m 130 #[.val (.int x0), .val (.long x1), .second, l3, l4, l5, .val (.int x4), .val (.int x5), .val (.int bb), .val (.long jj), .second, .val .null, .val .null, .val (.ref b432), .val (.ref b449), .unset, .unset, .unset, .unset, .unset, .unset, .unset] [])) (fun τ κ => XS.astore X460.here hx rfl (hb hby at_128) rfl rfl (l' := #[.val (.int x0), .val (.long x1), .second, l3, l4, l5, .val (.int x4), .val (.int x5), .val (.int bb), .val (.long jj), .second, .val .null, .val .null, .val (.ref b432), .val (.ref b449), .unset, .unset, .unset, .unset, .unset, .unset, .unset]) rfl κ) ?_
      exact own_t130 hx hZ hw hby hml hown (X460.more (by decide) (by decide)) rfl N460 Z460 E_465 Ec460 F_466 F_467 FA460 FI460 S_462 V_463 X_464 cont
theorem pn_com_example_warpcheck_warpcheck_InputEqualsPinLaw : plainName "com/example/warpcheck/warpcheck/InputEqualsPinLaw" = true := by first | (simp [plainName, overriddenIn]; done) | decide +kernel
theorem ef_rm0 (m : MethodId) (x0 : Int32) (x1 : Int64) (x2 : Int32) (x3 : Int64) (x4 : Int32) (x5 : Int32) : entryFrame m #[(.int x0), (.long x1), (.int x2), (.long x3), (.int x4), (.int x5)] maxLocals = mkF m 0 #[.val (.int x0), .val (.long x1), .second, .val (.int x2), .val (.long x3), .second, .val (.int x4), .val (.int x5), .unset, .unset, .unset, .unset, .unset, .unset, .unset, .unset, .unset, .unset, .unset, .unset, .unset, .unset] [] := by first | (simp [entryFrame, mkF, argsToLocals, Value.category, maxLocals]; done) | rfl
def Q_rm0 (Z : State) (x0 : Int32) (x1 : Int64) (x2 : Int32) (x3 : Int64) (x4 : Int32) (x5 : Int32) (cs : Int32) (lc : Addr) (kl : ClassId) (vl : List Value) (h0 : Heap) (n0 : Nat) (v : Option Value) (h : Heap) (L : List Loc) : Prop := v = some (.int 1) ∧ Fr n0 L
set_option maxRecDepth 65536 in
set_option maxHeartbeats 40000000 in
theorem rm0 (l : Launch) (Z : State) (a0 : Array Value) (hw : ∀ d ∈ tables_1, d.before a0 Z = true) (ws : List Jvm.Cond) (x0 : Int32) (x1 : Int64) (x2 : Int32) (x3 : Int64) (x4 : Int32) (x5 : Int32) (cs : Int32) (lc : Addr) (kl : ClassId) (vl : List Value) (h0 : Heap) (n0 : Nat) (Z0 : n0 ≤ h0.size) (S0 : Sta Z h0 "java/lang/String" "COMPACT_STRINGS" "Z" (.int cs)) (hcs : ¬ cs = (0 : Int32)) (SL : Sta Z h0 "java/lang/Long$LongCache" "cache" "[Ljava/lang/Long;" (.ref lc)) (VL : Arv Z h0 lc kl (.object "java/lang/Long") (256 : Int32) vl .null) (HE : own_HE Z h0 vl) :
    MetFree l x (head1 (Jvm.Cond.code x code maxLocals ret :: ws) room_1) (fun aα Uα => aα = #[(.int x0), (.long x1), (.int x2), (.long x3), (.int x4), (.int x5)] ∧ Z.Warmed39 Uα.vm ∧ Uα.heap = h0) (fun _ _ _ _ _ => True) (fun _ Uα oα Uβ => ∃ vα Lα, oα = .returned vα ∧ Q_rm0 Z x0 x1 x2 x3 x4 x5 cs lc kl vl h0 n0 vα Uβ.heap Lα ∧ FrameEnd Uα oα Uβ Lα 8 20) := by
  refine MetFree.of_bodySF (plainFor_of_name pn_com_example_warpcheck_warpcheck_InputEqualsPinLaw) hisR ?_
  intro p e s m args below meth c s₁ Bd hml0 hP hKα
  obtain ⟨rfl, hZ, hh⟩ := hP
  have hx := Bd.exec
  have hby := Bd.bytes
  have hml : c.maxLocals = 22 := hml0
  have hown : s.vm.findClass "com/example/warpcheck/warpcheck/InputEqualsPinLaw" = some m.cls := findClass_of_methodNamed Bd.named
  have hnm := (name_of_methodNamed Bd.named Bd.method).1
  have X0 : Stand p l e room_1 s m #[(.int x0), (.long x1), (.int x2), (.long x3), (.int x4), (.int x5)] below meth c s₁ [] 0 0 := Stand.of_body Bd
  have e0 : s₁.heap = h0 := by rw [← hh, Bd.state]; rfl
  have N0 := Fr.nil n0
  suffices k0 : Gl p e below s (Q_rm0 Z x0 x1 x2 x3 x4 x5 cs lc kl vl h0 n0) 8 20 s₁ (mkF m 0 #[.val (.int x0), .val (.long x1), .second, .val (.int x2), .val (.long x3), .second, .val (.int x4), .val (.int x5), .unset, .unset, .unset, .unset, .unset, .unset, .unset, .unset, .unset, .unset, .unset, .unset, .unset, .unset] []) from Gl.st (fun τ κ => castTop (ef_rm0 m x0 x1 x2 x3 x4 x5) κ) k0
  refine Gl.st (g' := (mkF m 2 #[.val (.int x0), .val (.long x1), .second, .val (.int x2), .val (.long x3), .second, .val (.int x4), .val (.int x5), .unset, .unset, .unset, .unset, .unset, .unset, .unset, .unset, .unset, .unset, .unset, .unset, .unset, .unset] [(.int x5)])) (fun τ κ => XS.iload X0.here hx rfl (hb hby at_0) rfl κ) ?_
  refine Gl.st (g' := (mkF m 3 #[.val (.int x0), .val (.long x1), .second, .val (.int x2), .val (.long x3), .second, .val (.int x4), .val (.int x5), .unset, .unset, .unset, .unset, .unset, .unset, .unset, .unset, .unset, .unset, .unset, .unset, .unset, .unset] [(.int (1 : Int32)), (.int x5)])) (fun τ κ => XS.iconst X0.here hx rfl (hb hby at_2) κ) ?_
  refine Gl.st (g' := (mkF m 4 #[.val (.int x0), .val (.long x1), .second, .val (.int x2), .val (.long x3), .second, .val (.int x4), .val (.int x5), .unset, .unset, .unset, .unset, .unset, .unset, .unset, .unset, .unset, .unset, .unset, .unset, .unset, .unset] [(.int (x5 &&& (1 : Int32)))])) (fun τ κ => XS.iand X0.here hx rfl (hb hby at_3) rfl κ) ?_
  by_cases hc472 : (x5 &&& (1 : Int32)) = (0 : Int32)
  · -- pc 4: (x5 &&& (1 : Int32)) = (0 : Int32)
    refine Gl.st (g' := (mkF m 11 #[.val (.int x0), .val (.long x1), .second, .val (.int x2), .val (.long x3), .second, .val (.int x4), .val (.int x5), .unset, .unset, .unset, .unset, .unset, .unset, .unset, .unset, .unset, .unset, .unset, .unset, .unset, .unset] [])) (fun τ κ => XS.ifYes X0.here hx rfl (pc0 := 4) (pc' := 11) rfl (hb hby at_4) rfl ((if0 _ _).trans (teq hc472).1) (by decide) (by decide) κ) ?_
    refine Gl.st (g' := (mkF m 12 #[.val (.int x0), .val (.long x1), .second, .val (.int x2), .val (.long x3), .second, .val (.int x4), .val (.int x5), .unset, .unset, .unset, .unset, .unset, .unset, .unset, .unset, .unset, .unset, .unset, .unset, .unset, .unset] [(.int x2)])) (fun τ κ => XS.iloadN X0.here hx rfl (hb hby at_11) rfl κ) ?_
    refine Gl.st (g' := (mkF m 14 #[.val (.int x0), .val (.long x1), .second, .val (.int x2), .val (.long x3), .second, .val (.int x4), .val (.int x5), .val (.int x2), .unset, .unset, .unset, .unset, .unset, .unset, .unset, .unset, .unset, .unset, .unset, .unset, .unset] [])) (fun τ κ => XS.istore X0.here hx rfl (hb hby at_12) rfl (l' := #[.val (.int x0), .val (.long x1), .second, .val (.int x2), .val (.long x3), .second, .val (.int x4), .val (.int x5), .val (.int x2), .unset, .unset, .unset, .unset, .unset, .unset, .unset, .unset, .unset, .unset, .unset, .unset, .unset]) rfl κ) ?_
    refine Gl.st (g' := (mkF m 16 #[.val (.int x0), .val (.long x1), .second, .val (.int x2), .val (.long x3), .second, .val (.int x4), .val (.int x5), .val (.int x2), .unset, .unset, .unset, .unset, .unset, .unset, .unset, .unset, .unset, .unset, .unset, .unset, .unset] [(.int x5)])) (fun τ κ => XS.iload X0.here hx rfl (hb hby at_14) rfl κ) ?_
    refine Gl.st (g' := (mkF m 17 #[.val (.int x0), .val (.long x1), .second, .val (.int x2), .val (.long x3), .second, .val (.int x4), .val (.int x5), .val (.int x2), .unset, .unset, .unset, .unset, .unset, .unset, .unset, .unset, .unset, .unset, .unset, .unset, .unset] [(.int (2 : Int32)), (.int x5)])) (fun τ κ => XS.iconst X0.here hx rfl (hb hby at_16) κ) ?_
    refine Gl.st (g' := (mkF m 18 #[.val (.int x0), .val (.long x1), .second, .val (.int x2), .val (.long x3), .second, .val (.int x4), .val (.int x5), .val (.int x2), .unset, .unset, .unset, .unset, .unset, .unset, .unset, .unset, .unset, .unset, .unset, .unset, .unset] [(.int (x5 &&& (2 : Int32)))])) (fun τ κ => XS.iand X0.here hx rfl (hb hby at_17) rfl κ) ?_
    by_cases hc473 : (x5 &&& (2 : Int32)) = (0 : Int32)
    · -- pc 18: (x5 &&& (2 : Int32)) = (0 : Int32)
      refine Gl.st (g' := (mkF m 25 #[.val (.int x0), .val (.long x1), .second, .val (.int x2), .val (.long x3), .second, .val (.int x4), .val (.int x5), .val (.int x2), .unset, .unset, .unset, .unset, .unset, .unset, .unset, .unset, .unset, .unset, .unset, .unset, .unset] [])) (fun τ κ => XS.ifYes X0.here hx rfl (pc0 := 18) (pc' := 25) rfl (hb hby at_18) rfl ((if0 _ _).trans (teq hc473).1) (by decide) (by decide) κ) ?_
      refine Gl.st (g' := (mkF m 27 #[.val (.int x0), .val (.long x1), .second, .val (.int x2), .val (.long x3), .second, .val (.int x4), .val (.int x5), .val (.int x2), .unset, .unset, .unset, .unset, .unset, .unset, .unset, .unset, .unset, .unset, .unset, .unset, .unset] [(.long x3)])) (fun τ κ => XS.lload X0.here hx rfl (hb hby at_25) rfl κ) ?_
      refine Gl.st (g' := (mkF m 29 #[.val (.int x0), .val (.long x1), .second, .val (.int x2), .val (.long x3), .second, .val (.int x4), .val (.int x5), .val (.int x2), .val (.long x3), .second, .unset, .unset, .unset, .unset, .unset, .unset, .unset, .unset, .unset, .unset, .unset] [])) (fun τ κ => XS.lstore X0.here hx rfl (hb hby at_27) rfl (l' := #[.val (.int x0), .val (.long x1), .second, .val (.int x2), .val (.long x3), .second, .val (.int x4), .val (.int x5), .val (.int x2), .val (.long x3), .second, .unset, .unset, .unset, .unset, .unset, .unset, .unset, .unset, .unset, .unset, .unset]) rfl κ) ?_
      refine own_m29 hx hZ hw hby hml hown X0 e0 N0 Z0 S0 hcs SL VL HE ?_
      intro T' h' locs' Ls X' e' N'
      exact Gl.ret (v := some (.int (1 : Int32))) X' Bd.notSynchronized (fun h => by rw [Bd.returns] at h; cases h) e' (fun fs hr => retN X' hx (t := .boolean) Bd.returns (by simp) (hb hby at_276) hr) (by decide) (by decide) ⟨rfl, N'⟩
    · -- pc 18: not (x5 &&& (2 : Int32)) = (0 : Int32)
      refine Gl.st (g' := (mkF m 21 #[.val (.int x0), .val (.long x1), .second, .val (.int x2), .val (.long x3), .second, .val (.int x4), .val (.int x5), .val (.int x2), .unset, .unset, .unset, .unset, .unset, .unset, .unset, .unset, .unset, .unset, .unset, .unset, .unset] [])) (fun τ κ => XS.ifNo X0.here hx rfl (hb hby at_18) rfl ((if0 _ _).trans (feq hc473).1) κ) ?_
      refine Gl.st (g' := (mkF m 22 #[.val (.int x0), .val (.long x1), .second, .val (.int x2), .val (.long x3), .second, .val (.int x4), .val (.int x5), .val (.int x2), .unset, .unset, .unset, .unset, .unset, .unset, .unset, .unset, .unset, .unset, .unset, .unset, .unset] [(.long x1)])) (fun τ κ => XS.lloadN X0.here hx rfl (hb hby at_21) rfl κ) ?_
      refine Gl.st (g' := (mkF m 27 #[.val (.int x0), .val (.long x1), .second, .val (.int x2), .val (.long x3), .second, .val (.int x4), .val (.int x5), .val (.int x2), .unset, .unset, .unset, .unset, .unset, .unset, .unset, .unset, .unset, .unset, .unset, .unset, .unset] [(.long x1)])) (fun τ κ => XS.goto X0.here hx rfl (pc0 := 22) (pc' := 27) rfl (hb hby at_22) (by decide) (by decide) κ) ?_
      refine Gl.st (g' := (mkF m 29 #[.val (.int x0), .val (.long x1), .second, .val (.int x2), .val (.long x3), .second, .val (.int x4), .val (.int x5), .val (.int x2), .val (.long x1), .second, .unset, .unset, .unset, .unset, .unset, .unset, .unset, .unset, .unset, .unset, .unset] [])) (fun τ κ => XS.lstore X0.here hx rfl (hb hby at_27) rfl (l' := #[.val (.int x0), .val (.long x1), .second, .val (.int x2), .val (.long x3), .second, .val (.int x4), .val (.int x5), .val (.int x2), .val (.long x1), .second, .unset, .unset, .unset, .unset, .unset, .unset, .unset, .unset, .unset, .unset, .unset]) rfl κ) ?_
      refine own_m29 hx hZ hw hby hml hown X0 e0 N0 Z0 S0 hcs SL VL HE ?_
      intro T' h' locs' Ls X' e' N'
      exact Gl.ret (v := some (.int (1 : Int32))) X' Bd.notSynchronized (fun h => by rw [Bd.returns] at h; cases h) e' (fun fs hr => retN X' hx (t := .boolean) Bd.returns (by simp) (hb hby at_276) hr) (by decide) (by decide) ⟨rfl, N'⟩
  · -- pc 4: not (x5 &&& (1 : Int32)) = (0 : Int32)
    refine Gl.st (g' := (mkF m 7 #[.val (.int x0), .val (.long x1), .second, .val (.int x2), .val (.long x3), .second, .val (.int x4), .val (.int x5), .unset, .unset, .unset, .unset, .unset, .unset, .unset, .unset, .unset, .unset, .unset, .unset, .unset, .unset] [])) (fun τ κ => XS.ifNo X0.here hx rfl (hb hby at_4) rfl ((if0 _ _).trans (feq hc472).1) κ) ?_
    refine Gl.st (g' := (mkF m 8 #[.val (.int x0), .val (.long x1), .second, .val (.int x2), .val (.long x3), .second, .val (.int x4), .val (.int x5), .unset, .unset, .unset, .unset, .unset, .unset, .unset, .unset, .unset, .unset, .unset, .unset, .unset, .unset] [(.int x0)])) (fun τ κ => XS.iloadN X0.here hx rfl (hb hby at_7) rfl κ) ?_
    refine Gl.st (g' := (mkF m 12 #[.val (.int x0), .val (.long x1), .second, .val (.int x2), .val (.long x3), .second, .val (.int x4), .val (.int x5), .unset, .unset, .unset, .unset, .unset, .unset, .unset, .unset, .unset, .unset, .unset, .unset, .unset, .unset] [(.int x0)])) (fun τ κ => XS.goto X0.here hx rfl (pc0 := 8) (pc' := 12) rfl (hb hby at_8) (by decide) (by decide) κ) ?_
    refine Gl.st (g' := (mkF m 14 #[.val (.int x0), .val (.long x1), .second, .val (.int x2), .val (.long x3), .second, .val (.int x4), .val (.int x5), .val (.int x0), .unset, .unset, .unset, .unset, .unset, .unset, .unset, .unset, .unset, .unset, .unset, .unset, .unset] [])) (fun τ κ => XS.istore X0.here hx rfl (hb hby at_12) rfl (l' := #[.val (.int x0), .val (.long x1), .second, .val (.int x2), .val (.long x3), .second, .val (.int x4), .val (.int x5), .val (.int x0), .unset, .unset, .unset, .unset, .unset, .unset, .unset, .unset, .unset, .unset, .unset, .unset, .unset]) rfl κ) ?_
    refine Gl.st (g' := (mkF m 16 #[.val (.int x0), .val (.long x1), .second, .val (.int x2), .val (.long x3), .second, .val (.int x4), .val (.int x5), .val (.int x0), .unset, .unset, .unset, .unset, .unset, .unset, .unset, .unset, .unset, .unset, .unset, .unset, .unset] [(.int x5)])) (fun τ κ => XS.iload X0.here hx rfl (hb hby at_14) rfl κ) ?_
    refine Gl.st (g' := (mkF m 17 #[.val (.int x0), .val (.long x1), .second, .val (.int x2), .val (.long x3), .second, .val (.int x4), .val (.int x5), .val (.int x0), .unset, .unset, .unset, .unset, .unset, .unset, .unset, .unset, .unset, .unset, .unset, .unset, .unset] [(.int (2 : Int32)), (.int x5)])) (fun τ κ => XS.iconst X0.here hx rfl (hb hby at_16) κ) ?_
    refine Gl.st (g' := (mkF m 18 #[.val (.int x0), .val (.long x1), .second, .val (.int x2), .val (.long x3), .second, .val (.int x4), .val (.int x5), .val (.int x0), .unset, .unset, .unset, .unset, .unset, .unset, .unset, .unset, .unset, .unset, .unset, .unset, .unset] [(.int (x5 &&& (2 : Int32)))])) (fun τ κ => XS.iand X0.here hx rfl (hb hby at_17) rfl κ) ?_
    by_cases hc474 : (x5 &&& (2 : Int32)) = (0 : Int32)
    · -- pc 18: (x5 &&& (2 : Int32)) = (0 : Int32)
      refine Gl.st (g' := (mkF m 25 #[.val (.int x0), .val (.long x1), .second, .val (.int x2), .val (.long x3), .second, .val (.int x4), .val (.int x5), .val (.int x0), .unset, .unset, .unset, .unset, .unset, .unset, .unset, .unset, .unset, .unset, .unset, .unset, .unset] [])) (fun τ κ => XS.ifYes X0.here hx rfl (pc0 := 18) (pc' := 25) rfl (hb hby at_18) rfl ((if0 _ _).trans (teq hc474).1) (by decide) (by decide) κ) ?_
      refine Gl.st (g' := (mkF m 27 #[.val (.int x0), .val (.long x1), .second, .val (.int x2), .val (.long x3), .second, .val (.int x4), .val (.int x5), .val (.int x0), .unset, .unset, .unset, .unset, .unset, .unset, .unset, .unset, .unset, .unset, .unset, .unset, .unset] [(.long x3)])) (fun τ κ => XS.lload X0.here hx rfl (hb hby at_25) rfl κ) ?_
      refine Gl.st (g' := (mkF m 29 #[.val (.int x0), .val (.long x1), .second, .val (.int x2), .val (.long x3), .second, .val (.int x4), .val (.int x5), .val (.int x0), .val (.long x3), .second, .unset, .unset, .unset, .unset, .unset, .unset, .unset, .unset, .unset, .unset, .unset] [])) (fun τ κ => XS.lstore X0.here hx rfl (hb hby at_27) rfl (l' := #[.val (.int x0), .val (.long x1), .second, .val (.int x2), .val (.long x3), .second, .val (.int x4), .val (.int x5), .val (.int x0), .val (.long x3), .second, .unset, .unset, .unset, .unset, .unset, .unset, .unset, .unset, .unset, .unset, .unset]) rfl κ) ?_
      refine own_m29 hx hZ hw hby hml hown X0 e0 N0 Z0 S0 hcs SL VL HE ?_
      intro T' h' locs' Ls X' e' N'
      exact Gl.ret (v := some (.int (1 : Int32))) X' Bd.notSynchronized (fun h => by rw [Bd.returns] at h; cases h) e' (fun fs hr => retN X' hx (t := .boolean) Bd.returns (by simp) (hb hby at_276) hr) (by decide) (by decide) ⟨rfl, N'⟩
    · -- pc 18: not (x5 &&& (2 : Int32)) = (0 : Int32)
      refine Gl.st (g' := (mkF m 21 #[.val (.int x0), .val (.long x1), .second, .val (.int x2), .val (.long x3), .second, .val (.int x4), .val (.int x5), .val (.int x0), .unset, .unset, .unset, .unset, .unset, .unset, .unset, .unset, .unset, .unset, .unset, .unset, .unset] [])) (fun τ κ => XS.ifNo X0.here hx rfl (hb hby at_18) rfl ((if0 _ _).trans (feq hc474).1) κ) ?_
      refine Gl.st (g' := (mkF m 22 #[.val (.int x0), .val (.long x1), .second, .val (.int x2), .val (.long x3), .second, .val (.int x4), .val (.int x5), .val (.int x0), .unset, .unset, .unset, .unset, .unset, .unset, .unset, .unset, .unset, .unset, .unset, .unset, .unset] [(.long x1)])) (fun τ κ => XS.lloadN X0.here hx rfl (hb hby at_21) rfl κ) ?_
      refine Gl.st (g' := (mkF m 27 #[.val (.int x0), .val (.long x1), .second, .val (.int x2), .val (.long x3), .second, .val (.int x4), .val (.int x5), .val (.int x0), .unset, .unset, .unset, .unset, .unset, .unset, .unset, .unset, .unset, .unset, .unset, .unset, .unset] [(.long x1)])) (fun τ κ => XS.goto X0.here hx rfl (pc0 := 22) (pc' := 27) rfl (hb hby at_22) (by decide) (by decide) κ) ?_
      refine Gl.st (g' := (mkF m 29 #[.val (.int x0), .val (.long x1), .second, .val (.int x2), .val (.long x3), .second, .val (.int x4), .val (.int x5), .val (.int x0), .val (.long x1), .second, .unset, .unset, .unset, .unset, .unset, .unset, .unset, .unset, .unset, .unset, .unset] [])) (fun τ κ => XS.lstore X0.here hx rfl (hb hby at_27) rfl (l' := #[.val (.int x0), .val (.long x1), .second, .val (.int x2), .val (.long x3), .second, .val (.int x4), .val (.int x5), .val (.int x0), .val (.long x1), .second, .unset, .unset, .unset, .unset, .unset, .unset, .unset, .unset, .unset, .unset, .unset]) rfl κ) ?_
      refine own_m29 hx hZ hw hby hml hown X0 e0 N0 Z0 S0 hcs SL VL HE ?_
      intro T' h' locs' Ls X' e' N'
      exact Gl.ret (v := some (.int (1 : Int32))) X' Bd.notSynchronized (fun h => by rw [Bd.returns] at h; cases h) e' (fun fs hr => retN X' hx (t := .boolean) Bd.returns (by simp) (hb hby at_276) hr) (by decide) (by decide) ⟨rfl, N'⟩
theorem own_eqi {args : Array Value} {s : State} {t : Term} {k : Int32} (h : (Cond.eq t (.int k)).value args s none s [] = some true) : t.eval args s none [] s = some (.int k) := by
  obtain ⟨x, y, h1, h2, h3, -⟩ := cmp_v (Or.inl h)
  cases (Term.int_eval k).symm.trans h2
  cases x <;> simp [Cond.value, h1, Term.int_eval] at h ⊢
  exact h
theorem own_ne0 {args : Array Value} {s : State} {t : Term} {k : Int32} (h : (Cond.not (.eq t (.int 0))).value args s none s [] = some true) (ev : t.eval args s none [] s = some (.int k)) : ¬ k = (0 : Int32) := by
  have q := not_v h
  intro e; subst e
  simp [Cond.value, ev, Term.int_eval] at q
theorem own_cache {args : Array Value} {s : State} {t : Term} {x : Addr} {R : Cond} (ev : t.eval args s none [] s = some (.ref x)) (hidx : ∀ j, t.eval args s none [j] s = some (.ref x)) (ha : (Cond.arrayOf t (.object "java/lang/Long")).value args s none s [] = some true) (hl : (Term.length t).eval args s none [] s = some (.int 256))
    (hall : (Cond.all t (.and (.exactly (.elem t (.index 0)) "java/lang/Long") R)).value args s none s [] = some true) : ∃ k vs, Arv s s.heap x k (.object "java/lang/Long") (256 : Int32) vs .null ∧ own_HE s s.heap vs := by
  obtain ⟨c, A⟩ := Arr.start ev ha
  have fin : s.arrayAt? x = some c := A.fin (Vm.Alike.refl _)
  have sz : c.slots.size = 256 := by
    simp only [Term.eval, ev, Option.bind_eq_bind, Option.bind_some, fin] at hl
    split at hl
    · rename_i hlt
      have e : c.slots.size.toInt32 = 256 := Value.int.inj (Option.some.inj hl)
      have e2 : (c.slots.size.toInt32).toInt = 256 := by rw [e]; rfl
      have e3 : (c.slots.size.toInt32).toInt = (c.slots.size : Int) := Int32.toInt_ofNat_of_lt (by omega)
      omega
    · cases hl
  have hE : ∀ j, j < 256 → ∃ b, c.slots[j]? = some (.ref b) ∧ Exa s s.heap b "java/lang/Long" := fun j hj => by
    obtain ⟨q1, -⟩ := and_e (Cond.all_elim ev fin hall j (by omega))
    obtain ⟨b, cc, cell, k, e1, e2, e3, e4, e5, rfl, e7⟩ := Cond.exactly_spec (beq_iff_eq.mpr q1 : (Cond.exactly (.elem t (.index 0)) "java/lang/Long").holds args s none s [j] = true)
    obtain ⟨hnn, hback⟩ := Jvm.Free.IntBox.place_nonneg j hj
    refine ⟨b, ?_, cell, k, e3, e2, e4, e5, e7⟩
    simpa [Term.eval, hidx, hnn, fin, hback] using e1
  have hG : ∀ j, j < 256 → c.slots.toList.getD j .null = c.slots[j]?.getD .null := fun j hj => by
    rw [List.getD_eq_getElem?_getD, Array.getElem?_toList]
  refine ⟨c.cls, c.slots.toList, ⟨c, A, rfl, by rw [sz]; rfl, by decide, fun k hk => ?_, fun i hi => ?_⟩, fun j hj => ?_⟩
  · obtain ⟨b, e, -⟩ := hE k (by omega); rw [hG k (by omega), e]; rfl
  · obtain ⟨b, e, -⟩ := hE i (by omega); rw [hG i (by omega), e]; rfl
  · obtain ⟨b, e, x⟩ := hE j hj; exact ⟨b, by rw [hG j hj, e]; rfl, x⟩
set_option maxRecDepth 65536 in
set_option maxHeartbeats 40000000 in
theorem comes_1 {Post : Tables → Env → Array Value → State → Outcome → State → Prop} (hpost : ∀ tb e args s v u, (limb_1_1.after args s (.returned v) u = true ∧ limb_1_2.after args s (.returned v) u = true ∧ True) → FrameEnd s (.returned v) u (Jvm.fieldLocs frame_1_writes args s ++ Jvm.arrayLocs frame_1_arrays args s ++ Jvm.staticLocs frame_1_statics s) 24 128 → Post tb e args s (.returned v) u) :
    ArmFor flags0 classFile x code maxLocals ret World_1 tables_1 room_1 Calls_1 rest_1 Pre_1 Post := by
  intro l hfl _ _ p e ha hc hk s m args below hf hA hF happ hP
  obtain ⟨hcalls, hrest, hpre⟩ := hP
  obtain ⟨-, -, -, hnamed, -, -, -, hat⟩ := (Spec.applies_iff hf).mp happ
  obtain ⟨hg, hn⟩ := and_e (Cond.before_iff.mp (show (Jvm.Cond.and given_1 narrow_1).before args s = true from hpre))
  obtain ⟨hcount, hg0⟩ := and_e hg
  obtain ⟨gi0, hg1⟩ := and_e hg0
  obtain ⟨gi1, hg2⟩ := and_e hg1
  obtain ⟨gi2, hg3⟩ := and_e hg2
  obtain ⟨gi3, hg4⟩ := and_e hg3
  obtain ⟨gi4, hg5⟩ := and_e hg4
  have gi5 := hg5
  obtain ⟨w0, w1, w2, w3, w4, w5, rfl⟩ : ∃ w0 w1 w2 w3 w4 w5 : Value, args = #[w0, w1, w2, w3, w4, w5] := by
    have hs : args.size = 6 := by simpa [Cond.value, given_1] using hcount
    obtain ⟨L⟩ := args
    match L, hs with
    | [w0, w1, w2, w3, w4, w5], _ => exact ⟨w0, w1, w2, w3, w4, w5, rfl⟩
  have hw := fun d (hd : d ∈ tables_1) => atoms_spec (ws := Jvm.Cond.code x code maxLocals ret :: tables_1) hat d (List.mem_cons_of_mem _ hd)
  obtain ⟨hsets, hown0⟩ := atoms_of _ (rest_1_c_eq ▸ (show rest_1_c.before _ s = true from hrest))
  have hr0 := Cond.before_iff.mp hown0
  obtain ⟨i0, ei0⟩ := is_v gi0
  obtain rfl : w0 = (.int i0) := Option.some.inj ei0
  obtain ⟨i1, ei1⟩ := isL_v gi1
  obtain rfl : w1 = (.long i1) := Option.some.inj ei1
  obtain ⟨i2, ei2⟩ := is_v gi2
  obtain rfl : w2 = (.int i2) := Option.some.inj ei2
  obtain ⟨i3, ei3⟩ := isL_v gi3
  obtain rfl : w3 = (.long i3) := Option.some.inj ei3
  obtain ⟨i4, ei4⟩ := is_v gi4
  obtain rfl : w4 = (.int i4) := Option.some.inj ei4
  obtain ⟨i5, ei5⟩ := is_v gi5
  obtain rfl : w5 = (.int i5) := Option.some.inj ei5
  obtain ⟨cs, evc⟩ := is_v (Cond.before_iff.mp (hsets _ (List.mem_of_getElem? (i := 1) rfl)))
  have S0 := Sta.start evc (Or.inl (hsets _ (List.mem_of_getElem? (i := 0) rfl)))
  have hcs := own_ne0 (Cond.before_iff.mp (hsets _ (List.mem_of_getElem? (i := 2) rfl))) evc
  obtain ⟨lc, evl⟩ := arr_v (Cond.before_iff.mp (hsets _ (List.mem_of_getElem? (i := 11) rfl)))
  have SL := Sta.start evl (Or.inl (hsets _ (List.mem_of_getElem? (i := 10) rfl)))
  obtain ⟨kl, vl, VL, HE⟩ := own_cache evl (fun _ => evl) (Cond.before_iff.mp (hsets _ (List.mem_of_getElem? (i := 11) rfl))) (own_eqi (Cond.before_iff.mp (hsets _ (List.mem_of_getElem? (i := 13) rfl)))) (Cond.before_iff.mp (hsets _ (List.mem_of_getElem? (i := 14) rfl)))
  obtain ⟨n, o, h1, h2, h3, _, L, rfl, ⟨rfl, N⟩, hq⟩ := rm0 l s _ hw tables_1 i0 i1 i2 i3 i4 i5 cs lc kl vl s.heap s.heap.size (Nat.le_refl _) S0 hcs SL VL HE p e ha hc hk s m _ below hf ((Spec.applies_iff_loose hf).mp happ).1 ⟨rfl, State.Warmed39.refl s, rfl⟩ trivial
  refine ⟨n, _, h1, h2, h3, hpost _ _ _ _ _ _ ⟨Cond.after_iff.mpr rfl, Cond.after_iff.mpr (eq_i res_at (Term.int_eval (1)) rfl), trivial⟩ ⟨hq.1, hq.2.1, (hq.2.2.sift fun y hy => Or.inr (N y hy)).mono (by decide) (by decide)⟩⟩
theorem main_1_1 : Claimed_1_1 := comes_1 fun _ _ _ _ _ _ h hF => ⟨h.1, hF⟩
theorem main_1_2 : Claimed_1_2 := comes_1 fun _ _ _ _ _ _ h hF => ⟨h.2.1, hF⟩
end Jvm.Pilot.@@N@@
namespace Jvm.Pilot.@@N@@
open Jvm Jvm.ClassFile Sem Op Lib Jvm.Free Jvm.Stand Jvm.Pilot.@@N@@.Jvm.D
/-! MADE BY PROGRAM (witnessworld.py) out of the Statement's table words and the real class files: 27 classes; the members and pool entries that the words name. The judged class is class 1, her method 1. -/
namespace start1
open Jvm.ClassFile
def u (s : String) : CpInfo := .utf8 (stringToUtf16 s)
/-- a pool by its gaps: so many unusable entries, then the entry; so many at the end -/
def gap : Nat → List CpInfo → List CpInfo
  | 0, r => r
  | n + 1, r => .unusable :: gap n r
def poolList (es : List (Nat × CpInfo)) (last : Nat) : List CpInfo := es.foldr (fun e r => gap e.1 (e.2 :: r)) (gap last [])
def pool (es : List (Nat × CpInfo)) (last : Nat) : Array CpInfo := ⟨poolList es last⟩
def fileOf (pool : Array CpInfo) (this : Nat) (attrs : Array Attribute := #[]) (ms : Array MethodInfo := #[]) (fl : Nat := 33) (sup : Nat := 0) (ifs : Array Nat := #[]) (fds : Array FieldInfo := #[]) : ClassFile where
  minorVersion := 0
  majorVersion := 65
  constantPool := pool
  accessFlags := fl
  thisClass := this
  superClass := sup
  interfaces := ifs
  fields := fds
  methods := ms
  attributes := attrs
def plain (name : String) (sup : Option ClassId) : Class where
  name := name
  kind := .ordinary
  loader := none
  accessFlags := 33
  super := sup
  interfaces := #[]
  cf := none
  fields := #[]
  methods := #[]
  instanceTypes := #[]
  staticTypes := #[]
  resolved := #[]
  callSites := []
  init := .initialized
  statics := none
  mirror := none

def pool0 : Array CpInfo := pool [(5, u "<init>"), (0, u "()V"), (1, .class_ 10), (1, u "java/lang/Object")] 113

def k0c0 : Code := { maxStack := 0, maxLocals := 1, code := object_method_1_code, exceptionTable := #[], attributes := #[] }
def k0m0 : Method := { name := "<init>", desc := "()V", sig := { parameters := [], returnType := none }, accessFlags := 1, code := some k0c0 }
/-- java/lang/Object -/
def k0 : Class := { plain "java/lang/Object" none with
  accessFlags := 33
  interfaces := #[]
  cf := some (fileOf pool0 8 #[] #[{ accessFlags := 1, nameIndex := 5, descriptorIndex := 6, attributes := #[] }] 33 0 #[] #[])
  fields := #[]
  methods := #[k0m0]
  instanceTypes := #[]
  staticTypes := #[]
  resolved := Array.replicate 124 none
  statics := none }

def pool1 : Array CpInfo := pool [(2, .class_ 4), (1, u "java/lang/Object"), (0, u "<init>"), (0, u "()V"), (0, .class_ 8), (0, u "java/lang/String"), (0, .methodref 7 10), (0, .nameAndType 5 11), (0, u "([C)V"), (0, .methodref 7 13), (0, .nameAndType 14 15), (0, u "valueOf"), (0, u "(C)Ljava/lang/String;"), (0, .class_ 17), (0, u "com/example/warpcheck/warpcheck/Term$Input"), (0, .methodref 16 19), (0, .nameAndType 5 20), (0, u "(IJLjava/lang/String;)V"), (0, .methodref 16 22), (0, .nameAndType 23 24), (0, u "equals"), (0, u "(Ljava/lang/Object;)Z"), (0, .methodref 26 27), (0, .class_ 28), (0, .nameAndType 14 29), (0, u "java/lang/Long"), (0, u "(J)Ljava/lang/Long;"), (0, .methodref 16 31), (0, .nameAndType 32 33), (0, u "hashCode"), (0, u "()I"), (0, .class_ 35), (0, u "com/example/warpcheck/warpcheck/InputEqualsPinLaw"), (2, u "law"), (0, u "(IJIJII)Z")] 7

def k1m0 : Method := { name := "<init>", desc := "()V", sig := { parameters := [], returnType := none }, accessFlags := 1, code := none }
def k1c1 : Code := { maxStack := 7, maxLocals := 22, code := code, exceptionTable := #[], attributes := #[] }
def k1m1 : Method := { name := "law", desc := "(IJIJII)Z", sig := { parameters := [.int, .long, .int, .long, .int, .int], returnType := some .boolean }, accessFlags := 9, code := some k1c1 }
/-- com/example/warpcheck/warpcheck/InputEqualsPinLaw -/
def k1 : Class := { plain "com/example/warpcheck/warpcheck/InputEqualsPinLaw" (some 0) with
  accessFlags := 49
  interfaces := #[]
  cf := some (fileOf pool1 34 #[] #[{ accessFlags := 1, nameIndex := 5, descriptorIndex := 6, attributes := #[] }, { accessFlags := 9, nameIndex := 38, descriptorIndex := 39, attributes := #[] }] 49 2 #[] #[])
  fields := #[]
  methods := #[k1m0, k1m1]
  instanceTypes := #[]
  staticTypes := #[]
  resolved := Array.replicate 47 none
  statics := none }

def pool2 : Array CpInfo := pool [(1, .class_ 2), (0, u "java/io/Serializable"), (0, .class_ 4), (0, u "java/lang/Object")] 2

/-- java/io/Serializable -/
def k2 : Class := { plain "java/io/Serializable" (some 0) with
  accessFlags := 1537
  interfaces := #[]
  cf := some (fileOf pool2 1 #[] #[] 1537 3 #[] #[])
  fields := #[]
  methods := #[]
  instanceTypes := #[]
  staticTypes := #[]
  resolved := Array.replicate 7 none
  statics := none }

def pool3 : Array CpInfo := pool [(1, .class_ 2), (0, u "java/lang/Comparable"), (0, .class_ 4), (0, u "java/lang/Object")] 7

/-- java/lang/Comparable -/
def k3 : Class := { plain "java/lang/Comparable" (some 0) with
  accessFlags := 1537
  interfaces := #[]
  cf := some (fileOf pool3 1 #[] #[] 1537 3 #[] #[])
  fields := #[]
  methods := #[]
  instanceTypes := #[]
  staticTypes := #[]
  resolved := Array.replicate 12 none
  statics := none }

def pool4 : Array CpInfo := pool [(2, .class_ 4), (1, u "java/lang/CharSequence"), (42, .class_ 48), (0, u "java/lang/CharSequence$1CodePointIterator"), (10, .class_ 60), (0, u "java/lang/CharSequence$1CharIterator"), (5, .class_ 67), (0, u "java/lang/Object")] 63

/-- java/lang/CharSequence -/
def k4 : Class := { plain "java/lang/CharSequence" (some 0) with
  accessFlags := 1537
  interfaces := #[]
  cf := some (fileOf pool4 2 #[.nestMembers #[47, 59]] #[] 1537 66 #[] #[])
  fields := #[]
  methods := #[]
  instanceTypes := #[]
  staticTypes := #[]
  resolved := Array.replicate 131 none
  statics := none }

def pool5 : Array CpInfo := pool [(1, .class_ 2), (0, u "java/lang/constant/Constable"), (0, .class_ 4), (0, u "java/lang/Object")] 6

/-- java/lang/constant/Constable -/
def k5 : Class := { plain "java/lang/constant/Constable" (some 0) with
  accessFlags := 1537
  interfaces := #[]
  cf := some (fileOf pool5 1 #[] #[] 1537 3 #[] #[])
  fields := #[]
  methods := #[]
  instanceTypes := #[]
  staticTypes := #[]
  resolved := Array.replicate 11 none
  statics := none }

def pool6 : Array CpInfo := pool [(1, .class_ 2), (0, u "java/lang/constant/ConstantDesc"), (0, .class_ 4), (0, u "java/lang/Object")] 32

/-- java/lang/constant/ConstantDesc -/
def k6 : Class := { plain "java/lang/constant/ConstantDesc" (some 0) with
  accessFlags := 1537
  interfaces := #[]
  cf := some (fileOf pool6 1 #[] #[] 1537 3 #[] #[])
  fields := #[]
  methods := #[]
  instanceTypes := #[]
  staticTypes := #[]
  resolved := Array.replicate 37 none
  statics := none }

def pool7 : Array CpInfo := pool [(1, .methodref 2 3), (0, .class_ 4), (0, .nameAndType 5 6), (0, u "java/lang/Object"), (0, u "<init>"), (0, u "()V"), (2, .fieldref 10 11), (0, .class_ 12), (0, .nameAndType 13 14), (0, u "java/lang/String"), (0, u "value"), (0, u "[B"), (0, .fieldref 10 16), (0, .nameAndType 17 18), (0, u "coder"), (0, u "B"), (2, u "hash"), (0, u "I"), (2, u "hashIsZero"), (0, u "Z"), (0, .methodref 10 28), (0, .nameAndType 5 29), (0, u "([CIILjava/lang/Void;)V"), (8, .fieldref 10 39), (0, .nameAndType 40 26), (0, u "COMPACT_STRINGS"), (1, .class_ 44), (1, u "java/lang/StringUTF16"), (0, u "compress"), (1, .methodref 42 48), (0, .nameAndType 49 50), (0, u "coderFromArrayLen"), (0, u "([BI)B"), (2, u "toBytes"), (53, .class_ 109), (1, u "java/lang/StringLatin1"), (67, .methodref 42 178), (0, .nameAndType 45 179), (0, u "([CII)[B"), (29, .methodref 10 210), (0, .nameAndType 5 211), (0, u "([BB)V"), (157, u "(C)Z"), (205, .class_ 576), (0, u "java/lang/CharSequence"), (22, u "CASE_INSENSITIVE_ORDER"), (0, u "Ljava/util/Comparator;"), (181, u "valueOf"), (0, u "(C)Ljava/lang/String;"), (226, u "([C)V"), (4, .methodref 107 1016), (0, .nameAndType 1017 369), (0, u "canEncode"), (0, .methodref 107 1019), (0, .nameAndType 53 1020), (0, u "(C)[B"), (80, u "serialPersistentFields"), (0, u "[Ljava/io/ObjectStreamField;"), (0, .class_ 1104), (0, u "java/lang/String$CaseInsensitiveComparator"), (1, .class_ 1107), (0, u "java/io/Serializable"), (0, .class_ 1109), (0, u "java/lang/Comparable"), (0, .class_ 1111), (0, u "java/lang/constant/Constable"), (0, .class_ 1113), (0, u "java/lang/constant/ConstantDesc"), (2, u "serialVersionUID"), (0, u "J"), (3, u "REPL"), (0, u "C"), (2, u "LATIN1"), (1, u "UTF16")] 323

def k7m0 : Method := { name := "<init>", desc := "()V", sig := { parameters := [], returnType := none }, accessFlags := 1, code := none }
def k7c1 : Code := { maxStack := 5, maxLocals := 2, code := jdk_42_method_3_code, exceptionTable := #[], attributes := #[] }
def k7m1 : Method := { name := "<init>", desc := "([C)V", sig := { parameters := [(.array .char)], returnType := none }, accessFlags := 1, code := some k7c1 }
def k7c2 : Code := { maxStack := 4, maxLocals := 1, code := jdk_42_method_139_code, exceptionTable := #[], attributes := #[] }
def k7m2 : Method := { name := "valueOf", desc := "(C)Ljava/lang/String;", sig := { parameters := [.char], returnType := some (.object "java/lang/String") }, accessFlags := 9, code := some k7c2 }
def k7c3 : Code := { maxStack := 4, maxLocals := 6, code := jdk_42_method_149_code, exceptionTable := #[], attributes := #[] }
def k7m3 : Method := { name := "<init>", desc := "([CIILjava/lang/Void;)V", sig := { parameters := [(.array .char), .int, .int, (.object "java/lang/Void")], returnType := none }, accessFlags := 2, code := some k7c3 }
def k7c4 : Code := { maxStack := 2, maxLocals := 3, code := jdk_42_method_151_code, exceptionTable := #[], attributes := #[] }
def k7m4 : Method := { name := "<init>", desc := "([BB)V", sig := { parameters := [(.array .byte), .byte], returnType := none }, accessFlags := 0, code := some k7c4 }
/-- java/lang/String -/
def k7 : Class := { plain "java/lang/String" (some 0) with
  accessFlags := 49
  interfaces := #[2, 3, 4, 5, 6]
  cf := some (fileOf pool7 10 #[.nestMembers #[1103]] #[{ accessFlags := 1, nameIndex := 5, descriptorIndex := 6, attributes := #[] }, { accessFlags := 1, nameIndex := 5, descriptorIndex := 1010, attributes := #[] }, { accessFlags := 9, nameIndex := 782, descriptorIndex := 783, attributes := #[] }, { accessFlags := 2, nameIndex := 5, descriptorIndex := 29, attributes := #[] }, { accessFlags := 0, nameIndex := 5, descriptorIndex := 211, attributes := #[] }] 49 2 #[1106, 1108, 575, 1110, 1112] #[{ accessFlags := 18, nameIndex := 13, descriptorIndex := 14, attributes := #[] }, { accessFlags := 18, nameIndex := 17, descriptorIndex := 18, attributes := #[] }, { accessFlags := 2, nameIndex := 21, descriptorIndex := 22, attributes := #[] }, { accessFlags := 2, nameIndex := 25, descriptorIndex := 26, attributes := #[] }, { accessFlags := 26, nameIndex := 1116, descriptorIndex := 1117, attributes := #[] }, { accessFlags := 24, nameIndex := 40, descriptorIndex := 26, attributes := #[] }, { accessFlags := 26, nameIndex := 1101, descriptorIndex := 1102, attributes := #[] }, { accessFlags := 26, nameIndex := 1121, descriptorIndex := 1122, attributes := #[] }, { accessFlags := 25, nameIndex := 599, descriptorIndex := 600, attributes := #[] }, { accessFlags := 24, nameIndex := 1125, descriptorIndex := 18, attributes := #[] }, { accessFlags := 24, nameIndex := 1127, descriptorIndex := 18, attributes := #[] }])
  fields := #[{ name := "value", type := (.array .byte), accessFlags := 18, slot := 0, constantValue := 0 }, { name := "coder", type := .byte, accessFlags := 18, slot := 1, constantValue := 0 }, { name := "hash", type := .int, accessFlags := 2, slot := 2, constantValue := 0 }, { name := "hashIsZero", type := .boolean, accessFlags := 2, slot := 3, constantValue := 0 }, { name := "serialVersionUID", type := .long, accessFlags := 26, slot := 0, constantValue := 0 }, { name := "COMPACT_STRINGS", type := .boolean, accessFlags := 24, slot := 1, constantValue := 0 }, { name := "serialPersistentFields", type := (.array (.object "java/io/ObjectStreamField")), accessFlags := 26, slot := 2, constantValue := 0 }, { name := "REPL", type := .char, accessFlags := 26, slot := 3, constantValue := 0 }, { name := "CASE_INSENSITIVE_ORDER", type := (.object "java/util/Comparator"), accessFlags := 25, slot := 4, constantValue := 0 }, { name := "LATIN1", type := .byte, accessFlags := 24, slot := 5, constantValue := 0 }, { name := "UTF16", type := .byte, accessFlags := 24, slot := 6, constantValue := 0 }]
  methods := #[k7m0, k7m1, k7m2, k7m3, k7m4]
  instanceTypes := #[(.array .byte), .byte, .int, .boolean]
  staticTypes := #[.long, .boolean, (.array (.object "java/io/ObjectStreamField")), .char, (.object "java/util/Comparator"), .byte, .byte]
  resolved := Array.replicate 1451 none
  statics := some 0 }

def pool8 : Array CpInfo := pool [(6, .class_ 8), (1, u "java/lang/Object"), (0, u "<init>"), (0, u "()V"), (1, .class_ 14), (1, u "java/lang/StringUTF16"), (31, u "$assertionsDisabled"), (0, u "Z"), (13, u "HI_BYTE_SHIFT"), (0, u "I"), (2, u "LO_BYTE_SHIFT"), (49, .methodref 12 116), (0, .nameAndType 117 118), (0, u "compress"), (0, u "([CI[BII)I"), (3, u "([CII)[B"), (138, u "coderFromArrayLen"), (0, u "([BI)B"), (106, .class_ 371), (1, u "java/lang/StringUTF16$LinesSpliterator"), (58, u "MAX_LENGTH"), (196, .class_ 628), (0, u "java/lang/StringUTF16$CodePointsSpliterator"), (0, .class_ 630), (0, u "java/lang/StringUTF16$CharsSpliterator")] 4

def k8m0 : Method := { name := "<init>", desc := "()V", sig := { parameters := [], returnType := none }, accessFlags := 0, code := none }
def k8c1 : Code := { maxStack := 2, maxLocals := 2, code := jdk_52_method_15_code, exceptionTable := #[], attributes := #[] }
def k8m1 : Method := { name := "coderFromArrayLen", desc := "([BI)B", sig := { parameters := [(.array .byte), .int], returnType := some .byte }, accessFlags := 8, code := some k8c1 }
def k8c2 : Code := { maxStack := 5, maxLocals := 6, code := jdk_52_method_16_code, exceptionTable := #[], attributes := #[] }
def k8m2 : Method := { name := "compress", desc := "([CII)[B", sig := { parameters := [(.array .char), .int, .int], returnType := some (.array .byte) }, accessFlags := 9, code := some k8c2 }
def k8c3 : Code := { maxStack := 3, maxLocals := 7, code := jdk_52_method_21_code, exceptionTable := #[], attributes := #[] }
def k8m3 : Method := { name := "compress", desc := "([CI[BII)I", sig := { parameters := [(.array .char), .int, (.array .byte), .int, .int], returnType := some .int }, accessFlags := 9, code := some k8c3 }
/-- java/lang/StringUTF16 -/
def k8 : Class := { plain "java/lang/StringUTF16" (some 0) with
  accessFlags := 48
  interfaces := #[]
  cf := some (fileOf pool8 12 #[.nestMembers #[627, 629, 369]] #[{ accessFlags := 0, nameIndex := 9, descriptorIndex := 10, attributes := #[] }, { accessFlags := 8, nameIndex := 261, descriptorIndex := 262, attributes := #[] }, { accessFlags := 9, nameIndex := 117, descriptorIndex := 122, attributes := #[] }, { accessFlags := 9, nameIndex := 117, descriptorIndex := 118, attributes := #[] }] 48 6 #[] #[{ accessFlags := 26, nameIndex := 61, descriptorIndex := 62, attributes := #[] }, { accessFlags := 26, nameIndex := 65, descriptorIndex := 62, attributes := #[] }, { accessFlags := 24, nameIndex := 430, descriptorIndex := 62, attributes := #[] }, { accessFlags := 4120, nameIndex := 46, descriptorIndex := 47, attributes := #[] }])
  fields := #[{ name := "HI_BYTE_SHIFT", type := .int, accessFlags := 26, slot := 0, constantValue := 0 }, { name := "LO_BYTE_SHIFT", type := .int, accessFlags := 26, slot := 1, constantValue := 0 }, { name := "MAX_LENGTH", type := .int, accessFlags := 24, slot := 2, constantValue := 0 }, { name := "$assertionsDisabled", type := .boolean, accessFlags := 4120, slot := 3, constantValue := 0 }]
  methods := #[k8m0, k8m1, k8m2, k8m3]
  instanceTypes := #[]
  staticTypes := #[.int, .int, .int, .boolean]
  resolved := Array.replicate 635 none
  statics := none }

def pool9 : Array CpInfo := pool [(4, .class_ 6), (1, u "java/lang/Object"), (0, u "<init>"), (0, u "()V"), (5, .class_ 16), (1, u "java/lang/StringLatin1"), (73, u "canEncode"), (14, u "(C)Z"), (15, u "$assertionsDisabled"), (0, u "Z"), (98, .class_ 223), (1, u "java/lang/StringLatin1$LinesSpliterator"), (156, u "toBytes"), (1, u "(C)[B"), (7, .class_ 391), (0, u "java/lang/StringLatin1$CharsSpliterator")] 3

def k9m0 : Method := { name := "<init>", desc := "()V", sig := { parameters := [], returnType := none }, accessFlags := 0, code := none }
def k9c1 : Code := { maxStack := 2, maxLocals := 1, code := jdk_43_method_3_code, exceptionTable := #[], attributes := #[] }
def k9m1 : Method := { name := "canEncode", desc := "(C)Z", sig := { parameters := [.char], returnType := some .boolean }, accessFlags := 9, code := some k9c1 }
def k9c2 : Code := { maxStack := 4, maxLocals := 1, code := jdk_43_method_46_code, exceptionTable := #[], attributes := #[] }
def k9m2 : Method := { name := "toBytes", desc := "(C)[B", sig := { parameters := [.char], returnType := some (.array .byte) }, accessFlags := 9, code := some k9c2 }
/-- java/lang/StringLatin1 -/
def k9 : Class := { plain "java/lang/StringLatin1" (some 0) with
  accessFlags := 48
  interfaces := #[]
  cf := some (fileOf pool9 14 #[.nestMembers #[390, 221]] #[{ accessFlags := 0, nameIndex := 7, descriptorIndex := 8, attributes := #[] }, { accessFlags := 9, nameIndex := 90, descriptorIndex := 105, attributes := #[] }, { accessFlags := 9, nameIndex := 380, descriptorIndex := 382, attributes := #[] }] 48 4 #[] #[{ accessFlags := 4120, nameIndex := 121, descriptorIndex := 122, attributes := #[] }])
  fields := #[{ name := "$assertionsDisabled", type := .boolean, accessFlags := 4120, slot := 0, constantValue := 0 }]
  methods := #[k9m0, k9m1, k9m2]
  instanceTypes := #[]
  staticTypes := #[.boolean]
  resolved := Array.replicate 395 none
  statics := none }

def pool10 : Array CpInfo := pool [(1, .methodref 2 3), (0, .class_ 4), (0, .nameAndType 5 6), (0, u "java/lang/Object"), (0, u "<init>"), (0, u "()V"), (0, .class_ 8), (0, u "java/lang/Record")] 13

def k10c0 : Code := { maxStack := 1, maxLocals := 1, code := jdk_30_method_1_code, exceptionTable := #[], attributes := #[] }
def k10m0 : Method := { name := "<init>", desc := "()V", sig := { parameters := [], returnType := none }, accessFlags := 4, code := some k10c0 }
/-- java/lang/Record -/
def k10 : Class := { plain "java/lang/Record" (some 0) with
  accessFlags := 1057
  interfaces := #[]
  cf := some (fileOf pool10 7 #[] #[{ accessFlags := 4, nameIndex := 5, descriptorIndex := 6, attributes := #[] }] 1057 2 #[] #[])
  fields := #[]
  methods := #[k10m0]
  instanceTypes := #[]
  staticTypes := #[]
  resolved := Array.replicate 22 none
  statics := none }

def pool11 : Array CpInfo := pool [(1, .class_ 2), (0, u "com/example/warpcheck/warpcheck/TermText$Part"), (0, .class_ 4), (0, u "java/lang/Object"), (7, .class_ 13), (0, u "com/example/warpcheck/warpcheck/TermText")] 2

/-- com/example/warpcheck/warpcheck/TermText$Part -/
def k11 : Class := { plain "com/example/warpcheck/warpcheck/TermText$Part" (some 0) with
  accessFlags := 1536
  interfaces := #[]
  cf := some (fileOf pool11 1 #[.nestHost 12] #[] 1536 3 #[] #[])
  fields := #[]
  methods := #[]
  instanceTypes := #[]
  staticTypes := #[]
  resolved := Array.replicate 16 none
  statics := none }

def pool12 : Array CpInfo := pool [(1, .class_ 2), (0, u "com/example/warpcheck/warpcheck/Term$Atom"), (0, .class_ 4), (0, u "java/lang/Object"), (0, .class_ 6), (0, u "com/example/warpcheck/warpcheck/TermText$Part"), (7, .class_ 15), (0, u "com/example/warpcheck/warpcheck/Term")] 18

/-- com/example/warpcheck/warpcheck/Term$Atom -/
def k12 : Class := { plain "com/example/warpcheck/warpcheck/Term$Atom" (some 0) with
  accessFlags := 1536
  interfaces := #[11]
  cf := some (fileOf pool12 1 #[.nestHost 14] #[] 1536 3 #[5] #[])
  fields := #[]
  methods := #[]
  instanceTypes := #[]
  staticTypes := #[]
  resolved := Array.replicate 34 none
  statics := none }

def pool13 : Array CpInfo := pool [(1, .methodref 2 3), (0, .class_ 4), (0, .nameAndType 5 6), (0, u "java/lang/Record"), (0, u "<init>"), (0, u "()V"), (0, .fieldref 8 9), (0, .class_ 10), (0, .nameAndType 11 12), (0, u "com/example/warpcheck/warpcheck/Term$Input"), (0, u "arg"), (0, u "I"), (0, .fieldref 8 14), (0, .nameAndType 15 16), (0, u "index"), (0, u "J"), (0, .fieldref 8 18), (0, .nameAndType 19 20), (0, u "variable"), (0, u "Ljava/lang/String;"), (2, u "(IJLjava/lang/String;)V"), (11, .long 11400714819323198485), (1, .long 13787848793156543929), (25, .class_ 64), (0, u "com/example/warpcheck/warpcheck/Term$Atom"), (0, .class_ 66), (0, u "java/lang/Comparable"), (5, u "equals"), (0, u "(Ljava/lang/Object;)Z"), (0, u "hashCode"), (0, u "()I"), (13, .class_ 90), (0, u "com/example/warpcheck/warpcheck/Term")] 20

def k13c0 : Code := { maxStack := 3, maxLocals := 5, code := prog_183_method_2_code, exceptionTable := #[], attributes := #[] }
def k13m0 : Method := { name := "<init>", desc := "(IJLjava/lang/String;)V", sig := { parameters := [.int, .long, (.object "java/lang/String")], returnType := none }, accessFlags := 0, code := some k13c0 }
def k13c1 : Code := { maxStack := 4, maxLocals := 3, code := prog_183_method_4_code, exceptionTable := #[], attributes := #[] }
def k13m1 : Method := { name := "equals", desc := "(Ljava/lang/Object;)Z", sig := { parameters := [(.object "java/lang/Object")], returnType := some .boolean }, accessFlags := 1, code := some k13c1 }
def k13c2 : Code := { maxStack := 5, maxLocals := 3, code := prog_183_method_5_code, exceptionTable := #[], attributes := #[] }
def k13m2 : Method := { name := "hashCode", desc := "()I", sig := { parameters := [], returnType := some .int }, accessFlags := 1, code := some k13c2 }
/-- com/example/warpcheck/warpcheck/Term$Input -/
def k13 : Class := { plain "com/example/warpcheck/warpcheck/Term$Input" (some 10) with
  accessFlags := 48
  interfaces := #[12, 3]
  cf := some (fileOf pool13 8 #[.nestHost 89] #[{ accessFlags := 0, nameIndex := 5, descriptorIndex := 23, attributes := #[] }, { accessFlags := 1, nameIndex := 72, descriptorIndex := 73, attributes := #[] }, { accessFlags := 1, nameIndex := 74, descriptorIndex := 75, attributes := #[] }] 48 2 #[63, 65] #[{ accessFlags := 18, nameIndex := 11, descriptorIndex := 12, attributes := #[] }, { accessFlags := 18, nameIndex := 15, descriptorIndex := 16, attributes := #[] }, { accessFlags := 18, nameIndex := 19, descriptorIndex := 20, attributes := #[] }])
  fields := #[{ name := "arg", type := .int, accessFlags := 18, slot := 0, constantValue := 0 }, { name := "index", type := .long, accessFlags := 18, slot := 1, constantValue := 0 }, { name := "variable", type := (.object "java/lang/String"), accessFlags := 18, slot := 2, constantValue := 0 }]
  methods := #[k13m0, k13m1, k13m2]
  instanceTypes := #[.int, .long, (.object "java/lang/String")]
  staticTypes := #[]
  resolved := Array.replicate 111 none
  statics := none }

def pool14 : Array CpInfo := pool [(1, .methodref 2 3), (0, .class_ 4), (0, .nameAndType 5 6), (0, u "java/lang/Object"), (0, u "<init>"), (0, u "()V"), (1, .class_ 10), (1, u "java/lang/Number"), (2, .class_ 14), (0, u "java/io/Serializable"), (0, u "serialVersionUID"), (0, u "J")] 20

def k14c0 : Code := { maxStack := 1, maxLocals := 1, code := jdk_18_method_1_code, exceptionTable := #[], attributes := #[] }
def k14m0 : Method := { name := "<init>", desc := "()V", sig := { parameters := [], returnType := none }, accessFlags := 1, code := some k14c0 }
/-- java/lang/Number -/
def k14 : Class := { plain "java/lang/Number" (some 0) with
  accessFlags := 1057
  interfaces := #[2]
  cf := some (fileOf pool14 8 #[] #[{ accessFlags := 1, nameIndex := 5, descriptorIndex := 6, attributes := #[] }] 1057 2 #[13] #[{ accessFlags := 26, nameIndex := 15, descriptorIndex := 16, attributes := #[] }])
  fields := #[{ name := "serialVersionUID", type := .long, accessFlags := 26, slot := 0, constantValue := 0 }]
  methods := #[k14m0]
  instanceTypes := #[]
  staticTypes := #[.long]
  resolved := Array.replicate 37 none
  statics := none }

def pool15 : Array CpInfo := pool [(1, .class_ 2), (0, u "java/lang/Long"), (55, .nameAndType 59 60), (0, u "<init>"), (0, u "()V"), (24, u "valueOf"), (143, u "(J)Ljava/lang/Long;"), (0, .long 18446744073709551488), (1, .long 127), (1, .fieldref 235 236), (0, .class_ 237), (0, .nameAndType 238 239), (0, u "java/lang/Long$LongCache"), (0, u "cache"), (0, u "[Ljava/lang/Long;"), (0, .methodref 1 241), (0, .nameAndType 59 242), (0, u "(J)V"), (27, .methodref 271 58), (0, .class_ 272), (0, u "java/lang/Number"), (0, .fieldref 1 274), (0, .nameAndType 275 276), (0, u "value"), (0, u "J"), (84, u "TYPE"), (0, u "Ljava/lang/Class;"), (0, .class_ 364), (0, u "java/lang/Comparable"), (0, .class_ 366), (0, u "java/lang/constant/Constable"), (0, .class_ 368), (0, u "java/lang/constant/ConstantDesc"), (0, u "MIN_VALUE"), (1, u "MAX_VALUE"), (4, u "SIZE"), (0, u "I"), (1, u "BYTES"), (1, u "serialVersionUID")] 142

def k15c0 : Code := { maxStack := 4, maxLocals := 3, code := jdk_35_method_24_code, exceptionTable := #[], attributes := #[] }
def k15m0 : Method := { name := "valueOf", desc := "(J)Ljava/lang/Long;", sig := { parameters := [.long], returnType := some (.object "java/lang/Long") }, accessFlags := 9, code := some k15c0 }
def k15c1 : Code := { maxStack := 3, maxLocals := 3, code := jdk_35_method_26_code, exceptionTable := #[], attributes := #[] }
def k15m1 : Method := { name := "<init>", desc := "(J)V", sig := { parameters := [.long], returnType := none }, accessFlags := 1, code := some k15c1 }
/-- java/lang/Long -/
def k15 : Class := { plain "java/lang/Long" (some 14) with
  accessFlags := 49
  interfaces := #[3, 5, 6]
  cf := some (fileOf pool15 1 #[.nestMembers #[235]] #[{ accessFlags := 9, nameIndex := 85, descriptorIndex := 229, attributes := #[] }, { accessFlags := 1, nameIndex := 59, descriptorIndex := 242, attributes := #[] }] 49 271 #[363, 365, 367] #[{ accessFlags := 25, nameIndex := 369, descriptorIndex := 276, attributes := #[] }, { accessFlags := 25, nameIndex := 371, descriptorIndex := 276, attributes := #[] }, { accessFlags := 25, nameIndex := 361, descriptorIndex := 362, attributes := #[] }, { accessFlags := 18, nameIndex := 275, descriptorIndex := 276, attributes := #[] }, { accessFlags := 25, nameIndex := 376, descriptorIndex := 377, attributes := #[] }, { accessFlags := 25, nameIndex := 379, descriptorIndex := 377, attributes := #[] }, { accessFlags := 26, nameIndex := 381, descriptorIndex := 276, attributes := #[] }])
  fields := #[{ name := "MIN_VALUE", type := .long, accessFlags := 25, slot := 0, constantValue := 0 }, { name := "MAX_VALUE", type := .long, accessFlags := 25, slot := 1, constantValue := 0 }, { name := "TYPE", type := (.object "java/lang/Class"), accessFlags := 25, slot := 2, constantValue := 0 }, { name := "value", type := .long, accessFlags := 18, slot := 0, constantValue := 0 }, { name := "SIZE", type := .int, accessFlags := 25, slot := 3, constantValue := 0 }, { name := "BYTES", type := .int, accessFlags := 25, slot := 4, constantValue := 0 }, { name := "serialVersionUID", type := .long, accessFlags := 26, slot := 5, constantValue := 0 }]
  methods := #[k15m0, k15m1]
  instanceTypes := #[.long]
  staticTypes := #[.long, .long, (.object "java/lang/Class"), .int, .int, .long]
  resolved := Array.replicate 524 none
  statics := none }

def pool16 : Array CpInfo := pool [(2, .class_ 4), (1, u "java/lang/Object"), (0, u "<init>"), (0, u "()V"), (0, .class_ 8), (0, u "java/lang/Long"), (7, .class_ 18), (1, u "java/lang/Long$LongCache"), (0, u "$assertionsDisabled"), (0, u "Z"), (8, u "archivedCache"), (0, u "[Ljava/lang/Long;"), (7, u "cache")] 24

def k16m0 : Method := { name := "<init>", desc := "()V", sig := { parameters := [], returnType := none }, accessFlags := 2, code := none }
/-- java/lang/Long$LongCache -/
def k16 : Class := { plain "java/lang/Long$LongCache" (some 0) with
  accessFlags := 48
  interfaces := #[]
  cf := some (fileOf pool16 16 #[.nestHost 7] #[{ accessFlags := 2, nameIndex := 5, descriptorIndex := 6, attributes := #[] }] 48 2 #[] #[{ accessFlags := 24, nameIndex := 38, descriptorIndex := 30, attributes := #[] }, { accessFlags := 8, nameIndex := 29, descriptorIndex := 30, attributes := #[] }, { accessFlags := 4120, nameIndex := 19, descriptorIndex := 20, attributes := #[] }])
  fields := #[{ name := "cache", type := (.array (.object "java/lang/Long")), accessFlags := 24, slot := 0, constantValue := 0 }, { name := "archivedCache", type := (.array (.object "java/lang/Long")), accessFlags := 8, slot := 1, constantValue := 0 }, { name := "$assertionsDisabled", type := .boolean, accessFlags := 4120, slot := 2, constantValue := 0 }]
  methods := #[k16m0]
  instanceTypes := #[]
  staticTypes := #[(.array (.object "java/lang/Long")), (.array (.object "java/lang/Long")), .boolean]
  resolved := Array.replicate 63 none
  statics := some 1 }

def pool17 : Array CpInfo := pool [(2, .class_ 4), (1, u "java/lang/Object"), (0, u "<init>"), (0, u "()V"), (17, .class_ 26), (1, u "jdk/internal/util/Preconditions"), (28, .class_ 56), (0, u "jdk/internal/util/Preconditions$4"), (57, .class_ 115), (0, u "jdk/internal/util/Preconditions$1"), (7, u "SIOOBE_FORMATTER"), (0, u "Ljava/util/function/BiFunction;"), (0, .class_ 126), (0, u "jdk/internal/util/Preconditions$2"), (3, u "AIOOBE_FORMATTER"), (0, .class_ 132), (0, u "jdk/internal/util/Preconditions$3"), (3, u "IOOBE_FORMATTER")] 57

def k17m0 : Method := { name := "<init>", desc := "()V", sig := { parameters := [], returnType := none }, accessFlags := 1, code := none }
/-- jdk/internal/util/Preconditions -/
def k17 : Class := { plain "jdk/internal/util/Preconditions" (some 0) with
  accessFlags := 33
  interfaces := #[]
  cf := some (fileOf pool17 24 #[.nestMembers #[55, 131, 125, 114]] #[{ accessFlags := 1, nameIndex := 5, descriptorIndex := 6, attributes := #[] }] 33 2 #[] #[{ accessFlags := 25, nameIndex := 123, descriptorIndex := 124, attributes := #[] }, { accessFlags := 25, nameIndex := 130, descriptorIndex := 124, attributes := #[] }, { accessFlags := 25, nameIndex := 136, descriptorIndex := 124, attributes := #[] }])
  fields := #[{ name := "SIOOBE_FORMATTER", type := (.object "java/util/function/BiFunction"), accessFlags := 25, slot := 0, constantValue := 0 }, { name := "AIOOBE_FORMATTER", type := (.object "java/util/function/BiFunction"), accessFlags := 25, slot := 1, constantValue := 0 }, { name := "IOOBE_FORMATTER", type := (.object "java/util/function/BiFunction"), accessFlags := 25, slot := 2, constantValue := 0 }]
  methods := #[k17m0]
  instanceTypes := #[]
  staticTypes := #[(.object "java/util/function/BiFunction"), (.object "java/util/function/BiFunction"), (.object "java/util/function/BiFunction")]
  resolved := Array.replicate 194 none
  statics := some 2 }

def pool18 : Array CpInfo := pool [(9, u "<init>"), (6, .class_ 18), (1, u "java/lang/Object"), (0, u "()V"), (1, .class_ 23), (1, u "jdk/internal/util/ArraysSupport"), (0, u "LOG2_ARRAY_LONG_INDEX_SCALE"), (0, u "I"), (2, u "U"), (0, u "Ljdk/internal/misc/Unsafe;"), (8, u "BIG_ENDIAN"), (0, u "Z"), (8, u "LOG2_BYTE_BIT_SIZE"), (4, u "LOG2_ARRAY_INT_INDEX_SCALE"), (54, u "JLA"), (0, u "Ljdk/internal/access/JavaLangAccess;"), (11, u "LOG2_ARRAY_BOOLEAN_INDEX_SCALE"), (9, u "LOG2_ARRAY_BYTE_INDEX_SCALE"), (5, u "LOG2_ARRAY_CHAR_INDEX_SCALE"), (5, u "LOG2_ARRAY_SHORT_INDEX_SCALE"), (18, u "LOG2_ARRAY_FLOAT_INDEX_SCALE"), (24, u "LOG2_ARRAY_DOUBLE_INDEX_SCALE"), (89, u "T_BOOLEAN"), (2, u "T_CHAR"), (1, u "T_FLOAT"), (1, u "T_DOUBLE"), (1, u "T_BYTE"), (1, u "T_SHORT"), (1, u "T_INT"), (1, u "T_LONG"), (1, u "SOFT_MAX_ARRAY_LENGTH")] 83

def k18m0 : Method := { name := "<init>", desc := "()V", sig := { parameters := [], returnType := none }, accessFlags := 2, code := none }
/-- jdk/internal/util/ArraysSupport -/
def k18 : Class := { plain "jdk/internal/util/ArraysSupport" (some 0) with
  accessFlags := 33
  interfaces := #[]
  cf := some (fileOf pool18 21 #[] #[{ accessFlags := 2, nameIndex := 9, descriptorIndex := 19, attributes := #[] }] 33 16 #[] #[{ accessFlags := 24, nameIndex := 28, descriptorIndex := 29, attributes := #[] }, { accessFlags := 26, nameIndex := 38, descriptorIndex := 39, attributes := #[] }, { accessFlags := 25, nameIndex := 121, descriptorIndex := 25, attributes := #[] }, { accessFlags := 25, nameIndex := 131, descriptorIndex := 25, attributes := #[] }, { accessFlags := 25, nameIndex := 137, descriptorIndex := 25, attributes := #[] }, { accessFlags := 25, nameIndex := 143, descriptorIndex := 25, attributes := #[] }, { accessFlags := 25, nameIndex := 53, descriptorIndex := 25, attributes := #[] }, { accessFlags := 25, nameIndex := 24, descriptorIndex := 25, attributes := #[] }, { accessFlags := 25, nameIndex := 162, descriptorIndex := 25, attributes := #[] }, { accessFlags := 25, nameIndex := 187, descriptorIndex := 25, attributes := #[] }, { accessFlags := 26, nameIndex := 48, descriptorIndex := 25, attributes := #[] }, { accessFlags := 25, nameIndex := 277, descriptorIndex := 25, attributes := #[] }, { accessFlags := 25, nameIndex := 280, descriptorIndex := 25, attributes := #[] }, { accessFlags := 25, nameIndex := 282, descriptorIndex := 25, attributes := #[] }, { accessFlags := 25, nameIndex := 284, descriptorIndex := 25, attributes := #[] }, { accessFlags := 25, nameIndex := 286, descriptorIndex := 25, attributes := #[] }, { accessFlags := 25, nameIndex := 288, descriptorIndex := 25, attributes := #[] }, { accessFlags := 25, nameIndex := 290, descriptorIndex := 25, attributes := #[] }, { accessFlags := 25, nameIndex := 292, descriptorIndex := 25, attributes := #[] }, { accessFlags := 26, nameIndex := 108, descriptorIndex := 109, attributes := #[] }, { accessFlags := 25, nameIndex := 294, descriptorIndex := 25, attributes := #[] }])
  fields := #[{ name := "U", type := (.object "jdk/internal/misc/Unsafe"), accessFlags := 24, slot := 0, constantValue := 0 }, { name := "BIG_ENDIAN", type := .boolean, accessFlags := 26, slot := 1, constantValue := 0 }, { name := "LOG2_ARRAY_BOOLEAN_INDEX_SCALE", type := .int, accessFlags := 25, slot := 2, constantValue := 0 }, { name := "LOG2_ARRAY_BYTE_INDEX_SCALE", type := .int, accessFlags := 25, slot := 3, constantValue := 0 }, { name := "LOG2_ARRAY_CHAR_INDEX_SCALE", type := .int, accessFlags := 25, slot := 4, constantValue := 0 }, { name := "LOG2_ARRAY_SHORT_INDEX_SCALE", type := .int, accessFlags := 25, slot := 5, constantValue := 0 }, { name := "LOG2_ARRAY_INT_INDEX_SCALE", type := .int, accessFlags := 25, slot := 6, constantValue := 0 }, { name := "LOG2_ARRAY_LONG_INDEX_SCALE", type := .int, accessFlags := 25, slot := 7, constantValue := 0 }, { name := "LOG2_ARRAY_FLOAT_INDEX_SCALE", type := .int, accessFlags := 25, slot := 8, constantValue := 0 }, { name := "LOG2_ARRAY_DOUBLE_INDEX_SCALE", type := .int, accessFlags := 25, slot := 9, constantValue := 0 }, { name := "LOG2_BYTE_BIT_SIZE", type := .int, accessFlags := 26, slot := 10, constantValue := 0 }, { name := "T_BOOLEAN", type := .int, accessFlags := 25, slot := 11, constantValue := 0 }, { name := "T_CHAR", type := .int, accessFlags := 25, slot := 12, constantValue := 0 }, { name := "T_FLOAT", type := .int, accessFlags := 25, slot := 13, constantValue := 0 }, { name := "T_DOUBLE", type := .int, accessFlags := 25, slot := 14, constantValue := 0 }, { name := "T_BYTE", type := .int, accessFlags := 25, slot := 15, constantValue := 0 }, { name := "T_SHORT", type := .int, accessFlags := 25, slot := 16, constantValue := 0 }, { name := "T_INT", type := .int, accessFlags := 25, slot := 17, constantValue := 0 }, { name := "T_LONG", type := .int, accessFlags := 25, slot := 18, constantValue := 0 }, { name := "JLA", type := (.object "jdk/internal/access/JavaLangAccess"), accessFlags := 26, slot := 19, constantValue := 0 }, { name := "SOFT_MAX_ARRAY_LENGTH", type := .int, accessFlags := 25, slot := 20, constantValue := 0 }]
  methods := #[k18m0]
  instanceTypes := #[]
  staticTypes := #[(.object "jdk/internal/misc/Unsafe"), .boolean, .int, .int, .int, .int, .int, .int, .int, .int, .int, .int, .int, .int, .int, .int, .int, .int, .int, (.object "jdk/internal/access/JavaLangAccess"), .int]
  resolved := Array.replicate 378 none
  statics := none }

def pool19 : Array CpInfo := pool [(1, u "java/lang/Cloneable"), (0, .class_ 1), (0, u "java/lang/Object"), (0, .class_ 3)] 3

/-- java/lang/Cloneable -/
def k19 : Class := { plain "java/lang/Cloneable" (some 0) with
  accessFlags := 1537
  interfaces := #[]
  cf := some (fileOf pool19 2 #[] #[] 1537 4 #[] #[])
  fields := #[]
  methods := #[]
  instanceTypes := #[]
  staticTypes := #[]
  resolved := Array.replicate 8 none
  statics := none }

/-- the primitive byte -/
def k20 : Class := { plain "byte" none with kind := .primitive 'B', accessFlags := 0x411 }
/-- [B -/
def k21 : Class := { plain "[B" (some 0) with kind := .array 20 .byte, interfaces := #[19, 2], accessFlags := 1041 }

/-- the primitive char -/
def k22 : Class := { plain "char" none with kind := .primitive 'C', accessFlags := 0x411 }
/-- [C -/
def k23 : Class := { plain "[C" (some 0) with kind := .array 22 .char, interfaces := #[19, 2], accessFlags := 1041 }

/-- the primitive int -/
def k24 : Class := { plain "int" none with kind := .primitive 'I', accessFlags := 0x411 }
/-- [I -/
def k25 : Class := { plain "[I" (some 0) with kind := .array 24 .int, interfaces := #[19, 2], accessFlags := 1041 }

/-- [Ljava/lang/Long; -/
def k26 : Class := { plain "[Ljava/lang/Long;" (some 0) with kind := .array 15 (.object "java/lang/Long"), interfaces := #[19, 2], accessFlags := 1041 }

def heap : Heap := #[{ cls := 7, slots := #[.long 0, .int 1, .null, .int 0, .null, .int 0, .int 0], vm := .statics 7 },
  { cls := 16, slots := #[.ref 3, .null, .int 0], vm := .statics 16 },
  { cls := 17, slots := #[.null, .null, .null], vm := .statics 17 },
  { cls := 26, slots := #[.ref 4, .ref 5, .ref 6, .ref 7, .ref 8, .ref 9, .ref 10, .ref 11, .ref 12, .ref 13, .ref 14, .ref 15, .ref 16, .ref 17, .ref 18, .ref 19, .ref 20, .ref 21, .ref 22, .ref 23, .ref 24, .ref 25, .ref 26, .ref 27, .ref 28, .ref 29, .ref 30, .ref 31, .ref 32, .ref 33, .ref 34, .ref 35, .ref 36, .ref 37, .ref 38, .ref 39, .ref 40, .ref 41, .ref 42, .ref 43, .ref 44, .ref 45, .ref 46, .ref 47, .ref 48, .ref 49, .ref 50, .ref 51, .ref 52, .ref 53, .ref 54, .ref 55, .ref 56, .ref 57, .ref 58, .ref 59, .ref 60, .ref 61, .ref 62, .ref 63, .ref 64, .ref 65, .ref 66, .ref 67, .ref 68, .ref 69, .ref 70, .ref 71, .ref 72, .ref 73, .ref 74, .ref 75, .ref 76, .ref 77, .ref 78, .ref 79, .ref 80, .ref 81, .ref 82, .ref 83, .ref 84, .ref 85, .ref 86, .ref 87, .ref 88, .ref 89, .ref 90, .ref 91, .ref 92, .ref 93, .ref 94, .ref 95, .ref 96, .ref 97, .ref 98, .ref 99, .ref 100, .ref 101, .ref 102, .ref 103, .ref 104, .ref 105, .ref 106, .ref 107, .ref 108, .ref 109, .ref 110, .ref 111, .ref 112, .ref 113, .ref 114, .ref 115, .ref 116, .ref 117, .ref 118, .ref 119, .ref 120, .ref 121, .ref 122, .ref 123, .ref 124, .ref 125, .ref 126, .ref 127, .ref 128, .ref 129, .ref 130, .ref 131, .ref 132, .ref 133, .ref 134, .ref 135, .ref 136, .ref 137, .ref 138, .ref 139, .ref 140, .ref 141, .ref 142, .ref 143, .ref 144, .ref 145, .ref 146, .ref 147, .ref 148, .ref 149, .ref 150, .ref 151, .ref 152, .ref 153, .ref 154, .ref 155, .ref 156, .ref 157, .ref 158, .ref 159, .ref 160, .ref 161, .ref 162, .ref 163, .ref 164, .ref 165, .ref 166, .ref 167, .ref 168, .ref 169, .ref 170, .ref 171, .ref 172, .ref 173, .ref 174, .ref 175, .ref 176, .ref 177, .ref 178, .ref 179, .ref 180, .ref 181, .ref 182, .ref 183, .ref 184, .ref 185, .ref 186, .ref 187, .ref 188, .ref 189, .ref 190, .ref 191, .ref 192, .ref 193, .ref 194, .ref 195, .ref 196, .ref 197, .ref 198, .ref 199, .ref 200, .ref 201, .ref 202, .ref 203, .ref 204, .ref 205, .ref 206, .ref 207, .ref 208, .ref 209, .ref 210, .ref 211, .ref 212, .ref 213, .ref 214, .ref 215, .ref 216, .ref 217, .ref 218, .ref 219, .ref 220, .ref 221, .ref 222, .ref 223, .ref 224, .ref 225, .ref 226, .ref 227, .ref 228, .ref 229, .ref 230, .ref 231, .ref 232, .ref 233, .ref 234, .ref 235, .ref 236, .ref 237, .ref 238, .ref 239, .ref 240, .ref 241, .ref 242, .ref 243, .ref 244, .ref 245, .ref 246, .ref 247, .ref 248, .ref 249, .ref 250, .ref 251, .ref 252, .ref 253, .ref 254, .ref 255, .ref 256, .ref 257, .ref 258, .ref 259], vm := .none },
  { cls := 15, slots := #[.long (-128)], vm := .none },
  { cls := 15, slots := #[.long (-127)], vm := .none },
  { cls := 15, slots := #[.long (-126)], vm := .none },
  { cls := 15, slots := #[.long (-125)], vm := .none },
  { cls := 15, slots := #[.long (-124)], vm := .none },
  { cls := 15, slots := #[.long (-123)], vm := .none },
  { cls := 15, slots := #[.long (-122)], vm := .none },
  { cls := 15, slots := #[.long (-121)], vm := .none },
  { cls := 15, slots := #[.long (-120)], vm := .none },
  { cls := 15, slots := #[.long (-119)], vm := .none },
  { cls := 15, slots := #[.long (-118)], vm := .none },
  { cls := 15, slots := #[.long (-117)], vm := .none },
  { cls := 15, slots := #[.long (-116)], vm := .none },
  { cls := 15, slots := #[.long (-115)], vm := .none },
  { cls := 15, slots := #[.long (-114)], vm := .none },
  { cls := 15, slots := #[.long (-113)], vm := .none },
  { cls := 15, slots := #[.long (-112)], vm := .none },
  { cls := 15, slots := #[.long (-111)], vm := .none },
  { cls := 15, slots := #[.long (-110)], vm := .none },
  { cls := 15, slots := #[.long (-109)], vm := .none },
  { cls := 15, slots := #[.long (-108)], vm := .none },
  { cls := 15, slots := #[.long (-107)], vm := .none },
  { cls := 15, slots := #[.long (-106)], vm := .none },
  { cls := 15, slots := #[.long (-105)], vm := .none },
  { cls := 15, slots := #[.long (-104)], vm := .none },
  { cls := 15, slots := #[.long (-103)], vm := .none },
  { cls := 15, slots := #[.long (-102)], vm := .none },
  { cls := 15, slots := #[.long (-101)], vm := .none },
  { cls := 15, slots := #[.long (-100)], vm := .none },
  { cls := 15, slots := #[.long (-99)], vm := .none },
  { cls := 15, slots := #[.long (-98)], vm := .none },
  { cls := 15, slots := #[.long (-97)], vm := .none },
  { cls := 15, slots := #[.long (-96)], vm := .none },
  { cls := 15, slots := #[.long (-95)], vm := .none },
  { cls := 15, slots := #[.long (-94)], vm := .none },
  { cls := 15, slots := #[.long (-93)], vm := .none },
  { cls := 15, slots := #[.long (-92)], vm := .none },
  { cls := 15, slots := #[.long (-91)], vm := .none },
  { cls := 15, slots := #[.long (-90)], vm := .none },
  { cls := 15, slots := #[.long (-89)], vm := .none },
  { cls := 15, slots := #[.long (-88)], vm := .none },
  { cls := 15, slots := #[.long (-87)], vm := .none },
  { cls := 15, slots := #[.long (-86)], vm := .none },
  { cls := 15, slots := #[.long (-85)], vm := .none },
  { cls := 15, slots := #[.long (-84)], vm := .none },
  { cls := 15, slots := #[.long (-83)], vm := .none },
  { cls := 15, slots := #[.long (-82)], vm := .none },
  { cls := 15, slots := #[.long (-81)], vm := .none },
  { cls := 15, slots := #[.long (-80)], vm := .none },
  { cls := 15, slots := #[.long (-79)], vm := .none },
  { cls := 15, slots := #[.long (-78)], vm := .none },
  { cls := 15, slots := #[.long (-77)], vm := .none },
  { cls := 15, slots := #[.long (-76)], vm := .none },
  { cls := 15, slots := #[.long (-75)], vm := .none },
  { cls := 15, slots := #[.long (-74)], vm := .none },
  { cls := 15, slots := #[.long (-73)], vm := .none },
  { cls := 15, slots := #[.long (-72)], vm := .none },
  { cls := 15, slots := #[.long (-71)], vm := .none },
  { cls := 15, slots := #[.long (-70)], vm := .none },
  { cls := 15, slots := #[.long (-69)], vm := .none },
  { cls := 15, slots := #[.long (-68)], vm := .none },
  { cls := 15, slots := #[.long (-67)], vm := .none },
  { cls := 15, slots := #[.long (-66)], vm := .none },
  { cls := 15, slots := #[.long (-65)], vm := .none },
  { cls := 15, slots := #[.long (-64)], vm := .none },
  { cls := 15, slots := #[.long (-63)], vm := .none },
  { cls := 15, slots := #[.long (-62)], vm := .none },
  { cls := 15, slots := #[.long (-61)], vm := .none },
  { cls := 15, slots := #[.long (-60)], vm := .none },
  { cls := 15, slots := #[.long (-59)], vm := .none },
  { cls := 15, slots := #[.long (-58)], vm := .none },
  { cls := 15, slots := #[.long (-57)], vm := .none },
  { cls := 15, slots := #[.long (-56)], vm := .none },
  { cls := 15, slots := #[.long (-55)], vm := .none },
  { cls := 15, slots := #[.long (-54)], vm := .none },
  { cls := 15, slots := #[.long (-53)], vm := .none },
  { cls := 15, slots := #[.long (-52)], vm := .none },
  { cls := 15, slots := #[.long (-51)], vm := .none },
  { cls := 15, slots := #[.long (-50)], vm := .none },
  { cls := 15, slots := #[.long (-49)], vm := .none },
  { cls := 15, slots := #[.long (-48)], vm := .none },
  { cls := 15, slots := #[.long (-47)], vm := .none },
  { cls := 15, slots := #[.long (-46)], vm := .none },
  { cls := 15, slots := #[.long (-45)], vm := .none },
  { cls := 15, slots := #[.long (-44)], vm := .none },
  { cls := 15, slots := #[.long (-43)], vm := .none },
  { cls := 15, slots := #[.long (-42)], vm := .none },
  { cls := 15, slots := #[.long (-41)], vm := .none },
  { cls := 15, slots := #[.long (-40)], vm := .none },
  { cls := 15, slots := #[.long (-39)], vm := .none },
  { cls := 15, slots := #[.long (-38)], vm := .none },
  { cls := 15, slots := #[.long (-37)], vm := .none },
  { cls := 15, slots := #[.long (-36)], vm := .none },
  { cls := 15, slots := #[.long (-35)], vm := .none },
  { cls := 15, slots := #[.long (-34)], vm := .none },
  { cls := 15, slots := #[.long (-33)], vm := .none },
  { cls := 15, slots := #[.long (-32)], vm := .none },
  { cls := 15, slots := #[.long (-31)], vm := .none },
  { cls := 15, slots := #[.long (-30)], vm := .none },
  { cls := 15, slots := #[.long (-29)], vm := .none },
  { cls := 15, slots := #[.long (-28)], vm := .none },
  { cls := 15, slots := #[.long (-27)], vm := .none },
  { cls := 15, slots := #[.long (-26)], vm := .none },
  { cls := 15, slots := #[.long (-25)], vm := .none },
  { cls := 15, slots := #[.long (-24)], vm := .none },
  { cls := 15, slots := #[.long (-23)], vm := .none },
  { cls := 15, slots := #[.long (-22)], vm := .none },
  { cls := 15, slots := #[.long (-21)], vm := .none },
  { cls := 15, slots := #[.long (-20)], vm := .none },
  { cls := 15, slots := #[.long (-19)], vm := .none },
  { cls := 15, slots := #[.long (-18)], vm := .none },
  { cls := 15, slots := #[.long (-17)], vm := .none },
  { cls := 15, slots := #[.long (-16)], vm := .none },
  { cls := 15, slots := #[.long (-15)], vm := .none },
  { cls := 15, slots := #[.long (-14)], vm := .none },
  { cls := 15, slots := #[.long (-13)], vm := .none },
  { cls := 15, slots := #[.long (-12)], vm := .none },
  { cls := 15, slots := #[.long (-11)], vm := .none },
  { cls := 15, slots := #[.long (-10)], vm := .none },
  { cls := 15, slots := #[.long (-9)], vm := .none },
  { cls := 15, slots := #[.long (-8)], vm := .none },
  { cls := 15, slots := #[.long (-7)], vm := .none },
  { cls := 15, slots := #[.long (-6)], vm := .none },
  { cls := 15, slots := #[.long (-5)], vm := .none },
  { cls := 15, slots := #[.long (-4)], vm := .none },
  { cls := 15, slots := #[.long (-3)], vm := .none },
  { cls := 15, slots := #[.long (-2)], vm := .none },
  { cls := 15, slots := #[.long (-1)], vm := .none },
  { cls := 15, slots := #[.long (0)], vm := .none },
  { cls := 15, slots := #[.long (1)], vm := .none },
  { cls := 15, slots := #[.long (2)], vm := .none },
  { cls := 15, slots := #[.long (3)], vm := .none },
  { cls := 15, slots := #[.long (4)], vm := .none },
  { cls := 15, slots := #[.long (5)], vm := .none },
  { cls := 15, slots := #[.long (6)], vm := .none },
  { cls := 15, slots := #[.long (7)], vm := .none },
  { cls := 15, slots := #[.long (8)], vm := .none },
  { cls := 15, slots := #[.long (9)], vm := .none },
  { cls := 15, slots := #[.long (10)], vm := .none },
  { cls := 15, slots := #[.long (11)], vm := .none },
  { cls := 15, slots := #[.long (12)], vm := .none },
  { cls := 15, slots := #[.long (13)], vm := .none },
  { cls := 15, slots := #[.long (14)], vm := .none },
  { cls := 15, slots := #[.long (15)], vm := .none },
  { cls := 15, slots := #[.long (16)], vm := .none },
  { cls := 15, slots := #[.long (17)], vm := .none },
  { cls := 15, slots := #[.long (18)], vm := .none },
  { cls := 15, slots := #[.long (19)], vm := .none },
  { cls := 15, slots := #[.long (20)], vm := .none },
  { cls := 15, slots := #[.long (21)], vm := .none },
  { cls := 15, slots := #[.long (22)], vm := .none },
  { cls := 15, slots := #[.long (23)], vm := .none },
  { cls := 15, slots := #[.long (24)], vm := .none },
  { cls := 15, slots := #[.long (25)], vm := .none },
  { cls := 15, slots := #[.long (26)], vm := .none },
  { cls := 15, slots := #[.long (27)], vm := .none },
  { cls := 15, slots := #[.long (28)], vm := .none },
  { cls := 15, slots := #[.long (29)], vm := .none },
  { cls := 15, slots := #[.long (30)], vm := .none },
  { cls := 15, slots := #[.long (31)], vm := .none },
  { cls := 15, slots := #[.long (32)], vm := .none },
  { cls := 15, slots := #[.long (33)], vm := .none },
  { cls := 15, slots := #[.long (34)], vm := .none },
  { cls := 15, slots := #[.long (35)], vm := .none },
  { cls := 15, slots := #[.long (36)], vm := .none },
  { cls := 15, slots := #[.long (37)], vm := .none },
  { cls := 15, slots := #[.long (38)], vm := .none },
  { cls := 15, slots := #[.long (39)], vm := .none },
  { cls := 15, slots := #[.long (40)], vm := .none },
  { cls := 15, slots := #[.long (41)], vm := .none },
  { cls := 15, slots := #[.long (42)], vm := .none },
  { cls := 15, slots := #[.long (43)], vm := .none },
  { cls := 15, slots := #[.long (44)], vm := .none },
  { cls := 15, slots := #[.long (45)], vm := .none },
  { cls := 15, slots := #[.long (46)], vm := .none },
  { cls := 15, slots := #[.long (47)], vm := .none },
  { cls := 15, slots := #[.long (48)], vm := .none },
  { cls := 15, slots := #[.long (49)], vm := .none },
  { cls := 15, slots := #[.long (50)], vm := .none },
  { cls := 15, slots := #[.long (51)], vm := .none },
  { cls := 15, slots := #[.long (52)], vm := .none },
  { cls := 15, slots := #[.long (53)], vm := .none },
  { cls := 15, slots := #[.long (54)], vm := .none },
  { cls := 15, slots := #[.long (55)], vm := .none },
  { cls := 15, slots := #[.long (56)], vm := .none },
  { cls := 15, slots := #[.long (57)], vm := .none },
  { cls := 15, slots := #[.long (58)], vm := .none },
  { cls := 15, slots := #[.long (59)], vm := .none },
  { cls := 15, slots := #[.long (60)], vm := .none },
  { cls := 15, slots := #[.long (61)], vm := .none },
  { cls := 15, slots := #[.long (62)], vm := .none },
  { cls := 15, slots := #[.long (63)], vm := .none },
  { cls := 15, slots := #[.long (64)], vm := .none },
  { cls := 15, slots := #[.long (65)], vm := .none },
  { cls := 15, slots := #[.long (66)], vm := .none },
  { cls := 15, slots := #[.long (67)], vm := .none },
  { cls := 15, slots := #[.long (68)], vm := .none },
  { cls := 15, slots := #[.long (69)], vm := .none },
  { cls := 15, slots := #[.long (70)], vm := .none },
  { cls := 15, slots := #[.long (71)], vm := .none },
  { cls := 15, slots := #[.long (72)], vm := .none },
  { cls := 15, slots := #[.long (73)], vm := .none },
  { cls := 15, slots := #[.long (74)], vm := .none },
  { cls := 15, slots := #[.long (75)], vm := .none },
  { cls := 15, slots := #[.long (76)], vm := .none },
  { cls := 15, slots := #[.long (77)], vm := .none },
  { cls := 15, slots := #[.long (78)], vm := .none },
  { cls := 15, slots := #[.long (79)], vm := .none },
  { cls := 15, slots := #[.long (80)], vm := .none },
  { cls := 15, slots := #[.long (81)], vm := .none },
  { cls := 15, slots := #[.long (82)], vm := .none },
  { cls := 15, slots := #[.long (83)], vm := .none },
  { cls := 15, slots := #[.long (84)], vm := .none },
  { cls := 15, slots := #[.long (85)], vm := .none },
  { cls := 15, slots := #[.long (86)], vm := .none },
  { cls := 15, slots := #[.long (87)], vm := .none },
  { cls := 15, slots := #[.long (88)], vm := .none },
  { cls := 15, slots := #[.long (89)], vm := .none },
  { cls := 15, slots := #[.long (90)], vm := .none },
  { cls := 15, slots := #[.long (91)], vm := .none },
  { cls := 15, slots := #[.long (92)], vm := .none },
  { cls := 15, slots := #[.long (93)], vm := .none },
  { cls := 15, slots := #[.long (94)], vm := .none },
  { cls := 15, slots := #[.long (95)], vm := .none },
  { cls := 15, slots := #[.long (96)], vm := .none },
  { cls := 15, slots := #[.long (97)], vm := .none },
  { cls := 15, slots := #[.long (98)], vm := .none },
  { cls := 15, slots := #[.long (99)], vm := .none },
  { cls := 15, slots := #[.long (100)], vm := .none },
  { cls := 15, slots := #[.long (101)], vm := .none },
  { cls := 15, slots := #[.long (102)], vm := .none },
  { cls := 15, slots := #[.long (103)], vm := .none },
  { cls := 15, slots := #[.long (104)], vm := .none },
  { cls := 15, slots := #[.long (105)], vm := .none },
  { cls := 15, slots := #[.long (106)], vm := .none },
  { cls := 15, slots := #[.long (107)], vm := .none },
  { cls := 15, slots := #[.long (108)], vm := .none },
  { cls := 15, slots := #[.long (109)], vm := .none },
  { cls := 15, slots := #[.long (110)], vm := .none },
  { cls := 15, slots := #[.long (111)], vm := .none },
  { cls := 15, slots := #[.long (112)], vm := .none },
  { cls := 15, slots := #[.long (113)], vm := .none },
  { cls := 15, slots := #[.long (114)], vm := .none },
  { cls := 15, slots := #[.long (115)], vm := .none },
  { cls := 15, slots := #[.long (116)], vm := .none },
  { cls := 15, slots := #[.long (117)], vm := .none },
  { cls := 15, slots := #[.long (118)], vm := .none },
  { cls := 15, slots := #[.long (119)], vm := .none },
  { cls := 15, slots := #[.long (120)], vm := .none },
  { cls := 15, slots := #[.long (121)], vm := .none },
  { cls := 15, slots := #[.long (122)], vm := .none },
  { cls := 15, slots := #[.long (123)], vm := .none },
  { cls := 15, slots := #[.long (124)], vm := .none },
  { cls := 15, slots := #[.long (125)], vm := .none },
  { cls := 15, slots := #[.long (126)], vm := .none },
  { cls := 15, slots := #[.long (127)], vm := .none }]
def classes : Array Class := #[k0, k1, k2, k3, k4, k5, k6, k7, k8, k9, k10, k11, k12, k13, k14, k15, k16, k17, k18, k19, k20, k21, k22, k23, k24, k25, k26]
def interned : List (Array UInt16 × Addr) := []
def slotsUsed : Nat := 525
def theMethod : MethodId := ⟨1, 1⟩
def args0 : Array Value := #[.int 5, .long 5, .int 5, .long 5, .int 5, .int 5]
def aboutOver (below : List Frame) : State where
  vm := { classes := classes, interned := interned.toArray }
  heap := heap
  slotsUsed := slotsUsed
  threads := #[{ frames := .invoking theMethod args0 :: below }]
def below0 : List Frame := [.native { method := ⟨0, 0⟩, args := #[] }]
def about1 : State := aboutOver below0
def p0 : Program := .bare "" "" ""
def e0 : Env := launch0.env 0 0 0
theorem w_frames : about1.frames = Frame.invoking theMethod args0 :: below0 := rfl
set_option maxRecDepth 65536 in
theorem w_args : argsFit about1.vm theMethod args0 = true := by decide +kernel
set_option maxRecDepth 65536 in
theorem w_heap : heapFits about1 = true := by decide +kernel
set_option maxRecDepth 65536 in
theorem w_runnable : about1.curStatus? = some .runnable := by decide +kernel
set_option maxRecDepth 65536 in
theorem w_alone : about1.alone = true := by decide +kernel
set_option maxRecDepth 65536 in
theorem w_named : about1.methodNamed? x = some theMethod := by decide +kernel
set_option maxRecDepth 65536 in
theorem w_hears : about1.hears theMethod below0 = true := by decide +kernel
set_option maxRecDepth 65536 in
theorem w_ripe : about1.ripe theMethod args0 below0 = true := by decide +kernel
theorem w_running : about1.status = .running := rfl
set_option maxRecDepth 65536 in
theorem w_room : about1.hasRoom e0.platform room_1 = true :=
  launch0.hasRoom_least _ room_1 (by decide +kernel) (by decide +kernel) (by decide +kernel) (by decide +kernel) (by decide +kernel) (by decide +kernel)
theorem allAtoms_all (ts : List Jvm.Cond) (a : Array Jvm.Value) (st : Jvm.State) : (allAtoms ts).before a st = ts.all (fun c => c.before a st) := by
  induction ts with
  | nil => rfl
  | cons c t ih =>
    show (Jvm.Cond.and c (allAtoms t)).before a st = _
    rw [Jvm.Cond.before_and, ih, List.all_cons]
def words1 : List Jvm.Cond := Jvm.Cond.code x code maxLocals ret :: tables_1
/-- a 'code' word, met by the world's own term for the bytes: nothing is compared byte by byte -/
theorem code_word {y : MethodName} {bytes : ByteArray} {mx : Nat} {rt : Option FieldType} {a : Array Value} {s : State} {m : MethodId} {meth : Method} {c : Code} (h1 : s.methodNamed? y = some m) (h2 : s.vm.method? m = some meth) (h3 : meth.code = some c) (h4 : c.code = bytes)
    (h5 : (c.maxLocals == mx && c.exceptionTable.isEmpty && decide (c.maxStack ≤ mostOperands) && decide (meth.sig.returnType = rt) && !meth.locks && decide (parseMethodDescriptor y.desc = some meth.sig)) = true) : (Jvm.Cond.code y bytes mx rt).before a s = true := by
  simp only [Bool.and_eq_true, beq_iff_eq, Bool.not_eq_true', decide_eq_true_eq] at h5
  obtain ⟨⟨⟨⟨⟨g1, g2⟩, g3⟩, g4⟩, g5⟩, g6⟩ := h5
  simp [Cond.before, Cond.holds, Cond.value, h1, h2, h3, h4, g1, g2, g3, g4, g5, g6]
def isCode : Jvm.Cond → Bool
  | .code _ _ _ _ => true
  | _ => false
theorem all_split {L : List Jvm.Cond} {P : Jvm.Cond → Bool} (h1 : L.all (fun c => isCode c || P c) = true) (h2 : ∀ c ∈ L.filter isCode, P c = true) : L.all P = true := by
  refine List.all_eq_true.mpr fun c hc => ?_
  have h := List.all_eq_true.mp h1 c hc
  rcases Bool.eq_false_or_eq_true (isCode c) with hi | hi
  · exact h2 c (List.mem_filter.mpr ⟨hc, hi⟩)
  · simpa [hi] using h
set_option maxRecDepth 65536 in
theorem w_c0 : (Jvm.Cond.code x code maxLocals ret).before args0 about1 = true := code_word (m := ⟨1, 1⟩) (meth := k1m1) (c := k1c1) (by decide +kernel) rfl rfl rfl (by decide +kernel)
set_option maxRecDepth 65536 in
theorem w_c1 : (Jvm.Cond.code ({ cls := "java/lang/String", name := "<init>", desc := "([C)V" } : Jvm.MethodName) jdk_42_method_3_code (2 : Nat) (Option.none : Option Jvm.ClassFile.FieldType)).before args0 about1 = true := code_word (m := ⟨7, 1⟩) (meth := k7m1) (c := k7c1) (by decide +kernel) rfl rfl rfl (by decide +kernel)
set_option maxRecDepth 65536 in
theorem w_c2 : (Jvm.Cond.code ({ cls := "java/lang/String", name := "<init>", desc := "([CIILjava/lang/Void;)V" } : Jvm.MethodName) jdk_42_method_149_code (6 : Nat) (Option.none : Option Jvm.ClassFile.FieldType)).before args0 about1 = true := code_word (m := ⟨7, 3⟩) (meth := k7m3) (c := k7c3) (by decide +kernel) rfl rfl rfl (by decide +kernel)
set_option maxRecDepth 65536 in
theorem w_c3 : (Jvm.Cond.code ({ cls := "java/lang/Object", name := "<init>", desc := "()V" } : Jvm.MethodName) object_method_1_code (1 : Nat) (Option.none : Option Jvm.ClassFile.FieldType)).before args0 about1 = true := code_word (m := ⟨0, 0⟩) (meth := k0m0) (c := k0c0) (by decide +kernel) rfl rfl rfl (by decide +kernel)
set_option maxRecDepth 65536 in
theorem w_c4 : (Jvm.Cond.code ({ cls := "java/lang/StringUTF16", name := "compress", desc := "([CII)[B" } : Jvm.MethodName) jdk_52_method_16_code (6 : Nat) (Option.some (Jvm.ClassFile.FieldType.array Jvm.ClassFile.FieldType.byte))).before args0 about1 = true := code_word (m := ⟨8, 2⟩) (meth := k8m2) (c := k8c2) (by decide +kernel) rfl rfl rfl (by decide +kernel)
set_option maxRecDepth 65536 in
theorem w_c5 : (Jvm.Cond.code ({ cls := "java/lang/StringUTF16", name := "compress", desc := "([CI[BII)I" } : Jvm.MethodName) jdk_52_method_21_code (7 : Nat) (Option.some Jvm.ClassFile.FieldType.int)).before args0 about1 = true := code_word (m := ⟨8, 3⟩) (meth := k8m3) (c := k8c3) (by decide +kernel) rfl rfl rfl (by decide +kernel)
set_option maxRecDepth 65536 in
theorem w_c6 : (Jvm.Cond.code ({ cls := "java/lang/StringUTF16", name := "coderFromArrayLen", desc := "([BI)B" } : Jvm.MethodName) jdk_52_method_15_code (2 : Nat) (Option.some Jvm.ClassFile.FieldType.byte)).before args0 about1 = true := code_word (m := ⟨8, 1⟩) (meth := k8m1) (c := k8c1) (by decide +kernel) rfl rfl rfl (by decide +kernel)
set_option maxRecDepth 65536 in
theorem w_c7 : (Jvm.Cond.code ({ cls := "java/lang/String", name := "valueOf", desc := "(C)Ljava/lang/String;" } : Jvm.MethodName) jdk_42_method_139_code (1 : Nat) (Option.some (Jvm.ClassFile.FieldType.object "java/lang/String"))).before args0 about1 = true := code_word (m := ⟨7, 2⟩) (meth := k7m2) (c := k7c2) (by decide +kernel) rfl rfl rfl (by decide +kernel)
set_option maxRecDepth 65536 in
theorem w_c8 : (Jvm.Cond.code ({ cls := "java/lang/StringLatin1", name := "canEncode", desc := "(C)Z" } : Jvm.MethodName) jdk_43_method_3_code (1 : Nat) (Option.some Jvm.ClassFile.FieldType.boolean)).before args0 about1 = true := code_word (m := ⟨9, 1⟩) (meth := k9m1) (c := k9c1) (by decide +kernel) rfl rfl rfl (by decide +kernel)
set_option maxRecDepth 65536 in
theorem w_c9 : (Jvm.Cond.code ({ cls := "java/lang/StringLatin1", name := "toBytes", desc := "(C)[B" } : Jvm.MethodName) jdk_43_method_46_code (1 : Nat) (Option.some (Jvm.ClassFile.FieldType.array Jvm.ClassFile.FieldType.byte))).before args0 about1 = true := code_word (m := ⟨9, 2⟩) (meth := k9m2) (c := k9c2) (by decide +kernel) rfl rfl rfl (by decide +kernel)
set_option maxRecDepth 65536 in
theorem w_c10 : (Jvm.Cond.code ({ cls := "java/lang/String", name := "<init>", desc := "([BB)V" } : Jvm.MethodName) jdk_42_method_151_code (3 : Nat) (Option.none : Option Jvm.ClassFile.FieldType)).before args0 about1 = true := code_word (m := ⟨7, 4⟩) (meth := k7m4) (c := k7c4) (by decide +kernel) rfl rfl rfl (by decide +kernel)
set_option maxRecDepth 65536 in
theorem w_c11 : (Jvm.Cond.code ({ cls := "com/example/warpcheck/warpcheck/Term$Input", name := "<init>", desc := "(IJLjava/lang/String;)V" } : Jvm.MethodName) prog_183_method_2_code (5 : Nat) (Option.none : Option Jvm.ClassFile.FieldType)).before args0 about1 = true := code_word (m := ⟨13, 0⟩) (meth := k13m0) (c := k13c0) (by decide +kernel) rfl rfl rfl (by decide +kernel)
set_option maxRecDepth 65536 in
theorem w_c12 : (Jvm.Cond.code ({ cls := "java/lang/Record", name := "<init>", desc := "()V" } : Jvm.MethodName) jdk_30_method_1_code (1 : Nat) (Option.none : Option Jvm.ClassFile.FieldType)).before args0 about1 = true := code_word (m := ⟨10, 0⟩) (meth := k10m0) (c := k10c0) (by decide +kernel) rfl rfl rfl (by decide +kernel)
set_option maxRecDepth 65536 in
theorem w_c13 : (Jvm.Cond.code ({ cls := "com/example/warpcheck/warpcheck/Term$Input", name := "equals", desc := "(Ljava/lang/Object;)Z" } : Jvm.MethodName) prog_183_method_4_code (3 : Nat) (Option.some Jvm.ClassFile.FieldType.boolean)).before args0 about1 = true := code_word (m := ⟨13, 1⟩) (meth := k13m1) (c := k13c1) (by decide +kernel) rfl rfl rfl (by decide +kernel)
set_option maxRecDepth 65536 in
theorem w_c14 : (Jvm.Cond.code ({ cls := "java/lang/Long", name := "valueOf", desc := "(J)Ljava/lang/Long;" } : Jvm.MethodName) jdk_35_method_24_code (3 : Nat) (Option.some (Jvm.ClassFile.FieldType.object "java/lang/Long"))).before args0 about1 = true := code_word (m := ⟨15, 0⟩) (meth := k15m0) (c := k15c0) (by decide +kernel) rfl rfl rfl (by decide +kernel)
set_option maxRecDepth 65536 in
theorem w_c15 : (Jvm.Cond.code ({ cls := "com/example/warpcheck/warpcheck/Term$Input", name := "hashCode", desc := "()I" } : Jvm.MethodName) prog_183_method_5_code (3 : Nat) (Option.some Jvm.ClassFile.FieldType.int)).before args0 about1 = true := code_word (m := ⟨13, 2⟩) (meth := k13m2) (c := k13c2) (by decide +kernel) rfl rfl rfl (by decide +kernel)
set_option maxRecDepth 65536 in
theorem w_c16 : (Jvm.Cond.code ({ cls := "java/lang/Long", name := "<init>", desc := "(J)V" } : Jvm.MethodName) jdk_35_method_26_code (3 : Nat) (Option.none : Option Jvm.ClassFile.FieldType)).before args0 about1 = true := code_word (m := ⟨15, 1⟩) (meth := k15m1) (c := k15c1) (by decide +kernel) rfl rfl rfl (by decide +kernel)
set_option maxRecDepth 65536 in
theorem w_c17 : (Jvm.Cond.code ({ cls := "java/lang/Number", name := "<init>", desc := "()V" } : Jvm.MethodName) jdk_18_method_1_code (1 : Nat) (Option.none : Option Jvm.ClassFile.FieldType)).before args0 about1 = true := code_word (m := ⟨14, 0⟩) (meth := k14m0) (c := k14c0) (by decide +kernel) rfl rfl rfl (by decide +kernel)
def codes1 : List Jvm.Cond := [Jvm.Cond.code x code maxLocals ret, Jvm.Cond.code ({ cls := "java/lang/String", name := "<init>", desc := "([C)V" } : Jvm.MethodName) jdk_42_method_3_code (2 : Nat) (Option.none : Option Jvm.ClassFile.FieldType), Jvm.Cond.code ({ cls := "java/lang/String", name := "<init>", desc := "([CIILjava/lang/Void;)V" } : Jvm.MethodName) jdk_42_method_149_code (6 : Nat) (Option.none : Option Jvm.ClassFile.FieldType), Jvm.Cond.code ({ cls := "java/lang/Object", name := "<init>", desc := "()V" } : Jvm.MethodName) object_method_1_code (1 : Nat) (Option.none : Option Jvm.ClassFile.FieldType), Jvm.Cond.code ({ cls := "java/lang/StringUTF16", name := "compress", desc := "([CII)[B" } : Jvm.MethodName) jdk_52_method_16_code (6 : Nat) (Option.some (Jvm.ClassFile.FieldType.array Jvm.ClassFile.FieldType.byte)), Jvm.Cond.code ({ cls := "java/lang/StringUTF16", name := "compress", desc := "([CI[BII)I" } : Jvm.MethodName) jdk_52_method_21_code (7 : Nat) (Option.some Jvm.ClassFile.FieldType.int), Jvm.Cond.code ({ cls := "java/lang/StringUTF16", name := "coderFromArrayLen", desc := "([BI)B" } : Jvm.MethodName) jdk_52_method_15_code (2 : Nat) (Option.some Jvm.ClassFile.FieldType.byte), Jvm.Cond.code ({ cls := "java/lang/String", name := "valueOf", desc := "(C)Ljava/lang/String;" } : Jvm.MethodName) jdk_42_method_139_code (1 : Nat) (Option.some (Jvm.ClassFile.FieldType.object "java/lang/String")), Jvm.Cond.code ({ cls := "java/lang/StringLatin1", name := "canEncode", desc := "(C)Z" } : Jvm.MethodName) jdk_43_method_3_code (1 : Nat) (Option.some Jvm.ClassFile.FieldType.boolean), Jvm.Cond.code ({ cls := "java/lang/StringLatin1", name := "toBytes", desc := "(C)[B" } : Jvm.MethodName) jdk_43_method_46_code (1 : Nat) (Option.some (Jvm.ClassFile.FieldType.array Jvm.ClassFile.FieldType.byte)), Jvm.Cond.code ({ cls := "java/lang/String", name := "<init>", desc := "([BB)V" } : Jvm.MethodName) jdk_42_method_151_code (3 : Nat) (Option.none : Option Jvm.ClassFile.FieldType), Jvm.Cond.code ({ cls := "com/example/warpcheck/warpcheck/Term$Input", name := "<init>", desc := "(IJLjava/lang/String;)V" } : Jvm.MethodName) prog_183_method_2_code (5 : Nat) (Option.none : Option Jvm.ClassFile.FieldType), Jvm.Cond.code ({ cls := "java/lang/Record", name := "<init>", desc := "()V" } : Jvm.MethodName) jdk_30_method_1_code (1 : Nat) (Option.none : Option Jvm.ClassFile.FieldType), Jvm.Cond.code ({ cls := "com/example/warpcheck/warpcheck/Term$Input", name := "equals", desc := "(Ljava/lang/Object;)Z" } : Jvm.MethodName) prog_183_method_4_code (3 : Nat) (Option.some Jvm.ClassFile.FieldType.boolean), Jvm.Cond.code ({ cls := "java/lang/Long", name := "valueOf", desc := "(J)Ljava/lang/Long;" } : Jvm.MethodName) jdk_35_method_24_code (3 : Nat) (Option.some (Jvm.ClassFile.FieldType.object "java/lang/Long")), Jvm.Cond.code ({ cls := "com/example/warpcheck/warpcheck/Term$Input", name := "hashCode", desc := "()I" } : Jvm.MethodName) prog_183_method_5_code (3 : Nat) (Option.some Jvm.ClassFile.FieldType.int), Jvm.Cond.code ({ cls := "java/lang/Long", name := "<init>", desc := "(J)V" } : Jvm.MethodName) jdk_35_method_26_code (3 : Nat) (Option.none : Option Jvm.ClassFile.FieldType), Jvm.Cond.code ({ cls := "java/lang/Number", name := "<init>", desc := "()V" } : Jvm.MethodName) jdk_18_method_1_code (1 : Nat) (Option.none : Option Jvm.ClassFile.FieldType)]
set_option maxRecDepth 65536 in
theorem codes_eq : words1.filter isCode = codes1 := rfl
theorem w_codes : ∀ c ∈ words1.filter isCode, c.before args0 about1 = true := by
  rw [codes_eq]
  intro c hc
  simp only [codes1, List.mem_cons, List.not_mem_nil, or_false] at hc
  rcases hc with rfl | rfl | rfl | rfl | rfl | rfl | rfl | rfl | rfl | rfl | rfl | rfl | rfl | rfl | rfl | rfl | rfl | rfl
  · exact w_c0
  · exact w_c1
  · exact w_c2
  · exact w_c3
  · exact w_c4
  · exact w_c5
  · exact w_c6
  · exact w_c7
  · exact w_c8
  · exact w_c9
  · exact w_c10
  · exact w_c11
  · exact w_c12
  · exact w_c13
  · exact w_c14
  · exact w_c15
  · exact w_c16
  · exact w_c17
set_option maxRecDepth 65536 in
theorem w_t1 : (words1.take 24).all (fun c => isCode c || c.before args0 about1) = true := by decide +kernel
set_option maxRecDepth 65536 in
theorem w_t2 : ((words1.drop 24).take 24).all (fun c => isCode c || c.before args0 about1) = true := by decide +kernel
set_option maxRecDepth 65536 in
theorem w_t3 : (((words1.drop 24).drop 24).take 24).all (fun c => isCode c || c.before args0 about1) = true := by decide +kernel
set_option maxRecDepth 65536 in
theorem w_t4 : ((((words1.drop 24).drop 24).drop 24).take 24).all (fun c => isCode c || c.before args0 about1) = true := by decide +kernel
set_option maxRecDepth 65536 in
theorem w_t5 : ((((words1.drop 24).drop 24).drop 24).drop 24).all (fun c => isCode c || c.before args0 about1) = true := by decide +kernel
theorem w_tables : (allAtoms (Jvm.Cond.code x code maxLocals ret :: tables_1)).before args0 about1 = true := by
  rw [allAtoms_all]
  show words1.all (fun c => c.before args0 about1) = true
  refine all_split ?_ w_codes
  rw [← List.take_append_drop 24 words1, List.all_append, w_t1, ← List.take_append_drop 24 (words1.drop 24), List.all_append, w_t2, ← List.take_append_drop 24 ((words1.drop 24).drop 24), List.all_append, w_t3, ← List.take_append_drop 24 (((words1.drop 24).drop 24).drop 24), List.all_append, w_t4, w_t5]
  rfl
set_option maxRecDepth 65536 in
theorem w_rest : rest_1_c.before args0 about1 = true := by decide +kernel
set_option maxRecDepth 65536 in
theorem w_case : (Jvm.Cond.and given_1 narrow_1).before args0 about1 = true := by decide +kernel
theorem w_applies : (headSpec (Jvm.Cond.code x code maxLocals ret :: tables_1) room_1).applies x e0.platform about1 = true :=
  (Spec.applies_iff w_frames).mpr ⟨w_running, w_runnable, w_alone, w_named, w_hears, w_ripe, w_room, w_tables⟩
theorem atStart : AtStart classFile x code maxLocals ret World_1 tables_1 room_1 Calls_1 rest_1 Pre_1 launch0 p0 e0 about1 theMethod args0 below0 :=
  ⟨lists_1, trivial, launch0.admits_env _ _ _, launch0.least_env, fairChoices_fair.cas, fairChoices_fair.clock, w_frames, w_args, w_heap, w_applies, trivial, w_rest, w_case⟩
end start1
theorem witness_1 : WitnessClaimed_1 := ⟨start1.p0, start1.e0, start1.about1, start1.theMethod, start1.args0, start1.below0, start1.atStart⟩
end Jvm.Pilot.@@N@@
