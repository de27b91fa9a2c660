import JvmDerived
import JvmDerived.Pilot.@@N@@Statement
import JvmDerived.Pilot.@@N@@Code
set_option linter.unusedVariables false
set_option linter.unusedSimpArgs false
@@BLOCK:NumsL.lean.txt@@
namespace Jvm.RoadKit
open Sem ClassFile Op Lib Jvm.Stand Jvm.Free Jvm.LawKit
section New
variable {p : Program} {l : Launch} {e : Env} {R : Room} {s : State} {m : MethodId} {args : Array Value} {below : List Frame} {meth : Method} {c : Code} {T : State} {locs : List Loc} {cells slots : Nat}
theorem retI (X : Stand p l e R s m args below meth c T locs cells slots) (hx : p.tables.exec = Jvm.exec) {pc : Nat} {Ls : Array Slot} {z : Int32} {rest : List Value} (hret : meth.sig.returnType = some .int) (hd : decode c.code pc = .ok (.ireturn, 1)) {fs : List Frame}
    (hl : ∀ (f : JFrame) (acts : List Action), f.method = m → f.locked = none → f.entered = [] → (doReturn e (T.setTop f) acts (some (.int z))).1 = T.setFrames fs) : Steps p.tables e below (T.setTop (mkF m pc Ls (.int z :: rest))) (T.setFrames fs) := by
  have hm' : T.vm.method? m = some meth := X.method'
  have hn : narrow .int (.int z) = .int z := rfl
  show Steps p.tables e below (T.setTop { method := m, pc := pc, locals := Ls, stack := _ :: rest, locked := none }) _
  jvm_step X.here [X.here.top, hx, hd, hm', hret, hn]
  first | (intro acts; rw [hl _ acts rfl rfl rfl]) | rw [hl _ _ rfl rfl rfl]
  exact Steps.refl _
/-- the walk's goal, at any point of it -/
def Gl (p : Program) (e : Env) (below : List Frame) (s : State) (Q : Option Value → Heap → List Loc → Prop) (C N : Nat) (T : State) (g : JFrame) : Prop :=
  ∃ s₂ o, Steps p.tables e below (T.setTop g) s₂ ∧ s₂.status = .running ∧ Ended s₂ below o ∧ ∃ v L, o = .returned v ∧ Q v s₂.heap L ∧ FrameEnd s o s₂ L C N
variable {Q : Option Value → Heap → List Loc → Prop} {C N : Nat} {T' : State} {g g' : JFrame} {h : Heap}
theorem Gl.st (f : ∀ t, Steps p.tables e below (T'.setTop g') t → Steps p.tables e below (T.setTop g) t) (k : Gl p e below s Q C N T' g') : Gl p e below s Q C N T g := by
  obtain ⟨s₂, o, h1, r⟩ := k
  exact ⟨s₂, o, f _ h1, r⟩
theorem Gl.ret (X : Stand p l e R s m args below meth c T locs cells slots) (hlk : meth.locks = false) {v : Option Value} (hv : meth.sig.returnType = none → v = none) (eT : T.heap = h)
    (f : ∀ fs, (∀ (f : JFrame) (acts : List Action), f.method = m → f.locked = none → f.entered = [] → (doReturn e (T.setTop f) acts v).1 = T.setFrames fs) → Steps p.tables e below (T.setTop g) (T.setFrames fs)) (hc : cells ≤ C) (hn : slots ≤ N) (hQ : Q v h locs) : Gl p e below s Q C N T g := by
  obtain ⟨fs, hr, hrun, hended, hW, hsame⟩ := X.leave (v := v) hv hlk
  exact ⟨_, _, f fs hr, hrun, hended, _, _, rfl, by show Q v T.heap _; rw [eT]; exact hQ, ⟨_, rfl⟩, hW, hsame.mono hc hn⟩
theorem Arv.cellX {Z : State} {h : Heap} {a : Addr} {k : ClassId} {ty : FieldType} {z : Int32} {vs : List Value} {dv : Value} (F : Arv Z h a k ty z vs dv) : ∃ c : Cell, h[a]? = some c ∧ ∀ q, c.vm ≠ .statics q := by
  obtain ⟨c, A, -⟩ := F; exact ⟨c, A.1, A.2.1.1⟩
theorem selPrivate {s : State} {args : Array Value} {y z : MethodName} (hzy : z.cls = y.cls) (hsel : (Cond.selects z.cls z z).before args s = true) (hpriv : s.PrivateAt y) (hinst : (Cond.instanceMethod y).before args s = true) (hy : y.cls ≠ "java/lang/invoke/MethodHandle" ∧ y.cls ≠ "java/lang/invoke/VarHandle") : (Cond.selects y.cls y y).before args s = true := by
  obtain ⟨c2, r2, m2, -, -, q3, -, kP, hkP, hkPi⟩ := Cond.selects_spec hsel
  exact selects_self_of_private (by rw [← hzy]; exact findClass_of_methodNamed q3) hkP hkPi hpriv hinst hy
theorem Sta.keepX {Z : State} {h h' : Heap} {C n d : String} {v : Value} {ws : List Addr} (F : Sta Z h C n d v) (K : Keep h h' ws) (q : ∀ x ∈ ws, ∃ c : Cell, h[x]? = some c ∧ ∀ q, c.vm ≠ .statics q) : Sta Z h' C n d v := by
  obtain ⟨cf, i, k, f, st, cell, h1, h2, h3, h4, h5, h6, h7⟩ := F
  refine ⟨cf, i, k, f, st, cell, h1, h2, h3, h4, K.2.1 st cell h5 fun z => ?_, h6, h7⟩
  obtain ⟨c, e1, e2⟩ := q st z
  cases h5.symm.trans e1
  cases hv : cell.vm <;> simp [hv, VmData.isStatics] at h6
  exact e2 _ hv
end New
end Jvm.RoadKit
namespace Jvm.Pilot.@@N@@
open Jvm Jvm.ClassFile Sem Op Lib Jvm.Free Jvm.Stand Jvm.LawKit Jvm.RoadKit Bundle Jvm.Pilot.@@N@@.Jvm.D

theorem own_upd (vs : List Value) (j : Nat) (v dv : Value) : ∃ vs' : List Value, ∀ i, vs'.getD i dv = if i = j then v else vs.getD i dv := by
  refine ⟨(vs ++ List.replicate (j + 1) dv).set j v, fun i => ?_⟩
  rw [List.getD_eq_getElem?_getD, List.getElem?_set]
  by_cases e : j = i
  · subst e
    have hl : j < (vs ++ List.replicate (j + 1) dv).length := by rw [List.length_append, List.length_replicate]; omega
    simp only [if_true, hl, Option.getD_some]
  · have e' : ¬ i = j := fun h => e h.symm
    rw [if_neg e, if_neg e', ← List.getD_eq_getElem?_getD]; exact pad_rep vs dv (j + 1) i
theorem own_set {Z : State} {h h' : Heap} {a : Addr} {c : Cell} {ty : FieldType} {k : ClassId} {z : Int32} {vs vs' : List Value} {dv v : Value} {j : Nat} (A : Arr Z h a c ty) (q1 : c.cls = k) (S : c.slots.size = z.toNatClampNeg) (q3 : ¬ z < 0) (H : Has c vs dv) (G : ∀ i, i < c.slots.size → fits ty (vs.getD i dv) = true) (hv : fits ty v = true) (W : Wr h h' a j v)
    (e : ∀ i, vs'.getD i dv = if i = j then v else vs.getD i dv) : Arv Z h' a k ty z vs' dv := by
  refine ⟨c.setSlot j v, A.same W, q1, by rw [sz_set]; exact S, q3, fun i hi => ?_, fun i hi => ?_⟩
  · rw [sz_set] at hi
    rw [e]
    show (c.slots.setIfInBounds j v)[i]? = _
    rw [Array.getElem?_setIfInBounds]
    by_cases q : j = i
    · subst q; simp [hi]
    · rw [if_neg q, if_neg (fun h => q h.symm)]; exact H i hi
  · rw [sz_set] at hi
    rw [e]
    by_cases q : i = j
    · rw [if_pos q]; exact hv
    · rw [if_neg q]; exact G i hi
theorem own_four (x : Int32) : (x &&& (3 : Int32)) = (0 : Int32) ∨ (x &&& (3 : Int32)) = (1 : Int32) ∨ (x &&& (3 : Int32)) = (2 : Int32) ∨ (x &&& (3 : Int32)) = (3 : Int32) := by
  have h := c_mask x 3 2 (by decide) (by decide)
  simp only [← Int32.toInt_inj, show (0 : Int32).toInt = 0 from rfl, show (1 : Int32).toInt = 1 from rfl, show (2 : Int32).toInt = 2 from rfl, show (3 : Int32).toInt = 3 from rfl]
  omega
def own_u (x : Int32) : Nat := x.toBitVec.toNat
def own_sb (B : Nat) : Int32 := (Int32.ofNat B).toInt8.toInt32
def own_byte (M i : Nat) : Nat := (M / 2 ^ (16 - 8 * i)) % 256
def own_by (M i : Nat) : Int32 := own_sb (own_byte M i)
def own_vs (M : Nat) : List Value := [.int (own_by M 0), .int (own_by M 1), .int (own_by M 2)]
theorem own_vs_at {M i : Nat} (h : i < 3) : (own_vs M).getD i (.int (0 : Int32)) = .int (own_by M i) := by
  match i, h with
  | 0, _ => rfl
  | 1, _ => rfl
  | 2, _ => rfl
theorem own_vs_ge {M i : Nat} (h : 3 ≤ i) : (own_vs M).getD i (.int (0 : Int32)) = .int (0 : Int32) := by
  match i, h with
  | n + 3, _ => rfl
theorem own_vs0 : ∀ i, (own_vs 0).getD i (.int (0 : Int32)) = ([] : List Value).getD i (.int (0 : Int32))
  | 0 => by decide
  | 1 => by decide
  | 2 => by decide
  | n + 3 => rfl
def own_orT (B e : Nat) : Bool := !(B % 2 ^ (8 - e) == 0) || (nar .byte ((own_sb B ||| ((((128 : Int32).toUInt32 >>> ((Int32.ofNat e) &&& 31).toUInt32).toInt32).toInt8.toInt32)).toInt8.toInt32) == own_sb (B + 2 ^ (7 - e)))
theorem own_orA : (List.range 256).all (fun B => (List.range 8).all (fun e => own_orT B e)) = true := by decide +kernel
theorem own_orF {B e : Nat} (hB : B < 256) (he : e < 8) (h : B % 2 ^ (8 - e) = 0) : nar .byte ((own_sb B ||| ((((128 : Int32).toUInt32 >>> ((Int32.ofNat e) &&& 31).toUInt32).toInt32).toInt8.toInt32)).toInt8.toInt32) = own_sb (B + 2 ^ (7 - e)) := by
  have q := List.all_eq_true.mp (List.all_eq_true.mp own_orA B (List.mem_range.mpr hB)) e (List.mem_range.mpr he)
  unfold own_orT at q
  rw [h] at q
  simpa using q
theorem own_step {M len : Nat} (h : len < 24) (hM : M < 16777216) (hz : M % 2 ^ (24 - len) = 0) :
    M + 2 ^ (23 - len) < 16777216 ∧ (M + 2 ^ (23 - len)) % 2 ^ (23 - len) = 0 ∧ M % 2 ^ (23 - len) = 0 ∧ own_byte M (len / 8) % 2 ^ (8 - len % 8) = 0 ∧ own_byte (M + 2 ^ (23 - len)) (len / 8) = own_byte M (len / 8) + 2 ^ (7 - len % 8) ∧
      (len / 8 = 0 ∨ own_byte (M + 2 ^ (23 - len)) 0 = own_byte M 0) ∧ (len / 8 = 1 ∨ own_byte (M + 2 ^ (23 - len)) 1 = own_byte M 1) ∧ (len / 8 = 2 ∨ own_byte (M + 2 ^ (23 - len)) 2 = own_byte M 2) := by
  have hl : len = 0 ∨ len = 1 ∨ len = 2 ∨ len = 3 ∨ len = 4 ∨ len = 5 ∨ len = 6 ∨ len = 7 ∨ len = 8 ∨ len = 9 ∨ len = 10 ∨ len = 11 ∨ len = 12 ∨ len = 13 ∨ len = 14 ∨ len = 15 ∨ len = 16 ∨ len = 17 ∨ len = 18 ∨ len = 19 ∨ len = 20 ∨ len = 21 ∨ len = 22 ∨ len = 23 := by omega
  rcases hl with rfl | rfl | rfl | rfl | rfl | rfl | rfl | rfl | rfl | rfl | rfl | rfl | rfl | rfl | rfl | rfl | rfl | rfl | rfl | rfl | rfl | rfl | rfl | rfl <;>
    (simp only [Nat.reduceSub, Nat.reducePow] at hz) <;> refine ⟨?_, ?_, ?_, ?_, ?_, ?_, ?_, ?_⟩ <;> first
      | exact Or.inl rfl
      | (refine Or.inr ?_; simp only [own_byte, Nat.reduceSub, Nat.reducePow, Nat.reduceMul, Nat.reduceDiv, Nat.reduceMod]; omega)
      | (simp only [own_byte, Nat.reduceSub, Nat.reducePow, Nat.reduceMul, Nat.reduceDiv, Nat.reduceMod]; omega)
theorem own_acc {u r len M : Nat} (h : len + r + 1 ≤ 24) : M + (u % 2 ^ (r + 1)) * 2 ^ (24 - len - (r + 1)) = (M + (u / 2 ^ r % 2) * 2 ^ (23 - len)) + (u % 2 ^ r) * 2 ^ (24 - (len + 1) - r) := by
  have e1 : u % 2 ^ (r + 1) = u % 2 ^ r + 2 ^ r * (u / 2 ^ r % 2) := by rw [Nat.pow_succ, Nat.mod_mul]
  have e2 : 24 - (len + 1) - r = 24 - len - (r + 1) := by omega
  have e3 : 2 ^ (23 - len) = 2 ^ r * 2 ^ (24 - len - (r + 1)) := by rw [← Nat.pow_add]; congr 1; omega
  rw [e1, e2, e3]
  generalize u / 2 ^ r % 2 = B
  generalize u % 2 ^ r = X
  generalize 2 ^ (24 - len - (r + 1)) = P
  generalize 2 ^ r = A
  rw [Nat.add_mul, Nat.mul_comm A B, Nat.mul_assoc]
  omega
theorem own_uI (x : Int32) : x.toInt % 4294967296 = (own_u x : Int) := by
  show x.toBitVec.toInt % _ = (x.toBitVec.toNat : Int)
  have := x.toBitVec.isLt
  rw [BitVec.toInt_eq_toNat_cond]; split <;> omega
theorem own_small {q : Int32} {k : Nat} (h : q.toInt = k) (hk : k < 2147483648) : q.toBitVec.toNat = k := by
  change q.toBitVec.toInt = _ at h
  have := q.toBitVec.isLt
  rw [BitVec.toInt_eq_toNat_cond] at h; split at h <;> omega
theorem own_bit {v iv : Int32} {r : Nat} (h : iv.toInt = r) (hr : r < 32) : (((v.toUInt32 >>> (iv &&& 31).toUInt32).toInt32) &&& (1 : Int32)).toInt = ((own_u v / 2 ^ r % 2 : Nat) : Int) := by
  have hk : iv.toBitVec.toNat % 32 = r := by rw [own_small h (by omega)]; omega
  rw [c_mask _ 1 1 (by decide) (by decide)]
  by_cases z : r = 0
  · subst z
    have e : iv = 0 := Int32.toInt_inj.mp (by rw [h]; rfl)
    subst e
    have e2 : ((v.toUInt32 >>> ((0 : Int32) &&& 31).toUInt32).toInt32) = v := by
      apply Int32.toBitVec_inj.mp
      show v.toBitVec >>> (0 : Nat) = v.toBitVec
      rfl
    rw [e2]
    have := own_uI v
    simp only [Nat.pow_zero, Nat.div_one]
    omega
  · rw [c_iushr v iv r hk (by omega), own_uI]
    simp
theorem own_bit0 {v iv : Int32} {r : Nat} (h : iv.toInt = r) (hr : r < 32) (q : (((v.toUInt32 >>> (iv &&& 31).toUInt32).toInt32) &&& (1 : Int32)) = (0 : Int32)) : own_u v / 2 ^ r % 2 = 0 := by
  have e := own_bit (v := v) h hr
  rw [q] at e
  have : (0 : Int32).toInt = 0 := rfl
  omega
theorem own_bit1 {v iv : Int32} {r : Nat} (h : iv.toInt = r) (hr : r < 32) (q : ¬ (((v.toUInt32 >>> (iv &&& 31).toUInt32).toInt32) &&& (1 : Int32)) = (0 : Int32)) : own_u v / 2 ^ r % 2 = 1 := by
  have e := own_bit (v := v) h hr
  have n : (((v.toUInt32 >>> (iv &&& 31).toUInt32).toInt32) &&& (1 : Int32)).toInt ≠ 0 := fun z => q (Int32.toInt_inj.mp z)
  have : own_u v / 2 ^ r % 2 < 2 := Nat.mod_lt _ (by decide)
  omega
theorem own_idx {lv : Int32} {len : Nat} (h : lv.toInt = len) : (((lv.toUInt32 >>> ((3 : Int32) &&& 31).toUInt32).toInt32)).toInt = ((len / 8 : Nat) : Int) := by
  have b := Int32.toInt_lt lv
  rw [c_iushr lv 3 3 (by decide) (by decide), h]
  have : (len : Int) % 4294967296 = len := by omega
  rw [this]; rfl
theorem own_lo {lv : Int32} {len : Nat} (h : lv.toInt = len) : (lv &&& (7 : Int32)) = Int32.ofNat (len % 8) := by
  apply Int32.toInt_inj.mp
  rw [c_mask lv 7 3 (by decide) (by decide), h]
  have e : (Int32.ofNat (len % 8)).toInt = ((len % 8 : Nat) : Int) := Int32.toInt_ofNat_of_lt (by omega)
  rw [e]; rfl
/-- the byte that is written -/
theorem own_wr {M len : Nat} {lv : Int32} (h : lv.toInt = len) (hl : len < 24) (hM : M < 16777216) (hz : M % 2 ^ (24 - len) = 0) :
    nar .byte ((own_by M (len / 8) ||| ((((128 : Int32).toUInt32 >>> ((lv &&& (7 : Int32)) &&& 31).toUInt32).toInt32).toInt8.toInt32)).toInt8.toInt32) = own_by (M + 2 ^ (23 - len)) (len / 8) := by
  have s := own_step hl hM hz
  rw [own_lo h]
  unfold own_by
  rw [s.2.2.2.2.1]
  exact own_orF (Nat.mod_lt _ (by decide)) (Nat.mod_lt _ (by decide)) s.2.2.2.1
theorem own_wrL {M len : Nat} (hl : len < 24) (hM : M < 16777216) (hz : M % 2 ^ (24 - len) = 0) {vs : List Value} {x : Int32} (hx : x = own_by (M + 2 ^ (23 - len)) (len / 8)) (hv : ∀ i, vs.getD i (.int (0 : Int32)) = if i = len / 8 then (.int x) else (own_vs M).getD i (.int (0 : Int32))) :
    ∀ i, (own_vs (M + 2 ^ (23 - len))).getD i (.int (0 : Int32)) = vs.getD i (.int (0 : Int32)) := by
  have s := own_step hl hM hz
  intro i
  rw [hv]
  by_cases e : i = len / 8
  · rw [if_pos e, hx, e]; exact own_vs_at (by omega)
  · rw [if_neg e]
    have e3 : ∀ j, j < 3 → own_byte (M + 2 ^ (23 - len)) j = own_byte M j → (own_vs (M + 2 ^ (23 - len))).getD j (.int (0 : Int32)) = (own_vs M).getD j (.int (0 : Int32)) := fun j hj q => by
      rw [own_vs_at hj, own_vs_at hj]; unfold own_by; rw [q]
    by_cases z : i < 3
    · have : i = 0 ∨ i = 1 ∨ i = 2 := by omega
      rcases this with rfl | rfl | rfl
      · exact e3 _ z (s.2.2.2.2.2.1.resolve_left fun q => e q.symm)
      · exact e3 _ z (s.2.2.2.2.2.2.1.resolve_left fun q => e q.symm)
      · exact e3 _ z (s.2.2.2.2.2.2.2.resolve_left fun q => e q.symm)
    · rw [own_vs_ge (by omega), own_vs_ge (by omega)]

theorem own_jn {lv : Int32} {len : Nat} (h : lv.toInt = len) : (((lv.toUInt32 >>> ((3 : Int32) &&& 31).toUInt32).toInt32)).toNatClampNeg = len / 8 := by
  have e := own_idx h
  simp only [Int32.toNatClampNeg, e]; omega
theorem own_inb {lv K : Int32} {len : Nat} (h : lv.toInt = len) (hl : len < 8 * K.toInt.toNat) : ¬ ((lv.toUInt32 >>> ((3 : Int32) &&& 31).toUInt32).toInt32) < 0 ∧ ((lv.toUInt32 >>> ((3 : Int32) &&& 31).toUInt32).toInt32) < K := by
  have e := own_idx h
  rw [Int32.lt_iff_toInt_lt, Int32.lt_iff_toInt_lt, e]
  constructor
  · show ¬ _ < (0 : Int); omega
  · omega
theorem own_cap {lv K : Int32} {len : Nat} (h : lv.toInt = len) (hl : len < 8 * K.toInt.toNat) (hK : K.toInt ≤ 3) : lv < ((8 : Int32) * K) := by
  have e : ((8 : Int32) * K).toInt = 8 * K.toInt := by rw [Jvm.Kit.i32_mul] <;> rw [show (8 : Int32).toInt = 8 from rfl] <;> omega
  rw [Int32.lt_iff_toInt_lt, e, h]; omega
theorem own_neg {iv : Int32} (h : iv.toInt = ((0 : Nat) : Int) - 1) : iv < 0 := by
  rw [Int32.lt_iff_toInt_lt, h]; decide
theorem own_nneg {iv : Int32} {r : Nat} (h : iv.toInt = ((r + 1 : Nat) : Int) - 1) : ¬ iv < 0 := by
  rw [Int32.lt_iff_toInt_lt, h]; show ¬ _ < (0 : Int); omega
theorem own_ivr {iv : Int32} {r : Nat} (h : iv.toInt = ((r + 1 : Nat) : Int) - 1) : iv.toInt = (r : Int) := by omega
theorem own_ivd {iv : Int32} {r : Nat} (h : iv.toInt = ((r + 1 : Nat) : Int) - 1) (hr : r < 100) : (iv + (-1 : Int32)).toInt = (r : Int) - 1 := by
  rw [Jvm.Kit.i32_add] <;> rw [h, show (-1 : Int32).toInt = -1 from rfl] <;> omega
theorem own_lvu {lv : Int32} {len : Nat} (h : lv.toInt = len) (hr : len < 100) : (lv + (1 : Int32)).toInt = ((len + 1 : Nat) : Int) := by
  rw [Jvm.Kit.i32_add] <;> rw [h, show (1 : Int32).toInt = 1 from rfl] <;> omega
theorem d3_4 : decode prog_7_method_3_code 4 = .ok (.iload_n 3, 1) := by decide +kernel
theorem d3_5 : decode prog_7_method_3_code 5 = .ok (.ifCond .lt 86, 3) := by decide +kernel
theorem d3_8 : decode prog_7_method_3_code 8 = .ok (.aload_n 0, 1) := by decide +kernel
theorem d3_9 : decode prog_7_method_3_code 9 = .ok (.getfield 13, 3) := by decide +kernel
theorem d3_12 : decode prog_7_method_3_code 12 = .ok (.bipush 8, 2) := by decide +kernel
theorem d3_14 : decode prog_7_method_3_code 14 = .ok (.aload_n 0, 1) := by decide +kernel
theorem d3_15 : decode prog_7_method_3_code 15 = .ok (.getfield 7, 3) := by decide +kernel
theorem d3_18 : decode prog_7_method_3_code 18 = .ok (.arraylength, 1) := by decide +kernel
theorem d3_19 : decode prog_7_method_3_code 19 = .ok (.imul, 1) := by decide +kernel
theorem d3_20 : decode prog_7_method_3_code 20 = .ok (.if_icmp .lt 20, 3) := by decide +kernel
theorem d3_40 : decode prog_7_method_3_code 40 = .ok (.iload_n 1, 1) := by decide +kernel
theorem d3_41 : decode prog_7_method_3_code 41 = .ok (.iload_n 3, 1) := by decide +kernel
theorem d3_42 : decode prog_7_method_3_code 42 = .ok (.iushr, 1) := by decide +kernel
theorem d3_43 : decode prog_7_method_3_code 43 = .ok (.iconst 1, 1) := by decide +kernel
theorem d3_44 : decode prog_7_method_3_code 44 = .ok (.iand, 1) := by decide +kernel
theorem d3_45 : decode prog_7_method_3_code 45 = .ok (.ifCond .eq 30, 3) := by decide +kernel
theorem d3_75 : decode prog_7_method_3_code 75 = .ok (.aload_n 0, 1) := by decide +kernel
theorem d3_76 : decode prog_7_method_3_code 76 = .ok (.dup, 1) := by decide +kernel
theorem d3_77 : decode prog_7_method_3_code 77 = .ok (.getfield 13, 3) := by decide +kernel
theorem d3_80 : decode prog_7_method_3_code 80 = .ok (.iconst 1, 1) := by decide +kernel
theorem d3_81 : decode prog_7_method_3_code 81 = .ok (.iadd, 1) := by decide +kernel
theorem d3_82 : decode prog_7_method_3_code 82 = .ok (.putfield 13, 3) := by decide +kernel
theorem d3_85 : decode prog_7_method_3_code 85 = .ok (.iinc 3 (-1), 3) := by decide +kernel
theorem d3_88 : decode prog_7_method_3_code 88 = .ok (.goto (-84), 3) := by decide +kernel
theorem d3_48 : decode prog_7_method_3_code 48 = .ok (.aload_n 0, 1) := by decide +kernel
theorem d3_49 : decode prog_7_method_3_code 49 = .ok (.getfield 7, 3) := by decide +kernel
theorem d3_52 : decode prog_7_method_3_code 52 = .ok (.aload_n 0, 1) := by decide +kernel
theorem d3_53 : decode prog_7_method_3_code 53 = .ok (.getfield 13, 3) := by decide +kernel
theorem d3_56 : decode prog_7_method_3_code 56 = .ok (.iconst 3, 1) := by decide +kernel
theorem d3_57 : decode prog_7_method_3_code 57 = .ok (.iushr, 1) := by decide +kernel
theorem d3_58 : decode prog_7_method_3_code 58 = .ok (.dup2, 1) := by decide +kernel
theorem d3_59 : decode prog_7_method_3_code 59 = .ok (.baload, 1) := by decide +kernel
theorem d3_60 : decode prog_7_method_3_code 60 = .ok (.sipush 128, 3) := by decide +kernel
theorem d3_63 : decode prog_7_method_3_code 63 = .ok (.aload_n 0, 1) := by decide +kernel
theorem d3_64 : decode prog_7_method_3_code 64 = .ok (.getfield 13, 3) := by decide +kernel
theorem d3_67 : decode prog_7_method_3_code 67 = .ok (.bipush 7, 2) := by decide +kernel
theorem d3_69 : decode prog_7_method_3_code 69 = .ok (.iand, 1) := by decide +kernel
theorem d3_70 : decode prog_7_method_3_code 70 = .ok (.iushr, 1) := by decide +kernel
theorem d3_71 : decode prog_7_method_3_code 71 = .ok (.i2b, 1) := by decide +kernel
theorem d3_72 : decode prog_7_method_3_code 72 = .ok (.ior, 1) := by decide +kernel
theorem d3_73 : decode prog_7_method_3_code 73 = .ok (.i2b, 1) := by decide +kernel
theorem d3_74 : decode prog_7_method_3_code 74 = .ok (.bastore, 1) := by decide +kernel
set_option maxRecDepth 65536 in
set_option maxHeartbeats 40000000 in
theorem own_loop {p : Program} {l : Launch} {e : Env} {R : Room} {s : State} {m : MethodId} {args : Array Value} {below : List Frame} {meth : Method} {c : Code} {Z : State} {a0 : Array Value} {QQ : Option Value → Heap → List Loc → Prop} {CC NN : Nat} (hx : p.tables.exec = Jvm.exec) (hZ : Z.Warmed39 s.vm) (hw : ∀ d ∈ tables_1, d.before a0 Z = true) (hby : c.code = prog_7_method_3_code) (hml : c.maxLocals = 4) (hown : s.vm.findClass "com/example/quietzone/quietzone/BitWriter" = some m.cls) {a t : Addr} {kc : ClassId} {K val cnt : Int32} {h0 : Heap} {n0 : Nat} (g0 : n0 ≤ a) (gt : n0 ≤ t) (hat : a ≠ t) (hK : K.toInt ≤ 3) {cells slots : Nat} :
    ∀ (r : Nat) (iv lv : Int32) (M len : Nat) (T0 : State) (h1 : Heap) (locs : List Loc) (X0 : Stand p l e R s m args below meth c T0 locs cells slots) (e1 : T0.heap = h1) (N0 : Fr n0 locs) (Z0 : n0 ≤ h1.size) (K0 : Keep h0 h1 [a, t]) (E0 : Exa Z h1 a "com/example/quietzone/quietzone/BitWriter") (FB : Fld Z h1 a "com/example/quietzone/quietzone/BitWriter" "bytes" "[B" (.ref t)) (FL : Fld Z h1 a "com/example/quietzone/quietzone/BitWriter" "length" "I" (.int lv)) (V0 : Arv Z h1 t kc .byte K (own_vs M) (.int (0 : Int32))) (hiv : iv.toInt = (r : Int) - 1) (hlv : lv.toInt = len) (hcap : len + r ≤ 8 * K.toInt.toNat) (hM : M < 16777216) (hz : M % 2 ^ (24 - len) = 0)
    (cont : ∀ (iv' lv' : Int32) (T' : State) (h' : Heap) (locs' : List Loc), Stand p l e R s m args below meth c T' locs' cells slots → T'.heap = h' → Fr n0 locs' → n0 ≤ h'.size → Keep h0 h' [a, t] → Exa Z h' a "com/example/quietzone/quietzone/BitWriter" → Fld Z h' a "com/example/quietzone/quietzone/BitWriter" "bytes" "[B" (.ref t) → Fld Z h' a "com/example/quietzone/quietzone/BitWriter" "length" "I" (.int lv') → Arv Z h' t kc .byte K (own_vs (M + (own_u val % 2 ^ r) * 2 ^ (24 - len - r))) (.int (0 : Int32)) → lv'.toInt = ((len + r : Nat) : Int) → Gl p e below s QQ CC NN T' (mkF m 91 #[.val (.ref a), .val (.int val), .val (.int cnt), .val (.int iv')] [])),
    Gl p e below s QQ CC NN T0 (mkF m 4 #[.val (.ref a), .val (.int val), .val (.int cnt), .val (.int iv)] []) := by
  intro r
  induction r with
  | zero =>
    intro iv lv M len T0 h1 locs X0 e1 N0 Z0 K0 E0 FB FL V0 hiv hlv hcap hM hz cont
    refine Gl.st (g' := (mkF m 5 #[.val (.ref a), .val (.int val), .val (.int cnt), .val (.int iv)] [(.int iv)])) (fun τ κ => XS.iloadN X0.here hx rfl (hb hby d3_4) rfl κ) ?_
    have hc1 : iv < (0 : Int32) := own_neg hiv
    refine Gl.st (g' := (mkF m 91 #[.val (.ref a), .val (.int val), .val (.int cnt), .val (.int iv)] [])) (fun τ κ => XS.ifYes X0.here hx rfl (pc0 := 5) (pc' := 91) rfl (hb hby d3_5) rfl ((if0 _ _).trans (tlt hc1).1) (by decide) (by decide) κ) ?_
    exact cont iv lv T0 h1 locs X0 e1 N0 Z0 K0 E0 FB FL (by rw [Nat.pow_zero, Nat.mod_one, Nat.zero_mul, Nat.add_zero]; exact V0) (by rw [hlv]; rfl)
  | succ r ih =>
    intro iv lv M len T0 h1 locs X0 e1 N0 Z0 K0 E0 FB FL V0 hiv hlv hcap hM hz cont
    have hlt : len < 8 * K.toInt.toNat := by omega
    have hl24 : len < 24 := by omega
    refine Gl.st (g' := (mkF m 5 #[.val (.ref a), .val (.int val), .val (.int cnt), .val (.int iv)] [(.int iv)])) (fun τ κ => XS.iloadN X0.here hx rfl (hb hby d3_4) rfl κ) ?_
    have hc2 : ¬ (iv < (0 : Int32)) := own_nneg hiv
    refine Gl.st (g' := (mkF m 8 #[.val (.ref a), .val (.int val), .val (.int cnt), .val (.int iv)] [])) (fun τ κ => XS.ifNo X0.here hx rfl (hb hby d3_5) rfl ((if0 _ _).trans (flt hc2).1) κ) ?_
    refine Gl.st (g' := (mkF m 9 #[.val (.ref a), .val (.int val), .val (.int cnt), .val (.int iv)] [(.ref a)])) (fun τ κ => XS.aloadN X0.here hx rfl (hb hby d3_8) rfl rfl κ) ?_
    obtain ⟨T3, X3, e3, st3⟩ := getF X0 hx hZ hown (host := "") (Or.inl (hw _ (List.mem_of_getElem? (i := 29) rfl))) Via.refl e1 FL (g := (mkF m 9 #[.val (.ref a), .val (.int val), .val (.int cnt), .val (.int iv)] [(.ref a)])) rfl rfl (hb hby d3_9)
    refine Gl.st (g' := (mkF m 12 #[.val (.ref a), .val (.int val), .val (.int cnt), .val (.int iv)] [(.int lv)])) (fun τ κ => st3 _ κ) ?_
    refine Gl.st (g' := (mkF m 14 #[.val (.ref a), .val (.int val), .val (.int cnt), .val (.int iv)] [(.int (8 : Int32)), (.int lv)])) (fun τ κ => XS.bipush X3.here hx rfl (hb hby d3_12) κ) ?_
    refine Gl.st (g' := (mkF m 15 #[.val (.ref a), .val (.int val), .val (.int cnt), .val (.int iv)] [(.ref a), (.int (8 : Int32)), (.int lv)])) (fun τ κ => XS.aloadN X3.here hx rfl (hb hby d3_14) rfl rfl κ) ?_
    obtain ⟨T4, X4, e4, st4⟩ := getF X3 hx hZ hown (host := "") (Or.inl (hw _ (List.mem_of_getElem? (i := 11) rfl))) Via.refl e3 FB (g := (mkF m 15 #[.val (.ref a), .val (.int val), .val (.int cnt), .val (.int iv)] [(.ref a), (.int (8 : Int32)), (.int lv)])) rfl rfl (hb hby d3_15)
    refine Gl.st (g' := (mkF m 18 #[.val (.ref a), .val (.int val), .val (.int cnt), .val (.int iv)] [(.ref t), (.int (8 : Int32)), (.int lv)])) (fun τ κ => st4 _ κ) ?_
    obtain ⟨cl_o5, Ar_o5, q_o5, S_o5, M_o5, H_o5, G_o5⟩ := id V0
    refine Gl.st (g' := (mkF m 19 #[.val (.ref a), .val (.int val), .val (.int cnt), .val (.int iv)] [(.int K), (.int (8 : Int32)), (.int lv)])) (fun τ κ => X4.arraylength hx (by rw [e4]; exact Ar_o5.1) (State.isArrayOf_alike hZ.alike Ar_o5.2.1) (g := (mkF m 18 #[.val (.ref a), .val (.int val), .val (.int cnt), .val (.int iv)] [(.ref t), (.int (8 : Int32)), (.int lv)])) rfl rfl (hb hby d3_18) _ (by rw [len_of S_o5 M_o5]; exact κ)) ?_
    refine Gl.st (g' := (mkF m 20 #[.val (.ref a), .val (.int val), .val (.int cnt), .val (.int iv)] [(.int ((8 : Int32) * K)), (.int lv)])) (fun τ κ => XS.imul X4.here hx rfl (hb hby d3_19) rfl κ) ?_
    have hc6 : lv < ((8 : Int32) * K) := own_cap hlv hlt hK
    refine Gl.st (g' := (mkF m 40 #[.val (.ref a), .val (.int val), .val (.int cnt), .val (.int iv)] [])) (fun τ κ => XS.icmpYes X4.here hx rfl (pc0 := 20) (pc' := 40) rfl (hb hby d3_20) rfl (tlt hc6).1 (by decide) (by decide) κ) ?_
    refine Gl.st (g' := (mkF m 41 #[.val (.ref a), .val (.int val), .val (.int cnt), .val (.int iv)] [(.int val)])) (fun τ κ => XS.iloadN X4.here hx rfl (hb hby d3_40) rfl κ) ?_
    refine Gl.st (g' := (mkF m 42 #[.val (.ref a), .val (.int val), .val (.int cnt), .val (.int iv)] [(.int iv), (.int val)])) (fun τ κ => XS.iloadN X4.here hx rfl (hb hby d3_41) rfl κ) ?_
    refine Gl.st (g' := (mkF m 43 #[.val (.ref a), .val (.int val), .val (.int cnt), .val (.int iv)] [(.int ((val.toUInt32 >>> (iv &&& 31).toUInt32).toInt32))])) (fun τ κ => XS.iushr X4.here hx rfl (hb hby d3_42) rfl κ) ?_
    refine Gl.st (g' := (mkF m 44 #[.val (.ref a), .val (.int val), .val (.int cnt), .val (.int iv)] [(.int (1 : Int32)), (.int ((val.toUInt32 >>> (iv &&& 31).toUInt32).toInt32))])) (fun τ κ => XS.iconst X4.here hx rfl (hb hby d3_43) κ) ?_
    refine Gl.st (g' := (mkF m 45 #[.val (.ref a), .val (.int val), .val (.int cnt), .val (.int iv)] [(.int (((val.toUInt32 >>> (iv &&& 31).toUInt32).toInt32) &&& (1 : Int32)))])) (fun τ κ => XS.iand X4.here hx rfl (hb hby d3_44) rfl κ) ?_
    by_cases hc7 : (((val.toUInt32 >>> (iv &&& 31).toUInt32).toInt32) &&& (1 : Int32)) = (0 : Int32)
    · -- pc 45: (((val.toUInt32 >>> (iv &&& 31).toUInt32).toInt32) &&& (1 : Int32)) = (0 : Int32)
      refine Gl.st (g' := (mkF m 75 #[.val (.ref a), .val (.int val), .val (.int cnt), .val (.int iv)] [])) (fun τ κ => XS.ifYes X4.here hx rfl (pc0 := 45) (pc' := 75) rfl (hb hby d3_45) rfl ((if0 _ _).trans (teq hc7).1) (by decide) (by decide) κ) ?_
      refine Gl.st (g' := (mkF m 76 #[.val (.ref a), .val (.int val), .val (.int cnt), .val (.int iv)] [(.ref a)])) (fun τ κ => XS.aloadN X4.here hx rfl (hb hby d3_75) rfl rfl κ) ?_
      refine Gl.st (g' := (mkF m 77 #[.val (.ref a), .val (.int val), .val (.int cnt), .val (.int iv)] [(.ref a), (.ref a)])) (fun τ κ => XS.dup X4.here hx rfl (hb hby d3_76) rfl rfl κ) ?_
      obtain ⟨T8, X8, e8, st8⟩ := getF X4 hx hZ hown (host := "") (Or.inl (hw _ (List.mem_of_getElem? (i := 29) rfl))) Via.refl e4 FL (g := (mkF m 77 #[.val (.ref a), .val (.int val), .val (.int cnt), .val (.int iv)] [(.ref a), (.ref a)])) rfl rfl (hb hby d3_77)
      refine Gl.st (g' := (mkF m 80 #[.val (.ref a), .val (.int val), .val (.int cnt), .val (.int iv)] [(.int lv), (.ref a)])) (fun τ κ => st8 _ κ) ?_
      refine Gl.st (g' := (mkF m 81 #[.val (.ref a), .val (.int val), .val (.int cnt), .val (.int iv)] [(.int (1 : Int32)), (.int lv), (.ref a)])) (fun τ κ => XS.iconst X8.here hx rfl (hb hby d3_80) κ) ?_
      refine Gl.st (g' := (mkF m 82 #[.val (.ref a), .val (.int val), .val (.int cnt), .val (.int iv)] [(.int (lv + (1 : Int32))), (.ref a)])) (fun τ κ => XS.iadd X8.here hx rfl (hb hby d3_81) rfl κ) ?_
      obtain ⟨T9, h9, X9, e9, W9, st9⟩ := putF X8 hx hZ hown (host := "") (Or.inl (hw _ (List.mem_of_getElem? (i := 29) rfl))) Via.refl e8 FL E0 (Or.inl (hw _ (List.mem_of_getElem? (i := 30) rfl))) (hw _ (List.mem_of_getElem? (i := 2) rfl)) (ty := .int) (by decide) rfl rfl (g := (mkF m 82 #[.val (.ref a), .val (.int val), .val (.int cnt), .val (.int iv)] [(.int (lv + (1 : Int32))), (.ref a)])) rfl rfl (hb hby d3_82)
      have E_10 := E0.wr W9
      have F_11 := FB.other W9 (Or.inr (slot_ne (Or.inr (hw _ (List.mem_of_getElem? (i := 12) rfl))) (Or.inl (hw _ (List.mem_of_getElem? (i := 30) rfl))) (by decide) (t := (.array .byte)) (t' := .int) (by decide) (by decide)))
      have V_13 := V0.other W9 (Ne.symm hat)
      have N9 := Fr.snoc X9 N0 g0
      have Z9 : n0 ≤ h9.size := Nat.le_trans Z0 (Nat.le_of_eq W9.size.symm)
      have K9 : Keep h0 h9 [a, t] := K0.wr W9 (Or.inl (List.mem_of_getElem? (i := 0) rfl))
      have F_14 := FL.same W9
      refine Gl.st (g' := (mkF m 85 #[.val (.ref a), .val (.int val), .val (.int cnt), .val (.int iv)] [])) (fun τ κ => st9 _ κ) ?_
      refine Gl.st (g' := (mkF m 88 #[.val (.ref a), .val (.int val), .val (.int cnt), .val (.int (iv + (-1 : Int32)))] [])) (fun τ κ => XS.iinc X9.here hx rfl (hb hby d3_85) rfl (l' := #[.val (.ref a), .val (.int val), .val (.int cnt), .val (.int (iv + (-1 : Int32)))]) rfl κ) ?_
      refine Gl.st (g' := (mkF m 4 #[.val (.ref a), .val (.int val), .val (.int cnt), .val (.int (iv + (-1 : Int32)))] [])) (fun τ κ => XS.goto X9.here hx rfl (pc0 := 88) (pc' := 4) rfl (hb hby d3_88) (by decide) (by decide) κ) ?_
      have hb := own_bit0 (own_ivr hiv) (by omega) hc7
      exact ih _ _ M (len + 1) T9 h9 _ X9 e9 N9 Z9 K9 E_10 F_11 F_14 V_13 (own_ivd hiv (by omega)) (own_lvu hlv (by omega)) (by omega) hM (by rw [show 24 - (len + 1) = 23 - len by omega]; exact (own_step hl24 hM hz).2.2.1)
        (fun iv' lv' T' h' locs' x1 x2 x3 x4 x5 x6 x7 x8 x9 x10 => cont iv' lv' T' h' locs' x1 x2 x3 x4 x5 x6 x7 x8 (by rw [own_acc (by omega), hb, Nat.zero_mul, Nat.add_zero]; exact x9) (by rw [x10]; congr 1; omega))
    · -- pc 45: not (((val.toUInt32 >>> (iv &&& 31).toUInt32).toInt32) &&& (1 : Int32)) = (0 : Int32)
      refine Gl.st (g' := (mkF m 48 #[.val (.ref a), .val (.int val), .val (.int cnt), .val (.int iv)] [])) (fun τ κ => XS.ifNo X4.here hx rfl (hb hby d3_45) rfl ((if0 _ _).trans (feq hc7).1) κ) ?_
      refine Gl.st (g' := (mkF m 49 #[.val (.ref a), .val (.int val), .val (.int cnt), .val (.int iv)] [(.ref a)])) (fun τ κ => XS.aloadN X4.here hx rfl (hb hby d3_48) rfl rfl κ) ?_
      obtain ⟨T15, X15, e15, st15⟩ := getF X4 hx hZ hown (host := "") (Or.inl (hw _ (List.mem_of_getElem? (i := 11) rfl))) Via.refl e4 FB (g := (mkF m 49 #[.val (.ref a), .val (.int val), .val (.int cnt), .val (.int iv)] [(.ref a)])) rfl rfl (hb hby d3_49)
      refine Gl.st (g' := (mkF m 52 #[.val (.ref a), .val (.int val), .val (.int cnt), .val (.int iv)] [(.ref t)])) (fun τ κ => st15 _ κ) ?_
      refine Gl.st (g' := (mkF m 53 #[.val (.ref a), .val (.int val), .val (.int cnt), .val (.int iv)] [(.ref a), (.ref t)])) (fun τ κ => XS.aloadN X15.here hx rfl (hb hby d3_52) rfl rfl κ) ?_
      obtain ⟨T16, X16, e16, st16⟩ := getF X15 hx hZ hown (host := "") (Or.inl (hw _ (List.mem_of_getElem? (i := 29) rfl))) Via.refl e15 FL (g := (mkF m 53 #[.val (.ref a), .val (.int val), .val (.int cnt), .val (.int iv)] [(.ref a), (.ref t)])) rfl rfl (hb hby d3_53)
      refine Gl.st (g' := (mkF m 56 #[.val (.ref a), .val (.int val), .val (.int cnt), .val (.int iv)] [(.int lv), (.ref t)])) (fun τ κ => st16 _ κ) ?_
      refine Gl.st (g' := (mkF m 57 #[.val (.ref a), .val (.int val), .val (.int cnt), .val (.int iv)] [(.int (3 : Int32)), (.int lv), (.ref t)])) (fun τ κ => XS.iconst X16.here hx rfl (hb hby d3_56) κ) ?_
      refine Gl.st (g' := (mkF m 58 #[.val (.ref a), .val (.int val), .val (.int cnt), .val (.int iv)] [(.int ((lv.toUInt32 >>> ((3 : Int32) &&& 31).toUInt32).toInt32)), (.ref t)])) (fun τ κ => XS.iushr X16.here hx rfl (hb hby d3_57) rfl κ) ?_
      refine Gl.st (g' := (mkF m 59 #[.val (.ref a), .val (.int val), .val (.int cnt), .val (.int iv)] [(.int ((lv.toUInt32 >>> ((3 : Int32) &&& 31).toUInt32).toInt32)), (.ref t), (.int ((lv.toUInt32 >>> ((3 : Int32) &&& 31).toUInt32).toInt32)), (.ref t)])) (fun τ κ => XT.dup2 X16.here hx rfl (hb hby d3_58) rfl rfl rfl κ) ?_
      obtain ⟨cl_o17, Ar_o17, q_o17, S_o17, M_o17, H_o17, G_o17⟩ := id V0
      have hin_o17 : ¬ (((lv.toUInt32 >>> ((3 : Int32) &&& 31).toUInt32).toInt32) < 0 ∨ cl_o17.slots.size ≤ (((lv.toUInt32 >>> ((3 : Int32) &&& 31).toUInt32).toInt32)).toNatClampNeg) := inb_of S_o17 (own_inb hlv hlt)
      refine Gl.st (g' := (mkF m 60 #[.val (.ref a), .val (.int val), .val (.int cnt), .val (.int iv)] [(.int (own_by M (len / 8))), (.int ((lv.toUInt32 >>> ((3 : Int32) &&& 31).toUInt32).toInt32)), (.ref t)])) (fun τ κ => X16.baloadBytes hx (j := ((lv.toUInt32 >>> ((3 : Int32) &&& 31).toUInt32).toInt32)) (v := (.int (own_by M (len / 8)))) (by rw [e16]; exact Ar_o17.1) (State.isArrayOf_alike hZ.alike Ar_o17.2.1) Ar_o17.2.2 hin_o17 ((H_o17 _ (Nat.lt_of_not_le fun q => hin_o17 (Or.inr q))).trans (congrArg some (by rw [own_jn hlv]; exact own_vs_at (by omega)))) (g := (mkF m 59 #[.val (.ref a), .val (.int val), .val (.int cnt), .val (.int iv)] [(.int ((lv.toUInt32 >>> ((3 : Int32) &&& 31).toUInt32).toInt32)), (.ref t), (.int ((lv.toUInt32 >>> ((3 : Int32) &&& 31).toUInt32).toInt32)), (.ref t)])) rfl rfl (hb hby d3_59) _ κ) ?_
      refine Gl.st (g' := (mkF m 63 #[.val (.ref a), .val (.int val), .val (.int cnt), .val (.int iv)] [(.int (128 : Int32)), (.int (own_by M (len / 8))), (.int ((lv.toUInt32 >>> ((3 : Int32) &&& 31).toUInt32).toInt32)), (.ref t)])) (fun τ κ => XS.sipush X16.here hx rfl (hb hby d3_60) κ) ?_
      refine Gl.st (g' := (mkF m 64 #[.val (.ref a), .val (.int val), .val (.int cnt), .val (.int iv)] [(.ref a), (.int (128 : Int32)), (.int (own_by M (len / 8))), (.int ((lv.toUInt32 >>> ((3 : Int32) &&& 31).toUInt32).toInt32)), (.ref t)])) (fun τ κ => XS.aloadN X16.here hx rfl (hb hby d3_63) rfl rfl κ) ?_
      obtain ⟨T18, X18, e18, st18⟩ := getF X16 hx hZ hown (host := "") (Or.inl (hw _ (List.mem_of_getElem? (i := 29) rfl))) Via.refl e16 FL (g := (mkF m 64 #[.val (.ref a), .val (.int val), .val (.int cnt), .val (.int iv)] [(.ref a), (.int (128 : Int32)), (.int (own_by M (len / 8))), (.int ((lv.toUInt32 >>> ((3 : Int32) &&& 31).toUInt32).toInt32)), (.ref t)])) rfl rfl (hb hby d3_64)
      refine Gl.st (g' := (mkF m 67 #[.val (.ref a), .val (.int val), .val (.int cnt), .val (.int iv)] [(.int lv), (.int (128 : Int32)), (.int (own_by M (len / 8))), (.int ((lv.toUInt32 >>> ((3 : Int32) &&& 31).toUInt32).toInt32)), (.ref t)])) (fun τ κ => st18 _ κ) ?_
      refine Gl.st (g' := (mkF m 69 #[.val (.ref a), .val (.int val), .val (.int cnt), .val (.int iv)] [(.int (7 : Int32)), (.int lv), (.int (128 : Int32)), (.int (own_by M (len / 8))), (.int ((lv.toUInt32 >>> ((3 : Int32) &&& 31).toUInt32).toInt32)), (.ref t)])) (fun τ κ => XS.bipush X18.here hx rfl (hb hby d3_67) κ) ?_
      refine Gl.st (g' := (mkF m 70 #[.val (.ref a), .val (.int val), .val (.int cnt), .val (.int iv)] [(.int (lv &&& (7 : Int32))), (.int (128 : Int32)), (.int (own_by M (len / 8))), (.int ((lv.toUInt32 >>> ((3 : Int32) &&& 31).toUInt32).toInt32)), (.ref t)])) (fun τ κ => XS.iand X18.here hx rfl (hb hby d3_69) rfl κ) ?_
      refine Gl.st (g' := (mkF m 71 #[.val (.ref a), .val (.int val), .val (.int cnt), .val (.int iv)] [(.int (((128 : Int32).toUInt32 >>> ((lv &&& (7 : Int32)) &&& 31).toUInt32).toInt32)), (.int (own_by M (len / 8))), (.int ((lv.toUInt32 >>> ((3 : Int32) &&& 31).toUInt32).toInt32)), (.ref t)])) (fun τ κ => XS.iushr X18.here hx rfl (hb hby d3_70) rfl κ) ?_
      refine Gl.st (g' := (mkF m 72 #[.val (.ref a), .val (.int val), .val (.int cnt), .val (.int iv)] [(.int ((((128 : Int32).toUInt32 >>> ((lv &&& (7 : Int32)) &&& 31).toUInt32).toInt32).toInt8.toInt32)), (.int (own_by M (len / 8))), (.int ((lv.toUInt32 >>> ((3 : Int32) &&& 31).toUInt32).toInt32)), (.ref t)])) (fun τ κ => XS.i2b X18.here hx rfl (hb hby d3_71) rfl κ) ?_
      refine Gl.st (g' := (mkF m 73 #[.val (.ref a), .val (.int val), .val (.int cnt), .val (.int iv)] [(.int ((own_by M (len / 8)) ||| ((((128 : Int32).toUInt32 >>> ((lv &&& (7 : Int32)) &&& 31).toUInt32).toInt32).toInt8.toInt32))), (.int ((lv.toUInt32 >>> ((3 : Int32) &&& 31).toUInt32).toInt32)), (.ref t)])) (fun τ κ => XS.ior X18.here hx rfl (hb hby d3_72) rfl κ) ?_
      refine Gl.st (g' := (mkF m 74 #[.val (.ref a), .val (.int val), .val (.int cnt), .val (.int iv)] [(.int (((own_by M (len / 8)) ||| ((((128 : Int32).toUInt32 >>> ((lv &&& (7 : Int32)) &&& 31).toUInt32).toInt32).toInt8.toInt32)).toInt8.toInt32)), (.int ((lv.toUInt32 >>> ((3 : Int32) &&& 31).toUInt32).toInt32)), (.ref t)])) (fun τ κ => XS.i2b X18.here hx rfl (hb hby d3_73) rfl κ) ?_
      obtain ⟨cl_o19, Ar_o19, q_o19, S_o19, M_o19, H_o19, G_o19⟩ := id V0
      have hin_o19 : ¬ (((lv.toUInt32 >>> ((3 : Int32) &&& 31).toUInt32).toInt32) < 0 ∨ cl_o19.slots.size ≤ (((lv.toUInt32 >>> ((3 : Int32) &&& 31).toUInt32).toInt32)).toNatClampNeg) := inb_of S_o19 (own_inb hlv hlt)
      obtain ⟨T20, h20, X20, e20, W20, st20⟩ := stB X18 hx hZ e18 Ar_o19 (j := ((lv.toUInt32 >>> ((3 : Int32) &&& 31).toUInt32).toInt32)) hin_o19 (g := (mkF m 74 #[.val (.ref a), .val (.int val), .val (.int cnt), .val (.int iv)] [(.int (((own_by M (len / 8)) ||| ((((128 : Int32).toUInt32 >>> ((lv &&& (7 : Int32)) &&& 31).toUInt32).toInt32).toInt8.toInt32)).toInt8.toInt32)), (.int ((lv.toUInt32 >>> ((3 : Int32) &&& 31).toUInt32).toInt32)), (.ref t)])) rfl rfl (hb hby d3_74)
      obtain ⟨vs20, hvs20⟩ := own_upd (own_vs M) (((lv.toUInt32 >>> ((3 : Int32) &&& 31).toUInt32).toInt32)).toNatClampNeg (.int (nar .byte (((own_by M (len / 8)) ||| ((((128 : Int32).toUInt32 >>> ((lv &&& (7 : Int32)) &&& 31).toUInt32).toInt32).toInt8.toInt32)).toInt8.toInt32))) (.int (0 : Int32))
      have E_21 := E0.wr W20
      have F_22 := FB.other W20 (Or.inl hat)
      have F_23 := FL.other W20 (Or.inl hat)
      have N20 := Fr.snoc X20 N0 gt
      have Z20 : n0 ≤ h20.size := Nat.le_trans Z0 (Nat.le_of_eq W20.size.symm)
      have K20 : Keep h0 h20 [a, t] := K0.wr W20 (Or.inl (List.mem_of_getElem? (i := 1) rfl))
      have V_t_20 : Arv Z h20 t kc .byte K vs20 (.int (0 : Int32)) := own_set Ar_o19 q_o19 S_o19 M_o19 H_o19 G_o19 (fits_nar_byte _) W20 hvs20
      refine Gl.st (g' := (mkF m 75 #[.val (.ref a), .val (.int val), .val (.int cnt), .val (.int iv)] [])) (fun τ κ => st20 _ κ) ?_
      refine Gl.st (g' := (mkF m 76 #[.val (.ref a), .val (.int val), .val (.int cnt), .val (.int iv)] [(.ref a)])) (fun τ κ => XS.aloadN X20.here hx rfl (hb hby d3_75) rfl rfl κ) ?_
      refine Gl.st (g' := (mkF m 77 #[.val (.ref a), .val (.int val), .val (.int cnt), .val (.int iv)] [(.ref a), (.ref a)])) (fun τ κ => XS.dup X20.here hx rfl (hb hby d3_76) rfl rfl κ) ?_
      obtain ⟨T25, X25, e25, st25⟩ := getF X20 hx hZ hown (host := "") (Or.inl (hw _ (List.mem_of_getElem? (i := 29) rfl))) Via.refl e20 F_23 (g := (mkF m 77 #[.val (.ref a), .val (.int val), .val (.int cnt), .val (.int iv)] [(.ref a), (.ref a)])) rfl rfl (hb hby d3_77)
      refine Gl.st (g' := (mkF m 80 #[.val (.ref a), .val (.int val), .val (.int cnt), .val (.int iv)] [(.int lv), (.ref a)])) (fun τ κ => st25 _ κ) ?_
      refine Gl.st (g' := (mkF m 81 #[.val (.ref a), .val (.int val), .val (.int cnt), .val (.int iv)] [(.int (1 : Int32)), (.int lv), (.ref a)])) (fun τ κ => XS.iconst X25.here hx rfl (hb hby d3_80) κ) ?_
      refine Gl.st (g' := (mkF m 82 #[.val (.ref a), .val (.int val), .val (.int cnt), .val (.int iv)] [(.int (lv + (1 : Int32))), (.ref a)])) (fun τ κ => XS.iadd X25.here hx rfl (hb hby d3_81) rfl κ) ?_
      obtain ⟨T26, h26, X26, e26, W26, st26⟩ := putF X25 hx hZ hown (host := "") (Or.inl (hw _ (List.mem_of_getElem? (i := 29) rfl))) Via.refl e25 F_23 E_21 (Or.inl (hw _ (List.mem_of_getElem? (i := 30) rfl))) (hw _ (List.mem_of_getElem? (i := 2) rfl)) (ty := .int) (by decide) rfl rfl (g := (mkF m 82 #[.val (.ref a), .val (.int val), .val (.int cnt), .val (.int iv)] [(.int (lv + (1 : Int32))), (.ref a)])) rfl rfl (hb hby d3_82)
      have E_27 := E_21.wr W26
      have F_28 := F_22.other W26 (Or.inr (slot_ne (Or.inr (hw _ (List.mem_of_getElem? (i := 12) rfl))) (Or.inl (hw _ (List.mem_of_getElem? (i := 30) rfl))) (by decide) (t := (.array .byte)) (t' := .int) (by decide) (by decide)))
      have V_30 := V_t_20.other W26 (Ne.symm hat)
      have N26 := Fr.snoc X26 N20 g0
      have Z26 : n0 ≤ h26.size := Nat.le_trans Z20 (Nat.le_of_eq W26.size.symm)
      have K26 : Keep h0 h26 [a, t] := K20.wr W26 (Or.inl (List.mem_of_getElem? (i := 0) rfl))
      have F_31 := F_23.same W26
      refine Gl.st (g' := (mkF m 85 #[.val (.ref a), .val (.int val), .val (.int cnt), .val (.int iv)] [])) (fun τ κ => st26 _ κ) ?_
      refine Gl.st (g' := (mkF m 88 #[.val (.ref a), .val (.int val), .val (.int cnt), .val (.int (iv + (-1 : Int32)))] [])) (fun τ κ => XS.iinc X26.here hx rfl (hb hby d3_85) rfl (l' := #[.val (.ref a), .val (.int val), .val (.int cnt), .val (.int (iv + (-1 : Int32)))]) rfl κ) ?_
      refine Gl.st (g' := (mkF m 4 #[.val (.ref a), .val (.int val), .val (.int cnt), .val (.int (iv + (-1 : Int32)))] [])) (fun τ κ => XS.goto X26.here hx rfl (pc0 := 88) (pc' := 4) rfl (hb hby d3_88) (by decide) (by decide) κ) ?_
      have hb := own_bit1 (own_ivr hiv) (by omega) hc7
      rw [own_jn hlv] at hvs20
      exact ih _ _ (M + 2 ^ (23 - len)) (len + 1) T26 h26 _ X26 e26 N26 Z26 K26 E_27 F_28 F_31 (V_30.pad (own_wrL hl24 hM hz (own_wr hlv hl24 hM hz) hvs20)) (own_ivd hiv (by omega)) (own_lvu hlv (by omega)) (by omega) (own_step hl24 hM hz).1 (by rw [show 24 - (len + 1) = 23 - len by omega]; exact (own_step hl24 hM hz).2.1)
        (fun iv' lv' T' h' locs' x1 x2 x3 x4 x5 x6 x7 x8 x9 x10 => cont iv' lv' T' h' locs' x1 x2 x3 x4 x5 x6 x7 x8 (by rw [own_acc (by omega), hb, Nat.one_mul]; exact x9) (by rw [x10]; congr 1; omega))
theorem own_cm {cnt : Int32} {r : Nat} (h : cnt.toInt = (r : Int)) : (cnt - (1 : Int32)).toInt = (r : Int) - 1 := by
  have := Int32.toInt_lt cnt
  rw [Jvm.Kit.i32_sub] <;> rw [h, show (1 : Int32).toInt = 1 from rfl] <;> omega
theorem d3_0 : decode prog_7_method_3_code 0 = .ok (.iload_n 2, 1) := by decide +kernel
theorem d3_1 : decode prog_7_method_3_code 1 = .ok (.iconst 1, 1) := by decide +kernel
theorem d3_2 : decode prog_7_method_3_code 2 = .ok (.isub, 1) := by decide +kernel
theorem d3_3 : decode prog_7_method_3_code 3 = .ok (.istore_n 3, 1) := by decide +kernel
theorem d3_91 : decode prog_7_method_3_code 91 = .ok (.return_, 1) := by decide +kernel
theorem pn_com_example_quietzone_quietzone_BitWriter : plainName "com/example/quietzone/quietzone/BitWriter" = true := by first | (simp [plainName, overriddenIn]; done) | decide +kernel
theorem ef_rm3 (m : MethodId) (a : Addr) (val : Int32) (cnt : Int32) : entryFrame m #[(.ref a), (.int val), (.int cnt)] 4 = mkF m 0 #[.val (.ref a), .val (.int val), .val (.int cnt), .unset] [] := by first | (simp [entryFrame, mkF, argsToLocals, Value.category]; done) | rfl
def Q_rm3 (Z : State) (a : Addr) (val : Int32) (cnt : Int32) (t : Addr) (kc : ClassId) (K lv : Int32) (M len r : Nat) (h0 : Heap) (n0 : Nat) (v : Option Value) (h : Heap) (L : List Loc) : Prop := v = none ∧ Fr n0 L ∧ Keep h0 h [a, t] ∧ Exa Z h a "com/example/quietzone/quietzone/BitWriter" ∧ Fld Z h a "com/example/quietzone/quietzone/BitWriter" "bytes" "[B" (.ref t) ∧ (∃ lv' : Int32, lv'.toInt = ((len + r : Nat) : Int) ∧ Fld Z h a "com/example/quietzone/quietzone/BitWriter" "length" "I" (.int lv')) ∧ Arv Z h t kc .byte K (own_vs (M + (own_u val % 2 ^ r) * 2 ^ (24 - len - r))) (.int (0 : Int32))
set_option maxRecDepth 65536 in
set_option maxHeartbeats 40000000 in
theorem rm3 (l : Launch) (Z : State) (a0 : Array Value) (hw : ∀ d ∈ tables_1, d.before a0 Z = true) (ws : List Jvm.Cond) (a : Addr) (val : Int32) (cnt : Int32) (t : Addr) (kc : ClassId) (K lv : Int32) (M len r : Nat) (h0 : Heap) (n0 : Nat) (Z0 : n0 ≤ h0.size) (E0 : Exa Z h0 a "com/example/quietzone/quietzone/BitWriter") (g0 : n0 ≤ a) (gt : n0 ≤ t) (hat : a ≠ t) (FB : Fld Z h0 a "com/example/quietzone/quietzone/BitWriter" "bytes" "[B" (.ref t)) (FL : Fld Z h0 a "com/example/quietzone/quietzone/BitWriter" "length" "I" (.int lv)) (V0 : Arv Z h0 t kc .byte K (own_vs M) (.int (0 : Int32))) (hcnt : cnt.toInt = (r : Int)) (hlv : lv.toInt = len) (hcap : len + r ≤ 8 * K.toInt.toNat) (hK : K.toInt ≤ 3) (hM : M < 16777216) (hz : M % 2 ^ (24 - len) = 0) :
    MetFree l (⟨"com/example/quietzone/quietzone/BitWriter", "write", "(II)V"⟩ : MethodName) (head1 (Jvm.Cond.code (⟨"com/example/quietzone/quietzone/BitWriter", "write", "(II)V"⟩ : MethodName) prog_7_method_3_code 4 none :: ws) ({ frames := 0, cells := 0, slots := 0, locals := 0 } : Room)) (fun aα Uα => aα = #[(.ref a), (.int val), (.int cnt)] ∧ Z.Warmed39 Uα.vm ∧ Uα.heap = h0) (fun _ _ _ _ _ => True) (fun _ Uα oα Uβ => ∃ vα Lα, oα = .returned vα ∧ Q_rm3 Z a val cnt t kc K lv M len r h0 n0 vα Uβ.heap Lα ∧ FrameEnd Uα oα Uβ Lα ({ frames := 0, cells := 0, slots := 0, locals := 0 } : Room).cells ({ frames := 0, cells := 0, slots := 0, locals := 0 } : Room).slots) := by
  refine MetFree.of_bodySF (plainFor_of_name pn_com_example_quietzone_quietzone_BitWriter) hisR ?_
  intro p e s m args below meth c s₁ Bd hml0 hP hKα
  obtain ⟨rfl, hZ, hh⟩ := hP
  have hx := Bd.exec
  have hby := Bd.bytes
  have hml : c.maxLocals = 4 := hml0
  have hown : s.vm.findClass "com/example/quietzone/quietzone/BitWriter" = some m.cls := findClass_of_methodNamed Bd.named
  have hnm := (name_of_methodNamed Bd.named Bd.method).1
  have X0 : Stand p l e ({ frames := 0, cells := 0, slots := 0, locals := 0 } : Room) s m #[(.ref a), (.int val), (.int cnt)] below meth c s₁ [] 0 0 := Stand.of_body Bd
  have e0 : s₁.heap = h0 := by rw [← hh, Bd.state]; rfl
  have N0 := Fr.nil n0
  suffices k0 : Gl p e below s (Q_rm3 Z a val cnt t kc K lv M len r h0 n0) ({ frames := 0, cells := 0, slots := 0, locals := 0 } : Room).cells ({ frames := 0, cells := 0, slots := 0, locals := 0 } : Room).slots s₁ (mkF m 0 #[.val (.ref a), .val (.int val), .val (.int cnt), .unset] []) from Gl.st (fun τ κ => castTop (ef_rm3 m a val cnt) κ) k0
  refine Gl.st (g' := (mkF m 1 #[.val (.ref a), .val (.int val), .val (.int cnt), .unset] [(.int cnt)])) (fun τ κ => XS.iloadN X0.here hx rfl (hb hby d3_0) rfl κ) ?_
  refine Gl.st (g' := (mkF m 2 #[.val (.ref a), .val (.int val), .val (.int cnt), .unset] [(.int (1 : Int32)), (.int cnt)])) (fun τ κ => XS.iconst X0.here hx rfl (hb hby d3_1) κ) ?_
  refine Gl.st (g' := (mkF m 3 #[.val (.ref a), .val (.int val), .val (.int cnt), .unset] [(.int (cnt - (1 : Int32)))])) (fun τ κ => XS.isub X0.here hx rfl (hb hby d3_2) rfl κ) ?_
  refine Gl.st (g' := (mkF m 4 #[.val (.ref a), .val (.int val), .val (.int cnt), .val (.int (cnt - (1 : Int32)))] [])) (fun τ κ => XS.istoreN X0.here hx rfl (hb hby d3_3) rfl (l' := #[.val (.ref a), .val (.int val), .val (.int cnt), .val (.int (cnt - (1 : Int32)))]) rfl κ) ?_
  refine own_loop hx hZ hw hby hml hown g0 gt hat hK r (cnt - (1 : Int32)) lv M len s₁ h0 _ X0 e0 N0 Z0 (Keep.refl h0 [a, t]) E0 FB FL V0 (own_cm hcnt) hlv hcap hM hz ?_
  intro iv' lv' T' h' locs' X' e' N' Z' K' E' FB' FL' V' hl'
  exact Gl.ret (v := none) X' Bd.notSynchronized (fun _ => rfl) e' (fun fs hr => X'.returnOut hx Bd.returns (hb hby d3_91) hr) (by decide) (by decide) ⟨rfl, N', K', E', FB', ⟨lv', hl', FL'⟩, V'⟩
theorem d1_0 : decode prog_7_method_1_code 0 = .ok (.aload_n 0, 1) := by decide +kernel
theorem d1_1 : decode prog_7_method_1_code 1 = .ok (.invokespecial 1, 3) := by decide +kernel
theorem d1_4 : decode prog_7_method_1_code 4 = .ok (.aload_n 0, 1) := by decide +kernel
theorem d1_5 : decode prog_7_method_1_code 5 = .ok (.iload_n 1, 1) := by decide +kernel
theorem d1_6 : decode prog_7_method_1_code 6 = .ok (.newarray .byte, 2) := by decide +kernel
theorem d1_8 : decode prog_7_method_1_code 8 = .ok (.putfield 7, 3) := by decide +kernel
theorem d1_11 : decode prog_7_method_1_code 11 = .ok (.return_, 1) := by decide +kernel
theorem ef_rm1 (m : MethodId) (a : Addr) (K : Int32) : entryFrame m #[(.ref a), (.int K)] 2 = mkF m 0 #[.val (.ref a), .val (.int K)] [] := by first | (simp [entryFrame, mkF, argsToLocals, Value.category]; done) | rfl
def Q_rm1 (Z : State) (a : Addr) (K : Int32)  (h0 : Heap) (n0 : Nat) (v : Option Value) (h : Heap) (L : List Loc) : Prop := ∃ t kc, v = none ∧ Fr n0 L ∧ Keep h0 h [a] ∧ Exa Z h a "com/example/quietzone/quietzone/BitWriter" ∧ Fld Z h a "com/example/quietzone/quietzone/BitWriter" "bytes" "[B" (.ref t) ∧ Fld Z h a "com/example/quietzone/quietzone/BitWriter" "length" "I" (.int (0 : Int32)) ∧ Arv Z h t kc .byte K (own_vs 0) (.int (0 : Int32)) ∧ h0.size ≤ t
set_option maxRecDepth 65536 in
set_option maxHeartbeats 40000000 in
theorem rm1 (l : Launch) (Z : State) (a0 : Array Value) (hw : ∀ d ∈ tables_1, d.before a0 Z = true) (ws : List Jvm.Cond) (a : Addr) (K : Int32)  (h0 : Heap) (n0 : Nat) (Z0 : n0 ≤ h0.size) (E0 : Exa Z h0 a "com/example/quietzone/quietzone/BitWriter") (g0 : n0 ≤ a) (FB : Fld Z h0 a "com/example/quietzone/quietzone/BitWriter" "bytes" "[B" .null) (FL : Fld Z h0 a "com/example/quietzone/quietzone/BitWriter" "length" "I" (.int (0 : Int32))) (hK : ¬ K < 0) (hK3 : K.toNatClampNeg ≤ 3) :
    MetFree l (⟨"com/example/quietzone/quietzone/BitWriter", "<init>", "(I)V"⟩ : MethodName) (head1 (Jvm.Cond.code (⟨"com/example/quietzone/quietzone/BitWriter", "<init>", "(I)V"⟩ : MethodName) prog_7_method_1_code 2 none :: ws) ({ frames := 1, cells := 1, slots := 3, locals := 12 } : Room)) (fun aα Uα => aα = #[(.ref a), (.int K)] ∧ Z.Warmed39 Uα.vm ∧ Uα.heap = h0) (fun _ _ _ _ _ => True) (fun _ Uα oα Uβ => ∃ vα Lα, oα = .returned vα ∧ Q_rm1 Z a K  h0 n0 vα Uβ.heap Lα ∧ FrameEnd Uα oα Uβ Lα ({ frames := 1, cells := 1, slots := 3, locals := 12 } : Room).cells ({ frames := 1, cells := 1, slots := 3, locals := 12 } : Room).slots) := by
  refine MetFree.of_bodySF (plainFor_of_name pn_com_example_quietzone_quietzone_BitWriter) hisR ?_
  intro p e s m args below meth c s₁ Bd hml0 hP hKα
  obtain ⟨rfl, hZ, hh⟩ := hP
  have hx := Bd.exec
  have hby := Bd.bytes
  have hml : c.maxLocals = 2 := hml0
  have hown : s.vm.findClass "com/example/quietzone/quietzone/BitWriter" = some m.cls := findClass_of_methodNamed Bd.named
  have hnm := (name_of_methodNamed Bd.named Bd.method).1
  have X0 : Stand p l e ({ frames := 1, cells := 1, slots := 3, locals := 12 } : Room) s m #[(.ref a), (.int K)] below meth c s₁ [] 0 0 := Stand.of_body Bd
  have e0 : s₁.heap = h0 := by rw [← hh, Bd.state]; rfl
  have N0 := Fr.nil n0
  suffices k0 : Gl p e below s (Q_rm1 Z a K  h0 n0) ({ frames := 1, cells := 1, slots := 3, locals := 12 } : Room).cells ({ frames := 1, cells := 1, slots := 3, locals := 12 } : Room).slots s₁ (mkF m 0 #[.val (.ref a), .val (.int K)] []) from Gl.st (fun τ κ => castTop (ef_rm1 m a K) κ) k0
  refine Gl.st (g' := (mkF m 1 #[.val (.ref a), .val (.int K)] [(.ref a)])) (fun τ κ => XS.aloadN X0.here hx rfl (hb hby d1_0) rfl rfl κ) ?_
  obtain ⟨T32, X32, e32, st32⟩ := initO X0 hx hZ hown (hw _ (List.mem_of_getElem? (i := 7) rfl)) (hw _ (List.mem_of_getElem? (i := 8) rfl)) (hw _ (List.mem_of_getElem? (i := 9) rfl)) e0 (g := (mkF m 1 #[.val (.ref a), .val (.int K)] [(.ref a)])) rfl (by rw [hml]; rfl) rfl (hb hby d1_1) (by decide) (W := 0) (by show 2 * 0 + _ ≤ _; exact Nat.le_of_eq rfl) (by decide)
  refine Gl.st (g' := (mkF m 4 #[.val (.ref a), .val (.int K)] [])) (fun τ κ => st32 _ κ) ?_
  refine Gl.st (g' := (mkF m 5 #[.val (.ref a), .val (.int K)] [(.ref a)])) (fun τ κ => XS.aloadN X32.here hx rfl (hb hby d1_4) rfl rfl κ) ?_
  refine Gl.st (g' := (mkF m 6 #[.val (.ref a), .val (.int K)] [(.int K), (.ref a)])) (fun τ κ => XS.iloadN X32.here hx rfl (hb hby d1_5) rfl κ) ?_
  obtain ⟨T33, h33, k33, X33, e33, E33, A33, st33⟩ := newP X32 hx hZ (hw _ (List.mem_of_getElem? (i := 10) rfl)) e32 (g := (mkF m 6 #[.val (.ref a), .val (.int K)] [(.int K), (.ref a)])) rfl (hb hby d1_6) rfl hK (cap := 3) hK3 (by decide) (by decide) (by decide)
  obtain ⟨b33, g33⟩ : ∃ z, z = h0.size := ⟨_, rfl⟩
  rw [← g33] at A33 st33
  have ne_a_b33 : a ≠ b33 := Nat.ne_of_lt (Nat.lt_of_lt_of_le E0.lt (Nat.le_of_eq g33.symm))
  have E_34 := E0.ext E33
  have F_35 := FB.ext E33
  have F_36 := FL.ext E33
  have g_b33 : n0 ≤ b33 := Nat.le_trans Z0 (Nat.le_of_eq g33.symm)
  have sz_b33 : h0.size ≤ b33 := Nat.le_trans (Keep.refl h0 [a]).1 (Nat.le_of_eq g33.symm)
  have Z33 : n0 ≤ h33.size := Nat.le_trans Z0 E33.1
  have K33 : Keep h0 h33 [a] := (Keep.refl h0 [a]).ext E33
  have V_b33 : Arv Z h33 b33 k33 .byte K [] (.int (0 : Int32)) := Arv.new A33 hK
  refine Gl.st (g' := (mkF m 8 #[.val (.ref a), .val (.int K)] [(.ref b33), (.ref a)])) (fun τ κ => st33 _ κ) ?_
  obtain ⟨T37, h37, X37, e37, W37, st37⟩ := putF X33 hx hZ hown (host := "") (Or.inl (hw _ (List.mem_of_getElem? (i := 11) rfl))) Via.refl e33 F_35 E_34 (Or.inr ⟨(hw _ (List.mem_of_getElem? (i := 12) rfl)), rfl, hnm⟩) (hw _ (List.mem_of_getElem? (i := 2) rfl)) (ty := (.array .byte)) (by decide) rfl rfl (g := (mkF m 8 #[.val (.ref a), .val (.int K)] [(.ref b33), (.ref a)])) rfl rfl (hb hby d1_8)
  have E_38 := E_34.wr W37
  have F_40 := F_36.other W37 (Or.inr (slot_ne (Or.inl (hw _ (List.mem_of_getElem? (i := 30) rfl))) (Or.inr (hw _ (List.mem_of_getElem? (i := 12) rfl))) (by decide) (t := .int) (t' := (.array .byte)) (by decide) (by decide)))
  have V_41 := V_b33.other W37 (Ne.symm ne_a_b33)
  have N37 := Fr.snoc X37 N0 g0
  have Z37 : n0 ≤ h37.size := Nat.le_trans Z33 (Nat.le_of_eq W37.size.symm)
  have K37 : Keep h0 h37 [a] := K33.wr W37 (Or.inl (List.mem_of_getElem? (i := 0) rfl))
  have F_42 := F_35.same W37
  refine Gl.st (g' := (mkF m 11 #[.val (.ref a), .val (.int K)] [])) (fun τ κ => st37 _ κ) ?_
  exact Gl.ret (v := none) X37 Bd.notSynchronized (fun _ => rfl) e37 (fun fs hr => X37.returnOut hx Bd.returns (hb hby d1_11) hr) (by decide) (by decide) ⟨b33, k33, rfl, N37, K37, E_38, F_42, F_40, (V_41.pad own_vs0), sz_b33⟩
theorem d4_0 : decode prog_7_method_4_code 0 = .ok (.aload_n 0, 1) := by decide +kernel
theorem d4_1 : decode prog_7_method_4_code 1 = .ok (.getfield 7, 3) := by decide +kernel
theorem d4_4 : decode prog_7_method_4_code 4 = .ok (.arraylength, 1) := by decide +kernel
theorem d4_5 : decode prog_7_method_4_code 5 = .ok (.newarray .int, 2) := by decide +kernel
theorem d4_7 : decode prog_7_method_4_code 7 = .ok (.astore_n 1, 1) := by decide +kernel
theorem d4_8 : decode prog_7_method_4_code 8 = .ok (.iconst 0, 1) := by decide +kernel
theorem d4_9 : decode prog_7_method_4_code 9 = .ok (.istore_n 2, 1) := by decide +kernel
theorem d4_10 : decode prog_7_method_4_code 10 = .ok (.iload_n 2, 1) := by decide +kernel
theorem d4_11 : decode prog_7_method_4_code 11 = .ok (.aload_n 0, 1) := by decide +kernel
theorem d4_12 : decode prog_7_method_4_code 12 = .ok (.getfield 7, 3) := by decide +kernel
theorem d4_15 : decode prog_7_method_4_code 15 = .ok (.arraylength, 1) := by decide +kernel
theorem d4_16 : decode prog_7_method_4_code 16 = .ok (.if_icmp .ge 22, 3) := by decide +kernel
theorem d4_38 : decode prog_7_method_4_code 38 = .ok (.aload_n 1, 1) := by decide +kernel
theorem d4_39 : decode prog_7_method_4_code 39 = .ok (.areturn, 1) := by decide +kernel
theorem ef_rm_tu0 (m : MethodId) (a : Addr) : entryFrame m #[(.ref a)] 3 = mkF m 0 #[.val (.ref a), .unset, .unset] [] := by first | (simp [entryFrame, mkF, argsToLocals, Value.category]; done) | rfl
def Q_rm_tu0 (Z : State) (a : Addr) (t : Addr) (kc : ClassId) (M : Nat) (h0 : Heap) (n0 : Nat) (v : Option Value) (h : Heap) (L : List Loc) : Prop := ∃ b k, v = some (.ref b) ∧ Fr n0 L ∧ Keep h0 h [] ∧ h0.size ≤ b ∧ Arv Z h b k .int (0 : Int32) [] (.int (0 : Int32))
set_option maxRecDepth 65536 in
set_option maxHeartbeats 40000000 in
theorem rm_tu0 (l : Launch) (Z : State) (a0 : Array Value) (hw : ∀ d ∈ tables_1, d.before a0 Z = true) (ws : List Jvm.Cond) (a : Addr) (t : Addr) (kc : ClassId) (M : Nat) (h0 : Heap) (n0 : Nat) (Z0 : n0 ≤ h0.size) (FB : Fld Z h0 a "com/example/quietzone/quietzone/BitWriter" "bytes" "[B" (.ref t)) (V0 : Arv Z h0 t kc .byte (0 : Int32) (own_vs M) (.int (0 : Int32))) :
    MetFree l (⟨"com/example/quietzone/quietzone/BitWriter", "toUnsignedBytes", "()[I"⟩ : MethodName) (head1 (Jvm.Cond.code (⟨"com/example/quietzone/quietzone/BitWriter", "toUnsignedBytes", "()[I"⟩ : MethodName) prog_7_method_4_code 3 (some (.array .int)) :: ws) ({ frames := 0, cells := 1, slots := 0, locals := 0 } : Room)) (fun aα Uα => aα = #[(.ref a)] ∧ Z.Warmed39 Uα.vm ∧ Uα.heap = h0) (fun _ _ _ _ _ => True) (fun _ Uα oα Uβ => ∃ vα Lα, oα = .returned vα ∧ Q_rm_tu0 Z a t kc M h0 n0 vα Uβ.heap Lα ∧ FrameEnd Uα oα Uβ Lα ({ frames := 0, cells := 1, slots := 0, locals := 0 } : Room).cells ({ frames := 0, cells := 1, slots := 0, locals := 0 } : Room).slots) := by
  refine MetFree.of_bodySF (plainFor_of_name pn_com_example_quietzone_quietzone_BitWriter) hisR ?_
  intro p e s m args below meth c s₁ Bd hml0 hP hKα
  obtain ⟨rfl, hZ, hh⟩ := hP
  have hx := Bd.exec
  have hby := Bd.bytes
  have hml : c.maxLocals = 3 := hml0
  have hown : s.vm.findClass "com/example/quietzone/quietzone/BitWriter" = some m.cls := findClass_of_methodNamed Bd.named
  have hnm := (name_of_methodNamed Bd.named Bd.method).1
  have X0 : Stand p l e ({ frames := 0, cells := 1, slots := 0, locals := 0 } : Room) s m #[(.ref a)] below meth c s₁ [] 0 0 := Stand.of_body Bd
  have e0 : s₁.heap = h0 := by rw [← hh, Bd.state]; rfl
  have N0 := Fr.nil n0
  suffices k0 : Gl p e below s (Q_rm_tu0 Z a t kc M h0 n0) ({ frames := 0, cells := 1, slots := 0, locals := 0 } : Room).cells ({ frames := 0, cells := 1, slots := 0, locals := 0 } : Room).slots s₁ (mkF m 0 #[.val (.ref a), .unset, .unset] []) from Gl.st (fun τ κ => castTop (ef_rm_tu0 m a) κ) k0
  refine Gl.st (g' := (mkF m 1 #[.val (.ref a), .unset, .unset] [(.ref a)])) (fun τ κ => XS.aloadN X0.here hx rfl (hb hby d4_0) rfl rfl κ) ?_
  obtain ⟨T43, X43, e43, st43⟩ := getF X0 hx hZ hown (host := "") (Or.inl (hw _ (List.mem_of_getElem? (i := 11) rfl))) Via.refl e0 FB (g := (mkF m 1 #[.val (.ref a), .unset, .unset] [(.ref a)])) rfl rfl (hb hby d4_1)
  refine Gl.st (g' := (mkF m 4 #[.val (.ref a), .unset, .unset] [(.ref t)])) (fun τ κ => st43 _ κ) ?_
  obtain ⟨cl_o44, Ar_o44, q_o44, S_o44, M_o44, H_o44, G_o44⟩ := id V0
  refine Gl.st (g' := (mkF m 5 #[.val (.ref a), .unset, .unset] [(.int (0 : Int32))])) (fun τ κ => X43.arraylength hx (by rw [e43]; exact Ar_o44.1) (State.isArrayOf_alike hZ.alike Ar_o44.2.1) (g := (mkF m 4 #[.val (.ref a), .unset, .unset] [(.ref t)])) rfl rfl (hb hby d4_4) _ (by rw [len_of S_o44 M_o44]; exact κ)) ?_
  obtain ⟨T45, h45, k45, X45, e45, E45, A45, st45⟩ := newP X43 hx hZ (hw _ (List.mem_of_getElem? (i := 23) rfl)) e43 (g := (mkF m 5 #[.val (.ref a), .unset, .unset] [(.int (0 : Int32))])) rfl (hb hby d4_5) rfl (by decide) (cap := 0) (by decide) (by decide) (by decide) (by decide)
  obtain ⟨b45, g45⟩ : ∃ z, z = h0.size := ⟨_, rfl⟩
  rw [← g45] at A45 st45
  have ne_a_b45 : a ≠ b45 := Nat.ne_of_lt (Nat.lt_of_lt_of_le FB.lt (Nat.le_of_eq g45.symm))
  have ne_t_b45 : t ≠ b45 := Nat.ne_of_lt (Nat.lt_of_lt_of_le V0.lt (Nat.le_of_eq g45.symm))
  have F_46 := FB.ext E45
  have V_47 := V0.ext E45
  have g_b45 : n0 ≤ b45 := Nat.le_trans Z0 (Nat.le_of_eq g45.symm)
  have sz_b45 : h0.size ≤ b45 := Nat.le_trans (Keep.refl h0 []).1 (Nat.le_of_eq g45.symm)
  have Z45 : n0 ≤ h45.size := Nat.le_trans Z0 E45.1
  have K45 : Keep h0 h45 [] := (Keep.refl h0 []).ext E45
  have V_b45 : Arv Z h45 b45 k45 .int (0 : Int32) [] (.int (0 : Int32)) := (Arv.new A45 (by decide)).pad (pad_rep [] (.int (0 : Int32)) 0)
  refine Gl.st (g' := (mkF m 7 #[.val (.ref a), .unset, .unset] [(.ref b45)])) (fun τ κ => st45 _ κ) ?_
  refine Gl.st (g' := (mkF m 8 #[.val (.ref a), .val (.ref b45), .unset] [])) (fun τ κ => XS.astoreN X45.here hx rfl (hb hby d4_7) rfl rfl (l' := #[.val (.ref a), .val (.ref b45), .unset]) rfl κ) ?_
  refine Gl.st (g' := (mkF m 9 #[.val (.ref a), .val (.ref b45), .unset] [(.int (0 : Int32))])) (fun τ κ => XS.iconst X45.here hx rfl (hb hby d4_8) κ) ?_
  refine Gl.st (g' := (mkF m 10 #[.val (.ref a), .val (.ref b45), .val (.int (0 : Int32))] [])) (fun τ κ => XS.istoreN X45.here hx rfl (hb hby d4_9) rfl (l' := #[.val (.ref a), .val (.ref b45), .val (.int (0 : Int32))]) rfl κ) ?_
  refine Gl.st (g' := (mkF m 11 #[.val (.ref a), .val (.ref b45), .val (.int (0 : Int32))] [(.int (0 : Int32))])) (fun τ κ => XS.iloadN X45.here hx rfl (hb hby d4_10) rfl κ) ?_
  refine Gl.st (g' := (mkF m 12 #[.val (.ref a), .val (.ref b45), .val (.int (0 : Int32))] [(.ref a), (.int (0 : Int32))])) (fun τ κ => XS.aloadN X45.here hx rfl (hb hby d4_11) rfl rfl κ) ?_
  obtain ⟨T48, X48, e48, st48⟩ := getF X45 hx hZ hown (host := "") (Or.inl (hw _ (List.mem_of_getElem? (i := 11) rfl))) Via.refl e45 F_46 (g := (mkF m 12 #[.val (.ref a), .val (.ref b45), .val (.int (0 : Int32))] [(.ref a), (.int (0 : Int32))])) rfl rfl (hb hby d4_12)
  refine Gl.st (g' := (mkF m 15 #[.val (.ref a), .val (.ref b45), .val (.int (0 : Int32))] [(.ref t), (.int (0 : Int32))])) (fun τ κ => st48 _ κ) ?_
  obtain ⟨cl_o49, Ar_o49, q_o49, S_o49, M_o49, H_o49, G_o49⟩ := id V_47
  refine Gl.st (g' := (mkF m 16 #[.val (.ref a), .val (.ref b45), .val (.int (0 : Int32))] [(.int (0 : Int32)), (.int (0 : Int32))])) (fun τ κ => X48.arraylength hx (by rw [e48]; exact Ar_o49.1) (State.isArrayOf_alike hZ.alike Ar_o49.2.1) (g := (mkF m 15 #[.val (.ref a), .val (.ref b45), .val (.int (0 : Int32))] [(.ref t), (.int (0 : Int32))])) rfl rfl (hb hby d4_15) _ (by rw [len_of S_o49 M_o49]; exact κ)) ?_
  have hc50 : ¬ ((0 : Int32) < (0 : Int32)) := by decide
  refine Gl.st (g' := (mkF m 38 #[.val (.ref a), .val (.ref b45), .val (.int (0 : Int32))] [])) (fun τ κ => XS.icmpYes X48.here hx rfl (pc0 := 16) (pc' := 38) rfl (hb hby d4_16) rfl (flt hc50).2.1 (by decide) (by decide) κ) ?_
  refine Gl.st (g' := (mkF m 39 #[.val (.ref a), .val (.ref b45), .val (.int (0 : Int32))] [(.ref b45)])) (fun τ κ => XS.aloadN X48.here hx rfl (hb hby d4_38) rfl rfl κ) ?_
  exact Gl.ret (v := some (.ref b45)) X48 Bd.notSynchronized (fun h => by rw [Bd.returns] at h; cases h) e48 (fun fs hr => (by
      jvm_step X48.here [X48.here.top, hx, (hb hby d4_39), X48.method', Bd.returns, Value.isRef, FieldType.isReference]
      first | (intro acts; rw [hr _ acts rfl rfl rfl]) | rw [hr _ _ rfl rfl rfl]
      exact Steps.refl _)) (by decide) (by decide) ⟨b45, k45, rfl, N0, K45, sz_b45, V_b45⟩
theorem d4_19 : decode prog_7_method_4_code 19 = .ok (.aload_n 1, 1) := by decide +kernel
theorem d4_20 : decode prog_7_method_4_code 20 = .ok (.iload_n 2, 1) := by decide +kernel
theorem d4_21 : decode prog_7_method_4_code 21 = .ok (.aload_n 0, 1) := by decide +kernel
theorem d4_22 : decode prog_7_method_4_code 22 = .ok (.getfield 7, 3) := by decide +kernel
theorem d4_25 : decode prog_7_method_4_code 25 = .ok (.iload_n 2, 1) := by decide +kernel
theorem d4_26 : decode prog_7_method_4_code 26 = .ok (.baload, 1) := by decide +kernel
theorem d4_27 : decode prog_7_method_4_code 27 = .ok (.sipush 255, 3) := by decide +kernel
theorem d4_30 : decode prog_7_method_4_code 30 = .ok (.iand, 1) := by decide +kernel
theorem d4_31 : decode prog_7_method_4_code 31 = .ok (.iastore, 1) := by decide +kernel
theorem d4_32 : decode prog_7_method_4_code 32 = .ok (.iinc 2 1, 3) := by decide +kernel
theorem d4_35 : decode prog_7_method_4_code 35 = .ok (.goto (-25), 3) := by decide +kernel
theorem ef_rm_tu1 (m : MethodId) (a : Addr) : entryFrame m #[(.ref a)] 3 = mkF m 0 #[.val (.ref a), .unset, .unset] [] := by first | (simp [entryFrame, mkF, argsToLocals, Value.category]; done) | rfl
def Q_rm_tu1 (Z : State) (a : Addr) (t : Addr) (kc : ClassId) (M : Nat) (h0 : Heap) (n0 : Nat) (v : Option Value) (h : Heap) (L : List Loc) : Prop := ∃ b k, v = some (.ref b) ∧ Fr n0 L ∧ Keep h0 h [] ∧ h0.size ≤ b ∧ Arv Z h b k .int (1 : Int32) [(.int (own_by M 0 &&& (255 : Int32)))] (.int (0 : Int32))
set_option maxRecDepth 65536 in
set_option maxHeartbeats 40000000 in
theorem rm_tu1 (l : Launch) (Z : State) (a0 : Array Value) (hw : ∀ d ∈ tables_1, d.before a0 Z = true) (ws : List Jvm.Cond) (a : Addr) (t : Addr) (kc : ClassId) (M : Nat) (h0 : Heap) (n0 : Nat) (Z0 : n0 ≤ h0.size) (FB : Fld Z h0 a "com/example/quietzone/quietzone/BitWriter" "bytes" "[B" (.ref t)) (V0 : Arv Z h0 t kc .byte (1 : Int32) (own_vs M) (.int (0 : Int32))) :
    MetFree l (⟨"com/example/quietzone/quietzone/BitWriter", "toUnsignedBytes", "()[I"⟩ : MethodName) (head1 (Jvm.Cond.code (⟨"com/example/quietzone/quietzone/BitWriter", "toUnsignedBytes", "()[I"⟩ : MethodName) prog_7_method_4_code 3 (some (.array .int)) :: ws) ({ frames := 0, cells := 1, slots := 1, locals := 0 } : Room)) (fun aα Uα => aα = #[(.ref a)] ∧ Z.Warmed39 Uα.vm ∧ Uα.heap = h0) (fun _ _ _ _ _ => True) (fun _ Uα oα Uβ => ∃ vα Lα, oα = .returned vα ∧ Q_rm_tu1 Z a t kc M h0 n0 vα Uβ.heap Lα ∧ FrameEnd Uα oα Uβ Lα ({ frames := 0, cells := 1, slots := 1, locals := 0 } : Room).cells ({ frames := 0, cells := 1, slots := 1, locals := 0 } : Room).slots) := by
  refine MetFree.of_bodySF (plainFor_of_name pn_com_example_quietzone_quietzone_BitWriter) hisR ?_
  intro p e s m args below meth c s₁ Bd hml0 hP hKα
  obtain ⟨rfl, hZ, hh⟩ := hP
  have hx := Bd.exec
  have hby := Bd.bytes
  have hml : c.maxLocals = 3 := hml0
  have hown : s.vm.findClass "com/example/quietzone/quietzone/BitWriter" = some m.cls := findClass_of_methodNamed Bd.named
  have hnm := (name_of_methodNamed Bd.named Bd.method).1
  have X0 : Stand p l e ({ frames := 0, cells := 1, slots := 1, locals := 0 } : Room) s m #[(.ref a)] below meth c s₁ [] 0 0 := Stand.of_body Bd
  have e0 : s₁.heap = h0 := by rw [← hh, Bd.state]; rfl
  have N0 := Fr.nil n0
  suffices k0 : Gl p e below s (Q_rm_tu1 Z a t kc M h0 n0) ({ frames := 0, cells := 1, slots := 1, locals := 0 } : Room).cells ({ frames := 0, cells := 1, slots := 1, locals := 0 } : Room).slots s₁ (mkF m 0 #[.val (.ref a), .unset, .unset] []) from Gl.st (fun τ κ => castTop (ef_rm_tu1 m a) κ) k0
  refine Gl.st (g' := (mkF m 1 #[.val (.ref a), .unset, .unset] [(.ref a)])) (fun τ κ => XS.aloadN X0.here hx rfl (hb hby d4_0) rfl rfl κ) ?_
  obtain ⟨T51, X51, e51, st51⟩ := getF X0 hx hZ hown (host := "") (Or.inl (hw _ (List.mem_of_getElem? (i := 11) rfl))) Via.refl e0 FB (g := (mkF m 1 #[.val (.ref a), .unset, .unset] [(.ref a)])) rfl rfl (hb hby d4_1)
  refine Gl.st (g' := (mkF m 4 #[.val (.ref a), .unset, .unset] [(.ref t)])) (fun τ κ => st51 _ κ) ?_
  obtain ⟨cl_o52, Ar_o52, q_o52, S_o52, M_o52, H_o52, G_o52⟩ := id V0
  refine Gl.st (g' := (mkF m 5 #[.val (.ref a), .unset, .unset] [(.int (1 : Int32))])) (fun τ κ => X51.arraylength hx (by rw [e51]; exact Ar_o52.1) (State.isArrayOf_alike hZ.alike Ar_o52.2.1) (g := (mkF m 4 #[.val (.ref a), .unset, .unset] [(.ref t)])) rfl rfl (hb hby d4_4) _ (by rw [len_of S_o52 M_o52]; exact κ)) ?_
  obtain ⟨T53, h53, k53, X53, e53, E53, A53, st53⟩ := newP X51 hx hZ (hw _ (List.mem_of_getElem? (i := 23) rfl)) e51 (g := (mkF m 5 #[.val (.ref a), .unset, .unset] [(.int (1 : Int32))])) rfl (hb hby d4_5) rfl (by decide) (cap := 1) (by decide) (by decide) (by decide) (by decide)
  obtain ⟨b53, g53⟩ : ∃ z, z = h0.size := ⟨_, rfl⟩
  rw [← g53] at A53 st53
  have ne_a_b53 : a ≠ b53 := Nat.ne_of_lt (Nat.lt_of_lt_of_le FB.lt (Nat.le_of_eq g53.symm))
  have ne_t_b53 : t ≠ b53 := Nat.ne_of_lt (Nat.lt_of_lt_of_le V0.lt (Nat.le_of_eq g53.symm))
  have F_54 := FB.ext E53
  have V_55 := V0.ext E53
  have g_b53 : n0 ≤ b53 := Nat.le_trans Z0 (Nat.le_of_eq g53.symm)
  have sz_b53 : h0.size ≤ b53 := Nat.le_trans (Keep.refl h0 []).1 (Nat.le_of_eq g53.symm)
  have Z53 : n0 ≤ h53.size := Nat.le_trans Z0 E53.1
  have K53 : Keep h0 h53 [] := (Keep.refl h0 []).ext E53
  have V_b53 : Arv Z h53 b53 k53 .int (1 : Int32) [(.int (0 : Int32))] (.int (0 : Int32)) := (Arv.new A53 (by decide)).pad (pad_rep [] (.int (0 : Int32)) 1)
  refine Gl.st (g' := (mkF m 7 #[.val (.ref a), .unset, .unset] [(.ref b53)])) (fun τ κ => st53 _ κ) ?_
  refine Gl.st (g' := (mkF m 8 #[.val (.ref a), .val (.ref b53), .unset] [])) (fun τ κ => XS.astoreN X53.here hx rfl (hb hby d4_7) rfl rfl (l' := #[.val (.ref a), .val (.ref b53), .unset]) rfl κ) ?_
  refine Gl.st (g' := (mkF m 9 #[.val (.ref a), .val (.ref b53), .unset] [(.int (0 : Int32))])) (fun τ κ => XS.iconst X53.here hx rfl (hb hby d4_8) κ) ?_
  refine Gl.st (g' := (mkF m 10 #[.val (.ref a), .val (.ref b53), .val (.int (0 : Int32))] [])) (fun τ κ => XS.istoreN X53.here hx rfl (hb hby d4_9) rfl (l' := #[.val (.ref a), .val (.ref b53), .val (.int (0 : Int32))]) rfl κ) ?_
  refine Gl.st (g' := (mkF m 11 #[.val (.ref a), .val (.ref b53), .val (.int (0 : Int32))] [(.int (0 : Int32))])) (fun τ κ => XS.iloadN X53.here hx rfl (hb hby d4_10) rfl κ) ?_
  refine Gl.st (g' := (mkF m 12 #[.val (.ref a), .val (.ref b53), .val (.int (0 : Int32))] [(.ref a), (.int (0 : Int32))])) (fun τ κ => XS.aloadN X53.here hx rfl (hb hby d4_11) rfl rfl κ) ?_
  obtain ⟨T56, X56, e56, st56⟩ := getF X53 hx hZ hown (host := "") (Or.inl (hw _ (List.mem_of_getElem? (i := 11) rfl))) Via.refl e53 F_54 (g := (mkF m 12 #[.val (.ref a), .val (.ref b53), .val (.int (0 : Int32))] [(.ref a), (.int (0 : Int32))])) rfl rfl (hb hby d4_12)
  refine Gl.st (g' := (mkF m 15 #[.val (.ref a), .val (.ref b53), .val (.int (0 : Int32))] [(.ref t), (.int (0 : Int32))])) (fun τ κ => st56 _ κ) ?_
  obtain ⟨cl_o57, Ar_o57, q_o57, S_o57, M_o57, H_o57, G_o57⟩ := id V_55
  refine Gl.st (g' := (mkF m 16 #[.val (.ref a), .val (.ref b53), .val (.int (0 : Int32))] [(.int (1 : Int32)), (.int (0 : Int32))])) (fun τ κ => X56.arraylength hx (by rw [e56]; exact Ar_o57.1) (State.isArrayOf_alike hZ.alike Ar_o57.2.1) (g := (mkF m 15 #[.val (.ref a), .val (.ref b53), .val (.int (0 : Int32))] [(.ref t), (.int (0 : Int32))])) rfl rfl (hb hby d4_15) _ (by rw [len_of S_o57 M_o57]; exact κ)) ?_
  have hc58 : (0 : Int32) < (1 : Int32) := by decide
  refine Gl.st (g' := (mkF m 19 #[.val (.ref a), .val (.ref b53), .val (.int (0 : Int32))] [])) (fun τ κ => XS.icmpNo X56.here hx rfl (hb hby d4_16) rfl (tlt hc58).2.1 κ) ?_
  refine Gl.st (g' := (mkF m 20 #[.val (.ref a), .val (.ref b53), .val (.int (0 : Int32))] [(.ref b53)])) (fun τ κ => XS.aloadN X56.here hx rfl (hb hby d4_19) rfl rfl κ) ?_
  refine Gl.st (g' := (mkF m 21 #[.val (.ref a), .val (.ref b53), .val (.int (0 : Int32))] [(.int (0 : Int32)), (.ref b53)])) (fun τ κ => XS.iloadN X56.here hx rfl (hb hby d4_20) rfl κ) ?_
  refine Gl.st (g' := (mkF m 22 #[.val (.ref a), .val (.ref b53), .val (.int (0 : Int32))] [(.ref a), (.int (0 : Int32)), (.ref b53)])) (fun τ κ => XS.aloadN X56.here hx rfl (hb hby d4_21) rfl rfl κ) ?_
  obtain ⟨T59, X59, e59, st59⟩ := getF X56 hx hZ hown (host := "") (Or.inl (hw _ (List.mem_of_getElem? (i := 11) rfl))) Via.refl e56 F_54 (g := (mkF m 22 #[.val (.ref a), .val (.ref b53), .val (.int (0 : Int32))] [(.ref a), (.int (0 : Int32)), (.ref b53)])) rfl rfl (hb hby d4_22)
  refine Gl.st (g' := (mkF m 25 #[.val (.ref a), .val (.ref b53), .val (.int (0 : Int32))] [(.ref t), (.int (0 : Int32)), (.ref b53)])) (fun τ κ => st59 _ κ) ?_
  refine Gl.st (g' := (mkF m 26 #[.val (.ref a), .val (.ref b53), .val (.int (0 : Int32))] [(.int (0 : Int32)), (.ref t), (.int (0 : Int32)), (.ref b53)])) (fun τ κ => XS.iloadN X59.here hx rfl (hb hby d4_25) rfl κ) ?_
  obtain ⟨cl_o60, Ar_o60, q_o60, S_o60, M_o60, H_o60, G_o60⟩ := id V_55
  have hin_o60 : ¬ ((0 : Int32) < 0 ∨ cl_o60.slots.size ≤ ((0 : Int32)).toNatClampNeg) := inb_of S_o60 ⟨by decide, by decide⟩
  refine Gl.st (g' := (mkF m 27 #[.val (.ref a), .val (.ref b53), .val (.int (0 : Int32))] [(.int (own_by M 0)), (.int (0 : Int32)), (.ref b53)])) (fun τ κ => X59.baloadBytes hx (j := (0 : Int32)) (v := (.int (own_by M 0))) (by rw [e59]; exact Ar_o60.1) (State.isArrayOf_alike hZ.alike Ar_o60.2.1) Ar_o60.2.2 hin_o60 (H_o60 0 (by rw [S_o60]; decide)) (g := (mkF m 26 #[.val (.ref a), .val (.ref b53), .val (.int (0 : Int32))] [(.int (0 : Int32)), (.ref t), (.int (0 : Int32)), (.ref b53)])) rfl rfl (hb hby d4_26) _ κ) ?_
  refine Gl.st (g' := (mkF m 30 #[.val (.ref a), .val (.ref b53), .val (.int (0 : Int32))] [(.int (255 : Int32)), (.int (own_by M 0)), (.int (0 : Int32)), (.ref b53)])) (fun τ κ => XS.sipush X59.here hx rfl (hb hby d4_27) κ) ?_
  refine Gl.st (g' := (mkF m 31 #[.val (.ref a), .val (.ref b53), .val (.int (0 : Int32))] [(.int ((own_by M 0) &&& (255 : Int32))), (.int (0 : Int32)), (.ref b53)])) (fun τ κ => XS.iand X59.here hx rfl (hb hby d4_30) rfl κ) ?_
  obtain ⟨cl_o61, Ar_o61, q_o61, S_o61, M_o61, H_o61, G_o61⟩ := id V_b53
  have hin_o61 : ¬ ((0 : Int32) < 0 ∨ cl_o61.slots.size ≤ ((0 : Int32)).toNatClampNeg) := inb_of S_o61 ⟨by decide, by decide⟩
  obtain ⟨T62, h62, X62, e62, W62, st62⟩ := stI X59 hx hZ e59 Ar_o61 (j := (0 : Int32)) hin_o61 (g := (mkF m 31 #[.val (.ref a), .val (.ref b53), .val (.int (0 : Int32))] [(.int ((own_by M 0) &&& (255 : Int32))), (.int (0 : Int32)), (.ref b53)])) rfl rfl (hb hby d4_31)
  have F_63 := F_54.other W62 (Or.inl ne_a_b53)
  have V_64 := V_55.other W62 ne_t_b53
  have N62 := Fr.snoc X62 N0 g_b53
  have Z62 : n0 ≤ h62.size := Nat.le_trans Z53 (Nat.le_of_eq W62.size.symm)
  have K62 : Keep h0 h62 [] := K53.wr W62 (Or.inr sz_b53)
  have V_b53_62 : Arv Z h62 b53 k53 .int (1 : Int32) [(.int ((own_by M 0) &&& (255 : Int32)))] (.int (0 : Int32)) := Arv.set Ar_o61 q_o61 S_o61 M_o61 H_o61 G_o61 rfl W62 0 rfl (Nat.le_of_ble_eq_true rfl)
  refine Gl.st (g' := (mkF m 32 #[.val (.ref a), .val (.ref b53), .val (.int (0 : Int32))] [])) (fun τ κ => st62 _ κ) ?_
  refine Gl.st (g' := (mkF m 35 #[.val (.ref a), .val (.ref b53), .val (.int (1 : Int32))] [])) (fun τ κ => XS.iinc X62.here hx rfl (hb hby d4_32) rfl (l' := #[.val (.ref a), .val (.ref b53), .val (.int (1 : Int32))]) rfl κ) ?_
  refine Gl.st (g' := (mkF m 10 #[.val (.ref a), .val (.ref b53), .val (.int (1 : Int32))] [])) (fun τ κ => XS.goto X62.here hx rfl (pc0 := 35) (pc' := 10) rfl (hb hby d4_35) (by decide) (by decide) κ) ?_
  refine Gl.st (g' := (mkF m 11 #[.val (.ref a), .val (.ref b53), .val (.int (1 : Int32))] [(.int (1 : Int32))])) (fun τ κ => XS.iloadN X62.here hx rfl (hb hby d4_10) rfl κ) ?_
  refine Gl.st (g' := (mkF m 12 #[.val (.ref a), .val (.ref b53), .val (.int (1 : Int32))] [(.ref a), (.int (1 : Int32))])) (fun τ κ => XS.aloadN X62.here hx rfl (hb hby d4_11) rfl rfl κ) ?_
  obtain ⟨T66, X66, e66, st66⟩ := getF X62 hx hZ hown (host := "") (Or.inl (hw _ (List.mem_of_getElem? (i := 11) rfl))) Via.refl e62 F_63 (g := (mkF m 12 #[.val (.ref a), .val (.ref b53), .val (.int (1 : Int32))] [(.ref a), (.int (1 : Int32))])) rfl rfl (hb hby d4_12)
  refine Gl.st (g' := (mkF m 15 #[.val (.ref a), .val (.ref b53), .val (.int (1 : Int32))] [(.ref t), (.int (1 : Int32))])) (fun τ κ => st66 _ κ) ?_
  obtain ⟨cl_o67, Ar_o67, q_o67, S_o67, M_o67, H_o67, G_o67⟩ := id V_64
  refine Gl.st (g' := (mkF m 16 #[.val (.ref a), .val (.ref b53), .val (.int (1 : Int32))] [(.int (1 : Int32)), (.int (1 : Int32))])) (fun τ κ => X66.arraylength hx (by rw [e66]; exact Ar_o67.1) (State.isArrayOf_alike hZ.alike Ar_o67.2.1) (g := (mkF m 15 #[.val (.ref a), .val (.ref b53), .val (.int (1 : Int32))] [(.ref t), (.int (1 : Int32))])) rfl rfl (hb hby d4_15) _ (by rw [len_of S_o67 M_o67]; exact κ)) ?_
  have hc68 : ¬ ((1 : Int32) < (1 : Int32)) := by decide
  refine Gl.st (g' := (mkF m 38 #[.val (.ref a), .val (.ref b53), .val (.int (1 : Int32))] [])) (fun τ κ => XS.icmpYes X66.here hx rfl (pc0 := 16) (pc' := 38) rfl (hb hby d4_16) rfl (flt hc68).2.1 (by decide) (by decide) κ) ?_
  refine Gl.st (g' := (mkF m 39 #[.val (.ref a), .val (.ref b53), .val (.int (1 : Int32))] [(.ref b53)])) (fun τ κ => XS.aloadN X66.here hx rfl (hb hby d4_38) rfl rfl κ) ?_
  exact Gl.ret (v := some (.ref b53)) X66 Bd.notSynchronized (fun h => by rw [Bd.returns] at h; cases h) e66 (fun fs hr => (by
      jvm_step X66.here [X66.here.top, hx, (hb hby d4_39), X66.method', Bd.returns, Value.isRef, FieldType.isReference]
      first | (intro acts; rw [hr _ acts rfl rfl rfl]) | rw [hr _ _ rfl rfl rfl]
      exact Steps.refl _)) (by decide) (by decide) ⟨b53, k53, rfl, N62, K62, sz_b53, V_b53_62⟩
theorem ef_rm_tu2 (m : MethodId) (a : Addr) : entryFrame m #[(.ref a)] 3 = mkF m 0 #[.val (.ref a), .unset, .unset] [] := by first | (simp [entryFrame, mkF, argsToLocals, Value.category]; done) | rfl
def Q_rm_tu2 (Z : State) (a : Addr) (t : Addr) (kc : ClassId) (M : Nat) (h0 : Heap) (n0 : Nat) (v : Option Value) (h : Heap) (L : List Loc) : Prop := ∃ b k, v = some (.ref b) ∧ Fr n0 L ∧ Keep h0 h [] ∧ h0.size ≤ b ∧ Arv Z h b k .int (2 : Int32) [(.int (own_by M 0 &&& (255 : Int32))), (.int (own_by M 1 &&& (255 : Int32)))] (.int (0 : Int32))
set_option maxRecDepth 65536 in
set_option maxHeartbeats 40000000 in
theorem rm_tu2 (l : Launch) (Z : State) (a0 : Array Value) (hw : ∀ d ∈ tables_1, d.before a0 Z = true) (ws : List Jvm.Cond) (a : Addr) (t : Addr) (kc : ClassId) (M : Nat) (h0 : Heap) (n0 : Nat) (Z0 : n0 ≤ h0.size) (FB : Fld Z h0 a "com/example/quietzone/quietzone/BitWriter" "bytes" "[B" (.ref t)) (V0 : Arv Z h0 t kc .byte (2 : Int32) (own_vs M) (.int (0 : Int32))) :
    MetFree l (⟨"com/example/quietzone/quietzone/BitWriter", "toUnsignedBytes", "()[I"⟩ : MethodName) (head1 (Jvm.Cond.code (⟨"com/example/quietzone/quietzone/BitWriter", "toUnsignedBytes", "()[I"⟩ : MethodName) prog_7_method_4_code 3 (some (.array .int)) :: ws) ({ frames := 0, cells := 1, slots := 2, locals := 0 } : Room)) (fun aα Uα => aα = #[(.ref a)] ∧ Z.Warmed39 Uα.vm ∧ Uα.heap = h0) (fun _ _ _ _ _ => True) (fun _ Uα oα Uβ => ∃ vα Lα, oα = .returned vα ∧ Q_rm_tu2 Z a t kc M h0 n0 vα Uβ.heap Lα ∧ FrameEnd Uα oα Uβ Lα ({ frames := 0, cells := 1, slots := 2, locals := 0 } : Room).cells ({ frames := 0, cells := 1, slots := 2, locals := 0 } : Room).slots) := by
  refine MetFree.of_bodySF (plainFor_of_name pn_com_example_quietzone_quietzone_BitWriter) hisR ?_
  intro p e s m args below meth c s₁ Bd hml0 hP hKα
  obtain ⟨rfl, hZ, hh⟩ := hP
  have hx := Bd.exec
  have hby := Bd.bytes
  have hml : c.maxLocals = 3 := hml0
  have hown : s.vm.findClass "com/example/quietzone/quietzone/BitWriter" = some m.cls := findClass_of_methodNamed Bd.named
  have hnm := (name_of_methodNamed Bd.named Bd.method).1
  have X0 : Stand p l e ({ frames := 0, cells := 1, slots := 2, locals := 0 } : Room) s m #[(.ref a)] below meth c s₁ [] 0 0 := Stand.of_body Bd
  have e0 : s₁.heap = h0 := by rw [← hh, Bd.state]; rfl
  have N0 := Fr.nil n0
  suffices k0 : Gl p e below s (Q_rm_tu2 Z a t kc M h0 n0) ({ frames := 0, cells := 1, slots := 2, locals := 0 } : Room).cells ({ frames := 0, cells := 1, slots := 2, locals := 0 } : Room).slots s₁ (mkF m 0 #[.val (.ref a), .unset, .unset] []) from Gl.st (fun τ κ => castTop (ef_rm_tu2 m a) κ) k0
  refine Gl.st (g' := (mkF m 1 #[.val (.ref a), .unset, .unset] [(.ref a)])) (fun τ κ => XS.aloadN X0.here hx rfl (hb hby d4_0) rfl rfl κ) ?_
  obtain ⟨T69, X69, e69, st69⟩ := getF X0 hx hZ hown (host := "") (Or.inl (hw _ (List.mem_of_getElem? (i := 11) rfl))) Via.refl e0 FB (g := (mkF m 1 #[.val (.ref a), .unset, .unset] [(.ref a)])) rfl rfl (hb hby d4_1)
  refine Gl.st (g' := (mkF m 4 #[.val (.ref a), .unset, .unset] [(.ref t)])) (fun τ κ => st69 _ κ) ?_
  obtain ⟨cl_o70, Ar_o70, q_o70, S_o70, M_o70, H_o70, G_o70⟩ := id V0
  refine Gl.st (g' := (mkF m 5 #[.val (.ref a), .unset, .unset] [(.int (2 : Int32))])) (fun τ κ => X69.arraylength hx (by rw [e69]; exact Ar_o70.1) (State.isArrayOf_alike hZ.alike Ar_o70.2.1) (g := (mkF m 4 #[.val (.ref a), .unset, .unset] [(.ref t)])) rfl rfl (hb hby d4_4) _ (by rw [len_of S_o70 M_o70]; exact κ)) ?_
  obtain ⟨T71, h71, k71, X71, e71, E71, A71, st71⟩ := newP X69 hx hZ (hw _ (List.mem_of_getElem? (i := 23) rfl)) e69 (g := (mkF m 5 #[.val (.ref a), .unset, .unset] [(.int (2 : Int32))])) rfl (hb hby d4_5) rfl (by decide) (cap := 2) (by decide) (by decide) (by decide) (by decide)
  obtain ⟨b71, g71⟩ : ∃ z, z = h0.size := ⟨_, rfl⟩
  rw [← g71] at A71 st71
  have ne_a_b71 : a ≠ b71 := Nat.ne_of_lt (Nat.lt_of_lt_of_le FB.lt (Nat.le_of_eq g71.symm))
  have ne_t_b71 : t ≠ b71 := Nat.ne_of_lt (Nat.lt_of_lt_of_le V0.lt (Nat.le_of_eq g71.symm))
  have F_72 := FB.ext E71
  have V_73 := V0.ext E71
  have g_b71 : n0 ≤ b71 := Nat.le_trans Z0 (Nat.le_of_eq g71.symm)
  have sz_b71 : h0.size ≤ b71 := Nat.le_trans (Keep.refl h0 []).1 (Nat.le_of_eq g71.symm)
  have Z71 : n0 ≤ h71.size := Nat.le_trans Z0 E71.1
  have K71 : Keep h0 h71 [] := (Keep.refl h0 []).ext E71
  have V_b71 : Arv Z h71 b71 k71 .int (2 : Int32) [(.int (0 : Int32)), (.int (0 : Int32))] (.int (0 : Int32)) := (Arv.new A71 (by decide)).pad (pad_rep [] (.int (0 : Int32)) 2)
  refine Gl.st (g' := (mkF m 7 #[.val (.ref a), .unset, .unset] [(.ref b71)])) (fun τ κ => st71 _ κ) ?_
  refine Gl.st (g' := (mkF m 8 #[.val (.ref a), .val (.ref b71), .unset] [])) (fun τ κ => XS.astoreN X71.here hx rfl (hb hby d4_7) rfl rfl (l' := #[.val (.ref a), .val (.ref b71), .unset]) rfl κ) ?_
  refine Gl.st (g' := (mkF m 9 #[.val (.ref a), .val (.ref b71), .unset] [(.int (0 : Int32))])) (fun τ κ => XS.iconst X71.here hx rfl (hb hby d4_8) κ) ?_
  refine Gl.st (g' := (mkF m 10 #[.val (.ref a), .val (.ref b71), .val (.int (0 : Int32))] [])) (fun τ κ => XS.istoreN X71.here hx rfl (hb hby d4_9) rfl (l' := #[.val (.ref a), .val (.ref b71), .val (.int (0 : Int32))]) rfl κ) ?_
  refine Gl.st (g' := (mkF m 11 #[.val (.ref a), .val (.ref b71), .val (.int (0 : Int32))] [(.int (0 : Int32))])) (fun τ κ => XS.iloadN X71.here hx rfl (hb hby d4_10) rfl κ) ?_
  refine Gl.st (g' := (mkF m 12 #[.val (.ref a), .val (.ref b71), .val (.int (0 : Int32))] [(.ref a), (.int (0 : Int32))])) (fun τ κ => XS.aloadN X71.here hx rfl (hb hby d4_11) rfl rfl κ) ?_
  obtain ⟨T74, X74, e74, st74⟩ := getF X71 hx hZ hown (host := "") (Or.inl (hw _ (List.mem_of_getElem? (i := 11) rfl))) Via.refl e71 F_72 (g := (mkF m 12 #[.val (.ref a), .val (.ref b71), .val (.int (0 : Int32))] [(.ref a), (.int (0 : Int32))])) rfl rfl (hb hby d4_12)
  refine Gl.st (g' := (mkF m 15 #[.val (.ref a), .val (.ref b71), .val (.int (0 : Int32))] [(.ref t), (.int (0 : Int32))])) (fun τ κ => st74 _ κ) ?_
  obtain ⟨cl_o75, Ar_o75, q_o75, S_o75, M_o75, H_o75, G_o75⟩ := id V_73
  refine Gl.st (g' := (mkF m 16 #[.val (.ref a), .val (.ref b71), .val (.int (0 : Int32))] [(.int (2 : Int32)), (.int (0 : Int32))])) (fun τ κ => X74.arraylength hx (by rw [e74]; exact Ar_o75.1) (State.isArrayOf_alike hZ.alike Ar_o75.2.1) (g := (mkF m 15 #[.val (.ref a), .val (.ref b71), .val (.int (0 : Int32))] [(.ref t), (.int (0 : Int32))])) rfl rfl (hb hby d4_15) _ (by rw [len_of S_o75 M_o75]; exact κ)) ?_
  have hc76 : (0 : Int32) < (2 : Int32) := by decide
  refine Gl.st (g' := (mkF m 19 #[.val (.ref a), .val (.ref b71), .val (.int (0 : Int32))] [])) (fun τ κ => XS.icmpNo X74.here hx rfl (hb hby d4_16) rfl (tlt hc76).2.1 κ) ?_
  refine Gl.st (g' := (mkF m 20 #[.val (.ref a), .val (.ref b71), .val (.int (0 : Int32))] [(.ref b71)])) (fun τ κ => XS.aloadN X74.here hx rfl (hb hby d4_19) rfl rfl κ) ?_
  refine Gl.st (g' := (mkF m 21 #[.val (.ref a), .val (.ref b71), .val (.int (0 : Int32))] [(.int (0 : Int32)), (.ref b71)])) (fun τ κ => XS.iloadN X74.here hx rfl (hb hby d4_20) rfl κ) ?_
  refine Gl.st (g' := (mkF m 22 #[.val (.ref a), .val (.ref b71), .val (.int (0 : Int32))] [(.ref a), (.int (0 : Int32)), (.ref b71)])) (fun τ κ => XS.aloadN X74.here hx rfl (hb hby d4_21) rfl rfl κ) ?_
  obtain ⟨T77, X77, e77, st77⟩ := getF X74 hx hZ hown (host := "") (Or.inl (hw _ (List.mem_of_getElem? (i := 11) rfl))) Via.refl e74 F_72 (g := (mkF m 22 #[.val (.ref a), .val (.ref b71), .val (.int (0 : Int32))] [(.ref a), (.int (0 : Int32)), (.ref b71)])) rfl rfl (hb hby d4_22)
  refine Gl.st (g' := (mkF m 25 #[.val (.ref a), .val (.ref b71), .val (.int (0 : Int32))] [(.ref t), (.int (0 : Int32)), (.ref b71)])) (fun τ κ => st77 _ κ) ?_
  refine Gl.st (g' := (mkF m 26 #[.val (.ref a), .val (.ref b71), .val (.int (0 : Int32))] [(.int (0 : Int32)), (.ref t), (.int (0 : Int32)), (.ref b71)])) (fun τ κ => XS.iloadN X77.here hx rfl (hb hby d4_25) rfl κ) ?_
  obtain ⟨cl_o78, Ar_o78, q_o78, S_o78, M_o78, H_o78, G_o78⟩ := id V_73
  have hin_o78 : ¬ ((0 : Int32) < 0 ∨ cl_o78.slots.size ≤ ((0 : Int32)).toNatClampNeg) := inb_of S_o78 ⟨by decide, by decide⟩
  refine Gl.st (g' := (mkF m 27 #[.val (.ref a), .val (.ref b71), .val (.int (0 : Int32))] [(.int (own_by M 0)), (.int (0 : Int32)), (.ref b71)])) (fun τ κ => X77.baloadBytes hx (j := (0 : Int32)) (v := (.int (own_by M 0))) (by rw [e77]; exact Ar_o78.1) (State.isArrayOf_alike hZ.alike Ar_o78.2.1) Ar_o78.2.2 hin_o78 (H_o78 0 (by rw [S_o78]; decide)) (g := (mkF m 26 #[.val (.ref a), .val (.ref b71), .val (.int (0 : Int32))] [(.int (0 : Int32)), (.ref t), (.int (0 : Int32)), (.ref b71)])) rfl rfl (hb hby d4_26) _ κ) ?_
  refine Gl.st (g' := (mkF m 30 #[.val (.ref a), .val (.ref b71), .val (.int (0 : Int32))] [(.int (255 : Int32)), (.int (own_by M 0)), (.int (0 : Int32)), (.ref b71)])) (fun τ κ => XS.sipush X77.here hx rfl (hb hby d4_27) κ) ?_
  refine Gl.st (g' := (mkF m 31 #[.val (.ref a), .val (.ref b71), .val (.int (0 : Int32))] [(.int ((own_by M 0) &&& (255 : Int32))), (.int (0 : Int32)), (.ref b71)])) (fun τ κ => XS.iand X77.here hx rfl (hb hby d4_30) rfl κ) ?_
  obtain ⟨cl_o79, Ar_o79, q_o79, S_o79, M_o79, H_o79, G_o79⟩ := id V_b71
  have hin_o79 : ¬ ((0 : Int32) < 0 ∨ cl_o79.slots.size ≤ ((0 : Int32)).toNatClampNeg) := inb_of S_o79 ⟨by decide, by decide⟩
  obtain ⟨T80, h80, X80, e80, W80, st80⟩ := stI X77 hx hZ e77 Ar_o79 (j := (0 : Int32)) hin_o79 (g := (mkF m 31 #[.val (.ref a), .val (.ref b71), .val (.int (0 : Int32))] [(.int ((own_by M 0) &&& (255 : Int32))), (.int (0 : Int32)), (.ref b71)])) rfl rfl (hb hby d4_31)
  have F_81 := F_72.other W80 (Or.inl ne_a_b71)
  have V_82 := V_73.other W80 ne_t_b71
  have N80 := Fr.snoc X80 N0 g_b71
  have Z80 : n0 ≤ h80.size := Nat.le_trans Z71 (Nat.le_of_eq W80.size.symm)
  have K80 : Keep h0 h80 [] := K71.wr W80 (Or.inr sz_b71)
  have V_b71_80 : Arv Z h80 b71 k71 .int (2 : Int32) [(.int ((own_by M 0) &&& (255 : Int32))), (.int (0 : Int32))] (.int (0 : Int32)) := Arv.set Ar_o79 q_o79 S_o79 M_o79 H_o79 G_o79 rfl W80 0 rfl (Nat.le_of_ble_eq_true rfl)
  refine Gl.st (g' := (mkF m 32 #[.val (.ref a), .val (.ref b71), .val (.int (0 : Int32))] [])) (fun τ κ => st80 _ κ) ?_
  refine Gl.st (g' := (mkF m 35 #[.val (.ref a), .val (.ref b71), .val (.int (1 : Int32))] [])) (fun τ κ => XS.iinc X80.here hx rfl (hb hby d4_32) rfl (l' := #[.val (.ref a), .val (.ref b71), .val (.int (1 : Int32))]) rfl κ) ?_
  refine Gl.st (g' := (mkF m 10 #[.val (.ref a), .val (.ref b71), .val (.int (1 : Int32))] [])) (fun τ κ => XS.goto X80.here hx rfl (pc0 := 35) (pc' := 10) rfl (hb hby d4_35) (by decide) (by decide) κ) ?_
  refine Gl.st (g' := (mkF m 11 #[.val (.ref a), .val (.ref b71), .val (.int (1 : Int32))] [(.int (1 : Int32))])) (fun τ κ => XS.iloadN X80.here hx rfl (hb hby d4_10) rfl κ) ?_
  refine Gl.st (g' := (mkF m 12 #[.val (.ref a), .val (.ref b71), .val (.int (1 : Int32))] [(.ref a), (.int (1 : Int32))])) (fun τ κ => XS.aloadN X80.here hx rfl (hb hby d4_11) rfl rfl κ) ?_
  obtain ⟨T84, X84, e84, st84⟩ := getF X80 hx hZ hown (host := "") (Or.inl (hw _ (List.mem_of_getElem? (i := 11) rfl))) Via.refl e80 F_81 (g := (mkF m 12 #[.val (.ref a), .val (.ref b71), .val (.int (1 : Int32))] [(.ref a), (.int (1 : Int32))])) rfl rfl (hb hby d4_12)
  refine Gl.st (g' := (mkF m 15 #[.val (.ref a), .val (.ref b71), .val (.int (1 : Int32))] [(.ref t), (.int (1 : Int32))])) (fun τ κ => st84 _ κ) ?_
  obtain ⟨cl_o85, Ar_o85, q_o85, S_o85, M_o85, H_o85, G_o85⟩ := id V_82
  refine Gl.st (g' := (mkF m 16 #[.val (.ref a), .val (.ref b71), .val (.int (1 : Int32))] [(.int (2 : Int32)), (.int (1 : Int32))])) (fun τ κ => X84.arraylength hx (by rw [e84]; exact Ar_o85.1) (State.isArrayOf_alike hZ.alike Ar_o85.2.1) (g := (mkF m 15 #[.val (.ref a), .val (.ref b71), .val (.int (1 : Int32))] [(.ref t), (.int (1 : Int32))])) rfl rfl (hb hby d4_15) _ (by rw [len_of S_o85 M_o85]; exact κ)) ?_
  have hc86 : (1 : Int32) < (2 : Int32) := by decide
  refine Gl.st (g' := (mkF m 19 #[.val (.ref a), .val (.ref b71), .val (.int (1 : Int32))] [])) (fun τ κ => XS.icmpNo X84.here hx rfl (hb hby d4_16) rfl (tlt hc86).2.1 κ) ?_
  refine Gl.st (g' := (mkF m 20 #[.val (.ref a), .val (.ref b71), .val (.int (1 : Int32))] [(.ref b71)])) (fun τ κ => XS.aloadN X84.here hx rfl (hb hby d4_19) rfl rfl κ) ?_
  refine Gl.st (g' := (mkF m 21 #[.val (.ref a), .val (.ref b71), .val (.int (1 : Int32))] [(.int (1 : Int32)), (.ref b71)])) (fun τ κ => XS.iloadN X84.here hx rfl (hb hby d4_20) rfl κ) ?_
  refine Gl.st (g' := (mkF m 22 #[.val (.ref a), .val (.ref b71), .val (.int (1 : Int32))] [(.ref a), (.int (1 : Int32)), (.ref b71)])) (fun τ κ => XS.aloadN X84.here hx rfl (hb hby d4_21) rfl rfl κ) ?_
  obtain ⟨T87, X87, e87, st87⟩ := getF X84 hx hZ hown (host := "") (Or.inl (hw _ (List.mem_of_getElem? (i := 11) rfl))) Via.refl e84 F_81 (g := (mkF m 22 #[.val (.ref a), .val (.ref b71), .val (.int (1 : Int32))] [(.ref a), (.int (1 : Int32)), (.ref b71)])) rfl rfl (hb hby d4_22)
  refine Gl.st (g' := (mkF m 25 #[.val (.ref a), .val (.ref b71), .val (.int (1 : Int32))] [(.ref t), (.int (1 : Int32)), (.ref b71)])) (fun τ κ => st87 _ κ) ?_
  refine Gl.st (g' := (mkF m 26 #[.val (.ref a), .val (.ref b71), .val (.int (1 : Int32))] [(.int (1 : Int32)), (.ref t), (.int (1 : Int32)), (.ref b71)])) (fun τ κ => XS.iloadN X87.here hx rfl (hb hby d4_25) rfl κ) ?_
  obtain ⟨cl_o88, Ar_o88, q_o88, S_o88, M_o88, H_o88, G_o88⟩ := id V_82
  have hin_o88 : ¬ ((1 : Int32) < 0 ∨ cl_o88.slots.size ≤ ((1 : Int32)).toNatClampNeg) := inb_of S_o88 ⟨by decide, by decide⟩
  refine Gl.st (g' := (mkF m 27 #[.val (.ref a), .val (.ref b71), .val (.int (1 : Int32))] [(.int (own_by M 1)), (.int (1 : Int32)), (.ref b71)])) (fun τ κ => X87.baloadBytes hx (j := (1 : Int32)) (v := (.int (own_by M 1))) (by rw [e87]; exact Ar_o88.1) (State.isArrayOf_alike hZ.alike Ar_o88.2.1) Ar_o88.2.2 hin_o88 (H_o88 1 (by rw [S_o88]; decide)) (g := (mkF m 26 #[.val (.ref a), .val (.ref b71), .val (.int (1 : Int32))] [(.int (1 : Int32)), (.ref t), (.int (1 : Int32)), (.ref b71)])) rfl rfl (hb hby d4_26) _ κ) ?_
  refine Gl.st (g' := (mkF m 30 #[.val (.ref a), .val (.ref b71), .val (.int (1 : Int32))] [(.int (255 : Int32)), (.int (own_by M 1)), (.int (1 : Int32)), (.ref b71)])) (fun τ κ => XS.sipush X87.here hx rfl (hb hby d4_27) κ) ?_
  refine Gl.st (g' := (mkF m 31 #[.val (.ref a), .val (.ref b71), .val (.int (1 : Int32))] [(.int ((own_by M 1) &&& (255 : Int32))), (.int (1 : Int32)), (.ref b71)])) (fun τ κ => XS.iand X87.here hx rfl (hb hby d4_30) rfl κ) ?_
  obtain ⟨cl_o89, Ar_o89, q_o89, S_o89, M_o89, H_o89, G_o89⟩ := id V_b71_80
  have hin_o89 : ¬ ((1 : Int32) < 0 ∨ cl_o89.slots.size ≤ ((1 : Int32)).toNatClampNeg) := inb_of S_o89 ⟨by decide, by decide⟩
  obtain ⟨T90, h90, X90, e90, W90, st90⟩ := stI X87 hx hZ e87 Ar_o89 (j := (1 : Int32)) hin_o89 (g := (mkF m 31 #[.val (.ref a), .val (.ref b71), .val (.int (1 : Int32))] [(.int ((own_by M 1) &&& (255 : Int32))), (.int (1 : Int32)), (.ref b71)])) rfl rfl (hb hby d4_31)
  have F_91 := F_81.other W90 (Or.inl ne_a_b71)
  have V_92 := V_82.other W90 ne_t_b71
  have N90 := Fr.snoc X90 N80 g_b71
  have Z90 : n0 ≤ h90.size := Nat.le_trans Z80 (Nat.le_of_eq W90.size.symm)
  have K90 : Keep h0 h90 [] := K80.wr W90 (Or.inr sz_b71)
  have V_b71_90 : Arv Z h90 b71 k71 .int (2 : Int32) [(.int ((own_by M 0) &&& (255 : Int32))), (.int ((own_by M 1) &&& (255 : Int32)))] (.int (0 : Int32)) := Arv.set Ar_o89 q_o89 S_o89 M_o89 H_o89 G_o89 rfl W90 1 rfl (Nat.le_of_ble_eq_true rfl)
  refine Gl.st (g' := (mkF m 32 #[.val (.ref a), .val (.ref b71), .val (.int (1 : Int32))] [])) (fun τ κ => st90 _ κ) ?_
  refine Gl.st (g' := (mkF m 35 #[.val (.ref a), .val (.ref b71), .val (.int (2 : Int32))] [])) (fun τ κ => XS.iinc X90.here hx rfl (hb hby d4_32) rfl (l' := #[.val (.ref a), .val (.ref b71), .val (.int (2 : Int32))]) rfl κ) ?_
  refine Gl.st (g' := (mkF m 10 #[.val (.ref a), .val (.ref b71), .val (.int (2 : Int32))] [])) (fun τ κ => XS.goto X90.here hx rfl (pc0 := 35) (pc' := 10) rfl (hb hby d4_35) (by decide) (by decide) κ) ?_
  refine Gl.st (g' := (mkF m 11 #[.val (.ref a), .val (.ref b71), .val (.int (2 : Int32))] [(.int (2 : Int32))])) (fun τ κ => XS.iloadN X90.here hx rfl (hb hby d4_10) rfl κ) ?_
  refine Gl.st (g' := (mkF m 12 #[.val (.ref a), .val (.ref b71), .val (.int (2 : Int32))] [(.ref a), (.int (2 : Int32))])) (fun τ κ => XS.aloadN X90.here hx rfl (hb hby d4_11) rfl rfl κ) ?_
  obtain ⟨T94, X94, e94, st94⟩ := getF X90 hx hZ hown (host := "") (Or.inl (hw _ (List.mem_of_getElem? (i := 11) rfl))) Via.refl e90 F_91 (g := (mkF m 12 #[.val (.ref a), .val (.ref b71), .val (.int (2 : Int32))] [(.ref a), (.int (2 : Int32))])) rfl rfl (hb hby d4_12)
  refine Gl.st (g' := (mkF m 15 #[.val (.ref a), .val (.ref b71), .val (.int (2 : Int32))] [(.ref t), (.int (2 : Int32))])) (fun τ κ => st94 _ κ) ?_
  obtain ⟨cl_o95, Ar_o95, q_o95, S_o95, M_o95, H_o95, G_o95⟩ := id V_92
  refine Gl.st (g' := (mkF m 16 #[.val (.ref a), .val (.ref b71), .val (.int (2 : Int32))] [(.int (2 : Int32)), (.int (2 : Int32))])) (fun τ κ => X94.arraylength hx (by rw [e94]; exact Ar_o95.1) (State.isArrayOf_alike hZ.alike Ar_o95.2.1) (g := (mkF m 15 #[.val (.ref a), .val (.ref b71), .val (.int (2 : Int32))] [(.ref t), (.int (2 : Int32))])) rfl rfl (hb hby d4_15) _ (by rw [len_of S_o95 M_o95]; exact κ)) ?_
  have hc96 : ¬ ((2 : Int32) < (2 : Int32)) := by decide
  refine Gl.st (g' := (mkF m 38 #[.val (.ref a), .val (.ref b71), .val (.int (2 : Int32))] [])) (fun τ κ => XS.icmpYes X94.here hx rfl (pc0 := 16) (pc' := 38) rfl (hb hby d4_16) rfl (flt hc96).2.1 (by decide) (by decide) κ) ?_
  refine Gl.st (g' := (mkF m 39 #[.val (.ref a), .val (.ref b71), .val (.int (2 : Int32))] [(.ref b71)])) (fun τ κ => XS.aloadN X94.here hx rfl (hb hby d4_38) rfl rfl κ) ?_
  exact Gl.ret (v := some (.ref b71)) X94 Bd.notSynchronized (fun h => by rw [Bd.returns] at h; cases h) e94 (fun fs hr => (by
      jvm_step X94.here [X94.here.top, hx, (hb hby d4_39), X94.method', Bd.returns, Value.isRef, FieldType.isReference]
      first | (intro acts; rw [hr _ acts rfl rfl rfl]) | rw [hr _ _ rfl rfl rfl]
      exact Steps.refl _)) (by decide) (by decide) ⟨b71, k71, rfl, N90, K90, sz_b71, V_b71_90⟩
theorem ef_rm_tu3 (m : MethodId) (a : Addr) : entryFrame m #[(.ref a)] 3 = mkF m 0 #[.val (.ref a), .unset, .unset] [] := by first | (simp [entryFrame, mkF, argsToLocals, Value.category]; done) | rfl
def Q_rm_tu3 (Z : State) (a : Addr) (t : Addr) (kc : ClassId) (M : Nat) (h0 : Heap) (n0 : Nat) (v : Option Value) (h : Heap) (L : List Loc) : Prop := ∃ b k, v = some (.ref b) ∧ Fr n0 L ∧ Keep h0 h [] ∧ h0.size ≤ b ∧ Arv Z h b k .int (3 : Int32) [(.int (own_by M 0 &&& (255 : Int32))), (.int (own_by M 1 &&& (255 : Int32))), (.int (own_by M 2 &&& (255 : Int32)))] (.int (0 : Int32))
set_option maxRecDepth 65536 in
set_option maxHeartbeats 40000000 in
theorem rm_tu3 (l : Launch) (Z : State) (a0 : Array Value) (hw : ∀ d ∈ tables_1, d.before a0 Z = true) (ws : List Jvm.Cond) (a : Addr) (t : Addr) (kc : ClassId) (M : Nat) (h0 : Heap) (n0 : Nat) (Z0 : n0 ≤ h0.size) (FB : Fld Z h0 a "com/example/quietzone/quietzone/BitWriter" "bytes" "[B" (.ref t)) (V0 : Arv Z h0 t kc .byte (3 : Int32) (own_vs M) (.int (0 : Int32))) :
    MetFree l (⟨"com/example/quietzone/quietzone/BitWriter", "toUnsignedBytes", "()[I"⟩ : MethodName) (head1 (Jvm.Cond.code (⟨"com/example/quietzone/quietzone/BitWriter", "toUnsignedBytes", "()[I"⟩ : MethodName) prog_7_method_4_code 3 (some (.array .int)) :: ws) ({ frames := 0, cells := 1, slots := 3, locals := 0 } : Room)) (fun aα Uα => aα = #[(.ref a)] ∧ Z.Warmed39 Uα.vm ∧ Uα.heap = h0) (fun _ _ _ _ _ => True) (fun _ Uα oα Uβ => ∃ vα Lα, oα = .returned vα ∧ Q_rm_tu3 Z a t kc M h0 n0 vα Uβ.heap Lα ∧ FrameEnd Uα oα Uβ Lα ({ frames := 0, cells := 1, slots := 3, locals := 0 } : Room).cells ({ frames := 0, cells := 1, slots := 3, locals := 0 } : Room).slots) := by
  refine MetFree.of_bodySF (plainFor_of_name pn_com_example_quietzone_quietzone_BitWriter) hisR ?_
  intro p e s m args below meth c s₁ Bd hml0 hP hKα
  obtain ⟨rfl, hZ, hh⟩ := hP
  have hx := Bd.exec
  have hby := Bd.bytes
  have hml : c.maxLocals = 3 := hml0
  have hown : s.vm.findClass "com/example/quietzone/quietzone/BitWriter" = some m.cls := findClass_of_methodNamed Bd.named
  have hnm := (name_of_methodNamed Bd.named Bd.method).1
  have X0 : Stand p l e ({ frames := 0, cells := 1, slots := 3, locals := 0 } : Room) s m #[(.ref a)] below meth c s₁ [] 0 0 := Stand.of_body Bd
  have e0 : s₁.heap = h0 := by rw [← hh, Bd.state]; rfl
  have N0 := Fr.nil n0
  suffices k0 : Gl p e below s (Q_rm_tu3 Z a t kc M h0 n0) ({ frames := 0, cells := 1, slots := 3, locals := 0 } : Room).cells ({ frames := 0, cells := 1, slots := 3, locals := 0 } : Room).slots s₁ (mkF m 0 #[.val (.ref a), .unset, .unset] []) from Gl.st (fun τ κ => castTop (ef_rm_tu3 m a) κ) k0
  refine Gl.st (g' := (mkF m 1 #[.val (.ref a), .unset, .unset] [(.ref a)])) (fun τ κ => XS.aloadN X0.here hx rfl (hb hby d4_0) rfl rfl κ) ?_
  obtain ⟨T97, X97, e97, st97⟩ := getF X0 hx hZ hown (host := "") (Or.inl (hw _ (List.mem_of_getElem? (i := 11) rfl))) Via.refl e0 FB (g := (mkF m 1 #[.val (.ref a), .unset, .unset] [(.ref a)])) rfl rfl (hb hby d4_1)
  refine Gl.st (g' := (mkF m 4 #[.val (.ref a), .unset, .unset] [(.ref t)])) (fun τ κ => st97 _ κ) ?_
  obtain ⟨cl_o98, Ar_o98, q_o98, S_o98, M_o98, H_o98, G_o98⟩ := id V0
  refine Gl.st (g' := (mkF m 5 #[.val (.ref a), .unset, .unset] [(.int (3 : Int32))])) (fun τ κ => X97.arraylength hx (by rw [e97]; exact Ar_o98.1) (State.isArrayOf_alike hZ.alike Ar_o98.2.1) (g := (mkF m 4 #[.val (.ref a), .unset, .unset] [(.ref t)])) rfl rfl (hb hby d4_4) _ (by rw [len_of S_o98 M_o98]; exact κ)) ?_
  obtain ⟨T99, h99, k99, X99, e99, E99, A99, st99⟩ := newP X97 hx hZ (hw _ (List.mem_of_getElem? (i := 23) rfl)) e97 (g := (mkF m 5 #[.val (.ref a), .unset, .unset] [(.int (3 : Int32))])) rfl (hb hby d4_5) rfl (by decide) (cap := 3) (by decide) (by decide) (by decide) (by decide)
  obtain ⟨b99, g99⟩ : ∃ z, z = h0.size := ⟨_, rfl⟩
  rw [← g99] at A99 st99
  have ne_a_b99 : a ≠ b99 := Nat.ne_of_lt (Nat.lt_of_lt_of_le FB.lt (Nat.le_of_eq g99.symm))
  have ne_t_b99 : t ≠ b99 := Nat.ne_of_lt (Nat.lt_of_lt_of_le V0.lt (Nat.le_of_eq g99.symm))
  have F_100 := FB.ext E99
  have V_101 := V0.ext E99
  have g_b99 : n0 ≤ b99 := Nat.le_trans Z0 (Nat.le_of_eq g99.symm)
  have sz_b99 : h0.size ≤ b99 := Nat.le_trans (Keep.refl h0 []).1 (Nat.le_of_eq g99.symm)
  have Z99 : n0 ≤ h99.size := Nat.le_trans Z0 E99.1
  have K99 : Keep h0 h99 [] := (Keep.refl h0 []).ext E99
  have V_b99 : Arv Z h99 b99 k99 .int (3 : Int32) [(.int (0 : Int32)), (.int (0 : Int32)), (.int (0 : Int32))] (.int (0 : Int32)) := (Arv.new A99 (by decide)).pad (pad_rep [] (.int (0 : Int32)) 3)
  refine Gl.st (g' := (mkF m 7 #[.val (.ref a), .unset, .unset] [(.ref b99)])) (fun τ κ => st99 _ κ) ?_
  refine Gl.st (g' := (mkF m 8 #[.val (.ref a), .val (.ref b99), .unset] [])) (fun τ κ => XS.astoreN X99.here hx rfl (hb hby d4_7) rfl rfl (l' := #[.val (.ref a), .val (.ref b99), .unset]) rfl κ) ?_
  refine Gl.st (g' := (mkF m 9 #[.val (.ref a), .val (.ref b99), .unset] [(.int (0 : Int32))])) (fun τ κ => XS.iconst X99.here hx rfl (hb hby d4_8) κ) ?_
  refine Gl.st (g' := (mkF m 10 #[.val (.ref a), .val (.ref b99), .val (.int (0 : Int32))] [])) (fun τ κ => XS.istoreN X99.here hx rfl (hb hby d4_9) rfl (l' := #[.val (.ref a), .val (.ref b99), .val (.int (0 : Int32))]) rfl κ) ?_
  refine Gl.st (g' := (mkF m 11 #[.val (.ref a), .val (.ref b99), .val (.int (0 : Int32))] [(.int (0 : Int32))])) (fun τ κ => XS.iloadN X99.here hx rfl (hb hby d4_10) rfl κ) ?_
  refine Gl.st (g' := (mkF m 12 #[.val (.ref a), .val (.ref b99), .val (.int (0 : Int32))] [(.ref a), (.int (0 : Int32))])) (fun τ κ => XS.aloadN X99.here hx rfl (hb hby d4_11) rfl rfl κ) ?_
  obtain ⟨T102, X102, e102, st102⟩ := getF X99 hx hZ hown (host := "") (Or.inl (hw _ (List.mem_of_getElem? (i := 11) rfl))) Via.refl e99 F_100 (g := (mkF m 12 #[.val (.ref a), .val (.ref b99), .val (.int (0 : Int32))] [(.ref a), (.int (0 : Int32))])) rfl rfl (hb hby d4_12)
  refine Gl.st (g' := (mkF m 15 #[.val (.ref a), .val (.ref b99), .val (.int (0 : Int32))] [(.ref t), (.int (0 : Int32))])) (fun τ κ => st102 _ κ) ?_
  obtain ⟨cl_o103, Ar_o103, q_o103, S_o103, M_o103, H_o103, G_o103⟩ := id V_101
  refine Gl.st (g' := (mkF m 16 #[.val (.ref a), .val (.ref b99), .val (.int (0 : Int32))] [(.int (3 : Int32)), (.int (0 : Int32))])) (fun τ κ => X102.arraylength hx (by rw [e102]; exact Ar_o103.1) (State.isArrayOf_alike hZ.alike Ar_o103.2.1) (g := (mkF m 15 #[.val (.ref a), .val (.ref b99), .val (.int (0 : Int32))] [(.ref t), (.int (0 : Int32))])) rfl rfl (hb hby d4_15) _ (by rw [len_of S_o103 M_o103]; exact κ)) ?_
  have hc104 : (0 : Int32) < (3 : Int32) := by decide
  refine Gl.st (g' := (mkF m 19 #[.val (.ref a), .val (.ref b99), .val (.int (0 : Int32))] [])) (fun τ κ => XS.icmpNo X102.here hx rfl (hb hby d4_16) rfl (tlt hc104).2.1 κ) ?_
  refine Gl.st (g' := (mkF m 20 #[.val (.ref a), .val (.ref b99), .val (.int (0 : Int32))] [(.ref b99)])) (fun τ κ => XS.aloadN X102.here hx rfl (hb hby d4_19) rfl rfl κ) ?_
  refine Gl.st (g' := (mkF m 21 #[.val (.ref a), .val (.ref b99), .val (.int (0 : Int32))] [(.int (0 : Int32)), (.ref b99)])) (fun τ κ => XS.iloadN X102.here hx rfl (hb hby d4_20) rfl κ) ?_
  refine Gl.st (g' := (mkF m 22 #[.val (.ref a), .val (.ref b99), .val (.int (0 : Int32))] [(.ref a), (.int (0 : Int32)), (.ref b99)])) (fun τ κ => XS.aloadN X102.here hx rfl (hb hby d4_21) rfl rfl κ) ?_
  obtain ⟨T105, X105, e105, st105⟩ := getF X102 hx hZ hown (host := "") (Or.inl (hw _ (List.mem_of_getElem? (i := 11) rfl))) Via.refl e102 F_100 (g := (mkF m 22 #[.val (.ref a), .val (.ref b99), .val (.int (0 : Int32))] [(.ref a), (.int (0 : Int32)), (.ref b99)])) rfl rfl (hb hby d4_22)
  refine Gl.st (g' := (mkF m 25 #[.val (.ref a), .val (.ref b99), .val (.int (0 : Int32))] [(.ref t), (.int (0 : Int32)), (.ref b99)])) (fun τ κ => st105 _ κ) ?_
  refine Gl.st (g' := (mkF m 26 #[.val (.ref a), .val (.ref b99), .val (.int (0 : Int32))] [(.int (0 : Int32)), (.ref t), (.int (0 : Int32)), (.ref b99)])) (fun τ κ => XS.iloadN X105.here hx rfl (hb hby d4_25) rfl κ) ?_
  obtain ⟨cl_o106, Ar_o106, q_o106, S_o106, M_o106, H_o106, G_o106⟩ := id V_101
  have hin_o106 : ¬ ((0 : Int32) < 0 ∨ cl_o106.slots.size ≤ ((0 : Int32)).toNatClampNeg) := inb_of S_o106 ⟨by decide, by decide⟩
  refine Gl.st (g' := (mkF m 27 #[.val (.ref a), .val (.ref b99), .val (.int (0 : Int32))] [(.int (own_by M 0)), (.int (0 : Int32)), (.ref b99)])) (fun τ κ => X105.baloadBytes hx (j := (0 : Int32)) (v := (.int (own_by M 0))) (by rw [e105]; exact Ar_o106.1) (State.isArrayOf_alike hZ.alike Ar_o106.2.1) Ar_o106.2.2 hin_o106 (H_o106 0 (by rw [S_o106]; decide)) (g := (mkF m 26 #[.val (.ref a), .val (.ref b99), .val (.int (0 : Int32))] [(.int (0 : Int32)), (.ref t), (.int (0 : Int32)), (.ref b99)])) rfl rfl (hb hby d4_26) _ κ) ?_
  refine Gl.st (g' := (mkF m 30 #[.val (.ref a), .val (.ref b99), .val (.int (0 : Int32))] [(.int (255 : Int32)), (.int (own_by M 0)), (.int (0 : Int32)), (.ref b99)])) (fun τ κ => XS.sipush X105.here hx rfl (hb hby d4_27) κ) ?_
  refine Gl.st (g' := (mkF m 31 #[.val (.ref a), .val (.ref b99), .val (.int (0 : Int32))] [(.int ((own_by M 0) &&& (255 : Int32))), (.int (0 : Int32)), (.ref b99)])) (fun τ κ => XS.iand X105.here hx rfl (hb hby d4_30) rfl κ) ?_
  obtain ⟨cl_o107, Ar_o107, q_o107, S_o107, M_o107, H_o107, G_o107⟩ := id V_b99
  have hin_o107 : ¬ ((0 : Int32) < 0 ∨ cl_o107.slots.size ≤ ((0 : Int32)).toNatClampNeg) := inb_of S_o107 ⟨by decide, by decide⟩
  obtain ⟨T108, h108, X108, e108, W108, st108⟩ := stI X105 hx hZ e105 Ar_o107 (j := (0 : Int32)) hin_o107 (g := (mkF m 31 #[.val (.ref a), .val (.ref b99), .val (.int (0 : Int32))] [(.int ((own_by M 0) &&& (255 : Int32))), (.int (0 : Int32)), (.ref b99)])) rfl rfl (hb hby d4_31)
  have F_109 := F_100.other W108 (Or.inl ne_a_b99)
  have V_110 := V_101.other W108 ne_t_b99
  have N108 := Fr.snoc X108 N0 g_b99
  have Z108 : n0 ≤ h108.size := Nat.le_trans Z99 (Nat.le_of_eq W108.size.symm)
  have K108 : Keep h0 h108 [] := K99.wr W108 (Or.inr sz_b99)
  have V_b99_108 : Arv Z h108 b99 k99 .int (3 : Int32) [(.int ((own_by M 0) &&& (255 : Int32))), (.int (0 : Int32)), (.int (0 : Int32))] (.int (0 : Int32)) := Arv.set Ar_o107 q_o107 S_o107 M_o107 H_o107 G_o107 rfl W108 0 rfl (Nat.le_of_ble_eq_true rfl)
  refine Gl.st (g' := (mkF m 32 #[.val (.ref a), .val (.ref b99), .val (.int (0 : Int32))] [])) (fun τ κ => st108 _ κ) ?_
  refine Gl.st (g' := (mkF m 35 #[.val (.ref a), .val (.ref b99), .val (.int (1 : Int32))] [])) (fun τ κ => XS.iinc X108.here hx rfl (hb hby d4_32) rfl (l' := #[.val (.ref a), .val (.ref b99), .val (.int (1 : Int32))]) rfl κ) ?_
  refine Gl.st (g' := (mkF m 10 #[.val (.ref a), .val (.ref b99), .val (.int (1 : Int32))] [])) (fun τ κ => XS.goto X108.here hx rfl (pc0 := 35) (pc' := 10) rfl (hb hby d4_35) (by decide) (by decide) κ) ?_
  refine Gl.st (g' := (mkF m 11 #[.val (.ref a), .val (.ref b99), .val (.int (1 : Int32))] [(.int (1 : Int32))])) (fun τ κ => XS.iloadN X108.here hx rfl (hb hby d4_10) rfl κ) ?_
  refine Gl.st (g' := (mkF m 12 #[.val (.ref a), .val (.ref b99), .val (.int (1 : Int32))] [(.ref a), (.int (1 : Int32))])) (fun τ κ => XS.aloadN X108.here hx rfl (hb hby d4_11) rfl rfl κ) ?_
  obtain ⟨T112, X112, e112, st112⟩ := getF X108 hx hZ hown (host := "") (Or.inl (hw _ (List.mem_of_getElem? (i := 11) rfl))) Via.refl e108 F_109 (g := (mkF m 12 #[.val (.ref a), .val (.ref b99), .val (.int (1 : Int32))] [(.ref a), (.int (1 : Int32))])) rfl rfl (hb hby d4_12)
  refine Gl.st (g' := (mkF m 15 #[.val (.ref a), .val (.ref b99), .val (.int (1 : Int32))] [(.ref t), (.int (1 : Int32))])) (fun τ κ => st112 _ κ) ?_
  obtain ⟨cl_o113, Ar_o113, q_o113, S_o113, M_o113, H_o113, G_o113⟩ := id V_110
  refine Gl.st (g' := (mkF m 16 #[.val (.ref a), .val (.ref b99), .val (.int (1 : Int32))] [(.int (3 : Int32)), (.int (1 : Int32))])) (fun τ κ => X112.arraylength hx (by rw [e112]; exact Ar_o113.1) (State.isArrayOf_alike hZ.alike Ar_o113.2.1) (g := (mkF m 15 #[.val (.ref a), .val (.ref b99), .val (.int (1 : Int32))] [(.ref t), (.int (1 : Int32))])) rfl rfl (hb hby d4_15) _ (by rw [len_of S_o113 M_o113]; exact κ)) ?_
  have hc114 : (1 : Int32) < (3 : Int32) := by decide
  refine Gl.st (g' := (mkF m 19 #[.val (.ref a), .val (.ref b99), .val (.int (1 : Int32))] [])) (fun τ κ => XS.icmpNo X112.here hx rfl (hb hby d4_16) rfl (tlt hc114).2.1 κ) ?_
  refine Gl.st (g' := (mkF m 20 #[.val (.ref a), .val (.ref b99), .val (.int (1 : Int32))] [(.ref b99)])) (fun τ κ => XS.aloadN X112.here hx rfl (hb hby d4_19) rfl rfl κ) ?_
  refine Gl.st (g' := (mkF m 21 #[.val (.ref a), .val (.ref b99), .val (.int (1 : Int32))] [(.int (1 : Int32)), (.ref b99)])) (fun τ κ => XS.iloadN X112.here hx rfl (hb hby d4_20) rfl κ) ?_
  refine Gl.st (g' := (mkF m 22 #[.val (.ref a), .val (.ref b99), .val (.int (1 : Int32))] [(.ref a), (.int (1 : Int32)), (.ref b99)])) (fun τ κ => XS.aloadN X112.here hx rfl (hb hby d4_21) rfl rfl κ) ?_
  obtain ⟨T115, X115, e115, st115⟩ := getF X112 hx hZ hown (host := "") (Or.inl (hw _ (List.mem_of_getElem? (i := 11) rfl))) Via.refl e112 F_109 (g := (mkF m 22 #[.val (.ref a), .val (.ref b99), .val (.int (1 : Int32))] [(.ref a), (.int (1 : Int32)), (.ref b99)])) rfl rfl (hb hby d4_22)
  refine Gl.st (g' := (mkF m 25 #[.val (.ref a), .val (.ref b99), .val (.int (1 : Int32))] [(.ref t), (.int (1 : Int32)), (.ref b99)])) (fun τ κ => st115 _ κ) ?_
  refine Gl.st (g' := (mkF m 26 #[.val (.ref a), .val (.ref b99), .val (.int (1 : Int32))] [(.int (1 : Int32)), (.ref t), (.int (1 : Int32)), (.ref b99)])) (fun τ κ => XS.iloadN X115.here hx rfl (hb hby d4_25) rfl κ) ?_
  obtain ⟨cl_o116, Ar_o116, q_o116, S_o116, M_o116, H_o116, G_o116⟩ := id V_110
  have hin_o116 : ¬ ((1 : Int32) < 0 ∨ cl_o116.slots.size ≤ ((1 : Int32)).toNatClampNeg) := inb_of S_o116 ⟨by decide, by decide⟩
  refine Gl.st (g' := (mkF m 27 #[.val (.ref a), .val (.ref b99), .val (.int (1 : Int32))] [(.int (own_by M 1)), (.int (1 : Int32)), (.ref b99)])) (fun τ κ => X115.baloadBytes hx (j := (1 : Int32)) (v := (.int (own_by M 1))) (by rw [e115]; exact Ar_o116.1) (State.isArrayOf_alike hZ.alike Ar_o116.2.1) Ar_o116.2.2 hin_o116 (H_o116 1 (by rw [S_o116]; decide)) (g := (mkF m 26 #[.val (.ref a), .val (.ref b99), .val (.int (1 : Int32))] [(.int (1 : Int32)), (.ref t), (.int (1 : Int32)), (.ref b99)])) rfl rfl (hb hby d4_26) _ κ) ?_
  refine Gl.st (g' := (mkF m 30 #[.val (.ref a), .val (.ref b99), .val (.int (1 : Int32))] [(.int (255 : Int32)), (.int (own_by M 1)), (.int (1 : Int32)), (.ref b99)])) (fun τ κ => XS.sipush X115.here hx rfl (hb hby d4_27) κ) ?_
  refine Gl.st (g' := (mkF m 31 #[.val (.ref a), .val (.ref b99), .val (.int (1 : Int32))] [(.int ((own_by M 1) &&& (255 : Int32))), (.int (1 : Int32)), (.ref b99)])) (fun τ κ => XS.iand X115.here hx rfl (hb hby d4_30) rfl κ) ?_
  obtain ⟨cl_o117, Ar_o117, q_o117, S_o117, M_o117, H_o117, G_o117⟩ := id V_b99_108
  have hin_o117 : ¬ ((1 : Int32) < 0 ∨ cl_o117.slots.size ≤ ((1 : Int32)).toNatClampNeg) := inb_of S_o117 ⟨by decide, by decide⟩
  obtain ⟨T118, h118, X118, e118, W118, st118⟩ := stI X115 hx hZ e115 Ar_o117 (j := (1 : Int32)) hin_o117 (g := (mkF m 31 #[.val (.ref a), .val (.ref b99), .val (.int (1 : Int32))] [(.int ((own_by M 1) &&& (255 : Int32))), (.int (1 : Int32)), (.ref b99)])) rfl rfl (hb hby d4_31)
  have F_119 := F_109.other W118 (Or.inl ne_a_b99)
  have V_120 := V_110.other W118 ne_t_b99
  have N118 := Fr.snoc X118 N108 g_b99
  have Z118 : n0 ≤ h118.size := Nat.le_trans Z108 (Nat.le_of_eq W118.size.symm)
  have K118 : Keep h0 h118 [] := K108.wr W118 (Or.inr sz_b99)
  have V_b99_118 : Arv Z h118 b99 k99 .int (3 : Int32) [(.int ((own_by M 0) &&& (255 : Int32))), (.int ((own_by M 1) &&& (255 : Int32))), (.int (0 : Int32))] (.int (0 : Int32)) := Arv.set Ar_o117 q_o117 S_o117 M_o117 H_o117 G_o117 rfl W118 1 rfl (Nat.le_of_ble_eq_true rfl)
  refine Gl.st (g' := (mkF m 32 #[.val (.ref a), .val (.ref b99), .val (.int (1 : Int32))] [])) (fun τ κ => st118 _ κ) ?_
  refine Gl.st (g' := (mkF m 35 #[.val (.ref a), .val (.ref b99), .val (.int (2 : Int32))] [])) (fun τ κ => XS.iinc X118.here hx rfl (hb hby d4_32) rfl (l' := #[.val (.ref a), .val (.ref b99), .val (.int (2 : Int32))]) rfl κ) ?_
  refine Gl.st (g' := (mkF m 10 #[.val (.ref a), .val (.ref b99), .val (.int (2 : Int32))] [])) (fun τ κ => XS.goto X118.here hx rfl (pc0 := 35) (pc' := 10) rfl (hb hby d4_35) (by decide) (by decide) κ) ?_
  refine Gl.st (g' := (mkF m 11 #[.val (.ref a), .val (.ref b99), .val (.int (2 : Int32))] [(.int (2 : Int32))])) (fun τ κ => XS.iloadN X118.here hx rfl (hb hby d4_10) rfl κ) ?_
  refine Gl.st (g' := (mkF m 12 #[.val (.ref a), .val (.ref b99), .val (.int (2 : Int32))] [(.ref a), (.int (2 : Int32))])) (fun τ κ => XS.aloadN X118.here hx rfl (hb hby d4_11) rfl rfl κ) ?_
  obtain ⟨T122, X122, e122, st122⟩ := getF X118 hx hZ hown (host := "") (Or.inl (hw _ (List.mem_of_getElem? (i := 11) rfl))) Via.refl e118 F_119 (g := (mkF m 12 #[.val (.ref a), .val (.ref b99), .val (.int (2 : Int32))] [(.ref a), (.int (2 : Int32))])) rfl rfl (hb hby d4_12)
  refine Gl.st (g' := (mkF m 15 #[.val (.ref a), .val (.ref b99), .val (.int (2 : Int32))] [(.ref t), (.int (2 : Int32))])) (fun τ κ => st122 _ κ) ?_
  obtain ⟨cl_o123, Ar_o123, q_o123, S_o123, M_o123, H_o123, G_o123⟩ := id V_120
  refine Gl.st (g' := (mkF m 16 #[.val (.ref a), .val (.ref b99), .val (.int (2 : Int32))] [(.int (3 : Int32)), (.int (2 : Int32))])) (fun τ κ => X122.arraylength hx (by rw [e122]; exact Ar_o123.1) (State.isArrayOf_alike hZ.alike Ar_o123.2.1) (g := (mkF m 15 #[.val (.ref a), .val (.ref b99), .val (.int (2 : Int32))] [(.ref t), (.int (2 : Int32))])) rfl rfl (hb hby d4_15) _ (by rw [len_of S_o123 M_o123]; exact κ)) ?_
  have hc124 : (2 : Int32) < (3 : Int32) := by decide
  refine Gl.st (g' := (mkF m 19 #[.val (.ref a), .val (.ref b99), .val (.int (2 : Int32))] [])) (fun τ κ => XS.icmpNo X122.here hx rfl (hb hby d4_16) rfl (tlt hc124).2.1 κ) ?_
  refine Gl.st (g' := (mkF m 20 #[.val (.ref a), .val (.ref b99), .val (.int (2 : Int32))] [(.ref b99)])) (fun τ κ => XS.aloadN X122.here hx rfl (hb hby d4_19) rfl rfl κ) ?_
  refine Gl.st (g' := (mkF m 21 #[.val (.ref a), .val (.ref b99), .val (.int (2 : Int32))] [(.int (2 : Int32)), (.ref b99)])) (fun τ κ => XS.iloadN X122.here hx rfl (hb hby d4_20) rfl κ) ?_
  refine Gl.st (g' := (mkF m 22 #[.val (.ref a), .val (.ref b99), .val (.int (2 : Int32))] [(.ref a), (.int (2 : Int32)), (.ref b99)])) (fun τ κ => XS.aloadN X122.here hx rfl (hb hby d4_21) rfl rfl κ) ?_
  obtain ⟨T125, X125, e125, st125⟩ := getF X122 hx hZ hown (host := "") (Or.inl (hw _ (List.mem_of_getElem? (i := 11) rfl))) Via.refl e122 F_119 (g := (mkF m 22 #[.val (.ref a), .val (.ref b99), .val (.int (2 : Int32))] [(.ref a), (.int (2 : Int32)), (.ref b99)])) rfl rfl (hb hby d4_22)
  refine Gl.st (g' := (mkF m 25 #[.val (.ref a), .val (.ref b99), .val (.int (2 : Int32))] [(.ref t), (.int (2 : Int32)), (.ref b99)])) (fun τ κ => st125 _ κ) ?_
  refine Gl.st (g' := (mkF m 26 #[.val (.ref a), .val (.ref b99), .val (.int (2 : Int32))] [(.int (2 : Int32)), (.ref t), (.int (2 : Int32)), (.ref b99)])) (fun τ κ => XS.iloadN X125.here hx rfl (hb hby d4_25) rfl κ) ?_
  obtain ⟨cl_o126, Ar_o126, q_o126, S_o126, M_o126, H_o126, G_o126⟩ := id V_120
  have hin_o126 : ¬ ((2 : Int32) < 0 ∨ cl_o126.slots.size ≤ ((2 : Int32)).toNatClampNeg) := inb_of S_o126 ⟨by decide, by decide⟩
  refine Gl.st (g' := (mkF m 27 #[.val (.ref a), .val (.ref b99), .val (.int (2 : Int32))] [(.int (own_by M 2)), (.int (2 : Int32)), (.ref b99)])) (fun τ κ => X125.baloadBytes hx (j := (2 : Int32)) (v := (.int (own_by M 2))) (by rw [e125]; exact Ar_o126.1) (State.isArrayOf_alike hZ.alike Ar_o126.2.1) Ar_o126.2.2 hin_o126 (H_o126 2 (by rw [S_o126]; decide)) (g := (mkF m 26 #[.val (.ref a), .val (.ref b99), .val (.int (2 : Int32))] [(.int (2 : Int32)), (.ref t), (.int (2 : Int32)), (.ref b99)])) rfl rfl (hb hby d4_26) _ κ) ?_
  refine Gl.st (g' := (mkF m 30 #[.val (.ref a), .val (.ref b99), .val (.int (2 : Int32))] [(.int (255 : Int32)), (.int (own_by M 2)), (.int (2 : Int32)), (.ref b99)])) (fun τ κ => XS.sipush X125.here hx rfl (hb hby d4_27) κ) ?_
  refine Gl.st (g' := (mkF m 31 #[.val (.ref a), .val (.ref b99), .val (.int (2 : Int32))] [(.int ((own_by M 2) &&& (255 : Int32))), (.int (2 : Int32)), (.ref b99)])) (fun τ κ => XS.iand X125.here hx rfl (hb hby d4_30) rfl κ) ?_
  obtain ⟨cl_o127, Ar_o127, q_o127, S_o127, M_o127, H_o127, G_o127⟩ := id V_b99_118
  have hin_o127 : ¬ ((2 : Int32) < 0 ∨ cl_o127.slots.size ≤ ((2 : Int32)).toNatClampNeg) := inb_of S_o127 ⟨by decide, by decide⟩
  obtain ⟨T128, h128, X128, e128, W128, st128⟩ := stI X125 hx hZ e125 Ar_o127 (j := (2 : Int32)) hin_o127 (g := (mkF m 31 #[.val (.ref a), .val (.ref b99), .val (.int (2 : Int32))] [(.int ((own_by M 2) &&& (255 : Int32))), (.int (2 : Int32)), (.ref b99)])) rfl rfl (hb hby d4_31)
  have F_129 := F_119.other W128 (Or.inl ne_a_b99)
  have V_130 := V_120.other W128 ne_t_b99
  have N128 := Fr.snoc X128 N118 g_b99
  have Z128 : n0 ≤ h128.size := Nat.le_trans Z118 (Nat.le_of_eq W128.size.symm)
  have K128 : Keep h0 h128 [] := K118.wr W128 (Or.inr sz_b99)
  have V_b99_128 : Arv Z h128 b99 k99 .int (3 : Int32) [(.int ((own_by M 0) &&& (255 : Int32))), (.int ((own_by M 1) &&& (255 : Int32))), (.int ((own_by M 2) &&& (255 : Int32)))] (.int (0 : Int32)) := Arv.set Ar_o127 q_o127 S_o127 M_o127 H_o127 G_o127 rfl W128 2 rfl (Nat.le_of_ble_eq_true rfl)
  refine Gl.st (g' := (mkF m 32 #[.val (.ref a), .val (.ref b99), .val (.int (2 : Int32))] [])) (fun τ κ => st128 _ κ) ?_
  refine Gl.st (g' := (mkF m 35 #[.val (.ref a), .val (.ref b99), .val (.int (3 : Int32))] [])) (fun τ κ => XS.iinc X128.here hx rfl (hb hby d4_32) rfl (l' := #[.val (.ref a), .val (.ref b99), .val (.int (3 : Int32))]) rfl κ) ?_
  refine Gl.st (g' := (mkF m 10 #[.val (.ref a), .val (.ref b99), .val (.int (3 : Int32))] [])) (fun τ κ => XS.goto X128.here hx rfl (pc0 := 35) (pc' := 10) rfl (hb hby d4_35) (by decide) (by decide) κ) ?_
  refine Gl.st (g' := (mkF m 11 #[.val (.ref a), .val (.ref b99), .val (.int (3 : Int32))] [(.int (3 : Int32))])) (fun τ κ => XS.iloadN X128.here hx rfl (hb hby d4_10) rfl κ) ?_
  refine Gl.st (g' := (mkF m 12 #[.val (.ref a), .val (.ref b99), .val (.int (3 : Int32))] [(.ref a), (.int (3 : Int32))])) (fun τ κ => XS.aloadN X128.here hx rfl (hb hby d4_11) rfl rfl κ) ?_
  obtain ⟨T132, X132, e132, st132⟩ := getF X128 hx hZ hown (host := "") (Or.inl (hw _ (List.mem_of_getElem? (i := 11) rfl))) Via.refl e128 F_129 (g := (mkF m 12 #[.val (.ref a), .val (.ref b99), .val (.int (3 : Int32))] [(.ref a), (.int (3 : Int32))])) rfl rfl (hb hby d4_12)
  refine Gl.st (g' := (mkF m 15 #[.val (.ref a), .val (.ref b99), .val (.int (3 : Int32))] [(.ref t), (.int (3 : Int32))])) (fun τ κ => st132 _ κ) ?_
  obtain ⟨cl_o133, Ar_o133, q_o133, S_o133, M_o133, H_o133, G_o133⟩ := id V_130
  refine Gl.st (g' := (mkF m 16 #[.val (.ref a), .val (.ref b99), .val (.int (3 : Int32))] [(.int (3 : Int32)), (.int (3 : Int32))])) (fun τ κ => X132.arraylength hx (by rw [e132]; exact Ar_o133.1) (State.isArrayOf_alike hZ.alike Ar_o133.2.1) (g := (mkF m 15 #[.val (.ref a), .val (.ref b99), .val (.int (3 : Int32))] [(.ref t), (.int (3 : Int32))])) rfl rfl (hb hby d4_15) _ (by rw [len_of S_o133 M_o133]; exact κ)) ?_
  have hc134 : ¬ ((3 : Int32) < (3 : Int32)) := by decide
  refine Gl.st (g' := (mkF m 38 #[.val (.ref a), .val (.ref b99), .val (.int (3 : Int32))] [])) (fun τ κ => XS.icmpYes X132.here hx rfl (pc0 := 16) (pc' := 38) rfl (hb hby d4_16) rfl (flt hc134).2.1 (by decide) (by decide) κ) ?_
  refine Gl.st (g' := (mkF m 39 #[.val (.ref a), .val (.ref b99), .val (.int (3 : Int32))] [(.ref b99)])) (fun τ κ => XS.aloadN X132.here hx rfl (hb hby d4_38) rfl rfl κ) ?_
  exact Gl.ret (v := some (.ref b99)) X132 Bd.notSynchronized (fun h => by rw [Bd.returns] at h; cases h) e132 (fun fs hr => (by
      jvm_step X132.here [X132.here.top, hx, (hb hby d4_39), X132.method', Bd.returns, Value.isRef, FieldType.isReference]
      first | (intro acts; rw [hr _ acts rfl rfl rfl]) | rw [hr _ _ rfl rfl rfl]
      exact Steps.refl _)) (by decide) (by decide) ⟨b99, k99, rfl, N128, K128, sz_b99, V_b99_128⟩
def own_low (v c : Int32) : Int64 := ((v.toInt64 &&& (4294967295 : Int64)) &&& (((1 : Int64) <<< (c &&& 0x3f).toInt64) - (1 : Int64)))
def own_eb (w : Int64) (i : Int32) : Int32 := ((((w.toUInt64 >>> (((16 : Int32) - ((8 : Int32) * i)) &&& 0x3f).toInt64.toUInt64).toInt64) &&& (255 : Int64)).toInt32)
theorem d5_0 : decode method_2_code 0 = .ok (.iload_n 0, 1) := by decide +kernel
theorem d5_1 : decode method_2_code 1 = .ok (.i2l, 1) := by decide +kernel
theorem d5_2 : decode method_2_code 2 = .ok (.ldc2_w 7, 3) := by decide +kernel
theorem d5_5 : decode method_2_code 5 = .ok (.land, 1) := by decide +kernel
theorem d5_6 : decode method_2_code 6 = .ok (.lconst 1, 1) := by decide +kernel
theorem d5_7 : decode method_2_code 7 = .ok (.iload_n 1, 1) := by decide +kernel
theorem d5_8 : decode method_2_code 8 = .ok (.lshl, 1) := by decide +kernel
theorem d5_9 : decode method_2_code 9 = .ok (.lconst 1, 1) := by decide +kernel
theorem d5_10 : decode method_2_code 10 = .ok (.lsub, 1) := by decide +kernel
theorem d5_11 : decode method_2_code 11 = .ok (.land, 1) := by decide +kernel
theorem d5_12 : decode method_2_code 12 = .ok (.lreturn, 1) := by decide +kernel
theorem pn_com_example_quietzone_quietzone_BitWriterToUnsignedBytesPinLaw : plainName "com/example/quietzone/quietzone/BitWriterToUnsignedBytesPinLaw" = true := by first | (simp [plainName, overriddenIn]; done) | decide +kernel
theorem ef_rm5 (m : MethodId) (vv : Int32) (cc : Int32) : entryFrame m #[(.int vv), (.int cc)] 2 = mkF m 0 #[.val (.int vv), .val (.int cc)] [] := by first | (simp [entryFrame, mkF, argsToLocals, Value.category]; done) | rfl
def Q_rm5 (Z : State) (vv : Int32) (cc : Int32)  (h0 : Heap) (n0 : Nat) (v : Option Value) (h : Heap) (L : List Loc) : Prop := v = some (.long (own_low vv cc)) ∧ Fr n0 L ∧ h = h0
set_option maxRecDepth 65536 in
set_option maxHeartbeats 40000000 in
theorem rm5 (l : Launch) (Z : State) (a0 : Array Value) (hw : ∀ d ∈ tables_1, d.before a0 Z = true) (ws : List Jvm.Cond) (vv : Int32) (cc : Int32)  (h0 : Heap) (n0 : Nat) (Z0 : n0 ≤ h0.size)  :
    MetFree l (⟨"com/example/quietzone/quietzone/BitWriterToUnsignedBytesPinLaw", "low", "(II)J"⟩ : MethodName) (head1 (Jvm.Cond.code (⟨"com/example/quietzone/quietzone/BitWriterToUnsignedBytesPinLaw", "low", "(II)J"⟩ : MethodName) method_2_code 2 (some .long) :: ws) ({ frames := 0, cells := 0, slots := 0, locals := 0 } : Room)) (fun aα Uα => aα = #[(.int vv), (.int cc)] ∧ Z.Warmed39 Uα.vm ∧ Uα.heap = h0) (fun _ _ _ _ _ => True) (fun _ Uα oα Uβ => ∃ vα Lα, oα = .returned vα ∧ Q_rm5 Z vv cc  h0 n0 vα Uβ.heap Lα ∧ FrameEnd Uα oα Uβ Lα ({ frames := 0, cells := 0, slots := 0, locals := 0 } : Room).cells ({ frames := 0, cells := 0, slots := 0, locals := 0 } : Room).slots) := by
  refine MetFree.of_bodySF (plainFor_of_name pn_com_example_quietzone_quietzone_BitWriterToUnsignedBytesPinLaw) hisR ?_
  intro p e s m args below meth c s₁ Bd hml0 hP hKα
  obtain ⟨rfl, hZ, hh⟩ := hP
  have hx := Bd.exec
  have hby := Bd.bytes
  have hml : c.maxLocals = 2 := hml0
  have hown : s.vm.findClass "com/example/quietzone/quietzone/BitWriterToUnsignedBytesPinLaw" = some m.cls := findClass_of_methodNamed Bd.named
  have hnm := (name_of_methodNamed Bd.named Bd.method).1
  have X0 : Stand p l e ({ frames := 0, cells := 0, slots := 0, locals := 0 } : Room) s m #[(.int vv), (.int cc)] below meth c s₁ [] 0 0 := Stand.of_body Bd
  have e0 : s₁.heap = h0 := by rw [← hh, Bd.state]; rfl
  have N0 := Fr.nil n0
  suffices k0 : Gl p e below s (Q_rm5 Z vv cc  h0 n0) ({ frames := 0, cells := 0, slots := 0, locals := 0 } : Room).cells ({ frames := 0, cells := 0, slots := 0, locals := 0 } : Room).slots s₁ (mkF m 0 #[.val (.int vv), .val (.int cc)] []) from Gl.st (fun τ κ => castTop (ef_rm5 m vv cc) κ) k0
  refine Gl.st (g' := (mkF m 1 #[.val (.int vv), .val (.int cc)] [(.int vv)])) (fun τ κ => XS.iloadN X0.here hx rfl (hb hby d5_0) rfl κ) ?_
  refine Gl.st (g' := (mkF m 2 #[.val (.int vv), .val (.int cc)] [(.long (vv.toInt64))])) (fun τ κ => XS.i2l X0.here hx rfl (hb hby d5_1) rfl κ) ?_
  refine Gl.st (g' := (mkF m 5 #[.val (.int vv), .val (.int cc)] [(.long (4294967295 : Int64)), (.long (vv.toInt64))])) (fun τ κ => X0.ldc2Long hx hown (mvT hZ (hw _ (List.mem_of_getElem? (i := 28) rfl))) (g := (mkF m 2 #[.val (.int vv), .val (.int cc)] [(.long (vv.toInt64))])) rfl (hb hby d5_2) _ κ) ?_
  refine Gl.st (g' := (mkF m 6 #[.val (.int vv), .val (.int cc)] [(.long ((vv.toInt64) &&& (4294967295 : Int64)))])) (fun τ κ => XS.land X0.here hx rfl (hb hby d5_5) rfl κ) ?_
  refine Gl.st (g' := (mkF m 7 #[.val (.int vv), .val (.int cc)] [(.long (1 : Int64)), (.long ((vv.toInt64) &&& (4294967295 : Int64)))])) (fun τ κ => XS.lconst X0.here hx rfl (hb hby d5_6) κ) ?_
  refine Gl.st (g' := (mkF m 8 #[.val (.int vv), .val (.int cc)] [(.int cc), (.long (1 : Int64)), (.long ((vv.toInt64) &&& (4294967295 : Int64)))])) (fun τ κ => XS.iloadN X0.here hx rfl (hb hby d5_7) rfl κ) ?_
  refine Gl.st (g' := (mkF m 9 #[.val (.int vv), .val (.int cc)] [(.long ((1 : Int64) <<< (cc &&& 0x3f).toInt64)), (.long ((vv.toInt64) &&& (4294967295 : Int64)))])) (fun τ κ => XS.lshl X0.here hx rfl (hb hby d5_8) rfl κ) ?_
  refine Gl.st (g' := (mkF m 10 #[.val (.int vv), .val (.int cc)] [(.long (1 : Int64)), (.long ((1 : Int64) <<< (cc &&& 0x3f).toInt64)), (.long ((vv.toInt64) &&& (4294967295 : Int64)))])) (fun τ κ => XS.lconst X0.here hx rfl (hb hby d5_9) κ) ?_
  refine Gl.st (g' := (mkF m 11 #[.val (.int vv), .val (.int cc)] [(.long (((1 : Int64) <<< (cc &&& 0x3f).toInt64) - (1 : Int64))), (.long ((vv.toInt64) &&& (4294967295 : Int64)))])) (fun τ κ => XS.lsub X0.here hx rfl (hb hby d5_10) rfl κ) ?_
  refine Gl.st (g' := (mkF m 12 #[.val (.int vv), .val (.int cc)] [(.long (((vv.toInt64) &&& (4294967295 : Int64)) &&& (((1 : Int64) <<< (cc &&& 0x3f).toInt64) - (1 : Int64))))])) (fun τ κ => XS.land X0.here hx rfl (hb hby d5_11) rfl κ) ?_
  exact Gl.ret (v := some (.long (((vv.toInt64) &&& (4294967295 : Int64)) &&& (((1 : Int64) <<< (cc &&& 0x3f).toInt64) - (1 : Int64))))) X0 Bd.notSynchronized (fun h => by rw [Bd.returns] at h; cases h) e0 (fun fs hr => X0.lreturnOut hx Bd.returns (hb hby d5_12) hr) (by decide) (by decide) ⟨rfl, N0, rfl⟩
theorem d6_0 : decode method_3_code 0 = .ok (.lload_n 0, 1) := by decide +kernel
theorem d6_1 : decode method_3_code 1 = .ok (.bipush 16, 2) := by decide +kernel
theorem d6_3 : decode method_3_code 3 = .ok (.bipush 8, 2) := by decide +kernel
theorem d6_5 : decode method_3_code 5 = .ok (.iload_n 2, 1) := by decide +kernel
theorem d6_6 : decode method_3_code 6 = .ok (.imul, 1) := by decide +kernel
theorem d6_7 : decode method_3_code 7 = .ok (.isub, 1) := by decide +kernel
theorem d6_8 : decode method_3_code 8 = .ok (.lushr, 1) := by decide +kernel
theorem d6_9 : decode method_3_code 9 = .ok (.ldc2_w 9, 3) := by decide +kernel
theorem d6_12 : decode method_3_code 12 = .ok (.land, 1) := by decide +kernel
theorem d6_13 : decode method_3_code 13 = .ok (.l2i, 1) := by decide +kernel
theorem d6_14 : decode method_3_code 14 = .ok (.ireturn, 1) := by decide +kernel
theorem ef_rm6 (m : MethodId) (ww : Int64) (ii : Int32) : entryFrame m #[(.long ww), (.int ii)] 3 = mkF m 0 #[.val (.long ww), .second, .val (.int ii)] [] := by first | (simp [entryFrame, mkF, argsToLocals, Value.category]; done) | rfl
def Q_rm6 (Z : State) (ww : Int64) (ii : Int32)  (h0 : Heap) (n0 : Nat) (v : Option Value) (h : Heap) (L : List Loc) : Prop := v = some (.int (own_eb ww ii)) ∧ Fr n0 L ∧ h = h0
set_option maxRecDepth 65536 in
set_option maxHeartbeats 40000000 in
theorem rm6 (l : Launch) (Z : State) (a0 : Array Value) (hw : ∀ d ∈ tables_1, d.before a0 Z = true) (ws : List Jvm.Cond) (ww : Int64) (ii : Int32)  (h0 : Heap) (n0 : Nat) (Z0 : n0 ≤ h0.size)  :
    MetFree l (⟨"com/example/quietzone/quietzone/BitWriterToUnsignedBytesPinLaw", "expectedByte", "(JI)I"⟩ : MethodName) (head1 (Jvm.Cond.code (⟨"com/example/quietzone/quietzone/BitWriterToUnsignedBytesPinLaw", "expectedByte", "(JI)I"⟩ : MethodName) method_3_code 3 (some .int) :: ws) ({ frames := 0, cells := 0, slots := 0, locals := 0 } : Room)) (fun aα Uα => aα = #[(.long ww), (.int ii)] ∧ Z.Warmed39 Uα.vm ∧ Uα.heap = h0) (fun _ _ _ _ _ => True) (fun _ Uα oα Uβ => ∃ vα Lα, oα = .returned vα ∧ Q_rm6 Z ww ii  h0 n0 vα Uβ.heap Lα ∧ FrameEnd Uα oα Uβ Lα ({ frames := 0, cells := 0, slots := 0, locals := 0 } : Room).cells ({ frames := 0, cells := 0, slots := 0, locals := 0 } : Room).slots) := by
  refine MetFree.of_bodySF (plainFor_of_name pn_com_example_quietzone_quietzone_BitWriterToUnsignedBytesPinLaw) hisR ?_
  intro p e s m args below meth c s₁ Bd hml0 hP hKα
  obtain ⟨rfl, hZ, hh⟩ := hP
  have hx := Bd.exec
  have hby := Bd.bytes
  have hml : c.maxLocals = 3 := hml0
  have hown : s.vm.findClass "com/example/quietzone/quietzone/BitWriterToUnsignedBytesPinLaw" = some m.cls := findClass_of_methodNamed Bd.named
  have hnm := (name_of_methodNamed Bd.named Bd.method).1
  have X0 : Stand p l e ({ frames := 0, cells := 0, slots := 0, locals := 0 } : Room) s m #[(.long ww), (.int ii)] below meth c s₁ [] 0 0 := Stand.of_body Bd
  have e0 : s₁.heap = h0 := by rw [← hh, Bd.state]; rfl
  have N0 := Fr.nil n0
  suffices k0 : Gl p e below s (Q_rm6 Z ww ii  h0 n0) ({ frames := 0, cells := 0, slots := 0, locals := 0 } : Room).cells ({ frames := 0, cells := 0, slots := 0, locals := 0 } : Room).slots s₁ (mkF m 0 #[.val (.long ww), .second, .val (.int ii)] []) from Gl.st (fun τ κ => castTop (ef_rm6 m ww ii) κ) k0
  refine Gl.st (g' := (mkF m 1 #[.val (.long ww), .second, .val (.int ii)] [(.long ww)])) (fun τ κ => XS.lloadN X0.here hx rfl (hb hby d6_0) rfl κ) ?_
  refine Gl.st (g' := (mkF m 3 #[.val (.long ww), .second, .val (.int ii)] [(.int (16 : Int32)), (.long ww)])) (fun τ κ => XS.bipush X0.here hx rfl (hb hby d6_1) κ) ?_
  refine Gl.st (g' := (mkF m 5 #[.val (.long ww), .second, .val (.int ii)] [(.int (8 : Int32)), (.int (16 : Int32)), (.long ww)])) (fun τ κ => XS.bipush X0.here hx rfl (hb hby d6_3) κ) ?_
  refine Gl.st (g' := (mkF m 6 #[.val (.long ww), .second, .val (.int ii)] [(.int ii), (.int (8 : Int32)), (.int (16 : Int32)), (.long ww)])) (fun τ κ => XS.iloadN X0.here hx rfl (hb hby d6_5) rfl κ) ?_
  refine Gl.st (g' := (mkF m 7 #[.val (.long ww), .second, .val (.int ii)] [(.int ((8 : Int32) * ii)), (.int (16 : Int32)), (.long ww)])) (fun τ κ => XS.imul X0.here hx rfl (hb hby d6_6) rfl κ) ?_
  refine Gl.st (g' := (mkF m 8 #[.val (.long ww), .second, .val (.int ii)] [(.int ((16 : Int32) - ((8 : Int32) * ii))), (.long ww)])) (fun τ κ => XS.isub X0.here hx rfl (hb hby d6_7) rfl κ) ?_
  refine Gl.st (g' := (mkF m 9 #[.val (.long ww), .second, .val (.int ii)] [(.long ((ww.toUInt64 >>> (((16 : Int32) - ((8 : Int32) * ii)) &&& 0x3f).toInt64.toUInt64).toInt64))])) (fun τ κ => XS.lushr X0.here hx rfl (hb hby d6_8) rfl κ) ?_
  refine Gl.st (g' := (mkF m 12 #[.val (.long ww), .second, .val (.int ii)] [(.long (255 : Int64)), (.long ((ww.toUInt64 >>> (((16 : Int32) - ((8 : Int32) * ii)) &&& 0x3f).toInt64.toUInt64).toInt64))])) (fun τ κ => X0.ldc2Long hx hown (mvT hZ (hw _ (List.mem_of_getElem? (i := 34) rfl))) (g := (mkF m 9 #[.val (.long ww), .second, .val (.int ii)] [(.long ((ww.toUInt64 >>> (((16 : Int32) - ((8 : Int32) * ii)) &&& 0x3f).toInt64.toUInt64).toInt64))])) rfl (hb hby d6_9) _ κ) ?_
  refine Gl.st (g' := (mkF m 13 #[.val (.long ww), .second, .val (.int ii)] [(.long (((ww.toUInt64 >>> (((16 : Int32) - ((8 : Int32) * ii)) &&& 0x3f).toInt64.toUInt64).toInt64) &&& (255 : Int64)))])) (fun τ κ => XS.land X0.here hx rfl (hb hby d6_12) rfl κ) ?_
  refine Gl.st (g' := (mkF m 14 #[.val (.long ww), .second, .val (.int ii)] [(.int ((((ww.toUInt64 >>> (((16 : Int32) - ((8 : Int32) * ii)) &&& 0x3f).toInt64.toUInt64).toInt64) &&& (255 : Int64)).toInt32))])) (fun τ κ => XS.l2i X0.here hx rfl (hb hby d6_13) rfl κ) ?_
  exact Gl.ret (v := some (.int ((((ww.toUInt64 >>> (((16 : Int32) - ((8 : Int32) * ii)) &&& 0x3f).toInt64.toUInt64).toInt64) &&& (255 : Int64)).toInt32))) X0 Bd.notSynchronized (fun h => by rw [Bd.returns] at h; cases h) e0 (fun fs hr => retI X0 hx Bd.returns (hb hby d6_14) hr) (by decide) (by decide) ⟨rfl, N0, rfl⟩
theorem own_mk : ∀ r : Fin 25, (((1 : Int64) <<< ((Int32.ofNat r.val) &&& 0x3f).toInt64) - (1 : Int64)).toBitVec.toNat = 2 ^ r.val - 1 := by decide +kernel
theorem own_lowI {v cc : Int32} {r : Nat} (h : cc.toInt = (r : Int)) (hr : r ≤ 24) : (own_low v cc).toInt = ((own_u v % 2 ^ r : Nat) : Int) := by
  have e : cc = Int32.ofNat r := Int32.toInt_inj.mp (by rw [h]; exact (Int32.toInt_ofNat_of_lt (by omega)).symm)
  unfold own_low
  rw [c_maskL _ _ r (by omega) (by rw [e]; exact own_mk ⟨r, by omega⟩), c_maskL _ 4294967295 32 (by decide) (by decide), c_i2l]
  have := own_uI v
  rw [show ((2 ^ 32 : Nat) : Int) = 4294967296 from rfl, this]
  exact (Int.natCast_emod _ _).symm
theorem own_shl {x : Int64} {q : Int32} {A r k : Nat} (hx : x.toInt = (A : Int)) (hA : A < 2 ^ r) (hq : q.toInt = (k : Int)) (hk : r + k ≤ 24) : (x <<< (q &&& 0x3f).toInt64).toInt = ((A * 2 ^ k : Nat) : Int) ∧ A * 2 ^ k < 2 ^ (r + k) := by
  have hs := own_small hq (by omega)
  have c := c_lshl x q k (by rw [hs]; omega)
  have b : A * 2 ^ k < 2 ^ (r + k) := by rw [Nat.pow_add]; exact Nat.mul_lt_mul_of_pos_right hA (Nat.two_pow_pos k)
  have b2 : 2 ^ (r + k) ≤ 2 ^ 24 := Nat.pow_le_pow_right (by decide) hk
  have l1 := Int64.le_toInt (x <<< (q &&& 0x3f).toInt64)
  have l2 := Int64.toInt_lt (x <<< (q &&& 0x3f).toInt64)
  rw [hx, ← Int.natCast_mul] at c
  refine ⟨?_, b⟩
  generalize A * 2 ^ k = P at *
  omega
theorem own_word {a b c1 c2 : Int32} {r1 r2 : Nat} (h1 : c1.toInt = (r1 : Int)) (h2 : c2.toInt = (r2 : Int)) (hr : r1 + r2 ≤ 24) :
    ((own_low a c1 <<< (((24 : Int32) - c1) &&& 0x3f).toInt64) ||| (own_low b c2 <<< ((((24 : Int32) - c1) - c2) &&& 0x3f).toInt64)).toInt = ((((0 + (own_u a % 2 ^ r1) * 2 ^ (24 - 0 - r1)) + (own_u b % 2 ^ r2) * 2 ^ (24 - (0 + r1) - r2) : Nat)) : Int) ∧ (0 + (own_u a % 2 ^ r1) * 2 ^ (24 - 0 - r1)) + (own_u b % 2 ^ r2) * 2 ^ (24 - (0 + r1) - r2) < 16777216 := by
  have q1 : ((24 : Int32) - c1).toInt = ((24 - r1 : Nat) : Int) := by rw [Jvm.Kit.i32_sub] <;> rw [h1, show (24 : Int32).toInt = 24 from rfl] <;> omega
  have q2 : (((24 : Int32) - c1) - c2).toInt = ((24 - r1 - r2 : Nat) : Int) := by rw [Jvm.Kit.i32_sub] <;> rw [q1, h2] <;> omega
  have s1 := own_shl (own_lowI (v := a) h1 (by omega)) (Nat.mod_lt _ (Nat.two_pow_pos r1)) q1 (by omega)
  have s2 := own_shl (own_lowI (v := b) h2 (by omega)) (Nat.mod_lt _ (Nat.two_pow_pos r2)) q2 (by omega)
  rw [show r1 + (24 - r1) = 24 by omega] at s1
  rw [show r2 + (24 - r1 - r2) = 24 - r1 by omega] at s2
  have o := c_orL (own_low a c1 <<< (((24 : Int32) - c1) &&& 0x3f).toInt64) (own_low b c2 <<< ((((24 : Int32) - c1) - c2) &&& 0x3f).toInt64) (24 - r1) (by omega) _ rfl (by rw [s1.1, ← Int.natCast_emod, Nat.mul_mod_left]; rfl) (by rw [s2.1]; omega) (by rw [s2.1]; exact Int.ofNat_lt.mpr s2.2)
  have d : own_u a % 2 ^ r1 * 2 ^ (24 - r1) + own_u b % 2 ^ r2 * 2 ^ (24 - r1 - r2) < 16777216 := by
    have m : own_u a % 2 ^ r1 + 1 ≤ 2 ^ r1 := Nat.mod_lt _ (Nat.two_pow_pos r1)
    have m2 := Nat.mul_le_mul_right (2 ^ (24 - r1)) m
    rw [← Nat.pow_add, show r1 + (24 - r1) = 24 by omega, Nat.add_mul, Nat.one_mul] at m2
    have := s2.2
    omega
  rw [show 24 - 0 - r1 = 24 - r1 by omega, show 24 - (0 + r1) - r2 = 24 - r1 - r2 by omega, Nat.zero_add]
  refine ⟨?_, d⟩
  rw [s1.1, s2.1] at o
  have l1 := Int64.le_toInt ((own_low a c1 <<< (((24 : Int32) - c1) &&& 0x3f).toInt64) ||| (own_low b c2 <<< ((((24 : Int32) - c1) - c2) &&& 0x3f).toInt64))
  have l2 := Int64.toInt_lt ((own_low a c1 <<< (((24 : Int32) - c1) &&& 0x3f).toInt64) ||| (own_low b c2 <<< ((((24 : Int32) - c1) - c2) &&& 0x3f).toInt64))
  generalize own_u a % 2 ^ r1 * 2 ^ (24 - r1) = P at *
  generalize own_u b % 2 ^ r2 * 2 ^ (24 - r1 - r2) = P2 at *
  omega
theorem own_sbI {B : Nat} (h : B < 256) : (own_sb B &&& (255 : Int32)).toInt = (B : Int) := by
  rw [c_mask _ 255 8 (by decide) (by decide)]
  have c := (c_i2b (Int32.ofNat B)).1
  have e : (Int32.ofNat B).toInt = (B : Int) := Int32.toInt_ofNat_of_lt (by omega)
  unfold own_sb
  rw [e] at c
  rw [show ((2 ^ 8 : Nat) : Int) = 256 from rfl]
  omega
theorem own_ebI {w : Int64} {i : Int32} {M k : Nat} (hw : w.toInt = (M : Int)) (hM : M < 16777216) (hk : ((16 : Int32) - ((8 : Int32) * i)).toBitVec.toNat % 64 = k) : (own_eb w i).toInt = ((M / 2 ^ k % 256 : Nat) : Int) := by
  have s : (((w.toUInt64 >>> (((16 : Int32) - ((8 : Int32) * i)) &&& 0x3f).toInt64.toUInt64).toInt64)).toInt = ((M / 2 ^ k : Nat) : Int) := by
    by_cases z : k = 0
    · subst z
      have e : (((16 : Int32) - ((8 : Int32) * i)) &&& 0x3f) = 0 := by
        apply Int32.toInt_inj.mp
        rw [c_mask _ 0x3f 6 (by decide) (by decide)]
        show _ % ((2 ^ 6 : Nat) : Int) = 0
        have := own_uI ((16 : Int32) - ((8 : Int32) * i))
        unfold own_u at this
        rw [show ((2 ^ 6 : Nat) : Int) = 64 from rfl]
        omega
      rw [e, Nat.pow_zero, Nat.div_one, ← hw]
      congr 1
    · rw [c_lushr w _ k hk (by omega), hw]
      have : (M : Int) % 18446744073709551616 = M := by omega
      rw [this]; rfl
  unfold own_eb
  have c := c_l2i (((w.toUInt64 >>> (((16 : Int32) - ((8 : Int32) * i)) &&& 0x3f).toInt64.toUInt64).toInt64) &&& (255 : Int64))
  rw [c_maskL _ 255 8 (by decide) (by decide), s] at c
  rw [show ((2 ^ 8 : Nat) : Int) = 256 from rfl] at c
  have l1 := Int32.le_toInt ((((w.toUInt64 >>> (((16 : Int32) - ((8 : Int32) * i)) &&& 0x3f).toInt64.toUInt64).toInt64) &&& (255 : Int64)).toInt32)
  have l2 := Int32.toInt_lt ((((w.toUInt64 >>> (((16 : Int32) - ((8 : Int32) * i)) &&& 0x3f).toInt64.toUInt64).toInt64) &&& (255 : Int64)).toInt32)
  generalize M / 2 ^ k = D at *
  omega
theorem own_cmp {w : Int64} {M : Nat} (hw : w.toInt = (M : Int)) (hM : M < 16777216) : (own_by M 0 &&& (255 : Int32)) = own_eb w (0 : Int32) ∧ (own_by M 1 &&& (255 : Int32)) = own_eb w (1 : Int32) ∧ (own_by M 2 &&& (255 : Int32)) = own_eb w (2 : Int32) := by
  refine ⟨?_, ?_, ?_⟩ <;> apply Int32.toInt_inj.mp
  · rw [own_ebI (k := 16) hw hM (by decide)]; exact own_sbI (Nat.mod_lt _ (by decide))
  · rw [own_ebI (k := 8) hw hM (by decide)]; exact own_sbI (Nat.mod_lt _ (by decide))
  · rw [own_ebI (k := 0) hw hM (by decide)]; exact own_sbI (Nat.mod_lt _ (by decide))
theorem own_c1 (x d : Int32) (h : 1 ≤ d.toInt) : ∃ r : Nat, ((x &&& (2147483647 : Int32)) % d).toInt = (r : Int) ∧ (r : Int) < d.toInt := by
  have m := c_mask x 2147483647 31 (by decide) (by decide)
  have q := (c_iremV (x &&& 2147483647) d).1 (by rw [m]; omega) (by omega)
  exact ⟨((x &&& (2147483647 : Int32)) % d).toInt.toNat, by omega, by omega⟩
theorem own_nz {x : Int32} (h : 1 ≤ x.toInt) : ¬ x = 0 := fun e => by subst e; exact absurd h (by decide)
theorem pd_0 : parseMethodDescriptor "(I)V" = some ⟨[.int], none⟩ := by decide +kernel
theorem pd_1 : parseMethodDescriptor "(II)V" = some ⟨[.int, .int], none⟩ := by decide +kernel
theorem pd_2 : parseMethodDescriptor "()[I" = some ⟨[], some (.array .int)⟩ := by decide +kernel
theorem pd_3 : parseMethodDescriptor "(II)J" = some ⟨[.int, .int], some .long⟩ := by decide +kernel
theorem pd_4 : parseMethodDescriptor "(JI)I" = some ⟨[.long, .int], some .int⟩ := by decide +kernel
theorem ef_rm0 (m : MethodId) (x0 : Int32) (x1 : Int32) (x2 : Int32) (x3 : Int32) (x4 : Int32) : entryFrame m #[(.int x0), (.int x1), (.int x2), (.int x3), (.int x4)] maxLocals = mkF m 0 #[.val (.int x0), .val (.int x1), .val (.int x2), .val (.int x3), .val (.int x4), .unset, .unset, .unset, .unset, .unset, .unset, .unset, .unset, .unset] [] := by first | (simp [entryFrame, mkF, argsToLocals, Value.category, maxLocals]; done) | rfl
def Q_rm0 (Z : State) (x0 : Int32) (x1 : Int32) (x2 : Int32) (x3 : Int32) (x4 : Int32)  (h0 : Heap) (n0 : Nat) (v : Option Value) (h : Heap) (L : List Loc) : Prop := v = some (.int 1) ∧ Fr n0 L
set_option maxRecDepth 65536 in
set_option maxHeartbeats 40000000 in
theorem rm0 (l : Launch) (Z : State) (a0 : Array Value) (hw : ∀ d ∈ tables_1, d.before a0 Z = true) (ws : List Jvm.Cond) (x0 : Int32) (x1 : Int32) (x2 : Int32) (x3 : Int32) (x4 : Int32)  (h0 : Heap) (n0 : Nat) (Z0 : n0 ≤ h0.size)  :
    MetFree l x (head1 (Jvm.Cond.code x code maxLocals ret :: ws) room_1) (fun aα Uα => aα = #[(.int x0), (.int x1), (.int x2), (.int x3), (.int x4)] ∧ Z.Warmed39 Uα.vm ∧ Uα.heap = h0) (fun _ _ _ _ _ => True) (fun _ Uα oα Uβ => ∃ vα Lα, oα = .returned vα ∧ Q_rm0 Z x0 x1 x2 x3 x4  h0 n0 vα Uβ.heap Lα ∧ FrameEnd Uα oα Uβ Lα 16 128) := by
  refine MetFree.of_bodySF (plainFor_of_name pn_com_example_quietzone_quietzone_BitWriterToUnsignedBytesPinLaw) hisR ?_
  intro p e s m args below meth c s₁ Bd hml0 hP hKα
  obtain ⟨rfl, hZ, hh⟩ := hP
  have hx := Bd.exec
  have hby := Bd.bytes
  have hml : c.maxLocals = 14 := hml0
  have hown : s.vm.findClass "com/example/quietzone/quietzone/BitWriterToUnsignedBytesPinLaw" = some m.cls := findClass_of_methodNamed Bd.named
  have hnm := (name_of_methodNamed Bd.named Bd.method).1
  have X0 : Stand p l e room_1 s m #[(.int x0), (.int x1), (.int x2), (.int x3), (.int x4)] below meth c s₁ [] 0 0 := Stand.of_body Bd
  have e0 : s₁.heap = h0 := by rw [← hh, Bd.state]; rfl
  have N0 := Fr.nil n0
  suffices k0 : Gl p e below s (Q_rm0 Z x0 x1 x2 x3 x4  h0 n0) 16 128 s₁ (mkF m 0 #[.val (.int x0), .val (.int x1), .val (.int x2), .val (.int x3), .val (.int x4), .unset, .unset, .unset, .unset, .unset, .unset, .unset, .unset, .unset] []) from Gl.st (fun τ κ => castTop (ef_rm0 m x0 x1 x2 x3 x4) κ) k0
  refine Gl.st (g' := (mkF m 1 #[.val (.int x0), .val (.int x1), .val (.int x2), .val (.int x3), .val (.int x4), .unset, .unset, .unset, .unset, .unset, .unset, .unset, .unset, .unset] [(.int x0)])) (fun τ κ => XS.iloadN X0.here hx rfl (hb hby at_0) rfl κ) ?_
  refine Gl.st (g' := (mkF m 2 #[.val (.int x0), .val (.int x1), .val (.int x2), .val (.int x3), .val (.int x4), .unset, .unset, .unset, .unset, .unset, .unset, .unset, .unset, .unset] [(.int (3 : Int32)), (.int x0)])) (fun τ κ => XS.iconst X0.here hx rfl (hb hby at_1) κ) ?_
  refine Gl.st (g' := (mkF m 3 #[.val (.int x0), .val (.int x1), .val (.int x2), .val (.int x3), .val (.int x4), .unset, .unset, .unset, .unset, .unset, .unset, .unset, .unset, .unset] [(.int (x0 &&& (3 : Int32)))])) (fun τ κ => XS.iand X0.here hx rfl (hb hby at_2) rfl κ) ?_
  rcases own_four x0 with hs135 | hs135 | hs135 | hs135
  · rw [hs135]
    refine Gl.st (g' := (mkF m 5 #[.val (.int x0), .val (.int x1), .val (.int x2), .val (.int x3), .val (.int x4), .val (.int (0 : Int32)), .unset, .unset, .unset, .unset, .unset, .unset, .unset, .unset] [])) (fun τ κ => XS.istore X0.here hx rfl (hb hby at_3) rfl (l' := #[.val (.int x0), .val (.int x1), .val (.int x2), .val (.int x3), .val (.int x4), .val (.int (0 : Int32)), .unset, .unset, .unset, .unset, .unset, .unset, .unset, .unset]) rfl κ) ?_
    refine Gl.st (g' := (mkF m 7 #[.val (.int x0), .val (.int x1), .val (.int x2), .val (.int x3), .val (.int x4), .val (.int (0 : Int32)), .unset, .unset, .unset, .unset, .unset, .unset, .unset, .unset] [(.int (8 : Int32))])) (fun τ κ => XS.bipush X0.here hx rfl (hb hby at_5) κ) ?_
    refine Gl.st (g' := (mkF m 9 #[.val (.int x0), .val (.int x1), .val (.int x2), .val (.int x3), .val (.int x4), .val (.int (0 : Int32)), .unset, .unset, .unset, .unset, .unset, .unset, .unset, .unset] [(.int (0 : Int32)), (.int (8 : Int32))])) (fun τ κ => XS.iload X0.here hx rfl (hb hby at_7) rfl κ) ?_
    refine Gl.st (g' := (mkF m 10 #[.val (.int x0), .val (.int x1), .val (.int x2), .val (.int x3), .val (.int x4), .val (.int (0 : Int32)), .unset, .unset, .unset, .unset, .unset, .unset, .unset, .unset] [(.int (0 : Int32))])) (fun τ κ => XS.imul X0.here hx rfl (hb hby at_9) rfl κ) ?_
    refine Gl.st (g' := (mkF m 12 #[.val (.int x0), .val (.int x1), .val (.int x2), .val (.int x3), .val (.int x4), .val (.int (0 : Int32)), .val (.int (0 : Int32)), .unset, .unset, .unset, .unset, .unset, .unset, .unset] [])) (fun τ κ => XS.istore X0.here hx rfl (hb hby at_10) rfl (l' := #[.val (.int x0), .val (.int x1), .val (.int x2), .val (.int x3), .val (.int x4), .val (.int (0 : Int32)), .val (.int (0 : Int32)), .unset, .unset, .unset, .unset, .unset, .unset, .unset]) rfl κ) ?_
    refine Gl.st (g' := (mkF m 13 #[.val (.int x0), .val (.int x1), .val (.int x2), .val (.int x3), .val (.int x4), .val (.int (0 : Int32)), .val (.int (0 : Int32)), .unset, .unset, .unset, .unset, .unset, .unset, .unset] [(.int x1)])) (fun τ κ => XS.iloadN X0.here hx rfl (hb hby at_12) rfl κ) ?_
    refine Gl.st (g' := (mkF m 15 #[.val (.int x0), .val (.int x1), .val (.int x2), .val (.int x3), .val (.int x4), .val (.int (0 : Int32)), .val (.int (0 : Int32)), .unset, .unset, .unset, .unset, .unset, .unset, .unset] [(.int (2147483647 : Int32)), (.int x1)])) (fun τ κ => X0.ldcInt hx hown (mvT hZ (hw _ (List.mem_of_getElem? (i := 0) rfl))) (g := (mkF m 13 #[.val (.int x0), .val (.int x1), .val (.int x2), .val (.int x3), .val (.int x4), .val (.int (0 : Int32)), .val (.int (0 : Int32)), .unset, .unset, .unset, .unset, .unset, .unset, .unset] [(.int x1)])) rfl (hb hby at_13) _ κ) ?_
    refine Gl.st (g' := (mkF m 16 #[.val (.int x0), .val (.int x1), .val (.int x2), .val (.int x3), .val (.int x4), .val (.int (0 : Int32)), .val (.int (0 : Int32)), .unset, .unset, .unset, .unset, .unset, .unset, .unset] [(.int (x1 &&& (2147483647 : Int32)))])) (fun τ κ => XS.iand X0.here hx rfl (hb hby at_15) rfl κ) ?_
    refine Gl.st (g' := (mkF m 18 #[.val (.int x0), .val (.int x1), .val (.int x2), .val (.int x3), .val (.int x4), .val (.int (0 : Int32)), .val (.int (0 : Int32)), .unset, .unset, .unset, .unset, .unset, .unset, .unset] [(.int (0 : Int32)), (.int (x1 &&& (2147483647 : Int32)))])) (fun τ κ => XS.iload X0.here hx rfl (hb hby at_16) rfl κ) ?_
    refine Gl.st (g' := (mkF m 19 #[.val (.int x0), .val (.int x1), .val (.int x2), .val (.int x3), .val (.int x4), .val (.int (0 : Int32)), .val (.int (0 : Int32)), .unset, .unset, .unset, .unset, .unset, .unset, .unset] [(.int (1 : Int32)), (.int (0 : Int32)), (.int (x1 &&& (2147483647 : Int32)))])) (fun τ κ => XS.iconst X0.here hx rfl (hb hby at_18) κ) ?_
    refine Gl.st (g' := (mkF m 20 #[.val (.int x0), .val (.int x1), .val (.int x2), .val (.int x3), .val (.int x4), .val (.int (0 : Int32)), .val (.int (0 : Int32)), .unset, .unset, .unset, .unset, .unset, .unset, .unset] [(.int (1 : Int32)), (.int (x1 &&& (2147483647 : Int32)))])) (fun τ κ => XS.iadd X0.here hx rfl (hb hby at_19) rfl κ) ?_
    refine Gl.st (g' := (mkF m 21 #[.val (.int x0), .val (.int x1), .val (.int x2), .val (.int x3), .val (.int x4), .val (.int (0 : Int32)), .val (.int (0 : Int32)), .unset, .unset, .unset, .unset, .unset, .unset, .unset] [(.int ((x1 &&& (2147483647 : Int32)) % (1 : Int32)))])) (fun τ κ => iremM (g := (mkF m 20 #[.val (.int x0), .val (.int x1), .val (.int x2), .val (.int x3), .val (.int x4), .val (.int (0 : Int32)), .val (.int (0 : Int32)), .unset, .unset, .unset, .unset, .unset, .unset, .unset] [(.int (1 : Int32)), (.int (x1 &&& (2147483647 : Int32)))])) X0 hx rfl (hb hby at_20) rfl (by decide) κ) ?_
    obtain ⟨r1, hr1, hq1⟩ := own_c1 x1 (1 : Int32) (by decide)
    generalize ((x1 &&& (2147483647 : Int32)) % (1 : Int32)) = c1 at hr1 ⊢
    have hb1 : r1 ≤ 0 := by have q := hq1; rw [show ((1 : Int32)).toInt = 1 from rfl] at q; omega
    have hd : (((0 : Int32) - c1) + (1 : Int32)).toInt = 0 - r1 + 1 := by
      have e : ((0 : Int32) - c1).toInt = 0 - r1 := by rw [Jvm.Kit.i32_sub] <;> rw [hr1, show ((0 : Int32)).toInt = 0 from rfl] <;> omega
      rw [Jvm.Kit.i32_add] <;> rw [e, show (1 : Int32).toInt = 1 from rfl] <;> omega
    refine Gl.st (g' := (mkF m 23 #[.val (.int x0), .val (.int x1), .val (.int x2), .val (.int x3), .val (.int x4), .val (.int (0 : Int32)), .val (.int (0 : Int32)), .val (.int c1), .unset, .unset, .unset, .unset, .unset, .unset] [])) (fun τ κ => XS.istore X0.here hx rfl (hb hby at_21) rfl (l' := #[.val (.int x0), .val (.int x1), .val (.int x2), .val (.int x3), .val (.int x4), .val (.int (0 : Int32)), .val (.int (0 : Int32)), .val (.int c1), .unset, .unset, .unset, .unset, .unset, .unset]) rfl κ) ?_
    refine Gl.st (g' := (mkF m 24 #[.val (.int x0), .val (.int x1), .val (.int x2), .val (.int x3), .val (.int x4), .val (.int (0 : Int32)), .val (.int (0 : Int32)), .val (.int c1), .unset, .unset, .unset, .unset, .unset, .unset] [(.int x3)])) (fun τ κ => XS.iloadN X0.here hx rfl (hb hby at_23) rfl κ) ?_
    refine Gl.st (g' := (mkF m 26 #[.val (.int x0), .val (.int x1), .val (.int x2), .val (.int x3), .val (.int x4), .val (.int (0 : Int32)), .val (.int (0 : Int32)), .val (.int c1), .unset, .unset, .unset, .unset, .unset, .unset] [(.int (2147483647 : Int32)), (.int x3)])) (fun τ κ => X0.ldcInt hx hown (mvT hZ (hw _ (List.mem_of_getElem? (i := 0) rfl))) (g := (mkF m 24 #[.val (.int x0), .val (.int x1), .val (.int x2), .val (.int x3), .val (.int x4), .val (.int (0 : Int32)), .val (.int (0 : Int32)), .val (.int c1), .unset, .unset, .unset, .unset, .unset, .unset] [(.int x3)])) rfl (hb hby at_24) _ κ) ?_
    refine Gl.st (g' := (mkF m 27 #[.val (.int x0), .val (.int x1), .val (.int x2), .val (.int x3), .val (.int x4), .val (.int (0 : Int32)), .val (.int (0 : Int32)), .val (.int c1), .unset, .unset, .unset, .unset, .unset, .unset] [(.int (x3 &&& (2147483647 : Int32)))])) (fun τ κ => XS.iand X0.here hx rfl (hb hby at_26) rfl κ) ?_
    refine Gl.st (g' := (mkF m 29 #[.val (.int x0), .val (.int x1), .val (.int x2), .val (.int x3), .val (.int x4), .val (.int (0 : Int32)), .val (.int (0 : Int32)), .val (.int c1), .unset, .unset, .unset, .unset, .unset, .unset] [(.int (0 : Int32)), (.int (x3 &&& (2147483647 : Int32)))])) (fun τ κ => XS.iload X0.here hx rfl (hb hby at_27) rfl κ) ?_
    refine Gl.st (g' := (mkF m 31 #[.val (.int x0), .val (.int x1), .val (.int x2), .val (.int x3), .val (.int x4), .val (.int (0 : Int32)), .val (.int (0 : Int32)), .val (.int c1), .unset, .unset, .unset, .unset, .unset, .unset] [(.int c1), (.int (0 : Int32)), (.int (x3 &&& (2147483647 : Int32)))])) (fun τ κ => XS.iload X0.here hx rfl (hb hby at_29) rfl κ) ?_
    refine Gl.st (g' := (mkF m 32 #[.val (.int x0), .val (.int x1), .val (.int x2), .val (.int x3), .val (.int x4), .val (.int (0 : Int32)), .val (.int (0 : Int32)), .val (.int c1), .unset, .unset, .unset, .unset, .unset, .unset] [(.int ((0 : Int32) - c1)), (.int (x3 &&& (2147483647 : Int32)))])) (fun τ κ => XS.isub X0.here hx rfl (hb hby at_31) rfl κ) ?_
    refine Gl.st (g' := (mkF m 33 #[.val (.int x0), .val (.int x1), .val (.int x2), .val (.int x3), .val (.int x4), .val (.int (0 : Int32)), .val (.int (0 : Int32)), .val (.int c1), .unset, .unset, .unset, .unset, .unset, .unset] [(.int (1 : Int32)), (.int ((0 : Int32) - c1)), (.int (x3 &&& (2147483647 : Int32)))])) (fun τ κ => XS.iconst X0.here hx rfl (hb hby at_32) κ) ?_
    refine Gl.st (g' := (mkF m 34 #[.val (.int x0), .val (.int x1), .val (.int x2), .val (.int x3), .val (.int x4), .val (.int (0 : Int32)), .val (.int (0 : Int32)), .val (.int c1), .unset, .unset, .unset, .unset, .unset, .unset] [(.int (((0 : Int32) - c1) + (1 : Int32))), (.int (x3 &&& (2147483647 : Int32)))])) (fun τ κ => XS.iadd X0.here hx rfl (hb hby at_33) rfl κ) ?_
    refine Gl.st (g' := (mkF m 35 #[.val (.int x0), .val (.int x1), .val (.int x2), .val (.int x3), .val (.int x4), .val (.int (0 : Int32)), .val (.int (0 : Int32)), .val (.int c1), .unset, .unset, .unset, .unset, .unset, .unset] [(.int ((x3 &&& (2147483647 : Int32)) % (((0 : Int32) - c1) + (1 : Int32))))])) (fun τ κ => iremM (g := (mkF m 34 #[.val (.int x0), .val (.int x1), .val (.int x2), .val (.int x3), .val (.int x4), .val (.int (0 : Int32)), .val (.int (0 : Int32)), .val (.int c1), .unset, .unset, .unset, .unset, .unset, .unset] [(.int (((0 : Int32) - c1) + (1 : Int32))), (.int (x3 &&& (2147483647 : Int32)))])) X0 hx rfl (hb hby at_34) rfl (own_nz (by omega)) κ) ?_
    obtain ⟨r2, hr2, hq2⟩ := own_c1 x3 (((0 : Int32) - c1) + (1 : Int32)) (by omega)
    generalize ((x3 &&& (2147483647 : Int32)) % (((0 : Int32) - c1) + (1 : Int32))) = c2 at hr2 ⊢
    have hb2 : r1 + r2 ≤ 0 := by omega
    refine Gl.st (g' := (mkF m 37 #[.val (.int x0), .val (.int x1), .val (.int x2), .val (.int x3), .val (.int x4), .val (.int (0 : Int32)), .val (.int (0 : Int32)), .val (.int c1), .val (.int c2), .unset, .unset, .unset, .unset, .unset] [])) (fun τ κ => XS.istore X0.here hx rfl (hb hby at_35) rfl (l' := #[.val (.int x0), .val (.int x1), .val (.int x2), .val (.int x3), .val (.int x4), .val (.int (0 : Int32)), .val (.int (0 : Int32)), .val (.int c1), .val (.int c2), .unset, .unset, .unset, .unset, .unset]) rfl κ) ?_
    obtain ⟨T136, h136, X136, e136, E136, A136, D136, -, st136⟩ := newO X0 hx hZ hown (hw _ (List.mem_of_getElem? (i := 1) rfl)) (hw _ (List.mem_of_getElem? (i := 2) rfl)) (hw _ (List.mem_of_getElem? (i := 3) rfl)) e0 (g := (mkF m 37 #[.val (.int x0), .val (.int x1), .val (.int x2), .val (.int x3), .val (.int x4), .val (.int (0 : Int32)), .val (.int (0 : Int32)), .val (.int c1), .val (.int c2), .unset, .unset, .unset, .unset, .unset] [])) rfl (hb hby at_37) (by decide) (by decide)
    obtain ⟨b136, g136⟩ : ∃ z, z = h0.size := ⟨_, rfl⟩
    rw [← g136] at A136 D136 st136
    have g_b136 : n0 ≤ b136 := Nat.le_trans Z0 (Nat.le_of_eq g136.symm)
    have sz_b136 : h0.size ≤ b136 := Nat.le_trans (Keep.refl h0 []).1 (Nat.le_of_eq g136.symm)
    have Z136 : n0 ≤ h136.size := Nat.le_trans Z0 E136.1
    have K136 : Keep h0 h136 [] := (Keep.refl h0 []).ext E136
    have F_137 : Fld Z h136 b136 "com/example/quietzone/quietzone/BitWriter" "bytes" "[B" .null := D136 (Or.inr (hw _ (List.mem_of_getElem? (i := 12) rfl))) (ty := (.array .byte)) (by decide)
    have F_138 : Fld Z h136 b136 "com/example/quietzone/quietzone/BitWriter" "length" "I" (.int (0 : Int32)) := D136 (Or.inl (hw _ (List.mem_of_getElem? (i := 30) rfl))) (ty := .int) (by decide)
    refine Gl.st (g' := (mkF m 40 #[.val (.int x0), .val (.int x1), .val (.int x2), .val (.int x3), .val (.int x4), .val (.int (0 : Int32)), .val (.int (0 : Int32)), .val (.int c1), .val (.int c2), .unset, .unset, .unset, .unset, .unset] [(.ref b136)])) (fun τ κ => st136 _ κ) ?_
    refine Gl.st (g' := (mkF m 41 #[.val (.int x0), .val (.int x1), .val (.int x2), .val (.int x3), .val (.int x4), .val (.int (0 : Int32)), .val (.int (0 : Int32)), .val (.int c1), .val (.int c2), .unset, .unset, .unset, .unset, .unset] [(.ref b136), (.ref b136)])) (fun τ κ => XS.dup X136.here hx rfl (hb hby at_40) rfl rfl κ) ?_
    refine Gl.st (g' := (mkF m 43 #[.val (.int x0), .val (.int x1), .val (.int x2), .val (.int x3), .val (.int x4), .val (.int (0 : Int32)), .val (.int (0 : Int32)), .val (.int c1), .val (.int c2), .unset, .unset, .unset, .unset, .unset] [(.int (0 : Int32)), (.ref b136), (.ref b136)])) (fun τ κ => XS.iload X136.here hx rfl (hb hby at_41) rfl κ) ?_
    obtain ⟨rv139, _, ⟨T139, L139, k139, n139⟩, -, X139, ⟨Lc139, hQ139, l139, y139, z139⟩, st139⟩ := X136.specialBack hx (y := (⟨"com/example/quietzone/quietzone/BitWriter", "<init>", "(I)V"⟩ : MethodName)) rfl hown (mvT hZ (hw _ (List.mem_of_getElem? (i := 4) rfl))) (mvT hZ (hw _ (List.mem_of_getElem? (i := 5) rfl))) (mvT hZ (hw _ (List.mem_of_getElem? (i := 6) rfl))) (by decide) (backOf (W := 1) (rm1 l Z a0 hw [] b136 (0 : Int32) h136 n0 Z136 A136 g_b136 F_137 F_138 (by decide) (by decide)) hZ (hw _ (List.mem_of_getElem? (i := 6) rfl)) (hw _ (List.mem_of_getElem? (i := 3) rfl)) (by decide) (by decide)) (g := (mkF m 43 #[.val (.int x0), .val (.int x1), .val (.int x2), .val (.int x3), .val (.int x4), .val (.int (0 : Int32)), .val (.int (0 : Int32)), .val (.int c1), .val (.int c2), .unset, .unset, .unset, .unset, .unset] [(.int (0 : Int32)), (.ref b136), (.ref b136)])) rfl (by rw [hml]; rfl) (Steps.refl _) (a := b136) (argsL := [(.int (0 : Int32))]) (rest := [(.ref b136)]) (lenOf pd_0 rfl) rfl (by show 2 * 0 + _ ≤ _; exact Nat.le_of_eq rfl) (hb hby at_43) (fun _ _ => ⟨rfl, e136, (by decide : 1 + 1 ≤ _), (by decide : 2 + 3 ≤ _)⟩)
    dsimp only [Pt.U, Pt.locs, Pt.cells, Pt.slots] at X139 l139 y139 z139 st139 hQ139
    subst l139 y139 z139
    obtain ⟨t139, kk139, rfl, N139q, Kc139, Ec139, FB139, FL139, V139, s139⟩ := hQ139
    have ne_b136_t139 : b136 ≠ t139 := Nat.ne_of_lt (Nat.lt_of_lt_of_le A136.lt s139)
    have g_t139 : n0 ≤ t139 := Nat.le_trans Z136 s139
    have sz_t139 : h0.size ≤ t139 := Nat.le_trans K136.1 s139
    have E_140 := A136.keep Kc139
    have N139 := Fr.app N0 N139q
    have Z139 : n0 ≤ T139.heap.size := Nat.le_trans Z136 Kc139.1
    have K139 : Keep h0 T139.heap [] := K136.trans Kc139 (allS (Or.inr sz_b136) all0)
    refine Gl.st (g' := (mkF m 46 #[.val (.int x0), .val (.int x1), .val (.int x2), .val (.int x3), .val (.int x4), .val (.int (0 : Int32)), .val (.int (0 : Int32)), .val (.int c1), .val (.int c2), .unset, .unset, .unset, .unset, .unset] [(.ref b136)])) (fun τ κ => st139.trans κ) ?_
    refine Gl.st (g' := (mkF m 48 #[.val (.int x0), .val (.int x1), .val (.int x2), .val (.int x3), .val (.int x4), .val (.int (0 : Int32)), .val (.int (0 : Int32)), .val (.int c1), .val (.int c2), .val (.ref b136), .unset, .unset, .unset, .unset] [])) (fun τ κ => XS.astore X139.here hx rfl (hb hby at_46) rfl rfl (l' := #[.val (.int x0), .val (.int x1), .val (.int x2), .val (.int x3), .val (.int x4), .val (.int (0 : Int32)), .val (.int (0 : Int32)), .val (.int c1), .val (.int c2), .val (.ref b136), .unset, .unset, .unset, .unset]) rfl κ) ?_
    refine Gl.st (g' := (mkF m 50 #[.val (.int x0), .val (.int x1), .val (.int x2), .val (.int x3), .val (.int x4), .val (.int (0 : Int32)), .val (.int (0 : Int32)), .val (.int c1), .val (.int c2), .val (.ref b136), .unset, .unset, .unset, .unset] [(.ref b136)])) (fun τ κ => XS.aload X139.here hx rfl (hb hby at_48) rfl rfl κ) ?_
    refine Gl.st (g' := (mkF m 51 #[.val (.int x0), .val (.int x1), .val (.int x2), .val (.int x3), .val (.int x4), .val (.int (0 : Int32)), .val (.int (0 : Int32)), .val (.int c1), .val (.int c2), .val (.ref b136), .unset, .unset, .unset, .unset] [(.int x2), (.ref b136)])) (fun τ κ => XS.iloadN X139.here hx rfl (hb hby at_50) rfl κ) ?_
    refine Gl.st (g' := (mkF m 53 #[.val (.int x0), .val (.int x1), .val (.int x2), .val (.int x3), .val (.int x4), .val (.int (0 : Int32)), .val (.int (0 : Int32)), .val (.int c1), .val (.int c2), .val (.ref b136), .unset, .unset, .unset, .unset] [(.int c1), (.int x2), (.ref b136)])) (fun τ κ => XS.iload X139.here hx rfl (hb hby at_51) rfl κ) ?_
    obtain ⟨cq143, kq143, q143a, q143b, q143c⟩ := isOf hZ rfl Ec139
    obtain ⟨rv143, _, ⟨T143, L143, k143, n143⟩, -, X143, ⟨Lc143, hQ143, l143, y143, z143⟩, st143⟩ := X139.virtualBack hx (y := (⟨"com/example/quietzone/quietzone/BitWriter", "write", "(II)V"⟩ : MethodName)) (z := (⟨"com/example/quietzone/quietzone/BitWriter", "write", "(II)V"⟩ : MethodName)) hown (mvT hZ (hw _ (List.mem_of_getElem? (i := 13) rfl))) (mvT hZ (hw _ (List.mem_of_getElem? (i := 14) rfl))) (notFace_of_selects (args := #[]) (mvT hZ (hw _ (List.mem_of_getElem? (i := 16) rfl)))) (mvT hZ (hw _ (List.mem_of_getElem? (i := 16) rfl))) (mvT hZ (hw _ (List.mem_of_getElem? (i := 15) rfl))) (by decide) (backOf (W := 0) (rm3 l Z a0 hw [] b136 x2 c1 t139 kk139 (0 : Int32) (0 : Int32) 0 0 r1 T139.heap n0 Z139 Ec139 g_b136 g_t139 ne_b136_t139 FB139 FL139 V139 hr1 rfl (by have : ((0 : Int32)).toInt.toNat = 0 := rfl; omega) (by decide) (by decide) (by decide)) hZ (hw _ (List.mem_of_getElem? (i := 17) rfl)) (hw _ (List.mem_of_getElem? (i := 3) rfl)) (by decide) (by decide)) q143a q143c (g := (mkF m 53 #[.val (.int x0), .val (.int x1), .val (.int x2), .val (.int x3), .val (.int x4), .val (.int (0 : Int32)), .val (.int (0 : Int32)), .val (.int c1), .val (.int c2), .val (.ref b136), .unset, .unset, .unset, .unset] [(.int c1), (.int x2), (.ref b136)])) rfl (by rw [hml]; rfl) (Steps.refl _) (argsL := [(.int x2), (.int c1)]) (rest := []) (lenOf pd_1 rfl) rfl (by show 2 * 0 + _ ≤ _; exact Nat.le_of_eq rfl) (hb hby at_53) (fun _ _ => ⟨rfl, rfl, (by decide : 2 + 0 ≤ _), (by decide : 5 + 0 ≤ _)⟩)
    dsimp only [Pt.U, Pt.locs, Pt.cells, Pt.slots] at X143 l143 y143 z143 st143 hQ143
    subst l143 y143 z143
    obtain ⟨rfl, N143q, Kc143, Ec143, FB143, ⟨lv143, hl143, FL143⟩, V143⟩ := hQ143
    have E_144 := Ec139.keep Kc143
    have N143 := Fr.app N139 N143q
    have Z143 : n0 ≤ T143.heap.size := Nat.le_trans Z139 Kc143.1
    have K143 : Keep h0 T143.heap [] := K139.trans Kc143 (allS (Or.inr sz_b136) (allS (Or.inr sz_t139) all0))
    refine Gl.st (g' := (mkF m 56 #[.val (.int x0), .val (.int x1), .val (.int x2), .val (.int x3), .val (.int x4), .val (.int (0 : Int32)), .val (.int (0 : Int32)), .val (.int c1), .val (.int c2), .val (.ref b136), .unset, .unset, .unset, .unset] [])) (fun τ κ => st143.trans κ) ?_
    have hM1 : (0 + (own_u x2 % 2 ^ r1) * 2 ^ (24 - 0 - r1)) < 16777216 := by
      have := (own_word (a := x2) (b := x4) hr1 hr2 (by omega)).2; omega
    have hZ1 : (0 + (own_u x2 % 2 ^ r1) * 2 ^ (24 - 0 - r1)) % 2 ^ (24 - (0 + r1)) = 0 := by rw [Nat.zero_add, Nat.zero_add, Nat.sub_zero]; exact Nat.mul_mod_left _ _
    refine Gl.st (g' := (mkF m 58 #[.val (.int x0), .val (.int x1), .val (.int x2), .val (.int x3), .val (.int x4), .val (.int (0 : Int32)), .val (.int (0 : Int32)), .val (.int c1), .val (.int c2), .val (.ref b136), .unset, .unset, .unset, .unset] [(.ref b136)])) (fun τ κ => XS.aload X143.here hx rfl (hb hby at_56) rfl rfl κ) ?_
    refine Gl.st (g' := (mkF m 60 #[.val (.int x0), .val (.int x1), .val (.int x2), .val (.int x3), .val (.int x4), .val (.int (0 : Int32)), .val (.int (0 : Int32)), .val (.int c1), .val (.int c2), .val (.ref b136), .unset, .unset, .unset, .unset] [(.int x4), (.ref b136)])) (fun τ κ => XS.iload X143.here hx rfl (hb hby at_58) rfl κ) ?_
    refine Gl.st (g' := (mkF m 62 #[.val (.int x0), .val (.int x1), .val (.int x2), .val (.int x3), .val (.int x4), .val (.int (0 : Int32)), .val (.int (0 : Int32)), .val (.int c1), .val (.int c2), .val (.ref b136), .unset, .unset, .unset, .unset] [(.int c2), (.int x4), (.ref b136)])) (fun τ κ => XS.iload X143.here hx rfl (hb hby at_60) rfl κ) ?_
    obtain ⟨cq148, kq148, q148a, q148b, q148c⟩ := isOf hZ rfl Ec143
    obtain ⟨rv148, _, ⟨T148, L148, k148, n148⟩, -, X148, ⟨Lc148, hQ148, l148, y148, z148⟩, st148⟩ := X143.virtualBack hx (y := (⟨"com/example/quietzone/quietzone/BitWriter", "write", "(II)V"⟩ : MethodName)) (z := (⟨"com/example/quietzone/quietzone/BitWriter", "write", "(II)V"⟩ : MethodName)) hown (mvT hZ (hw _ (List.mem_of_getElem? (i := 13) rfl))) (mvT hZ (hw _ (List.mem_of_getElem? (i := 14) rfl))) (notFace_of_selects (args := #[]) (mvT hZ (hw _ (List.mem_of_getElem? (i := 16) rfl)))) (mvT hZ (hw _ (List.mem_of_getElem? (i := 16) rfl))) (mvT hZ (hw _ (List.mem_of_getElem? (i := 15) rfl))) (by decide) (backOf (W := 0) (rm3 l Z a0 hw [] b136 x4 c2 t139 kk139 (0 : Int32) lv143 (0 + (own_u x2 % 2 ^ r1) * 2 ^ (24 - 0 - r1)) (0 + r1) r2 T143.heap n0 Z143 Ec143 g_b136 g_t139 ne_b136_t139 FB143 FL143 V143 hr2 hl143 (by have : ((0 : Int32)).toInt.toNat = 0 := rfl; omega) (by decide) hM1 hZ1) hZ (hw _ (List.mem_of_getElem? (i := 17) rfl)) (hw _ (List.mem_of_getElem? (i := 3) rfl)) (by decide) (by decide)) q148a q148c (g := (mkF m 62 #[.val (.int x0), .val (.int x1), .val (.int x2), .val (.int x3), .val (.int x4), .val (.int (0 : Int32)), .val (.int (0 : Int32)), .val (.int c1), .val (.int c2), .val (.ref b136), .unset, .unset, .unset, .unset] [(.int c2), (.int x4), (.ref b136)])) rfl (by rw [hml]; rfl) (Steps.refl _) (argsL := [(.int x4), (.int c2)]) (rest := []) (lenOf pd_1 rfl) rfl (by show 2 * 0 + _ ≤ _; exact Nat.le_of_eq rfl) (hb hby at_62) (fun _ _ => ⟨rfl, rfl, (by decide : 2 + 0 ≤ _), (by decide : 5 + 0 ≤ _)⟩)
    dsimp only [Pt.U, Pt.locs, Pt.cells, Pt.slots] at X148 l148 y148 z148 st148 hQ148
    subst l148 y148 z148
    obtain ⟨rfl, N148q, Kc148, Ec148, FB148, ⟨lv148, hl148, FL148⟩, V148⟩ := hQ148
    have E_149 := Ec143.keep Kc148
    have N148 := Fr.app N143 N148q
    have Z148 : n0 ≤ T148.heap.size := Nat.le_trans Z143 Kc148.1
    have K148 : Keep h0 T148.heap [] := K143.trans Kc148 (allS (Or.inr sz_b136) (allS (Or.inr sz_t139) all0))
    refine Gl.st (g' := (mkF m 65 #[.val (.int x0), .val (.int x1), .val (.int x2), .val (.int x3), .val (.int x4), .val (.int (0 : Int32)), .val (.int (0 : Int32)), .val (.int c1), .val (.int c2), .val (.ref b136), .unset, .unset, .unset, .unset] [])) (fun τ κ => st148.trans κ) ?_
    refine Gl.st (g' := (mkF m 67 #[.val (.int x0), .val (.int x1), .val (.int x2), .val (.int x3), .val (.int x4), .val (.int (0 : Int32)), .val (.int (0 : Int32)), .val (.int c1), .val (.int c2), .val (.ref b136), .unset, .unset, .unset, .unset] [(.ref b136)])) (fun τ κ => XS.aload X148.here hx rfl (hb hby at_65) rfl rfl κ) ?_
    obtain ⟨cq153, kq153, q153a, q153b, q153c⟩ := isOf hZ rfl Ec148
    obtain ⟨rv153, _, ⟨T153, L153, k153, n153⟩, -, X153, ⟨Lc153, hQ153, l153, y153, z153⟩, st153⟩ := X148.virtualBack hx (y := (⟨"com/example/quietzone/quietzone/BitWriter", "toUnsignedBytes", "()[I"⟩ : MethodName)) (z := (⟨"com/example/quietzone/quietzone/BitWriter", "toUnsignedBytes", "()[I"⟩ : MethodName)) hown (mvT hZ (hw _ (List.mem_of_getElem? (i := 18) rfl))) (mvT hZ (hw _ (List.mem_of_getElem? (i := 19) rfl))) (notFace_of_selects (args := #[]) (mvT hZ (hw _ (List.mem_of_getElem? (i := 21) rfl)))) (mvT hZ (hw _ (List.mem_of_getElem? (i := 21) rfl))) (mvT hZ (hw _ (List.mem_of_getElem? (i := 20) rfl))) (by decide) (backOf (W := 0) (rm_tu0 l Z a0 hw [] b136 t139 kk139 ((0 + (own_u x2 % 2 ^ r1) * 2 ^ (24 - 0 - r1)) + (own_u x4 % 2 ^ r2) * 2 ^ (24 - (0 + r1) - r2)) T148.heap n0 Z148 FB148 V148) hZ (hw _ (List.mem_of_getElem? (i := 22) rfl)) (hw _ (List.mem_of_getElem? (i := 3) rfl)) (by decide) (by decide)) q153a q153c (g := (mkF m 67 #[.val (.int x0), .val (.int x1), .val (.int x2), .val (.int x3), .val (.int x4), .val (.int (0 : Int32)), .val (.int (0 : Int32)), .val (.int c1), .val (.int c2), .val (.ref b136), .unset, .unset, .unset, .unset] [(.ref b136)])) rfl (by rw [hml]; rfl) (Steps.refl _) (argsL := []) (rest := []) (lenOf pd_2 rfl) rfl (by show 2 * 0 + _ ≤ _; exact Nat.le_of_eq rfl) (hb hby at_67) (fun _ _ => ⟨rfl, rfl, (by decide : 2 + 1 ≤ _), (by decide : 5 + 0 ≤ _)⟩)
    dsimp only [Pt.U, Pt.locs, Pt.cells, Pt.slots] at X153 l153 y153 z153 st153 hQ153
    subst l153 y153 z153
    obtain ⟨b153, kk153, rfl, N153q, Kc153, s153, V153⟩ := hQ153
    have ne_b136_b153 : b136 ≠ b153 := Nat.ne_of_lt (Nat.lt_of_lt_of_le Ec148.lt s153)
    have ne_t139_b153 : t139 ≠ b153 := Nat.ne_of_lt (Nat.lt_of_lt_of_le V148.lt s153)
    have g_b153 : n0 ≤ b153 := Nat.le_trans Z148 s153
    have sz_b153 : h0.size ≤ b153 := Nat.le_trans K148.1 s153
    have E_154 := Ec148.keep Kc153
    have F_155 := FB148.keep Kc153 nin0
    have F_156 := FL148.keep Kc153 nin0
    have V_157 := V148.keep Kc153 nin0
    have N153 := Fr.app N148 N153q
    have Z153 : n0 ≤ T153.heap.size := Nat.le_trans Z148 Kc153.1
    have K153 : Keep h0 T153.heap [] := K148.trans Kc153 all0
    refine Gl.st (g' := (mkF m 70 #[.val (.int x0), .val (.int x1), .val (.int x2), .val (.int x3), .val (.int x4), .val (.int (0 : Int32)), .val (.int (0 : Int32)), .val (.int c1), .val (.int c2), .val (.ref b136), .unset, .unset, .unset, .unset] [(.ref b153)])) (fun τ κ => st153.trans κ) ?_
    refine Gl.st (g' := (mkF m 72 #[.val (.int x0), .val (.int x1), .val (.int x2), .val (.int x3), .val (.int x4), .val (.int (0 : Int32)), .val (.int (0 : Int32)), .val (.int c1), .val (.int c2), .val (.ref b136), .val (.ref b153), .unset, .unset, .unset] [])) (fun τ κ => XS.astore X153.here hx rfl (hb hby at_70) rfl rfl (l' := #[.val (.int x0), .val (.int x1), .val (.int x2), .val (.int x3), .val (.int x4), .val (.int (0 : Int32)), .val (.int (0 : Int32)), .val (.int c1), .val (.int c2), .val (.ref b136), .val (.ref b153), .unset, .unset, .unset]) rfl κ) ?_
    refine Gl.st (g' := (mkF m 73 #[.val (.int x0), .val (.int x1), .val (.int x2), .val (.int x3), .val (.int x4), .val (.int (0 : Int32)), .val (.int (0 : Int32)), .val (.int c1), .val (.int c2), .val (.ref b136), .val (.ref b153), .unset, .unset, .unset] [(.int x2)])) (fun τ κ => XS.iloadN X153.here hx rfl (hb hby at_72) rfl κ) ?_
    refine Gl.st (g' := (mkF m 75 #[.val (.int x0), .val (.int x1), .val (.int x2), .val (.int x3), .val (.int x4), .val (.int (0 : Int32)), .val (.int (0 : Int32)), .val (.int c1), .val (.int c2), .val (.ref b136), .val (.ref b153), .unset, .unset, .unset] [(.int c1), (.int x2)])) (fun τ κ => XS.iload X153.here hx rfl (hb hby at_73) rfl κ) ?_
    obtain ⟨rv158, _, ⟨T158, L158, k158, n158⟩, -, X158, ⟨Lc158, hQ158, l158, y158, z158⟩, st158⟩ := Jvm.LawKit.callS X153 hx (y := (⟨"com/example/quietzone/quietzone/BitWriterToUnsignedBytesPinLaw", "low", "(II)J"⟩ : MethodName)) hown (mvT hZ (hw _ (List.mem_of_getElem? (i := 24) rfl))) (mvT hZ (hw _ (List.mem_of_getElem? (i := 25) rfl))) (mvT hZ (hw _ (List.mem_of_getElem? (i := 26) rfl))) (mvT hZ (hw _ (List.mem_of_getElem? (i := 27) rfl))) (by decide) (backOf (W := 0) (rm5 l Z a0 hw [] x2 c1 T153.heap n0 Z153 ) hZ (hw _ (List.mem_of_getElem? (i := 27) rfl)) (hw _ (List.mem_of_getElem? (i := 26) rfl)) (by decide) (by decide)) (g := (mkF m 75 #[.val (.int x0), .val (.int x1), .val (.int x2), .val (.int x3), .val (.int x4), .val (.int (0 : Int32)), .val (.int (0 : Int32)), .val (.int c1), .val (.int c2), .val (.ref b136), .val (.ref b153), .unset, .unset, .unset] [(.int c1), (.int x2)])) rfl (by rw [hml]; rfl) (argsL := [(.int x2), (.int c1)]) (rest := []) (lenOf pd_3 rfl) rfl (by show 2 * 0 + _ ≤ _; exact Nat.le_of_eq rfl) (hb hby at_75) (fun _ _ => ⟨rfl, rfl, (by decide : 3 + 0 ≤ _), (by decide : 5 + 0 ≤ _)⟩)
    dsimp only [Pt.U, Pt.locs, Pt.cells, Pt.slots] at X158 l158 y158 z158 st158 hQ158
    subst l158 y158 z158
    obtain ⟨rfl, N158q, e158⟩ := hQ158
    have N158 := Fr.app N153 N158q
    refine Gl.st (g' := (mkF m 78 #[.val (.int x0), .val (.int x1), .val (.int x2), .val (.int x3), .val (.int x4), .val (.int (0 : Int32)), .val (.int (0 : Int32)), .val (.int c1), .val (.int c2), .val (.ref b136), .val (.ref b153), .unset, .unset, .unset] [(.long (own_low x2 c1))])) (fun τ κ => st158 _ κ) ?_
    refine Gl.st (g' := (mkF m 80 #[.val (.int x0), .val (.int x1), .val (.int x2), .val (.int x3), .val (.int x4), .val (.int (0 : Int32)), .val (.int (0 : Int32)), .val (.int c1), .val (.int c2), .val (.ref b136), .val (.ref b153), .unset, .unset, .unset] [(.int (24 : Int32)), (.long (own_low x2 c1))])) (fun τ κ => XS.bipush X158.here hx rfl (hb hby at_78) κ) ?_
    refine Gl.st (g' := (mkF m 82 #[.val (.int x0), .val (.int x1), .val (.int x2), .val (.int x3), .val (.int x4), .val (.int (0 : Int32)), .val (.int (0 : Int32)), .val (.int c1), .val (.int c2), .val (.ref b136), .val (.ref b153), .unset, .unset, .unset] [(.int c1), (.int (24 : Int32)), (.long (own_low x2 c1))])) (fun τ κ => XS.iload X158.here hx rfl (hb hby at_80) rfl κ) ?_
    refine Gl.st (g' := (mkF m 83 #[.val (.int x0), .val (.int x1), .val (.int x2), .val (.int x3), .val (.int x4), .val (.int (0 : Int32)), .val (.int (0 : Int32)), .val (.int c1), .val (.int c2), .val (.ref b136), .val (.ref b153), .unset, .unset, .unset] [(.int ((24 : Int32) - c1)), (.long (own_low x2 c1))])) (fun τ κ => XS.isub X158.here hx rfl (hb hby at_82) rfl κ) ?_
    refine Gl.st (g' := (mkF m 84 #[.val (.int x0), .val (.int x1), .val (.int x2), .val (.int x3), .val (.int x4), .val (.int (0 : Int32)), .val (.int (0 : Int32)), .val (.int c1), .val (.int c2), .val (.ref b136), .val (.ref b153), .unset, .unset, .unset] [(.long ((own_low x2 c1) <<< (((24 : Int32) - c1) &&& 0x3f).toInt64))])) (fun τ κ => XS.lshl X158.here hx rfl (hb hby at_83) rfl κ) ?_
    refine Gl.st (g' := (mkF m 86 #[.val (.int x0), .val (.int x1), .val (.int x2), .val (.int x3), .val (.int x4), .val (.int (0 : Int32)), .val (.int (0 : Int32)), .val (.int c1), .val (.int c2), .val (.ref b136), .val (.ref b153), .unset, .unset, .unset] [(.int x4), (.long ((own_low x2 c1) <<< (((24 : Int32) - c1) &&& 0x3f).toInt64))])) (fun τ κ => XS.iload X158.here hx rfl (hb hby at_84) rfl κ) ?_
    refine Gl.st (g' := (mkF m 88 #[.val (.int x0), .val (.int x1), .val (.int x2), .val (.int x3), .val (.int x4), .val (.int (0 : Int32)), .val (.int (0 : Int32)), .val (.int c1), .val (.int c2), .val (.ref b136), .val (.ref b153), .unset, .unset, .unset] [(.int c2), (.int x4), (.long ((own_low x2 c1) <<< (((24 : Int32) - c1) &&& 0x3f).toInt64))])) (fun τ κ => XS.iload X158.here hx rfl (hb hby at_86) rfl κ) ?_
    obtain ⟨rv159, _, ⟨T159, L159, k159, n159⟩, -, X159, ⟨Lc159, hQ159, l159, y159, z159⟩, st159⟩ := Jvm.LawKit.callS X158 hx (y := (⟨"com/example/quietzone/quietzone/BitWriterToUnsignedBytesPinLaw", "low", "(II)J"⟩ : MethodName)) hown (mvT hZ (hw _ (List.mem_of_getElem? (i := 24) rfl))) (mvT hZ (hw _ (List.mem_of_getElem? (i := 25) rfl))) (mvT hZ (hw _ (List.mem_of_getElem? (i := 26) rfl))) (mvT hZ (hw _ (List.mem_of_getElem? (i := 27) rfl))) (by decide) (backOf (W := 2) (rm5 l Z a0 hw [] x4 c2 T153.heap n0 Z153 ) hZ (hw _ (List.mem_of_getElem? (i := 27) rfl)) (hw _ (List.mem_of_getElem? (i := 26) rfl)) (by decide) (by decide)) (g := (mkF m 88 #[.val (.int x0), .val (.int x1), .val (.int x2), .val (.int x3), .val (.int x4), .val (.int (0 : Int32)), .val (.int (0 : Int32)), .val (.int c1), .val (.int c2), .val (.ref b136), .val (.ref b153), .unset, .unset, .unset] [(.int c2), (.int x4), (.long ((own_low x2 c1) <<< (((24 : Int32) - c1) &&& 0x3f).toInt64))])) rfl (by rw [hml]; rfl) (argsL := [(.int x4), (.int c2)]) (rest := [(.long ((own_low x2 c1) <<< (((24 : Int32) - c1) &&& 0x3f).toInt64))]) (lenOf pd_3 rfl) rfl (by show 2 * 0 + _ ≤ _; exact Nat.le_of_eq rfl) (hb hby at_88) (fun _ _ => ⟨rfl, e158, (by decide : 3 + 0 ≤ _), (by decide : 5 + 0 ≤ _)⟩)
    dsimp only [Pt.U, Pt.locs, Pt.cells, Pt.slots] at X159 l159 y159 z159 st159 hQ159
    subst l159 y159 z159
    obtain ⟨rfl, N159q, e159⟩ := hQ159
    have N159 := Fr.app N158 N159q
    refine Gl.st (g' := (mkF m 91 #[.val (.int x0), .val (.int x1), .val (.int x2), .val (.int x3), .val (.int x4), .val (.int (0 : Int32)), .val (.int (0 : Int32)), .val (.int c1), .val (.int c2), .val (.ref b136), .val (.ref b153), .unset, .unset, .unset] [(.long (own_low x4 c2)), (.long ((own_low x2 c1) <<< (((24 : Int32) - c1) &&& 0x3f).toInt64))])) (fun τ κ => st159 _ κ) ?_
    refine Gl.st (g' := (mkF m 93 #[.val (.int x0), .val (.int x1), .val (.int x2), .val (.int x3), .val (.int x4), .val (.int (0 : Int32)), .val (.int (0 : Int32)), .val (.int c1), .val (.int c2), .val (.ref b136), .val (.ref b153), .unset, .unset, .unset] [(.int (24 : Int32)), (.long (own_low x4 c2)), (.long ((own_low x2 c1) <<< (((24 : Int32) - c1) &&& 0x3f).toInt64))])) (fun τ κ => XS.bipush X159.here hx rfl (hb hby at_91) κ) ?_
    refine Gl.st (g' := (mkF m 95 #[.val (.int x0), .val (.int x1), .val (.int x2), .val (.int x3), .val (.int x4), .val (.int (0 : Int32)), .val (.int (0 : Int32)), .val (.int c1), .val (.int c2), .val (.ref b136), .val (.ref b153), .unset, .unset, .unset] [(.int c1), (.int (24 : Int32)), (.long (own_low x4 c2)), (.long ((own_low x2 c1) <<< (((24 : Int32) - c1) &&& 0x3f).toInt64))])) (fun τ κ => XS.iload X159.here hx rfl (hb hby at_93) rfl κ) ?_
    refine Gl.st (g' := (mkF m 96 #[.val (.int x0), .val (.int x1), .val (.int x2), .val (.int x3), .val (.int x4), .val (.int (0 : Int32)), .val (.int (0 : Int32)), .val (.int c1), .val (.int c2), .val (.ref b136), .val (.ref b153), .unset, .unset, .unset] [(.int ((24 : Int32) - c1)), (.long (own_low x4 c2)), (.long ((own_low x2 c1) <<< (((24 : Int32) - c1) &&& 0x3f).toInt64))])) (fun τ κ => XS.isub X159.here hx rfl (hb hby at_95) rfl κ) ?_
    refine Gl.st (g' := (mkF m 98 #[.val (.int x0), .val (.int x1), .val (.int x2), .val (.int x3), .val (.int x4), .val (.int (0 : Int32)), .val (.int (0 : Int32)), .val (.int c1), .val (.int c2), .val (.ref b136), .val (.ref b153), .unset, .unset, .unset] [(.int c2), (.int ((24 : Int32) - c1)), (.long (own_low x4 c2)), (.long ((own_low x2 c1) <<< (((24 : Int32) - c1) &&& 0x3f).toInt64))])) (fun τ κ => XS.iload X159.here hx rfl (hb hby at_96) rfl κ) ?_
    refine Gl.st (g' := (mkF m 99 #[.val (.int x0), .val (.int x1), .val (.int x2), .val (.int x3), .val (.int x4), .val (.int (0 : Int32)), .val (.int (0 : Int32)), .val (.int c1), .val (.int c2), .val (.ref b136), .val (.ref b153), .unset, .unset, .unset] [(.int (((24 : Int32) - c1) - c2)), (.long (own_low x4 c2)), (.long ((own_low x2 c1) <<< (((24 : Int32) - c1) &&& 0x3f).toInt64))])) (fun τ κ => XS.isub X159.here hx rfl (hb hby at_98) rfl κ) ?_
    refine Gl.st (g' := (mkF m 100 #[.val (.int x0), .val (.int x1), .val (.int x2), .val (.int x3), .val (.int x4), .val (.int (0 : Int32)), .val (.int (0 : Int32)), .val (.int c1), .val (.int c2), .val (.ref b136), .val (.ref b153), .unset, .unset, .unset] [(.long ((own_low x4 c2) <<< ((((24 : Int32) - c1) - c2) &&& 0x3f).toInt64)), (.long ((own_low x2 c1) <<< (((24 : Int32) - c1) &&& 0x3f).toInt64))])) (fun τ κ => XS.lshl X159.here hx rfl (hb hby at_99) rfl κ) ?_
    refine Gl.st (g' := (mkF m 101 #[.val (.int x0), .val (.int x1), .val (.int x2), .val (.int x3), .val (.int x4), .val (.int (0 : Int32)), .val (.int (0 : Int32)), .val (.int c1), .val (.int c2), .val (.ref b136), .val (.ref b153), .unset, .unset, .unset] [(.long (((own_low x2 c1) <<< (((24 : Int32) - c1) &&& 0x3f).toInt64) ||| ((own_low x4 c2) <<< ((((24 : Int32) - c1) - c2) &&& 0x3f).toInt64)))])) (fun τ κ => XS.lor X159.here hx rfl (hb hby at_100) rfl κ) ?_
    have hW := own_word (a := x2) (b := x4) hr1 hr2 (by omega)
    generalize hww : (((own_low x2 c1) <<< (((24 : Int32) - c1) &&& 0x3f).toInt64) ||| ((own_low x4 c2) <<< ((((24 : Int32) - c1) - c2) &&& 0x3f).toInt64)) = ww at hW ⊢
    have hC := own_cmp hW.1 hW.2
    refine Gl.st (g' := (mkF m 103 #[.val (.int x0), .val (.int x1), .val (.int x2), .val (.int x3), .val (.int x4), .val (.int (0 : Int32)), .val (.int (0 : Int32)), .val (.int c1), .val (.int c2), .val (.ref b136), .val (.ref b153), .val (.long ww), .second, .unset] [])) (fun τ κ => XS.lstore X159.here hx rfl (hb hby at_101) rfl (l' := #[.val (.int x0), .val (.int x1), .val (.int x2), .val (.int x3), .val (.int x4), .val (.int (0 : Int32)), .val (.int (0 : Int32)), .val (.int c1), .val (.int c2), .val (.ref b136), .val (.ref b153), .val (.long ww), .second, .unset]) rfl κ) ?_
    refine Gl.st (g' := (mkF m 105 #[.val (.int x0), .val (.int x1), .val (.int x2), .val (.int x3), .val (.int x4), .val (.int (0 : Int32)), .val (.int (0 : Int32)), .val (.int c1), .val (.int c2), .val (.ref b136), .val (.ref b153), .val (.long ww), .second, .unset] [(.ref b153)])) (fun τ κ => XS.aload X159.here hx rfl (hb hby at_103) rfl rfl κ) ?_
    obtain ⟨cl_o160, Ar_o160, q_o160, S_o160, M_o160, H_o160, G_o160⟩ := id V153
    refine Gl.st (g' := (mkF m 106 #[.val (.int x0), .val (.int x1), .val (.int x2), .val (.int x3), .val (.int x4), .val (.int (0 : Int32)), .val (.int (0 : Int32)), .val (.int c1), .val (.int c2), .val (.ref b136), .val (.ref b153), .val (.long ww), .second, .unset] [(.int (0 : Int32))])) (fun τ κ => X159.arraylength hx (by rw [e159]; exact Ar_o160.1) (State.isArrayOf_alike hZ.alike Ar_o160.2.1) (g := (mkF m 105 #[.val (.int x0), .val (.int x1), .val (.int x2), .val (.int x3), .val (.int x4), .val (.int (0 : Int32)), .val (.int (0 : Int32)), .val (.int c1), .val (.int c2), .val (.ref b136), .val (.ref b153), .val (.long ww), .second, .unset] [(.ref b153)])) rfl rfl (hb hby at_105) _ (by rw [len_of S_o160 M_o160]; exact κ)) ?_
    refine Gl.st (g' := (mkF m 108 #[.val (.int x0), .val (.int x1), .val (.int x2), .val (.int x3), .val (.int x4), .val (.int (0 : Int32)), .val (.int (0 : Int32)), .val (.int c1), .val (.int c2), .val (.ref b136), .val (.ref b153), .val (.long ww), .second, .unset] [(.int (0 : Int32)), (.int (0 : Int32))])) (fun τ κ => XS.iload X159.here hx rfl (hb hby at_106) rfl κ) ?_
    have hc161 : (0 : Int32) = (0 : Int32) := by decide
    refine Gl.st (g' := (mkF m 113 #[.val (.int x0), .val (.int x1), .val (.int x2), .val (.int x3), .val (.int x4), .val (.int (0 : Int32)), .val (.int (0 : Int32)), .val (.int c1), .val (.int c2), .val (.ref b136), .val (.ref b153), .val (.long ww), .second, .unset] [])) (fun τ κ => XS.icmpYes X159.here hx rfl (pc0 := 108) (pc' := 113) rfl (hb hby at_108) rfl (teq hc161).1 (by decide) (by decide) κ) ?_
    refine Gl.st (g' := (mkF m 114 #[.val (.int x0), .val (.int x1), .val (.int x2), .val (.int x3), .val (.int x4), .val (.int (0 : Int32)), .val (.int (0 : Int32)), .val (.int c1), .val (.int c2), .val (.ref b136), .val (.ref b153), .val (.long ww), .second, .unset] [(.int (1 : Int32))])) (fun τ κ => XS.iconst X159.here hx rfl (hb hby at_113) κ) ?_
    refine Gl.st (g' := (mkF m 116 #[.val (.int x0), .val (.int x1), .val (.int x2), .val (.int x3), .val (.int x4), .val (.int (0 : Int32)), .val (.int (0 : Int32)), .val (.int c1), .val (.int c2), .val (.ref b136), .val (.ref b153), .val (.long ww), .second, .val (.int (1 : Int32))] [])) (fun τ κ => XS.istore X159.here hx rfl (hb hby at_114) rfl (l' := #[.val (.int x0), .val (.int x1), .val (.int x2), .val (.int x3), .val (.int x4), .val (.int (0 : Int32)), .val (.int (0 : Int32)), .val (.int c1), .val (.int c2), .val (.ref b136), .val (.ref b153), .val (.long ww), .second, .val (.int (1 : Int32))]) rfl κ) ?_
    refine Gl.st (g' := (mkF m 118 #[.val (.int x0), .val (.int x1), .val (.int x2), .val (.int x3), .val (.int x4), .val (.int (0 : Int32)), .val (.int (0 : Int32)), .val (.int c1), .val (.int c2), .val (.ref b136), .val (.ref b153), .val (.long ww), .second, .val (.int (1 : Int32))] [(.int (0 : Int32))])) (fun τ κ => XS.iload X159.here hx rfl (hb hby at_116) rfl κ) ?_
    have hc162 : ¬ ((0 : Int32) < (0 : Int32)) := by decide
    refine Gl.st (g' := (mkF m 146 #[.val (.int x0), .val (.int x1), .val (.int x2), .val (.int x3), .val (.int x4), .val (.int (0 : Int32)), .val (.int (0 : Int32)), .val (.int c1), .val (.int c2), .val (.ref b136), .val (.ref b153), .val (.long ww), .second, .val (.int (1 : Int32))] [])) (fun τ κ => XS.ifYes X159.here hx rfl (pc0 := 118) (pc' := 146) rfl (hb hby at_118) rfl ((if0 _ _).trans (flt hc162).2.2.2) (by decide) (by decide) κ) ?_
    refine Gl.st (g' := (mkF m 148 #[.val (.int x0), .val (.int x1), .val (.int x2), .val (.int x3), .val (.int x4), .val (.int (0 : Int32)), .val (.int (0 : Int32)), .val (.int c1), .val (.int c2), .val (.ref b136), .val (.ref b153), .val (.long ww), .second, .val (.int (1 : Int32))] [(.int (0 : Int32))])) (fun τ κ => XS.iload X159.here hx rfl (hb hby at_146) rfl κ) ?_
    refine Gl.st (g' := (mkF m 149 #[.val (.int x0), .val (.int x1), .val (.int x2), .val (.int x3), .val (.int x4), .val (.int (0 : Int32)), .val (.int (0 : Int32)), .val (.int c1), .val (.int c2), .val (.ref b136), .val (.ref b153), .val (.long ww), .second, .val (.int (1 : Int32))] [(.int (1 : Int32)), (.int (0 : Int32))])) (fun τ κ => XS.iconst X159.here hx rfl (hb hby at_148) κ) ?_
    have hc163 : ¬ ((1 : Int32) < (0 : Int32)) := by decide
    refine Gl.st (g' := (mkF m 177 #[.val (.int x0), .val (.int x1), .val (.int x2), .val (.int x3), .val (.int x4), .val (.int (0 : Int32)), .val (.int (0 : Int32)), .val (.int c1), .val (.int c2), .val (.ref b136), .val (.ref b153), .val (.long ww), .second, .val (.int (1 : Int32))] [])) (fun τ κ => XS.icmpYes X159.here hx rfl (pc0 := 149) (pc' := 177) rfl (hb hby at_149) rfl (flt hc163).2.2.2 (by decide) (by decide) κ) ?_
    refine Gl.st (g' := (mkF m 179 #[.val (.int x0), .val (.int x1), .val (.int x2), .val (.int x3), .val (.int x4), .val (.int (0 : Int32)), .val (.int (0 : Int32)), .val (.int c1), .val (.int c2), .val (.ref b136), .val (.ref b153), .val (.long ww), .second, .val (.int (1 : Int32))] [(.int (0 : Int32))])) (fun τ κ => XS.iload X159.here hx rfl (hb hby at_177) rfl κ) ?_
    refine Gl.st (g' := (mkF m 180 #[.val (.int x0), .val (.int x1), .val (.int x2), .val (.int x3), .val (.int x4), .val (.int (0 : Int32)), .val (.int (0 : Int32)), .val (.int c1), .val (.int c2), .val (.ref b136), .val (.ref b153), .val (.long ww), .second, .val (.int (1 : Int32))] [(.int (2 : Int32)), (.int (0 : Int32))])) (fun τ κ => XS.iconst X159.here hx rfl (hb hby at_179) κ) ?_
    have hc164 : ¬ ((2 : Int32) < (0 : Int32)) := by decide
    refine Gl.st (g' := (mkF m 208 #[.val (.int x0), .val (.int x1), .val (.int x2), .val (.int x3), .val (.int x4), .val (.int (0 : Int32)), .val (.int (0 : Int32)), .val (.int c1), .val (.int c2), .val (.ref b136), .val (.ref b153), .val (.long ww), .second, .val (.int (1 : Int32))] [])) (fun τ κ => XS.icmpYes X159.here hx rfl (pc0 := 180) (pc' := 208) rfl (hb hby at_180) rfl (flt hc164).2.2.2 (by decide) (by decide) κ) ?_
    refine Gl.st (g' := (mkF m 210 #[.val (.int x0), .val (.int x1), .val (.int x2), .val (.int x3), .val (.int x4), .val (.int (0 : Int32)), .val (.int (0 : Int32)), .val (.int c1), .val (.int c2), .val (.ref b136), .val (.ref b153), .val (.long ww), .second, .val (.int (1 : Int32))] [(.int (1 : Int32))])) (fun τ κ => XS.iload X159.here hx rfl (hb hby at_208) rfl κ) ?_
    exact Gl.ret (v := some (.int (1 : Int32))) X159 Bd.notSynchronized (fun h => by rw [Bd.returns] at h; cases h) e159 (fun fs hr => retN X159 hx (t := .boolean) Bd.returns (by simp) (hb hby at_210) hr) (by decide) (by decide) ⟨rfl, N159⟩
  · rw [hs135]
    refine Gl.st (g' := (mkF m 5 #[.val (.int x0), .val (.int x1), .val (.int x2), .val (.int x3), .val (.int x4), .val (.int (1 : Int32)), .unset, .unset, .unset, .unset, .unset, .unset, .unset, .unset] [])) (fun τ κ => XS.istore X0.here hx rfl (hb hby at_3) rfl (l' := #[.val (.int x0), .val (.int x1), .val (.int x2), .val (.int x3), .val (.int x4), .val (.int (1 : Int32)), .unset, .unset, .unset, .unset, .unset, .unset, .unset, .unset]) rfl κ) ?_
    refine Gl.st (g' := (mkF m 7 #[.val (.int x0), .val (.int x1), .val (.int x2), .val (.int x3), .val (.int x4), .val (.int (1 : Int32)), .unset, .unset, .unset, .unset, .unset, .unset, .unset, .unset] [(.int (8 : Int32))])) (fun τ κ => XS.bipush X0.here hx rfl (hb hby at_5) κ) ?_
    refine Gl.st (g' := (mkF m 9 #[.val (.int x0), .val (.int x1), .val (.int x2), .val (.int x3), .val (.int x4), .val (.int (1 : Int32)), .unset, .unset, .unset, .unset, .unset, .unset, .unset, .unset] [(.int (1 : Int32)), (.int (8 : Int32))])) (fun τ κ => XS.iload X0.here hx rfl (hb hby at_7) rfl κ) ?_
    refine Gl.st (g' := (mkF m 10 #[.val (.int x0), .val (.int x1), .val (.int x2), .val (.int x3), .val (.int x4), .val (.int (1 : Int32)), .unset, .unset, .unset, .unset, .unset, .unset, .unset, .unset] [(.int (8 : Int32))])) (fun τ κ => XS.imul X0.here hx rfl (hb hby at_9) rfl κ) ?_
    refine Gl.st (g' := (mkF m 12 #[.val (.int x0), .val (.int x1), .val (.int x2), .val (.int x3), .val (.int x4), .val (.int (1 : Int32)), .val (.int (8 : Int32)), .unset, .unset, .unset, .unset, .unset, .unset, .unset] [])) (fun τ κ => XS.istore X0.here hx rfl (hb hby at_10) rfl (l' := #[.val (.int x0), .val (.int x1), .val (.int x2), .val (.int x3), .val (.int x4), .val (.int (1 : Int32)), .val (.int (8 : Int32)), .unset, .unset, .unset, .unset, .unset, .unset, .unset]) rfl κ) ?_
    refine Gl.st (g' := (mkF m 13 #[.val (.int x0), .val (.int x1), .val (.int x2), .val (.int x3), .val (.int x4), .val (.int (1 : Int32)), .val (.int (8 : Int32)), .unset, .unset, .unset, .unset, .unset, .unset, .unset] [(.int x1)])) (fun τ κ => XS.iloadN X0.here hx rfl (hb hby at_12) rfl κ) ?_
    refine Gl.st (g' := (mkF m 15 #[.val (.int x0), .val (.int x1), .val (.int x2), .val (.int x3), .val (.int x4), .val (.int (1 : Int32)), .val (.int (8 : Int32)), .unset, .unset, .unset, .unset, .unset, .unset, .unset] [(.int (2147483647 : Int32)), (.int x1)])) (fun τ κ => X0.ldcInt hx hown (mvT hZ (hw _ (List.mem_of_getElem? (i := 0) rfl))) (g := (mkF m 13 #[.val (.int x0), .val (.int x1), .val (.int x2), .val (.int x3), .val (.int x4), .val (.int (1 : Int32)), .val (.int (8 : Int32)), .unset, .unset, .unset, .unset, .unset, .unset, .unset] [(.int x1)])) rfl (hb hby at_13) _ κ) ?_
    refine Gl.st (g' := (mkF m 16 #[.val (.int x0), .val (.int x1), .val (.int x2), .val (.int x3), .val (.int x4), .val (.int (1 : Int32)), .val (.int (8 : Int32)), .unset, .unset, .unset, .unset, .unset, .unset, .unset] [(.int (x1 &&& (2147483647 : Int32)))])) (fun τ κ => XS.iand X0.here hx rfl (hb hby at_15) rfl κ) ?_
    refine Gl.st (g' := (mkF m 18 #[.val (.int x0), .val (.int x1), .val (.int x2), .val (.int x3), .val (.int x4), .val (.int (1 : Int32)), .val (.int (8 : Int32)), .unset, .unset, .unset, .unset, .unset, .unset, .unset] [(.int (8 : Int32)), (.int (x1 &&& (2147483647 : Int32)))])) (fun τ κ => XS.iload X0.here hx rfl (hb hby at_16) rfl κ) ?_
    refine Gl.st (g' := (mkF m 19 #[.val (.int x0), .val (.int x1), .val (.int x2), .val (.int x3), .val (.int x4), .val (.int (1 : Int32)), .val (.int (8 : Int32)), .unset, .unset, .unset, .unset, .unset, .unset, .unset] [(.int (1 : Int32)), (.int (8 : Int32)), (.int (x1 &&& (2147483647 : Int32)))])) (fun τ κ => XS.iconst X0.here hx rfl (hb hby at_18) κ) ?_
    refine Gl.st (g' := (mkF m 20 #[.val (.int x0), .val (.int x1), .val (.int x2), .val (.int x3), .val (.int x4), .val (.int (1 : Int32)), .val (.int (8 : Int32)), .unset, .unset, .unset, .unset, .unset, .unset, .unset] [(.int (9 : Int32)), (.int (x1 &&& (2147483647 : Int32)))])) (fun τ κ => XS.iadd X0.here hx rfl (hb hby at_19) rfl κ) ?_
    refine Gl.st (g' := (mkF m 21 #[.val (.int x0), .val (.int x1), .val (.int x2), .val (.int x3), .val (.int x4), .val (.int (1 : Int32)), .val (.int (8 : Int32)), .unset, .unset, .unset, .unset, .unset, .unset, .unset] [(.int ((x1 &&& (2147483647 : Int32)) % (9 : Int32)))])) (fun τ κ => iremM (g := (mkF m 20 #[.val (.int x0), .val (.int x1), .val (.int x2), .val (.int x3), .val (.int x4), .val (.int (1 : Int32)), .val (.int (8 : Int32)), .unset, .unset, .unset, .unset, .unset, .unset, .unset] [(.int (9 : Int32)), (.int (x1 &&& (2147483647 : Int32)))])) X0 hx rfl (hb hby at_20) rfl (by decide) κ) ?_
    obtain ⟨r1, hr1, hq1⟩ := own_c1 x1 (9 : Int32) (by decide)
    generalize ((x1 &&& (2147483647 : Int32)) % (9 : Int32)) = c1 at hr1 ⊢
    have hb1 : r1 ≤ 8 := by have q := hq1; rw [show ((9 : Int32)).toInt = 9 from rfl] at q; omega
    have hd : (((8 : Int32) - c1) + (1 : Int32)).toInt = 8 - r1 + 1 := by
      have e : ((8 : Int32) - c1).toInt = 8 - r1 := by rw [Jvm.Kit.i32_sub] <;> rw [hr1, show ((8 : Int32)).toInt = 8 from rfl] <;> omega
      rw [Jvm.Kit.i32_add] <;> rw [e, show (1 : Int32).toInt = 1 from rfl] <;> omega
    refine Gl.st (g' := (mkF m 23 #[.val (.int x0), .val (.int x1), .val (.int x2), .val (.int x3), .val (.int x4), .val (.int (1 : Int32)), .val (.int (8 : Int32)), .val (.int c1), .unset, .unset, .unset, .unset, .unset, .unset] [])) (fun τ κ => XS.istore X0.here hx rfl (hb hby at_21) rfl (l' := #[.val (.int x0), .val (.int x1), .val (.int x2), .val (.int x3), .val (.int x4), .val (.int (1 : Int32)), .val (.int (8 : Int32)), .val (.int c1), .unset, .unset, .unset, .unset, .unset, .unset]) rfl κ) ?_
    refine Gl.st (g' := (mkF m 24 #[.val (.int x0), .val (.int x1), .val (.int x2), .val (.int x3), .val (.int x4), .val (.int (1 : Int32)), .val (.int (8 : Int32)), .val (.int c1), .unset, .unset, .unset, .unset, .unset, .unset] [(.int x3)])) (fun τ κ => XS.iloadN X0.here hx rfl (hb hby at_23) rfl κ) ?_
    refine Gl.st (g' := (mkF m 26 #[.val (.int x0), .val (.int x1), .val (.int x2), .val (.int x3), .val (.int x4), .val (.int (1 : Int32)), .val (.int (8 : Int32)), .val (.int c1), .unset, .unset, .unset, .unset, .unset, .unset] [(.int (2147483647 : Int32)), (.int x3)])) (fun τ κ => X0.ldcInt hx hown (mvT hZ (hw _ (List.mem_of_getElem? (i := 0) rfl))) (g := (mkF m 24 #[.val (.int x0), .val (.int x1), .val (.int x2), .val (.int x3), .val (.int x4), .val (.int (1 : Int32)), .val (.int (8 : Int32)), .val (.int c1), .unset, .unset, .unset, .unset, .unset, .unset] [(.int x3)])) rfl (hb hby at_24) _ κ) ?_
    refine Gl.st (g' := (mkF m 27 #[.val (.int x0), .val (.int x1), .val (.int x2), .val (.int x3), .val (.int x4), .val (.int (1 : Int32)), .val (.int (8 : Int32)), .val (.int c1), .unset, .unset, .unset, .unset, .unset, .unset] [(.int (x3 &&& (2147483647 : Int32)))])) (fun τ κ => XS.iand X0.here hx rfl (hb hby at_26) rfl κ) ?_
    refine Gl.st (g' := (mkF m 29 #[.val (.int x0), .val (.int x1), .val (.int x2), .val (.int x3), .val (.int x4), .val (.int (1 : Int32)), .val (.int (8 : Int32)), .val (.int c1), .unset, .unset, .unset, .unset, .unset, .unset] [(.int (8 : Int32)), (.int (x3 &&& (2147483647 : Int32)))])) (fun τ κ => XS.iload X0.here hx rfl (hb hby at_27) rfl κ) ?_
    refine Gl.st (g' := (mkF m 31 #[.val (.int x0), .val (.int x1), .val (.int x2), .val (.int x3), .val (.int x4), .val (.int (1 : Int32)), .val (.int (8 : Int32)), .val (.int c1), .unset, .unset, .unset, .unset, .unset, .unset] [(.int c1), (.int (8 : Int32)), (.int (x3 &&& (2147483647 : Int32)))])) (fun τ κ => XS.iload X0.here hx rfl (hb hby at_29) rfl κ) ?_
    refine Gl.st (g' := (mkF m 32 #[.val (.int x0), .val (.int x1), .val (.int x2), .val (.int x3), .val (.int x4), .val (.int (1 : Int32)), .val (.int (8 : Int32)), .val (.int c1), .unset, .unset, .unset, .unset, .unset, .unset] [(.int ((8 : Int32) - c1)), (.int (x3 &&& (2147483647 : Int32)))])) (fun τ κ => XS.isub X0.here hx rfl (hb hby at_31) rfl κ) ?_
    refine Gl.st (g' := (mkF m 33 #[.val (.int x0), .val (.int x1), .val (.int x2), .val (.int x3), .val (.int x4), .val (.int (1 : Int32)), .val (.int (8 : Int32)), .val (.int c1), .unset, .unset, .unset, .unset, .unset, .unset] [(.int (1 : Int32)), (.int ((8 : Int32) - c1)), (.int (x3 &&& (2147483647 : Int32)))])) (fun τ κ => XS.iconst X0.here hx rfl (hb hby at_32) κ) ?_
    refine Gl.st (g' := (mkF m 34 #[.val (.int x0), .val (.int x1), .val (.int x2), .val (.int x3), .val (.int x4), .val (.int (1 : Int32)), .val (.int (8 : Int32)), .val (.int c1), .unset, .unset, .unset, .unset, .unset, .unset] [(.int (((8 : Int32) - c1) + (1 : Int32))), (.int (x3 &&& (2147483647 : Int32)))])) (fun τ κ => XS.iadd X0.here hx rfl (hb hby at_33) rfl κ) ?_
    refine Gl.st (g' := (mkF m 35 #[.val (.int x0), .val (.int x1), .val (.int x2), .val (.int x3), .val (.int x4), .val (.int (1 : Int32)), .val (.int (8 : Int32)), .val (.int c1), .unset, .unset, .unset, .unset, .unset, .unset] [(.int ((x3 &&& (2147483647 : Int32)) % (((8 : Int32) - c1) + (1 : Int32))))])) (fun τ κ => iremM (g := (mkF m 34 #[.val (.int x0), .val (.int x1), .val (.int x2), .val (.int x3), .val (.int x4), .val (.int (1 : Int32)), .val (.int (8 : Int32)), .val (.int c1), .unset, .unset, .unset, .unset, .unset, .unset] [(.int (((8 : Int32) - c1) + (1 : Int32))), (.int (x3 &&& (2147483647 : Int32)))])) X0 hx rfl (hb hby at_34) rfl (own_nz (by omega)) κ) ?_
    obtain ⟨r2, hr2, hq2⟩ := own_c1 x3 (((8 : Int32) - c1) + (1 : Int32)) (by omega)
    generalize ((x3 &&& (2147483647 : Int32)) % (((8 : Int32) - c1) + (1 : Int32))) = c2 at hr2 ⊢
    have hb2 : r1 + r2 ≤ 8 := by omega
    refine Gl.st (g' := (mkF m 37 #[.val (.int x0), .val (.int x1), .val (.int x2), .val (.int x3), .val (.int x4), .val (.int (1 : Int32)), .val (.int (8 : Int32)), .val (.int c1), .val (.int c2), .unset, .unset, .unset, .unset, .unset] [])) (fun τ κ => XS.istore X0.here hx rfl (hb hby at_35) rfl (l' := #[.val (.int x0), .val (.int x1), .val (.int x2), .val (.int x3), .val (.int x4), .val (.int (1 : Int32)), .val (.int (8 : Int32)), .val (.int c1), .val (.int c2), .unset, .unset, .unset, .unset, .unset]) rfl κ) ?_
    obtain ⟨T165, h165, X165, e165, E165, A165, D165, -, st165⟩ := newO X0 hx hZ hown (hw _ (List.mem_of_getElem? (i := 1) rfl)) (hw _ (List.mem_of_getElem? (i := 2) rfl)) (hw _ (List.mem_of_getElem? (i := 3) rfl)) e0 (g := (mkF m 37 #[.val (.int x0), .val (.int x1), .val (.int x2), .val (.int x3), .val (.int x4), .val (.int (1 : Int32)), .val (.int (8 : Int32)), .val (.int c1), .val (.int c2), .unset, .unset, .unset, .unset, .unset] [])) rfl (hb hby at_37) (by decide) (by decide)
    obtain ⟨b165, g165⟩ : ∃ z, z = h0.size := ⟨_, rfl⟩
    rw [← g165] at A165 D165 st165
    have g_b165 : n0 ≤ b165 := Nat.le_trans Z0 (Nat.le_of_eq g165.symm)
    have sz_b165 : h0.size ≤ b165 := Nat.le_trans (Keep.refl h0 []).1 (Nat.le_of_eq g165.symm)
    have Z165 : n0 ≤ h165.size := Nat.le_trans Z0 E165.1
    have K165 : Keep h0 h165 [] := (Keep.refl h0 []).ext E165
    have F_166 : Fld Z h165 b165 "com/example/quietzone/quietzone/BitWriter" "bytes" "[B" .null := D165 (Or.inr (hw _ (List.mem_of_getElem? (i := 12) rfl))) (ty := (.array .byte)) (by decide)
    have F_167 : Fld Z h165 b165 "com/example/quietzone/quietzone/BitWriter" "length" "I" (.int (0 : Int32)) := D165 (Or.inl (hw _ (List.mem_of_getElem? (i := 30) rfl))) (ty := .int) (by decide)
    refine Gl.st (g' := (mkF m 40 #[.val (.int x0), .val (.int x1), .val (.int x2), .val (.int x3), .val (.int x4), .val (.int (1 : Int32)), .val (.int (8 : Int32)), .val (.int c1), .val (.int c2), .unset, .unset, .unset, .unset, .unset] [(.ref b165)])) (fun τ κ => st165 _ κ) ?_
    refine Gl.st (g' := (mkF m 41 #[.val (.int x0), .val (.int x1), .val (.int x2), .val (.int x3), .val (.int x4), .val (.int (1 : Int32)), .val (.int (8 : Int32)), .val (.int c1), .val (.int c2), .unset, .unset, .unset, .unset, .unset] [(.ref b165), (.ref b165)])) (fun τ κ => XS.dup X165.here hx rfl (hb hby at_40) rfl rfl κ) ?_
    refine Gl.st (g' := (mkF m 43 #[.val (.int x0), .val (.int x1), .val (.int x2), .val (.int x3), .val (.int x4), .val (.int (1 : Int32)), .val (.int (8 : Int32)), .val (.int c1), .val (.int c2), .unset, .unset, .unset, .unset, .unset] [(.int (1 : Int32)), (.ref b165), (.ref b165)])) (fun τ κ => XS.iload X165.here hx rfl (hb hby at_41) rfl κ) ?_
    obtain ⟨rv168, _, ⟨T168, L168, k168, n168⟩, -, X168, ⟨Lc168, hQ168, l168, y168, z168⟩, st168⟩ := X165.specialBack hx (y := (⟨"com/example/quietzone/quietzone/BitWriter", "<init>", "(I)V"⟩ : MethodName)) rfl hown (mvT hZ (hw _ (List.mem_of_getElem? (i := 4) rfl))) (mvT hZ (hw _ (List.mem_of_getElem? (i := 5) rfl))) (mvT hZ (hw _ (List.mem_of_getElem? (i := 6) rfl))) (by decide) (backOf (W := 1) (rm1 l Z a0 hw [] b165 (1 : Int32) h165 n0 Z165 A165 g_b165 F_166 F_167 (by decide) (by decide)) hZ (hw _ (List.mem_of_getElem? (i := 6) rfl)) (hw _ (List.mem_of_getElem? (i := 3) rfl)) (by decide) (by decide)) (g := (mkF m 43 #[.val (.int x0), .val (.int x1), .val (.int x2), .val (.int x3), .val (.int x4), .val (.int (1 : Int32)), .val (.int (8 : Int32)), .val (.int c1), .val (.int c2), .unset, .unset, .unset, .unset, .unset] [(.int (1 : Int32)), (.ref b165), (.ref b165)])) rfl (by rw [hml]; rfl) (Steps.refl _) (a := b165) (argsL := [(.int (1 : Int32))]) (rest := [(.ref b165)]) (lenOf pd_0 rfl) rfl (by show 2 * 0 + _ ≤ _; exact Nat.le_of_eq rfl) (hb hby at_43) (fun _ _ => ⟨rfl, e165, (by decide : 1 + 1 ≤ _), (by decide : 2 + 3 ≤ _)⟩)
    dsimp only [Pt.U, Pt.locs, Pt.cells, Pt.slots] at X168 l168 y168 z168 st168 hQ168
    subst l168 y168 z168
    obtain ⟨t168, kk168, rfl, N168q, Kc168, Ec168, FB168, FL168, V168, s168⟩ := hQ168
    have ne_b165_t168 : b165 ≠ t168 := Nat.ne_of_lt (Nat.lt_of_lt_of_le A165.lt s168)
    have g_t168 : n0 ≤ t168 := Nat.le_trans Z165 s168
    have sz_t168 : h0.size ≤ t168 := Nat.le_trans K165.1 s168
    have E_169 := A165.keep Kc168
    have N168 := Fr.app N0 N168q
    have Z168 : n0 ≤ T168.heap.size := Nat.le_trans Z165 Kc168.1
    have K168 : Keep h0 T168.heap [] := K165.trans Kc168 (allS (Or.inr sz_b165) all0)
    refine Gl.st (g' := (mkF m 46 #[.val (.int x0), .val (.int x1), .val (.int x2), .val (.int x3), .val (.int x4), .val (.int (1 : Int32)), .val (.int (8 : Int32)), .val (.int c1), .val (.int c2), .unset, .unset, .unset, .unset, .unset] [(.ref b165)])) (fun τ κ => st168.trans κ) ?_
    refine Gl.st (g' := (mkF m 48 #[.val (.int x0), .val (.int x1), .val (.int x2), .val (.int x3), .val (.int x4), .val (.int (1 : Int32)), .val (.int (8 : Int32)), .val (.int c1), .val (.int c2), .val (.ref b165), .unset, .unset, .unset, .unset] [])) (fun τ κ => XS.astore X168.here hx rfl (hb hby at_46) rfl rfl (l' := #[.val (.int x0), .val (.int x1), .val (.int x2), .val (.int x3), .val (.int x4), .val (.int (1 : Int32)), .val (.int (8 : Int32)), .val (.int c1), .val (.int c2), .val (.ref b165), .unset, .unset, .unset, .unset]) rfl κ) ?_
    refine Gl.st (g' := (mkF m 50 #[.val (.int x0), .val (.int x1), .val (.int x2), .val (.int x3), .val (.int x4), .val (.int (1 : Int32)), .val (.int (8 : Int32)), .val (.int c1), .val (.int c2), .val (.ref b165), .unset, .unset, .unset, .unset] [(.ref b165)])) (fun τ κ => XS.aload X168.here hx rfl (hb hby at_48) rfl rfl κ) ?_
    refine Gl.st (g' := (mkF m 51 #[.val (.int x0), .val (.int x1), .val (.int x2), .val (.int x3), .val (.int x4), .val (.int (1 : Int32)), .val (.int (8 : Int32)), .val (.int c1), .val (.int c2), .val (.ref b165), .unset, .unset, .unset, .unset] [(.int x2), (.ref b165)])) (fun τ κ => XS.iloadN X168.here hx rfl (hb hby at_50) rfl κ) ?_
    refine Gl.st (g' := (mkF m 53 #[.val (.int x0), .val (.int x1), .val (.int x2), .val (.int x3), .val (.int x4), .val (.int (1 : Int32)), .val (.int (8 : Int32)), .val (.int c1), .val (.int c2), .val (.ref b165), .unset, .unset, .unset, .unset] [(.int c1), (.int x2), (.ref b165)])) (fun τ κ => XS.iload X168.here hx rfl (hb hby at_51) rfl κ) ?_
    obtain ⟨cq172, kq172, q172a, q172b, q172c⟩ := isOf hZ rfl Ec168
    obtain ⟨rv172, _, ⟨T172, L172, k172, n172⟩, -, X172, ⟨Lc172, hQ172, l172, y172, z172⟩, st172⟩ := X168.virtualBack hx (y := (⟨"com/example/quietzone/quietzone/BitWriter", "write", "(II)V"⟩ : MethodName)) (z := (⟨"com/example/quietzone/quietzone/BitWriter", "write", "(II)V"⟩ : MethodName)) hown (mvT hZ (hw _ (List.mem_of_getElem? (i := 13) rfl))) (mvT hZ (hw _ (List.mem_of_getElem? (i := 14) rfl))) (notFace_of_selects (args := #[]) (mvT hZ (hw _ (List.mem_of_getElem? (i := 16) rfl)))) (mvT hZ (hw _ (List.mem_of_getElem? (i := 16) rfl))) (mvT hZ (hw _ (List.mem_of_getElem? (i := 15) rfl))) (by decide) (backOf (W := 0) (rm3 l Z a0 hw [] b165 x2 c1 t168 kk168 (1 : Int32) (0 : Int32) 0 0 r1 T168.heap n0 Z168 Ec168 g_b165 g_t168 ne_b165_t168 FB168 FL168 V168 hr1 rfl (by have : ((1 : Int32)).toInt.toNat = 1 := rfl; omega) (by decide) (by decide) (by decide)) hZ (hw _ (List.mem_of_getElem? (i := 17) rfl)) (hw _ (List.mem_of_getElem? (i := 3) rfl)) (by decide) (by decide)) q172a q172c (g := (mkF m 53 #[.val (.int x0), .val (.int x1), .val (.int x2), .val (.int x3), .val (.int x4), .val (.int (1 : Int32)), .val (.int (8 : Int32)), .val (.int c1), .val (.int c2), .val (.ref b165), .unset, .unset, .unset, .unset] [(.int c1), (.int x2), (.ref b165)])) rfl (by rw [hml]; rfl) (Steps.refl _) (argsL := [(.int x2), (.int c1)]) (rest := []) (lenOf pd_1 rfl) rfl (by show 2 * 0 + _ ≤ _; exact Nat.le_of_eq rfl) (hb hby at_53) (fun _ _ => ⟨rfl, rfl, (by decide : 2 + 0 ≤ _), (by decide : 5 + 0 ≤ _)⟩)
    dsimp only [Pt.U, Pt.locs, Pt.cells, Pt.slots] at X172 l172 y172 z172 st172 hQ172
    subst l172 y172 z172
    obtain ⟨rfl, N172q, Kc172, Ec172, FB172, ⟨lv172, hl172, FL172⟩, V172⟩ := hQ172
    have E_173 := Ec168.keep Kc172
    have N172 := Fr.app N168 N172q
    have Z172 : n0 ≤ T172.heap.size := Nat.le_trans Z168 Kc172.1
    have K172 : Keep h0 T172.heap [] := K168.trans Kc172 (allS (Or.inr sz_b165) (allS (Or.inr sz_t168) all0))
    refine Gl.st (g' := (mkF m 56 #[.val (.int x0), .val (.int x1), .val (.int x2), .val (.int x3), .val (.int x4), .val (.int (1 : Int32)), .val (.int (8 : Int32)), .val (.int c1), .val (.int c2), .val (.ref b165), .unset, .unset, .unset, .unset] [])) (fun τ κ => st172.trans κ) ?_
    have hM1 : (0 + (own_u x2 % 2 ^ r1) * 2 ^ (24 - 0 - r1)) < 16777216 := by
      have := (own_word (a := x2) (b := x4) hr1 hr2 (by omega)).2; omega
    have hZ1 : (0 + (own_u x2 % 2 ^ r1) * 2 ^ (24 - 0 - r1)) % 2 ^ (24 - (0 + r1)) = 0 := by rw [Nat.zero_add, Nat.zero_add, Nat.sub_zero]; exact Nat.mul_mod_left _ _
    refine Gl.st (g' := (mkF m 58 #[.val (.int x0), .val (.int x1), .val (.int x2), .val (.int x3), .val (.int x4), .val (.int (1 : Int32)), .val (.int (8 : Int32)), .val (.int c1), .val (.int c2), .val (.ref b165), .unset, .unset, .unset, .unset] [(.ref b165)])) (fun τ κ => XS.aload X172.here hx rfl (hb hby at_56) rfl rfl κ) ?_
    refine Gl.st (g' := (mkF m 60 #[.val (.int x0), .val (.int x1), .val (.int x2), .val (.int x3), .val (.int x4), .val (.int (1 : Int32)), .val (.int (8 : Int32)), .val (.int c1), .val (.int c2), .val (.ref b165), .unset, .unset, .unset, .unset] [(.int x4), (.ref b165)])) (fun τ κ => XS.iload X172.here hx rfl (hb hby at_58) rfl κ) ?_
    refine Gl.st (g' := (mkF m 62 #[.val (.int x0), .val (.int x1), .val (.int x2), .val (.int x3), .val (.int x4), .val (.int (1 : Int32)), .val (.int (8 : Int32)), .val (.int c1), .val (.int c2), .val (.ref b165), .unset, .unset, .unset, .unset] [(.int c2), (.int x4), (.ref b165)])) (fun τ κ => XS.iload X172.here hx rfl (hb hby at_60) rfl κ) ?_
    obtain ⟨cq177, kq177, q177a, q177b, q177c⟩ := isOf hZ rfl Ec172
    obtain ⟨rv177, _, ⟨T177, L177, k177, n177⟩, -, X177, ⟨Lc177, hQ177, l177, y177, z177⟩, st177⟩ := X172.virtualBack hx (y := (⟨"com/example/quietzone/quietzone/BitWriter", "write", "(II)V"⟩ : MethodName)) (z := (⟨"com/example/quietzone/quietzone/BitWriter", "write", "(II)V"⟩ : MethodName)) hown (mvT hZ (hw _ (List.mem_of_getElem? (i := 13) rfl))) (mvT hZ (hw _ (List.mem_of_getElem? (i := 14) rfl))) (notFace_of_selects (args := #[]) (mvT hZ (hw _ (List.mem_of_getElem? (i := 16) rfl)))) (mvT hZ (hw _ (List.mem_of_getElem? (i := 16) rfl))) (mvT hZ (hw _ (List.mem_of_getElem? (i := 15) rfl))) (by decide) (backOf (W := 0) (rm3 l Z a0 hw [] b165 x4 c2 t168 kk168 (1 : Int32) lv172 (0 + (own_u x2 % 2 ^ r1) * 2 ^ (24 - 0 - r1)) (0 + r1) r2 T172.heap n0 Z172 Ec172 g_b165 g_t168 ne_b165_t168 FB172 FL172 V172 hr2 hl172 (by have : ((1 : Int32)).toInt.toNat = 1 := rfl; omega) (by decide) hM1 hZ1) hZ (hw _ (List.mem_of_getElem? (i := 17) rfl)) (hw _ (List.mem_of_getElem? (i := 3) rfl)) (by decide) (by decide)) q177a q177c (g := (mkF m 62 #[.val (.int x0), .val (.int x1), .val (.int x2), .val (.int x3), .val (.int x4), .val (.int (1 : Int32)), .val (.int (8 : Int32)), .val (.int c1), .val (.int c2), .val (.ref b165), .unset, .unset, .unset, .unset] [(.int c2), (.int x4), (.ref b165)])) rfl (by rw [hml]; rfl) (Steps.refl _) (argsL := [(.int x4), (.int c2)]) (rest := []) (lenOf pd_1 rfl) rfl (by show 2 * 0 + _ ≤ _; exact Nat.le_of_eq rfl) (hb hby at_62) (fun _ _ => ⟨rfl, rfl, (by decide : 2 + 0 ≤ _), (by decide : 5 + 0 ≤ _)⟩)
    dsimp only [Pt.U, Pt.locs, Pt.cells, Pt.slots] at X177 l177 y177 z177 st177 hQ177
    subst l177 y177 z177
    obtain ⟨rfl, N177q, Kc177, Ec177, FB177, ⟨lv177, hl177, FL177⟩, V177⟩ := hQ177
    have E_178 := Ec172.keep Kc177
    have N177 := Fr.app N172 N177q
    have Z177 : n0 ≤ T177.heap.size := Nat.le_trans Z172 Kc177.1
    have K177 : Keep h0 T177.heap [] := K172.trans Kc177 (allS (Or.inr sz_b165) (allS (Or.inr sz_t168) all0))
    refine Gl.st (g' := (mkF m 65 #[.val (.int x0), .val (.int x1), .val (.int x2), .val (.int x3), .val (.int x4), .val (.int (1 : Int32)), .val (.int (8 : Int32)), .val (.int c1), .val (.int c2), .val (.ref b165), .unset, .unset, .unset, .unset] [])) (fun τ κ => st177.trans κ) ?_
    refine Gl.st (g' := (mkF m 67 #[.val (.int x0), .val (.int x1), .val (.int x2), .val (.int x3), .val (.int x4), .val (.int (1 : Int32)), .val (.int (8 : Int32)), .val (.int c1), .val (.int c2), .val (.ref b165), .unset, .unset, .unset, .unset] [(.ref b165)])) (fun τ κ => XS.aload X177.here hx rfl (hb hby at_65) rfl rfl κ) ?_
    obtain ⟨cq182, kq182, q182a, q182b, q182c⟩ := isOf hZ rfl Ec177
    obtain ⟨rv182, _, ⟨T182, L182, k182, n182⟩, -, X182, ⟨Lc182, hQ182, l182, y182, z182⟩, st182⟩ := X177.virtualBack hx (y := (⟨"com/example/quietzone/quietzone/BitWriter", "toUnsignedBytes", "()[I"⟩ : MethodName)) (z := (⟨"com/example/quietzone/quietzone/BitWriter", "toUnsignedBytes", "()[I"⟩ : MethodName)) hown (mvT hZ (hw _ (List.mem_of_getElem? (i := 18) rfl))) (mvT hZ (hw _ (List.mem_of_getElem? (i := 19) rfl))) (notFace_of_selects (args := #[]) (mvT hZ (hw _ (List.mem_of_getElem? (i := 21) rfl)))) (mvT hZ (hw _ (List.mem_of_getElem? (i := 21) rfl))) (mvT hZ (hw _ (List.mem_of_getElem? (i := 20) rfl))) (by decide) (backOf (W := 0) (rm_tu1 l Z a0 hw [] b165 t168 kk168 ((0 + (own_u x2 % 2 ^ r1) * 2 ^ (24 - 0 - r1)) + (own_u x4 % 2 ^ r2) * 2 ^ (24 - (0 + r1) - r2)) T177.heap n0 Z177 FB177 V177) hZ (hw _ (List.mem_of_getElem? (i := 22) rfl)) (hw _ (List.mem_of_getElem? (i := 3) rfl)) (by decide) (by decide)) q182a q182c (g := (mkF m 67 #[.val (.int x0), .val (.int x1), .val (.int x2), .val (.int x3), .val (.int x4), .val (.int (1 : Int32)), .val (.int (8 : Int32)), .val (.int c1), .val (.int c2), .val (.ref b165), .unset, .unset, .unset, .unset] [(.ref b165)])) rfl (by rw [hml]; rfl) (Steps.refl _) (argsL := []) (rest := []) (lenOf pd_2 rfl) rfl (by show 2 * 0 + _ ≤ _; exact Nat.le_of_eq rfl) (hb hby at_67) (fun _ _ => ⟨rfl, rfl, (by decide : 2 + 1 ≤ _), (by decide : 5 + 1 ≤ _)⟩)
    dsimp only [Pt.U, Pt.locs, Pt.cells, Pt.slots] at X182 l182 y182 z182 st182 hQ182
    subst l182 y182 z182
    obtain ⟨b182, kk182, rfl, N182q, Kc182, s182, V182⟩ := hQ182
    have ne_b165_b182 : b165 ≠ b182 := Nat.ne_of_lt (Nat.lt_of_lt_of_le Ec177.lt s182)
    have ne_t168_b182 : t168 ≠ b182 := Nat.ne_of_lt (Nat.lt_of_lt_of_le V177.lt s182)
    have g_b182 : n0 ≤ b182 := Nat.le_trans Z177 s182
    have sz_b182 : h0.size ≤ b182 := Nat.le_trans K177.1 s182
    have E_183 := Ec177.keep Kc182
    have F_184 := FB177.keep Kc182 nin0
    have F_185 := FL177.keep Kc182 nin0
    have V_186 := V177.keep Kc182 nin0
    have N182 := Fr.app N177 N182q
    have Z182 : n0 ≤ T182.heap.size := Nat.le_trans Z177 Kc182.1
    have K182 : Keep h0 T182.heap [] := K177.trans Kc182 all0
    refine Gl.st (g' := (mkF m 70 #[.val (.int x0), .val (.int x1), .val (.int x2), .val (.int x3), .val (.int x4), .val (.int (1 : Int32)), .val (.int (8 : Int32)), .val (.int c1), .val (.int c2), .val (.ref b165), .unset, .unset, .unset, .unset] [(.ref b182)])) (fun τ κ => st182.trans κ) ?_
    refine Gl.st (g' := (mkF m 72 #[.val (.int x0), .val (.int x1), .val (.int x2), .val (.int x3), .val (.int x4), .val (.int (1 : Int32)), .val (.int (8 : Int32)), .val (.int c1), .val (.int c2), .val (.ref b165), .val (.ref b182), .unset, .unset, .unset] [])) (fun τ κ => XS.astore X182.here hx rfl (hb hby at_70) rfl rfl (l' := #[.val (.int x0), .val (.int x1), .val (.int x2), .val (.int x3), .val (.int x4), .val (.int (1 : Int32)), .val (.int (8 : Int32)), .val (.int c1), .val (.int c2), .val (.ref b165), .val (.ref b182), .unset, .unset, .unset]) rfl κ) ?_
    refine Gl.st (g' := (mkF m 73 #[.val (.int x0), .val (.int x1), .val (.int x2), .val (.int x3), .val (.int x4), .val (.int (1 : Int32)), .val (.int (8 : Int32)), .val (.int c1), .val (.int c2), .val (.ref b165), .val (.ref b182), .unset, .unset, .unset] [(.int x2)])) (fun τ κ => XS.iloadN X182.here hx rfl (hb hby at_72) rfl κ) ?_
    refine Gl.st (g' := (mkF m 75 #[.val (.int x0), .val (.int x1), .val (.int x2), .val (.int x3), .val (.int x4), .val (.int (1 : Int32)), .val (.int (8 : Int32)), .val (.int c1), .val (.int c2), .val (.ref b165), .val (.ref b182), .unset, .unset, .unset] [(.int c1), (.int x2)])) (fun τ κ => XS.iload X182.here hx rfl (hb hby at_73) rfl κ) ?_
    obtain ⟨rv187, _, ⟨T187, L187, k187, n187⟩, -, X187, ⟨Lc187, hQ187, l187, y187, z187⟩, st187⟩ := Jvm.LawKit.callS X182 hx (y := (⟨"com/example/quietzone/quietzone/BitWriterToUnsignedBytesPinLaw", "low", "(II)J"⟩ : MethodName)) hown (mvT hZ (hw _ (List.mem_of_getElem? (i := 24) rfl))) (mvT hZ (hw _ (List.mem_of_getElem? (i := 25) rfl))) (mvT hZ (hw _ (List.mem_of_getElem? (i := 26) rfl))) (mvT hZ (hw _ (List.mem_of_getElem? (i := 27) rfl))) (by decide) (backOf (W := 0) (rm5 l Z a0 hw [] x2 c1 T182.heap n0 Z182 ) hZ (hw _ (List.mem_of_getElem? (i := 27) rfl)) (hw _ (List.mem_of_getElem? (i := 26) rfl)) (by decide) (by decide)) (g := (mkF m 75 #[.val (.int x0), .val (.int x1), .val (.int x2), .val (.int x3), .val (.int x4), .val (.int (1 : Int32)), .val (.int (8 : Int32)), .val (.int c1), .val (.int c2), .val (.ref b165), .val (.ref b182), .unset, .unset, .unset] [(.int c1), (.int x2)])) rfl (by rw [hml]; rfl) (argsL := [(.int x2), (.int c1)]) (rest := []) (lenOf pd_3 rfl) rfl (by show 2 * 0 + _ ≤ _; exact Nat.le_of_eq rfl) (hb hby at_75) (fun _ _ => ⟨rfl, rfl, (by decide : 3 + 0 ≤ _), (by decide : 6 + 0 ≤ _)⟩)
    dsimp only [Pt.U, Pt.locs, Pt.cells, Pt.slots] at X187 l187 y187 z187 st187 hQ187
    subst l187 y187 z187
    obtain ⟨rfl, N187q, e187⟩ := hQ187
    have N187 := Fr.app N182 N187q
    refine Gl.st (g' := (mkF m 78 #[.val (.int x0), .val (.int x1), .val (.int x2), .val (.int x3), .val (.int x4), .val (.int (1 : Int32)), .val (.int (8 : Int32)), .val (.int c1), .val (.int c2), .val (.ref b165), .val (.ref b182), .unset, .unset, .unset] [(.long (own_low x2 c1))])) (fun τ κ => st187 _ κ) ?_
    refine Gl.st (g' := (mkF m 80 #[.val (.int x0), .val (.int x1), .val (.int x2), .val (.int x3), .val (.int x4), .val (.int (1 : Int32)), .val (.int (8 : Int32)), .val (.int c1), .val (.int c2), .val (.ref b165), .val (.ref b182), .unset, .unset, .unset] [(.int (24 : Int32)), (.long (own_low x2 c1))])) (fun τ κ => XS.bipush X187.here hx rfl (hb hby at_78) κ) ?_
    refine Gl.st (g' := (mkF m 82 #[.val (.int x0), .val (.int x1), .val (.int x2), .val (.int x3), .val (.int x4), .val (.int (1 : Int32)), .val (.int (8 : Int32)), .val (.int c1), .val (.int c2), .val (.ref b165), .val (.ref b182), .unset, .unset, .unset] [(.int c1), (.int (24 : Int32)), (.long (own_low x2 c1))])) (fun τ κ => XS.iload X187.here hx rfl (hb hby at_80) rfl κ) ?_
    refine Gl.st (g' := (mkF m 83 #[.val (.int x0), .val (.int x1), .val (.int x2), .val (.int x3), .val (.int x4), .val (.int (1 : Int32)), .val (.int (8 : Int32)), .val (.int c1), .val (.int c2), .val (.ref b165), .val (.ref b182), .unset, .unset, .unset] [(.int ((24 : Int32) - c1)), (.long (own_low x2 c1))])) (fun τ κ => XS.isub X187.here hx rfl (hb hby at_82) rfl κ) ?_
    refine Gl.st (g' := (mkF m 84 #[.val (.int x0), .val (.int x1), .val (.int x2), .val (.int x3), .val (.int x4), .val (.int (1 : Int32)), .val (.int (8 : Int32)), .val (.int c1), .val (.int c2), .val (.ref b165), .val (.ref b182), .unset, .unset, .unset] [(.long ((own_low x2 c1) <<< (((24 : Int32) - c1) &&& 0x3f).toInt64))])) (fun τ κ => XS.lshl X187.here hx rfl (hb hby at_83) rfl κ) ?_
    refine Gl.st (g' := (mkF m 86 #[.val (.int x0), .val (.int x1), .val (.int x2), .val (.int x3), .val (.int x4), .val (.int (1 : Int32)), .val (.int (8 : Int32)), .val (.int c1), .val (.int c2), .val (.ref b165), .val (.ref b182), .unset, .unset, .unset] [(.int x4), (.long ((own_low x2 c1) <<< (((24 : Int32) - c1) &&& 0x3f).toInt64))])) (fun τ κ => XS.iload X187.here hx rfl (hb hby at_84) rfl κ) ?_
    refine Gl.st (g' := (mkF m 88 #[.val (.int x0), .val (.int x1), .val (.int x2), .val (.int x3), .val (.int x4), .val (.int (1 : Int32)), .val (.int (8 : Int32)), .val (.int c1), .val (.int c2), .val (.ref b165), .val (.ref b182), .unset, .unset, .unset] [(.int c2), (.int x4), (.long ((own_low x2 c1) <<< (((24 : Int32) - c1) &&& 0x3f).toInt64))])) (fun τ κ => XS.iload X187.here hx rfl (hb hby at_86) rfl κ) ?_
    obtain ⟨rv188, _, ⟨T188, L188, k188, n188⟩, -, X188, ⟨Lc188, hQ188, l188, y188, z188⟩, st188⟩ := Jvm.LawKit.callS X187 hx (y := (⟨"com/example/quietzone/quietzone/BitWriterToUnsignedBytesPinLaw", "low", "(II)J"⟩ : MethodName)) hown (mvT hZ (hw _ (List.mem_of_getElem? (i := 24) rfl))) (mvT hZ (hw _ (List.mem_of_getElem? (i := 25) rfl))) (mvT hZ (hw _ (List.mem_of_getElem? (i := 26) rfl))) (mvT hZ (hw _ (List.mem_of_getElem? (i := 27) rfl))) (by decide) (backOf (W := 2) (rm5 l Z a0 hw [] x4 c2 T182.heap n0 Z182 ) hZ (hw _ (List.mem_of_getElem? (i := 27) rfl)) (hw _ (List.mem_of_getElem? (i := 26) rfl)) (by decide) (by decide)) (g := (mkF m 88 #[.val (.int x0), .val (.int x1), .val (.int x2), .val (.int x3), .val (.int x4), .val (.int (1 : Int32)), .val (.int (8 : Int32)), .val (.int c1), .val (.int c2), .val (.ref b165), .val (.ref b182), .unset, .unset, .unset] [(.int c2), (.int x4), (.long ((own_low x2 c1) <<< (((24 : Int32) - c1) &&& 0x3f).toInt64))])) rfl (by rw [hml]; rfl) (argsL := [(.int x4), (.int c2)]) (rest := [(.long ((own_low x2 c1) <<< (((24 : Int32) - c1) &&& 0x3f).toInt64))]) (lenOf pd_3 rfl) rfl (by show 2 * 0 + _ ≤ _; exact Nat.le_of_eq rfl) (hb hby at_88) (fun _ _ => ⟨rfl, e187, (by decide : 3 + 0 ≤ _), (by decide : 6 + 0 ≤ _)⟩)
    dsimp only [Pt.U, Pt.locs, Pt.cells, Pt.slots] at X188 l188 y188 z188 st188 hQ188
    subst l188 y188 z188
    obtain ⟨rfl, N188q, e188⟩ := hQ188
    have N188 := Fr.app N187 N188q
    refine Gl.st (g' := (mkF m 91 #[.val (.int x0), .val (.int x1), .val (.int x2), .val (.int x3), .val (.int x4), .val (.int (1 : Int32)), .val (.int (8 : Int32)), .val (.int c1), .val (.int c2), .val (.ref b165), .val (.ref b182), .unset, .unset, .unset] [(.long (own_low x4 c2)), (.long ((own_low x2 c1) <<< (((24 : Int32) - c1) &&& 0x3f).toInt64))])) (fun τ κ => st188 _ κ) ?_
    refine Gl.st (g' := (mkF m 93 #[.val (.int x0), .val (.int x1), .val (.int x2), .val (.int x3), .val (.int x4), .val (.int (1 : Int32)), .val (.int (8 : Int32)), .val (.int c1), .val (.int c2), .val (.ref b165), .val (.ref b182), .unset, .unset, .unset] [(.int (24 : Int32)), (.long (own_low x4 c2)), (.long ((own_low x2 c1) <<< (((24 : Int32) - c1) &&& 0x3f).toInt64))])) (fun τ κ => XS.bipush X188.here hx rfl (hb hby at_91) κ) ?_
    refine Gl.st (g' := (mkF m 95 #[.val (.int x0), .val (.int x1), .val (.int x2), .val (.int x3), .val (.int x4), .val (.int (1 : Int32)), .val (.int (8 : Int32)), .val (.int c1), .val (.int c2), .val (.ref b165), .val (.ref b182), .unset, .unset, .unset] [(.int c1), (.int (24 : Int32)), (.long (own_low x4 c2)), (.long ((own_low x2 c1) <<< (((24 : Int32) - c1) &&& 0x3f).toInt64))])) (fun τ κ => XS.iload X188.here hx rfl (hb hby at_93) rfl κ) ?_
    refine Gl.st (g' := (mkF m 96 #[.val (.int x0), .val (.int x1), .val (.int x2), .val (.int x3), .val (.int x4), .val (.int (1 : Int32)), .val (.int (8 : Int32)), .val (.int c1), .val (.int c2), .val (.ref b165), .val (.ref b182), .unset, .unset, .unset] [(.int ((24 : Int32) - c1)), (.long (own_low x4 c2)), (.long ((own_low x2 c1) <<< (((24 : Int32) - c1) &&& 0x3f).toInt64))])) (fun τ κ => XS.isub X188.here hx rfl (hb hby at_95) rfl κ) ?_
    refine Gl.st (g' := (mkF m 98 #[.val (.int x0), .val (.int x1), .val (.int x2), .val (.int x3), .val (.int x4), .val (.int (1 : Int32)), .val (.int (8 : Int32)), .val (.int c1), .val (.int c2), .val (.ref b165), .val (.ref b182), .unset, .unset, .unset] [(.int c2), (.int ((24 : Int32) - c1)), (.long (own_low x4 c2)), (.long ((own_low x2 c1) <<< (((24 : Int32) - c1) &&& 0x3f).toInt64))])) (fun τ κ => XS.iload X188.here hx rfl (hb hby at_96) rfl κ) ?_
    refine Gl.st (g' := (mkF m 99 #[.val (.int x0), .val (.int x1), .val (.int x2), .val (.int x3), .val (.int x4), .val (.int (1 : Int32)), .val (.int (8 : Int32)), .val (.int c1), .val (.int c2), .val (.ref b165), .val (.ref b182), .unset, .unset, .unset] [(.int (((24 : Int32) - c1) - c2)), (.long (own_low x4 c2)), (.long ((own_low x2 c1) <<< (((24 : Int32) - c1) &&& 0x3f).toInt64))])) (fun τ κ => XS.isub X188.here hx rfl (hb hby at_98) rfl κ) ?_
    refine Gl.st (g' := (mkF m 100 #[.val (.int x0), .val (.int x1), .val (.int x2), .val (.int x3), .val (.int x4), .val (.int (1 : Int32)), .val (.int (8 : Int32)), .val (.int c1), .val (.int c2), .val (.ref b165), .val (.ref b182), .unset, .unset, .unset] [(.long ((own_low x4 c2) <<< ((((24 : Int32) - c1) - c2) &&& 0x3f).toInt64)), (.long ((own_low x2 c1) <<< (((24 : Int32) - c1) &&& 0x3f).toInt64))])) (fun τ κ => XS.lshl X188.here hx rfl (hb hby at_99) rfl κ) ?_
    refine Gl.st (g' := (mkF m 101 #[.val (.int x0), .val (.int x1), .val (.int x2), .val (.int x3), .val (.int x4), .val (.int (1 : Int32)), .val (.int (8 : Int32)), .val (.int c1), .val (.int c2), .val (.ref b165), .val (.ref b182), .unset, .unset, .unset] [(.long (((own_low x2 c1) <<< (((24 : Int32) - c1) &&& 0x3f).toInt64) ||| ((own_low x4 c2) <<< ((((24 : Int32) - c1) - c2) &&& 0x3f).toInt64)))])) (fun τ κ => XS.lor X188.here hx rfl (hb hby at_100) rfl κ) ?_
    have hW := own_word (a := x2) (b := x4) hr1 hr2 (by omega)
    generalize hww : (((own_low x2 c1) <<< (((24 : Int32) - c1) &&& 0x3f).toInt64) ||| ((own_low x4 c2) <<< ((((24 : Int32) - c1) - c2) &&& 0x3f).toInt64)) = ww at hW ⊢
    have hC := own_cmp hW.1 hW.2
    refine Gl.st (g' := (mkF m 103 #[.val (.int x0), .val (.int x1), .val (.int x2), .val (.int x3), .val (.int x4), .val (.int (1 : Int32)), .val (.int (8 : Int32)), .val (.int c1), .val (.int c2), .val (.ref b165), .val (.ref b182), .val (.long ww), .second, .unset] [])) (fun τ κ => XS.lstore X188.here hx rfl (hb hby at_101) rfl (l' := #[.val (.int x0), .val (.int x1), .val (.int x2), .val (.int x3), .val (.int x4), .val (.int (1 : Int32)), .val (.int (8 : Int32)), .val (.int c1), .val (.int c2), .val (.ref b165), .val (.ref b182), .val (.long ww), .second, .unset]) rfl κ) ?_
    refine Gl.st (g' := (mkF m 105 #[.val (.int x0), .val (.int x1), .val (.int x2), .val (.int x3), .val (.int x4), .val (.int (1 : Int32)), .val (.int (8 : Int32)), .val (.int c1), .val (.int c2), .val (.ref b165), .val (.ref b182), .val (.long ww), .second, .unset] [(.ref b182)])) (fun τ κ => XS.aload X188.here hx rfl (hb hby at_103) rfl rfl κ) ?_
    obtain ⟨cl_o189, Ar_o189, q_o189, S_o189, M_o189, H_o189, G_o189⟩ := id V182
    refine Gl.st (g' := (mkF m 106 #[.val (.int x0), .val (.int x1), .val (.int x2), .val (.int x3), .val (.int x4), .val (.int (1 : Int32)), .val (.int (8 : Int32)), .val (.int c1), .val (.int c2), .val (.ref b165), .val (.ref b182), .val (.long ww), .second, .unset] [(.int (1 : Int32))])) (fun τ κ => X188.arraylength hx (by rw [e188]; exact Ar_o189.1) (State.isArrayOf_alike hZ.alike Ar_o189.2.1) (g := (mkF m 105 #[.val (.int x0), .val (.int x1), .val (.int x2), .val (.int x3), .val (.int x4), .val (.int (1 : Int32)), .val (.int (8 : Int32)), .val (.int c1), .val (.int c2), .val (.ref b165), .val (.ref b182), .val (.long ww), .second, .unset] [(.ref b182)])) rfl rfl (hb hby at_105) _ (by rw [len_of S_o189 M_o189]; exact κ)) ?_
    refine Gl.st (g' := (mkF m 108 #[.val (.int x0), .val (.int x1), .val (.int x2), .val (.int x3), .val (.int x4), .val (.int (1 : Int32)), .val (.int (8 : Int32)), .val (.int c1), .val (.int c2), .val (.ref b165), .val (.ref b182), .val (.long ww), .second, .unset] [(.int (1 : Int32)), (.int (1 : Int32))])) (fun τ κ => XS.iload X188.here hx rfl (hb hby at_106) rfl κ) ?_
    have hc190 : (1 : Int32) = (1 : Int32) := by decide
    refine Gl.st (g' := (mkF m 113 #[.val (.int x0), .val (.int x1), .val (.int x2), .val (.int x3), .val (.int x4), .val (.int (1 : Int32)), .val (.int (8 : Int32)), .val (.int c1), .val (.int c2), .val (.ref b165), .val (.ref b182), .val (.long ww), .second, .unset] [])) (fun τ κ => XS.icmpYes X188.here hx rfl (pc0 := 108) (pc' := 113) rfl (hb hby at_108) rfl (teq hc190).1 (by decide) (by decide) κ) ?_
    refine Gl.st (g' := (mkF m 114 #[.val (.int x0), .val (.int x1), .val (.int x2), .val (.int x3), .val (.int x4), .val (.int (1 : Int32)), .val (.int (8 : Int32)), .val (.int c1), .val (.int c2), .val (.ref b165), .val (.ref b182), .val (.long ww), .second, .unset] [(.int (1 : Int32))])) (fun τ κ => XS.iconst X188.here hx rfl (hb hby at_113) κ) ?_
    refine Gl.st (g' := (mkF m 116 #[.val (.int x0), .val (.int x1), .val (.int x2), .val (.int x3), .val (.int x4), .val (.int (1 : Int32)), .val (.int (8 : Int32)), .val (.int c1), .val (.int c2), .val (.ref b165), .val (.ref b182), .val (.long ww), .second, .val (.int (1 : Int32))] [])) (fun τ κ => XS.istore X188.here hx rfl (hb hby at_114) rfl (l' := #[.val (.int x0), .val (.int x1), .val (.int x2), .val (.int x3), .val (.int x4), .val (.int (1 : Int32)), .val (.int (8 : Int32)), .val (.int c1), .val (.int c2), .val (.ref b165), .val (.ref b182), .val (.long ww), .second, .val (.int (1 : Int32))]) rfl κ) ?_
    refine Gl.st (g' := (mkF m 118 #[.val (.int x0), .val (.int x1), .val (.int x2), .val (.int x3), .val (.int x4), .val (.int (1 : Int32)), .val (.int (8 : Int32)), .val (.int c1), .val (.int c2), .val (.ref b165), .val (.ref b182), .val (.long ww), .second, .val (.int (1 : Int32))] [(.int (1 : Int32))])) (fun τ κ => XS.iload X188.here hx rfl (hb hby at_116) rfl κ) ?_
    have hc191 : (0 : Int32) < (1 : Int32) := by decide
    refine Gl.st (g' := (mkF m 121 #[.val (.int x0), .val (.int x1), .val (.int x2), .val (.int x3), .val (.int x4), .val (.int (1 : Int32)), .val (.int (8 : Int32)), .val (.int c1), .val (.int c2), .val (.ref b165), .val (.ref b182), .val (.long ww), .second, .val (.int (1 : Int32))] [])) (fun τ κ => XS.ifNo X188.here hx rfl (hb hby at_118) rfl ((if0 _ _).trans (tlt hc191).2.2.2) κ) ?_
    refine Gl.st (g' := (mkF m 123 #[.val (.int x0), .val (.int x1), .val (.int x2), .val (.int x3), .val (.int x4), .val (.int (1 : Int32)), .val (.int (8 : Int32)), .val (.int c1), .val (.int c2), .val (.ref b165), .val (.ref b182), .val (.long ww), .second, .val (.int (1 : Int32))] [(.int (1 : Int32))])) (fun τ κ => XS.iload X188.here hx rfl (hb hby at_121) rfl κ) ?_
    have hc192 : ¬ ((1 : Int32) = (0 : Int32)) := by decide
    refine Gl.st (g' := (mkF m 126 #[.val (.int x0), .val (.int x1), .val (.int x2), .val (.int x3), .val (.int x4), .val (.int (1 : Int32)), .val (.int (8 : Int32)), .val (.int c1), .val (.int c2), .val (.ref b165), .val (.ref b182), .val (.long ww), .second, .val (.int (1 : Int32))] [])) (fun τ κ => XS.ifNo X188.here hx rfl (hb hby at_123) rfl ((if0 _ _).trans (feq hc192).1) κ) ?_
    refine Gl.st (g' := (mkF m 128 #[.val (.int x0), .val (.int x1), .val (.int x2), .val (.int x3), .val (.int x4), .val (.int (1 : Int32)), .val (.int (8 : Int32)), .val (.int c1), .val (.int c2), .val (.ref b165), .val (.ref b182), .val (.long ww), .second, .val (.int (1 : Int32))] [(.ref b182)])) (fun τ κ => XS.aload X188.here hx rfl (hb hby at_126) rfl rfl κ) ?_
    refine Gl.st (g' := (mkF m 129 #[.val (.int x0), .val (.int x1), .val (.int x2), .val (.int x3), .val (.int x4), .val (.int (1 : Int32)), .val (.int (8 : Int32)), .val (.int c1), .val (.int c2), .val (.ref b165), .val (.ref b182), .val (.long ww), .second, .val (.int (1 : Int32))] [(.int (0 : Int32)), (.ref b182)])) (fun τ κ => XS.iconst X188.here hx rfl (hb hby at_128) κ) ?_
    obtain ⟨cl_o193, Ar_o193, q_o193, S_o193, M_o193, H_o193, G_o193⟩ := id V182
    have hin_o193 : ¬ ((0 : Int32) < 0 ∨ cl_o193.slots.size ≤ ((0 : Int32)).toNatClampNeg) := inb_of S_o193 ⟨by decide, by decide⟩
    refine Gl.st (g' := (mkF m 130 #[.val (.int x0), .val (.int x1), .val (.int x2), .val (.int x3), .val (.int x4), .val (.int (1 : Int32)), .val (.int (8 : Int32)), .val (.int c1), .val (.int c2), .val (.ref b165), .val (.ref b182), .val (.long ww), .second, .val (.int (1 : Int32))] [(.int (own_by ((0 + (own_u x2 % 2 ^ r1) * 2 ^ (24 - 0 - r1)) + (own_u x4 % 2 ^ r2) * 2 ^ (24 - (0 + r1) - r2)) 0 &&& (255 : Int32)))])) (fun τ κ => X188.iaload hx (j := (0 : Int32)) (v := (.int (own_by ((0 + (own_u x2 % 2 ^ r1) * 2 ^ (24 - 0 - r1)) + (own_u x4 % 2 ^ r2) * 2 ^ (24 - (0 + r1) - r2)) 0 &&& (255 : Int32)))) (by rw [e188]; exact Ar_o193.1) (State.isArrayOf_alike hZ.alike Ar_o193.2.1) Ar_o193.2.2 hin_o193 (H_o193 0 (by rw [S_o193]; decide)) (g := (mkF m 129 #[.val (.int x0), .val (.int x1), .val (.int x2), .val (.int x3), .val (.int x4), .val (.int (1 : Int32)), .val (.int (8 : Int32)), .val (.int c1), .val (.int c2), .val (.ref b165), .val (.ref b182), .val (.long ww), .second, .val (.int (1 : Int32))] [(.int (0 : Int32)), (.ref b182)])) rfl rfl (hb hby at_129) _ κ) ?_
    refine Gl.st (g' := (mkF m 132 #[.val (.int x0), .val (.int x1), .val (.int x2), .val (.int x3), .val (.int x4), .val (.int (1 : Int32)), .val (.int (8 : Int32)), .val (.int c1), .val (.int c2), .val (.ref b165), .val (.ref b182), .val (.long ww), .second, .val (.int (1 : Int32))] [(.long ww), (.int (own_by ((0 + (own_u x2 % 2 ^ r1) * 2 ^ (24 - 0 - r1)) + (own_u x4 % 2 ^ r2) * 2 ^ (24 - (0 + r1) - r2)) 0 &&& (255 : Int32)))])) (fun τ κ => XS.lload X188.here hx rfl (hb hby at_130) rfl κ) ?_
    refine Gl.st (g' := (mkF m 133 #[.val (.int x0), .val (.int x1), .val (.int x2), .val (.int x3), .val (.int x4), .val (.int (1 : Int32)), .val (.int (8 : Int32)), .val (.int c1), .val (.int c2), .val (.ref b165), .val (.ref b182), .val (.long ww), .second, .val (.int (1 : Int32))] [(.int (0 : Int32)), (.long ww), (.int (own_by ((0 + (own_u x2 % 2 ^ r1) * 2 ^ (24 - 0 - r1)) + (own_u x4 % 2 ^ r2) * 2 ^ (24 - (0 + r1) - r2)) 0 &&& (255 : Int32)))])) (fun τ κ => XS.iconst X188.here hx rfl (hb hby at_132) κ) ?_
    obtain ⟨rv194, _, ⟨T194, L194, k194, n194⟩, -, X194, ⟨Lc194, hQ194, l194, y194, z194⟩, st194⟩ := Jvm.LawKit.callS X188 hx (y := (⟨"com/example/quietzone/quietzone/BitWriterToUnsignedBytesPinLaw", "expectedByte", "(JI)I"⟩ : MethodName)) hown (mvT hZ (hw _ (List.mem_of_getElem? (i := 31) rfl))) (mvT hZ (hw _ (List.mem_of_getElem? (i := 32) rfl))) (mvT hZ (hw _ (List.mem_of_getElem? (i := 26) rfl))) (mvT hZ (hw _ (List.mem_of_getElem? (i := 33) rfl))) (by decide) (backOf (W := 1) (rm6 l Z a0 hw [] ww (0 : Int32) T182.heap n0 Z182 ) hZ (hw _ (List.mem_of_getElem? (i := 33) rfl)) (hw _ (List.mem_of_getElem? (i := 26) rfl)) (by decide) (by decide)) (g := (mkF m 133 #[.val (.int x0), .val (.int x1), .val (.int x2), .val (.int x3), .val (.int x4), .val (.int (1 : Int32)), .val (.int (8 : Int32)), .val (.int c1), .val (.int c2), .val (.ref b165), .val (.ref b182), .val (.long ww), .second, .val (.int (1 : Int32))] [(.int (0 : Int32)), (.long ww), (.int (own_by ((0 + (own_u x2 % 2 ^ r1) * 2 ^ (24 - 0 - r1)) + (own_u x4 % 2 ^ r2) * 2 ^ (24 - (0 + r1) - r2)) 0 &&& (255 : Int32)))])) rfl (by rw [hml]; rfl) (argsL := [(.long ww), (.int (0 : Int32))]) (rest := [(.int (own_by ((0 + (own_u x2 % 2 ^ r1) * 2 ^ (24 - 0 - r1)) + (own_u x4 % 2 ^ r2) * 2 ^ (24 - (0 + r1) - r2)) 0 &&& (255 : Int32)))]) (lenOf pd_4 rfl) rfl (by show 2 * 0 + _ ≤ _; exact Nat.le_of_eq rfl) (hb hby at_133) (fun _ _ => ⟨rfl, e188, (by decide : 3 + 0 ≤ _), (by decide : 6 + 0 ≤ _)⟩)
    dsimp only [Pt.U, Pt.locs, Pt.cells, Pt.slots] at X194 l194 y194 z194 st194 hQ194
    subst l194 y194 z194
    obtain ⟨rfl, N194q, e194⟩ := hQ194
    have N194 := Fr.app N188 N194q
    refine Gl.st (g' := (mkF m 136 #[.val (.int x0), .val (.int x1), .val (.int x2), .val (.int x3), .val (.int x4), .val (.int (1 : Int32)), .val (.int (8 : Int32)), .val (.int c1), .val (.int c2), .val (.ref b165), .val (.ref b182), .val (.long ww), .second, .val (.int (1 : Int32))] [(.int (own_eb ww (0 : Int32))), (.int (own_by ((0 + (own_u x2 % 2 ^ r1) * 2 ^ (24 - 0 - r1)) + (own_u x4 % 2 ^ r2) * 2 ^ (24 - (0 + r1) - r2)) 0 &&& (255 : Int32)))])) (fun τ κ => st194 _ κ) ?_
    have hc195 : (own_by ((0 + (own_u x2 % 2 ^ r1) * 2 ^ (24 - 0 - r1)) + (own_u x4 % 2 ^ r2) * 2 ^ (24 - (0 + r1) - r2)) 0 &&& (255 : Int32)) = (own_eb ww (0 : Int32)) := hC.1
    refine Gl.st (g' := (mkF m 139 #[.val (.int x0), .val (.int x1), .val (.int x2), .val (.int x3), .val (.int x4), .val (.int (1 : Int32)), .val (.int (8 : Int32)), .val (.int c1), .val (.int c2), .val (.ref b165), .val (.ref b182), .val (.long ww), .second, .val (.int (1 : Int32))] [])) (fun τ κ => XS.icmpNo X194.here hx rfl (hb hby at_136) rfl (teq hc195).2 κ) ?_
    refine Gl.st (g' := (mkF m 140 #[.val (.int x0), .val (.int x1), .val (.int x2), .val (.int x3), .val (.int x4), .val (.int (1 : Int32)), .val (.int (8 : Int32)), .val (.int c1), .val (.int c2), .val (.ref b165), .val (.ref b182), .val (.long ww), .second, .val (.int (1 : Int32))] [(.int (1 : Int32))])) (fun τ κ => XS.iconst X194.here hx rfl (hb hby at_139) κ) ?_
    refine Gl.st (g' := (mkF m 144 #[.val (.int x0), .val (.int x1), .val (.int x2), .val (.int x3), .val (.int x4), .val (.int (1 : Int32)), .val (.int (8 : Int32)), .val (.int c1), .val (.int c2), .val (.ref b165), .val (.ref b182), .val (.long ww), .second, .val (.int (1 : Int32))] [(.int (1 : Int32))])) (fun τ κ => XS.goto X194.here hx rfl (pc0 := 140) (pc' := 144) rfl (hb hby at_140) (by decide) (by decide) κ) ?_
    refine Gl.st (g' := (mkF m 146 #[.val (.int x0), .val (.int x1), .val (.int x2), .val (.int x3), .val (.int x4), .val (.int (1 : Int32)), .val (.int (8 : Int32)), .val (.int c1), .val (.int c2), .val (.ref b165), .val (.ref b182), .val (.long ww), .second, .val (.int (1 : Int32))] [])) (fun τ κ => XS.istore X194.here hx rfl (hb hby at_144) rfl (l' := #[.val (.int x0), .val (.int x1), .val (.int x2), .val (.int x3), .val (.int x4), .val (.int (1 : Int32)), .val (.int (8 : Int32)), .val (.int c1), .val (.int c2), .val (.ref b165), .val (.ref b182), .val (.long ww), .second, .val (.int (1 : Int32))]) rfl κ) ?_
    refine Gl.st (g' := (mkF m 148 #[.val (.int x0), .val (.int x1), .val (.int x2), .val (.int x3), .val (.int x4), .val (.int (1 : Int32)), .val (.int (8 : Int32)), .val (.int c1), .val (.int c2), .val (.ref b165), .val (.ref b182), .val (.long ww), .second, .val (.int (1 : Int32))] [(.int (1 : Int32))])) (fun τ κ => XS.iload X194.here hx rfl (hb hby at_146) rfl κ) ?_
    refine Gl.st (g' := (mkF m 149 #[.val (.int x0), .val (.int x1), .val (.int x2), .val (.int x3), .val (.int x4), .val (.int (1 : Int32)), .val (.int (8 : Int32)), .val (.int c1), .val (.int c2), .val (.ref b165), .val (.ref b182), .val (.long ww), .second, .val (.int (1 : Int32))] [(.int (1 : Int32)), (.int (1 : Int32))])) (fun τ κ => XS.iconst X194.here hx rfl (hb hby at_148) κ) ?_
    have hc196 : ¬ ((1 : Int32) < (1 : Int32)) := by decide
    refine Gl.st (g' := (mkF m 177 #[.val (.int x0), .val (.int x1), .val (.int x2), .val (.int x3), .val (.int x4), .val (.int (1 : Int32)), .val (.int (8 : Int32)), .val (.int c1), .val (.int c2), .val (.ref b165), .val (.ref b182), .val (.long ww), .second, .val (.int (1 : Int32))] [])) (fun τ κ => XS.icmpYes X194.here hx rfl (pc0 := 149) (pc' := 177) rfl (hb hby at_149) rfl (flt hc196).2.2.2 (by decide) (by decide) κ) ?_
    refine Gl.st (g' := (mkF m 179 #[.val (.int x0), .val (.int x1), .val (.int x2), .val (.int x3), .val (.int x4), .val (.int (1 : Int32)), .val (.int (8 : Int32)), .val (.int c1), .val (.int c2), .val (.ref b165), .val (.ref b182), .val (.long ww), .second, .val (.int (1 : Int32))] [(.int (1 : Int32))])) (fun τ κ => XS.iload X194.here hx rfl (hb hby at_177) rfl κ) ?_
    refine Gl.st (g' := (mkF m 180 #[.val (.int x0), .val (.int x1), .val (.int x2), .val (.int x3), .val (.int x4), .val (.int (1 : Int32)), .val (.int (8 : Int32)), .val (.int c1), .val (.int c2), .val (.ref b165), .val (.ref b182), .val (.long ww), .second, .val (.int (1 : Int32))] [(.int (2 : Int32)), (.int (1 : Int32))])) (fun τ κ => XS.iconst X194.here hx rfl (hb hby at_179) κ) ?_
    have hc197 : ¬ ((2 : Int32) < (1 : Int32)) := by decide
    refine Gl.st (g' := (mkF m 208 #[.val (.int x0), .val (.int x1), .val (.int x2), .val (.int x3), .val (.int x4), .val (.int (1 : Int32)), .val (.int (8 : Int32)), .val (.int c1), .val (.int c2), .val (.ref b165), .val (.ref b182), .val (.long ww), .second, .val (.int (1 : Int32))] [])) (fun τ κ => XS.icmpYes X194.here hx rfl (pc0 := 180) (pc' := 208) rfl (hb hby at_180) rfl (flt hc197).2.2.2 (by decide) (by decide) κ) ?_
    refine Gl.st (g' := (mkF m 210 #[.val (.int x0), .val (.int x1), .val (.int x2), .val (.int x3), .val (.int x4), .val (.int (1 : Int32)), .val (.int (8 : Int32)), .val (.int c1), .val (.int c2), .val (.ref b165), .val (.ref b182), .val (.long ww), .second, .val (.int (1 : Int32))] [(.int (1 : Int32))])) (fun τ κ => XS.iload X194.here hx rfl (hb hby at_208) rfl κ) ?_
    exact Gl.ret (v := some (.int (1 : Int32))) X194 Bd.notSynchronized (fun h => by rw [Bd.returns] at h; cases h) e194 (fun fs hr => retN X194 hx (t := .boolean) Bd.returns (by simp) (hb hby at_210) hr) (by decide) (by decide) ⟨rfl, N194⟩
  · rw [hs135]
    refine Gl.st (g' := (mkF m 5 #[.val (.int x0), .val (.int x1), .val (.int x2), .val (.int x3), .val (.int x4), .val (.int (2 : Int32)), .unset, .unset, .unset, .unset, .unset, .unset, .unset, .unset] [])) (fun τ κ => XS.istore X0.here hx rfl (hb hby at_3) rfl (l' := #[.val (.int x0), .val (.int x1), .val (.int x2), .val (.int x3), .val (.int x4), .val (.int (2 : Int32)), .unset, .unset, .unset, .unset, .unset, .unset, .unset, .unset]) rfl κ) ?_
    refine Gl.st (g' := (mkF m 7 #[.val (.int x0), .val (.int x1), .val (.int x2), .val (.int x3), .val (.int x4), .val (.int (2 : Int32)), .unset, .unset, .unset, .unset, .unset, .unset, .unset, .unset] [(.int (8 : Int32))])) (fun τ κ => XS.bipush X0.here hx rfl (hb hby at_5) κ) ?_
    refine Gl.st (g' := (mkF m 9 #[.val (.int x0), .val (.int x1), .val (.int x2), .val (.int x3), .val (.int x4), .val (.int (2 : Int32)), .unset, .unset, .unset, .unset, .unset, .unset, .unset, .unset] [(.int (2 : Int32)), (.int (8 : Int32))])) (fun τ κ => XS.iload X0.here hx rfl (hb hby at_7) rfl κ) ?_
    refine Gl.st (g' := (mkF m 10 #[.val (.int x0), .val (.int x1), .val (.int x2), .val (.int x3), .val (.int x4), .val (.int (2 : Int32)), .unset, .unset, .unset, .unset, .unset, .unset, .unset, .unset] [(.int (16 : Int32))])) (fun τ κ => XS.imul X0.here hx rfl (hb hby at_9) rfl κ) ?_
    refine Gl.st (g' := (mkF m 12 #[.val (.int x0), .val (.int x1), .val (.int x2), .val (.int x3), .val (.int x4), .val (.int (2 : Int32)), .val (.int (16 : Int32)), .unset, .unset, .unset, .unset, .unset, .unset, .unset] [])) (fun τ κ => XS.istore X0.here hx rfl (hb hby at_10) rfl (l' := #[.val (.int x0), .val (.int x1), .val (.int x2), .val (.int x3), .val (.int x4), .val (.int (2 : Int32)), .val (.int (16 : Int32)), .unset, .unset, .unset, .unset, .unset, .unset, .unset]) rfl κ) ?_
    refine Gl.st (g' := (mkF m 13 #[.val (.int x0), .val (.int x1), .val (.int x2), .val (.int x3), .val (.int x4), .val (.int (2 : Int32)), .val (.int (16 : Int32)), .unset, .unset, .unset, .unset, .unset, .unset, .unset] [(.int x1)])) (fun τ κ => XS.iloadN X0.here hx rfl (hb hby at_12) rfl κ) ?_
    refine Gl.st (g' := (mkF m 15 #[.val (.int x0), .val (.int x1), .val (.int x2), .val (.int x3), .val (.int x4), .val (.int (2 : Int32)), .val (.int (16 : Int32)), .unset, .unset, .unset, .unset, .unset, .unset, .unset] [(.int (2147483647 : Int32)), (.int x1)])) (fun τ κ => X0.ldcInt hx hown (mvT hZ (hw _ (List.mem_of_getElem? (i := 0) rfl))) (g := (mkF m 13 #[.val (.int x0), .val (.int x1), .val (.int x2), .val (.int x3), .val (.int x4), .val (.int (2 : Int32)), .val (.int (16 : Int32)), .unset, .unset, .unset, .unset, .unset, .unset, .unset] [(.int x1)])) rfl (hb hby at_13) _ κ) ?_
    refine Gl.st (g' := (mkF m 16 #[.val (.int x0), .val (.int x1), .val (.int x2), .val (.int x3), .val (.int x4), .val (.int (2 : Int32)), .val (.int (16 : Int32)), .unset, .unset, .unset, .unset, .unset, .unset, .unset] [(.int (x1 &&& (2147483647 : Int32)))])) (fun τ κ => XS.iand X0.here hx rfl (hb hby at_15) rfl κ) ?_
    refine Gl.st (g' := (mkF m 18 #[.val (.int x0), .val (.int x1), .val (.int x2), .val (.int x3), .val (.int x4), .val (.int (2 : Int32)), .val (.int (16 : Int32)), .unset, .unset, .unset, .unset, .unset, .unset, .unset] [(.int (16 : Int32)), (.int (x1 &&& (2147483647 : Int32)))])) (fun τ κ => XS.iload X0.here hx rfl (hb hby at_16) rfl κ) ?_
    refine Gl.st (g' := (mkF m 19 #[.val (.int x0), .val (.int x1), .val (.int x2), .val (.int x3), .val (.int x4), .val (.int (2 : Int32)), .val (.int (16 : Int32)), .unset, .unset, .unset, .unset, .unset, .unset, .unset] [(.int (1 : Int32)), (.int (16 : Int32)), (.int (x1 &&& (2147483647 : Int32)))])) (fun τ κ => XS.iconst X0.here hx rfl (hb hby at_18) κ) ?_
    refine Gl.st (g' := (mkF m 20 #[.val (.int x0), .val (.int x1), .val (.int x2), .val (.int x3), .val (.int x4), .val (.int (2 : Int32)), .val (.int (16 : Int32)), .unset, .unset, .unset, .unset, .unset, .unset, .unset] [(.int (17 : Int32)), (.int (x1 &&& (2147483647 : Int32)))])) (fun τ κ => XS.iadd X0.here hx rfl (hb hby at_19) rfl κ) ?_
    refine Gl.st (g' := (mkF m 21 #[.val (.int x0), .val (.int x1), .val (.int x2), .val (.int x3), .val (.int x4), .val (.int (2 : Int32)), .val (.int (16 : Int32)), .unset, .unset, .unset, .unset, .unset, .unset, .unset] [(.int ((x1 &&& (2147483647 : Int32)) % (17 : Int32)))])) (fun τ κ => iremM (g := (mkF m 20 #[.val (.int x0), .val (.int x1), .val (.int x2), .val (.int x3), .val (.int x4), .val (.int (2 : Int32)), .val (.int (16 : Int32)), .unset, .unset, .unset, .unset, .unset, .unset, .unset] [(.int (17 : Int32)), (.int (x1 &&& (2147483647 : Int32)))])) X0 hx rfl (hb hby at_20) rfl (by decide) κ) ?_
    obtain ⟨r1, hr1, hq1⟩ := own_c1 x1 (17 : Int32) (by decide)
    generalize ((x1 &&& (2147483647 : Int32)) % (17 : Int32)) = c1 at hr1 ⊢
    have hb1 : r1 ≤ 16 := by have q := hq1; rw [show ((17 : Int32)).toInt = 17 from rfl] at q; omega
    have hd : (((16 : Int32) - c1) + (1 : Int32)).toInt = 16 - r1 + 1 := by
      have e : ((16 : Int32) - c1).toInt = 16 - r1 := by rw [Jvm.Kit.i32_sub] <;> rw [hr1, show ((16 : Int32)).toInt = 16 from rfl] <;> omega
      rw [Jvm.Kit.i32_add] <;> rw [e, show (1 : Int32).toInt = 1 from rfl] <;> omega
    refine Gl.st (g' := (mkF m 23 #[.val (.int x0), .val (.int x1), .val (.int x2), .val (.int x3), .val (.int x4), .val (.int (2 : Int32)), .val (.int (16 : Int32)), .val (.int c1), .unset, .unset, .unset, .unset, .unset, .unset] [])) (fun τ κ => XS.istore X0.here hx rfl (hb hby at_21) rfl (l' := #[.val (.int x0), .val (.int x1), .val (.int x2), .val (.int x3), .val (.int x4), .val (.int (2 : Int32)), .val (.int (16 : Int32)), .val (.int c1), .unset, .unset, .unset, .unset, .unset, .unset]) rfl κ) ?_
    refine Gl.st (g' := (mkF m 24 #[.val (.int x0), .val (.int x1), .val (.int x2), .val (.int x3), .val (.int x4), .val (.int (2 : Int32)), .val (.int (16 : Int32)), .val (.int c1), .unset, .unset, .unset, .unset, .unset, .unset] [(.int x3)])) (fun τ κ => XS.iloadN X0.here hx rfl (hb hby at_23) rfl κ) ?_
    refine Gl.st (g' := (mkF m 26 #[.val (.int x0), .val (.int x1), .val (.int x2), .val (.int x3), .val (.int x4), .val (.int (2 : Int32)), .val (.int (16 : Int32)), .val (.int c1), .unset, .unset, .unset, .unset, .unset, .unset] [(.int (2147483647 : Int32)), (.int x3)])) (fun τ κ => X0.ldcInt hx hown (mvT hZ (hw _ (List.mem_of_getElem? (i := 0) rfl))) (g := (mkF m 24 #[.val (.int x0), .val (.int x1), .val (.int x2), .val (.int x3), .val (.int x4), .val (.int (2 : Int32)), .val (.int (16 : Int32)), .val (.int c1), .unset, .unset, .unset, .unset, .unset, .unset] [(.int x3)])) rfl (hb hby at_24) _ κ) ?_
    refine Gl.st (g' := (mkF m 27 #[.val (.int x0), .val (.int x1), .val (.int x2), .val (.int x3), .val (.int x4), .val (.int (2 : Int32)), .val (.int (16 : Int32)), .val (.int c1), .unset, .unset, .unset, .unset, .unset, .unset] [(.int (x3 &&& (2147483647 : Int32)))])) (fun τ κ => XS.iand X0.here hx rfl (hb hby at_26) rfl κ) ?_
    refine Gl.st (g' := (mkF m 29 #[.val (.int x0), .val (.int x1), .val (.int x2), .val (.int x3), .val (.int x4), .val (.int (2 : Int32)), .val (.int (16 : Int32)), .val (.int c1), .unset, .unset, .unset, .unset, .unset, .unset] [(.int (16 : Int32)), (.int (x3 &&& (2147483647 : Int32)))])) (fun τ κ => XS.iload X0.here hx rfl (hb hby at_27) rfl κ) ?_
    refine Gl.st (g' := (mkF m 31 #[.val (.int x0), .val (.int x1), .val (.int x2), .val (.int x3), .val (.int x4), .val (.int (2 : Int32)), .val (.int (16 : Int32)), .val (.int c1), .unset, .unset, .unset, .unset, .unset, .unset] [(.int c1), (.int (16 : Int32)), (.int (x3 &&& (2147483647 : Int32)))])) (fun τ κ => XS.iload X0.here hx rfl (hb hby at_29) rfl κ) ?_
    refine Gl.st (g' := (mkF m 32 #[.val (.int x0), .val (.int x1), .val (.int x2), .val (.int x3), .val (.int x4), .val (.int (2 : Int32)), .val (.int (16 : Int32)), .val (.int c1), .unset, .unset, .unset, .unset, .unset, .unset] [(.int ((16 : Int32) - c1)), (.int (x3 &&& (2147483647 : Int32)))])) (fun τ κ => XS.isub X0.here hx rfl (hb hby at_31) rfl κ) ?_
    refine Gl.st (g' := (mkF m 33 #[.val (.int x0), .val (.int x1), .val (.int x2), .val (.int x3), .val (.int x4), .val (.int (2 : Int32)), .val (.int (16 : Int32)), .val (.int c1), .unset, .unset, .unset, .unset, .unset, .unset] [(.int (1 : Int32)), (.int ((16 : Int32) - c1)), (.int (x3 &&& (2147483647 : Int32)))])) (fun τ κ => XS.iconst X0.here hx rfl (hb hby at_32) κ) ?_
    refine Gl.st (g' := (mkF m 34 #[.val (.int x0), .val (.int x1), .val (.int x2), .val (.int x3), .val (.int x4), .val (.int (2 : Int32)), .val (.int (16 : Int32)), .val (.int c1), .unset, .unset, .unset, .unset, .unset, .unset] [(.int (((16 : Int32) - c1) + (1 : Int32))), (.int (x3 &&& (2147483647 : Int32)))])) (fun τ κ => XS.iadd X0.here hx rfl (hb hby at_33) rfl κ) ?_
    refine Gl.st (g' := (mkF m 35 #[.val (.int x0), .val (.int x1), .val (.int x2), .val (.int x3), .val (.int x4), .val (.int (2 : Int32)), .val (.int (16 : Int32)), .val (.int c1), .unset, .unset, .unset, .unset, .unset, .unset] [(.int ((x3 &&& (2147483647 : Int32)) % (((16 : Int32) - c1) + (1 : Int32))))])) (fun τ κ => iremM (g := (mkF m 34 #[.val (.int x0), .val (.int x1), .val (.int x2), .val (.int x3), .val (.int x4), .val (.int (2 : Int32)), .val (.int (16 : Int32)), .val (.int c1), .unset, .unset, .unset, .unset, .unset, .unset] [(.int (((16 : Int32) - c1) + (1 : Int32))), (.int (x3 &&& (2147483647 : Int32)))])) X0 hx rfl (hb hby at_34) rfl (own_nz (by omega)) κ) ?_
    obtain ⟨r2, hr2, hq2⟩ := own_c1 x3 (((16 : Int32) - c1) + (1 : Int32)) (by omega)
    generalize ((x3 &&& (2147483647 : Int32)) % (((16 : Int32) - c1) + (1 : Int32))) = c2 at hr2 ⊢
    have hb2 : r1 + r2 ≤ 16 := by omega
    refine Gl.st (g' := (mkF m 37 #[.val (.int x0), .val (.int x1), .val (.int x2), .val (.int x3), .val (.int x4), .val (.int (2 : Int32)), .val (.int (16 : Int32)), .val (.int c1), .val (.int c2), .unset, .unset, .unset, .unset, .unset] [])) (fun τ κ => XS.istore X0.here hx rfl (hb hby at_35) rfl (l' := #[.val (.int x0), .val (.int x1), .val (.int x2), .val (.int x3), .val (.int x4), .val (.int (2 : Int32)), .val (.int (16 : Int32)), .val (.int c1), .val (.int c2), .unset, .unset, .unset, .unset, .unset]) rfl κ) ?_
    obtain ⟨T198, h198, X198, e198, E198, A198, D198, -, st198⟩ := newO X0 hx hZ hown (hw _ (List.mem_of_getElem? (i := 1) rfl)) (hw _ (List.mem_of_getElem? (i := 2) rfl)) (hw _ (List.mem_of_getElem? (i := 3) rfl)) e0 (g := (mkF m 37 #[.val (.int x0), .val (.int x1), .val (.int x2), .val (.int x3), .val (.int x4), .val (.int (2 : Int32)), .val (.int (16 : Int32)), .val (.int c1), .val (.int c2), .unset, .unset, .unset, .unset, .unset] [])) rfl (hb hby at_37) (by decide) (by decide)
    obtain ⟨b198, g198⟩ : ∃ z, z = h0.size := ⟨_, rfl⟩
    rw [← g198] at A198 D198 st198
    have g_b198 : n0 ≤ b198 := Nat.le_trans Z0 (Nat.le_of_eq g198.symm)
    have sz_b198 : h0.size ≤ b198 := Nat.le_trans (Keep.refl h0 []).1 (Nat.le_of_eq g198.symm)
    have Z198 : n0 ≤ h198.size := Nat.le_trans Z0 E198.1
    have K198 : Keep h0 h198 [] := (Keep.refl h0 []).ext E198
    have F_199 : Fld Z h198 b198 "com/example/quietzone/quietzone/BitWriter" "bytes" "[B" .null := D198 (Or.inr (hw _ (List.mem_of_getElem? (i := 12) rfl))) (ty := (.array .byte)) (by decide)
    have F_200 : Fld Z h198 b198 "com/example/quietzone/quietzone/BitWriter" "length" "I" (.int (0 : Int32)) := D198 (Or.inl (hw _ (List.mem_of_getElem? (i := 30) rfl))) (ty := .int) (by decide)
    refine Gl.st (g' := (mkF m 40 #[.val (.int x0), .val (.int x1), .val (.int x2), .val (.int x3), .val (.int x4), .val (.int (2 : Int32)), .val (.int (16 : Int32)), .val (.int c1), .val (.int c2), .unset, .unset, .unset, .unset, .unset] [(.ref b198)])) (fun τ κ => st198 _ κ) ?_
    refine Gl.st (g' := (mkF m 41 #[.val (.int x0), .val (.int x1), .val (.int x2), .val (.int x3), .val (.int x4), .val (.int (2 : Int32)), .val (.int (16 : Int32)), .val (.int c1), .val (.int c2), .unset, .unset, .unset, .unset, .unset] [(.ref b198), (.ref b198)])) (fun τ κ => XS.dup X198.here hx rfl (hb hby at_40) rfl rfl κ) ?_
    refine Gl.st (g' := (mkF m 43 #[.val (.int x0), .val (.int x1), .val (.int x2), .val (.int x3), .val (.int x4), .val (.int (2 : Int32)), .val (.int (16 : Int32)), .val (.int c1), .val (.int c2), .unset, .unset, .unset, .unset, .unset] [(.int (2 : Int32)), (.ref b198), (.ref b198)])) (fun τ κ => XS.iload X198.here hx rfl (hb hby at_41) rfl κ) ?_
    obtain ⟨rv201, _, ⟨T201, L201, k201, n201⟩, -, X201, ⟨Lc201, hQ201, l201, y201, z201⟩, st201⟩ := X198.specialBack hx (y := (⟨"com/example/quietzone/quietzone/BitWriter", "<init>", "(I)V"⟩ : MethodName)) rfl hown (mvT hZ (hw _ (List.mem_of_getElem? (i := 4) rfl))) (mvT hZ (hw _ (List.mem_of_getElem? (i := 5) rfl))) (mvT hZ (hw _ (List.mem_of_getElem? (i := 6) rfl))) (by decide) (backOf (W := 1) (rm1 l Z a0 hw [] b198 (2 : Int32) h198 n0 Z198 A198 g_b198 F_199 F_200 (by decide) (by decide)) hZ (hw _ (List.mem_of_getElem? (i := 6) rfl)) (hw _ (List.mem_of_getElem? (i := 3) rfl)) (by decide) (by decide)) (g := (mkF m 43 #[.val (.int x0), .val (.int x1), .val (.int x2), .val (.int x3), .val (.int x4), .val (.int (2 : Int32)), .val (.int (16 : Int32)), .val (.int c1), .val (.int c2), .unset, .unset, .unset, .unset, .unset] [(.int (2 : Int32)), (.ref b198), (.ref b198)])) rfl (by rw [hml]; rfl) (Steps.refl _) (a := b198) (argsL := [(.int (2 : Int32))]) (rest := [(.ref b198)]) (lenOf pd_0 rfl) rfl (by show 2 * 0 + _ ≤ _; exact Nat.le_of_eq rfl) (hb hby at_43) (fun _ _ => ⟨rfl, e198, (by decide : 1 + 1 ≤ _), (by decide : 2 + 3 ≤ _)⟩)
    dsimp only [Pt.U, Pt.locs, Pt.cells, Pt.slots] at X201 l201 y201 z201 st201 hQ201
    subst l201 y201 z201
    obtain ⟨t201, kk201, rfl, N201q, Kc201, Ec201, FB201, FL201, V201, s201⟩ := hQ201
    have ne_b198_t201 : b198 ≠ t201 := Nat.ne_of_lt (Nat.lt_of_lt_of_le A198.lt s201)
    have g_t201 : n0 ≤ t201 := Nat.le_trans Z198 s201
    have sz_t201 : h0.size ≤ t201 := Nat.le_trans K198.1 s201
    have E_202 := A198.keep Kc201
    have N201 := Fr.app N0 N201q
    have Z201 : n0 ≤ T201.heap.size := Nat.le_trans Z198 Kc201.1
    have K201 : Keep h0 T201.heap [] := K198.trans Kc201 (allS (Or.inr sz_b198) all0)
    refine Gl.st (g' := (mkF m 46 #[.val (.int x0), .val (.int x1), .val (.int x2), .val (.int x3), .val (.int x4), .val (.int (2 : Int32)), .val (.int (16 : Int32)), .val (.int c1), .val (.int c2), .unset, .unset, .unset, .unset, .unset] [(.ref b198)])) (fun τ κ => st201.trans κ) ?_
    refine Gl.st (g' := (mkF m 48 #[.val (.int x0), .val (.int x1), .val (.int x2), .val (.int x3), .val (.int x4), .val (.int (2 : Int32)), .val (.int (16 : Int32)), .val (.int c1), .val (.int c2), .val (.ref b198), .unset, .unset, .unset, .unset] [])) (fun τ κ => XS.astore X201.here hx rfl (hb hby at_46) rfl rfl (l' := #[.val (.int x0), .val (.int x1), .val (.int x2), .val (.int x3), .val (.int x4), .val (.int (2 : Int32)), .val (.int (16 : Int32)), .val (.int c1), .val (.int c2), .val (.ref b198), .unset, .unset, .unset, .unset]) rfl κ) ?_
    refine Gl.st (g' := (mkF m 50 #[.val (.int x0), .val (.int x1), .val (.int x2), .val (.int x3), .val (.int x4), .val (.int (2 : Int32)), .val (.int (16 : Int32)), .val (.int c1), .val (.int c2), .val (.ref b198), .unset, .unset, .unset, .unset] [(.ref b198)])) (fun τ κ => XS.aload X201.here hx rfl (hb hby at_48) rfl rfl κ) ?_
    refine Gl.st (g' := (mkF m 51 #[.val (.int x0), .val (.int x1), .val (.int x2), .val (.int x3), .val (.int x4), .val (.int (2 : Int32)), .val (.int (16 : Int32)), .val (.int c1), .val (.int c2), .val (.ref b198), .unset, .unset, .unset, .unset] [(.int x2), (.ref b198)])) (fun τ κ => XS.iloadN X201.here hx rfl (hb hby at_50) rfl κ) ?_
    refine Gl.st (g' := (mkF m 53 #[.val (.int x0), .val (.int x1), .val (.int x2), .val (.int x3), .val (.int x4), .val (.int (2 : Int32)), .val (.int (16 : Int32)), .val (.int c1), .val (.int c2), .val (.ref b198), .unset, .unset, .unset, .unset] [(.int c1), (.int x2), (.ref b198)])) (fun τ κ => XS.iload X201.here hx rfl (hb hby at_51) rfl κ) ?_
    obtain ⟨cq205, kq205, q205a, q205b, q205c⟩ := isOf hZ rfl Ec201
    obtain ⟨rv205, _, ⟨T205, L205, k205, n205⟩, -, X205, ⟨Lc205, hQ205, l205, y205, z205⟩, st205⟩ := X201.virtualBack hx (y := (⟨"com/example/quietzone/quietzone/BitWriter", "write", "(II)V"⟩ : MethodName)) (z := (⟨"com/example/quietzone/quietzone/BitWriter", "write", "(II)V"⟩ : MethodName)) hown (mvT hZ (hw _ (List.mem_of_getElem? (i := 13) rfl))) (mvT hZ (hw _ (List.mem_of_getElem? (i := 14) rfl))) (notFace_of_selects (args := #[]) (mvT hZ (hw _ (List.mem_of_getElem? (i := 16) rfl)))) (mvT hZ (hw _ (List.mem_of_getElem? (i := 16) rfl))) (mvT hZ (hw _ (List.mem_of_getElem? (i := 15) rfl))) (by decide) (backOf (W := 0) (rm3 l Z a0 hw [] b198 x2 c1 t201 kk201 (2 : Int32) (0 : Int32) 0 0 r1 T201.heap n0 Z201 Ec201 g_b198 g_t201 ne_b198_t201 FB201 FL201 V201 hr1 rfl (by have : ((2 : Int32)).toInt.toNat = 2 := rfl; omega) (by decide) (by decide) (by decide)) hZ (hw _ (List.mem_of_getElem? (i := 17) rfl)) (hw _ (List.mem_of_getElem? (i := 3) rfl)) (by decide) (by decide)) q205a q205c (g := (mkF m 53 #[.val (.int x0), .val (.int x1), .val (.int x2), .val (.int x3), .val (.int x4), .val (.int (2 : Int32)), .val (.int (16 : Int32)), .val (.int c1), .val (.int c2), .val (.ref b198), .unset, .unset, .unset, .unset] [(.int c1), (.int x2), (.ref b198)])) rfl (by rw [hml]; rfl) (Steps.refl _) (argsL := [(.int x2), (.int c1)]) (rest := []) (lenOf pd_1 rfl) rfl (by show 2 * 0 + _ ≤ _; exact Nat.le_of_eq rfl) (hb hby at_53) (fun _ _ => ⟨rfl, rfl, (by decide : 2 + 0 ≤ _), (by decide : 5 + 0 ≤ _)⟩)
    dsimp only [Pt.U, Pt.locs, Pt.cells, Pt.slots] at X205 l205 y205 z205 st205 hQ205
    subst l205 y205 z205
    obtain ⟨rfl, N205q, Kc205, Ec205, FB205, ⟨lv205, hl205, FL205⟩, V205⟩ := hQ205
    have E_206 := Ec201.keep Kc205
    have N205 := Fr.app N201 N205q
    have Z205 : n0 ≤ T205.heap.size := Nat.le_trans Z201 Kc205.1
    have K205 : Keep h0 T205.heap [] := K201.trans Kc205 (allS (Or.inr sz_b198) (allS (Or.inr sz_t201) all0))
    refine Gl.st (g' := (mkF m 56 #[.val (.int x0), .val (.int x1), .val (.int x2), .val (.int x3), .val (.int x4), .val (.int (2 : Int32)), .val (.int (16 : Int32)), .val (.int c1), .val (.int c2), .val (.ref b198), .unset, .unset, .unset, .unset] [])) (fun τ κ => st205.trans κ) ?_
    have hM1 : (0 + (own_u x2 % 2 ^ r1) * 2 ^ (24 - 0 - r1)) < 16777216 := by
      have := (own_word (a := x2) (b := x4) hr1 hr2 (by omega)).2; omega
    have hZ1 : (0 + (own_u x2 % 2 ^ r1) * 2 ^ (24 - 0 - r1)) % 2 ^ (24 - (0 + r1)) = 0 := by rw [Nat.zero_add, Nat.zero_add, Nat.sub_zero]; exact Nat.mul_mod_left _ _
    refine Gl.st (g' := (mkF m 58 #[.val (.int x0), .val (.int x1), .val (.int x2), .val (.int x3), .val (.int x4), .val (.int (2 : Int32)), .val (.int (16 : Int32)), .val (.int c1), .val (.int c2), .val (.ref b198), .unset, .unset, .unset, .unset] [(.ref b198)])) (fun τ κ => XS.aload X205.here hx rfl (hb hby at_56) rfl rfl κ) ?_
    refine Gl.st (g' := (mkF m 60 #[.val (.int x0), .val (.int x1), .val (.int x2), .val (.int x3), .val (.int x4), .val (.int (2 : Int32)), .val (.int (16 : Int32)), .val (.int c1), .val (.int c2), .val (.ref b198), .unset, .unset, .unset, .unset] [(.int x4), (.ref b198)])) (fun τ κ => XS.iload X205.here hx rfl (hb hby at_58) rfl κ) ?_
    refine Gl.st (g' := (mkF m 62 #[.val (.int x0), .val (.int x1), .val (.int x2), .val (.int x3), .val (.int x4), .val (.int (2 : Int32)), .val (.int (16 : Int32)), .val (.int c1), .val (.int c2), .val (.ref b198), .unset, .unset, .unset, .unset] [(.int c2), (.int x4), (.ref b198)])) (fun τ κ => XS.iload X205.here hx rfl (hb hby at_60) rfl κ) ?_
    obtain ⟨cq210, kq210, q210a, q210b, q210c⟩ := isOf hZ rfl Ec205
    obtain ⟨rv210, _, ⟨T210, L210, k210, n210⟩, -, X210, ⟨Lc210, hQ210, l210, y210, z210⟩, st210⟩ := X205.virtualBack hx (y := (⟨"com/example/quietzone/quietzone/BitWriter", "write", "(II)V"⟩ : MethodName)) (z := (⟨"com/example/quietzone/quietzone/BitWriter", "write", "(II)V"⟩ : MethodName)) hown (mvT hZ (hw _ (List.mem_of_getElem? (i := 13) rfl))) (mvT hZ (hw _ (List.mem_of_getElem? (i := 14) rfl))) (notFace_of_selects (args := #[]) (mvT hZ (hw _ (List.mem_of_getElem? (i := 16) rfl)))) (mvT hZ (hw _ (List.mem_of_getElem? (i := 16) rfl))) (mvT hZ (hw _ (List.mem_of_getElem? (i := 15) rfl))) (by decide) (backOf (W := 0) (rm3 l Z a0 hw [] b198 x4 c2 t201 kk201 (2 : Int32) lv205 (0 + (own_u x2 % 2 ^ r1) * 2 ^ (24 - 0 - r1)) (0 + r1) r2 T205.heap n0 Z205 Ec205 g_b198 g_t201 ne_b198_t201 FB205 FL205 V205 hr2 hl205 (by have : ((2 : Int32)).toInt.toNat = 2 := rfl; omega) (by decide) hM1 hZ1) hZ (hw _ (List.mem_of_getElem? (i := 17) rfl)) (hw _ (List.mem_of_getElem? (i := 3) rfl)) (by decide) (by decide)) q210a q210c (g := (mkF m 62 #[.val (.int x0), .val (.int x1), .val (.int x2), .val (.int x3), .val (.int x4), .val (.int (2 : Int32)), .val (.int (16 : Int32)), .val (.int c1), .val (.int c2), .val (.ref b198), .unset, .unset, .unset, .unset] [(.int c2), (.int x4), (.ref b198)])) rfl (by rw [hml]; rfl) (Steps.refl _) (argsL := [(.int x4), (.int c2)]) (rest := []) (lenOf pd_1 rfl) rfl (by show 2 * 0 + _ ≤ _; exact Nat.le_of_eq rfl) (hb hby at_62) (fun _ _ => ⟨rfl, rfl, (by decide : 2 + 0 ≤ _), (by decide : 5 + 0 ≤ _)⟩)
    dsimp only [Pt.U, Pt.locs, Pt.cells, Pt.slots] at X210 l210 y210 z210 st210 hQ210
    subst l210 y210 z210
    obtain ⟨rfl, N210q, Kc210, Ec210, FB210, ⟨lv210, hl210, FL210⟩, V210⟩ := hQ210
    have E_211 := Ec205.keep Kc210
    have N210 := Fr.app N205 N210q
    have Z210 : n0 ≤ T210.heap.size := Nat.le_trans Z205 Kc210.1
    have K210 : Keep h0 T210.heap [] := K205.trans Kc210 (allS (Or.inr sz_b198) (allS (Or.inr sz_t201) all0))
    refine Gl.st (g' := (mkF m 65 #[.val (.int x0), .val (.int x1), .val (.int x2), .val (.int x3), .val (.int x4), .val (.int (2 : Int32)), .val (.int (16 : Int32)), .val (.int c1), .val (.int c2), .val (.ref b198), .unset, .unset, .unset, .unset] [])) (fun τ κ => st210.trans κ) ?_
    refine Gl.st (g' := (mkF m 67 #[.val (.int x0), .val (.int x1), .val (.int x2), .val (.int x3), .val (.int x4), .val (.int (2 : Int32)), .val (.int (16 : Int32)), .val (.int c1), .val (.int c2), .val (.ref b198), .unset, .unset, .unset, .unset] [(.ref b198)])) (fun τ κ => XS.aload X210.here hx rfl (hb hby at_65) rfl rfl κ) ?_
    obtain ⟨cq215, kq215, q215a, q215b, q215c⟩ := isOf hZ rfl Ec210
    obtain ⟨rv215, _, ⟨T215, L215, k215, n215⟩, -, X215, ⟨Lc215, hQ215, l215, y215, z215⟩, st215⟩ := X210.virtualBack hx (y := (⟨"com/example/quietzone/quietzone/BitWriter", "toUnsignedBytes", "()[I"⟩ : MethodName)) (z := (⟨"com/example/quietzone/quietzone/BitWriter", "toUnsignedBytes", "()[I"⟩ : MethodName)) hown (mvT hZ (hw _ (List.mem_of_getElem? (i := 18) rfl))) (mvT hZ (hw _ (List.mem_of_getElem? (i := 19) rfl))) (notFace_of_selects (args := #[]) (mvT hZ (hw _ (List.mem_of_getElem? (i := 21) rfl)))) (mvT hZ (hw _ (List.mem_of_getElem? (i := 21) rfl))) (mvT hZ (hw _ (List.mem_of_getElem? (i := 20) rfl))) (by decide) (backOf (W := 0) (rm_tu2 l Z a0 hw [] b198 t201 kk201 ((0 + (own_u x2 % 2 ^ r1) * 2 ^ (24 - 0 - r1)) + (own_u x4 % 2 ^ r2) * 2 ^ (24 - (0 + r1) - r2)) T210.heap n0 Z210 FB210 V210) hZ (hw _ (List.mem_of_getElem? (i := 22) rfl)) (hw _ (List.mem_of_getElem? (i := 3) rfl)) (by decide) (by decide)) q215a q215c (g := (mkF m 67 #[.val (.int x0), .val (.int x1), .val (.int x2), .val (.int x3), .val (.int x4), .val (.int (2 : Int32)), .val (.int (16 : Int32)), .val (.int c1), .val (.int c2), .val (.ref b198), .unset, .unset, .unset, .unset] [(.ref b198)])) rfl (by rw [hml]; rfl) (Steps.refl _) (argsL := []) (rest := []) (lenOf pd_2 rfl) rfl (by show 2 * 0 + _ ≤ _; exact Nat.le_of_eq rfl) (hb hby at_67) (fun _ _ => ⟨rfl, rfl, (by decide : 2 + 1 ≤ _), (by decide : 5 + 2 ≤ _)⟩)
    dsimp only [Pt.U, Pt.locs, Pt.cells, Pt.slots] at X215 l215 y215 z215 st215 hQ215
    subst l215 y215 z215
    obtain ⟨b215, kk215, rfl, N215q, Kc215, s215, V215⟩ := hQ215
    have ne_b198_b215 : b198 ≠ b215 := Nat.ne_of_lt (Nat.lt_of_lt_of_le Ec210.lt s215)
    have ne_t201_b215 : t201 ≠ b215 := Nat.ne_of_lt (Nat.lt_of_lt_of_le V210.lt s215)
    have g_b215 : n0 ≤ b215 := Nat.le_trans Z210 s215
    have sz_b215 : h0.size ≤ b215 := Nat.le_trans K210.1 s215
    have E_216 := Ec210.keep Kc215
    have F_217 := FB210.keep Kc215 nin0
    have F_218 := FL210.keep Kc215 nin0
    have V_219 := V210.keep Kc215 nin0
    have N215 := Fr.app N210 N215q
    have Z215 : n0 ≤ T215.heap.size := Nat.le_trans Z210 Kc215.1
    have K215 : Keep h0 T215.heap [] := K210.trans Kc215 all0
    refine Gl.st (g' := (mkF m 70 #[.val (.int x0), .val (.int x1), .val (.int x2), .val (.int x3), .val (.int x4), .val (.int (2 : Int32)), .val (.int (16 : Int32)), .val (.int c1), .val (.int c2), .val (.ref b198), .unset, .unset, .unset, .unset] [(.ref b215)])) (fun τ κ => st215.trans κ) ?_
    refine Gl.st (g' := (mkF m 72 #[.val (.int x0), .val (.int x1), .val (.int x2), .val (.int x3), .val (.int x4), .val (.int (2 : Int32)), .val (.int (16 : Int32)), .val (.int c1), .val (.int c2), .val (.ref b198), .val (.ref b215), .unset, .unset, .unset] [])) (fun τ κ => XS.astore X215.here hx rfl (hb hby at_70) rfl rfl (l' := #[.val (.int x0), .val (.int x1), .val (.int x2), .val (.int x3), .val (.int x4), .val (.int (2 : Int32)), .val (.int (16 : Int32)), .val (.int c1), .val (.int c2), .val (.ref b198), .val (.ref b215), .unset, .unset, .unset]) rfl κ) ?_
    refine Gl.st (g' := (mkF m 73 #[.val (.int x0), .val (.int x1), .val (.int x2), .val (.int x3), .val (.int x4), .val (.int (2 : Int32)), .val (.int (16 : Int32)), .val (.int c1), .val (.int c2), .val (.ref b198), .val (.ref b215), .unset, .unset, .unset] [(.int x2)])) (fun τ κ => XS.iloadN X215.here hx rfl (hb hby at_72) rfl κ) ?_
    refine Gl.st (g' := (mkF m 75 #[.val (.int x0), .val (.int x1), .val (.int x2), .val (.int x3), .val (.int x4), .val (.int (2 : Int32)), .val (.int (16 : Int32)), .val (.int c1), .val (.int c2), .val (.ref b198), .val (.ref b215), .unset, .unset, .unset] [(.int c1), (.int x2)])) (fun τ κ => XS.iload X215.here hx rfl (hb hby at_73) rfl κ) ?_
    obtain ⟨rv220, _, ⟨T220, L220, k220, n220⟩, -, X220, ⟨Lc220, hQ220, l220, y220, z220⟩, st220⟩ := Jvm.LawKit.callS X215 hx (y := (⟨"com/example/quietzone/quietzone/BitWriterToUnsignedBytesPinLaw", "low", "(II)J"⟩ : MethodName)) hown (mvT hZ (hw _ (List.mem_of_getElem? (i := 24) rfl))) (mvT hZ (hw _ (List.mem_of_getElem? (i := 25) rfl))) (mvT hZ (hw _ (List.mem_of_getElem? (i := 26) rfl))) (mvT hZ (hw _ (List.mem_of_getElem? (i := 27) rfl))) (by decide) (backOf (W := 0) (rm5 l Z a0 hw [] x2 c1 T215.heap n0 Z215 ) hZ (hw _ (List.mem_of_getElem? (i := 27) rfl)) (hw _ (List.mem_of_getElem? (i := 26) rfl)) (by decide) (by decide)) (g := (mkF m 75 #[.val (.int x0), .val (.int x1), .val (.int x2), .val (.int x3), .val (.int x4), .val (.int (2 : Int32)), .val (.int (16 : Int32)), .val (.int c1), .val (.int c2), .val (.ref b198), .val (.ref b215), .unset, .unset, .unset] [(.int c1), (.int x2)])) rfl (by rw [hml]; rfl) (argsL := [(.int x2), (.int c1)]) (rest := []) (lenOf pd_3 rfl) rfl (by show 2 * 0 + _ ≤ _; exact Nat.le_of_eq rfl) (hb hby at_75) (fun _ _ => ⟨rfl, rfl, (by decide : 3 + 0 ≤ _), (by decide : 7 + 0 ≤ _)⟩)
    dsimp only [Pt.U, Pt.locs, Pt.cells, Pt.slots] at X220 l220 y220 z220 st220 hQ220
    subst l220 y220 z220
    obtain ⟨rfl, N220q, e220⟩ := hQ220
    have N220 := Fr.app N215 N220q
    refine Gl.st (g' := (mkF m 78 #[.val (.int x0), .val (.int x1), .val (.int x2), .val (.int x3), .val (.int x4), .val (.int (2 : Int32)), .val (.int (16 : Int32)), .val (.int c1), .val (.int c2), .val (.ref b198), .val (.ref b215), .unset, .unset, .unset] [(.long (own_low x2 c1))])) (fun τ κ => st220 _ κ) ?_
    refine Gl.st (g' := (mkF m 80 #[.val (.int x0), .val (.int x1), .val (.int x2), .val (.int x3), .val (.int x4), .val (.int (2 : Int32)), .val (.int (16 : Int32)), .val (.int c1), .val (.int c2), .val (.ref b198), .val (.ref b215), .unset, .unset, .unset] [(.int (24 : Int32)), (.long (own_low x2 c1))])) (fun τ κ => XS.bipush X220.here hx rfl (hb hby at_78) κ) ?_
    refine Gl.st (g' := (mkF m 82 #[.val (.int x0), .val (.int x1), .val (.int x2), .val (.int x3), .val (.int x4), .val (.int (2 : Int32)), .val (.int (16 : Int32)), .val (.int c1), .val (.int c2), .val (.ref b198), .val (.ref b215), .unset, .unset, .unset] [(.int c1), (.int (24 : Int32)), (.long (own_low x2 c1))])) (fun τ κ => XS.iload X220.here hx rfl (hb hby at_80) rfl κ) ?_
    refine Gl.st (g' := (mkF m 83 #[.val (.int x0), .val (.int x1), .val (.int x2), .val (.int x3), .val (.int x4), .val (.int (2 : Int32)), .val (.int (16 : Int32)), .val (.int c1), .val (.int c2), .val (.ref b198), .val (.ref b215), .unset, .unset, .unset] [(.int ((24 : Int32) - c1)), (.long (own_low x2 c1))])) (fun τ κ => XS.isub X220.here hx rfl (hb hby at_82) rfl κ) ?_
    refine Gl.st (g' := (mkF m 84 #[.val (.int x0), .val (.int x1), .val (.int x2), .val (.int x3), .val (.int x4), .val (.int (2 : Int32)), .val (.int (16 : Int32)), .val (.int c1), .val (.int c2), .val (.ref b198), .val (.ref b215), .unset, .unset, .unset] [(.long ((own_low x2 c1) <<< (((24 : Int32) - c1) &&& 0x3f).toInt64))])) (fun τ κ => XS.lshl X220.here hx rfl (hb hby at_83) rfl κ) ?_
    refine Gl.st (g' := (mkF m 86 #[.val (.int x0), .val (.int x1), .val (.int x2), .val (.int x3), .val (.int x4), .val (.int (2 : Int32)), .val (.int (16 : Int32)), .val (.int c1), .val (.int c2), .val (.ref b198), .val (.ref b215), .unset, .unset, .unset] [(.int x4), (.long ((own_low x2 c1) <<< (((24 : Int32) - c1) &&& 0x3f).toInt64))])) (fun τ κ => XS.iload X220.here hx rfl (hb hby at_84) rfl κ) ?_
    refine Gl.st (g' := (mkF m 88 #[.val (.int x0), .val (.int x1), .val (.int x2), .val (.int x3), .val (.int x4), .val (.int (2 : Int32)), .val (.int (16 : Int32)), .val (.int c1), .val (.int c2), .val (.ref b198), .val (.ref b215), .unset, .unset, .unset] [(.int c2), (.int x4), (.long ((own_low x2 c1) <<< (((24 : Int32) - c1) &&& 0x3f).toInt64))])) (fun τ κ => XS.iload X220.here hx rfl (hb hby at_86) rfl κ) ?_
    obtain ⟨rv221, _, ⟨T221, L221, k221, n221⟩, -, X221, ⟨Lc221, hQ221, l221, y221, z221⟩, st221⟩ := Jvm.LawKit.callS X220 hx (y := (⟨"com/example/quietzone/quietzone/BitWriterToUnsignedBytesPinLaw", "low", "(II)J"⟩ : MethodName)) hown (mvT hZ (hw _ (List.mem_of_getElem? (i := 24) rfl))) (mvT hZ (hw _ (List.mem_of_getElem? (i := 25) rfl))) (mvT hZ (hw _ (List.mem_of_getElem? (i := 26) rfl))) (mvT hZ (hw _ (List.mem_of_getElem? (i := 27) rfl))) (by decide) (backOf (W := 2) (rm5 l Z a0 hw [] x4 c2 T215.heap n0 Z215 ) hZ (hw _ (List.mem_of_getElem? (i := 27) rfl)) (hw _ (List.mem_of_getElem? (i := 26) rfl)) (by decide) (by decide)) (g := (mkF m 88 #[.val (.int x0), .val (.int x1), .val (.int x2), .val (.int x3), .val (.int x4), .val (.int (2 : Int32)), .val (.int (16 : Int32)), .val (.int c1), .val (.int c2), .val (.ref b198), .val (.ref b215), .unset, .unset, .unset] [(.int c2), (.int x4), (.long ((own_low x2 c1) <<< (((24 : Int32) - c1) &&& 0x3f).toInt64))])) rfl (by rw [hml]; rfl) (argsL := [(.int x4), (.int c2)]) (rest := [(.long ((own_low x2 c1) <<< (((24 : Int32) - c1) &&& 0x3f).toInt64))]) (lenOf pd_3 rfl) rfl (by show 2 * 0 + _ ≤ _; exact Nat.le_of_eq rfl) (hb hby at_88) (fun _ _ => ⟨rfl, e220, (by decide : 3 + 0 ≤ _), (by decide : 7 + 0 ≤ _)⟩)
    dsimp only [Pt.U, Pt.locs, Pt.cells, Pt.slots] at X221 l221 y221 z221 st221 hQ221
    subst l221 y221 z221
    obtain ⟨rfl, N221q, e221⟩ := hQ221
    have N221 := Fr.app N220 N221q
    refine Gl.st (g' := (mkF m 91 #[.val (.int x0), .val (.int x1), .val (.int x2), .val (.int x3), .val (.int x4), .val (.int (2 : Int32)), .val (.int (16 : Int32)), .val (.int c1), .val (.int c2), .val (.ref b198), .val (.ref b215), .unset, .unset, .unset] [(.long (own_low x4 c2)), (.long ((own_low x2 c1) <<< (((24 : Int32) - c1) &&& 0x3f).toInt64))])) (fun τ κ => st221 _ κ) ?_
    refine Gl.st (g' := (mkF m 93 #[.val (.int x0), .val (.int x1), .val (.int x2), .val (.int x3), .val (.int x4), .val (.int (2 : Int32)), .val (.int (16 : Int32)), .val (.int c1), .val (.int c2), .val (.ref b198), .val (.ref b215), .unset, .unset, .unset] [(.int (24 : Int32)), (.long (own_low x4 c2)), (.long ((own_low x2 c1) <<< (((24 : Int32) - c1) &&& 0x3f).toInt64))])) (fun τ κ => XS.bipush X221.here hx rfl (hb hby at_91) κ) ?_
    refine Gl.st (g' := (mkF m 95 #[.val (.int x0), .val (.int x1), .val (.int x2), .val (.int x3), .val (.int x4), .val (.int (2 : Int32)), .val (.int (16 : Int32)), .val (.int c1), .val (.int c2), .val (.ref b198), .val (.ref b215), .unset, .unset, .unset] [(.int c1), (.int (24 : Int32)), (.long (own_low x4 c2)), (.long ((own_low x2 c1) <<< (((24 : Int32) - c1) &&& 0x3f).toInt64))])) (fun τ κ => XS.iload X221.here hx rfl (hb hby at_93) rfl κ) ?_
    refine Gl.st (g' := (mkF m 96 #[.val (.int x0), .val (.int x1), .val (.int x2), .val (.int x3), .val (.int x4), .val (.int (2 : Int32)), .val (.int (16 : Int32)), .val (.int c1), .val (.int c2), .val (.ref b198), .val (.ref b215), .unset, .unset, .unset] [(.int ((24 : Int32) - c1)), (.long (own_low x4 c2)), (.long ((own_low x2 c1) <<< (((24 : Int32) - c1) &&& 0x3f).toInt64))])) (fun τ κ => XS.isub X221.here hx rfl (hb hby at_95) rfl κ) ?_
    refine Gl.st (g' := (mkF m 98 #[.val (.int x0), .val (.int x1), .val (.int x2), .val (.int x3), .val (.int x4), .val (.int (2 : Int32)), .val (.int (16 : Int32)), .val (.int c1), .val (.int c2), .val (.ref b198), .val (.ref b215), .unset, .unset, .unset] [(.int c2), (.int ((24 : Int32) - c1)), (.long (own_low x4 c2)), (.long ((own_low x2 c1) <<< (((24 : Int32) - c1) &&& 0x3f).toInt64))])) (fun τ κ => XS.iload X221.here hx rfl (hb hby at_96) rfl κ) ?_
    refine Gl.st (g' := (mkF m 99 #[.val (.int x0), .val (.int x1), .val (.int x2), .val (.int x3), .val (.int x4), .val (.int (2 : Int32)), .val (.int (16 : Int32)), .val (.int c1), .val (.int c2), .val (.ref b198), .val (.ref b215), .unset, .unset, .unset] [(.int (((24 : Int32) - c1) - c2)), (.long (own_low x4 c2)), (.long ((own_low x2 c1) <<< (((24 : Int32) - c1) &&& 0x3f).toInt64))])) (fun τ κ => XS.isub X221.here hx rfl (hb hby at_98) rfl κ) ?_
    refine Gl.st (g' := (mkF m 100 #[.val (.int x0), .val (.int x1), .val (.int x2), .val (.int x3), .val (.int x4), .val (.int (2 : Int32)), .val (.int (16 : Int32)), .val (.int c1), .val (.int c2), .val (.ref b198), .val (.ref b215), .unset, .unset, .unset] [(.long ((own_low x4 c2) <<< ((((24 : Int32) - c1) - c2) &&& 0x3f).toInt64)), (.long ((own_low x2 c1) <<< (((24 : Int32) - c1) &&& 0x3f).toInt64))])) (fun τ κ => XS.lshl X221.here hx rfl (hb hby at_99) rfl κ) ?_
    refine Gl.st (g' := (mkF m 101 #[.val (.int x0), .val (.int x1), .val (.int x2), .val (.int x3), .val (.int x4), .val (.int (2 : Int32)), .val (.int (16 : Int32)), .val (.int c1), .val (.int c2), .val (.ref b198), .val (.ref b215), .unset, .unset, .unset] [(.long (((own_low x2 c1) <<< (((24 : Int32) - c1) &&& 0x3f).toInt64) ||| ((own_low x4 c2) <<< ((((24 : Int32) - c1) - c2) &&& 0x3f).toInt64)))])) (fun τ κ => XS.lor X221.here hx rfl (hb hby at_100) rfl κ) ?_
    have hW := own_word (a := x2) (b := x4) hr1 hr2 (by omega)
    generalize hww : (((own_low x2 c1) <<< (((24 : Int32) - c1) &&& 0x3f).toInt64) ||| ((own_low x4 c2) <<< ((((24 : Int32) - c1) - c2) &&& 0x3f).toInt64)) = ww at hW ⊢
    have hC := own_cmp hW.1 hW.2
    refine Gl.st (g' := (mkF m 103 #[.val (.int x0), .val (.int x1), .val (.int x2), .val (.int x3), .val (.int x4), .val (.int (2 : Int32)), .val (.int (16 : Int32)), .val (.int c1), .val (.int c2), .val (.ref b198), .val (.ref b215), .val (.long ww), .second, .unset] [])) (fun τ κ => XS.lstore X221.here hx rfl (hb hby at_101) rfl (l' := #[.val (.int x0), .val (.int x1), .val (.int x2), .val (.int x3), .val (.int x4), .val (.int (2 : Int32)), .val (.int (16 : Int32)), .val (.int c1), .val (.int c2), .val (.ref b198), .val (.ref b215), .val (.long ww), .second, .unset]) rfl κ) ?_
    refine Gl.st (g' := (mkF m 105 #[.val (.int x0), .val (.int x1), .val (.int x2), .val (.int x3), .val (.int x4), .val (.int (2 : Int32)), .val (.int (16 : Int32)), .val (.int c1), .val (.int c2), .val (.ref b198), .val (.ref b215), .val (.long ww), .second, .unset] [(.ref b215)])) (fun τ κ => XS.aload X221.here hx rfl (hb hby at_103) rfl rfl κ) ?_
    obtain ⟨cl_o222, Ar_o222, q_o222, S_o222, M_o222, H_o222, G_o222⟩ := id V215
    refine Gl.st (g' := (mkF m 106 #[.val (.int x0), .val (.int x1), .val (.int x2), .val (.int x3), .val (.int x4), .val (.int (2 : Int32)), .val (.int (16 : Int32)), .val (.int c1), .val (.int c2), .val (.ref b198), .val (.ref b215), .val (.long ww), .second, .unset] [(.int (2 : Int32))])) (fun τ κ => X221.arraylength hx (by rw [e221]; exact Ar_o222.1) (State.isArrayOf_alike hZ.alike Ar_o222.2.1) (g := (mkF m 105 #[.val (.int x0), .val (.int x1), .val (.int x2), .val (.int x3), .val (.int x4), .val (.int (2 : Int32)), .val (.int (16 : Int32)), .val (.int c1), .val (.int c2), .val (.ref b198), .val (.ref b215), .val (.long ww), .second, .unset] [(.ref b215)])) rfl rfl (hb hby at_105) _ (by rw [len_of S_o222 M_o222]; exact κ)) ?_
    refine Gl.st (g' := (mkF m 108 #[.val (.int x0), .val (.int x1), .val (.int x2), .val (.int x3), .val (.int x4), .val (.int (2 : Int32)), .val (.int (16 : Int32)), .val (.int c1), .val (.int c2), .val (.ref b198), .val (.ref b215), .val (.long ww), .second, .unset] [(.int (2 : Int32)), (.int (2 : Int32))])) (fun τ κ => XS.iload X221.here hx rfl (hb hby at_106) rfl κ) ?_
    have hc223 : (2 : Int32) = (2 : Int32) := by decide
    refine Gl.st (g' := (mkF m 113 #[.val (.int x0), .val (.int x1), .val (.int x2), .val (.int x3), .val (.int x4), .val (.int (2 : Int32)), .val (.int (16 : Int32)), .val (.int c1), .val (.int c2), .val (.ref b198), .val (.ref b215), .val (.long ww), .second, .unset] [])) (fun τ κ => XS.icmpYes X221.here hx rfl (pc0 := 108) (pc' := 113) rfl (hb hby at_108) rfl (teq hc223).1 (by decide) (by decide) κ) ?_
    refine Gl.st (g' := (mkF m 114 #[.val (.int x0), .val (.int x1), .val (.int x2), .val (.int x3), .val (.int x4), .val (.int (2 : Int32)), .val (.int (16 : Int32)), .val (.int c1), .val (.int c2), .val (.ref b198), .val (.ref b215), .val (.long ww), .second, .unset] [(.int (1 : Int32))])) (fun τ κ => XS.iconst X221.here hx rfl (hb hby at_113) κ) ?_
    refine Gl.st (g' := (mkF m 116 #[.val (.int x0), .val (.int x1), .val (.int x2), .val (.int x3), .val (.int x4), .val (.int (2 : Int32)), .val (.int (16 : Int32)), .val (.int c1), .val (.int c2), .val (.ref b198), .val (.ref b215), .val (.long ww), .second, .val (.int (1 : Int32))] [])) (fun τ κ => XS.istore X221.here hx rfl (hb hby at_114) rfl (l' := #[.val (.int x0), .val (.int x1), .val (.int x2), .val (.int x3), .val (.int x4), .val (.int (2 : Int32)), .val (.int (16 : Int32)), .val (.int c1), .val (.int c2), .val (.ref b198), .val (.ref b215), .val (.long ww), .second, .val (.int (1 : Int32))]) rfl κ) ?_
    refine Gl.st (g' := (mkF m 118 #[.val (.int x0), .val (.int x1), .val (.int x2), .val (.int x3), .val (.int x4), .val (.int (2 : Int32)), .val (.int (16 : Int32)), .val (.int c1), .val (.int c2), .val (.ref b198), .val (.ref b215), .val (.long ww), .second, .val (.int (1 : Int32))] [(.int (2 : Int32))])) (fun τ κ => XS.iload X221.here hx rfl (hb hby at_116) rfl κ) ?_
    have hc224 : (0 : Int32) < (2 : Int32) := by decide
    refine Gl.st (g' := (mkF m 121 #[.val (.int x0), .val (.int x1), .val (.int x2), .val (.int x3), .val (.int x4), .val (.int (2 : Int32)), .val (.int (16 : Int32)), .val (.int c1), .val (.int c2), .val (.ref b198), .val (.ref b215), .val (.long ww), .second, .val (.int (1 : Int32))] [])) (fun τ κ => XS.ifNo X221.here hx rfl (hb hby at_118) rfl ((if0 _ _).trans (tlt hc224).2.2.2) κ) ?_
    refine Gl.st (g' := (mkF m 123 #[.val (.int x0), .val (.int x1), .val (.int x2), .val (.int x3), .val (.int x4), .val (.int (2 : Int32)), .val (.int (16 : Int32)), .val (.int c1), .val (.int c2), .val (.ref b198), .val (.ref b215), .val (.long ww), .second, .val (.int (1 : Int32))] [(.int (1 : Int32))])) (fun τ κ => XS.iload X221.here hx rfl (hb hby at_121) rfl κ) ?_
    have hc225 : ¬ ((1 : Int32) = (0 : Int32)) := by decide
    refine Gl.st (g' := (mkF m 126 #[.val (.int x0), .val (.int x1), .val (.int x2), .val (.int x3), .val (.int x4), .val (.int (2 : Int32)), .val (.int (16 : Int32)), .val (.int c1), .val (.int c2), .val (.ref b198), .val (.ref b215), .val (.long ww), .second, .val (.int (1 : Int32))] [])) (fun τ κ => XS.ifNo X221.here hx rfl (hb hby at_123) rfl ((if0 _ _).trans (feq hc225).1) κ) ?_
    refine Gl.st (g' := (mkF m 128 #[.val (.int x0), .val (.int x1), .val (.int x2), .val (.int x3), .val (.int x4), .val (.int (2 : Int32)), .val (.int (16 : Int32)), .val (.int c1), .val (.int c2), .val (.ref b198), .val (.ref b215), .val (.long ww), .second, .val (.int (1 : Int32))] [(.ref b215)])) (fun τ κ => XS.aload X221.here hx rfl (hb hby at_126) rfl rfl κ) ?_
    refine Gl.st (g' := (mkF m 129 #[.val (.int x0), .val (.int x1), .val (.int x2), .val (.int x3), .val (.int x4), .val (.int (2 : Int32)), .val (.int (16 : Int32)), .val (.int c1), .val (.int c2), .val (.ref b198), .val (.ref b215), .val (.long ww), .second, .val (.int (1 : Int32))] [(.int (0 : Int32)), (.ref b215)])) (fun τ κ => XS.iconst X221.here hx rfl (hb hby at_128) κ) ?_
    obtain ⟨cl_o226, Ar_o226, q_o226, S_o226, M_o226, H_o226, G_o226⟩ := id V215
    have hin_o226 : ¬ ((0 : Int32) < 0 ∨ cl_o226.slots.size ≤ ((0 : Int32)).toNatClampNeg) := inb_of S_o226 ⟨by decide, by decide⟩
    refine Gl.st (g' := (mkF m 130 #[.val (.int x0), .val (.int x1), .val (.int x2), .val (.int x3), .val (.int x4), .val (.int (2 : Int32)), .val (.int (16 : Int32)), .val (.int c1), .val (.int c2), .val (.ref b198), .val (.ref b215), .val (.long ww), .second, .val (.int (1 : Int32))] [(.int (own_by ((0 + (own_u x2 % 2 ^ r1) * 2 ^ (24 - 0 - r1)) + (own_u x4 % 2 ^ r2) * 2 ^ (24 - (0 + r1) - r2)) 0 &&& (255 : Int32)))])) (fun τ κ => X221.iaload hx (j := (0 : Int32)) (v := (.int (own_by ((0 + (own_u x2 % 2 ^ r1) * 2 ^ (24 - 0 - r1)) + (own_u x4 % 2 ^ r2) * 2 ^ (24 - (0 + r1) - r2)) 0 &&& (255 : Int32)))) (by rw [e221]; exact Ar_o226.1) (State.isArrayOf_alike hZ.alike Ar_o226.2.1) Ar_o226.2.2 hin_o226 (H_o226 0 (by rw [S_o226]; decide)) (g := (mkF m 129 #[.val (.int x0), .val (.int x1), .val (.int x2), .val (.int x3), .val (.int x4), .val (.int (2 : Int32)), .val (.int (16 : Int32)), .val (.int c1), .val (.int c2), .val (.ref b198), .val (.ref b215), .val (.long ww), .second, .val (.int (1 : Int32))] [(.int (0 : Int32)), (.ref b215)])) rfl rfl (hb hby at_129) _ κ) ?_
    refine Gl.st (g' := (mkF m 132 #[.val (.int x0), .val (.int x1), .val (.int x2), .val (.int x3), .val (.int x4), .val (.int (2 : Int32)), .val (.int (16 : Int32)), .val (.int c1), .val (.int c2), .val (.ref b198), .val (.ref b215), .val (.long ww), .second, .val (.int (1 : Int32))] [(.long ww), (.int (own_by ((0 + (own_u x2 % 2 ^ r1) * 2 ^ (24 - 0 - r1)) + (own_u x4 % 2 ^ r2) * 2 ^ (24 - (0 + r1) - r2)) 0 &&& (255 : Int32)))])) (fun τ κ => XS.lload X221.here hx rfl (hb hby at_130) rfl κ) ?_
    refine Gl.st (g' := (mkF m 133 #[.val (.int x0), .val (.int x1), .val (.int x2), .val (.int x3), .val (.int x4), .val (.int (2 : Int32)), .val (.int (16 : Int32)), .val (.int c1), .val (.int c2), .val (.ref b198), .val (.ref b215), .val (.long ww), .second, .val (.int (1 : Int32))] [(.int (0 : Int32)), (.long ww), (.int (own_by ((0 + (own_u x2 % 2 ^ r1) * 2 ^ (24 - 0 - r1)) + (own_u x4 % 2 ^ r2) * 2 ^ (24 - (0 + r1) - r2)) 0 &&& (255 : Int32)))])) (fun τ κ => XS.iconst X221.here hx rfl (hb hby at_132) κ) ?_
    obtain ⟨rv227, _, ⟨T227, L227, k227, n227⟩, -, X227, ⟨Lc227, hQ227, l227, y227, z227⟩, st227⟩ := Jvm.LawKit.callS X221 hx (y := (⟨"com/example/quietzone/quietzone/BitWriterToUnsignedBytesPinLaw", "expectedByte", "(JI)I"⟩ : MethodName)) hown (mvT hZ (hw _ (List.mem_of_getElem? (i := 31) rfl))) (mvT hZ (hw _ (List.mem_of_getElem? (i := 32) rfl))) (mvT hZ (hw _ (List.mem_of_getElem? (i := 26) rfl))) (mvT hZ (hw _ (List.mem_of_getElem? (i := 33) rfl))) (by decide) (backOf (W := 1) (rm6 l Z a0 hw [] ww (0 : Int32) T215.heap n0 Z215 ) hZ (hw _ (List.mem_of_getElem? (i := 33) rfl)) (hw _ (List.mem_of_getElem? (i := 26) rfl)) (by decide) (by decide)) (g := (mkF m 133 #[.val (.int x0), .val (.int x1), .val (.int x2), .val (.int x3), .val (.int x4), .val (.int (2 : Int32)), .val (.int (16 : Int32)), .val (.int c1), .val (.int c2), .val (.ref b198), .val (.ref b215), .val (.long ww), .second, .val (.int (1 : Int32))] [(.int (0 : Int32)), (.long ww), (.int (own_by ((0 + (own_u x2 % 2 ^ r1) * 2 ^ (24 - 0 - r1)) + (own_u x4 % 2 ^ r2) * 2 ^ (24 - (0 + r1) - r2)) 0 &&& (255 : Int32)))])) rfl (by rw [hml]; rfl) (argsL := [(.long ww), (.int (0 : Int32))]) (rest := [(.int (own_by ((0 + (own_u x2 % 2 ^ r1) * 2 ^ (24 - 0 - r1)) + (own_u x4 % 2 ^ r2) * 2 ^ (24 - (0 + r1) - r2)) 0 &&& (255 : Int32)))]) (lenOf pd_4 rfl) rfl (by show 2 * 0 + _ ≤ _; exact Nat.le_of_eq rfl) (hb hby at_133) (fun _ _ => ⟨rfl, e221, (by decide : 3 + 0 ≤ _), (by decide : 7 + 0 ≤ _)⟩)
    dsimp only [Pt.U, Pt.locs, Pt.cells, Pt.slots] at X227 l227 y227 z227 st227 hQ227
    subst l227 y227 z227
    obtain ⟨rfl, N227q, e227⟩ := hQ227
    have N227 := Fr.app N221 N227q
    refine Gl.st (g' := (mkF m 136 #[.val (.int x0), .val (.int x1), .val (.int x2), .val (.int x3), .val (.int x4), .val (.int (2 : Int32)), .val (.int (16 : Int32)), .val (.int c1), .val (.int c2), .val (.ref b198), .val (.ref b215), .val (.long ww), .second, .val (.int (1 : Int32))] [(.int (own_eb ww (0 : Int32))), (.int (own_by ((0 + (own_u x2 % 2 ^ r1) * 2 ^ (24 - 0 - r1)) + (own_u x4 % 2 ^ r2) * 2 ^ (24 - (0 + r1) - r2)) 0 &&& (255 : Int32)))])) (fun τ κ => st227 _ κ) ?_
    have hc228 : (own_by ((0 + (own_u x2 % 2 ^ r1) * 2 ^ (24 - 0 - r1)) + (own_u x4 % 2 ^ r2) * 2 ^ (24 - (0 + r1) - r2)) 0 &&& (255 : Int32)) = (own_eb ww (0 : Int32)) := hC.1
    refine Gl.st (g' := (mkF m 139 #[.val (.int x0), .val (.int x1), .val (.int x2), .val (.int x3), .val (.int x4), .val (.int (2 : Int32)), .val (.int (16 : Int32)), .val (.int c1), .val (.int c2), .val (.ref b198), .val (.ref b215), .val (.long ww), .second, .val (.int (1 : Int32))] [])) (fun τ κ => XS.icmpNo X227.here hx rfl (hb hby at_136) rfl (teq hc228).2 κ) ?_
    refine Gl.st (g' := (mkF m 140 #[.val (.int x0), .val (.int x1), .val (.int x2), .val (.int x3), .val (.int x4), .val (.int (2 : Int32)), .val (.int (16 : Int32)), .val (.int c1), .val (.int c2), .val (.ref b198), .val (.ref b215), .val (.long ww), .second, .val (.int (1 : Int32))] [(.int (1 : Int32))])) (fun τ κ => XS.iconst X227.here hx rfl (hb hby at_139) κ) ?_
    refine Gl.st (g' := (mkF m 144 #[.val (.int x0), .val (.int x1), .val (.int x2), .val (.int x3), .val (.int x4), .val (.int (2 : Int32)), .val (.int (16 : Int32)), .val (.int c1), .val (.int c2), .val (.ref b198), .val (.ref b215), .val (.long ww), .second, .val (.int (1 : Int32))] [(.int (1 : Int32))])) (fun τ κ => XS.goto X227.here hx rfl (pc0 := 140) (pc' := 144) rfl (hb hby at_140) (by decide) (by decide) κ) ?_
    refine Gl.st (g' := (mkF m 146 #[.val (.int x0), .val (.int x1), .val (.int x2), .val (.int x3), .val (.int x4), .val (.int (2 : Int32)), .val (.int (16 : Int32)), .val (.int c1), .val (.int c2), .val (.ref b198), .val (.ref b215), .val (.long ww), .second, .val (.int (1 : Int32))] [])) (fun τ κ => XS.istore X227.here hx rfl (hb hby at_144) rfl (l' := #[.val (.int x0), .val (.int x1), .val (.int x2), .val (.int x3), .val (.int x4), .val (.int (2 : Int32)), .val (.int (16 : Int32)), .val (.int c1), .val (.int c2), .val (.ref b198), .val (.ref b215), .val (.long ww), .second, .val (.int (1 : Int32))]) rfl κ) ?_
    refine Gl.st (g' := (mkF m 148 #[.val (.int x0), .val (.int x1), .val (.int x2), .val (.int x3), .val (.int x4), .val (.int (2 : Int32)), .val (.int (16 : Int32)), .val (.int c1), .val (.int c2), .val (.ref b198), .val (.ref b215), .val (.long ww), .second, .val (.int (1 : Int32))] [(.int (2 : Int32))])) (fun τ κ => XS.iload X227.here hx rfl (hb hby at_146) rfl κ) ?_
    refine Gl.st (g' := (mkF m 149 #[.val (.int x0), .val (.int x1), .val (.int x2), .val (.int x3), .val (.int x4), .val (.int (2 : Int32)), .val (.int (16 : Int32)), .val (.int c1), .val (.int c2), .val (.ref b198), .val (.ref b215), .val (.long ww), .second, .val (.int (1 : Int32))] [(.int (1 : Int32)), (.int (2 : Int32))])) (fun τ κ => XS.iconst X227.here hx rfl (hb hby at_148) κ) ?_
    have hc229 : (1 : Int32) < (2 : Int32) := by decide
    refine Gl.st (g' := (mkF m 152 #[.val (.int x0), .val (.int x1), .val (.int x2), .val (.int x3), .val (.int x4), .val (.int (2 : Int32)), .val (.int (16 : Int32)), .val (.int c1), .val (.int c2), .val (.ref b198), .val (.ref b215), .val (.long ww), .second, .val (.int (1 : Int32))] [])) (fun τ κ => XS.icmpNo X227.here hx rfl (hb hby at_149) rfl (tlt hc229).2.2.2 κ) ?_
    refine Gl.st (g' := (mkF m 154 #[.val (.int x0), .val (.int x1), .val (.int x2), .val (.int x3), .val (.int x4), .val (.int (2 : Int32)), .val (.int (16 : Int32)), .val (.int c1), .val (.int c2), .val (.ref b198), .val (.ref b215), .val (.long ww), .second, .val (.int (1 : Int32))] [(.int (1 : Int32))])) (fun τ κ => XS.iload X227.here hx rfl (hb hby at_152) rfl κ) ?_
    have hc230 : ¬ ((1 : Int32) = (0 : Int32)) := by decide
    refine Gl.st (g' := (mkF m 157 #[.val (.int x0), .val (.int x1), .val (.int x2), .val (.int x3), .val (.int x4), .val (.int (2 : Int32)), .val (.int (16 : Int32)), .val (.int c1), .val (.int c2), .val (.ref b198), .val (.ref b215), .val (.long ww), .second, .val (.int (1 : Int32))] [])) (fun τ κ => XS.ifNo X227.here hx rfl (hb hby at_154) rfl ((if0 _ _).trans (feq hc230).1) κ) ?_
    refine Gl.st (g' := (mkF m 159 #[.val (.int x0), .val (.int x1), .val (.int x2), .val (.int x3), .val (.int x4), .val (.int (2 : Int32)), .val (.int (16 : Int32)), .val (.int c1), .val (.int c2), .val (.ref b198), .val (.ref b215), .val (.long ww), .second, .val (.int (1 : Int32))] [(.ref b215)])) (fun τ κ => XS.aload X227.here hx rfl (hb hby at_157) rfl rfl κ) ?_
    refine Gl.st (g' := (mkF m 160 #[.val (.int x0), .val (.int x1), .val (.int x2), .val (.int x3), .val (.int x4), .val (.int (2 : Int32)), .val (.int (16 : Int32)), .val (.int c1), .val (.int c2), .val (.ref b198), .val (.ref b215), .val (.long ww), .second, .val (.int (1 : Int32))] [(.int (1 : Int32)), (.ref b215)])) (fun τ κ => XS.iconst X227.here hx rfl (hb hby at_159) κ) ?_
    obtain ⟨cl_o231, Ar_o231, q_o231, S_o231, M_o231, H_o231, G_o231⟩ := id V215
    have hin_o231 : ¬ ((1 : Int32) < 0 ∨ cl_o231.slots.size ≤ ((1 : Int32)).toNatClampNeg) := inb_of S_o231 ⟨by decide, by decide⟩
    refine Gl.st (g' := (mkF m 161 #[.val (.int x0), .val (.int x1), .val (.int x2), .val (.int x3), .val (.int x4), .val (.int (2 : Int32)), .val (.int (16 : Int32)), .val (.int c1), .val (.int c2), .val (.ref b198), .val (.ref b215), .val (.long ww), .second, .val (.int (1 : Int32))] [(.int (own_by ((0 + (own_u x2 % 2 ^ r1) * 2 ^ (24 - 0 - r1)) + (own_u x4 % 2 ^ r2) * 2 ^ (24 - (0 + r1) - r2)) 1 &&& (255 : Int32)))])) (fun τ κ => X227.iaload hx (j := (1 : Int32)) (v := (.int (own_by ((0 + (own_u x2 % 2 ^ r1) * 2 ^ (24 - 0 - r1)) + (own_u x4 % 2 ^ r2) * 2 ^ (24 - (0 + r1) - r2)) 1 &&& (255 : Int32)))) (by rw [e227]; exact Ar_o231.1) (State.isArrayOf_alike hZ.alike Ar_o231.2.1) Ar_o231.2.2 hin_o231 (H_o231 1 (by rw [S_o231]; decide)) (g := (mkF m 160 #[.val (.int x0), .val (.int x1), .val (.int x2), .val (.int x3), .val (.int x4), .val (.int (2 : Int32)), .val (.int (16 : Int32)), .val (.int c1), .val (.int c2), .val (.ref b198), .val (.ref b215), .val (.long ww), .second, .val (.int (1 : Int32))] [(.int (1 : Int32)), (.ref b215)])) rfl rfl (hb hby at_160) _ κ) ?_
    refine Gl.st (g' := (mkF m 163 #[.val (.int x0), .val (.int x1), .val (.int x2), .val (.int x3), .val (.int x4), .val (.int (2 : Int32)), .val (.int (16 : Int32)), .val (.int c1), .val (.int c2), .val (.ref b198), .val (.ref b215), .val (.long ww), .second, .val (.int (1 : Int32))] [(.long ww), (.int (own_by ((0 + (own_u x2 % 2 ^ r1) * 2 ^ (24 - 0 - r1)) + (own_u x4 % 2 ^ r2) * 2 ^ (24 - (0 + r1) - r2)) 1 &&& (255 : Int32)))])) (fun τ κ => XS.lload X227.here hx rfl (hb hby at_161) rfl κ) ?_
    refine Gl.st (g' := (mkF m 164 #[.val (.int x0), .val (.int x1), .val (.int x2), .val (.int x3), .val (.int x4), .val (.int (2 : Int32)), .val (.int (16 : Int32)), .val (.int c1), .val (.int c2), .val (.ref b198), .val (.ref b215), .val (.long ww), .second, .val (.int (1 : Int32))] [(.int (1 : Int32)), (.long ww), (.int (own_by ((0 + (own_u x2 % 2 ^ r1) * 2 ^ (24 - 0 - r1)) + (own_u x4 % 2 ^ r2) * 2 ^ (24 - (0 + r1) - r2)) 1 &&& (255 : Int32)))])) (fun τ κ => XS.iconst X227.here hx rfl (hb hby at_163) κ) ?_
    obtain ⟨rv232, _, ⟨T232, L232, k232, n232⟩, -, X232, ⟨Lc232, hQ232, l232, y232, z232⟩, st232⟩ := Jvm.LawKit.callS X227 hx (y := (⟨"com/example/quietzone/quietzone/BitWriterToUnsignedBytesPinLaw", "expectedByte", "(JI)I"⟩ : MethodName)) hown (mvT hZ (hw _ (List.mem_of_getElem? (i := 31) rfl))) (mvT hZ (hw _ (List.mem_of_getElem? (i := 32) rfl))) (mvT hZ (hw _ (List.mem_of_getElem? (i := 26) rfl))) (mvT hZ (hw _ (List.mem_of_getElem? (i := 33) rfl))) (by decide) (backOf (W := 1) (rm6 l Z a0 hw [] ww (1 : Int32) T215.heap n0 Z215 ) hZ (hw _ (List.mem_of_getElem? (i := 33) rfl)) (hw _ (List.mem_of_getElem? (i := 26) rfl)) (by decide) (by decide)) (g := (mkF m 164 #[.val (.int x0), .val (.int x1), .val (.int x2), .val (.int x3), .val (.int x4), .val (.int (2 : Int32)), .val (.int (16 : Int32)), .val (.int c1), .val (.int c2), .val (.ref b198), .val (.ref b215), .val (.long ww), .second, .val (.int (1 : Int32))] [(.int (1 : Int32)), (.long ww), (.int (own_by ((0 + (own_u x2 % 2 ^ r1) * 2 ^ (24 - 0 - r1)) + (own_u x4 % 2 ^ r2) * 2 ^ (24 - (0 + r1) - r2)) 1 &&& (255 : Int32)))])) rfl (by rw [hml]; rfl) (argsL := [(.long ww), (.int (1 : Int32))]) (rest := [(.int (own_by ((0 + (own_u x2 % 2 ^ r1) * 2 ^ (24 - 0 - r1)) + (own_u x4 % 2 ^ r2) * 2 ^ (24 - (0 + r1) - r2)) 1 &&& (255 : Int32)))]) (lenOf pd_4 rfl) rfl (by show 2 * 0 + _ ≤ _; exact Nat.le_of_eq rfl) (hb hby at_164) (fun _ _ => ⟨rfl, e227, (by decide : 3 + 0 ≤ _), (by decide : 7 + 0 ≤ _)⟩)
    dsimp only [Pt.U, Pt.locs, Pt.cells, Pt.slots] at X232 l232 y232 z232 st232 hQ232
    subst l232 y232 z232
    obtain ⟨rfl, N232q, e232⟩ := hQ232
    have N232 := Fr.app N227 N232q
    refine Gl.st (g' := (mkF m 167 #[.val (.int x0), .val (.int x1), .val (.int x2), .val (.int x3), .val (.int x4), .val (.int (2 : Int32)), .val (.int (16 : Int32)), .val (.int c1), .val (.int c2), .val (.ref b198), .val (.ref b215), .val (.long ww), .second, .val (.int (1 : Int32))] [(.int (own_eb ww (1 : Int32))), (.int (own_by ((0 + (own_u x2 % 2 ^ r1) * 2 ^ (24 - 0 - r1)) + (own_u x4 % 2 ^ r2) * 2 ^ (24 - (0 + r1) - r2)) 1 &&& (255 : Int32)))])) (fun τ κ => st232 _ κ) ?_
    have hc233 : (own_by ((0 + (own_u x2 % 2 ^ r1) * 2 ^ (24 - 0 - r1)) + (own_u x4 % 2 ^ r2) * 2 ^ (24 - (0 + r1) - r2)) 1 &&& (255 : Int32)) = (own_eb ww (1 : Int32)) := hC.2.1
    refine Gl.st (g' := (mkF m 170 #[.val (.int x0), .val (.int x1), .val (.int x2), .val (.int x3), .val (.int x4), .val (.int (2 : Int32)), .val (.int (16 : Int32)), .val (.int c1), .val (.int c2), .val (.ref b198), .val (.ref b215), .val (.long ww), .second, .val (.int (1 : Int32))] [])) (fun τ κ => XS.icmpNo X232.here hx rfl (hb hby at_167) rfl (teq hc233).2 κ) ?_
    refine Gl.st (g' := (mkF m 171 #[.val (.int x0), .val (.int x1), .val (.int x2), .val (.int x3), .val (.int x4), .val (.int (2 : Int32)), .val (.int (16 : Int32)), .val (.int c1), .val (.int c2), .val (.ref b198), .val (.ref b215), .val (.long ww), .second, .val (.int (1 : Int32))] [(.int (1 : Int32))])) (fun τ κ => XS.iconst X232.here hx rfl (hb hby at_170) κ) ?_
    refine Gl.st (g' := (mkF m 175 #[.val (.int x0), .val (.int x1), .val (.int x2), .val (.int x3), .val (.int x4), .val (.int (2 : Int32)), .val (.int (16 : Int32)), .val (.int c1), .val (.int c2), .val (.ref b198), .val (.ref b215), .val (.long ww), .second, .val (.int (1 : Int32))] [(.int (1 : Int32))])) (fun τ κ => XS.goto X232.here hx rfl (pc0 := 171) (pc' := 175) rfl (hb hby at_171) (by decide) (by decide) κ) ?_
    refine Gl.st (g' := (mkF m 177 #[.val (.int x0), .val (.int x1), .val (.int x2), .val (.int x3), .val (.int x4), .val (.int (2 : Int32)), .val (.int (16 : Int32)), .val (.int c1), .val (.int c2), .val (.ref b198), .val (.ref b215), .val (.long ww), .second, .val (.int (1 : Int32))] [])) (fun τ κ => XS.istore X232.here hx rfl (hb hby at_175) rfl (l' := #[.val (.int x0), .val (.int x1), .val (.int x2), .val (.int x3), .val (.int x4), .val (.int (2 : Int32)), .val (.int (16 : Int32)), .val (.int c1), .val (.int c2), .val (.ref b198), .val (.ref b215), .val (.long ww), .second, .val (.int (1 : Int32))]) rfl κ) ?_
    refine Gl.st (g' := (mkF m 179 #[.val (.int x0), .val (.int x1), .val (.int x2), .val (.int x3), .val (.int x4), .val (.int (2 : Int32)), .val (.int (16 : Int32)), .val (.int c1), .val (.int c2), .val (.ref b198), .val (.ref b215), .val (.long ww), .second, .val (.int (1 : Int32))] [(.int (2 : Int32))])) (fun τ κ => XS.iload X232.here hx rfl (hb hby at_177) rfl κ) ?_
    refine Gl.st (g' := (mkF m 180 #[.val (.int x0), .val (.int x1), .val (.int x2), .val (.int x3), .val (.int x4), .val (.int (2 : Int32)), .val (.int (16 : Int32)), .val (.int c1), .val (.int c2), .val (.ref b198), .val (.ref b215), .val (.long ww), .second, .val (.int (1 : Int32))] [(.int (2 : Int32)), (.int (2 : Int32))])) (fun τ κ => XS.iconst X232.here hx rfl (hb hby at_179) κ) ?_
    have hc234 : ¬ ((2 : Int32) < (2 : Int32)) := by decide
    refine Gl.st (g' := (mkF m 208 #[.val (.int x0), .val (.int x1), .val (.int x2), .val (.int x3), .val (.int x4), .val (.int (2 : Int32)), .val (.int (16 : Int32)), .val (.int c1), .val (.int c2), .val (.ref b198), .val (.ref b215), .val (.long ww), .second, .val (.int (1 : Int32))] [])) (fun τ κ => XS.icmpYes X232.here hx rfl (pc0 := 180) (pc' := 208) rfl (hb hby at_180) rfl (flt hc234).2.2.2 (by decide) (by decide) κ) ?_
    refine Gl.st (g' := (mkF m 210 #[.val (.int x0), .val (.int x1), .val (.int x2), .val (.int x3), .val (.int x4), .val (.int (2 : Int32)), .val (.int (16 : Int32)), .val (.int c1), .val (.int c2), .val (.ref b198), .val (.ref b215), .val (.long ww), .second, .val (.int (1 : Int32))] [(.int (1 : Int32))])) (fun τ κ => XS.iload X232.here hx rfl (hb hby at_208) rfl κ) ?_
    exact Gl.ret (v := some (.int (1 : Int32))) X232 Bd.notSynchronized (fun h => by rw [Bd.returns] at h; cases h) e232 (fun fs hr => retN X232 hx (t := .boolean) Bd.returns (by simp) (hb hby at_210) hr) (by decide) (by decide) ⟨rfl, N232⟩
  · rw [hs135]
    refine Gl.st (g' := (mkF m 5 #[.val (.int x0), .val (.int x1), .val (.int x2), .val (.int x3), .val (.int x4), .val (.int (3 : Int32)), .unset, .unset, .unset, .unset, .unset, .unset, .unset, .unset] [])) (fun τ κ => XS.istore X0.here hx rfl (hb hby at_3) rfl (l' := #[.val (.int x0), .val (.int x1), .val (.int x2), .val (.int x3), .val (.int x4), .val (.int (3 : Int32)), .unset, .unset, .unset, .unset, .unset, .unset, .unset, .unset]) rfl κ) ?_
    refine Gl.st (g' := (mkF m 7 #[.val (.int x0), .val (.int x1), .val (.int x2), .val (.int x3), .val (.int x4), .val (.int (3 : Int32)), .unset, .unset, .unset, .unset, .unset, .unset, .unset, .unset] [(.int (8 : Int32))])) (fun τ κ => XS.bipush X0.here hx rfl (hb hby at_5) κ) ?_
    refine Gl.st (g' := (mkF m 9 #[.val (.int x0), .val (.int x1), .val (.int x2), .val (.int x3), .val (.int x4), .val (.int (3 : Int32)), .unset, .unset, .unset, .unset, .unset, .unset, .unset, .unset] [(.int (3 : Int32)), (.int (8 : Int32))])) (fun τ κ => XS.iload X0.here hx rfl (hb hby at_7) rfl κ) ?_
    refine Gl.st (g' := (mkF m 10 #[.val (.int x0), .val (.int x1), .val (.int x2), .val (.int x3), .val (.int x4), .val (.int (3 : Int32)), .unset, .unset, .unset, .unset, .unset, .unset, .unset, .unset] [(.int (24 : Int32))])) (fun τ κ => XS.imul X0.here hx rfl (hb hby at_9) rfl κ) ?_
    refine Gl.st (g' := (mkF m 12 #[.val (.int x0), .val (.int x1), .val (.int x2), .val (.int x3), .val (.int x4), .val (.int (3 : Int32)), .val (.int (24 : Int32)), .unset, .unset, .unset, .unset, .unset, .unset, .unset] [])) (fun τ κ => XS.istore X0.here hx rfl (hb hby at_10) rfl (l' := #[.val (.int x0), .val (.int x1), .val (.int x2), .val (.int x3), .val (.int x4), .val (.int (3 : Int32)), .val (.int (24 : Int32)), .unset, .unset, .unset, .unset, .unset, .unset, .unset]) rfl κ) ?_
    refine Gl.st (g' := (mkF m 13 #[.val (.int x0), .val (.int x1), .val (.int x2), .val (.int x3), .val (.int x4), .val (.int (3 : Int32)), .val (.int (24 : Int32)), .unset, .unset, .unset, .unset, .unset, .unset, .unset] [(.int x1)])) (fun τ κ => XS.iloadN X0.here hx rfl (hb hby at_12) rfl κ) ?_
    refine Gl.st (g' := (mkF m 15 #[.val (.int x0), .val (.int x1), .val (.int x2), .val (.int x3), .val (.int x4), .val (.int (3 : Int32)), .val (.int (24 : Int32)), .unset, .unset, .unset, .unset, .unset, .unset, .unset] [(.int (2147483647 : Int32)), (.int x1)])) (fun τ κ => X0.ldcInt hx hown (mvT hZ (hw _ (List.mem_of_getElem? (i := 0) rfl))) (g := (mkF m 13 #[.val (.int x0), .val (.int x1), .val (.int x2), .val (.int x3), .val (.int x4), .val (.int (3 : Int32)), .val (.int (24 : Int32)), .unset, .unset, .unset, .unset, .unset, .unset, .unset] [(.int x1)])) rfl (hb hby at_13) _ κ) ?_
    refine Gl.st (g' := (mkF m 16 #[.val (.int x0), .val (.int x1), .val (.int x2), .val (.int x3), .val (.int x4), .val (.int (3 : Int32)), .val (.int (24 : Int32)), .unset, .unset, .unset, .unset, .unset, .unset, .unset] [(.int (x1 &&& (2147483647 : Int32)))])) (fun τ κ => XS.iand X0.here hx rfl (hb hby at_15) rfl κ) ?_
    refine Gl.st (g' := (mkF m 18 #[.val (.int x0), .val (.int x1), .val (.int x2), .val (.int x3), .val (.int x4), .val (.int (3 : Int32)), .val (.int (24 : Int32)), .unset, .unset, .unset, .unset, .unset, .unset, .unset] [(.int (24 : Int32)), (.int (x1 &&& (2147483647 : Int32)))])) (fun τ κ => XS.iload X0.here hx rfl (hb hby at_16) rfl κ) ?_
    refine Gl.st (g' := (mkF m 19 #[.val (.int x0), .val (.int x1), .val (.int x2), .val (.int x3), .val (.int x4), .val (.int (3 : Int32)), .val (.int (24 : Int32)), .unset, .unset, .unset, .unset, .unset, .unset, .unset] [(.int (1 : Int32)), (.int (24 : Int32)), (.int (x1 &&& (2147483647 : Int32)))])) (fun τ κ => XS.iconst X0.here hx rfl (hb hby at_18) κ) ?_
    refine Gl.st (g' := (mkF m 20 #[.val (.int x0), .val (.int x1), .val (.int x2), .val (.int x3), .val (.int x4), .val (.int (3 : Int32)), .val (.int (24 : Int32)), .unset, .unset, .unset, .unset, .unset, .unset, .unset] [(.int (25 : Int32)), (.int (x1 &&& (2147483647 : Int32)))])) (fun τ κ => XS.iadd X0.here hx rfl (hb hby at_19) rfl κ) ?_
    refine Gl.st (g' := (mkF m 21 #[.val (.int x0), .val (.int x1), .val (.int x2), .val (.int x3), .val (.int x4), .val (.int (3 : Int32)), .val (.int (24 : Int32)), .unset, .unset, .unset, .unset, .unset, .unset, .unset] [(.int ((x1 &&& (2147483647 : Int32)) % (25 : Int32)))])) (fun τ κ => iremM (g := (mkF m 20 #[.val (.int x0), .val (.int x1), .val (.int x2), .val (.int x3), .val (.int x4), .val (.int (3 : Int32)), .val (.int (24 : Int32)), .unset, .unset, .unset, .unset, .unset, .unset, .unset] [(.int (25 : Int32)), (.int (x1 &&& (2147483647 : Int32)))])) X0 hx rfl (hb hby at_20) rfl (by decide) κ) ?_
    obtain ⟨r1, hr1, hq1⟩ := own_c1 x1 (25 : Int32) (by decide)
    generalize ((x1 &&& (2147483647 : Int32)) % (25 : Int32)) = c1 at hr1 ⊢
    have hb1 : r1 ≤ 24 := by have q := hq1; rw [show ((25 : Int32)).toInt = 25 from rfl] at q; omega
    have hd : (((24 : Int32) - c1) + (1 : Int32)).toInt = 24 - r1 + 1 := by
      have e : ((24 : Int32) - c1).toInt = 24 - r1 := by rw [Jvm.Kit.i32_sub] <;> rw [hr1, show ((24 : Int32)).toInt = 24 from rfl] <;> omega
      rw [Jvm.Kit.i32_add] <;> rw [e, show (1 : Int32).toInt = 1 from rfl] <;> omega
    refine Gl.st (g' := (mkF m 23 #[.val (.int x0), .val (.int x1), .val (.int x2), .val (.int x3), .val (.int x4), .val (.int (3 : Int32)), .val (.int (24 : Int32)), .val (.int c1), .unset, .unset, .unset, .unset, .unset, .unset] [])) (fun τ κ => XS.istore X0.here hx rfl (hb hby at_21) rfl (l' := #[.val (.int x0), .val (.int x1), .val (.int x2), .val (.int x3), .val (.int x4), .val (.int (3 : Int32)), .val (.int (24 : Int32)), .val (.int c1), .unset, .unset, .unset, .unset, .unset, .unset]) rfl κ) ?_
    refine Gl.st (g' := (mkF m 24 #[.val (.int x0), .val (.int x1), .val (.int x2), .val (.int x3), .val (.int x4), .val (.int (3 : Int32)), .val (.int (24 : Int32)), .val (.int c1), .unset, .unset, .unset, .unset, .unset, .unset] [(.int x3)])) (fun τ κ => XS.iloadN X0.here hx rfl (hb hby at_23) rfl κ) ?_
    refine Gl.st (g' := (mkF m 26 #[.val (.int x0), .val (.int x1), .val (.int x2), .val (.int x3), .val (.int x4), .val (.int (3 : Int32)), .val (.int (24 : Int32)), .val (.int c1), .unset, .unset, .unset, .unset, .unset, .unset] [(.int (2147483647 : Int32)), (.int x3)])) (fun τ κ => X0.ldcInt hx hown (mvT hZ (hw _ (List.mem_of_getElem? (i := 0) rfl))) (g := (mkF m 24 #[.val (.int x0), .val (.int x1), .val (.int x2), .val (.int x3), .val (.int x4), .val (.int (3 : Int32)), .val (.int (24 : Int32)), .val (.int c1), .unset, .unset, .unset, .unset, .unset, .unset] [(.int x3)])) rfl (hb hby at_24) _ κ) ?_
    refine Gl.st (g' := (mkF m 27 #[.val (.int x0), .val (.int x1), .val (.int x2), .val (.int x3), .val (.int x4), .val (.int (3 : Int32)), .val (.int (24 : Int32)), .val (.int c1), .unset, .unset, .unset, .unset, .unset, .unset] [(.int (x3 &&& (2147483647 : Int32)))])) (fun τ κ => XS.iand X0.here hx rfl (hb hby at_26) rfl κ) ?_
    refine Gl.st (g' := (mkF m 29 #[.val (.int x0), .val (.int x1), .val (.int x2), .val (.int x3), .val (.int x4), .val (.int (3 : Int32)), .val (.int (24 : Int32)), .val (.int c1), .unset, .unset, .unset, .unset, .unset, .unset] [(.int (24 : Int32)), (.int (x3 &&& (2147483647 : Int32)))])) (fun τ κ => XS.iload X0.here hx rfl (hb hby at_27) rfl κ) ?_
    refine Gl.st (g' := (mkF m 31 #[.val (.int x0), .val (.int x1), .val (.int x2), .val (.int x3), .val (.int x4), .val (.int (3 : Int32)), .val (.int (24 : Int32)), .val (.int c1), .unset, .unset, .unset, .unset, .unset, .unset] [(.int c1), (.int (24 : Int32)), (.int (x3 &&& (2147483647 : Int32)))])) (fun τ κ => XS.iload X0.here hx rfl (hb hby at_29) rfl κ) ?_
    refine Gl.st (g' := (mkF m 32 #[.val (.int x0), .val (.int x1), .val (.int x2), .val (.int x3), .val (.int x4), .val (.int (3 : Int32)), .val (.int (24 : Int32)), .val (.int c1), .unset, .unset, .unset, .unset, .unset, .unset] [(.int ((24 : Int32) - c1)), (.int (x3 &&& (2147483647 : Int32)))])) (fun τ κ => XS.isub X0.here hx rfl (hb hby at_31) rfl κ) ?_
    refine Gl.st (g' := (mkF m 33 #[.val (.int x0), .val (.int x1), .val (.int x2), .val (.int x3), .val (.int x4), .val (.int (3 : Int32)), .val (.int (24 : Int32)), .val (.int c1), .unset, .unset, .unset, .unset, .unset, .unset] [(.int (1 : Int32)), (.int ((24 : Int32) - c1)), (.int (x3 &&& (2147483647 : Int32)))])) (fun τ κ => XS.iconst X0.here hx rfl (hb hby at_32) κ) ?_
    refine Gl.st (g' := (mkF m 34 #[.val (.int x0), .val (.int x1), .val (.int x2), .val (.int x3), .val (.int x4), .val (.int (3 : Int32)), .val (.int (24 : Int32)), .val (.int c1), .unset, .unset, .unset, .unset, .unset, .unset] [(.int (((24 : Int32) - c1) + (1 : Int32))), (.int (x3 &&& (2147483647 : Int32)))])) (fun τ κ => XS.iadd X0.here hx rfl (hb hby at_33) rfl κ) ?_
    refine Gl.st (g' := (mkF m 35 #[.val (.int x0), .val (.int x1), .val (.int x2), .val (.int x3), .val (.int x4), .val (.int (3 : Int32)), .val (.int (24 : Int32)), .val (.int c1), .unset, .unset, .unset, .unset, .unset, .unset] [(.int ((x3 &&& (2147483647 : Int32)) % (((24 : Int32) - c1) + (1 : Int32))))])) (fun τ κ => iremM (g := (mkF m 34 #[.val (.int x0), .val (.int x1), .val (.int x2), .val (.int x3), .val (.int x4), .val (.int (3 : Int32)), .val (.int (24 : Int32)), .val (.int c1), .unset, .unset, .unset, .unset, .unset, .unset] [(.int (((24 : Int32) - c1) + (1 : Int32))), (.int (x3 &&& (2147483647 : Int32)))])) X0 hx rfl (hb hby at_34) rfl (own_nz (by omega)) κ) ?_
    obtain ⟨r2, hr2, hq2⟩ := own_c1 x3 (((24 : Int32) - c1) + (1 : Int32)) (by omega)
    generalize ((x3 &&& (2147483647 : Int32)) % (((24 : Int32) - c1) + (1 : Int32))) = c2 at hr2 ⊢
    have hb2 : r1 + r2 ≤ 24 := by omega
    refine Gl.st (g' := (mkF m 37 #[.val (.int x0), .val (.int x1), .val (.int x2), .val (.int x3), .val (.int x4), .val (.int (3 : Int32)), .val (.int (24 : Int32)), .val (.int c1), .val (.int c2), .unset, .unset, .unset, .unset, .unset] [])) (fun τ κ => XS.istore X0.here hx rfl (hb hby at_35) rfl (l' := #[.val (.int x0), .val (.int x1), .val (.int x2), .val (.int x3), .val (.int x4), .val (.int (3 : Int32)), .val (.int (24 : Int32)), .val (.int c1), .val (.int c2), .unset, .unset, .unset, .unset, .unset]) rfl κ) ?_
    obtain ⟨T235, h235, X235, e235, E235, A235, D235, -, st235⟩ := newO X0 hx hZ hown (hw _ (List.mem_of_getElem? (i := 1) rfl)) (hw _ (List.mem_of_getElem? (i := 2) rfl)) (hw _ (List.mem_of_getElem? (i := 3) rfl)) e0 (g := (mkF m 37 #[.val (.int x0), .val (.int x1), .val (.int x2), .val (.int x3), .val (.int x4), .val (.int (3 : Int32)), .val (.int (24 : Int32)), .val (.int c1), .val (.int c2), .unset, .unset, .unset, .unset, .unset] [])) rfl (hb hby at_37) (by decide) (by decide)
    obtain ⟨b235, g235⟩ : ∃ z, z = h0.size := ⟨_, rfl⟩
    rw [← g235] at A235 D235 st235
    have g_b235 : n0 ≤ b235 := Nat.le_trans Z0 (Nat.le_of_eq g235.symm)
    have sz_b235 : h0.size ≤ b235 := Nat.le_trans (Keep.refl h0 []).1 (Nat.le_of_eq g235.symm)
    have Z235 : n0 ≤ h235.size := Nat.le_trans Z0 E235.1
    have K235 : Keep h0 h235 [] := (Keep.refl h0 []).ext E235
    have F_236 : Fld Z h235 b235 "com/example/quietzone/quietzone/BitWriter" "bytes" "[B" .null := D235 (Or.inr (hw _ (List.mem_of_getElem? (i := 12) rfl))) (ty := (.array .byte)) (by decide)
    have F_237 : Fld Z h235 b235 "com/example/quietzone/quietzone/BitWriter" "length" "I" (.int (0 : Int32)) := D235 (Or.inl (hw _ (List.mem_of_getElem? (i := 30) rfl))) (ty := .int) (by decide)
    refine Gl.st (g' := (mkF m 40 #[.val (.int x0), .val (.int x1), .val (.int x2), .val (.int x3), .val (.int x4), .val (.int (3 : Int32)), .val (.int (24 : Int32)), .val (.int c1), .val (.int c2), .unset, .unset, .unset, .unset, .unset] [(.ref b235)])) (fun τ κ => st235 _ κ) ?_
    refine Gl.st (g' := (mkF m 41 #[.val (.int x0), .val (.int x1), .val (.int x2), .val (.int x3), .val (.int x4), .val (.int (3 : Int32)), .val (.int (24 : Int32)), .val (.int c1), .val (.int c2), .unset, .unset, .unset, .unset, .unset] [(.ref b235), (.ref b235)])) (fun τ κ => XS.dup X235.here hx rfl (hb hby at_40) rfl rfl κ) ?_
    refine Gl.st (g' := (mkF m 43 #[.val (.int x0), .val (.int x1), .val (.int x2), .val (.int x3), .val (.int x4), .val (.int (3 : Int32)), .val (.int (24 : Int32)), .val (.int c1), .val (.int c2), .unset, .unset, .unset, .unset, .unset] [(.int (3 : Int32)), (.ref b235), (.ref b235)])) (fun τ κ => XS.iload X235.here hx rfl (hb hby at_41) rfl κ) ?_
    obtain ⟨rv238, _, ⟨T238, L238, k238, n238⟩, -, X238, ⟨Lc238, hQ238, l238, y238, z238⟩, st238⟩ := X235.specialBack hx (y := (⟨"com/example/quietzone/quietzone/BitWriter", "<init>", "(I)V"⟩ : MethodName)) rfl hown (mvT hZ (hw _ (List.mem_of_getElem? (i := 4) rfl))) (mvT hZ (hw _ (List.mem_of_getElem? (i := 5) rfl))) (mvT hZ (hw _ (List.mem_of_getElem? (i := 6) rfl))) (by decide) (backOf (W := 1) (rm1 l Z a0 hw [] b235 (3 : Int32) h235 n0 Z235 A235 g_b235 F_236 F_237 (by decide) (by decide)) hZ (hw _ (List.mem_of_getElem? (i := 6) rfl)) (hw _ (List.mem_of_getElem? (i := 3) rfl)) (by decide) (by decide)) (g := (mkF m 43 #[.val (.int x0), .val (.int x1), .val (.int x2), .val (.int x3), .val (.int x4), .val (.int (3 : Int32)), .val (.int (24 : Int32)), .val (.int c1), .val (.int c2), .unset, .unset, .unset, .unset, .unset] [(.int (3 : Int32)), (.ref b235), (.ref b235)])) rfl (by rw [hml]; rfl) (Steps.refl _) (a := b235) (argsL := [(.int (3 : Int32))]) (rest := [(.ref b235)]) (lenOf pd_0 rfl) rfl (by show 2 * 0 + _ ≤ _; exact Nat.le_of_eq rfl) (hb hby at_43) (fun _ _ => ⟨rfl, e235, (by decide : 1 + 1 ≤ _), (by decide : 2 + 3 ≤ _)⟩)
    dsimp only [Pt.U, Pt.locs, Pt.cells, Pt.slots] at X238 l238 y238 z238 st238 hQ238
    subst l238 y238 z238
    obtain ⟨t238, kk238, rfl, N238q, Kc238, Ec238, FB238, FL238, V238, s238⟩ := hQ238
    have ne_b235_t238 : b235 ≠ t238 := Nat.ne_of_lt (Nat.lt_of_lt_of_le A235.lt s238)
    have g_t238 : n0 ≤ t238 := Nat.le_trans Z235 s238
    have sz_t238 : h0.size ≤ t238 := Nat.le_trans K235.1 s238
    have E_239 := A235.keep Kc238
    have N238 := Fr.app N0 N238q
    have Z238 : n0 ≤ T238.heap.size := Nat.le_trans Z235 Kc238.1
    have K238 : Keep h0 T238.heap [] := K235.trans Kc238 (allS (Or.inr sz_b235) all0)
    refine Gl.st (g' := (mkF m 46 #[.val (.int x0), .val (.int x1), .val (.int x2), .val (.int x3), .val (.int x4), .val (.int (3 : Int32)), .val (.int (24 : Int32)), .val (.int c1), .val (.int c2), .unset, .unset, .unset, .unset, .unset] [(.ref b235)])) (fun τ κ => st238.trans κ) ?_
    refine Gl.st (g' := (mkF m 48 #[.val (.int x0), .val (.int x1), .val (.int x2), .val (.int x3), .val (.int x4), .val (.int (3 : Int32)), .val (.int (24 : Int32)), .val (.int c1), .val (.int c2), .val (.ref b235), .unset, .unset, .unset, .unset] [])) (fun τ κ => XS.astore X238.here hx rfl (hb hby at_46) rfl rfl (l' := #[.val (.int x0), .val (.int x1), .val (.int x2), .val (.int x3), .val (.int x4), .val (.int (3 : Int32)), .val (.int (24 : Int32)), .val (.int c1), .val (.int c2), .val (.ref b235), .unset, .unset, .unset, .unset]) rfl κ) ?_
    refine Gl.st (g' := (mkF m 50 #[.val (.int x0), .val (.int x1), .val (.int x2), .val (.int x3), .val (.int x4), .val (.int (3 : Int32)), .val (.int (24 : Int32)), .val (.int c1), .val (.int c2), .val (.ref b235), .unset, .unset, .unset, .unset] [(.ref b235)])) (fun τ κ => XS.aload X238.here hx rfl (hb hby at_48) rfl rfl κ) ?_
    refine Gl.st (g' := (mkF m 51 #[.val (.int x0), .val (.int x1), .val (.int x2), .val (.int x3), .val (.int x4), .val (.int (3 : Int32)), .val (.int (24 : Int32)), .val (.int c1), .val (.int c2), .val (.ref b235), .unset, .unset, .unset, .unset] [(.int x2), (.ref b235)])) (fun τ κ => XS.iloadN X238.here hx rfl (hb hby at_50) rfl κ) ?_
    refine Gl.st (g' := (mkF m 53 #[.val (.int x0), .val (.int x1), .val (.int x2), .val (.int x3), .val (.int x4), .val (.int (3 : Int32)), .val (.int (24 : Int32)), .val (.int c1), .val (.int c2), .val (.ref b235), .unset, .unset, .unset, .unset] [(.int c1), (.int x2), (.ref b235)])) (fun τ κ => XS.iload X238.here hx rfl (hb hby at_51) rfl κ) ?_
    obtain ⟨cq242, kq242, q242a, q242b, q242c⟩ := isOf hZ rfl Ec238
    obtain ⟨rv242, _, ⟨T242, L242, k242, n242⟩, -, X242, ⟨Lc242, hQ242, l242, y242, z242⟩, st242⟩ := X238.virtualBack hx (y := (⟨"com/example/quietzone/quietzone/BitWriter", "write", "(II)V"⟩ : MethodName)) (z := (⟨"com/example/quietzone/quietzone/BitWriter", "write", "(II)V"⟩ : MethodName)) hown (mvT hZ (hw _ (List.mem_of_getElem? (i := 13) rfl))) (mvT hZ (hw _ (List.mem_of_getElem? (i := 14) rfl))) (notFace_of_selects (args := #[]) (mvT hZ (hw _ (List.mem_of_getElem? (i := 16) rfl)))) (mvT hZ (hw _ (List.mem_of_getElem? (i := 16) rfl))) (mvT hZ (hw _ (List.mem_of_getElem? (i := 15) rfl))) (by decide) (backOf (W := 0) (rm3 l Z a0 hw [] b235 x2 c1 t238 kk238 (3 : Int32) (0 : Int32) 0 0 r1 T238.heap n0 Z238 Ec238 g_b235 g_t238 ne_b235_t238 FB238 FL238 V238 hr1 rfl (by have : ((3 : Int32)).toInt.toNat = 3 := rfl; omega) (by decide) (by decide) (by decide)) hZ (hw _ (List.mem_of_getElem? (i := 17) rfl)) (hw _ (List.mem_of_getElem? (i := 3) rfl)) (by decide) (by decide)) q242a q242c (g := (mkF m 53 #[.val (.int x0), .val (.int x1), .val (.int x2), .val (.int x3), .val (.int x4), .val (.int (3 : Int32)), .val (.int (24 : Int32)), .val (.int c1), .val (.int c2), .val (.ref b235), .unset, .unset, .unset, .unset] [(.int c1), (.int x2), (.ref b235)])) rfl (by rw [hml]; rfl) (Steps.refl _) (argsL := [(.int x2), (.int c1)]) (rest := []) (lenOf pd_1 rfl) rfl (by show 2 * 0 + _ ≤ _; exact Nat.le_of_eq rfl) (hb hby at_53) (fun _ _ => ⟨rfl, rfl, (by decide : 2 + 0 ≤ _), (by decide : 5 + 0 ≤ _)⟩)
    dsimp only [Pt.U, Pt.locs, Pt.cells, Pt.slots] at X242 l242 y242 z242 st242 hQ242
    subst l242 y242 z242
    obtain ⟨rfl, N242q, Kc242, Ec242, FB242, ⟨lv242, hl242, FL242⟩, V242⟩ := hQ242
    have E_243 := Ec238.keep Kc242
    have N242 := Fr.app N238 N242q
    have Z242 : n0 ≤ T242.heap.size := Nat.le_trans Z238 Kc242.1
    have K242 : Keep h0 T242.heap [] := K238.trans Kc242 (allS (Or.inr sz_b235) (allS (Or.inr sz_t238) all0))
    refine Gl.st (g' := (mkF m 56 #[.val (.int x0), .val (.int x1), .val (.int x2), .val (.int x3), .val (.int x4), .val (.int (3 : Int32)), .val (.int (24 : Int32)), .val (.int c1), .val (.int c2), .val (.ref b235), .unset, .unset, .unset, .unset] [])) (fun τ κ => st242.trans κ) ?_
    have hM1 : (0 + (own_u x2 % 2 ^ r1) * 2 ^ (24 - 0 - r1)) < 16777216 := by
      have := (own_word (a := x2) (b := x4) hr1 hr2 (by omega)).2; omega
    have hZ1 : (0 + (own_u x2 % 2 ^ r1) * 2 ^ (24 - 0 - r1)) % 2 ^ (24 - (0 + r1)) = 0 := by rw [Nat.zero_add, Nat.zero_add, Nat.sub_zero]; exact Nat.mul_mod_left _ _
    refine Gl.st (g' := (mkF m 58 #[.val (.int x0), .val (.int x1), .val (.int x2), .val (.int x3), .val (.int x4), .val (.int (3 : Int32)), .val (.int (24 : Int32)), .val (.int c1), .val (.int c2), .val (.ref b235), .unset, .unset, .unset, .unset] [(.ref b235)])) (fun τ κ => XS.aload X242.here hx rfl (hb hby at_56) rfl rfl κ) ?_
    refine Gl.st (g' := (mkF m 60 #[.val (.int x0), .val (.int x1), .val (.int x2), .val (.int x3), .val (.int x4), .val (.int (3 : Int32)), .val (.int (24 : Int32)), .val (.int c1), .val (.int c2), .val (.ref b235), .unset, .unset, .unset, .unset] [(.int x4), (.ref b235)])) (fun τ κ => XS.iload X242.here hx rfl (hb hby at_58) rfl κ) ?_
    refine Gl.st (g' := (mkF m 62 #[.val (.int x0), .val (.int x1), .val (.int x2), .val (.int x3), .val (.int x4), .val (.int (3 : Int32)), .val (.int (24 : Int32)), .val (.int c1), .val (.int c2), .val (.ref b235), .unset, .unset, .unset, .unset] [(.int c2), (.int x4), (.ref b235)])) (fun τ κ => XS.iload X242.here hx rfl (hb hby at_60) rfl κ) ?_
    obtain ⟨cq247, kq247, q247a, q247b, q247c⟩ := isOf hZ rfl Ec242
    obtain ⟨rv247, _, ⟨T247, L247, k247, n247⟩, -, X247, ⟨Lc247, hQ247, l247, y247, z247⟩, st247⟩ := X242.virtualBack hx (y := (⟨"com/example/quietzone/quietzone/BitWriter", "write", "(II)V"⟩ : MethodName)) (z := (⟨"com/example/quietzone/quietzone/BitWriter", "write", "(II)V"⟩ : MethodName)) hown (mvT hZ (hw _ (List.mem_of_getElem? (i := 13) rfl))) (mvT hZ (hw _ (List.mem_of_getElem? (i := 14) rfl))) (notFace_of_selects (args := #[]) (mvT hZ (hw _ (List.mem_of_getElem? (i := 16) rfl)))) (mvT hZ (hw _ (List.mem_of_getElem? (i := 16) rfl))) (mvT hZ (hw _ (List.mem_of_getElem? (i := 15) rfl))) (by decide) (backOf (W := 0) (rm3 l Z a0 hw [] b235 x4 c2 t238 kk238 (3 : Int32) lv242 (0 + (own_u x2 % 2 ^ r1) * 2 ^ (24 - 0 - r1)) (0 + r1) r2 T242.heap n0 Z242 Ec242 g_b235 g_t238 ne_b235_t238 FB242 FL242 V242 hr2 hl242 (by have : ((3 : Int32)).toInt.toNat = 3 := rfl; omega) (by decide) hM1 hZ1) hZ (hw _ (List.mem_of_getElem? (i := 17) rfl)) (hw _ (List.mem_of_getElem? (i := 3) rfl)) (by decide) (by decide)) q247a q247c (g := (mkF m 62 #[.val (.int x0), .val (.int x1), .val (.int x2), .val (.int x3), .val (.int x4), .val (.int (3 : Int32)), .val (.int (24 : Int32)), .val (.int c1), .val (.int c2), .val (.ref b235), .unset, .unset, .unset, .unset] [(.int c2), (.int x4), (.ref b235)])) rfl (by rw [hml]; rfl) (Steps.refl _) (argsL := [(.int x4), (.int c2)]) (rest := []) (lenOf pd_1 rfl) rfl (by show 2 * 0 + _ ≤ _; exact Nat.le_of_eq rfl) (hb hby at_62) (fun _ _ => ⟨rfl, rfl, (by decide : 2 + 0 ≤ _), (by decide : 5 + 0 ≤ _)⟩)
    dsimp only [Pt.U, Pt.locs, Pt.cells, Pt.slots] at X247 l247 y247 z247 st247 hQ247
    subst l247 y247 z247
    obtain ⟨rfl, N247q, Kc247, Ec247, FB247, ⟨lv247, hl247, FL247⟩, V247⟩ := hQ247
    have E_248 := Ec242.keep Kc247
    have N247 := Fr.app N242 N247q
    have Z247 : n0 ≤ T247.heap.size := Nat.le_trans Z242 Kc247.1
    have K247 : Keep h0 T247.heap [] := K242.trans Kc247 (allS (Or.inr sz_b235) (allS (Or.inr sz_t238) all0))
    refine Gl.st (g' := (mkF m 65 #[.val (.int x0), .val (.int x1), .val (.int x2), .val (.int x3), .val (.int x4), .val (.int (3 : Int32)), .val (.int (24 : Int32)), .val (.int c1), .val (.int c2), .val (.ref b235), .unset, .unset, .unset, .unset] [])) (fun τ κ => st247.trans κ) ?_
    refine Gl.st (g' := (mkF m 67 #[.val (.int x0), .val (.int x1), .val (.int x2), .val (.int x3), .val (.int x4), .val (.int (3 : Int32)), .val (.int (24 : Int32)), .val (.int c1), .val (.int c2), .val (.ref b235), .unset, .unset, .unset, .unset] [(.ref b235)])) (fun τ κ => XS.aload X247.here hx rfl (hb hby at_65) rfl rfl κ) ?_
    obtain ⟨cq252, kq252, q252a, q252b, q252c⟩ := isOf hZ rfl Ec247
    obtain ⟨rv252, _, ⟨T252, L252, k252, n252⟩, -, X252, ⟨Lc252, hQ252, l252, y252, z252⟩, st252⟩ := X247.virtualBack hx (y := (⟨"com/example/quietzone/quietzone/BitWriter", "toUnsignedBytes", "()[I"⟩ : MethodName)) (z := (⟨"com/example/quietzone/quietzone/BitWriter", "toUnsignedBytes", "()[I"⟩ : MethodName)) hown (mvT hZ (hw _ (List.mem_of_getElem? (i := 18) rfl))) (mvT hZ (hw _ (List.mem_of_getElem? (i := 19) rfl))) (notFace_of_selects (args := #[]) (mvT hZ (hw _ (List.mem_of_getElem? (i := 21) rfl)))) (mvT hZ (hw _ (List.mem_of_getElem? (i := 21) rfl))) (mvT hZ (hw _ (List.mem_of_getElem? (i := 20) rfl))) (by decide) (backOf (W := 0) (rm_tu3 l Z a0 hw [] b235 t238 kk238 ((0 + (own_u x2 % 2 ^ r1) * 2 ^ (24 - 0 - r1)) + (own_u x4 % 2 ^ r2) * 2 ^ (24 - (0 + r1) - r2)) T247.heap n0 Z247 FB247 V247) hZ (hw _ (List.mem_of_getElem? (i := 22) rfl)) (hw _ (List.mem_of_getElem? (i := 3) rfl)) (by decide) (by decide)) q252a q252c (g := (mkF m 67 #[.val (.int x0), .val (.int x1), .val (.int x2), .val (.int x3), .val (.int x4), .val (.int (3 : Int32)), .val (.int (24 : Int32)), .val (.int c1), .val (.int c2), .val (.ref b235), .unset, .unset, .unset, .unset] [(.ref b235)])) rfl (by rw [hml]; rfl) (Steps.refl _) (argsL := []) (rest := []) (lenOf pd_2 rfl) rfl (by show 2 * 0 + _ ≤ _; exact Nat.le_of_eq rfl) (hb hby at_67) (fun _ _ => ⟨rfl, rfl, (by decide : 2 + 1 ≤ _), (by decide : 5 + 3 ≤ _)⟩)
    dsimp only [Pt.U, Pt.locs, Pt.cells, Pt.slots] at X252 l252 y252 z252 st252 hQ252
    subst l252 y252 z252
    obtain ⟨b252, kk252, rfl, N252q, Kc252, s252, V252⟩ := hQ252
    have ne_b235_b252 : b235 ≠ b252 := Nat.ne_of_lt (Nat.lt_of_lt_of_le Ec247.lt s252)
    have ne_t238_b252 : t238 ≠ b252 := Nat.ne_of_lt (Nat.lt_of_lt_of_le V247.lt s252)
    have g_b252 : n0 ≤ b252 := Nat.le_trans Z247 s252
    have sz_b252 : h0.size ≤ b252 := Nat.le_trans K247.1 s252
    have E_253 := Ec247.keep Kc252
    have F_254 := FB247.keep Kc252 nin0
    have F_255 := FL247.keep Kc252 nin0
    have V_256 := V247.keep Kc252 nin0
    have N252 := Fr.app N247 N252q
    have Z252 : n0 ≤ T252.heap.size := Nat.le_trans Z247 Kc252.1
    have K252 : Keep h0 T252.heap [] := K247.trans Kc252 all0
    refine Gl.st (g' := (mkF m 70 #[.val (.int x0), .val (.int x1), .val (.int x2), .val (.int x3), .val (.int x4), .val (.int (3 : Int32)), .val (.int (24 : Int32)), .val (.int c1), .val (.int c2), .val (.ref b235), .unset, .unset, .unset, .unset] [(.ref b252)])) (fun τ κ => st252.trans κ) ?_
    refine Gl.st (g' := (mkF m 72 #[.val (.int x0), .val (.int x1), .val (.int x2), .val (.int x3), .val (.int x4), .val (.int (3 : Int32)), .val (.int (24 : Int32)), .val (.int c1), .val (.int c2), .val (.ref b235), .val (.ref b252), .unset, .unset, .unset] [])) (fun τ κ => XS.astore X252.here hx rfl (hb hby at_70) rfl rfl (l' := #[.val (.int x0), .val (.int x1), .val (.int x2), .val (.int x3), .val (.int x4), .val (.int (3 : Int32)), .val (.int (24 : Int32)), .val (.int c1), .val (.int c2), .val (.ref b235), .val (.ref b252), .unset, .unset, .unset]) rfl κ) ?_
    refine Gl.st (g' := (mkF m 73 #[.val (.int x0), .val (.int x1), .val (.int x2), .val (.int x3), .val (.int x4), .val (.int (3 : Int32)), .val (.int (24 : Int32)), .val (.int c1), .val (.int c2), .val (.ref b235), .val (.ref b252), .unset, .unset, .unset] [(.int x2)])) (fun τ κ => XS.iloadN X252.here hx rfl (hb hby at_72) rfl κ) ?_
    refine Gl.st (g' := (mkF m 75 #[.val (.int x0), .val (.int x1), .val (.int x2), .val (.int x3), .val (.int x4), .val (.int (3 : Int32)), .val (.int (24 : Int32)), .val (.int c1), .val (.int c2), .val (.ref b235), .val (.ref b252), .unset, .unset, .unset] [(.int c1), (.int x2)])) (fun τ κ => XS.iload X252.here hx rfl (hb hby at_73) rfl κ) ?_
    obtain ⟨rv257, _, ⟨T257, L257, k257, n257⟩, -, X257, ⟨Lc257, hQ257, l257, y257, z257⟩, st257⟩ := Jvm.LawKit.callS X252 hx (y := (⟨"com/example/quietzone/quietzone/BitWriterToUnsignedBytesPinLaw", "low", "(II)J"⟩ : MethodName)) hown (mvT hZ (hw _ (List.mem_of_getElem? (i := 24) rfl))) (mvT hZ (hw _ (List.mem_of_getElem? (i := 25) rfl))) (mvT hZ (hw _ (List.mem_of_getElem? (i := 26) rfl))) (mvT hZ (hw _ (List.mem_of_getElem? (i := 27) rfl))) (by decide) (backOf (W := 0) (rm5 l Z a0 hw [] x2 c1 T252.heap n0 Z252 ) hZ (hw _ (List.mem_of_getElem? (i := 27) rfl)) (hw _ (List.mem_of_getElem? (i := 26) rfl)) (by decide) (by decide)) (g := (mkF m 75 #[.val (.int x0), .val (.int x1), .val (.int x2), .val (.int x3), .val (.int x4), .val (.int (3 : Int32)), .val (.int (24 : Int32)), .val (.int c1), .val (.int c2), .val (.ref b235), .val (.ref b252), .unset, .unset, .unset] [(.int c1), (.int x2)])) rfl (by rw [hml]; rfl) (argsL := [(.int x2), (.int c1)]) (rest := []) (lenOf pd_3 rfl) rfl (by show 2 * 0 + _ ≤ _; exact Nat.le_of_eq rfl) (hb hby at_75) (fun _ _ => ⟨rfl, rfl, (by decide : 3 + 0 ≤ _), (by decide : 8 + 0 ≤ _)⟩)
    dsimp only [Pt.U, Pt.locs, Pt.cells, Pt.slots] at X257 l257 y257 z257 st257 hQ257
    subst l257 y257 z257
    obtain ⟨rfl, N257q, e257⟩ := hQ257
    have N257 := Fr.app N252 N257q
    refine Gl.st (g' := (mkF m 78 #[.val (.int x0), .val (.int x1), .val (.int x2), .val (.int x3), .val (.int x4), .val (.int (3 : Int32)), .val (.int (24 : Int32)), .val (.int c1), .val (.int c2), .val (.ref b235), .val (.ref b252), .unset, .unset, .unset] [(.long (own_low x2 c1))])) (fun τ κ => st257 _ κ) ?_
    refine Gl.st (g' := (mkF m 80 #[.val (.int x0), .val (.int x1), .val (.int x2), .val (.int x3), .val (.int x4), .val (.int (3 : Int32)), .val (.int (24 : Int32)), .val (.int c1), .val (.int c2), .val (.ref b235), .val (.ref b252), .unset, .unset, .unset] [(.int (24 : Int32)), (.long (own_low x2 c1))])) (fun τ κ => XS.bipush X257.here hx rfl (hb hby at_78) κ) ?_
    refine Gl.st (g' := (mkF m 82 #[.val (.int x0), .val (.int x1), .val (.int x2), .val (.int x3), .val (.int x4), .val (.int (3 : Int32)), .val (.int (24 : Int32)), .val (.int c1), .val (.int c2), .val (.ref b235), .val (.ref b252), .unset, .unset, .unset] [(.int c1), (.int (24 : Int32)), (.long (own_low x2 c1))])) (fun τ κ => XS.iload X257.here hx rfl (hb hby at_80) rfl κ) ?_
    refine Gl.st (g' := (mkF m 83 #[.val (.int x0), .val (.int x1), .val (.int x2), .val (.int x3), .val (.int x4), .val (.int (3 : Int32)), .val (.int (24 : Int32)), .val (.int c1), .val (.int c2), .val (.ref b235), .val (.ref b252), .unset, .unset, .unset] [(.int ((24 : Int32) - c1)), (.long (own_low x2 c1))])) (fun τ κ => XS.isub X257.here hx rfl (hb hby at_82) rfl κ) ?_
    refine Gl.st (g' := (mkF m 84 #[.val (.int x0), .val (.int x1), .val (.int x2), .val (.int x3), .val (.int x4), .val (.int (3 : Int32)), .val (.int (24 : Int32)), .val (.int c1), .val (.int c2), .val (.ref b235), .val (.ref b252), .unset, .unset, .unset] [(.long ((own_low x2 c1) <<< (((24 : Int32) - c1) &&& 0x3f).toInt64))])) (fun τ κ => XS.lshl X257.here hx rfl (hb hby at_83) rfl κ) ?_
    refine Gl.st (g' := (mkF m 86 #[.val (.int x0), .val (.int x1), .val (.int x2), .val (.int x3), .val (.int x4), .val (.int (3 : Int32)), .val (.int (24 : Int32)), .val (.int c1), .val (.int c2), .val (.ref b235), .val (.ref b252), .unset, .unset, .unset] [(.int x4), (.long ((own_low x2 c1) <<< (((24 : Int32) - c1) &&& 0x3f).toInt64))])) (fun τ κ => XS.iload X257.here hx rfl (hb hby at_84) rfl κ) ?_
    refine Gl.st (g' := (mkF m 88 #[.val (.int x0), .val (.int x1), .val (.int x2), .val (.int x3), .val (.int x4), .val (.int (3 : Int32)), .val (.int (24 : Int32)), .val (.int c1), .val (.int c2), .val (.ref b235), .val (.ref b252), .unset, .unset, .unset] [(.int c2), (.int x4), (.long ((own_low x2 c1) <<< (((24 : Int32) - c1) &&& 0x3f).toInt64))])) (fun τ κ => XS.iload X257.here hx rfl (hb hby at_86) rfl κ) ?_
    obtain ⟨rv258, _, ⟨T258, L258, k258, n258⟩, -, X258, ⟨Lc258, hQ258, l258, y258, z258⟩, st258⟩ := Jvm.LawKit.callS X257 hx (y := (⟨"com/example/quietzone/quietzone/BitWriterToUnsignedBytesPinLaw", "low", "(II)J"⟩ : MethodName)) hown (mvT hZ (hw _ (List.mem_of_getElem? (i := 24) rfl))) (mvT hZ (hw _ (List.mem_of_getElem? (i := 25) rfl))) (mvT hZ (hw _ (List.mem_of_getElem? (i := 26) rfl))) (mvT hZ (hw _ (List.mem_of_getElem? (i := 27) rfl))) (by decide) (backOf (W := 2) (rm5 l Z a0 hw [] x4 c2 T252.heap n0 Z252 ) hZ (hw _ (List.mem_of_getElem? (i := 27) rfl)) (hw _ (List.mem_of_getElem? (i := 26) rfl)) (by decide) (by decide)) (g := (mkF m 88 #[.val (.int x0), .val (.int x1), .val (.int x2), .val (.int x3), .val (.int x4), .val (.int (3 : Int32)), .val (.int (24 : Int32)), .val (.int c1), .val (.int c2), .val (.ref b235), .val (.ref b252), .unset, .unset, .unset] [(.int c2), (.int x4), (.long ((own_low x2 c1) <<< (((24 : Int32) - c1) &&& 0x3f).toInt64))])) rfl (by rw [hml]; rfl) (argsL := [(.int x4), (.int c2)]) (rest := [(.long ((own_low x2 c1) <<< (((24 : Int32) - c1) &&& 0x3f).toInt64))]) (lenOf pd_3 rfl) rfl (by show 2 * 0 + _ ≤ _; exact Nat.le_of_eq rfl) (hb hby at_88) (fun _ _ => ⟨rfl, e257, (by decide : 3 + 0 ≤ _), (by decide : 8 + 0 ≤ _)⟩)
    dsimp only [Pt.U, Pt.locs, Pt.cells, Pt.slots] at X258 l258 y258 z258 st258 hQ258
    subst l258 y258 z258
    obtain ⟨rfl, N258q, e258⟩ := hQ258
    have N258 := Fr.app N257 N258q
    refine Gl.st (g' := (mkF m 91 #[.val (.int x0), .val (.int x1), .val (.int x2), .val (.int x3), .val (.int x4), .val (.int (3 : Int32)), .val (.int (24 : Int32)), .val (.int c1), .val (.int c2), .val (.ref b235), .val (.ref b252), .unset, .unset, .unset] [(.long (own_low x4 c2)), (.long ((own_low x2 c1) <<< (((24 : Int32) - c1) &&& 0x3f).toInt64))])) (fun τ κ => st258 _ κ) ?_
    refine Gl.st (g' := (mkF m 93 #[.val (.int x0), .val (.int x1), .val (.int x2), .val (.int x3), .val (.int x4), .val (.int (3 : Int32)), .val (.int (24 : Int32)), .val (.int c1), .val (.int c2), .val (.ref b235), .val (.ref b252), .unset, .unset, .unset] [(.int (24 : Int32)), (.long (own_low x4 c2)), (.long ((own_low x2 c1) <<< (((24 : Int32) - c1) &&& 0x3f).toInt64))])) (fun τ κ => XS.bipush X258.here hx rfl (hb hby at_91) κ) ?_
    refine Gl.st (g' := (mkF m 95 #[.val (.int x0), .val (.int x1), .val (.int x2), .val (.int x3), .val (.int x4), .val (.int (3 : Int32)), .val (.int (24 : Int32)), .val (.int c1), .val (.int c2), .val (.ref b235), .val (.ref b252), .unset, .unset, .unset] [(.int c1), (.int (24 : Int32)), (.long (own_low x4 c2)), (.long ((own_low x2 c1) <<< (((24 : Int32) - c1) &&& 0x3f).toInt64))])) (fun τ κ => XS.iload X258.here hx rfl (hb hby at_93) rfl κ) ?_
    refine Gl.st (g' := (mkF m 96 #[.val (.int x0), .val (.int x1), .val (.int x2), .val (.int x3), .val (.int x4), .val (.int (3 : Int32)), .val (.int (24 : Int32)), .val (.int c1), .val (.int c2), .val (.ref b235), .val (.ref b252), .unset, .unset, .unset] [(.int ((24 : Int32) - c1)), (.long (own_low x4 c2)), (.long ((own_low x2 c1) <<< (((24 : Int32) - c1) &&& 0x3f).toInt64))])) (fun τ κ => XS.isub X258.here hx rfl (hb hby at_95) rfl κ) ?_
    refine Gl.st (g' := (mkF m 98 #[.val (.int x0), .val (.int x1), .val (.int x2), .val (.int x3), .val (.int x4), .val (.int (3 : Int32)), .val (.int (24 : Int32)), .val (.int c1), .val (.int c2), .val (.ref b235), .val (.ref b252), .unset, .unset, .unset] [(.int c2), (.int ((24 : Int32) - c1)), (.long (own_low x4 c2)), (.long ((own_low x2 c1) <<< (((24 : Int32) - c1) &&& 0x3f).toInt64))])) (fun τ κ => XS.iload X258.here hx rfl (hb hby at_96) rfl κ) ?_
    refine Gl.st (g' := (mkF m 99 #[.val (.int x0), .val (.int x1), .val (.int x2), .val (.int x3), .val (.int x4), .val (.int (3 : Int32)), .val (.int (24 : Int32)), .val (.int c1), .val (.int c2), .val (.ref b235), .val (.ref b252), .unset, .unset, .unset] [(.int (((24 : Int32) - c1) - c2)), (.long (own_low x4 c2)), (.long ((own_low x2 c1) <<< (((24 : Int32) - c1) &&& 0x3f).toInt64))])) (fun τ κ => XS.isub X258.here hx rfl (hb hby at_98) rfl κ) ?_
    refine Gl.st (g' := (mkF m 100 #[.val (.int x0), .val (.int x1), .val (.int x2), .val (.int x3), .val (.int x4), .val (.int (3 : Int32)), .val (.int (24 : Int32)), .val (.int c1), .val (.int c2), .val (.ref b235), .val (.ref b252), .unset, .unset, .unset] [(.long ((own_low x4 c2) <<< ((((24 : Int32) - c1) - c2) &&& 0x3f).toInt64)), (.long ((own_low x2 c1) <<< (((24 : Int32) - c1) &&& 0x3f).toInt64))])) (fun τ κ => XS.lshl X258.here hx rfl (hb hby at_99) rfl κ) ?_
    refine Gl.st (g' := (mkF m 101 #[.val (.int x0), .val (.int x1), .val (.int x2), .val (.int x3), .val (.int x4), .val (.int (3 : Int32)), .val (.int (24 : Int32)), .val (.int c1), .val (.int c2), .val (.ref b235), .val (.ref b252), .unset, .unset, .unset] [(.long (((own_low x2 c1) <<< (((24 : Int32) - c1) &&& 0x3f).toInt64) ||| ((own_low x4 c2) <<< ((((24 : Int32) - c1) - c2) &&& 0x3f).toInt64)))])) (fun τ κ => XS.lor X258.here hx rfl (hb hby at_100) rfl κ) ?_
    have hW := own_word (a := x2) (b := x4) hr1 hr2 (by omega)
    generalize hww : (((own_low x2 c1) <<< (((24 : Int32) - c1) &&& 0x3f).toInt64) ||| ((own_low x4 c2) <<< ((((24 : Int32) - c1) - c2) &&& 0x3f).toInt64)) = ww at hW ⊢
    have hC := own_cmp hW.1 hW.2
    refine Gl.st (g' := (mkF m 103 #[.val (.int x0), .val (.int x1), .val (.int x2), .val (.int x3), .val (.int x4), .val (.int (3 : Int32)), .val (.int (24 : Int32)), .val (.int c1), .val (.int c2), .val (.ref b235), .val (.ref b252), .val (.long ww), .second, .unset] [])) (fun τ κ => XS.lstore X258.here hx rfl (hb hby at_101) rfl (l' := #[.val (.int x0), .val (.int x1), .val (.int x2), .val (.int x3), .val (.int x4), .val (.int (3 : Int32)), .val (.int (24 : Int32)), .val (.int c1), .val (.int c2), .val (.ref b235), .val (.ref b252), .val (.long ww), .second, .unset]) rfl κ) ?_
    refine Gl.st (g' := (mkF m 105 #[.val (.int x0), .val (.int x1), .val (.int x2), .val (.int x3), .val (.int x4), .val (.int (3 : Int32)), .val (.int (24 : Int32)), .val (.int c1), .val (.int c2), .val (.ref b235), .val (.ref b252), .val (.long ww), .second, .unset] [(.ref b252)])) (fun τ κ => XS.aload X258.here hx rfl (hb hby at_103) rfl rfl κ) ?_
    obtain ⟨cl_o259, Ar_o259, q_o259, S_o259, M_o259, H_o259, G_o259⟩ := id V252
    refine Gl.st (g' := (mkF m 106 #[.val (.int x0), .val (.int x1), .val (.int x2), .val (.int x3), .val (.int x4), .val (.int (3 : Int32)), .val (.int (24 : Int32)), .val (.int c1), .val (.int c2), .val (.ref b235), .val (.ref b252), .val (.long ww), .second, .unset] [(.int (3 : Int32))])) (fun τ κ => X258.arraylength hx (by rw [e258]; exact Ar_o259.1) (State.isArrayOf_alike hZ.alike Ar_o259.2.1) (g := (mkF m 105 #[.val (.int x0), .val (.int x1), .val (.int x2), .val (.int x3), .val (.int x4), .val (.int (3 : Int32)), .val (.int (24 : Int32)), .val (.int c1), .val (.int c2), .val (.ref b235), .val (.ref b252), .val (.long ww), .second, .unset] [(.ref b252)])) rfl rfl (hb hby at_105) _ (by rw [len_of S_o259 M_o259]; exact κ)) ?_
    refine Gl.st (g' := (mkF m 108 #[.val (.int x0), .val (.int x1), .val (.int x2), .val (.int x3), .val (.int x4), .val (.int (3 : Int32)), .val (.int (24 : Int32)), .val (.int c1), .val (.int c2), .val (.ref b235), .val (.ref b252), .val (.long ww), .second, .unset] [(.int (3 : Int32)), (.int (3 : Int32))])) (fun τ κ => XS.iload X258.here hx rfl (hb hby at_106) rfl κ) ?_
    have hc260 : (3 : Int32) = (3 : Int32) := by decide
    refine Gl.st (g' := (mkF m 113 #[.val (.int x0), .val (.int x1), .val (.int x2), .val (.int x3), .val (.int x4), .val (.int (3 : Int32)), .val (.int (24 : Int32)), .val (.int c1), .val (.int c2), .val (.ref b235), .val (.ref b252), .val (.long ww), .second, .unset] [])) (fun τ κ => XS.icmpYes X258.here hx rfl (pc0 := 108) (pc' := 113) rfl (hb hby at_108) rfl (teq hc260).1 (by decide) (by decide) κ) ?_
    refine Gl.st (g' := (mkF m 114 #[.val (.int x0), .val (.int x1), .val (.int x2), .val (.int x3), .val (.int x4), .val (.int (3 : Int32)), .val (.int (24 : Int32)), .val (.int c1), .val (.int c2), .val (.ref b235), .val (.ref b252), .val (.long ww), .second, .unset] [(.int (1 : Int32))])) (fun τ κ => XS.iconst X258.here hx rfl (hb hby at_113) κ) ?_
    refine Gl.st (g' := (mkF m 116 #[.val (.int x0), .val (.int x1), .val (.int x2), .val (.int x3), .val (.int x4), .val (.int (3 : Int32)), .val (.int (24 : Int32)), .val (.int c1), .val (.int c2), .val (.ref b235), .val (.ref b252), .val (.long ww), .second, .val (.int (1 : Int32))] [])) (fun τ κ => XS.istore X258.here hx rfl (hb hby at_114) rfl (l' := #[.val (.int x0), .val (.int x1), .val (.int x2), .val (.int x3), .val (.int x4), .val (.int (3 : Int32)), .val (.int (24 : Int32)), .val (.int c1), .val (.int c2), .val (.ref b235), .val (.ref b252), .val (.long ww), .second, .val (.int (1 : Int32))]) rfl κ) ?_
    refine Gl.st (g' := (mkF m 118 #[.val (.int x0), .val (.int x1), .val (.int x2), .val (.int x3), .val (.int x4), .val (.int (3 : Int32)), .val (.int (24 : Int32)), .val (.int c1), .val (.int c2), .val (.ref b235), .val (.ref b252), .val (.long ww), .second, .val (.int (1 : Int32))] [(.int (3 : Int32))])) (fun τ κ => XS.iload X258.here hx rfl (hb hby at_116) rfl κ) ?_
    have hc261 : (0 : Int32) < (3 : Int32) := by decide
    refine Gl.st (g' := (mkF m 121 #[.val (.int x0), .val (.int x1), .val (.int x2), .val (.int x3), .val (.int x4), .val (.int (3 : Int32)), .val (.int (24 : Int32)), .val (.int c1), .val (.int c2), .val (.ref b235), .val (.ref b252), .val (.long ww), .second, .val (.int (1 : Int32))] [])) (fun τ κ => XS.ifNo X258.here hx rfl (hb hby at_118) rfl ((if0 _ _).trans (tlt hc261).2.2.2) κ) ?_
    refine Gl.st (g' := (mkF m 123 #[.val (.int x0), .val (.int x1), .val (.int x2), .val (.int x3), .val (.int x4), .val (.int (3 : Int32)), .val (.int (24 : Int32)), .val (.int c1), .val (.int c2), .val (.ref b235), .val (.ref b252), .val (.long ww), .second, .val (.int (1 : Int32))] [(.int (1 : Int32))])) (fun τ κ => XS.iload X258.here hx rfl (hb hby at_121) rfl κ) ?_
    have hc262 : ¬ ((1 : Int32) = (0 : Int32)) := by decide
    refine Gl.st (g' := (mkF m 126 #[.val (.int x0), .val (.int x1), .val (.int x2), .val (.int x3), .val (.int x4), .val (.int (3 : Int32)), .val (.int (24 : Int32)), .val (.int c1), .val (.int c2), .val (.ref b235), .val (.ref b252), .val (.long ww), .second, .val (.int (1 : Int32))] [])) (fun τ κ => XS.ifNo X258.here hx rfl (hb hby at_123) rfl ((if0 _ _).trans (feq hc262).1) κ) ?_
    refine Gl.st (g' := (mkF m 128 #[.val (.int x0), .val (.int x1), .val (.int x2), .val (.int x3), .val (.int x4), .val (.int (3 : Int32)), .val (.int (24 : Int32)), .val (.int c1), .val (.int c2), .val (.ref b235), .val (.ref b252), .val (.long ww), .second, .val (.int (1 : Int32))] [(.ref b252)])) (fun τ κ => XS.aload X258.here hx rfl (hb hby at_126) rfl rfl κ) ?_
    refine Gl.st (g' := (mkF m 129 #[.val (.int x0), .val (.int x1), .val (.int x2), .val (.int x3), .val (.int x4), .val (.int (3 : Int32)), .val (.int (24 : Int32)), .val (.int c1), .val (.int c2), .val (.ref b235), .val (.ref b252), .val (.long ww), .second, .val (.int (1 : Int32))] [(.int (0 : Int32)), (.ref b252)])) (fun τ κ => XS.iconst X258.here hx rfl (hb hby at_128) κ) ?_
    obtain ⟨cl_o263, Ar_o263, q_o263, S_o263, M_o263, H_o263, G_o263⟩ := id V252
    have hin_o263 : ¬ ((0 : Int32) < 0 ∨ cl_o263.slots.size ≤ ((0 : Int32)).toNatClampNeg) := inb_of S_o263 ⟨by decide, by decide⟩
    refine Gl.st (g' := (mkF m 130 #[.val (.int x0), .val (.int x1), .val (.int x2), .val (.int x3), .val (.int x4), .val (.int (3 : Int32)), .val (.int (24 : Int32)), .val (.int c1), .val (.int c2), .val (.ref b235), .val (.ref b252), .val (.long ww), .second, .val (.int (1 : Int32))] [(.int (own_by ((0 + (own_u x2 % 2 ^ r1) * 2 ^ (24 - 0 - r1)) + (own_u x4 % 2 ^ r2) * 2 ^ (24 - (0 + r1) - r2)) 0 &&& (255 : Int32)))])) (fun τ κ => X258.iaload hx (j := (0 : Int32)) (v := (.int (own_by ((0 + (own_u x2 % 2 ^ r1) * 2 ^ (24 - 0 - r1)) + (own_u x4 % 2 ^ r2) * 2 ^ (24 - (0 + r1) - r2)) 0 &&& (255 : Int32)))) (by rw [e258]; exact Ar_o263.1) (State.isArrayOf_alike hZ.alike Ar_o263.2.1) Ar_o263.2.2 hin_o263 (H_o263 0 (by rw [S_o263]; decide)) (g := (mkF m 129 #[.val (.int x0), .val (.int x1), .val (.int x2), .val (.int x3), .val (.int x4), .val (.int (3 : Int32)), .val (.int (24 : Int32)), .val (.int c1), .val (.int c2), .val (.ref b235), .val (.ref b252), .val (.long ww), .second, .val (.int (1 : Int32))] [(.int (0 : Int32)), (.ref b252)])) rfl rfl (hb hby at_129) _ κ) ?_
    refine Gl.st (g' := (mkF m 132 #[.val (.int x0), .val (.int x1), .val (.int x2), .val (.int x3), .val (.int x4), .val (.int (3 : Int32)), .val (.int (24 : Int32)), .val (.int c1), .val (.int c2), .val (.ref b235), .val (.ref b252), .val (.long ww), .second, .val (.int (1 : Int32))] [(.long ww), (.int (own_by ((0 + (own_u x2 % 2 ^ r1) * 2 ^ (24 - 0 - r1)) + (own_u x4 % 2 ^ r2) * 2 ^ (24 - (0 + r1) - r2)) 0 &&& (255 : Int32)))])) (fun τ κ => XS.lload X258.here hx rfl (hb hby at_130) rfl κ) ?_
    refine Gl.st (g' := (mkF m 133 #[.val (.int x0), .val (.int x1), .val (.int x2), .val (.int x3), .val (.int x4), .val (.int (3 : Int32)), .val (.int (24 : Int32)), .val (.int c1), .val (.int c2), .val (.ref b235), .val (.ref b252), .val (.long ww), .second, .val (.int (1 : Int32))] [(.int (0 : Int32)), (.long ww), (.int (own_by ((0 + (own_u x2 % 2 ^ r1) * 2 ^ (24 - 0 - r1)) + (own_u x4 % 2 ^ r2) * 2 ^ (24 - (0 + r1) - r2)) 0 &&& (255 : Int32)))])) (fun τ κ => XS.iconst X258.here hx rfl (hb hby at_132) κ) ?_
    obtain ⟨rv264, _, ⟨T264, L264, k264, n264⟩, -, X264, ⟨Lc264, hQ264, l264, y264, z264⟩, st264⟩ := Jvm.LawKit.callS X258 hx (y := (⟨"com/example/quietzone/quietzone/BitWriterToUnsignedBytesPinLaw", "expectedByte", "(JI)I"⟩ : MethodName)) hown (mvT hZ (hw _ (List.mem_of_getElem? (i := 31) rfl))) (mvT hZ (hw _ (List.mem_of_getElem? (i := 32) rfl))) (mvT hZ (hw _ (List.mem_of_getElem? (i := 26) rfl))) (mvT hZ (hw _ (List.mem_of_getElem? (i := 33) rfl))) (by decide) (backOf (W := 1) (rm6 l Z a0 hw [] ww (0 : Int32) T252.heap n0 Z252 ) hZ (hw _ (List.mem_of_getElem? (i := 33) rfl)) (hw _ (List.mem_of_getElem? (i := 26) rfl)) (by decide) (by decide)) (g := (mkF m 133 #[.val (.int x0), .val (.int x1), .val (.int x2), .val (.int x3), .val (.int x4), .val (.int (3 : Int32)), .val (.int (24 : Int32)), .val (.int c1), .val (.int c2), .val (.ref b235), .val (.ref b252), .val (.long ww), .second, .val (.int (1 : Int32))] [(.int (0 : Int32)), (.long ww), (.int (own_by ((0 + (own_u x2 % 2 ^ r1) * 2 ^ (24 - 0 - r1)) + (own_u x4 % 2 ^ r2) * 2 ^ (24 - (0 + r1) - r2)) 0 &&& (255 : Int32)))])) rfl (by rw [hml]; rfl) (argsL := [(.long ww), (.int (0 : Int32))]) (rest := [(.int (own_by ((0 + (own_u x2 % 2 ^ r1) * 2 ^ (24 - 0 - r1)) + (own_u x4 % 2 ^ r2) * 2 ^ (24 - (0 + r1) - r2)) 0 &&& (255 : Int32)))]) (lenOf pd_4 rfl) rfl (by show 2 * 0 + _ ≤ _; exact Nat.le_of_eq rfl) (hb hby at_133) (fun _ _ => ⟨rfl, e258, (by decide : 3 + 0 ≤ _), (by decide : 8 + 0 ≤ _)⟩)
    dsimp only [Pt.U, Pt.locs, Pt.cells, Pt.slots] at X264 l264 y264 z264 st264 hQ264
    subst l264 y264 z264
    obtain ⟨rfl, N264q, e264⟩ := hQ264
    have N264 := Fr.app N258 N264q
    refine Gl.st (g' := (mkF m 136 #[.val (.int x0), .val (.int x1), .val (.int x2), .val (.int x3), .val (.int x4), .val (.int (3 : Int32)), .val (.int (24 : Int32)), .val (.int c1), .val (.int c2), .val (.ref b235), .val (.ref b252), .val (.long ww), .second, .val (.int (1 : Int32))] [(.int (own_eb ww (0 : Int32))), (.int (own_by ((0 + (own_u x2 % 2 ^ r1) * 2 ^ (24 - 0 - r1)) + (own_u x4 % 2 ^ r2) * 2 ^ (24 - (0 + r1) - r2)) 0 &&& (255 : Int32)))])) (fun τ κ => st264 _ κ) ?_
    have hc265 : (own_by ((0 + (own_u x2 % 2 ^ r1) * 2 ^ (24 - 0 - r1)) + (own_u x4 % 2 ^ r2) * 2 ^ (24 - (0 + r1) - r2)) 0 &&& (255 : Int32)) = (own_eb ww (0 : Int32)) := hC.1
    refine Gl.st (g' := (mkF m 139 #[.val (.int x0), .val (.int x1), .val (.int x2), .val (.int x3), .val (.int x4), .val (.int (3 : Int32)), .val (.int (24 : Int32)), .val (.int c1), .val (.int c2), .val (.ref b235), .val (.ref b252), .val (.long ww), .second, .val (.int (1 : Int32))] [])) (fun τ κ => XS.icmpNo X264.here hx rfl (hb hby at_136) rfl (teq hc265).2 κ) ?_
    refine Gl.st (g' := (mkF m 140 #[.val (.int x0), .val (.int x1), .val (.int x2), .val (.int x3), .val (.int x4), .val (.int (3 : Int32)), .val (.int (24 : Int32)), .val (.int c1), .val (.int c2), .val (.ref b235), .val (.ref b252), .val (.long ww), .second, .val (.int (1 : Int32))] [(.int (1 : Int32))])) (fun τ κ => XS.iconst X264.here hx rfl (hb hby at_139) κ) ?_
    refine Gl.st (g' := (mkF m 144 #[.val (.int x0), .val (.int x1), .val (.int x2), .val (.int x3), .val (.int x4), .val (.int (3 : Int32)), .val (.int (24 : Int32)), .val (.int c1), .val (.int c2), .val (.ref b235), .val (.ref b252), .val (.long ww), .second, .val (.int (1 : Int32))] [(.int (1 : Int32))])) (fun τ κ => XS.goto X264.here hx rfl (pc0 := 140) (pc' := 144) rfl (hb hby at_140) (by decide) (by decide) κ) ?_
    refine Gl.st (g' := (mkF m 146 #[.val (.int x0), .val (.int x1), .val (.int x2), .val (.int x3), .val (.int x4), .val (.int (3 : Int32)), .val (.int (24 : Int32)), .val (.int c1), .val (.int c2), .val (.ref b235), .val (.ref b252), .val (.long ww), .second, .val (.int (1 : Int32))] [])) (fun τ κ => XS.istore X264.here hx rfl (hb hby at_144) rfl (l' := #[.val (.int x0), .val (.int x1), .val (.int x2), .val (.int x3), .val (.int x4), .val (.int (3 : Int32)), .val (.int (24 : Int32)), .val (.int c1), .val (.int c2), .val (.ref b235), .val (.ref b252), .val (.long ww), .second, .val (.int (1 : Int32))]) rfl κ) ?_
    refine Gl.st (g' := (mkF m 148 #[.val (.int x0), .val (.int x1), .val (.int x2), .val (.int x3), .val (.int x4), .val (.int (3 : Int32)), .val (.int (24 : Int32)), .val (.int c1), .val (.int c2), .val (.ref b235), .val (.ref b252), .val (.long ww), .second, .val (.int (1 : Int32))] [(.int (3 : Int32))])) (fun τ κ => XS.iload X264.here hx rfl (hb hby at_146) rfl κ) ?_
    refine Gl.st (g' := (mkF m 149 #[.val (.int x0), .val (.int x1), .val (.int x2), .val (.int x3), .val (.int x4), .val (.int (3 : Int32)), .val (.int (24 : Int32)), .val (.int c1), .val (.int c2), .val (.ref b235), .val (.ref b252), .val (.long ww), .second, .val (.int (1 : Int32))] [(.int (1 : Int32)), (.int (3 : Int32))])) (fun τ κ => XS.iconst X264.here hx rfl (hb hby at_148) κ) ?_
    have hc266 : (1 : Int32) < (3 : Int32) := by decide
    refine Gl.st (g' := (mkF m 152 #[.val (.int x0), .val (.int x1), .val (.int x2), .val (.int x3), .val (.int x4), .val (.int (3 : Int32)), .val (.int (24 : Int32)), .val (.int c1), .val (.int c2), .val (.ref b235), .val (.ref b252), .val (.long ww), .second, .val (.int (1 : Int32))] [])) (fun τ κ => XS.icmpNo X264.here hx rfl (hb hby at_149) rfl (tlt hc266).2.2.2 κ) ?_
    refine Gl.st (g' := (mkF m 154 #[.val (.int x0), .val (.int x1), .val (.int x2), .val (.int x3), .val (.int x4), .val (.int (3 : Int32)), .val (.int (24 : Int32)), .val (.int c1), .val (.int c2), .val (.ref b235), .val (.ref b252), .val (.long ww), .second, .val (.int (1 : Int32))] [(.int (1 : Int32))])) (fun τ κ => XS.iload X264.here hx rfl (hb hby at_152) rfl κ) ?_
    have hc267 : ¬ ((1 : Int32) = (0 : Int32)) := by decide
    refine Gl.st (g' := (mkF m 157 #[.val (.int x0), .val (.int x1), .val (.int x2), .val (.int x3), .val (.int x4), .val (.int (3 : Int32)), .val (.int (24 : Int32)), .val (.int c1), .val (.int c2), .val (.ref b235), .val (.ref b252), .val (.long ww), .second, .val (.int (1 : Int32))] [])) (fun τ κ => XS.ifNo X264.here hx rfl (hb hby at_154) rfl ((if0 _ _).trans (feq hc267).1) κ) ?_
    refine Gl.st (g' := (mkF m 159 #[.val (.int x0), .val (.int x1), .val (.int x2), .val (.int x3), .val (.int x4), .val (.int (3 : Int32)), .val (.int (24 : Int32)), .val (.int c1), .val (.int c2), .val (.ref b235), .val (.ref b252), .val (.long ww), .second, .val (.int (1 : Int32))] [(.ref b252)])) (fun τ κ => XS.aload X264.here hx rfl (hb hby at_157) rfl rfl κ) ?_
    refine Gl.st (g' := (mkF m 160 #[.val (.int x0), .val (.int x1), .val (.int x2), .val (.int x3), .val (.int x4), .val (.int (3 : Int32)), .val (.int (24 : Int32)), .val (.int c1), .val (.int c2), .val (.ref b235), .val (.ref b252), .val (.long ww), .second, .val (.int (1 : Int32))] [(.int (1 : Int32)), (.ref b252)])) (fun τ κ => XS.iconst X264.here hx rfl (hb hby at_159) κ) ?_
    obtain ⟨cl_o268, Ar_o268, q_o268, S_o268, M_o268, H_o268, G_o268⟩ := id V252
    have hin_o268 : ¬ ((1 : Int32) < 0 ∨ cl_o268.slots.size ≤ ((1 : Int32)).toNatClampNeg) := inb_of S_o268 ⟨by decide, by decide⟩
    refine Gl.st (g' := (mkF m 161 #[.val (.int x0), .val (.int x1), .val (.int x2), .val (.int x3), .val (.int x4), .val (.int (3 : Int32)), .val (.int (24 : Int32)), .val (.int c1), .val (.int c2), .val (.ref b235), .val (.ref b252), .val (.long ww), .second, .val (.int (1 : Int32))] [(.int (own_by ((0 + (own_u x2 % 2 ^ r1) * 2 ^ (24 - 0 - r1)) + (own_u x4 % 2 ^ r2) * 2 ^ (24 - (0 + r1) - r2)) 1 &&& (255 : Int32)))])) (fun τ κ => X264.iaload hx (j := (1 : Int32)) (v := (.int (own_by ((0 + (own_u x2 % 2 ^ r1) * 2 ^ (24 - 0 - r1)) + (own_u x4 % 2 ^ r2) * 2 ^ (24 - (0 + r1) - r2)) 1 &&& (255 : Int32)))) (by rw [e264]; exact Ar_o268.1) (State.isArrayOf_alike hZ.alike Ar_o268.2.1) Ar_o268.2.2 hin_o268 (H_o268 1 (by rw [S_o268]; decide)) (g := (mkF m 160 #[.val (.int x0), .val (.int x1), .val (.int x2), .val (.int x3), .val (.int x4), .val (.int (3 : Int32)), .val (.int (24 : Int32)), .val (.int c1), .val (.int c2), .val (.ref b235), .val (.ref b252), .val (.long ww), .second, .val (.int (1 : Int32))] [(.int (1 : Int32)), (.ref b252)])) rfl rfl (hb hby at_160) _ κ) ?_
    refine Gl.st (g' := (mkF m 163 #[.val (.int x0), .val (.int x1), .val (.int x2), .val (.int x3), .val (.int x4), .val (.int (3 : Int32)), .val (.int (24 : Int32)), .val (.int c1), .val (.int c2), .val (.ref b235), .val (.ref b252), .val (.long ww), .second, .val (.int (1 : Int32))] [(.long ww), (.int (own_by ((0 + (own_u x2 % 2 ^ r1) * 2 ^ (24 - 0 - r1)) + (own_u x4 % 2 ^ r2) * 2 ^ (24 - (0 + r1) - r2)) 1 &&& (255 : Int32)))])) (fun τ κ => XS.lload X264.here hx rfl (hb hby at_161) rfl κ) ?_
    refine Gl.st (g' := (mkF m 164 #[.val (.int x0), .val (.int x1), .val (.int x2), .val (.int x3), .val (.int x4), .val (.int (3 : Int32)), .val (.int (24 : Int32)), .val (.int c1), .val (.int c2), .val (.ref b235), .val (.ref b252), .val (.long ww), .second, .val (.int (1 : Int32))] [(.int (1 : Int32)), (.long ww), (.int (own_by ((0 + (own_u x2 % 2 ^ r1) * 2 ^ (24 - 0 - r1)) + (own_u x4 % 2 ^ r2) * 2 ^ (24 - (0 + r1) - r2)) 1 &&& (255 : Int32)))])) (fun τ κ => XS.iconst X264.here hx rfl (hb hby at_163) κ) ?_
    obtain ⟨rv269, _, ⟨T269, L269, k269, n269⟩, -, X269, ⟨Lc269, hQ269, l269, y269, z269⟩, st269⟩ := Jvm.LawKit.callS X264 hx (y := (⟨"com/example/quietzone/quietzone/BitWriterToUnsignedBytesPinLaw", "expectedByte", "(JI)I"⟩ : MethodName)) hown (mvT hZ (hw _ (List.mem_of_getElem? (i := 31) rfl))) (mvT hZ (hw _ (List.mem_of_getElem? (i := 32) rfl))) (mvT hZ (hw _ (List.mem_of_getElem? (i := 26) rfl))) (mvT hZ (hw _ (List.mem_of_getElem? (i := 33) rfl))) (by decide) (backOf (W := 1) (rm6 l Z a0 hw [] ww (1 : Int32) T252.heap n0 Z252 ) hZ (hw _ (List.mem_of_getElem? (i := 33) rfl)) (hw _ (List.mem_of_getElem? (i := 26) rfl)) (by decide) (by decide)) (g := (mkF m 164 #[.val (.int x0), .val (.int x1), .val (.int x2), .val (.int x3), .val (.int x4), .val (.int (3 : Int32)), .val (.int (24 : Int32)), .val (.int c1), .val (.int c2), .val (.ref b235), .val (.ref b252), .val (.long ww), .second, .val (.int (1 : Int32))] [(.int (1 : Int32)), (.long ww), (.int (own_by ((0 + (own_u x2 % 2 ^ r1) * 2 ^ (24 - 0 - r1)) + (own_u x4 % 2 ^ r2) * 2 ^ (24 - (0 + r1) - r2)) 1 &&& (255 : Int32)))])) rfl (by rw [hml]; rfl) (argsL := [(.long ww), (.int (1 : Int32))]) (rest := [(.int (own_by ((0 + (own_u x2 % 2 ^ r1) * 2 ^ (24 - 0 - r1)) + (own_u x4 % 2 ^ r2) * 2 ^ (24 - (0 + r1) - r2)) 1 &&& (255 : Int32)))]) (lenOf pd_4 rfl) rfl (by show 2 * 0 + _ ≤ _; exact Nat.le_of_eq rfl) (hb hby at_164) (fun _ _ => ⟨rfl, e264, (by decide : 3 + 0 ≤ _), (by decide : 8 + 0 ≤ _)⟩)
    dsimp only [Pt.U, Pt.locs, Pt.cells, Pt.slots] at X269 l269 y269 z269 st269 hQ269
    subst l269 y269 z269
    obtain ⟨rfl, N269q, e269⟩ := hQ269
    have N269 := Fr.app N264 N269q
    refine Gl.st (g' := (mkF m 167 #[.val (.int x0), .val (.int x1), .val (.int x2), .val (.int x3), .val (.int x4), .val (.int (3 : Int32)), .val (.int (24 : Int32)), .val (.int c1), .val (.int c2), .val (.ref b235), .val (.ref b252), .val (.long ww), .second, .val (.int (1 : Int32))] [(.int (own_eb ww (1 : Int32))), (.int (own_by ((0 + (own_u x2 % 2 ^ r1) * 2 ^ (24 - 0 - r1)) + (own_u x4 % 2 ^ r2) * 2 ^ (24 - (0 + r1) - r2)) 1 &&& (255 : Int32)))])) (fun τ κ => st269 _ κ) ?_
    have hc270 : (own_by ((0 + (own_u x2 % 2 ^ r1) * 2 ^ (24 - 0 - r1)) + (own_u x4 % 2 ^ r2) * 2 ^ (24 - (0 + r1) - r2)) 1 &&& (255 : Int32)) = (own_eb ww (1 : Int32)) := hC.2.1
    refine Gl.st (g' := (mkF m 170 #[.val (.int x0), .val (.int x1), .val (.int x2), .val (.int x3), .val (.int x4), .val (.int (3 : Int32)), .val (.int (24 : Int32)), .val (.int c1), .val (.int c2), .val (.ref b235), .val (.ref b252), .val (.long ww), .second, .val (.int (1 : Int32))] [])) (fun τ κ => XS.icmpNo X269.here hx rfl (hb hby at_167) rfl (teq hc270).2 κ) ?_
    refine Gl.st (g' := (mkF m 171 #[.val (.int x0), .val (.int x1), .val (.int x2), .val (.int x3), .val (.int x4), .val (.int (3 : Int32)), .val (.int (24 : Int32)), .val (.int c1), .val (.int c2), .val (.ref b235), .val (.ref b252), .val (.long ww), .second, .val (.int (1 : Int32))] [(.int (1 : Int32))])) (fun τ κ => XS.iconst X269.here hx rfl (hb hby at_170) κ) ?_
    refine Gl.st (g' := (mkF m 175 #[.val (.int x0), .val (.int x1), .val (.int x2), .val (.int x3), .val (.int x4), .val (.int (3 : Int32)), .val (.int (24 : Int32)), .val (.int c1), .val (.int c2), .val (.ref b235), .val (.ref b252), .val (.long ww), .second, .val (.int (1 : Int32))] [(.int (1 : Int32))])) (fun τ κ => XS.goto X269.here hx rfl (pc0 := 171) (pc' := 175) rfl (hb hby at_171) (by decide) (by decide) κ) ?_
    refine Gl.st (g' := (mkF m 177 #[.val (.int x0), .val (.int x1), .val (.int x2), .val (.int x3), .val (.int x4), .val (.int (3 : Int32)), .val (.int (24 : Int32)), .val (.int c1), .val (.int c2), .val (.ref b235), .val (.ref b252), .val (.long ww), .second, .val (.int (1 : Int32))] [])) (fun τ κ => XS.istore X269.here hx rfl (hb hby at_175) rfl (l' := #[.val (.int x0), .val (.int x1), .val (.int x2), .val (.int x3), .val (.int x4), .val (.int (3 : Int32)), .val (.int (24 : Int32)), .val (.int c1), .val (.int c2), .val (.ref b235), .val (.ref b252), .val (.long ww), .second, .val (.int (1 : Int32))]) rfl κ) ?_
    refine Gl.st (g' := (mkF m 179 #[.val (.int x0), .val (.int x1), .val (.int x2), .val (.int x3), .val (.int x4), .val (.int (3 : Int32)), .val (.int (24 : Int32)), .val (.int c1), .val (.int c2), .val (.ref b235), .val (.ref b252), .val (.long ww), .second, .val (.int (1 : Int32))] [(.int (3 : Int32))])) (fun τ κ => XS.iload X269.here hx rfl (hb hby at_177) rfl κ) ?_
    refine Gl.st (g' := (mkF m 180 #[.val (.int x0), .val (.int x1), .val (.int x2), .val (.int x3), .val (.int x4), .val (.int (3 : Int32)), .val (.int (24 : Int32)), .val (.int c1), .val (.int c2), .val (.ref b235), .val (.ref b252), .val (.long ww), .second, .val (.int (1 : Int32))] [(.int (2 : Int32)), (.int (3 : Int32))])) (fun τ κ => XS.iconst X269.here hx rfl (hb hby at_179) κ) ?_
    have hc271 : (2 : Int32) < (3 : Int32) := by decide
    refine Gl.st (g' := (mkF m 183 #[.val (.int x0), .val (.int x1), .val (.int x2), .val (.int x3), .val (.int x4), .val (.int (3 : Int32)), .val (.int (24 : Int32)), .val (.int c1), .val (.int c2), .val (.ref b235), .val (.ref b252), .val (.long ww), .second, .val (.int (1 : Int32))] [])) (fun τ κ => XS.icmpNo X269.here hx rfl (hb hby at_180) rfl (tlt hc271).2.2.2 κ) ?_
    refine Gl.st (g' := (mkF m 185 #[.val (.int x0), .val (.int x1), .val (.int x2), .val (.int x3), .val (.int x4), .val (.int (3 : Int32)), .val (.int (24 : Int32)), .val (.int c1), .val (.int c2), .val (.ref b235), .val (.ref b252), .val (.long ww), .second, .val (.int (1 : Int32))] [(.int (1 : Int32))])) (fun τ κ => XS.iload X269.here hx rfl (hb hby at_183) rfl κ) ?_
    have hc272 : ¬ ((1 : Int32) = (0 : Int32)) := by decide
    refine Gl.st (g' := (mkF m 188 #[.val (.int x0), .val (.int x1), .val (.int x2), .val (.int x3), .val (.int x4), .val (.int (3 : Int32)), .val (.int (24 : Int32)), .val (.int c1), .val (.int c2), .val (.ref b235), .val (.ref b252), .val (.long ww), .second, .val (.int (1 : Int32))] [])) (fun τ κ => XS.ifNo X269.here hx rfl (hb hby at_185) rfl ((if0 _ _).trans (feq hc272).1) κ) ?_
    refine Gl.st (g' := (mkF m 190 #[.val (.int x0), .val (.int x1), .val (.int x2), .val (.int x3), .val (.int x4), .val (.int (3 : Int32)), .val (.int (24 : Int32)), .val (.int c1), .val (.int c2), .val (.ref b235), .val (.ref b252), .val (.long ww), .second, .val (.int (1 : Int32))] [(.ref b252)])) (fun τ κ => XS.aload X269.here hx rfl (hb hby at_188) rfl rfl κ) ?_
    refine Gl.st (g' := (mkF m 191 #[.val (.int x0), .val (.int x1), .val (.int x2), .val (.int x3), .val (.int x4), .val (.int (3 : Int32)), .val (.int (24 : Int32)), .val (.int c1), .val (.int c2), .val (.ref b235), .val (.ref b252), .val (.long ww), .second, .val (.int (1 : Int32))] [(.int (2 : Int32)), (.ref b252)])) (fun τ κ => XS.iconst X269.here hx rfl (hb hby at_190) κ) ?_
    obtain ⟨cl_o273, Ar_o273, q_o273, S_o273, M_o273, H_o273, G_o273⟩ := id V252
    have hin_o273 : ¬ ((2 : Int32) < 0 ∨ cl_o273.slots.size ≤ ((2 : Int32)).toNatClampNeg) := inb_of S_o273 ⟨by decide, by decide⟩
    refine Gl.st (g' := (mkF m 192 #[.val (.int x0), .val (.int x1), .val (.int x2), .val (.int x3), .val (.int x4), .val (.int (3 : Int32)), .val (.int (24 : Int32)), .val (.int c1), .val (.int c2), .val (.ref b235), .val (.ref b252), .val (.long ww), .second, .val (.int (1 : Int32))] [(.int (own_by ((0 + (own_u x2 % 2 ^ r1) * 2 ^ (24 - 0 - r1)) + (own_u x4 % 2 ^ r2) * 2 ^ (24 - (0 + r1) - r2)) 2 &&& (255 : Int32)))])) (fun τ κ => X269.iaload hx (j := (2 : Int32)) (v := (.int (own_by ((0 + (own_u x2 % 2 ^ r1) * 2 ^ (24 - 0 - r1)) + (own_u x4 % 2 ^ r2) * 2 ^ (24 - (0 + r1) - r2)) 2 &&& (255 : Int32)))) (by rw [e269]; exact Ar_o273.1) (State.isArrayOf_alike hZ.alike Ar_o273.2.1) Ar_o273.2.2 hin_o273 (H_o273 2 (by rw [S_o273]; decide)) (g := (mkF m 191 #[.val (.int x0), .val (.int x1), .val (.int x2), .val (.int x3), .val (.int x4), .val (.int (3 : Int32)), .val (.int (24 : Int32)), .val (.int c1), .val (.int c2), .val (.ref b235), .val (.ref b252), .val (.long ww), .second, .val (.int (1 : Int32))] [(.int (2 : Int32)), (.ref b252)])) rfl rfl (hb hby at_191) _ κ) ?_
    refine Gl.st (g' := (mkF m 194 #[.val (.int x0), .val (.int x1), .val (.int x2), .val (.int x3), .val (.int x4), .val (.int (3 : Int32)), .val (.int (24 : Int32)), .val (.int c1), .val (.int c2), .val (.ref b235), .val (.ref b252), .val (.long ww), .second, .val (.int (1 : Int32))] [(.long ww), (.int (own_by ((0 + (own_u x2 % 2 ^ r1) * 2 ^ (24 - 0 - r1)) + (own_u x4 % 2 ^ r2) * 2 ^ (24 - (0 + r1) - r2)) 2 &&& (255 : Int32)))])) (fun τ κ => XS.lload X269.here hx rfl (hb hby at_192) rfl κ) ?_
    refine Gl.st (g' := (mkF m 195 #[.val (.int x0), .val (.int x1), .val (.int x2), .val (.int x3), .val (.int x4), .val (.int (3 : Int32)), .val (.int (24 : Int32)), .val (.int c1), .val (.int c2), .val (.ref b235), .val (.ref b252), .val (.long ww), .second, .val (.int (1 : Int32))] [(.int (2 : Int32)), (.long ww), (.int (own_by ((0 + (own_u x2 % 2 ^ r1) * 2 ^ (24 - 0 - r1)) + (own_u x4 % 2 ^ r2) * 2 ^ (24 - (0 + r1) - r2)) 2 &&& (255 : Int32)))])) (fun τ κ => XS.iconst X269.here hx rfl (hb hby at_194) κ) ?_
    obtain ⟨rv274, _, ⟨T274, L274, k274, n274⟩, -, X274, ⟨Lc274, hQ274, l274, y274, z274⟩, st274⟩ := Jvm.LawKit.callS X269 hx (y := (⟨"com/example/quietzone/quietzone/BitWriterToUnsignedBytesPinLaw", "expectedByte", "(JI)I"⟩ : MethodName)) hown (mvT hZ (hw _ (List.mem_of_getElem? (i := 31) rfl))) (mvT hZ (hw _ (List.mem_of_getElem? (i := 32) rfl))) (mvT hZ (hw _ (List.mem_of_getElem? (i := 26) rfl))) (mvT hZ (hw _ (List.mem_of_getElem? (i := 33) rfl))) (by decide) (backOf (W := 1) (rm6 l Z a0 hw [] ww (2 : Int32) T252.heap n0 Z252 ) hZ (hw _ (List.mem_of_getElem? (i := 33) rfl)) (hw _ (List.mem_of_getElem? (i := 26) rfl)) (by decide) (by decide)) (g := (mkF m 195 #[.val (.int x0), .val (.int x1), .val (.int x2), .val (.int x3), .val (.int x4), .val (.int (3 : Int32)), .val (.int (24 : Int32)), .val (.int c1), .val (.int c2), .val (.ref b235), .val (.ref b252), .val (.long ww), .second, .val (.int (1 : Int32))] [(.int (2 : Int32)), (.long ww), (.int (own_by ((0 + (own_u x2 % 2 ^ r1) * 2 ^ (24 - 0 - r1)) + (own_u x4 % 2 ^ r2) * 2 ^ (24 - (0 + r1) - r2)) 2 &&& (255 : Int32)))])) rfl (by rw [hml]; rfl) (argsL := [(.long ww), (.int (2 : Int32))]) (rest := [(.int (own_by ((0 + (own_u x2 % 2 ^ r1) * 2 ^ (24 - 0 - r1)) + (own_u x4 % 2 ^ r2) * 2 ^ (24 - (0 + r1) - r2)) 2 &&& (255 : Int32)))]) (lenOf pd_4 rfl) rfl (by show 2 * 0 + _ ≤ _; exact Nat.le_of_eq rfl) (hb hby at_195) (fun _ _ => ⟨rfl, e269, (by decide : 3 + 0 ≤ _), (by decide : 8 + 0 ≤ _)⟩)
    dsimp only [Pt.U, Pt.locs, Pt.cells, Pt.slots] at X274 l274 y274 z274 st274 hQ274
    subst l274 y274 z274
    obtain ⟨rfl, N274q, e274⟩ := hQ274
    have N274 := Fr.app N269 N274q
    refine Gl.st (g' := (mkF m 198 #[.val (.int x0), .val (.int x1), .val (.int x2), .val (.int x3), .val (.int x4), .val (.int (3 : Int32)), .val (.int (24 : Int32)), .val (.int c1), .val (.int c2), .val (.ref b235), .val (.ref b252), .val (.long ww), .second, .val (.int (1 : Int32))] [(.int (own_eb ww (2 : Int32))), (.int (own_by ((0 + (own_u x2 % 2 ^ r1) * 2 ^ (24 - 0 - r1)) + (own_u x4 % 2 ^ r2) * 2 ^ (24 - (0 + r1) - r2)) 2 &&& (255 : Int32)))])) (fun τ κ => st274 _ κ) ?_
    have hc275 : (own_by ((0 + (own_u x2 % 2 ^ r1) * 2 ^ (24 - 0 - r1)) + (own_u x4 % 2 ^ r2) * 2 ^ (24 - (0 + r1) - r2)) 2 &&& (255 : Int32)) = (own_eb ww (2 : Int32)) := hC.2.2
    refine Gl.st (g' := (mkF m 201 #[.val (.int x0), .val (.int x1), .val (.int x2), .val (.int x3), .val (.int x4), .val (.int (3 : Int32)), .val (.int (24 : Int32)), .val (.int c1), .val (.int c2), .val (.ref b235), .val (.ref b252), .val (.long ww), .second, .val (.int (1 : Int32))] [])) (fun τ κ => XS.icmpNo X274.here hx rfl (hb hby at_198) rfl (teq hc275).2 κ) ?_
    refine Gl.st (g' := (mkF m 202 #[.val (.int x0), .val (.int x1), .val (.int x2), .val (.int x3), .val (.int x4), .val (.int (3 : Int32)), .val (.int (24 : Int32)), .val (.int c1), .val (.int c2), .val (.ref b235), .val (.ref b252), .val (.long ww), .second, .val (.int (1 : Int32))] [(.int (1 : Int32))])) (fun τ κ => XS.iconst X274.here hx rfl (hb hby at_201) κ) ?_
    refine Gl.st (g' := (mkF m 206 #[.val (.int x0), .val (.int x1), .val (.int x2), .val (.int x3), .val (.int x4), .val (.int (3 : Int32)), .val (.int (24 : Int32)), .val (.int c1), .val (.int c2), .val (.ref b235), .val (.ref b252), .val (.long ww), .second, .val (.int (1 : Int32))] [(.int (1 : Int32))])) (fun τ κ => XS.goto X274.here hx rfl (pc0 := 202) (pc' := 206) rfl (hb hby at_202) (by decide) (by decide) κ) ?_
    refine Gl.st (g' := (mkF m 208 #[.val (.int x0), .val (.int x1), .val (.int x2), .val (.int x3), .val (.int x4), .val (.int (3 : Int32)), .val (.int (24 : Int32)), .val (.int c1), .val (.int c2), .val (.ref b235), .val (.ref b252), .val (.long ww), .second, .val (.int (1 : Int32))] [])) (fun τ κ => XS.istore X274.here hx rfl (hb hby at_206) rfl (l' := #[.val (.int x0), .val (.int x1), .val (.int x2), .val (.int x3), .val (.int x4), .val (.int (3 : Int32)), .val (.int (24 : Int32)), .val (.int c1), .val (.int c2), .val (.ref b235), .val (.ref b252), .val (.long ww), .second, .val (.int (1 : Int32))]) rfl κ) ?_
    refine Gl.st (g' := (mkF m 210 #[.val (.int x0), .val (.int x1), .val (.int x2), .val (.int x3), .val (.int x4), .val (.int (3 : Int32)), .val (.int (24 : Int32)), .val (.int c1), .val (.int c2), .val (.ref b235), .val (.ref b252), .val (.long ww), .second, .val (.int (1 : Int32))] [(.int (1 : Int32))])) (fun τ κ => XS.iload X274.here hx rfl (hb hby at_208) rfl κ) ?_
    exact Gl.ret (v := some (.int (1 : Int32))) X274 Bd.notSynchronized (fun h => by rw [Bd.returns] at h; cases h) e274 (fun fs hr => retN X274 hx (t := .boolean) Bd.returns (by simp) (hb hby at_210) hr) (by decide) (by decide) ⟨rfl, N274⟩
set_option maxRecDepth 65536 in
set_option maxHeartbeats 40000000 in
theorem comes_1 {Post : Tables → Env → Array Value → State → Outcome → State → Prop} (hpost : ∀ tb e args s v u, (limb_1_1.after args s (.returned v) u = true ∧ limb_1_2.after args s (.returned v) u = true ∧ True) → FrameEnd s (.returned v) u (Jvm.fieldLocs frame_1_writes args s ++ Jvm.arrayLocs frame_1_arrays args s ++ Jvm.staticLocs frame_1_statics s) 16 128 → Post tb e args s (.returned v) u) :
    ArmFor flags0 classFile x code maxLocals ret World_1 tables_1 room_1 Calls_1 rest_1 Pre_1 Post := by
  intro l hfl _ _ p e ha hc hk s m args below hf hA hF happ hP
  obtain ⟨hcalls, hrest, hpre⟩ := hP
  obtain ⟨-, -, -, hnamed, -, -, -, hat⟩ := (Spec.applies_iff hf).mp happ
  obtain ⟨hg, hn⟩ := and_e (Cond.before_iff.mp (show (Jvm.Cond.and given_1 narrow_1).before args s = true from hpre))
  obtain ⟨hcount, hg0⟩ := and_e hg
  obtain ⟨gi0, hg1⟩ := and_e hg0
  obtain ⟨gi1, hg2⟩ := and_e hg1
  obtain ⟨gi2, hg3⟩ := and_e hg2
  obtain ⟨gi3, hg4⟩ := and_e hg3
  have gi4 := hg4
  obtain ⟨w0, w1, w2, w3, w4, rfl⟩ : ∃ w0 w1 w2 w3 w4 : Value, args = #[w0, w1, w2, w3, w4] := by
    have hs : args.size = 5 := by simpa [Cond.value, given_1] using hcount
    obtain ⟨L⟩ := args
    match L, hs with
    | [w0, w1, w2, w3, w4], _ => exact ⟨w0, w1, w2, w3, w4, rfl⟩
  have hw := fun d (hd : d ∈ tables_1) => atoms_spec (ws := Jvm.Cond.code x code maxLocals ret :: tables_1) hat d (List.mem_cons_of_mem _ hd)
  obtain ⟨i0, ei0⟩ := is_v gi0
  obtain rfl : w0 = (.int i0) := Option.some.inj ei0
  obtain ⟨i1, ei1⟩ := is_v gi1
  obtain rfl : w1 = (.int i1) := Option.some.inj ei1
  obtain ⟨i2, ei2⟩ := is_v gi2
  obtain rfl : w2 = (.int i2) := Option.some.inj ei2
  obtain ⟨i3, ei3⟩ := is_v gi3
  obtain rfl : w3 = (.int i3) := Option.some.inj ei3
  obtain ⟨i4, ei4⟩ := is_v gi4
  obtain rfl : w4 = (.int i4) := Option.some.inj ei4
  obtain ⟨n, o, h1, h2, h3, _, L, rfl, ⟨rfl, N⟩, hq⟩ := rm0 l s _ hw tables_1 i0 i1 i2 i3 i4  s.heap s.heap.size (Nat.le_refl _)  p e ha hc hk s m _ below hf ((Spec.applies_iff_loose hf).mp happ).1 ⟨rfl, State.Warmed39.refl s, rfl⟩ trivial
  refine ⟨n, _, h1, h2, h3, hpost _ _ _ _ _ _ ⟨Cond.after_iff.mpr rfl, Cond.after_iff.mpr (eq_i res_at (Term.int_eval (1)) rfl), trivial⟩ ⟨hq.1, hq.2.1, (hq.2.2.sift fun y hy => Or.inr (N y hy)).mono (by decide) (by decide)⟩⟩
theorem main_1_1 : Claimed_1_1 := comes_1 fun _ _ _ _ _ _ h hF => ⟨h.1, hF⟩
theorem main_1_2 : Claimed_1_2 := comes_1 fun _ _ _ _ _ _ h hF => ⟨h.2.1, hF⟩
end Jvm.Pilot.@@N@@
namespace Jvm.Pilot.@@N@@
open Jvm Jvm.ClassFile Sem Op Lib Jvm.Free Jvm.Stand Jvm.Pilot.@@N@@.Jvm.D
/-! MADE BY PROGRAM (witnessworld.py) out of the Statement's table words and the real class files: 9 classes; the members and pool entries that the words name. The judged class is class 1, her method 3. -/
namespace start1
open Jvm.ClassFile
def u (s : String) : CpInfo := .utf8 (stringToUtf16 s)
/-- a pool by its gaps: so many unusable entries, then the entry; so many at the end -/
def gap : Nat → List CpInfo → List CpInfo
  | 0, r => r
  | n + 1, r => .unusable :: gap n r
def poolList (es : List (Nat × CpInfo)) (last : Nat) : List CpInfo := es.foldr (fun e r => gap e.1 (e.2 :: r)) (gap last [])
def pool (es : List (Nat × CpInfo)) (last : Nat) : Array CpInfo := ⟨poolList es last⟩
def fileOf (pool : Array CpInfo) (this : Nat) (attrs : Array Attribute := #[]) (ms : Array MethodInfo := #[]) (fl : Nat := 33) (sup : Nat := 0) (ifs : Array Nat := #[]) (fds : Array FieldInfo := #[]) : ClassFile where
  minorVersion := 0
  majorVersion := 65
  constantPool := pool
  accessFlags := fl
  thisClass := this
  superClass := sup
  interfaces := ifs
  fields := fds
  methods := ms
  attributes := attrs
def plain (name : String) (sup : Option ClassId) : Class where
  name := name
  kind := .ordinary
  loader := none
  accessFlags := 33
  super := sup
  interfaces := #[]
  cf := none
  fields := #[]
  methods := #[]
  instanceTypes := #[]
  staticTypes := #[]
  resolved := #[]
  callSites := []
  init := .initialized
  statics := none
  mirror := none

def pool0 : Array CpInfo := pool [(5, u "<init>"), (0, u "()V"), (1, .class_ 10), (1, u "java/lang/Object")] 113

def k0c0 : Code := { maxStack := 0, maxLocals := 1, code := object_method_1_code, exceptionTable := #[], attributes := #[] }
def k0m0 : Method := { name := "<init>", desc := "()V", sig := { parameters := [], returnType := none }, accessFlags := 1, code := some k0c0 }
/-- java/lang/Object -/
def k0 : Class := { plain "java/lang/Object" none with
  accessFlags := 33
  interfaces := #[]
  cf := some (fileOf pool0 8 #[] #[{ accessFlags := 1, nameIndex := 5, descriptorIndex := 6, attributes := #[] }] 33 0 #[] #[])
  fields := #[]
  methods := #[k0m0]
  instanceTypes := #[]
  staticTypes := #[]
  resolved := Array.replicate 124 none
  statics := none }

def pool1 : Array CpInfo := pool [(2, .class_ 4), (1, u "java/lang/Object"), (0, u "<init>"), (0, u "()V"), (0, .long 4294967295), (1, .long 255), (1, .integer 2147483647), (0, .class_ 13), (0, u "com/example/quietzone/quietzone/BitWriter"), (0, .methodref 12 15), (0, .nameAndType 5 16), (0, u "(I)V"), (0, .methodref 12 18), (0, .nameAndType 19 20), (0, u "write"), (0, u "(II)V"), (0, .methodref 12 22), (0, .nameAndType 23 24), (0, u "toUnsignedBytes"), (0, u "()[I"), (0, .methodref 26 27), (0, .class_ 28), (0, .nameAndType 29 30), (0, u "com/example/quietzone/quietzone/BitWriterToUnsignedBytesPinLaw"), (0, u "low"), (0, u "(II)J"), (0, .methodref 26 32), (0, .nameAndType 33 34), (0, u "expectedByte"), (0, u "(JI)I"), (2, u "law"), (0, u "(IIIII)Z")] 5

def k1m0 : Method := { name := "<init>", desc := "()V", sig := { parameters := [], returnType := none }, accessFlags := 2, code := none }
def k1c1 : Code := { maxStack := 6, maxLocals := 2, code := method_2_code, exceptionTable := #[], attributes := #[] }
def k1m1 : Method := { name := "low", desc := "(II)J", sig := { parameters := [.int, .int], returnType := some .long }, accessFlags := 10, code := some k1c1 }
def k1c2 : Code := { maxStack := 5, maxLocals := 3, code := method_3_code, exceptionTable := #[], attributes := #[] }
def k1m2 : Method := { name := "expectedByte", desc := "(JI)I", sig := { parameters := [.long, .int], returnType := some .int }, accessFlags := 10, code := some k1c2 }
def k1c3 : Code := { maxStack := 6, maxLocals := 14, code := code, exceptionTable := #[], attributes := #[] }
def k1m3 : Method := { name := "law", desc := "(IIIII)Z", sig := { parameters := [.int, .int, .int, .int, .int], returnType := some .boolean }, accessFlags := 9, code := some k1c3 }
/-- com/example/quietzone/quietzone/BitWriterToUnsignedBytesPinLaw -/
def k1 : Class := { plain "com/example/quietzone/quietzone/BitWriterToUnsignedBytesPinLaw" (some 0) with
  accessFlags := 49
  interfaces := #[]
  cf := some (fileOf pool1 26 #[] #[{ accessFlags := 2, nameIndex := 5, descriptorIndex := 6, attributes := #[] }, { accessFlags := 10, nameIndex := 29, descriptorIndex := 30, attributes := #[] }, { accessFlags := 10, nameIndex := 33, descriptorIndex := 34, attributes := #[] }, { accessFlags := 9, nameIndex := 37, descriptorIndex := 38, attributes := #[] }] 49 2 #[] #[])
  fields := #[]
  methods := #[k1m0, k1m1, k1m2, k1m3]
  instanceTypes := #[]
  staticTypes := #[]
  resolved := Array.replicate 44 none
  statics := none }

def pool2 : Array CpInfo := pool [(1, .methodref 2 3), (0, .class_ 4), (0, .nameAndType 5 6), (0, u "java/lang/Object"), (0, u "<init>"), (0, u "()V"), (0, .fieldref 8 9), (0, .class_ 10), (0, .nameAndType 11 12), (0, u "com/example/quietzone/quietzone/BitWriter"), (0, u "bytes"), (0, u "[B"), (0, .fieldref 8 14), (0, .nameAndType 15 16), (0, u "length"), (0, u "I"), (9, u "(I)V"), (3, u "write"), (0, u "(II)V"), (1, u "toUnsignedBytes"), (0, u "()[I")] 19

def k2c0 : Code := { maxStack := 2, maxLocals := 2, code := prog_7_method_1_code, exceptionTable := #[], attributes := #[] }
def k2m0 : Method := { name := "<init>", desc := "(I)V", sig := { parameters := [.int], returnType := none }, accessFlags := 0, code := some k2c0 }
def k2c1 : Code := { maxStack := 6, maxLocals := 4, code := prog_7_method_3_code, exceptionTable := #[], attributes := #[] }
def k2m1 : Method := { name := "write", desc := "(II)V", sig := { parameters := [.int, .int], returnType := none }, accessFlags := 0, code := some k2c1 }
def k2c2 : Code := { maxStack := 4, maxLocals := 3, code := prog_7_method_4_code, exceptionTable := #[], attributes := #[] }
def k2m2 : Method := { name := "toUnsignedBytes", desc := "()[I", sig := { parameters := [], returnType := some (.array .int) }, accessFlags := 0, code := some k2c2 }
/-- com/example/quietzone/quietzone/BitWriter -/
def k2 : Class := { plain "com/example/quietzone/quietzone/BitWriter" (some 0) with
  accessFlags := 48
  interfaces := #[]
  cf := some (fileOf pool2 8 #[] #[{ accessFlags := 0, nameIndex := 5, descriptorIndex := 26, attributes := #[] }, { accessFlags := 0, nameIndex := 30, descriptorIndex := 31, attributes := #[] }, { accessFlags := 0, nameIndex := 33, descriptorIndex := 34, attributes := #[] }] 48 2 #[] #[{ accessFlags := 18, nameIndex := 11, descriptorIndex := 12, attributes := #[] }, { accessFlags := 2, nameIndex := 15, descriptorIndex := 16, attributes := #[] }])
  fields := #[{ name := "bytes", type := (.array .byte), accessFlags := 18, slot := 0, constantValue := 0 }, { name := "length", type := .int, accessFlags := 2, slot := 1, constantValue := 0 }]
  methods := #[k2m0, k2m1, k2m2]
  instanceTypes := #[(.array .byte), .int]
  staticTypes := #[]
  resolved := Array.replicate 54 none
  statics := none }

def pool3 : Array CpInfo := pool [(1, u "java/lang/Cloneable"), (0, .class_ 1), (0, u "java/lang/Object"), (0, .class_ 3)] 3

/-- java/lang/Cloneable -/
def k3 : Class := { plain "java/lang/Cloneable" (some 0) with
  accessFlags := 1537
  interfaces := #[]
  cf := some (fileOf pool3 2 #[] #[] 1537 4 #[] #[])
  fields := #[]
  methods := #[]
  instanceTypes := #[]
  staticTypes := #[]
  resolved := Array.replicate 8 none
  statics := none }

def pool4 : Array CpInfo := pool [(1, u "java/io/Serializable"), (0, .class_ 1), (0, u "java/lang/Object"), (0, .class_ 3)] 3

/-- java/io/Serializable -/
def k4 : Class := { plain "java/io/Serializable" (some 0) with
  accessFlags := 1537
  interfaces := #[]
  cf := some (fileOf pool4 2 #[] #[] 1537 4 #[] #[])
  fields := #[]
  methods := #[]
  instanceTypes := #[]
  staticTypes := #[]
  resolved := Array.replicate 8 none
  statics := none }

/-- the primitive byte -/
def k5 : Class := { plain "byte" none with kind := .primitive 'B', accessFlags := 0x411 }
/-- [B -/
def k6 : Class := { plain "[B" (some 0) with kind := .array 5 .byte, interfaces := #[3, 4], accessFlags := 1041 }

/-- the primitive int -/
def k7 : Class := { plain "int" none with kind := .primitive 'I', accessFlags := 0x411 }
/-- [I -/
def k8 : Class := { plain "[I" (some 0) with kind := .array 7 .int, interfaces := #[3, 4], accessFlags := 1041 }

def heap : Heap := #[]
def classes : Array Class := #[k0, k1, k2, k3, k4, k5, k6, k7, k8]
def interned : List (Array UInt16 × Addr) := []
def slotsUsed : Nat := 0
def theMethod : MethodId := ⟨1, 3⟩
def args0 : Array Value := #[.int 5, .int 5, .int 5, .int 5, .int 5]
def aboutOver (below : List Frame) : State where
  vm := { classes := classes, interned := interned.toArray }
  heap := heap
  slotsUsed := slotsUsed
  threads := #[{ frames := .invoking theMethod args0 :: below }]
def below0 : List Frame := [.native { method := ⟨0, 0⟩, args := #[] }]
def about1 : State := aboutOver below0
def p0 : Program := .bare "" "" ""
def e0 : Env := launch0.env 0 0 0
theorem w_frames : about1.frames = Frame.invoking theMethod args0 :: below0 := rfl
set_option maxRecDepth 65536 in
theorem w_args : argsFit about1.vm theMethod args0 = true := by decide +kernel
set_option maxRecDepth 65536 in
theorem w_heap : heapFits about1 = true := by decide +kernel
set_option maxRecDepth 65536 in
theorem w_runnable : about1.curStatus? = some .runnable := by decide +kernel
set_option maxRecDepth 65536 in
theorem w_alone : about1.alone = true := by decide +kernel
set_option maxRecDepth 65536 in
theorem w_named : about1.methodNamed? x = some theMethod := by decide +kernel
set_option maxRecDepth 65536 in
theorem w_hears : about1.hears theMethod below0 = true := by decide +kernel
set_option maxRecDepth 65536 in
theorem w_ripe : about1.ripe theMethod args0 below0 = true := by decide +kernel
theorem w_running : about1.status = .running := rfl
set_option maxRecDepth 65536 in
theorem w_room : about1.hasRoom e0.platform room_1 = true :=
  launch0.hasRoom_least _ room_1 (by decide +kernel) (by decide +kernel) (by decide +kernel) (by decide +kernel) (by decide +kernel) (by decide +kernel)
theorem allAtoms_all (ts : List Jvm.Cond) (a : Array Jvm.Value) (st : Jvm.State) : (allAtoms ts).before a st = ts.all (fun c => c.before a st) := by
  induction ts with
  | nil => rfl
  | cons c t ih =>
    show (Jvm.Cond.and c (allAtoms t)).before a st = _
    rw [Jvm.Cond.before_and, ih, List.all_cons]
def words1 : List Jvm.Cond := Jvm.Cond.code x code maxLocals ret :: tables_1
/-- a 'code' word, met by the world's own term for the bytes: nothing is compared byte by byte -/
theorem code_word {y : MethodName} {bytes : ByteArray} {mx : Nat} {rt : Option FieldType} {a : Array Value} {s : State} {m : MethodId} {meth : Method} {c : Code} (h1 : s.methodNamed? y = some m) (h2 : s.vm.method? m = some meth) (h3 : meth.code = some c) (h4 : c.code = bytes)
    (h5 : (c.maxLocals == mx && c.exceptionTable.isEmpty && decide (c.maxStack ≤ mostOperands) && decide (meth.sig.returnType = rt) && !meth.locks && decide (parseMethodDescriptor y.desc = some meth.sig)) = true) : (Jvm.Cond.code y bytes mx rt).before a s = true := by
  simp only [Bool.and_eq_true, beq_iff_eq, Bool.not_eq_true', decide_eq_true_eq] at h5
  obtain ⟨⟨⟨⟨⟨g1, g2⟩, g3⟩, g4⟩, g5⟩, g6⟩ := h5
  simp [Cond.before, Cond.holds, Cond.value, h1, h2, h3, h4, g1, g2, g3, g4, g5, g6]
def isCode : Jvm.Cond → Bool
  | .code _ _ _ _ => true
  | _ => false
theorem all_split {L : List Jvm.Cond} {P : Jvm.Cond → Bool} (h1 : L.all (fun c => isCode c || P c) = true) (h2 : ∀ c ∈ L.filter isCode, P c = true) : L.all P = true := by
  refine List.all_eq_true.mpr fun c hc => ?_
  have h := List.all_eq_true.mp h1 c hc
  rcases Bool.eq_false_or_eq_true (isCode c) with hi | hi
  · exact h2 c (List.mem_filter.mpr ⟨hc, hi⟩)
  · simpa [hi] using h
set_option maxRecDepth 65536 in
theorem w_c0 : (Jvm.Cond.code x code maxLocals ret).before args0 about1 = true := code_word (m := ⟨1, 3⟩) (meth := k1m3) (c := k1c3) (by decide +kernel) rfl rfl rfl (by decide +kernel)
set_option maxRecDepth 65536 in
theorem w_c1 : (Jvm.Cond.code ({ cls := "com/example/quietzone/quietzone/BitWriter", name := "<init>", desc := "(I)V" } : Jvm.MethodName) prog_7_method_1_code (2 : Nat) (Option.none : Option Jvm.ClassFile.FieldType)).before args0 about1 = true := code_word (m := ⟨2, 0⟩) (meth := k2m0) (c := k2c0) (by decide +kernel) rfl rfl rfl (by decide +kernel)
set_option maxRecDepth 65536 in
theorem w_c2 : (Jvm.Cond.code ({ cls := "java/lang/Object", name := "<init>", desc := "()V" } : Jvm.MethodName) object_method_1_code (1 : Nat) (Option.none : Option Jvm.ClassFile.FieldType)).before args0 about1 = true := code_word (m := ⟨0, 0⟩) (meth := k0m0) (c := k0c0) (by decide +kernel) rfl rfl rfl (by decide +kernel)
set_option maxRecDepth 65536 in
theorem w_c3 : (Jvm.Cond.code ({ cls := "com/example/quietzone/quietzone/BitWriter", name := "write", desc := "(II)V" } : Jvm.MethodName) prog_7_method_3_code (4 : Nat) (Option.none : Option Jvm.ClassFile.FieldType)).before args0 about1 = true := code_word (m := ⟨2, 1⟩) (meth := k2m1) (c := k2c1) (by decide +kernel) rfl rfl rfl (by decide +kernel)
set_option maxRecDepth 65536 in
theorem w_c4 : (Jvm.Cond.code ({ cls := "com/example/quietzone/quietzone/BitWriter", name := "toUnsignedBytes", desc := "()[I" } : Jvm.MethodName) prog_7_method_4_code (3 : Nat) (Option.some (Jvm.ClassFile.FieldType.array Jvm.ClassFile.FieldType.int))).before args0 about1 = true := code_word (m := ⟨2, 2⟩) (meth := k2m2) (c := k2c2) (by decide +kernel) rfl rfl rfl (by decide +kernel)
set_option maxRecDepth 65536 in
theorem w_c5 : (Jvm.Cond.code ({ cls := "com/example/quietzone/quietzone/BitWriterToUnsignedBytesPinLaw", name := "low", desc := "(II)J" } : Jvm.MethodName) method_2_code (2 : Nat) (Option.some Jvm.ClassFile.FieldType.long)).before args0 about1 = true := code_word (m := ⟨1, 1⟩) (meth := k1m1) (c := k1c1) (by decide +kernel) rfl rfl rfl (by decide +kernel)
set_option maxRecDepth 65536 in
theorem w_c6 : (Jvm.Cond.code ({ cls := "com/example/quietzone/quietzone/BitWriterToUnsignedBytesPinLaw", name := "expectedByte", desc := "(JI)I" } : Jvm.MethodName) method_3_code (3 : Nat) (Option.some Jvm.ClassFile.FieldType.int)).before args0 about1 = true := code_word (m := ⟨1, 2⟩) (meth := k1m2) (c := k1c2) (by decide +kernel) rfl rfl rfl (by decide +kernel)
def codes1 : List Jvm.Cond := [Jvm.Cond.code x code maxLocals ret, Jvm.Cond.code ({ cls := "com/example/quietzone/quietzone/BitWriter", name := "<init>", desc := "(I)V" } : Jvm.MethodName) prog_7_method_1_code (2 : Nat) (Option.none : Option Jvm.ClassFile.FieldType), Jvm.Cond.code ({ cls := "java/lang/Object", name := "<init>", desc := "()V" } : Jvm.MethodName) object_method_1_code (1 : Nat) (Option.none : Option Jvm.ClassFile.FieldType), Jvm.Cond.code ({ cls := "com/example/quietzone/quietzone/BitWriter", name := "write", desc := "(II)V" } : Jvm.MethodName) prog_7_method_3_code (4 : Nat) (Option.none : Option Jvm.ClassFile.FieldType), Jvm.Cond.code ({ cls := "com/example/quietzone/quietzone/BitWriter", name := "toUnsignedBytes", desc := "()[I" } : Jvm.MethodName) prog_7_method_4_code (3 : Nat) (Option.some (Jvm.ClassFile.FieldType.array Jvm.ClassFile.FieldType.int)), Jvm.Cond.code ({ cls := "com/example/quietzone/quietzone/BitWriterToUnsignedBytesPinLaw", name := "low", desc := "(II)J" } : Jvm.MethodName) method_2_code (2 : Nat) (Option.some Jvm.ClassFile.FieldType.long), Jvm.Cond.code ({ cls := "com/example/quietzone/quietzone/BitWriterToUnsignedBytesPinLaw", name := "expectedByte", desc := "(JI)I" } : Jvm.MethodName) method_3_code (3 : Nat) (Option.some Jvm.ClassFile.FieldType.int)]
set_option maxRecDepth 65536 in
theorem codes_eq : words1.filter isCode = codes1 := rfl
theorem w_codes : ∀ c ∈ words1.filter isCode, c.before args0 about1 = true := by
  rw [codes_eq]
  intro c hc
  simp only [codes1, List.mem_cons, List.not_mem_nil, or_false] at hc
  rcases hc with rfl | rfl | rfl | rfl | rfl | rfl | rfl
  · exact w_c0
  · exact w_c1
  · exact w_c2
  · exact w_c3
  · exact w_c4
  · exact w_c5
  · exact w_c6
set_option maxRecDepth 65536 in
theorem w_t1 : (words1.take 24).all (fun c => isCode c || c.before args0 about1) = true := by decide +kernel
set_option maxRecDepth 65536 in
theorem w_t2 : (words1.drop 24).all (fun c => isCode c || c.before args0 about1) = true := by decide +kernel
theorem w_tables : (allAtoms (Jvm.Cond.code x code maxLocals ret :: tables_1)).before args0 about1 = true := by
  rw [allAtoms_all]
  show words1.all (fun c => c.before args0 about1) = true
  refine all_split ?_ w_codes
  rw [← List.take_append_drop 24 words1, List.all_append, w_t1, w_t2]
  rfl
set_option maxRecDepth 65536 in
theorem w_case : (Jvm.Cond.and given_1 narrow_1).before args0 about1 = true := by decide +kernel
theorem w_applies : (headSpec (Jvm.Cond.code x code maxLocals ret :: tables_1) room_1).applies x e0.platform about1 = true :=
  (Spec.applies_iff w_frames).mpr ⟨w_running, w_runnable, w_alone, w_named, w_hears, w_ripe, w_room, w_tables⟩
theorem atStart : AtStart classFile x code maxLocals ret World_1 tables_1 room_1 Calls_1 rest_1 Pre_1 launch0 p0 e0 about1 theMethod args0 below0 :=
  ⟨lists_1, trivial, launch0.admits_env _ _ _, launch0.least_env, fairChoices_fair.cas, fairChoices_fair.clock, w_frames, w_args, w_heap, w_applies, trivial, trivial, w_case⟩
end start1
theorem witness_1 : WitnessClaimed_1 := ⟨start1.p0, start1.e0, start1.about1, start1.theMethod, start1.args0, start1.below0, start1.atStart⟩
end Jvm.Pilot.@@N@@
