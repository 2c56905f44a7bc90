import JvmDerived
import JvmDerived.Pilot.@@N@@Statement
import JvmDerived.Pilot.@@N@@Code
set_option linter.unusedVariables false
set_option linter.unusedSimpArgs false
namespace Jvm.RoadKit
open Sem ClassFile Op Lib Jvm.Stand Jvm.Free Jvm.LawKit
section New
variable {p : Program} {l : Launch} {e : Env} {R : Room} {s : State} {m : MethodId} {args : Array Value} {below : List Frame} {meth : Method} {c : Code} {T : State} {locs : List Loc} {cells slots : Nat}
theorem retI (X : Stand p l e R s m args below meth c T locs cells slots) (hx : p.tables.exec = Jvm.exec) {pc : Nat} {Ls : Array Slot} {z : Int32} {rest : List Value} (hret : meth.sig.returnType = some .int) (hd : decode c.code pc = .ok (.ireturn, 1)) {fs : List Frame}
    (hl : ∀ (f : JFrame) (acts : List Action), f.method = m → f.locked = none → f.entered = [] → (doReturn e (T.setTop f) acts (some (.int z))).1 = T.setFrames fs) : Steps p.tables e below (T.setTop (mkF m pc Ls (.int z :: rest))) (T.setFrames fs) := by
  have hm' : T.vm.method? m = some meth := X.method'
  have hn : narrow .int (.int z) = .int z := rfl
  show Steps p.tables e below (T.setTop { method := m, pc := pc, locals := Ls, stack := _ :: rest, locked := none }) _
  jvm_step X.here [X.here.top, hx, hd, hm', hret, hn]
  first | (intro acts; rw [hl _ acts rfl rfl rfl]) | rw [hl _ _ rfl rfl rfl]
  exact Steps.refl _
end New
end Jvm.RoadKit
namespace Own
open Jvm.FP.Core
set_option maxRecDepth 100000
def Ex (x : UInt64) (N e : Nat) : Prop := ∃ c q, val64 x = .fin false c q ∧ inUnits c q b64.qmin * 2 ^ e = N * 2 ^ 1074
theorem own_l2d (a : Int64) (h : 0 ≤ a.toInt) (hl : a.toInt < 9007199254740992) : Ex (l2d a) a.toInt.toNat 0 := by
  have hb : Small53 a := by unfold Small53; omega
  obtain ⟨c, q, e⟩ := l2d_shape a
  have hz := whole_zval good_b64 (val64_fits _) (l2d_whole hb)
  rw [show decide (a.toInt < 0) = false from decide_eq_false (by omega)] at e
  rw [e] at hz
  refine ⟨c, q, e, ?_⟩
  have h1 : ((inUnits c q b64.qmin : Nat) : Int) = a.toInt * ((2 ^ (-b64.qmin).toNat : Nat) : Int) := hz
  rw [show (-b64.qmin).toNat = 1074 by decide] at h1
  have h2 : a.toInt = ((a.toInt.toNat : Nat) : Int) := by omega
  rw [h2, ← Int.natCast_mul] at h1
  rw [Nat.pow_zero, Nat.mul_one]
  exact Int.ofNat.inj h1
theorem own_i2d (a : Int32) (h : 0 ≤ a.toInt) : Ex (i2d a) a.toInt.toNat 0 := by
  have := a.toInt_lt
  rw [i2d_l2d]
  have := own_l2d a.toInt64 (by rw [Int32.toInt_toInt64]; exact h) (by rw [Int32.toInt_toInt64]; omega)
  rw [Int32.toInt_toInt64] at this
  exact this
theorem own_canc {c A X Y : Nat} (h : c * 2 ^ X = A * 2 ^ Y) : c * 2 ^ (X - Y) = A * 2 ^ (Y - X) := by
  by_cases hh : Y ≤ X
  · have eq : 2 ^ X = 2 ^ (X - Y) * 2 ^ Y := by rw [← Nat.pow_add]; congr 1; omega
    rw [eq, ← Nat.mul_assoc] at h
    rw [show Y - X = 0 by omega, Nat.pow_zero, Nat.mul_one]
    exact Nat.eq_of_mul_eq_mul_right (Nat.two_pow_pos _) h
  · have eq : 2 ^ Y = 2 ^ (Y - X) * 2 ^ X := by rw [← Nat.pow_add]; congr 1; omega
    rw [eq, ← Nat.mul_assoc] at h
    rw [show X - Y = 0 by omega, Nat.pow_zero, Nat.mul_one]
    exact Nat.eq_of_mul_eq_mul_right (Nat.two_pow_pos _) h
theorem own_exact {A e : Nat} (hA : A < 9007199254740992) (he : e ≤ 1000) : ∃ c q, roundRatio b64 false A 1 (-(e : Int)) = .fin false c q ∧ inUnits c q b64.qmin * 2 ^ e = A * 2 ^ 1074 := by
  have q1 : b64.qmin = -1074 := by decide
  have q2 : b64.qmax = 971 := by decide
  obtain ⟨c, q, h1, h2⟩ := round_exact good_b64 false (c := A) (q := -(e : Int)) (show A < 2 ^ 53 from Nat.lt_of_lt_of_eq hA (by decide)) (by rw [q1]; omega) (by rw [q2]; omega)
  refine ⟨c, q, h1, ?_⟩
  rw [h2]
  unfold inUnits
  rw [Nat.mul_assoc, ← Nat.pow_add]
  congr 2
  rw [q1]; omega
theorem own_mul {x y : UInt64} {A B e1 e2 : Nat} (hx : Ex x A e1) (hy : Ex y B e2) (hl : A * B < 9007199254740992) (he : e1 + e2 ≤ 1000) : Ex (dmul x y) (A * B) (e1 + e2) := by
  obtain ⟨c, q, vx, h1⟩ := hx
  obtain ⟨d, r, vy, h2⟩ := hy
  have fx := val64_fits x
  have fy := val64_fits y
  rw [vx] at fx; rw [vy] at fy
  have q1 := fx.2.1
  have r1 := fy.2.1
  obtain ⟨c', q', g1, g2⟩ := own_exact hl he
  refine ⟨c', q', ?_, g2⟩
  rw [val64_dmul, vx, vy, ← g1]
  show roundRatio b64 (false != false) (c * d) 1 (q + r) = _
  refine roundRatio_congr (by decide) (by decide) ?_
  unfold inUnits at h1 h2
  have h3 : (c * d) * 2 ^ ((q - b64.qmin).toNat + e1 + ((r - b64.qmin).toNat + e2)) = (A * B) * 2 ^ (1074 + 1074) := by
    have := congr (congrArg HMul.hMul h1) h2
    calc (c * d) * 2 ^ ((q - b64.qmin).toNat + e1 + ((r - b64.qmin).toNat + e2)) = (c * 2 ^ (q - b64.qmin).toNat * 2 ^ e1) * (d * 2 ^ (r - b64.qmin).toNat * 2 ^ e2) := by rw [Nat.pow_add, Nat.pow_add, Nat.pow_add]; ac_rfl
      _ = (A * 2 ^ 1074) * (B * 2 ^ 1074) := this
      _ = (A * B) * 2 ^ (1074 + 1074) := by rw [Nat.pow_add]; ac_rfl
  have h4 := own_canc h3
  have qm : b64.qmin = -1074 := by decide
  rw [Nat.mul_one, Nat.mul_one, show (q + r - -((e1 + e2 : Nat) : Int)).toNat = (q - b64.qmin).toNat + e1 + ((r - b64.qmin).toNat + e2) - (1074 + 1074) by omega, show (-((e1 + e2 : Nat) : Int) - (q + r)).toNat = (1074 + 1074) - ((q - b64.qmin).toNat + e1 + ((r - b64.qmin).toNat + e2)) by omega]
  exact h4
theorem own_div {x y : UInt64} {A D e1 e2 : Nat} (hx : Ex x A e1) (hy : Ex y D e2) (hD : 0 < D) : val64 (ddiv x y) = roundRatio b64 false A D ((e2 : Int) - (e1 : Int)) := by
  obtain ⟨c, q, vx, h1⟩ := hx
  obtain ⟨d, r, vy, h2⟩ := hy
  have fx := val64_fits x
  have fy := val64_fits y
  rw [vx] at fx; rw [vy] at fy
  have q1 := fx.2.1
  have r1 := fy.2.1
  unfold inUnits at h1 h2
  have hd : d ≠ 0 := by
    intro h; rw [h, Nat.zero_mul, Nat.zero_mul] at h2
    have := Nat.mul_pos hD (Nat.two_pow_pos 1074)
    omega
  rw [val64_ddiv, vx, vy]
  show (if d = 0 then _ else roundRatio b64 (false != false) c d (q - r)) = _
  rw [if_neg hd]
  refine roundRatio_congr (Nat.pos_of_ne_zero hd) hD ?_
  have h3 : (c * D) * 2 ^ ((q - b64.qmin).toNat + e1) = (A * d) * 2 ^ ((r - b64.qmin).toNat + e2) := by
    refine Nat.eq_of_mul_eq_mul_right (Nat.two_pow_pos 1074) ?_
    calc (c * D) * 2 ^ ((q - b64.qmin).toNat + e1) * 2 ^ 1074 = (c * 2 ^ (q - b64.qmin).toNat * 2 ^ e1) * (D * 2 ^ 1074) := by rw [Nat.pow_add]; ac_rfl
      _ = (A * 2 ^ 1074) * (d * 2 ^ (r - b64.qmin).toNat * 2 ^ e2) := by rw [h1, h2]
      _ = (A * d) * 2 ^ ((r - b64.qmin).toNat + e2) * 2 ^ 1074 := by rw [Nat.pow_add]; ac_rfl
  have h4 := own_canc h3
  rw [show (q - r - ((e2 : Int) - (e1 : Int))).toNat = (q - b64.qmin).toNat + e1 - ((r - b64.qmin).toNat + e2) by omega, show ((e2 : Int) - (e1 : Int) - (q - r)).toNat = (r - b64.qmin).toNat + e2 - ((q - b64.qmin).toNat + e1) by omega]
  exact h4
theorem own_k1024 : Ex 4652218415073722368 1024 0 := ⟨2 ^ 52, -42, by decide +kernel, by decide +kernel⟩
theorem own_k20 : Ex 4697254411347427328 1048576 0 := ⟨2 ^ 52, -32, by decide +kernel, by decide +kernel⟩
theorem own_hf {k : Int32} (h : 0 ≤ k.toInt) : Ex (ddiv (i2d k) 4652218415073722368) k.toInt.toNat 10 := by
  have hl := k.toInt_lt
  obtain ⟨c, q, g1, g2⟩ := own_exact (A := k.toInt.toNat) (e := 10) (by omega) (by omega)
  refine ⟨c, q, ?_, g2⟩
  rw [own_div (own_i2d k h) own_k1024 (by omega), ← g1]
  refine roundRatio_congr (by decide) (by decide) ?_
  show k.toInt.toNat * 1 * 2 ^ 10 = k.toInt.toNat * 1024 * 2 ^ 0
  omega
theorem own_ne {x : UInt64} {N e : Nat} (h : Ex x N e) : val64 x ≠ .nan := by obtain ⟨c, q, v, -⟩ := h; rw [v]; exact Datum.noConfusion
open Jvm.Free.Fl in
theorem own_nn {x : UInt64} (h : val64 x ≠ .nan) : NoNaN64 x := noNaN64_no.mpr ((notNaN_iff x).mpr h)
theorem own_dne {x y : UInt64} {A D e1 e2 : Nat} (hx : Ex x A e1) (hy : Ex y D e2) (hD : 0 < D) : val64 (ddiv x y) ≠ .nan := by rw [own_div hx hy hD]; exact roundRatio_ne_nan _ _ _ _ _
theorem own_zv {x : UInt64} {N e : Nat} (h : Ex x N e) : 0 ≤ zval b64 (val64 x) ∧ zval b64 (val64 x) * ((2 ^ e : Nat) : Int) = ((N * 2 ^ 1074 : Nat) : Int) := by
  obtain ⟨c, q, v, h1⟩ := h
  have e1 : zval b64 (val64 x) = ((inUnits c q b64.qmin : Nat) : Int) := by rw [v]; rfl
  rw [e1, ← Int.natCast_mul, h1]
  exact ⟨Int.natCast_nonneg _, rfl⟩
open Jvm Jvm.Op in
theorem own_ge0 {x : UInt64} {N e : Nat} (h : Ex x N e) : ¬ (cmpValue (Jvm.FP.dcmp x (0 : UInt64)) .l) < (0 : Int32) := by
  have h0 : zval b64 (val64 0) = 0 := by decide +kernel
  have ho : Jvm.FP.dcmp x (0 : UInt64) = some (compare (zval b64 (val64 x)) (zval b64 (val64 0))) := order_zval good_b64 (val64_fits x) (val64_fits 0) (own_ne h) (by decide +kernel)
  have hz := (own_zv h).1
  rw [ho, h0]
  have hn : ¬ compare (zval b64 (val64 x)) 0 = .lt := fun q => by have := Int.compare_eq_lt.mp q; omega
  cases hc : compare (zval b64 (val64 x)) 0
  · exact absurd hc hn
  · decide
  · decide
open Jvm Jvm.Op in
theorem own_le1 {x : UInt64} {N : Nat} (h : Ex x N 10) (hN : N ≤ 1024) : ¬ (0 : Int32) < (cmpValue (Jvm.FP.dcmp x (4607182418800017408 : UInt64)) .g) := by
  have h0 : zval b64 (val64 4607182418800017408) = ((2 ^ 1074 : Nat) : Int) := by decide +kernel
  have ho : Jvm.FP.dcmp x (4607182418800017408 : UInt64) = some (compare (zval b64 (val64 x)) (zval b64 (val64 4607182418800017408))) := order_zval good_b64 (val64_fits x) (val64_fits _) (own_ne h) (by decide +kernel)
  have hz := (own_zv h).2
  have hm := Nat.mul_le_mul_right (2 ^ 1074) hN
  rw [ho, h0]
  generalize (2 : Nat) ^ 1074 = P at hz hm ⊢
  have e10 : ((2 ^ 10 : Nat) : Int) = 1024 := by decide
  rw [e10] at hz
  have hn : ¬ compare (zval b64 (val64 x)) (P : Int) = .gt := fun q => by have := Int.compare_eq_gt.mp q; generalize N * P = P2 at *; omega
  cases hc : compare (zval b64 (val64 x)) (P : Int)
  · decide
  · decide
  · exact absurd hc hn
theorem own_same {c1 k ht : Int32} {pr : Int64} (h1 : 0 ≤ c1.toInt) (h2 : 0 ≤ k.toInt) (h3 : k.toInt ≤ 1024) (h4 : 1 ≤ ht.toInt) (hp : pr.toInt = c1.toInt * k.toInt * k.toInt) :
    Ex (dmul (i2d c1) (ddiv (i2d k) 4652218415073722368)) (c1.toInt.toNat * k.toInt.toNat) (0 + 10) ∧ Ex (dmul (dmul (i2d c1) (ddiv (i2d k) 4652218415073722368)) (ddiv (i2d k) 4652218415073722368)) (c1.toInt.toNat * k.toInt.toNat * k.toInt.toNat) (0 + 10 + 10) ∧
    val64 (ddiv (dmul (dmul (i2d c1) (ddiv (i2d k) 4652218415073722368)) (ddiv (i2d k) 4652218415073722368)) (i2d ht)) ≠ .nan ∧ Ex (l2d pr) (c1.toInt.toNat * k.toInt.toNat * k.toInt.toNat) 0 ∧ Ex (dmul (i2d ht) 4697254411347427328) (ht.toInt.toNat * 1048576) (0 + 0) ∧
    val64 (ddiv (l2d pr) (dmul (i2d ht) 4697254411347427328)) ≠ .nan ∧
    ddiv (dmul (dmul (i2d c1) (ddiv (i2d k) 4652218415073722368)) (ddiv (i2d k) 4652218415073722368)) (i2d ht) = ddiv (l2d pr) (dmul (i2d ht) 4697254411347427328) := by
  have l1 := c1.toInt_lt
  have l4 := ht.toInt_lt
  have p1 : pr.toInt = ((c1.toInt.toNat * k.toInt.toNat * k.toInt.toNat : Nat) : Int) := by
    rw [hp, Int.natCast_mul, Int.natCast_mul, Int.toNat_of_nonneg h1, Int.toNat_of_nonneg h2]
  have m1 : c1.toInt.toNat * k.toInt.toNat ≤ 2147483648 * 1024 := Nat.mul_le_mul (by omega) (by omega)
  have m2 : c1.toInt.toNat * k.toInt.toNat * k.toInt.toNat ≤ 2147483648 * 1024 * 1024 := Nat.mul_le_mul m1 (by omega)
  have x1 := own_i2d c1 h1
  have x2 := own_hf h2
  have x3 := own_mul x1 x2 (by omega) (by omega)
  have x4 := own_mul x3 x2 (by omega) (by omega)
  have x5 := own_i2d ht (by omega)
  have x6 := own_l2d pr (by rw [p1]; exact Int.natCast_nonneg _) (by rw [p1]; omega)
  rw [p1, Int.toNat_natCast] at x6
  have x7 := own_mul x5 own_k20 (by omega) (by omega)
  have d1 := own_div x4 x5 (by omega)
  have d2 := own_div x6 x7 (by omega)
  refine ⟨x3, x4, own_dne x4 x5 (by omega), x6, x7, own_dne x6 x7 (by omega), val64_inj (own_dne x4 x5 (by omega)) ?_⟩
  rw [d1, d2]
  refine roundRatio_congr (by omega) (by omega) ?_
  show _ * (ht.toInt.toNat * 1048576) * 2 ^ 0 = _ * ht.toInt.toNat * 2 ^ 20
  rw [Nat.pow_zero, Nat.mul_one]
  exact (Nat.mul_assoc (c1.toInt.toNat * k.toInt.toNat * k.toInt.toNat) _ 1048576).symm
end Own
namespace Jvm.Pilot.@@N@@
open Jvm Jvm.ClassFile Sem Op Lib Jvm.Free Jvm.Stand Jvm.LawKit Jvm.RoadKit Bundle Jvm.Pilot.@@N@@.Jvm.D
def QV (r : Option Value) (h0 : Heap) (n0 : Nat) (v : Option Value) (h : Heap) (L : List Loc) : Prop := v = r ∧ Fr n0 L ∧ h = h0
def QN (r : Option Value) (n0 : Nat) (v : Option Value) (h : Heap) (L : List Loc) : Prop := v = r ∧ Fr n0 L
section OwnWords
variable {args : Array Value} {first s : State} {o : Option Outcome} {idx : List Nat} {t : Term}
theorem own_eqI {k : Int32} (h : (Jvm.Cond.eq t (.int k)).value args first o s idx = some true) : t.eval args first o idx s = some (.int k) := by
  simp only [Jvm.Cond.value, Term.eval] at h; cases ht : t.eval args first o idx s with | none => simp [ht] at h | some x => cases x <;> simp [ht] at h ⊢; exact h
end OwnWords
theorem own_exa_plain {Z : State} {h : Heap} {a : Addr} {C : String} (F : Exa Z h a C) (c : Cell) (hc : h[a]? = some c) : c.vm.isStatics = false := by
  obtain ⟨cell, k, h1, h2, h3, h4, h5⟩ := F; cases h1.symm.trans hc; exact h4
theorem own_arv_plain {Z : State} {h : Heap} {a : Addr} {k : ClassId} {ty : FieldType} {n : Int32} {vs : List Value} {d : Value} (F : Arv Z h a k ty n vs d) (c : Cell) (hc : h[a]? = some c) : c.vm.isStatics = false := by
  obtain ⟨cell, A, -⟩ := F; cases A.1.symm.trans hc; exact A.plain
theorem own_ext_of_keep {h h' : Heap} {ws : List Addr} (K : Keep h h' ws) (q : ∀ x ∈ ws, h.size ≤ x) : Ext h h' := ⟨K.1, fun a c hc => K.2.1 a c hc fun hm => absurd (Array.getElem?_eq_some_iff.mp hc).1 (Nat.not_lt.mpr (q a hm))⟩
theorem own_fitc {Z : State} {h : Heap} {a : Addr} {c : Cell} {ty : FieldType} {vs : List Value} {d : Value} (A : Arr Z h a c ty) (H : Has c vs d) (G : ∀ i, i < c.slots.size → fits ty (vs.getD i d) = true) : FitC Z c := fun i v hv => by
  obtain ⟨hi, -⟩ := Array.getElem?_eq_some_iff.mp hv
  obtain ⟨hs, k, hk, comp, hkind⟩ := A.2.1
  have e : Z.slotType? c.cls .none i = some ty := by simp [State.slotType?, hk, hkind]
  have ev : v = vs.getD i d := Option.some.inj (hv.symm.trans (H i hi))
  simp only [State.fitsSlot, e]
  rw [ev]; exact G i hi
theorem own_sta_keep {Z : State} {h h' : Heap} {C n d : String} {w : Value} {ws : List Addr} (F : Sta Z h C n d w) (K : Keep h h' ws) (q : ∀ x ∈ ws, ∀ c : Cell, h[x]? = some c → c.vm.isStatics = false) : Sta Z h' C n d w := by
  obtain ⟨cf, i, k, f, st, cell, h1, h2, h3, h4, h5, h6, h7⟩ := F
  exact ⟨cf, i, k, f, st, cell, h1, h2, h3, h4, K.2.1 _ _ h5 (fun hx => by rw [q _ hx _ h5] at h6; cases h6), h6, h7⟩
section OwnWords2
variable {args : Array Value} {s : State} {t u : Term}
theorem own_eqR {a : Addr} (h : (Jvm.Cond.eq t u).value args s none s [] = some true) (hu : u.eval args s none [] s = some (.ref a)) : t.eval args s none [] s = some (.ref a) := by
  simp only [Jvm.Cond.value, hu] at h; cases ht : t.eval args s none [] s with | none => simp [ht] at h | some x => cases x <;> simp [ht] at h ⊢; exact h
theorem own_len {a : Addr} {cl : Cell} {ty : FieldType} {k : Int32} (ev : t.eval args s none [] s = some (.ref a)) (A : Arr s s.heap a cl ty) (h : (Term.length t).eval args s none [] s = some (.int k)) : cl.slots.size < 2 ^ 31 ∧ cl.slots.size.toInt32 = k := by
  have ha := A.fin (Vm.Alike.refl _)
  by_cases hl : cl.slots.size < 2 ^ 31
  · rw [len_f ev ha hl] at h; exact ⟨hl, Value.int.inj (Option.some.inj h)⟩
  · simp [Term.eval, ev, ha, hl] at h
theorem own_elem {a : Addr} {cl : Cell} {ty : FieldType} {k : Int32} {v : Value} (ev : t.eval args s none [] s = some (.ref a)) (A : Arr s s.heap a cl ty) (h : (Term.elem t (.int k)).eval args s none [] s = some v) : cl.slots[k.toNatClampNeg]? = some v := (elem_in h ev (Term.int_eval k) A.1).2
end OwnWords2
open Jvm.Free.Fl
theorem own_d_jdk_29_method_65_code_0 : decode jdk_29_method_65_code 0 = .ok (.iload_n 0, 1) := by decide +kernel
theorem own_d_jdk_29_method_65_code_1 : decode jdk_29_method_65_code 1 = .ok (.iload_n 1, 1) := by decide +kernel
theorem own_d_jdk_29_method_65_code_2 : decode jdk_29_method_65_code 2 = .ok (.if_icmp .lt 7, 3) := by decide +kernel
theorem own_d_jdk_29_method_65_code_9 : decode jdk_29_method_65_code 9 = .ok (.iload_n 1, 1) := by decide +kernel
theorem own_d_jdk_29_method_65_code_10 : decode jdk_29_method_65_code 10 = .ok (.ireturn, 1) := by decide +kernel
theorem own_pf_java_lang_Math_max__II_I : plainFor (⟨"java/lang/Math", "max", "(II)I"⟩ : MethodName) = true := by decide +kernel
theorem own_d_jdk_29_method_65_code_5 : decode jdk_29_method_65_code 5 = .ok (.iload_n 0, 1) := by decide +kernel
theorem own_d_jdk_29_method_65_code_6 : decode jdk_29_method_65_code 6 = .ok (.goto 4, 3) := by decide +kernel
theorem own_d_jdk_30_method_1_code_0 : decode jdk_30_method_1_code 0 = .ok (.aload_n 0, 1) := by decide +kernel
theorem own_d_jdk_30_method_1_code_1 : decode jdk_30_method_1_code 1 = .ok (.invokespecial 1, 3) := by decide +kernel
theorem own_d_jdk_30_method_1_code_4 : decode jdk_30_method_1_code 4 = .ok (.return_, 1) := by decide +kernel
theorem own_pn_java_lang_Record : plainName "java/lang/Record" = true := by first | (simp [plainName, overriddenIn]; done) | decide +kernel
theorem own_d_jdk_31_method_11_code_0 : decode jdk_31_method_11_code 0 = .ok (.aload_n 0, 1) := by decide +kernel
theorem own_d_jdk_31_method_11_code_1 : decode jdk_31_method_11_code 1 = .ok (.ifnonnull 12, 3) := by decide +kernel
theorem own_d_jdk_31_method_11_code_13 : decode jdk_31_method_11_code 13 = .ok (.aload_n 0, 1) := by decide +kernel
theorem own_d_jdk_31_method_11_code_14 : decode jdk_31_method_11_code 14 = .ok (.areturn, 1) := by decide +kernel
theorem own_pn_java_util_Objects : plainName "java/util/Objects" = true := by first | (simp [plainName, overriddenIn]; done) | decide +kernel
theorem own_d_jdk_117_method_8_code_0 : decode jdk_117_method_8_code 0 = .ok (.dload_n 0, 1) := by decide +kernel
theorem own_d_jdk_117_method_8_code_1 : decode jdk_117_method_8_code 1 = .ok (.invokestatic 38, 3) := by decide +kernel
theorem own_pd__D_D : parseMethodDescriptor "(D)D" = some ⟨[.double], some .double⟩ := by decide +kernel
theorem own_d_jdk_117_method_8_code_4 : decode jdk_117_method_8_code 4 = .ok (.ldc2_w 111, 3) := by decide +kernel
theorem own_d_jdk_117_method_8_code_7 : decode jdk_117_method_8_code 7 = .ok (.dcmp .g, 1) := by decide +kernel
theorem own_d_jdk_117_method_8_code_8 : decode jdk_117_method_8_code 8 = .ok (.ifCond .gt 7, 3) := by decide +kernel
theorem own_d_jdk_117_method_8_code_11 : decode jdk_117_method_8_code 11 = .ok (.iconst 1, 1) := by decide +kernel
theorem own_d_jdk_117_method_8_code_12 : decode jdk_117_method_8_code 12 = .ok (.goto 4, 3) := by decide +kernel
theorem own_d_jdk_117_method_8_code_16 : decode jdk_117_method_8_code 16 = .ok (.ireturn, 1) := by decide +kernel
theorem own_pn_java_lang_Double : plainName "java/lang/Double" = true := by first | (simp [plainName, overriddenIn]; done) | decide +kernel
theorem own_d_prog_25_method_1_code_0 : decode prog_25_method_1_code 0 = .ok (.aload_n 0, 1) := by decide +kernel
theorem own_d_prog_25_method_1_code_1 : decode prog_25_method_1_code 1 = .ok (.invokespecial 1, 3) := by decide +kernel
theorem own_pd___V : parseMethodDescriptor "()V" = some ⟨[], none⟩ := by decide +kernel
theorem own_d_prog_25_method_1_code_4 : decode prog_25_method_1_code 4 = .ok (.dload_n 1, 1) := by decide +kernel
theorem own_d_prog_25_method_1_code_5 : decode prog_25_method_1_code 5 = .ok (.dload_n 3, 1) := by decide +kernel
theorem own_d_prog_25_method_1_code_6 : decode prog_25_method_1_code 6 = .ok (.dadd, 1) := by decide +kernel
theorem own_d_prog_25_method_1_code_7 : decode prog_25_method_1_code 7 = .ok (.dload 5, 2) := by decide +kernel
theorem own_d_prog_25_method_1_code_9 : decode prog_25_method_1_code 9 = .ok (.dadd, 1) := by decide +kernel
theorem own_d_prog_25_method_1_code_10 : decode prog_25_method_1_code 10 = .ok (.dstore 7, 2) := by decide +kernel
theorem own_d_prog_25_method_1_code_12 : decode prog_25_method_1_code 12 = .ok (.dload_n 1, 1) := by decide +kernel
theorem own_d_prog_25_method_1_code_13 : decode prog_25_method_1_code 13 = .ok (.dconst 0, 1) := by decide +kernel
theorem own_d_prog_25_method_1_code_14 : decode prog_25_method_1_code 14 = .ok (.dcmp .l, 1) := by decide +kernel
theorem own_d_prog_25_method_1_code_15 : decode prog_25_method_1_code 15 = .ok (.ifCond .lt 31, 3) := by decide +kernel
theorem own_d_prog_25_method_1_code_18 : decode prog_25_method_1_code 18 = .ok (.dload_n 3, 1) := by decide +kernel
theorem own_d_prog_25_method_1_code_19 : decode prog_25_method_1_code 19 = .ok (.dconst 0, 1) := by decide +kernel
theorem own_d_prog_25_method_1_code_20 : decode prog_25_method_1_code 20 = .ok (.dcmp .l, 1) := by decide +kernel
theorem own_d_prog_25_method_1_code_21 : decode prog_25_method_1_code 21 = .ok (.ifCond .lt 25, 3) := by decide +kernel
theorem own_d_prog_25_method_1_code_24 : decode prog_25_method_1_code 24 = .ok (.dload 5, 2) := by decide +kernel
theorem own_d_prog_25_method_1_code_26 : decode prog_25_method_1_code 26 = .ok (.dconst 0, 1) := by decide +kernel
theorem own_d_prog_25_method_1_code_27 : decode prog_25_method_1_code 27 = .ok (.dcmp .l, 1) := by decide +kernel
theorem own_d_prog_25_method_1_code_28 : decode prog_25_method_1_code 28 = .ok (.ifCond .lt 18, 3) := by decide +kernel
theorem own_d_prog_25_method_1_code_31 : decode prog_25_method_1_code 31 = .ok (.dload 7, 2) := by decide +kernel
theorem own_d_prog_25_method_1_code_33 : decode prog_25_method_1_code 33 = .ok (.dconst 0, 1) := by decide +kernel
theorem own_d_prog_25_method_1_code_34 : decode prog_25_method_1_code 34 = .ok (.dcmp .l, 1) := by decide +kernel
theorem own_d_prog_25_method_1_code_35 : decode prog_25_method_1_code 35 = .ok (.ifCond .le 11, 3) := by decide +kernel
theorem own_d_prog_25_method_1_code_38 : decode prog_25_method_1_code 38 = .ok (.dload 7, 2) := by decide +kernel
theorem own_d_prog_25_method_1_code_40 : decode prog_25_method_1_code 40 = .ok (.invokestatic 7, 3) := by decide +kernel
theorem own_pd__D_Z : parseMethodDescriptor "(D)Z" = some ⟨[.double], some .boolean⟩ := by decide +kernel
theorem own_d_prog_25_method_1_code_43 : decode prog_25_method_1_code 43 = .ok (.ifCond .ne 20, 3) := by decide +kernel
theorem own_d_prog_25_method_1_code_63 : decode prog_25_method_1_code 63 = .ok (.aload_n 0, 1) := by decide +kernel
theorem own_d_prog_25_method_1_code_64 : decode prog_25_method_1_code 64 = .ok (.dload_n 1, 1) := by decide +kernel
theorem own_d_prog_25_method_1_code_65 : decode prog_25_method_1_code 65 = .ok (.putfield 22, 3) := by decide +kernel
theorem own_d_prog_25_method_1_code_68 : decode prog_25_method_1_code 68 = .ok (.aload_n 0, 1) := by decide +kernel
theorem own_d_prog_25_method_1_code_69 : decode prog_25_method_1_code 69 = .ok (.dload_n 3, 1) := by decide +kernel
theorem own_d_prog_25_method_1_code_70 : decode prog_25_method_1_code 70 = .ok (.putfield 28, 3) := by decide +kernel
theorem own_d_prog_25_method_1_code_73 : decode prog_25_method_1_code 73 = .ok (.aload_n 0, 1) := by decide +kernel
theorem own_d_prog_25_method_1_code_74 : decode prog_25_method_1_code 74 = .ok (.dload 5, 2) := by decide +kernel
theorem own_d_prog_25_method_1_code_76 : decode prog_25_method_1_code 76 = .ok (.putfield 31, 3) := by decide +kernel
theorem own_d_prog_25_method_1_code_79 : decode prog_25_method_1_code 79 = .ok (.return_, 1) := by decide +kernel
theorem own_pn_com_example_isolint_isolint_bench_Mix : plainName "com/example/isolint/isolint/bench/Mix" = true := by first | (simp [plainName, overriddenIn]; done) | decide +kernel
theorem own_d_prog_67_method_10_code_0 : decode prog_67_method_10_code 0 = .ok (.dload_n 0, 1) := by decide +kernel
theorem own_d_prog_67_method_10_code_1 : decode prog_67_method_10_code 1 = .ok (.dconst 0, 1) := by decide +kernel
theorem own_d_prog_67_method_10_code_2 : decode prog_67_method_10_code 2 = .ok (.dcmp .l, 1) := by decide +kernel
theorem own_d_prog_67_method_10_code_3 : decode prog_67_method_10_code 3 = .ok (.ifCond .lt 13, 3) := by decide +kernel
theorem own_d_prog_67_method_10_code_6 : decode prog_67_method_10_code 6 = .ok (.dload_n 0, 1) := by decide +kernel
theorem own_d_prog_67_method_10_code_7 : decode prog_67_method_10_code 7 = .ok (.dconst 1, 1) := by decide +kernel
theorem own_d_prog_67_method_10_code_8 : decode prog_67_method_10_code 8 = .ok (.dcmp .g, 1) := by decide +kernel
theorem own_d_prog_67_method_10_code_9 : decode prog_67_method_10_code 9 = .ok (.ifCond .gt 7, 3) := by decide +kernel
theorem own_d_prog_67_method_10_code_12 : decode prog_67_method_10_code 12 = .ok (.iconst 1, 1) := by decide +kernel
theorem own_d_prog_67_method_10_code_13 : decode prog_67_method_10_code 13 = .ok (.goto 4, 3) := by decide +kernel
theorem own_d_prog_67_method_10_code_17 : decode prog_67_method_10_code 17 = .ok (.ireturn, 1) := by decide +kernel
theorem own_pn_com_example_isolint_isolint_predict_RateModel : plainName "com/example/isolint/isolint/predict/RateModel" = true := by first | (simp [plainName, overriddenIn]; done) | decide +kernel
theorem own_d_prog_67_method_2_code_0 : decode prog_67_method_2_code 0 = .ok (.dload_n 0, 1) := by decide +kernel
theorem own_d_prog_67_method_2_code_1 : decode prog_67_method_2_code 1 = .ok (.dload_n 2, 1) := by decide +kernel
theorem own_d_prog_67_method_2_code_2 : decode prog_67_method_2_code 2 = .ok (.dadd, 1) := by decide +kernel
theorem own_d_prog_67_method_2_code_3 : decode prog_67_method_2_code 3 = .ok (.ldc2_w 65, 3) := by decide +kernel
theorem own_d_prog_67_method_2_code_6 : decode prog_67_method_2_code 6 = .ok (.dcmp .l, 1) := by decide +kernel
theorem own_d_prog_67_method_2_code_7 : decode prog_67_method_2_code 7 = .ok (.ifCond .lt 7, 3) := by decide +kernel
theorem own_d_prog_67_method_2_code_10 : decode prog_67_method_2_code 10 = .ok (.iconst 1, 1) := by decide +kernel
theorem own_d_prog_67_method_2_code_11 : decode prog_67_method_2_code 11 = .ok (.goto 4, 3) := by decide +kernel
theorem own_d_prog_67_method_2_code_15 : decode prog_67_method_2_code 15 = .ok (.ireturn, 1) := by decide +kernel
theorem own_d_prog_67_method_3_code_0 : decode prog_67_method_3_code 0 = .ok (.dload_n 2, 1) := by decide +kernel
theorem own_d_prog_67_method_3_code_1 : decode prog_67_method_3_code 1 = .ok (.dload_n 0, 1) := by decide +kernel
theorem own_d_prog_67_method_3_code_2 : decode prog_67_method_3_code 2 = .ok (.ldc2_w 67, 3) := by decide +kernel
theorem own_d_prog_67_method_3_code_5 : decode prog_67_method_3_code 5 = .ok (.dsub, 1) := by decide +kernel
theorem own_d_prog_67_method_3_code_6 : decode prog_67_method_3_code 6 = .ok (.dcmp .l, 1) := by decide +kernel
theorem own_d_prog_67_method_3_code_7 : decode prog_67_method_3_code 7 = .ok (.ifCond .lt 7, 3) := by decide +kernel
theorem own_d_prog_67_method_3_code_10 : decode prog_67_method_3_code 10 = .ok (.iconst 1, 1) := by decide +kernel
theorem own_d_prog_67_method_3_code_11 : decode prog_67_method_3_code 11 = .ok (.goto 4, 3) := by decide +kernel
theorem own_d_prog_67_method_3_code_15 : decode prog_67_method_3_code 15 = .ok (.ireturn, 1) := by decide +kernel
theorem own_d_prog_67_method_1_code_0 : decode prog_67_method_1_code 0 = .ok (.aload_n 0, 1) := by decide +kernel
theorem own_d_prog_67_method_1_code_1 : decode prog_67_method_1_code 1 = .ok (.invokespecial 1, 3) := by decide +kernel
theorem own_d_prog_67_method_1_code_4 : decode prog_67_method_1_code 4 = .ok (.aload 5, 2) := by decide +kernel
theorem own_d_prog_67_method_1_code_6 : decode prog_67_method_1_code 6 = .ok (.ldc 7, 2) := by decide +kernel
theorem own_d_prog_67_method_1_code_8 : decode prog_67_method_1_code 8 = .ok (.invokestatic 9, 3) := by decide +kernel
theorem own_pd__Ljava_lang_Object_Ljava_lang_String__Ljava_lang_Object_ : parseMethodDescriptor "(Ljava/lang/Object;Ljava/lang/String;)Ljava/lang/Object;" = some ⟨[(.object "java/lang/Object"), (.object "java/lang/String")], some (.object "java/lang/Object")⟩ := by decide +kernel
theorem own_d_prog_67_method_1_code_11 : decode prog_67_method_1_code 11 = .ok (.pop, 1) := by decide +kernel
theorem own_d_prog_67_method_1_code_12 : decode prog_67_method_1_code 12 = .ok (.iload_n 1, 1) := by decide +kernel
theorem own_d_prog_67_method_1_code_13 : decode prog_67_method_1_code 13 = .ok (.iconst 1, 1) := by decide +kernel
theorem own_d_prog_67_method_1_code_14 : decode prog_67_method_1_code 14 = .ok (.if_icmp .lt 8, 3) := by decide +kernel
theorem own_d_prog_67_method_1_code_17 : decode prog_67_method_1_code 17 = .ok (.iload_n 2, 1) := by decide +kernel
theorem own_d_prog_67_method_1_code_18 : decode prog_67_method_1_code 18 = .ok (.iconst 1, 1) := by decide +kernel
theorem own_d_prog_67_method_1_code_19 : decode prog_67_method_1_code 19 = .ok (.if_icmp .ge 13, 3) := by decide +kernel
theorem own_d_prog_67_method_1_code_32 : decode prog_67_method_1_code 32 = .ok (.dload_n 3, 1) := by decide +kernel
theorem own_d_prog_67_method_1_code_33 : decode prog_67_method_1_code 33 = .ok (.invokestatic 22, 3) := by decide +kernel
theorem own_d_prog_67_method_1_code_36 : decode prog_67_method_1_code 36 = .ok (.ifCond .eq 27, 3) := by decide +kernel
theorem own_d_prog_67_method_1_code_39 : decode prog_67_method_1_code 39 = .ok (.dload 6, 2) := by decide +kernel
theorem own_d_prog_67_method_1_code_41 : decode prog_67_method_1_code 41 = .ok (.invokestatic 22, 3) := by decide +kernel
theorem own_d_prog_67_method_1_code_44 : decode prog_67_method_1_code 44 = .ok (.ifCond .eq 19, 3) := by decide +kernel
theorem own_d_prog_67_method_1_code_47 : decode prog_67_method_1_code 47 = .ok (.dload 8, 2) := by decide +kernel
theorem own_d_prog_67_method_1_code_49 : decode prog_67_method_1_code 49 = .ok (.invokestatic 22, 3) := by decide +kernel
theorem own_d_prog_67_method_1_code_52 : decode prog_67_method_1_code 52 = .ok (.ifCond .eq 11, 3) := by decide +kernel
theorem own_d_prog_67_method_1_code_55 : decode prog_67_method_1_code 55 = .ok (.dload 10, 2) := by decide +kernel
theorem own_d_prog_67_method_1_code_57 : decode prog_67_method_1_code 57 = .ok (.invokestatic 22, 3) := by decide +kernel
theorem own_d_prog_67_method_1_code_60 : decode prog_67_method_1_code 60 = .ok (.ifCond .ne 23, 3) := by decide +kernel
theorem own_d_prog_67_method_1_code_83 : decode prog_67_method_1_code 83 = .ok (.dload 6, 2) := by decide +kernel
theorem own_d_prog_67_method_1_code_85 : decode prog_67_method_1_code 85 = .ok (.dload 8, 2) := by decide +kernel
theorem own_d_prog_67_method_1_code_87 : decode prog_67_method_1_code 87 = .ok (.invokestatic 32, 3) := by decide +kernel
theorem own_pd__DD_Z : parseMethodDescriptor "(DD)Z" = some ⟨[.double, .double], some .boolean⟩ := by decide +kernel
theorem own_d_prog_67_method_1_code_90 : decode prog_67_method_1_code 90 = .ok (.ifCond .eq 13, 3) := by decide +kernel
theorem own_d_prog_67_method_1_code_93 : decode prog_67_method_1_code 93 = .ok (.dload 8, 2) := by decide +kernel
theorem own_d_prog_67_method_1_code_95 : decode prog_67_method_1_code 95 = .ok (.dload 10, 2) := by decide +kernel
theorem own_d_prog_67_method_1_code_97 : decode prog_67_method_1_code 97 = .ok (.invokestatic 36, 3) := by decide +kernel
theorem own_d_prog_67_method_1_code_100 : decode prog_67_method_1_code 100 = .ok (.ifCond .ne 22, 3) := by decide +kernel
theorem own_d_prog_67_method_1_code_122 : decode prog_67_method_1_code 122 = .ok (.aload_n 0, 1) := by decide +kernel
theorem own_d_prog_67_method_1_code_123 : decode prog_67_method_1_code 123 = .ok (.iload_n 1, 1) := by decide +kernel
theorem own_d_prog_67_method_1_code_124 : decode prog_67_method_1_code 124 = .ok (.putfield 42, 3) := by decide +kernel
theorem own_d_prog_67_method_1_code_127 : decode prog_67_method_1_code 127 = .ok (.aload_n 0, 1) := by decide +kernel
theorem own_d_prog_67_method_1_code_128 : decode prog_67_method_1_code 128 = .ok (.iload_n 2, 1) := by decide +kernel
theorem own_d_prog_67_method_1_code_129 : decode prog_67_method_1_code 129 = .ok (.putfield 46, 3) := by decide +kernel
theorem own_d_prog_67_method_1_code_132 : decode prog_67_method_1_code 132 = .ok (.aload_n 0, 1) := by decide +kernel
theorem own_d_prog_67_method_1_code_133 : decode prog_67_method_1_code 133 = .ok (.dload_n 3, 1) := by decide +kernel
theorem own_d_prog_67_method_1_code_134 : decode prog_67_method_1_code 134 = .ok (.putfield 49, 3) := by decide +kernel
theorem own_d_prog_67_method_1_code_137 : decode prog_67_method_1_code 137 = .ok (.aload_n 0, 1) := by decide +kernel
theorem own_d_prog_67_method_1_code_138 : decode prog_67_method_1_code 138 = .ok (.aload 5, 2) := by decide +kernel
theorem own_d_prog_67_method_1_code_140 : decode prog_67_method_1_code 140 = .ok (.putfield 53, 3) := by decide +kernel
theorem own_d_prog_67_method_1_code_143 : decode prog_67_method_1_code 143 = .ok (.aload_n 0, 1) := by decide +kernel
theorem own_d_prog_67_method_1_code_144 : decode prog_67_method_1_code 144 = .ok (.dload 6, 2) := by decide +kernel
theorem own_d_prog_67_method_1_code_146 : decode prog_67_method_1_code 146 = .ok (.putfield 56, 3) := by decide +kernel
theorem own_d_prog_67_method_1_code_149 : decode prog_67_method_1_code 149 = .ok (.aload_n 0, 1) := by decide +kernel
theorem own_d_prog_67_method_1_code_150 : decode prog_67_method_1_code 150 = .ok (.dload 8, 2) := by decide +kernel
theorem own_d_prog_67_method_1_code_152 : decode prog_67_method_1_code 152 = .ok (.putfield 59, 3) := by decide +kernel
theorem own_d_prog_67_method_1_code_155 : decode prog_67_method_1_code 155 = .ok (.aload_n 0, 1) := by decide +kernel
theorem own_d_prog_67_method_1_code_156 : decode prog_67_method_1_code 156 = .ok (.dload 10, 2) := by decide +kernel
theorem own_d_prog_67_method_1_code_158 : decode prog_67_method_1_code 158 = .ok (.putfield 62, 3) := by decide +kernel
theorem own_d_prog_67_method_1_code_161 : decode prog_67_method_1_code 161 = .ok (.return_, 1) := by decide +kernel
theorem own_d_prog_67_method_5_code_0 : decode prog_67_method_5_code 0 = .ok (.aload_n 0, 1) := by decide +kernel
theorem own_d_prog_67_method_5_code_1 : decode prog_67_method_5_code 1 = .ok (.getfield 42, 3) := by decide +kernel
theorem own_d_prog_67_method_5_code_4 : decode prog_67_method_5_code 4 = .ok (.iconst 1, 1) := by decide +kernel
theorem own_d_prog_67_method_5_code_5 : decode prog_67_method_5_code 5 = .ok (.isub, 1) := by decide +kernel
theorem own_d_prog_67_method_5_code_6 : decode prog_67_method_5_code 6 = .ok (.i2d, 1) := by decide +kernel
theorem own_d_prog_67_method_5_code_7 : decode prog_67_method_5_code 7 = .ok (.aload_n 0, 1) := by decide +kernel
theorem own_d_prog_67_method_5_code_8 : decode prog_67_method_5_code 8 = .ok (.getfield 49, 3) := by decide +kernel
theorem own_d_prog_67_method_5_code_11 : decode prog_67_method_5_code 11 = .ok (.dmul, 1) := by decide +kernel
theorem own_d_prog_67_method_5_code_12 : decode prog_67_method_5_code 12 = .ok (.aload_n 0, 1) := by decide +kernel
theorem own_d_prog_67_method_5_code_13 : decode prog_67_method_5_code 13 = .ok (.getfield 49, 3) := by decide +kernel
theorem own_d_prog_67_method_5_code_16 : decode prog_67_method_5_code 16 = .ok (.dmul, 1) := by decide +kernel
theorem own_d_prog_67_method_5_code_17 : decode prog_67_method_5_code 17 = .ok (.aload_n 0, 1) := by decide +kernel
theorem own_d_prog_67_method_5_code_18 : decode prog_67_method_5_code 18 = .ok (.getfield 46, 3) := by decide +kernel
theorem own_d_prog_67_method_5_code_21 : decode prog_67_method_5_code 21 = .ok (.i2d, 1) := by decide +kernel
theorem own_d_prog_67_method_5_code_22 : decode prog_67_method_5_code 22 = .ok (.ddiv, 1) := by decide +kernel
theorem own_d_prog_67_method_5_code_23 : decode prog_67_method_5_code 23 = .ok (.dreturn, 1) := by decide +kernel
theorem own_pd__II_I : parseMethodDescriptor "(II)I" = some ⟨[.int, .int], some .int⟩ := by decide +kernel
theorem own_pd__DDD_V : parseMethodDescriptor "(DDD)V" = some ⟨[.double, .double, .double], none⟩ := by decide +kernel
theorem own_pd__IIDLcom_example_isolint_isolint_bench_Mix_DDD_V : parseMethodDescriptor "(IIDLcom/example/isolint/isolint/bench/Mix;DDD)V" = some ⟨[.int, .int, .double, (.object "com/example/isolint/isolint/bench/Mix"), .double, .double, .double], none⟩ := by decide +kernel
theorem own_pd___D : parseMethodDescriptor "()D" = some ⟨[], some .double⟩ := by decide +kernel
theorem own_pn_com_example_isolint_isolint_predict_RateModelCollisionChancePinLaw : plainName "com/example/isolint/isolint/predict/RateModelCollisionChancePinLaw" = true := by first | (simp [plainName, overriddenIn]; done) | decide +kernel
theorem own_wS {Z : State} {a0 : Array Value} (hw : ∀ d ∈ tables_1, d.before a0 Z = true) : ∀ a ∈ Bundle.stringAtoms, a.before a0 Z = true := fun d hd => by
  simp only [Bundle.stringAtoms, List.mem_cons, List.not_mem_nil, or_false] at hd
  rcases hd with rfl | rfl | rfl | rfl | rfl | rfl | rfl
  · exact (hw _ (List.mem_of_getElem? (i := 43) rfl))
  · exact (hw _ (List.mem_of_getElem? (i := 44) rfl))
  · exact (hw _ (List.mem_of_getElem? (i := 45) rfl))
  · exact (hw _ (List.mem_of_getElem? (i := 46) rfl))
  · exact (hw _ (List.mem_of_getElem? (i := 47) rfl))
  · exact (hw _ (List.mem_of_getElem? (i := 48) rfl))
  · exact (hw _ (List.mem_of_getElem? (i := 49) rfl))
theorem own_mvMN {Z s : State} {a0 args : Array Value} {own host : String} {index : Nat} {y : MethodName} (hZ : Z.Warmed39 s.vm) (w : (Jvm.Cond.methodLinkNest own index y host).before a0 Z = true) : (Jvm.Cond.methodLinkNest own index y host).before args s = true := (Cond.methodLinkNest_wide hZ w :)
theorem own_ef_own_max_t (m : MethodId) {x0 : Int32} {x1 : Int32} : entryFrame m #[(.int x0), (.int x1)] 2 = mkF m 0 #[.val (.int x0), .val (.int x1)] [] := by first | (simp [entryFrame, mkF, argsToLocals, Value.category, maxLocals]; done) | rfl
set_option maxRecDepth 65536 in
set_option maxHeartbeats 40000000 in
theorem own_max_t (l : Launch) (Z : State) (a0 : Array Value) (hw : ∀ d ∈ tables_1, d.before a0 Z = true) (ws : List Jvm.Cond) (h0 : Heap) (n0 : Nat) (Z0 : n0 ≤ h0.size) (x y : Int32) (h1 : x < y) :
    MetFree l (⟨"java/lang/Math", "max", "(II)I"⟩ : MethodName) (head1 (Jvm.Cond.code (⟨"java/lang/Math", "max", "(II)I"⟩ : MethodName) jdk_29_method_65_code 2 (some .int) :: ws) ({ frames := 0, cells := 0, slots := 0, locals := 0 } : Room)) (fun a U => a = #[(.int x), (.int y)] ∧ Z.Warmed39 U.vm ∧ U.heap = h0) (fun _ _ _ _ _ => True) (fun _ U o U' => ∃ v L, o = .returned v ∧ QV (some (.int y)) h0 n0 v U'.heap L ∧ FrameEnd U o U' L ({ frames := 0, cells := 0, slots := 0, locals := 0 } : Room).cells ({ frames := 0, cells := 0, slots := 0, locals := 0 } : Room).slots) := by
  refine MetFree.of_bodySF own_pf_java_lang_Math_max__II_I hisR ?_
  intro p e s m args below meth c s₁ Bd hml0 hP hK
  obtain ⟨rfl, hZ, hh⟩ := hP
  have hx := Bd.exec
  have hby := Bd.bytes
  have hml : c.maxLocals = 2 := hml0
  have hown : s.vm.findClass "java/lang/Math" = some m.cls := (findClass_of_methodNamed Bd.named :)
  have hnm := (name_of_methodNamed Bd.named Bd.method).1
  have X0 : Stand p l e ({ frames := 0, cells := 0, slots := 0, locals := 0 } : Room) s m #[(.int x), (.int y)] below meth c s₁ [] 0 0 := Stand.of_body Bd
  have e0 : s₁.heap = h0 := by rw [← hh, Bd.state]; rfl
  have N0 := Fr.nil n0
  have pre0 : ∀ t, Steps p.tables e below (s₁.setTop (mkF m 0 #[.val (.int x), .val (.int y)] [])) t → Steps p.tables e below (s₁.setTop (entryFrame m #[(.int x), (.int y)] 2)) t := fun t k => castTop (own_ef_own_max_t m) k
  have ch1 : ∀ t, Steps p.tables e below (s₁.setTop (mkF m 10 #[.val (.int x), .val (.int y)] [(.int y)])) t → Steps p.tables e below (s₁.setTop (entryFrame m #[(.int x), (.int y)] 2)) t := fun t k => pre0 t (by
      show Steps p.tables e below (s₁.setTop (mkF m 0 #[.val (.int x), .val (.int y)] [])) t
      refine XS.iloadN X0.here hx rfl (hb hby own_d_jdk_29_method_65_code_0) rfl ?_
      show Steps p.tables e below (s₁.setTop (mkF m 1 #[.val (.int x), .val (.int y)] [(.int x)])) t
      refine XS.iloadN X0.here hx rfl (hb hby own_d_jdk_29_method_65_code_1) rfl ?_
      show Steps p.tables e below (s₁.setTop (mkF m 2 #[.val (.int x), .val (.int y)] [(.int y), (.int x)])) t
      refine XS.icmpYes X0.here hx rfl (pc0 := 2) (pc' := 9) rfl (hb hby own_d_jdk_29_method_65_code_2) rfl (tlt h1).1 (by decide) (by decide) ?_
      show Steps p.tables e below (s₁.setTop (mkF m 9 #[.val (.int x), .val (.int y)] [])) t
      refine XS.iloadN X0.here hx rfl (hb hby own_d_jdk_29_method_65_code_9) rfl ?_
      exact k)
  obtain ⟨fs, hr, hrun, hended, hW, hsame⟩ := X0.leave (v := some (.int y)) (fun h => by rw [Bd.returns] at h; cases h)
  refine ⟨_, _, ch1 _ ?_, hrun, hended, _, _, rfl, ?_, ⟨_, rfl⟩, hW, hsame.mono (by decide) (by decide)⟩
  · show Steps p.tables e below (s₁.setTop (mkF m 10 #[.val (.int x), .val (.int y)] [(.int y)])) _
    exact retI X0 hx Bd.returns (hb hby own_d_jdk_29_method_65_code_10) hr
  · show QV (some (.int y)) h0 n0 _ s₁.heap _
    rw [e0]
    exact ⟨rfl, N0, rfl⟩
theorem own_ef_own_max_f (m : MethodId) {x0 : Int32} {x1 : Int32} : entryFrame m #[(.int x0), (.int x1)] 2 = mkF m 0 #[.val (.int x0), .val (.int x1)] [] := by first | (simp [entryFrame, mkF, argsToLocals, Value.category, maxLocals]; done) | rfl
set_option maxRecDepth 65536 in
set_option maxHeartbeats 40000000 in
theorem own_max_f (l : Launch) (Z : State) (a0 : Array Value) (hw : ∀ d ∈ tables_1, d.before a0 Z = true) (ws : List Jvm.Cond) (h0 : Heap) (n0 : Nat) (Z0 : n0 ≤ h0.size) (x y : Int32) (h1 : ¬ x < y) :
    MetFree l (⟨"java/lang/Math", "max", "(II)I"⟩ : MethodName) (head1 (Jvm.Cond.code (⟨"java/lang/Math", "max", "(II)I"⟩ : MethodName) jdk_29_method_65_code 2 (some .int) :: ws) ({ frames := 0, cells := 0, slots := 0, locals := 0 } : Room)) (fun a U => a = #[(.int x), (.int y)] ∧ Z.Warmed39 U.vm ∧ U.heap = h0) (fun _ _ _ _ _ => True) (fun _ U o U' => ∃ v L, o = .returned v ∧ QV (some (.int x)) h0 n0 v U'.heap L ∧ FrameEnd U o U' L ({ frames := 0, cells := 0, slots := 0, locals := 0 } : Room).cells ({ frames := 0, cells := 0, slots := 0, locals := 0 } : Room).slots) := by
  refine MetFree.of_bodySF own_pf_java_lang_Math_max__II_I hisR ?_
  intro p e s m args below meth c s₁ Bd hml0 hP hK
  obtain ⟨rfl, hZ, hh⟩ := hP
  have hx := Bd.exec
  have hby := Bd.bytes
  have hml : c.maxLocals = 2 := hml0
  have hown : s.vm.findClass "java/lang/Math" = some m.cls := (findClass_of_methodNamed Bd.named :)
  have hnm := (name_of_methodNamed Bd.named Bd.method).1
  have X0 : Stand p l e ({ frames := 0, cells := 0, slots := 0, locals := 0 } : Room) s m #[(.int x), (.int y)] below meth c s₁ [] 0 0 := Stand.of_body Bd
  have e0 : s₁.heap = h0 := by rw [← hh, Bd.state]; rfl
  have N0 := Fr.nil n0
  have pre0 : ∀ t, Steps p.tables e below (s₁.setTop (mkF m 0 #[.val (.int x), .val (.int y)] [])) t → Steps p.tables e below (s₁.setTop (entryFrame m #[(.int x), (.int y)] 2)) t := fun t k => castTop (own_ef_own_max_f m) k
  have ch1 : ∀ t, Steps p.tables e below (s₁.setTop (mkF m 10 #[.val (.int x), .val (.int y)] [(.int x)])) t → Steps p.tables e below (s₁.setTop (entryFrame m #[(.int x), (.int y)] 2)) t := fun t k => pre0 t (by
      show Steps p.tables e below (s₁.setTop (mkF m 0 #[.val (.int x), .val (.int y)] [])) t
      refine XS.iloadN X0.here hx rfl (hb hby own_d_jdk_29_method_65_code_0) rfl ?_
      show Steps p.tables e below (s₁.setTop (mkF m 1 #[.val (.int x), .val (.int y)] [(.int x)])) t
      refine XS.iloadN X0.here hx rfl (hb hby own_d_jdk_29_method_65_code_1) rfl ?_
      show Steps p.tables e below (s₁.setTop (mkF m 2 #[.val (.int x), .val (.int y)] [(.int y), (.int x)])) t
      refine XS.icmpNo X0.here hx rfl (hb hby own_d_jdk_29_method_65_code_2) rfl (flt h1).1 ?_
      show Steps p.tables e below (s₁.setTop (mkF m 5 #[.val (.int x), .val (.int y)] [])) t
      refine XS.iloadN X0.here hx rfl (hb hby own_d_jdk_29_method_65_code_5) rfl ?_
      show Steps p.tables e below (s₁.setTop (mkF m 6 #[.val (.int x), .val (.int y)] [(.int x)])) t
      refine XS.goto X0.here hx rfl (pc0 := 6) (pc' := 10) rfl (hb hby own_d_jdk_29_method_65_code_6) (by decide) (by decide) ?_
      exact k)
  obtain ⟨fs, hr, hrun, hended, hW, hsame⟩ := X0.leave (v := some (.int x)) (fun h => by rw [Bd.returns] at h; cases h)
  refine ⟨_, _, ch1 _ ?_, hrun, hended, _, _, rfl, ?_, ⟨_, rfl⟩, hW, hsame.mono (by decide) (by decide)⟩
  · show Steps p.tables e below (s₁.setTop (mkF m 10 #[.val (.int x), .val (.int y)] [(.int x)])) _
    exact retI X0 hx Bd.returns (hb hby own_d_jdk_29_method_65_code_10) hr
  · show QV (some (.int x)) h0 n0 _ s₁.heap _
    rw [e0]
    exact ⟨rfl, N0, rfl⟩
theorem own_ef_own_rec (m : MethodId) {x0 : Addr} : entryFrame m #[(.ref x0)] 1 = mkF m 0 #[.val (.ref x0)] [] := by first | (simp [entryFrame, mkF, argsToLocals, Value.category, maxLocals]; done) | rfl
set_option maxRecDepth 65536 in
set_option maxHeartbeats 40000000 in
theorem own_rec (l : Launch) (Z : State) (a0 : Array Value) (hw : ∀ d ∈ tables_1, d.before a0 Z = true) (ws : List Jvm.Cond) (h0 : Heap) (n0 : Nat) (Z0 : n0 ≤ h0.size) (b : Addr) :
    MetFree l (⟨"java/lang/Record", "<init>", "()V"⟩ : MethodName) (head1 (Jvm.Cond.code (⟨"java/lang/Record", "<init>", "()V"⟩ : MethodName) jdk_30_method_1_code 1 none :: ws) ({ frames := 1, cells := 0, slots := 0, locals := 12 } : Room)) (fun a U => a = #[(.ref b)] ∧ Z.Warmed39 U.vm ∧ U.heap = h0) (fun _ _ _ _ _ => True) (fun _ U o U' => ∃ v L, o = .returned v ∧ QV none h0 n0 v U'.heap L ∧ FrameEnd U o U' L ({ frames := 1, cells := 0, slots := 0, locals := 12 } : Room).cells ({ frames := 1, cells := 0, slots := 0, locals := 12 } : Room).slots) := by
  refine MetFree.of_bodySF (plainFor_of_name own_pn_java_lang_Record) hisR ?_
  intro p e s m args below meth c s₁ Bd hml0 hP hK
  obtain ⟨rfl, hZ, hh⟩ := hP
  have hx := Bd.exec
  have hby := Bd.bytes
  have hml : c.maxLocals = 1 := hml0
  have hown : s.vm.findClass "java/lang/Record" = some m.cls := (findClass_of_methodNamed Bd.named :)
  have hnm := (name_of_methodNamed Bd.named Bd.method).1
  have X0 : Stand p l e ({ frames := 1, cells := 0, slots := 0, locals := 12 } : Room) s m #[(.ref b)] below meth c s₁ [] 0 0 := Stand.of_body Bd
  have e0 : s₁.heap = h0 := by rw [← hh, Bd.state]; rfl
  have N0 := Fr.nil n0
  have pre0 : ∀ t, Steps p.tables e below (s₁.setTop (mkF m 0 #[.val (.ref b)] [])) t → Steps p.tables e below (s₁.setTop (entryFrame m #[(.ref b)] 1)) t := fun t k => castTop (own_ef_own_rec m) k
  obtain ⟨T1, X1, e1, st1⟩ := initO X0 hx hZ hown (hw _ (List.mem_of_getElem? (i := 18) rfl)) (hw _ (List.mem_of_getElem? (i := 19) rfl)) (hw _ (List.mem_of_getElem? (i := 20) rfl)) e0 (g := (mkF m 1 #[.val (.ref b)] [(.ref b)])) rfl (by rw [hml]; rfl) rfl (hb hby own_d_jdk_30_method_1_code_1) (by decide) (W := 0) (by show 2 * 0 + _ ≤ _; exact Nat.le_of_eq rfl) (by decide)
  have ch2 : ∀ t, Steps p.tables e below (T1.setTop (mkF m 4 #[.val (.ref b)] [])) t → Steps p.tables e below (s₁.setTop (entryFrame m #[(.ref b)] 1)) t := fun t k => pre0 t (by
      show Steps p.tables e below (s₁.setTop (mkF m 0 #[.val (.ref b)] [])) t
      refine XS.aloadN X0.here hx rfl (hb hby own_d_jdk_30_method_1_code_0) rfl rfl ?_
      show Steps p.tables e below (s₁.setTop (mkF m 1 #[.val (.ref b)] [(.ref b)])) t
      exact st1 t k)
  obtain ⟨fs, hr, hrun, hended, hW, hsame⟩ := X1.leave (v := none) (fun _ => rfl)
  refine ⟨_, _, ch2 _ ?_, hrun, hended, _, _, rfl, ?_, ⟨_, rfl⟩, hW, hsame.mono (by decide) (by decide)⟩
  · show Steps p.tables e below (T1.setTop (mkF m 4 #[.val (.ref b)] [])) _
    exact X1.returnOut hx Bd.returns (hb hby own_d_jdk_30_method_1_code_4) hr
  · show QV none h0 n0 _ T1.heap _
    rw [e1]
    exact ⟨rfl, N0, rfl⟩
theorem own_ef_own_rnn (m : MethodId) {x0 : Addr} {x1 : Addr} : entryFrame m #[(.ref x0), (.ref x1)] 2 = mkF m 0 #[.val (.ref x0), .val (.ref x1)] [] := by first | (simp [entryFrame, mkF, argsToLocals, Value.category, maxLocals]; done) | rfl
set_option maxRecDepth 65536 in
set_option maxHeartbeats 40000000 in
theorem own_rnn (l : Launch) (Z : State) (a0 : Array Value) (hw : ∀ d ∈ tables_1, d.before a0 Z = true) (ws : List Jvm.Cond) (h0 : Heap) (n0 : Nat) (Z0 : n0 ≤ h0.size) (b cm : Addr) :
    MetFree l (⟨"java/util/Objects", "requireNonNull", "(Ljava/lang/Object;Ljava/lang/String;)Ljava/lang/Object;"⟩ : MethodName) (head1 (Jvm.Cond.code (⟨"java/util/Objects", "requireNonNull", "(Ljava/lang/Object;Ljava/lang/String;)Ljava/lang/Object;"⟩ : MethodName) jdk_31_method_11_code 2 (some (.object "java/lang/Object")) :: ws) ({ frames := 0, cells := 0, slots := 0, locals := 0 } : Room)) (fun a U => a = #[(.ref b), (.ref cm)] ∧ Z.Warmed39 U.vm ∧ U.heap = h0) (fun _ _ _ _ _ => True) (fun _ U o U' => ∃ v L, o = .returned v ∧ QV (some (.ref b)) h0 n0 v U'.heap L ∧ FrameEnd U o U' L ({ frames := 0, cells := 0, slots := 0, locals := 0 } : Room).cells ({ frames := 0, cells := 0, slots := 0, locals := 0 } : Room).slots) := by
  refine MetFree.of_bodySF (plainFor_of_name own_pn_java_util_Objects) hisR ?_
  intro p e s m args below meth c s₁ Bd hml0 hP hK
  obtain ⟨rfl, hZ, hh⟩ := hP
  have hx := Bd.exec
  have hby := Bd.bytes
  have hml : c.maxLocals = 2 := hml0
  have hown : s.vm.findClass "java/util/Objects" = some m.cls := (findClass_of_methodNamed Bd.named :)
  have hnm := (name_of_methodNamed Bd.named Bd.method).1
  have X0 : Stand p l e ({ frames := 0, cells := 0, slots := 0, locals := 0 } : Room) s m #[(.ref b), (.ref cm)] below meth c s₁ [] 0 0 := Stand.of_body Bd
  have e0 : s₁.heap = h0 := by rw [← hh, Bd.state]; rfl
  have N0 := Fr.nil n0
  have pre0 : ∀ t, Steps p.tables e below (s₁.setTop (mkF m 0 #[.val (.ref b), .val (.ref cm)] [])) t → Steps p.tables e below (s₁.setTop (entryFrame m #[(.ref b), (.ref cm)] 2)) t := fun t k => castTop (own_ef_own_rnn m) k
  have ch1 : ∀ t, Steps p.tables e below (s₁.setTop (mkF m 14 #[.val (.ref b), .val (.ref cm)] [(.ref b)])) t → Steps p.tables e below (s₁.setTop (entryFrame m #[(.ref b), (.ref cm)] 2)) t := fun t k => pre0 t (by
      show Steps p.tables e below (s₁.setTop (mkF m 0 #[.val (.ref b), .val (.ref cm)] [])) t
      refine XS.aloadN X0.here hx rfl (hb hby own_d_jdk_31_method_11_code_0) rfl rfl ?_
      show Steps p.tables e below (s₁.setTop (mkF m 1 #[.val (.ref b), .val (.ref cm)] [(.ref b)])) t
      refine XS.ifnonnullYes X0.here hx rfl (pc0 := 1) (pc' := 13) rfl (hb hby own_d_jdk_31_method_11_code_1) rfl (by decide) (by decide) ?_
      show Steps p.tables e below (s₁.setTop (mkF m 13 #[.val (.ref b), .val (.ref cm)] [])) t
      refine XS.aloadN X0.here hx rfl (hb hby own_d_jdk_31_method_11_code_13) rfl rfl ?_
      exact k)
  obtain ⟨fs, hr, hrun, hended, hW, hsame⟩ := X0.leave (v := some (.ref b)) (fun h => by rw [Bd.returns] at h; cases h)
  refine ⟨_, _, ch1 _ ?_, hrun, hended, _, _, rfl, ?_, ⟨_, rfl⟩, hW, hsame.mono (by decide) (by decide)⟩
  · show Steps p.tables e below (s₁.setTop (mkF m 14 #[.val (.ref b), .val (.ref cm)] [(.ref b)])) _
    jvm_step X0.here [X0.here.top, hx, (hb hby own_d_jdk_31_method_11_code_14), X0.method', Bd.returns, Value.isRef, FieldType.isReference]
    first | (intro acts; rw [hr _ acts rfl rfl rfl]) | rw [hr _ _ rfl rfl rfl]
    exact Steps.refl _
  · show QV (some (.ref b)) h0 n0 _ s₁.heap _
    rw [e0]
    exact ⟨rfl, N0, rfl⟩
theorem own_ef_own_isf (m : MethodId) {x0 : UInt64} : entryFrame m #[(.double x0)] 2 = mkF m 0 #[.val (.double x0), .second] [] := by first | (simp [entryFrame, mkF, argsToLocals, Value.category, maxLocals]; done) | rfl
set_option maxRecDepth 65536 in
set_option maxHeartbeats 40000000 in
theorem own_isf (l : Launch) (Z : State) (a0 : Array Value) (hw : ∀ d ∈ tables_1, d.before a0 Z = true) (ws : List Jvm.Cond) (h0 : Heap) (n0 : Nat) (Z0 : n0 ≤ h0.size) (u1 : UInt64) (hn : NoNaN64 u1) (hc : ¬ (0 : Int32) < (cmpValue (FP.dcmp (u1 &&& (9223372036854775807 : UInt64)) (9218868437227405311 : UInt64)) .g)) :
    MetFree l (⟨"java/lang/Double", "isFinite", "(D)Z"⟩ : MethodName) (head1 (Jvm.Cond.code (⟨"java/lang/Double", "isFinite", "(D)Z"⟩ : MethodName) jdk_117_method_8_code 2 (some .boolean) :: ws) ({ frames := 1, cells := 0, slots := 0, locals := 13 } : Room)) (fun a U => a = #[(.double u1)] ∧ Z.Warmed39 U.vm ∧ U.heap = h0) (fun _ _ _ _ _ => True) (fun _ U o U' => ∃ v L, o = .returned v ∧ QV (some (.int (1 : Int32))) h0 n0 v U'.heap L ∧ FrameEnd U o U' L ({ frames := 1, cells := 0, slots := 0, locals := 13 } : Room).cells ({ frames := 1, cells := 0, slots := 0, locals := 13 } : Room).slots) := by
  refine MetFree.of_bodySF (plainFor_of_name own_pn_java_lang_Double) hisR ?_
  intro p e s m args below meth c s₁ Bd hml0 hP hK
  obtain ⟨rfl, hZ, hh⟩ := hP
  have hx := Bd.exec
  have hby := Bd.bytes
  have hml : c.maxLocals = 2 := hml0
  have hown : s.vm.findClass "java/lang/Double" = some m.cls := (findClass_of_methodNamed Bd.named :)
  have hnm := (name_of_methodNamed Bd.named Bd.method).1
  have X0 : Stand p l e ({ frames := 1, cells := 0, slots := 0, locals := 13 } : Room) s m #[(.double u1)] below meth c s₁ [] 0 0 := Stand.of_body Bd
  have e0 : s₁.heap = h0 := by rw [← hh, Bd.state]; rfl
  have N0 := Fr.nil n0
  have pre0 : ∀ t, Steps p.tables e below (s₁.setTop (mkF m 0 #[.val (.double u1), .second] [])) t → Steps p.tables e below (s₁.setTop (entryFrame m #[(.double u1)] 2)) t := fun t k => castTop (own_ef_own_isf m) k
  obtain ⟨T1, X1, e1, st1⟩ := natS X0 hx hZ hown (hw _ (List.mem_of_getElem? (i := 25) rfl)) (hw _ (List.mem_of_getElem? (i := 26) rfl)) (hw _ (List.mem_of_getElem? (i := 3) rfl)) (hw _ (List.mem_of_getElem? (i := 27) rfl)) (by decide) e0 (W := 0) (F := fun a' => a' = #[.double u1] ∧ Jvm.Free.Fl.NoNaN64 u1) (val := .double (u1 &&& (9223372036854775807 : UInt64))) (val' := .double (u1 &&& (9223372036854775807 : UInt64))) (fun hc => Jvm.Free.Fl.Abs.absD_pays u1 hc (by decide) (by decide)) (g := (mkF m 1 #[.val (.double u1), .second] [(.double u1)])) rfl (by rw [hml]; rfl) (argsL := [(.double u1)]) (rest := []) (lenOf own_pd__D_D rfl) rfl (by show 2 * 0 + _ ≤ _; exact Nat.le_of_eq rfl) (hb hby own_d_jdk_117_method_8_code_1) (by decide) (by decide) ⟨rfl, hn⟩ rfl
  have ch2 : ∀ t, Steps p.tables e below (T1.setTop (mkF m 4 #[.val (.double u1), .second] [(.double (u1 &&& (9223372036854775807 : UInt64)))])) t → Steps p.tables e below (s₁.setTop (entryFrame m #[(.double u1)] 2)) t := fun t k => pre0 t (by
      show Steps p.tables e below (s₁.setTop (mkF m 0 #[.val (.double u1), .second] [])) t
      refine XS.dloadN X0.here hx rfl (hb hby own_d_jdk_117_method_8_code_0) rfl ?_
      show Steps p.tables e below (s₁.setTop (mkF m 1 #[.val (.double u1), .second] [(.double u1)])) t
      exact st1 t k)
  have ch3 : ∀ t, Steps p.tables e below (T1.setTop (mkF m 16 #[.val (.double u1), .second] [(.int (1 : Int32))])) t → Steps p.tables e below (s₁.setTop (entryFrame m #[(.double u1)] 2)) t := fun t k => ch2 t (by
      show Steps p.tables e below (T1.setTop (mkF m 4 #[.val (.double u1), .second] [(.double (u1 &&& (9223372036854775807 : UInt64)))])) t
      refine X1.ldc2DoubleC hx hown (mvT hZ (hw _ (List.mem_of_getElem? (i := 28) rfl))) (g := (mkF m 4 #[.val (.double u1), .second] [(.double (u1 &&& (9223372036854775807 : UInt64)))])) rfl (hb hby own_d_jdk_117_method_8_code_4) _ ?_
      show Steps p.tables e below (T1.setTop (mkF m 7 #[.val (.double u1), .second] [(.double (9218868437227405311 : UInt64)), (.double (u1 &&& (9223372036854775807 : UInt64)))])) t
      refine XS.dcmpS X1.here hx rfl (hb hby own_d_jdk_117_method_8_code_7) rfl rfl ?_
      show Steps p.tables e below (T1.setTop (mkF m 8 #[.val (.double u1), .second] [(.int (cmpValue (FP.dcmp (u1 &&& (9223372036854775807 : UInt64)) (9218868437227405311 : UInt64)) .g))])) t
      refine XS.ifNo X1.here hx rfl (hb hby own_d_jdk_117_method_8_code_8) rfl ((if0 _ _).trans (flt hc).2.2.1) ?_
      show Steps p.tables e below (T1.setTop (mkF m 11 #[.val (.double u1), .second] [])) t
      refine XS.iconst X1.here hx rfl (hb hby own_d_jdk_117_method_8_code_11) ?_
      show Steps p.tables e below (T1.setTop (mkF m 12 #[.val (.double u1), .second] [(.int (1 : Int32))])) t
      refine XS.goto X1.here hx rfl (pc0 := 12) (pc' := 16) rfl (hb hby own_d_jdk_117_method_8_code_12) (by decide) (by decide) ?_
      exact k)
  obtain ⟨fs, hr, hrun, hended, hW, hsame⟩ := X1.leave (v := some (.int (1 : Int32))) (fun h => by rw [Bd.returns] at h; cases h)
  refine ⟨_, _, ch3 _ ?_, hrun, hended, _, _, rfl, ?_, ⟨_, rfl⟩, hW, hsame.mono (by decide) (by decide)⟩
  · show Steps p.tables e below (T1.setTop (mkF m 16 #[.val (.double u1), .second] [(.int (1 : Int32))])) _
    exact retN X1 hx (t := .boolean) Bd.returns (by simp) (hb hby own_d_jdk_117_method_8_code_16) hr
  · show QV (some (.int (1 : Int32))) h0 n0 _ T1.heap _
    rw [e1]
    exact ⟨rfl, N0, rfl⟩
def MixOK (u1 u2 u3 : UInt64) : Prop := (NoNaN64 (FP.dadd u1 u2)) ∧ (NoNaN64 (FP.dadd (FP.dadd u1 u2) u3)) ∧ (¬ (cmpValue (FP.dcmp u1 (0 : UInt64)) .l) < (0 : Int32)) ∧ (¬ (cmpValue (FP.dcmp u2 (0 : UInt64)) .l) < (0 : Int32)) ∧ (¬ (cmpValue (FP.dcmp u3 (0 : UInt64)) .l) < (0 : Int32)) ∧ ((0 : Int32) < (cmpValue (FP.dcmp (FP.dadd (FP.dadd u1 u2) u3) (0 : UInt64)) .l)) ∧ (¬ (0 : Int32) < (cmpValue (FP.dcmp ((FP.dadd (FP.dadd u1 u2) u3) &&& (9223372036854775807 : UInt64)) (9218868437227405311 : UInt64)) .g))
def QMix (Z : State) (b : Addr) (h0 : Heap) (n0 : Nat) (v : Option Value) (h : Heap) (L : List Loc) : Prop := v = none ∧ Fr n0 L ∧ Keep h0 h [b] ∧ Exa Z h b "com/example/isolint/isolint/bench/Mix"
theorem own_ef_own_mini (m : MethodId) {x0 : Addr} {x1 : UInt64} {x2 : UInt64} {x3 : UInt64} : entryFrame m #[(.ref x0), (.double x1), (.double x2), (.double x3)] 9 = mkF m 0 #[.val (.ref x0), .val (.double x1), .second, .val (.double x2), .second, .val (.double x3), .second, .unset, .unset] [] := by first | (simp [entryFrame, mkF, argsToLocals, Value.category, maxLocals]; done) | rfl
set_option maxRecDepth 65536 in
set_option maxHeartbeats 40000000 in
theorem own_mini (l : Launch) (Z : State) (a0 : Array Value) (hw : ∀ d ∈ tables_1, d.before a0 Z = true) (ws : List Jvm.Cond) (h0 : Heap) (n0 : Nat) (Z0 : n0 ≤ h0.size) (b : Addr) (u1 u2 u3 : UInt64) (E : Exa Z h0 b "com/example/isolint/isolint/bench/Mix") (F_changeA : Fld Z h0 b "com/example/isolint/isolint/bench/Mix" "changeA" "D" (.double (0 : UInt64))) (F_changeB : Fld Z h0 b "com/example/isolint/isolint/bench/Mix" "changeB" "D" (.double (0 : UInt64))) (F_changeAB : Fld Z h0 b "com/example/isolint/isolint/bench/Mix" "changeAB" "D" (.double (0 : UInt64))) (g : n0 ≤ b) (ok : MixOK u1 u2 u3) :
    MetFree l (⟨"com/example/isolint/isolint/bench/Mix", "<init>", "(DDD)V"⟩ : MethodName) (head1 (Jvm.Cond.code (⟨"com/example/isolint/isolint/bench/Mix", "<init>", "(DDD)V"⟩ : MethodName) prog_25_method_1_code 9 none :: ws) ({ frames := 2, cells := 0, slots := 0, locals := 26 } : Room)) (fun a U => a = #[(.ref b), (.double u1), (.double u2), (.double u3)] ∧ Z.Warmed39 U.vm ∧ U.heap = h0) (fun _ _ _ _ _ => True) (fun _ U o U' => ∃ v L, o = .returned v ∧ QMix Z b h0 n0 v U'.heap L ∧ FrameEnd U o U' L ({ frames := 2, cells := 0, slots := 0, locals := 26 } : Room).cells ({ frames := 2, cells := 0, slots := 0, locals := 26 } : Room).slots) := by
  refine MetFree.of_bodySF (plainFor_of_name own_pn_com_example_isolint_isolint_bench_Mix) hisR ?_
  intro p e s m args below meth c s₁ Bd hml0 hP hK
  obtain ⟨rfl, hZ, hh⟩ := hP
  have hx := Bd.exec
  have hby := Bd.bytes
  have hml : c.maxLocals = 9 := hml0
  have hown : s.vm.findClass "com/example/isolint/isolint/bench/Mix" = some m.cls := (findClass_of_methodNamed Bd.named :)
  have hnm := (name_of_methodNamed Bd.named Bd.method).1
  have X0 : Stand p l e ({ frames := 2, cells := 0, slots := 0, locals := 26 } : Room) s m #[(.ref b), (.double u1), (.double u2), (.double u3)] below meth c s₁ [] 0 0 := Stand.of_body Bd
  have e0 : s₁.heap = h0 := by rw [← hh, Bd.state]; rfl
  have N0 := Fr.nil n0
  have pre0 : ∀ t, Steps p.tables e below (s₁.setTop (mkF m 0 #[.val (.ref b), .val (.double u1), .second, .val (.double u2), .second, .val (.double u3), .second, .unset, .unset] [])) t → Steps p.tables e below (s₁.setTop (entryFrame m #[(.ref b), (.double u1), (.double u2), (.double u3)] 9)) t := fun t k => castTop (own_ef_own_mini m) k
  obtain ⟨m1, m2, m3, m4, m5, m6, m7⟩ := ok
  obtain ⟨vv1, _, ⟨T1, L1, kk1, nn1⟩, -, X1, ⟨Lc1, hQ1, l1, y1, z1⟩, st1⟩ := X0.specialBack hx (y := (⟨"java/lang/Record", "<init>", "()V"⟩ : MethodName)) rfl hown (mvT hZ (hw _ (List.mem_of_getElem? (i := 13) rfl))) (mvT hZ (hw _ (List.mem_of_getElem? (i := 14) rfl))) (mvT hZ (hw _ (List.mem_of_getElem? (i := 17) rfl))) (by decide) (backOf (W := 0) (own_rec l Z a0 hw [] h0 n0 (Nat.le_trans Z0 (Keep.refl h0 [b]).1) b) hZ (hw _ (List.mem_of_getElem? (i := 17) rfl)) (hw _ (List.mem_of_getElem? (i := 16) rfl)) (by decide) (by decide)) (g := (mkF m 1 #[.val (.ref b), .val (.double u1), .second, .val (.double u2), .second, .val (.double u3), .second, .unset, .unset] [(.ref b)])) rfl (by rw [hml]; rfl) (Steps.refl _) (a := b) (argsL := []) (rest := []) (lenOf own_pd___V rfl) rfl (by show 2 * 0 + _ ≤ _; exact Nat.le_of_eq rfl) (hb hby own_d_prog_25_method_1_code_1) (fun _ _ => ⟨rfl, e0, (by decide : 0 + 0 ≤ _), (by decide : 0 + 0 ≤ _)⟩)
  dsimp only [Pt.U, Pt.locs, Pt.cells, Pt.slots] at X1 l1 y1 z1 st1 hQ1
  subst l1 y1 z1
  obtain ⟨rfl, Nq1, e1⟩ := hQ1
  have N1 := Fr.app N0 Nq1
  have ch2 : ∀ t, Steps p.tables e below (T1.setTop (mkF m 4 #[.val (.ref b), .val (.double u1), .second, .val (.double u2), .second, .val (.double u3), .second, .unset, .unset] [])) t → Steps p.tables e below (s₁.setTop (entryFrame m #[(.ref b), (.double u1), (.double u2), (.double u3)] 9)) t := fun t k => pre0 t (by
      show Steps p.tables e below (s₁.setTop (mkF m 0 #[.val (.ref b), .val (.double u1), .second, .val (.double u2), .second, .val (.double u3), .second, .unset, .unset] [])) t
      refine XS.aloadN X0.here hx rfl (hb hby own_d_prog_25_method_1_code_0) rfl rfl ?_
      show Steps p.tables e below (s₁.setTop (mkF m 1 #[.val (.ref b), .val (.double u1), .second, .val (.double u2), .second, .val (.double u3), .second, .unset, .unset] [(.ref b)])) t
      exact st1.trans k)
  obtain ⟨vv3, _, ⟨T3, L3, kk3, nn3⟩, -, X3, ⟨Lc3, hQ3, l3, y3, z3⟩, st3⟩ := Jvm.LawKit.callS X1 hx (y := (⟨"java/lang/Double", "isFinite", "(D)Z"⟩ : MethodName)) hown (mvT hZ (hw _ (List.mem_of_getElem? (i := 21) rfl))) (mvT hZ (hw _ (List.mem_of_getElem? (i := 22) rfl))) (mvT hZ (hw _ (List.mem_of_getElem? (i := 23) rfl))) (mvT hZ (hw _ (List.mem_of_getElem? (i := 24) rfl))) (by decide) (backOf (W := 0) (own_isf l Z a0 hw [] h0 n0 (Nat.le_trans Z0 (Keep.refl h0 [b]).1) (FP.dadd (FP.dadd u1 u2) u3) m2 m7) hZ (hw _ (List.mem_of_getElem? (i := 24) rfl)) (hw _ (List.mem_of_getElem? (i := 23) rfl)) (by decide) (by decide)) (g := (mkF m 40 #[.val (.ref b), .val (.double u1), .second, .val (.double u2), .second, .val (.double u3), .second, .val (.double (FP.dadd (FP.dadd u1 u2) u3)), .second] [(.double (FP.dadd (FP.dadd u1 u2) u3))])) rfl (by rw [hml]; rfl) (argsL := [(.double (FP.dadd (FP.dadd u1 u2) u3))]) (rest := []) (lenOf own_pd__D_Z rfl) rfl (by show 2 * 0 + _ ≤ _; exact Nat.le_of_eq rfl) (hb hby own_d_prog_25_method_1_code_40) (fun _ _ => ⟨rfl, e1, (by decide : 0 + 0 ≤ _), (by decide : 0 + 0 ≤ _)⟩)
  dsimp only [Pt.U, Pt.locs, Pt.cells, Pt.slots] at X3 l3 y3 z3 st3 hQ3
  subst l3 y3 z3
  obtain ⟨rfl, Nq3, e3⟩ := hQ3
  have N3 := Fr.app N1 Nq3
  have ch4 : ∀ t, Steps p.tables e below (T3.setTop (mkF m 43 #[.val (.ref b), .val (.double u1), .second, .val (.double u2), .second, .val (.double u3), .second, .val (.double (FP.dadd (FP.dadd u1 u2) u3)), .second] [(.int (1 : Int32))])) t → Steps p.tables e below (s₁.setTop (entryFrame m #[(.ref b), (.double u1), (.double u2), (.double u3)] 9)) t := fun t k => ch2 t (by
      show Steps p.tables e below (T1.setTop (mkF m 4 #[.val (.ref b), .val (.double u1), .second, .val (.double u2), .second, .val (.double u3), .second, .unset, .unset] [])) t
      refine XS.dloadN X1.here hx rfl (hb hby own_d_prog_25_method_1_code_4) rfl ?_
      show Steps p.tables e below (T1.setTop (mkF m 5 #[.val (.ref b), .val (.double u1), .second, .val (.double u2), .second, .val (.double u3), .second, .unset, .unset] [(.double u1)])) t
      refine XS.dloadN X1.here hx rfl (hb hby own_d_prog_25_method_1_code_5) rfl ?_
      show Steps p.tables e below (T1.setTop (mkF m 6 #[.val (.ref b), .val (.double u1), .second, .val (.double u2), .second, .val (.double u3), .second, .unset, .unset] [(.double u2), (.double u1)])) t
      refine XS.daddS X1.here hx rfl (hb hby own_d_prog_25_method_1_code_6) rfl m1 rfl ?_
      show Steps p.tables e below (T1.setTop (mkF m 7 #[.val (.ref b), .val (.double u1), .second, .val (.double u2), .second, .val (.double u3), .second, .unset, .unset] [(.double (FP.dadd u1 u2))])) t
      refine XS.dload X1.here hx rfl (hb hby own_d_prog_25_method_1_code_7) rfl ?_
      show Steps p.tables e below (T1.setTop (mkF m 9 #[.val (.ref b), .val (.double u1), .second, .val (.double u2), .second, .val (.double u3), .second, .unset, .unset] [(.double u3), (.double (FP.dadd u1 u2))])) t
      refine XS.daddS X1.here hx rfl (hb hby own_d_prog_25_method_1_code_9) rfl m2 rfl ?_
      show Steps p.tables e below (T1.setTop (mkF m 10 #[.val (.ref b), .val (.double u1), .second, .val (.double u2), .second, .val (.double u3), .second, .unset, .unset] [(.double (FP.dadd (FP.dadd u1 u2) u3))])) t
      refine XS.dstore X1.here hx rfl (hb hby own_d_prog_25_method_1_code_10) rfl (l' := #[.val (.ref b), .val (.double u1), .second, .val (.double u2), .second, .val (.double u3), .second, .val (.double (FP.dadd (FP.dadd u1 u2) u3)), .second]) rfl ?_
      show Steps p.tables e below (T1.setTop (mkF m 12 #[.val (.ref b), .val (.double u1), .second, .val (.double u2), .second, .val (.double u3), .second, .val (.double (FP.dadd (FP.dadd u1 u2) u3)), .second] [])) t
      refine XS.dloadN X1.here hx rfl (hb hby own_d_prog_25_method_1_code_12) rfl ?_
      show Steps p.tables e below (T1.setTop (mkF m 13 #[.val (.ref b), .val (.double u1), .second, .val (.double u2), .second, .val (.double u3), .second, .val (.double (FP.dadd (FP.dadd u1 u2) u3)), .second] [(.double u1)])) t
      refine XS.dconst0 X1.here hx rfl (hb hby own_d_prog_25_method_1_code_13) rfl ?_
      show Steps p.tables e below (T1.setTop (mkF m 14 #[.val (.ref b), .val (.double u1), .second, .val (.double u2), .second, .val (.double u3), .second, .val (.double (FP.dadd (FP.dadd u1 u2) u3)), .second] [(.double (0 : UInt64)), (.double u1)])) t
      show Steps p.tables e below (T1.setTop (mkF m 14 #[.val (.ref b), .val (.double u1), .second, .val (.double u2), .second, .val (.double u3), .second, .val (.double (FP.dadd (FP.dadd u1 u2) u3)), .second] [(.double (0 : UInt64)), (.double u1)])) t
      refine XS.dcmpS X1.here hx rfl (hb hby own_d_prog_25_method_1_code_14) rfl rfl ?_
      show Steps p.tables e below (T1.setTop (mkF m 15 #[.val (.ref b), .val (.double u1), .second, .val (.double u2), .second, .val (.double u3), .second, .val (.double (FP.dadd (FP.dadd u1 u2) u3)), .second] [(.int (cmpValue (FP.dcmp u1 (0 : UInt64)) .l))])) t
      refine XS.ifNo X1.here hx rfl (hb hby own_d_prog_25_method_1_code_15) rfl ((if0 _ _).trans (flt m3).1) ?_
      show Steps p.tables e below (T1.setTop (mkF m 18 #[.val (.ref b), .val (.double u1), .second, .val (.double u2), .second, .val (.double u3), .second, .val (.double (FP.dadd (FP.dadd u1 u2) u3)), .second] [])) t
      refine XS.dloadN X1.here hx rfl (hb hby own_d_prog_25_method_1_code_18) rfl ?_
      show Steps p.tables e below (T1.setTop (mkF m 19 #[.val (.ref b), .val (.double u1), .second, .val (.double u2), .second, .val (.double u3), .second, .val (.double (FP.dadd (FP.dadd u1 u2) u3)), .second] [(.double u2)])) t
      refine XS.dconst0 X1.here hx rfl (hb hby own_d_prog_25_method_1_code_19) rfl ?_
      show Steps p.tables e below (T1.setTop (mkF m 20 #[.val (.ref b), .val (.double u1), .second, .val (.double u2), .second, .val (.double u3), .second, .val (.double (FP.dadd (FP.dadd u1 u2) u3)), .second] [(.double (0 : UInt64)), (.double u2)])) t
      show Steps p.tables e below (T1.setTop (mkF m 20 #[.val (.ref b), .val (.double u1), .second, .val (.double u2), .second, .val (.double u3), .second, .val (.double (FP.dadd (FP.dadd u1 u2) u3)), .second] [(.double (0 : UInt64)), (.double u2)])) t
      refine XS.dcmpS X1.here hx rfl (hb hby own_d_prog_25_method_1_code_20) rfl rfl ?_
      show Steps p.tables e below (T1.setTop (mkF m 21 #[.val (.ref b), .val (.double u1), .second, .val (.double u2), .second, .val (.double u3), .second, .val (.double (FP.dadd (FP.dadd u1 u2) u3)), .second] [(.int (cmpValue (FP.dcmp u2 (0 : UInt64)) .l))])) t
      refine XS.ifNo X1.here hx rfl (hb hby own_d_prog_25_method_1_code_21) rfl ((if0 _ _).trans (flt m4).1) ?_
      show Steps p.tables e below (T1.setTop (mkF m 24 #[.val (.ref b), .val (.double u1), .second, .val (.double u2), .second, .val (.double u3), .second, .val (.double (FP.dadd (FP.dadd u1 u2) u3)), .second] [])) t
      refine XS.dload X1.here hx rfl (hb hby own_d_prog_25_method_1_code_24) rfl ?_
      show Steps p.tables e below (T1.setTop (mkF m 26 #[.val (.ref b), .val (.double u1), .second, .val (.double u2), .second, .val (.double u3), .second, .val (.double (FP.dadd (FP.dadd u1 u2) u3)), .second] [(.double u3)])) t
      refine XS.dconst0 X1.here hx rfl (hb hby own_d_prog_25_method_1_code_26) rfl ?_
      show Steps p.tables e below (T1.setTop (mkF m 27 #[.val (.ref b), .val (.double u1), .second, .val (.double u2), .second, .val (.double u3), .second, .val (.double (FP.dadd (FP.dadd u1 u2) u3)), .second] [(.double (0 : UInt64)), (.double u3)])) t
      show Steps p.tables e below (T1.setTop (mkF m 27 #[.val (.ref b), .val (.double u1), .second, .val (.double u2), .second, .val (.double u3), .second, .val (.double (FP.dadd (FP.dadd u1 u2) u3)), .second] [(.double (0 : UInt64)), (.double u3)])) t
      refine XS.dcmpS X1.here hx rfl (hb hby own_d_prog_25_method_1_code_27) rfl rfl ?_
      show Steps p.tables e below (T1.setTop (mkF m 28 #[.val (.ref b), .val (.double u1), .second, .val (.double u2), .second, .val (.double u3), .second, .val (.double (FP.dadd (FP.dadd u1 u2) u3)), .second] [(.int (cmpValue (FP.dcmp u3 (0 : UInt64)) .l))])) t
      refine XS.ifNo X1.here hx rfl (hb hby own_d_prog_25_method_1_code_28) rfl ((if0 _ _).trans (flt m5).1) ?_
      show Steps p.tables e below (T1.setTop (mkF m 31 #[.val (.ref b), .val (.double u1), .second, .val (.double u2), .second, .val (.double u3), .second, .val (.double (FP.dadd (FP.dadd u1 u2) u3)), .second] [])) t
      refine XS.dload X1.here hx rfl (hb hby own_d_prog_25_method_1_code_31) rfl ?_
      show Steps p.tables e below (T1.setTop (mkF m 33 #[.val (.ref b), .val (.double u1), .second, .val (.double u2), .second, .val (.double u3), .second, .val (.double (FP.dadd (FP.dadd u1 u2) u3)), .second] [(.double (FP.dadd (FP.dadd u1 u2) u3))])) t
      refine XS.dconst0 X1.here hx rfl (hb hby own_d_prog_25_method_1_code_33) rfl ?_
      show Steps p.tables e below (T1.setTop (mkF m 34 #[.val (.ref b), .val (.double u1), .second, .val (.double u2), .second, .val (.double u3), .second, .val (.double (FP.dadd (FP.dadd u1 u2) u3)), .second] [(.double (0 : UInt64)), (.double (FP.dadd (FP.dadd u1 u2) u3))])) t
      show Steps p.tables e below (T1.setTop (mkF m 34 #[.val (.ref b), .val (.double u1), .second, .val (.double u2), .second, .val (.double u3), .second, .val (.double (FP.dadd (FP.dadd u1 u2) u3)), .second] [(.double (0 : UInt64)), (.double (FP.dadd (FP.dadd u1 u2) u3))])) t
      refine XS.dcmpS X1.here hx rfl (hb hby own_d_prog_25_method_1_code_34) rfl rfl ?_
      show Steps p.tables e below (T1.setTop (mkF m 35 #[.val (.ref b), .val (.double u1), .second, .val (.double u2), .second, .val (.double u3), .second, .val (.double (FP.dadd (FP.dadd u1 u2) u3)), .second] [(.int (cmpValue (FP.dcmp (FP.dadd (FP.dadd u1 u2) u3) (0 : UInt64)) .l))])) t
      refine XS.ifNo X1.here hx rfl (hb hby own_d_prog_25_method_1_code_35) rfl ((if0 _ _).trans (tlt m6).2.2.2) ?_
      show Steps p.tables e below (T1.setTop (mkF m 38 #[.val (.ref b), .val (.double u1), .second, .val (.double u2), .second, .val (.double u3), .second, .val (.double (FP.dadd (FP.dadd u1 u2) u3)), .second] [])) t
      refine XS.dload X1.here hx rfl (hb hby own_d_prog_25_method_1_code_38) rfl ?_
      show Steps p.tables e below (T1.setTop (mkF m 40 #[.val (.ref b), .val (.double u1), .second, .val (.double u2), .second, .val (.double u3), .second, .val (.double (FP.dadd (FP.dadd u1 u2) u3)), .second] [(.double (FP.dadd (FP.dadd u1 u2) u3))])) t
      exact st3 t k)
  obtain ⟨T5, hp5, X5, e5, W5, st5⟩ := putF X3 hx hZ hown (host := "") (Or.inl (hw _ (List.mem_of_getElem? (i := 29) rfl))) Via.refl e3 F_changeA E (Or.inr ⟨(hw _ (List.mem_of_getElem? (i := 30) rfl)), rfl, hnm⟩) (hw _ (List.mem_of_getElem? (i := 8) rfl)) (ty := .double) (by decide) rfl rfl (g := (mkF m 65 #[.val (.ref b), .val (.double u1), .second, .val (.double u2), .second, .val (.double u3), .second, .val (.double (FP.dadd (FP.dadd u1 u2) u3)), .second] [(.double u1), (.ref b)])) rfl rfl (hb hby own_d_prog_25_method_1_code_65)
  have ch6 : ∀ t, Steps p.tables e below (T5.setTop (mkF m 68 #[.val (.ref b), .val (.double u1), .second, .val (.double u2), .second, .val (.double u3), .second, .val (.double (FP.dadd (FP.dadd u1 u2) u3)), .second] [])) t → Steps p.tables e below (s₁.setTop (entryFrame m #[(.ref b), (.double u1), (.double u2), (.double u3)] 9)) t := fun t k => ch4 t (by
      show Steps p.tables e below (T3.setTop (mkF m 43 #[.val (.ref b), .val (.double u1), .second, .val (.double u2), .second, .val (.double u3), .second, .val (.double (FP.dadd (FP.dadd u1 u2) u3)), .second] [(.int (1 : Int32))])) t
      refine XS.ifYes X3.here hx rfl (pc0 := 43) (pc' := 63) rfl (hb hby own_d_prog_25_method_1_code_43) rfl ((if0 _ _).trans (feq (by decide : ¬ (1 : Int32) = (0 : Int32))).2) (by decide) (by decide) ?_
      show Steps p.tables e below (T3.setTop (mkF m 63 #[.val (.ref b), .val (.double u1), .second, .val (.double u2), .second, .val (.double u3), .second, .val (.double (FP.dadd (FP.dadd u1 u2) u3)), .second] [])) t
      refine XS.aloadN X3.here hx rfl (hb hby own_d_prog_25_method_1_code_63) rfl rfl ?_
      show Steps p.tables e below (T3.setTop (mkF m 64 #[.val (.ref b), .val (.double u1), .second, .val (.double u2), .second, .val (.double u3), .second, .val (.double (FP.dadd (FP.dadd u1 u2) u3)), .second] [(.ref b)])) t
      refine XS.dloadN X3.here hx rfl (hb hby own_d_prog_25_method_1_code_64) rfl ?_
      show Steps p.tables e below (T3.setTop (mkF m 65 #[.val (.ref b), .val (.double u1), .second, .val (.double u2), .second, .val (.double u3), .second, .val (.double (FP.dadd (FP.dadd u1 u2) u3)), .second] [(.double u1), (.ref b)])) t
      exact st5 t k)
  have Fw5 := Fld.same W5 F_changeA
  have N5 := Fr.snoc X5 N3 g
  have Kp5 := Keep.wr (Keep.refl h0 [b]) W5 (Or.inl (List.mem_of_getElem? (i := 0) rfl))
  have cf7 := (Fld.other W5 F_changeB (Or.inr (slot_ne (Or.inr (hw _ (List.mem_of_getElem? (i := 32) rfl))) (Or.inr (hw _ (List.mem_of_getElem? (i := 30) rfl))) (by decide) (t := .double) (t' := .double) (by decide) (by decide))))
  have cf8 := (Exa.wr W5 E)
  obtain ⟨T9, hp9, X9, e9, W9, st9⟩ := putF X5 hx hZ hown (host := "") (Or.inl (hw _ (List.mem_of_getElem? (i := 31) rfl))) Via.refl e5 cf7 cf8 (Or.inr ⟨(hw _ (List.mem_of_getElem? (i := 32) rfl)), rfl, hnm⟩) (hw _ (List.mem_of_getElem? (i := 8) rfl)) (ty := .double) (by decide) rfl rfl (g := (mkF m 70 #[.val (.ref b), .val (.double u1), .second, .val (.double u2), .second, .val (.double u3), .second, .val (.double (FP.dadd (FP.dadd u1 u2) u3)), .second] [(.double u2), (.ref b)])) rfl rfl (hb hby own_d_prog_25_method_1_code_70)
  have ch10 : ∀ t, Steps p.tables e below (T9.setTop (mkF m 73 #[.val (.ref b), .val (.double u1), .second, .val (.double u2), .second, .val (.double u3), .second, .val (.double (FP.dadd (FP.dadd u1 u2) u3)), .second] [])) t → Steps p.tables e below (s₁.setTop (entryFrame m #[(.ref b), (.double u1), (.double u2), (.double u3)] 9)) t := fun t k => ch6 t (by
      show Steps p.tables e below (T5.setTop (mkF m 68 #[.val (.ref b), .val (.double u1), .second, .val (.double u2), .second, .val (.double u3), .second, .val (.double (FP.dadd (FP.dadd u1 u2) u3)), .second] [])) t
      refine XS.aloadN X5.here hx rfl (hb hby own_d_prog_25_method_1_code_68) rfl rfl ?_
      show Steps p.tables e below (T5.setTop (mkF m 69 #[.val (.ref b), .val (.double u1), .second, .val (.double u2), .second, .val (.double u3), .second, .val (.double (FP.dadd (FP.dadd u1 u2) u3)), .second] [(.ref b)])) t
      refine XS.dloadN X5.here hx rfl (hb hby own_d_prog_25_method_1_code_69) rfl ?_
      show Steps p.tables e below (T5.setTop (mkF m 70 #[.val (.ref b), .val (.double u1), .second, .val (.double u2), .second, .val (.double u3), .second, .val (.double (FP.dadd (FP.dadd u1 u2) u3)), .second] [(.double u2), (.ref b)])) t
      exact st9 t k)
  have Fw9 := Fld.same W9 cf7
  have N9 := Fr.snoc X9 N5 g
  have Kp9 := Keep.wr Kp5 W9 (Or.inl (List.mem_of_getElem? (i := 0) rfl))
  have cf11 := (Fld.other W9 (Fld.other W5 F_changeAB (Or.inr (slot_ne (Or.inr (hw _ (List.mem_of_getElem? (i := 34) rfl))) (Or.inr (hw _ (List.mem_of_getElem? (i := 30) rfl))) (by decide) (t := .double) (t' := .double) (by decide) (by decide)))) (Or.inr (slot_ne (Or.inr (hw _ (List.mem_of_getElem? (i := 34) rfl))) (Or.inr (hw _ (List.mem_of_getElem? (i := 32) rfl))) (by decide) (t := .double) (t' := .double) (by decide) (by decide))))
  have cf12 := (Exa.wr W9 cf8)
  obtain ⟨T13, hp13, X13, e13, W13, st13⟩ := putF X9 hx hZ hown (host := "") (Or.inl (hw _ (List.mem_of_getElem? (i := 33) rfl))) Via.refl e9 cf11 cf12 (Or.inr ⟨(hw _ (List.mem_of_getElem? (i := 34) rfl)), rfl, hnm⟩) (hw _ (List.mem_of_getElem? (i := 8) rfl)) (ty := .double) (by decide) rfl rfl (g := (mkF m 76 #[.val (.ref b), .val (.double u1), .second, .val (.double u2), .second, .val (.double u3), .second, .val (.double (FP.dadd (FP.dadd u1 u2) u3)), .second] [(.double u3), (.ref b)])) rfl rfl (hb hby own_d_prog_25_method_1_code_76)
  have ch14 : ∀ t, Steps p.tables e below (T13.setTop (mkF m 79 #[.val (.ref b), .val (.double u1), .second, .val (.double u2), .second, .val (.double u3), .second, .val (.double (FP.dadd (FP.dadd u1 u2) u3)), .second] [])) t → Steps p.tables e below (s₁.setTop (entryFrame m #[(.ref b), (.double u1), (.double u2), (.double u3)] 9)) t := fun t k => ch10 t (by
      show Steps p.tables e below (T9.setTop (mkF m 73 #[.val (.ref b), .val (.double u1), .second, .val (.double u2), .second, .val (.double u3), .second, .val (.double (FP.dadd (FP.dadd u1 u2) u3)), .second] [])) t
      refine XS.aloadN X9.here hx rfl (hb hby own_d_prog_25_method_1_code_73) rfl rfl ?_
      show Steps p.tables e below (T9.setTop (mkF m 74 #[.val (.ref b), .val (.double u1), .second, .val (.double u2), .second, .val (.double u3), .second, .val (.double (FP.dadd (FP.dadd u1 u2) u3)), .second] [(.ref b)])) t
      refine XS.dload X9.here hx rfl (hb hby own_d_prog_25_method_1_code_74) rfl ?_
      show Steps p.tables e below (T9.setTop (mkF m 76 #[.val (.ref b), .val (.double u1), .second, .val (.double u2), .second, .val (.double u3), .second, .val (.double (FP.dadd (FP.dadd u1 u2) u3)), .second] [(.double u3), (.ref b)])) t
      exact st13 t k)
  have Fw13 := Fld.same W13 cf11
  have N13 := Fr.snoc X13 N9 g
  have Kp13 := Keep.wr Kp9 W13 (Or.inl (List.mem_of_getElem? (i := 0) rfl))
  have cf15 := (Exa.wr W13 cf12)
  obtain ⟨fs, hr, hrun, hended, hW, hsame⟩ := X13.leave (v := none) (fun _ => rfl)
  refine ⟨_, _, ch14 _ ?_, hrun, hended, _, _, rfl, ?_, ⟨_, rfl⟩, hW, hsame.mono (by decide) (by decide)⟩
  · show Steps p.tables e below (T13.setTop (mkF m 79 #[.val (.ref b), .val (.double u1), .second, .val (.double u2), .second, .val (.double u3), .second, .val (.double (FP.dadd (FP.dadd u1 u2) u3)), .second] [])) _
    exact X13.returnOut hx Bd.returns (hb hby own_d_prog_25_method_1_code_79) hr
  · show QMix Z b h0 n0 _ T13.heap _
    rw [e13]
    exact ⟨rfl, N13, Kp13, cf15⟩
def ShOK (u1 : UInt64) : Prop := (¬ (cmpValue (FP.dcmp u1 (0 : UInt64)) .l) < (0 : Int32)) ∧ (¬ (0 : Int32) < (cmpValue (FP.dcmp u1 (4607182418800017408 : UInt64)) .g))
theorem own_ef_own_shr (m : MethodId) {x0 : UInt64} : entryFrame m #[(.double x0)] 2 = mkF m 0 #[.val (.double x0), .second] [] := by first | (simp [entryFrame, mkF, argsToLocals, Value.category, maxLocals]; done) | rfl
set_option maxRecDepth 65536 in
set_option maxHeartbeats 40000000 in
theorem own_shr (l : Launch) (Z : State) (a0 : Array Value) (hw : ∀ d ∈ tables_1, d.before a0 Z = true) (ws : List Jvm.Cond) (h0 : Heap) (n0 : Nat) (Z0 : n0 ≤ h0.size) (u1 : UInt64) (ok : ShOK u1) :
    MetFree l (⟨"com/example/isolint/isolint/predict/RateModel", "isShare", "(D)Z"⟩ : MethodName) (head1 (Jvm.Cond.code (⟨"com/example/isolint/isolint/predict/RateModel", "isShare", "(D)Z"⟩ : MethodName) prog_67_method_10_code 2 (some .boolean) :: ws) ({ frames := 0, cells := 0, slots := 0, locals := 0 } : Room)) (fun a U => a = #[(.double u1)] ∧ Z.Warmed39 U.vm ∧ U.heap = h0) (fun _ _ _ _ _ => True) (fun _ U o U' => ∃ v L, o = .returned v ∧ QV (some (.int (1 : Int32))) h0 n0 v U'.heap L ∧ FrameEnd U o U' L ({ frames := 0, cells := 0, slots := 0, locals := 0 } : Room).cells ({ frames := 0, cells := 0, slots := 0, locals := 0 } : Room).slots) := by
  refine MetFree.of_bodySF (plainFor_of_name own_pn_com_example_isolint_isolint_predict_RateModel) hisR ?_
  intro p e s m args below meth c s₁ Bd hml0 hP hK
  obtain ⟨rfl, hZ, hh⟩ := hP
  have hx := Bd.exec
  have hby := Bd.bytes
  have hml : c.maxLocals = 2 := hml0
  have hown : s.vm.findClass "com/example/isolint/isolint/predict/RateModel" = some m.cls := (findClass_of_methodNamed Bd.named :)
  have hnm := (name_of_methodNamed Bd.named Bd.method).1
  have X0 : Stand p l e ({ frames := 0, cells := 0, slots := 0, locals := 0 } : Room) s m #[(.double u1)] below meth c s₁ [] 0 0 := Stand.of_body Bd
  have e0 : s₁.heap = h0 := by rw [← hh, Bd.state]; rfl
  have N0 := Fr.nil n0
  have pre0 : ∀ t, Steps p.tables e below (s₁.setTop (mkF m 0 #[.val (.double u1), .second] [])) t → Steps p.tables e below (s₁.setTop (entryFrame m #[(.double u1)] 2)) t := fun t k => castTop (own_ef_own_shr m) k
  have ch1 : ∀ t, Steps p.tables e below (s₁.setTop (mkF m 17 #[.val (.double u1), .second] [(.int (1 : Int32))])) t → Steps p.tables e below (s₁.setTop (entryFrame m #[(.double u1)] 2)) t := fun t k => pre0 t (by
      show Steps p.tables e below (s₁.setTop (mkF m 0 #[.val (.double u1), .second] [])) t
      refine XS.dloadN X0.here hx rfl (hb hby own_d_prog_67_method_10_code_0) rfl ?_
      show Steps p.tables e below (s₁.setTop (mkF m 1 #[.val (.double u1), .second] [(.double u1)])) t
      refine XS.dconst0 X0.here hx rfl (hb hby own_d_prog_67_method_10_code_1) rfl ?_
      show Steps p.tables e below (s₁.setTop (mkF m 2 #[.val (.double u1), .second] [(.double (0 : UInt64)), (.double u1)])) t
      show Steps p.tables e below (s₁.setTop (mkF m 2 #[.val (.double u1), .second] [(.double (0 : UInt64)), (.double u1)])) t
      refine XS.dcmpS X0.here hx rfl (hb hby own_d_prog_67_method_10_code_2) rfl rfl ?_
      show Steps p.tables e below (s₁.setTop (mkF m 3 #[.val (.double u1), .second] [(.int (cmpValue (FP.dcmp u1 (0 : UInt64)) .l))])) t
      refine XS.ifNo X0.here hx rfl (hb hby own_d_prog_67_method_10_code_3) rfl ((if0 _ _).trans (flt ok.1).1) ?_
      show Steps p.tables e below (s₁.setTop (mkF m 6 #[.val (.double u1), .second] [])) t
      refine XS.dloadN X0.here hx rfl (hb hby own_d_prog_67_method_10_code_6) rfl ?_
      show Steps p.tables e below (s₁.setTop (mkF m 7 #[.val (.double u1), .second] [(.double u1)])) t
      refine XS.dconst1 X0.here hx rfl (hb hby own_d_prog_67_method_10_code_7) rfl ?_
      show Steps p.tables e below (s₁.setTop (mkF m 8 #[.val (.double u1), .second] [(.double (4607182418800017408 : UInt64)), (.double u1)])) t
      show Steps p.tables e below (s₁.setTop (mkF m 8 #[.val (.double u1), .second] [(.double (4607182418800017408 : UInt64)), (.double u1)])) t
      refine XS.dcmpS X0.here hx rfl (hb hby own_d_prog_67_method_10_code_8) rfl rfl ?_
      show Steps p.tables e below (s₁.setTop (mkF m 9 #[.val (.double u1), .second] [(.int (cmpValue (FP.dcmp u1 (4607182418800017408 : UInt64)) .g))])) t
      refine XS.ifNo X0.here hx rfl (hb hby own_d_prog_67_method_10_code_9) rfl ((if0 _ _).trans (flt ok.2).2.2.1) ?_
      show Steps p.tables e below (s₁.setTop (mkF m 12 #[.val (.double u1), .second] [])) t
      refine XS.iconst X0.here hx rfl (hb hby own_d_prog_67_method_10_code_12) ?_
      show Steps p.tables e below (s₁.setTop (mkF m 13 #[.val (.double u1), .second] [(.int (1 : Int32))])) t
      refine XS.goto X0.here hx rfl (pc0 := 13) (pc' := 17) rfl (hb hby own_d_prog_67_method_10_code_13) (by decide) (by decide) ?_
      exact k)
  obtain ⟨fs, hr, hrun, hended, hW, hsame⟩ := X0.leave (v := some (.int (1 : Int32))) (fun h => by rw [Bd.returns] at h; cases h)
  refine ⟨_, _, ch1 _ ?_, hrun, hended, _, _, rfl, ?_, ⟨_, rfl⟩, hW, hsame.mono (by decide) (by decide)⟩
  · show Steps p.tables e below (s₁.setTop (mkF m 17 #[.val (.double u1), .second] [(.int (1 : Int32))])) _
    exact retN X0 hx (t := .boolean) Bd.returns (by simp) (hb hby own_d_prog_67_method_10_code_17) hr
  · show QV (some (.int (1 : Int32))) h0 n0 _ s₁.heap _
    rw [e0]
    exact ⟨rfl, N0, rfl⟩
def RaOK (u1 u2 : UInt64) : Prop := NoNaN64 (FP.dadd u1 u2) ∧ ¬ (cmpValue (FP.dcmp (FP.dadd u1 u2) (4607182418800008401 : UInt64)) .l) < (0 : Int32)
def RbOK (u1 u2 : UInt64) : Prop := NoNaN64 (FP.dsub u1 (4427486594234968593 : UInt64)) ∧ ¬ (cmpValue (FP.dcmp u2 (FP.dsub u1 (4427486594234968593 : UInt64))) .l) < (0 : Int32)
theorem own_ef_own_rda (m : MethodId) {x0 : UInt64} {x1 : UInt64} : entryFrame m #[(.double x0), (.double x1)] 4 = mkF m 0 #[.val (.double x0), .second, .val (.double x1), .second] [] := by first | (simp [entryFrame, mkF, argsToLocals, Value.category, maxLocals]; done) | rfl
set_option maxRecDepth 65536 in
set_option maxHeartbeats 40000000 in
theorem own_rda (l : Launch) (Z : State) (a0 : Array Value) (hw : ∀ d ∈ tables_1, d.before a0 Z = true) (ws : List Jvm.Cond) (h0 : Heap) (n0 : Nat) (Z0 : n0 ≤ h0.size) (u1 u2 : UInt64) (ok : RaOK u1 u2) :
    MetFree l (⟨"com/example/isolint/isolint/predict/RateModel", "readsValueAInTransaction", "(DD)Z"⟩ : MethodName) (head1 (Jvm.Cond.code (⟨"com/example/isolint/isolint/predict/RateModel", "readsValueAInTransaction", "(DD)Z"⟩ : MethodName) prog_67_method_2_code 4 (some .boolean) :: ws) ({ frames := 0, cells := 0, slots := 0, locals := 0 } : Room)) (fun a U => a = #[(.double u1), (.double u2)] ∧ Z.Warmed39 U.vm ∧ U.heap = h0) (fun _ _ _ _ _ => True) (fun _ U o U' => ∃ v L, o = .returned v ∧ QV (some (.int (1 : Int32))) h0 n0 v U'.heap L ∧ FrameEnd U o U' L ({ frames := 0, cells := 0, slots := 0, locals := 0 } : Room).cells ({ frames := 0, cells := 0, slots := 0, locals := 0 } : Room).slots) := by
  refine MetFree.of_bodySF (plainFor_of_name own_pn_com_example_isolint_isolint_predict_RateModel) hisR ?_
  intro p e s m args below meth c s₁ Bd hml0 hP hK
  obtain ⟨rfl, hZ, hh⟩ := hP
  have hx := Bd.exec
  have hby := Bd.bytes
  have hml : c.maxLocals = 4 := hml0
  have hown : s.vm.findClass "com/example/isolint/isolint/predict/RateModel" = some m.cls := (findClass_of_methodNamed Bd.named :)
  have hnm := (name_of_methodNamed Bd.named Bd.method).1
  have X0 : Stand p l e ({ frames := 0, cells := 0, slots := 0, locals := 0 } : Room) s m #[(.double u1), (.double u2)] below meth c s₁ [] 0 0 := Stand.of_body Bd
  have e0 : s₁.heap = h0 := by rw [← hh, Bd.state]; rfl
  have N0 := Fr.nil n0
  have pre0 : ∀ t, Steps p.tables e below (s₁.setTop (mkF m 0 #[.val (.double u1), .second, .val (.double u2), .second] [])) t → Steps p.tables e below (s₁.setTop (entryFrame m #[(.double u1), (.double u2)] 4)) t := fun t k => castTop (own_ef_own_rda m) k
  have ch1 : ∀ t, Steps p.tables e below (s₁.setTop (mkF m 15 #[.val (.double u1), .second, .val (.double u2), .second] [(.int (1 : Int32))])) t → Steps p.tables e below (s₁.setTop (entryFrame m #[(.double u1), (.double u2)] 4)) t := fun t k => pre0 t (by
      show Steps p.tables e below (s₁.setTop (mkF m 0 #[.val (.double u1), .second, .val (.double u2), .second] [])) t
      refine XS.dloadN X0.here hx rfl (hb hby own_d_prog_67_method_2_code_0) rfl ?_
      show Steps p.tables e below (s₁.setTop (mkF m 1 #[.val (.double u1), .second, .val (.double u2), .second] [(.double u1)])) t
      refine XS.dloadN X0.here hx rfl (hb hby own_d_prog_67_method_2_code_1) rfl ?_
      show Steps p.tables e below (s₁.setTop (mkF m 2 #[.val (.double u1), .second, .val (.double u2), .second] [(.double u2), (.double u1)])) t
      refine XS.daddS X0.here hx rfl (hb hby own_d_prog_67_method_2_code_2) rfl ok.1 rfl ?_
      show Steps p.tables e below (s₁.setTop (mkF m 3 #[.val (.double u1), .second, .val (.double u2), .second] [(.double (FP.dadd u1 u2))])) t
      refine X0.ldc2DoubleC hx hown (mvT hZ (hw _ (List.mem_of_getElem? (i := 60) rfl))) (g := (mkF m 3 #[.val (.double u1), .second, .val (.double u2), .second] [(.double (FP.dadd u1 u2))])) rfl (hb hby own_d_prog_67_method_2_code_3) _ ?_
      show Steps p.tables e below (s₁.setTop (mkF m 6 #[.val (.double u1), .second, .val (.double u2), .second] [(.double (4607182418800008401 : UInt64)), (.double (FP.dadd u1 u2))])) t
      refine XS.dcmpS X0.here hx rfl (hb hby own_d_prog_67_method_2_code_6) rfl rfl ?_
      show Steps p.tables e below (s₁.setTop (mkF m 7 #[.val (.double u1), .second, .val (.double u2), .second] [(.int (cmpValue (FP.dcmp (FP.dadd u1 u2) (4607182418800008401 : UInt64)) .l))])) t
      refine XS.ifNo X0.here hx rfl (hb hby own_d_prog_67_method_2_code_7) rfl ((if0 _ _).trans (flt ok.2).1) ?_
      show Steps p.tables e below (s₁.setTop (mkF m 10 #[.val (.double u1), .second, .val (.double u2), .second] [])) t
      refine XS.iconst X0.here hx rfl (hb hby own_d_prog_67_method_2_code_10) ?_
      show Steps p.tables e below (s₁.setTop (mkF m 11 #[.val (.double u1), .second, .val (.double u2), .second] [(.int (1 : Int32))])) t
      refine XS.goto X0.here hx rfl (pc0 := 11) (pc' := 15) rfl (hb hby own_d_prog_67_method_2_code_11) (by decide) (by decide) ?_
      exact k)
  obtain ⟨fs, hr, hrun, hended, hW, hsame⟩ := X0.leave (v := some (.int (1 : Int32))) (fun h => by rw [Bd.returns] at h; cases h)
  refine ⟨_, _, ch1 _ ?_, hrun, hended, _, _, rfl, ?_, ⟨_, rfl⟩, hW, hsame.mono (by decide) (by decide)⟩
  · show Steps p.tables e below (s₁.setTop (mkF m 15 #[.val (.double u1), .second, .val (.double u2), .second] [(.int (1 : Int32))])) _
    exact retN X0 hx (t := .boolean) Bd.returns (by simp) (hb hby own_d_prog_67_method_2_code_15) hr
  · show QV (some (.int (1 : Int32))) h0 n0 _ s₁.heap _
    rw [e0]
    exact ⟨rfl, N0, rfl⟩
theorem own_ef_own_rdb (m : MethodId) {x0 : UInt64} {x1 : UInt64} : entryFrame m #[(.double x0), (.double x1)] 4 = mkF m 0 #[.val (.double x0), .second, .val (.double x1), .second] [] := by first | (simp [entryFrame, mkF, argsToLocals, Value.category, maxLocals]; done) | rfl
set_option maxRecDepth 65536 in
set_option maxHeartbeats 40000000 in
theorem own_rdb (l : Launch) (Z : State) (a0 : Array Value) (hw : ∀ d ∈ tables_1, d.before a0 Z = true) (ws : List Jvm.Cond) (h0 : Heap) (n0 : Nat) (Z0 : n0 ≤ h0.size) (u1 u2 : UInt64) (ok : RbOK u1 u2) :
    MetFree l (⟨"com/example/isolint/isolint/predict/RateModel", "readsValueBAfterValueA", "(DD)Z"⟩ : MethodName) (head1 (Jvm.Cond.code (⟨"com/example/isolint/isolint/predict/RateModel", "readsValueBAfterValueA", "(DD)Z"⟩ : MethodName) prog_67_method_3_code 4 (some .boolean) :: ws) ({ frames := 0, cells := 0, slots := 0, locals := 0 } : Room)) (fun a U => a = #[(.double u1), (.double u2)] ∧ Z.Warmed39 U.vm ∧ U.heap = h0) (fun _ _ _ _ _ => True) (fun _ U o U' => ∃ v L, o = .returned v ∧ QV (some (.int (1 : Int32))) h0 n0 v U'.heap L ∧ FrameEnd U o U' L ({ frames := 0, cells := 0, slots := 0, locals := 0 } : Room).cells ({ frames := 0, cells := 0, slots := 0, locals := 0 } : Room).slots) := by
  refine MetFree.of_bodySF (plainFor_of_name own_pn_com_example_isolint_isolint_predict_RateModel) hisR ?_
  intro p e s m args below meth c s₁ Bd hml0 hP hK
  obtain ⟨rfl, hZ, hh⟩ := hP
  have hx := Bd.exec
  have hby := Bd.bytes
  have hml : c.maxLocals = 4 := hml0
  have hown : s.vm.findClass "com/example/isolint/isolint/predict/RateModel" = some m.cls := (findClass_of_methodNamed Bd.named :)
  have hnm := (name_of_methodNamed Bd.named Bd.method).1
  have X0 : Stand p l e ({ frames := 0, cells := 0, slots := 0, locals := 0 } : Room) s m #[(.double u1), (.double u2)] below meth c s₁ [] 0 0 := Stand.of_body Bd
  have e0 : s₁.heap = h0 := by rw [← hh, Bd.state]; rfl
  have N0 := Fr.nil n0
  have pre0 : ∀ t, Steps p.tables e below (s₁.setTop (mkF m 0 #[.val (.double u1), .second, .val (.double u2), .second] [])) t → Steps p.tables e below (s₁.setTop (entryFrame m #[(.double u1), (.double u2)] 4)) t := fun t k => castTop (own_ef_own_rdb m) k
  have ch1 : ∀ t, Steps p.tables e below (s₁.setTop (mkF m 15 #[.val (.double u1), .second, .val (.double u2), .second] [(.int (1 : Int32))])) t → Steps p.tables e below (s₁.setTop (entryFrame m #[(.double u1), (.double u2)] 4)) t := fun t k => pre0 t (by
      show Steps p.tables e below (s₁.setTop (mkF m 0 #[.val (.double u1), .second, .val (.double u2), .second] [])) t
      refine XS.dloadN X0.here hx rfl (hb hby own_d_prog_67_method_3_code_0) rfl ?_
      show Steps p.tables e below (s₁.setTop (mkF m 1 #[.val (.double u1), .second, .val (.double u2), .second] [(.double u2)])) t
      refine XS.dloadN X0.here hx rfl (hb hby own_d_prog_67_method_3_code_1) rfl ?_
      show Steps p.tables e below (s₁.setTop (mkF m 2 #[.val (.double u1), .second, .val (.double u2), .second] [(.double u1), (.double u2)])) t
      refine X0.ldc2DoubleC hx hown (mvT hZ (hw _ (List.mem_of_getElem? (i := 64) rfl))) (g := (mkF m 2 #[.val (.double u1), .second, .val (.double u2), .second] [(.double u1), (.double u2)])) rfl (hb hby own_d_prog_67_method_3_code_2) _ ?_
      show Steps p.tables e below (s₁.setTop (mkF m 5 #[.val (.double u1), .second, .val (.double u2), .second] [(.double (4427486594234968593 : UInt64)), (.double u1), (.double u2)])) t
      refine XS.dsubS X0.here hx rfl (hb hby own_d_prog_67_method_3_code_5) rfl ok.1 rfl ?_
      show Steps p.tables e below (s₁.setTop (mkF m 6 #[.val (.double u1), .second, .val (.double u2), .second] [(.double (FP.dsub u1 (4427486594234968593 : UInt64))), (.double u2)])) t
      refine XS.dcmpS X0.here hx rfl (hb hby own_d_prog_67_method_3_code_6) rfl rfl ?_
      show Steps p.tables e below (s₁.setTop (mkF m 7 #[.val (.double u1), .second, .val (.double u2), .second] [(.int (cmpValue (FP.dcmp u2 (FP.dsub u1 (4427486594234968593 : UInt64))) .l))])) t
      refine XS.ifNo X0.here hx rfl (hb hby own_d_prog_67_method_3_code_7) rfl ((if0 _ _).trans (flt ok.2).1) ?_
      show Steps p.tables e below (s₁.setTop (mkF m 10 #[.val (.double u1), .second, .val (.double u2), .second] [])) t
      refine XS.iconst X0.here hx rfl (hb hby own_d_prog_67_method_3_code_10) ?_
      show Steps p.tables e below (s₁.setTop (mkF m 11 #[.val (.double u1), .second, .val (.double u2), .second] [(.int (1 : Int32))])) t
      refine XS.goto X0.here hx rfl (pc0 := 11) (pc' := 15) rfl (hb hby own_d_prog_67_method_3_code_11) (by decide) (by decide) ?_
      exact k)
  obtain ⟨fs, hr, hrun, hended, hW, hsame⟩ := X0.leave (v := some (.int (1 : Int32))) (fun h => by rw [Bd.returns] at h; cases h)
  refine ⟨_, _, ch1 _ ?_, hrun, hended, _, _, rfl, ?_, ⟨_, rfl⟩, hW, hsame.mono (by decide) (by decide)⟩
  · show Steps p.tables e below (s₁.setTop (mkF m 15 #[.val (.double u1), .second, .val (.double u2), .second] [(.int (1 : Int32))])) _
    exact retN X0 hx (t := .boolean) Bd.returns (by simp) (hb hby own_d_prog_67_method_3_code_15) hr
  · show QV (some (.int (1 : Int32))) h0 n0 _ s₁.heap _
    rw [e0]
    exact ⟨rfl, N0, rfl⟩
def QIn (Z : State) (b : Addr) (cl ht : Int32) (hf : UInt64) (h0 : Heap) (n0 : Nat) (v : Option Value) (h : Heap) (L : List Loc) : Prop := v = none ∧ Fr n0 L ∧ Keep h0 h [b] ∧ Exa Z h b "com/example/isolint/isolint/predict/RateModel" ∧ Fld Z h b "com/example/isolint/isolint/predict/RateModel" "clients" "I" (.int cl) ∧ Fld Z h b "com/example/isolint/isolint/predict/RateModel" "hot" "I" (.int ht) ∧ Fld Z h b "com/example/isolint/isolint/predict/RateModel" "hotFraction" "D" (.double hf)
theorem own_ef_own_ini (m : MethodId) {x0 : Addr} {x1 : Int32} {x2 : Int32} {x3 : UInt64} {x4 : Addr} {x5 : UInt64} {x6 : UInt64} {x7 : UInt64} : entryFrame m #[(.ref x0), (.int x1), (.int x2), (.double x3), (.ref x4), (.double x5), (.double x6), (.double x7)] 12 = mkF m 0 #[.val (.ref x0), .val (.int x1), .val (.int x2), .val (.double x3), .second, .val (.ref x4), .val (.double x5), .second, .val (.double x6), .second, .val (.double x7), .second] [] := by first | (simp [entryFrame, mkF, argsToLocals, Value.category, maxLocals]; done) | rfl
set_option maxRecDepth 65536 in
set_option maxHeartbeats 40000000 in
theorem own_ini (l : Launch) (Z : State) (a0 : Array Value) (hw : ∀ d ∈ tables_1, d.before a0 Z = true) (ws : List Jvm.Cond) (h0 : Heap) (n0 : Nat) (Z0 : n0 ≤ h0.size) (b : Addr) (cl ht : Int32) (hf : UInt64) (mi : Addr) (al be ga : UInt64) (E : Exa Z h0 b "com/example/isolint/isolint/predict/RateModel") (F_clients : Fld Z h0 b "com/example/isolint/isolint/predict/RateModel" "clients" "I" (.int (0 : Int32))) (F_hot : Fld Z h0 b "com/example/isolint/isolint/predict/RateModel" "hot" "I" (.int (0 : Int32))) (F_hotFraction : Fld Z h0 b "com/example/isolint/isolint/predict/RateModel" "hotFraction" "D" (.double (0 : UInt64))) (F_mix : Fld Z h0 b "com/example/isolint/isolint/predict/RateModel" "mix" "Lcom/example/isolint/isolint/bench/Mix;" .null) (F_alpha : Fld Z h0 b "com/example/isolint/isolint/predict/RateModel" "alpha" "D" (.double (0 : UInt64))) (F_beta : Fld Z h0 b "com/example/isolint/isolint/predict/RateModel" "beta" "D" (.double (0 : UInt64))) (F_gamma : Fld Z h0 b "com/example/isolint/isolint/predict/RateModel" "gamma" "D" (.double (0 : UInt64))) (g : n0 ≤ b) (k1 : ¬ cl < (1 : Int32)) (k2 : ¬ ht < (1 : Int32)) (s1 : ShOK hf) (s2 : ShOK al) (s3 : ShOK be) (s4 : ShOK ga) (ra : RaOK al be) (rb : RbOK be ga) :
    MetFree l (⟨"com/example/isolint/isolint/predict/RateModel", "<init>", "(IIDLcom/example/isolint/isolint/bench/Mix;DDD)V"⟩ : MethodName) (head1 (Jvm.Cond.code (⟨"com/example/isolint/isolint/predict/RateModel", "<init>", "(IIDLcom/example/isolint/isolint/bench/Mix;DDD)V"⟩ : MethodName) prog_67_method_1_code 12 none :: ws) ({ frames := 2, cells := 2, slots := 16, locals := 24 } : Room)) (fun a U => a = #[(.ref b), (.int cl), (.int ht), (.double hf), (.ref mi), (.double al), (.double be), (.double ga)] ∧ Z.Warmed39 U.vm ∧ U.heap = h0) (fun _ _ _ _ _ => True) (fun _ U o U' => ∃ v L, o = .returned v ∧ QIn Z b cl ht hf h0 n0 v U'.heap L ∧ ReturnedEndW U o U' L ({ frames := 2, cells := 2, slots := 16, locals := 24 } : Room).cells ({ frames := 2, cells := 2, slots := 16, locals := 24 } : Room).slots) := by
  refine MetFree.of_bodySF (plainFor_of_name own_pn_com_example_isolint_isolint_predict_RateModel) hisR ?_
  intro p e s m args below meth c s₁ Bd hml0 hP hK
  obtain ⟨rfl, hZ, hh⟩ := hP
  have hx := Bd.exec
  have hby := Bd.bytes
  have hml : c.maxLocals = 12 := hml0
  have hown : s.vm.findClass "com/example/isolint/isolint/predict/RateModel" = some m.cls := (findClass_of_methodNamed Bd.named :)
  have hnm := (name_of_methodNamed Bd.named Bd.method).1
  have X0 : Stand p l e ({ frames := 2, cells := 2, slots := 16, locals := 24 } : Room) (s.setVm s.vm) m #[(.ref b), (.int cl), (.int ht), (.double hf), (.ref mi), (.double al), (.double be), (.double ga)] below meth c s₁ [] 0 0 := Stand.of_body Bd
  have hZ : Z.Warmed39 (s.setVm s.vm).vm := hZ
  have hown : (s.setVm s.vm).vm.findClass "com/example/isolint/isolint/predict/RateModel" = some m.cls := hown
  have hS : s.Since s.vm 0 := (State.WarmedH.refl s).since 0
  have hk : 0 ≤ h0.size := Nat.zero_le _
  have e0 : s₁.heap = h0 := by rw [← hh, Bd.state]; rfl
  have N0 := Fr.nil n0
  have pre0 : ∀ t, Steps p.tables e below (s₁.setTop (mkF m 0 #[.val (.ref b), .val (.int cl), .val (.int ht), .val (.double hf), .second, .val (.ref mi), .val (.double al), .second, .val (.double be), .second, .val (.double ga), .second] [])) t → Steps p.tables e below (s₁.setTop (entryFrame m #[(.ref b), (.int cl), (.int ht), (.double hf), (.ref mi), (.double al), (.double be), (.double ga)] 12)) t := fun t k => castTop (own_ef_own_ini m) k
  obtain ⟨vv1, _, ⟨T1, L1, kk1, nn1⟩, -, X1, ⟨Lc1, hQ1, l1, y1, z1⟩, st1⟩ := X0.specialBack hx (y := (⟨"java/lang/Record", "<init>", "()V"⟩ : MethodName)) rfl hown (mvT hZ (hw _ (List.mem_of_getElem? (i := 41) rfl))) (mvT hZ (hw _ (List.mem_of_getElem? (i := 14) rfl))) (mvT hZ (hw _ (List.mem_of_getElem? (i := 17) rfl))) (by decide) (backOf (W := 0) (own_rec l Z a0 hw [] h0 n0 (Nat.le_trans Z0 (Keep.refl h0 [b]).1) b) hZ (hw _ (List.mem_of_getElem? (i := 17) rfl)) (hw _ (List.mem_of_getElem? (i := 16) rfl)) (by decide) (by decide)) (g := (mkF m 1 #[.val (.ref b), .val (.int cl), .val (.int ht), .val (.double hf), .second, .val (.ref mi), .val (.double al), .second, .val (.double be), .second, .val (.double ga), .second] [(.ref b)])) rfl (by rw [hml]; rfl) (Steps.refl _) (a := b) (argsL := []) (rest := []) (lenOf own_pd___V rfl) rfl (by show 2 * 0 + _ ≤ _; exact Nat.le_of_eq rfl) (hb hby own_d_prog_67_method_1_code_1) (fun _ _ => ⟨rfl, e0, (by decide : 0 + 0 ≤ _), (by decide : 0 + 0 ≤ _)⟩)
  dsimp only [Pt.U, Pt.locs, Pt.cells, Pt.slots] at X1 l1 y1 z1 st1 hQ1
  subst l1 y1 z1
  obtain ⟨rfl, Nq1, e1⟩ := hQ1
  have N1 := Fr.app N0 Nq1
  have ch2 : ∀ t, Steps p.tables e below (T1.setTop (mkF m 4 #[.val (.ref b), .val (.int cl), .val (.int ht), .val (.double hf), .second, .val (.ref mi), .val (.double al), .second, .val (.double be), .second, .val (.double ga), .second] [])) t → Steps p.tables e below (s₁.setTop (entryFrame m #[(.ref b), (.int cl), (.int ht), (.double hf), (.ref mi), (.double al), (.double be), (.double ga)] 12)) t := fun t k => pre0 t (by
      show Steps p.tables e below (s₁.setTop (mkF m 0 #[.val (.ref b), .val (.int cl), .val (.int ht), .val (.double hf), .second, .val (.ref mi), .val (.double al), .second, .val (.double be), .second, .val (.double ga), .second] [])) t
      refine XS.aloadN X0.here hx rfl (hb hby own_d_prog_67_method_1_code_0) rfl rfl ?_
      show Steps p.tables e below (s₁.setTop (mkF m 1 #[.val (.ref b), .val (.int cl), .val (.int ht), .val (.double hf), .second, .val (.ref mi), .val (.double al), .second, .val (.double be), .second, .val (.double ga), .second] [(.ref b)])) t
      exact st1.trans k)
  obtain ⟨ls3, T3, hp3, ks3, X3, e3, E3, hS, hk, hZ, hown, st3⟩ := ldcS X1 hx hZ hown (hw _ (List.mem_of_getElem? (i := 42) rfl)) (own_wS hw) e1 hS hk (g := (mkF m 6 #[.val (.ref b), .val (.int cl), .val (.int ht), .val (.double hf), .second, .val (.ref mi), .val (.double al), .second, .val (.double be), .second, .val (.double ga), .second] [(.ref mi)])) rfl (hb hby own_d_prog_67_method_1_code_6) (n := 12) (by decide) (by decide) (by decide) (by decide)
  have Kp3 := Keep.ext (Keep.refl h0 [b]) E3
  have ch4 : ∀ t, Steps p.tables e below (T3.setTop (mkF m 8 #[.val (.ref b), .val (.int cl), .val (.int ht), .val (.double hf), .second, .val (.ref mi), .val (.double al), .second, .val (.double be), .second, .val (.double ga), .second] [(.ref ls3), (.ref mi)])) t → Steps p.tables e below (s₁.setTop (entryFrame m #[(.ref b), (.int cl), (.int ht), (.double hf), (.ref mi), (.double al), (.double be), (.double ga)] 12)) t := fun t k => ch2 t (by
      show Steps p.tables e below (T1.setTop (mkF m 4 #[.val (.ref b), .val (.int cl), .val (.int ht), .val (.double hf), .second, .val (.ref mi), .val (.double al), .second, .val (.double be), .second, .val (.double ga), .second] [])) t
      refine XS.aload X1.here hx rfl (hb hby own_d_prog_67_method_1_code_4) rfl rfl ?_
      show Steps p.tables e below (T1.setTop (mkF m 6 #[.val (.ref b), .val (.int cl), .val (.int ht), .val (.double hf), .second, .val (.ref mi), .val (.double al), .second, .val (.double be), .second, .val (.double ga), .second] [(.ref mi)])) t
      exact st3 t k)
  obtain ⟨vv5, _, ⟨T5, L5, kk5, nn5⟩, -, X5, ⟨Lc5, hQ5, l5, y5, z5⟩, st5⟩ := Jvm.LawKit.callS X3 hx (y := (⟨"java/util/Objects", "requireNonNull", "(Ljava/lang/Object;Ljava/lang/String;)Ljava/lang/Object;"⟩ : MethodName)) hown (mvT hZ (hw _ (List.mem_of_getElem? (i := 50) rfl))) (mvT hZ (hw _ (List.mem_of_getElem? (i := 51) rfl))) (mvT hZ (hw _ (List.mem_of_getElem? (i := 52) rfl))) (mvT hZ (hw _ (List.mem_of_getElem? (i := 53) rfl))) (by decide) (backOf (W := 0) (own_rnn l Z a0 hw [] hp3 n0 (Nat.le_trans Z0 Kp3.1) mi ls3) hZ (hw _ (List.mem_of_getElem? (i := 53) rfl)) (hw _ (List.mem_of_getElem? (i := 52) rfl)) (by decide) (by decide)) (g := (mkF m 8 #[.val (.ref b), .val (.int cl), .val (.int ht), .val (.double hf), .second, .val (.ref mi), .val (.double al), .second, .val (.double be), .second, .val (.double ga), .second] [(.ref ls3), (.ref mi)])) rfl (by rw [hml]; rfl) (argsL := [(.ref mi), (.ref ls3)]) (rest := []) (lenOf own_pd__Ljava_lang_Object_Ljava_lang_String__Ljava_lang_Object_ rfl) rfl (by show 2 * 0 + _ ≤ _; exact Nat.le_of_eq rfl) (hb hby own_d_prog_67_method_1_code_8) (fun _ _ => ⟨rfl, e3, (by decide : 2 + 0 ≤ _), (by decide : 16 + 0 ≤ _)⟩)
  dsimp only [Pt.U, Pt.locs, Pt.cells, Pt.slots] at X5 l5 y5 z5 st5 hQ5
  subst l5 y5 z5
  obtain ⟨rfl, Nq5, e5⟩ := hQ5
  have N5 := Fr.app N1 Nq5
  have ch6 : ∀ t, Steps p.tables e below (T5.setTop (mkF m 11 #[.val (.ref b), .val (.int cl), .val (.int ht), .val (.double hf), .second, .val (.ref mi), .val (.double al), .second, .val (.double be), .second, .val (.double ga), .second] [(.ref mi)])) t → Steps p.tables e below (s₁.setTop (entryFrame m #[(.ref b), (.int cl), (.int ht), (.double hf), (.ref mi), (.double al), (.double be), (.double ga)] 12)) t := fun t k => ch4 t (by
      show Steps p.tables e below (T3.setTop (mkF m 8 #[.val (.ref b), .val (.int cl), .val (.int ht), .val (.double hf), .second, .val (.ref mi), .val (.double al), .second, .val (.double be), .second, .val (.double ga), .second] [(.ref ls3), (.ref mi)])) t
      exact st5 t k)
  obtain ⟨vv7, _, ⟨T7, L7, kk7, nn7⟩, -, X7, ⟨Lc7, hQ7, l7, y7, z7⟩, st7⟩ := Jvm.LawKit.callS X5 hx (y := (⟨"com/example/isolint/isolint/predict/RateModel", "isShare", "(D)Z"⟩ : MethodName)) hown (mvT hZ (hw _ (List.mem_of_getElem? (i := 54) rfl))) (mvT hZ (hw _ (List.mem_of_getElem? (i := 55) rfl))) (mvT hZ (hw _ (List.mem_of_getElem? (i := 37) rfl))) (mvT hZ (hw _ (List.mem_of_getElem? (i := 56) rfl))) (by decide) (backOf (W := 0) (own_shr l Z a0 hw [] hp3 n0 (Nat.le_trans Z0 Kp3.1) hf s1) hZ (hw _ (List.mem_of_getElem? (i := 56) rfl)) (hw _ (List.mem_of_getElem? (i := 37) rfl)) (by decide) (by decide)) (g := (mkF m 33 #[.val (.ref b), .val (.int cl), .val (.int ht), .val (.double hf), .second, .val (.ref mi), .val (.double al), .second, .val (.double be), .second, .val (.double ga), .second] [(.double hf)])) rfl (by rw [hml]; rfl) (argsL := [(.double hf)]) (rest := []) (lenOf own_pd__D_Z rfl) rfl (by show 2 * 0 + _ ≤ _; exact Nat.le_of_eq rfl) (hb hby own_d_prog_67_method_1_code_33) (fun _ _ => ⟨rfl, e5, (by decide : 2 + 0 ≤ _), (by decide : 16 + 0 ≤ _)⟩)
  dsimp only [Pt.U, Pt.locs, Pt.cells, Pt.slots] at X7 l7 y7 z7 st7 hQ7
  subst l7 y7 z7
  obtain ⟨rfl, Nq7, e7⟩ := hQ7
  have N7 := Fr.app N5 Nq7
  have ch8 : ∀ t, Steps p.tables e below (T7.setTop (mkF m 36 #[.val (.ref b), .val (.int cl), .val (.int ht), .val (.double hf), .second, .val (.ref mi), .val (.double al), .second, .val (.double be), .second, .val (.double ga), .second] [(.int (1 : Int32))])) t → Steps p.tables e below (s₁.setTop (entryFrame m #[(.ref b), (.int cl), (.int ht), (.double hf), (.ref mi), (.double al), (.double be), (.double ga)] 12)) t := fun t k => ch6 t (by
      show Steps p.tables e below (T5.setTop (mkF m 11 #[.val (.ref b), .val (.int cl), .val (.int ht), .val (.double hf), .second, .val (.ref mi), .val (.double al), .second, .val (.double be), .second, .val (.double ga), .second] [(.ref mi)])) t
      refine XS.pop X5.here hx rfl (hb hby own_d_prog_67_method_1_code_11) rfl rfl ?_
      show Steps p.tables e below (T5.setTop (mkF m 12 #[.val (.ref b), .val (.int cl), .val (.int ht), .val (.double hf), .second, .val (.ref mi), .val (.double al), .second, .val (.double be), .second, .val (.double ga), .second] [])) t
      refine XS.iloadN X5.here hx rfl (hb hby own_d_prog_67_method_1_code_12) rfl ?_
      show Steps p.tables e below (T5.setTop (mkF m 13 #[.val (.ref b), .val (.int cl), .val (.int ht), .val (.double hf), .second, .val (.ref mi), .val (.double al), .second, .val (.double be), .second, .val (.double ga), .second] [(.int cl)])) t
      refine XS.iconst X5.here hx rfl (hb hby own_d_prog_67_method_1_code_13) ?_
      show Steps p.tables e below (T5.setTop (mkF m 14 #[.val (.ref b), .val (.int cl), .val (.int ht), .val (.double hf), .second, .val (.ref mi), .val (.double al), .second, .val (.double be), .second, .val (.double ga), .second] [(.int (1 : Int32)), (.int cl)])) t
      refine XS.icmpNo X5.here hx rfl (hb hby own_d_prog_67_method_1_code_14) rfl (flt k1).1 ?_
      show Steps p.tables e below (T5.setTop (mkF m 17 #[.val (.ref b), .val (.int cl), .val (.int ht), .val (.double hf), .second, .val (.ref mi), .val (.double al), .second, .val (.double be), .second, .val (.double ga), .second] [])) t
      refine XS.iloadN X5.here hx rfl (hb hby own_d_prog_67_method_1_code_17) rfl ?_
      show Steps p.tables e below (T5.setTop (mkF m 18 #[.val (.ref b), .val (.int cl), .val (.int ht), .val (.double hf), .second, .val (.ref mi), .val (.double al), .second, .val (.double be), .second, .val (.double ga), .second] [(.int ht)])) t
      refine XS.iconst X5.here hx rfl (hb hby own_d_prog_67_method_1_code_18) ?_
      show Steps p.tables e below (T5.setTop (mkF m 19 #[.val (.ref b), .val (.int cl), .val (.int ht), .val (.double hf), .second, .val (.ref mi), .val (.double al), .second, .val (.double be), .second, .val (.double ga), .second] [(.int (1 : Int32)), (.int ht)])) t
      refine XS.icmpYes X5.here hx rfl (pc0 := 19) (pc' := 32) rfl (hb hby own_d_prog_67_method_1_code_19) rfl (flt k2).2.1 (by decide) (by decide) ?_
      show Steps p.tables e below (T5.setTop (mkF m 32 #[.val (.ref b), .val (.int cl), .val (.int ht), .val (.double hf), .second, .val (.ref mi), .val (.double al), .second, .val (.double be), .second, .val (.double ga), .second] [])) t
      refine XS.dloadN X5.here hx rfl (hb hby own_d_prog_67_method_1_code_32) rfl ?_
      show Steps p.tables e below (T5.setTop (mkF m 33 #[.val (.ref b), .val (.int cl), .val (.int ht), .val (.double hf), .second, .val (.ref mi), .val (.double al), .second, .val (.double be), .second, .val (.double ga), .second] [(.double hf)])) t
      exact st7 t k)
  obtain ⟨vv9, _, ⟨T9, L9, kk9, nn9⟩, -, X9, ⟨Lc9, hQ9, l9, y9, z9⟩, st9⟩ := Jvm.LawKit.callS X7 hx (y := (⟨"com/example/isolint/isolint/predict/RateModel", "isShare", "(D)Z"⟩ : MethodName)) hown (mvT hZ (hw _ (List.mem_of_getElem? (i := 54) rfl))) (mvT hZ (hw _ (List.mem_of_getElem? (i := 55) rfl))) (mvT hZ (hw _ (List.mem_of_getElem? (i := 37) rfl))) (mvT hZ (hw _ (List.mem_of_getElem? (i := 56) rfl))) (by decide) (backOf (W := 0) (own_shr l Z a0 hw [] hp3 n0 (Nat.le_trans Z0 Kp3.1) al s2) hZ (hw _ (List.mem_of_getElem? (i := 56) rfl)) (hw _ (List.mem_of_getElem? (i := 37) rfl)) (by decide) (by decide)) (g := (mkF m 41 #[.val (.ref b), .val (.int cl), .val (.int ht), .val (.double hf), .second, .val (.ref mi), .val (.double al), .second, .val (.double be), .second, .val (.double ga), .second] [(.double al)])) rfl (by rw [hml]; rfl) (argsL := [(.double al)]) (rest := []) (lenOf own_pd__D_Z rfl) rfl (by show 2 * 0 + _ ≤ _; exact Nat.le_of_eq rfl) (hb hby own_d_prog_67_method_1_code_41) (fun _ _ => ⟨rfl, e7, (by decide : 2 + 0 ≤ _), (by decide : 16 + 0 ≤ _)⟩)
  dsimp only [Pt.U, Pt.locs, Pt.cells, Pt.slots] at X9 l9 y9 z9 st9 hQ9
  subst l9 y9 z9
  obtain ⟨rfl, Nq9, e9⟩ := hQ9
  have N9 := Fr.app N7 Nq9
  have ch10 : ∀ t, Steps p.tables e below (T9.setTop (mkF m 44 #[.val (.ref b), .val (.int cl), .val (.int ht), .val (.double hf), .second, .val (.ref mi), .val (.double al), .second, .val (.double be), .second, .val (.double ga), .second] [(.int (1 : Int32))])) t → Steps p.tables e below (s₁.setTop (entryFrame m #[(.ref b), (.int cl), (.int ht), (.double hf), (.ref mi), (.double al), (.double be), (.double ga)] 12)) t := fun t k => ch8 t (by
      show Steps p.tables e below (T7.setTop (mkF m 36 #[.val (.ref b), .val (.int cl), .val (.int ht), .val (.double hf), .second, .val (.ref mi), .val (.double al), .second, .val (.double be), .second, .val (.double ga), .second] [(.int (1 : Int32))])) t
      refine XS.ifNo X7.here hx rfl (hb hby own_d_prog_67_method_1_code_36) rfl ((if0 _ _).trans (feq (by decide : ¬ (1 : Int32) = (0 : Int32))).1) ?_
      show Steps p.tables e below (T7.setTop (mkF m 39 #[.val (.ref b), .val (.int cl), .val (.int ht), .val (.double hf), .second, .val (.ref mi), .val (.double al), .second, .val (.double be), .second, .val (.double ga), .second] [])) t
      refine XS.dload X7.here hx rfl (hb hby own_d_prog_67_method_1_code_39) rfl ?_
      show Steps p.tables e below (T7.setTop (mkF m 41 #[.val (.ref b), .val (.int cl), .val (.int ht), .val (.double hf), .second, .val (.ref mi), .val (.double al), .second, .val (.double be), .second, .val (.double ga), .second] [(.double al)])) t
      exact st9 t k)
  obtain ⟨vv11, _, ⟨T11, L11, kk11, nn11⟩, -, X11, ⟨Lc11, hQ11, l11, y11, z11⟩, st11⟩ := Jvm.LawKit.callS X9 hx (y := (⟨"com/example/isolint/isolint/predict/RateModel", "isShare", "(D)Z"⟩ : MethodName)) hown (mvT hZ (hw _ (List.mem_of_getElem? (i := 54) rfl))) (mvT hZ (hw _ (List.mem_of_getElem? (i := 55) rfl))) (mvT hZ (hw _ (List.mem_of_getElem? (i := 37) rfl))) (mvT hZ (hw _ (List.mem_of_getElem? (i := 56) rfl))) (by decide) (backOf (W := 0) (own_shr l Z a0 hw [] hp3 n0 (Nat.le_trans Z0 Kp3.1) be s3) hZ (hw _ (List.mem_of_getElem? (i := 56) rfl)) (hw _ (List.mem_of_getElem? (i := 37) rfl)) (by decide) (by decide)) (g := (mkF m 49 #[.val (.ref b), .val (.int cl), .val (.int ht), .val (.double hf), .second, .val (.ref mi), .val (.double al), .second, .val (.double be), .second, .val (.double ga), .second] [(.double be)])) rfl (by rw [hml]; rfl) (argsL := [(.double be)]) (rest := []) (lenOf own_pd__D_Z rfl) rfl (by show 2 * 0 + _ ≤ _; exact Nat.le_of_eq rfl) (hb hby own_d_prog_67_method_1_code_49) (fun _ _ => ⟨rfl, e9, (by decide : 2 + 0 ≤ _), (by decide : 16 + 0 ≤ _)⟩)
  dsimp only [Pt.U, Pt.locs, Pt.cells, Pt.slots] at X11 l11 y11 z11 st11 hQ11
  subst l11 y11 z11
  obtain ⟨rfl, Nq11, e11⟩ := hQ11
  have N11 := Fr.app N9 Nq11
  have ch12 : ∀ t, Steps p.tables e below (T11.setTop (mkF m 52 #[.val (.ref b), .val (.int cl), .val (.int ht), .val (.double hf), .second, .val (.ref mi), .val (.double al), .second, .val (.double be), .second, .val (.double ga), .second] [(.int (1 : Int32))])) t → Steps p.tables e below (s₁.setTop (entryFrame m #[(.ref b), (.int cl), (.int ht), (.double hf), (.ref mi), (.double al), (.double be), (.double ga)] 12)) t := fun t k => ch10 t (by
      show Steps p.tables e below (T9.setTop (mkF m 44 #[.val (.ref b), .val (.int cl), .val (.int ht), .val (.double hf), .second, .val (.ref mi), .val (.double al), .second, .val (.double be), .second, .val (.double ga), .second] [(.int (1 : Int32))])) t
      refine XS.ifNo X9.here hx rfl (hb hby own_d_prog_67_method_1_code_44) rfl ((if0 _ _).trans (feq (by decide : ¬ (1 : Int32) = (0 : Int32))).1) ?_
      show Steps p.tables e below (T9.setTop (mkF m 47 #[.val (.ref b), .val (.int cl), .val (.int ht), .val (.double hf), .second, .val (.ref mi), .val (.double al), .second, .val (.double be), .second, .val (.double ga), .second] [])) t
      refine XS.dload X9.here hx rfl (hb hby own_d_prog_67_method_1_code_47) rfl ?_
      show Steps p.tables e below (T9.setTop (mkF m 49 #[.val (.ref b), .val (.int cl), .val (.int ht), .val (.double hf), .second, .val (.ref mi), .val (.double al), .second, .val (.double be), .second, .val (.double ga), .second] [(.double be)])) t
      exact st11 t k)
  obtain ⟨vv13, _, ⟨T13, L13, kk13, nn13⟩, -, X13, ⟨Lc13, hQ13, l13, y13, z13⟩, st13⟩ := Jvm.LawKit.callS X11 hx (y := (⟨"com/example/isolint/isolint/predict/RateModel", "isShare", "(D)Z"⟩ : MethodName)) hown (mvT hZ (hw _ (List.mem_of_getElem? (i := 54) rfl))) (mvT hZ (hw _ (List.mem_of_getElem? (i := 55) rfl))) (mvT hZ (hw _ (List.mem_of_getElem? (i := 37) rfl))) (mvT hZ (hw _ (List.mem_of_getElem? (i := 56) rfl))) (by decide) (backOf (W := 0) (own_shr l Z a0 hw [] hp3 n0 (Nat.le_trans Z0 Kp3.1) ga s4) hZ (hw _ (List.mem_of_getElem? (i := 56) rfl)) (hw _ (List.mem_of_getElem? (i := 37) rfl)) (by decide) (by decide)) (g := (mkF m 57 #[.val (.ref b), .val (.int cl), .val (.int ht), .val (.double hf), .second, .val (.ref mi), .val (.double al), .second, .val (.double be), .second, .val (.double ga), .second] [(.double ga)])) rfl (by rw [hml]; rfl) (argsL := [(.double ga)]) (rest := []) (lenOf own_pd__D_Z rfl) rfl (by show 2 * 0 + _ ≤ _; exact Nat.le_of_eq rfl) (hb hby own_d_prog_67_method_1_code_57) (fun _ _ => ⟨rfl, e11, (by decide : 2 + 0 ≤ _), (by decide : 16 + 0 ≤ _)⟩)
  dsimp only [Pt.U, Pt.locs, Pt.cells, Pt.slots] at X13 l13 y13 z13 st13 hQ13
  subst l13 y13 z13
  obtain ⟨rfl, Nq13, e13⟩ := hQ13
  have N13 := Fr.app N11 Nq13
  have ch14 : ∀ t, Steps p.tables e below (T13.setTop (mkF m 60 #[.val (.ref b), .val (.int cl), .val (.int ht), .val (.double hf), .second, .val (.ref mi), .val (.double al), .second, .val (.double be), .second, .val (.double ga), .second] [(.int (1 : Int32))])) t → Steps p.tables e below (s₁.setTop (entryFrame m #[(.ref b), (.int cl), (.int ht), (.double hf), (.ref mi), (.double al), (.double be), (.double ga)] 12)) t := fun t k => ch12 t (by
      show Steps p.tables e below (T11.setTop (mkF m 52 #[.val (.ref b), .val (.int cl), .val (.int ht), .val (.double hf), .second, .val (.ref mi), .val (.double al), .second, .val (.double be), .second, .val (.double ga), .second] [(.int (1 : Int32))])) t
      refine XS.ifNo X11.here hx rfl (hb hby own_d_prog_67_method_1_code_52) rfl ((if0 _ _).trans (feq (by decide : ¬ (1 : Int32) = (0 : Int32))).1) ?_
      show Steps p.tables e below (T11.setTop (mkF m 55 #[.val (.ref b), .val (.int cl), .val (.int ht), .val (.double hf), .second, .val (.ref mi), .val (.double al), .second, .val (.double be), .second, .val (.double ga), .second] [])) t
      refine XS.dload X11.here hx rfl (hb hby own_d_prog_67_method_1_code_55) rfl ?_
      show Steps p.tables e below (T11.setTop (mkF m 57 #[.val (.ref b), .val (.int cl), .val (.int ht), .val (.double hf), .second, .val (.ref mi), .val (.double al), .second, .val (.double be), .second, .val (.double ga), .second] [(.double ga)])) t
      exact st13 t k)
  obtain ⟨vv15, _, ⟨T15, L15, kk15, nn15⟩, -, X15, ⟨Lc15, hQ15, l15, y15, z15⟩, st15⟩ := Jvm.LawKit.callS X13 hx (y := (⟨"com/example/isolint/isolint/predict/RateModel", "readsValueAInTransaction", "(DD)Z"⟩ : MethodName)) hown (mvT hZ (hw _ (List.mem_of_getElem? (i := 57) rfl))) (mvT hZ (hw _ (List.mem_of_getElem? (i := 58) rfl))) (mvT hZ (hw _ (List.mem_of_getElem? (i := 37) rfl))) (mvT hZ (hw _ (List.mem_of_getElem? (i := 59) rfl))) (by decide) (backOf (W := 0) (own_rda l Z a0 hw [] hp3 n0 (Nat.le_trans Z0 Kp3.1) al be ra) hZ (hw _ (List.mem_of_getElem? (i := 59) rfl)) (hw _ (List.mem_of_getElem? (i := 37) rfl)) (by decide) (by decide)) (g := (mkF m 87 #[.val (.ref b), .val (.int cl), .val (.int ht), .val (.double hf), .second, .val (.ref mi), .val (.double al), .second, .val (.double be), .second, .val (.double ga), .second] [(.double be), (.double al)])) rfl (by rw [hml]; rfl) (argsL := [(.double al), (.double be)]) (rest := []) (lenOf own_pd__DD_Z rfl) rfl (by show 2 * 0 + _ ≤ _; exact Nat.le_of_eq rfl) (hb hby own_d_prog_67_method_1_code_87) (fun _ _ => ⟨rfl, e13, (by decide : 2 + 0 ≤ _), (by decide : 16 + 0 ≤ _)⟩)
  dsimp only [Pt.U, Pt.locs, Pt.cells, Pt.slots] at X15 l15 y15 z15 st15 hQ15
  subst l15 y15 z15
  obtain ⟨rfl, Nq15, e15⟩ := hQ15
  have N15 := Fr.app N13 Nq15
  have ch16 : ∀ t, Steps p.tables e below (T15.setTop (mkF m 90 #[.val (.ref b), .val (.int cl), .val (.int ht), .val (.double hf), .second, .val (.ref mi), .val (.double al), .second, .val (.double be), .second, .val (.double ga), .second] [(.int (1 : Int32))])) t → Steps p.tables e below (s₁.setTop (entryFrame m #[(.ref b), (.int cl), (.int ht), (.double hf), (.ref mi), (.double al), (.double be), (.double ga)] 12)) t := fun t k => ch14 t (by
      show Steps p.tables e below (T13.setTop (mkF m 60 #[.val (.ref b), .val (.int cl), .val (.int ht), .val (.double hf), .second, .val (.ref mi), .val (.double al), .second, .val (.double be), .second, .val (.double ga), .second] [(.int (1 : Int32))])) t
      refine XS.ifYes X13.here hx rfl (pc0 := 60) (pc' := 83) rfl (hb hby own_d_prog_67_method_1_code_60) rfl ((if0 _ _).trans (feq (by decide : ¬ (1 : Int32) = (0 : Int32))).2) (by decide) (by decide) ?_
      show Steps p.tables e below (T13.setTop (mkF m 83 #[.val (.ref b), .val (.int cl), .val (.int ht), .val (.double hf), .second, .val (.ref mi), .val (.double al), .second, .val (.double be), .second, .val (.double ga), .second] [])) t
      refine XS.dload X13.here hx rfl (hb hby own_d_prog_67_method_1_code_83) rfl ?_
      show Steps p.tables e below (T13.setTop (mkF m 85 #[.val (.ref b), .val (.int cl), .val (.int ht), .val (.double hf), .second, .val (.ref mi), .val (.double al), .second, .val (.double be), .second, .val (.double ga), .second] [(.double al)])) t
      refine XS.dload X13.here hx rfl (hb hby own_d_prog_67_method_1_code_85) rfl ?_
      show Steps p.tables e below (T13.setTop (mkF m 87 #[.val (.ref b), .val (.int cl), .val (.int ht), .val (.double hf), .second, .val (.ref mi), .val (.double al), .second, .val (.double be), .second, .val (.double ga), .second] [(.double be), (.double al)])) t
      exact st15 t k)
  obtain ⟨vv17, _, ⟨T17, L17, kk17, nn17⟩, -, X17, ⟨Lc17, hQ17, l17, y17, z17⟩, st17⟩ := Jvm.LawKit.callS X15 hx (y := (⟨"com/example/isolint/isolint/predict/RateModel", "readsValueBAfterValueA", "(DD)Z"⟩ : MethodName)) hown (mvT hZ (hw _ (List.mem_of_getElem? (i := 61) rfl))) (mvT hZ (hw _ (List.mem_of_getElem? (i := 62) rfl))) (mvT hZ (hw _ (List.mem_of_getElem? (i := 37) rfl))) (mvT hZ (hw _ (List.mem_of_getElem? (i := 63) rfl))) (by decide) (backOf (W := 0) (own_rdb l Z a0 hw [] hp3 n0 (Nat.le_trans Z0 Kp3.1) be ga rb) hZ (hw _ (List.mem_of_getElem? (i := 63) rfl)) (hw _ (List.mem_of_getElem? (i := 37) rfl)) (by decide) (by decide)) (g := (mkF m 97 #[.val (.ref b), .val (.int cl), .val (.int ht), .val (.double hf), .second, .val (.ref mi), .val (.double al), .second, .val (.double be), .second, .val (.double ga), .second] [(.double ga), (.double be)])) rfl (by rw [hml]; rfl) (argsL := [(.double be), (.double ga)]) (rest := []) (lenOf own_pd__DD_Z rfl) rfl (by show 2 * 0 + _ ≤ _; exact Nat.le_of_eq rfl) (hb hby own_d_prog_67_method_1_code_97) (fun _ _ => ⟨rfl, e15, (by decide : 2 + 0 ≤ _), (by decide : 16 + 0 ≤ _)⟩)
  dsimp only [Pt.U, Pt.locs, Pt.cells, Pt.slots] at X17 l17 y17 z17 st17 hQ17
  subst l17 y17 z17
  obtain ⟨rfl, Nq17, e17⟩ := hQ17
  have N17 := Fr.app N15 Nq17
  have ch18 : ∀ t, Steps p.tables e below (T17.setTop (mkF m 100 #[.val (.ref b), .val (.int cl), .val (.int ht), .val (.double hf), .second, .val (.ref mi), .val (.double al), .second, .val (.double be), .second, .val (.double ga), .second] [(.int (1 : Int32))])) t → Steps p.tables e below (s₁.setTop (entryFrame m #[(.ref b), (.int cl), (.int ht), (.double hf), (.ref mi), (.double al), (.double be), (.double ga)] 12)) t := fun t k => ch16 t (by
      show Steps p.tables e below (T15.setTop (mkF m 90 #[.val (.ref b), .val (.int cl), .val (.int ht), .val (.double hf), .second, .val (.ref mi), .val (.double al), .second, .val (.double be), .second, .val (.double ga), .second] [(.int (1 : Int32))])) t
      refine XS.ifNo X15.here hx rfl (hb hby own_d_prog_67_method_1_code_90) rfl ((if0 _ _).trans (feq (by decide : ¬ (1 : Int32) = (0 : Int32))).1) ?_
      show Steps p.tables e below (T15.setTop (mkF m 93 #[.val (.ref b), .val (.int cl), .val (.int ht), .val (.double hf), .second, .val (.ref mi), .val (.double al), .second, .val (.double be), .second, .val (.double ga), .second] [])) t
      refine XS.dload X15.here hx rfl (hb hby own_d_prog_67_method_1_code_93) rfl ?_
      show Steps p.tables e below (T15.setTop (mkF m 95 #[.val (.ref b), .val (.int cl), .val (.int ht), .val (.double hf), .second, .val (.ref mi), .val (.double al), .second, .val (.double be), .second, .val (.double ga), .second] [(.double be)])) t
      refine XS.dload X15.here hx rfl (hb hby own_d_prog_67_method_1_code_95) rfl ?_
      show Steps p.tables e below (T15.setTop (mkF m 97 #[.val (.ref b), .val (.int cl), .val (.int ht), .val (.double hf), .second, .val (.ref mi), .val (.double al), .second, .val (.double be), .second, .val (.double ga), .second] [(.double ga), (.double be)])) t
      exact st17 t k)
  have cf19 := (F_clients.ext E3)
  have cf20 := (E.ext E3)
  obtain ⟨T21, hp21, X21, e21, W21, st21⟩ := putF X17 hx hZ hown (host := "") (Or.inl (hw _ (List.mem_of_getElem? (i := 65) rfl))) Via.refl e17 cf19 cf20 (Or.inr ⟨(hw _ (List.mem_of_getElem? (i := 66) rfl)), rfl, hnm⟩) (hw _ (List.mem_of_getElem? (i := 36) rfl)) (ty := .int) (by decide) rfl rfl (g := (mkF m 124 #[.val (.ref b), .val (.int cl), .val (.int ht), .val (.double hf), .second, .val (.ref mi), .val (.double al), .second, .val (.double be), .second, .val (.double ga), .second] [(.int cl), (.ref b)])) rfl rfl (hb hby own_d_prog_67_method_1_code_124)
  have ch22 : ∀ t, Steps p.tables e below (T21.setTop (mkF m 127 #[.val (.ref b), .val (.int cl), .val (.int ht), .val (.double hf), .second, .val (.ref mi), .val (.double al), .second, .val (.double be), .second, .val (.double ga), .second] [])) t → Steps p.tables e below (s₁.setTop (entryFrame m #[(.ref b), (.int cl), (.int ht), (.double hf), (.ref mi), (.double al), (.double be), (.double ga)] 12)) t := fun t k => ch18 t (by
      show Steps p.tables e below (T17.setTop (mkF m 100 #[.val (.ref b), .val (.int cl), .val (.int ht), .val (.double hf), .second, .val (.ref mi), .val (.double al), .second, .val (.double be), .second, .val (.double ga), .second] [(.int (1 : Int32))])) t
      refine XS.ifYes X17.here hx rfl (pc0 := 100) (pc' := 122) rfl (hb hby own_d_prog_67_method_1_code_100) rfl ((if0 _ _).trans (feq (by decide : ¬ (1 : Int32) = (0 : Int32))).2) (by decide) (by decide) ?_
      show Steps p.tables e below (T17.setTop (mkF m 122 #[.val (.ref b), .val (.int cl), .val (.int ht), .val (.double hf), .second, .val (.ref mi), .val (.double al), .second, .val (.double be), .second, .val (.double ga), .second] [])) t
      refine XS.aloadN X17.here hx rfl (hb hby own_d_prog_67_method_1_code_122) rfl rfl ?_
      show Steps p.tables e below (T17.setTop (mkF m 123 #[.val (.ref b), .val (.int cl), .val (.int ht), .val (.double hf), .second, .val (.ref mi), .val (.double al), .second, .val (.double be), .second, .val (.double ga), .second] [(.ref b)])) t
      refine XS.iloadN X17.here hx rfl (hb hby own_d_prog_67_method_1_code_123) rfl ?_
      show Steps p.tables e below (T17.setTop (mkF m 124 #[.val (.ref b), .val (.int cl), .val (.int ht), .val (.double hf), .second, .val (.ref mi), .val (.double al), .second, .val (.double be), .second, .val (.double ga), .second] [(.int cl), (.ref b)])) t
      exact st21 t k)
  have Fw21 := Fld.same W21 cf19
  have hk := Nat.le_trans hk (Keep.of_wr W21).1
  have N21 := Fr.snoc X21 N17 g
  have Kp21 := Keep.wr Kp3 W21 (Or.inl (List.mem_of_getElem? (i := 0) rfl))
  have cf23 := (Fld.other W21 (F_hot.ext E3) (Or.inr (slot_ne (Or.inr (hw _ (List.mem_of_getElem? (i := 68) rfl))) (Or.inr (hw _ (List.mem_of_getElem? (i := 66) rfl))) (by decide) (t := .int) (t' := .int) (by decide) (by decide))))
  have cf24 := (Exa.wr W21 cf20)
  obtain ⟨T25, hp25, X25, e25, W25, st25⟩ := putF X21 hx hZ hown (host := "") (Or.inl (hw _ (List.mem_of_getElem? (i := 67) rfl))) Via.refl e21 cf23 cf24 (Or.inr ⟨(hw _ (List.mem_of_getElem? (i := 68) rfl)), rfl, hnm⟩) (hw _ (List.mem_of_getElem? (i := 36) rfl)) (ty := .int) (by decide) rfl rfl (g := (mkF m 129 #[.val (.ref b), .val (.int cl), .val (.int ht), .val (.double hf), .second, .val (.ref mi), .val (.double al), .second, .val (.double be), .second, .val (.double ga), .second] [(.int ht), (.ref b)])) rfl rfl (hb hby own_d_prog_67_method_1_code_129)
  have ch26 : ∀ t, Steps p.tables e below (T25.setTop (mkF m 132 #[.val (.ref b), .val (.int cl), .val (.int ht), .val (.double hf), .second, .val (.ref mi), .val (.double al), .second, .val (.double be), .second, .val (.double ga), .second] [])) t → Steps p.tables e below (s₁.setTop (entryFrame m #[(.ref b), (.int cl), (.int ht), (.double hf), (.ref mi), (.double al), (.double be), (.double ga)] 12)) t := fun t k => ch22 t (by
      show Steps p.tables e below (T21.setTop (mkF m 127 #[.val (.ref b), .val (.int cl), .val (.int ht), .val (.double hf), .second, .val (.ref mi), .val (.double al), .second, .val (.double be), .second, .val (.double ga), .second] [])) t
      refine XS.aloadN X21.here hx rfl (hb hby own_d_prog_67_method_1_code_127) rfl rfl ?_
      show Steps p.tables e below (T21.setTop (mkF m 128 #[.val (.ref b), .val (.int cl), .val (.int ht), .val (.double hf), .second, .val (.ref mi), .val (.double al), .second, .val (.double be), .second, .val (.double ga), .second] [(.ref b)])) t
      refine XS.iloadN X21.here hx rfl (hb hby own_d_prog_67_method_1_code_128) rfl ?_
      show Steps p.tables e below (T21.setTop (mkF m 129 #[.val (.ref b), .val (.int cl), .val (.int ht), .val (.double hf), .second, .val (.ref mi), .val (.double al), .second, .val (.double be), .second, .val (.double ga), .second] [(.int ht), (.ref b)])) t
      exact st25 t k)
  have Fw25 := Fld.same W25 cf23
  have hk := Nat.le_trans hk (Keep.of_wr W25).1
  have N25 := Fr.snoc X25 N21 g
  have Kp25 := Keep.wr Kp21 W25 (Or.inl (List.mem_of_getElem? (i := 0) rfl))
  have cf27 := (Fld.other W25 (Fld.other W21 (F_hotFraction.ext E3) (Or.inr (slot_ne (Or.inr (hw _ (List.mem_of_getElem? (i := 70) rfl))) (Or.inr (hw _ (List.mem_of_getElem? (i := 66) rfl))) (by decide) (t := .double) (t' := .int) (by decide) (by decide)))) (Or.inr (slot_ne (Or.inr (hw _ (List.mem_of_getElem? (i := 70) rfl))) (Or.inr (hw _ (List.mem_of_getElem? (i := 68) rfl))) (by decide) (t := .double) (t' := .int) (by decide) (by decide))))
  have cf28 := (Exa.wr W25 cf24)
  obtain ⟨T29, hp29, X29, e29, W29, st29⟩ := putF X25 hx hZ hown (host := "") (Or.inl (hw _ (List.mem_of_getElem? (i := 69) rfl))) Via.refl e25 cf27 cf28 (Or.inr ⟨(hw _ (List.mem_of_getElem? (i := 70) rfl)), rfl, hnm⟩) (hw _ (List.mem_of_getElem? (i := 36) rfl)) (ty := .double) (by decide) rfl rfl (g := (mkF m 134 #[.val (.ref b), .val (.int cl), .val (.int ht), .val (.double hf), .second, .val (.ref mi), .val (.double al), .second, .val (.double be), .second, .val (.double ga), .second] [(.double hf), (.ref b)])) rfl rfl (hb hby own_d_prog_67_method_1_code_134)
  have ch30 : ∀ t, Steps p.tables e below (T29.setTop (mkF m 137 #[.val (.ref b), .val (.int cl), .val (.int ht), .val (.double hf), .second, .val (.ref mi), .val (.double al), .second, .val (.double be), .second, .val (.double ga), .second] [])) t → Steps p.tables e below (s₁.setTop (entryFrame m #[(.ref b), (.int cl), (.int ht), (.double hf), (.ref mi), (.double al), (.double be), (.double ga)] 12)) t := fun t k => ch26 t (by
      show Steps p.tables e below (T25.setTop (mkF m 132 #[.val (.ref b), .val (.int cl), .val (.int ht), .val (.double hf), .second, .val (.ref mi), .val (.double al), .second, .val (.double be), .second, .val (.double ga), .second] [])) t
      refine XS.aloadN X25.here hx rfl (hb hby own_d_prog_67_method_1_code_132) rfl rfl ?_
      show Steps p.tables e below (T25.setTop (mkF m 133 #[.val (.ref b), .val (.int cl), .val (.int ht), .val (.double hf), .second, .val (.ref mi), .val (.double al), .second, .val (.double be), .second, .val (.double ga), .second] [(.ref b)])) t
      refine XS.dloadN X25.here hx rfl (hb hby own_d_prog_67_method_1_code_133) rfl ?_
      show Steps p.tables e below (T25.setTop (mkF m 134 #[.val (.ref b), .val (.int cl), .val (.int ht), .val (.double hf), .second, .val (.ref mi), .val (.double al), .second, .val (.double be), .second, .val (.double ga), .second] [(.double hf), (.ref b)])) t
      exact st29 t k)
  have Fw29 := Fld.same W29 cf27
  have hk := Nat.le_trans hk (Keep.of_wr W29).1
  have N29 := Fr.snoc X29 N25 g
  have Kp29 := Keep.wr Kp25 W29 (Or.inl (List.mem_of_getElem? (i := 0) rfl))
  have cf31 := (Fld.other W29 (Fld.other W25 (Fld.other W21 (F_mix.ext E3) (Or.inr (slot_ne (Or.inr (hw _ (List.mem_of_getElem? (i := 72) rfl))) (Or.inr (hw _ (List.mem_of_getElem? (i := 66) rfl))) (by decide) (t := (.object "com/example/isolint/isolint/bench/Mix")) (t' := .int) (by decide) (by decide)))) (Or.inr (slot_ne (Or.inr (hw _ (List.mem_of_getElem? (i := 72) rfl))) (Or.inr (hw _ (List.mem_of_getElem? (i := 68) rfl))) (by decide) (t := (.object "com/example/isolint/isolint/bench/Mix")) (t' := .int) (by decide) (by decide)))) (Or.inr (slot_ne (Or.inr (hw _ (List.mem_of_getElem? (i := 72) rfl))) (Or.inr (hw _ (List.mem_of_getElem? (i := 70) rfl))) (by decide) (t := (.object "com/example/isolint/isolint/bench/Mix")) (t' := .double) (by decide) (by decide))))
  have cf32 := (Exa.wr W29 cf28)
  obtain ⟨T33, hp33, X33, e33, W33, st33⟩ := putF X29 hx hZ hown (host := "") (Or.inl (hw _ (List.mem_of_getElem? (i := 71) rfl))) Via.refl e29 cf31 cf32 (Or.inr ⟨(hw _ (List.mem_of_getElem? (i := 72) rfl)), rfl, hnm⟩) (hw _ (List.mem_of_getElem? (i := 36) rfl)) (ty := (.object "com/example/isolint/isolint/bench/Mix")) (by decide) rfl rfl (g := (mkF m 140 #[.val (.ref b), .val (.int cl), .val (.int ht), .val (.double hf), .second, .val (.ref mi), .val (.double al), .second, .val (.double be), .second, .val (.double ga), .second] [(.ref mi), (.ref b)])) rfl rfl (hb hby own_d_prog_67_method_1_code_140)
  have ch34 : ∀ t, Steps p.tables e below (T33.setTop (mkF m 143 #[.val (.ref b), .val (.int cl), .val (.int ht), .val (.double hf), .second, .val (.ref mi), .val (.double al), .second, .val (.double be), .second, .val (.double ga), .second] [])) t → Steps p.tables e below (s₁.setTop (entryFrame m #[(.ref b), (.int cl), (.int ht), (.double hf), (.ref mi), (.double al), (.double be), (.double ga)] 12)) t := fun t k => ch30 t (by
      show Steps p.tables e below (T29.setTop (mkF m 137 #[.val (.ref b), .val (.int cl), .val (.int ht), .val (.double hf), .second, .val (.ref mi), .val (.double al), .second, .val (.double be), .second, .val (.double ga), .second] [])) t
      refine XS.aloadN X29.here hx rfl (hb hby own_d_prog_67_method_1_code_137) rfl rfl ?_
      show Steps p.tables e below (T29.setTop (mkF m 138 #[.val (.ref b), .val (.int cl), .val (.int ht), .val (.double hf), .second, .val (.ref mi), .val (.double al), .second, .val (.double be), .second, .val (.double ga), .second] [(.ref b)])) t
      refine XS.aload X29.here hx rfl (hb hby own_d_prog_67_method_1_code_138) rfl rfl ?_
      show Steps p.tables e below (T29.setTop (mkF m 140 #[.val (.ref b), .val (.int cl), .val (.int ht), .val (.double hf), .second, .val (.ref mi), .val (.double al), .second, .val (.double be), .second, .val (.double ga), .second] [(.ref mi), (.ref b)])) t
      exact st33 t k)
  have Fw33 := Fld.same W33 cf31
  have hk := Nat.le_trans hk (Keep.of_wr W33).1
  have N33 := Fr.snoc X33 N29 g
  have Kp33 := Keep.wr Kp29 W33 (Or.inl (List.mem_of_getElem? (i := 0) rfl))
  have cf35 := (Fld.other W33 (Fld.other W29 (Fld.other W25 (Fld.other W21 (F_alpha.ext E3) (Or.inr (slot_ne (Or.inr (hw _ (List.mem_of_getElem? (i := 74) rfl))) (Or.inr (hw _ (List.mem_of_getElem? (i := 66) rfl))) (by decide) (t := .double) (t' := .int) (by decide) (by decide)))) (Or.inr (slot_ne (Or.inr (hw _ (List.mem_of_getElem? (i := 74) rfl))) (Or.inr (hw _ (List.mem_of_getElem? (i := 68) rfl))) (by decide) (t := .double) (t' := .int) (by decide) (by decide)))) (Or.inr (slot_ne (Or.inr (hw _ (List.mem_of_getElem? (i := 74) rfl))) (Or.inr (hw _ (List.mem_of_getElem? (i := 70) rfl))) (by decide) (t := .double) (t' := .double) (by decide) (by decide)))) (Or.inr (slot_ne (Or.inr (hw _ (List.mem_of_getElem? (i := 74) rfl))) (Or.inr (hw _ (List.mem_of_getElem? (i := 72) rfl))) (by decide) (t := .double) (t' := (.object "com/example/isolint/isolint/bench/Mix")) (by decide) (by decide))))
  have cf36 := (Exa.wr W33 cf32)
  obtain ⟨T37, hp37, X37, e37, W37, st37⟩ := putF X33 hx hZ hown (host := "") (Or.inl (hw _ (List.mem_of_getElem? (i := 73) rfl))) Via.refl e33 cf35 cf36 (Or.inr ⟨(hw _ (List.mem_of_getElem? (i := 74) rfl)), rfl, hnm⟩) (hw _ (List.mem_of_getElem? (i := 36) rfl)) (ty := .double) (by decide) rfl rfl (g := (mkF m 146 #[.val (.ref b), .val (.int cl), .val (.int ht), .val (.double hf), .second, .val (.ref mi), .val (.double al), .second, .val (.double be), .second, .val (.double ga), .second] [(.double al), (.ref b)])) rfl rfl (hb hby own_d_prog_67_method_1_code_146)
  have ch38 : ∀ t, Steps p.tables e below (T37.setTop (mkF m 149 #[.val (.ref b), .val (.int cl), .val (.int ht), .val (.double hf), .second, .val (.ref mi), .val (.double al), .second, .val (.double be), .second, .val (.double ga), .second] [])) t → Steps p.tables e below (s₁.setTop (entryFrame m #[(.ref b), (.int cl), (.int ht), (.double hf), (.ref mi), (.double al), (.double be), (.double ga)] 12)) t := fun t k => ch34 t (by
      show Steps p.tables e below (T33.setTop (mkF m 143 #[.val (.ref b), .val (.int cl), .val (.int ht), .val (.double hf), .second, .val (.ref mi), .val (.double al), .second, .val (.double be), .second, .val (.double ga), .second] [])) t
      refine XS.aloadN X33.here hx rfl (hb hby own_d_prog_67_method_1_code_143) rfl rfl ?_
      show Steps p.tables e below (T33.setTop (mkF m 144 #[.val (.ref b), .val (.int cl), .val (.int ht), .val (.double hf), .second, .val (.ref mi), .val (.double al), .second, .val (.double be), .second, .val (.double ga), .second] [(.ref b)])) t
      refine XS.dload X33.here hx rfl (hb hby own_d_prog_67_method_1_code_144) rfl ?_
      show Steps p.tables e below (T33.setTop (mkF m 146 #[.val (.ref b), .val (.int cl), .val (.int ht), .val (.double hf), .second, .val (.ref mi), .val (.double al), .second, .val (.double be), .second, .val (.double ga), .second] [(.double al), (.ref b)])) t
      exact st37 t k)
  have Fw37 := Fld.same W37 cf35
  have hk := Nat.le_trans hk (Keep.of_wr W37).1
  have N37 := Fr.snoc X37 N33 g
  have Kp37 := Keep.wr Kp33 W37 (Or.inl (List.mem_of_getElem? (i := 0) rfl))
  have cf39 := (Fld.other W37 (Fld.other W33 (Fld.other W29 (Fld.other W25 (Fld.other W21 (F_beta.ext E3) (Or.inr (slot_ne (Or.inr (hw _ (List.mem_of_getElem? (i := 76) rfl))) (Or.inr (hw _ (List.mem_of_getElem? (i := 66) rfl))) (by decide) (t := .double) (t' := .int) (by decide) (by decide)))) (Or.inr (slot_ne (Or.inr (hw _ (List.mem_of_getElem? (i := 76) rfl))) (Or.inr (hw _ (List.mem_of_getElem? (i := 68) rfl))) (by decide) (t := .double) (t' := .int) (by decide) (by decide)))) (Or.inr (slot_ne (Or.inr (hw _ (List.mem_of_getElem? (i := 76) rfl))) (Or.inr (hw _ (List.mem_of_getElem? (i := 70) rfl))) (by decide) (t := .double) (t' := .double) (by decide) (by decide)))) (Or.inr (slot_ne (Or.inr (hw _ (List.mem_of_getElem? (i := 76) rfl))) (Or.inr (hw _ (List.mem_of_getElem? (i := 72) rfl))) (by decide) (t := .double) (t' := (.object "com/example/isolint/isolint/bench/Mix")) (by decide) (by decide)))) (Or.inr (slot_ne (Or.inr (hw _ (List.mem_of_getElem? (i := 76) rfl))) (Or.inr (hw _ (List.mem_of_getElem? (i := 74) rfl))) (by decide) (t := .double) (t' := .double) (by decide) (by decide))))
  have cf40 := (Exa.wr W37 cf36)
  obtain ⟨T41, hp41, X41, e41, W41, st41⟩ := putF X37 hx hZ hown (host := "") (Or.inl (hw _ (List.mem_of_getElem? (i := 75) rfl))) Via.refl e37 cf39 cf40 (Or.inr ⟨(hw _ (List.mem_of_getElem? (i := 76) rfl)), rfl, hnm⟩) (hw _ (List.mem_of_getElem? (i := 36) rfl)) (ty := .double) (by decide) rfl rfl (g := (mkF m 152 #[.val (.ref b), .val (.int cl), .val (.int ht), .val (.double hf), .second, .val (.ref mi), .val (.double al), .second, .val (.double be), .second, .val (.double ga), .second] [(.double be), (.ref b)])) rfl rfl (hb hby own_d_prog_67_method_1_code_152)
  have ch42 : ∀ t, Steps p.tables e below (T41.setTop (mkF m 155 #[.val (.ref b), .val (.int cl), .val (.int ht), .val (.double hf), .second, .val (.ref mi), .val (.double al), .second, .val (.double be), .second, .val (.double ga), .second] [])) t → Steps p.tables e below (s₁.setTop (entryFrame m #[(.ref b), (.int cl), (.int ht), (.double hf), (.ref mi), (.double al), (.double be), (.double ga)] 12)) t := fun t k => ch38 t (by
      show Steps p.tables e below (T37.setTop (mkF m 149 #[.val (.ref b), .val (.int cl), .val (.int ht), .val (.double hf), .second, .val (.ref mi), .val (.double al), .second, .val (.double be), .second, .val (.double ga), .second] [])) t
      refine XS.aloadN X37.here hx rfl (hb hby own_d_prog_67_method_1_code_149) rfl rfl ?_
      show Steps p.tables e below (T37.setTop (mkF m 150 #[.val (.ref b), .val (.int cl), .val (.int ht), .val (.double hf), .second, .val (.ref mi), .val (.double al), .second, .val (.double be), .second, .val (.double ga), .second] [(.ref b)])) t
      refine XS.dload X37.here hx rfl (hb hby own_d_prog_67_method_1_code_150) rfl ?_
      show Steps p.tables e below (T37.setTop (mkF m 152 #[.val (.ref b), .val (.int cl), .val (.int ht), .val (.double hf), .second, .val (.ref mi), .val (.double al), .second, .val (.double be), .second, .val (.double ga), .second] [(.double be), (.ref b)])) t
      exact st41 t k)
  have Fw41 := Fld.same W41 cf39
  have hk := Nat.le_trans hk (Keep.of_wr W41).1
  have N41 := Fr.snoc X41 N37 g
  have Kp41 := Keep.wr Kp37 W41 (Or.inl (List.mem_of_getElem? (i := 0) rfl))
  have cf43 := (Fld.other W41 (Fld.other W37 (Fld.other W33 (Fld.other W29 (Fld.other W25 (Fld.other W21 (F_gamma.ext E3) (Or.inr (slot_ne (Or.inr (hw _ (List.mem_of_getElem? (i := 78) rfl))) (Or.inr (hw _ (List.mem_of_getElem? (i := 66) rfl))) (by decide) (t := .double) (t' := .int) (by decide) (by decide)))) (Or.inr (slot_ne (Or.inr (hw _ (List.mem_of_getElem? (i := 78) rfl))) (Or.inr (hw _ (List.mem_of_getElem? (i := 68) rfl))) (by decide) (t := .double) (t' := .int) (by decide) (by decide)))) (Or.inr (slot_ne (Or.inr (hw _ (List.mem_of_getElem? (i := 78) rfl))) (Or.inr (hw _ (List.mem_of_getElem? (i := 70) rfl))) (by decide) (t := .double) (t' := .double) (by decide) (by decide)))) (Or.inr (slot_ne (Or.inr (hw _ (List.mem_of_getElem? (i := 78) rfl))) (Or.inr (hw _ (List.mem_of_getElem? (i := 72) rfl))) (by decide) (t := .double) (t' := (.object "com/example/isolint/isolint/bench/Mix")) (by decide) (by decide)))) (Or.inr (slot_ne (Or.inr (hw _ (List.mem_of_getElem? (i := 78) rfl))) (Or.inr (hw _ (List.mem_of_getElem? (i := 74) rfl))) (by decide) (t := .double) (t' := .double) (by decide) (by decide)))) (Or.inr (slot_ne (Or.inr (hw _ (List.mem_of_getElem? (i := 78) rfl))) (Or.inr (hw _ (List.mem_of_getElem? (i := 76) rfl))) (by decide) (t := .double) (t' := .double) (by decide) (by decide))))
  have cf44 := (Exa.wr W41 cf40)
  obtain ⟨T45, hp45, X45, e45, W45, st45⟩ := putF X41 hx hZ hown (host := "") (Or.inl (hw _ (List.mem_of_getElem? (i := 77) rfl))) Via.refl e41 cf43 cf44 (Or.inr ⟨(hw _ (List.mem_of_getElem? (i := 78) rfl)), rfl, hnm⟩) (hw _ (List.mem_of_getElem? (i := 36) rfl)) (ty := .double) (by decide) rfl rfl (g := (mkF m 158 #[.val (.ref b), .val (.int cl), .val (.int ht), .val (.double hf), .second, .val (.ref mi), .val (.double al), .second, .val (.double be), .second, .val (.double ga), .second] [(.double ga), (.ref b)])) rfl rfl (hb hby own_d_prog_67_method_1_code_158)
  have ch46 : ∀ t, Steps p.tables e below (T45.setTop (mkF m 161 #[.val (.ref b), .val (.int cl), .val (.int ht), .val (.double hf), .second, .val (.ref mi), .val (.double al), .second, .val (.double be), .second, .val (.double ga), .second] [])) t → Steps p.tables e below (s₁.setTop (entryFrame m #[(.ref b), (.int cl), (.int ht), (.double hf), (.ref mi), (.double al), (.double be), (.double ga)] 12)) t := fun t k => ch42 t (by
      show Steps p.tables e below (T41.setTop (mkF m 155 #[.val (.ref b), .val (.int cl), .val (.int ht), .val (.double hf), .second, .val (.ref mi), .val (.double al), .second, .val (.double be), .second, .val (.double ga), .second] [])) t
      refine XS.aloadN X41.here hx rfl (hb hby own_d_prog_67_method_1_code_155) rfl rfl ?_
      show Steps p.tables e below (T41.setTop (mkF m 156 #[.val (.ref b), .val (.int cl), .val (.int ht), .val (.double hf), .second, .val (.ref mi), .val (.double al), .second, .val (.double be), .second, .val (.double ga), .second] [(.ref b)])) t
      refine XS.dload X41.here hx rfl (hb hby own_d_prog_67_method_1_code_156) rfl ?_
      show Steps p.tables e below (T41.setTop (mkF m 158 #[.val (.ref b), .val (.int cl), .val (.int ht), .val (.double hf), .second, .val (.ref mi), .val (.double al), .second, .val (.double be), .second, .val (.double ga), .second] [(.double ga), (.ref b)])) t
      exact st45 t k)
  have Fw45 := Fld.same W45 cf43
  have hk := Nat.le_trans hk (Keep.of_wr W45).1
  have N45 := Fr.snoc X45 N41 g
  have Kp45 := Keep.wr Kp41 W45 (Or.inl (List.mem_of_getElem? (i := 0) rfl))
  have cf47 := (Exa.wr W45 cf44)
  have cf48 := (Fld.other W45 (Fld.other W41 (Fld.other W37 (Fld.other W33 (Fld.other W29 (Fld.other W25 Fw21 (Or.inr (slot_ne (Or.inr (hw _ (List.mem_of_getElem? (i := 66) rfl))) (Or.inr (hw _ (List.mem_of_getElem? (i := 68) rfl))) (by decide) (t := .int) (t' := .int) (by decide) (by decide)))) (Or.inr (slot_ne (Or.inr (hw _ (List.mem_of_getElem? (i := 66) rfl))) (Or.inr (hw _ (List.mem_of_getElem? (i := 70) rfl))) (by decide) (t := .int) (t' := .double) (by decide) (by decide)))) (Or.inr (slot_ne (Or.inr (hw _ (List.mem_of_getElem? (i := 66) rfl))) (Or.inr (hw _ (List.mem_of_getElem? (i := 72) rfl))) (by decide) (t := .int) (t' := (.object "com/example/isolint/isolint/bench/Mix")) (by decide) (by decide)))) (Or.inr (slot_ne (Or.inr (hw _ (List.mem_of_getElem? (i := 66) rfl))) (Or.inr (hw _ (List.mem_of_getElem? (i := 74) rfl))) (by decide) (t := .int) (t' := .double) (by decide) (by decide)))) (Or.inr (slot_ne (Or.inr (hw _ (List.mem_of_getElem? (i := 66) rfl))) (Or.inr (hw _ (List.mem_of_getElem? (i := 76) rfl))) (by decide) (t := .int) (t' := .double) (by decide) (by decide)))) (Or.inr (slot_ne (Or.inr (hw _ (List.mem_of_getElem? (i := 66) rfl))) (Or.inr (hw _ (List.mem_of_getElem? (i := 78) rfl))) (by decide) (t := .int) (t' := .double) (by decide) (by decide))))
  have cf49 := (Fld.other W45 (Fld.other W41 (Fld.other W37 (Fld.other W33 (Fld.other W29 Fw25 (Or.inr (slot_ne (Or.inr (hw _ (List.mem_of_getElem? (i := 68) rfl))) (Or.inr (hw _ (List.mem_of_getElem? (i := 70) rfl))) (by decide) (t := .int) (t' := .double) (by decide) (by decide)))) (Or.inr (slot_ne (Or.inr (hw _ (List.mem_of_getElem? (i := 68) rfl))) (Or.inr (hw _ (List.mem_of_getElem? (i := 72) rfl))) (by decide) (t := .int) (t' := (.object "com/example/isolint/isolint/bench/Mix")) (by decide) (by decide)))) (Or.inr (slot_ne (Or.inr (hw _ (List.mem_of_getElem? (i := 68) rfl))) (Or.inr (hw _ (List.mem_of_getElem? (i := 74) rfl))) (by decide) (t := .int) (t' := .double) (by decide) (by decide)))) (Or.inr (slot_ne (Or.inr (hw _ (List.mem_of_getElem? (i := 68) rfl))) (Or.inr (hw _ (List.mem_of_getElem? (i := 76) rfl))) (by decide) (t := .int) (t' := .double) (by decide) (by decide)))) (Or.inr (slot_ne (Or.inr (hw _ (List.mem_of_getElem? (i := 68) rfl))) (Or.inr (hw _ (List.mem_of_getElem? (i := 78) rfl))) (by decide) (t := .int) (t' := .double) (by decide) (by decide))))
  have cf50 := (Fld.other W45 (Fld.other W41 (Fld.other W37 (Fld.other W33 Fw29 (Or.inr (slot_ne (Or.inr (hw _ (List.mem_of_getElem? (i := 70) rfl))) (Or.inr (hw _ (List.mem_of_getElem? (i := 72) rfl))) (by decide) (t := .double) (t' := (.object "com/example/isolint/isolint/bench/Mix")) (by decide) (by decide)))) (Or.inr (slot_ne (Or.inr (hw _ (List.mem_of_getElem? (i := 70) rfl))) (Or.inr (hw _ (List.mem_of_getElem? (i := 74) rfl))) (by decide) (t := .double) (t' := .double) (by decide) (by decide)))) (Or.inr (slot_ne (Or.inr (hw _ (List.mem_of_getElem? (i := 70) rfl))) (Or.inr (hw _ (List.mem_of_getElem? (i := 76) rfl))) (by decide) (t := .double) (t' := .double) (by decide) (by decide)))) (Or.inr (slot_ne (Or.inr (hw _ (List.mem_of_getElem? (i := 70) rfl))) (Or.inr (hw _ (List.mem_of_getElem? (i := 78) rfl))) (by decide) (t := .double) (t' := .double) (by decide) (by decide))))
  obtain ⟨fs, hr, hrun, hended, hend⟩ := X45.leaveW hS (by rw [e45]; exact hk) (v := none) (fun _ => rfl)
  refine ⟨_, _, ch46 _ ?_, hrun, hended, _, _, rfl, ?_, hend.1, hend.2.1, hend.2.2.1, hend.2.2.2.mono (by decide) (by decide)⟩
  · show Steps p.tables e below (T45.setTop (mkF m 161 #[.val (.ref b), .val (.int cl), .val (.int ht), .val (.double hf), .second, .val (.ref mi), .val (.double al), .second, .val (.double be), .second, .val (.double ga), .second] [])) _
    exact X45.returnOut hx Bd.returns (hb hby own_d_prog_67_method_1_code_161) hr
  · show QIn Z b cl ht hf h0 n0 _ T45.heap _
    rw [e45]
    exact ⟨rfl, N45, Kp45, cf47, cf48, cf49, cf50⟩
theorem own_ef_own_cc (m : MethodId) {x0 : Addr} : entryFrame m #[(.ref x0)] 1 = mkF m 0 #[.val (.ref x0)] [] := by first | (simp [entryFrame, mkF, argsToLocals, Value.category, maxLocals]; done) | rfl
set_option maxRecDepth 65536 in
set_option maxHeartbeats 40000000 in
theorem own_cc (l : Launch) (Z : State) (a0 : Array Value) (hw : ∀ d ∈ tables_1, d.before a0 Z = true) (ws : List Jvm.Cond) (h0 : Heap) (n0 : Nat) (Z0 : n0 ≤ h0.size) (b : Addr) (cl ht : Int32) (hf : UInt64) (F_clients : Fld Z h0 b "com/example/isolint/isolint/predict/RateModel" "clients" "I" (.int cl)) (F_hot : Fld Z h0 b "com/example/isolint/isolint/predict/RateModel" "hot" "I" (.int ht)) (F_hotFraction : Fld Z h0 b "com/example/isolint/isolint/predict/RateModel" "hotFraction" "D" (.double hf)) (n1 : NoNaN64 (FP.dmul (FP.i2d (cl - (1 : Int32))) hf)) (n2 : NoNaN64 (FP.dmul (FP.dmul (FP.i2d (cl - (1 : Int32))) hf) hf)) (n3 : NoNaN64 (FP.ddiv (FP.dmul (FP.dmul (FP.i2d (cl - (1 : Int32))) hf) hf) (FP.i2d ht))) :
    MetFree l (⟨"com/example/isolint/isolint/predict/RateModel", "collisionChance", "()D"⟩ : MethodName) (head1 (Jvm.Cond.code (⟨"com/example/isolint/isolint/predict/RateModel", "collisionChance", "()D"⟩ : MethodName) prog_67_method_5_code 1 (some .double) :: ws) ({ frames := 0, cells := 0, slots := 0, locals := 0 } : Room)) (fun a U => a = #[(.ref b)] ∧ Z.Warmed39 U.vm ∧ U.heap = h0) (fun _ _ _ _ _ => True) (fun _ U o U' => ∃ v L, o = .returned v ∧ QV (some (.double (FP.ddiv (FP.dmul (FP.dmul (FP.i2d (cl - (1 : Int32))) hf) hf) (FP.i2d ht)))) h0 n0 v U'.heap L ∧ FrameEnd U o U' L ({ frames := 0, cells := 0, slots := 0, locals := 0 } : Room).cells ({ frames := 0, cells := 0, slots := 0, locals := 0 } : Room).slots) := by
  refine MetFree.of_bodySF (plainFor_of_name own_pn_com_example_isolint_isolint_predict_RateModel) hisR ?_
  intro p e s m args below meth c s₁ Bd hml0 hP hK
  obtain ⟨rfl, hZ, hh⟩ := hP
  have hx := Bd.exec
  have hby := Bd.bytes
  have hml : c.maxLocals = 1 := hml0
  have hown : s.vm.findClass "com/example/isolint/isolint/predict/RateModel" = some m.cls := (findClass_of_methodNamed Bd.named :)
  have hnm := (name_of_methodNamed Bd.named Bd.method).1
  have X0 : Stand p l e ({ frames := 0, cells := 0, slots := 0, locals := 0 } : Room) s m #[(.ref b)] below meth c s₁ [] 0 0 := Stand.of_body Bd
  have e0 : s₁.heap = h0 := by rw [← hh, Bd.state]; rfl
  have N0 := Fr.nil n0
  have pre0 : ∀ t, Steps p.tables e below (s₁.setTop (mkF m 0 #[.val (.ref b)] [])) t → Steps p.tables e below (s₁.setTop (entryFrame m #[(.ref b)] 1)) t := fun t k => castTop (own_ef_own_cc m) k
  obtain ⟨T1, X1, e1, st1⟩ := getF X0 hx hZ hown (host := "") (Or.inl (hw _ (List.mem_of_getElem? (i := 65) rfl))) Via.refl e0 F_clients (g := (mkF m 1 #[.val (.ref b)] [(.ref b)])) rfl rfl (hb hby own_d_prog_67_method_5_code_1)
  have ch2 : ∀ t, Steps p.tables e below (T1.setTop (mkF m 4 #[.val (.ref b)] [(.int cl)])) t → Steps p.tables e below (s₁.setTop (entryFrame m #[(.ref b)] 1)) t := fun t k => pre0 t (by
      show Steps p.tables e below (s₁.setTop (mkF m 0 #[.val (.ref b)] [])) t
      refine XS.aloadN X0.here hx rfl (hb hby own_d_prog_67_method_5_code_0) rfl rfl ?_
      show Steps p.tables e below (s₁.setTop (mkF m 1 #[.val (.ref b)] [(.ref b)])) t
      exact st1 t k)
  obtain ⟨T3, X3, e3, st3⟩ := getF X1 hx hZ hown (host := "") (Or.inl (hw _ (List.mem_of_getElem? (i := 69) rfl))) Via.refl e1 F_hotFraction (g := (mkF m 8 #[.val (.ref b)] [(.ref b), (.double (FP.i2d (cl - (1 : Int32))))])) rfl rfl (hb hby own_d_prog_67_method_5_code_8)
  have ch4 : ∀ t, Steps p.tables e below (T3.setTop (mkF m 11 #[.val (.ref b)] [(.double hf), (.double (FP.i2d (cl - (1 : Int32))))])) t → Steps p.tables e below (s₁.setTop (entryFrame m #[(.ref b)] 1)) t := fun t k => ch2 t (by
      show Steps p.tables e below (T1.setTop (mkF m 4 #[.val (.ref b)] [(.int cl)])) t
      refine XS.iconst X1.here hx rfl (hb hby own_d_prog_67_method_5_code_4) ?_
      show Steps p.tables e below (T1.setTop (mkF m 5 #[.val (.ref b)] [(.int (1 : Int32)), (.int cl)])) t
      refine XS.isub X1.here hx rfl (hb hby own_d_prog_67_method_5_code_5) rfl ?_
      show Steps p.tables e below (T1.setTop (mkF m 6 #[.val (.ref b)] [(.int (cl - (1 : Int32)))])) t
      refine XS.i2dS X1.here hx rfl (hb hby own_d_prog_67_method_5_code_6) rfl rfl ?_
      show Steps p.tables e below (T1.setTop (mkF m 7 #[.val (.ref b)] [(.double (FP.i2d (cl - (1 : Int32))))])) t
      refine XS.aloadN X1.here hx rfl (hb hby own_d_prog_67_method_5_code_7) rfl rfl ?_
      show Steps p.tables e below (T1.setTop (mkF m 8 #[.val (.ref b)] [(.ref b), (.double (FP.i2d (cl - (1 : Int32))))])) t
      exact st3 t k)
  obtain ⟨T5, X5, e5, st5⟩ := getF X3 hx hZ hown (host := "") (Or.inl (hw _ (List.mem_of_getElem? (i := 69) rfl))) Via.refl e3 F_hotFraction (g := (mkF m 13 #[.val (.ref b)] [(.ref b), (.double (FP.dmul (FP.i2d (cl - (1 : Int32))) hf))])) rfl rfl (hb hby own_d_prog_67_method_5_code_13)
  have ch6 : ∀ t, Steps p.tables e below (T5.setTop (mkF m 16 #[.val (.ref b)] [(.double hf), (.double (FP.dmul (FP.i2d (cl - (1 : Int32))) hf))])) t → Steps p.tables e below (s₁.setTop (entryFrame m #[(.ref b)] 1)) t := fun t k => ch4 t (by
      show Steps p.tables e below (T3.setTop (mkF m 11 #[.val (.ref b)] [(.double hf), (.double (FP.i2d (cl - (1 : Int32))))])) t
      refine XS.dmulS X3.here hx rfl (hb hby own_d_prog_67_method_5_code_11) rfl n1 rfl ?_
      show Steps p.tables e below (T3.setTop (mkF m 12 #[.val (.ref b)] [(.double (FP.dmul (FP.i2d (cl - (1 : Int32))) hf))])) t
      refine XS.aloadN X3.here hx rfl (hb hby own_d_prog_67_method_5_code_12) rfl rfl ?_
      show Steps p.tables e below (T3.setTop (mkF m 13 #[.val (.ref b)] [(.ref b), (.double (FP.dmul (FP.i2d (cl - (1 : Int32))) hf))])) t
      exact st5 t k)
  obtain ⟨T7, X7, e7, st7⟩ := getF X5 hx hZ hown (host := "") (Or.inl (hw _ (List.mem_of_getElem? (i := 67) rfl))) Via.refl e5 F_hot (g := (mkF m 18 #[.val (.ref b)] [(.ref b), (.double (FP.dmul (FP.dmul (FP.i2d (cl - (1 : Int32))) hf) hf))])) rfl rfl (hb hby own_d_prog_67_method_5_code_18)
  have ch8 : ∀ t, Steps p.tables e below (T7.setTop (mkF m 21 #[.val (.ref b)] [(.int ht), (.double (FP.dmul (FP.dmul (FP.i2d (cl - (1 : Int32))) hf) hf))])) t → Steps p.tables e below (s₁.setTop (entryFrame m #[(.ref b)] 1)) t := fun t k => ch6 t (by
      show Steps p.tables e below (T5.setTop (mkF m 16 #[.val (.ref b)] [(.double hf), (.double (FP.dmul (FP.i2d (cl - (1 : Int32))) hf))])) t
      refine XS.dmulS X5.here hx rfl (hb hby own_d_prog_67_method_5_code_16) rfl n2 rfl ?_
      show Steps p.tables e below (T5.setTop (mkF m 17 #[.val (.ref b)] [(.double (FP.dmul (FP.dmul (FP.i2d (cl - (1 : Int32))) hf) hf))])) t
      refine XS.aloadN X5.here hx rfl (hb hby own_d_prog_67_method_5_code_17) rfl rfl ?_
      show Steps p.tables e below (T5.setTop (mkF m 18 #[.val (.ref b)] [(.ref b), (.double (FP.dmul (FP.dmul (FP.i2d (cl - (1 : Int32))) hf) hf))])) t
      exact st7 t k)
  have ch9 : ∀ t, Steps p.tables e below (T7.setTop (mkF m 23 #[.val (.ref b)] [(.double (FP.ddiv (FP.dmul (FP.dmul (FP.i2d (cl - (1 : Int32))) hf) hf) (FP.i2d ht)))])) t → Steps p.tables e below (s₁.setTop (entryFrame m #[(.ref b)] 1)) t := fun t k => ch8 t (by
      show Steps p.tables e below (T7.setTop (mkF m 21 #[.val (.ref b)] [(.int ht), (.double (FP.dmul (FP.dmul (FP.i2d (cl - (1 : Int32))) hf) hf))])) t
      refine XS.i2dS X7.here hx rfl (hb hby own_d_prog_67_method_5_code_21) rfl rfl ?_
      show Steps p.tables e below (T7.setTop (mkF m 22 #[.val (.ref b)] [(.double (FP.i2d ht)), (.double (FP.dmul (FP.dmul (FP.i2d (cl - (1 : Int32))) hf) hf))])) t
      refine XS.ddivS X7.here hx rfl (hb hby own_d_prog_67_method_5_code_22) rfl n3 rfl ?_
      exact k)
  obtain ⟨fs, hr, hrun, hended, hW, hsame⟩ := X7.leave (v := some (.double (FP.ddiv (FP.dmul (FP.dmul (FP.i2d (cl - (1 : Int32))) hf) hf) (FP.i2d ht)))) (fun h => by rw [Bd.returns] at h; cases h)
  refine ⟨_, _, ch9 _ ?_, hrun, hended, _, _, rfl, ?_, ⟨_, rfl⟩, hW, hsame.mono (by decide) (by decide)⟩
  · show Steps p.tables e below (T7.setTop (mkF m 23 #[.val (.ref b)] [(.double (FP.ddiv (FP.dmul (FP.dmul (FP.i2d (cl - (1 : Int32))) hf) hf) (FP.i2d ht)))])) _
    exact retOut X7 hx (i := .dreturn) Bd.returns rfl (Or.inr (Or.inr (Or.inl ⟨rfl, rfl, _, rfl⟩))) (hb hby own_d_prog_67_method_5_code_23) hr
  · show QV (some (.double (FP.ddiv (FP.dmul (FP.dmul (FP.i2d (cl - (1 : Int32))) hf) hf) (FP.i2d ht)))) h0 n0 _ T7.heap _
    rw [e7]
    exact ⟨rfl, N0, rfl⟩
theorem own_ef_own_law (m : MethodId) {x0 : Int32} {x1 : Int32} {x2 : Int32} {x3 : Int32} : entryFrame m #[(.int x0), (.int x1), (.int x2), (.int x3)] maxLocals = mkF m 0 #[.val (.int x0), .val (.int x1), .val (.int x2), .val (.int x3), .unset, .unset, .unset, .unset, .unset, .unset, .unset, .unset, .unset, .unset, .unset, .unset, .unset, .unset, .unset, .unset, .unset, .unset, .unset, .unset, .unset, .unset] [] := by first | (simp [entryFrame, mkF, argsToLocals, Value.category, maxLocals]; done) | rfl
set_option maxRecDepth 65536 in
set_option maxHeartbeats 40000000 in
theorem own_law (l : Launch) (Z : State) (a0 : Array Value) (hw : ∀ d ∈ tables_1, d.before a0 Z = true) (ws : List Jvm.Cond) (h0 : Heap) (n0 : Nat) (Z0 : n0 ≤ h0.size) (p1 p2 p3 p4 cl ht kk j sa sb : Int32) (hf al be ua ub : UInt64) (pr : Int64) (HW : MetFree l (⟨"java/lang/Math", "max", "(II)I"⟩ : MethodName) (head1 (Jvm.Cond.code (⟨"java/lang/Math", "max", "(II)I"⟩ : MethodName) jdk_29_method_65_code 2 (some .int) :: []) ({ frames := 0, cells := 0, slots := 0, locals := 0 } : Room)) (fun a U => a = #[(.int (1 : Int32)), (.int (p1 &&& (2147483647 : Int32)))] ∧ Z.Warmed39 U.vm ∧ U.heap = h0) (fun _ _ _ _ _ => True) (fun _ U o U' => ∃ v L, o = .returned v ∧ QV (some (.int cl)) h0 n0 v U'.heap L ∧ FrameEnd U o U' L ({ frames := 0, cells := 0, slots := 0, locals := 0 } : Room).cells ({ frames := 0, cells := 0, slots := 0, locals := 0 } : Room).slots)) (HH : MetFree l (⟨"java/lang/Math", "max", "(II)I"⟩ : MethodName) (head1 (Jvm.Cond.code (⟨"java/lang/Math", "max", "(II)I"⟩ : MethodName) jdk_29_method_65_code 2 (some .int) :: []) ({ frames := 0, cells := 0, slots := 0, locals := 0 } : Room)) (fun a U => a = #[(.int (1 : Int32)), (.int (p2 &&& (2147483647 : Int32)))] ∧ Z.Warmed39 U.vm ∧ U.heap = h0) (fun _ _ _ _ _ => True) (fun _ U o U' => ∃ v L, o = .returned v ∧ QV (some (.int ht)) h0 n0 v U'.heap L ∧ FrameEnd U o U' L ({ frames := 0, cells := 0, slots := 0, locals := 0 } : Room).cells ({ frames := 0, cells := 0, slots := 0, locals := 0 } : Room).slots)) (hKk : ((p3 &&& (2147483647 : Int32)) % (1025 : Int32)) = kk) (hj : ((p4 &&& (2147483647 : Int32)) % (5 : Int32)) = j) (hhf : (FP.ddiv (FP.i2d kk) (4652218415073722368 : UInt64)) = hf) (hal : (FP.ddiv (FP.i2d j) (4616189618054758400 : UInt64)) = al) (hbe : (FP.dsub (4607182418800017408 : UInt64) al) = be) (hsa : (((p4.toUInt32 >>> ((8 : Int32) &&& 31).toUInt32).toInt32) &&& (3 : Int32)) = sa) (hsb : (((p4.toUInt32 >>> ((10 : Int32) &&& 31).toUInt32).toInt32) &&& (3 : Int32)) = sb) (hua : (FP.i2d sa) = ua) (hub : (FP.i2d sb) = ub) (mok : MixOK ua ub (4607182418800017408 : UInt64)) (k1 : ¬ cl < (1 : Int32)) (k2 : ¬ ht < (1 : Int32)) (s1 : ShOK hf) (s2 : ShOK al) (s3 : ShOK be) (s4 : ShOK (4607182418800017408 : UInt64)) (ra : RaOK al be) (rb : RbOK be (4607182418800017408 : UInt64)) (hpr : ((((cl - (1 : Int32)).toInt64) * (kk.toInt64)) * (kk.toInt64)) = pr) (n1 : NoNaN64 (FP.dmul (FP.i2d (cl - (1 : Int32))) hf)) (n2 : NoNaN64 (FP.dmul (FP.dmul (FP.i2d (cl - (1 : Int32))) hf) hf)) (n3 : NoNaN64 (FP.ddiv (FP.dmul (FP.dmul (FP.i2d (cl - (1 : Int32))) hf) hf) (FP.i2d ht))) (n4 : NoNaN64 (FP.ddiv (FP.i2d kk) (4652218415073722368 : UInt64))) (n5 : NoNaN64 (FP.ddiv (FP.i2d j) (4616189618054758400 : UInt64))) (n6 : NoNaN64 (FP.dsub (4607182418800017408 : UInt64) al)) (n7 : NoNaN64 (FP.dmul (FP.i2d ht) (4697254411347427328 : UInt64))) (n8 : NoNaN64 (FP.ddiv (FP.l2d pr) (FP.dmul (FP.i2d ht) (4697254411347427328 : UInt64)))) (he : (cmpValue (FP.dcmp (FP.ddiv (FP.dmul (FP.dmul (FP.i2d (cl - (1 : Int32))) hf) hf) (FP.i2d ht)) (FP.ddiv (FP.l2d pr) (FP.dmul (FP.i2d ht) (4697254411347427328 : UInt64)))) .l) = (0 : Int32)) :
    MetFree l x (head1 (Jvm.Cond.code x code maxLocals ret :: ws) room_1) (fun a U => a = #[(.int p1), (.int p2), (.int p3), (.int p4)] ∧ Z.Warmed39 U.vm ∧ U.heap = h0) (fun _ _ _ _ _ => True) (fun _ U o U' => ∃ v L, o = .returned v ∧ QN (some (.int (1 : Int32))) n0 v U'.heap L ∧ ReturnedEndW U o U' L room_1.cells room_1.slots) := by
  refine MetFree.of_bodySF (plainFor_of_name own_pn_com_example_isolint_isolint_predict_RateModelCollisionChancePinLaw) hisR ?_
  intro p e s m args below meth c s₁ Bd hml0 hP hK
  obtain ⟨rfl, hZ, hh⟩ := hP
  have hx := Bd.exec
  have hby := Bd.bytes
  have hml : c.maxLocals = 26 := hml0
  have hown : s.vm.findClass "com/example/isolint/isolint/predict/RateModelCollisionChancePinLaw" = some m.cls := (findClass_of_methodNamed Bd.named :)
  have hnm := (name_of_methodNamed Bd.named Bd.method).1
  have X0 : Stand p l e room_1 (s.setVm s.vm) m #[(.int p1), (.int p2), (.int p3), (.int p4)] below meth c s₁ [] 0 0 := Stand.of_body Bd
  have hZ : Z.Warmed39 (s.setVm s.vm).vm := hZ
  have hown : (s.setVm s.vm).vm.findClass "com/example/isolint/isolint/predict/RateModelCollisionChancePinLaw" = some m.cls := hown
  have hS : s.Since s.vm 0 := (State.WarmedH.refl s).since 0
  have hk : 0 ≤ h0.size := Nat.zero_le _
  have e0 : s₁.heap = h0 := by rw [← hh, Bd.state]; rfl
  have N0 := Fr.nil n0
  have pre0 : ∀ t, Steps p.tables e below (s₁.setTop (mkF m 0 #[.val (.int p1), .val (.int p2), .val (.int p3), .val (.int p4), .unset, .unset, .unset, .unset, .unset, .unset, .unset, .unset, .unset, .unset, .unset, .unset, .unset, .unset, .unset, .unset, .unset, .unset, .unset, .unset, .unset, .unset] [])) t → Steps p.tables e below (s₁.setTop (entryFrame m #[(.int p1), (.int p2), (.int p3), (.int p4)] maxLocals)) t := fun t k => castTop (own_ef_own_law m) k
  obtain ⟨vv1, _, ⟨T1, L1, kk1, nn1⟩, -, X1, ⟨Lc1, hQ1, l1, y1, z1⟩, st1⟩ := Jvm.LawKit.callS X0 hx (y := (⟨"java/lang/Math", "max", "(II)I"⟩ : MethodName)) hown (mvT hZ (hw _ (List.mem_of_getElem? (i := 1) rfl))) (mvT hZ (hw _ (List.mem_of_getElem? (i := 2) rfl))) (mvT hZ (hw _ (List.mem_of_getElem? (i := 3) rfl))) (mvT hZ (hw _ (List.mem_of_getElem? (i := 4) rfl))) (by decide) (backOf (W := 0) HW hZ (hw _ (List.mem_of_getElem? (i := 4) rfl)) (hw _ (List.mem_of_getElem? (i := 3) rfl)) (by decide) (by decide)) (g := (mkF m 5 #[.val (.int p1), .val (.int p2), .val (.int p3), .val (.int p4), .unset, .unset, .unset, .unset, .unset, .unset, .unset, .unset, .unset, .unset, .unset, .unset, .unset, .unset, .unset, .unset, .unset, .unset, .unset, .unset, .unset, .unset] [(.int (p1 &&& (2147483647 : Int32))), (.int (1 : Int32))])) rfl (by rw [hml]; rfl) (argsL := [(.int (1 : Int32)), (.int (p1 &&& (2147483647 : Int32)))]) (rest := []) (lenOf own_pd__II_I rfl) rfl (by show 2 * 0 + _ ≤ _; exact Nat.le_of_eq rfl) (hb hby at_5) (fun _ _ => ⟨rfl, e0, (by decide : 0 + 0 ≤ _), (by decide : 0 + 0 ≤ _)⟩)
  dsimp only [Pt.U, Pt.locs, Pt.cells, Pt.slots] at X1 l1 y1 z1 st1 hQ1
  subst l1 y1 z1
  obtain ⟨rfl, Nq1, e1⟩ := hQ1
  have N1 := Fr.app N0 Nq1
  have ch2 : ∀ t, Steps p.tables e below (T1.setTop (mkF m 8 #[.val (.int p1), .val (.int p2), .val (.int p3), .val (.int p4), .unset, .unset, .unset, .unset, .unset, .unset, .unset, .unset, .unset, .unset, .unset, .unset, .unset, .unset, .unset, .unset, .unset, .unset, .unset, .unset, .unset, .unset] [(.int cl)])) t → Steps p.tables e below (s₁.setTop (entryFrame m #[(.int p1), (.int p2), (.int p3), (.int p4)] maxLocals)) t := fun t k => pre0 t (by
      show Steps p.tables e below (s₁.setTop (mkF m 0 #[.val (.int p1), .val (.int p2), .val (.int p3), .val (.int p4), .unset, .unset, .unset, .unset, .unset, .unset, .unset, .unset, .unset, .unset, .unset, .unset, .unset, .unset, .unset, .unset, .unset, .unset, .unset, .unset, .unset, .unset] [])) t
      refine XS.iconst X0.here hx rfl (hb hby at_0) ?_
      show Steps p.tables e below (s₁.setTop (mkF m 1 #[.val (.int p1), .val (.int p2), .val (.int p3), .val (.int p4), .unset, .unset, .unset, .unset, .unset, .unset, .unset, .unset, .unset, .unset, .unset, .unset, .unset, .unset, .unset, .unset, .unset, .unset, .unset, .unset, .unset, .unset] [(.int (1 : Int32))])) t
      refine XS.iloadN X0.here hx rfl (hb hby at_1) rfl ?_
      show Steps p.tables e below (s₁.setTop (mkF m 2 #[.val (.int p1), .val (.int p2), .val (.int p3), .val (.int p4), .unset, .unset, .unset, .unset, .unset, .unset, .unset, .unset, .unset, .unset, .unset, .unset, .unset, .unset, .unset, .unset, .unset, .unset, .unset, .unset, .unset, .unset] [(.int p1), (.int (1 : Int32))])) t
      refine X0.ldcInt hx hown (mvT hZ (hw _ (List.mem_of_getElem? (i := 0) rfl))) (g := (mkF m 2 #[.val (.int p1), .val (.int p2), .val (.int p3), .val (.int p4), .unset, .unset, .unset, .unset, .unset, .unset, .unset, .unset, .unset, .unset, .unset, .unset, .unset, .unset, .unset, .unset, .unset, .unset, .unset, .unset, .unset, .unset] [(.int p1), (.int (1 : Int32))])) rfl (hb hby at_2) _ ?_
      show Steps p.tables e below (s₁.setTop (mkF m 4 #[.val (.int p1), .val (.int p2), .val (.int p3), .val (.int p4), .unset, .unset, .unset, .unset, .unset, .unset, .unset, .unset, .unset, .unset, .unset, .unset, .unset, .unset, .unset, .unset, .unset, .unset, .unset, .unset, .unset, .unset] [(.int (2147483647 : Int32)), (.int p1), (.int (1 : Int32))])) t
      refine XS.iand X0.here hx rfl (hb hby at_4) rfl ?_
      show Steps p.tables e below (s₁.setTop (mkF m 5 #[.val (.int p1), .val (.int p2), .val (.int p3), .val (.int p4), .unset, .unset, .unset, .unset, .unset, .unset, .unset, .unset, .unset, .unset, .unset, .unset, .unset, .unset, .unset, .unset, .unset, .unset, .unset, .unset, .unset, .unset] [(.int (p1 &&& (2147483647 : Int32))), (.int (1 : Int32))])) t
      exact st1 t k)
  obtain ⟨vv3, _, ⟨T3, L3, kk3, nn3⟩, -, X3, ⟨Lc3, hQ3, l3, y3, z3⟩, st3⟩ := Jvm.LawKit.callS X1 hx (y := (⟨"java/lang/Math", "max", "(II)I"⟩ : MethodName)) hown (mvT hZ (hw _ (List.mem_of_getElem? (i := 1) rfl))) (mvT hZ (hw _ (List.mem_of_getElem? (i := 2) rfl))) (mvT hZ (hw _ (List.mem_of_getElem? (i := 3) rfl))) (mvT hZ (hw _ (List.mem_of_getElem? (i := 4) rfl))) (by decide) (backOf (W := 0) HH hZ (hw _ (List.mem_of_getElem? (i := 4) rfl)) (hw _ (List.mem_of_getElem? (i := 3) rfl)) (by decide) (by decide)) (g := (mkF m 15 #[.val (.int p1), .val (.int p2), .val (.int p3), .val (.int p4), .val (.int cl), .unset, .unset, .unset, .unset, .unset, .unset, .unset, .unset, .unset, .unset, .unset, .unset, .unset, .unset, .unset, .unset, .unset, .unset, .unset, .unset, .unset] [(.int (p2 &&& (2147483647 : Int32))), (.int (1 : Int32))])) rfl (by rw [hml]; rfl) (argsL := [(.int (1 : Int32)), (.int (p2 &&& (2147483647 : Int32)))]) (rest := []) (lenOf own_pd__II_I rfl) rfl (by show 2 * 0 + _ ≤ _; exact Nat.le_of_eq rfl) (hb hby at_15) (fun _ _ => ⟨rfl, e1, (by decide : 0 + 0 ≤ _), (by decide : 0 + 0 ≤ _)⟩)
  dsimp only [Pt.U, Pt.locs, Pt.cells, Pt.slots] at X3 l3 y3 z3 st3 hQ3
  subst l3 y3 z3
  obtain ⟨rfl, Nq3, e3⟩ := hQ3
  have N3 := Fr.app N1 Nq3
  have ch4 : ∀ t, Steps p.tables e below (T3.setTop (mkF m 18 #[.val (.int p1), .val (.int p2), .val (.int p3), .val (.int p4), .val (.int cl), .unset, .unset, .unset, .unset, .unset, .unset, .unset, .unset, .unset, .unset, .unset, .unset, .unset, .unset, .unset, .unset, .unset, .unset, .unset, .unset, .unset] [(.int ht)])) t → Steps p.tables e below (s₁.setTop (entryFrame m #[(.int p1), (.int p2), (.int p3), (.int p4)] maxLocals)) t := fun t k => ch2 t (by
      show Steps p.tables e below (T1.setTop (mkF m 8 #[.val (.int p1), .val (.int p2), .val (.int p3), .val (.int p4), .unset, .unset, .unset, .unset, .unset, .unset, .unset, .unset, .unset, .unset, .unset, .unset, .unset, .unset, .unset, .unset, .unset, .unset, .unset, .unset, .unset, .unset] [(.int cl)])) t
      refine XS.istore X1.here hx rfl (hb hby at_8) rfl (l' := #[.val (.int p1), .val (.int p2), .val (.int p3), .val (.int p4), .val (.int cl), .unset, .unset, .unset, .unset, .unset, .unset, .unset, .unset, .unset, .unset, .unset, .unset, .unset, .unset, .unset, .unset, .unset, .unset, .unset, .unset, .unset]) rfl ?_
      show Steps p.tables e below (T1.setTop (mkF m 10 #[.val (.int p1), .val (.int p2), .val (.int p3), .val (.int p4), .val (.int cl), .unset, .unset, .unset, .unset, .unset, .unset, .unset, .unset, .unset, .unset, .unset, .unset, .unset, .unset, .unset, .unset, .unset, .unset, .unset, .unset, .unset] [])) t
      refine XS.iconst X1.here hx rfl (hb hby at_10) ?_
      show Steps p.tables e below (T1.setTop (mkF m 11 #[.val (.int p1), .val (.int p2), .val (.int p3), .val (.int p4), .val (.int cl), .unset, .unset, .unset, .unset, .unset, .unset, .unset, .unset, .unset, .unset, .unset, .unset, .unset, .unset, .unset, .unset, .unset, .unset, .unset, .unset, .unset] [(.int (1 : Int32))])) t
      refine XS.iloadN X1.here hx rfl (hb hby at_11) rfl ?_
      show Steps p.tables e below (T1.setTop (mkF m 12 #[.val (.int p1), .val (.int p2), .val (.int p3), .val (.int p4), .val (.int cl), .unset, .unset, .unset, .unset, .unset, .unset, .unset, .unset, .unset, .unset, .unset, .unset, .unset, .unset, .unset, .unset, .unset, .unset, .unset, .unset, .unset] [(.int p2), (.int (1 : Int32))])) t
      refine X1.ldcInt hx hown (mvT hZ (hw _ (List.mem_of_getElem? (i := 0) rfl))) (g := (mkF m 12 #[.val (.int p1), .val (.int p2), .val (.int p3), .val (.int p4), .val (.int cl), .unset, .unset, .unset, .unset, .unset, .unset, .unset, .unset, .unset, .unset, .unset, .unset, .unset, .unset, .unset, .unset, .unset, .unset, .unset, .unset, .unset] [(.int p2), (.int (1 : Int32))])) rfl (hb hby at_12) _ ?_
      show Steps p.tables e below (T1.setTop (mkF m 14 #[.val (.int p1), .val (.int p2), .val (.int p3), .val (.int p4), .val (.int cl), .unset, .unset, .unset, .unset, .unset, .unset, .unset, .unset, .unset, .unset, .unset, .unset, .unset, .unset, .unset, .unset, .unset, .unset, .unset, .unset, .unset] [(.int (2147483647 : Int32)), (.int p2), (.int (1 : Int32))])) t
      refine XS.iand X1.here hx rfl (hb hby at_14) rfl ?_
      show Steps p.tables e below (T1.setTop (mkF m 15 #[.val (.int p1), .val (.int p2), .val (.int p3), .val (.int p4), .val (.int cl), .unset, .unset, .unset, .unset, .unset, .unset, .unset, .unset, .unset, .unset, .unset, .unset, .unset, .unset, .unset, .unset, .unset, .unset, .unset, .unset, .unset] [(.int (p2 &&& (2147483647 : Int32))), (.int (1 : Int32))])) t
      exact st3 t k)
  obtain ⟨T5, hp5, X5, e5, E5, A5, D5, -, st5⟩ := newO X3 hx hZ hown (hw _ (List.mem_of_getElem? (i := 7) rfl)) (hw _ (List.mem_of_getElem? (i := 8) rfl)) (hw _ (List.mem_of_getElem? (i := 9) rfl)) e3 (g := (mkF m 81 #[.val (.int p1), .val (.int p2), .val (.int p3), .val (.int p4), .val (.int cl), .val (.int ht), .val (.int kk), .val (.double hf), .second, .val (.int j), .val (.double al), .second, .val (.double be), .second, .val (.double (4607182418800017408 : UInt64)), .second, .val (.int sa), .val (.int sb), .unset, .unset, .unset, .unset, .unset, .unset, .unset, .unset] [])) rfl (hb hby at_81) (by decide) (by decide)
  obtain ⟨b5, g5⟩ : ∃ z, z = h0.size := ⟨_, rfl⟩
  rw [← g5] at A5 D5 st5
  have g_b5 : n0 ≤ b5 := Nat.le_trans (Nat.le_trans Z0 (Keep.refl h0 []).1) (Nat.le_of_eq g5.symm)
  have sz_b5 : h0.size ≤ b5 := Nat.le_trans (Keep.refl h0 []).1 (Nat.le_of_eq g5.symm)
  have hk := Nat.le_trans hk E5.1
  have Kp5 := Keep.ext (Keep.refl h0 []) E5
  have F5_30 : Fld Z hp5 b5 "com/example/isolint/isolint/bench/Mix" "changeA" "D" (.double (0 : UInt64)) := D5 (Or.inr (hw _ (List.mem_of_getElem? (i := 30) rfl))) (ty := .double) (by decide)
  have F5_32 : Fld Z hp5 b5 "com/example/isolint/isolint/bench/Mix" "changeB" "D" (.double (0 : UInt64)) := D5 (Or.inr (hw _ (List.mem_of_getElem? (i := 32) rfl))) (ty := .double) (by decide)
  have F5_34 : Fld Z hp5 b5 "com/example/isolint/isolint/bench/Mix" "changeAB" "D" (.double (0 : UInt64)) := D5 (Or.inr (hw _ (List.mem_of_getElem? (i := 34) rfl))) (ty := .double) (by decide)
  have ch6 : ∀ t, Steps p.tables e below (T5.setTop (mkF m 84 #[.val (.int p1), .val (.int p2), .val (.int p3), .val (.int p4), .val (.int cl), .val (.int ht), .val (.int kk), .val (.double hf), .second, .val (.int j), .val (.double al), .second, .val (.double be), .second, .val (.double (4607182418800017408 : UInt64)), .second, .val (.int sa), .val (.int sb), .unset, .unset, .unset, .unset, .unset, .unset, .unset, .unset] [(.ref b5)])) t → Steps p.tables e below (s₁.setTop (entryFrame m #[(.int p1), (.int p2), (.int p3), (.int p4)] maxLocals)) t := fun t k => ch4 t (by
      show Steps p.tables e below (T3.setTop (mkF m 18 #[.val (.int p1), .val (.int p2), .val (.int p3), .val (.int p4), .val (.int cl), .unset, .unset, .unset, .unset, .unset, .unset, .unset, .unset, .unset, .unset, .unset, .unset, .unset, .unset, .unset, .unset, .unset, .unset, .unset, .unset, .unset] [(.int ht)])) t
      refine XS.istore X3.here hx rfl (hb hby at_18) rfl (l' := #[.val (.int p1), .val (.int p2), .val (.int p3), .val (.int p4), .val (.int cl), .val (.int ht), .unset, .unset, .unset, .unset, .unset, .unset, .unset, .unset, .unset, .unset, .unset, .unset, .unset, .unset, .unset, .unset, .unset, .unset, .unset, .unset]) rfl ?_
      show Steps p.tables e below (T3.setTop (mkF m 20 #[.val (.int p1), .val (.int p2), .val (.int p3), .val (.int p4), .val (.int cl), .val (.int ht), .unset, .unset, .unset, .unset, .unset, .unset, .unset, .unset, .unset, .unset, .unset, .unset, .unset, .unset, .unset, .unset, .unset, .unset, .unset, .unset] [])) t
      refine XS.iloadN X3.here hx rfl (hb hby at_20) rfl ?_
      show Steps p.tables e below (T3.setTop (mkF m 21 #[.val (.int p1), .val (.int p2), .val (.int p3), .val (.int p4), .val (.int cl), .val (.int ht), .unset, .unset, .unset, .unset, .unset, .unset, .unset, .unset, .unset, .unset, .unset, .unset, .unset, .unset, .unset, .unset, .unset, .unset, .unset, .unset] [(.int p3)])) t
      refine X3.ldcInt hx hown (mvT hZ (hw _ (List.mem_of_getElem? (i := 0) rfl))) (g := (mkF m 21 #[.val (.int p1), .val (.int p2), .val (.int p3), .val (.int p4), .val (.int cl), .val (.int ht), .unset, .unset, .unset, .unset, .unset, .unset, .unset, .unset, .unset, .unset, .unset, .unset, .unset, .unset, .unset, .unset, .unset, .unset, .unset, .unset] [(.int p3)])) rfl (hb hby at_21) _ ?_
      show Steps p.tables e below (T3.setTop (mkF m 23 #[.val (.int p1), .val (.int p2), .val (.int p3), .val (.int p4), .val (.int cl), .val (.int ht), .unset, .unset, .unset, .unset, .unset, .unset, .unset, .unset, .unset, .unset, .unset, .unset, .unset, .unset, .unset, .unset, .unset, .unset, .unset, .unset] [(.int (2147483647 : Int32)), (.int p3)])) t
      refine XS.iand X3.here hx rfl (hb hby at_23) rfl ?_
      show Steps p.tables e below (T3.setTop (mkF m 24 #[.val (.int p1), .val (.int p2), .val (.int p3), .val (.int p4), .val (.int cl), .val (.int ht), .unset, .unset, .unset, .unset, .unset, .unset, .unset, .unset, .unset, .unset, .unset, .unset, .unset, .unset, .unset, .unset, .unset, .unset, .unset, .unset] [(.int (p3 &&& (2147483647 : Int32)))])) t
      refine XS.sipush X3.here hx rfl (hb hby at_24) ?_
      show Steps p.tables e below (T3.setTop (mkF m 27 #[.val (.int p1), .val (.int p2), .val (.int p3), .val (.int p4), .val (.int cl), .val (.int ht), .unset, .unset, .unset, .unset, .unset, .unset, .unset, .unset, .unset, .unset, .unset, .unset, .unset, .unset, .unset, .unset, .unset, .unset, .unset, .unset] [(.int (1025 : Int32)), (.int (p3 &&& (2147483647 : Int32)))])) t
      refine Jvm.RoadKit.iremM (g := (mkF m 27 #[.val (.int p1), .val (.int p2), .val (.int p3), .val (.int p4), .val (.int cl), .val (.int ht), .unset, .unset, .unset, .unset, .unset, .unset, .unset, .unset, .unset, .unset, .unset, .unset, .unset, .unset, .unset, .unset, .unset, .unset, .unset, .unset] [(.int (1025 : Int32)), (.int (p3 &&& (2147483647 : Int32)))])) X3 hx rfl (hb hby at_27) rfl (by decide) ?_
      rw [hKk]
      show Steps p.tables e below (T3.setTop (mkF m 28 #[.val (.int p1), .val (.int p2), .val (.int p3), .val (.int p4), .val (.int cl), .val (.int ht), .unset, .unset, .unset, .unset, .unset, .unset, .unset, .unset, .unset, .unset, .unset, .unset, .unset, .unset, .unset, .unset, .unset, .unset, .unset, .unset] [(.int kk)])) t
      refine XS.istore X3.here hx rfl (hb hby at_28) rfl (l' := #[.val (.int p1), .val (.int p2), .val (.int p3), .val (.int p4), .val (.int cl), .val (.int ht), .val (.int kk), .unset, .unset, .unset, .unset, .unset, .unset, .unset, .unset, .unset, .unset, .unset, .unset, .unset, .unset, .unset, .unset, .unset, .unset, .unset]) rfl ?_
      show Steps p.tables e below (T3.setTop (mkF m 30 #[.val (.int p1), .val (.int p2), .val (.int p3), .val (.int p4), .val (.int cl), .val (.int ht), .val (.int kk), .unset, .unset, .unset, .unset, .unset, .unset, .unset, .unset, .unset, .unset, .unset, .unset, .unset, .unset, .unset, .unset, .unset, .unset, .unset] [])) t
      refine XS.iload X3.here hx rfl (hb hby at_30) rfl ?_
      show Steps p.tables e below (T3.setTop (mkF m 32 #[.val (.int p1), .val (.int p2), .val (.int p3), .val (.int p4), .val (.int cl), .val (.int ht), .val (.int kk), .unset, .unset, .unset, .unset, .unset, .unset, .unset, .unset, .unset, .unset, .unset, .unset, .unset, .unset, .unset, .unset, .unset, .unset, .unset] [(.int kk)])) t
      refine XS.i2dS X3.here hx rfl (hb hby at_32) rfl rfl ?_
      show Steps p.tables e below (T3.setTop (mkF m 33 #[.val (.int p1), .val (.int p2), .val (.int p3), .val (.int p4), .val (.int cl), .val (.int ht), .val (.int kk), .unset, .unset, .unset, .unset, .unset, .unset, .unset, .unset, .unset, .unset, .unset, .unset, .unset, .unset, .unset, .unset, .unset, .unset, .unset] [(.double (FP.i2d kk))])) t
      refine X3.ldc2DoubleC hx hown (mvT hZ (hw _ (List.mem_of_getElem? (i := 5) rfl))) (g := (mkF m 33 #[.val (.int p1), .val (.int p2), .val (.int p3), .val (.int p4), .val (.int cl), .val (.int ht), .val (.int kk), .unset, .unset, .unset, .unset, .unset, .unset, .unset, .unset, .unset, .unset, .unset, .unset, .unset, .unset, .unset, .unset, .unset, .unset, .unset] [(.double (FP.i2d kk))])) rfl (hb hby at_33) _ ?_
      show Steps p.tables e below (T3.setTop (mkF m 36 #[.val (.int p1), .val (.int p2), .val (.int p3), .val (.int p4), .val (.int cl), .val (.int ht), .val (.int kk), .unset, .unset, .unset, .unset, .unset, .unset, .unset, .unset, .unset, .unset, .unset, .unset, .unset, .unset, .unset, .unset, .unset, .unset, .unset] [(.double (4652218415073722368 : UInt64)), (.double (FP.i2d kk))])) t
      refine XS.ddivS X3.here hx rfl (hb hby at_36) rfl n4 rfl ?_
      rw [hhf]
      show Steps p.tables e below (T3.setTop (mkF m 37 #[.val (.int p1), .val (.int p2), .val (.int p3), .val (.int p4), .val (.int cl), .val (.int ht), .val (.int kk), .unset, .unset, .unset, .unset, .unset, .unset, .unset, .unset, .unset, .unset, .unset, .unset, .unset, .unset, .unset, .unset, .unset, .unset, .unset] [(.double hf)])) t
      refine XS.dstore X3.here hx rfl (hb hby at_37) rfl (l' := #[.val (.int p1), .val (.int p2), .val (.int p3), .val (.int p4), .val (.int cl), .val (.int ht), .val (.int kk), .val (.double hf), .second, .unset, .unset, .unset, .unset, .unset, .unset, .unset, .unset, .unset, .unset, .unset, .unset, .unset, .unset, .unset, .unset, .unset]) rfl ?_
      show Steps p.tables e below (T3.setTop (mkF m 39 #[.val (.int p1), .val (.int p2), .val (.int p3), .val (.int p4), .val (.int cl), .val (.int ht), .val (.int kk), .val (.double hf), .second, .unset, .unset, .unset, .unset, .unset, .unset, .unset, .unset, .unset, .unset, .unset, .unset, .unset, .unset, .unset, .unset, .unset] [])) t
      refine XS.iloadN X3.here hx rfl (hb hby at_39) rfl ?_
      show Steps p.tables e below (T3.setTop (mkF m 40 #[.val (.int p1), .val (.int p2), .val (.int p3), .val (.int p4), .val (.int cl), .val (.int ht), .val (.int kk), .val (.double hf), .second, .unset, .unset, .unset, .unset, .unset, .unset, .unset, .unset, .unset, .unset, .unset, .unset, .unset, .unset, .unset, .unset, .unset] [(.int p4)])) t
      refine X3.ldcInt hx hown (mvT hZ (hw _ (List.mem_of_getElem? (i := 0) rfl))) (g := (mkF m 40 #[.val (.int p1), .val (.int p2), .val (.int p3), .val (.int p4), .val (.int cl), .val (.int ht), .val (.int kk), .val (.double hf), .second, .unset, .unset, .unset, .unset, .unset, .unset, .unset, .unset, .unset, .unset, .unset, .unset, .unset, .unset, .unset, .unset, .unset] [(.int p4)])) rfl (hb hby at_40) _ ?_
      show Steps p.tables e below (T3.setTop (mkF m 42 #[.val (.int p1), .val (.int p2), .val (.int p3), .val (.int p4), .val (.int cl), .val (.int ht), .val (.int kk), .val (.double hf), .second, .unset, .unset, .unset, .unset, .unset, .unset, .unset, .unset, .unset, .unset, .unset, .unset, .unset, .unset, .unset, .unset, .unset] [(.int (2147483647 : Int32)), (.int p4)])) t
      refine XS.iand X3.here hx rfl (hb hby at_42) rfl ?_
      show Steps p.tables e below (T3.setTop (mkF m 43 #[.val (.int p1), .val (.int p2), .val (.int p3), .val (.int p4), .val (.int cl), .val (.int ht), .val (.int kk), .val (.double hf), .second, .unset, .unset, .unset, .unset, .unset, .unset, .unset, .unset, .unset, .unset, .unset, .unset, .unset, .unset, .unset, .unset, .unset] [(.int (p4 &&& (2147483647 : Int32)))])) t
      refine XS.iconst X3.here hx rfl (hb hby at_43) ?_
      show Steps p.tables e below (T3.setTop (mkF m 44 #[.val (.int p1), .val (.int p2), .val (.int p3), .val (.int p4), .val (.int cl), .val (.int ht), .val (.int kk), .val (.double hf), .second, .unset, .unset, .unset, .unset, .unset, .unset, .unset, .unset, .unset, .unset, .unset, .unset, .unset, .unset, .unset, .unset, .unset] [(.int (5 : Int32)), (.int (p4 &&& (2147483647 : Int32)))])) t
      refine Jvm.RoadKit.iremM (g := (mkF m 44 #[.val (.int p1), .val (.int p2), .val (.int p3), .val (.int p4), .val (.int cl), .val (.int ht), .val (.int kk), .val (.double hf), .second, .unset, .unset, .unset, .unset, .unset, .unset, .unset, .unset, .unset, .unset, .unset, .unset, .unset, .unset, .unset, .unset, .unset] [(.int (5 : Int32)), (.int (p4 &&& (2147483647 : Int32)))])) X3 hx rfl (hb hby at_44) rfl (by decide) ?_
      rw [hj]
      show Steps p.tables e below (T3.setTop (mkF m 45 #[.val (.int p1), .val (.int p2), .val (.int p3), .val (.int p4), .val (.int cl), .val (.int ht), .val (.int kk), .val (.double hf), .second, .unset, .unset, .unset, .unset, .unset, .unset, .unset, .unset, .unset, .unset, .unset, .unset, .unset, .unset, .unset, .unset, .unset] [(.int j)])) t
      refine XS.istore X3.here hx rfl (hb hby at_45) rfl (l' := #[.val (.int p1), .val (.int p2), .val (.int p3), .val (.int p4), .val (.int cl), .val (.int ht), .val (.int kk), .val (.double hf), .second, .val (.int j), .unset, .unset, .unset, .unset, .unset, .unset, .unset, .unset, .unset, .unset, .unset, .unset, .unset, .unset, .unset, .unset]) rfl ?_
      show Steps p.tables e below (T3.setTop (mkF m 47 #[.val (.int p1), .val (.int p2), .val (.int p3), .val (.int p4), .val (.int cl), .val (.int ht), .val (.int kk), .val (.double hf), .second, .val (.int j), .unset, .unset, .unset, .unset, .unset, .unset, .unset, .unset, .unset, .unset, .unset, .unset, .unset, .unset, .unset, .unset] [])) t
      refine XS.iload X3.here hx rfl (hb hby at_47) rfl ?_
      show Steps p.tables e below (T3.setTop (mkF m 49 #[.val (.int p1), .val (.int p2), .val (.int p3), .val (.int p4), .val (.int cl), .val (.int ht), .val (.int kk), .val (.double hf), .second, .val (.int j), .unset, .unset, .unset, .unset, .unset, .unset, .unset, .unset, .unset, .unset, .unset, .unset, .unset, .unset, .unset, .unset] [(.int j)])) t
      refine XS.i2dS X3.here hx rfl (hb hby at_49) rfl rfl ?_
      show Steps p.tables e below (T3.setTop (mkF m 50 #[.val (.int p1), .val (.int p2), .val (.int p3), .val (.int p4), .val (.int cl), .val (.int ht), .val (.int kk), .val (.double hf), .second, .val (.int j), .unset, .unset, .unset, .unset, .unset, .unset, .unset, .unset, .unset, .unset, .unset, .unset, .unset, .unset, .unset, .unset] [(.double (FP.i2d j))])) t
      refine X3.ldc2DoubleC hx hown (mvT hZ (hw _ (List.mem_of_getElem? (i := 6) rfl))) (g := (mkF m 50 #[.val (.int p1), .val (.int p2), .val (.int p3), .val (.int p4), .val (.int cl), .val (.int ht), .val (.int kk), .val (.double hf), .second, .val (.int j), .unset, .unset, .unset, .unset, .unset, .unset, .unset, .unset, .unset, .unset, .unset, .unset, .unset, .unset, .unset, .unset] [(.double (FP.i2d j))])) rfl (hb hby at_50) _ ?_
      show Steps p.tables e below (T3.setTop (mkF m 53 #[.val (.int p1), .val (.int p2), .val (.int p3), .val (.int p4), .val (.int cl), .val (.int ht), .val (.int kk), .val (.double hf), .second, .val (.int j), .unset, .unset, .unset, .unset, .unset, .unset, .unset, .unset, .unset, .unset, .unset, .unset, .unset, .unset, .unset, .unset] [(.double (4616189618054758400 : UInt64)), (.double (FP.i2d j))])) t
      refine XS.ddivS X3.here hx rfl (hb hby at_53) rfl n5 rfl ?_
      rw [hal]
      show Steps p.tables e below (T3.setTop (mkF m 54 #[.val (.int p1), .val (.int p2), .val (.int p3), .val (.int p4), .val (.int cl), .val (.int ht), .val (.int kk), .val (.double hf), .second, .val (.int j), .unset, .unset, .unset, .unset, .unset, .unset, .unset, .unset, .unset, .unset, .unset, .unset, .unset, .unset, .unset, .unset] [(.double al)])) t
      refine XS.dstore X3.here hx rfl (hb hby at_54) rfl (l' := #[.val (.int p1), .val (.int p2), .val (.int p3), .val (.int p4), .val (.int cl), .val (.int ht), .val (.int kk), .val (.double hf), .second, .val (.int j), .val (.double al), .second, .unset, .unset, .unset, .unset, .unset, .unset, .unset, .unset, .unset, .unset, .unset, .unset, .unset, .unset]) rfl ?_
      show Steps p.tables e below (T3.setTop (mkF m 56 #[.val (.int p1), .val (.int p2), .val (.int p3), .val (.int p4), .val (.int cl), .val (.int ht), .val (.int kk), .val (.double hf), .second, .val (.int j), .val (.double al), .second, .unset, .unset, .unset, .unset, .unset, .unset, .unset, .unset, .unset, .unset, .unset, .unset, .unset, .unset] [])) t
      refine XS.dconst1 X3.here hx rfl (hb hby at_56) rfl ?_
      show Steps p.tables e below (T3.setTop (mkF m 57 #[.val (.int p1), .val (.int p2), .val (.int p3), .val (.int p4), .val (.int cl), .val (.int ht), .val (.int kk), .val (.double hf), .second, .val (.int j), .val (.double al), .second, .unset, .unset, .unset, .unset, .unset, .unset, .unset, .unset, .unset, .unset, .unset, .unset, .unset, .unset] [(.double (4607182418800017408 : UInt64))])) t
      show Steps p.tables e below (T3.setTop (mkF m 57 #[.val (.int p1), .val (.int p2), .val (.int p3), .val (.int p4), .val (.int cl), .val (.int ht), .val (.int kk), .val (.double hf), .second, .val (.int j), .val (.double al), .second, .unset, .unset, .unset, .unset, .unset, .unset, .unset, .unset, .unset, .unset, .unset, .unset, .unset, .unset] [(.double (4607182418800017408 : UInt64))])) t
      refine XS.dload X3.here hx rfl (hb hby at_57) rfl ?_
      show Steps p.tables e below (T3.setTop (mkF m 59 #[.val (.int p1), .val (.int p2), .val (.int p3), .val (.int p4), .val (.int cl), .val (.int ht), .val (.int kk), .val (.double hf), .second, .val (.int j), .val (.double al), .second, .unset, .unset, .unset, .unset, .unset, .unset, .unset, .unset, .unset, .unset, .unset, .unset, .unset, .unset] [(.double al), (.double (4607182418800017408 : UInt64))])) t
      refine XS.dsubS X3.here hx rfl (hb hby at_59) rfl n6 rfl ?_
      rw [hbe]
      show Steps p.tables e below (T3.setTop (mkF m 60 #[.val (.int p1), .val (.int p2), .val (.int p3), .val (.int p4), .val (.int cl), .val (.int ht), .val (.int kk), .val (.double hf), .second, .val (.int j), .val (.double al), .second, .unset, .unset, .unset, .unset, .unset, .unset, .unset, .unset, .unset, .unset, .unset, .unset, .unset, .unset] [(.double be)])) t
      refine XS.dstore X3.here hx rfl (hb hby at_60) rfl (l' := #[.val (.int p1), .val (.int p2), .val (.int p3), .val (.int p4), .val (.int cl), .val (.int ht), .val (.int kk), .val (.double hf), .second, .val (.int j), .val (.double al), .second, .val (.double be), .second, .unset, .unset, .unset, .unset, .unset, .unset, .unset, .unset, .unset, .unset, .unset, .unset]) rfl ?_
      show Steps p.tables e below (T3.setTop (mkF m 62 #[.val (.int p1), .val (.int p2), .val (.int p3), .val (.int p4), .val (.int cl), .val (.int ht), .val (.int kk), .val (.double hf), .second, .val (.int j), .val (.double al), .second, .val (.double be), .second, .unset, .unset, .unset, .unset, .unset, .unset, .unset, .unset, .unset, .unset, .unset, .unset] [])) t
      refine XS.dconst1 X3.here hx rfl (hb hby at_62) rfl ?_
      show Steps p.tables e below (T3.setTop (mkF m 63 #[.val (.int p1), .val (.int p2), .val (.int p3), .val (.int p4), .val (.int cl), .val (.int ht), .val (.int kk), .val (.double hf), .second, .val (.int j), .val (.double al), .second, .val (.double be), .second, .unset, .unset, .unset, .unset, .unset, .unset, .unset, .unset, .unset, .unset, .unset, .unset] [(.double (4607182418800017408 : UInt64))])) t
      show Steps p.tables e below (T3.setTop (mkF m 63 #[.val (.int p1), .val (.int p2), .val (.int p3), .val (.int p4), .val (.int cl), .val (.int ht), .val (.int kk), .val (.double hf), .second, .val (.int j), .val (.double al), .second, .val (.double be), .second, .unset, .unset, .unset, .unset, .unset, .unset, .unset, .unset, .unset, .unset, .unset, .unset] [(.double (4607182418800017408 : UInt64))])) t
      refine XS.dstore X3.here hx rfl (hb hby at_63) rfl (l' := #[.val (.int p1), .val (.int p2), .val (.int p3), .val (.int p4), .val (.int cl), .val (.int ht), .val (.int kk), .val (.double hf), .second, .val (.int j), .val (.double al), .second, .val (.double be), .second, .val (.double (4607182418800017408 : UInt64)), .second, .unset, .unset, .unset, .unset, .unset, .unset, .unset, .unset, .unset, .unset]) rfl ?_
      show Steps p.tables e below (T3.setTop (mkF m 65 #[.val (.int p1), .val (.int p2), .val (.int p3), .val (.int p4), .val (.int cl), .val (.int ht), .val (.int kk), .val (.double hf), .second, .val (.int j), .val (.double al), .second, .val (.double be), .second, .val (.double (4607182418800017408 : UInt64)), .second, .unset, .unset, .unset, .unset, .unset, .unset, .unset, .unset, .unset, .unset] [])) t
      refine XS.iloadN X3.here hx rfl (hb hby at_65) rfl ?_
      show Steps p.tables e below (T3.setTop (mkF m 66 #[.val (.int p1), .val (.int p2), .val (.int p3), .val (.int p4), .val (.int cl), .val (.int ht), .val (.int kk), .val (.double hf), .second, .val (.int j), .val (.double al), .second, .val (.double be), .second, .val (.double (4607182418800017408 : UInt64)), .second, .unset, .unset, .unset, .unset, .unset, .unset, .unset, .unset, .unset, .unset] [(.int p4)])) t
      refine XS.bipush X3.here hx rfl (hb hby at_66) ?_
      show Steps p.tables e below (T3.setTop (mkF m 68 #[.val (.int p1), .val (.int p2), .val (.int p3), .val (.int p4), .val (.int cl), .val (.int ht), .val (.int kk), .val (.double hf), .second, .val (.int j), .val (.double al), .second, .val (.double be), .second, .val (.double (4607182418800017408 : UInt64)), .second, .unset, .unset, .unset, .unset, .unset, .unset, .unset, .unset, .unset, .unset] [(.int (8 : Int32)), (.int p4)])) t
      refine XS.iushr X3.here hx rfl (hb hby at_68) rfl ?_
      show Steps p.tables e below (T3.setTop (mkF m 69 #[.val (.int p1), .val (.int p2), .val (.int p3), .val (.int p4), .val (.int cl), .val (.int ht), .val (.int kk), .val (.double hf), .second, .val (.int j), .val (.double al), .second, .val (.double be), .second, .val (.double (4607182418800017408 : UInt64)), .second, .unset, .unset, .unset, .unset, .unset, .unset, .unset, .unset, .unset, .unset] [(.int ((p4.toUInt32 >>> ((8 : Int32) &&& 31).toUInt32).toInt32))])) t
      refine XS.iconst X3.here hx rfl (hb hby at_69) ?_
      show Steps p.tables e below (T3.setTop (mkF m 70 #[.val (.int p1), .val (.int p2), .val (.int p3), .val (.int p4), .val (.int cl), .val (.int ht), .val (.int kk), .val (.double hf), .second, .val (.int j), .val (.double al), .second, .val (.double be), .second, .val (.double (4607182418800017408 : UInt64)), .second, .unset, .unset, .unset, .unset, .unset, .unset, .unset, .unset, .unset, .unset] [(.int (3 : Int32)), (.int ((p4.toUInt32 >>> ((8 : Int32) &&& 31).toUInt32).toInt32))])) t
      refine XS.iand X3.here hx rfl (hb hby at_70) rfl ?_
      rw [hsa]
      show Steps p.tables e below (T3.setTop (mkF m 71 #[.val (.int p1), .val (.int p2), .val (.int p3), .val (.int p4), .val (.int cl), .val (.int ht), .val (.int kk), .val (.double hf), .second, .val (.int j), .val (.double al), .second, .val (.double be), .second, .val (.double (4607182418800017408 : UInt64)), .second, .unset, .unset, .unset, .unset, .unset, .unset, .unset, .unset, .unset, .unset] [(.int sa)])) t
      refine XS.istore X3.here hx rfl (hb hby at_71) rfl (l' := #[.val (.int p1), .val (.int p2), .val (.int p3), .val (.int p4), .val (.int cl), .val (.int ht), .val (.int kk), .val (.double hf), .second, .val (.int j), .val (.double al), .second, .val (.double be), .second, .val (.double (4607182418800017408 : UInt64)), .second, .val (.int sa), .unset, .unset, .unset, .unset, .unset, .unset, .unset, .unset, .unset]) rfl ?_
      show Steps p.tables e below (T3.setTop (mkF m 73 #[.val (.int p1), .val (.int p2), .val (.int p3), .val (.int p4), .val (.int cl), .val (.int ht), .val (.int kk), .val (.double hf), .second, .val (.int j), .val (.double al), .second, .val (.double be), .second, .val (.double (4607182418800017408 : UInt64)), .second, .val (.int sa), .unset, .unset, .unset, .unset, .unset, .unset, .unset, .unset, .unset] [])) t
      refine XS.iloadN X3.here hx rfl (hb hby at_73) rfl ?_
      show Steps p.tables e below (T3.setTop (mkF m 74 #[.val (.int p1), .val (.int p2), .val (.int p3), .val (.int p4), .val (.int cl), .val (.int ht), .val (.int kk), .val (.double hf), .second, .val (.int j), .val (.double al), .second, .val (.double be), .second, .val (.double (4607182418800017408 : UInt64)), .second, .val (.int sa), .unset, .unset, .unset, .unset, .unset, .unset, .unset, .unset, .unset] [(.int p4)])) t
      refine XS.bipush X3.here hx rfl (hb hby at_74) ?_
      show Steps p.tables e below (T3.setTop (mkF m 76 #[.val (.int p1), .val (.int p2), .val (.int p3), .val (.int p4), .val (.int cl), .val (.int ht), .val (.int kk), .val (.double hf), .second, .val (.int j), .val (.double al), .second, .val (.double be), .second, .val (.double (4607182418800017408 : UInt64)), .second, .val (.int sa), .unset, .unset, .unset, .unset, .unset, .unset, .unset, .unset, .unset] [(.int (10 : Int32)), (.int p4)])) t
      refine XS.iushr X3.here hx rfl (hb hby at_76) rfl ?_
      show Steps p.tables e below (T3.setTop (mkF m 77 #[.val (.int p1), .val (.int p2), .val (.int p3), .val (.int p4), .val (.int cl), .val (.int ht), .val (.int kk), .val (.double hf), .second, .val (.int j), .val (.double al), .second, .val (.double be), .second, .val (.double (4607182418800017408 : UInt64)), .second, .val (.int sa), .unset, .unset, .unset, .unset, .unset, .unset, .unset, .unset, .unset] [(.int ((p4.toUInt32 >>> ((10 : Int32) &&& 31).toUInt32).toInt32))])) t
      refine XS.iconst X3.here hx rfl (hb hby at_77) ?_
      show Steps p.tables e below (T3.setTop (mkF m 78 #[.val (.int p1), .val (.int p2), .val (.int p3), .val (.int p4), .val (.int cl), .val (.int ht), .val (.int kk), .val (.double hf), .second, .val (.int j), .val (.double al), .second, .val (.double be), .second, .val (.double (4607182418800017408 : UInt64)), .second, .val (.int sa), .unset, .unset, .unset, .unset, .unset, .unset, .unset, .unset, .unset] [(.int (3 : Int32)), (.int ((p4.toUInt32 >>> ((10 : Int32) &&& 31).toUInt32).toInt32))])) t
      refine XS.iand X3.here hx rfl (hb hby at_78) rfl ?_
      rw [hsb]
      show Steps p.tables e below (T3.setTop (mkF m 79 #[.val (.int p1), .val (.int p2), .val (.int p3), .val (.int p4), .val (.int cl), .val (.int ht), .val (.int kk), .val (.double hf), .second, .val (.int j), .val (.double al), .second, .val (.double be), .second, .val (.double (4607182418800017408 : UInt64)), .second, .val (.int sa), .unset, .unset, .unset, .unset, .unset, .unset, .unset, .unset, .unset] [(.int sb)])) t
      refine XS.istore X3.here hx rfl (hb hby at_79) rfl (l' := #[.val (.int p1), .val (.int p2), .val (.int p3), .val (.int p4), .val (.int cl), .val (.int ht), .val (.int kk), .val (.double hf), .second, .val (.int j), .val (.double al), .second, .val (.double be), .second, .val (.double (4607182418800017408 : UInt64)), .second, .val (.int sa), .val (.int sb), .unset, .unset, .unset, .unset, .unset, .unset, .unset, .unset]) rfl ?_
      show Steps p.tables e below (T3.setTop (mkF m 81 #[.val (.int p1), .val (.int p2), .val (.int p3), .val (.int p4), .val (.int cl), .val (.int ht), .val (.int kk), .val (.double hf), .second, .val (.int j), .val (.double al), .second, .val (.double be), .second, .val (.double (4607182418800017408 : UInt64)), .second, .val (.int sa), .val (.int sb), .unset, .unset, .unset, .unset, .unset, .unset, .unset, .unset] [])) t
      exact st5 t k)
  obtain ⟨vv7, _, ⟨T7, L7, kk7, nn7⟩, -, X7, ⟨Lc7, hQ7, l7, y7, z7⟩, st7⟩ := X5.specialBack hx (y := (⟨"com/example/isolint/isolint/bench/Mix", "<init>", "(DDD)V"⟩ : MethodName)) rfl hown (mvT hZ (hw _ (List.mem_of_getElem? (i := 10) rfl))) (mvT hZ (hw _ (List.mem_of_getElem? (i := 11) rfl))) (mvT hZ (hw _ (List.mem_of_getElem? (i := 12) rfl))) (by decide) (backOf (W := 1) (own_mini l Z a0 hw [] hp5 n0 (Nat.le_trans Z0 Kp5.1) b5 ua ub (4607182418800017408 : UInt64) A5 F5_30 F5_32 F5_34 g_b5 mok) hZ (hw _ (List.mem_of_getElem? (i := 12) rfl)) (hw _ (List.mem_of_getElem? (i := 9) rfl)) (by decide) (by decide)) (g := (mkF m 92 #[.val (.int p1), .val (.int p2), .val (.int p3), .val (.int p4), .val (.int cl), .val (.int ht), .val (.int kk), .val (.double hf), .second, .val (.int j), .val (.double al), .second, .val (.double be), .second, .val (.double (4607182418800017408 : UInt64)), .second, .val (.int sa), .val (.int sb), .unset, .unset, .unset, .unset, .unset, .unset, .unset, .unset] [(.double (4607182418800017408 : UInt64)), (.double ub), (.double ua), (.ref b5), (.ref b5)])) rfl (by rw [hml]; rfl) (Steps.refl _) (a := b5) (argsL := [(.double ua), (.double ub), (.double (4607182418800017408 : UInt64))]) (rest := [(.ref b5)]) (lenOf own_pd__DDD_V rfl) rfl (by show 2 * 0 + _ ≤ _; exact Nat.le_of_eq rfl) (hb hby at_92) (fun _ _ => ⟨rfl, e5, (by decide : 1 + 0 ≤ _), (by decide : 3 + 0 ≤ _)⟩)
  dsimp only [Pt.U, Pt.locs, Pt.cells, Pt.slots] at X7 l7 y7 z7 st7 hQ7
  subst l7 y7 z7
  obtain ⟨hh7, eh7⟩ : ∃ h, T7.heap = h := ⟨_, rfl⟩
  rw [eh7] at hQ7
  obtain ⟨rfl, Nq7, Kq7, fq7_0⟩ := hQ7
  have N7 := Fr.app N3 Nq7
  have hk := Nat.le_trans hk Kq7.1
  have Kp7 := Keep.trans Kp5 Kq7 (allS (Or.inr sz_b5) all0)
  have ch8 : ∀ t, Steps p.tables e below (T7.setTop (mkF m 95 #[.val (.int p1), .val (.int p2), .val (.int p3), .val (.int p4), .val (.int cl), .val (.int ht), .val (.int kk), .val (.double hf), .second, .val (.int j), .val (.double al), .second, .val (.double be), .second, .val (.double (4607182418800017408 : UInt64)), .second, .val (.int sa), .val (.int sb), .unset, .unset, .unset, .unset, .unset, .unset, .unset, .unset] [(.ref b5)])) t → Steps p.tables e below (s₁.setTop (entryFrame m #[(.int p1), (.int p2), (.int p3), (.int p4)] maxLocals)) t := fun t k => ch6 t (by
      show Steps p.tables e below (T5.setTop (mkF m 84 #[.val (.int p1), .val (.int p2), .val (.int p3), .val (.int p4), .val (.int cl), .val (.int ht), .val (.int kk), .val (.double hf), .second, .val (.int j), .val (.double al), .second, .val (.double be), .second, .val (.double (4607182418800017408 : UInt64)), .second, .val (.int sa), .val (.int sb), .unset, .unset, .unset, .unset, .unset, .unset, .unset, .unset] [(.ref b5)])) t
      refine XS.dup X5.here hx rfl (hb hby at_84) rfl rfl ?_
      show Steps p.tables e below (T5.setTop (mkF m 85 #[.val (.int p1), .val (.int p2), .val (.int p3), .val (.int p4), .val (.int cl), .val (.int ht), .val (.int kk), .val (.double hf), .second, .val (.int j), .val (.double al), .second, .val (.double be), .second, .val (.double (4607182418800017408 : UInt64)), .second, .val (.int sa), .val (.int sb), .unset, .unset, .unset, .unset, .unset, .unset, .unset, .unset] [(.ref b5), (.ref b5)])) t
      refine XS.iload X5.here hx rfl (hb hby at_85) rfl ?_
      show Steps p.tables e below (T5.setTop (mkF m 87 #[.val (.int p1), .val (.int p2), .val (.int p3), .val (.int p4), .val (.int cl), .val (.int ht), .val (.int kk), .val (.double hf), .second, .val (.int j), .val (.double al), .second, .val (.double be), .second, .val (.double (4607182418800017408 : UInt64)), .second, .val (.int sa), .val (.int sb), .unset, .unset, .unset, .unset, .unset, .unset, .unset, .unset] [(.int sa), (.ref b5), (.ref b5)])) t
      refine XS.i2dS X5.here hx rfl (hb hby at_87) rfl rfl ?_
      rw [hua]
      show Steps p.tables e below (T5.setTop (mkF m 88 #[.val (.int p1), .val (.int p2), .val (.int p3), .val (.int p4), .val (.int cl), .val (.int ht), .val (.int kk), .val (.double hf), .second, .val (.int j), .val (.double al), .second, .val (.double be), .second, .val (.double (4607182418800017408 : UInt64)), .second, .val (.int sa), .val (.int sb), .unset, .unset, .unset, .unset, .unset, .unset, .unset, .unset] [(.double ua), (.ref b5), (.ref b5)])) t
      refine XS.iload X5.here hx rfl (hb hby at_88) rfl ?_
      show Steps p.tables e below (T5.setTop (mkF m 90 #[.val (.int p1), .val (.int p2), .val (.int p3), .val (.int p4), .val (.int cl), .val (.int ht), .val (.int kk), .val (.double hf), .second, .val (.int j), .val (.double al), .second, .val (.double be), .second, .val (.double (4607182418800017408 : UInt64)), .second, .val (.int sa), .val (.int sb), .unset, .unset, .unset, .unset, .unset, .unset, .unset, .unset] [(.int sb), (.double ua), (.ref b5), (.ref b5)])) t
      refine XS.i2dS X5.here hx rfl (hb hby at_90) rfl rfl ?_
      rw [hub]
      show Steps p.tables e below (T5.setTop (mkF m 91 #[.val (.int p1), .val (.int p2), .val (.int p3), .val (.int p4), .val (.int cl), .val (.int ht), .val (.int kk), .val (.double hf), .second, .val (.int j), .val (.double al), .second, .val (.double be), .second, .val (.double (4607182418800017408 : UInt64)), .second, .val (.int sa), .val (.int sb), .unset, .unset, .unset, .unset, .unset, .unset, .unset, .unset] [(.double ub), (.double ua), (.ref b5), (.ref b5)])) t
      refine XS.dconst1 X5.here hx rfl (hb hby at_91) rfl ?_
      show Steps p.tables e below (T5.setTop (mkF m 92 #[.val (.int p1), .val (.int p2), .val (.int p3), .val (.int p4), .val (.int cl), .val (.int ht), .val (.int kk), .val (.double hf), .second, .val (.int j), .val (.double al), .second, .val (.double be), .second, .val (.double (4607182418800017408 : UInt64)), .second, .val (.int sa), .val (.int sb), .unset, .unset, .unset, .unset, .unset, .unset, .unset, .unset] [(.double (4607182418800017408 : UInt64)), (.double ub), (.double ua), (.ref b5), (.ref b5)])) t
      show Steps p.tables e below (T5.setTop (mkF m 92 #[.val (.int p1), .val (.int p2), .val (.int p3), .val (.int p4), .val (.int cl), .val (.int ht), .val (.int kk), .val (.double hf), .second, .val (.int j), .val (.double al), .second, .val (.double be), .second, .val (.double (4607182418800017408 : UInt64)), .second, .val (.int sa), .val (.int sb), .unset, .unset, .unset, .unset, .unset, .unset, .unset, .unset] [(.double (4607182418800017408 : UInt64)), (.double ub), (.double ua), (.ref b5), (.ref b5)])) t
      exact st7.trans k)
  obtain ⟨T9, hp9, X9, e9, E9, A9, D9, -, st9⟩ := newO X7 hx hZ hown (hw _ (List.mem_of_getElem? (i := 35) rfl)) (hw _ (List.mem_of_getElem? (i := 36) rfl)) (hw _ (List.mem_of_getElem? (i := 37) rfl)) eh7 (g := (mkF m 97 #[.val (.int p1), .val (.int p2), .val (.int p3), .val (.int p4), .val (.int cl), .val (.int ht), .val (.int kk), .val (.double hf), .second, .val (.int j), .val (.double al), .second, .val (.double be), .second, .val (.double (4607182418800017408 : UInt64)), .second, .val (.int sa), .val (.int sb), .val (.ref b5), .unset, .unset, .unset, .unset, .unset, .unset, .unset] [])) rfl (hb hby at_97) (by decide) (by decide)
  obtain ⟨b9, g9⟩ : ∃ z, z = hh7.size := ⟨_, rfl⟩
  rw [← g9] at A9 D9 st9
  have ne_b5_b9 : b5 ≠ b9 := Nat.ne_of_lt (Nat.lt_of_lt_of_le fq7_0.lt (Nat.le_of_eq g9.symm))
  have g_b9 : n0 ≤ b9 := Nat.le_trans (Nat.le_trans Z0 Kp7.1) (Nat.le_of_eq g9.symm)
  have sz_b9 : h0.size ≤ b9 := Nat.le_trans Kp7.1 (Nat.le_of_eq g9.symm)
  have hk := Nat.le_trans hk E9.1
  have Kp9 := Keep.ext Kp7 E9
  have F9_66 : Fld Z hp9 b9 "com/example/isolint/isolint/predict/RateModel" "clients" "I" (.int (0 : Int32)) := D9 (Or.inr (hw _ (List.mem_of_getElem? (i := 66) rfl))) (ty := .int) (by decide)
  have F9_68 : Fld Z hp9 b9 "com/example/isolint/isolint/predict/RateModel" "hot" "I" (.int (0 : Int32)) := D9 (Or.inr (hw _ (List.mem_of_getElem? (i := 68) rfl))) (ty := .int) (by decide)
  have F9_70 : Fld Z hp9 b9 "com/example/isolint/isolint/predict/RateModel" "hotFraction" "D" (.double (0 : UInt64)) := D9 (Or.inr (hw _ (List.mem_of_getElem? (i := 70) rfl))) (ty := .double) (by decide)
  have F9_72 : Fld Z hp9 b9 "com/example/isolint/isolint/predict/RateModel" "mix" "Lcom/example/isolint/isolint/bench/Mix;" .null := D9 (Or.inr (hw _ (List.mem_of_getElem? (i := 72) rfl))) (ty := (.object "com/example/isolint/isolint/bench/Mix")) (by decide)
  have F9_74 : Fld Z hp9 b9 "com/example/isolint/isolint/predict/RateModel" "alpha" "D" (.double (0 : UInt64)) := D9 (Or.inr (hw _ (List.mem_of_getElem? (i := 74) rfl))) (ty := .double) (by decide)
  have F9_76 : Fld Z hp9 b9 "com/example/isolint/isolint/predict/RateModel" "beta" "D" (.double (0 : UInt64)) := D9 (Or.inr (hw _ (List.mem_of_getElem? (i := 76) rfl))) (ty := .double) (by decide)
  have F9_78 : Fld Z hp9 b9 "com/example/isolint/isolint/predict/RateModel" "gamma" "D" (.double (0 : UInt64)) := D9 (Or.inr (hw _ (List.mem_of_getElem? (i := 78) rfl))) (ty := .double) (by decide)
  have ch10 : ∀ t, Steps p.tables e below (T9.setTop (mkF m 100 #[.val (.int p1), .val (.int p2), .val (.int p3), .val (.int p4), .val (.int cl), .val (.int ht), .val (.int kk), .val (.double hf), .second, .val (.int j), .val (.double al), .second, .val (.double be), .second, .val (.double (4607182418800017408 : UInt64)), .second, .val (.int sa), .val (.int sb), .val (.ref b5), .unset, .unset, .unset, .unset, .unset, .unset, .unset] [(.ref b9)])) t → Steps p.tables e below (s₁.setTop (entryFrame m #[(.int p1), (.int p2), (.int p3), (.int p4)] maxLocals)) t := fun t k => ch8 t (by
      show Steps p.tables e below (T7.setTop (mkF m 95 #[.val (.int p1), .val (.int p2), .val (.int p3), .val (.int p4), .val (.int cl), .val (.int ht), .val (.int kk), .val (.double hf), .second, .val (.int j), .val (.double al), .second, .val (.double be), .second, .val (.double (4607182418800017408 : UInt64)), .second, .val (.int sa), .val (.int sb), .unset, .unset, .unset, .unset, .unset, .unset, .unset, .unset] [(.ref b5)])) t
      refine XS.astore X7.here hx rfl (hb hby at_95) rfl rfl (l' := #[.val (.int p1), .val (.int p2), .val (.int p3), .val (.int p4), .val (.int cl), .val (.int ht), .val (.int kk), .val (.double hf), .second, .val (.int j), .val (.double al), .second, .val (.double be), .second, .val (.double (4607182418800017408 : UInt64)), .second, .val (.int sa), .val (.int sb), .val (.ref b5), .unset, .unset, .unset, .unset, .unset, .unset, .unset]) rfl ?_
      show Steps p.tables e below (T7.setTop (mkF m 97 #[.val (.int p1), .val (.int p2), .val (.int p3), .val (.int p4), .val (.int cl), .val (.int ht), .val (.int kk), .val (.double hf), .second, .val (.int j), .val (.double al), .second, .val (.double be), .second, .val (.double (4607182418800017408 : UInt64)), .second, .val (.int sa), .val (.int sb), .val (.ref b5), .unset, .unset, .unset, .unset, .unset, .unset, .unset] [])) t
      exact st9 t k)
  obtain ⟨vv11, _, ⟨T11, L11, kk11, nn11⟩, -, X11, hS2, hgr, ⟨Lc11, hQ11, l11, y11, z11⟩, st11⟩ := X9.specialBackS hx (y := (⟨"com/example/isolint/isolint/predict/RateModel", "<init>", "(IIDLcom/example/isolint/isolint/bench/Mix;DDD)V"⟩ : MethodName)) rfl hown (mvT hZ (hw _ (List.mem_of_getElem? (i := 38) rfl))) (mvT hZ (hw _ (List.mem_of_getElem? (i := 39) rfl))) (mvT hZ (hw _ (List.mem_of_getElem? (i := 40) rfl))) (by decide) (backOfS (W := 1) (own_ini l Z a0 hw [] hp9 n0 (Nat.le_trans Z0 Kp9.1) b9 cl ht hf b5 al be (4607182418800017408 : UInt64) A9 F9_66 F9_68 F9_70 F9_72 F9_74 F9_76 F9_78 g_b9 k1 k2 s1 s2 s3 s4 ra rb) hZ (hw _ (List.mem_of_getElem? (i := 40) rfl)) (hw _ (List.mem_of_getElem? (i := 37) rfl)) (by decide) (by decide)) (g := (mkF m 115 #[.val (.int p1), .val (.int p2), .val (.int p3), .val (.int p4), .val (.int cl), .val (.int ht), .val (.int kk), .val (.double hf), .second, .val (.int j), .val (.double al), .second, .val (.double be), .second, .val (.double (4607182418800017408 : UInt64)), .second, .val (.int sa), .val (.int sb), .val (.ref b5), .unset, .unset, .unset, .unset, .unset, .unset, .unset] [(.double (4607182418800017408 : UInt64)), (.double be), (.double al), (.ref b5), (.double hf), (.int ht), (.int cl), (.ref b9), (.ref b9)])) rfl (by rw [hml]; rfl) (Steps.refl _) (a := b9) (argsL := [(.int cl), (.int ht), (.double hf), (.ref b5), (.double al), (.double be), (.double (4607182418800017408 : UInt64))]) (rest := [(.ref b9)]) (lenOf own_pd__IIDLcom_example_isolint_isolint_bench_Mix_DDD_V rfl) rfl (by show 2 * 0 + _ ≤ _; exact Nat.le_of_eq rfl) (hb hby at_115) (fun _ _ => ⟨rfl, e9, (by decide : 2 + 2 ≤ _), (by decide : 10 + 16 ≤ _)⟩)
  dsimp only [Pt.U, Pt.locs, Pt.cells, Pt.slots] at X11 l11 y11 z11 st11 hQ11 hS2 hgr
  subst l11 y11 z11
  obtain ⟨X11, hS, hZ, hown⟩ := rebS hS (by rw [e9]; exact hk) X11 hS2 hgr hZ hown
  obtain ⟨hh11, eh11⟩ : ∃ h, T11.heap = h := ⟨_, rfl⟩
  rw [eh11] at hQ11
  rw [eh11] at hS
  have hk : hh11.size ≤ hh11.size := Nat.le_refl _
  obtain ⟨rfl, Nq11, Kq11, fq11_0, fq11_1, fq11_2, fq11_3⟩ := hQ11
  have N11 := Fr.app N7 Nq11
  have Kp11 := Keep.trans Kp9 Kq11 (allS (Or.inr sz_b9) all0)
  have ch12 : ∀ t, Steps p.tables e below (T11.setTop (mkF m 118 #[.val (.int p1), .val (.int p2), .val (.int p3), .val (.int p4), .val (.int cl), .val (.int ht), .val (.int kk), .val (.double hf), .second, .val (.int j), .val (.double al), .second, .val (.double be), .second, .val (.double (4607182418800017408 : UInt64)), .second, .val (.int sa), .val (.int sb), .val (.ref b5), .unset, .unset, .unset, .unset, .unset, .unset, .unset] [(.ref b9)])) t → Steps p.tables e below (s₁.setTop (entryFrame m #[(.int p1), (.int p2), (.int p3), (.int p4)] maxLocals)) t := fun t k => ch10 t (by
      show Steps p.tables e below (T9.setTop (mkF m 100 #[.val (.int p1), .val (.int p2), .val (.int p3), .val (.int p4), .val (.int cl), .val (.int ht), .val (.int kk), .val (.double hf), .second, .val (.int j), .val (.double al), .second, .val (.double be), .second, .val (.double (4607182418800017408 : UInt64)), .second, .val (.int sa), .val (.int sb), .val (.ref b5), .unset, .unset, .unset, .unset, .unset, .unset, .unset] [(.ref b9)])) t
      refine XS.dup X9.here hx rfl (hb hby at_100) rfl rfl ?_
      show Steps p.tables e below (T9.setTop (mkF m 101 #[.val (.int p1), .val (.int p2), .val (.int p3), .val (.int p4), .val (.int cl), .val (.int ht), .val (.int kk), .val (.double hf), .second, .val (.int j), .val (.double al), .second, .val (.double be), .second, .val (.double (4607182418800017408 : UInt64)), .second, .val (.int sa), .val (.int sb), .val (.ref b5), .unset, .unset, .unset, .unset, .unset, .unset, .unset] [(.ref b9), (.ref b9)])) t
      refine XS.iload X9.here hx rfl (hb hby at_101) rfl ?_
      show Steps p.tables e below (T9.setTop (mkF m 103 #[.val (.int p1), .val (.int p2), .val (.int p3), .val (.int p4), .val (.int cl), .val (.int ht), .val (.int kk), .val (.double hf), .second, .val (.int j), .val (.double al), .second, .val (.double be), .second, .val (.double (4607182418800017408 : UInt64)), .second, .val (.int sa), .val (.int sb), .val (.ref b5), .unset, .unset, .unset, .unset, .unset, .unset, .unset] [(.int cl), (.ref b9), (.ref b9)])) t
      refine XS.iload X9.here hx rfl (hb hby at_103) rfl ?_
      show Steps p.tables e below (T9.setTop (mkF m 105 #[.val (.int p1), .val (.int p2), .val (.int p3), .val (.int p4), .val (.int cl), .val (.int ht), .val (.int kk), .val (.double hf), .second, .val (.int j), .val (.double al), .second, .val (.double be), .second, .val (.double (4607182418800017408 : UInt64)), .second, .val (.int sa), .val (.int sb), .val (.ref b5), .unset, .unset, .unset, .unset, .unset, .unset, .unset] [(.int ht), (.int cl), (.ref b9), (.ref b9)])) t
      refine XS.dload X9.here hx rfl (hb hby at_105) rfl ?_
      show Steps p.tables e below (T9.setTop (mkF m 107 #[.val (.int p1), .val (.int p2), .val (.int p3), .val (.int p4), .val (.int cl), .val (.int ht), .val (.int kk), .val (.double hf), .second, .val (.int j), .val (.double al), .second, .val (.double be), .second, .val (.double (4607182418800017408 : UInt64)), .second, .val (.int sa), .val (.int sb), .val (.ref b5), .unset, .unset, .unset, .unset, .unset, .unset, .unset] [(.double hf), (.int ht), (.int cl), (.ref b9), (.ref b9)])) t
      refine XS.aload X9.here hx rfl (hb hby at_107) rfl rfl ?_
      show Steps p.tables e below (T9.setTop (mkF m 109 #[.val (.int p1), .val (.int p2), .val (.int p3), .val (.int p4), .val (.int cl), .val (.int ht), .val (.int kk), .val (.double hf), .second, .val (.int j), .val (.double al), .second, .val (.double be), .second, .val (.double (4607182418800017408 : UInt64)), .second, .val (.int sa), .val (.int sb), .val (.ref b5), .unset, .unset, .unset, .unset, .unset, .unset, .unset] [(.ref b5), (.double hf), (.int ht), (.int cl), (.ref b9), (.ref b9)])) t
      refine XS.dload X9.here hx rfl (hb hby at_109) rfl ?_
      show Steps p.tables e below (T9.setTop (mkF m 111 #[.val (.int p1), .val (.int p2), .val (.int p3), .val (.int p4), .val (.int cl), .val (.int ht), .val (.int kk), .val (.double hf), .second, .val (.int j), .val (.double al), .second, .val (.double be), .second, .val (.double (4607182418800017408 : UInt64)), .second, .val (.int sa), .val (.int sb), .val (.ref b5), .unset, .unset, .unset, .unset, .unset, .unset, .unset] [(.double al), (.ref b5), (.double hf), (.int ht), (.int cl), (.ref b9), (.ref b9)])) t
      refine XS.dload X9.here hx rfl (hb hby at_111) rfl ?_
      show Steps p.tables e below (T9.setTop (mkF m 113 #[.val (.int p1), .val (.int p2), .val (.int p3), .val (.int p4), .val (.int cl), .val (.int ht), .val (.int kk), .val (.double hf), .second, .val (.int j), .val (.double al), .second, .val (.double be), .second, .val (.double (4607182418800017408 : UInt64)), .second, .val (.int sa), .val (.int sb), .val (.ref b5), .unset, .unset, .unset, .unset, .unset, .unset, .unset] [(.double be), (.double al), (.ref b5), (.double hf), (.int ht), (.int cl), (.ref b9), (.ref b9)])) t
      refine XS.dload X9.here hx rfl (hb hby at_113) rfl ?_
      show Steps p.tables e below (T9.setTop (mkF m 115 #[.val (.int p1), .val (.int p2), .val (.int p3), .val (.int p4), .val (.int cl), .val (.int ht), .val (.int kk), .val (.double hf), .second, .val (.int j), .val (.double al), .second, .val (.double be), .second, .val (.double (4607182418800017408 : UInt64)), .second, .val (.int sa), .val (.int sb), .val (.ref b5), .unset, .unset, .unset, .unset, .unset, .unset, .unset] [(.double (4607182418800017408 : UInt64)), (.double be), (.double al), (.ref b5), (.double hf), (.int ht), (.int cl), (.ref b9), (.ref b9)])) t
      exact st11.trans k)
  obtain ⟨cq13, kq13, qa13, qb13, qc13⟩ := isOf hZ eh11 fq11_0
  obtain ⟨vv14, _, ⟨T14, L14, kk14, nn14⟩, -, X14, ⟨Lc14, hQ14, l14, y14, z14⟩, st14⟩ := X11.virtualBack hx (y := (⟨"com/example/isolint/isolint/predict/RateModel", "collisionChance", "()D"⟩ : MethodName)) (z := (⟨"com/example/isolint/isolint/predict/RateModel", "collisionChance", "()D"⟩ : MethodName)) hown (mvT hZ (hw _ (List.mem_of_getElem? (i := 79) rfl))) (mvT hZ (hw _ (List.mem_of_getElem? (i := 80) rfl))) (notFace_of_selects (args := #[]) (mvT hZ (hw _ (List.mem_of_getElem? (i := 82) rfl)))) (mvT hZ (hw _ (List.mem_of_getElem? (i := 82) rfl))) (mvT hZ (hw _ (List.mem_of_getElem? (i := 81) rfl))) (by decide) (backOf (W := 0) (own_cc l Z a0 hw [] hh11 n0 (Nat.le_trans Z0 Kp11.1) b9 cl ht hf fq11_1 fq11_2 fq11_3 n1 n2 n3) hZ (hw _ (List.mem_of_getElem? (i := 83) rfl)) (hw _ (List.mem_of_getElem? (i := 37) rfl)) (by decide) (by decide)) qa13 qc13 (g := (mkF m 122 #[.val (.int p1), .val (.int p2), .val (.int p3), .val (.int p4), .val (.int cl), .val (.int ht), .val (.int kk), .val (.double hf), .second, .val (.int j), .val (.double al), .second, .val (.double be), .second, .val (.double (4607182418800017408 : UInt64)), .second, .val (.int sa), .val (.int sb), .val (.ref b5), .val (.ref b9), .unset, .unset, .unset, .unset, .unset, .unset] [(.ref b9)])) rfl (by rw [hml]; rfl) (Steps.refl _) (argsL := []) (rest := []) (lenOf own_pd___D rfl) rfl (by show 2 * 0 + _ ≤ _; exact Nat.le_of_eq rfl) (hb hby at_122) (fun _ _ => ⟨rfl, eh11, (by decide : 4 + 0 ≤ _), (by decide : 26 + 0 ≤ _)⟩)
  dsimp only [Pt.U, Pt.locs, Pt.cells, Pt.slots] at X14 l14 y14 z14 st14 hQ14
  subst l14 y14 z14
  obtain ⟨rfl, Nq14, e14⟩ := hQ14
  have N14 := Fr.app N11 Nq14
  have ch15 : ∀ t, Steps p.tables e below (T14.setTop (mkF m 125 #[.val (.int p1), .val (.int p2), .val (.int p3), .val (.int p4), .val (.int cl), .val (.int ht), .val (.int kk), .val (.double hf), .second, .val (.int j), .val (.double al), .second, .val (.double be), .second, .val (.double (4607182418800017408 : UInt64)), .second, .val (.int sa), .val (.int sb), .val (.ref b5), .val (.ref b9), .unset, .unset, .unset, .unset, .unset, .unset] [(.double (FP.ddiv (FP.dmul (FP.dmul (FP.i2d (cl - (1 : Int32))) hf) hf) (FP.i2d ht)))])) t → Steps p.tables e below (s₁.setTop (entryFrame m #[(.int p1), (.int p2), (.int p3), (.int p4)] maxLocals)) t := fun t k => ch12 t (by
      show Steps p.tables e below (T11.setTop (mkF m 118 #[.val (.int p1), .val (.int p2), .val (.int p3), .val (.int p4), .val (.int cl), .val (.int ht), .val (.int kk), .val (.double hf), .second, .val (.int j), .val (.double al), .second, .val (.double be), .second, .val (.double (4607182418800017408 : UInt64)), .second, .val (.int sa), .val (.int sb), .val (.ref b5), .unset, .unset, .unset, .unset, .unset, .unset, .unset] [(.ref b9)])) t
      refine XS.astore X11.here hx rfl (hb hby at_118) rfl rfl (l' := #[.val (.int p1), .val (.int p2), .val (.int p3), .val (.int p4), .val (.int cl), .val (.int ht), .val (.int kk), .val (.double hf), .second, .val (.int j), .val (.double al), .second, .val (.double be), .second, .val (.double (4607182418800017408 : UInt64)), .second, .val (.int sa), .val (.int sb), .val (.ref b5), .val (.ref b9), .unset, .unset, .unset, .unset, .unset, .unset]) rfl ?_
      show Steps p.tables e below (T11.setTop (mkF m 120 #[.val (.int p1), .val (.int p2), .val (.int p3), .val (.int p4), .val (.int cl), .val (.int ht), .val (.int kk), .val (.double hf), .second, .val (.int j), .val (.double al), .second, .val (.double be), .second, .val (.double (4607182418800017408 : UInt64)), .second, .val (.int sa), .val (.int sb), .val (.ref b5), .val (.ref b9), .unset, .unset, .unset, .unset, .unset, .unset] [])) t
      refine XS.aload X11.here hx rfl (hb hby at_120) rfl rfl ?_
      show Steps p.tables e below (T11.setTop (mkF m 122 #[.val (.int p1), .val (.int p2), .val (.int p3), .val (.int p4), .val (.int cl), .val (.int ht), .val (.int kk), .val (.double hf), .second, .val (.int j), .val (.double al), .second, .val (.double be), .second, .val (.double (4607182418800017408 : UInt64)), .second, .val (.int sa), .val (.int sb), .val (.ref b5), .val (.ref b9), .unset, .unset, .unset, .unset, .unset, .unset] [(.ref b9)])) t
      exact st14.trans k)
  have ch16 : ∀ t, Steps p.tables e below (T14.setTop (mkF m 168 #[.val (.int p1), .val (.int p2), .val (.int p3), .val (.int p4), .val (.int cl), .val (.int ht), .val (.int kk), .val (.double hf), .second, .val (.int j), .val (.double al), .second, .val (.double be), .second, .val (.double (4607182418800017408 : UInt64)), .second, .val (.int sa), .val (.int sb), .val (.ref b5), .val (.ref b9), .val (.double (FP.ddiv (FP.dmul (FP.dmul (FP.i2d (cl - (1 : Int32))) hf) hf) (FP.i2d ht))), .second, .val (.long pr), .second, .val (.double (FP.ddiv (FP.l2d pr) (FP.dmul (FP.i2d ht) (4697254411347427328 : UInt64)))), .second] [(.int (1 : Int32))])) t → Steps p.tables e below (s₁.setTop (entryFrame m #[(.int p1), (.int p2), (.int p3), (.int p4)] maxLocals)) t := fun t k => ch15 t (by
      show Steps p.tables e below (T14.setTop (mkF m 125 #[.val (.int p1), .val (.int p2), .val (.int p3), .val (.int p4), .val (.int cl), .val (.int ht), .val (.int kk), .val (.double hf), .second, .val (.int j), .val (.double al), .second, .val (.double be), .second, .val (.double (4607182418800017408 : UInt64)), .second, .val (.int sa), .val (.int sb), .val (.ref b5), .val (.ref b9), .unset, .unset, .unset, .unset, .unset, .unset] [(.double (FP.ddiv (FP.dmul (FP.dmul (FP.i2d (cl - (1 : Int32))) hf) hf) (FP.i2d ht)))])) t
      refine XS.dstore X14.here hx rfl (hb hby at_125) rfl (l' := #[.val (.int p1), .val (.int p2), .val (.int p3), .val (.int p4), .val (.int cl), .val (.int ht), .val (.int kk), .val (.double hf), .second, .val (.int j), .val (.double al), .second, .val (.double be), .second, .val (.double (4607182418800017408 : UInt64)), .second, .val (.int sa), .val (.int sb), .val (.ref b5), .val (.ref b9), .val (.double (FP.ddiv (FP.dmul (FP.dmul (FP.i2d (cl - (1 : Int32))) hf) hf) (FP.i2d ht))), .second, .unset, .unset, .unset, .unset]) rfl ?_
      show Steps p.tables e below (T14.setTop (mkF m 127 #[.val (.int p1), .val (.int p2), .val (.int p3), .val (.int p4), .val (.int cl), .val (.int ht), .val (.int kk), .val (.double hf), .second, .val (.int j), .val (.double al), .second, .val (.double be), .second, .val (.double (4607182418800017408 : UInt64)), .second, .val (.int sa), .val (.int sb), .val (.ref b5), .val (.ref b9), .val (.double (FP.ddiv (FP.dmul (FP.dmul (FP.i2d (cl - (1 : Int32))) hf) hf) (FP.i2d ht))), .second, .unset, .unset, .unset, .unset] [])) t
      refine XS.iload X14.here hx rfl (hb hby at_127) rfl ?_
      show Steps p.tables e below (T14.setTop (mkF m 129 #[.val (.int p1), .val (.int p2), .val (.int p3), .val (.int p4), .val (.int cl), .val (.int ht), .val (.int kk), .val (.double hf), .second, .val (.int j), .val (.double al), .second, .val (.double be), .second, .val (.double (4607182418800017408 : UInt64)), .second, .val (.int sa), .val (.int sb), .val (.ref b5), .val (.ref b9), .val (.double (FP.ddiv (FP.dmul (FP.dmul (FP.i2d (cl - (1 : Int32))) hf) hf) (FP.i2d ht))), .second, .unset, .unset, .unset, .unset] [(.int cl)])) t
      refine XS.iconst X14.here hx rfl (hb hby at_129) ?_
      show Steps p.tables e below (T14.setTop (mkF m 130 #[.val (.int p1), .val (.int p2), .val (.int p3), .val (.int p4), .val (.int cl), .val (.int ht), .val (.int kk), .val (.double hf), .second, .val (.int j), .val (.double al), .second, .val (.double be), .second, .val (.double (4607182418800017408 : UInt64)), .second, .val (.int sa), .val (.int sb), .val (.ref b5), .val (.ref b9), .val (.double (FP.ddiv (FP.dmul (FP.dmul (FP.i2d (cl - (1 : Int32))) hf) hf) (FP.i2d ht))), .second, .unset, .unset, .unset, .unset] [(.int (1 : Int32)), (.int cl)])) t
      refine XS.isub X14.here hx rfl (hb hby at_130) rfl ?_
      show Steps p.tables e below (T14.setTop (mkF m 131 #[.val (.int p1), .val (.int p2), .val (.int p3), .val (.int p4), .val (.int cl), .val (.int ht), .val (.int kk), .val (.double hf), .second, .val (.int j), .val (.double al), .second, .val (.double be), .second, .val (.double (4607182418800017408 : UInt64)), .second, .val (.int sa), .val (.int sb), .val (.ref b5), .val (.ref b9), .val (.double (FP.ddiv (FP.dmul (FP.dmul (FP.i2d (cl - (1 : Int32))) hf) hf) (FP.i2d ht))), .second, .unset, .unset, .unset, .unset] [(.int (cl - (1 : Int32)))])) t
      refine XS.i2l X14.here hx rfl (hb hby at_131) rfl ?_
      show Steps p.tables e below (T14.setTop (mkF m 132 #[.val (.int p1), .val (.int p2), .val (.int p3), .val (.int p4), .val (.int cl), .val (.int ht), .val (.int kk), .val (.double hf), .second, .val (.int j), .val (.double al), .second, .val (.double be), .second, .val (.double (4607182418800017408 : UInt64)), .second, .val (.int sa), .val (.int sb), .val (.ref b5), .val (.ref b9), .val (.double (FP.ddiv (FP.dmul (FP.dmul (FP.i2d (cl - (1 : Int32))) hf) hf) (FP.i2d ht))), .second, .unset, .unset, .unset, .unset] [(.long ((cl - (1 : Int32)).toInt64))])) t
      refine XS.iload X14.here hx rfl (hb hby at_132) rfl ?_
      show Steps p.tables e below (T14.setTop (mkF m 134 #[.val (.int p1), .val (.int p2), .val (.int p3), .val (.int p4), .val (.int cl), .val (.int ht), .val (.int kk), .val (.double hf), .second, .val (.int j), .val (.double al), .second, .val (.double be), .second, .val (.double (4607182418800017408 : UInt64)), .second, .val (.int sa), .val (.int sb), .val (.ref b5), .val (.ref b9), .val (.double (FP.ddiv (FP.dmul (FP.dmul (FP.i2d (cl - (1 : Int32))) hf) hf) (FP.i2d ht))), .second, .unset, .unset, .unset, .unset] [(.int kk), (.long ((cl - (1 : Int32)).toInt64))])) t
      refine XS.i2l X14.here hx rfl (hb hby at_134) rfl ?_
      show Steps p.tables e below (T14.setTop (mkF m 135 #[.val (.int p1), .val (.int p2), .val (.int p3), .val (.int p4), .val (.int cl), .val (.int ht), .val (.int kk), .val (.double hf), .second, .val (.int j), .val (.double al), .second, .val (.double be), .second, .val (.double (4607182418800017408 : UInt64)), .second, .val (.int sa), .val (.int sb), .val (.ref b5), .val (.ref b9), .val (.double (FP.ddiv (FP.dmul (FP.dmul (FP.i2d (cl - (1 : Int32))) hf) hf) (FP.i2d ht))), .second, .unset, .unset, .unset, .unset] [(.long (kk.toInt64)), (.long ((cl - (1 : Int32)).toInt64))])) t
      refine XS.lmul X14.here hx rfl (hb hby at_135) rfl ?_
      show Steps p.tables e below (T14.setTop (mkF m 136 #[.val (.int p1), .val (.int p2), .val (.int p3), .val (.int p4), .val (.int cl), .val (.int ht), .val (.int kk), .val (.double hf), .second, .val (.int j), .val (.double al), .second, .val (.double be), .second, .val (.double (4607182418800017408 : UInt64)), .second, .val (.int sa), .val (.int sb), .val (.ref b5), .val (.ref b9), .val (.double (FP.ddiv (FP.dmul (FP.dmul (FP.i2d (cl - (1 : Int32))) hf) hf) (FP.i2d ht))), .second, .unset, .unset, .unset, .unset] [(.long (((cl - (1 : Int32)).toInt64) * (kk.toInt64)))])) t
      refine XS.iload X14.here hx rfl (hb hby at_136) rfl ?_
      show Steps p.tables e below (T14.setTop (mkF m 138 #[.val (.int p1), .val (.int p2), .val (.int p3), .val (.int p4), .val (.int cl), .val (.int ht), .val (.int kk), .val (.double hf), .second, .val (.int j), .val (.double al), .second, .val (.double be), .second, .val (.double (4607182418800017408 : UInt64)), .second, .val (.int sa), .val (.int sb), .val (.ref b5), .val (.ref b9), .val (.double (FP.ddiv (FP.dmul (FP.dmul (FP.i2d (cl - (1 : Int32))) hf) hf) (FP.i2d ht))), .second, .unset, .unset, .unset, .unset] [(.int kk), (.long (((cl - (1 : Int32)).toInt64) * (kk.toInt64)))])) t
      refine XS.i2l X14.here hx rfl (hb hby at_138) rfl ?_
      show Steps p.tables e below (T14.setTop (mkF m 139 #[.val (.int p1), .val (.int p2), .val (.int p3), .val (.int p4), .val (.int cl), .val (.int ht), .val (.int kk), .val (.double hf), .second, .val (.int j), .val (.double al), .second, .val (.double be), .second, .val (.double (4607182418800017408 : UInt64)), .second, .val (.int sa), .val (.int sb), .val (.ref b5), .val (.ref b9), .val (.double (FP.ddiv (FP.dmul (FP.dmul (FP.i2d (cl - (1 : Int32))) hf) hf) (FP.i2d ht))), .second, .unset, .unset, .unset, .unset] [(.long (kk.toInt64)), (.long (((cl - (1 : Int32)).toInt64) * (kk.toInt64)))])) t
      refine XS.lmul X14.here hx rfl (hb hby at_139) rfl ?_
      rw [hpr]
      show Steps p.tables e below (T14.setTop (mkF m 140 #[.val (.int p1), .val (.int p2), .val (.int p3), .val (.int p4), .val (.int cl), .val (.int ht), .val (.int kk), .val (.double hf), .second, .val (.int j), .val (.double al), .second, .val (.double be), .second, .val (.double (4607182418800017408 : UInt64)), .second, .val (.int sa), .val (.int sb), .val (.ref b5), .val (.ref b9), .val (.double (FP.ddiv (FP.dmul (FP.dmul (FP.i2d (cl - (1 : Int32))) hf) hf) (FP.i2d ht))), .second, .unset, .unset, .unset, .unset] [(.long pr)])) t
      refine XS.lstore X14.here hx rfl (hb hby at_140) rfl (l' := #[.val (.int p1), .val (.int p2), .val (.int p3), .val (.int p4), .val (.int cl), .val (.int ht), .val (.int kk), .val (.double hf), .second, .val (.int j), .val (.double al), .second, .val (.double be), .second, .val (.double (4607182418800017408 : UInt64)), .second, .val (.int sa), .val (.int sb), .val (.ref b5), .val (.ref b9), .val (.double (FP.ddiv (FP.dmul (FP.dmul (FP.i2d (cl - (1 : Int32))) hf) hf) (FP.i2d ht))), .second, .val (.long pr), .second, .unset, .unset]) rfl ?_
      show Steps p.tables e below (T14.setTop (mkF m 142 #[.val (.int p1), .val (.int p2), .val (.int p3), .val (.int p4), .val (.int cl), .val (.int ht), .val (.int kk), .val (.double hf), .second, .val (.int j), .val (.double al), .second, .val (.double be), .second, .val (.double (4607182418800017408 : UInt64)), .second, .val (.int sa), .val (.int sb), .val (.ref b5), .val (.ref b9), .val (.double (FP.ddiv (FP.dmul (FP.dmul (FP.i2d (cl - (1 : Int32))) hf) hf) (FP.i2d ht))), .second, .val (.long pr), .second, .unset, .unset] [])) t
      refine XS.lload X14.here hx rfl (hb hby at_142) rfl ?_
      show Steps p.tables e below (T14.setTop (mkF m 144 #[.val (.int p1), .val (.int p2), .val (.int p3), .val (.int p4), .val (.int cl), .val (.int ht), .val (.int kk), .val (.double hf), .second, .val (.int j), .val (.double al), .second, .val (.double be), .second, .val (.double (4607182418800017408 : UInt64)), .second, .val (.int sa), .val (.int sb), .val (.ref b5), .val (.ref b9), .val (.double (FP.ddiv (FP.dmul (FP.dmul (FP.i2d (cl - (1 : Int32))) hf) hf) (FP.i2d ht))), .second, .val (.long pr), .second, .unset, .unset] [(.long pr)])) t
      refine XS.l2dS X14.here hx rfl (hb hby at_144) rfl rfl ?_
      show Steps p.tables e below (T14.setTop (mkF m 145 #[.val (.int p1), .val (.int p2), .val (.int p3), .val (.int p4), .val (.int cl), .val (.int ht), .val (.int kk), .val (.double hf), .second, .val (.int j), .val (.double al), .second, .val (.double be), .second, .val (.double (4607182418800017408 : UInt64)), .second, .val (.int sa), .val (.int sb), .val (.ref b5), .val (.ref b9), .val (.double (FP.ddiv (FP.dmul (FP.dmul (FP.i2d (cl - (1 : Int32))) hf) hf) (FP.i2d ht))), .second, .val (.long pr), .second, .unset, .unset] [(.double (FP.l2d pr))])) t
      refine XS.iload X14.here hx rfl (hb hby at_145) rfl ?_
      show Steps p.tables e below (T14.setTop (mkF m 147 #[.val (.int p1), .val (.int p2), .val (.int p3), .val (.int p4), .val (.int cl), .val (.int ht), .val (.int kk), .val (.double hf), .second, .val (.int j), .val (.double al), .second, .val (.double be), .second, .val (.double (4607182418800017408 : UInt64)), .second, .val (.int sa), .val (.int sb), .val (.ref b5), .val (.ref b9), .val (.double (FP.ddiv (FP.dmul (FP.dmul (FP.i2d (cl - (1 : Int32))) hf) hf) (FP.i2d ht))), .second, .val (.long pr), .second, .unset, .unset] [(.int ht), (.double (FP.l2d pr))])) t
      refine XS.i2dS X14.here hx rfl (hb hby at_147) rfl rfl ?_
      show Steps p.tables e below (T14.setTop (mkF m 148 #[.val (.int p1), .val (.int p2), .val (.int p3), .val (.int p4), .val (.int cl), .val (.int ht), .val (.int kk), .val (.double hf), .second, .val (.int j), .val (.double al), .second, .val (.double be), .second, .val (.double (4607182418800017408 : UInt64)), .second, .val (.int sa), .val (.int sb), .val (.ref b5), .val (.ref b9), .val (.double (FP.ddiv (FP.dmul (FP.dmul (FP.i2d (cl - (1 : Int32))) hf) hf) (FP.i2d ht))), .second, .val (.long pr), .second, .unset, .unset] [(.double (FP.i2d ht)), (.double (FP.l2d pr))])) t
      refine X14.ldc2DoubleC hx hown (mvT hZ (hw _ (List.mem_of_getElem? (i := 84) rfl))) (g := (mkF m 148 #[.val (.int p1), .val (.int p2), .val (.int p3), .val (.int p4), .val (.int cl), .val (.int ht), .val (.int kk), .val (.double hf), .second, .val (.int j), .val (.double al), .second, .val (.double be), .second, .val (.double (4607182418800017408 : UInt64)), .second, .val (.int sa), .val (.int sb), .val (.ref b5), .val (.ref b9), .val (.double (FP.ddiv (FP.dmul (FP.dmul (FP.i2d (cl - (1 : Int32))) hf) hf) (FP.i2d ht))), .second, .val (.long pr), .second, .unset, .unset] [(.double (FP.i2d ht)), (.double (FP.l2d pr))])) rfl (hb hby at_148) _ ?_
      show Steps p.tables e below (T14.setTop (mkF m 151 #[.val (.int p1), .val (.int p2), .val (.int p3), .val (.int p4), .val (.int cl), .val (.int ht), .val (.int kk), .val (.double hf), .second, .val (.int j), .val (.double al), .second, .val (.double be), .second, .val (.double (4607182418800017408 : UInt64)), .second, .val (.int sa), .val (.int sb), .val (.ref b5), .val (.ref b9), .val (.double (FP.ddiv (FP.dmul (FP.dmul (FP.i2d (cl - (1 : Int32))) hf) hf) (FP.i2d ht))), .second, .val (.long pr), .second, .unset, .unset] [(.double (4697254411347427328 : UInt64)), (.double (FP.i2d ht)), (.double (FP.l2d pr))])) t
      refine XS.dmulS X14.here hx rfl (hb hby at_151) rfl n7 rfl ?_
      show Steps p.tables e below (T14.setTop (mkF m 152 #[.val (.int p1), .val (.int p2), .val (.int p3), .val (.int p4), .val (.int cl), .val (.int ht), .val (.int kk), .val (.double hf), .second, .val (.int j), .val (.double al), .second, .val (.double be), .second, .val (.double (4607182418800017408 : UInt64)), .second, .val (.int sa), .val (.int sb), .val (.ref b5), .val (.ref b9), .val (.double (FP.ddiv (FP.dmul (FP.dmul (FP.i2d (cl - (1 : Int32))) hf) hf) (FP.i2d ht))), .second, .val (.long pr), .second, .unset, .unset] [(.double (FP.dmul (FP.i2d ht) (4697254411347427328 : UInt64))), (.double (FP.l2d pr))])) t
      refine XS.ddivS X14.here hx rfl (hb hby at_152) rfl n8 rfl ?_
      show Steps p.tables e below (T14.setTop (mkF m 153 #[.val (.int p1), .val (.int p2), .val (.int p3), .val (.int p4), .val (.int cl), .val (.int ht), .val (.int kk), .val (.double hf), .second, .val (.int j), .val (.double al), .second, .val (.double be), .second, .val (.double (4607182418800017408 : UInt64)), .second, .val (.int sa), .val (.int sb), .val (.ref b5), .val (.ref b9), .val (.double (FP.ddiv (FP.dmul (FP.dmul (FP.i2d (cl - (1 : Int32))) hf) hf) (FP.i2d ht))), .second, .val (.long pr), .second, .unset, .unset] [(.double (FP.ddiv (FP.l2d pr) (FP.dmul (FP.i2d ht) (4697254411347427328 : UInt64))))])) t
      refine XS.dstore X14.here hx rfl (hb hby at_153) rfl (l' := #[.val (.int p1), .val (.int p2), .val (.int p3), .val (.int p4), .val (.int cl), .val (.int ht), .val (.int kk), .val (.double hf), .second, .val (.int j), .val (.double al), .second, .val (.double be), .second, .val (.double (4607182418800017408 : UInt64)), .second, .val (.int sa), .val (.int sb), .val (.ref b5), .val (.ref b9), .val (.double (FP.ddiv (FP.dmul (FP.dmul (FP.i2d (cl - (1 : Int32))) hf) hf) (FP.i2d ht))), .second, .val (.long pr), .second, .val (.double (FP.ddiv (FP.l2d pr) (FP.dmul (FP.i2d ht) (4697254411347427328 : UInt64)))), .second]) rfl ?_
      show Steps p.tables e below (T14.setTop (mkF m 155 #[.val (.int p1), .val (.int p2), .val (.int p3), .val (.int p4), .val (.int cl), .val (.int ht), .val (.int kk), .val (.double hf), .second, .val (.int j), .val (.double al), .second, .val (.double be), .second, .val (.double (4607182418800017408 : UInt64)), .second, .val (.int sa), .val (.int sb), .val (.ref b5), .val (.ref b9), .val (.double (FP.ddiv (FP.dmul (FP.dmul (FP.i2d (cl - (1 : Int32))) hf) hf) (FP.i2d ht))), .second, .val (.long pr), .second, .val (.double (FP.ddiv (FP.l2d pr) (FP.dmul (FP.i2d ht) (4697254411347427328 : UInt64)))), .second] [])) t
      refine XS.dload X14.here hx rfl (hb hby at_155) rfl ?_
      show Steps p.tables e below (T14.setTop (mkF m 157 #[.val (.int p1), .val (.int p2), .val (.int p3), .val (.int p4), .val (.int cl), .val (.int ht), .val (.int kk), .val (.double hf), .second, .val (.int j), .val (.double al), .second, .val (.double be), .second, .val (.double (4607182418800017408 : UInt64)), .second, .val (.int sa), .val (.int sb), .val (.ref b5), .val (.ref b9), .val (.double (FP.ddiv (FP.dmul (FP.dmul (FP.i2d (cl - (1 : Int32))) hf) hf) (FP.i2d ht))), .second, .val (.long pr), .second, .val (.double (FP.ddiv (FP.l2d pr) (FP.dmul (FP.i2d ht) (4697254411347427328 : UInt64)))), .second] [(.double (FP.ddiv (FP.dmul (FP.dmul (FP.i2d (cl - (1 : Int32))) hf) hf) (FP.i2d ht)))])) t
      refine XS.dload X14.here hx rfl (hb hby at_157) rfl ?_
      show Steps p.tables e below (T14.setTop (mkF m 159 #[.val (.int p1), .val (.int p2), .val (.int p3), .val (.int p4), .val (.int cl), .val (.int ht), .val (.int kk), .val (.double hf), .second, .val (.int j), .val (.double al), .second, .val (.double be), .second, .val (.double (4607182418800017408 : UInt64)), .second, .val (.int sa), .val (.int sb), .val (.ref b5), .val (.ref b9), .val (.double (FP.ddiv (FP.dmul (FP.dmul (FP.i2d (cl - (1 : Int32))) hf) hf) (FP.i2d ht))), .second, .val (.long pr), .second, .val (.double (FP.ddiv (FP.l2d pr) (FP.dmul (FP.i2d ht) (4697254411347427328 : UInt64)))), .second] [(.double (FP.ddiv (FP.l2d pr) (FP.dmul (FP.i2d ht) (4697254411347427328 : UInt64)))), (.double (FP.ddiv (FP.dmul (FP.dmul (FP.i2d (cl - (1 : Int32))) hf) hf) (FP.i2d ht)))])) t
      refine XS.dcmpS X14.here hx rfl (hb hby at_159) rfl rfl ?_
      show Steps p.tables e below (T14.setTop (mkF m 160 #[.val (.int p1), .val (.int p2), .val (.int p3), .val (.int p4), .val (.int cl), .val (.int ht), .val (.int kk), .val (.double hf), .second, .val (.int j), .val (.double al), .second, .val (.double be), .second, .val (.double (4607182418800017408 : UInt64)), .second, .val (.int sa), .val (.int sb), .val (.ref b5), .val (.ref b9), .val (.double (FP.ddiv (FP.dmul (FP.dmul (FP.i2d (cl - (1 : Int32))) hf) hf) (FP.i2d ht))), .second, .val (.long pr), .second, .val (.double (FP.ddiv (FP.l2d pr) (FP.dmul (FP.i2d ht) (4697254411347427328 : UInt64)))), .second] [(.int (cmpValue (FP.dcmp (FP.ddiv (FP.dmul (FP.dmul (FP.i2d (cl - (1 : Int32))) hf) hf) (FP.i2d ht)) (FP.ddiv (FP.l2d pr) (FP.dmul (FP.i2d ht) (4697254411347427328 : UInt64)))) .l))])) t
      refine XS.ifNo X14.here hx rfl (hb hby at_160) rfl ((if0 _ _).trans (teq he).2) ?_
      show Steps p.tables e below (T14.setTop (mkF m 163 #[.val (.int p1), .val (.int p2), .val (.int p3), .val (.int p4), .val (.int cl), .val (.int ht), .val (.int kk), .val (.double hf), .second, .val (.int j), .val (.double al), .second, .val (.double be), .second, .val (.double (4607182418800017408 : UInt64)), .second, .val (.int sa), .val (.int sb), .val (.ref b5), .val (.ref b9), .val (.double (FP.ddiv (FP.dmul (FP.dmul (FP.i2d (cl - (1 : Int32))) hf) hf) (FP.i2d ht))), .second, .val (.long pr), .second, .val (.double (FP.ddiv (FP.l2d pr) (FP.dmul (FP.i2d ht) (4697254411347427328 : UInt64)))), .second] [])) t
      refine XS.iconst X14.here hx rfl (hb hby at_163) ?_
      show Steps p.tables e below (T14.setTop (mkF m 164 #[.val (.int p1), .val (.int p2), .val (.int p3), .val (.int p4), .val (.int cl), .val (.int ht), .val (.int kk), .val (.double hf), .second, .val (.int j), .val (.double al), .second, .val (.double be), .second, .val (.double (4607182418800017408 : UInt64)), .second, .val (.int sa), .val (.int sb), .val (.ref b5), .val (.ref b9), .val (.double (FP.ddiv (FP.dmul (FP.dmul (FP.i2d (cl - (1 : Int32))) hf) hf) (FP.i2d ht))), .second, .val (.long pr), .second, .val (.double (FP.ddiv (FP.l2d pr) (FP.dmul (FP.i2d ht) (4697254411347427328 : UInt64)))), .second] [(.int (1 : Int32))])) t
      refine XS.goto X14.here hx rfl (pc0 := 164) (pc' := 168) rfl (hb hby at_164) (by decide) (by decide) ?_
      exact k)
  obtain ⟨fs, hr, hrun, hended, hend⟩ := X14.leaveW hS (by rw [e14]; exact hk) (v := some (.int (1 : Int32))) (fun h => by rw [Bd.returns] at h; cases h)
  refine ⟨_, _, ch16 _ ?_, hrun, hended, _, _, rfl, ?_, hend.1, hend.2.1, hend.2.2.1, hend.2.2.2.mono (by decide) (by decide)⟩
  · show Steps p.tables e below (T14.setTop (mkF m 168 #[.val (.int p1), .val (.int p2), .val (.int p3), .val (.int p4), .val (.int cl), .val (.int ht), .val (.int kk), .val (.double hf), .second, .val (.int j), .val (.double al), .second, .val (.double be), .second, .val (.double (4607182418800017408 : UInt64)), .second, .val (.int sa), .val (.int sb), .val (.ref b5), .val (.ref b9), .val (.double (FP.ddiv (FP.dmul (FP.dmul (FP.i2d (cl - (1 : Int32))) hf) hf) (FP.i2d ht))), .second, .val (.long pr), .second, .val (.double (FP.ddiv (FP.l2d pr) (FP.dmul (FP.i2d ht) (4697254411347427328 : UInt64)))), .second] [(.int (1 : Int32))])) _
    exact retN X14 hx (t := .boolean) Bd.returns (by simp) (hb hby at_168) hr
  · show QN (some (.int (1 : Int32))) n0 _ T14.heap _
    rw [e14]
    exact ⟨rfl, N14⟩
theorem own_mixok (a b : Int32) (ha : a = 0 ∨ a = 1 ∨ a = 2 ∨ a = 3) (hb : b = 0 ∨ b = 1 ∨ b = 2 ∨ b = 3) : MixOK (FP.i2d a) (FP.i2d b) (4607182418800017408 : UInt64) := by
  unfold MixOK NoNaN64
  rcases ha with rfl | rfl | rfl | rfl <;> rcases hb with rfl | rfl | rfl | rfl <;> decide +kernel
def AlOK (al be : UInt64) : Prop := NoNaN64 al ∧ NoNaN64 be ∧ ShOK al ∧ ShOK be ∧ RaOK al be ∧ RbOK be (4607182418800017408 : UInt64)
theorem own_alok (j : Int32) (hj : j = 0 ∨ j = 1 ∨ j = 2 ∨ j = 3 ∨ j = 4) : AlOK (FP.ddiv (FP.i2d j) (4616189618054758400 : UInt64)) (FP.dsub (4607182418800017408 : UInt64) (FP.ddiv (FP.i2d j) (4616189618054758400 : UInt64))) := by
  unfold AlOK ShOK RaOK RbOK NoNaN64
  rcases hj with rfl | rfl | rfl | rfl | rfl <;> decide +kernel
theorem own_gaok : ShOK (4607182418800017408 : UInt64) := by unfold ShOK; decide +kernel
set_option maxRecDepth 65536 in
set_option maxHeartbeats 40000000 in
theorem comes_1 {Post : Tables → Env → Array Value → State → Outcome → State → Prop} (hpost : ∀ tb e args s v u, (limb_1_1.after args s (.returned v) u = true ∧ limb_1_2.after args s (.returned v) u = true ∧ True) → ReturnedEndW s (.returned v) u (Jvm.fieldLocs frame_1_writes args s ++ Jvm.arrayLocs frame_1_arrays args s ++ Jvm.staticLocs frame_1_statics s) 16 1152 → Post tb e args s (.returned v) u) :
    ArmFor flags0 classFile x code maxLocals ret World_1 tables_1 room_1 Calls_1 rest_1 Pre_1 Post := by
  intro l hfl _ _ p e ha hc hk s m args below hf hA hF happ hP
  obtain ⟨hcalls, hrest, hpre⟩ := hP
  obtain ⟨-, -, -, hnamed, -, -, -, hat⟩ := (Spec.applies_iff hf).mp happ
  obtain ⟨hg, hn⟩ := and_e (Cond.before_iff.mp (show (Jvm.Cond.and given_1 narrow_1).before args s = true from hpre))
  obtain ⟨gc, hg⟩ := and_e hg
  obtain ⟨w0, w1, w2, w3, rfl⟩ : ∃ w0 w1 w2 w3 : Value, args = #[w0, w1, w2, w3] := by
    have hs : args.size = 4 := by simpa [Cond.value, given_1] using gc
    obtain ⟨L⟩ := args
    match L, hs with
    | [w0, w1, w2, w3], _ => exact ⟨w0, w1, w2, w3, rfl⟩
  have hw := fun d (hd : d ∈ tables_1) => atoms_spec (ws := Jvm.Cond.code x code maxLocals ret :: tables_1) hat d (List.mem_cons_of_mem _ hd)
  have hfit : Fit s := fun {y c} hc i hi => by
    obtain ⟨ha, rfl⟩ := Array.getElem?_eq_some_iff.mp hc
    have q := List.all_eq_true.mp ((Array.all_eq_true_iff_forall_mem.mp hF) _ (Array.getElem_mem ha)) i (List.mem_range.mpr hi)
    simpa [Array.getElem?_eq_getElem hi] using q
  obtain ⟨ga0, hg⟩ := and_e hg
  obtain ⟨i0, ei0⟩ := is_v ga0
  obtain rfl : w0 = (.int i0) := Option.some.inj ei0
  obtain ⟨ga1, hg⟩ := and_e hg
  obtain ⟨i1, ei1⟩ := is_v ga1
  obtain rfl : w1 = (.int i1) := Option.some.inj ei1
  obtain ⟨ga2, hg⟩ := and_e hg
  obtain ⟨i2, ei2⟩ := is_v ga2
  obtain rfl : w2 = (.int i2) := Option.some.inj ei2
  obtain ⟨i3, ei3⟩ := is_v hg
  obtain rfl : w3 = (.int i3) := Option.some.inj ei3
  have hm_i0 := c_mask i0 (2147483647 : Int32) 31 (by decide) (by decide)
  obtain ⟨cl, pcl, Hcl⟩ : ∃ w : Int32, (0 : Int32) < w ∧ MetFree l (⟨"java/lang/Math", "max", "(II)I"⟩ : MethodName) (head1 (Jvm.Cond.code (⟨"java/lang/Math", "max", "(II)I"⟩ : MethodName) jdk_29_method_65_code 2 (some .int) :: []) ({ frames := 0, cells := 0, slots := 0, locals := 0 } : Room)) (fun a U => a = #[(.int (1 : Int32)), (.int (i0 &&& (2147483647 : Int32)))] ∧ s.Warmed39 U.vm ∧ U.heap = s.heap) (fun _ _ _ _ _ => True) (fun _ U o U' => ∃ v L, o = .returned v ∧ QV (some (.int w)) s.heap s.heap.size v U'.heap L ∧ FrameEnd U o U' L ({ frames := 0, cells := 0, slots := 0, locals := 0 } : Room).cells ({ frames := 0, cells := 0, slots := 0, locals := 0 } : Room).slots) := by
    by_cases q : (1 : Int32) < (i0 &&& (2147483647 : Int32))
    · exact ⟨_, by rw [Int32.lt_iff_toInt_lt] at q ⊢; simp at q ⊢; omega, own_max_t l s _ hw [] s.heap s.heap.size (Nat.le_refl _) _ _ q⟩
    · exact ⟨_, by decide, own_max_f l s _ hw [] s.heap s.heap.size (Nat.le_refl _) _ _ q⟩
  have hm_i1 := c_mask i1 (2147483647 : Int32) 31 (by decide) (by decide)
  obtain ⟨ht, pht, Hht⟩ : ∃ w : Int32, (0 : Int32) < w ∧ MetFree l (⟨"java/lang/Math", "max", "(II)I"⟩ : MethodName) (head1 (Jvm.Cond.code (⟨"java/lang/Math", "max", "(II)I"⟩ : MethodName) jdk_29_method_65_code 2 (some .int) :: []) ({ frames := 0, cells := 0, slots := 0, locals := 0 } : Room)) (fun a U => a = #[(.int (1 : Int32)), (.int (i1 &&& (2147483647 : Int32)))] ∧ s.Warmed39 U.vm ∧ U.heap = s.heap) (fun _ _ _ _ _ => True) (fun _ U o U' => ∃ v L, o = .returned v ∧ QV (some (.int w)) s.heap s.heap.size v U'.heap L ∧ FrameEnd U o U' L ({ frames := 0, cells := 0, slots := 0, locals := 0 } : Room).cells ({ frames := 0, cells := 0, slots := 0, locals := 0 } : Room).slots) := by
    by_cases q : (1 : Int32) < (i1 &&& (2147483647 : Int32))
    · exact ⟨_, by rw [Int32.lt_iff_toInt_lt] at q ⊢; simp at q ⊢; omega, own_max_t l s _ hw [] s.heap s.heap.size (Nat.le_refl _) _ _ q⟩
    · exact ⟨_, by decide, own_max_f l s _ hw [] s.heap s.heap.size (Nat.le_refl _) _ _ q⟩
  rw [Int32.lt_iff_toInt_lt, show (0 : Int32).toInt = 0 from rfl] at pcl pht
  have bk := c_mask i2 (2147483647 : Int32) 31 (by decide) (by decide)
  have bj := c_mask i3 (2147483647 : Int32) 31 (by decide) (by decide)
  have rk := (c_irem (i2 &&& (2147483647 : Int32)) (1025 : Int32) 1025 (by decide)).1 (by omega)
  have rj := (c_irem (i3 &&& (2147483647 : Int32)) (5 : Int32) 5 (by decide)).1 (by omega)
  obtain ⟨kk, hKk⟩ : ∃ z : Int32, ((i2 &&& (2147483647 : Int32)) % (1025 : Int32)) = z := ⟨_, rfl⟩
  obtain ⟨j, hj⟩ : ∃ z : Int32, ((i3 &&& (2147483647 : Int32)) % (5 : Int32)) = z := ⟨_, rfl⟩
  rw [hKk] at rk
  rw [hj] at rj
  have ma := c_mask ((i3.toUInt32 >>> ((8 : Int32) &&& 31).toUInt32).toInt32) (3 : Int32) 2 (by decide) (by decide)
  have mb := c_mask ((i3.toUInt32 >>> ((10 : Int32) &&& 31).toUInt32).toInt32) (3 : Int32) 2 (by decide) (by decide)
  obtain ⟨sa, hsa⟩ : ∃ z : Int32, (((i3.toUInt32 >>> ((8 : Int32) &&& 31).toUInt32).toInt32) &&& (3 : Int32)) = z := ⟨_, rfl⟩
  obtain ⟨sb, hsb⟩ : ∃ z : Int32, (((i3.toUInt32 >>> ((10 : Int32) &&& 31).toUInt32).toInt32) &&& (3 : Int32)) = z := ⟨_, rfl⟩
  rw [hsa] at ma
  rw [hsb] at mb
  have o4 : ∀ z : Int32, (z.toInt = 0 ∨ z.toInt = 1 ∨ z.toInt = 2 ∨ z.toInt = 3) → (z = 0 ∨ z = 1 ∨ z = 2 ∨ z = 3) := fun z h => h.elim (fun h => .inl (Int32.toInt_inj.mp (h.trans (by decide)))) fun h => h.elim (fun h => .inr (.inl (Int32.toInt_inj.mp (h.trans (by decide))))) fun h => h.elim (fun h => .inr (.inr (.inl (Int32.toInt_inj.mp (h.trans (by decide)))))) fun h => .inr (.inr (.inr (Int32.toInt_inj.mp (h.trans (by decide)))))
  have mok := own_mixok sa sb (o4 sa (by omega)) (o4 sb (by omega))
  have o5 : j = 0 ∨ j = 1 ∨ j = 2 ∨ j = 3 ∨ j = 4 := by
    have h : j.toInt = 0 ∨ j.toInt = 1 ∨ j.toInt = 2 ∨ j.toInt = 3 ∨ j.toInt = 4 := by omega
    exact h.elim (fun h => .inl (Int32.toInt_inj.mp (h.trans (by decide)))) fun h => h.elim (fun h => .inr (.inl (Int32.toInt_inj.mp (h.trans (by decide))))) fun h => h.elim (fun h => .inr (.inr (.inl (Int32.toInt_inj.mp (h.trans (by decide)))))) fun h => h.elim (fun h => .inr (.inr (.inr (.inl (Int32.toInt_inj.mp (h.trans (by decide))))))) fun h => .inr (.inr (.inr (.inr (Int32.toInt_inj.mp (h.trans (by decide))))))
  obtain ⟨n5, n6, s2, s3, ra, rb⟩ := own_alok j o5
  have ck := c_isub cl (1 : Int32)
  rw [show (1 : Int32).toInt = 1 from rfl] at ck
  have l1 := (cl - (1 : Int32)).le_toInt
  have l2 := (cl - (1 : Int32)).toInt_lt
  have l3 := cl.toInt_lt
  have e1 : (cl - (1 : Int32)).toInt = cl.toInt - 1 := by omega
  obtain ⟨pr, hpr⟩ : ∃ z : Int64, ((((cl - (1 : Int32)).toInt64) * (kk.toInt64)) * (kk.toInt64)) = z := ⟨_, rfl⟩
  have hp : pr.toInt = (cl - (1 : Int32)).toInt * kk.toInt * kk.toInt := by
    have q1 : 0 ≤ (cl - (1 : Int32)).toInt * kk.toInt ∧ (cl - (1 : Int32)).toInt * kk.toInt ≤ 2147483648 * 1024 := ⟨Int.mul_nonneg (by omega) (by omega), Int.mul_le_mul (by omega) (by omega) (by omega) (by omega)⟩
    have q2 : 0 ≤ (cl - (1 : Int32)).toInt * kk.toInt * kk.toInt ∧ (cl - (1 : Int32)).toInt * kk.toInt * kk.toInt ≤ 2147483648 * 1024 * 1024 := ⟨Int.mul_nonneg q1.1 (by omega), Int.mul_le_mul q1.2 (by omega) (by omega) (by omega)⟩
    have a1 := c_lmul ((cl - (1 : Int32)).toInt64) (kk.toInt64)
    have a2 := c_lmul (((cl - (1 : Int32)).toInt64) * (kk.toInt64)) (kk.toInt64)
    rw [c_i2l, c_i2l] at a1
    rw [c_i2l] at a2
    have g1 := (((cl - (1 : Int32)).toInt64) * (kk.toInt64)).le_toInt
    have g2 := (((cl - (1 : Int32)).toInt64) * (kk.toInt64)).toInt_lt
    have e2 : (((cl - (1 : Int32)).toInt64) * (kk.toInt64)).toInt = (cl - (1 : Int32)).toInt * kk.toInt := by omega
    rw [hpr, e2] at a2
    have g3 := pr.le_toInt
    have g4 := pr.toInt_lt
    omega
  obtain ⟨x1, x2, x3, x4, x5, x6, x7⟩ := Own.own_same (c1 := cl - (1 : Int32)) (k := kk) (ht := ht) (pr := pr) (by omega) (by omega) (by omega) (by omega) hp
  have xh := Own.own_hf (k := kk) (by omega)
  have H : MetFree l x (head1 (Jvm.Cond.code x code maxLocals ret :: tables_1) room_1) (fun a U => a = #[(.int i0), (.int i1), (.int i2), (.int i3)] ∧ s.Warmed39 U.vm ∧ U.heap = s.heap) (fun _ _ _ _ _ => True) (fun _ U o U' => ∃ v L, o = .returned v ∧ QN (some (.int (1 : Int32))) s.heap.size v U'.heap L ∧ ReturnedEndW U o U' L room_1.cells room_1.slots) := own_law l s _ hw tables_1 s.heap s.heap.size (Nat.le_refl _)  i0 i1 i2 i3 cl ht kk j sa sb _ _ _ _ _ pr Hcl Hht hKk hj rfl rfl rfl hsa hsb rfl rfl mok (fun q => by rw [Int32.lt_iff_toInt_lt, show (1 : Int32).toInt = 1 from rfl] at q; omega) (fun q => by rw [Int32.lt_iff_toInt_lt, show (1 : Int32).toInt = 1 from rfl] at q; omega) ⟨Own.own_ge0 xh, Own.own_le1 xh (by omega)⟩ s2 s3 own_gaok ra rb hpr (Own.own_nn (Own.own_ne x1)) (Own.own_nn (Own.own_ne x2)) (Own.own_nn x3) (Own.own_nn (Own.own_ne xh)) n5 n6 (Own.own_nn (Own.own_ne x5)) (Own.own_nn x6) (dcmpV_eq x7 (Own.own_nn x3) .l)
  obtain ⟨n, o, h1, h2, h3, _, L, rfl, ⟨rfl, N⟩, hq⟩ := H p e ha hc hk s m _ below hf ((Spec.applies_iff_loose hf).mp happ).1 ⟨rfl, State.Warmed39.refl s, rfl⟩ trivial
  refine ⟨n, _, h1, h2, h3, hpost _ _ _ _ _ _ ⟨Cond.after_iff.mpr rfl, Cond.after_iff.mpr (eq_i res_at (Term.int_eval (1)) rfl), trivial⟩ ⟨hq.1, hq.2.1, hq.2.2.1, (hq.2.2.2.sift fun y hy => Or.inr (N y hy)).mono (by decide) (by decide)⟩⟩
theorem main_1_1 : Claimed_1_1 := comes_1 fun _ _ _ _ _ _ h hF => ⟨h.1, hF⟩
theorem main_1_2 : Claimed_1_2 := comes_1 fun _ _ _ _ _ _ h hF => ⟨h.2.1, hF⟩
end Jvm.Pilot.@@N@@
namespace Jvm.Pilot.@@N@@
open Jvm Jvm.ClassFile Sem Op Lib Jvm.Free Jvm.Stand Jvm.Pilot.@@N@@.Jvm.D
/-! MADE BY PROGRAM (witnessworld.py) out of the Statement's table words and the real class files: 20 classes; the members and pool entries that the words name. The judged class is class 1, her method 1. -/
namespace start1
open Jvm.ClassFile
def u (s : String) : CpInfo := .utf8 (stringToUtf16 s)
/-- a pool by its gaps: so many unusable entries, then the entry; so many at the end -/
def gap : Nat → List CpInfo → List CpInfo
  | 0, r => r
  | n + 1, r => .unusable :: gap n r
def poolList (es : List (Nat × CpInfo)) (last : Nat) : List CpInfo := es.foldr (fun e r => gap e.1 (e.2 :: r)) (gap last [])
def pool (es : List (Nat × CpInfo)) (last : Nat) : Array CpInfo := ⟨poolList es last⟩
def fileOf (pool : Array CpInfo) (this : Nat) (attrs : Array Attribute := #[]) (ms : Array MethodInfo := #[]) (fl : Nat := 33) (sup : Nat := 0) (ifs : Array Nat := #[]) (fds : Array FieldInfo := #[]) : ClassFile where
  minorVersion := 0
  majorVersion := 65
  constantPool := pool
  accessFlags := fl
  thisClass := this
  superClass := sup
  interfaces := ifs
  fields := fds
  methods := ms
  attributes := attrs
def plain (name : String) (sup : Option ClassId) : Class where
  name := name
  kind := .ordinary
  loader := none
  accessFlags := 33
  super := sup
  interfaces := #[]
  cf := none
  fields := #[]
  methods := #[]
  instanceTypes := #[]
  staticTypes := #[]
  resolved := #[]
  callSites := []
  init := .initialized
  statics := none
  mirror := none

def pool0 : Array CpInfo := pool [(5, u "<init>"), (0, u "()V"), (1, .class_ 10), (1, u "java/lang/Object")] 113

def k0c0 : Code := { maxStack := 0, maxLocals := 1, code := object_method_1_code, exceptionTable := #[], attributes := #[] }
def k0m0 : Method := { name := "<init>", desc := "()V", sig := { parameters := [], returnType := none }, accessFlags := 1, code := some k0c0 }
/-- java/lang/Object -/
def k0 : Class := { plain "java/lang/Object" none with
  accessFlags := 33
  interfaces := #[]
  cf := some (fileOf pool0 8 #[] #[{ accessFlags := 1, nameIndex := 5, descriptorIndex := 6, attributes := #[] }] 33 0 #[] #[])
  fields := #[]
  methods := #[k0m0]
  instanceTypes := #[]
  staticTypes := #[]
  resolved := Array.replicate 124 none
  statics := none }

def pool1 : Array CpInfo := pool [(2, .class_ 4), (1, u "java/lang/Object"), (0, u "<init>"), (0, u "()V"), (0, .integer 2147483647), (0, .methodref 9 10), (0, .class_ 11), (0, .nameAndType 12 13), (0, u "java/lang/Math"), (0, u "max"), (0, u "(II)I"), (0, .double 4652218415073722368), (1, .double 4616189618054758400), (1, .class_ 19), (0, u "com/example/isolint/isolint/bench/Mix"), (0, .methodref 18 21), (0, .nameAndType 5 22), (0, u "(DDD)V"), (0, .class_ 24), (0, u "com/example/isolint/isolint/predict/RateModel"), (0, .methodref 23 26), (0, .nameAndType 5 27), (0, u "(IIDLcom/example/isolint/isolint/bench/Mix;DDD)V"), (0, .methodref 23 29), (0, .nameAndType 30 31), (0, u "collisionChance"), (0, u "()D"), (0, .double 4697254411347427328), (1, .class_ 35), (0, u "com/example/isolint/isolint/predict/RateModelCollisionChancePinLaw"), (2, u "law"), (0, u "(IIII)Z")] 3

def k1m0 : Method := { name := "<init>", desc := "()V", sig := { parameters := [], returnType := none }, accessFlags := 1, code := none }
def k1c1 : Code := { maxStack := 13, maxLocals := 26, code := code, exceptionTable := #[], attributes := #[] }
def k1m1 : Method := { name := "law", desc := "(IIII)Z", sig := { parameters := [.int, .int, .int, .int], returnType := some .boolean }, accessFlags := 9, code := some k1c1 }
/-- com/example/isolint/isolint/predict/RateModelCollisionChancePinLaw -/
def k1 : Class := { plain "com/example/isolint/isolint/predict/RateModelCollisionChancePinLaw" (some 0) with
  accessFlags := 49
  interfaces := #[]
  cf := some (fileOf pool1 34 #[] #[{ accessFlags := 1, nameIndex := 5, descriptorIndex := 6, attributes := #[] }, { accessFlags := 9, nameIndex := 38, descriptorIndex := 39, attributes := #[] }] 49 2 #[] #[])
  fields := #[]
  methods := #[k1m0, k1m1]
  instanceTypes := #[]
  staticTypes := #[]
  resolved := Array.replicate 43 none
  statics := none }

def pool2 : Array CpInfo := pool [(1, .class_ 2), (0, u "java/lang/Math"), (1, .class_ 6), (1, u "java/lang/Object"), (0, u "<init>"), (0, u "()V"), (5, u "(D)D"), (83, .class_ 100), (1, u "java/lang/Math$RandomNumberGeneratorHolder"), (23, u "abs"), (47, u "negativeZeroFloatBits"), (0, u "J"), (2, u "negativeZeroDoubleBits"), (21, u "max"), (46, u "$assertionsDisabled"), (0, u "Z"), (88, u "(II)I"), (2, u "twoToTheDoubleScaleDown"), (0, u "D"), (4, u "twoToTheDoubleScaleUp"), (9, u "E"), (3, u "PI"), (2, u "TAU"), (2, u "DEGREES_TO_RADIANS"), (0, u "RADIANS_TO_DEGREES")] 94

def k2m0 : Method := { name := "<init>", desc := "()V", sig := { parameters := [], returnType := none }, accessFlags := 2, code := none }
def k2c1 : Code := { maxStack := 4, maxLocals := 2, code := jdk_29_method_64_code, exceptionTable := #[], attributes := #[] }
def k2m1 : Method := { name := "abs", desc := "(D)D", sig := { parameters := [.double], returnType := some .double }, accessFlags := 9, code := some k2c1 }
def k2c2 : Code := { maxStack := 2, maxLocals := 2, code := jdk_29_method_65_code, exceptionTable := #[], attributes := #[] }
def k2m2 : Method := { name := "max", desc := "(II)I", sig := { parameters := [.int, .int], returnType := some .int }, accessFlags := 9, code := some k2c2 }
/-- java/lang/Math -/
def k2 : Class := { plain "java/lang/Math" (some 0) with
  accessFlags := 49
  interfaces := #[]
  cf := some (fileOf pool2 1 #[.nestMembers #[98]] #[{ accessFlags := 2, nameIndex := 7, descriptorIndex := 8, attributes := #[] }, { accessFlags := 9, nameIndex := 124, descriptorIndex := 14, attributes := #[] }, { accessFlags := 9, nameIndex := 198, descriptorIndex := 335, attributes := #[] }] 49 4 #[] #[{ accessFlags := 25, nameIndex := 354, descriptorIndex := 339, attributes := #[] }, { accessFlags := 25, nameIndex := 358, descriptorIndex := 339, attributes := #[] }, { accessFlags := 25, nameIndex := 361, descriptorIndex := 339, attributes := #[] }, { accessFlags := 26, nameIndex := 364, descriptorIndex := 339, attributes := #[] }, { accessFlags := 26, nameIndex := 365, descriptorIndex := 339, attributes := #[] }, { accessFlags := 26, nameIndex := 172, descriptorIndex := 173, attributes := #[] }, { accessFlags := 26, nameIndex := 176, descriptorIndex := 173, attributes := #[] }, { accessFlags := 8, nameIndex := 344, descriptorIndex := 339, attributes := #[] }, { accessFlags := 8, nameIndex := 338, descriptorIndex := 339, attributes := #[] }, { accessFlags := 4120, nameIndex := 245, descriptorIndex := 246, attributes := #[] }])
  fields := #[{ name := "E", type := .double, accessFlags := 25, slot := 0, constantValue := 0 }, { name := "PI", type := .double, accessFlags := 25, slot := 1, constantValue := 0 }, { name := "TAU", type := .double, accessFlags := 25, slot := 2, constantValue := 0 }, { name := "DEGREES_TO_RADIANS", type := .double, accessFlags := 26, slot := 3, constantValue := 0 }, { name := "RADIANS_TO_DEGREES", type := .double, accessFlags := 26, slot := 4, constantValue := 0 }, { name := "negativeZeroFloatBits", type := .long, accessFlags := 26, slot := 5, constantValue := 0 }, { name := "negativeZeroDoubleBits", type := .long, accessFlags := 26, slot := 6, constantValue := 0 }, { name := "twoToTheDoubleScaleUp", type := .double, accessFlags := 8, slot := 7, constantValue := 0 }, { name := "twoToTheDoubleScaleDown", type := .double, accessFlags := 8, slot := 8, constantValue := 0 }, { name := "$assertionsDisabled", type := .boolean, accessFlags := 4120, slot := 9, constantValue := 0 }]
  methods := #[k2m0, k2m1, k2m2]
  instanceTypes := #[]
  staticTypes := #[.double, .double, .double, .double, .double, .long, .long, .double, .double, .boolean]
  resolved := Array.replicate 460 none
  statics := none }

def pool3 : Array CpInfo := pool [(1, .methodref 2 3), (0, .class_ 4), (0, .nameAndType 5 6), (0, u "java/lang/Object"), (0, u "<init>"), (0, u "()V"), (0, .class_ 8), (0, u "java/lang/Record")] 13

def k3c0 : Code := { maxStack := 1, maxLocals := 1, code := jdk_30_method_1_code, exceptionTable := #[], attributes := #[] }
def k3m0 : Method := { name := "<init>", desc := "()V", sig := { parameters := [], returnType := none }, accessFlags := 4, code := some k3c0 }
/-- java/lang/Record -/
def k3 : Class := { plain "java/lang/Record" (some 0) with
  accessFlags := 1057
  interfaces := #[]
  cf := some (fileOf pool3 7 #[] #[{ accessFlags := 4, nameIndex := 5, descriptorIndex := 6, attributes := #[] }] 1057 2 #[] #[])
  fields := #[]
  methods := #[k3m0]
  instanceTypes := #[]
  staticTypes := #[]
  resolved := Array.replicate 22 none
  statics := none }

def pool4 : Array CpInfo := pool [(1, .methodref 2 3), (0, .class_ 4), (0, .nameAndType 5 6), (0, u "java/lang/Record"), (0, u "<init>"), (0, u "()V"), (0, .methodref 8 9), (0, .class_ 10), (0, .nameAndType 11 12), (0, u "java/lang/Double"), (0, u "isFinite"), (0, u "(D)Z"), (9, .fieldref 23 24), (0, .class_ 25), (0, .nameAndType 26 27), (0, u "com/example/isolint/isolint/bench/Mix"), (0, u "changeA"), (0, u "D"), (0, .fieldref 23 29), (0, .nameAndType 30 27), (0, u "changeB"), (0, .fieldref 23 32), (0, .nameAndType 33 27), (0, u "changeAB"), (20, u "(DDD)V"), (22, .class_ 79), (1, u "com/example/isolint/isolint/bench/Mix$1")] 72

def k4c0 : Code := { maxStack := 8, maxLocals := 9, code := prog_25_method_1_code, exceptionTable := #[], attributes := #[] }
def k4m0 : Method := { name := "<init>", desc := "(DDD)V", sig := { parameters := [.double, .double, .double], returnType := none }, accessFlags := 1, code := some k4c0 }
/-- com/example/isolint/isolint/bench/Mix -/
def k4 : Class := { plain "com/example/isolint/isolint/bench/Mix" (some 3) with
  accessFlags := 49
  interfaces := #[]
  cf := some (fileOf pool4 23 #[.nestMembers #[77]] #[{ accessFlags := 1, nameIndex := 5, descriptorIndex := 54, attributes := #[] }] 49 2 #[] #[{ accessFlags := 18, nameIndex := 26, descriptorIndex := 27, attributes := #[] }, { accessFlags := 18, nameIndex := 30, descriptorIndex := 27, attributes := #[] }, { accessFlags := 18, nameIndex := 33, descriptorIndex := 27, attributes := #[] }])
  fields := #[{ name := "changeA", type := .double, accessFlags := 18, slot := 0, constantValue := 0 }, { name := "changeB", type := .double, accessFlags := 18, slot := 1, constantValue := 0 }, { name := "changeAB", type := .double, accessFlags := 18, slot := 2, constantValue := 0 }]
  methods := #[k4m0]
  instanceTypes := #[.double, .double, .double]
  staticTypes := #[]
  resolved := Array.replicate 152 none
  statics := none }

def pool5 : Array CpInfo := pool [(1, .class_ 2), (0, u "java/io/Serializable"), (0, .class_ 4), (0, u "java/lang/Object")] 2

/-- java/io/Serializable -/
def k5 : Class := { plain "java/io/Serializable" (some 0) with
  accessFlags := 1537
  interfaces := #[]
  cf := some (fileOf pool5 1 #[] #[] 1537 3 #[] #[])
  fields := #[]
  methods := #[]
  instanceTypes := #[]
  staticTypes := #[]
  resolved := Array.replicate 7 none
  statics := none }

def pool6 : Array CpInfo := pool [(2, .class_ 4), (1, u "java/lang/Object"), (0, u "<init>"), (0, u "()V"), (1, .class_ 10), (1, u "java/lang/Number"), (2, .class_ 14), (0, u "java/io/Serializable"), (0, u "serialVersionUID"), (0, u "J")] 20

def k6m0 : Method := { name := "<init>", desc := "()V", sig := { parameters := [], returnType := none }, accessFlags := 1, code := none }
/-- java/lang/Number -/
def k6 : Class := { plain "java/lang/Number" (some 0) with
  accessFlags := 1057
  interfaces := #[5]
  cf := some (fileOf pool6 8 #[] #[{ accessFlags := 1, nameIndex := 5, descriptorIndex := 6, attributes := #[] }] 1057 2 #[13] #[{ accessFlags := 26, nameIndex := 15, descriptorIndex := 16, attributes := #[] }])
  fields := #[{ name := "serialVersionUID", type := .long, accessFlags := 26, slot := 0, constantValue := 0 }]
  methods := #[k6m0]
  instanceTypes := #[]
  staticTypes := #[.long]
  resolved := Array.replicate 37 none
  statics := none }

def pool7 : Array CpInfo := pool [(1, .class_ 2), (0, u "java/lang/Comparable"), (0, .class_ 4), (0, u "java/lang/Object")] 7

/-- java/lang/Comparable -/
def k7 : Class := { plain "java/lang/Comparable" (some 0) with
  accessFlags := 1537
  interfaces := #[]
  cf := some (fileOf pool7 1 #[] #[] 1537 3 #[] #[])
  fields := #[]
  methods := #[]
  instanceTypes := #[]
  staticTypes := #[]
  resolved := Array.replicate 12 none
  statics := none }

def pool8 : Array CpInfo := pool [(1, .class_ 2), (0, u "java/lang/constant/Constable"), (0, .class_ 4), (0, u "java/lang/Object")] 6

/-- java/lang/constant/Constable -/
def k8 : Class := { plain "java/lang/constant/Constable" (some 0) with
  accessFlags := 1537
  interfaces := #[]
  cf := some (fileOf pool8 1 #[] #[] 1537 3 #[] #[])
  fields := #[]
  methods := #[]
  instanceTypes := #[]
  staticTypes := #[]
  resolved := Array.replicate 11 none
  statics := none }

def pool9 : Array CpInfo := pool [(1, .class_ 2), (0, u "java/lang/constant/ConstantDesc"), (0, .class_ 4), (0, u "java/lang/Object")] 32

/-- java/lang/constant/ConstantDesc -/
def k9 : Class := { plain "java/lang/constant/ConstantDesc" (some 0) with
  accessFlags := 1537
  interfaces := #[]
  cf := some (fileOf pool9 1 #[] #[] 1537 3 #[] #[])
  fields := #[]
  methods := #[]
  instanceTypes := #[]
  staticTypes := #[]
  resolved := Array.replicate 37 none
  statics := none }

def pool10 : Array CpInfo := pool [(1, .class_ 2), (0, u "java/lang/Double"), (10, u "isFinite"), (0, u "(D)Z"), (8, .class_ 25), (1, u "java/lang/Math"), (12, .methodref 23 39), (0, .nameAndType 40 41), (0, u "abs"), (0, u "(D)D"), (69, .double 9218868437227405311), (2, .class_ 116), (1, u "java/lang/Number"), (3, u "value"), (0, u "D"), (51, u "TYPE"), (0, u "Ljava/lang/Class;"), (0, .class_ 176), (0, u "java/lang/Comparable"), (0, .class_ 178), (0, u "java/lang/constant/Constable"), (0, .class_ 180), (0, u "java/lang/constant/ConstantDesc"), (0, u "POSITIVE_INFINITY"), (3, u "NEGATIVE_INFINITY"), (2, u "NaN"), (2, u "MAX_VALUE"), (0, u "MIN_NORMAL"), (0, u "MIN_VALUE"), (2, u "SIZE"), (0, u "I"), (1, u "PRECISION"), (1, u "MAX_EXPONENT"), (1, u "MIN_EXPONENT"), (1, u "BYTES"), (3, u "serialVersionUID"), (0, u "J")] 79

def k10c0 : Code := { maxStack := 4, maxLocals := 2, code := jdk_117_method_8_code, exceptionTable := #[], attributes := #[] }
def k10m0 : Method := { name := "isFinite", desc := "(D)Z", sig := { parameters := [.double], returnType := some .boolean }, accessFlags := 9, code := some k10c0 }
/-- java/lang/Double -/
def k10 : Class := { plain "java/lang/Double" (some 6) with
  accessFlags := 49
  interfaces := #[7, 8, 9]
  cf := some (fileOf pool10 1 #[] #[{ accessFlags := 9, nameIndex := 13, descriptorIndex := 14, attributes := #[] }] 49 114 #[175, 177, 179] #[{ accessFlags := 25, nameIndex := 181, descriptorIndex := 121, attributes := #[] }, { accessFlags := 25, nameIndex := 185, descriptorIndex := 121, attributes := #[] }, { accessFlags := 25, nameIndex := 188, descriptorIndex := 121, attributes := #[] }, { accessFlags := 25, nameIndex := 191, descriptorIndex := 121, attributes := #[] }, { accessFlags := 25, nameIndex := 192, descriptorIndex := 121, attributes := #[] }, { accessFlags := 25, nameIndex := 193, descriptorIndex := 121, attributes := #[] }, { accessFlags := 25, nameIndex := 196, descriptorIndex := 197, attributes := #[] }, { accessFlags := 25, nameIndex := 199, descriptorIndex := 197, attributes := #[] }, { accessFlags := 25, nameIndex := 201, descriptorIndex := 197, attributes := #[] }, { accessFlags := 25, nameIndex := 203, descriptorIndex := 197, attributes := #[] }, { accessFlags := 25, nameIndex := 205, descriptorIndex := 197, attributes := #[] }, { accessFlags := 25, nameIndex := 173, descriptorIndex := 174, attributes := #[] }, { accessFlags := 18, nameIndex := 120, descriptorIndex := 121, attributes := #[] }, { accessFlags := 26, nameIndex := 209, descriptorIndex := 210, attributes := #[] }])
  fields := #[{ name := "POSITIVE_INFINITY", type := .double, accessFlags := 25, slot := 0, constantValue := 0 }, { name := "NEGATIVE_INFINITY", type := .double, accessFlags := 25, slot := 1, constantValue := 0 }, { name := "NaN", type := .double, accessFlags := 25, slot := 2, constantValue := 0 }, { name := "MAX_VALUE", type := .double, accessFlags := 25, slot := 3, constantValue := 0 }, { name := "MIN_NORMAL", type := .double, accessFlags := 25, slot := 4, constantValue := 0 }, { name := "MIN_VALUE", type := .double, accessFlags := 25, slot := 5, constantValue := 0 }, { name := "SIZE", type := .int, accessFlags := 25, slot := 6, constantValue := 0 }, { name := "PRECISION", type := .int, accessFlags := 25, slot := 7, constantValue := 0 }, { name := "MAX_EXPONENT", type := .int, accessFlags := 25, slot := 8, constantValue := 0 }, { name := "MIN_EXPONENT", type := .int, accessFlags := 25, slot := 9, constantValue := 0 }, { name := "BYTES", type := .int, accessFlags := 25, slot := 10, constantValue := 0 }, { name := "TYPE", type := (.object "java/lang/Class"), accessFlags := 25, slot := 11, constantValue := 0 }, { name := "value", type := .double, accessFlags := 18, slot := 0, constantValue := 0 }, { name := "serialVersionUID", type := .long, accessFlags := 26, slot := 12, constantValue := 0 }]
  methods := #[k10m0]
  instanceTypes := #[.double]
  staticTypes := #[.double, .double, .double, .double, .double, .double, .int, .int, .int, .int, .int, (.object "java/lang/Class"), .long]
  resolved := Array.replicate 290 none
  statics := none }

def pool11 : Array CpInfo := pool [(1, .methodref 2 3), (0, .class_ 4), (0, .nameAndType 5 6), (0, u "java/lang/Record"), (0, u "<init>"), (0, u "()V"), (0, .string 8), (0, u "mix"), (0, .methodref 10 11), (0, .class_ 12), (0, .nameAndType 13 14), (0, u "java/util/Objects"), (0, u "requireNonNull"), (0, u "(Ljava/lang/Object;Ljava/lang/String;)Ljava/lang/Object;"), (7, .methodref 23 24), (0, .class_ 25), (0, .nameAndType 26 27), (0, u "com/example/isolint/isolint/predict/RateModel"), (0, u "isShare"), (0, u "(D)Z"), (4, .methodref 23 33), (0, .nameAndType 34 35), (0, u "readsValueAInTransaction"), (0, u "(DD)Z"), (0, .methodref 23 37), (0, .nameAndType 38 35), (0, u "readsValueBAfterValueA"), (3, .fieldref 23 43), (0, .nameAndType 44 45), (0, u "clients"), (0, u "I"), (0, .fieldref 23 47), (0, .nameAndType 48 45), (0, u "hot"), (0, .fieldref 23 50), (0, .nameAndType 51 52), (0, u "hotFraction"), (0, u "D"), (0, .fieldref 23 54), (0, .nameAndType 8 55), (0, u "Lcom/example/isolint/isolint/bench/Mix;"), (0, .fieldref 23 57), (0, .nameAndType 58 52), (0, u "alpha"), (0, .fieldref 23 60), (0, .nameAndType 61 52), (0, u "beta"), (0, .fieldref 23 63), (0, .nameAndType 64 52), (0, u "gamma"), (0, .double 4607182418800008401), (1, .double 4427486594234968593), (26, u "()D"), (10, u "collisionChance"), (11, .class_ 119), (1, u "com/example/isolint/isolint/predict/RateModel$1"), (55, u "LEVELS"), (0, u "Ljava/util/List;"), (2, u "DEFAULT_ALPHA"), (3, u "DEFAULT_BETA"), (2, u "ROUNDING"), (0, u "(IIDLcom/example/isolint/isolint/bench/Mix;DDD)V")] 54

def k11c0 : Code := { maxStack := 10, maxLocals := 12, code := prog_67_method_1_code, exceptionTable := #[], attributes := #[] }
def k11m0 : Method := { name := "<init>", desc := "(IIDLcom/example/isolint/isolint/bench/Mix;DDD)V", sig := { parameters := [.int, .int, .double, (.object "com/example/isolint/isolint/bench/Mix"), .double, .double, .double], returnType := none }, accessFlags := 1, code := some k11c0 }
def k11c1 : Code := { maxStack := 4, maxLocals := 4, code := prog_67_method_2_code, exceptionTable := #[], attributes := #[] }
def k11m1 : Method := { name := "readsValueAInTransaction", desc := "(DD)Z", sig := { parameters := [.double, .double], returnType := some .boolean }, accessFlags := 9, code := some k11c1 }
def k11c2 : Code := { maxStack := 6, maxLocals := 4, code := prog_67_method_3_code, exceptionTable := #[], attributes := #[] }
def k11m2 : Method := { name := "readsValueBAfterValueA", desc := "(DD)Z", sig := { parameters := [.double, .double], returnType := some .boolean }, accessFlags := 9, code := some k11c2 }
def k11c3 : Code := { maxStack := 4, maxLocals := 1, code := prog_67_method_5_code, exceptionTable := #[], attributes := #[] }
def k11m3 : Method := { name := "collisionChance", desc := "()D", sig := { parameters := [], returnType := some .double }, accessFlags := 1, code := some k11c3 }
def k11c4 : Code := { maxStack := 4, maxLocals := 2, code := prog_67_method_10_code, exceptionTable := #[], attributes := #[] }
def k11m4 : Method := { name := "isShare", desc := "(D)Z", sig := { parameters := [.double], returnType := some .boolean }, accessFlags := 10, code := some k11c4 }
/-- com/example/isolint/isolint/predict/RateModel -/
def k11 : Class := { plain "com/example/isolint/isolint/predict/RateModel" (some 3) with
  accessFlags := 49
  interfaces := #[]
  cf := some (fileOf pool11 23 #[.nestMembers #[117]] #[{ accessFlags := 1, nameIndex := 5, descriptorIndex := 187, attributes := #[] }, { accessFlags := 9, nameIndex := 34, descriptorIndex := 35, attributes := #[] }, { accessFlags := 9, nameIndex := 38, descriptorIndex := 35, attributes := #[] }, { accessFlags := 1, nameIndex := 105, descriptorIndex := 94, attributes := #[] }, { accessFlags := 10, nameIndex := 26, descriptorIndex := 27, attributes := #[] }] 49 2 #[] #[{ accessFlags := 18, nameIndex := 44, descriptorIndex := 45, attributes := #[] }, { accessFlags := 18, nameIndex := 48, descriptorIndex := 45, attributes := #[] }, { accessFlags := 18, nameIndex := 51, descriptorIndex := 52, attributes := #[] }, { accessFlags := 18, nameIndex := 8, descriptorIndex := 55, attributes := #[] }, { accessFlags := 18, nameIndex := 58, descriptorIndex := 52, attributes := #[] }, { accessFlags := 18, nameIndex := 61, descriptorIndex := 52, attributes := #[] }, { accessFlags := 18, nameIndex := 64, descriptorIndex := 52, attributes := #[] }, { accessFlags := 25, nameIndex := 175, descriptorIndex := 176, attributes := #[] }, { accessFlags := 25, nameIndex := 179, descriptorIndex := 52, attributes := #[] }, { accessFlags := 25, nameIndex := 183, descriptorIndex := 52, attributes := #[] }, { accessFlags := 26, nameIndex := 186, descriptorIndex := 52, attributes := #[] }])
  fields := #[{ name := "clients", type := .int, accessFlags := 18, slot := 0, constantValue := 0 }, { name := "hot", type := .int, accessFlags := 18, slot := 1, constantValue := 0 }, { name := "hotFraction", type := .double, accessFlags := 18, slot := 2, constantValue := 0 }, { name := "mix", type := (.object "com/example/isolint/isolint/bench/Mix"), accessFlags := 18, slot := 3, constantValue := 0 }, { name := "alpha", type := .double, accessFlags := 18, slot := 4, constantValue := 0 }, { name := "beta", type := .double, accessFlags := 18, slot := 5, constantValue := 0 }, { name := "gamma", type := .double, accessFlags := 18, slot := 6, constantValue := 0 }, { name := "LEVELS", type := (.object "java/util/List"), accessFlags := 25, slot := 0, constantValue := 0 }, { name := "DEFAULT_ALPHA", type := .double, accessFlags := 25, slot := 1, constantValue := 0 }, { name := "DEFAULT_BETA", type := .double, accessFlags := 25, slot := 2, constantValue := 0 }, { name := "ROUNDING", type := .double, accessFlags := 26, slot := 3, constantValue := 0 }]
  methods := #[k11m0, k11m1, k11m2, k11m3, k11m4]
  instanceTypes := #[.int, .int, .double, (.object "com/example/isolint/isolint/bench/Mix"), .double, .double, .double]
  staticTypes := #[(.object "java/util/List"), .double, .double, .double]
  resolved := Array.replicate 242 none
  statics := none }

def pool12 : Array CpInfo := pool [(2, .class_ 4), (1, u "java/lang/CharSequence"), (42, .class_ 48), (0, u "java/lang/CharSequence$1CodePointIterator"), (10, .class_ 60), (0, u "java/lang/CharSequence$1CharIterator"), (5, .class_ 67), (0, u "java/lang/Object")] 63

/-- java/lang/CharSequence -/
def k12 : Class := { plain "java/lang/CharSequence" (some 0) with
  accessFlags := 1537
  interfaces := #[]
  cf := some (fileOf pool12 2 #[.nestMembers #[47, 59]] #[] 1537 66 #[] #[])
  fields := #[]
  methods := #[]
  instanceTypes := #[]
  staticTypes := #[]
  resolved := Array.replicate 131 none
  statics := none }

def pool13 : Array CpInfo := pool [(2, .class_ 4), (1, u "java/lang/Object"), (0, u "<init>"), (0, u "()V"), (3, .class_ 12), (1, u "java/lang/String"), (0, u "value"), (0, u "[B"), (2, u "coder"), (0, u "B"), (2, u "hash"), (0, u "I"), (2, u "hashIsZero"), (0, u "Z"), (13, u "COMPACT_STRINGS"), (534, .class_ 576), (0, u "java/lang/CharSequence"), (22, u "CASE_INSENSITIVE_ORDER"), (0, u "Ljava/util/Comparator;"), (500, u "serialPersistentFields"), (0, u "[Ljava/io/ObjectStreamField;"), (0, .class_ 1104), (0, u "java/lang/String$CaseInsensitiveComparator"), (1, .class_ 1107), (0, u "java/io/Serializable"), (0, .class_ 1109), (0, u "java/lang/Comparable"), (0, .class_ 1111), (0, u "java/lang/constant/Constable"), (0, .class_ 1113), (0, u "java/lang/constant/ConstantDesc"), (2, u "serialVersionUID"), (0, u "J"), (3, u "REPL"), (0, u "C"), (2, u "LATIN1"), (1, u "UTF16")] 323

def k13m0 : Method := { name := "<init>", desc := "()V", sig := { parameters := [], returnType := none }, accessFlags := 1, code := none }
/-- java/lang/String -/
def k13 : Class := { plain "java/lang/String" (some 0) with
  accessFlags := 49
  interfaces := #[5, 7, 12, 8, 9]
  cf := some (fileOf pool13 10 #[.nestMembers #[1103]] #[{ accessFlags := 1, nameIndex := 5, descriptorIndex := 6, attributes := #[] }] 49 2 #[1106, 1108, 575, 1110, 1112] #[{ accessFlags := 18, nameIndex := 13, descriptorIndex := 14, attributes := #[] }, { accessFlags := 18, nameIndex := 17, descriptorIndex := 18, attributes := #[] }, { accessFlags := 2, nameIndex := 21, descriptorIndex := 22, attributes := #[] }, { accessFlags := 2, nameIndex := 25, descriptorIndex := 26, attributes := #[] }, { accessFlags := 26, nameIndex := 1116, descriptorIndex := 1117, attributes := #[] }, { accessFlags := 24, nameIndex := 40, descriptorIndex := 26, attributes := #[] }, { accessFlags := 26, nameIndex := 1101, descriptorIndex := 1102, attributes := #[] }, { accessFlags := 26, nameIndex := 1121, descriptorIndex := 1122, attributes := #[] }, { accessFlags := 25, nameIndex := 599, descriptorIndex := 600, attributes := #[] }, { accessFlags := 24, nameIndex := 1125, descriptorIndex := 18, attributes := #[] }, { accessFlags := 24, nameIndex := 1127, descriptorIndex := 18, attributes := #[] }])
  fields := #[{ name := "value", type := (.array .byte), accessFlags := 18, slot := 0, constantValue := 0 }, { name := "coder", type := .byte, accessFlags := 18, slot := 1, constantValue := 0 }, { name := "hash", type := .int, accessFlags := 2, slot := 2, constantValue := 0 }, { name := "hashIsZero", type := .boolean, accessFlags := 2, slot := 3, constantValue := 0 }, { name := "serialVersionUID", type := .long, accessFlags := 26, slot := 0, constantValue := 0 }, { name := "COMPACT_STRINGS", type := .boolean, accessFlags := 24, slot := 1, constantValue := 0 }, { name := "serialPersistentFields", type := (.array (.object "java/io/ObjectStreamField")), accessFlags := 26, slot := 2, constantValue := 0 }, { name := "REPL", type := .char, accessFlags := 26, slot := 3, constantValue := 0 }, { name := "CASE_INSENSITIVE_ORDER", type := (.object "java/util/Comparator"), accessFlags := 25, slot := 4, constantValue := 0 }, { name := "LATIN1", type := .byte, accessFlags := 24, slot := 5, constantValue := 0 }, { name := "UTF16", type := .byte, accessFlags := 24, slot := 6, constantValue := 0 }]
  methods := #[k13m0]
  instanceTypes := #[(.array .byte), .byte, .int, .boolean]
  staticTypes := #[.long, .boolean, (.array (.object "java/io/ObjectStreamField")), .char, (.object "java/util/Comparator"), .byte, .byte]
  resolved := Array.replicate 1451 none
  statics := none }

def pool14 : Array CpInfo := pool [(2, .class_ 4), (1, u "java/lang/Object"), (0, u "<init>"), (0, u "()V"), (35, .class_ 44), (1, u "java/util/Objects"), (0, u "requireNonNull"), (48, u "(Ljava/lang/Object;Ljava/lang/String;)Ljava/lang/Object;")] 89

def k14m0 : Method := { name := "<init>", desc := "()V", sig := { parameters := [], returnType := none }, accessFlags := 2, code := none }
def k14c1 : Code := { maxStack := 3, maxLocals := 2, code := jdk_31_method_11_code, exceptionTable := #[], attributes := #[] }
def k14m1 : Method := { name := "requireNonNull", desc := "(Ljava/lang/Object;Ljava/lang/String;)Ljava/lang/Object;", sig := { parameters := [(.object "java/lang/Object"), (.object "java/lang/String")], returnType := some (.object "java/lang/Object") }, accessFlags := 9, code := some k14c1 }
/-- java/util/Objects -/
def k14 : Class := { plain "java/util/Objects" (some 0) with
  accessFlags := 49
  interfaces := #[]
  cf := some (fileOf pool14 42 #[] #[{ accessFlags := 2, nameIndex := 5, descriptorIndex := 6, attributes := #[] }, { accessFlags := 9, nameIndex := 45, descriptorIndex := 94, attributes := #[] }] 49 2 #[] #[])
  fields := #[]
  methods := #[k14m0, k14m1]
  instanceTypes := #[]
  staticTypes := #[]
  resolved := Array.replicate 184 none
  statics := none }

def pool15 : Array CpInfo := pool [(1, u "java/lang/Cloneable"), (0, .class_ 1), (0, u "java/lang/Object"), (0, .class_ 3)] 3

/-- java/lang/Cloneable -/
def k15 : Class := { plain "java/lang/Cloneable" (some 0) with
  accessFlags := 1537
  interfaces := #[]
  cf := some (fileOf pool15 2 #[] #[] 1537 4 #[] #[])
  fields := #[]
  methods := #[]
  instanceTypes := #[]
  staticTypes := #[]
  resolved := Array.replicate 8 none
  statics := none }

/-- the primitive byte -/
def k16 : Class := { plain "byte" none with kind := .primitive 'B', accessFlags := 0x411 }
/-- [B -/
def k17 : Class := { plain "[B" (some 0) with kind := .array 16 .byte, interfaces := #[15, 5], accessFlags := 1041 }

/-- the primitive int -/
def k18 : Class := { plain "int" none with kind := .primitive 'I', accessFlags := 0x411 }
/-- [I -/
def k19 : Class := { plain "[I" (some 0) with kind := .array 18 .int, interfaces := #[15, 5], accessFlags := 1041 }

def heap : Heap := #[]
def classes : Array Class := #[k0, k1, k2, k3, k4, k5, k6, k7, k8, k9, k10, k11, k12, k13, k14, k15, k16, k17, k18, k19]
def interned : List (Array UInt16 × Addr) := []
def slotsUsed : Nat := 0
def theMethod : MethodId := ⟨1, 1⟩
def args0 : Array Value := #[.int 3, .int 4, .int 5, .int 6]
def aboutOver (below : List Frame) : State where
  vm := { classes := classes, interned := interned.toArray }
  heap := heap
  slotsUsed := slotsUsed
  threads := #[{ frames := .invoking theMethod args0 :: below }]
def below0 : List Frame := [.native { method := ⟨0, 0⟩, args := #[] }]
def about1 : State := aboutOver below0
def p0 : Program := .bare "" "" ""
def e0 : Env := launch0.env 0 0 0
theorem w_frames : about1.frames = Frame.invoking theMethod args0 :: below0 := rfl
set_option maxRecDepth 65536 in
theorem w_args : argsFit about1.vm theMethod args0 = true := by decide +kernel
set_option maxRecDepth 65536 in
theorem w_heap : heapFits about1 = true := by decide +kernel
set_option maxRecDepth 65536 in
theorem w_runnable : about1.curStatus? = some .runnable := by decide +kernel
set_option maxRecDepth 65536 in
theorem w_alone : about1.alone = true := by decide +kernel
set_option maxRecDepth 65536 in
theorem w_named : about1.methodNamed? x = some theMethod := by decide +kernel
set_option maxRecDepth 65536 in
theorem w_hears : about1.hears theMethod below0 = true := by decide +kernel
set_option maxRecDepth 65536 in
theorem w_ripe : about1.ripe theMethod args0 below0 = true := by decide +kernel
theorem w_running : about1.status = .running := rfl
set_option maxRecDepth 65536 in
theorem w_room : about1.hasRoom e0.platform room_1 = true :=
  launch0.hasRoom_least _ room_1 (by decide +kernel) (by decide +kernel) (by decide +kernel) (by decide +kernel) (by decide +kernel) (by decide +kernel)
theorem allAtoms_all (ts : List Jvm.Cond) (a : Array Jvm.Value) (st : Jvm.State) : (allAtoms ts).before a st = ts.all (fun c => c.before a st) := by
  induction ts with
  | nil => rfl
  | cons c t ih =>
    show (Jvm.Cond.and c (allAtoms t)).before a st = _
    rw [Jvm.Cond.before_and, ih, List.all_cons]
def words1 : List Jvm.Cond := Jvm.Cond.code x code maxLocals ret :: tables_1
/-- a 'code' word, met by the world's own term for the bytes: nothing is compared byte by byte -/
theorem code_word {y : MethodName} {bytes : ByteArray} {mx : Nat} {rt : Option FieldType} {a : Array Value} {s : State} {m : MethodId} {meth : Method} {c : Code} (h1 : s.methodNamed? y = some m) (h2 : s.vm.method? m = some meth) (h3 : meth.code = some c) (h4 : c.code = bytes)
    (h5 : (c.maxLocals == mx && c.exceptionTable.isEmpty && decide (c.maxStack ≤ mostOperands) && decide (meth.sig.returnType = rt) && !meth.locks && decide (parseMethodDescriptor y.desc = some meth.sig)) = true) : (Jvm.Cond.code y bytes mx rt).before a s = true := by
  simp only [Bool.and_eq_true, beq_iff_eq, Bool.not_eq_true', decide_eq_true_eq] at h5
  obtain ⟨⟨⟨⟨⟨g1, g2⟩, g3⟩, g4⟩, g5⟩, g6⟩ := h5
  simp [Cond.before, Cond.holds, Cond.value, h1, h2, h3, h4, g1, g2, g3, g4, g5, g6]
def isCode : Jvm.Cond → Bool
  | .code _ _ _ _ => true
  | _ => false
theorem all_split {L : List Jvm.Cond} {P : Jvm.Cond → Bool} (h1 : L.all (fun c => isCode c || P c) = true) (h2 : ∀ c ∈ L.filter isCode, P c = true) : L.all P = true := by
  refine List.all_eq_true.mpr fun c hc => ?_
  have h := List.all_eq_true.mp h1 c hc
  rcases Bool.eq_false_or_eq_true (isCode c) with hi | hi
  · exact h2 c (List.mem_filter.mpr ⟨hc, hi⟩)
  · simpa [hi] using h
set_option maxRecDepth 65536 in
theorem w_c0 : (Jvm.Cond.code x code maxLocals ret).before args0 about1 = true := code_word (m := ⟨1, 1⟩) (meth := k1m1) (c := k1c1) (by decide +kernel) rfl rfl rfl (by decide +kernel)
set_option maxRecDepth 65536 in
theorem w_c1 : (Jvm.Cond.code ({ cls := "java/lang/Math", name := "max", desc := "(II)I" } : Jvm.MethodName) jdk_29_method_65_code (2 : Nat) (Option.some Jvm.ClassFile.FieldType.int)).before args0 about1 = true := code_word (m := ⟨2, 2⟩) (meth := k2m2) (c := k2c2) (by decide +kernel) rfl rfl rfl (by decide +kernel)
set_option maxRecDepth 65536 in
theorem w_c2 : (Jvm.Cond.code ({ cls := "com/example/isolint/isolint/bench/Mix", name := "<init>", desc := "(DDD)V" } : Jvm.MethodName) prog_25_method_1_code (9 : Nat) (Option.none : Option Jvm.ClassFile.FieldType)).before args0 about1 = true := code_word (m := ⟨4, 0⟩) (meth := k4m0) (c := k4c0) (by decide +kernel) rfl rfl rfl (by decide +kernel)
set_option maxRecDepth 65536 in
theorem w_c3 : (Jvm.Cond.code ({ cls := "java/lang/Record", name := "<init>", desc := "()V" } : Jvm.MethodName) jdk_30_method_1_code (1 : Nat) (Option.none : Option Jvm.ClassFile.FieldType)).before args0 about1 = true := code_word (m := ⟨3, 0⟩) (meth := k3m0) (c := k3c0) (by decide +kernel) rfl rfl rfl (by decide +kernel)
set_option maxRecDepth 65536 in
theorem w_c4 : (Jvm.Cond.code ({ cls := "java/lang/Object", name := "<init>", desc := "()V" } : Jvm.MethodName) object_method_1_code (1 : Nat) (Option.none : Option Jvm.ClassFile.FieldType)).before args0 about1 = true := code_word (m := ⟨0, 0⟩) (meth := k0m0) (c := k0c0) (by decide +kernel) rfl rfl rfl (by decide +kernel)
set_option maxRecDepth 65536 in
theorem w_c5 : (Jvm.Cond.code ({ cls := "java/lang/Double", name := "isFinite", desc := "(D)Z" } : Jvm.MethodName) jdk_117_method_8_code (2 : Nat) (Option.some Jvm.ClassFile.FieldType.boolean)).before args0 about1 = true := code_word (m := ⟨10, 0⟩) (meth := k10m0) (c := k10c0) (by decide +kernel) rfl rfl rfl (by decide +kernel)
set_option maxRecDepth 65536 in
theorem w_c6 : (Jvm.Cond.code ({ cls := "java/lang/Math", name := "abs", desc := "(D)D" } : Jvm.MethodName) jdk_29_method_64_code (2 : Nat) (Option.some Jvm.ClassFile.FieldType.double)).before args0 about1 = true := code_word (m := ⟨2, 1⟩) (meth := k2m1) (c := k2c1) (by decide +kernel) rfl rfl rfl (by decide +kernel)
set_option maxRecDepth 65536 in
theorem w_c7 : (Jvm.Cond.code ({ cls := "com/example/isolint/isolint/predict/RateModel", name := "<init>", desc := "(IIDLcom/example/isolint/isolint/bench/Mix;DDD)V" } : Jvm.MethodName) prog_67_method_1_code (12 : Nat) (Option.none : Option Jvm.ClassFile.FieldType)).before args0 about1 = true := code_word (m := ⟨11, 0⟩) (meth := k11m0) (c := k11c0) (by decide +kernel) rfl rfl rfl (by decide +kernel)
set_option maxRecDepth 65536 in
theorem w_c8 : (Jvm.Cond.code ({ cls := "java/util/Objects", name := "requireNonNull", desc := "(Ljava/lang/Object;Ljava/lang/String;)Ljava/lang/Object;" } : Jvm.MethodName) jdk_31_method_11_code (2 : Nat) (Option.some (Jvm.ClassFile.FieldType.object "java/lang/Object"))).before args0 about1 = true := code_word (m := ⟨14, 1⟩) (meth := k14m1) (c := k14c1) (by decide +kernel) rfl rfl rfl (by decide +kernel)
set_option maxRecDepth 65536 in
theorem w_c9 : (Jvm.Cond.code ({ cls := "com/example/isolint/isolint/predict/RateModel", name := "isShare", desc := "(D)Z" } : Jvm.MethodName) prog_67_method_10_code (2 : Nat) (Option.some Jvm.ClassFile.FieldType.boolean)).before args0 about1 = true := code_word (m := ⟨11, 4⟩) (meth := k11m4) (c := k11c4) (by decide +kernel) rfl rfl rfl (by decide +kernel)
set_option maxRecDepth 65536 in
theorem w_c10 : (Jvm.Cond.code ({ cls := "com/example/isolint/isolint/predict/RateModel", name := "readsValueAInTransaction", desc := "(DD)Z" } : Jvm.MethodName) prog_67_method_2_code (4 : Nat) (Option.some Jvm.ClassFile.FieldType.boolean)).before args0 about1 = true := code_word (m := ⟨11, 1⟩) (meth := k11m1) (c := k11c1) (by decide +kernel) rfl rfl rfl (by decide +kernel)
set_option maxRecDepth 65536 in
theorem w_c11 : (Jvm.Cond.code ({ cls := "com/example/isolint/isolint/predict/RateModel", name := "readsValueBAfterValueA", desc := "(DD)Z" } : Jvm.MethodName) prog_67_method_3_code (4 : Nat) (Option.some Jvm.ClassFile.FieldType.boolean)).before args0 about1 = true := code_word (m := ⟨11, 2⟩) (meth := k11m2) (c := k11c2) (by decide +kernel) rfl rfl rfl (by decide +kernel)
set_option maxRecDepth 65536 in
theorem w_c12 : (Jvm.Cond.code ({ cls := "com/example/isolint/isolint/predict/RateModel", name := "collisionChance", desc := "()D" } : Jvm.MethodName) prog_67_method_5_code (1 : Nat) (Option.some Jvm.ClassFile.FieldType.double)).before args0 about1 = true := code_word (m := ⟨11, 3⟩) (meth := k11m3) (c := k11c3) (by decide +kernel) rfl rfl rfl (by decide +kernel)
def codes1 : List Jvm.Cond := [Jvm.Cond.code x code maxLocals ret, Jvm.Cond.code ({ cls := "java/lang/Math", name := "max", desc := "(II)I" } : Jvm.MethodName) jdk_29_method_65_code (2 : Nat) (Option.some Jvm.ClassFile.FieldType.int), Jvm.Cond.code ({ cls := "com/example/isolint/isolint/bench/Mix", name := "<init>", desc := "(DDD)V" } : Jvm.MethodName) prog_25_method_1_code (9 : Nat) (Option.none : Option Jvm.ClassFile.FieldType), Jvm.Cond.code ({ cls := "java/lang/Record", name := "<init>", desc := "()V" } : Jvm.MethodName) jdk_30_method_1_code (1 : Nat) (Option.none : Option Jvm.ClassFile.FieldType), Jvm.Cond.code ({ cls := "java/lang/Object", name := "<init>", desc := "()V" } : Jvm.MethodName) object_method_1_code (1 : Nat) (Option.none : Option Jvm.ClassFile.FieldType), Jvm.Cond.code ({ cls := "java/lang/Double", name := "isFinite", desc := "(D)Z" } : Jvm.MethodName) jdk_117_method_8_code (2 : Nat) (Option.some Jvm.ClassFile.FieldType.boolean), Jvm.Cond.code ({ cls := "java/lang/Math", name := "abs", desc := "(D)D" } : Jvm.MethodName) jdk_29_method_64_code (2 : Nat) (Option.some Jvm.ClassFile.FieldType.double), Jvm.Cond.code ({ cls := "com/example/isolint/isolint/predict/RateModel", name := "<init>", desc := "(IIDLcom/example/isolint/isolint/bench/Mix;DDD)V" } : Jvm.MethodName) prog_67_method_1_code (12 : Nat) (Option.none : Option Jvm.ClassFile.FieldType), Jvm.Cond.code ({ cls := "java/util/Objects", name := "requireNonNull", desc := "(Ljava/lang/Object;Ljava/lang/String;)Ljava/lang/Object;" } : Jvm.MethodName) jdk_31_method_11_code (2 : Nat) (Option.some (Jvm.ClassFile.FieldType.object "java/lang/Object")), Jvm.Cond.code ({ cls := "com/example/isolint/isolint/predict/RateModel", name := "isShare", desc := "(D)Z" } : Jvm.MethodName) prog_67_method_10_code (2 : Nat) (Option.some Jvm.ClassFile.FieldType.boolean), Jvm.Cond.code ({ cls := "com/example/isolint/isolint/predict/RateModel", name := "readsValueAInTransaction", desc := "(DD)Z" } : Jvm.MethodName) prog_67_method_2_code (4 : Nat) (Option.some Jvm.ClassFile.FieldType.boolean), Jvm.Cond.code ({ cls := "com/example/isolint/isolint/predict/RateModel", name := "readsValueBAfterValueA", desc := "(DD)Z" } : Jvm.MethodName) prog_67_method_3_code (4 : Nat) (Option.some Jvm.ClassFile.FieldType.boolean), Jvm.Cond.code ({ cls := "com/example/isolint/isolint/predict/RateModel", name := "collisionChance", desc := "()D" } : Jvm.MethodName) prog_67_method_5_code (1 : Nat) (Option.some Jvm.ClassFile.FieldType.double)]
set_option maxRecDepth 65536 in
theorem codes_eq : words1.filter isCode = codes1 := rfl
theorem w_codes : ∀ c ∈ words1.filter isCode, c.before args0 about1 = true := by
  rw [codes_eq]
  intro c hc
  simp only [codes1, List.mem_cons, List.not_mem_nil, or_false] at hc
  rcases hc with rfl | rfl | rfl | rfl | rfl | rfl | rfl | rfl | rfl | rfl | rfl | rfl | rfl
  · exact w_c0
  · exact w_c1
  · exact w_c2
  · exact w_c3
  · exact w_c4
  · exact w_c5
  · exact w_c6
  · exact w_c7
  · exact w_c8
  · exact w_c9
  · exact w_c10
  · exact w_c11
  · exact w_c12
set_option maxRecDepth 65536 in
theorem w_t1 : (words1.take 24).all (fun c => isCode c || c.before args0 about1) = true := by decide +kernel
set_option maxRecDepth 65536 in
theorem w_t2 : ((words1.drop 24).take 24).all (fun c => isCode c || c.before args0 about1) = true := by decide +kernel
set_option maxRecDepth 65536 in
theorem w_t3 : (((words1.drop 24).drop 24).take 24).all (fun c => isCode c || c.before args0 about1) = true := by decide +kernel
set_option maxRecDepth 65536 in
theorem w_t4 : (((words1.drop 24).drop 24).drop 24).all (fun c => isCode c || c.before args0 about1) = true := by decide +kernel
theorem w_tables : (allAtoms (Jvm.Cond.code x code maxLocals ret :: tables_1)).before args0 about1 = true := by
  rw [allAtoms_all]
  show words1.all (fun c => c.before args0 about1) = true
  refine all_split ?_ w_codes
  rw [← List.take_append_drop 24 words1, List.all_append, w_t1, ← List.take_append_drop 24 (words1.drop 24), List.all_append, w_t2, ← List.take_append_drop 24 ((words1.drop 24).drop 24), List.all_append, w_t3, w_t4]
  rfl
set_option maxRecDepth 65536 in
theorem w_case : (Jvm.Cond.and given_1 narrow_1).before args0 about1 = true := by decide +kernel
theorem w_applies : (headSpec (Jvm.Cond.code x code maxLocals ret :: tables_1) room_1).applies x e0.platform about1 = true :=
  (Spec.applies_iff w_frames).mpr ⟨w_running, w_runnable, w_alone, w_named, w_hears, w_ripe, w_room, w_tables⟩
theorem atStart : AtStart classFile x code maxLocals ret World_1 tables_1 room_1 Calls_1 rest_1 Pre_1 launch0 p0 e0 about1 theMethod args0 below0 :=
  ⟨lists_1, trivial, launch0.admits_env _ _ _, launch0.least_env, fairChoices_fair.cas, fairChoices_fair.clock, w_frames, w_args, w_heap, w_applies, trivial, trivial, w_case⟩
end start1
theorem witness_1 : WitnessClaimed_1 := ⟨start1.p0, start1.e0, start1.about1, start1.theMethod, start1.args0, start1.below0, start1.atStart⟩
end Jvm.Pilot.@@N@@
