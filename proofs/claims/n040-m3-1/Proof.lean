import JvmDerived
import JvmDerived.Pilot.@@N@@Statement
import JvmDerived.Pilot.@@N@@Code
set_option linter.unusedVariables false
set_option linter.unusedSimpArgs false
namespace Jvm.RoadKit
open Sem ClassFile Op Lib Jvm.Stand Jvm.Free Jvm.LawKit
section New
variable {p : Program} {l : Launch} {e : Env} {R : Room} {s : State} {m : MethodId} {args : Array Value} {below : List Frame} {meth : Method} {c : Code} {T : State} {locs : List Loc} {cells slots : Nat}
theorem retI (X : Stand p l e R s m args below meth c T locs cells slots) (hx : p.tables.exec = Jvm.exec) {pc : Nat} {Ls : Array Slot} {z : Int32} {rest : List Value} (hret : meth.sig.returnType = some .int) (hd : decode c.code pc = .ok (.ireturn, 1)) {fs : List Frame}
    (hl : ∀ (f : JFrame) (acts : List Action), f.method = m → f.locked = none → f.entered = [] → (doReturn e (T.setTop f) acts (some (.int z))).1 = T.setFrames fs) : Steps p.tables e below (T.setTop (mkF m pc Ls (.int z :: rest))) (T.setFrames fs) := by
  have hm' : T.vm.method? m = some meth := X.method'
  have hn : narrow .int (.int z) = .int z := rfl
  show Steps p.tables e below (T.setTop { method := m, pc := pc, locals := Ls, stack := _ :: rest, locked := none }) _
  jvm_step X.here [X.here.top, hx, hd, hm', hret, hn]
  first | (intro acts; rw [hl _ acts rfl rfl rfl]) | rw [hl _ _ rfl rfl rfl]
  exact Steps.refl _
end New
end Jvm.RoadKit
namespace Own
open Jvm.FP.Core
set_option maxRecDepth 100000
theorem own_qm : b64.qmin = -1074 := by decide
theorem own_i2d (a : Int32) (h : 0 ≤ a.toInt) : ∃ c q, val64 (i2d a) = .fin false c q ∧ inUnits c q b64.qmin = a.toInt.toNat * 2 ^ 1074 := by
  have hb : Small53 a.toInt64 := by have := a.toInt_lt; unfold Small53; rw [Int32.toInt_toInt64]; omega
  obtain ⟨c, q, e⟩ := l2d_shape a.toInt64
  have hw := l2d_whole hb
  have hz := whole_zval good_b64 (val64_fits _) hw
  rw [i2d_l2d, e]
  rw [Int32.toInt_toInt64, show decide (a.toInt < 0) = false from decide_eq_false (by omega)] at e
  rw [e, Int32.toInt_toInt64] at hz
  refine ⟨c, q, by rw [Int32.toInt_toInt64, show decide (a.toInt < 0) = false from decide_eq_false (by omega)], ?_⟩
  have h1 : ((inUnits c q b64.qmin : Nat) : Int) = a.toInt * ((2 ^ (-b64.qmin).toNat : Nat) : Int) := hz
  rw [show (-b64.qmin).toNat = 1074 by decide] at h1
  have h2 : a.toInt = ((a.toInt.toNat : Nat) : Int) := by omega
  rw [h2, ← Int.natCast_mul] at h1
  exact Int.ofNat.inj h1
theorem own_cancel {c d A D Q R M : Nat} (h1 : c * 2 ^ Q = A * 2 ^ M) (h2 : d * 2 ^ R = D * 2 ^ M) : c * D * 2 ^ (Q - R) = A * d * 2 ^ (R - Q) := by
  have h3 : c * D * 2 ^ Q = A * d * 2 ^ R := by
    have e1 : c * D * 2 ^ Q * 2 ^ M = A * d * 2 ^ R * 2 ^ M := by
      have : (c * 2 ^ Q) * (D * 2 ^ M) = (A * 2 ^ M) * (d * 2 ^ R) := by rw [h1, h2]
      calc c * D * 2 ^ Q * 2 ^ M = (c * 2 ^ Q) * (D * 2 ^ M) := by ac_rfl
        _ = (A * 2 ^ M) * (d * 2 ^ R) := this
        _ = A * d * 2 ^ R * 2 ^ M := by ac_rfl
    exact Nat.eq_of_mul_eq_mul_right (Nat.two_pow_pos _) e1
  by_cases h : R ≤ Q
  · have eq : 2 ^ Q = 2 ^ (Q - R) * 2 ^ R := by rw [← Nat.pow_add]; congr 1; omega
    rw [eq, ← Nat.mul_assoc] at h3
    rw [show R - Q = 0 by omega, Nat.pow_zero, Nat.mul_one]
    exact Nat.eq_of_mul_eq_mul_right (Nat.two_pow_pos _) h3
  · have eq : 2 ^ R = 2 ^ (R - Q) * 2 ^ Q := by rw [← Nat.pow_add]; congr 1; omega
    rw [eq, ← Nat.mul_assoc] at h3
    rw [show Q - R = 0 by omega, Nat.pow_zero, Nat.mul_one]
    exact Nat.eq_of_mul_eq_mul_right (Nat.two_pow_pos _) h3
theorem own_div {x y : UInt64} {c d A D : Nat} {q r : Int} (hx : val64 x = .fin false c q) (hy : val64 y = .fin false d r)
    (h1 : inUnits c q b64.qmin = A * 2 ^ 1074) (h2 : inUnits d r b64.qmin = D * 2 ^ 1074) (hD : 0 < D) : val64 (ddiv x y) = roundRatio b64 false A D 0 := by
  have fx := val64_fits x
  have fy := val64_fits y
  rw [hx] at fx; rw [hy] at fy
  have q1 := fx.2.1
  have r1 := fy.2.1
  unfold inUnits at h1 h2
  have hd : d ≠ 0 := by
    intro h; rw [h, Nat.zero_mul] at h2
    have := Nat.mul_pos hD (Nat.two_pow_pos 1074)
    omega
  rw [val64_ddiv, hx, hy]
  show (if d = 0 then _ else roundRatio b64 (false != false) c d (q - r)) = _
  rw [if_neg hd]
  refine roundRatio_congr (Nat.pos_of_ne_zero hd) hD ?_
  have := own_cancel h1 h2
  rw [show (q - r - 0).toNat = (q - b64.qmin).toNat - (r - b64.qmin).toNat by omega, show (0 - (q - r)).toNat = (r - b64.qmin).toNat - (q - b64.qmin).toNat by omega]
  exact this
theorem own_near {A D c : Nat} {q : Int} {t : Bool} (hD : 0 < D) (hA : A ≤ D) (h : roundRatio b64 false A D 0 = .fin t c q) :
    A * 4503599627370496 * 2 ^ 1022 ≤ inUnits c q b64.qmin * D + D * 2 ^ 1022 ∧ inUnits c q b64.qmin * D ≤ A * 4503599627370496 * 2 ^ 1022 + D * 2 ^ 1022 := by
  have hc : A * 4503599627370496 / D ≤ 4503599627370496 := Nat.div_le_of_le_mul (Nat.mul_le_mul_right _ hA)
  have hn := roundRatio_nearest (c' := A * 4503599627370496 / D) (q' := -52) (e0 := b64.qmin) good_b64 hD h (Nat.lt_of_le_of_lt hc (by decide)) (by decide) (Int.le_refl _) (by decide)
  unfold distance at hn
  have e1 : inUnits A 0 b64.qmin = A * 4503599627370496 * 2 ^ 1022 := by
    unfold inUnits; rw [show (0 - b64.qmin).toNat = 52 + 1022 by decide, Nat.pow_add, show (2 : Nat) ^ 52 = 4503599627370496 by decide, Nat.mul_assoc]
  have e2 : inUnits (A * 4503599627370496 / D) (-52) b64.qmin = A * 4503599627370496 / D * 2 ^ 1022 := by
    unfold inUnits; rw [show ((-52 : Int) - b64.qmin).toNat = 1022 by decide]
  rw [e1, e2] at hn
  have hm := Nat.div_add_mod (A * 4503599627370496) D
  have hl := Nat.mod_lt (A * 4503599627370496) hD
  generalize inUnits c q b64.qmin = Z at hn ⊢
  generalize A * 4503599627370496 = N at *
  generalize (2 : Nat) ^ 1022 = U at *
  generalize N / D = k at *
  generalize N % D = m at *
  have e3 : N * U = k * U * D + m * U := by rw [← hm, Nat.add_mul]; congr 1; ac_rfl
  have e4 : m * U ≤ D * U := Nat.mul_le_mul_right _ (by omega)
  rw [← Int.natCast_mul, ← Int.natCast_mul] at hn
  generalize k * U * D = P at *
  generalize m * U = P2 at *
  generalize N * U = P3 at *
  generalize D * U = P4 at *
  generalize Z * D = P5 at *
  omega
theorem own_fin {a d : Int32} (hd : d ≠ 0) : DFin (ddiv (i2d a) (i2d d)) := by
  have h1 := i2d_mag a
  have h2 := i2d_big (int32_ne hd)
  have h3 := ddiv_mag h1 h2.1 (by omega) (by omega)
  exact fin_of_lt (K := 1057) (by omega) (by omega)
theorem own_quot {a d : Int32} (ha : 0 ≤ a.toInt) (hd : 0 < d.toInt) (had : a.toInt ≤ d.toInt) : ∃ Z : Nat, (∃ c q, val64 (ddiv (i2d a) (i2d d)) = .fin false c q) ∧ zval b64 (val64 (ddiv (i2d a) (i2d d))) = (Z : Int) ∧
    a.toInt.toNat * 4503599627370496 * 2 ^ 1022 ≤ Z * d.toInt.toNat + d.toInt.toNat * 2 ^ 1022 ∧ Z * d.toInt.toNat ≤ a.toInt.toNat * 4503599627370496 * 2 ^ 1022 + d.toInt.toNat * 2 ^ 1022 := by
  obtain ⟨c, q, hx, h1⟩ := own_i2d a ha
  obtain ⟨c', r, hy, h2⟩ := own_i2d d (by omega)
  have hr := own_div hx hy h1 h2 (by omega)
  obtain ⟨s, C, Q, hf⟩ := own_fin (a := a) (d := d) (fun h => by rw [h] at hd; exact absurd hd (by decide))
  have hs := sgn_roundRatio b64 false a.toInt.toNat d.toInt.toNat 0
  rw [← hr, hf] at hs
  have hs : s = false := hs
  subst hs
  have hn := own_near (by omega) (by omega) (hr.symm.trans hf)
  exact ⟨inUnits C Q b64.qmin, ⟨C, Q, hf⟩, by rw [hf]; rfl, hn⟩
theorem own_geN {I J D Z W U : Nat} (hD : 0 < D) (h : D ≤ I + J) (a1 : I * 4503599627370496 * U ≤ Z * D + D * U) (b1 : J * 4503599627370496 * U ≤ W * D + D * U) : 4503599627370494 * U ≤ Z + W := by
  refine Nat.le_of_mul_le_mul_right (c := D) ?_ hD
  have h2 := Nat.mul_le_mul_right U h
  rw [Nat.add_mul] at h2
  rw [Nat.mul_right_comm] at a1 b1
  rw [Nat.add_mul, Nat.mul_assoc, Nat.mul_comm U D]
  generalize D * U = P at *
  generalize I * U = P3 at *
  generalize J * U = P4 at *
  generalize Z * D = P1 at *
  generalize W * D = P2 at *
  omega
theorem own_ltN {I J D Z W U : Nat} (hD : 0 < D) (hm : D ≤ 65536) (h : I + J < D) (a1 : Z * D ≤ I * 4503599627370496 * U + D * U) (b1 : W * D ≤ J * 4503599627370496 * U + D * U) : Z + W ≤ 4503599627365992 * U := by
  refine Nat.le_of_mul_le_mul_right (c := D) ?_ hD
  have h2 := Nat.mul_le_mul_right U (Nat.succ_le_of_lt h)
  have h3 := Nat.mul_le_mul_right U hm
  rw [Nat.succ_mul, Nat.add_mul] at h2
  rw [Nat.mul_right_comm] at a1 b1
  rw [Nat.add_mul, Nat.mul_assoc, Nat.mul_comm U D]
  generalize D * U = P at *
  generalize I * U = P3 at *
  generalize J * U = P4 at *
  generalize Z * D = P1 at *
  generalize W * D = P2 at *
  omega
theorem own_K : zval b64 (val64 4607182418800008401) = ((4503599627365992 * 2 ^ 1022 + 2 ^ 1021 : Nat) : Int) := by decide +kernel
theorem own_K2 : zval b64 (val64 4607182418800008400) = ((4503599627365992 * 2 ^ 1022 : Nat) : Int) := by decide +kernel
theorem own_nK : val64 4607182418800008401 ≠ .nan := by decide +kernel
theorem own_nK2 : val64 4607182418800008400 ≠ .nan := by decide +kernel
theorem own_sumfin {i j d : Int32} (hd : d ≠ 0) : DFin (dadd (ddiv (i2d i) (i2d d)) (ddiv (i2d j) (i2d d))) := by
  have h2 := i2d_big (int32_ne hd)
  have h3 := ddiv_mag (i2d_mag i) h2.1 (by omega) (by omega)
  have h4 := ddiv_mag (i2d_mag j) h2.1 (by omega) (by omega)
  have h5 := dadd_mag (a := ddiv (i2d i) (i2d d)) (b := ddiv (i2d j) (i2d d)) (K := 1057) (by omega) (by omega) (by omega)
  exact fin_of_lt (K := 1059) (by omega) (by omega)
theorem own_ge {i j d : Int32} (hi : 0 ≤ i.toInt) (hj : 0 ≤ j.toInt) (hd : 0 < d.toInt) (hid : i.toInt ≤ d.toInt) (hjd : j.toInt ≤ d.toInt)
    (h : d.toInt ≤ i.toInt + j.toInt) : ¬ dcmp (dadd (ddiv (i2d i) (i2d d)) (ddiv (i2d j) (i2d d))) 4607182418800008401 = some .lt := by
  obtain ⟨Z, ⟨c1, q1, f1⟩, z1, a1, a2⟩ := own_quot hi hd hid
  obtain ⟨W, ⟨c2, q2, f2⟩, z2, b1, b2⟩ := own_quot hj hd hjd
  have hfin := own_sumfin (i := i) (j := j) (d := d) (fun h => by rw [h] at hd; exact absurd hd (by decide))
  have hnn : val64 (dadd (ddiv (i2d i) (i2d d)) (ddiv (i2d j) (i2d d))) ≠ .nan := by obtain ⟨s, c, q, h⟩ := hfin; rw [h]; exact Datum.noConfusion
  have hle : zval b64 (val64 4607182418800008401) ≤ zval b64 (val64 (dadd (ddiv (i2d i) (i2d d)) (ddiv (i2d j) (i2d d)))) := by
    rw [val64_dadd]
    refine sum_ge good_b64 ⟨_, _, _, f1⟩ ⟨_, _, _, f2⟩ (val64_fits _) (val64_fits _) (val64_fits _) own_nK ?_
    rw [z1, z2, own_K]
    have key : 4503599627370494 * 2 ^ 1022 ≤ Z + W := own_geN (U := 2 ^ 1022) (by omega) (by omega) a1 b1
    have e1 : 2 ^ 1022 = 2 ^ 1021 + 2 ^ 1021 := by decide +kernel
    rw [← Int.natCast_add]
    refine Int.ofNat_le.mpr (Nat.le_trans ?_ key)
    rw [e1]
    generalize 2 ^ 1021 = V
    omega
  intro hlt
  have ho := order_zval good_b64 (val64_fits (dadd (ddiv (i2d i) (i2d d)) (ddiv (i2d j) (i2d d)))) (val64_fits 4607182418800008401) hnn own_nK
  have : some (compare (zval b64 (val64 (dadd (ddiv (i2d i) (i2d d)) (ddiv (i2d j) (i2d d))))) (zval b64 (val64 4607182418800008401))) = some Ordering.lt := ho.symm.trans hlt
  have := Int.compare_eq_lt.mp (Option.some.inj this)
  omega
theorem own_lt {i j d : Int32} (hi : 0 ≤ i.toInt) (hj : 0 ≤ j.toInt) (hd : 0 < d.toInt) (hid : i.toInt ≤ d.toInt) (hjd : j.toInt ≤ d.toInt) (hdm : d.toInt ≤ 65536)
    (h : i.toInt + j.toInt < d.toInt) : dcmp (dadd (ddiv (i2d i) (i2d d)) (ddiv (i2d j) (i2d d))) 4607182418800008401 = some .lt := by
  obtain ⟨Z, ⟨c1, q1, f1⟩, z1, a1, a2⟩ := own_quot hi hd hid
  obtain ⟨W, ⟨c2, q2, f2⟩, z2, b1, b2⟩ := own_quot hj hd hjd
  have hfin := own_sumfin (i := i) (j := j) (d := d) (fun h => by rw [h] at hd; exact absurd hd (by decide))
  have hnn : val64 (dadd (ddiv (i2d i) (i2d d)) (ddiv (i2d j) (i2d d))) ≠ .nan := by obtain ⟨s, c, q, h⟩ := hfin; rw [h]; exact Datum.noConfusion
  have hle : zval b64 (val64 (dadd (ddiv (i2d i) (i2d d)) (ddiv (i2d j) (i2d d)))) ≤ zval b64 (val64 4607182418800008400) := by
    rw [val64_dadd]
    refine sum_le good_b64 ⟨_, _, _, f1⟩ ⟨_, _, _, f2⟩ (val64_fits _) (val64_fits _) (val64_fits _) own_nK2 ?_
    rw [z1, z2, own_K2]
    have key : Z + W ≤ 4503599627365992 * 2 ^ 1022 := own_ltN (U := 2 ^ 1022) (by omega) (by omega) (by omega) a2 b2
    rw [← Int.natCast_add]
    exact Int.ofNat_le.mpr key
  have ho := order_zval good_b64 (val64_fits (dadd (ddiv (i2d i) (i2d d)) (ddiv (i2d j) (i2d d)))) (val64_fits 4607182418800008401) hnn own_nK
  have hk : zval b64 (val64 4607182418800008400) < zval b64 (val64 4607182418800008401) := by decide +kernel
  exact ho.trans (congrArg some (Int.compare_eq_lt.mpr (by omega)))
open Jvm.Free.Fl in
theorem own_nnq {a d : Int32} (hd : 0 < d.toInt) : NoNaN64 (Jvm.FP.ddiv (Jvm.FP.i2d a) (Jvm.FP.i2d d)) := (fin64_core.mpr (own_fin (fun h => by rw [h] at hd; exact absurd hd (by decide)))).noNaN
open Jvm.Free.Fl in
theorem own_nns {i j d : Int32} (hd : 0 < d.toInt) : NoNaN64 (Jvm.FP.dadd (Jvm.FP.ddiv (Jvm.FP.i2d i) (Jvm.FP.i2d d)) (Jvm.FP.ddiv (Jvm.FP.i2d j) (Jvm.FP.i2d d))) := (fin64_core.mpr (own_sumfin (fun h => by rw [h] at hd; exact absurd hd (by decide)))).noNaN
open Jvm.Free.Fl Jvm Jvm.Op in
theorem own_cge {i j d : Int32} (hi : 0 ≤ i.toInt) (hj : 0 ≤ j.toInt) (hd : 0 < d.toInt) (hid : i.toInt ≤ d.toInt) (hjd : j.toInt ≤ d.toInt) (h : d.toInt ≤ i.toInt + j.toInt) :
    ¬ (cmpValue (Jvm.FP.dcmp (Jvm.FP.dadd (Jvm.FP.ddiv (Jvm.FP.i2d i) (Jvm.FP.i2d d)) (Jvm.FP.ddiv (Jvm.FP.i2d j) (Jvm.FP.i2d d))) (4607182418800008401 : UInt64)) .l) < (0 : Int32) := by
  have h1 : ¬ Jvm.FP.dcmp (Jvm.FP.dadd (Jvm.FP.ddiv (Jvm.FP.i2d i) (Jvm.FP.i2d d)) (Jvm.FP.ddiv (Jvm.FP.i2d j) (Jvm.FP.i2d d))) (4607182418800008401 : UInt64) = some .lt := own_ge hi hj hd hid hjd h
  obtain ⟨o, ho⟩ := dcmp_of_noNaN (own_nns (i := i) (j := j) hd) (show NoNaN64 (4607182418800008401 : UInt64) by unfold NoNaN64; decide +kernel)
  rw [ho] at h1 ⊢
  cases o
  · exact absurd rfl h1
  · decide
  · decide
open Jvm Jvm.Op in
theorem own_clt {i j d : Int32} (hi : 0 ≤ i.toInt) (hj : 0 ≤ j.toInt) (hd : 0 < d.toInt) (hid : i.toInt ≤ d.toInt) (hjd : j.toInt ≤ d.toInt) (hdm : d.toInt ≤ 65536) (h : i.toInt + j.toInt < d.toInt) :
    (cmpValue (Jvm.FP.dcmp (Jvm.FP.dadd (Jvm.FP.ddiv (Jvm.FP.i2d i) (Jvm.FP.i2d d)) (Jvm.FP.ddiv (Jvm.FP.i2d j) (Jvm.FP.i2d d))) (4607182418800008401 : UInt64)) .l) < (0 : Int32) := by
  have h1 : Jvm.FP.dcmp (Jvm.FP.dadd (Jvm.FP.ddiv (Jvm.FP.i2d i) (Jvm.FP.i2d d)) (Jvm.FP.ddiv (Jvm.FP.i2d j) (Jvm.FP.i2d d))) (4607182418800008401 : UInt64) = some .lt := own_lt hi hj hd hid hjd hdm h
  rw [h1]; decide
end Own
namespace Jvm.Pilot.@@N@@
open Jvm Jvm.ClassFile Sem Op Lib Jvm.Free Jvm.Stand Jvm.LawKit Jvm.RoadKit Bundle Jvm.Pilot.@@N@@.Jvm.D
def QV (r : Option Value) (h0 : Heap) (n0 : Nat) (v : Option Value) (h : Heap) (L : List Loc) : Prop := v = r ∧ Fr n0 L ∧ h = h0
def QN (r : Option Value) (n0 : Nat) (v : Option Value) (h : Heap) (L : List Loc) : Prop := v = r ∧ Fr n0 L
section OwnWords
variable {args : Array Value} {first s : State} {o : Option Outcome} {idx : List Nat} {t : Term}
theorem own_eqI {k : Int32} (h : (Jvm.Cond.eq t (.int k)).value args first o s idx = some true) : t.eval args first o idx s = some (.int k) := by
  simp only [Jvm.Cond.value, Term.eval] at h; cases ht : t.eval args first o idx s with | none => simp [ht] at h | some x => cases x <;> simp [ht] at h ⊢; exact h
end OwnWords
theorem own_exa_plain {Z : State} {h : Heap} {a : Addr} {C : String} (F : Exa Z h a C) (c : Cell) (hc : h[a]? = some c) : c.vm.isStatics = false := by
  obtain ⟨cell, k, h1, h2, h3, h4, h5⟩ := F; cases h1.symm.trans hc; exact h4
theorem own_arv_plain {Z : State} {h : Heap} {a : Addr} {k : ClassId} {ty : FieldType} {n : Int32} {vs : List Value} {d : Value} (F : Arv Z h a k ty n vs d) (c : Cell) (hc : h[a]? = some c) : c.vm.isStatics = false := by
  obtain ⟨cell, A, -⟩ := F; cases A.1.symm.trans hc; exact A.plain
theorem own_ext_of_keep {h h' : Heap} {ws : List Addr} (K : Keep h h' ws) (q : ∀ x ∈ ws, h.size ≤ x) : Ext h h' := ⟨K.1, fun a c hc => K.2.1 a c hc fun hm => absurd (Array.getElem?_eq_some_iff.mp hc).1 (Nat.not_lt.mpr (q a hm))⟩
theorem own_fitc {Z : State} {h : Heap} {a : Addr} {c : Cell} {ty : FieldType} {vs : List Value} {d : Value} (A : Arr Z h a c ty) (H : Has c vs d) (G : ∀ i, i < c.slots.size → fits ty (vs.getD i d) = true) : FitC Z c := fun i v hv => by
  obtain ⟨hi, -⟩ := Array.getElem?_eq_some_iff.mp hv
  obtain ⟨hs, k, hk, comp, hkind⟩ := A.2.1
  have e : Z.slotType? c.cls .none i = some ty := by simp [State.slotType?, hk, hkind]
  have ev : v = vs.getD i d := Option.some.inj (hv.symm.trans (H i hi))
  simp only [State.fitsSlot, e]
  rw [ev]; exact G i hi
theorem own_sta_keep {Z : State} {h h' : Heap} {C n d : String} {w : Value} {ws : List Addr} (F : Sta Z h C n d w) (K : Keep h h' ws) (q : ∀ x ∈ ws, ∀ c : Cell, h[x]? = some c → c.vm.isStatics = false) : Sta Z h' C n d w := by
  obtain ⟨cf, i, k, f, st, cell, h1, h2, h3, h4, h5, h6, h7⟩ := F
  exact ⟨cf, i, k, f, st, cell, h1, h2, h3, h4, K.2.1 _ _ h5 (fun hx => by rw [q _ hx _ h5] at h6; cases h6), h6, h7⟩
section OwnWords2
variable {args : Array Value} {s : State} {t u : Term}
theorem own_eqR {a : Addr} (h : (Jvm.Cond.eq t u).value args s none s [] = some true) (hu : u.eval args s none [] s = some (.ref a)) : t.eval args s none [] s = some (.ref a) := by
  simp only [Jvm.Cond.value, hu] at h; cases ht : t.eval args s none [] s with | none => simp [ht] at h | some x => cases x <;> simp [ht] at h ⊢; exact h
theorem own_len {a : Addr} {cl : Cell} {ty : FieldType} {k : Int32} (ev : t.eval args s none [] s = some (.ref a)) (A : Arr s s.heap a cl ty) (h : (Term.length t).eval args s none [] s = some (.int k)) : cl.slots.size < 2 ^ 31 ∧ cl.slots.size.toInt32 = k := by
  have ha := A.fin (Vm.Alike.refl _)
  by_cases hl : cl.slots.size < 2 ^ 31
  · rw [len_f ev ha hl] at h; exact ⟨hl, Value.int.inj (Option.some.inj h)⟩
  · simp [Term.eval, ev, ha, hl] at h
theorem own_elem {a : Addr} {cl : Cell} {ty : FieldType} {k : Int32} {v : Value} (ev : t.eval args s none [] s = some (.ref a)) (A : Arr s s.heap a cl ty) (h : (Term.elem t (.int k)).eval args s none [] s = some v) : cl.slots[k.toNatClampNeg]? = some v := (elem_in h ev (Term.int_eval k) A.1).2
end OwnWords2
open Jvm.Free.Fl
theorem own_d_prog_67_method_2_code_0 : decode prog_67_method_2_code 0 = .ok (.dload_n 0, 1) := by decide +kernel
theorem own_d_prog_67_method_2_code_1 : decode prog_67_method_2_code 1 = .ok (.dload_n 2, 1) := by decide +kernel
theorem own_d_prog_67_method_2_code_2 : decode prog_67_method_2_code 2 = .ok (.dadd, 1) := by decide +kernel
theorem own_d_prog_67_method_2_code_3 : decode prog_67_method_2_code 3 = .ok (.ldc2_w 65, 3) := by decide +kernel
theorem own_d_prog_67_method_2_code_6 : decode prog_67_method_2_code 6 = .ok (.dcmp .l, 1) := by decide +kernel
theorem own_d_prog_67_method_2_code_7 : decode prog_67_method_2_code 7 = .ok (.ifCond .lt 7, 3) := by decide +kernel
theorem own_d_prog_67_method_2_code_14 : decode prog_67_method_2_code 14 = .ok (.iconst 0, 1) := by decide +kernel
theorem own_d_prog_67_method_2_code_15 : decode prog_67_method_2_code 15 = .ok (.ireturn, 1) := by decide +kernel
theorem own_pn_com_example_isolint_isolint_predict_RateModel : plainName "com/example/isolint/isolint/predict/RateModel" = true := by first | (simp [plainName, overriddenIn]; done) | decide +kernel
theorem own_d_prog_67_method_2_code_10 : decode prog_67_method_2_code 10 = .ok (.iconst 1, 1) := by decide +kernel
theorem own_d_prog_67_method_2_code_11 : decode prog_67_method_2_code 11 = .ok (.goto 4, 3) := by decide +kernel
theorem own_pd__DD_Z : parseMethodDescriptor "(DD)Z" = some ⟨[.double, .double], some .boolean⟩ := by decide +kernel
theorem own_pn_com_example_isolint_isolint_predict_RateModelReadsValueAInTransactionPinLaw : plainName "com/example/isolint/isolint/predict/RateModelReadsValueAInTransactionPinLaw" = true := by first | (simp [plainName, overriddenIn]; done) | decide +kernel
theorem own_ef_own_rd_0 (m : MethodId) {x0 : UInt64} {x1 : UInt64} : entryFrame m #[(.double x0), (.double x1)] 4 = mkF m 0 #[.val (.double x0), .second, .val (.double x1), .second] [] := by first | (simp [entryFrame, mkF, argsToLocals, Value.category, maxLocals]; done) | rfl
set_option maxRecDepth 65536 in
set_option maxHeartbeats 40000000 in
theorem own_rd_0 (l : Launch) (Z : State) (a0 : Array Value) (hw : ∀ d ∈ tables_1, d.before a0 Z = true) (ws : List Jvm.Cond) (h0 : Heap) (n0 : Nat) (Z0 : n0 ≤ h0.size) (u1 u2 : UInt64) (hn : NoNaN64 (FP.dadd u1 u2)) (hc : (cmpValue (FP.dcmp (FP.dadd u1 u2) (4607182418800008401 : UInt64)) .l) < (0 : Int32))  :
    MetFree l (⟨"com/example/isolint/isolint/predict/RateModel", "readsValueAInTransaction", "(DD)Z"⟩ : MethodName) (head1 (Jvm.Cond.code (⟨"com/example/isolint/isolint/predict/RateModel", "readsValueAInTransaction", "(DD)Z"⟩ : MethodName) prog_67_method_2_code 4 (some .boolean) :: ws) ({ frames := 0, cells := 0, slots := 0, locals := 0 } : Room)) (fun a U => a = #[(.double u1), (.double u2)] ∧ Z.Warmed39 U.vm ∧ U.heap = h0) (fun _ _ _ _ _ => True) (fun _ U o U' => ∃ v L, o = .returned v ∧ QV (some (.int (0 : Int32))) h0 n0 v U'.heap L ∧ FrameEnd U o U' L ({ frames := 0, cells := 0, slots := 0, locals := 0 } : Room).cells ({ frames := 0, cells := 0, slots := 0, locals := 0 } : Room).slots) := by
  refine MetFree.of_bodySF (plainFor_of_name own_pn_com_example_isolint_isolint_predict_RateModel) hisR ?_
  intro p e s m args below meth c s₁ Bd hml0 hP hK
  obtain ⟨rfl, hZ, hh⟩ := hP
  have hx := Bd.exec
  have hby := Bd.bytes
  have hml : c.maxLocals = 4 := hml0
  have hown : s.vm.findClass "com/example/isolint/isolint/predict/RateModel" = some m.cls := (findClass_of_methodNamed Bd.named :)
  have hnm := (name_of_methodNamed Bd.named Bd.method).1
  have X0 : Stand p l e ({ frames := 0, cells := 0, slots := 0, locals := 0 } : Room) s m #[(.double u1), (.double u2)] below meth c s₁ [] 0 0 := Stand.of_body Bd
  have e0 : s₁.heap = h0 := by rw [← hh, Bd.state]; rfl
  have N0 := Fr.nil n0
  have pre0 : ∀ t, Steps p.tables e below (s₁.setTop (mkF m 0 #[.val (.double u1), .second, .val (.double u2), .second] [])) t → Steps p.tables e below (s₁.setTop (entryFrame m #[(.double u1), (.double u2)] 4)) t := fun t k => castTop (own_ef_own_rd_0 m) k
  have ch1 : ∀ t, Steps p.tables e below (s₁.setTop (mkF m 15 #[.val (.double u1), .second, .val (.double u2), .second] [(.int (0 : Int32))])) t → Steps p.tables e below (s₁.setTop (entryFrame m #[(.double u1), (.double u2)] 4)) t := fun t k => pre0 t (by
      show Steps p.tables e below (s₁.setTop (mkF m 0 #[.val (.double u1), .second, .val (.double u2), .second] [])) t
      refine XS.dloadN X0.here hx rfl (hb hby own_d_prog_67_method_2_code_0) rfl ?_
      show Steps p.tables e below (s₁.setTop (mkF m 1 #[.val (.double u1), .second, .val (.double u2), .second] [(.double u1)])) t
      refine XS.dloadN X0.here hx rfl (hb hby own_d_prog_67_method_2_code_1) rfl ?_
      show Steps p.tables e below (s₁.setTop (mkF m 2 #[.val (.double u1), .second, .val (.double u2), .second] [(.double u2), (.double u1)])) t
      refine XS.daddS X0.here hx rfl (hb hby own_d_prog_67_method_2_code_2) rfl hn rfl ?_
      show Steps p.tables e below (s₁.setTop (mkF m 3 #[.val (.double u1), .second, .val (.double u2), .second] [(.double (FP.dadd u1 u2))])) t
      refine X0.ldc2DoubleC hx hown (mvT hZ (hw _ (List.mem_of_getElem? (i := 6) rfl))) (g := (mkF m 3 #[.val (.double u1), .second, .val (.double u2), .second] [(.double (FP.dadd u1 u2))])) rfl (hb hby own_d_prog_67_method_2_code_3) _ ?_
      show Steps p.tables e below (s₁.setTop (mkF m 6 #[.val (.double u1), .second, .val (.double u2), .second] [(.double (4607182418800008401 : UInt64)), (.double (FP.dadd u1 u2))])) t
      refine XS.dcmpS X0.here hx rfl (hb hby own_d_prog_67_method_2_code_6) rfl rfl ?_
      show Steps p.tables e below (s₁.setTop (mkF m 7 #[.val (.double u1), .second, .val (.double u2), .second] [(.int (cmpValue (FP.dcmp (FP.dadd u1 u2) (4607182418800008401 : UInt64)) .l))])) t
      refine XS.ifYes X0.here hx rfl (pc0 := 7) (pc' := 14) rfl (hb hby own_d_prog_67_method_2_code_7) rfl ((if0 _ _).trans (tlt hc).1) (by decide) (by decide) ?_
      show Steps p.tables e below (s₁.setTop (mkF m 14 #[.val (.double u1), .second, .val (.double u2), .second] [])) t
      refine XS.iconst X0.here hx rfl (hb hby own_d_prog_67_method_2_code_14) ?_
      exact k)
  obtain ⟨fs, hr, hrun, hended, hW, hsame⟩ := X0.leave (v := some (.int (0 : Int32))) (fun h => by rw [Bd.returns] at h; cases h)
  refine ⟨_, _, ch1 _ ?_, hrun, hended, _, _, rfl, ?_, ⟨_, rfl⟩, hW, hsame.mono (by decide) (by decide)⟩
  · show Steps p.tables e below (s₁.setTop (mkF m 15 #[.val (.double u1), .second, .val (.double u2), .second] [(.int (0 : Int32))])) _
    exact retN X0 hx (t := .boolean) Bd.returns (by simp) (hb hby own_d_prog_67_method_2_code_15) hr
  · show QV (some (.int (0 : Int32))) h0 n0 _ s₁.heap _
    rw [e0]
    exact ⟨rfl, N0, rfl⟩
theorem own_ef_own_rd_1 (m : MethodId) {x0 : UInt64} {x1 : UInt64} : entryFrame m #[(.double x0), (.double x1)] 4 = mkF m 0 #[.val (.double x0), .second, .val (.double x1), .second] [] := by first | (simp [entryFrame, mkF, argsToLocals, Value.category, maxLocals]; done) | rfl
set_option maxRecDepth 65536 in
set_option maxHeartbeats 40000000 in
theorem own_rd_1 (l : Launch) (Z : State) (a0 : Array Value) (hw : ∀ d ∈ tables_1, d.before a0 Z = true) (ws : List Jvm.Cond) (h0 : Heap) (n0 : Nat) (Z0 : n0 ≤ h0.size) (u1 u2 : UInt64) (hn : NoNaN64 (FP.dadd u1 u2)) (hc : ¬ (cmpValue (FP.dcmp (FP.dadd u1 u2) (4607182418800008401 : UInt64)) .l) < (0 : Int32))  :
    MetFree l (⟨"com/example/isolint/isolint/predict/RateModel", "readsValueAInTransaction", "(DD)Z"⟩ : MethodName) (head1 (Jvm.Cond.code (⟨"com/example/isolint/isolint/predict/RateModel", "readsValueAInTransaction", "(DD)Z"⟩ : MethodName) prog_67_method_2_code 4 (some .boolean) :: ws) ({ frames := 0, cells := 0, slots := 0, locals := 0 } : Room)) (fun a U => a = #[(.double u1), (.double u2)] ∧ Z.Warmed39 U.vm ∧ U.heap = h0) (fun _ _ _ _ _ => True) (fun _ U o U' => ∃ v L, o = .returned v ∧ QV (some (.int (1 : Int32))) h0 n0 v U'.heap L ∧ FrameEnd U o U' L ({ frames := 0, cells := 0, slots := 0, locals := 0 } : Room).cells ({ frames := 0, cells := 0, slots := 0, locals := 0 } : Room).slots) := by
  refine MetFree.of_bodySF (plainFor_of_name own_pn_com_example_isolint_isolint_predict_RateModel) hisR ?_
  intro p e s m args below meth c s₁ Bd hml0 hP hK
  obtain ⟨rfl, hZ, hh⟩ := hP
  have hx := Bd.exec
  have hby := Bd.bytes
  have hml : c.maxLocals = 4 := hml0
  have hown : s.vm.findClass "com/example/isolint/isolint/predict/RateModel" = some m.cls := (findClass_of_methodNamed Bd.named :)
  have hnm := (name_of_methodNamed Bd.named Bd.method).1
  have X0 : Stand p l e ({ frames := 0, cells := 0, slots := 0, locals := 0 } : Room) s m #[(.double u1), (.double u2)] below meth c s₁ [] 0 0 := Stand.of_body Bd
  have e0 : s₁.heap = h0 := by rw [← hh, Bd.state]; rfl
  have N0 := Fr.nil n0
  have pre0 : ∀ t, Steps p.tables e below (s₁.setTop (mkF m 0 #[.val (.double u1), .second, .val (.double u2), .second] [])) t → Steps p.tables e below (s₁.setTop (entryFrame m #[(.double u1), (.double u2)] 4)) t := fun t k => castTop (own_ef_own_rd_1 m) k
  have ch1 : ∀ t, Steps p.tables e below (s₁.setTop (mkF m 15 #[.val (.double u1), .second, .val (.double u2), .second] [(.int (1 : Int32))])) t → Steps p.tables e below (s₁.setTop (entryFrame m #[(.double u1), (.double u2)] 4)) t := fun t k => pre0 t (by
      show Steps p.tables e below (s₁.setTop (mkF m 0 #[.val (.double u1), .second, .val (.double u2), .second] [])) t
      refine XS.dloadN X0.here hx rfl (hb hby own_d_prog_67_method_2_code_0) rfl ?_
      show Steps p.tables e below (s₁.setTop (mkF m 1 #[.val (.double u1), .second, .val (.double u2), .second] [(.double u1)])) t
      refine XS.dloadN X0.here hx rfl (hb hby own_d_prog_67_method_2_code_1) rfl ?_
      show Steps p.tables e below (s₁.setTop (mkF m 2 #[.val (.double u1), .second, .val (.double u2), .second] [(.double u2), (.double u1)])) t
      refine XS.daddS X0.here hx rfl (hb hby own_d_prog_67_method_2_code_2) rfl hn rfl ?_
      show Steps p.tables e below (s₁.setTop (mkF m 3 #[.val (.double u1), .second, .val (.double u2), .second] [(.double (FP.dadd u1 u2))])) t
      refine X0.ldc2DoubleC hx hown (mvT hZ (hw _ (List.mem_of_getElem? (i := 6) rfl))) (g := (mkF m 3 #[.val (.double u1), .second, .val (.double u2), .second] [(.double (FP.dadd u1 u2))])) rfl (hb hby own_d_prog_67_method_2_code_3) _ ?_
      show Steps p.tables e below (s₁.setTop (mkF m 6 #[.val (.double u1), .second, .val (.double u2), .second] [(.double (4607182418800008401 : UInt64)), (.double (FP.dadd u1 u2))])) t
      refine XS.dcmpS X0.here hx rfl (hb hby own_d_prog_67_method_2_code_6) rfl rfl ?_
      show Steps p.tables e below (s₁.setTop (mkF m 7 #[.val (.double u1), .second, .val (.double u2), .second] [(.int (cmpValue (FP.dcmp (FP.dadd u1 u2) (4607182418800008401 : UInt64)) .l))])) t
      refine XS.ifNo X0.here hx rfl (hb hby own_d_prog_67_method_2_code_7) rfl ((if0 _ _).trans (flt hc).1) ?_
      show Steps p.tables e below (s₁.setTop (mkF m 10 #[.val (.double u1), .second, .val (.double u2), .second] [])) t
      refine XS.iconst X0.here hx rfl (hb hby own_d_prog_67_method_2_code_10) ?_
      show Steps p.tables e below (s₁.setTop (mkF m 11 #[.val (.double u1), .second, .val (.double u2), .second] [(.int (1 : Int32))])) t
      refine XS.goto X0.here hx rfl (pc0 := 11) (pc' := 15) rfl (hb hby own_d_prog_67_method_2_code_11) (by decide) (by decide) ?_
      exact k)
  obtain ⟨fs, hr, hrun, hended, hW, hsame⟩ := X0.leave (v := some (.int (1 : Int32))) (fun h => by rw [Bd.returns] at h; cases h)
  refine ⟨_, _, ch1 _ ?_, hrun, hended, _, _, rfl, ?_, ⟨_, rfl⟩, hW, hsame.mono (by decide) (by decide)⟩
  · show Steps p.tables e below (s₁.setTop (mkF m 15 #[.val (.double u1), .second, .val (.double u2), .second] [(.int (1 : Int32))])) _
    exact retN X0 hx (t := .boolean) Bd.returns (by simp) (hb hby own_d_prog_67_method_2_code_15) hr
  · show QV (some (.int (1 : Int32))) h0 n0 _ s₁.heap _
    rw [e0]
    exact ⟨rfl, N0, rfl⟩
theorem own_ef_own_law_0 (m : MethodId) {x0 : Int32} {x1 : Int32} {x2 : Int32} : entryFrame m #[(.int x0), (.int x1), (.int x2)] maxLocals = mkF m 0 #[.val (.int x0), .val (.int x1), .val (.int x2), .unset, .unset, .unset, .unset, .unset, .unset, .unset, .unset] [] := by first | (simp [entryFrame, mkF, argsToLocals, Value.category, maxLocals]; done) | rfl
set_option maxRecDepth 65536 in
set_option maxHeartbeats 40000000 in
theorem own_law_0 (l : Launch) (Z : State) (a0 : Array Value) (hw : ∀ d ∈ tables_1, d.before a0 Z = true) (ws : List Jvm.Cond) (h0 : Heap) (n0 : Nat) (Z0 : n0 ≤ h0.size) (p1 p2 p3 i j d : Int32) (hd : ((1 : Int32) + (p1 &&& (65535 : Int32))) = d) (hi : ((p2 &&& (2147483647 : Int32)) % (d + (1 : Int32))) = i) (hj : ((p3 &&& (2147483647 : Int32)) % (d + (1 : Int32))) = j) (hnz : (d + (1 : Int32)) ≠ 0) (hlt : (i + j) < d) (n1 : NoNaN64 (FP.ddiv (FP.i2d i) (FP.i2d d))) (n2 : NoNaN64 (FP.ddiv (FP.i2d j) (FP.i2d d))) (n3 : NoNaN64 (FP.dadd (FP.ddiv (FP.i2d i) (FP.i2d d)) (FP.ddiv (FP.i2d j) (FP.i2d d)))) (hc : (cmpValue (FP.dcmp (FP.dadd (FP.ddiv (FP.i2d i) (FP.i2d d)) (FP.ddiv (FP.i2d j) (FP.i2d d))) (4607182418800008401 : UInt64)) .l) < (0 : Int32)) :
    MetFree l x (head1 (Jvm.Cond.code x code maxLocals ret :: ws) room_1) (fun a U => a = #[(.int p1), (.int p2), (.int p3)] ∧ Z.Warmed39 U.vm ∧ U.heap = h0) (fun _ _ _ _ _ => True) (fun _ U o U' => ∃ v L, o = .returned v ∧ QN (some (.int (1 : Int32))) n0 v U'.heap L ∧ FrameEnd U o U' L room_1.cells room_1.slots) := by
  refine MetFree.of_bodySF (plainFor_of_name own_pn_com_example_isolint_isolint_predict_RateModelReadsValueAInTransactionPinLaw) hisR ?_
  intro p e s m args below meth c s₁ Bd hml0 hP hK
  obtain ⟨rfl, hZ, hh⟩ := hP
  have hx := Bd.exec
  have hby := Bd.bytes
  have hml : c.maxLocals = 11 := hml0
  have hown : s.vm.findClass "com/example/isolint/isolint/predict/RateModelReadsValueAInTransactionPinLaw" = some m.cls := (findClass_of_methodNamed Bd.named :)
  have hnm := (name_of_methodNamed Bd.named Bd.method).1
  have X0 : Stand p l e room_1 s m #[(.int p1), (.int p2), (.int p3)] below meth c s₁ [] 0 0 := Stand.of_body Bd
  have e0 : s₁.heap = h0 := by rw [← hh, Bd.state]; rfl
  have N0 := Fr.nil n0
  have pre0 : ∀ t, Steps p.tables e below (s₁.setTop (mkF m 0 #[.val (.int p1), .val (.int p2), .val (.int p3), .unset, .unset, .unset, .unset, .unset, .unset, .unset, .unset] [])) t → Steps p.tables e below (s₁.setTop (entryFrame m #[(.int p1), (.int p2), (.int p3)] maxLocals)) t := fun t k => castTop (own_ef_own_law_0 m) k
  obtain ⟨vv1, _, ⟨T1, L1, kk1, nn1⟩, -, X1, ⟨Lc1, hQ1, l1, y1, z1⟩, st1⟩ := Jvm.LawKit.callS X0 hx (y := (⟨"com/example/isolint/isolint/predict/RateModel", "readsValueAInTransaction", "(DD)Z"⟩ : MethodName)) hown (mvT hZ (hw _ (List.mem_of_getElem? (i := 2) rfl))) (mvT hZ (hw _ (List.mem_of_getElem? (i := 3) rfl))) (mvT hZ (hw _ (List.mem_of_getElem? (i := 4) rfl))) (mvT hZ (hw _ (List.mem_of_getElem? (i := 5) rfl))) (by decide) (backOf (W := 0) (own_rd_0 l Z a0 hw [] h0 n0 Z0  (FP.ddiv (FP.i2d i) (FP.i2d d)) (FP.ddiv (FP.i2d j) (FP.i2d d)) n3 hc) hZ (hw _ (List.mem_of_getElem? (i := 5) rfl)) (hw _ (List.mem_of_getElem? (i := 4) rfl)) (by decide) (by decide)) (g := (mkF m 63 #[.val (.int p1), .val (.int p2), .val (.int p3), .val (.int d), .val (.int i), .val (.int j), .val (.double (FP.ddiv (FP.i2d i) (FP.i2d d))), .second, .val (.double (FP.ddiv (FP.i2d j) (FP.i2d d))), .second, .val (.int (0 : Int32))] [(.double (FP.ddiv (FP.i2d j) (FP.i2d d))), (.double (FP.ddiv (FP.i2d i) (FP.i2d d)))])) rfl (by rw [hml]; rfl) (argsL := [(.double (FP.ddiv (FP.i2d i) (FP.i2d d))), (.double (FP.ddiv (FP.i2d j) (FP.i2d d)))]) (rest := []) (lenOf own_pd__DD_Z rfl) rfl (by show 2 * 0 + _ ≤ _; exact Nat.le_of_eq rfl) (hb hby at_63) (fun _ _ => ⟨rfl, e0, (by decide : 0 + 0 ≤ _), (by decide : 0 + 0 ≤ _)⟩)
  dsimp only [Pt.U, Pt.locs, Pt.cells, Pt.slots] at X1 l1 y1 z1 st1 hQ1
  subst l1 y1 z1
  obtain ⟨rfl, Nq1, e1⟩ := hQ1
  have N1 := Fr.app N0 Nq1
  have ch2 : ∀ t, Steps p.tables e below (T1.setTop (mkF m 66 #[.val (.int p1), .val (.int p2), .val (.int p3), .val (.int d), .val (.int i), .val (.int j), .val (.double (FP.ddiv (FP.i2d i) (FP.i2d d))), .second, .val (.double (FP.ddiv (FP.i2d j) (FP.i2d d))), .second, .val (.int (0 : Int32))] [(.int (0 : Int32))])) t → Steps p.tables e below (s₁.setTop (entryFrame m #[(.int p1), (.int p2), (.int p3)] maxLocals)) t := fun t k => pre0 t (by
      show Steps p.tables e below (s₁.setTop (mkF m 0 #[.val (.int p1), .val (.int p2), .val (.int p3), .unset, .unset, .unset, .unset, .unset, .unset, .unset, .unset] [])) t
      refine XS.iconst X0.here hx rfl (hb hby at_0) ?_
      show Steps p.tables e below (s₁.setTop (mkF m 1 #[.val (.int p1), .val (.int p2), .val (.int p3), .unset, .unset, .unset, .unset, .unset, .unset, .unset, .unset] [(.int (1 : Int32))])) t
      refine XS.iloadN X0.here hx rfl (hb hby at_1) rfl ?_
      show Steps p.tables e below (s₁.setTop (mkF m 2 #[.val (.int p1), .val (.int p2), .val (.int p3), .unset, .unset, .unset, .unset, .unset, .unset, .unset, .unset] [(.int p1), (.int (1 : Int32))])) t
      refine X0.ldcInt hx hown (mvT hZ (hw _ (List.mem_of_getElem? (i := 0) rfl))) (g := (mkF m 2 #[.val (.int p1), .val (.int p2), .val (.int p3), .unset, .unset, .unset, .unset, .unset, .unset, .unset, .unset] [(.int p1), (.int (1 : Int32))])) rfl (hb hby at_2) _ ?_
      show Steps p.tables e below (s₁.setTop (mkF m 4 #[.val (.int p1), .val (.int p2), .val (.int p3), .unset, .unset, .unset, .unset, .unset, .unset, .unset, .unset] [(.int (65535 : Int32)), (.int p1), (.int (1 : Int32))])) t
      refine XS.iand X0.here hx rfl (hb hby at_4) rfl ?_
      show Steps p.tables e below (s₁.setTop (mkF m 5 #[.val (.int p1), .val (.int p2), .val (.int p3), .unset, .unset, .unset, .unset, .unset, .unset, .unset, .unset] [(.int (p1 &&& (65535 : Int32))), (.int (1 : Int32))])) t
      refine XS.iadd X0.here hx rfl (hb hby at_5) rfl ?_
      rw [hd]
      show Steps p.tables e below (s₁.setTop (mkF m 6 #[.val (.int p1), .val (.int p2), .val (.int p3), .unset, .unset, .unset, .unset, .unset, .unset, .unset, .unset] [(.int d)])) t
      refine XS.istoreN X0.here hx rfl (hb hby at_6) rfl (l' := #[.val (.int p1), .val (.int p2), .val (.int p3), .val (.int d), .unset, .unset, .unset, .unset, .unset, .unset, .unset]) rfl ?_
      show Steps p.tables e below (s₁.setTop (mkF m 7 #[.val (.int p1), .val (.int p2), .val (.int p3), .val (.int d), .unset, .unset, .unset, .unset, .unset, .unset, .unset] [])) t
      refine XS.iloadN X0.here hx rfl (hb hby at_7) rfl ?_
      show Steps p.tables e below (s₁.setTop (mkF m 8 #[.val (.int p1), .val (.int p2), .val (.int p3), .val (.int d), .unset, .unset, .unset, .unset, .unset, .unset, .unset] [(.int p2)])) t
      refine X0.ldcInt hx hown (mvT hZ (hw _ (List.mem_of_getElem? (i := 1) rfl))) (g := (mkF m 8 #[.val (.int p1), .val (.int p2), .val (.int p3), .val (.int d), .unset, .unset, .unset, .unset, .unset, .unset, .unset] [(.int p2)])) rfl (hb hby at_8) _ ?_
      show Steps p.tables e below (s₁.setTop (mkF m 10 #[.val (.int p1), .val (.int p2), .val (.int p3), .val (.int d), .unset, .unset, .unset, .unset, .unset, .unset, .unset] [(.int (2147483647 : Int32)), (.int p2)])) t
      refine XS.iand X0.here hx rfl (hb hby at_10) rfl ?_
      show Steps p.tables e below (s₁.setTop (mkF m 11 #[.val (.int p1), .val (.int p2), .val (.int p3), .val (.int d), .unset, .unset, .unset, .unset, .unset, .unset, .unset] [(.int (p2 &&& (2147483647 : Int32)))])) t
      refine XS.iloadN X0.here hx rfl (hb hby at_11) rfl ?_
      show Steps p.tables e below (s₁.setTop (mkF m 12 #[.val (.int p1), .val (.int p2), .val (.int p3), .val (.int d), .unset, .unset, .unset, .unset, .unset, .unset, .unset] [(.int d), (.int (p2 &&& (2147483647 : Int32)))])) t
      refine XS.iconst X0.here hx rfl (hb hby at_12) ?_
      show Steps p.tables e below (s₁.setTop (mkF m 13 #[.val (.int p1), .val (.int p2), .val (.int p3), .val (.int d), .unset, .unset, .unset, .unset, .unset, .unset, .unset] [(.int (1 : Int32)), (.int d), (.int (p2 &&& (2147483647 : Int32)))])) t
      refine XS.iadd X0.here hx rfl (hb hby at_13) rfl ?_
      show Steps p.tables e below (s₁.setTop (mkF m 14 #[.val (.int p1), .val (.int p2), .val (.int p3), .val (.int d), .unset, .unset, .unset, .unset, .unset, .unset, .unset] [(.int (d + (1 : Int32))), (.int (p2 &&& (2147483647 : Int32)))])) t
      refine Jvm.RoadKit.iremM (g := (mkF m 14 #[.val (.int p1), .val (.int p2), .val (.int p3), .val (.int d), .unset, .unset, .unset, .unset, .unset, .unset, .unset] [(.int (d + (1 : Int32))), (.int (p2 &&& (2147483647 : Int32)))])) X0 hx rfl (hb hby at_14) rfl hnz ?_
      rw [hi]
      show Steps p.tables e below (s₁.setTop (mkF m 15 #[.val (.int p1), .val (.int p2), .val (.int p3), .val (.int d), .unset, .unset, .unset, .unset, .unset, .unset, .unset] [(.int i)])) t
      refine XS.istore X0.here hx rfl (hb hby at_15) rfl (l' := #[.val (.int p1), .val (.int p2), .val (.int p3), .val (.int d), .val (.int i), .unset, .unset, .unset, .unset, .unset, .unset]) rfl ?_
      show Steps p.tables e below (s₁.setTop (mkF m 17 #[.val (.int p1), .val (.int p2), .val (.int p3), .val (.int d), .val (.int i), .unset, .unset, .unset, .unset, .unset, .unset] [])) t
      refine XS.iloadN X0.here hx rfl (hb hby at_17) rfl ?_
      show Steps p.tables e below (s₁.setTop (mkF m 18 #[.val (.int p1), .val (.int p2), .val (.int p3), .val (.int d), .val (.int i), .unset, .unset, .unset, .unset, .unset, .unset] [(.int p3)])) t
      refine X0.ldcInt hx hown (mvT hZ (hw _ (List.mem_of_getElem? (i := 1) rfl))) (g := (mkF m 18 #[.val (.int p1), .val (.int p2), .val (.int p3), .val (.int d), .val (.int i), .unset, .unset, .unset, .unset, .unset, .unset] [(.int p3)])) rfl (hb hby at_18) _ ?_
      show Steps p.tables e below (s₁.setTop (mkF m 20 #[.val (.int p1), .val (.int p2), .val (.int p3), .val (.int d), .val (.int i), .unset, .unset, .unset, .unset, .unset, .unset] [(.int (2147483647 : Int32)), (.int p3)])) t
      refine XS.iand X0.here hx rfl (hb hby at_20) rfl ?_
      show Steps p.tables e below (s₁.setTop (mkF m 21 #[.val (.int p1), .val (.int p2), .val (.int p3), .val (.int d), .val (.int i), .unset, .unset, .unset, .unset, .unset, .unset] [(.int (p3 &&& (2147483647 : Int32)))])) t
      refine XS.iloadN X0.here hx rfl (hb hby at_21) rfl ?_
      show Steps p.tables e below (s₁.setTop (mkF m 22 #[.val (.int p1), .val (.int p2), .val (.int p3), .val (.int d), .val (.int i), .unset, .unset, .unset, .unset, .unset, .unset] [(.int d), (.int (p3 &&& (2147483647 : Int32)))])) t
      refine XS.iconst X0.here hx rfl (hb hby at_22) ?_
      show Steps p.tables e below (s₁.setTop (mkF m 23 #[.val (.int p1), .val (.int p2), .val (.int p3), .val (.int d), .val (.int i), .unset, .unset, .unset, .unset, .unset, .unset] [(.int (1 : Int32)), (.int d), (.int (p3 &&& (2147483647 : Int32)))])) t
      refine XS.iadd X0.here hx rfl (hb hby at_23) rfl ?_
      show Steps p.tables e below (s₁.setTop (mkF m 24 #[.val (.int p1), .val (.int p2), .val (.int p3), .val (.int d), .val (.int i), .unset, .unset, .unset, .unset, .unset, .unset] [(.int (d + (1 : Int32))), (.int (p3 &&& (2147483647 : Int32)))])) t
      refine Jvm.RoadKit.iremM (g := (mkF m 24 #[.val (.int p1), .val (.int p2), .val (.int p3), .val (.int d), .val (.int i), .unset, .unset, .unset, .unset, .unset, .unset] [(.int (d + (1 : Int32))), (.int (p3 &&& (2147483647 : Int32)))])) X0 hx rfl (hb hby at_24) rfl hnz ?_
      rw [hj]
      show Steps p.tables e below (s₁.setTop (mkF m 25 #[.val (.int p1), .val (.int p2), .val (.int p3), .val (.int d), .val (.int i), .unset, .unset, .unset, .unset, .unset, .unset] [(.int j)])) t
      refine XS.istore X0.here hx rfl (hb hby at_25) rfl (l' := #[.val (.int p1), .val (.int p2), .val (.int p3), .val (.int d), .val (.int i), .val (.int j), .unset, .unset, .unset, .unset, .unset]) rfl ?_
      show Steps p.tables e below (s₁.setTop (mkF m 27 #[.val (.int p1), .val (.int p2), .val (.int p3), .val (.int d), .val (.int i), .val (.int j), .unset, .unset, .unset, .unset, .unset] [])) t
      refine XS.iload X0.here hx rfl (hb hby at_27) rfl ?_
      show Steps p.tables e below (s₁.setTop (mkF m 29 #[.val (.int p1), .val (.int p2), .val (.int p3), .val (.int d), .val (.int i), .val (.int j), .unset, .unset, .unset, .unset, .unset] [(.int i)])) t
      refine XS.i2dS X0.here hx rfl (hb hby at_29) rfl rfl ?_
      show Steps p.tables e below (s₁.setTop (mkF m 30 #[.val (.int p1), .val (.int p2), .val (.int p3), .val (.int d), .val (.int i), .val (.int j), .unset, .unset, .unset, .unset, .unset] [(.double (FP.i2d i))])) t
      refine XS.iloadN X0.here hx rfl (hb hby at_30) rfl ?_
      show Steps p.tables e below (s₁.setTop (mkF m 31 #[.val (.int p1), .val (.int p2), .val (.int p3), .val (.int d), .val (.int i), .val (.int j), .unset, .unset, .unset, .unset, .unset] [(.int d), (.double (FP.i2d i))])) t
      refine XS.i2dS X0.here hx rfl (hb hby at_31) rfl rfl ?_
      show Steps p.tables e below (s₁.setTop (mkF m 32 #[.val (.int p1), .val (.int p2), .val (.int p3), .val (.int d), .val (.int i), .val (.int j), .unset, .unset, .unset, .unset, .unset] [(.double (FP.i2d d)), (.double (FP.i2d i))])) t
      refine XS.ddivS X0.here hx rfl (hb hby at_32) rfl n1 rfl ?_
      show Steps p.tables e below (s₁.setTop (mkF m 33 #[.val (.int p1), .val (.int p2), .val (.int p3), .val (.int d), .val (.int i), .val (.int j), .unset, .unset, .unset, .unset, .unset] [(.double (FP.ddiv (FP.i2d i) (FP.i2d d)))])) t
      refine XS.dstore X0.here hx rfl (hb hby at_33) rfl (l' := #[.val (.int p1), .val (.int p2), .val (.int p3), .val (.int d), .val (.int i), .val (.int j), .val (.double (FP.ddiv (FP.i2d i) (FP.i2d d))), .second, .unset, .unset, .unset]) rfl ?_
      show Steps p.tables e below (s₁.setTop (mkF m 35 #[.val (.int p1), .val (.int p2), .val (.int p3), .val (.int d), .val (.int i), .val (.int j), .val (.double (FP.ddiv (FP.i2d i) (FP.i2d d))), .second, .unset, .unset, .unset] [])) t
      refine XS.iload X0.here hx rfl (hb hby at_35) rfl ?_
      show Steps p.tables e below (s₁.setTop (mkF m 37 #[.val (.int p1), .val (.int p2), .val (.int p3), .val (.int d), .val (.int i), .val (.int j), .val (.double (FP.ddiv (FP.i2d i) (FP.i2d d))), .second, .unset, .unset, .unset] [(.int j)])) t
      refine XS.i2dS X0.here hx rfl (hb hby at_37) rfl rfl ?_
      show Steps p.tables e below (s₁.setTop (mkF m 38 #[.val (.int p1), .val (.int p2), .val (.int p3), .val (.int d), .val (.int i), .val (.int j), .val (.double (FP.ddiv (FP.i2d i) (FP.i2d d))), .second, .unset, .unset, .unset] [(.double (FP.i2d j))])) t
      refine XS.iloadN X0.here hx rfl (hb hby at_38) rfl ?_
      show Steps p.tables e below (s₁.setTop (mkF m 39 #[.val (.int p1), .val (.int p2), .val (.int p3), .val (.int d), .val (.int i), .val (.int j), .val (.double (FP.ddiv (FP.i2d i) (FP.i2d d))), .second, .unset, .unset, .unset] [(.int d), (.double (FP.i2d j))])) t
      refine XS.i2dS X0.here hx rfl (hb hby at_39) rfl rfl ?_
      show Steps p.tables e below (s₁.setTop (mkF m 40 #[.val (.int p1), .val (.int p2), .val (.int p3), .val (.int d), .val (.int i), .val (.int j), .val (.double (FP.ddiv (FP.i2d i) (FP.i2d d))), .second, .unset, .unset, .unset] [(.double (FP.i2d d)), (.double (FP.i2d j))])) t
      refine XS.ddivS X0.here hx rfl (hb hby at_40) rfl n2 rfl ?_
      show Steps p.tables e below (s₁.setTop (mkF m 41 #[.val (.int p1), .val (.int p2), .val (.int p3), .val (.int d), .val (.int i), .val (.int j), .val (.double (FP.ddiv (FP.i2d i) (FP.i2d d))), .second, .unset, .unset, .unset] [(.double (FP.ddiv (FP.i2d j) (FP.i2d d)))])) t
      refine XS.dstore X0.here hx rfl (hb hby at_41) rfl (l' := #[.val (.int p1), .val (.int p2), .val (.int p3), .val (.int d), .val (.int i), .val (.int j), .val (.double (FP.ddiv (FP.i2d i) (FP.i2d d))), .second, .val (.double (FP.ddiv (FP.i2d j) (FP.i2d d))), .second, .unset]) rfl ?_
      show Steps p.tables e below (s₁.setTop (mkF m 43 #[.val (.int p1), .val (.int p2), .val (.int p3), .val (.int d), .val (.int i), .val (.int j), .val (.double (FP.ddiv (FP.i2d i) (FP.i2d d))), .second, .val (.double (FP.ddiv (FP.i2d j) (FP.i2d d))), .second, .unset] [])) t
      refine XS.iload X0.here hx rfl (hb hby at_43) rfl ?_
      show Steps p.tables e below (s₁.setTop (mkF m 45 #[.val (.int p1), .val (.int p2), .val (.int p3), .val (.int d), .val (.int i), .val (.int j), .val (.double (FP.ddiv (FP.i2d i) (FP.i2d d))), .second, .val (.double (FP.ddiv (FP.i2d j) (FP.i2d d))), .second, .unset] [(.int i)])) t
      refine XS.iload X0.here hx rfl (hb hby at_45) rfl ?_
      show Steps p.tables e below (s₁.setTop (mkF m 47 #[.val (.int p1), .val (.int p2), .val (.int p3), .val (.int d), .val (.int i), .val (.int j), .val (.double (FP.ddiv (FP.i2d i) (FP.i2d d))), .second, .val (.double (FP.ddiv (FP.i2d j) (FP.i2d d))), .second, .unset] [(.int j), (.int i)])) t
      refine XS.iadd X0.here hx rfl (hb hby at_47) rfl ?_
      show Steps p.tables e below (s₁.setTop (mkF m 48 #[.val (.int p1), .val (.int p2), .val (.int p3), .val (.int d), .val (.int i), .val (.int j), .val (.double (FP.ddiv (FP.i2d i) (FP.i2d d))), .second, .val (.double (FP.ddiv (FP.i2d j) (FP.i2d d))), .second, .unset] [(.int (i + j))])) t
      refine XS.iloadN X0.here hx rfl (hb hby at_48) rfl ?_
      show Steps p.tables e below (s₁.setTop (mkF m 49 #[.val (.int p1), .val (.int p2), .val (.int p3), .val (.int d), .val (.int i), .val (.int j), .val (.double (FP.ddiv (FP.i2d i) (FP.i2d d))), .second, .val (.double (FP.ddiv (FP.i2d j) (FP.i2d d))), .second, .unset] [(.int d), (.int (i + j))])) t
      refine XS.icmpYes X0.here hx rfl (pc0 := 49) (pc' := 56) rfl (hb hby at_49) rfl (tlt hlt).1 (by decide) (by decide) ?_
      show Steps p.tables e below (s₁.setTop (mkF m 56 #[.val (.int p1), .val (.int p2), .val (.int p3), .val (.int d), .val (.int i), .val (.int j), .val (.double (FP.ddiv (FP.i2d i) (FP.i2d d))), .second, .val (.double (FP.ddiv (FP.i2d j) (FP.i2d d))), .second, .unset] [])) t
      refine XS.iconst X0.here hx rfl (hb hby at_56) ?_
      show Steps p.tables e below (s₁.setTop (mkF m 57 #[.val (.int p1), .val (.int p2), .val (.int p3), .val (.int d), .val (.int i), .val (.int j), .val (.double (FP.ddiv (FP.i2d i) (FP.i2d d))), .second, .val (.double (FP.ddiv (FP.i2d j) (FP.i2d d))), .second, .unset] [(.int (0 : Int32))])) t
      refine XS.istore X0.here hx rfl (hb hby at_57) rfl (l' := #[.val (.int p1), .val (.int p2), .val (.int p3), .val (.int d), .val (.int i), .val (.int j), .val (.double (FP.ddiv (FP.i2d i) (FP.i2d d))), .second, .val (.double (FP.ddiv (FP.i2d j) (FP.i2d d))), .second, .val (.int (0 : Int32))]) rfl ?_
      show Steps p.tables e below (s₁.setTop (mkF m 59 #[.val (.int p1), .val (.int p2), .val (.int p3), .val (.int d), .val (.int i), .val (.int j), .val (.double (FP.ddiv (FP.i2d i) (FP.i2d d))), .second, .val (.double (FP.ddiv (FP.i2d j) (FP.i2d d))), .second, .val (.int (0 : Int32))] [])) t
      refine XS.dload X0.here hx rfl (hb hby at_59) rfl ?_
      show Steps p.tables e below (s₁.setTop (mkF m 61 #[.val (.int p1), .val (.int p2), .val (.int p3), .val (.int d), .val (.int i), .val (.int j), .val (.double (FP.ddiv (FP.i2d i) (FP.i2d d))), .second, .val (.double (FP.ddiv (FP.i2d j) (FP.i2d d))), .second, .val (.int (0 : Int32))] [(.double (FP.ddiv (FP.i2d i) (FP.i2d d)))])) t
      refine XS.dload X0.here hx rfl (hb hby at_61) rfl ?_
      show Steps p.tables e below (s₁.setTop (mkF m 63 #[.val (.int p1), .val (.int p2), .val (.int p3), .val (.int d), .val (.int i), .val (.int j), .val (.double (FP.ddiv (FP.i2d i) (FP.i2d d))), .second, .val (.double (FP.ddiv (FP.i2d j) (FP.i2d d))), .second, .val (.int (0 : Int32))] [(.double (FP.ddiv (FP.i2d j) (FP.i2d d))), (.double (FP.ddiv (FP.i2d i) (FP.i2d d)))])) t
      exact st1 t k)
  have ch3 : ∀ t, Steps p.tables e below (T1.setTop (mkF m 76 #[.val (.int p1), .val (.int p2), .val (.int p3), .val (.int d), .val (.int i), .val (.int j), .val (.double (FP.ddiv (FP.i2d i) (FP.i2d d))), .second, .val (.double (FP.ddiv (FP.i2d j) (FP.i2d d))), .second, .val (.int (0 : Int32))] [(.int (1 : Int32))])) t → Steps p.tables e below (s₁.setTop (entryFrame m #[(.int p1), (.int p2), (.int p3)] maxLocals)) t := fun t k => ch2 t (by
      show Steps p.tables e below (T1.setTop (mkF m 66 #[.val (.int p1), .val (.int p2), .val (.int p3), .val (.int d), .val (.int i), .val (.int j), .val (.double (FP.ddiv (FP.i2d i) (FP.i2d d))), .second, .val (.double (FP.ddiv (FP.i2d j) (FP.i2d d))), .second, .val (.int (0 : Int32))] [(.int (0 : Int32))])) t
      refine XS.iload X1.here hx rfl (hb hby at_66) rfl ?_
      show Steps p.tables e below (T1.setTop (mkF m 68 #[.val (.int p1), .val (.int p2), .val (.int p3), .val (.int d), .val (.int i), .val (.int j), .val (.double (FP.ddiv (FP.i2d i) (FP.i2d d))), .second, .val (.double (FP.ddiv (FP.i2d j) (FP.i2d d))), .second, .val (.int (0 : Int32))] [(.int (0 : Int32)), (.int (0 : Int32))])) t
      refine XS.icmpNo X1.here hx rfl (hb hby at_68) rfl (teq (by decide : (0 : Int32) = (0 : Int32))).2 ?_
      show Steps p.tables e below (T1.setTop (mkF m 71 #[.val (.int p1), .val (.int p2), .val (.int p3), .val (.int d), .val (.int i), .val (.int j), .val (.double (FP.ddiv (FP.i2d i) (FP.i2d d))), .second, .val (.double (FP.ddiv (FP.i2d j) (FP.i2d d))), .second, .val (.int (0 : Int32))] [])) t
      refine XS.iconst X1.here hx rfl (hb hby at_71) ?_
      show Steps p.tables e below (T1.setTop (mkF m 72 #[.val (.int p1), .val (.int p2), .val (.int p3), .val (.int d), .val (.int i), .val (.int j), .val (.double (FP.ddiv (FP.i2d i) (FP.i2d d))), .second, .val (.double (FP.ddiv (FP.i2d j) (FP.i2d d))), .second, .val (.int (0 : Int32))] [(.int (1 : Int32))])) t
      refine XS.goto X1.here hx rfl (pc0 := 72) (pc' := 76) rfl (hb hby at_72) (by decide) (by decide) ?_
      exact k)
  obtain ⟨fs, hr, hrun, hended, hW, hsame⟩ := X1.leave (v := some (.int (1 : Int32))) (fun h => by rw [Bd.returns] at h; cases h)
  refine ⟨_, _, ch3 _ ?_, hrun, hended, _, _, rfl, ?_, ⟨_, rfl⟩, hW, hsame.mono (by decide) (by decide)⟩
  · show Steps p.tables e below (T1.setTop (mkF m 76 #[.val (.int p1), .val (.int p2), .val (.int p3), .val (.int d), .val (.int i), .val (.int j), .val (.double (FP.ddiv (FP.i2d i) (FP.i2d d))), .second, .val (.double (FP.ddiv (FP.i2d j) (FP.i2d d))), .second, .val (.int (0 : Int32))] [(.int (1 : Int32))])) _
    exact retN X1 hx (t := .boolean) Bd.returns (by simp) (hb hby at_76) hr
  · show QN (some (.int (1 : Int32))) n0 _ T1.heap _
    rw [e1]
    exact ⟨rfl, N1⟩
theorem own_ef_own_law_1 (m : MethodId) {x0 : Int32} {x1 : Int32} {x2 : Int32} : entryFrame m #[(.int x0), (.int x1), (.int x2)] maxLocals = mkF m 0 #[.val (.int x0), .val (.int x1), .val (.int x2), .unset, .unset, .unset, .unset, .unset, .unset, .unset, .unset] [] := by first | (simp [entryFrame, mkF, argsToLocals, Value.category, maxLocals]; done) | rfl
set_option maxRecDepth 65536 in
set_option maxHeartbeats 40000000 in
theorem own_law_1 (l : Launch) (Z : State) (a0 : Array Value) (hw : ∀ d ∈ tables_1, d.before a0 Z = true) (ws : List Jvm.Cond) (h0 : Heap) (n0 : Nat) (Z0 : n0 ≤ h0.size) (p1 p2 p3 i j d : Int32) (hd : ((1 : Int32) + (p1 &&& (65535 : Int32))) = d) (hi : ((p2 &&& (2147483647 : Int32)) % (d + (1 : Int32))) = i) (hj : ((p3 &&& (2147483647 : Int32)) % (d + (1 : Int32))) = j) (hnz : (d + (1 : Int32)) ≠ 0) (hlt : ¬ (i + j) < d) (n1 : NoNaN64 (FP.ddiv (FP.i2d i) (FP.i2d d))) (n2 : NoNaN64 (FP.ddiv (FP.i2d j) (FP.i2d d))) (n3 : NoNaN64 (FP.dadd (FP.ddiv (FP.i2d i) (FP.i2d d)) (FP.ddiv (FP.i2d j) (FP.i2d d)))) (hc : ¬ (cmpValue (FP.dcmp (FP.dadd (FP.ddiv (FP.i2d i) (FP.i2d d)) (FP.ddiv (FP.i2d j) (FP.i2d d))) (4607182418800008401 : UInt64)) .l) < (0 : Int32)) :
    MetFree l x (head1 (Jvm.Cond.code x code maxLocals ret :: ws) room_1) (fun a U => a = #[(.int p1), (.int p2), (.int p3)] ∧ Z.Warmed39 U.vm ∧ U.heap = h0) (fun _ _ _ _ _ => True) (fun _ U o U' => ∃ v L, o = .returned v ∧ QN (some (.int (1 : Int32))) n0 v U'.heap L ∧ FrameEnd U o U' L room_1.cells room_1.slots) := by
  refine MetFree.of_bodySF (plainFor_of_name own_pn_com_example_isolint_isolint_predict_RateModelReadsValueAInTransactionPinLaw) hisR ?_
  intro p e s m args below meth c s₁ Bd hml0 hP hK
  obtain ⟨rfl, hZ, hh⟩ := hP
  have hx := Bd.exec
  have hby := Bd.bytes
  have hml : c.maxLocals = 11 := hml0
  have hown : s.vm.findClass "com/example/isolint/isolint/predict/RateModelReadsValueAInTransactionPinLaw" = some m.cls := (findClass_of_methodNamed Bd.named :)
  have hnm := (name_of_methodNamed Bd.named Bd.method).1
  have X0 : Stand p l e room_1 s m #[(.int p1), (.int p2), (.int p3)] below meth c s₁ [] 0 0 := Stand.of_body Bd
  have e0 : s₁.heap = h0 := by rw [← hh, Bd.state]; rfl
  have N0 := Fr.nil n0
  have pre0 : ∀ t, Steps p.tables e below (s₁.setTop (mkF m 0 #[.val (.int p1), .val (.int p2), .val (.int p3), .unset, .unset, .unset, .unset, .unset, .unset, .unset, .unset] [])) t → Steps p.tables e below (s₁.setTop (entryFrame m #[(.int p1), (.int p2), (.int p3)] maxLocals)) t := fun t k => castTop (own_ef_own_law_1 m) k
  obtain ⟨vv1, _, ⟨T1, L1, kk1, nn1⟩, -, X1, ⟨Lc1, hQ1, l1, y1, z1⟩, st1⟩ := Jvm.LawKit.callS X0 hx (y := (⟨"com/example/isolint/isolint/predict/RateModel", "readsValueAInTransaction", "(DD)Z"⟩ : MethodName)) hown (mvT hZ (hw _ (List.mem_of_getElem? (i := 2) rfl))) (mvT hZ (hw _ (List.mem_of_getElem? (i := 3) rfl))) (mvT hZ (hw _ (List.mem_of_getElem? (i := 4) rfl))) (mvT hZ (hw _ (List.mem_of_getElem? (i := 5) rfl))) (by decide) (backOf (W := 0) (own_rd_1 l Z a0 hw [] h0 n0 Z0  (FP.ddiv (FP.i2d i) (FP.i2d d)) (FP.ddiv (FP.i2d j) (FP.i2d d)) n3 hc) hZ (hw _ (List.mem_of_getElem? (i := 5) rfl)) (hw _ (List.mem_of_getElem? (i := 4) rfl)) (by decide) (by decide)) (g := (mkF m 63 #[.val (.int p1), .val (.int p2), .val (.int p3), .val (.int d), .val (.int i), .val (.int j), .val (.double (FP.ddiv (FP.i2d i) (FP.i2d d))), .second, .val (.double (FP.ddiv (FP.i2d j) (FP.i2d d))), .second, .val (.int (1 : Int32))] [(.double (FP.ddiv (FP.i2d j) (FP.i2d d))), (.double (FP.ddiv (FP.i2d i) (FP.i2d d)))])) rfl (by rw [hml]; rfl) (argsL := [(.double (FP.ddiv (FP.i2d i) (FP.i2d d))), (.double (FP.ddiv (FP.i2d j) (FP.i2d d)))]) (rest := []) (lenOf own_pd__DD_Z rfl) rfl (by show 2 * 0 + _ ≤ _; exact Nat.le_of_eq rfl) (hb hby at_63) (fun _ _ => ⟨rfl, e0, (by decide : 0 + 0 ≤ _), (by decide : 0 + 0 ≤ _)⟩)
  dsimp only [Pt.U, Pt.locs, Pt.cells, Pt.slots] at X1 l1 y1 z1 st1 hQ1
  subst l1 y1 z1
  obtain ⟨rfl, Nq1, e1⟩ := hQ1
  have N1 := Fr.app N0 Nq1
  have ch2 : ∀ t, Steps p.tables e below (T1.setTop (mkF m 66 #[.val (.int p1), .val (.int p2), .val (.int p3), .val (.int d), .val (.int i), .val (.int j), .val (.double (FP.ddiv (FP.i2d i) (FP.i2d d))), .second, .val (.double (FP.ddiv (FP.i2d j) (FP.i2d d))), .second, .val (.int (1 : Int32))] [(.int (1 : Int32))])) t → Steps p.tables e below (s₁.setTop (entryFrame m #[(.int p1), (.int p2), (.int p3)] maxLocals)) t := fun t k => pre0 t (by
      show Steps p.tables e below (s₁.setTop (mkF m 0 #[.val (.int p1), .val (.int p2), .val (.int p3), .unset, .unset, .unset, .unset, .unset, .unset, .unset, .unset] [])) t
      refine XS.iconst X0.here hx rfl (hb hby at_0) ?_
      show Steps p.tables e below (s₁.setTop (mkF m 1 #[.val (.int p1), .val (.int p2), .val (.int p3), .unset, .unset, .unset, .unset, .unset, .unset, .unset, .unset] [(.int (1 : Int32))])) t
      refine XS.iloadN X0.here hx rfl (hb hby at_1) rfl ?_
      show Steps p.tables e below (s₁.setTop (mkF m 2 #[.val (.int p1), .val (.int p2), .val (.int p3), .unset, .unset, .unset, .unset, .unset, .unset, .unset, .unset] [(.int p1), (.int (1 : Int32))])) t
      refine X0.ldcInt hx hown (mvT hZ (hw _ (List.mem_of_getElem? (i := 0) rfl))) (g := (mkF m 2 #[.val (.int p1), .val (.int p2), .val (.int p3), .unset, .unset, .unset, .unset, .unset, .unset, .unset, .unset] [(.int p1), (.int (1 : Int32))])) rfl (hb hby at_2) _ ?_
      show Steps p.tables e below (s₁.setTop (mkF m 4 #[.val (.int p1), .val (.int p2), .val (.int p3), .unset, .unset, .unset, .unset, .unset, .unset, .unset, .unset] [(.int (65535 : Int32)), (.int p1), (.int (1 : Int32))])) t
      refine XS.iand X0.here hx rfl (hb hby at_4) rfl ?_
      show Steps p.tables e below (s₁.setTop (mkF m 5 #[.val (.int p1), .val (.int p2), .val (.int p3), .unset, .unset, .unset, .unset, .unset, .unset, .unset, .unset] [(.int (p1 &&& (65535 : Int32))), (.int (1 : Int32))])) t
      refine XS.iadd X0.here hx rfl (hb hby at_5) rfl ?_
      rw [hd]
      show Steps p.tables e below (s₁.setTop (mkF m 6 #[.val (.int p1), .val (.int p2), .val (.int p3), .unset, .unset, .unset, .unset, .unset, .unset, .unset, .unset] [(.int d)])) t
      refine XS.istoreN X0.here hx rfl (hb hby at_6) rfl (l' := #[.val (.int p1), .val (.int p2), .val (.int p3), .val (.int d), .unset, .unset, .unset, .unset, .unset, .unset, .unset]) rfl ?_
      show Steps p.tables e below (s₁.setTop (mkF m 7 #[.val (.int p1), .val (.int p2), .val (.int p3), .val (.int d), .unset, .unset, .unset, .unset, .unset, .unset, .unset] [])) t
      refine XS.iloadN X0.here hx rfl (hb hby at_7) rfl ?_
      show Steps p.tables e below (s₁.setTop (mkF m 8 #[.val (.int p1), .val (.int p2), .val (.int p3), .val (.int d), .unset, .unset, .unset, .unset, .unset, .unset, .unset] [(.int p2)])) t
      refine X0.ldcInt hx hown (mvT hZ (hw _ (List.mem_of_getElem? (i := 1) rfl))) (g := (mkF m 8 #[.val (.int p1), .val (.int p2), .val (.int p3), .val (.int d), .unset, .unset, .unset, .unset, .unset, .unset, .unset] [(.int p2)])) rfl (hb hby at_8) _ ?_
      show Steps p.tables e below (s₁.setTop (mkF m 10 #[.val (.int p1), .val (.int p2), .val (.int p3), .val (.int d), .unset, .unset, .unset, .unset, .unset, .unset, .unset] [(.int (2147483647 : Int32)), (.int p2)])) t
      refine XS.iand X0.here hx rfl (hb hby at_10) rfl ?_
      show Steps p.tables e below (s₁.setTop (mkF m 11 #[.val (.int p1), .val (.int p2), .val (.int p3), .val (.int d), .unset, .unset, .unset, .unset, .unset, .unset, .unset] [(.int (p2 &&& (2147483647 : Int32)))])) t
      refine XS.iloadN X0.here hx rfl (hb hby at_11) rfl ?_
      show Steps p.tables e below (s₁.setTop (mkF m 12 #[.val (.int p1), .val (.int p2), .val (.int p3), .val (.int d), .unset, .unset, .unset, .unset, .unset, .unset, .unset] [(.int d), (.int (p2 &&& (2147483647 : Int32)))])) t
      refine XS.iconst X0.here hx rfl (hb hby at_12) ?_
      show Steps p.tables e below (s₁.setTop (mkF m 13 #[.val (.int p1), .val (.int p2), .val (.int p3), .val (.int d), .unset, .unset, .unset, .unset, .unset, .unset, .unset] [(.int (1 : Int32)), (.int d), (.int (p2 &&& (2147483647 : Int32)))])) t
      refine XS.iadd X0.here hx rfl (hb hby at_13) rfl ?_
      show Steps p.tables e below (s₁.setTop (mkF m 14 #[.val (.int p1), .val (.int p2), .val (.int p3), .val (.int d), .unset, .unset, .unset, .unset, .unset, .unset, .unset] [(.int (d + (1 : Int32))), (.int (p2 &&& (2147483647 : Int32)))])) t
      refine Jvm.RoadKit.iremM (g := (mkF m 14 #[.val (.int p1), .val (.int p2), .val (.int p3), .val (.int d), .unset, .unset, .unset, .unset, .unset, .unset, .unset] [(.int (d + (1 : Int32))), (.int (p2 &&& (2147483647 : Int32)))])) X0 hx rfl (hb hby at_14) rfl hnz ?_
      rw [hi]
      show Steps p.tables e below (s₁.setTop (mkF m 15 #[.val (.int p1), .val (.int p2), .val (.int p3), .val (.int d), .unset, .unset, .unset, .unset, .unset, .unset, .unset] [(.int i)])) t
      refine XS.istore X0.here hx rfl (hb hby at_15) rfl (l' := #[.val (.int p1), .val (.int p2), .val (.int p3), .val (.int d), .val (.int i), .unset, .unset, .unset, .unset, .unset, .unset]) rfl ?_
      show Steps p.tables e below (s₁.setTop (mkF m 17 #[.val (.int p1), .val (.int p2), .val (.int p3), .val (.int d), .val (.int i), .unset, .unset, .unset, .unset, .unset, .unset] [])) t
      refine XS.iloadN X0.here hx rfl (hb hby at_17) rfl ?_
      show Steps p.tables e below (s₁.setTop (mkF m 18 #[.val (.int p1), .val (.int p2), .val (.int p3), .val (.int d), .val (.int i), .unset, .unset, .unset, .unset, .unset, .unset] [(.int p3)])) t
      refine X0.ldcInt hx hown (mvT hZ (hw _ (List.mem_of_getElem? (i := 1) rfl))) (g := (mkF m 18 #[.val (.int p1), .val (.int p2), .val (.int p3), .val (.int d), .val (.int i), .unset, .unset, .unset, .unset, .unset, .unset] [(.int p3)])) rfl (hb hby at_18) _ ?_
      show Steps p.tables e below (s₁.setTop (mkF m 20 #[.val (.int p1), .val (.int p2), .val (.int p3), .val (.int d), .val (.int i), .unset, .unset, .unset, .unset, .unset, .unset] [(.int (2147483647 : Int32)), (.int p3)])) t
      refine XS.iand X0.here hx rfl (hb hby at_20) rfl ?_
      show Steps p.tables e below (s₁.setTop (mkF m 21 #[.val (.int p1), .val (.int p2), .val (.int p3), .val (.int d), .val (.int i), .unset, .unset, .unset, .unset, .unset, .unset] [(.int (p3 &&& (2147483647 : Int32)))])) t
      refine XS.iloadN X0.here hx rfl (hb hby at_21) rfl ?_
      show Steps p.tables e below (s₁.setTop (mkF m 22 #[.val (.int p1), .val (.int p2), .val (.int p3), .val (.int d), .val (.int i), .unset, .unset, .unset, .unset, .unset, .unset] [(.int d), (.int (p3 &&& (2147483647 : Int32)))])) t
      refine XS.iconst X0.here hx rfl (hb hby at_22) ?_
      show Steps p.tables e below (s₁.setTop (mkF m 23 #[.val (.int p1), .val (.int p2), .val (.int p3), .val (.int d), .val (.int i), .unset, .unset, .unset, .unset, .unset, .unset] [(.int (1 : Int32)), (.int d), (.int (p3 &&& (2147483647 : Int32)))])) t
      refine XS.iadd X0.here hx rfl (hb hby at_23) rfl ?_
      show Steps p.tables e below (s₁.setTop (mkF m 24 #[.val (.int p1), .val (.int p2), .val (.int p3), .val (.int d), .val (.int i), .unset, .unset, .unset, .unset, .unset, .unset] [(.int (d + (1 : Int32))), (.int (p3 &&& (2147483647 : Int32)))])) t
      refine Jvm.RoadKit.iremM (g := (mkF m 24 #[.val (.int p1), .val (.int p2), .val (.int p3), .val (.int d), .val (.int i), .unset, .unset, .unset, .unset, .unset, .unset] [(.int (d + (1 : Int32))), (.int (p3 &&& (2147483647 : Int32)))])) X0 hx rfl (hb hby at_24) rfl hnz ?_
      rw [hj]
      show Steps p.tables e below (s₁.setTop (mkF m 25 #[.val (.int p1), .val (.int p2), .val (.int p3), .val (.int d), .val (.int i), .unset, .unset, .unset, .unset, .unset, .unset] [(.int j)])) t
      refine XS.istore X0.here hx rfl (hb hby at_25) rfl (l' := #[.val (.int p1), .val (.int p2), .val (.int p3), .val (.int d), .val (.int i), .val (.int j), .unset, .unset, .unset, .unset, .unset]) rfl ?_
      show Steps p.tables e below (s₁.setTop (mkF m 27 #[.val (.int p1), .val (.int p2), .val (.int p3), .val (.int d), .val (.int i), .val (.int j), .unset, .unset, .unset, .unset, .unset] [])) t
      refine XS.iload X0.here hx rfl (hb hby at_27) rfl ?_
      show Steps p.tables e below (s₁.setTop (mkF m 29 #[.val (.int p1), .val (.int p2), .val (.int p3), .val (.int d), .val (.int i), .val (.int j), .unset, .unset, .unset, .unset, .unset] [(.int i)])) t
      refine XS.i2dS X0.here hx rfl (hb hby at_29) rfl rfl ?_
      show Steps p.tables e below (s₁.setTop (mkF m 30 #[.val (.int p1), .val (.int p2), .val (.int p3), .val (.int d), .val (.int i), .val (.int j), .unset, .unset, .unset, .unset, .unset] [(.double (FP.i2d i))])) t
      refine XS.iloadN X0.here hx rfl (hb hby at_30) rfl ?_
      show Steps p.tables e below (s₁.setTop (mkF m 31 #[.val (.int p1), .val (.int p2), .val (.int p3), .val (.int d), .val (.int i), .val (.int j), .unset, .unset, .unset, .unset, .unset] [(.int d), (.double (FP.i2d i))])) t
      refine XS.i2dS X0.here hx rfl (hb hby at_31) rfl rfl ?_
      show Steps p.tables e below (s₁.setTop (mkF m 32 #[.val (.int p1), .val (.int p2), .val (.int p3), .val (.int d), .val (.int i), .val (.int j), .unset, .unset, .unset, .unset, .unset] [(.double (FP.i2d d)), (.double (FP.i2d i))])) t
      refine XS.ddivS X0.here hx rfl (hb hby at_32) rfl n1 rfl ?_
      show Steps p.tables e below (s₁.setTop (mkF m 33 #[.val (.int p1), .val (.int p2), .val (.int p3), .val (.int d), .val (.int i), .val (.int j), .unset, .unset, .unset, .unset, .unset] [(.double (FP.ddiv (FP.i2d i) (FP.i2d d)))])) t
      refine XS.dstore X0.here hx rfl (hb hby at_33) rfl (l' := #[.val (.int p1), .val (.int p2), .val (.int p3), .val (.int d), .val (.int i), .val (.int j), .val (.double (FP.ddiv (FP.i2d i) (FP.i2d d))), .second, .unset, .unset, .unset]) rfl ?_
      show Steps p.tables e below (s₁.setTop (mkF m 35 #[.val (.int p1), .val (.int p2), .val (.int p3), .val (.int d), .val (.int i), .val (.int j), .val (.double (FP.ddiv (FP.i2d i) (FP.i2d d))), .second, .unset, .unset, .unset] [])) t
      refine XS.iload X0.here hx rfl (hb hby at_35) rfl ?_
      show Steps p.tables e below (s₁.setTop (mkF m 37 #[.val (.int p1), .val (.int p2), .val (.int p3), .val (.int d), .val (.int i), .val (.int j), .val (.double (FP.ddiv (FP.i2d i) (FP.i2d d))), .second, .unset, .unset, .unset] [(.int j)])) t
      refine XS.i2dS X0.here hx rfl (hb hby at_37) rfl rfl ?_
      show Steps p.tables e below (s₁.setTop (mkF m 38 #[.val (.int p1), .val (.int p2), .val (.int p3), .val (.int d), .val (.int i), .val (.int j), .val (.double (FP.ddiv (FP.i2d i) (FP.i2d d))), .second, .unset, .unset, .unset] [(.double (FP.i2d j))])) t
      refine XS.iloadN X0.here hx rfl (hb hby at_38) rfl ?_
      show Steps p.tables e below (s₁.setTop (mkF m 39 #[.val (.int p1), .val (.int p2), .val (.int p3), .val (.int d), .val (.int i), .val (.int j), .val (.double (FP.ddiv (FP.i2d i) (FP.i2d d))), .second, .unset, .unset, .unset] [(.int d), (.double (FP.i2d j))])) t
      refine XS.i2dS X0.here hx rfl (hb hby at_39) rfl rfl ?_
      show Steps p.tables e below (s₁.setTop (mkF m 40 #[.val (.int p1), .val (.int p2), .val (.int p3), .val (.int d), .val (.int i), .val (.int j), .val (.double (FP.ddiv (FP.i2d i) (FP.i2d d))), .second, .unset, .unset, .unset] [(.double (FP.i2d d)), (.double (FP.i2d j))])) t
      refine XS.ddivS X0.here hx rfl (hb hby at_40) rfl n2 rfl ?_
      show Steps p.tables e below (s₁.setTop (mkF m 41 #[.val (.int p1), .val (.int p2), .val (.int p3), .val (.int d), .val (.int i), .val (.int j), .val (.double (FP.ddiv (FP.i2d i) (FP.i2d d))), .second, .unset, .unset, .unset] [(.double (FP.ddiv (FP.i2d j) (FP.i2d d)))])) t
      refine XS.dstore X0.here hx rfl (hb hby at_41) rfl (l' := #[.val (.int p1), .val (.int p2), .val (.int p3), .val (.int d), .val (.int i), .val (.int j), .val (.double (FP.ddiv (FP.i2d i) (FP.i2d d))), .second, .val (.double (FP.ddiv (FP.i2d j) (FP.i2d d))), .second, .unset]) rfl ?_
      show Steps p.tables e below (s₁.setTop (mkF m 43 #[.val (.int p1), .val (.int p2), .val (.int p3), .val (.int d), .val (.int i), .val (.int j), .val (.double (FP.ddiv (FP.i2d i) (FP.i2d d))), .second, .val (.double (FP.ddiv (FP.i2d j) (FP.i2d d))), .second, .unset] [])) t
      refine XS.iload X0.here hx rfl (hb hby at_43) rfl ?_
      show Steps p.tables e below (s₁.setTop (mkF m 45 #[.val (.int p1), .val (.int p2), .val (.int p3), .val (.int d), .val (.int i), .val (.int j), .val (.double (FP.ddiv (FP.i2d i) (FP.i2d d))), .second, .val (.double (FP.ddiv (FP.i2d j) (FP.i2d d))), .second, .unset] [(.int i)])) t
      refine XS.iload X0.here hx rfl (hb hby at_45) rfl ?_
      show Steps p.tables e below (s₁.setTop (mkF m 47 #[.val (.int p1), .val (.int p2), .val (.int p3), .val (.int d), .val (.int i), .val (.int j), .val (.double (FP.ddiv (FP.i2d i) (FP.i2d d))), .second, .val (.double (FP.ddiv (FP.i2d j) (FP.i2d d))), .second, .unset] [(.int j), (.int i)])) t
      refine XS.iadd X0.here hx rfl (hb hby at_47) rfl ?_
      show Steps p.tables e below (s₁.setTop (mkF m 48 #[.val (.int p1), .val (.int p2), .val (.int p3), .val (.int d), .val (.int i), .val (.int j), .val (.double (FP.ddiv (FP.i2d i) (FP.i2d d))), .second, .val (.double (FP.ddiv (FP.i2d j) (FP.i2d d))), .second, .unset] [(.int (i + j))])) t
      refine XS.iloadN X0.here hx rfl (hb hby at_48) rfl ?_
      show Steps p.tables e below (s₁.setTop (mkF m 49 #[.val (.int p1), .val (.int p2), .val (.int p3), .val (.int d), .val (.int i), .val (.int j), .val (.double (FP.ddiv (FP.i2d i) (FP.i2d d))), .second, .val (.double (FP.ddiv (FP.i2d j) (FP.i2d d))), .second, .unset] [(.int d), (.int (i + j))])) t
      refine XS.icmpNo X0.here hx rfl (hb hby at_49) rfl (flt hlt).1 ?_
      show Steps p.tables e below (s₁.setTop (mkF m 52 #[.val (.int p1), .val (.int p2), .val (.int p3), .val (.int d), .val (.int i), .val (.int j), .val (.double (FP.ddiv (FP.i2d i) (FP.i2d d))), .second, .val (.double (FP.ddiv (FP.i2d j) (FP.i2d d))), .second, .unset] [])) t
      refine XS.iconst X0.here hx rfl (hb hby at_52) ?_
      show Steps p.tables e below (s₁.setTop (mkF m 53 #[.val (.int p1), .val (.int p2), .val (.int p3), .val (.int d), .val (.int i), .val (.int j), .val (.double (FP.ddiv (FP.i2d i) (FP.i2d d))), .second, .val (.double (FP.ddiv (FP.i2d j) (FP.i2d d))), .second, .unset] [(.int (1 : Int32))])) t
      refine XS.goto X0.here hx rfl (pc0 := 53) (pc' := 57) rfl (hb hby at_53) (by decide) (by decide) ?_
      show Steps p.tables e below (s₁.setTop (mkF m 57 #[.val (.int p1), .val (.int p2), .val (.int p3), .val (.int d), .val (.int i), .val (.int j), .val (.double (FP.ddiv (FP.i2d i) (FP.i2d d))), .second, .val (.double (FP.ddiv (FP.i2d j) (FP.i2d d))), .second, .unset] [(.int (1 : Int32))])) t
      refine XS.istore X0.here hx rfl (hb hby at_57) rfl (l' := #[.val (.int p1), .val (.int p2), .val (.int p3), .val (.int d), .val (.int i), .val (.int j), .val (.double (FP.ddiv (FP.i2d i) (FP.i2d d))), .second, .val (.double (FP.ddiv (FP.i2d j) (FP.i2d d))), .second, .val (.int (1 : Int32))]) rfl ?_
      show Steps p.tables e below (s₁.setTop (mkF m 59 #[.val (.int p1), .val (.int p2), .val (.int p3), .val (.int d), .val (.int i), .val (.int j), .val (.double (FP.ddiv (FP.i2d i) (FP.i2d d))), .second, .val (.double (FP.ddiv (FP.i2d j) (FP.i2d d))), .second, .val (.int (1 : Int32))] [])) t
      refine XS.dload X0.here hx rfl (hb hby at_59) rfl ?_
      show Steps p.tables e below (s₁.setTop (mkF m 61 #[.val (.int p1), .val (.int p2), .val (.int p3), .val (.int d), .val (.int i), .val (.int j), .val (.double (FP.ddiv (FP.i2d i) (FP.i2d d))), .second, .val (.double (FP.ddiv (FP.i2d j) (FP.i2d d))), .second, .val (.int (1 : Int32))] [(.double (FP.ddiv (FP.i2d i) (FP.i2d d)))])) t
      refine XS.dload X0.here hx rfl (hb hby at_61) rfl ?_
      show Steps p.tables e below (s₁.setTop (mkF m 63 #[.val (.int p1), .val (.int p2), .val (.int p3), .val (.int d), .val (.int i), .val (.int j), .val (.double (FP.ddiv (FP.i2d i) (FP.i2d d))), .second, .val (.double (FP.ddiv (FP.i2d j) (FP.i2d d))), .second, .val (.int (1 : Int32))] [(.double (FP.ddiv (FP.i2d j) (FP.i2d d))), (.double (FP.ddiv (FP.i2d i) (FP.i2d d)))])) t
      exact st1 t k)
  have ch3 : ∀ t, Steps p.tables e below (T1.setTop (mkF m 76 #[.val (.int p1), .val (.int p2), .val (.int p3), .val (.int d), .val (.int i), .val (.int j), .val (.double (FP.ddiv (FP.i2d i) (FP.i2d d))), .second, .val (.double (FP.ddiv (FP.i2d j) (FP.i2d d))), .second, .val (.int (1 : Int32))] [(.int (1 : Int32))])) t → Steps p.tables e below (s₁.setTop (entryFrame m #[(.int p1), (.int p2), (.int p3)] maxLocals)) t := fun t k => ch2 t (by
      show Steps p.tables e below (T1.setTop (mkF m 66 #[.val (.int p1), .val (.int p2), .val (.int p3), .val (.int d), .val (.int i), .val (.int j), .val (.double (FP.ddiv (FP.i2d i) (FP.i2d d))), .second, .val (.double (FP.ddiv (FP.i2d j) (FP.i2d d))), .second, .val (.int (1 : Int32))] [(.int (1 : Int32))])) t
      refine XS.iload X1.here hx rfl (hb hby at_66) rfl ?_
      show Steps p.tables e below (T1.setTop (mkF m 68 #[.val (.int p1), .val (.int p2), .val (.int p3), .val (.int d), .val (.int i), .val (.int j), .val (.double (FP.ddiv (FP.i2d i) (FP.i2d d))), .second, .val (.double (FP.ddiv (FP.i2d j) (FP.i2d d))), .second, .val (.int (1 : Int32))] [(.int (1 : Int32)), (.int (1 : Int32))])) t
      refine XS.icmpNo X1.here hx rfl (hb hby at_68) rfl (teq (by decide : (1 : Int32) = (1 : Int32))).2 ?_
      show Steps p.tables e below (T1.setTop (mkF m 71 #[.val (.int p1), .val (.int p2), .val (.int p3), .val (.int d), .val (.int i), .val (.int j), .val (.double (FP.ddiv (FP.i2d i) (FP.i2d d))), .second, .val (.double (FP.ddiv (FP.i2d j) (FP.i2d d))), .second, .val (.int (1 : Int32))] [])) t
      refine XS.iconst X1.here hx rfl (hb hby at_71) ?_
      show Steps p.tables e below (T1.setTop (mkF m 72 #[.val (.int p1), .val (.int p2), .val (.int p3), .val (.int d), .val (.int i), .val (.int j), .val (.double (FP.ddiv (FP.i2d i) (FP.i2d d))), .second, .val (.double (FP.ddiv (FP.i2d j) (FP.i2d d))), .second, .val (.int (1 : Int32))] [(.int (1 : Int32))])) t
      refine XS.goto X1.here hx rfl (pc0 := 72) (pc' := 76) rfl (hb hby at_72) (by decide) (by decide) ?_
      exact k)
  obtain ⟨fs, hr, hrun, hended, hW, hsame⟩ := X1.leave (v := some (.int (1 : Int32))) (fun h => by rw [Bd.returns] at h; cases h)
  refine ⟨_, _, ch3 _ ?_, hrun, hended, _, _, rfl, ?_, ⟨_, rfl⟩, hW, hsame.mono (by decide) (by decide)⟩
  · show Steps p.tables e below (T1.setTop (mkF m 76 #[.val (.int p1), .val (.int p2), .val (.int p3), .val (.int d), .val (.int i), .val (.int j), .val (.double (FP.ddiv (FP.i2d i) (FP.i2d d))), .second, .val (.double (FP.ddiv (FP.i2d j) (FP.i2d d))), .second, .val (.int (1 : Int32))] [(.int (1 : Int32))])) _
    exact retN X1 hx (t := .boolean) Bd.returns (by simp) (hb hby at_76) hr
  · show QN (some (.int (1 : Int32))) n0 _ T1.heap _
    rw [e1]
    exact ⟨rfl, N1⟩
set_option maxRecDepth 65536 in
set_option maxHeartbeats 40000000 in
theorem comes_1 {Post : Tables → Env → Array Value → State → Outcome → State → Prop} (hpost : ∀ tb e args s v u, (limb_1_1.after args s (.returned v) u = true ∧ limb_1_2.after args s (.returned v) u = true ∧ True) → FrameEnd s (.returned v) u (Jvm.fieldLocs frame_1_writes args s ++ Jvm.arrayLocs frame_1_arrays args s ++ Jvm.staticLocs frame_1_statics s) 0 0 → Post tb e args s (.returned v) u) :
    ArmFor flags0 classFile x code maxLocals ret World_1 tables_1 room_1 Calls_1 rest_1 Pre_1 Post := by
  intro l hfl _ _ p e ha hc hk s m args below hf hA hF happ hP
  obtain ⟨hcalls, hrest, hpre⟩ := hP
  obtain ⟨-, -, -, hnamed, -, -, -, hat⟩ := (Spec.applies_iff hf).mp happ
  obtain ⟨hg, hn⟩ := and_e (Cond.before_iff.mp (show (Jvm.Cond.and given_1 narrow_1).before args s = true from hpre))
  obtain ⟨gc, hg⟩ := and_e hg
  obtain ⟨w0, w1, w2, rfl⟩ : ∃ w0 w1 w2 : Value, args = #[w0, w1, w2] := by
    have hs : args.size = 3 := by simpa [Cond.value, given_1] using gc
    obtain ⟨L⟩ := args
    match L, hs with
    | [w0, w1, w2], _ => exact ⟨w0, w1, w2, rfl⟩
  have hw := fun d (hd : d ∈ tables_1) => atoms_spec (ws := Jvm.Cond.code x code maxLocals ret :: tables_1) hat d (List.mem_cons_of_mem _ hd)
  have hfit : Fit s := fun {y c} hc i hi => by
    obtain ⟨ha, rfl⟩ := Array.getElem?_eq_some_iff.mp hc
    have q := List.all_eq_true.mp ((Array.all_eq_true_iff_forall_mem.mp hF) _ (Array.getElem_mem ha)) i (List.mem_range.mpr hi)
    simpa [Array.getElem?_eq_getElem hi] using q
  obtain ⟨ga0, hg⟩ := and_e hg
  obtain ⟨i0, ei0⟩ := is_v ga0
  obtain rfl : w0 = (.int i0) := Option.some.inj ei0
  obtain ⟨ga1, hg⟩ := and_e hg
  obtain ⟨i1, ei1⟩ := is_v ga1
  obtain rfl : w1 = (.int i1) := Option.some.inj ei1
  obtain ⟨i2, ei2⟩ := is_v hg
  obtain rfl : w2 = (.int i2) := Option.some.inj ei2
  obtain ⟨d, hd⟩ : ∃ d : Int32, ((1 : Int32) + (i0 &&& (65535 : Int32))) = d := ⟨_, rfl⟩
  obtain ⟨i, hi⟩ : ∃ i : Int32, ((i1 &&& (2147483647 : Int32)) % (d + (1 : Int32))) = i := ⟨_, rfl⟩
  obtain ⟨j, hj⟩ : ∃ j : Int32, ((i2 &&& (2147483647 : Int32)) % (d + (1 : Int32))) = j := ⟨_, rfl⟩
  have a1 := c_mask i0 (65535 : Int32) 16 (by decide) (by decide)
  have a2 := c_iadd (1 : Int32) (i0 &&& (65535 : Int32))
  have a3 := c_iadd d (1 : Int32)
  have a4 := c_mask i1 (2147483647 : Int32) 31 (by decide) (by decide)
  have a5 := c_mask i2 (2147483647 : Int32) 31 (by decide) (by decide)
  rw [hd] at a2
  have o1 : (1 : Int32).toInt = 1 := rfl
  rw [o1] at a2 a3
  have l1 := d.le_toInt
  have l2 := d.toInt_lt
  have l3 := (d + (1 : Int32)).le_toInt
  have l4 := (d + (1 : Int32)).toInt_lt
  have b1 : 1 ≤ d.toInt ∧ d.toInt ≤ 65536 := by omega
  have b2 : (d + (1 : Int32)).toInt = d.toInt + 1 := by omega
  have b3 := (c_iremV (i1 &&& (2147483647 : Int32)) (d + (1 : Int32))).1 (by omega) (by omega)
  have b4 := (c_iremV (i2 &&& (2147483647 : Int32)) (d + (1 : Int32))).1 (by omega) (by omega)
  rw [hi] at b3
  rw [hj] at b4
  have hnz : (d + (1 : Int32)) ≠ 0 := fun q => by rw [q] at b2; have o0 : (0 : Int32).toInt = 0 := rfl; omega
  have a6 := c_iadd i j
  have l5 := (i + j).le_toInt
  have l6 := (i + j).toInt_lt
  have b5 : (i + j).toInt = i.toInt + j.toInt := by omega
  have H : MetFree l x (head1 (Jvm.Cond.code x code maxLocals ret :: tables_1) room_1) (fun a U => a = #[(.int i0), (.int i1), (.int i2)] ∧ s.Warmed39 U.vm ∧ U.heap = s.heap) (fun _ _ _ _ _ => True) (fun _ U o U' => ∃ v L, o = .returned v ∧ QN (some (.int (1 : Int32))) s.heap.size v U'.heap L ∧ FrameEnd U o U' L room_1.cells room_1.slots) := by
    by_cases hlt : (i + j) < d
    · have q := Int32.lt_iff_toInt_lt.mp hlt
      exact own_law_0 l s _ hw tables_1 s.heap s.heap.size (Nat.le_refl _)  i0 i1 i2 i j d hd hi hj hnz hlt (Own.own_nnq (by omega)) (Own.own_nnq (by omega)) (Own.own_nns (by omega)) (Own.own_clt (by omega) (by omega) (by omega) (by omega) (by omega) (by omega) (by omega))
    · have q : ¬ (i + j).toInt < d.toInt := fun z => hlt (Int32.lt_iff_toInt_lt.mpr z)
      exact own_law_1 l s _ hw tables_1 s.heap s.heap.size (Nat.le_refl _)  i0 i1 i2 i j d hd hi hj hnz hlt (Own.own_nnq (by omega)) (Own.own_nnq (by omega)) (Own.own_nns (by omega)) (Own.own_cge (by omega) (by omega) (by omega) (by omega) (by omega) (by omega))
  obtain ⟨n, o, h1, h2, h3, _, L, rfl, ⟨rfl, N⟩, hq⟩ := H p e ha hc hk s m _ below hf ((Spec.applies_iff_loose hf).mp happ).1 ⟨rfl, State.Warmed39.refl s, rfl⟩ trivial
  refine ⟨n, _, h1, h2, h3, hpost _ _ _ _ _ _ ⟨Cond.after_iff.mpr rfl, Cond.after_iff.mpr (eq_i res_at (Term.int_eval (1)) rfl), trivial⟩ ⟨hq.1, hq.2.1, (hq.2.2.sift fun y hy => Or.inr (N y hy)).mono (by decide) (by decide)⟩⟩
theorem main_1_1 : Claimed_1_1 := comes_1 fun _ _ _ _ _ _ h hF => ⟨h.1, hF⟩
theorem main_1_2 : Claimed_1_2 := comes_1 fun _ _ _ _ _ _ h hF => ⟨h.2.1, hF⟩
end Jvm.Pilot.@@N@@
namespace Jvm.Pilot.@@N@@
open Jvm Jvm.ClassFile Sem Op Lib Jvm.Free Jvm.Stand Jvm.Pilot.@@N@@.Jvm.D
/-! MADE BY PROGRAM (witnessworld.py) out of the Statement's table words and the real class files: 10 classes; the members and pool entries that the words name. The judged class is class 1, her method 1. -/
namespace start1
open Jvm.ClassFile
def u (s : String) : CpInfo := .utf8 (stringToUtf16 s)
/-- a pool by its gaps: so many unusable entries, then the entry; so many at the end -/
def gap : Nat → List CpInfo → List CpInfo
  | 0, r => r
  | n + 1, r => .unusable :: gap n r
def poolList (es : List (Nat × CpInfo)) (last : Nat) : List CpInfo := es.foldr (fun e r => gap e.1 (e.2 :: r)) (gap last [])
def pool (es : List (Nat × CpInfo)) (last : Nat) : Array CpInfo := ⟨poolList es last⟩
def fileOf (pool : Array CpInfo) (this : Nat) (attrs : Array Attribute := #[]) (ms : Array MethodInfo := #[]) (fl : Nat := 33) (sup : Nat := 0) (ifs : Array Nat := #[]) (fds : Array FieldInfo := #[]) : ClassFile where
  minorVersion := 0
  majorVersion := 65
  constantPool := pool
  accessFlags := fl
  thisClass := this
  superClass := sup
  interfaces := ifs
  fields := fds
  methods := ms
  attributes := attrs
def plain (name : String) (sup : Option ClassId) : Class where
  name := name
  kind := .ordinary
  loader := none
  accessFlags := 33
  super := sup
  interfaces := #[]
  cf := none
  fields := #[]
  methods := #[]
  instanceTypes := #[]
  staticTypes := #[]
  resolved := #[]
  callSites := []
  init := .initialized
  statics := none
  mirror := none

def pool0 : Array CpInfo := pool [(5, u "<init>"), (0, u "()V"), (1, .class_ 10), (1, u "java/lang/Object")] 113

def k0m0 : Method := { name := "<init>", desc := "()V", sig := { parameters := [], returnType := none }, accessFlags := 1, code := none }
/-- java/lang/Object -/
def k0 : Class := { plain "java/lang/Object" none with
  accessFlags := 33
  interfaces := #[]
  cf := some (fileOf pool0 8 #[] #[{ accessFlags := 1, nameIndex := 5, descriptorIndex := 6, attributes := #[] }] 33 0 #[] #[])
  fields := #[]
  methods := #[k0m0]
  instanceTypes := #[]
  staticTypes := #[]
  resolved := Array.replicate 124 none
  statics := none }

def pool1 : Array CpInfo := pool [(2, .class_ 4), (1, u "java/lang/Object"), (0, u "<init>"), (0, u "()V"), (0, .integer 65535), (0, .integer 2147483647), (0, .methodref 10 11), (0, .class_ 12), (0, .nameAndType 13 14), (0, u "com/example/isolint/isolint/predict/RateModel"), (0, u "readsValueAInTransaction"), (0, u "(DD)Z"), (0, .class_ 16), (0, u "com/example/isolint/isolint/predict/RateModelReadsValueAInTransactionPinLaw"), (2, u "law"), (0, u "(III)Z")] 3

def k1m0 : Method := { name := "<init>", desc := "()V", sig := { parameters := [], returnType := none }, accessFlags := 1, code := none }
def k1c1 : Code := { maxStack := 4, maxLocals := 11, code := code, exceptionTable := #[], attributes := #[] }
def k1m1 : Method := { name := "law", desc := "(III)Z", sig := { parameters := [.int, .int, .int], returnType := some .boolean }, accessFlags := 9, code := some k1c1 }
/-- com/example/isolint/isolint/predict/RateModelReadsValueAInTransactionPinLaw -/
def k1 : Class := { plain "com/example/isolint/isolint/predict/RateModelReadsValueAInTransactionPinLaw" (some 0) with
  accessFlags := 49
  interfaces := #[]
  cf := some (fileOf pool1 15 #[] #[{ accessFlags := 1, nameIndex := 5, descriptorIndex := 6, attributes := #[] }, { accessFlags := 9, nameIndex := 19, descriptorIndex := 20, attributes := #[] }] 49 2 #[] #[])
  fields := #[]
  methods := #[k1m0, k1m1]
  instanceTypes := #[]
  staticTypes := #[]
  resolved := Array.replicate 24 none
  statics := none }

def pool2 : Array CpInfo := pool [(2, .class_ 4), (1, u "java/lang/Object"), (0, u "<init>"), (0, u "()V"), (0, .class_ 8), (0, u "java/lang/Record")] 13

def k2m0 : Method := { name := "<init>", desc := "()V", sig := { parameters := [], returnType := none }, accessFlags := 4, code := none }
/-- java/lang/Record -/
def k2 : Class := { plain "java/lang/Record" (some 0) with
  accessFlags := 1057
  interfaces := #[]
  cf := some (fileOf pool2 7 #[] #[{ accessFlags := 4, nameIndex := 5, descriptorIndex := 6, attributes := #[] }] 1057 2 #[] #[])
  fields := #[]
  methods := #[k2m0]
  instanceTypes := #[]
  staticTypes := #[]
  resolved := Array.replicate 22 none
  statics := none }

def pool3 : Array CpInfo := pool [(2, .class_ 4), (1, u "java/lang/Record"), (3, u "mix"), (14, .class_ 25), (1, u "com/example/isolint/isolint/predict/RateModel"), (8, u "readsValueAInTransaction"), (0, u "(DD)Z"), (8, u "clients"), (0, u "I"), (2, u "hot"), (2, u "hotFraction"), (0, u "D"), (2, u "Lcom/example/isolint/isolint/bench/Mix;"), (2, u "alpha"), (2, u "beta"), (2, u "gamma"), (0, .double 4607182418800008401), (51, .class_ 119), (1, u "com/example/isolint/isolint/predict/RateModel$1"), (55, u "LEVELS"), (0, u "Ljava/util/List;"), (2, u "DEFAULT_ALPHA"), (3, u "DEFAULT_BETA"), (2, u "ROUNDING")] 55

def k3c0 : Code := { maxStack := 4, maxLocals := 4, code := prog_67_method_2_code, exceptionTable := #[], attributes := #[] }
def k3m0 : Method := { name := "readsValueAInTransaction", desc := "(DD)Z", sig := { parameters := [.double, .double], returnType := some .boolean }, accessFlags := 9, code := some k3c0 }
/-- com/example/isolint/isolint/predict/RateModel -/
def k3 : Class := { plain "com/example/isolint/isolint/predict/RateModel" (some 2) with
  accessFlags := 49
  interfaces := #[]
  cf := some (fileOf pool3 23 #[.nestMembers #[117]] #[{ accessFlags := 9, nameIndex := 34, descriptorIndex := 35, attributes := #[] }] 49 2 #[] #[{ accessFlags := 18, nameIndex := 44, descriptorIndex := 45, attributes := #[] }, { accessFlags := 18, nameIndex := 48, descriptorIndex := 45, attributes := #[] }, { accessFlags := 18, nameIndex := 51, descriptorIndex := 52, attributes := #[] }, { accessFlags := 18, nameIndex := 8, descriptorIndex := 55, attributes := #[] }, { accessFlags := 18, nameIndex := 58, descriptorIndex := 52, attributes := #[] }, { accessFlags := 18, nameIndex := 61, descriptorIndex := 52, attributes := #[] }, { accessFlags := 18, nameIndex := 64, descriptorIndex := 52, attributes := #[] }, { accessFlags := 25, nameIndex := 175, descriptorIndex := 176, attributes := #[] }, { accessFlags := 25, nameIndex := 179, descriptorIndex := 52, attributes := #[] }, { accessFlags := 25, nameIndex := 183, descriptorIndex := 52, attributes := #[] }, { accessFlags := 26, nameIndex := 186, descriptorIndex := 52, attributes := #[] }])
  fields := #[{ name := "clients", type := .int, accessFlags := 18, slot := 0, constantValue := 0 }, { name := "hot", type := .int, accessFlags := 18, slot := 1, constantValue := 0 }, { name := "hotFraction", type := .double, accessFlags := 18, slot := 2, constantValue := 0 }, { name := "mix", type := (.object "com/example/isolint/isolint/bench/Mix"), accessFlags := 18, slot := 3, constantValue := 0 }, { name := "alpha", type := .double, accessFlags := 18, slot := 4, constantValue := 0 }, { name := "beta", type := .double, accessFlags := 18, slot := 5, constantValue := 0 }, { name := "gamma", type := .double, accessFlags := 18, slot := 6, constantValue := 0 }, { name := "LEVELS", type := (.object "java/util/List"), accessFlags := 25, slot := 0, constantValue := 0 }, { name := "DEFAULT_ALPHA", type := .double, accessFlags := 25, slot := 1, constantValue := 0 }, { name := "DEFAULT_BETA", type := .double, accessFlags := 25, slot := 2, constantValue := 0 }, { name := "ROUNDING", type := .double, accessFlags := 26, slot := 3, constantValue := 0 }]
  methods := #[k3m0]
  instanceTypes := #[.int, .int, .double, (.object "com/example/isolint/isolint/bench/Mix"), .double, .double, .double]
  staticTypes := #[(.object "java/util/List"), .double, .double, .double]
  resolved := Array.replicate 242 none
  statics := none }

def pool4 : Array CpInfo := pool [(1, u "java/lang/Cloneable"), (0, .class_ 1), (0, u "java/lang/Object"), (0, .class_ 3)] 3

/-- java/lang/Cloneable -/
def k4 : Class := { plain "java/lang/Cloneable" (some 0) with
  accessFlags := 1537
  interfaces := #[]
  cf := some (fileOf pool4 2 #[] #[] 1537 4 #[] #[])
  fields := #[]
  methods := #[]
  instanceTypes := #[]
  staticTypes := #[]
  resolved := Array.replicate 8 none
  statics := none }

def pool5 : Array CpInfo := pool [(1, u "java/io/Serializable"), (0, .class_ 1), (0, u "java/lang/Object"), (0, .class_ 3)] 3

/-- java/io/Serializable -/
def k5 : Class := { plain "java/io/Serializable" (some 0) with
  accessFlags := 1537
  interfaces := #[]
  cf := some (fileOf pool5 2 #[] #[] 1537 4 #[] #[])
  fields := #[]
  methods := #[]
  instanceTypes := #[]
  staticTypes := #[]
  resolved := Array.replicate 8 none
  statics := none }

/-- the primitive byte -/
def k6 : Class := { plain "byte" none with kind := .primitive 'B', accessFlags := 0x411 }
/-- [B -/
def k7 : Class := { plain "[B" (some 0) with kind := .array 6 .byte, interfaces := #[4, 5], accessFlags := 1041 }

/-- the primitive int -/
def k8 : Class := { plain "int" none with kind := .primitive 'I', accessFlags := 0x411 }
/-- [I -/
def k9 : Class := { plain "[I" (some 0) with kind := .array 8 .int, interfaces := #[4, 5], accessFlags := 1041 }

def heap : Heap := #[]
def classes : Array Class := #[k0, k1, k2, k3, k4, k5, k6, k7, k8, k9]
def interned : List (Array UInt16 × Addr) := []
def slotsUsed : Nat := 0
def theMethod : MethodId := ⟨1, 1⟩
def args0 : Array Value := #[.int 3, .int 4, .int 5]
def aboutOver (below : List Frame) : State where
  vm := { classes := classes, interned := interned.toArray }
  heap := heap
  slotsUsed := slotsUsed
  threads := #[{ frames := .invoking theMethod args0 :: below }]
def below0 : List Frame := [.native { method := ⟨0, 0⟩, args := #[] }]
def about1 : State := aboutOver below0
def p0 : Program := .bare "" "" ""
def e0 : Env := launch0.env 0 0 0
theorem w_frames : about1.frames = Frame.invoking theMethod args0 :: below0 := rfl
set_option maxRecDepth 65536 in
theorem w_args : argsFit about1.vm theMethod args0 = true := by decide +kernel
set_option maxRecDepth 65536 in
theorem w_heap : heapFits about1 = true := by decide +kernel
set_option maxRecDepth 65536 in
theorem w_runnable : about1.curStatus? = some .runnable := by decide +kernel
set_option maxRecDepth 65536 in
theorem w_alone : about1.alone = true := by decide +kernel
set_option maxRecDepth 65536 in
theorem w_named : about1.methodNamed? x = some theMethod := by decide +kernel
set_option maxRecDepth 65536 in
theorem w_hears : about1.hears theMethod below0 = true := by decide +kernel
set_option maxRecDepth 65536 in
theorem w_ripe : about1.ripe theMethod args0 below0 = true := by decide +kernel
theorem w_running : about1.status = .running := rfl
set_option maxRecDepth 65536 in
theorem w_room : about1.hasRoom e0.platform room_1 = true :=
  launch0.hasRoom_least _ room_1 (by decide +kernel) (by decide +kernel) (by decide +kernel) (by decide +kernel) (by decide +kernel) (by decide +kernel)
theorem allAtoms_all (ts : List Jvm.Cond) (a : Array Jvm.Value) (st : Jvm.State) : (allAtoms ts).before a st = ts.all (fun c => c.before a st) := by
  induction ts with
  | nil => rfl
  | cons c t ih =>
    show (Jvm.Cond.and c (allAtoms t)).before a st = _
    rw [Jvm.Cond.before_and, ih, List.all_cons]
def words1 : List Jvm.Cond := Jvm.Cond.code x code maxLocals ret :: tables_1
/-- a 'code' word, met by the world's own term for the bytes: nothing is compared byte by byte -/
theorem code_word {y : MethodName} {bytes : ByteArray} {mx : Nat} {rt : Option FieldType} {a : Array Value} {s : State} {m : MethodId} {meth : Method} {c : Code} (h1 : s.methodNamed? y = some m) (h2 : s.vm.method? m = some meth) (h3 : meth.code = some c) (h4 : c.code = bytes)
    (h5 : (c.maxLocals == mx && c.exceptionTable.isEmpty && decide (c.maxStack ≤ mostOperands) && decide (meth.sig.returnType = rt) && !meth.locks && decide (parseMethodDescriptor y.desc = some meth.sig)) = true) : (Jvm.Cond.code y bytes mx rt).before a s = true := by
  simp only [Bool.and_eq_true, beq_iff_eq, Bool.not_eq_true', decide_eq_true_eq] at h5
  obtain ⟨⟨⟨⟨⟨g1, g2⟩, g3⟩, g4⟩, g5⟩, g6⟩ := h5
  simp [Cond.before, Cond.holds, Cond.value, h1, h2, h3, h4, g1, g2, g3, g4, g5, g6]
def isCode : Jvm.Cond → Bool
  | .code _ _ _ _ => true
  | _ => false
theorem all_split {L : List Jvm.Cond} {P : Jvm.Cond → Bool} (h1 : L.all (fun c => isCode c || P c) = true) (h2 : ∀ c ∈ L.filter isCode, P c = true) : L.all P = true := by
  refine List.all_eq_true.mpr fun c hc => ?_
  have h := List.all_eq_true.mp h1 c hc
  rcases Bool.eq_false_or_eq_true (isCode c) with hi | hi
  · exact h2 c (List.mem_filter.mpr ⟨hc, hi⟩)
  · simpa [hi] using h
set_option maxRecDepth 65536 in
theorem w_c0 : (Jvm.Cond.code x code maxLocals ret).before args0 about1 = true := code_word (m := ⟨1, 1⟩) (meth := k1m1) (c := k1c1) (by decide +kernel) rfl rfl rfl (by decide +kernel)
set_option maxRecDepth 65536 in
theorem w_c1 : (Jvm.Cond.code ({ cls := "com/example/isolint/isolint/predict/RateModel", name := "readsValueAInTransaction", desc := "(DD)Z" } : Jvm.MethodName) prog_67_method_2_code (4 : Nat) (Option.some Jvm.ClassFile.FieldType.boolean)).before args0 about1 = true := code_word (m := ⟨3, 0⟩) (meth := k3m0) (c := k3c0) (by decide +kernel) rfl rfl rfl (by decide +kernel)
def codes1 : List Jvm.Cond := [Jvm.Cond.code x code maxLocals ret, Jvm.Cond.code ({ cls := "com/example/isolint/isolint/predict/RateModel", name := "readsValueAInTransaction", desc := "(DD)Z" } : Jvm.MethodName) prog_67_method_2_code (4 : Nat) (Option.some Jvm.ClassFile.FieldType.boolean)]
set_option maxRecDepth 65536 in
theorem codes_eq : words1.filter isCode = codes1 := rfl
theorem w_codes : ∀ c ∈ words1.filter isCode, c.before args0 about1 = true := by
  rw [codes_eq]
  intro c hc
  simp only [codes1, List.mem_cons, List.not_mem_nil, or_false] at hc
  rcases hc with rfl | rfl
  · exact w_c0
  · exact w_c1
set_option maxRecDepth 65536 in
theorem w_t1 : words1.all (fun c => isCode c || c.before args0 about1) = true := by decide +kernel
theorem w_tables : (allAtoms (Jvm.Cond.code x code maxLocals ret :: tables_1)).before args0 about1 = true := by
  rw [allAtoms_all]
  show words1.all (fun c => c.before args0 about1) = true
  refine all_split ?_ w_codes
  rw [w_t1]
set_option maxRecDepth 65536 in
theorem w_case : (Jvm.Cond.and given_1 narrow_1).before args0 about1 = true := by decide +kernel
theorem w_applies : (headSpec (Jvm.Cond.code x code maxLocals ret :: tables_1) room_1).applies x e0.platform about1 = true :=
  (Spec.applies_iff w_frames).mpr ⟨w_running, w_runnable, w_alone, w_named, w_hears, w_ripe, w_room, w_tables⟩
theorem atStart : AtStart classFile x code maxLocals ret World_1 tables_1 room_1 Calls_1 rest_1 Pre_1 launch0 p0 e0 about1 theMethod args0 below0 :=
  ⟨lists_1, trivial, launch0.admits_env _ _ _, launch0.least_env, fairChoices_fair.cas, fairChoices_fair.clock, w_frames, w_args, w_heap, w_applies, trivial, trivial, w_case⟩
end start1
theorem witness_1 : WitnessClaimed_1 := ⟨start1.p0, start1.e0, start1.about1, start1.theMethod, start1.args0, start1.below0, start1.atStart⟩
end Jvm.Pilot.@@N@@
