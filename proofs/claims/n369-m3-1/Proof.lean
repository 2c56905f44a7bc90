import JvmDerived
import JvmDerived.Pilot.@@N@@Statement
import JvmDerived.Pilot.@@N@@Code
set_option linter.unusedVariables false
set_option linter.unusedSimpArgs false
namespace Jvm.RoadKit
open Sem ClassFile Op Lib Jvm.Stand Jvm.Free Jvm.LawKit
section New
variable {p : Program} {l : Launch} {e : Env} {R : Room} {s : State} {m : MethodId} {args : Array Value} {below : List Frame} {meth : Method} {c : Code} {T : State} {locs : List Loc} {cells slots : Nat}
theorem retI (X : Stand p l e R s m args below meth c T locs cells slots) (hx : p.tables.exec = Jvm.exec) {pc : Nat} {Ls : Array Slot} {z : Int32} {rest : List Value} (hret : meth.sig.returnType = some .int) (hd : decode c.code pc = .ok (.ireturn, 1)) {fs : List Frame}
    (hl : ∀ (f : JFrame) (acts : List Action), f.method = m → f.locked = none → f.entered = [] → (doReturn e (T.setTop f) acts (some (.int z))).1 = T.setFrames fs) : Steps p.tables e below (T.setTop (mkF m pc Ls (.int z :: rest))) (T.setFrames fs) := by
  have hm' : T.vm.method? m = some meth := X.method'
  have hn : narrow .int (.int z) = .int z := rfl
  show Steps p.tables e below (T.setTop { method := m, pc := pc, locals := Ls, stack := _ :: rest, locked := none }) _
  jvm_step X.here [X.here.top, hx, hd, hm', hret, hn]
  first | (intro acts; rw [hl _ acts rfl rfl rfl]) | rw [hl _ _ rfl rfl rfl]
  exact Steps.refl _
end New
end Jvm.RoadKit
namespace Jvm.Pilot.@@N@@
open Jvm Jvm.ClassFile Sem Op Lib Jvm.Free Jvm.Stand Jvm.LawKit Jvm.RoadKit Bundle Jvm.Pilot.@@N@@.Jvm.D
def QV (r : Option Value) (h0 : Heap) (n0 : Nat) (v : Option Value) (h : Heap) (L : List Loc) : Prop := v = r ∧ Fr n0 L ∧ h = h0
def QN (r : Option Value) (n0 : Nat) (v : Option Value) (h : Heap) (L : List Loc) : Prop := v = r ∧ Fr n0 L
section OwnWords
variable {args : Array Value} {first s : State} {o : Option Outcome} {idx : List Nat} {t : Term}
theorem own_eqI {k : Int32} (h : (Jvm.Cond.eq t (.int k)).value args first o s idx = some true) : t.eval args first o idx s = some (.int k) := by
  simp only [Jvm.Cond.value, Term.eval] at h; cases ht : t.eval args first o idx s with | none => simp [ht] at h | some x => cases x <;> simp [ht] at h ⊢; exact h
end OwnWords
theorem own_exa_plain {Z : State} {h : Heap} {a : Addr} {C : String} (F : Exa Z h a C) (c : Cell) (hc : h[a]? = some c) : c.vm.isStatics = false := by
  obtain ⟨cell, k, h1, h2, h3, h4, h5⟩ := F; cases h1.symm.trans hc; exact h4
theorem own_arv_plain {Z : State} {h : Heap} {a : Addr} {k : ClassId} {ty : FieldType} {n : Int32} {vs : List Value} {d : Value} (F : Arv Z h a k ty n vs d) (c : Cell) (hc : h[a]? = some c) : c.vm.isStatics = false := by
  obtain ⟨cell, A, -⟩ := F; cases A.1.symm.trans hc; exact A.plain
theorem own_ext_of_keep {h h' : Heap} {ws : List Addr} (K : Keep h h' ws) (q : ∀ x ∈ ws, h.size ≤ x) : Ext h h' := ⟨K.1, fun a c hc => K.2.1 a c hc fun hm => absurd (Array.getElem?_eq_some_iff.mp hc).1 (Nat.not_lt.mpr (q a hm))⟩
theorem own_fitc {Z : State} {h : Heap} {a : Addr} {c : Cell} {ty : FieldType} {vs : List Value} {d : Value} (A : Arr Z h a c ty) (H : Has c vs d) (G : ∀ i, i < c.slots.size → fits ty (vs.getD i d) = true) : FitC Z c := fun i v hv => by
  obtain ⟨hi, -⟩ := Array.getElem?_eq_some_iff.mp hv
  obtain ⟨hs, k, hk, comp, hkind⟩ := A.2.1
  have e : Z.slotType? c.cls .none i = some ty := by simp [State.slotType?, hk, hkind]
  have ev : v = vs.getD i d := Option.some.inj (hv.symm.trans (H i hi))
  simp only [State.fitsSlot, e]
  rw [ev]; exact G i hi
theorem own_sta_keep {Z : State} {h h' : Heap} {C n d : String} {w : Value} {ws : List Addr} (F : Sta Z h C n d w) (K : Keep h h' ws) (q : ∀ x ∈ ws, ∀ c : Cell, h[x]? = some c → c.vm.isStatics = false) : Sta Z h' C n d w := by
  obtain ⟨cf, i, k, f, st, cell, h1, h2, h3, h4, h5, h6, h7⟩ := F
  exact ⟨cf, i, k, f, st, cell, h1, h2, h3, h4, K.2.1 _ _ h5 (fun hx => by rw [q _ hx _ h5] at h6; cases h6), h6, h7⟩
section OwnWords2
variable {args : Array Value} {s : State} {t u : Term}
theorem own_eqR {a : Addr} (h : (Jvm.Cond.eq t u).value args s none s [] = some true) (hu : u.eval args s none [] s = some (.ref a)) : t.eval args s none [] s = some (.ref a) := by
  simp only [Jvm.Cond.value, hu] at h; cases ht : t.eval args s none [] s with | none => simp [ht] at h | some x => cases x <;> simp [ht] at h ⊢; exact h
theorem own_len {a : Addr} {cl : Cell} {ty : FieldType} {k : Int32} (ev : t.eval args s none [] s = some (.ref a)) (A : Arr s s.heap a cl ty) (h : (Term.length t).eval args s none [] s = some (.int k)) : cl.slots.size < 2 ^ 31 ∧ cl.slots.size.toInt32 = k := by
  have ha := A.fin (Vm.Alike.refl _)
  by_cases hl : cl.slots.size < 2 ^ 31
  · rw [len_f ev ha hl] at h; exact ⟨hl, Value.int.inj (Option.some.inj h)⟩
  · simp [Term.eval, ev, ha, hl] at h
theorem own_elem {a : Addr} {cl : Cell} {ty : FieldType} {k : Int32} {v : Value} (ev : t.eval args s none [] s = some (.ref a)) (A : Arr s s.heap a cl ty) (h : (Term.elem t (.int k)).eval args s none [] s = some v) : cl.slots[k.toNatClampNeg]? = some v := (elem_in h ev (Term.int_eval k) A.1).2
end OwnWords2
def OwnWd (Z : State) (h0 : Heap) (ad : Nat → Addr) (a_EVERY_CARD : Addr) (k_EVERY_CARD : ClassId) : Prop := Sta Z h0 "com/example/baraja/baraja/games/sabacckessel/Card" "FOUR" "Lcom/example/baraja/baraja/games/sabacckessel/Card;" (.ref (ad 0)) ∧ Exa Z h0 (ad 0) "com/example/baraja/baraja/games/sabacckessel/Card" ∧ Sta Z h0 "com/example/baraja/baraja/games/sabacckessel/Card" "THREE" "Lcom/example/baraja/baraja/games/sabacckessel/Card;" (.ref (ad 1)) ∧ Exa Z h0 (ad 1) "com/example/baraja/baraja/games/sabacckessel/Card" ∧ Sta Z h0 "com/example/baraja/baraja/games/sabacckessel/Card" "TWO" "Lcom/example/baraja/baraja/games/sabacckessel/Card;" (.ref (ad 2)) ∧ Exa Z h0 (ad 2) "com/example/baraja/baraja/games/sabacckessel/Card" ∧ Sta Z h0 "com/example/baraja/baraja/games/sabacckessel/Card" "FIVE" "Lcom/example/baraja/baraja/games/sabacckessel/Card;" (.ref (ad 3)) ∧ Exa Z h0 (ad 3) "com/example/baraja/baraja/games/sabacckessel/Card" ∧ Sta Z h0 "com/example/baraja/baraja/games/sabacckessel/Card" "SYLOP" "Lcom/example/baraja/baraja/games/sabacckessel/Card;" (.ref (ad 4)) ∧ Exa Z h0 (ad 4) "com/example/baraja/baraja/games/sabacckessel/Card" ∧ Sta Z h0 "com/example/baraja/baraja/games/sabacckessel/Card" "SIX" "Lcom/example/baraja/baraja/games/sabacckessel/Card;" (.ref (ad 5)) ∧ Exa Z h0 (ad 5) "com/example/baraja/baraja/games/sabacckessel/Card" ∧ Sta Z h0 "com/example/baraja/baraja/games/sabacckessel/Card" "ONE" "Lcom/example/baraja/baraja/games/sabacckessel/Card;" (.ref (ad 6)) ∧ Exa Z h0 (ad 6) "com/example/baraja/baraja/games/sabacckessel/Card" ∧ Sta Z h0 "com/example/baraja/baraja/games/sabacckessel/Card" "IMPOSTOR" "Lcom/example/baraja/baraja/games/sabacckessel/Card;" (.ref (ad 7)) ∧ Exa Z h0 (ad 7) "com/example/baraja/baraja/games/sabacckessel/Card" ∧ Sta Z h0 "com/example/baraja/baraja/games/sabacckessel/Card" "EVERY_CARD" "[Lcom/example/baraja/baraja/games/sabacckessel/Card;" (.ref a_EVERY_CARD) ∧ Arv Z h0 a_EVERY_CARD k_EVERY_CARD (.object "com/example/baraja/baraja/games/sabacckessel/Card") (8 : Int32) [(.ref (ad 6)), (.ref (ad 2)), (.ref (ad 1)), (.ref (ad 0)), (.ref (ad 3)), (.ref (ad 5)), (.ref (ad 7)), (.ref (ad 4))] .null
theorem own_S_FOUR {Z : State} {h0 : Heap} {ad : Nat → Addr} {a_EVERY_CARD : Addr} {k_EVERY_CARD : ClassId} (W : OwnWd Z h0 ad a_EVERY_CARD k_EVERY_CARD) : Sta Z h0 "com/example/baraja/baraja/games/sabacckessel/Card" "FOUR" "Lcom/example/baraja/baraja/games/sabacckessel/Card;" (.ref (ad 0)) := W.1
theorem own_E_FOUR {Z : State} {h0 : Heap} {ad : Nat → Addr} {a_EVERY_CARD : Addr} {k_EVERY_CARD : ClassId} (W : OwnWd Z h0 ad a_EVERY_CARD k_EVERY_CARD) : Exa Z h0 (ad 0) "com/example/baraja/baraja/games/sabacckessel/Card" := W.2.1
theorem own_S_THREE {Z : State} {h0 : Heap} {ad : Nat → Addr} {a_EVERY_CARD : Addr} {k_EVERY_CARD : ClassId} (W : OwnWd Z h0 ad a_EVERY_CARD k_EVERY_CARD) : Sta Z h0 "com/example/baraja/baraja/games/sabacckessel/Card" "THREE" "Lcom/example/baraja/baraja/games/sabacckessel/Card;" (.ref (ad 1)) := W.2.2.1
theorem own_E_THREE {Z : State} {h0 : Heap} {ad : Nat → Addr} {a_EVERY_CARD : Addr} {k_EVERY_CARD : ClassId} (W : OwnWd Z h0 ad a_EVERY_CARD k_EVERY_CARD) : Exa Z h0 (ad 1) "com/example/baraja/baraja/games/sabacckessel/Card" := W.2.2.2.1
theorem own_S_TWO {Z : State} {h0 : Heap} {ad : Nat → Addr} {a_EVERY_CARD : Addr} {k_EVERY_CARD : ClassId} (W : OwnWd Z h0 ad a_EVERY_CARD k_EVERY_CARD) : Sta Z h0 "com/example/baraja/baraja/games/sabacckessel/Card" "TWO" "Lcom/example/baraja/baraja/games/sabacckessel/Card;" (.ref (ad 2)) := W.2.2.2.2.1
theorem own_E_TWO {Z : State} {h0 : Heap} {ad : Nat → Addr} {a_EVERY_CARD : Addr} {k_EVERY_CARD : ClassId} (W : OwnWd Z h0 ad a_EVERY_CARD k_EVERY_CARD) : Exa Z h0 (ad 2) "com/example/baraja/baraja/games/sabacckessel/Card" := W.2.2.2.2.2.1
theorem own_S_FIVE {Z : State} {h0 : Heap} {ad : Nat → Addr} {a_EVERY_CARD : Addr} {k_EVERY_CARD : ClassId} (W : OwnWd Z h0 ad a_EVERY_CARD k_EVERY_CARD) : Sta Z h0 "com/example/baraja/baraja/games/sabacckessel/Card" "FIVE" "Lcom/example/baraja/baraja/games/sabacckessel/Card;" (.ref (ad 3)) := W.2.2.2.2.2.2.1
theorem own_E_FIVE {Z : State} {h0 : Heap} {ad : Nat → Addr} {a_EVERY_CARD : Addr} {k_EVERY_CARD : ClassId} (W : OwnWd Z h0 ad a_EVERY_CARD k_EVERY_CARD) : Exa Z h0 (ad 3) "com/example/baraja/baraja/games/sabacckessel/Card" := W.2.2.2.2.2.2.2.1
theorem own_S_SYLOP {Z : State} {h0 : Heap} {ad : Nat → Addr} {a_EVERY_CARD : Addr} {k_EVERY_CARD : ClassId} (W : OwnWd Z h0 ad a_EVERY_CARD k_EVERY_CARD) : Sta Z h0 "com/example/baraja/baraja/games/sabacckessel/Card" "SYLOP" "Lcom/example/baraja/baraja/games/sabacckessel/Card;" (.ref (ad 4)) := W.2.2.2.2.2.2.2.2.1
theorem own_E_SYLOP {Z : State} {h0 : Heap} {ad : Nat → Addr} {a_EVERY_CARD : Addr} {k_EVERY_CARD : ClassId} (W : OwnWd Z h0 ad a_EVERY_CARD k_EVERY_CARD) : Exa Z h0 (ad 4) "com/example/baraja/baraja/games/sabacckessel/Card" := W.2.2.2.2.2.2.2.2.2.1
theorem own_S_SIX {Z : State} {h0 : Heap} {ad : Nat → Addr} {a_EVERY_CARD : Addr} {k_EVERY_CARD : ClassId} (W : OwnWd Z h0 ad a_EVERY_CARD k_EVERY_CARD) : Sta Z h0 "com/example/baraja/baraja/games/sabacckessel/Card" "SIX" "Lcom/example/baraja/baraja/games/sabacckessel/Card;" (.ref (ad 5)) := W.2.2.2.2.2.2.2.2.2.2.1
theorem own_E_SIX {Z : State} {h0 : Heap} {ad : Nat → Addr} {a_EVERY_CARD : Addr} {k_EVERY_CARD : ClassId} (W : OwnWd Z h0 ad a_EVERY_CARD k_EVERY_CARD) : Exa Z h0 (ad 5) "com/example/baraja/baraja/games/sabacckessel/Card" := W.2.2.2.2.2.2.2.2.2.2.2.1
theorem own_S_ONE {Z : State} {h0 : Heap} {ad : Nat → Addr} {a_EVERY_CARD : Addr} {k_EVERY_CARD : ClassId} (W : OwnWd Z h0 ad a_EVERY_CARD k_EVERY_CARD) : Sta Z h0 "com/example/baraja/baraja/games/sabacckessel/Card" "ONE" "Lcom/example/baraja/baraja/games/sabacckessel/Card;" (.ref (ad 6)) := W.2.2.2.2.2.2.2.2.2.2.2.2.1
theorem own_E_ONE {Z : State} {h0 : Heap} {ad : Nat → Addr} {a_EVERY_CARD : Addr} {k_EVERY_CARD : ClassId} (W : OwnWd Z h0 ad a_EVERY_CARD k_EVERY_CARD) : Exa Z h0 (ad 6) "com/example/baraja/baraja/games/sabacckessel/Card" := W.2.2.2.2.2.2.2.2.2.2.2.2.2.1
theorem own_S_IMPOSTOR {Z : State} {h0 : Heap} {ad : Nat → Addr} {a_EVERY_CARD : Addr} {k_EVERY_CARD : ClassId} (W : OwnWd Z h0 ad a_EVERY_CARD k_EVERY_CARD) : Sta Z h0 "com/example/baraja/baraja/games/sabacckessel/Card" "IMPOSTOR" "Lcom/example/baraja/baraja/games/sabacckessel/Card;" (.ref (ad 7)) := W.2.2.2.2.2.2.2.2.2.2.2.2.2.2.1
theorem own_E_IMPOSTOR {Z : State} {h0 : Heap} {ad : Nat → Addr} {a_EVERY_CARD : Addr} {k_EVERY_CARD : ClassId} (W : OwnWd Z h0 ad a_EVERY_CARD k_EVERY_CARD) : Exa Z h0 (ad 7) "com/example/baraja/baraja/games/sabacckessel/Card" := W.2.2.2.2.2.2.2.2.2.2.2.2.2.2.2.1
theorem own_S_EVERY_CARD {Z : State} {h0 : Heap} {ad : Nat → Addr} {a_EVERY_CARD : Addr} {k_EVERY_CARD : ClassId} (W : OwnWd Z h0 ad a_EVERY_CARD k_EVERY_CARD) : Sta Z h0 "com/example/baraja/baraja/games/sabacckessel/Card" "EVERY_CARD" "[Lcom/example/baraja/baraja/games/sabacckessel/Card;" (.ref a_EVERY_CARD) := W.2.2.2.2.2.2.2.2.2.2.2.2.2.2.2.2.1
theorem own_V_EVERY_CARD {Z : State} {h0 : Heap} {ad : Nat → Addr} {a_EVERY_CARD : Addr} {k_EVERY_CARD : ClassId} (W : OwnWd Z h0 ad a_EVERY_CARD k_EVERY_CARD) : Arv Z h0 a_EVERY_CARD k_EVERY_CARD (.object "com/example/baraja/baraja/games/sabacckessel/Card") (8 : Int32) [(.ref (ad 6)), (.ref (ad 2)), (.ref (ad 1)), (.ref (ad 0)), (.ref (ad 3)), (.ref (ad 5)), (.ref (ad 7)), (.ref (ad 4))] .null := W.2.2.2.2.2.2.2.2.2.2.2.2.2.2.2.2.2
theorem own_Wd_ext {Z : State} {h0 : Heap} {ad : Nat → Addr} {a_EVERY_CARD : Addr} {k_EVERY_CARD : ClassId} {h' : Heap} (W : OwnWd Z h0 ad a_EVERY_CARD k_EVERY_CARD) (E : Ext h0 h') : OwnWd Z h' ad a_EVERY_CARD k_EVERY_CARD := ⟨(own_S_FOUR W).ext E, (own_E_FOUR W).ext E, (own_S_THREE W).ext E, (own_E_THREE W).ext E, (own_S_TWO W).ext E, (own_E_TWO W).ext E, (own_S_FIVE W).ext E, (own_E_FIVE W).ext E, (own_S_SYLOP W).ext E, (own_E_SYLOP W).ext E, (own_S_SIX W).ext E, (own_E_SIX W).ext E, (own_S_ONE W).ext E, (own_E_ONE W).ext E, (own_S_IMPOSTOR W).ext E, (own_E_IMPOSTOR W).ext E, (own_S_EVERY_CARD W).ext E, (own_V_EVERY_CARD W).ext E⟩
theorem own_d_prog_40_method_1_code_0 : decode prog_40_method_1_code 0 = .ok (.aload_n 0, 1) := by decide +kernel
theorem own_d_prog_40_method_1_code_1 : decode prog_40_method_1_code 1 = .ok (.invokespecial 1, 3) := by decide +kernel
theorem own_d_prog_40_method_1_code_4 : decode prog_40_method_1_code 4 = .ok (.aload_n 0, 1) := by decide +kernel
theorem own_d_prog_40_method_1_code_5 : decode prog_40_method_1_code 5 = .ok (.bipush 22, 2) := by decide +kernel
theorem own_d_prog_40_method_1_code_7 : decode prog_40_method_1_code 7 = .ok (.newarray .byte, 2) := by decide +kernel
theorem own_d_prog_40_method_1_code_9 : decode prog_40_method_1_code 9 = .ok (.putfield 9, 3) := by decide +kernel
theorem own_d_prog_40_method_1_code_12 : decode prog_40_method_1_code 12 = .ok (.aload_n 0, 1) := by decide +kernel
theorem own_d_prog_40_method_1_code_13 : decode prog_40_method_1_code 13 = .ok (.bipush 22, 2) := by decide +kernel
theorem own_d_prog_40_method_1_code_15 : decode prog_40_method_1_code 15 = .ok (.anewarray 7, 3) := by decide +kernel
theorem own_d_prog_40_method_1_code_18 : decode prog_40_method_1_code 18 = .ok (.putfield 15, 3) := by decide +kernel
theorem own_d_prog_40_method_1_code_21 : decode prog_40_method_1_code 21 = .ok (.aload_n 0, 1) := by decide +kernel
theorem own_d_prog_40_method_1_code_22 : decode prog_40_method_1_code 22 = .ok (.iload_n 1, 1) := by decide +kernel
theorem own_d_prog_40_method_1_code_23 : decode prog_40_method_1_code 23 = .ok (.anewarray 7, 3) := by decide +kernel
theorem own_d_prog_40_method_1_code_26 : decode prog_40_method_1_code 26 = .ok (.putfield 19, 3) := by decide +kernel
theorem own_d_prog_40_method_1_code_29 : decode prog_40_method_1_code 29 = .ok (.aload_n 0, 1) := by decide +kernel
theorem own_d_prog_40_method_1_code_30 : decode prog_40_method_1_code 30 = .ok (.iload_n 1, 1) := by decide +kernel
theorem own_d_prog_40_method_1_code_31 : decode prog_40_method_1_code 31 = .ok (.newarray .int, 2) := by decide +kernel
theorem own_d_prog_40_method_1_code_33 : decode prog_40_method_1_code 33 = .ok (.putfield 22, 3) := by decide +kernel
theorem own_d_prog_40_method_1_code_36 : decode prog_40_method_1_code 36 = .ok (.return_, 1) := by decide +kernel
theorem own_pn_com_example_baraja_baraja_games_sabacckessel_FamilyCards : plainName "com/example/baraja/baraja/games/sabacckessel/FamilyCards" = true := by first | (simp [plainName, overriddenIn]; done) | decide +kernel
theorem own_d_prog_40_method_11_code_0 : decode prog_40_method_11_code 0 = .ok (.aload_n 0, 1) := by decide +kernel
theorem own_d_prog_40_method_11_code_1 : decode prog_40_method_11_code 1 = .ok (.getfield 15, 3) := by decide +kernel
theorem own_d_prog_40_method_11_code_4 : decode prog_40_method_11_code 4 = .ok (.aload_n 0, 1) := by decide +kernel
theorem own_d_prog_40_method_11_code_5 : decode prog_40_method_11_code 5 = .ok (.dup, 1) := by decide +kernel
theorem own_d_prog_40_method_11_code_6 : decode prog_40_method_11_code 6 = .ok (.getfield 37, 3) := by decide +kernel
theorem own_d_prog_40_method_11_code_9 : decode prog_40_method_11_code 9 = .ok (.dup_x1, 1) := by decide +kernel
theorem own_d_prog_40_method_11_code_10 : decode prog_40_method_11_code 10 = .ok (.iconst 1, 1) := by decide +kernel
theorem own_d_prog_40_method_11_code_11 : decode prog_40_method_11_code 11 = .ok (.iadd, 1) := by decide +kernel
theorem own_d_prog_40_method_11_code_12 : decode prog_40_method_11_code 12 = .ok (.putfield 37, 3) := by decide +kernel
theorem own_d_prog_40_method_11_code_15 : decode prog_40_method_11_code 15 = .ok (.aload_n 1, 1) := by decide +kernel
theorem own_d_prog_40_method_11_code_16 : decode prog_40_method_11_code 16 = .ok (.aastore, 1) := by decide +kernel
theorem own_d_prog_40_method_11_code_17 : decode prog_40_method_11_code 17 = .ok (.return_, 1) := by decide +kernel
theorem own_d_prog_40_method_9_code_0 : decode prog_40_method_9_code 0 = .ok (.aload_n 0, 1) := by decide +kernel
theorem own_d_prog_40_method_9_code_1 : decode prog_40_method_9_code 1 = .ok (.getfield 15, 3) := by decide +kernel
theorem own_d_prog_40_method_9_code_4 : decode prog_40_method_9_code 4 = .ok (.aload_n 0, 1) := by decide +kernel
theorem own_d_prog_40_method_9_code_5 : decode prog_40_method_9_code 5 = .ok (.dup, 1) := by decide +kernel
theorem own_d_prog_40_method_9_code_6 : decode prog_40_method_9_code 6 = .ok (.getfield 37, 3) := by decide +kernel
theorem own_d_prog_40_method_9_code_9 : decode prog_40_method_9_code 9 = .ok (.iconst 1, 1) := by decide +kernel
theorem own_d_prog_40_method_9_code_10 : decode prog_40_method_9_code 10 = .ok (.isub, 1) := by decide +kernel
theorem own_d_prog_40_method_9_code_11 : decode prog_40_method_9_code 11 = .ok (.dup_x1, 1) := by decide +kernel
theorem own_d_prog_40_method_9_code_12 : decode prog_40_method_9_code 12 = .ok (.putfield 37, 3) := by decide +kernel
theorem own_d_prog_40_method_9_code_15 : decode prog_40_method_9_code 15 = .ok (.aaload, 1) := by decide +kernel
theorem own_d_prog_40_method_9_code_16 : decode prog_40_method_9_code 16 = .ok (.astore_n 1, 1) := by decide +kernel
theorem own_d_prog_40_method_9_code_17 : decode prog_40_method_9_code 17 = .ok (.aload_n 0, 1) := by decide +kernel
theorem own_d_prog_40_method_9_code_18 : decode prog_40_method_9_code 18 = .ok (.getfield 15, 3) := by decide +kernel
theorem own_d_prog_40_method_9_code_21 : decode prog_40_method_9_code 21 = .ok (.aload_n 0, 1) := by decide +kernel
theorem own_d_prog_40_method_9_code_22 : decode prog_40_method_9_code 22 = .ok (.getfield 37, 3) := by decide +kernel
theorem own_d_prog_40_method_9_code_25 : decode prog_40_method_9_code 25 = .ok (.aconst_null, 1) := by decide +kernel
theorem own_d_prog_40_method_9_code_26 : decode prog_40_method_9_code 26 = .ok (.aastore, 1) := by decide +kernel
theorem own_d_prog_40_method_9_code_27 : decode prog_40_method_9_code 27 = .ok (.aload_n 1, 1) := by decide +kernel
theorem own_d_prog_40_method_9_code_28 : decode prog_40_method_9_code 28 = .ok (.areturn, 1) := by decide +kernel
theorem own_d_prog_40_method_10_code_0 : decode prog_40_method_10_code 0 = .ok (.aload_n 0, 1) := by decide +kernel
theorem own_d_prog_40_method_10_code_1 : decode prog_40_method_10_code 1 = .ok (.getfield 37, 3) := by decide +kernel
theorem own_d_prog_40_method_10_code_4 : decode prog_40_method_10_code 4 = .ok (.ifCond .ne 7, 3) := by decide +kernel
theorem own_d_prog_40_method_10_code_7 : decode prog_40_method_10_code 7 = .ok (.aconst_null, 1) := by decide +kernel
theorem own_d_prog_40_method_10_code_8 : decode prog_40_method_10_code 8 = .ok (.goto 14, 3) := by decide +kernel
theorem own_d_prog_40_method_10_code_22 : decode prog_40_method_10_code 22 = .ok (.areturn, 1) := by decide +kernel
theorem own_d_prog_40_method_7_code_0 : decode prog_40_method_7_code 0 = .ok (.aload_n 0, 1) := by decide +kernel
theorem own_d_prog_40_method_7_code_1 : decode prog_40_method_7_code 1 = .ok (.getfield 37, 3) := by decide +kernel
theorem own_d_prog_40_method_7_code_4 : decode prog_40_method_7_code 4 = .ok (.ifCond .ne 7, 3) := by decide +kernel
theorem own_d_prog_40_method_7_code_7 : decode prog_40_method_7_code 7 = .ok (.iconst 1, 1) := by decide +kernel
theorem own_d_prog_40_method_7_code_8 : decode prog_40_method_7_code 8 = .ok (.goto 4, 3) := by decide +kernel
theorem own_d_prog_40_method_7_code_12 : decode prog_40_method_7_code 12 = .ok (.ireturn, 1) := by decide +kernel
theorem own_d_prog_40_method_10_code_11 : decode prog_40_method_10_code 11 = .ok (.aload_n 0, 1) := by decide +kernel
theorem own_d_prog_40_method_10_code_12 : decode prog_40_method_10_code 12 = .ok (.getfield 15, 3) := by decide +kernel
theorem own_d_prog_40_method_10_code_15 : decode prog_40_method_10_code 15 = .ok (.aload_n 0, 1) := by decide +kernel
theorem own_d_prog_40_method_10_code_16 : decode prog_40_method_10_code 16 = .ok (.getfield 37, 3) := by decide +kernel
theorem own_d_prog_40_method_10_code_19 : decode prog_40_method_10_code 19 = .ok (.iconst 1, 1) := by decide +kernel
theorem own_d_prog_40_method_10_code_20 : decode prog_40_method_10_code 20 = .ok (.isub, 1) := by decide +kernel
theorem own_d_prog_40_method_10_code_21 : decode prog_40_method_10_code 21 = .ok (.aaload, 1) := by decide +kernel
theorem own_d_prog_40_method_7_code_11 : decode prog_40_method_7_code 11 = .ok (.iconst 0, 1) := by decide +kernel
theorem own_d_prog_38_method_8_code_0 : decode prog_38_method_8_code 0 = .ok (.getstatic 62, 3) := by decide +kernel
theorem own_d_prog_38_method_8_code_3 : decode prog_38_method_8_code 3 = .ok (.iload_n 0, 1) := by decide +kernel
theorem own_d_prog_38_method_8_code_4 : decode prog_38_method_8_code 4 = .ok (.aaload, 1) := by decide +kernel
theorem own_d_prog_38_method_8_code_5 : decode prog_38_method_8_code 5 = .ok (.areturn, 1) := by decide +kernel
theorem own_pn_com_example_baraja_baraja_games_sabacckessel_Card : plainName "com/example/baraja/baraja/games/sabacckessel/Card" = true := by first | (simp [plainName, overriddenIn]; done) | decide +kernel
theorem own_pd__I_V : parseMethodDescriptor "(I)V" = some ⟨[.int], none⟩ := by decide +kernel
theorem own_pd__I_Lcom_example_baraja_baraja_games_sabacckessel_Card_ : parseMethodDescriptor "(I)Lcom/example/baraja/baraja/games/sabacckessel/Card;" = some ⟨[.int], some (.object "com/example/baraja/baraja/games/sabacckessel/Card")⟩ := by decide +kernel
theorem own_pd__Lcom_example_baraja_baraja_games_sabacckessel_Card__V : parseMethodDescriptor "(Lcom/example/baraja/baraja/games/sabacckessel/Card;)V" = some ⟨[(.object "com/example/baraja/baraja/games/sabacckessel/Card")], none⟩ := by decide +kernel
theorem own_pd___Lcom_example_baraja_baraja_games_sabacckessel_Card_ : parseMethodDescriptor "()Lcom/example/baraja/baraja/games/sabacckessel/Card;" = some ⟨[], some (.object "com/example/baraja/baraja/games/sabacckessel/Card")⟩ := by decide +kernel
theorem own_pd___Z : parseMethodDescriptor "()Z" = some ⟨[], some .boolean⟩ := by decide +kernel
theorem own_pn_com_example_baraja_baraja_games_sabacckessel_FamilyCardsDrawFromDiscardsPinLaw : plainName "com/example/baraja/baraja/games/sabacckessel/FamilyCardsDrawFromDiscardsPinLaw" = true := by first | (simp [plainName, overriddenIn]; done) | decide +kernel
def QIni (Z : State) (b : Addr) (h0 : Heap) (n0 : Nat) (v : Option Value) (h : Heap) (L : List Loc) : Prop := ∃ d kd, v = none ∧ h0.size ≤ d ∧ Fr n0 L ∧ Keep h0 h [b] ∧ Exa Z h b "com/example/baraja/baraja/games/sabacckessel/FamilyCards" ∧ Fld Z h b "com/example/baraja/baraja/games/sabacckessel/FamilyCards" "discards" "[Lcom/example/baraja/baraja/games/sabacckessel/Card;" (.ref d) ∧ Fld Z h b "com/example/baraja/baraja/games/sabacckessel/FamilyCards" "discardCount" "I" (.int (0 : Int32)) ∧ Arv Z h d kd (.object "com/example/baraja/baraja/games/sabacckessel/Card") (22 : Int32) [.null, .null, .null, .null, .null, .null, .null, .null, .null, .null, .null, .null, .null, .null, .null, .null, .null, .null, .null, .null, .null, .null] .null ∧ Ovr Z kd "com/example/baraja/baraja/games/sabacckessel/Card"
theorem own_ef_own_ini (m : MethodId) {x0 : Addr} {x1 : Int32} : entryFrame m #[(.ref x0), (.int x1)] 2 = mkF m 0 #[.val (.ref x0), .val (.int x1)] [] := by first | (simp [entryFrame, mkF, argsToLocals, Value.category, maxLocals]; done) | rfl
set_option maxRecDepth 65536 in
set_option maxHeartbeats 40000000 in
theorem own_ini (l : Launch) (Z : State) (a0 : Array Value) (hw : ∀ d ∈ tables_1, d.before a0 Z = true) (ws : List Jvm.Cond) (h0 : Heap) (n0 : Nat) (Z0 : n0 ≤ h0.size) (b : Addr) (x : Int32) (E : Exa Z h0 b "com/example/baraja/baraja/games/sabacckessel/FamilyCards") (F_deck : Fld Z h0 b "com/example/baraja/baraja/games/sabacckessel/FamilyCards" "deck" "[B" .null) (F_discards : Fld Z h0 b "com/example/baraja/baraja/games/sabacckessel/FamilyCards" "discards" "[Lcom/example/baraja/baraja/games/sabacckessel/Card;" .null) (F_hands : Fld Z h0 b "com/example/baraja/baraja/games/sabacckessel/FamilyCards" "hands" "[Lcom/example/baraja/baraja/games/sabacckessel/Card;" .null) (F_seenBy : Fld Z h0 b "com/example/baraja/baraja/games/sabacckessel/FamilyCards" "seenBy" "[I" .null) (F_discardCount : Fld Z h0 b "com/example/baraja/baraja/games/sabacckessel/FamilyCards" "discardCount" "I" (.int (0 : Int32))) (g : n0 ≤ b) (x0 : ¬ x < 0) (x8 : x.toNatClampNeg ≤ 8) :
    MetFree l (⟨"com/example/baraja/baraja/games/sabacckessel/FamilyCards", "<init>", "(I)V"⟩ : MethodName) (head1 (Jvm.Cond.code (⟨"com/example/baraja/baraja/games/sabacckessel/FamilyCards", "<init>", "(I)V"⟩ : MethodName) prog_40_method_1_code 2 none :: ws) ({ frames := 1, cells := 4, slots := 60, locals := 12 } : Room)) (fun a U => a = #[(.ref b), (.int x)] ∧ Z.Warmed39 U.vm ∧ U.heap = h0) (fun _ _ _ _ _ => True) (fun _ U o U' => ∃ v L, o = .returned v ∧ QIni Z b h0 n0 v U'.heap L ∧ FrameEnd U o U' L ({ frames := 1, cells := 4, slots := 60, locals := 12 } : Room).cells ({ frames := 1, cells := 4, slots := 60, locals := 12 } : Room).slots) := by
  refine MetFree.of_bodySF (plainFor_of_name own_pn_com_example_baraja_baraja_games_sabacckessel_FamilyCards) hisR ?_
  intro p e s m args below meth c s₁ Bd hml0 hP hK
  obtain ⟨rfl, hZ, hh⟩ := hP
  have hx := Bd.exec
  have hby := Bd.bytes
  have hml : c.maxLocals = 2 := hml0
  have hown : s.vm.findClass "com/example/baraja/baraja/games/sabacckessel/FamilyCards" = some m.cls := findClass_of_methodNamed Bd.named
  have hnm := (name_of_methodNamed Bd.named Bd.method).1
  have X0 : Stand p l e ({ frames := 1, cells := 4, slots := 60, locals := 12 } : Room) s m #[(.ref b), (.int x)] below meth c s₁ [] 0 0 := Stand.of_body Bd
  have e0 : s₁.heap = h0 := by rw [← hh, Bd.state]; rfl
  have N0 := Fr.nil n0
  have pre0 : ∀ t, Steps p.tables e below (s₁.setTop (mkF m 0 #[.val (.ref b), .val (.int x)] [])) t → Steps p.tables e below (s₁.setTop (entryFrame m #[(.ref b), (.int x)] 2)) t := fun t k => castTop (own_ef_own_ini m) k
  obtain ⟨T1, X1, e1, st1⟩ := initO X0 hx hZ hown (hw _ (List.mem_of_getElem? (i := 6) rfl)) (hw _ (List.mem_of_getElem? (i := 7) rfl)) (hw _ (List.mem_of_getElem? (i := 8) rfl)) e0 (g := (mkF m 1 #[.val (.ref b), .val (.int x)] [(.ref b)])) rfl (by rw [hml]; rfl) rfl (hb hby own_d_prog_40_method_1_code_1) (by decide) (W := 0) (by show 2 * 0 + _ ≤ _; exact Nat.le_of_eq rfl) (by decide)
  have ch2 : ∀ t, Steps p.tables e below (T1.setTop (mkF m 4 #[.val (.ref b), .val (.int x)] [])) t → Steps p.tables e below (s₁.setTop (entryFrame m #[(.ref b), (.int x)] 2)) t := fun t k => pre0 t (by
      show Steps p.tables e below (s₁.setTop (mkF m 0 #[.val (.ref b), .val (.int x)] [])) t
      refine XS.aloadN X0.here hx rfl (hb hby own_d_prog_40_method_1_code_0) rfl rfl ?_
      show Steps p.tables e below (s₁.setTop (mkF m 1 #[.val (.ref b), .val (.int x)] [(.ref b)])) t
      exact st1 t k)
  obtain ⟨T3, hp3, k3, X3, e3, E3, A3, st3⟩ := newP X1 hx hZ (hw _ (List.mem_of_getElem? (i := 9) rfl)) e1 (g := (mkF m 7 #[.val (.ref b), .val (.int x)] [(.int (22 : Int32)), (.ref b)])) rfl (hb hby own_d_prog_40_method_1_code_7) rfl (by decide) (cap := 22) (by decide) (by decide) (by decide) (by decide)
  obtain ⟨b3, g3⟩ : ∃ z, z = h0.size := ⟨_, rfl⟩
  rw [← g3] at A3 st3
  have ne_b_b3 : b ≠ b3 := Nat.ne_of_lt (Nat.lt_of_lt_of_le E.lt (Nat.le_of_eq g3.symm))
  have g_b3 : n0 ≤ b3 := Nat.le_trans (Nat.le_trans Z0 (Keep.refl h0 [b]).1) (Nat.le_of_eq g3.symm)
  have sz_b3 : h0.size ≤ b3 := Nat.le_trans (Keep.refl h0 [b]).1 (Nat.le_of_eq g3.symm)
  have Kp3 := Keep.ext (Keep.refl h0 [b]) E3
  have V3 : Arv Z hp3 b3 k3 .byte (22 : Int32) [(.int (0 : Int32)), (.int (0 : Int32)), (.int (0 : Int32)), (.int (0 : Int32)), (.int (0 : Int32)), (.int (0 : Int32)), (.int (0 : Int32)), (.int (0 : Int32)), (.int (0 : Int32)), (.int (0 : Int32)), (.int (0 : Int32)), (.int (0 : Int32)), (.int (0 : Int32)), (.int (0 : Int32)), (.int (0 : Int32)), (.int (0 : Int32)), (.int (0 : Int32)), (.int (0 : Int32)), (.int (0 : Int32)), (.int (0 : Int32)), (.int (0 : Int32)), (.int (0 : Int32))] (.int (0 : Int32)) := (Arv.new A3 (by decide)).pad (pad_rep [] (.int (0 : Int32)) 22)
  have ch4 : ∀ t, Steps p.tables e below (T3.setTop (mkF m 9 #[.val (.ref b), .val (.int x)] [(.ref b3), (.ref b)])) t → Steps p.tables e below (s₁.setTop (entryFrame m #[(.ref b), (.int x)] 2)) t := fun t k => ch2 t (by
      show Steps p.tables e below (T1.setTop (mkF m 4 #[.val (.ref b), .val (.int x)] [])) t
      refine XS.aloadN X1.here hx rfl (hb hby own_d_prog_40_method_1_code_4) rfl rfl ?_
      show Steps p.tables e below (T1.setTop (mkF m 5 #[.val (.ref b), .val (.int x)] [(.ref b)])) t
      refine XS.bipush X1.here hx rfl (hb hby own_d_prog_40_method_1_code_5) ?_
      show Steps p.tables e below (T1.setTop (mkF m 7 #[.val (.ref b), .val (.int x)] [(.int (22 : Int32)), (.ref b)])) t
      exact st3 t k)
  have cf5 := (F_deck.ext E3)
  have cf6 := (E.ext E3)
  obtain ⟨T7, hp7, X7, e7, W7, st7⟩ := putF X3 hx hZ hown (host := "") (Or.inl (hw _ (List.mem_of_getElem? (i := 10) rfl))) Via.refl e3 cf5 cf6 (Or.inr ⟨(hw _ (List.mem_of_getElem? (i := 11) rfl)), rfl, hnm⟩) (hw _ (List.mem_of_getElem? (i := 1) rfl)) (ty := (.array .byte)) (by decide) rfl rfl (g := (mkF m 9 #[.val (.ref b), .val (.int x)] [(.ref b3), (.ref b)])) rfl rfl (hb hby own_d_prog_40_method_1_code_9)
  have ch8 : ∀ t, Steps p.tables e below (T7.setTop (mkF m 12 #[.val (.ref b), .val (.int x)] [])) t → Steps p.tables e below (s₁.setTop (entryFrame m #[(.ref b), (.int x)] 2)) t := fun t k => ch4 t (by
      show Steps p.tables e below (T3.setTop (mkF m 9 #[.val (.ref b), .val (.int x)] [(.ref b3), (.ref b)])) t
      exact st7 t k)
  have Fw7 := Fld.same W7 cf5
  have N7 := Fr.snoc X7 N0 g
  have Kp7 := Keep.wr Kp3 W7 (Or.inl (List.mem_of_getElem? (i := 0) rfl))
  obtain ⟨T9, hp9, k9, X9, e9, E9, A9, O9, st9⟩ := newR X7 hx hZ hown (hw _ (List.mem_of_getElem? (i := 12) rfl)) (hw _ (List.mem_of_getElem? (i := 13) rfl)) e7 (g := (mkF m 15 #[.val (.ref b), .val (.int x)] [(.int (22 : Int32)), (.ref b)])) rfl (hb hby own_d_prog_40_method_1_code_15) rfl (by decide) (cap := 22) (by decide) (by decide) (by decide) (by decide)
  obtain ⟨b9, g9⟩ : ∃ z, z = hp7.size := ⟨_, rfl⟩
  rw [← g9] at A9 st9
  have cf10 := (Exa.wr W7 cf6)
  have ne_b_b9 : b ≠ b9 := Nat.ne_of_lt (Nat.lt_of_lt_of_le cf10.lt (Nat.le_of_eq g9.symm))
  have cf11 := (V3.other W7 (Ne.symm ne_b_b3))
  have ne_b3_b9 : b3 ≠ b9 := Nat.ne_of_lt (Nat.lt_of_lt_of_le cf11.lt (Nat.le_of_eq g9.symm))
  have g_b9 : n0 ≤ b9 := Nat.le_trans (Nat.le_trans Z0 Kp7.1) (Nat.le_of_eq g9.symm)
  have sz_b9 : h0.size ≤ b9 := Nat.le_trans Kp7.1 (Nat.le_of_eq g9.symm)
  have Kp9 := Keep.ext Kp7 E9
  have V9 : Arv Z hp9 b9 k9 (.object "com/example/baraja/baraja/games/sabacckessel/Card") (22 : Int32) [.null, .null, .null, .null, .null, .null, .null, .null, .null, .null, .null, .null, .null, .null, .null, .null, .null, .null, .null, .null, .null, .null] .null := (Arv.new A9 (by decide)).pad (pad_rep [] .null 22)
  have ch12 : ∀ t, Steps p.tables e below (T9.setTop (mkF m 18 #[.val (.ref b), .val (.int x)] [(.ref b9), (.ref b)])) t → Steps p.tables e below (s₁.setTop (entryFrame m #[(.ref b), (.int x)] 2)) t := fun t k => ch8 t (by
      show Steps p.tables e below (T7.setTop (mkF m 12 #[.val (.ref b), .val (.int x)] [])) t
      refine XS.aloadN X7.here hx rfl (hb hby own_d_prog_40_method_1_code_12) rfl rfl ?_
      show Steps p.tables e below (T7.setTop (mkF m 13 #[.val (.ref b), .val (.int x)] [(.ref b)])) t
      refine XS.bipush X7.here hx rfl (hb hby own_d_prog_40_method_1_code_13) ?_
      show Steps p.tables e below (T7.setTop (mkF m 15 #[.val (.ref b), .val (.int x)] [(.int (22 : Int32)), (.ref b)])) t
      exact st9 t k)
  have cf13 := ((Fld.other W7 (F_discards.ext E3) (Or.inr (slot_ne (Or.inr (hw _ (List.mem_of_getElem? (i := 15) rfl))) (Or.inr (hw _ (List.mem_of_getElem? (i := 11) rfl))) (by decide) (t := (.array (.object "com/example/baraja/baraja/games/sabacckessel/Card"))) (t' := (.array .byte)) (by decide) (by decide)))).ext E9)
  have cf14 := (cf10.ext E9)
  obtain ⟨T15, hp15, X15, e15, W15, st15⟩ := putF X9 hx hZ hown (host := "") (Or.inl (hw _ (List.mem_of_getElem? (i := 14) rfl))) Via.refl e9 cf13 cf14 (Or.inr ⟨(hw _ (List.mem_of_getElem? (i := 15) rfl)), rfl, hnm⟩) (hw _ (List.mem_of_getElem? (i := 1) rfl)) (ty := (.array (.object "com/example/baraja/baraja/games/sabacckessel/Card"))) (by decide) rfl rfl (g := (mkF m 18 #[.val (.ref b), .val (.int x)] [(.ref b9), (.ref b)])) rfl rfl (hb hby own_d_prog_40_method_1_code_18)
  have ch16 : ∀ t, Steps p.tables e below (T15.setTop (mkF m 21 #[.val (.ref b), .val (.int x)] [])) t → Steps p.tables e below (s₁.setTop (entryFrame m #[(.ref b), (.int x)] 2)) t := fun t k => ch12 t (by
      show Steps p.tables e below (T9.setTop (mkF m 18 #[.val (.ref b), .val (.int x)] [(.ref b9), (.ref b)])) t
      exact st15 t k)
  have Fw15 := Fld.same W15 cf13
  have N15 := Fr.snoc X15 N7 g
  have Kp15 := Keep.wr Kp9 W15 (Or.inl (List.mem_of_getElem? (i := 0) rfl))
  obtain ⟨T17, hp17, k17, X17, e17, E17, A17, O17, st17⟩ := newR X15 hx hZ hown (hw _ (List.mem_of_getElem? (i := 12) rfl)) (hw _ (List.mem_of_getElem? (i := 13) rfl)) e15 (g := (mkF m 23 #[.val (.ref b), .val (.int x)] [(.int x), (.ref b)])) rfl (hb hby own_d_prog_40_method_1_code_23) rfl x0 (cap := 8) x8 (by decide) (by decide) (by decide)
  obtain ⟨b17, g17⟩ : ∃ z, z = hp15.size := ⟨_, rfl⟩
  rw [← g17] at A17 st17
  have cf18 := (Exa.wr W15 cf14)
  have ne_b_b17 : b ≠ b17 := Nat.ne_of_lt (Nat.lt_of_lt_of_le cf18.lt (Nat.le_of_eq g17.symm))
  have cf19 := ((cf11.ext E9).other W15 (Ne.symm ne_b_b3))
  have ne_b3_b17 : b3 ≠ b17 := Nat.ne_of_lt (Nat.lt_of_lt_of_le cf19.lt (Nat.le_of_eq g17.symm))
  have cf20 := (V9.other W15 (Ne.symm ne_b_b9))
  have ne_b9_b17 : b9 ≠ b17 := Nat.ne_of_lt (Nat.lt_of_lt_of_le cf20.lt (Nat.le_of_eq g17.symm))
  have g_b17 : n0 ≤ b17 := Nat.le_trans (Nat.le_trans Z0 Kp15.1) (Nat.le_of_eq g17.symm)
  have sz_b17 : h0.size ≤ b17 := Nat.le_trans Kp15.1 (Nat.le_of_eq g17.symm)
  have Kp17 := Keep.ext Kp15 E17
  have V17 := Arv.new A17 x0
  have ch21 : ∀ t, Steps p.tables e below (T17.setTop (mkF m 26 #[.val (.ref b), .val (.int x)] [(.ref b17), (.ref b)])) t → Steps p.tables e below (s₁.setTop (entryFrame m #[(.ref b), (.int x)] 2)) t := fun t k => ch16 t (by
      show Steps p.tables e below (T15.setTop (mkF m 21 #[.val (.ref b), .val (.int x)] [])) t
      refine XS.aloadN X15.here hx rfl (hb hby own_d_prog_40_method_1_code_21) rfl rfl ?_
      show Steps p.tables e below (T15.setTop (mkF m 22 #[.val (.ref b), .val (.int x)] [(.ref b)])) t
      refine XS.iloadN X15.here hx rfl (hb hby own_d_prog_40_method_1_code_22) rfl ?_
      show Steps p.tables e below (T15.setTop (mkF m 23 #[.val (.ref b), .val (.int x)] [(.int x), (.ref b)])) t
      exact st17 t k)
  have cf22 := ((Fld.other W15 ((Fld.other W7 (F_hands.ext E3) (Or.inr (slot_ne (Or.inr (hw _ (List.mem_of_getElem? (i := 17) rfl))) (Or.inr (hw _ (List.mem_of_getElem? (i := 11) rfl))) (by decide) (t := (.array (.object "com/example/baraja/baraja/games/sabacckessel/Card"))) (t' := (.array .byte)) (by decide) (by decide)))).ext E9) (Or.inr (slot_ne (Or.inr (hw _ (List.mem_of_getElem? (i := 17) rfl))) (Or.inr (hw _ (List.mem_of_getElem? (i := 15) rfl))) (by decide) (t := (.array (.object "com/example/baraja/baraja/games/sabacckessel/Card"))) (t' := (.array (.object "com/example/baraja/baraja/games/sabacckessel/Card"))) (by decide) (by decide)))).ext E17)
  have cf23 := (cf18.ext E17)
  obtain ⟨T24, hp24, X24, e24, W24, st24⟩ := putF X17 hx hZ hown (host := "") (Or.inl (hw _ (List.mem_of_getElem? (i := 16) rfl))) Via.refl e17 cf22 cf23 (Or.inr ⟨(hw _ (List.mem_of_getElem? (i := 17) rfl)), rfl, hnm⟩) (hw _ (List.mem_of_getElem? (i := 1) rfl)) (ty := (.array (.object "com/example/baraja/baraja/games/sabacckessel/Card"))) (by decide) rfl rfl (g := (mkF m 26 #[.val (.ref b), .val (.int x)] [(.ref b17), (.ref b)])) rfl rfl (hb hby own_d_prog_40_method_1_code_26)
  have ch25 : ∀ t, Steps p.tables e below (T24.setTop (mkF m 29 #[.val (.ref b), .val (.int x)] [])) t → Steps p.tables e below (s₁.setTop (entryFrame m #[(.ref b), (.int x)] 2)) t := fun t k => ch21 t (by
      show Steps p.tables e below (T17.setTop (mkF m 26 #[.val (.ref b), .val (.int x)] [(.ref b17), (.ref b)])) t
      exact st24 t k)
  have Fw24 := Fld.same W24 cf22
  have N24 := Fr.snoc X24 N15 g
  have Kp24 := Keep.wr Kp17 W24 (Or.inl (List.mem_of_getElem? (i := 0) rfl))
  obtain ⟨T26, hp26, k26, X26, e26, E26, A26, st26⟩ := newP X24 hx hZ (hw _ (List.mem_of_getElem? (i := 18) rfl)) e24 (g := (mkF m 31 #[.val (.ref b), .val (.int x)] [(.int x), (.ref b)])) rfl (hb hby own_d_prog_40_method_1_code_31) rfl x0 (cap := 8) x8 (by decide) (by decide) (by decide)
  obtain ⟨b26, g26⟩ : ∃ z, z = hp24.size := ⟨_, rfl⟩
  rw [← g26] at A26 st26
  have cf27 := (Exa.wr W24 cf23)
  have ne_b_b26 : b ≠ b26 := Nat.ne_of_lt (Nat.lt_of_lt_of_le cf27.lt (Nat.le_of_eq g26.symm))
  have cf28 := ((cf19.ext E17).other W24 (Ne.symm ne_b_b3))
  have ne_b3_b26 : b3 ≠ b26 := Nat.ne_of_lt (Nat.lt_of_lt_of_le cf28.lt (Nat.le_of_eq g26.symm))
  have cf29 := ((cf20.ext E17).other W24 (Ne.symm ne_b_b9))
  have ne_b9_b26 : b9 ≠ b26 := Nat.ne_of_lt (Nat.lt_of_lt_of_le cf29.lt (Nat.le_of_eq g26.symm))
  have cf30 := (V17.other W24 (Ne.symm ne_b_b17))
  have ne_b17_b26 : b17 ≠ b26 := Nat.ne_of_lt (Nat.lt_of_lt_of_le cf30.lt (Nat.le_of_eq g26.symm))
  have g_b26 : n0 ≤ b26 := Nat.le_trans (Nat.le_trans Z0 Kp24.1) (Nat.le_of_eq g26.symm)
  have sz_b26 : h0.size ≤ b26 := Nat.le_trans Kp24.1 (Nat.le_of_eq g26.symm)
  have Kp26 := Keep.ext Kp24 E26
  have V26 := Arv.new A26 x0
  have ch31 : ∀ t, Steps p.tables e below (T26.setTop (mkF m 33 #[.val (.ref b), .val (.int x)] [(.ref b26), (.ref b)])) t → Steps p.tables e below (s₁.setTop (entryFrame m #[(.ref b), (.int x)] 2)) t := fun t k => ch25 t (by
      show Steps p.tables e below (T24.setTop (mkF m 29 #[.val (.ref b), .val (.int x)] [])) t
      refine XS.aloadN X24.here hx rfl (hb hby own_d_prog_40_method_1_code_29) rfl rfl ?_
      show Steps p.tables e below (T24.setTop (mkF m 30 #[.val (.ref b), .val (.int x)] [(.ref b)])) t
      refine XS.iloadN X24.here hx rfl (hb hby own_d_prog_40_method_1_code_30) rfl ?_
      show Steps p.tables e below (T24.setTop (mkF m 31 #[.val (.ref b), .val (.int x)] [(.int x), (.ref b)])) t
      exact st26 t k)
  have cf32 := ((Fld.other W24 ((Fld.other W15 ((Fld.other W7 (F_seenBy.ext E3) (Or.inr (slot_ne (Or.inr (hw _ (List.mem_of_getElem? (i := 20) rfl))) (Or.inr (hw _ (List.mem_of_getElem? (i := 11) rfl))) (by decide) (t := (.array .int)) (t' := (.array .byte)) (by decide) (by decide)))).ext E9) (Or.inr (slot_ne (Or.inr (hw _ (List.mem_of_getElem? (i := 20) rfl))) (Or.inr (hw _ (List.mem_of_getElem? (i := 15) rfl))) (by decide) (t := (.array .int)) (t' := (.array (.object "com/example/baraja/baraja/games/sabacckessel/Card"))) (by decide) (by decide)))).ext E17) (Or.inr (slot_ne (Or.inr (hw _ (List.mem_of_getElem? (i := 20) rfl))) (Or.inr (hw _ (List.mem_of_getElem? (i := 17) rfl))) (by decide) (t := (.array .int)) (t' := (.array (.object "com/example/baraja/baraja/games/sabacckessel/Card"))) (by decide) (by decide)))).ext E26)
  have cf33 := (cf27.ext E26)
  obtain ⟨T34, hp34, X34, e34, W34, st34⟩ := putF X26 hx hZ hown (host := "") (Or.inl (hw _ (List.mem_of_getElem? (i := 19) rfl))) Via.refl e26 cf32 cf33 (Or.inr ⟨(hw _ (List.mem_of_getElem? (i := 20) rfl)), rfl, hnm⟩) (hw _ (List.mem_of_getElem? (i := 1) rfl)) (ty := (.array .int)) (by decide) rfl rfl (g := (mkF m 33 #[.val (.ref b), .val (.int x)] [(.ref b26), (.ref b)])) rfl rfl (hb hby own_d_prog_40_method_1_code_33)
  have ch35 : ∀ t, Steps p.tables e below (T34.setTop (mkF m 36 #[.val (.ref b), .val (.int x)] [])) t → Steps p.tables e below (s₁.setTop (entryFrame m #[(.ref b), (.int x)] 2)) t := fun t k => ch31 t (by
      show Steps p.tables e below (T26.setTop (mkF m 33 #[.val (.ref b), .val (.int x)] [(.ref b26), (.ref b)])) t
      exact st34 t k)
  have Fw34 := Fld.same W34 cf32
  have N34 := Fr.snoc X34 N24 g
  have Kp34 := Keep.wr Kp26 W34 (Or.inl (List.mem_of_getElem? (i := 0) rfl))
  have cf36 := (Exa.wr W34 cf33)
  have cf37 := (Fld.other W34 ((Fld.other W24 (Fw15.ext E17) (Or.inr (slot_ne (Or.inr (hw _ (List.mem_of_getElem? (i := 15) rfl))) (Or.inr (hw _ (List.mem_of_getElem? (i := 17) rfl))) (by decide) (t := (.array (.object "com/example/baraja/baraja/games/sabacckessel/Card"))) (t' := (.array (.object "com/example/baraja/baraja/games/sabacckessel/Card"))) (by decide) (by decide)))).ext E26) (Or.inr (slot_ne (Or.inr (hw _ (List.mem_of_getElem? (i := 15) rfl))) (Or.inr (hw _ (List.mem_of_getElem? (i := 20) rfl))) (by decide) (t := (.array (.object "com/example/baraja/baraja/games/sabacckessel/Card"))) (t' := (.array .int)) (by decide) (by decide))))
  have cf38 := (Fld.other W34 ((Fld.other W24 ((Fld.other W15 ((Fld.other W7 (F_discardCount.ext E3) (Or.inr (slot_ne (Or.inl (hw _ (List.mem_of_getElem? (i := 37) rfl))) (Or.inr (hw _ (List.mem_of_getElem? (i := 11) rfl))) (by decide) (t := .int) (t' := (.array .byte)) (by decide) (by decide)))).ext E9) (Or.inr (slot_ne (Or.inl (hw _ (List.mem_of_getElem? (i := 37) rfl))) (Or.inr (hw _ (List.mem_of_getElem? (i := 15) rfl))) (by decide) (t := .int) (t' := (.array (.object "com/example/baraja/baraja/games/sabacckessel/Card"))) (by decide) (by decide)))).ext E17) (Or.inr (slot_ne (Or.inl (hw _ (List.mem_of_getElem? (i := 37) rfl))) (Or.inr (hw _ (List.mem_of_getElem? (i := 17) rfl))) (by decide) (t := .int) (t' := (.array (.object "com/example/baraja/baraja/games/sabacckessel/Card"))) (by decide) (by decide)))).ext E26) (Or.inr (slot_ne (Or.inl (hw _ (List.mem_of_getElem? (i := 37) rfl))) (Or.inr (hw _ (List.mem_of_getElem? (i := 20) rfl))) (by decide) (t := .int) (t' := (.array .int)) (by decide) (by decide))))
  have cf39 := ((cf29.ext E26).other W34 (Ne.symm ne_b_b9))
  obtain ⟨fs, hr, hrun, hended, hW, hsame⟩ := X34.leave (v := none) (fun _ => rfl)
  refine ⟨_, _, ch35 _ ?_, hrun, hended, _, _, rfl, ?_, ⟨_, rfl⟩, hW, hsame.mono (by decide) (by decide)⟩
  · show Steps p.tables e below (T34.setTop (mkF m 36 #[.val (.ref b), .val (.int x)] [])) _
    exact X34.returnOut hx Bd.returns (hb hby own_d_prog_40_method_1_code_36) hr
  · show QIni Z b h0 n0 _ T34.heap _
    rw [e34]
    exact ⟨b9, k9, rfl, sz_b9, N34, Kp34, cf36, cf37, cf38, cf39, O9⟩
def QS0 (Z : State) (r : Option Value) (b dd : Addr) (kd : ClassId) (h0 : Heap) (n0 : Nat) (v : Option Value) (h : Heap) (L : List Loc) : Prop := v = r ∧ Fr n0 L ∧ Keep h0 h [b, dd] ∧ Exa Z h b "com/example/baraja/baraja/games/sabacckessel/FamilyCards" ∧ Fld Z h b "com/example/baraja/baraja/games/sabacckessel/FamilyCards" "discards" "[Lcom/example/baraja/baraja/games/sabacckessel/Card;" (.ref dd) ∧ Fld Z h b "com/example/baraja/baraja/games/sabacckessel/FamilyCards" "discardCount" "I" (.int (0 : Int32)) ∧ Arv Z h dd kd (.object "com/example/baraja/baraja/games/sabacckessel/Card") (22 : Int32) [.null, .null, .null, .null, .null, .null, .null, .null, .null, .null, .null, .null, .null, .null, .null, .null, .null, .null, .null, .null, .null, .null] .null
def QS1 (Z : State) (r : Option Value) (b dd : Addr) (kd : ClassId) (c0 : Addr) (h0 : Heap) (n0 : Nat) (v : Option Value) (h : Heap) (L : List Loc) : Prop := v = r ∧ Fr n0 L ∧ Keep h0 h [b, dd] ∧ Exa Z h b "com/example/baraja/baraja/games/sabacckessel/FamilyCards" ∧ Fld Z h b "com/example/baraja/baraja/games/sabacckessel/FamilyCards" "discards" "[Lcom/example/baraja/baraja/games/sabacckessel/Card;" (.ref dd) ∧ Fld Z h b "com/example/baraja/baraja/games/sabacckessel/FamilyCards" "discardCount" "I" (.int (1 : Int32)) ∧ Arv Z h dd kd (.object "com/example/baraja/baraja/games/sabacckessel/Card") (22 : Int32) [(.ref c0), .null, .null, .null, .null, .null, .null, .null, .null, .null, .null, .null, .null, .null, .null, .null, .null, .null, .null, .null, .null, .null] .null
def QS2 (Z : State) (r : Option Value) (b dd : Addr) (kd : ClassId) (c0 c1 : Addr) (h0 : Heap) (n0 : Nat) (v : Option Value) (h : Heap) (L : List Loc) : Prop := v = r ∧ Fr n0 L ∧ Keep h0 h [b, dd] ∧ Exa Z h b "com/example/baraja/baraja/games/sabacckessel/FamilyCards" ∧ Fld Z h b "com/example/baraja/baraja/games/sabacckessel/FamilyCards" "discards" "[Lcom/example/baraja/baraja/games/sabacckessel/Card;" (.ref dd) ∧ Fld Z h b "com/example/baraja/baraja/games/sabacckessel/FamilyCards" "discardCount" "I" (.int (2 : Int32)) ∧ Arv Z h dd kd (.object "com/example/baraja/baraja/games/sabacckessel/Card") (22 : Int32) [(.ref c0), (.ref c1), .null, .null, .null, .null, .null, .null, .null, .null, .null, .null, .null, .null, .null, .null, .null, .null, .null, .null, .null, .null] .null
def QS3 (Z : State) (r : Option Value) (b dd : Addr) (kd : ClassId) (c0 c1 c2 : Addr) (h0 : Heap) (n0 : Nat) (v : Option Value) (h : Heap) (L : List Loc) : Prop := v = r ∧ Fr n0 L ∧ Keep h0 h [b, dd] ∧ Exa Z h b "com/example/baraja/baraja/games/sabacckessel/FamilyCards" ∧ Fld Z h b "com/example/baraja/baraja/games/sabacckessel/FamilyCards" "discards" "[Lcom/example/baraja/baraja/games/sabacckessel/Card;" (.ref dd) ∧ Fld Z h b "com/example/baraja/baraja/games/sabacckessel/FamilyCards" "discardCount" "I" (.int (3 : Int32)) ∧ Arv Z h dd kd (.object "com/example/baraja/baraja/games/sabacckessel/Card") (22 : Int32) [(.ref c0), (.ref c1), (.ref c2), .null, .null, .null, .null, .null, .null, .null, .null, .null, .null, .null, .null, .null, .null, .null, .null, .null, .null, .null] .null
theorem own_ef_own_disc_0 (m : MethodId) {x0 : Addr} {x1 : Addr} : entryFrame m #[(.ref x0), (.ref x1)] 2 = mkF m 0 #[.val (.ref x0), .val (.ref x1)] [] := by first | (simp [entryFrame, mkF, argsToLocals, Value.category, maxLocals]; done) | rfl
set_option maxRecDepth 65536 in
set_option maxHeartbeats 40000000 in
theorem own_disc_0 (l : Launch) (Z : State) (a0 : Array Value) (hw : ∀ d ∈ tables_1, d.before a0 Z = true) (ws : List Jvm.Cond) (h0 : Heap) (n0 : Nat) (Z0 : n0 ≤ h0.size) (b dd : Addr) (kd : ClassId) (c0 : Addr) (E : Exa Z h0 b "com/example/baraja/baraja/games/sabacckessel/FamilyCards") (F1 : Fld Z h0 b "com/example/baraja/baraja/games/sabacckessel/FamilyCards" "discards" "[Lcom/example/baraja/baraja/games/sabacckessel/Card;" (.ref dd)) (F2 : Fld Z h0 b "com/example/baraja/baraja/games/sabacckessel/FamilyCards" "discardCount" "I" (.int (0 : Int32))) (V0 : Arv Z h0 dd kd (.object "com/example/baraja/baraja/games/sabacckessel/Card") (22 : Int32) [.null, .null, .null, .null, .null, .null, .null, .null, .null, .null, .null, .null, .null, .null, .null, .null, .null, .null, .null, .null, .null, .null] .null) (O : Ovr Z kd "com/example/baraja/baraja/games/sabacckessel/Card") (g1 : n0 ≤ b) (g2 : n0 ≤ dd) (ne : b ≠ dd) (Ec : Exa Z h0 c0 "com/example/baraja/baraja/games/sabacckessel/Card") :
    MetFree l (⟨"com/example/baraja/baraja/games/sabacckessel/FamilyCards", "discard", "(Lcom/example/baraja/baraja/games/sabacckessel/Card;)V"⟩ : MethodName) (head1 (Jvm.Cond.code (⟨"com/example/baraja/baraja/games/sabacckessel/FamilyCards", "discard", "(Lcom/example/baraja/baraja/games/sabacckessel/Card;)V"⟩ : MethodName) prog_40_method_11_code 2 none :: ws) ({ frames := 0, cells := 0, slots := 0, locals := 0 } : Room)) (fun a U => a = #[(.ref b), (.ref c0)] ∧ Z.Warmed39 U.vm ∧ U.heap = h0) (fun _ _ _ _ _ => True) (fun _ U o U' => ∃ v L, o = .returned v ∧ QS1 Z none b dd kd c0 h0 n0 v U'.heap L ∧ FrameEnd U o U' L ({ frames := 0, cells := 0, slots := 0, locals := 0 } : Room).cells ({ frames := 0, cells := 0, slots := 0, locals := 0 } : Room).slots) := by
  refine MetFree.of_bodySF (plainFor_of_name own_pn_com_example_baraja_baraja_games_sabacckessel_FamilyCards) hisR ?_
  intro p e s m args below meth c s₁ Bd hml0 hP hK
  obtain ⟨rfl, hZ, hh⟩ := hP
  have hx := Bd.exec
  have hby := Bd.bytes
  have hml : c.maxLocals = 2 := hml0
  have hown : s.vm.findClass "com/example/baraja/baraja/games/sabacckessel/FamilyCards" = some m.cls := findClass_of_methodNamed Bd.named
  have hnm := (name_of_methodNamed Bd.named Bd.method).1
  have X0 : Stand p l e ({ frames := 0, cells := 0, slots := 0, locals := 0 } : Room) s m #[(.ref b), (.ref c0)] below meth c s₁ [] 0 0 := Stand.of_body Bd
  have e0 : s₁.heap = h0 := by rw [← hh, Bd.state]; rfl
  have N0 := Fr.nil n0
  have pre0 : ∀ t, Steps p.tables e below (s₁.setTop (mkF m 0 #[.val (.ref b), .val (.ref c0)] [])) t → Steps p.tables e below (s₁.setTop (entryFrame m #[(.ref b), (.ref c0)] 2)) t := fun t k => castTop (own_ef_own_disc_0 m) k
  obtain ⟨T1, X1, e1, st1⟩ := getF X0 hx hZ hown (host := "") (Or.inl (hw _ (List.mem_of_getElem? (i := 14) rfl))) Via.refl e0 F1 (g := (mkF m 1 #[.val (.ref b), .val (.ref c0)] [(.ref b)])) rfl rfl (hb hby own_d_prog_40_method_11_code_1)
  have ch2 : ∀ t, Steps p.tables e below (T1.setTop (mkF m 4 #[.val (.ref b), .val (.ref c0)] [(.ref dd)])) t → Steps p.tables e below (s₁.setTop (entryFrame m #[(.ref b), (.ref c0)] 2)) t := fun t k => pre0 t (by
      show Steps p.tables e below (s₁.setTop (mkF m 0 #[.val (.ref b), .val (.ref c0)] [])) t
      refine XS.aloadN X0.here hx rfl (hb hby own_d_prog_40_method_11_code_0) rfl rfl ?_
      show Steps p.tables e below (s₁.setTop (mkF m 1 #[.val (.ref b), .val (.ref c0)] [(.ref b)])) t
      exact st1 t k)
  obtain ⟨T3, X3, e3, st3⟩ := getF X1 hx hZ hown (host := "") (Or.inl (hw _ (List.mem_of_getElem? (i := 36) rfl))) Via.refl e1 F2 (g := (mkF m 6 #[.val (.ref b), .val (.ref c0)] [(.ref b), (.ref b), (.ref dd)])) rfl rfl (hb hby own_d_prog_40_method_11_code_6)
  have ch4 : ∀ t, Steps p.tables e below (T3.setTop (mkF m 9 #[.val (.ref b), .val (.ref c0)] [(.int (0 : Int32)), (.ref b), (.ref dd)])) t → Steps p.tables e below (s₁.setTop (entryFrame m #[(.ref b), (.ref c0)] 2)) t := fun t k => ch2 t (by
      show Steps p.tables e below (T1.setTop (mkF m 4 #[.val (.ref b), .val (.ref c0)] [(.ref dd)])) t
      refine XS.aloadN X1.here hx rfl (hb hby own_d_prog_40_method_11_code_4) rfl rfl ?_
      show Steps p.tables e below (T1.setTop (mkF m 5 #[.val (.ref b), .val (.ref c0)] [(.ref b), (.ref dd)])) t
      refine XS.dup X1.here hx rfl (hb hby own_d_prog_40_method_11_code_5) rfl rfl ?_
      show Steps p.tables e below (T1.setTop (mkF m 6 #[.val (.ref b), .val (.ref c0)] [(.ref b), (.ref b), (.ref dd)])) t
      exact st3 t k)
  obtain ⟨T5, hp5, X5, e5, W5, st5⟩ := putF X3 hx hZ hown (host := "") (Or.inl (hw _ (List.mem_of_getElem? (i := 36) rfl))) Via.refl e3 F2 E (Or.inl (hw _ (List.mem_of_getElem? (i := 37) rfl))) (hw _ (List.mem_of_getElem? (i := 1) rfl)) (ty := .int) (by decide) rfl rfl (g := (mkF m 12 #[.val (.ref b), .val (.ref c0)] [(.int (1 : Int32)), (.ref b), (.int (0 : Int32)), (.ref dd)])) rfl rfl (hb hby own_d_prog_40_method_11_code_12)
  have ch6 : ∀ t, Steps p.tables e below (T5.setTop (mkF m 15 #[.val (.ref b), .val (.ref c0)] [(.int (0 : Int32)), (.ref dd)])) t → Steps p.tables e below (s₁.setTop (entryFrame m #[(.ref b), (.ref c0)] 2)) t := fun t k => ch4 t (by
      show Steps p.tables e below (T3.setTop (mkF m 9 #[.val (.ref b), .val (.ref c0)] [(.int (0 : Int32)), (.ref b), (.ref dd)])) t
      refine XS.dupX1 X3.here hx rfl (hb hby own_d_prog_40_method_11_code_9) rfl rfl rfl ?_
      show Steps p.tables e below (T3.setTop (mkF m 10 #[.val (.ref b), .val (.ref c0)] [(.int (0 : Int32)), (.ref b), (.int (0 : Int32)), (.ref dd)])) t
      refine XS.iconst X3.here hx rfl (hb hby own_d_prog_40_method_11_code_10) ?_
      show Steps p.tables e below (T3.setTop (mkF m 11 #[.val (.ref b), .val (.ref c0)] [(.int (1 : Int32)), (.int (0 : Int32)), (.ref b), (.int (0 : Int32)), (.ref dd)])) t
      refine XS.iadd X3.here hx rfl (hb hby own_d_prog_40_method_11_code_11) rfl ?_
      rw [show ((0 : Int32) + (1 : Int32)) = (1 : Int32) from by decide]
      show Steps p.tables e below (T3.setTop (mkF m 12 #[.val (.ref b), .val (.ref c0)] [(.int (1 : Int32)), (.ref b), (.int (0 : Int32)), (.ref dd)])) t
      exact st5 t k)
  have Fw5 := Fld.same W5 F2
  have N5 := Fr.snoc X5 N0 g1
  have Kp5 := Keep.wr (Keep.refl h0 [b, dd]) W5 (Or.inl (List.mem_of_getElem? (i := 0) rfl))
  have cf7 := (V0.other W5 (Ne.symm ne))
  obtain ⟨cl8, Ar8, qq8, Sz8, Ng8, Ha8, Ga8⟩ := id cf7
  have hin8 : ¬ ((0 : Int32) < 0 ∨ cl8.slots.size ≤ ((0 : Int32)).toNatClampNeg) := inb_of Sz8 (by decide)
  have cf9 := (Exa.wr W5 Ec)
  obtain ⟨T10, hp10, X10, e10, W10, st10⟩ := stR X5 hx hZ e5 Ar8 (j := (0 : Int32)) hin8 rfl (Sto.ofV Ar8 qq8 O (Ins.self cf9)) (g := (mkF m 16 #[.val (.ref b), .val (.ref c0)] [(.ref c0), (.int (0 : Int32)), (.ref dd)])) rfl rfl (hb hby own_d_prog_40_method_11_code_16)
  have ch11 : ∀ t, Steps p.tables e below (T10.setTop (mkF m 17 #[.val (.ref b), .val (.ref c0)] [])) t → Steps p.tables e below (s₁.setTop (entryFrame m #[(.ref b), (.ref c0)] 2)) t := fun t k => ch6 t (by
      show Steps p.tables e below (T5.setTop (mkF m 15 #[.val (.ref b), .val (.ref c0)] [(.int (0 : Int32)), (.ref dd)])) t
      refine XS.aloadN X5.here hx rfl (hb hby own_d_prog_40_method_11_code_15) rfl rfl ?_
      show Steps p.tables e below (T5.setTop (mkF m 16 #[.val (.ref b), .val (.ref c0)] [(.ref c0), (.int (0 : Int32)), (.ref dd)])) t
      exact st10 t k)
  have V10 : Arv Z hp10 dd kd (.object "com/example/baraja/baraja/games/sabacckessel/Card") (22 : Int32) [(.ref c0), .null, .null, .null, .null, .null, .null, .null, .null, .null, .null, .null, .null, .null, .null, .null, .null, .null, .null, .null, .null, .null] .null := Arv.set Ar8 qq8 Sz8 Ng8 Ha8 Ga8 rfl W10 0 rfl (Nat.le_of_ble_eq_true rfl)
  have N10 := Fr.snoc X10 N5 g2
  have Kp10 := Keep.wr Kp5 W10 (Or.inl (List.mem_of_getElem? (i := 1) rfl))
  have cf12 := (Exa.wr W10 (Exa.wr W5 E))
  have cf13 := (Fld.other W10 (Fld.other W5 F1 (Or.inr (slot_ne (Or.inr (hw _ (List.mem_of_getElem? (i := 15) rfl))) (Or.inl (hw _ (List.mem_of_getElem? (i := 37) rfl))) (by decide) (t := (.array (.object "com/example/baraja/baraja/games/sabacckessel/Card"))) (t' := .int) (by decide) (by decide)))) (Or.inl ne))
  have cf14 := (Fld.other W10 Fw5 (Or.inl ne))
  obtain ⟨fs, hr, hrun, hended, hW, hsame⟩ := X10.leave (v := none) (fun _ => rfl)
  refine ⟨_, _, ch11 _ ?_, hrun, hended, _, _, rfl, ?_, ⟨_, rfl⟩, hW, hsame.mono (by decide) (by decide)⟩
  · show Steps p.tables e below (T10.setTop (mkF m 17 #[.val (.ref b), .val (.ref c0)] [])) _
    exact X10.returnOut hx Bd.returns (hb hby own_d_prog_40_method_11_code_17) hr
  · show QS1 Z none b dd kd c0 h0 n0 _ T10.heap _
    rw [e10]
    exact ⟨rfl, N10, Kp10, cf12, cf13, cf14, V10⟩
theorem own_ef_own_disc_1 (m : MethodId) {x0 : Addr} {x1 : Addr} : entryFrame m #[(.ref x0), (.ref x1)] 2 = mkF m 0 #[.val (.ref x0), .val (.ref x1)] [] := by first | (simp [entryFrame, mkF, argsToLocals, Value.category, maxLocals]; done) | rfl
set_option maxRecDepth 65536 in
set_option maxHeartbeats 40000000 in
theorem own_disc_1 (l : Launch) (Z : State) (a0 : Array Value) (hw : ∀ d ∈ tables_1, d.before a0 Z = true) (ws : List Jvm.Cond) (h0 : Heap) (n0 : Nat) (Z0 : n0 ≤ h0.size) (b dd : Addr) (kd : ClassId) (c0 c1 : Addr) (E : Exa Z h0 b "com/example/baraja/baraja/games/sabacckessel/FamilyCards") (F1 : Fld Z h0 b "com/example/baraja/baraja/games/sabacckessel/FamilyCards" "discards" "[Lcom/example/baraja/baraja/games/sabacckessel/Card;" (.ref dd)) (F2 : Fld Z h0 b "com/example/baraja/baraja/games/sabacckessel/FamilyCards" "discardCount" "I" (.int (1 : Int32))) (V0 : Arv Z h0 dd kd (.object "com/example/baraja/baraja/games/sabacckessel/Card") (22 : Int32) [(.ref c0), .null, .null, .null, .null, .null, .null, .null, .null, .null, .null, .null, .null, .null, .null, .null, .null, .null, .null, .null, .null, .null] .null) (O : Ovr Z kd "com/example/baraja/baraja/games/sabacckessel/Card") (g1 : n0 ≤ b) (g2 : n0 ≤ dd) (ne : b ≠ dd) (Ec : Exa Z h0 c1 "com/example/baraja/baraja/games/sabacckessel/Card") :
    MetFree l (⟨"com/example/baraja/baraja/games/sabacckessel/FamilyCards", "discard", "(Lcom/example/baraja/baraja/games/sabacckessel/Card;)V"⟩ : MethodName) (head1 (Jvm.Cond.code (⟨"com/example/baraja/baraja/games/sabacckessel/FamilyCards", "discard", "(Lcom/example/baraja/baraja/games/sabacckessel/Card;)V"⟩ : MethodName) prog_40_method_11_code 2 none :: ws) ({ frames := 0, cells := 0, slots := 0, locals := 0 } : Room)) (fun a U => a = #[(.ref b), (.ref c1)] ∧ Z.Warmed39 U.vm ∧ U.heap = h0) (fun _ _ _ _ _ => True) (fun _ U o U' => ∃ v L, o = .returned v ∧ QS2 Z none b dd kd c0 c1 h0 n0 v U'.heap L ∧ FrameEnd U o U' L ({ frames := 0, cells := 0, slots := 0, locals := 0 } : Room).cells ({ frames := 0, cells := 0, slots := 0, locals := 0 } : Room).slots) := by
  refine MetFree.of_bodySF (plainFor_of_name own_pn_com_example_baraja_baraja_games_sabacckessel_FamilyCards) hisR ?_
  intro p e s m args below meth c s₁ Bd hml0 hP hK
  obtain ⟨rfl, hZ, hh⟩ := hP
  have hx := Bd.exec
  have hby := Bd.bytes
  have hml : c.maxLocals = 2 := hml0
  have hown : s.vm.findClass "com/example/baraja/baraja/games/sabacckessel/FamilyCards" = some m.cls := findClass_of_methodNamed Bd.named
  have hnm := (name_of_methodNamed Bd.named Bd.method).1
  have X0 : Stand p l e ({ frames := 0, cells := 0, slots := 0, locals := 0 } : Room) s m #[(.ref b), (.ref c1)] below meth c s₁ [] 0 0 := Stand.of_body Bd
  have e0 : s₁.heap = h0 := by rw [← hh, Bd.state]; rfl
  have N0 := Fr.nil n0
  have pre0 : ∀ t, Steps p.tables e below (s₁.setTop (mkF m 0 #[.val (.ref b), .val (.ref c1)] [])) t → Steps p.tables e below (s₁.setTop (entryFrame m #[(.ref b), (.ref c1)] 2)) t := fun t k => castTop (own_ef_own_disc_1 m) k
  obtain ⟨T1, X1, e1, st1⟩ := getF X0 hx hZ hown (host := "") (Or.inl (hw _ (List.mem_of_getElem? (i := 14) rfl))) Via.refl e0 F1 (g := (mkF m 1 #[.val (.ref b), .val (.ref c1)] [(.ref b)])) rfl rfl (hb hby own_d_prog_40_method_11_code_1)
  have ch2 : ∀ t, Steps p.tables e below (T1.setTop (mkF m 4 #[.val (.ref b), .val (.ref c1)] [(.ref dd)])) t → Steps p.tables e below (s₁.setTop (entryFrame m #[(.ref b), (.ref c1)] 2)) t := fun t k => pre0 t (by
      show Steps p.tables e below (s₁.setTop (mkF m 0 #[.val (.ref b), .val (.ref c1)] [])) t
      refine XS.aloadN X0.here hx rfl (hb hby own_d_prog_40_method_11_code_0) rfl rfl ?_
      show Steps p.tables e below (s₁.setTop (mkF m 1 #[.val (.ref b), .val (.ref c1)] [(.ref b)])) t
      exact st1 t k)
  obtain ⟨T3, X3, e3, st3⟩ := getF X1 hx hZ hown (host := "") (Or.inl (hw _ (List.mem_of_getElem? (i := 36) rfl))) Via.refl e1 F2 (g := (mkF m 6 #[.val (.ref b), .val (.ref c1)] [(.ref b), (.ref b), (.ref dd)])) rfl rfl (hb hby own_d_prog_40_method_11_code_6)
  have ch4 : ∀ t, Steps p.tables e below (T3.setTop (mkF m 9 #[.val (.ref b), .val (.ref c1)] [(.int (1 : Int32)), (.ref b), (.ref dd)])) t → Steps p.tables e below (s₁.setTop (entryFrame m #[(.ref b), (.ref c1)] 2)) t := fun t k => ch2 t (by
      show Steps p.tables e below (T1.setTop (mkF m 4 #[.val (.ref b), .val (.ref c1)] [(.ref dd)])) t
      refine XS.aloadN X1.here hx rfl (hb hby own_d_prog_40_method_11_code_4) rfl rfl ?_
      show Steps p.tables e below (T1.setTop (mkF m 5 #[.val (.ref b), .val (.ref c1)] [(.ref b), (.ref dd)])) t
      refine XS.dup X1.here hx rfl (hb hby own_d_prog_40_method_11_code_5) rfl rfl ?_
      show Steps p.tables e below (T1.setTop (mkF m 6 #[.val (.ref b), .val (.ref c1)] [(.ref b), (.ref b), (.ref dd)])) t
      exact st3 t k)
  obtain ⟨T5, hp5, X5, e5, W5, st5⟩ := putF X3 hx hZ hown (host := "") (Or.inl (hw _ (List.mem_of_getElem? (i := 36) rfl))) Via.refl e3 F2 E (Or.inl (hw _ (List.mem_of_getElem? (i := 37) rfl))) (hw _ (List.mem_of_getElem? (i := 1) rfl)) (ty := .int) (by decide) rfl rfl (g := (mkF m 12 #[.val (.ref b), .val (.ref c1)] [(.int (2 : Int32)), (.ref b), (.int (1 : Int32)), (.ref dd)])) rfl rfl (hb hby own_d_prog_40_method_11_code_12)
  have ch6 : ∀ t, Steps p.tables e below (T5.setTop (mkF m 15 #[.val (.ref b), .val (.ref c1)] [(.int (1 : Int32)), (.ref dd)])) t → Steps p.tables e below (s₁.setTop (entryFrame m #[(.ref b), (.ref c1)] 2)) t := fun t k => ch4 t (by
      show Steps p.tables e below (T3.setTop (mkF m 9 #[.val (.ref b), .val (.ref c1)] [(.int (1 : Int32)), (.ref b), (.ref dd)])) t
      refine XS.dupX1 X3.here hx rfl (hb hby own_d_prog_40_method_11_code_9) rfl rfl rfl ?_
      show Steps p.tables e below (T3.setTop (mkF m 10 #[.val (.ref b), .val (.ref c1)] [(.int (1 : Int32)), (.ref b), (.int (1 : Int32)), (.ref dd)])) t
      refine XS.iconst X3.here hx rfl (hb hby own_d_prog_40_method_11_code_10) ?_
      show Steps p.tables e below (T3.setTop (mkF m 11 #[.val (.ref b), .val (.ref c1)] [(.int (1 : Int32)), (.int (1 : Int32)), (.ref b), (.int (1 : Int32)), (.ref dd)])) t
      refine XS.iadd X3.here hx rfl (hb hby own_d_prog_40_method_11_code_11) rfl ?_
      rw [show ((1 : Int32) + (1 : Int32)) = (2 : Int32) from by decide]
      show Steps p.tables e below (T3.setTop (mkF m 12 #[.val (.ref b), .val (.ref c1)] [(.int (2 : Int32)), (.ref b), (.int (1 : Int32)), (.ref dd)])) t
      exact st5 t k)
  have Fw5 := Fld.same W5 F2
  have N5 := Fr.snoc X5 N0 g1
  have Kp5 := Keep.wr (Keep.refl h0 [b, dd]) W5 (Or.inl (List.mem_of_getElem? (i := 0) rfl))
  have cf7 := (V0.other W5 (Ne.symm ne))
  obtain ⟨cl8, Ar8, qq8, Sz8, Ng8, Ha8, Ga8⟩ := id cf7
  have hin8 : ¬ ((1 : Int32) < 0 ∨ cl8.slots.size ≤ ((1 : Int32)).toNatClampNeg) := inb_of Sz8 (by decide)
  have cf9 := (Exa.wr W5 Ec)
  obtain ⟨T10, hp10, X10, e10, W10, st10⟩ := stR X5 hx hZ e5 Ar8 (j := (1 : Int32)) hin8 rfl (Sto.ofV Ar8 qq8 O (Ins.self cf9)) (g := (mkF m 16 #[.val (.ref b), .val (.ref c1)] [(.ref c1), (.int (1 : Int32)), (.ref dd)])) rfl rfl (hb hby own_d_prog_40_method_11_code_16)
  have ch11 : ∀ t, Steps p.tables e below (T10.setTop (mkF m 17 #[.val (.ref b), .val (.ref c1)] [])) t → Steps p.tables e below (s₁.setTop (entryFrame m #[(.ref b), (.ref c1)] 2)) t := fun t k => ch6 t (by
      show Steps p.tables e below (T5.setTop (mkF m 15 #[.val (.ref b), .val (.ref c1)] [(.int (1 : Int32)), (.ref dd)])) t
      refine XS.aloadN X5.here hx rfl (hb hby own_d_prog_40_method_11_code_15) rfl rfl ?_
      show Steps p.tables e below (T5.setTop (mkF m 16 #[.val (.ref b), .val (.ref c1)] [(.ref c1), (.int (1 : Int32)), (.ref dd)])) t
      exact st10 t k)
  have V10 : Arv Z hp10 dd kd (.object "com/example/baraja/baraja/games/sabacckessel/Card") (22 : Int32) [(.ref c0), (.ref c1), .null, .null, .null, .null, .null, .null, .null, .null, .null, .null, .null, .null, .null, .null, .null, .null, .null, .null, .null, .null] .null := Arv.set Ar8 qq8 Sz8 Ng8 Ha8 Ga8 rfl W10 1 rfl (Nat.le_of_ble_eq_true rfl)
  have N10 := Fr.snoc X10 N5 g2
  have Kp10 := Keep.wr Kp5 W10 (Or.inl (List.mem_of_getElem? (i := 1) rfl))
  have cf12 := (Exa.wr W10 (Exa.wr W5 E))
  have cf13 := (Fld.other W10 (Fld.other W5 F1 (Or.inr (slot_ne (Or.inr (hw _ (List.mem_of_getElem? (i := 15) rfl))) (Or.inl (hw _ (List.mem_of_getElem? (i := 37) rfl))) (by decide) (t := (.array (.object "com/example/baraja/baraja/games/sabacckessel/Card"))) (t' := .int) (by decide) (by decide)))) (Or.inl ne))
  have cf14 := (Fld.other W10 Fw5 (Or.inl ne))
  obtain ⟨fs, hr, hrun, hended, hW, hsame⟩ := X10.leave (v := none) (fun _ => rfl)
  refine ⟨_, _, ch11 _ ?_, hrun, hended, _, _, rfl, ?_, ⟨_, rfl⟩, hW, hsame.mono (by decide) (by decide)⟩
  · show Steps p.tables e below (T10.setTop (mkF m 17 #[.val (.ref b), .val (.ref c1)] [])) _
    exact X10.returnOut hx Bd.returns (hb hby own_d_prog_40_method_11_code_17) hr
  · show QS2 Z none b dd kd c0 c1 h0 n0 _ T10.heap _
    rw [e10]
    exact ⟨rfl, N10, Kp10, cf12, cf13, cf14, V10⟩
theorem own_ef_own_disc_2 (m : MethodId) {x0 : Addr} {x1 : Addr} : entryFrame m #[(.ref x0), (.ref x1)] 2 = mkF m 0 #[.val (.ref x0), .val (.ref x1)] [] := by first | (simp [entryFrame, mkF, argsToLocals, Value.category, maxLocals]; done) | rfl
set_option maxRecDepth 65536 in
set_option maxHeartbeats 40000000 in
theorem own_disc_2 (l : Launch) (Z : State) (a0 : Array Value) (hw : ∀ d ∈ tables_1, d.before a0 Z = true) (ws : List Jvm.Cond) (h0 : Heap) (n0 : Nat) (Z0 : n0 ≤ h0.size) (b dd : Addr) (kd : ClassId) (c0 c1 c2 : Addr) (E : Exa Z h0 b "com/example/baraja/baraja/games/sabacckessel/FamilyCards") (F1 : Fld Z h0 b "com/example/baraja/baraja/games/sabacckessel/FamilyCards" "discards" "[Lcom/example/baraja/baraja/games/sabacckessel/Card;" (.ref dd)) (F2 : Fld Z h0 b "com/example/baraja/baraja/games/sabacckessel/FamilyCards" "discardCount" "I" (.int (2 : Int32))) (V0 : Arv Z h0 dd kd (.object "com/example/baraja/baraja/games/sabacckessel/Card") (22 : Int32) [(.ref c0), (.ref c1), .null, .null, .null, .null, .null, .null, .null, .null, .null, .null, .null, .null, .null, .null, .null, .null, .null, .null, .null, .null] .null) (O : Ovr Z kd "com/example/baraja/baraja/games/sabacckessel/Card") (g1 : n0 ≤ b) (g2 : n0 ≤ dd) (ne : b ≠ dd) (Ec : Exa Z h0 c2 "com/example/baraja/baraja/games/sabacckessel/Card") :
    MetFree l (⟨"com/example/baraja/baraja/games/sabacckessel/FamilyCards", "discard", "(Lcom/example/baraja/baraja/games/sabacckessel/Card;)V"⟩ : MethodName) (head1 (Jvm.Cond.code (⟨"com/example/baraja/baraja/games/sabacckessel/FamilyCards", "discard", "(Lcom/example/baraja/baraja/games/sabacckessel/Card;)V"⟩ : MethodName) prog_40_method_11_code 2 none :: ws) ({ frames := 0, cells := 0, slots := 0, locals := 0 } : Room)) (fun a U => a = #[(.ref b), (.ref c2)] ∧ Z.Warmed39 U.vm ∧ U.heap = h0) (fun _ _ _ _ _ => True) (fun _ U o U' => ∃ v L, o = .returned v ∧ QS3 Z none b dd kd c0 c1 c2 h0 n0 v U'.heap L ∧ FrameEnd U o U' L ({ frames := 0, cells := 0, slots := 0, locals := 0 } : Room).cells ({ frames := 0, cells := 0, slots := 0, locals := 0 } : Room).slots) := by
  refine MetFree.of_bodySF (plainFor_of_name own_pn_com_example_baraja_baraja_games_sabacckessel_FamilyCards) hisR ?_
  intro p e s m args below meth c s₁ Bd hml0 hP hK
  obtain ⟨rfl, hZ, hh⟩ := hP
  have hx := Bd.exec
  have hby := Bd.bytes
  have hml : c.maxLocals = 2 := hml0
  have hown : s.vm.findClass "com/example/baraja/baraja/games/sabacckessel/FamilyCards" = some m.cls := findClass_of_methodNamed Bd.named
  have hnm := (name_of_methodNamed Bd.named Bd.method).1
  have X0 : Stand p l e ({ frames := 0, cells := 0, slots := 0, locals := 0 } : Room) s m #[(.ref b), (.ref c2)] below meth c s₁ [] 0 0 := Stand.of_body Bd
  have e0 : s₁.heap = h0 := by rw [← hh, Bd.state]; rfl
  have N0 := Fr.nil n0
  have pre0 : ∀ t, Steps p.tables e below (s₁.setTop (mkF m 0 #[.val (.ref b), .val (.ref c2)] [])) t → Steps p.tables e below (s₁.setTop (entryFrame m #[(.ref b), (.ref c2)] 2)) t := fun t k => castTop (own_ef_own_disc_2 m) k
  obtain ⟨T1, X1, e1, st1⟩ := getF X0 hx hZ hown (host := "") (Or.inl (hw _ (List.mem_of_getElem? (i := 14) rfl))) Via.refl e0 F1 (g := (mkF m 1 #[.val (.ref b), .val (.ref c2)] [(.ref b)])) rfl rfl (hb hby own_d_prog_40_method_11_code_1)
  have ch2 : ∀ t, Steps p.tables e below (T1.setTop (mkF m 4 #[.val (.ref b), .val (.ref c2)] [(.ref dd)])) t → Steps p.tables e below (s₁.setTop (entryFrame m #[(.ref b), (.ref c2)] 2)) t := fun t k => pre0 t (by
      show Steps p.tables e below (s₁.setTop (mkF m 0 #[.val (.ref b), .val (.ref c2)] [])) t
      refine XS.aloadN X0.here hx rfl (hb hby own_d_prog_40_method_11_code_0) rfl rfl ?_
      show Steps p.tables e below (s₁.setTop (mkF m 1 #[.val (.ref b), .val (.ref c2)] [(.ref b)])) t
      exact st1 t k)
  obtain ⟨T3, X3, e3, st3⟩ := getF X1 hx hZ hown (host := "") (Or.inl (hw _ (List.mem_of_getElem? (i := 36) rfl))) Via.refl e1 F2 (g := (mkF m 6 #[.val (.ref b), .val (.ref c2)] [(.ref b), (.ref b), (.ref dd)])) rfl rfl (hb hby own_d_prog_40_method_11_code_6)
  have ch4 : ∀ t, Steps p.tables e below (T3.setTop (mkF m 9 #[.val (.ref b), .val (.ref c2)] [(.int (2 : Int32)), (.ref b), (.ref dd)])) t → Steps p.tables e below (s₁.setTop (entryFrame m #[(.ref b), (.ref c2)] 2)) t := fun t k => ch2 t (by
      show Steps p.tables e below (T1.setTop (mkF m 4 #[.val (.ref b), .val (.ref c2)] [(.ref dd)])) t
      refine XS.aloadN X1.here hx rfl (hb hby own_d_prog_40_method_11_code_4) rfl rfl ?_
      show Steps p.tables e below (T1.setTop (mkF m 5 #[.val (.ref b), .val (.ref c2)] [(.ref b), (.ref dd)])) t
      refine XS.dup X1.here hx rfl (hb hby own_d_prog_40_method_11_code_5) rfl rfl ?_
      show Steps p.tables e below (T1.setTop (mkF m 6 #[.val (.ref b), .val (.ref c2)] [(.ref b), (.ref b), (.ref dd)])) t
      exact st3 t k)
  obtain ⟨T5, hp5, X5, e5, W5, st5⟩ := putF X3 hx hZ hown (host := "") (Or.inl (hw _ (List.mem_of_getElem? (i := 36) rfl))) Via.refl e3 F2 E (Or.inl (hw _ (List.mem_of_getElem? (i := 37) rfl))) (hw _ (List.mem_of_getElem? (i := 1) rfl)) (ty := .int) (by decide) rfl rfl (g := (mkF m 12 #[.val (.ref b), .val (.ref c2)] [(.int (3 : Int32)), (.ref b), (.int (2 : Int32)), (.ref dd)])) rfl rfl (hb hby own_d_prog_40_method_11_code_12)
  have ch6 : ∀ t, Steps p.tables e below (T5.setTop (mkF m 15 #[.val (.ref b), .val (.ref c2)] [(.int (2 : Int32)), (.ref dd)])) t → Steps p.tables e below (s₁.setTop (entryFrame m #[(.ref b), (.ref c2)] 2)) t := fun t k => ch4 t (by
      show Steps p.tables e below (T3.setTop (mkF m 9 #[.val (.ref b), .val (.ref c2)] [(.int (2 : Int32)), (.ref b), (.ref dd)])) t
      refine XS.dupX1 X3.here hx rfl (hb hby own_d_prog_40_method_11_code_9) rfl rfl rfl ?_
      show Steps p.tables e below (T3.setTop (mkF m 10 #[.val (.ref b), .val (.ref c2)] [(.int (2 : Int32)), (.ref b), (.int (2 : Int32)), (.ref dd)])) t
      refine XS.iconst X3.here hx rfl (hb hby own_d_prog_40_method_11_code_10) ?_
      show Steps p.tables e below (T3.setTop (mkF m 11 #[.val (.ref b), .val (.ref c2)] [(.int (1 : Int32)), (.int (2 : Int32)), (.ref b), (.int (2 : Int32)), (.ref dd)])) t
      refine XS.iadd X3.here hx rfl (hb hby own_d_prog_40_method_11_code_11) rfl ?_
      rw [show ((2 : Int32) + (1 : Int32)) = (3 : Int32) from by decide]
      show Steps p.tables e below (T3.setTop (mkF m 12 #[.val (.ref b), .val (.ref c2)] [(.int (3 : Int32)), (.ref b), (.int (2 : Int32)), (.ref dd)])) t
      exact st5 t k)
  have Fw5 := Fld.same W5 F2
  have N5 := Fr.snoc X5 N0 g1
  have Kp5 := Keep.wr (Keep.refl h0 [b, dd]) W5 (Or.inl (List.mem_of_getElem? (i := 0) rfl))
  have cf7 := (V0.other W5 (Ne.symm ne))
  obtain ⟨cl8, Ar8, qq8, Sz8, Ng8, Ha8, Ga8⟩ := id cf7
  have hin8 : ¬ ((2 : Int32) < 0 ∨ cl8.slots.size ≤ ((2 : Int32)).toNatClampNeg) := inb_of Sz8 (by decide)
  have cf9 := (Exa.wr W5 Ec)
  obtain ⟨T10, hp10, X10, e10, W10, st10⟩ := stR X5 hx hZ e5 Ar8 (j := (2 : Int32)) hin8 rfl (Sto.ofV Ar8 qq8 O (Ins.self cf9)) (g := (mkF m 16 #[.val (.ref b), .val (.ref c2)] [(.ref c2), (.int (2 : Int32)), (.ref dd)])) rfl rfl (hb hby own_d_prog_40_method_11_code_16)
  have ch11 : ∀ t, Steps p.tables e below (T10.setTop (mkF m 17 #[.val (.ref b), .val (.ref c2)] [])) t → Steps p.tables e below (s₁.setTop (entryFrame m #[(.ref b), (.ref c2)] 2)) t := fun t k => ch6 t (by
      show Steps p.tables e below (T5.setTop (mkF m 15 #[.val (.ref b), .val (.ref c2)] [(.int (2 : Int32)), (.ref dd)])) t
      refine XS.aloadN X5.here hx rfl (hb hby own_d_prog_40_method_11_code_15) rfl rfl ?_
      show Steps p.tables e below (T5.setTop (mkF m 16 #[.val (.ref b), .val (.ref c2)] [(.ref c2), (.int (2 : Int32)), (.ref dd)])) t
      exact st10 t k)
  have V10 : Arv Z hp10 dd kd (.object "com/example/baraja/baraja/games/sabacckessel/Card") (22 : Int32) [(.ref c0), (.ref c1), (.ref c2), .null, .null, .null, .null, .null, .null, .null, .null, .null, .null, .null, .null, .null, .null, .null, .null, .null, .null, .null] .null := Arv.set Ar8 qq8 Sz8 Ng8 Ha8 Ga8 rfl W10 2 rfl (Nat.le_of_ble_eq_true rfl)
  have N10 := Fr.snoc X10 N5 g2
  have Kp10 := Keep.wr Kp5 W10 (Or.inl (List.mem_of_getElem? (i := 1) rfl))
  have cf12 := (Exa.wr W10 (Exa.wr W5 E))
  have cf13 := (Fld.other W10 (Fld.other W5 F1 (Or.inr (slot_ne (Or.inr (hw _ (List.mem_of_getElem? (i := 15) rfl))) (Or.inl (hw _ (List.mem_of_getElem? (i := 37) rfl))) (by decide) (t := (.array (.object "com/example/baraja/baraja/games/sabacckessel/Card"))) (t' := .int) (by decide) (by decide)))) (Or.inl ne))
  have cf14 := (Fld.other W10 Fw5 (Or.inl ne))
  obtain ⟨fs, hr, hrun, hended, hW, hsame⟩ := X10.leave (v := none) (fun _ => rfl)
  refine ⟨_, _, ch11 _ ?_, hrun, hended, _, _, rfl, ?_, ⟨_, rfl⟩, hW, hsame.mono (by decide) (by decide)⟩
  · show Steps p.tables e below (T10.setTop (mkF m 17 #[.val (.ref b), .val (.ref c2)] [])) _
    exact X10.returnOut hx Bd.returns (hb hby own_d_prog_40_method_11_code_17) hr
  · show QS3 Z none b dd kd c0 c1 c2 h0 n0 _ T10.heap _
    rw [e10]
    exact ⟨rfl, N10, Kp10, cf12, cf13, cf14, V10⟩
theorem own_ef_own_draw_1 (m : MethodId) {x0 : Addr} : entryFrame m #[(.ref x0)] 2 = mkF m 0 #[.val (.ref x0), .unset] [] := by first | (simp [entryFrame, mkF, argsToLocals, Value.category, maxLocals]; done) | rfl
set_option maxRecDepth 65536 in
set_option maxHeartbeats 40000000 in
theorem own_draw_1 (l : Launch) (Z : State) (a0 : Array Value) (hw : ∀ d ∈ tables_1, d.before a0 Z = true) (ws : List Jvm.Cond) (h0 : Heap) (n0 : Nat) (Z0 : n0 ≤ h0.size) (b dd : Addr) (kd : ClassId) (c0 : Addr) (E : Exa Z h0 b "com/example/baraja/baraja/games/sabacckessel/FamilyCards") (F1 : Fld Z h0 b "com/example/baraja/baraja/games/sabacckessel/FamilyCards" "discards" "[Lcom/example/baraja/baraja/games/sabacckessel/Card;" (.ref dd)) (F2 : Fld Z h0 b "com/example/baraja/baraja/games/sabacckessel/FamilyCards" "discardCount" "I" (.int (1 : Int32))) (V0 : Arv Z h0 dd kd (.object "com/example/baraja/baraja/games/sabacckessel/Card") (22 : Int32) [(.ref c0), .null, .null, .null, .null, .null, .null, .null, .null, .null, .null, .null, .null, .null, .null, .null, .null, .null, .null, .null, .null, .null] .null) (O : Ovr Z kd "com/example/baraja/baraja/games/sabacckessel/Card") (g1 : n0 ≤ b) (g2 : n0 ≤ dd) (ne : b ≠ dd) :
    MetFree l (⟨"com/example/baraja/baraja/games/sabacckessel/FamilyCards", "drawFromDiscards", "()Lcom/example/baraja/baraja/games/sabacckessel/Card;"⟩ : MethodName) (head1 (Jvm.Cond.code (⟨"com/example/baraja/baraja/games/sabacckessel/FamilyCards", "drawFromDiscards", "()Lcom/example/baraja/baraja/games/sabacckessel/Card;"⟩ : MethodName) prog_40_method_9_code 2 (some (.object "com/example/baraja/baraja/games/sabacckessel/Card")) :: ws) ({ frames := 0, cells := 0, slots := 0, locals := 0 } : Room)) (fun a U => a = #[(.ref b)] ∧ Z.Warmed39 U.vm ∧ U.heap = h0) (fun _ _ _ _ _ => True) (fun _ U o U' => ∃ v L, o = .returned v ∧ QS0 Z (some (.ref c0)) b dd kd  h0 n0 v U'.heap L ∧ FrameEnd U o U' L ({ frames := 0, cells := 0, slots := 0, locals := 0 } : Room).cells ({ frames := 0, cells := 0, slots := 0, locals := 0 } : Room).slots) := by
  refine MetFree.of_bodySF (plainFor_of_name own_pn_com_example_baraja_baraja_games_sabacckessel_FamilyCards) hisR ?_
  intro p e s m args below meth c s₁ Bd hml0 hP hK
  obtain ⟨rfl, hZ, hh⟩ := hP
  have hx := Bd.exec
  have hby := Bd.bytes
  have hml : c.maxLocals = 2 := hml0
  have hown : s.vm.findClass "com/example/baraja/baraja/games/sabacckessel/FamilyCards" = some m.cls := findClass_of_methodNamed Bd.named
  have hnm := (name_of_methodNamed Bd.named Bd.method).1
  have X0 : Stand p l e ({ frames := 0, cells := 0, slots := 0, locals := 0 } : Room) s m #[(.ref b)] below meth c s₁ [] 0 0 := Stand.of_body Bd
  have e0 : s₁.heap = h0 := by rw [← hh, Bd.state]; rfl
  have N0 := Fr.nil n0
  have pre0 : ∀ t, Steps p.tables e below (s₁.setTop (mkF m 0 #[.val (.ref b), .unset] [])) t → Steps p.tables e below (s₁.setTop (entryFrame m #[(.ref b)] 2)) t := fun t k => castTop (own_ef_own_draw_1 m) k
  obtain ⟨T1, X1, e1, st1⟩ := getF X0 hx hZ hown (host := "") (Or.inl (hw _ (List.mem_of_getElem? (i := 14) rfl))) Via.refl e0 F1 (g := (mkF m 1 #[.val (.ref b), .unset] [(.ref b)])) rfl rfl (hb hby own_d_prog_40_method_9_code_1)
  have ch2 : ∀ t, Steps p.tables e below (T1.setTop (mkF m 4 #[.val (.ref b), .unset] [(.ref dd)])) t → Steps p.tables e below (s₁.setTop (entryFrame m #[(.ref b)] 2)) t := fun t k => pre0 t (by
      show Steps p.tables e below (s₁.setTop (mkF m 0 #[.val (.ref b), .unset] [])) t
      refine XS.aloadN X0.here hx rfl (hb hby own_d_prog_40_method_9_code_0) rfl rfl ?_
      show Steps p.tables e below (s₁.setTop (mkF m 1 #[.val (.ref b), .unset] [(.ref b)])) t
      exact st1 t k)
  obtain ⟨T3, X3, e3, st3⟩ := getF X1 hx hZ hown (host := "") (Or.inl (hw _ (List.mem_of_getElem? (i := 36) rfl))) Via.refl e1 F2 (g := (mkF m 6 #[.val (.ref b), .unset] [(.ref b), (.ref b), (.ref dd)])) rfl rfl (hb hby own_d_prog_40_method_9_code_6)
  have ch4 : ∀ t, Steps p.tables e below (T3.setTop (mkF m 9 #[.val (.ref b), .unset] [(.int (1 : Int32)), (.ref b), (.ref dd)])) t → Steps p.tables e below (s₁.setTop (entryFrame m #[(.ref b)] 2)) t := fun t k => ch2 t (by
      show Steps p.tables e below (T1.setTop (mkF m 4 #[.val (.ref b), .unset] [(.ref dd)])) t
      refine XS.aloadN X1.here hx rfl (hb hby own_d_prog_40_method_9_code_4) rfl rfl ?_
      show Steps p.tables e below (T1.setTop (mkF m 5 #[.val (.ref b), .unset] [(.ref b), (.ref dd)])) t
      refine XS.dup X1.here hx rfl (hb hby own_d_prog_40_method_9_code_5) rfl rfl ?_
      show Steps p.tables e below (T1.setTop (mkF m 6 #[.val (.ref b), .unset] [(.ref b), (.ref b), (.ref dd)])) t
      exact st3 t k)
  obtain ⟨T5, hp5, X5, e5, W5, st5⟩ := putF X3 hx hZ hown (host := "") (Or.inl (hw _ (List.mem_of_getElem? (i := 36) rfl))) Via.refl e3 F2 E (Or.inl (hw _ (List.mem_of_getElem? (i := 37) rfl))) (hw _ (List.mem_of_getElem? (i := 1) rfl)) (ty := .int) (by decide) rfl rfl (g := (mkF m 12 #[.val (.ref b), .unset] [(.int (0 : Int32)), (.ref b), (.int (0 : Int32)), (.ref dd)])) rfl rfl (hb hby own_d_prog_40_method_9_code_12)
  have ch6 : ∀ t, Steps p.tables e below (T5.setTop (mkF m 15 #[.val (.ref b), .unset] [(.int (0 : Int32)), (.ref dd)])) t → Steps p.tables e below (s₁.setTop (entryFrame m #[(.ref b)] 2)) t := fun t k => ch4 t (by
      show Steps p.tables e below (T3.setTop (mkF m 9 #[.val (.ref b), .unset] [(.int (1 : Int32)), (.ref b), (.ref dd)])) t
      refine XS.iconst X3.here hx rfl (hb hby own_d_prog_40_method_9_code_9) ?_
      show Steps p.tables e below (T3.setTop (mkF m 10 #[.val (.ref b), .unset] [(.int (1 : Int32)), (.int (1 : Int32)), (.ref b), (.ref dd)])) t
      refine XS.isub X3.here hx rfl (hb hby own_d_prog_40_method_9_code_10) rfl ?_
      rw [show ((1 : Int32) - (1 : Int32)) = (0 : Int32) from by decide]
      show Steps p.tables e below (T3.setTop (mkF m 11 #[.val (.ref b), .unset] [(.int (0 : Int32)), (.ref b), (.ref dd)])) t
      refine XS.dupX1 X3.here hx rfl (hb hby own_d_prog_40_method_9_code_11) rfl rfl rfl ?_
      show Steps p.tables e below (T3.setTop (mkF m 12 #[.val (.ref b), .unset] [(.int (0 : Int32)), (.ref b), (.int (0 : Int32)), (.ref dd)])) t
      exact st5 t k)
  have Fw5 := Fld.same W5 F2
  have N5 := Fr.snoc X5 N0 g1
  have Kp5 := Keep.wr (Keep.refl h0 [b, dd]) W5 (Or.inl (List.mem_of_getElem? (i := 0) rfl))
  have cf7 := (V0.other W5 (Ne.symm ne))
  obtain ⟨cl8, Ar8, -, Sz8, Ng8, Ha8, -⟩ := id cf7
  have hin8 : ¬ ((0 : Int32) < 0 ∨ cl8.slots.size ≤ ((0 : Int32)).toNatClampNeg) := inb_of Sz8 (by decide)
  have hat8 : cl8.slots[((0 : Int32)).toNatClampNeg]? = some (.ref c0) := Ha8.at hin8 rfl
  have cf9 := (Fld.other W5 F1 (Or.inr (slot_ne (Or.inr (hw _ (List.mem_of_getElem? (i := 15) rfl))) (Or.inl (hw _ (List.mem_of_getElem? (i := 37) rfl))) (by decide) (t := (.array (.object "com/example/baraja/baraja/games/sabacckessel/Card"))) (t' := .int) (by decide) (by decide))))
  obtain ⟨T10, X10, e10, st10⟩ := getF X5 hx hZ hown (host := "") (Or.inl (hw _ (List.mem_of_getElem? (i := 14) rfl))) Via.refl e5 cf9 (g := (mkF m 18 #[.val (.ref b), .val (.ref c0)] [(.ref b)])) rfl rfl (hb hby own_d_prog_40_method_9_code_18)
  have ch11 : ∀ t, Steps p.tables e below (T10.setTop (mkF m 21 #[.val (.ref b), .val (.ref c0)] [(.ref dd)])) t → Steps p.tables e below (s₁.setTop (entryFrame m #[(.ref b)] 2)) t := fun t k => ch6 t (by
      show Steps p.tables e below (T5.setTop (mkF m 15 #[.val (.ref b), .unset] [(.int (0 : Int32)), (.ref dd)])) t
      refine X5.aaload hx (j := (0 : Int32)) (v := (.ref c0)) (by rw [e5]; exact Ar8.1) (State.isArrayOf_alike hZ.alike Ar8.2.1) rfl Ar8.2.2 hin8 hat8 (g := (mkF m 15 #[.val (.ref b), .unset] [(.int (0 : Int32)), (.ref dd)])) rfl rfl (hb hby own_d_prog_40_method_9_code_15) _ ?_
      show Steps p.tables e below (T5.setTop (mkF m 16 #[.val (.ref b), .unset] [(.ref c0)])) t
      refine XS.astoreN X5.here hx rfl (hb hby own_d_prog_40_method_9_code_16) rfl rfl (l' := #[.val (.ref b), .val (.ref c0)]) rfl ?_
      show Steps p.tables e below (T5.setTop (mkF m 17 #[.val (.ref b), .val (.ref c0)] [])) t
      refine XS.aloadN X5.here hx rfl (hb hby own_d_prog_40_method_9_code_17) rfl rfl ?_
      show Steps p.tables e below (T5.setTop (mkF m 18 #[.val (.ref b), .val (.ref c0)] [(.ref b)])) t
      exact st10 t k)
  obtain ⟨T12, X12, e12, st12⟩ := getF X10 hx hZ hown (host := "") (Or.inl (hw _ (List.mem_of_getElem? (i := 36) rfl))) Via.refl e10 Fw5 (g := (mkF m 22 #[.val (.ref b), .val (.ref c0)] [(.ref b), (.ref dd)])) rfl rfl (hb hby own_d_prog_40_method_9_code_22)
  have ch13 : ∀ t, Steps p.tables e below (T12.setTop (mkF m 25 #[.val (.ref b), .val (.ref c0)] [(.int (0 : Int32)), (.ref dd)])) t → Steps p.tables e below (s₁.setTop (entryFrame m #[(.ref b)] 2)) t := fun t k => ch11 t (by
      show Steps p.tables e below (T10.setTop (mkF m 21 #[.val (.ref b), .val (.ref c0)] [(.ref dd)])) t
      refine XS.aloadN X10.here hx rfl (hb hby own_d_prog_40_method_9_code_21) rfl rfl ?_
      show Steps p.tables e below (T10.setTop (mkF m 22 #[.val (.ref b), .val (.ref c0)] [(.ref b), (.ref dd)])) t
      exact st12 t k)
  obtain ⟨cl14, Ar14, qq14, Sz14, Ng14, Ha14, Ga14⟩ := id cf7
  have hin14 : ¬ ((0 : Int32) < 0 ∨ cl14.slots.size ≤ ((0 : Int32)).toNatClampNeg) := inb_of Sz14 (by decide)
  obtain ⟨T15, hp15, X15, e15, W15, st15⟩ := stR X12 hx hZ e12 Ar14 (j := (0 : Int32)) hin14 rfl (Or.inl rfl) (g := (mkF m 26 #[.val (.ref b), .val (.ref c0)] [.null, (.int (0 : Int32)), (.ref dd)])) rfl rfl (hb hby own_d_prog_40_method_9_code_26)
  have ch16 : ∀ t, Steps p.tables e below (T15.setTop (mkF m 27 #[.val (.ref b), .val (.ref c0)] [])) t → Steps p.tables e below (s₁.setTop (entryFrame m #[(.ref b)] 2)) t := fun t k => ch13 t (by
      show Steps p.tables e below (T12.setTop (mkF m 25 #[.val (.ref b), .val (.ref c0)] [(.int (0 : Int32)), (.ref dd)])) t
      refine XS.aconstNull X12.here hx rfl (hb hby own_d_prog_40_method_9_code_25) ?_
      show Steps p.tables e below (T12.setTop (mkF m 26 #[.val (.ref b), .val (.ref c0)] [.null, (.int (0 : Int32)), (.ref dd)])) t
      exact st15 t k)
  have V15 : Arv Z hp15 dd kd (.object "com/example/baraja/baraja/games/sabacckessel/Card") (22 : Int32) [.null, .null, .null, .null, .null, .null, .null, .null, .null, .null, .null, .null, .null, .null, .null, .null, .null, .null, .null, .null, .null, .null] .null := Arv.set Ar14 qq14 Sz14 Ng14 Ha14 Ga14 rfl W15 0 rfl (Nat.le_of_ble_eq_true rfl)
  have N15 := Fr.snoc X15 N5 g2
  have Kp15 := Keep.wr Kp5 W15 (Or.inl (List.mem_of_getElem? (i := 1) rfl))
  have ch17 : ∀ t, Steps p.tables e below (T15.setTop (mkF m 28 #[.val (.ref b), .val (.ref c0)] [(.ref c0)])) t → Steps p.tables e below (s₁.setTop (entryFrame m #[(.ref b)] 2)) t := fun t k => ch16 t (by
      show Steps p.tables e below (T15.setTop (mkF m 27 #[.val (.ref b), .val (.ref c0)] [])) t
      refine XS.aloadN X15.here hx rfl (hb hby own_d_prog_40_method_9_code_27) rfl rfl ?_
      exact k)
  have cf18 := (Exa.wr W15 (Exa.wr W5 E))
  have cf19 := (Fld.other W15 cf9 (Or.inl ne))
  have cf20 := (Fld.other W15 Fw5 (Or.inl ne))
  obtain ⟨fs, hr, hrun, hended, hW, hsame⟩ := X15.leave (v := some (.ref c0)) (fun h => by rw [Bd.returns] at h; cases h)
  refine ⟨_, _, ch17 _ ?_, hrun, hended, _, _, rfl, ?_, ⟨_, rfl⟩, hW, hsame.mono (by decide) (by decide)⟩
  · show Steps p.tables e below (T15.setTop (mkF m 28 #[.val (.ref b), .val (.ref c0)] [(.ref c0)])) _
    jvm_step X15.here [X15.here.top, hx, (hb hby own_d_prog_40_method_9_code_28), X15.method', Bd.returns, Value.isRef, FieldType.isReference]
    first | (intro acts; rw [hr _ acts rfl rfl rfl]) | rw [hr _ _ rfl rfl rfl]
    exact Steps.refl _
  · show QS0 Z (some (.ref c0)) b dd kd  h0 n0 _ T15.heap _
    rw [e15]
    exact ⟨rfl, N15, Kp15, cf18, cf19, cf20, V15⟩
theorem own_ef_own_draw_2 (m : MethodId) {x0 : Addr} : entryFrame m #[(.ref x0)] 2 = mkF m 0 #[.val (.ref x0), .unset] [] := by first | (simp [entryFrame, mkF, argsToLocals, Value.category, maxLocals]; done) | rfl
set_option maxRecDepth 65536 in
set_option maxHeartbeats 40000000 in
theorem own_draw_2 (l : Launch) (Z : State) (a0 : Array Value) (hw : ∀ d ∈ tables_1, d.before a0 Z = true) (ws : List Jvm.Cond) (h0 : Heap) (n0 : Nat) (Z0 : n0 ≤ h0.size) (b dd : Addr) (kd : ClassId) (c0 c1 : Addr) (E : Exa Z h0 b "com/example/baraja/baraja/games/sabacckessel/FamilyCards") (F1 : Fld Z h0 b "com/example/baraja/baraja/games/sabacckessel/FamilyCards" "discards" "[Lcom/example/baraja/baraja/games/sabacckessel/Card;" (.ref dd)) (F2 : Fld Z h0 b "com/example/baraja/baraja/games/sabacckessel/FamilyCards" "discardCount" "I" (.int (2 : Int32))) (V0 : Arv Z h0 dd kd (.object "com/example/baraja/baraja/games/sabacckessel/Card") (22 : Int32) [(.ref c0), (.ref c1), .null, .null, .null, .null, .null, .null, .null, .null, .null, .null, .null, .null, .null, .null, .null, .null, .null, .null, .null, .null] .null) (O : Ovr Z kd "com/example/baraja/baraja/games/sabacckessel/Card") (g1 : n0 ≤ b) (g2 : n0 ≤ dd) (ne : b ≠ dd) :
    MetFree l (⟨"com/example/baraja/baraja/games/sabacckessel/FamilyCards", "drawFromDiscards", "()Lcom/example/baraja/baraja/games/sabacckessel/Card;"⟩ : MethodName) (head1 (Jvm.Cond.code (⟨"com/example/baraja/baraja/games/sabacckessel/FamilyCards", "drawFromDiscards", "()Lcom/example/baraja/baraja/games/sabacckessel/Card;"⟩ : MethodName) prog_40_method_9_code 2 (some (.object "com/example/baraja/baraja/games/sabacckessel/Card")) :: ws) ({ frames := 0, cells := 0, slots := 0, locals := 0 } : Room)) (fun a U => a = #[(.ref b)] ∧ Z.Warmed39 U.vm ∧ U.heap = h0) (fun _ _ _ _ _ => True) (fun _ U o U' => ∃ v L, o = .returned v ∧ QS1 Z (some (.ref c1)) b dd kd c0 h0 n0 v U'.heap L ∧ FrameEnd U o U' L ({ frames := 0, cells := 0, slots := 0, locals := 0 } : Room).cells ({ frames := 0, cells := 0, slots := 0, locals := 0 } : Room).slots) := by
  refine MetFree.of_bodySF (plainFor_of_name own_pn_com_example_baraja_baraja_games_sabacckessel_FamilyCards) hisR ?_
  intro p e s m args below meth c s₁ Bd hml0 hP hK
  obtain ⟨rfl, hZ, hh⟩ := hP
  have hx := Bd.exec
  have hby := Bd.bytes
  have hml : c.maxLocals = 2 := hml0
  have hown : s.vm.findClass "com/example/baraja/baraja/games/sabacckessel/FamilyCards" = some m.cls := findClass_of_methodNamed Bd.named
  have hnm := (name_of_methodNamed Bd.named Bd.method).1
  have X0 : Stand p l e ({ frames := 0, cells := 0, slots := 0, locals := 0 } : Room) s m #[(.ref b)] below meth c s₁ [] 0 0 := Stand.of_body Bd
  have e0 : s₁.heap = h0 := by rw [← hh, Bd.state]; rfl
  have N0 := Fr.nil n0
  have pre0 : ∀ t, Steps p.tables e below (s₁.setTop (mkF m 0 #[.val (.ref b), .unset] [])) t → Steps p.tables e below (s₁.setTop (entryFrame m #[(.ref b)] 2)) t := fun t k => castTop (own_ef_own_draw_2 m) k
  obtain ⟨T1, X1, e1, st1⟩ := getF X0 hx hZ hown (host := "") (Or.inl (hw _ (List.mem_of_getElem? (i := 14) rfl))) Via.refl e0 F1 (g := (mkF m 1 #[.val (.ref b), .unset] [(.ref b)])) rfl rfl (hb hby own_d_prog_40_method_9_code_1)
  have ch2 : ∀ t, Steps p.tables e below (T1.setTop (mkF m 4 #[.val (.ref b), .unset] [(.ref dd)])) t → Steps p.tables e below (s₁.setTop (entryFrame m #[(.ref b)] 2)) t := fun t k => pre0 t (by
      show Steps p.tables e below (s₁.setTop (mkF m 0 #[.val (.ref b), .unset] [])) t
      refine XS.aloadN X0.here hx rfl (hb hby own_d_prog_40_method_9_code_0) rfl rfl ?_
      show Steps p.tables e below (s₁.setTop (mkF m 1 #[.val (.ref b), .unset] [(.ref b)])) t
      exact st1 t k)
  obtain ⟨T3, X3, e3, st3⟩ := getF X1 hx hZ hown (host := "") (Or.inl (hw _ (List.mem_of_getElem? (i := 36) rfl))) Via.refl e1 F2 (g := (mkF m 6 #[.val (.ref b), .unset] [(.ref b), (.ref b), (.ref dd)])) rfl rfl (hb hby own_d_prog_40_method_9_code_6)
  have ch4 : ∀ t, Steps p.tables e below (T3.setTop (mkF m 9 #[.val (.ref b), .unset] [(.int (2 : Int32)), (.ref b), (.ref dd)])) t → Steps p.tables e below (s₁.setTop (entryFrame m #[(.ref b)] 2)) t := fun t k => ch2 t (by
      show Steps p.tables e below (T1.setTop (mkF m 4 #[.val (.ref b), .unset] [(.ref dd)])) t
      refine XS.aloadN X1.here hx rfl (hb hby own_d_prog_40_method_9_code_4) rfl rfl ?_
      show Steps p.tables e below (T1.setTop (mkF m 5 #[.val (.ref b), .unset] [(.ref b), (.ref dd)])) t
      refine XS.dup X1.here hx rfl (hb hby own_d_prog_40_method_9_code_5) rfl rfl ?_
      show Steps p.tables e below (T1.setTop (mkF m 6 #[.val (.ref b), .unset] [(.ref b), (.ref b), (.ref dd)])) t
      exact st3 t k)
  obtain ⟨T5, hp5, X5, e5, W5, st5⟩ := putF X3 hx hZ hown (host := "") (Or.inl (hw _ (List.mem_of_getElem? (i := 36) rfl))) Via.refl e3 F2 E (Or.inl (hw _ (List.mem_of_getElem? (i := 37) rfl))) (hw _ (List.mem_of_getElem? (i := 1) rfl)) (ty := .int) (by decide) rfl rfl (g := (mkF m 12 #[.val (.ref b), .unset] [(.int (1 : Int32)), (.ref b), (.int (1 : Int32)), (.ref dd)])) rfl rfl (hb hby own_d_prog_40_method_9_code_12)
  have ch6 : ∀ t, Steps p.tables e below (T5.setTop (mkF m 15 #[.val (.ref b), .unset] [(.int (1 : Int32)), (.ref dd)])) t → Steps p.tables e below (s₁.setTop (entryFrame m #[(.ref b)] 2)) t := fun t k => ch4 t (by
      show Steps p.tables e below (T3.setTop (mkF m 9 #[.val (.ref b), .unset] [(.int (2 : Int32)), (.ref b), (.ref dd)])) t
      refine XS.iconst X3.here hx rfl (hb hby own_d_prog_40_method_9_code_9) ?_
      show Steps p.tables e below (T3.setTop (mkF m 10 #[.val (.ref b), .unset] [(.int (1 : Int32)), (.int (2 : Int32)), (.ref b), (.ref dd)])) t
      refine XS.isub X3.here hx rfl (hb hby own_d_prog_40_method_9_code_10) rfl ?_
      rw [show ((2 : Int32) - (1 : Int32)) = (1 : Int32) from by decide]
      show Steps p.tables e below (T3.setTop (mkF m 11 #[.val (.ref b), .unset] [(.int (1 : Int32)), (.ref b), (.ref dd)])) t
      refine XS.dupX1 X3.here hx rfl (hb hby own_d_prog_40_method_9_code_11) rfl rfl rfl ?_
      show Steps p.tables e below (T3.setTop (mkF m 12 #[.val (.ref b), .unset] [(.int (1 : Int32)), (.ref b), (.int (1 : Int32)), (.ref dd)])) t
      exact st5 t k)
  have Fw5 := Fld.same W5 F2
  have N5 := Fr.snoc X5 N0 g1
  have Kp5 := Keep.wr (Keep.refl h0 [b, dd]) W5 (Or.inl (List.mem_of_getElem? (i := 0) rfl))
  have cf7 := (V0.other W5 (Ne.symm ne))
  obtain ⟨cl8, Ar8, -, Sz8, Ng8, Ha8, -⟩ := id cf7
  have hin8 : ¬ ((1 : Int32) < 0 ∨ cl8.slots.size ≤ ((1 : Int32)).toNatClampNeg) := inb_of Sz8 (by decide)
  have hat8 : cl8.slots[((1 : Int32)).toNatClampNeg]? = some (.ref c1) := Ha8.at hin8 rfl
  have cf9 := (Fld.other W5 F1 (Or.inr (slot_ne (Or.inr (hw _ (List.mem_of_getElem? (i := 15) rfl))) (Or.inl (hw _ (List.mem_of_getElem? (i := 37) rfl))) (by decide) (t := (.array (.object "com/example/baraja/baraja/games/sabacckessel/Card"))) (t' := .int) (by decide) (by decide))))
  obtain ⟨T10, X10, e10, st10⟩ := getF X5 hx hZ hown (host := "") (Or.inl (hw _ (List.mem_of_getElem? (i := 14) rfl))) Via.refl e5 cf9 (g := (mkF m 18 #[.val (.ref b), .val (.ref c1)] [(.ref b)])) rfl rfl (hb hby own_d_prog_40_method_9_code_18)
  have ch11 : ∀ t, Steps p.tables e below (T10.setTop (mkF m 21 #[.val (.ref b), .val (.ref c1)] [(.ref dd)])) t → Steps p.tables e below (s₁.setTop (entryFrame m #[(.ref b)] 2)) t := fun t k => ch6 t (by
      show Steps p.tables e below (T5.setTop (mkF m 15 #[.val (.ref b), .unset] [(.int (1 : Int32)), (.ref dd)])) t
      refine X5.aaload hx (j := (1 : Int32)) (v := (.ref c1)) (by rw [e5]; exact Ar8.1) (State.isArrayOf_alike hZ.alike Ar8.2.1) rfl Ar8.2.2 hin8 hat8 (g := (mkF m 15 #[.val (.ref b), .unset] [(.int (1 : Int32)), (.ref dd)])) rfl rfl (hb hby own_d_prog_40_method_9_code_15) _ ?_
      show Steps p.tables e below (T5.setTop (mkF m 16 #[.val (.ref b), .unset] [(.ref c1)])) t
      refine XS.astoreN X5.here hx rfl (hb hby own_d_prog_40_method_9_code_16) rfl rfl (l' := #[.val (.ref b), .val (.ref c1)]) rfl ?_
      show Steps p.tables e below (T5.setTop (mkF m 17 #[.val (.ref b), .val (.ref c1)] [])) t
      refine XS.aloadN X5.here hx rfl (hb hby own_d_prog_40_method_9_code_17) rfl rfl ?_
      show Steps p.tables e below (T5.setTop (mkF m 18 #[.val (.ref b), .val (.ref c1)] [(.ref b)])) t
      exact st10 t k)
  obtain ⟨T12, X12, e12, st12⟩ := getF X10 hx hZ hown (host := "") (Or.inl (hw _ (List.mem_of_getElem? (i := 36) rfl))) Via.refl e10 Fw5 (g := (mkF m 22 #[.val (.ref b), .val (.ref c1)] [(.ref b), (.ref dd)])) rfl rfl (hb hby own_d_prog_40_method_9_code_22)
  have ch13 : ∀ t, Steps p.tables e below (T12.setTop (mkF m 25 #[.val (.ref b), .val (.ref c1)] [(.int (1 : Int32)), (.ref dd)])) t → Steps p.tables e below (s₁.setTop (entryFrame m #[(.ref b)] 2)) t := fun t k => ch11 t (by
      show Steps p.tables e below (T10.setTop (mkF m 21 #[.val (.ref b), .val (.ref c1)] [(.ref dd)])) t
      refine XS.aloadN X10.here hx rfl (hb hby own_d_prog_40_method_9_code_21) rfl rfl ?_
      show Steps p.tables e below (T10.setTop (mkF m 22 #[.val (.ref b), .val (.ref c1)] [(.ref b), (.ref dd)])) t
      exact st12 t k)
  obtain ⟨cl14, Ar14, qq14, Sz14, Ng14, Ha14, Ga14⟩ := id cf7
  have hin14 : ¬ ((1 : Int32) < 0 ∨ cl14.slots.size ≤ ((1 : Int32)).toNatClampNeg) := inb_of Sz14 (by decide)
  obtain ⟨T15, hp15, X15, e15, W15, st15⟩ := stR X12 hx hZ e12 Ar14 (j := (1 : Int32)) hin14 rfl (Or.inl rfl) (g := (mkF m 26 #[.val (.ref b), .val (.ref c1)] [.null, (.int (1 : Int32)), (.ref dd)])) rfl rfl (hb hby own_d_prog_40_method_9_code_26)
  have ch16 : ∀ t, Steps p.tables e below (T15.setTop (mkF m 27 #[.val (.ref b), .val (.ref c1)] [])) t → Steps p.tables e below (s₁.setTop (entryFrame m #[(.ref b)] 2)) t := fun t k => ch13 t (by
      show Steps p.tables e below (T12.setTop (mkF m 25 #[.val (.ref b), .val (.ref c1)] [(.int (1 : Int32)), (.ref dd)])) t
      refine XS.aconstNull X12.here hx rfl (hb hby own_d_prog_40_method_9_code_25) ?_
      show Steps p.tables e below (T12.setTop (mkF m 26 #[.val (.ref b), .val (.ref c1)] [.null, (.int (1 : Int32)), (.ref dd)])) t
      exact st15 t k)
  have V15 : Arv Z hp15 dd kd (.object "com/example/baraja/baraja/games/sabacckessel/Card") (22 : Int32) [(.ref c0), .null, .null, .null, .null, .null, .null, .null, .null, .null, .null, .null, .null, .null, .null, .null, .null, .null, .null, .null, .null, .null] .null := Arv.set Ar14 qq14 Sz14 Ng14 Ha14 Ga14 rfl W15 1 rfl (Nat.le_of_ble_eq_true rfl)
  have N15 := Fr.snoc X15 N5 g2
  have Kp15 := Keep.wr Kp5 W15 (Or.inl (List.mem_of_getElem? (i := 1) rfl))
  have ch17 : ∀ t, Steps p.tables e below (T15.setTop (mkF m 28 #[.val (.ref b), .val (.ref c1)] [(.ref c1)])) t → Steps p.tables e below (s₁.setTop (entryFrame m #[(.ref b)] 2)) t := fun t k => ch16 t (by
      show Steps p.tables e below (T15.setTop (mkF m 27 #[.val (.ref b), .val (.ref c1)] [])) t
      refine XS.aloadN X15.here hx rfl (hb hby own_d_prog_40_method_9_code_27) rfl rfl ?_
      exact k)
  have cf18 := (Exa.wr W15 (Exa.wr W5 E))
  have cf19 := (Fld.other W15 cf9 (Or.inl ne))
  have cf20 := (Fld.other W15 Fw5 (Or.inl ne))
  obtain ⟨fs, hr, hrun, hended, hW, hsame⟩ := X15.leave (v := some (.ref c1)) (fun h => by rw [Bd.returns] at h; cases h)
  refine ⟨_, _, ch17 _ ?_, hrun, hended, _, _, rfl, ?_, ⟨_, rfl⟩, hW, hsame.mono (by decide) (by decide)⟩
  · show Steps p.tables e below (T15.setTop (mkF m 28 #[.val (.ref b), .val (.ref c1)] [(.ref c1)])) _
    jvm_step X15.here [X15.here.top, hx, (hb hby own_d_prog_40_method_9_code_28), X15.method', Bd.returns, Value.isRef, FieldType.isReference]
    first | (intro acts; rw [hr _ acts rfl rfl rfl]) | rw [hr _ _ rfl rfl rfl]
    exact Steps.refl _
  · show QS1 Z (some (.ref c1)) b dd kd c0 h0 n0 _ T15.heap _
    rw [e15]
    exact ⟨rfl, N15, Kp15, cf18, cf19, cf20, V15⟩
theorem own_ef_own_draw_3 (m : MethodId) {x0 : Addr} : entryFrame m #[(.ref x0)] 2 = mkF m 0 #[.val (.ref x0), .unset] [] := by first | (simp [entryFrame, mkF, argsToLocals, Value.category, maxLocals]; done) | rfl
set_option maxRecDepth 65536 in
set_option maxHeartbeats 40000000 in
theorem own_draw_3 (l : Launch) (Z : State) (a0 : Array Value) (hw : ∀ d ∈ tables_1, d.before a0 Z = true) (ws : List Jvm.Cond) (h0 : Heap) (n0 : Nat) (Z0 : n0 ≤ h0.size) (b dd : Addr) (kd : ClassId) (c0 c1 c2 : Addr) (E : Exa Z h0 b "com/example/baraja/baraja/games/sabacckessel/FamilyCards") (F1 : Fld Z h0 b "com/example/baraja/baraja/games/sabacckessel/FamilyCards" "discards" "[Lcom/example/baraja/baraja/games/sabacckessel/Card;" (.ref dd)) (F2 : Fld Z h0 b "com/example/baraja/baraja/games/sabacckessel/FamilyCards" "discardCount" "I" (.int (3 : Int32))) (V0 : Arv Z h0 dd kd (.object "com/example/baraja/baraja/games/sabacckessel/Card") (22 : Int32) [(.ref c0), (.ref c1), (.ref c2), .null, .null, .null, .null, .null, .null, .null, .null, .null, .null, .null, .null, .null, .null, .null, .null, .null, .null, .null] .null) (O : Ovr Z kd "com/example/baraja/baraja/games/sabacckessel/Card") (g1 : n0 ≤ b) (g2 : n0 ≤ dd) (ne : b ≠ dd) :
    MetFree l (⟨"com/example/baraja/baraja/games/sabacckessel/FamilyCards", "drawFromDiscards", "()Lcom/example/baraja/baraja/games/sabacckessel/Card;"⟩ : MethodName) (head1 (Jvm.Cond.code (⟨"com/example/baraja/baraja/games/sabacckessel/FamilyCards", "drawFromDiscards", "()Lcom/example/baraja/baraja/games/sabacckessel/Card;"⟩ : MethodName) prog_40_method_9_code 2 (some (.object "com/example/baraja/baraja/games/sabacckessel/Card")) :: ws) ({ frames := 0, cells := 0, slots := 0, locals := 0 } : Room)) (fun a U => a = #[(.ref b)] ∧ Z.Warmed39 U.vm ∧ U.heap = h0) (fun _ _ _ _ _ => True) (fun _ U o U' => ∃ v L, o = .returned v ∧ QS2 Z (some (.ref c2)) b dd kd c0 c1 h0 n0 v U'.heap L ∧ FrameEnd U o U' L ({ frames := 0, cells := 0, slots := 0, locals := 0 } : Room).cells ({ frames := 0, cells := 0, slots := 0, locals := 0 } : Room).slots) := by
  refine MetFree.of_bodySF (plainFor_of_name own_pn_com_example_baraja_baraja_games_sabacckessel_FamilyCards) hisR ?_
  intro p e s m args below meth c s₁ Bd hml0 hP hK
  obtain ⟨rfl, hZ, hh⟩ := hP
  have hx := Bd.exec
  have hby := Bd.bytes
  have hml : c.maxLocals = 2 := hml0
  have hown : s.vm.findClass "com/example/baraja/baraja/games/sabacckessel/FamilyCards" = some m.cls := findClass_of_methodNamed Bd.named
  have hnm := (name_of_methodNamed Bd.named Bd.method).1
  have X0 : Stand p l e ({ frames := 0, cells := 0, slots := 0, locals := 0 } : Room) s m #[(.ref b)] below meth c s₁ [] 0 0 := Stand.of_body Bd
  have e0 : s₁.heap = h0 := by rw [← hh, Bd.state]; rfl
  have N0 := Fr.nil n0
  have pre0 : ∀ t, Steps p.tables e below (s₁.setTop (mkF m 0 #[.val (.ref b), .unset] [])) t → Steps p.tables e below (s₁.setTop (entryFrame m #[(.ref b)] 2)) t := fun t k => castTop (own_ef_own_draw_3 m) k
  obtain ⟨T1, X1, e1, st1⟩ := getF X0 hx hZ hown (host := "") (Or.inl (hw _ (List.mem_of_getElem? (i := 14) rfl))) Via.refl e0 F1 (g := (mkF m 1 #[.val (.ref b), .unset] [(.ref b)])) rfl rfl (hb hby own_d_prog_40_method_9_code_1)
  have ch2 : ∀ t, Steps p.tables e below (T1.setTop (mkF m 4 #[.val (.ref b), .unset] [(.ref dd)])) t → Steps p.tables e below (s₁.setTop (entryFrame m #[(.ref b)] 2)) t := fun t k => pre0 t (by
      show Steps p.tables e below (s₁.setTop (mkF m 0 #[.val (.ref b), .unset] [])) t
      refine XS.aloadN X0.here hx rfl (hb hby own_d_prog_40_method_9_code_0) rfl rfl ?_
      show Steps p.tables e below (s₁.setTop (mkF m 1 #[.val (.ref b), .unset] [(.ref b)])) t
      exact st1 t k)
  obtain ⟨T3, X3, e3, st3⟩ := getF X1 hx hZ hown (host := "") (Or.inl (hw _ (List.mem_of_getElem? (i := 36) rfl))) Via.refl e1 F2 (g := (mkF m 6 #[.val (.ref b), .unset] [(.ref b), (.ref b), (.ref dd)])) rfl rfl (hb hby own_d_prog_40_method_9_code_6)
  have ch4 : ∀ t, Steps p.tables e below (T3.setTop (mkF m 9 #[.val (.ref b), .unset] [(.int (3 : Int32)), (.ref b), (.ref dd)])) t → Steps p.tables e below (s₁.setTop (entryFrame m #[(.ref b)] 2)) t := fun t k => ch2 t (by
      show Steps p.tables e below (T1.setTop (mkF m 4 #[.val (.ref b), .unset] [(.ref dd)])) t
      refine XS.aloadN X1.here hx rfl (hb hby own_d_prog_40_method_9_code_4) rfl rfl ?_
      show Steps p.tables e below (T1.setTop (mkF m 5 #[.val (.ref b), .unset] [(.ref b), (.ref dd)])) t
      refine XS.dup X1.here hx rfl (hb hby own_d_prog_40_method_9_code_5) rfl rfl ?_
      show Steps p.tables e below (T1.setTop (mkF m 6 #[.val (.ref b), .unset] [(.ref b), (.ref b), (.ref dd)])) t
      exact st3 t k)
  obtain ⟨T5, hp5, X5, e5, W5, st5⟩ := putF X3 hx hZ hown (host := "") (Or.inl (hw _ (List.mem_of_getElem? (i := 36) rfl))) Via.refl e3 F2 E (Or.inl (hw _ (List.mem_of_getElem? (i := 37) rfl))) (hw _ (List.mem_of_getElem? (i := 1) rfl)) (ty := .int) (by decide) rfl rfl (g := (mkF m 12 #[.val (.ref b), .unset] [(.int (2 : Int32)), (.ref b), (.int (2 : Int32)), (.ref dd)])) rfl rfl (hb hby own_d_prog_40_method_9_code_12)
  have ch6 : ∀ t, Steps p.tables e below (T5.setTop (mkF m 15 #[.val (.ref b), .unset] [(.int (2 : Int32)), (.ref dd)])) t → Steps p.tables e below (s₁.setTop (entryFrame m #[(.ref b)] 2)) t := fun t k => ch4 t (by
      show Steps p.tables e below (T3.setTop (mkF m 9 #[.val (.ref b), .unset] [(.int (3 : Int32)), (.ref b), (.ref dd)])) t
      refine XS.iconst X3.here hx rfl (hb hby own_d_prog_40_method_9_code_9) ?_
      show Steps p.tables e below (T3.setTop (mkF m 10 #[.val (.ref b), .unset] [(.int (1 : Int32)), (.int (3 : Int32)), (.ref b), (.ref dd)])) t
      refine XS.isub X3.here hx rfl (hb hby own_d_prog_40_method_9_code_10) rfl ?_
      rw [show ((3 : Int32) - (1 : Int32)) = (2 : Int32) from by decide]
      show Steps p.tables e below (T3.setTop (mkF m 11 #[.val (.ref b), .unset] [(.int (2 : Int32)), (.ref b), (.ref dd)])) t
      refine XS.dupX1 X3.here hx rfl (hb hby own_d_prog_40_method_9_code_11) rfl rfl rfl ?_
      show Steps p.tables e below (T3.setTop (mkF m 12 #[.val (.ref b), .unset] [(.int (2 : Int32)), (.ref b), (.int (2 : Int32)), (.ref dd)])) t
      exact st5 t k)
  have Fw5 := Fld.same W5 F2
  have N5 := Fr.snoc X5 N0 g1
  have Kp5 := Keep.wr (Keep.refl h0 [b, dd]) W5 (Or.inl (List.mem_of_getElem? (i := 0) rfl))
  have cf7 := (V0.other W5 (Ne.symm ne))
  obtain ⟨cl8, Ar8, -, Sz8, Ng8, Ha8, -⟩ := id cf7
  have hin8 : ¬ ((2 : Int32) < 0 ∨ cl8.slots.size ≤ ((2 : Int32)).toNatClampNeg) := inb_of Sz8 (by decide)
  have hat8 : cl8.slots[((2 : Int32)).toNatClampNeg]? = some (.ref c2) := Ha8.at hin8 rfl
  have cf9 := (Fld.other W5 F1 (Or.inr (slot_ne (Or.inr (hw _ (List.mem_of_getElem? (i := 15) rfl))) (Or.inl (hw _ (List.mem_of_getElem? (i := 37) rfl))) (by decide) (t := (.array (.object "com/example/baraja/baraja/games/sabacckessel/Card"))) (t' := .int) (by decide) (by decide))))
  obtain ⟨T10, X10, e10, st10⟩ := getF X5 hx hZ hown (host := "") (Or.inl (hw _ (List.mem_of_getElem? (i := 14) rfl))) Via.refl e5 cf9 (g := (mkF m 18 #[.val (.ref b), .val (.ref c2)] [(.ref b)])) rfl rfl (hb hby own_d_prog_40_method_9_code_18)
  have ch11 : ∀ t, Steps p.tables e below (T10.setTop (mkF m 21 #[.val (.ref b), .val (.ref c2)] [(.ref dd)])) t → Steps p.tables e below (s₁.setTop (entryFrame m #[(.ref b)] 2)) t := fun t k => ch6 t (by
      show Steps p.tables e below (T5.setTop (mkF m 15 #[.val (.ref b), .unset] [(.int (2 : Int32)), (.ref dd)])) t
      refine X5.aaload hx (j := (2 : Int32)) (v := (.ref c2)) (by rw [e5]; exact Ar8.1) (State.isArrayOf_alike hZ.alike Ar8.2.1) rfl Ar8.2.2 hin8 hat8 (g := (mkF m 15 #[.val (.ref b), .unset] [(.int (2 : Int32)), (.ref dd)])) rfl rfl (hb hby own_d_prog_40_method_9_code_15) _ ?_
      show Steps p.tables e below (T5.setTop (mkF m 16 #[.val (.ref b), .unset] [(.ref c2)])) t
      refine XS.astoreN X5.here hx rfl (hb hby own_d_prog_40_method_9_code_16) rfl rfl (l' := #[.val (.ref b), .val (.ref c2)]) rfl ?_
      show Steps p.tables e below (T5.setTop (mkF m 17 #[.val (.ref b), .val (.ref c2)] [])) t
      refine XS.aloadN X5.here hx rfl (hb hby own_d_prog_40_method_9_code_17) rfl rfl ?_
      show Steps p.tables e below (T5.setTop (mkF m 18 #[.val (.ref b), .val (.ref c2)] [(.ref b)])) t
      exact st10 t k)
  obtain ⟨T12, X12, e12, st12⟩ := getF X10 hx hZ hown (host := "") (Or.inl (hw _ (List.mem_of_getElem? (i := 36) rfl))) Via.refl e10 Fw5 (g := (mkF m 22 #[.val (.ref b), .val (.ref c2)] [(.ref b), (.ref dd)])) rfl rfl (hb hby own_d_prog_40_method_9_code_22)
  have ch13 : ∀ t, Steps p.tables e below (T12.setTop (mkF m 25 #[.val (.ref b), .val (.ref c2)] [(.int (2 : Int32)), (.ref dd)])) t → Steps p.tables e below (s₁.setTop (entryFrame m #[(.ref b)] 2)) t := fun t k => ch11 t (by
      show Steps p.tables e below (T10.setTop (mkF m 21 #[.val (.ref b), .val (.ref c2)] [(.ref dd)])) t
      refine XS.aloadN X10.here hx rfl (hb hby own_d_prog_40_method_9_code_21) rfl rfl ?_
      show Steps p.tables e below (T10.setTop (mkF m 22 #[.val (.ref b), .val (.ref c2)] [(.ref b), (.ref dd)])) t
      exact st12 t k)
  obtain ⟨cl14, Ar14, qq14, Sz14, Ng14, Ha14, Ga14⟩ := id cf7
  have hin14 : ¬ ((2 : Int32) < 0 ∨ cl14.slots.size ≤ ((2 : Int32)).toNatClampNeg) := inb_of Sz14 (by decide)
  obtain ⟨T15, hp15, X15, e15, W15, st15⟩ := stR X12 hx hZ e12 Ar14 (j := (2 : Int32)) hin14 rfl (Or.inl rfl) (g := (mkF m 26 #[.val (.ref b), .val (.ref c2)] [.null, (.int (2 : Int32)), (.ref dd)])) rfl rfl (hb hby own_d_prog_40_method_9_code_26)
  have ch16 : ∀ t, Steps p.tables e below (T15.setTop (mkF m 27 #[.val (.ref b), .val (.ref c2)] [])) t → Steps p.tables e below (s₁.setTop (entryFrame m #[(.ref b)] 2)) t := fun t k => ch13 t (by
      show Steps p.tables e below (T12.setTop (mkF m 25 #[.val (.ref b), .val (.ref c2)] [(.int (2 : Int32)), (.ref dd)])) t
      refine XS.aconstNull X12.here hx rfl (hb hby own_d_prog_40_method_9_code_25) ?_
      show Steps p.tables e below (T12.setTop (mkF m 26 #[.val (.ref b), .val (.ref c2)] [.null, (.int (2 : Int32)), (.ref dd)])) t
      exact st15 t k)
  have V15 : Arv Z hp15 dd kd (.object "com/example/baraja/baraja/games/sabacckessel/Card") (22 : Int32) [(.ref c0), (.ref c1), .null, .null, .null, .null, .null, .null, .null, .null, .null, .null, .null, .null, .null, .null, .null, .null, .null, .null, .null, .null] .null := Arv.set Ar14 qq14 Sz14 Ng14 Ha14 Ga14 rfl W15 2 rfl (Nat.le_of_ble_eq_true rfl)
  have N15 := Fr.snoc X15 N5 g2
  have Kp15 := Keep.wr Kp5 W15 (Or.inl (List.mem_of_getElem? (i := 1) rfl))
  have ch17 : ∀ t, Steps p.tables e below (T15.setTop (mkF m 28 #[.val (.ref b), .val (.ref c2)] [(.ref c2)])) t → Steps p.tables e below (s₁.setTop (entryFrame m #[(.ref b)] 2)) t := fun t k => ch16 t (by
      show Steps p.tables e below (T15.setTop (mkF m 27 #[.val (.ref b), .val (.ref c2)] [])) t
      refine XS.aloadN X15.here hx rfl (hb hby own_d_prog_40_method_9_code_27) rfl rfl ?_
      exact k)
  have cf18 := (Exa.wr W15 (Exa.wr W5 E))
  have cf19 := (Fld.other W15 cf9 (Or.inl ne))
  have cf20 := (Fld.other W15 Fw5 (Or.inl ne))
  obtain ⟨fs, hr, hrun, hended, hW, hsame⟩ := X15.leave (v := some (.ref c2)) (fun h => by rw [Bd.returns] at h; cases h)
  refine ⟨_, _, ch17 _ ?_, hrun, hended, _, _, rfl, ?_, ⟨_, rfl⟩, hW, hsame.mono (by decide) (by decide)⟩
  · show Steps p.tables e below (T15.setTop (mkF m 28 #[.val (.ref b), .val (.ref c2)] [(.ref c2)])) _
    jvm_step X15.here [X15.here.top, hx, (hb hby own_d_prog_40_method_9_code_28), X15.method', Bd.returns, Value.isRef, FieldType.isReference]
    first | (intro acts; rw [hr _ acts rfl rfl rfl]) | rw [hr _ _ rfl rfl rfl]
    exact Steps.refl _
  · show QS2 Z (some (.ref c2)) b dd kd c0 c1 h0 n0 _ T15.heap _
    rw [e15]
    exact ⟨rfl, N15, Kp15, cf18, cf19, cf20, V15⟩
theorem own_ef_own_top_0 (m : MethodId) {x0 : Addr} : entryFrame m #[(.ref x0)] 1 = mkF m 0 #[.val (.ref x0)] [] := by first | (simp [entryFrame, mkF, argsToLocals, Value.category, maxLocals]; done) | rfl
set_option maxRecDepth 65536 in
set_option maxHeartbeats 40000000 in
theorem own_top_0 (l : Launch) (Z : State) (a0 : Array Value) (hw : ∀ d ∈ tables_1, d.before a0 Z = true) (ws : List Jvm.Cond) (h0 : Heap) (n0 : Nat) (Z0 : n0 ≤ h0.size) (b dd : Addr) (kd : ClassId) (E : Exa Z h0 b "com/example/baraja/baraja/games/sabacckessel/FamilyCards") (F1 : Fld Z h0 b "com/example/baraja/baraja/games/sabacckessel/FamilyCards" "discards" "[Lcom/example/baraja/baraja/games/sabacckessel/Card;" (.ref dd)) (F2 : Fld Z h0 b "com/example/baraja/baraja/games/sabacckessel/FamilyCards" "discardCount" "I" (.int (0 : Int32))) (V0 : Arv Z h0 dd kd (.object "com/example/baraja/baraja/games/sabacckessel/Card") (22 : Int32) [.null, .null, .null, .null, .null, .null, .null, .null, .null, .null, .null, .null, .null, .null, .null, .null, .null, .null, .null, .null, .null, .null] .null) (O : Ovr Z kd "com/example/baraja/baraja/games/sabacckessel/Card") (g1 : n0 ≤ b) (g2 : n0 ≤ dd) (ne : b ≠ dd) :
    MetFree l (⟨"com/example/baraja/baraja/games/sabacckessel/FamilyCards", "topDiscard", "()Lcom/example/baraja/baraja/games/sabacckessel/Card;"⟩ : MethodName) (head1 (Jvm.Cond.code (⟨"com/example/baraja/baraja/games/sabacckessel/FamilyCards", "topDiscard", "()Lcom/example/baraja/baraja/games/sabacckessel/Card;"⟩ : MethodName) prog_40_method_10_code 1 (some (.object "com/example/baraja/baraja/games/sabacckessel/Card")) :: ws) ({ frames := 0, cells := 0, slots := 0, locals := 0 } : Room)) (fun a U => a = #[(.ref b)] ∧ Z.Warmed39 U.vm ∧ U.heap = h0) (fun _ _ _ _ _ => True) (fun _ U o U' => ∃ v L, o = .returned v ∧ QV (some .null) h0 n0 v U'.heap L ∧ FrameEnd U o U' L ({ frames := 0, cells := 0, slots := 0, locals := 0 } : Room).cells ({ frames := 0, cells := 0, slots := 0, locals := 0 } : Room).slots) := by
  refine MetFree.of_bodySF (plainFor_of_name own_pn_com_example_baraja_baraja_games_sabacckessel_FamilyCards) hisR ?_
  intro p e s m args below meth c s₁ Bd hml0 hP hK
  obtain ⟨rfl, hZ, hh⟩ := hP
  have hx := Bd.exec
  have hby := Bd.bytes
  have hml : c.maxLocals = 1 := hml0
  have hown : s.vm.findClass "com/example/baraja/baraja/games/sabacckessel/FamilyCards" = some m.cls := findClass_of_methodNamed Bd.named
  have hnm := (name_of_methodNamed Bd.named Bd.method).1
  have X0 : Stand p l e ({ frames := 0, cells := 0, slots := 0, locals := 0 } : Room) s m #[(.ref b)] below meth c s₁ [] 0 0 := Stand.of_body Bd
  have e0 : s₁.heap = h0 := by rw [← hh, Bd.state]; rfl
  have N0 := Fr.nil n0
  have pre0 : ∀ t, Steps p.tables e below (s₁.setTop (mkF m 0 #[.val (.ref b)] [])) t → Steps p.tables e below (s₁.setTop (entryFrame m #[(.ref b)] 1)) t := fun t k => castTop (own_ef_own_top_0 m) k
  obtain ⟨T1, X1, e1, st1⟩ := getF X0 hx hZ hown (host := "") (Or.inl (hw _ (List.mem_of_getElem? (i := 36) rfl))) Via.refl e0 F2 (g := (mkF m 1 #[.val (.ref b)] [(.ref b)])) rfl rfl (hb hby own_d_prog_40_method_10_code_1)
  have ch2 : ∀ t, Steps p.tables e below (T1.setTop (mkF m 4 #[.val (.ref b)] [(.int (0 : Int32))])) t → Steps p.tables e below (s₁.setTop (entryFrame m #[(.ref b)] 1)) t := fun t k => pre0 t (by
      show Steps p.tables e below (s₁.setTop (mkF m 0 #[.val (.ref b)] [])) t
      refine XS.aloadN X0.here hx rfl (hb hby own_d_prog_40_method_10_code_0) rfl rfl ?_
      show Steps p.tables e below (s₁.setTop (mkF m 1 #[.val (.ref b)] [(.ref b)])) t
      exact st1 t k)
  have ch3 : ∀ t, Steps p.tables e below (T1.setTop (mkF m 22 #[.val (.ref b)] [.null])) t → Steps p.tables e below (s₁.setTop (entryFrame m #[(.ref b)] 1)) t := fun t k => ch2 t (by
      show Steps p.tables e below (T1.setTop (mkF m 4 #[.val (.ref b)] [(.int (0 : Int32))])) t
      refine XS.ifNo X1.here hx rfl (hb hby own_d_prog_40_method_10_code_4) rfl ((if0 _ _).trans (teq (by decide : (0 : Int32) = (0 : Int32))).2) ?_
      show Steps p.tables e below (T1.setTop (mkF m 7 #[.val (.ref b)] [])) t
      refine XS.aconstNull X1.here hx rfl (hb hby own_d_prog_40_method_10_code_7) ?_
      show Steps p.tables e below (T1.setTop (mkF m 8 #[.val (.ref b)] [.null])) t
      refine XS.goto X1.here hx rfl (pc0 := 8) (pc' := 22) rfl (hb hby own_d_prog_40_method_10_code_8) (by decide) (by decide) ?_
      exact k)
  obtain ⟨fs, hr, hrun, hended, hW, hsame⟩ := X1.leave (v := some .null) (fun h => by rw [Bd.returns] at h; cases h)
  refine ⟨_, _, ch3 _ ?_, hrun, hended, _, _, rfl, ?_, ⟨_, rfl⟩, hW, hsame.mono (by decide) (by decide)⟩
  · show Steps p.tables e below (T1.setTop (mkF m 22 #[.val (.ref b)] [.null])) _
    jvm_step X1.here [X1.here.top, hx, (hb hby own_d_prog_40_method_10_code_22), X1.method', Bd.returns, Value.isRef, FieldType.isReference]
    first | (intro acts; rw [hr _ acts rfl rfl rfl]) | rw [hr _ _ rfl rfl rfl]
    exact Steps.refl _
  · show QV (some .null) h0 n0 _ T1.heap _
    rw [e1]
    exact ⟨rfl, N0, rfl⟩
theorem own_ef_own_emp_0 (m : MethodId) {x0 : Addr} : entryFrame m #[(.ref x0)] 1 = mkF m 0 #[.val (.ref x0)] [] := by first | (simp [entryFrame, mkF, argsToLocals, Value.category, maxLocals]; done) | rfl
set_option maxRecDepth 65536 in
set_option maxHeartbeats 40000000 in
theorem own_emp_0 (l : Launch) (Z : State) (a0 : Array Value) (hw : ∀ d ∈ tables_1, d.before a0 Z = true) (ws : List Jvm.Cond) (h0 : Heap) (n0 : Nat) (Z0 : n0 ≤ h0.size) (b dd : Addr) (kd : ClassId) (E : Exa Z h0 b "com/example/baraja/baraja/games/sabacckessel/FamilyCards") (F1 : Fld Z h0 b "com/example/baraja/baraja/games/sabacckessel/FamilyCards" "discards" "[Lcom/example/baraja/baraja/games/sabacckessel/Card;" (.ref dd)) (F2 : Fld Z h0 b "com/example/baraja/baraja/games/sabacckessel/FamilyCards" "discardCount" "I" (.int (0 : Int32))) (V0 : Arv Z h0 dd kd (.object "com/example/baraja/baraja/games/sabacckessel/Card") (22 : Int32) [.null, .null, .null, .null, .null, .null, .null, .null, .null, .null, .null, .null, .null, .null, .null, .null, .null, .null, .null, .null, .null, .null] .null) (O : Ovr Z kd "com/example/baraja/baraja/games/sabacckessel/Card") (g1 : n0 ≤ b) (g2 : n0 ≤ dd) (ne : b ≠ dd) :
    MetFree l (⟨"com/example/baraja/baraja/games/sabacckessel/FamilyCards", "discardsAreEmpty", "()Z"⟩ : MethodName) (head1 (Jvm.Cond.code (⟨"com/example/baraja/baraja/games/sabacckessel/FamilyCards", "discardsAreEmpty", "()Z"⟩ : MethodName) prog_40_method_7_code 1 (some .boolean) :: ws) ({ frames := 0, cells := 0, slots := 0, locals := 0 } : Room)) (fun a U => a = #[(.ref b)] ∧ Z.Warmed39 U.vm ∧ U.heap = h0) (fun _ _ _ _ _ => True) (fun _ U o U' => ∃ v L, o = .returned v ∧ QV (some (.int (1 : Int32))) h0 n0 v U'.heap L ∧ FrameEnd U o U' L ({ frames := 0, cells := 0, slots := 0, locals := 0 } : Room).cells ({ frames := 0, cells := 0, slots := 0, locals := 0 } : Room).slots) := by
  refine MetFree.of_bodySF (plainFor_of_name own_pn_com_example_baraja_baraja_games_sabacckessel_FamilyCards) hisR ?_
  intro p e s m args below meth c s₁ Bd hml0 hP hK
  obtain ⟨rfl, hZ, hh⟩ := hP
  have hx := Bd.exec
  have hby := Bd.bytes
  have hml : c.maxLocals = 1 := hml0
  have hown : s.vm.findClass "com/example/baraja/baraja/games/sabacckessel/FamilyCards" = some m.cls := findClass_of_methodNamed Bd.named
  have hnm := (name_of_methodNamed Bd.named Bd.method).1
  have X0 : Stand p l e ({ frames := 0, cells := 0, slots := 0, locals := 0 } : Room) s m #[(.ref b)] below meth c s₁ [] 0 0 := Stand.of_body Bd
  have e0 : s₁.heap = h0 := by rw [← hh, Bd.state]; rfl
  have N0 := Fr.nil n0
  have pre0 : ∀ t, Steps p.tables e below (s₁.setTop (mkF m 0 #[.val (.ref b)] [])) t → Steps p.tables e below (s₁.setTop (entryFrame m #[(.ref b)] 1)) t := fun t k => castTop (own_ef_own_emp_0 m) k
  obtain ⟨T1, X1, e1, st1⟩ := getF X0 hx hZ hown (host := "") (Or.inl (hw _ (List.mem_of_getElem? (i := 36) rfl))) Via.refl e0 F2 (g := (mkF m 1 #[.val (.ref b)] [(.ref b)])) rfl rfl (hb hby own_d_prog_40_method_7_code_1)
  have ch2 : ∀ t, Steps p.tables e below (T1.setTop (mkF m 4 #[.val (.ref b)] [(.int (0 : Int32))])) t → Steps p.tables e below (s₁.setTop (entryFrame m #[(.ref b)] 1)) t := fun t k => pre0 t (by
      show Steps p.tables e below (s₁.setTop (mkF m 0 #[.val (.ref b)] [])) t
      refine XS.aloadN X0.here hx rfl (hb hby own_d_prog_40_method_7_code_0) rfl rfl ?_
      show Steps p.tables e below (s₁.setTop (mkF m 1 #[.val (.ref b)] [(.ref b)])) t
      exact st1 t k)
  have ch3 : ∀ t, Steps p.tables e below (T1.setTop (mkF m 12 #[.val (.ref b)] [(.int (1 : Int32))])) t → Steps p.tables e below (s₁.setTop (entryFrame m #[(.ref b)] 1)) t := fun t k => ch2 t (by
      show Steps p.tables e below (T1.setTop (mkF m 4 #[.val (.ref b)] [(.int (0 : Int32))])) t
      refine XS.ifNo X1.here hx rfl (hb hby own_d_prog_40_method_7_code_4) rfl ((if0 _ _).trans (teq (by decide : (0 : Int32) = (0 : Int32))).2) ?_
      show Steps p.tables e below (T1.setTop (mkF m 7 #[.val (.ref b)] [])) t
      refine XS.iconst X1.here hx rfl (hb hby own_d_prog_40_method_7_code_7) ?_
      show Steps p.tables e below (T1.setTop (mkF m 8 #[.val (.ref b)] [(.int (1 : Int32))])) t
      refine XS.goto X1.here hx rfl (pc0 := 8) (pc' := 12) rfl (hb hby own_d_prog_40_method_7_code_8) (by decide) (by decide) ?_
      exact k)
  obtain ⟨fs, hr, hrun, hended, hW, hsame⟩ := X1.leave (v := some (.int (1 : Int32))) (fun h => by rw [Bd.returns] at h; cases h)
  refine ⟨_, _, ch3 _ ?_, hrun, hended, _, _, rfl, ?_, ⟨_, rfl⟩, hW, hsame.mono (by decide) (by decide)⟩
  · show Steps p.tables e below (T1.setTop (mkF m 12 #[.val (.ref b)] [(.int (1 : Int32))])) _
    exact retN X1 hx (t := .boolean) Bd.returns (by simp) (hb hby own_d_prog_40_method_7_code_12) hr
  · show QV (some (.int (1 : Int32))) h0 n0 _ T1.heap _
    rw [e1]
    exact ⟨rfl, N0, rfl⟩
theorem own_ef_own_top_1 (m : MethodId) {x0 : Addr} : entryFrame m #[(.ref x0)] 1 = mkF m 0 #[.val (.ref x0)] [] := by first | (simp [entryFrame, mkF, argsToLocals, Value.category, maxLocals]; done) | rfl
set_option maxRecDepth 65536 in
set_option maxHeartbeats 40000000 in
theorem own_top_1 (l : Launch) (Z : State) (a0 : Array Value) (hw : ∀ d ∈ tables_1, d.before a0 Z = true) (ws : List Jvm.Cond) (h0 : Heap) (n0 : Nat) (Z0 : n0 ≤ h0.size) (b dd : Addr) (kd : ClassId) (c0 : Addr) (E : Exa Z h0 b "com/example/baraja/baraja/games/sabacckessel/FamilyCards") (F1 : Fld Z h0 b "com/example/baraja/baraja/games/sabacckessel/FamilyCards" "discards" "[Lcom/example/baraja/baraja/games/sabacckessel/Card;" (.ref dd)) (F2 : Fld Z h0 b "com/example/baraja/baraja/games/sabacckessel/FamilyCards" "discardCount" "I" (.int (1 : Int32))) (V0 : Arv Z h0 dd kd (.object "com/example/baraja/baraja/games/sabacckessel/Card") (22 : Int32) [(.ref c0), .null, .null, .null, .null, .null, .null, .null, .null, .null, .null, .null, .null, .null, .null, .null, .null, .null, .null, .null, .null, .null] .null) (O : Ovr Z kd "com/example/baraja/baraja/games/sabacckessel/Card") (g1 : n0 ≤ b) (g2 : n0 ≤ dd) (ne : b ≠ dd) :
    MetFree l (⟨"com/example/baraja/baraja/games/sabacckessel/FamilyCards", "topDiscard", "()Lcom/example/baraja/baraja/games/sabacckessel/Card;"⟩ : MethodName) (head1 (Jvm.Cond.code (⟨"com/example/baraja/baraja/games/sabacckessel/FamilyCards", "topDiscard", "()Lcom/example/baraja/baraja/games/sabacckessel/Card;"⟩ : MethodName) prog_40_method_10_code 1 (some (.object "com/example/baraja/baraja/games/sabacckessel/Card")) :: ws) ({ frames := 0, cells := 0, slots := 0, locals := 0 } : Room)) (fun a U => a = #[(.ref b)] ∧ Z.Warmed39 U.vm ∧ U.heap = h0) (fun _ _ _ _ _ => True) (fun _ U o U' => ∃ v L, o = .returned v ∧ QV (some (.ref c0)) h0 n0 v U'.heap L ∧ FrameEnd U o U' L ({ frames := 0, cells := 0, slots := 0, locals := 0 } : Room).cells ({ frames := 0, cells := 0, slots := 0, locals := 0 } : Room).slots) := by
  refine MetFree.of_bodySF (plainFor_of_name own_pn_com_example_baraja_baraja_games_sabacckessel_FamilyCards) hisR ?_
  intro p e s m args below meth c s₁ Bd hml0 hP hK
  obtain ⟨rfl, hZ, hh⟩ := hP
  have hx := Bd.exec
  have hby := Bd.bytes
  have hml : c.maxLocals = 1 := hml0
  have hown : s.vm.findClass "com/example/baraja/baraja/games/sabacckessel/FamilyCards" = some m.cls := findClass_of_methodNamed Bd.named
  have hnm := (name_of_methodNamed Bd.named Bd.method).1
  have X0 : Stand p l e ({ frames := 0, cells := 0, slots := 0, locals := 0 } : Room) s m #[(.ref b)] below meth c s₁ [] 0 0 := Stand.of_body Bd
  have e0 : s₁.heap = h0 := by rw [← hh, Bd.state]; rfl
  have N0 := Fr.nil n0
  have pre0 : ∀ t, Steps p.tables e below (s₁.setTop (mkF m 0 #[.val (.ref b)] [])) t → Steps p.tables e below (s₁.setTop (entryFrame m #[(.ref b)] 1)) t := fun t k => castTop (own_ef_own_top_1 m) k
  obtain ⟨T1, X1, e1, st1⟩ := getF X0 hx hZ hown (host := "") (Or.inl (hw _ (List.mem_of_getElem? (i := 36) rfl))) Via.refl e0 F2 (g := (mkF m 1 #[.val (.ref b)] [(.ref b)])) rfl rfl (hb hby own_d_prog_40_method_10_code_1)
  have ch2 : ∀ t, Steps p.tables e below (T1.setTop (mkF m 4 #[.val (.ref b)] [(.int (1 : Int32))])) t → Steps p.tables e below (s₁.setTop (entryFrame m #[(.ref b)] 1)) t := fun t k => pre0 t (by
      show Steps p.tables e below (s₁.setTop (mkF m 0 #[.val (.ref b)] [])) t
      refine XS.aloadN X0.here hx rfl (hb hby own_d_prog_40_method_10_code_0) rfl rfl ?_
      show Steps p.tables e below (s₁.setTop (mkF m 1 #[.val (.ref b)] [(.ref b)])) t
      exact st1 t k)
  obtain ⟨T3, X3, e3, st3⟩ := getF X1 hx hZ hown (host := "") (Or.inl (hw _ (List.mem_of_getElem? (i := 14) rfl))) Via.refl e1 F1 (g := (mkF m 12 #[.val (.ref b)] [(.ref b)])) rfl rfl (hb hby own_d_prog_40_method_10_code_12)
  have ch4 : ∀ t, Steps p.tables e below (T3.setTop (mkF m 15 #[.val (.ref b)] [(.ref dd)])) t → Steps p.tables e below (s₁.setTop (entryFrame m #[(.ref b)] 1)) t := fun t k => ch2 t (by
      show Steps p.tables e below (T1.setTop (mkF m 4 #[.val (.ref b)] [(.int (1 : Int32))])) t
      refine XS.ifYes X1.here hx rfl (pc0 := 4) (pc' := 11) rfl (hb hby own_d_prog_40_method_10_code_4) rfl ((if0 _ _).trans (feq (by decide : ¬ (1 : Int32) = (0 : Int32))).2) (by decide) (by decide) ?_
      show Steps p.tables e below (T1.setTop (mkF m 11 #[.val (.ref b)] [])) t
      refine XS.aloadN X1.here hx rfl (hb hby own_d_prog_40_method_10_code_11) rfl rfl ?_
      show Steps p.tables e below (T1.setTop (mkF m 12 #[.val (.ref b)] [(.ref b)])) t
      exact st3 t k)
  obtain ⟨T5, X5, e5, st5⟩ := getF X3 hx hZ hown (host := "") (Or.inl (hw _ (List.mem_of_getElem? (i := 36) rfl))) Via.refl e3 F2 (g := (mkF m 16 #[.val (.ref b)] [(.ref b), (.ref dd)])) rfl rfl (hb hby own_d_prog_40_method_10_code_16)
  have ch6 : ∀ t, Steps p.tables e below (T5.setTop (mkF m 19 #[.val (.ref b)] [(.int (1 : Int32)), (.ref dd)])) t → Steps p.tables e below (s₁.setTop (entryFrame m #[(.ref b)] 1)) t := fun t k => ch4 t (by
      show Steps p.tables e below (T3.setTop (mkF m 15 #[.val (.ref b)] [(.ref dd)])) t
      refine XS.aloadN X3.here hx rfl (hb hby own_d_prog_40_method_10_code_15) rfl rfl ?_
      show Steps p.tables e below (T3.setTop (mkF m 16 #[.val (.ref b)] [(.ref b), (.ref dd)])) t
      exact st5 t k)
  obtain ⟨cl7, Ar7, -, Sz7, Ng7, Ha7, -⟩ := id V0
  have hin7 : ¬ ((0 : Int32) < 0 ∨ cl7.slots.size ≤ ((0 : Int32)).toNatClampNeg) := inb_of Sz7 (by decide)
  have hat7 : cl7.slots[((0 : Int32)).toNatClampNeg]? = some (.ref c0) := Ha7.at hin7 rfl
  have ch8 : ∀ t, Steps p.tables e below (T5.setTop (mkF m 22 #[.val (.ref b)] [(.ref c0)])) t → Steps p.tables e below (s₁.setTop (entryFrame m #[(.ref b)] 1)) t := fun t k => ch6 t (by
      show Steps p.tables e below (T5.setTop (mkF m 19 #[.val (.ref b)] [(.int (1 : Int32)), (.ref dd)])) t
      refine XS.iconst X5.here hx rfl (hb hby own_d_prog_40_method_10_code_19) ?_
      show Steps p.tables e below (T5.setTop (mkF m 20 #[.val (.ref b)] [(.int (1 : Int32)), (.int (1 : Int32)), (.ref dd)])) t
      refine XS.isub X5.here hx rfl (hb hby own_d_prog_40_method_10_code_20) rfl ?_
      rw [show ((1 : Int32) - (1 : Int32)) = (0 : Int32) from by decide]
      show Steps p.tables e below (T5.setTop (mkF m 21 #[.val (.ref b)] [(.int (0 : Int32)), (.ref dd)])) t
      refine X5.aaload hx (j := (0 : Int32)) (v := (.ref c0)) (by rw [e5]; exact Ar7.1) (State.isArrayOf_alike hZ.alike Ar7.2.1) rfl Ar7.2.2 hin7 hat7 (g := (mkF m 21 #[.val (.ref b)] [(.int (0 : Int32)), (.ref dd)])) rfl rfl (hb hby own_d_prog_40_method_10_code_21) _ ?_
      exact k)
  obtain ⟨fs, hr, hrun, hended, hW, hsame⟩ := X5.leave (v := some (.ref c0)) (fun h => by rw [Bd.returns] at h; cases h)
  refine ⟨_, _, ch8 _ ?_, hrun, hended, _, _, rfl, ?_, ⟨_, rfl⟩, hW, hsame.mono (by decide) (by decide)⟩
  · show Steps p.tables e below (T5.setTop (mkF m 22 #[.val (.ref b)] [(.ref c0)])) _
    jvm_step X5.here [X5.here.top, hx, (hb hby own_d_prog_40_method_10_code_22), X5.method', Bd.returns, Value.isRef, FieldType.isReference]
    first | (intro acts; rw [hr _ acts rfl rfl rfl]) | rw [hr _ _ rfl rfl rfl]
    exact Steps.refl _
  · show QV (some (.ref c0)) h0 n0 _ T5.heap _
    rw [e5]
    exact ⟨rfl, N0, rfl⟩
theorem own_ef_own_emp_1 (m : MethodId) {x0 : Addr} : entryFrame m #[(.ref x0)] 1 = mkF m 0 #[.val (.ref x0)] [] := by first | (simp [entryFrame, mkF, argsToLocals, Value.category, maxLocals]; done) | rfl
set_option maxRecDepth 65536 in
set_option maxHeartbeats 40000000 in
theorem own_emp_1 (l : Launch) (Z : State) (a0 : Array Value) (hw : ∀ d ∈ tables_1, d.before a0 Z = true) (ws : List Jvm.Cond) (h0 : Heap) (n0 : Nat) (Z0 : n0 ≤ h0.size) (b dd : Addr) (kd : ClassId) (c0 : Addr) (E : Exa Z h0 b "com/example/baraja/baraja/games/sabacckessel/FamilyCards") (F1 : Fld Z h0 b "com/example/baraja/baraja/games/sabacckessel/FamilyCards" "discards" "[Lcom/example/baraja/baraja/games/sabacckessel/Card;" (.ref dd)) (F2 : Fld Z h0 b "com/example/baraja/baraja/games/sabacckessel/FamilyCards" "discardCount" "I" (.int (1 : Int32))) (V0 : Arv Z h0 dd kd (.object "com/example/baraja/baraja/games/sabacckessel/Card") (22 : Int32) [(.ref c0), .null, .null, .null, .null, .null, .null, .null, .null, .null, .null, .null, .null, .null, .null, .null, .null, .null, .null, .null, .null, .null] .null) (O : Ovr Z kd "com/example/baraja/baraja/games/sabacckessel/Card") (g1 : n0 ≤ b) (g2 : n0 ≤ dd) (ne : b ≠ dd) :
    MetFree l (⟨"com/example/baraja/baraja/games/sabacckessel/FamilyCards", "discardsAreEmpty", "()Z"⟩ : MethodName) (head1 (Jvm.Cond.code (⟨"com/example/baraja/baraja/games/sabacckessel/FamilyCards", "discardsAreEmpty", "()Z"⟩ : MethodName) prog_40_method_7_code 1 (some .boolean) :: ws) ({ frames := 0, cells := 0, slots := 0, locals := 0 } : Room)) (fun a U => a = #[(.ref b)] ∧ Z.Warmed39 U.vm ∧ U.heap = h0) (fun _ _ _ _ _ => True) (fun _ U o U' => ∃ v L, o = .returned v ∧ QV (some (.int (0 : Int32))) h0 n0 v U'.heap L ∧ FrameEnd U o U' L ({ frames := 0, cells := 0, slots := 0, locals := 0 } : Room).cells ({ frames := 0, cells := 0, slots := 0, locals := 0 } : Room).slots) := by
  refine MetFree.of_bodySF (plainFor_of_name own_pn_com_example_baraja_baraja_games_sabacckessel_FamilyCards) hisR ?_
  intro p e s m args below meth c s₁ Bd hml0 hP hK
  obtain ⟨rfl, hZ, hh⟩ := hP
  have hx := Bd.exec
  have hby := Bd.bytes
  have hml : c.maxLocals = 1 := hml0
  have hown : s.vm.findClass "com/example/baraja/baraja/games/sabacckessel/FamilyCards" = some m.cls := findClass_of_methodNamed Bd.named
  have hnm := (name_of_methodNamed Bd.named Bd.method).1
  have X0 : Stand p l e ({ frames := 0, cells := 0, slots := 0, locals := 0 } : Room) s m #[(.ref b)] below meth c s₁ [] 0 0 := Stand.of_body Bd
  have e0 : s₁.heap = h0 := by rw [← hh, Bd.state]; rfl
  have N0 := Fr.nil n0
  have pre0 : ∀ t, Steps p.tables e below (s₁.setTop (mkF m 0 #[.val (.ref b)] [])) t → Steps p.tables e below (s₁.setTop (entryFrame m #[(.ref b)] 1)) t := fun t k => castTop (own_ef_own_emp_1 m) k
  obtain ⟨T1, X1, e1, st1⟩ := getF X0 hx hZ hown (host := "") (Or.inl (hw _ (List.mem_of_getElem? (i := 36) rfl))) Via.refl e0 F2 (g := (mkF m 1 #[.val (.ref b)] [(.ref b)])) rfl rfl (hb hby own_d_prog_40_method_7_code_1)
  have ch2 : ∀ t, Steps p.tables e below (T1.setTop (mkF m 4 #[.val (.ref b)] [(.int (1 : Int32))])) t → Steps p.tables e below (s₁.setTop (entryFrame m #[(.ref b)] 1)) t := fun t k => pre0 t (by
      show Steps p.tables e below (s₁.setTop (mkF m 0 #[.val (.ref b)] [])) t
      refine XS.aloadN X0.here hx rfl (hb hby own_d_prog_40_method_7_code_0) rfl rfl ?_
      show Steps p.tables e below (s₁.setTop (mkF m 1 #[.val (.ref b)] [(.ref b)])) t
      exact st1 t k)
  have ch3 : ∀ t, Steps p.tables e below (T1.setTop (mkF m 12 #[.val (.ref b)] [(.int (0 : Int32))])) t → Steps p.tables e below (s₁.setTop (entryFrame m #[(.ref b)] 1)) t := fun t k => ch2 t (by
      show Steps p.tables e below (T1.setTop (mkF m 4 #[.val (.ref b)] [(.int (1 : Int32))])) t
      refine XS.ifYes X1.here hx rfl (pc0 := 4) (pc' := 11) rfl (hb hby own_d_prog_40_method_7_code_4) rfl ((if0 _ _).trans (feq (by decide : ¬ (1 : Int32) = (0 : Int32))).2) (by decide) (by decide) ?_
      show Steps p.tables e below (T1.setTop (mkF m 11 #[.val (.ref b)] [])) t
      refine XS.iconst X1.here hx rfl (hb hby own_d_prog_40_method_7_code_11) ?_
      exact k)
  obtain ⟨fs, hr, hrun, hended, hW, hsame⟩ := X1.leave (v := some (.int (0 : Int32))) (fun h => by rw [Bd.returns] at h; cases h)
  refine ⟨_, _, ch3 _ ?_, hrun, hended, _, _, rfl, ?_, ⟨_, rfl⟩, hW, hsame.mono (by decide) (by decide)⟩
  · show Steps p.tables e below (T1.setTop (mkF m 12 #[.val (.ref b)] [(.int (0 : Int32))])) _
    exact retN X1 hx (t := .boolean) Bd.returns (by simp) (hb hby own_d_prog_40_method_7_code_12) hr
  · show QV (some (.int (0 : Int32))) h0 n0 _ T1.heap _
    rw [e1]
    exact ⟨rfl, N0, rfl⟩
theorem own_ef_own_top_2 (m : MethodId) {x0 : Addr} : entryFrame m #[(.ref x0)] 1 = mkF m 0 #[.val (.ref x0)] [] := by first | (simp [entryFrame, mkF, argsToLocals, Value.category, maxLocals]; done) | rfl
set_option maxRecDepth 65536 in
set_option maxHeartbeats 40000000 in
theorem own_top_2 (l : Launch) (Z : State) (a0 : Array Value) (hw : ∀ d ∈ tables_1, d.before a0 Z = true) (ws : List Jvm.Cond) (h0 : Heap) (n0 : Nat) (Z0 : n0 ≤ h0.size) (b dd : Addr) (kd : ClassId) (c0 c1 : Addr) (E : Exa Z h0 b "com/example/baraja/baraja/games/sabacckessel/FamilyCards") (F1 : Fld Z h0 b "com/example/baraja/baraja/games/sabacckessel/FamilyCards" "discards" "[Lcom/example/baraja/baraja/games/sabacckessel/Card;" (.ref dd)) (F2 : Fld Z h0 b "com/example/baraja/baraja/games/sabacckessel/FamilyCards" "discardCount" "I" (.int (2 : Int32))) (V0 : Arv Z h0 dd kd (.object "com/example/baraja/baraja/games/sabacckessel/Card") (22 : Int32) [(.ref c0), (.ref c1), .null, .null, .null, .null, .null, .null, .null, .null, .null, .null, .null, .null, .null, .null, .null, .null, .null, .null, .null, .null] .null) (O : Ovr Z kd "com/example/baraja/baraja/games/sabacckessel/Card") (g1 : n0 ≤ b) (g2 : n0 ≤ dd) (ne : b ≠ dd) :
    MetFree l (⟨"com/example/baraja/baraja/games/sabacckessel/FamilyCards", "topDiscard", "()Lcom/example/baraja/baraja/games/sabacckessel/Card;"⟩ : MethodName) (head1 (Jvm.Cond.code (⟨"com/example/baraja/baraja/games/sabacckessel/FamilyCards", "topDiscard", "()Lcom/example/baraja/baraja/games/sabacckessel/Card;"⟩ : MethodName) prog_40_method_10_code 1 (some (.object "com/example/baraja/baraja/games/sabacckessel/Card")) :: ws) ({ frames := 0, cells := 0, slots := 0, locals := 0 } : Room)) (fun a U => a = #[(.ref b)] ∧ Z.Warmed39 U.vm ∧ U.heap = h0) (fun _ _ _ _ _ => True) (fun _ U o U' => ∃ v L, o = .returned v ∧ QV (some (.ref c1)) h0 n0 v U'.heap L ∧ FrameEnd U o U' L ({ frames := 0, cells := 0, slots := 0, locals := 0 } : Room).cells ({ frames := 0, cells := 0, slots := 0, locals := 0 } : Room).slots) := by
  refine MetFree.of_bodySF (plainFor_of_name own_pn_com_example_baraja_baraja_games_sabacckessel_FamilyCards) hisR ?_
  intro p e s m args below meth c s₁ Bd hml0 hP hK
  obtain ⟨rfl, hZ, hh⟩ := hP
  have hx := Bd.exec
  have hby := Bd.bytes
  have hml : c.maxLocals = 1 := hml0
  have hown : s.vm.findClass "com/example/baraja/baraja/games/sabacckessel/FamilyCards" = some m.cls := findClass_of_methodNamed Bd.named
  have hnm := (name_of_methodNamed Bd.named Bd.method).1
  have X0 : Stand p l e ({ frames := 0, cells := 0, slots := 0, locals := 0 } : Room) s m #[(.ref b)] below meth c s₁ [] 0 0 := Stand.of_body Bd
  have e0 : s₁.heap = h0 := by rw [← hh, Bd.state]; rfl
  have N0 := Fr.nil n0
  have pre0 : ∀ t, Steps p.tables e below (s₁.setTop (mkF m 0 #[.val (.ref b)] [])) t → Steps p.tables e below (s₁.setTop (entryFrame m #[(.ref b)] 1)) t := fun t k => castTop (own_ef_own_top_2 m) k
  obtain ⟨T1, X1, e1, st1⟩ := getF X0 hx hZ hown (host := "") (Or.inl (hw _ (List.mem_of_getElem? (i := 36) rfl))) Via.refl e0 F2 (g := (mkF m 1 #[.val (.ref b)] [(.ref b)])) rfl rfl (hb hby own_d_prog_40_method_10_code_1)
  have ch2 : ∀ t, Steps p.tables e below (T1.setTop (mkF m 4 #[.val (.ref b)] [(.int (2 : Int32))])) t → Steps p.tables e below (s₁.setTop (entryFrame m #[(.ref b)] 1)) t := fun t k => pre0 t (by
      show Steps p.tables e below (s₁.setTop (mkF m 0 #[.val (.ref b)] [])) t
      refine XS.aloadN X0.here hx rfl (hb hby own_d_prog_40_method_10_code_0) rfl rfl ?_
      show Steps p.tables e below (s₁.setTop (mkF m 1 #[.val (.ref b)] [(.ref b)])) t
      exact st1 t k)
  obtain ⟨T3, X3, e3, st3⟩ := getF X1 hx hZ hown (host := "") (Or.inl (hw _ (List.mem_of_getElem? (i := 14) rfl))) Via.refl e1 F1 (g := (mkF m 12 #[.val (.ref b)] [(.ref b)])) rfl rfl (hb hby own_d_prog_40_method_10_code_12)
  have ch4 : ∀ t, Steps p.tables e below (T3.setTop (mkF m 15 #[.val (.ref b)] [(.ref dd)])) t → Steps p.tables e below (s₁.setTop (entryFrame m #[(.ref b)] 1)) t := fun t k => ch2 t (by
      show Steps p.tables e below (T1.setTop (mkF m 4 #[.val (.ref b)] [(.int (2 : Int32))])) t
      refine XS.ifYes X1.here hx rfl (pc0 := 4) (pc' := 11) rfl (hb hby own_d_prog_40_method_10_code_4) rfl ((if0 _ _).trans (feq (by decide : ¬ (2 : Int32) = (0 : Int32))).2) (by decide) (by decide) ?_
      show Steps p.tables e below (T1.setTop (mkF m 11 #[.val (.ref b)] [])) t
      refine XS.aloadN X1.here hx rfl (hb hby own_d_prog_40_method_10_code_11) rfl rfl ?_
      show Steps p.tables e below (T1.setTop (mkF m 12 #[.val (.ref b)] [(.ref b)])) t
      exact st3 t k)
  obtain ⟨T5, X5, e5, st5⟩ := getF X3 hx hZ hown (host := "") (Or.inl (hw _ (List.mem_of_getElem? (i := 36) rfl))) Via.refl e3 F2 (g := (mkF m 16 #[.val (.ref b)] [(.ref b), (.ref dd)])) rfl rfl (hb hby own_d_prog_40_method_10_code_16)
  have ch6 : ∀ t, Steps p.tables e below (T5.setTop (mkF m 19 #[.val (.ref b)] [(.int (2 : Int32)), (.ref dd)])) t → Steps p.tables e below (s₁.setTop (entryFrame m #[(.ref b)] 1)) t := fun t k => ch4 t (by
      show Steps p.tables e below (T3.setTop (mkF m 15 #[.val (.ref b)] [(.ref dd)])) t
      refine XS.aloadN X3.here hx rfl (hb hby own_d_prog_40_method_10_code_15) rfl rfl ?_
      show Steps p.tables e below (T3.setTop (mkF m 16 #[.val (.ref b)] [(.ref b), (.ref dd)])) t
      exact st5 t k)
  obtain ⟨cl7, Ar7, -, Sz7, Ng7, Ha7, -⟩ := id V0
  have hin7 : ¬ ((1 : Int32) < 0 ∨ cl7.slots.size ≤ ((1 : Int32)).toNatClampNeg) := inb_of Sz7 (by decide)
  have hat7 : cl7.slots[((1 : Int32)).toNatClampNeg]? = some (.ref c1) := Ha7.at hin7 rfl
  have ch8 : ∀ t, Steps p.tables e below (T5.setTop (mkF m 22 #[.val (.ref b)] [(.ref c1)])) t → Steps p.tables e below (s₁.setTop (entryFrame m #[(.ref b)] 1)) t := fun t k => ch6 t (by
      show Steps p.tables e below (T5.setTop (mkF m 19 #[.val (.ref b)] [(.int (2 : Int32)), (.ref dd)])) t
      refine XS.iconst X5.here hx rfl (hb hby own_d_prog_40_method_10_code_19) ?_
      show Steps p.tables e below (T5.setTop (mkF m 20 #[.val (.ref b)] [(.int (1 : Int32)), (.int (2 : Int32)), (.ref dd)])) t
      refine XS.isub X5.here hx rfl (hb hby own_d_prog_40_method_10_code_20) rfl ?_
      rw [show ((2 : Int32) - (1 : Int32)) = (1 : Int32) from by decide]
      show Steps p.tables e below (T5.setTop (mkF m 21 #[.val (.ref b)] [(.int (1 : Int32)), (.ref dd)])) t
      refine X5.aaload hx (j := (1 : Int32)) (v := (.ref c1)) (by rw [e5]; exact Ar7.1) (State.isArrayOf_alike hZ.alike Ar7.2.1) rfl Ar7.2.2 hin7 hat7 (g := (mkF m 21 #[.val (.ref b)] [(.int (1 : Int32)), (.ref dd)])) rfl rfl (hb hby own_d_prog_40_method_10_code_21) _ ?_
      exact k)
  obtain ⟨fs, hr, hrun, hended, hW, hsame⟩ := X5.leave (v := some (.ref c1)) (fun h => by rw [Bd.returns] at h; cases h)
  refine ⟨_, _, ch8 _ ?_, hrun, hended, _, _, rfl, ?_, ⟨_, rfl⟩, hW, hsame.mono (by decide) (by decide)⟩
  · show Steps p.tables e below (T5.setTop (mkF m 22 #[.val (.ref b)] [(.ref c1)])) _
    jvm_step X5.here [X5.here.top, hx, (hb hby own_d_prog_40_method_10_code_22), X5.method', Bd.returns, Value.isRef, FieldType.isReference]
    first | (intro acts; rw [hr _ acts rfl rfl rfl]) | rw [hr _ _ rfl rfl rfl]
    exact Steps.refl _
  · show QV (some (.ref c1)) h0 n0 _ T5.heap _
    rw [e5]
    exact ⟨rfl, N0, rfl⟩
theorem own_ef_own_emp_2 (m : MethodId) {x0 : Addr} : entryFrame m #[(.ref x0)] 1 = mkF m 0 #[.val (.ref x0)] [] := by first | (simp [entryFrame, mkF, argsToLocals, Value.category, maxLocals]; done) | rfl
set_option maxRecDepth 65536 in
set_option maxHeartbeats 40000000 in
theorem own_emp_2 (l : Launch) (Z : State) (a0 : Array Value) (hw : ∀ d ∈ tables_1, d.before a0 Z = true) (ws : List Jvm.Cond) (h0 : Heap) (n0 : Nat) (Z0 : n0 ≤ h0.size) (b dd : Addr) (kd : ClassId) (c0 c1 : Addr) (E : Exa Z h0 b "com/example/baraja/baraja/games/sabacckessel/FamilyCards") (F1 : Fld Z h0 b "com/example/baraja/baraja/games/sabacckessel/FamilyCards" "discards" "[Lcom/example/baraja/baraja/games/sabacckessel/Card;" (.ref dd)) (F2 : Fld Z h0 b "com/example/baraja/baraja/games/sabacckessel/FamilyCards" "discardCount" "I" (.int (2 : Int32))) (V0 : Arv Z h0 dd kd (.object "com/example/baraja/baraja/games/sabacckessel/Card") (22 : Int32) [(.ref c0), (.ref c1), .null, .null, .null, .null, .null, .null, .null, .null, .null, .null, .null, .null, .null, .null, .null, .null, .null, .null, .null, .null] .null) (O : Ovr Z kd "com/example/baraja/baraja/games/sabacckessel/Card") (g1 : n0 ≤ b) (g2 : n0 ≤ dd) (ne : b ≠ dd) :
    MetFree l (⟨"com/example/baraja/baraja/games/sabacckessel/FamilyCards", "discardsAreEmpty", "()Z"⟩ : MethodName) (head1 (Jvm.Cond.code (⟨"com/example/baraja/baraja/games/sabacckessel/FamilyCards", "discardsAreEmpty", "()Z"⟩ : MethodName) prog_40_method_7_code 1 (some .boolean) :: ws) ({ frames := 0, cells := 0, slots := 0, locals := 0 } : Room)) (fun a U => a = #[(.ref b)] ∧ Z.Warmed39 U.vm ∧ U.heap = h0) (fun _ _ _ _ _ => True) (fun _ U o U' => ∃ v L, o = .returned v ∧ QV (some (.int (0 : Int32))) h0 n0 v U'.heap L ∧ FrameEnd U o U' L ({ frames := 0, cells := 0, slots := 0, locals := 0 } : Room).cells ({ frames := 0, cells := 0, slots := 0, locals := 0 } : Room).slots) := by
  refine MetFree.of_bodySF (plainFor_of_name own_pn_com_example_baraja_baraja_games_sabacckessel_FamilyCards) hisR ?_
  intro p e s m args below meth c s₁ Bd hml0 hP hK
  obtain ⟨rfl, hZ, hh⟩ := hP
  have hx := Bd.exec
  have hby := Bd.bytes
  have hml : c.maxLocals = 1 := hml0
  have hown : s.vm.findClass "com/example/baraja/baraja/games/sabacckessel/FamilyCards" = some m.cls := findClass_of_methodNamed Bd.named
  have hnm := (name_of_methodNamed Bd.named Bd.method).1
  have X0 : Stand p l e ({ frames := 0, cells := 0, slots := 0, locals := 0 } : Room) s m #[(.ref b)] below meth c s₁ [] 0 0 := Stand.of_body Bd
  have e0 : s₁.heap = h0 := by rw [← hh, Bd.state]; rfl
  have N0 := Fr.nil n0
  have pre0 : ∀ t, Steps p.tables e below (s₁.setTop (mkF m 0 #[.val (.ref b)] [])) t → Steps p.tables e below (s₁.setTop (entryFrame m #[(.ref b)] 1)) t := fun t k => castTop (own_ef_own_emp_2 m) k
  obtain ⟨T1, X1, e1, st1⟩ := getF X0 hx hZ hown (host := "") (Or.inl (hw _ (List.mem_of_getElem? (i := 36) rfl))) Via.refl e0 F2 (g := (mkF m 1 #[.val (.ref b)] [(.ref b)])) rfl rfl (hb hby own_d_prog_40_method_7_code_1)
  have ch2 : ∀ t, Steps p.tables e below (T1.setTop (mkF m 4 #[.val (.ref b)] [(.int (2 : Int32))])) t → Steps p.tables e below (s₁.setTop (entryFrame m #[(.ref b)] 1)) t := fun t k => pre0 t (by
      show Steps p.tables e below (s₁.setTop (mkF m 0 #[.val (.ref b)] [])) t
      refine XS.aloadN X0.here hx rfl (hb hby own_d_prog_40_method_7_code_0) rfl rfl ?_
      show Steps p.tables e below (s₁.setTop (mkF m 1 #[.val (.ref b)] [(.ref b)])) t
      exact st1 t k)
  have ch3 : ∀ t, Steps p.tables e below (T1.setTop (mkF m 12 #[.val (.ref b)] [(.int (0 : Int32))])) t → Steps p.tables e below (s₁.setTop (entryFrame m #[(.ref b)] 1)) t := fun t k => ch2 t (by
      show Steps p.tables e below (T1.setTop (mkF m 4 #[.val (.ref b)] [(.int (2 : Int32))])) t
      refine XS.ifYes X1.here hx rfl (pc0 := 4) (pc' := 11) rfl (hb hby own_d_prog_40_method_7_code_4) rfl ((if0 _ _).trans (feq (by decide : ¬ (2 : Int32) = (0 : Int32))).2) (by decide) (by decide) ?_
      show Steps p.tables e below (T1.setTop (mkF m 11 #[.val (.ref b)] [])) t
      refine XS.iconst X1.here hx rfl (hb hby own_d_prog_40_method_7_code_11) ?_
      exact k)
  obtain ⟨fs, hr, hrun, hended, hW, hsame⟩ := X1.leave (v := some (.int (0 : Int32))) (fun h => by rw [Bd.returns] at h; cases h)
  refine ⟨_, _, ch3 _ ?_, hrun, hended, _, _, rfl, ?_, ⟨_, rfl⟩, hW, hsame.mono (by decide) (by decide)⟩
  · show Steps p.tables e below (T1.setTop (mkF m 12 #[.val (.ref b)] [(.int (0 : Int32))])) _
    exact retN X1 hx (t := .boolean) Bd.returns (by simp) (hb hby own_d_prog_40_method_7_code_12) hr
  · show QV (some (.int (0 : Int32))) h0 n0 _ T1.heap _
    rw [e1]
    exact ⟨rfl, N0, rfl⟩
theorem own_ef_own_of_0 (m : MethodId) {x0 : Int32} : entryFrame m #[(.int x0)] 1 = mkF m 0 #[.val (.int x0)] [] := by first | (simp [entryFrame, mkF, argsToLocals, Value.category, maxLocals]; done) | rfl
set_option maxRecDepth 65536 in
set_option maxHeartbeats 40000000 in
theorem own_of_0 (l : Launch) (Z : State) (a0 : Array Value) (hw : ∀ d ∈ tables_1, d.before a0 Z = true) (ws : List Jvm.Cond) (h0 : Heap) (n0 : Nat) (Z0 : n0 ≤ h0.size) (ad : Nat → Addr) (a_EVERY_CARD : Addr) (k_EVERY_CARD : ClassId) (W : OwnWd Z h0 ad a_EVERY_CARD k_EVERY_CARD) :
    MetFree l (⟨"com/example/baraja/baraja/games/sabacckessel/Card", "of", "(I)Lcom/example/baraja/baraja/games/sabacckessel/Card;"⟩ : MethodName) (head1 (Jvm.Cond.code (⟨"com/example/baraja/baraja/games/sabacckessel/Card", "of", "(I)Lcom/example/baraja/baraja/games/sabacckessel/Card;"⟩ : MethodName) prog_38_method_8_code 1 (some (.object "com/example/baraja/baraja/games/sabacckessel/Card")) :: ws) ({ frames := 0, cells := 0, slots := 0, locals := 0 } : Room)) (fun a U => a = #[(.int (0 : Int32))] ∧ Z.Warmed39 U.vm ∧ U.heap = h0) (fun _ _ _ _ _ => True) (fun _ U o U' => ∃ v L, o = .returned v ∧ QV (some (.ref (ad 6))) h0 n0 v U'.heap L ∧ FrameEnd U o U' L ({ frames := 0, cells := 0, slots := 0, locals := 0 } : Room).cells ({ frames := 0, cells := 0, slots := 0, locals := 0 } : Room).slots) := by
  refine MetFree.of_bodySF (plainFor_of_name own_pn_com_example_baraja_baraja_games_sabacckessel_Card) hisR ?_
  intro p e s m args below meth c s₁ Bd hml0 hP hK
  obtain ⟨rfl, hZ, hh⟩ := hP
  have hx := Bd.exec
  have hby := Bd.bytes
  have hml : c.maxLocals = 1 := hml0
  have hown : s.vm.findClass "com/example/baraja/baraja/games/sabacckessel/Card" = some m.cls := findClass_of_methodNamed Bd.named
  have hnm := (name_of_methodNamed Bd.named Bd.method).1
  have X0 : Stand p l e ({ frames := 0, cells := 0, slots := 0, locals := 0 } : Room) s m #[(.int (0 : Int32))] below meth c s₁ [] 0 0 := Stand.of_body Bd
  have e0 : s₁.heap = h0 := by rw [← hh, Bd.state]; rfl
  have N0 := Fr.nil n0
  have pre0 : ∀ t, Steps p.tables e below (s₁.setTop (mkF m 0 #[.val (.int (0 : Int32))] [])) t → Steps p.tables e below (s₁.setTop (entryFrame m #[(.int (0 : Int32))] 1)) t := fun t k => castTop (own_ef_own_of_0 m) k
  obtain ⟨T1, X1, e1, st1⟩ := getS2 X0 hx hZ hown (host := "") (Or.inl (hw _ (List.mem_of_getElem? (i := 25) rfl))) Via.refl e0 (own_S_EVERY_CARD W) (g := (mkF m 0 #[.val (.int (0 : Int32))] [])) rfl (hb hby own_d_prog_38_method_8_code_0)
  have ch2 : ∀ t, Steps p.tables e below (T1.setTop (mkF m 3 #[.val (.int (0 : Int32))] [(.ref a_EVERY_CARD)])) t → Steps p.tables e below (s₁.setTop (entryFrame m #[(.int (0 : Int32))] 1)) t := fun t k => pre0 t (by
      show Steps p.tables e below (s₁.setTop (mkF m 0 #[.val (.int (0 : Int32))] [])) t
      exact st1 t k)
  obtain ⟨cl3, Ar3, -, Sz3, Ng3, Ha3, -⟩ := id (own_V_EVERY_CARD W)
  have hin3 : ¬ ((0 : Int32) < 0 ∨ cl3.slots.size ≤ ((0 : Int32)).toNatClampNeg) := inb_of Sz3 (by decide)
  have hat3 : cl3.slots[((0 : Int32)).toNatClampNeg]? = some (.ref (ad 6)) := Ha3.at hin3 rfl
  have ch4 : ∀ t, Steps p.tables e below (T1.setTop (mkF m 5 #[.val (.int (0 : Int32))] [(.ref (ad 6))])) t → Steps p.tables e below (s₁.setTop (entryFrame m #[(.int (0 : Int32))] 1)) t := fun t k => ch2 t (by
      show Steps p.tables e below (T1.setTop (mkF m 3 #[.val (.int (0 : Int32))] [(.ref a_EVERY_CARD)])) t
      refine XS.iloadN X1.here hx rfl (hb hby own_d_prog_38_method_8_code_3) rfl ?_
      show Steps p.tables e below (T1.setTop (mkF m 4 #[.val (.int (0 : Int32))] [(.int (0 : Int32)), (.ref a_EVERY_CARD)])) t
      refine X1.aaload hx (j := (0 : Int32)) (v := (.ref (ad 6))) (by rw [e1]; exact Ar3.1) (State.isArrayOf_alike hZ.alike Ar3.2.1) rfl Ar3.2.2 hin3 hat3 (g := (mkF m 4 #[.val (.int (0 : Int32))] [(.int (0 : Int32)), (.ref a_EVERY_CARD)])) rfl rfl (hb hby own_d_prog_38_method_8_code_4) _ ?_
      exact k)
  obtain ⟨fs, hr, hrun, hended, hW, hsame⟩ := X1.leave (v := some (.ref (ad 6))) (fun h => by rw [Bd.returns] at h; cases h)
  refine ⟨_, _, ch4 _ ?_, hrun, hended, _, _, rfl, ?_, ⟨_, rfl⟩, hW, hsame.mono (by decide) (by decide)⟩
  · show Steps p.tables e below (T1.setTop (mkF m 5 #[.val (.int (0 : Int32))] [(.ref (ad 6))])) _
    jvm_step X1.here [X1.here.top, hx, (hb hby own_d_prog_38_method_8_code_5), X1.method', Bd.returns, Value.isRef, FieldType.isReference]
    first | (intro acts; rw [hr _ acts rfl rfl rfl]) | rw [hr _ _ rfl rfl rfl]
    exact Steps.refl _
  · show QV (some (.ref (ad 6))) h0 n0 _ T1.heap _
    rw [e1]
    exact ⟨rfl, N0, rfl⟩
theorem own_ef_own_of_1 (m : MethodId) {x0 : Int32} : entryFrame m #[(.int x0)] 1 = mkF m 0 #[.val (.int x0)] [] := by first | (simp [entryFrame, mkF, argsToLocals, Value.category, maxLocals]; done) | rfl
set_option maxRecDepth 65536 in
set_option maxHeartbeats 40000000 in
theorem own_of_1 (l : Launch) (Z : State) (a0 : Array Value) (hw : ∀ d ∈ tables_1, d.before a0 Z = true) (ws : List Jvm.Cond) (h0 : Heap) (n0 : Nat) (Z0 : n0 ≤ h0.size) (ad : Nat → Addr) (a_EVERY_CARD : Addr) (k_EVERY_CARD : ClassId) (W : OwnWd Z h0 ad a_EVERY_CARD k_EVERY_CARD) :
    MetFree l (⟨"com/example/baraja/baraja/games/sabacckessel/Card", "of", "(I)Lcom/example/baraja/baraja/games/sabacckessel/Card;"⟩ : MethodName) (head1 (Jvm.Cond.code (⟨"com/example/baraja/baraja/games/sabacckessel/Card", "of", "(I)Lcom/example/baraja/baraja/games/sabacckessel/Card;"⟩ : MethodName) prog_38_method_8_code 1 (some (.object "com/example/baraja/baraja/games/sabacckessel/Card")) :: ws) ({ frames := 0, cells := 0, slots := 0, locals := 0 } : Room)) (fun a U => a = #[(.int (1 : Int32))] ∧ Z.Warmed39 U.vm ∧ U.heap = h0) (fun _ _ _ _ _ => True) (fun _ U o U' => ∃ v L, o = .returned v ∧ QV (some (.ref (ad 2))) h0 n0 v U'.heap L ∧ FrameEnd U o U' L ({ frames := 0, cells := 0, slots := 0, locals := 0 } : Room).cells ({ frames := 0, cells := 0, slots := 0, locals := 0 } : Room).slots) := by
  refine MetFree.of_bodySF (plainFor_of_name own_pn_com_example_baraja_baraja_games_sabacckessel_Card) hisR ?_
  intro p e s m args below meth c s₁ Bd hml0 hP hK
  obtain ⟨rfl, hZ, hh⟩ := hP
  have hx := Bd.exec
  have hby := Bd.bytes
  have hml : c.maxLocals = 1 := hml0
  have hown : s.vm.findClass "com/example/baraja/baraja/games/sabacckessel/Card" = some m.cls := findClass_of_methodNamed Bd.named
  have hnm := (name_of_methodNamed Bd.named Bd.method).1
  have X0 : Stand p l e ({ frames := 0, cells := 0, slots := 0, locals := 0 } : Room) s m #[(.int (1 : Int32))] below meth c s₁ [] 0 0 := Stand.of_body Bd
  have e0 : s₁.heap = h0 := by rw [← hh, Bd.state]; rfl
  have N0 := Fr.nil n0
  have pre0 : ∀ t, Steps p.tables e below (s₁.setTop (mkF m 0 #[.val (.int (1 : Int32))] [])) t → Steps p.tables e below (s₁.setTop (entryFrame m #[(.int (1 : Int32))] 1)) t := fun t k => castTop (own_ef_own_of_1 m) k
  obtain ⟨T1, X1, e1, st1⟩ := getS2 X0 hx hZ hown (host := "") (Or.inl (hw _ (List.mem_of_getElem? (i := 25) rfl))) Via.refl e0 (own_S_EVERY_CARD W) (g := (mkF m 0 #[.val (.int (1 : Int32))] [])) rfl (hb hby own_d_prog_38_method_8_code_0)
  have ch2 : ∀ t, Steps p.tables e below (T1.setTop (mkF m 3 #[.val (.int (1 : Int32))] [(.ref a_EVERY_CARD)])) t → Steps p.tables e below (s₁.setTop (entryFrame m #[(.int (1 : Int32))] 1)) t := fun t k => pre0 t (by
      show Steps p.tables e below (s₁.setTop (mkF m 0 #[.val (.int (1 : Int32))] [])) t
      exact st1 t k)
  obtain ⟨cl3, Ar3, -, Sz3, Ng3, Ha3, -⟩ := id (own_V_EVERY_CARD W)
  have hin3 : ¬ ((1 : Int32) < 0 ∨ cl3.slots.size ≤ ((1 : Int32)).toNatClampNeg) := inb_of Sz3 (by decide)
  have hat3 : cl3.slots[((1 : Int32)).toNatClampNeg]? = some (.ref (ad 2)) := Ha3.at hin3 rfl
  have ch4 : ∀ t, Steps p.tables e below (T1.setTop (mkF m 5 #[.val (.int (1 : Int32))] [(.ref (ad 2))])) t → Steps p.tables e below (s₁.setTop (entryFrame m #[(.int (1 : Int32))] 1)) t := fun t k => ch2 t (by
      show Steps p.tables e below (T1.setTop (mkF m 3 #[.val (.int (1 : Int32))] [(.ref a_EVERY_CARD)])) t
      refine XS.iloadN X1.here hx rfl (hb hby own_d_prog_38_method_8_code_3) rfl ?_
      show Steps p.tables e below (T1.setTop (mkF m 4 #[.val (.int (1 : Int32))] [(.int (1 : Int32)), (.ref a_EVERY_CARD)])) t
      refine X1.aaload hx (j := (1 : Int32)) (v := (.ref (ad 2))) (by rw [e1]; exact Ar3.1) (State.isArrayOf_alike hZ.alike Ar3.2.1) rfl Ar3.2.2 hin3 hat3 (g := (mkF m 4 #[.val (.int (1 : Int32))] [(.int (1 : Int32)), (.ref a_EVERY_CARD)])) rfl rfl (hb hby own_d_prog_38_method_8_code_4) _ ?_
      exact k)
  obtain ⟨fs, hr, hrun, hended, hW, hsame⟩ := X1.leave (v := some (.ref (ad 2))) (fun h => by rw [Bd.returns] at h; cases h)
  refine ⟨_, _, ch4 _ ?_, hrun, hended, _, _, rfl, ?_, ⟨_, rfl⟩, hW, hsame.mono (by decide) (by decide)⟩
  · show Steps p.tables e below (T1.setTop (mkF m 5 #[.val (.int (1 : Int32))] [(.ref (ad 2))])) _
    jvm_step X1.here [X1.here.top, hx, (hb hby own_d_prog_38_method_8_code_5), X1.method', Bd.returns, Value.isRef, FieldType.isReference]
    first | (intro acts; rw [hr _ acts rfl rfl rfl]) | rw [hr _ _ rfl rfl rfl]
    exact Steps.refl _
  · show QV (some (.ref (ad 2))) h0 n0 _ T1.heap _
    rw [e1]
    exact ⟨rfl, N0, rfl⟩
theorem own_ef_own_of_2 (m : MethodId) {x0 : Int32} : entryFrame m #[(.int x0)] 1 = mkF m 0 #[.val (.int x0)] [] := by first | (simp [entryFrame, mkF, argsToLocals, Value.category, maxLocals]; done) | rfl
set_option maxRecDepth 65536 in
set_option maxHeartbeats 40000000 in
theorem own_of_2 (l : Launch) (Z : State) (a0 : Array Value) (hw : ∀ d ∈ tables_1, d.before a0 Z = true) (ws : List Jvm.Cond) (h0 : Heap) (n0 : Nat) (Z0 : n0 ≤ h0.size) (ad : Nat → Addr) (a_EVERY_CARD : Addr) (k_EVERY_CARD : ClassId) (W : OwnWd Z h0 ad a_EVERY_CARD k_EVERY_CARD) :
    MetFree l (⟨"com/example/baraja/baraja/games/sabacckessel/Card", "of", "(I)Lcom/example/baraja/baraja/games/sabacckessel/Card;"⟩ : MethodName) (head1 (Jvm.Cond.code (⟨"com/example/baraja/baraja/games/sabacckessel/Card", "of", "(I)Lcom/example/baraja/baraja/games/sabacckessel/Card;"⟩ : MethodName) prog_38_method_8_code 1 (some (.object "com/example/baraja/baraja/games/sabacckessel/Card")) :: ws) ({ frames := 0, cells := 0, slots := 0, locals := 0 } : Room)) (fun a U => a = #[(.int (2 : Int32))] ∧ Z.Warmed39 U.vm ∧ U.heap = h0) (fun _ _ _ _ _ => True) (fun _ U o U' => ∃ v L, o = .returned v ∧ QV (some (.ref (ad 1))) h0 n0 v U'.heap L ∧ FrameEnd U o U' L ({ frames := 0, cells := 0, slots := 0, locals := 0 } : Room).cells ({ frames := 0, cells := 0, slots := 0, locals := 0 } : Room).slots) := by
  refine MetFree.of_bodySF (plainFor_of_name own_pn_com_example_baraja_baraja_games_sabacckessel_Card) hisR ?_
  intro p e s m args below meth c s₁ Bd hml0 hP hK
  obtain ⟨rfl, hZ, hh⟩ := hP
  have hx := Bd.exec
  have hby := Bd.bytes
  have hml : c.maxLocals = 1 := hml0
  have hown : s.vm.findClass "com/example/baraja/baraja/games/sabacckessel/Card" = some m.cls := findClass_of_methodNamed Bd.named
  have hnm := (name_of_methodNamed Bd.named Bd.method).1
  have X0 : Stand p l e ({ frames := 0, cells := 0, slots := 0, locals := 0 } : Room) s m #[(.int (2 : Int32))] below meth c s₁ [] 0 0 := Stand.of_body Bd
  have e0 : s₁.heap = h0 := by rw [← hh, Bd.state]; rfl
  have N0 := Fr.nil n0
  have pre0 : ∀ t, Steps p.tables e below (s₁.setTop (mkF m 0 #[.val (.int (2 : Int32))] [])) t → Steps p.tables e below (s₁.setTop (entryFrame m #[(.int (2 : Int32))] 1)) t := fun t k => castTop (own_ef_own_of_2 m) k
  obtain ⟨T1, X1, e1, st1⟩ := getS2 X0 hx hZ hown (host := "") (Or.inl (hw _ (List.mem_of_getElem? (i := 25) rfl))) Via.refl e0 (own_S_EVERY_CARD W) (g := (mkF m 0 #[.val (.int (2 : Int32))] [])) rfl (hb hby own_d_prog_38_method_8_code_0)
  have ch2 : ∀ t, Steps p.tables e below (T1.setTop (mkF m 3 #[.val (.int (2 : Int32))] [(.ref a_EVERY_CARD)])) t → Steps p.tables e below (s₁.setTop (entryFrame m #[(.int (2 : Int32))] 1)) t := fun t k => pre0 t (by
      show Steps p.tables e below (s₁.setTop (mkF m 0 #[.val (.int (2 : Int32))] [])) t
      exact st1 t k)
  obtain ⟨cl3, Ar3, -, Sz3, Ng3, Ha3, -⟩ := id (own_V_EVERY_CARD W)
  have hin3 : ¬ ((2 : Int32) < 0 ∨ cl3.slots.size ≤ ((2 : Int32)).toNatClampNeg) := inb_of Sz3 (by decide)
  have hat3 : cl3.slots[((2 : Int32)).toNatClampNeg]? = some (.ref (ad 1)) := Ha3.at hin3 rfl
  have ch4 : ∀ t, Steps p.tables e below (T1.setTop (mkF m 5 #[.val (.int (2 : Int32))] [(.ref (ad 1))])) t → Steps p.tables e below (s₁.setTop (entryFrame m #[(.int (2 : Int32))] 1)) t := fun t k => ch2 t (by
      show Steps p.tables e below (T1.setTop (mkF m 3 #[.val (.int (2 : Int32))] [(.ref a_EVERY_CARD)])) t
      refine XS.iloadN X1.here hx rfl (hb hby own_d_prog_38_method_8_code_3) rfl ?_
      show Steps p.tables e below (T1.setTop (mkF m 4 #[.val (.int (2 : Int32))] [(.int (2 : Int32)), (.ref a_EVERY_CARD)])) t
      refine X1.aaload hx (j := (2 : Int32)) (v := (.ref (ad 1))) (by rw [e1]; exact Ar3.1) (State.isArrayOf_alike hZ.alike Ar3.2.1) rfl Ar3.2.2 hin3 hat3 (g := (mkF m 4 #[.val (.int (2 : Int32))] [(.int (2 : Int32)), (.ref a_EVERY_CARD)])) rfl rfl (hb hby own_d_prog_38_method_8_code_4) _ ?_
      exact k)
  obtain ⟨fs, hr, hrun, hended, hW, hsame⟩ := X1.leave (v := some (.ref (ad 1))) (fun h => by rw [Bd.returns] at h; cases h)
  refine ⟨_, _, ch4 _ ?_, hrun, hended, _, _, rfl, ?_, ⟨_, rfl⟩, hW, hsame.mono (by decide) (by decide)⟩
  · show Steps p.tables e below (T1.setTop (mkF m 5 #[.val (.int (2 : Int32))] [(.ref (ad 1))])) _
    jvm_step X1.here [X1.here.top, hx, (hb hby own_d_prog_38_method_8_code_5), X1.method', Bd.returns, Value.isRef, FieldType.isReference]
    first | (intro acts; rw [hr _ acts rfl rfl rfl]) | rw [hr _ _ rfl rfl rfl]
    exact Steps.refl _
  · show QV (some (.ref (ad 1))) h0 n0 _ T1.heap _
    rw [e1]
    exact ⟨rfl, N0, rfl⟩
theorem own_ef_own_of_3 (m : MethodId) {x0 : Int32} : entryFrame m #[(.int x0)] 1 = mkF m 0 #[.val (.int x0)] [] := by first | (simp [entryFrame, mkF, argsToLocals, Value.category, maxLocals]; done) | rfl
set_option maxRecDepth 65536 in
set_option maxHeartbeats 40000000 in
theorem own_of_3 (l : Launch) (Z : State) (a0 : Array Value) (hw : ∀ d ∈ tables_1, d.before a0 Z = true) (ws : List Jvm.Cond) (h0 : Heap) (n0 : Nat) (Z0 : n0 ≤ h0.size) (ad : Nat → Addr) (a_EVERY_CARD : Addr) (k_EVERY_CARD : ClassId) (W : OwnWd Z h0 ad a_EVERY_CARD k_EVERY_CARD) :
    MetFree l (⟨"com/example/baraja/baraja/games/sabacckessel/Card", "of", "(I)Lcom/example/baraja/baraja/games/sabacckessel/Card;"⟩ : MethodName) (head1 (Jvm.Cond.code (⟨"com/example/baraja/baraja/games/sabacckessel/Card", "of", "(I)Lcom/example/baraja/baraja/games/sabacckessel/Card;"⟩ : MethodName) prog_38_method_8_code 1 (some (.object "com/example/baraja/baraja/games/sabacckessel/Card")) :: ws) ({ frames := 0, cells := 0, slots := 0, locals := 0 } : Room)) (fun a U => a = #[(.int (3 : Int32))] ∧ Z.Warmed39 U.vm ∧ U.heap = h0) (fun _ _ _ _ _ => True) (fun _ U o U' => ∃ v L, o = .returned v ∧ QV (some (.ref (ad 0))) h0 n0 v U'.heap L ∧ FrameEnd U o U' L ({ frames := 0, cells := 0, slots := 0, locals := 0 } : Room).cells ({ frames := 0, cells := 0, slots := 0, locals := 0 } : Room).slots) := by
  refine MetFree.of_bodySF (plainFor_of_name own_pn_com_example_baraja_baraja_games_sabacckessel_Card) hisR ?_
  intro p e s m args below meth c s₁ Bd hml0 hP hK
  obtain ⟨rfl, hZ, hh⟩ := hP
  have hx := Bd.exec
  have hby := Bd.bytes
  have hml : c.maxLocals = 1 := hml0
  have hown : s.vm.findClass "com/example/baraja/baraja/games/sabacckessel/Card" = some m.cls := findClass_of_methodNamed Bd.named
  have hnm := (name_of_methodNamed Bd.named Bd.method).1
  have X0 : Stand p l e ({ frames := 0, cells := 0, slots := 0, locals := 0 } : Room) s m #[(.int (3 : Int32))] below meth c s₁ [] 0 0 := Stand.of_body Bd
  have e0 : s₁.heap = h0 := by rw [← hh, Bd.state]; rfl
  have N0 := Fr.nil n0
  have pre0 : ∀ t, Steps p.tables e below (s₁.setTop (mkF m 0 #[.val (.int (3 : Int32))] [])) t → Steps p.tables e below (s₁.setTop (entryFrame m #[(.int (3 : Int32))] 1)) t := fun t k => castTop (own_ef_own_of_3 m) k
  obtain ⟨T1, X1, e1, st1⟩ := getS2 X0 hx hZ hown (host := "") (Or.inl (hw _ (List.mem_of_getElem? (i := 25) rfl))) Via.refl e0 (own_S_EVERY_CARD W) (g := (mkF m 0 #[.val (.int (3 : Int32))] [])) rfl (hb hby own_d_prog_38_method_8_code_0)
  have ch2 : ∀ t, Steps p.tables e below (T1.setTop (mkF m 3 #[.val (.int (3 : Int32))] [(.ref a_EVERY_CARD)])) t → Steps p.tables e below (s₁.setTop (entryFrame m #[(.int (3 : Int32))] 1)) t := fun t k => pre0 t (by
      show Steps p.tables e below (s₁.setTop (mkF m 0 #[.val (.int (3 : Int32))] [])) t
      exact st1 t k)
  obtain ⟨cl3, Ar3, -, Sz3, Ng3, Ha3, -⟩ := id (own_V_EVERY_CARD W)
  have hin3 : ¬ ((3 : Int32) < 0 ∨ cl3.slots.size ≤ ((3 : Int32)).toNatClampNeg) := inb_of Sz3 (by decide)
  have hat3 : cl3.slots[((3 : Int32)).toNatClampNeg]? = some (.ref (ad 0)) := Ha3.at hin3 rfl
  have ch4 : ∀ t, Steps p.tables e below (T1.setTop (mkF m 5 #[.val (.int (3 : Int32))] [(.ref (ad 0))])) t → Steps p.tables e below (s₁.setTop (entryFrame m #[(.int (3 : Int32))] 1)) t := fun t k => ch2 t (by
      show Steps p.tables e below (T1.setTop (mkF m 3 #[.val (.int (3 : Int32))] [(.ref a_EVERY_CARD)])) t
      refine XS.iloadN X1.here hx rfl (hb hby own_d_prog_38_method_8_code_3) rfl ?_
      show Steps p.tables e below (T1.setTop (mkF m 4 #[.val (.int (3 : Int32))] [(.int (3 : Int32)), (.ref a_EVERY_CARD)])) t
      refine X1.aaload hx (j := (3 : Int32)) (v := (.ref (ad 0))) (by rw [e1]; exact Ar3.1) (State.isArrayOf_alike hZ.alike Ar3.2.1) rfl Ar3.2.2 hin3 hat3 (g := (mkF m 4 #[.val (.int (3 : Int32))] [(.int (3 : Int32)), (.ref a_EVERY_CARD)])) rfl rfl (hb hby own_d_prog_38_method_8_code_4) _ ?_
      exact k)
  obtain ⟨fs, hr, hrun, hended, hW, hsame⟩ := X1.leave (v := some (.ref (ad 0))) (fun h => by rw [Bd.returns] at h; cases h)
  refine ⟨_, _, ch4 _ ?_, hrun, hended, _, _, rfl, ?_, ⟨_, rfl⟩, hW, hsame.mono (by decide) (by decide)⟩
  · show Steps p.tables e below (T1.setTop (mkF m 5 #[.val (.int (3 : Int32))] [(.ref (ad 0))])) _
    jvm_step X1.here [X1.here.top, hx, (hb hby own_d_prog_38_method_8_code_5), X1.method', Bd.returns, Value.isRef, FieldType.isReference]
    first | (intro acts; rw [hr _ acts rfl rfl rfl]) | rw [hr _ _ rfl rfl rfl]
    exact Steps.refl _
  · show QV (some (.ref (ad 0))) h0 n0 _ T1.heap _
    rw [e1]
    exact ⟨rfl, N0, rfl⟩
theorem own_ef_own_of_4 (m : MethodId) {x0 : Int32} : entryFrame m #[(.int x0)] 1 = mkF m 0 #[.val (.int x0)] [] := by first | (simp [entryFrame, mkF, argsToLocals, Value.category, maxLocals]; done) | rfl
set_option maxRecDepth 65536 in
set_option maxHeartbeats 40000000 in
theorem own_of_4 (l : Launch) (Z : State) (a0 : Array Value) (hw : ∀ d ∈ tables_1, d.before a0 Z = true) (ws : List Jvm.Cond) (h0 : Heap) (n0 : Nat) (Z0 : n0 ≤ h0.size) (ad : Nat → Addr) (a_EVERY_CARD : Addr) (k_EVERY_CARD : ClassId) (W : OwnWd Z h0 ad a_EVERY_CARD k_EVERY_CARD) :
    MetFree l (⟨"com/example/baraja/baraja/games/sabacckessel/Card", "of", "(I)Lcom/example/baraja/baraja/games/sabacckessel/Card;"⟩ : MethodName) (head1 (Jvm.Cond.code (⟨"com/example/baraja/baraja/games/sabacckessel/Card", "of", "(I)Lcom/example/baraja/baraja/games/sabacckessel/Card;"⟩ : MethodName) prog_38_method_8_code 1 (some (.object "com/example/baraja/baraja/games/sabacckessel/Card")) :: ws) ({ frames := 0, cells := 0, slots := 0, locals := 0 } : Room)) (fun a U => a = #[(.int (4 : Int32))] ∧ Z.Warmed39 U.vm ∧ U.heap = h0) (fun _ _ _ _ _ => True) (fun _ U o U' => ∃ v L, o = .returned v ∧ QV (some (.ref (ad 3))) h0 n0 v U'.heap L ∧ FrameEnd U o U' L ({ frames := 0, cells := 0, slots := 0, locals := 0 } : Room).cells ({ frames := 0, cells := 0, slots := 0, locals := 0 } : Room).slots) := by
  refine MetFree.of_bodySF (plainFor_of_name own_pn_com_example_baraja_baraja_games_sabacckessel_Card) hisR ?_
  intro p e s m args below meth c s₁ Bd hml0 hP hK
  obtain ⟨rfl, hZ, hh⟩ := hP
  have hx := Bd.exec
  have hby := Bd.bytes
  have hml : c.maxLocals = 1 := hml0
  have hown : s.vm.findClass "com/example/baraja/baraja/games/sabacckessel/Card" = some m.cls := findClass_of_methodNamed Bd.named
  have hnm := (name_of_methodNamed Bd.named Bd.method).1
  have X0 : Stand p l e ({ frames := 0, cells := 0, slots := 0, locals := 0 } : Room) s m #[(.int (4 : Int32))] below meth c s₁ [] 0 0 := Stand.of_body Bd
  have e0 : s₁.heap = h0 := by rw [← hh, Bd.state]; rfl
  have N0 := Fr.nil n0
  have pre0 : ∀ t, Steps p.tables e below (s₁.setTop (mkF m 0 #[.val (.int (4 : Int32))] [])) t → Steps p.tables e below (s₁.setTop (entryFrame m #[(.int (4 : Int32))] 1)) t := fun t k => castTop (own_ef_own_of_4 m) k
  obtain ⟨T1, X1, e1, st1⟩ := getS2 X0 hx hZ hown (host := "") (Or.inl (hw _ (List.mem_of_getElem? (i := 25) rfl))) Via.refl e0 (own_S_EVERY_CARD W) (g := (mkF m 0 #[.val (.int (4 : Int32))] [])) rfl (hb hby own_d_prog_38_method_8_code_0)
  have ch2 : ∀ t, Steps p.tables e below (T1.setTop (mkF m 3 #[.val (.int (4 : Int32))] [(.ref a_EVERY_CARD)])) t → Steps p.tables e below (s₁.setTop (entryFrame m #[(.int (4 : Int32))] 1)) t := fun t k => pre0 t (by
      show Steps p.tables e below (s₁.setTop (mkF m 0 #[.val (.int (4 : Int32))] [])) t
      exact st1 t k)
  obtain ⟨cl3, Ar3, -, Sz3, Ng3, Ha3, -⟩ := id (own_V_EVERY_CARD W)
  have hin3 : ¬ ((4 : Int32) < 0 ∨ cl3.slots.size ≤ ((4 : Int32)).toNatClampNeg) := inb_of Sz3 (by decide)
  have hat3 : cl3.slots[((4 : Int32)).toNatClampNeg]? = some (.ref (ad 3)) := Ha3.at hin3 rfl
  have ch4 : ∀ t, Steps p.tables e below (T1.setTop (mkF m 5 #[.val (.int (4 : Int32))] [(.ref (ad 3))])) t → Steps p.tables e below (s₁.setTop (entryFrame m #[(.int (4 : Int32))] 1)) t := fun t k => ch2 t (by
      show Steps p.tables e below (T1.setTop (mkF m 3 #[.val (.int (4 : Int32))] [(.ref a_EVERY_CARD)])) t
      refine XS.iloadN X1.here hx rfl (hb hby own_d_prog_38_method_8_code_3) rfl ?_
      show Steps p.tables e below (T1.setTop (mkF m 4 #[.val (.int (4 : Int32))] [(.int (4 : Int32)), (.ref a_EVERY_CARD)])) t
      refine X1.aaload hx (j := (4 : Int32)) (v := (.ref (ad 3))) (by rw [e1]; exact Ar3.1) (State.isArrayOf_alike hZ.alike Ar3.2.1) rfl Ar3.2.2 hin3 hat3 (g := (mkF m 4 #[.val (.int (4 : Int32))] [(.int (4 : Int32)), (.ref a_EVERY_CARD)])) rfl rfl (hb hby own_d_prog_38_method_8_code_4) _ ?_
      exact k)
  obtain ⟨fs, hr, hrun, hended, hW, hsame⟩ := X1.leave (v := some (.ref (ad 3))) (fun h => by rw [Bd.returns] at h; cases h)
  refine ⟨_, _, ch4 _ ?_, hrun, hended, _, _, rfl, ?_, ⟨_, rfl⟩, hW, hsame.mono (by decide) (by decide)⟩
  · show Steps p.tables e below (T1.setTop (mkF m 5 #[.val (.int (4 : Int32))] [(.ref (ad 3))])) _
    jvm_step X1.here [X1.here.top, hx, (hb hby own_d_prog_38_method_8_code_5), X1.method', Bd.returns, Value.isRef, FieldType.isReference]
    first | (intro acts; rw [hr _ acts rfl rfl rfl]) | rw [hr _ _ rfl rfl rfl]
    exact Steps.refl _
  · show QV (some (.ref (ad 3))) h0 n0 _ T1.heap _
    rw [e1]
    exact ⟨rfl, N0, rfl⟩
theorem own_ef_own_of_5 (m : MethodId) {x0 : Int32} : entryFrame m #[(.int x0)] 1 = mkF m 0 #[.val (.int x0)] [] := by first | (simp [entryFrame, mkF, argsToLocals, Value.category, maxLocals]; done) | rfl
set_option maxRecDepth 65536 in
set_option maxHeartbeats 40000000 in
theorem own_of_5 (l : Launch) (Z : State) (a0 : Array Value) (hw : ∀ d ∈ tables_1, d.before a0 Z = true) (ws : List Jvm.Cond) (h0 : Heap) (n0 : Nat) (Z0 : n0 ≤ h0.size) (ad : Nat → Addr) (a_EVERY_CARD : Addr) (k_EVERY_CARD : ClassId) (W : OwnWd Z h0 ad a_EVERY_CARD k_EVERY_CARD) :
    MetFree l (⟨"com/example/baraja/baraja/games/sabacckessel/Card", "of", "(I)Lcom/example/baraja/baraja/games/sabacckessel/Card;"⟩ : MethodName) (head1 (Jvm.Cond.code (⟨"com/example/baraja/baraja/games/sabacckessel/Card", "of", "(I)Lcom/example/baraja/baraja/games/sabacckessel/Card;"⟩ : MethodName) prog_38_method_8_code 1 (some (.object "com/example/baraja/baraja/games/sabacckessel/Card")) :: ws) ({ frames := 0, cells := 0, slots := 0, locals := 0 } : Room)) (fun a U => a = #[(.int (5 : Int32))] ∧ Z.Warmed39 U.vm ∧ U.heap = h0) (fun _ _ _ _ _ => True) (fun _ U o U' => ∃ v L, o = .returned v ∧ QV (some (.ref (ad 5))) h0 n0 v U'.heap L ∧ FrameEnd U o U' L ({ frames := 0, cells := 0, slots := 0, locals := 0 } : Room).cells ({ frames := 0, cells := 0, slots := 0, locals := 0 } : Room).slots) := by
  refine MetFree.of_bodySF (plainFor_of_name own_pn_com_example_baraja_baraja_games_sabacckessel_Card) hisR ?_
  intro p e s m args below meth c s₁ Bd hml0 hP hK
  obtain ⟨rfl, hZ, hh⟩ := hP
  have hx := Bd.exec
  have hby := Bd.bytes
  have hml : c.maxLocals = 1 := hml0
  have hown : s.vm.findClass "com/example/baraja/baraja/games/sabacckessel/Card" = some m.cls := findClass_of_methodNamed Bd.named
  have hnm := (name_of_methodNamed Bd.named Bd.method).1
  have X0 : Stand p l e ({ frames := 0, cells := 0, slots := 0, locals := 0 } : Room) s m #[(.int (5 : Int32))] below meth c s₁ [] 0 0 := Stand.of_body Bd
  have e0 : s₁.heap = h0 := by rw [← hh, Bd.state]; rfl
  have N0 := Fr.nil n0
  have pre0 : ∀ t, Steps p.tables e below (s₁.setTop (mkF m 0 #[.val (.int (5 : Int32))] [])) t → Steps p.tables e below (s₁.setTop (entryFrame m #[(.int (5 : Int32))] 1)) t := fun t k => castTop (own_ef_own_of_5 m) k
  obtain ⟨T1, X1, e1, st1⟩ := getS2 X0 hx hZ hown (host := "") (Or.inl (hw _ (List.mem_of_getElem? (i := 25) rfl))) Via.refl e0 (own_S_EVERY_CARD W) (g := (mkF m 0 #[.val (.int (5 : Int32))] [])) rfl (hb hby own_d_prog_38_method_8_code_0)
  have ch2 : ∀ t, Steps p.tables e below (T1.setTop (mkF m 3 #[.val (.int (5 : Int32))] [(.ref a_EVERY_CARD)])) t → Steps p.tables e below (s₁.setTop (entryFrame m #[(.int (5 : Int32))] 1)) t := fun t k => pre0 t (by
      show Steps p.tables e below (s₁.setTop (mkF m 0 #[.val (.int (5 : Int32))] [])) t
      exact st1 t k)
  obtain ⟨cl3, Ar3, -, Sz3, Ng3, Ha3, -⟩ := id (own_V_EVERY_CARD W)
  have hin3 : ¬ ((5 : Int32) < 0 ∨ cl3.slots.size ≤ ((5 : Int32)).toNatClampNeg) := inb_of Sz3 (by decide)
  have hat3 : cl3.slots[((5 : Int32)).toNatClampNeg]? = some (.ref (ad 5)) := Ha3.at hin3 rfl
  have ch4 : ∀ t, Steps p.tables e below (T1.setTop (mkF m 5 #[.val (.int (5 : Int32))] [(.ref (ad 5))])) t → Steps p.tables e below (s₁.setTop (entryFrame m #[(.int (5 : Int32))] 1)) t := fun t k => ch2 t (by
      show Steps p.tables e below (T1.setTop (mkF m 3 #[.val (.int (5 : Int32))] [(.ref a_EVERY_CARD)])) t
      refine XS.iloadN X1.here hx rfl (hb hby own_d_prog_38_method_8_code_3) rfl ?_
      show Steps p.tables e below (T1.setTop (mkF m 4 #[.val (.int (5 : Int32))] [(.int (5 : Int32)), (.ref a_EVERY_CARD)])) t
      refine X1.aaload hx (j := (5 : Int32)) (v := (.ref (ad 5))) (by rw [e1]; exact Ar3.1) (State.isArrayOf_alike hZ.alike Ar3.2.1) rfl Ar3.2.2 hin3 hat3 (g := (mkF m 4 #[.val (.int (5 : Int32))] [(.int (5 : Int32)), (.ref a_EVERY_CARD)])) rfl rfl (hb hby own_d_prog_38_method_8_code_4) _ ?_
      exact k)
  obtain ⟨fs, hr, hrun, hended, hW, hsame⟩ := X1.leave (v := some (.ref (ad 5))) (fun h => by rw [Bd.returns] at h; cases h)
  refine ⟨_, _, ch4 _ ?_, hrun, hended, _, _, rfl, ?_, ⟨_, rfl⟩, hW, hsame.mono (by decide) (by decide)⟩
  · show Steps p.tables e below (T1.setTop (mkF m 5 #[.val (.int (5 : Int32))] [(.ref (ad 5))])) _
    jvm_step X1.here [X1.here.top, hx, (hb hby own_d_prog_38_method_8_code_5), X1.method', Bd.returns, Value.isRef, FieldType.isReference]
    first | (intro acts; rw [hr _ acts rfl rfl rfl]) | rw [hr _ _ rfl rfl rfl]
    exact Steps.refl _
  · show QV (some (.ref (ad 5))) h0 n0 _ T1.heap _
    rw [e1]
    exact ⟨rfl, N0, rfl⟩
theorem own_ef_own_of_6 (m : MethodId) {x0 : Int32} : entryFrame m #[(.int x0)] 1 = mkF m 0 #[.val (.int x0)] [] := by first | (simp [entryFrame, mkF, argsToLocals, Value.category, maxLocals]; done) | rfl
set_option maxRecDepth 65536 in
set_option maxHeartbeats 40000000 in
theorem own_of_6 (l : Launch) (Z : State) (a0 : Array Value) (hw : ∀ d ∈ tables_1, d.before a0 Z = true) (ws : List Jvm.Cond) (h0 : Heap) (n0 : Nat) (Z0 : n0 ≤ h0.size) (ad : Nat → Addr) (a_EVERY_CARD : Addr) (k_EVERY_CARD : ClassId) (W : OwnWd Z h0 ad a_EVERY_CARD k_EVERY_CARD) :
    MetFree l (⟨"com/example/baraja/baraja/games/sabacckessel/Card", "of", "(I)Lcom/example/baraja/baraja/games/sabacckessel/Card;"⟩ : MethodName) (head1 (Jvm.Cond.code (⟨"com/example/baraja/baraja/games/sabacckessel/Card", "of", "(I)Lcom/example/baraja/baraja/games/sabacckessel/Card;"⟩ : MethodName) prog_38_method_8_code 1 (some (.object "com/example/baraja/baraja/games/sabacckessel/Card")) :: ws) ({ frames := 0, cells := 0, slots := 0, locals := 0 } : Room)) (fun a U => a = #[(.int (6 : Int32))] ∧ Z.Warmed39 U.vm ∧ U.heap = h0) (fun _ _ _ _ _ => True) (fun _ U o U' => ∃ v L, o = .returned v ∧ QV (some (.ref (ad 7))) h0 n0 v U'.heap L ∧ FrameEnd U o U' L ({ frames := 0, cells := 0, slots := 0, locals := 0 } : Room).cells ({ frames := 0, cells := 0, slots := 0, locals := 0 } : Room).slots) := by
  refine MetFree.of_bodySF (plainFor_of_name own_pn_com_example_baraja_baraja_games_sabacckessel_Card) hisR ?_
  intro p e s m args below meth c s₁ Bd hml0 hP hK
  obtain ⟨rfl, hZ, hh⟩ := hP
  have hx := Bd.exec
  have hby := Bd.bytes
  have hml : c.maxLocals = 1 := hml0
  have hown : s.vm.findClass "com/example/baraja/baraja/games/sabacckessel/Card" = some m.cls := findClass_of_methodNamed Bd.named
  have hnm := (name_of_methodNamed Bd.named Bd.method).1
  have X0 : Stand p l e ({ frames := 0, cells := 0, slots := 0, locals := 0 } : Room) s m #[(.int (6 : Int32))] below meth c s₁ [] 0 0 := Stand.of_body Bd
  have e0 : s₁.heap = h0 := by rw [← hh, Bd.state]; rfl
  have N0 := Fr.nil n0
  have pre0 : ∀ t, Steps p.tables e below (s₁.setTop (mkF m 0 #[.val (.int (6 : Int32))] [])) t → Steps p.tables e below (s₁.setTop (entryFrame m #[(.int (6 : Int32))] 1)) t := fun t k => castTop (own_ef_own_of_6 m) k
  obtain ⟨T1, X1, e1, st1⟩ := getS2 X0 hx hZ hown (host := "") (Or.inl (hw _ (List.mem_of_getElem? (i := 25) rfl))) Via.refl e0 (own_S_EVERY_CARD W) (g := (mkF m 0 #[.val (.int (6 : Int32))] [])) rfl (hb hby own_d_prog_38_method_8_code_0)
  have ch2 : ∀ t, Steps p.tables e below (T1.setTop (mkF m 3 #[.val (.int (6 : Int32))] [(.ref a_EVERY_CARD)])) t → Steps p.tables e below (s₁.setTop (entryFrame m #[(.int (6 : Int32))] 1)) t := fun t k => pre0 t (by
      show Steps p.tables e below (s₁.setTop (mkF m 0 #[.val (.int (6 : Int32))] [])) t
      exact st1 t k)
  obtain ⟨cl3, Ar3, -, Sz3, Ng3, Ha3, -⟩ := id (own_V_EVERY_CARD W)
  have hin3 : ¬ ((6 : Int32) < 0 ∨ cl3.slots.size ≤ ((6 : Int32)).toNatClampNeg) := inb_of Sz3 (by decide)
  have hat3 : cl3.slots[((6 : Int32)).toNatClampNeg]? = some (.ref (ad 7)) := Ha3.at hin3 rfl
  have ch4 : ∀ t, Steps p.tables e below (T1.setTop (mkF m 5 #[.val (.int (6 : Int32))] [(.ref (ad 7))])) t → Steps p.tables e below (s₁.setTop (entryFrame m #[(.int (6 : Int32))] 1)) t := fun t k => ch2 t (by
      show Steps p.tables e below (T1.setTop (mkF m 3 #[.val (.int (6 : Int32))] [(.ref a_EVERY_CARD)])) t
      refine XS.iloadN X1.here hx rfl (hb hby own_d_prog_38_method_8_code_3) rfl ?_
      show Steps p.tables e below (T1.setTop (mkF m 4 #[.val (.int (6 : Int32))] [(.int (6 : Int32)), (.ref a_EVERY_CARD)])) t
      refine X1.aaload hx (j := (6 : Int32)) (v := (.ref (ad 7))) (by rw [e1]; exact Ar3.1) (State.isArrayOf_alike hZ.alike Ar3.2.1) rfl Ar3.2.2 hin3 hat3 (g := (mkF m 4 #[.val (.int (6 : Int32))] [(.int (6 : Int32)), (.ref a_EVERY_CARD)])) rfl rfl (hb hby own_d_prog_38_method_8_code_4) _ ?_
      exact k)
  obtain ⟨fs, hr, hrun, hended, hW, hsame⟩ := X1.leave (v := some (.ref (ad 7))) (fun h => by rw [Bd.returns] at h; cases h)
  refine ⟨_, _, ch4 _ ?_, hrun, hended, _, _, rfl, ?_, ⟨_, rfl⟩, hW, hsame.mono (by decide) (by decide)⟩
  · show Steps p.tables e below (T1.setTop (mkF m 5 #[.val (.int (6 : Int32))] [(.ref (ad 7))])) _
    jvm_step X1.here [X1.here.top, hx, (hb hby own_d_prog_38_method_8_code_5), X1.method', Bd.returns, Value.isRef, FieldType.isReference]
    first | (intro acts; rw [hr _ acts rfl rfl rfl]) | rw [hr _ _ rfl rfl rfl]
    exact Steps.refl _
  · show QV (some (.ref (ad 7))) h0 n0 _ T1.heap _
    rw [e1]
    exact ⟨rfl, N0, rfl⟩
theorem own_ef_own_of_7 (m : MethodId) {x0 : Int32} : entryFrame m #[(.int x0)] 1 = mkF m 0 #[.val (.int x0)] [] := by first | (simp [entryFrame, mkF, argsToLocals, Value.category, maxLocals]; done) | rfl
set_option maxRecDepth 65536 in
set_option maxHeartbeats 40000000 in
theorem own_of_7 (l : Launch) (Z : State) (a0 : Array Value) (hw : ∀ d ∈ tables_1, d.before a0 Z = true) (ws : List Jvm.Cond) (h0 : Heap) (n0 : Nat) (Z0 : n0 ≤ h0.size) (ad : Nat → Addr) (a_EVERY_CARD : Addr) (k_EVERY_CARD : ClassId) (W : OwnWd Z h0 ad a_EVERY_CARD k_EVERY_CARD) :
    MetFree l (⟨"com/example/baraja/baraja/games/sabacckessel/Card", "of", "(I)Lcom/example/baraja/baraja/games/sabacckessel/Card;"⟩ : MethodName) (head1 (Jvm.Cond.code (⟨"com/example/baraja/baraja/games/sabacckessel/Card", "of", "(I)Lcom/example/baraja/baraja/games/sabacckessel/Card;"⟩ : MethodName) prog_38_method_8_code 1 (some (.object "com/example/baraja/baraja/games/sabacckessel/Card")) :: ws) ({ frames := 0, cells := 0, slots := 0, locals := 0 } : Room)) (fun a U => a = #[(.int (7 : Int32))] ∧ Z.Warmed39 U.vm ∧ U.heap = h0) (fun _ _ _ _ _ => True) (fun _ U o U' => ∃ v L, o = .returned v ∧ QV (some (.ref (ad 4))) h0 n0 v U'.heap L ∧ FrameEnd U o U' L ({ frames := 0, cells := 0, slots := 0, locals := 0 } : Room).cells ({ frames := 0, cells := 0, slots := 0, locals := 0 } : Room).slots) := by
  refine MetFree.of_bodySF (plainFor_of_name own_pn_com_example_baraja_baraja_games_sabacckessel_Card) hisR ?_
  intro p e s m args below meth c s₁ Bd hml0 hP hK
  obtain ⟨rfl, hZ, hh⟩ := hP
  have hx := Bd.exec
  have hby := Bd.bytes
  have hml : c.maxLocals = 1 := hml0
  have hown : s.vm.findClass "com/example/baraja/baraja/games/sabacckessel/Card" = some m.cls := findClass_of_methodNamed Bd.named
  have hnm := (name_of_methodNamed Bd.named Bd.method).1
  have X0 : Stand p l e ({ frames := 0, cells := 0, slots := 0, locals := 0 } : Room) s m #[(.int (7 : Int32))] below meth c s₁ [] 0 0 := Stand.of_body Bd
  have e0 : s₁.heap = h0 := by rw [← hh, Bd.state]; rfl
  have N0 := Fr.nil n0
  have pre0 : ∀ t, Steps p.tables e below (s₁.setTop (mkF m 0 #[.val (.int (7 : Int32))] [])) t → Steps p.tables e below (s₁.setTop (entryFrame m #[(.int (7 : Int32))] 1)) t := fun t k => castTop (own_ef_own_of_7 m) k
  obtain ⟨T1, X1, e1, st1⟩ := getS2 X0 hx hZ hown (host := "") (Or.inl (hw _ (List.mem_of_getElem? (i := 25) rfl))) Via.refl e0 (own_S_EVERY_CARD W) (g := (mkF m 0 #[.val (.int (7 : Int32))] [])) rfl (hb hby own_d_prog_38_method_8_code_0)
  have ch2 : ∀ t, Steps p.tables e below (T1.setTop (mkF m 3 #[.val (.int (7 : Int32))] [(.ref a_EVERY_CARD)])) t → Steps p.tables e below (s₁.setTop (entryFrame m #[(.int (7 : Int32))] 1)) t := fun t k => pre0 t (by
      show Steps p.tables e below (s₁.setTop (mkF m 0 #[.val (.int (7 : Int32))] [])) t
      exact st1 t k)
  obtain ⟨cl3, Ar3, -, Sz3, Ng3, Ha3, -⟩ := id (own_V_EVERY_CARD W)
  have hin3 : ¬ ((7 : Int32) < 0 ∨ cl3.slots.size ≤ ((7 : Int32)).toNatClampNeg) := inb_of Sz3 (by decide)
  have hat3 : cl3.slots[((7 : Int32)).toNatClampNeg]? = some (.ref (ad 4)) := Ha3.at hin3 rfl
  have ch4 : ∀ t, Steps p.tables e below (T1.setTop (mkF m 5 #[.val (.int (7 : Int32))] [(.ref (ad 4))])) t → Steps p.tables e below (s₁.setTop (entryFrame m #[(.int (7 : Int32))] 1)) t := fun t k => ch2 t (by
      show Steps p.tables e below (T1.setTop (mkF m 3 #[.val (.int (7 : Int32))] [(.ref a_EVERY_CARD)])) t
      refine XS.iloadN X1.here hx rfl (hb hby own_d_prog_38_method_8_code_3) rfl ?_
      show Steps p.tables e below (T1.setTop (mkF m 4 #[.val (.int (7 : Int32))] [(.int (7 : Int32)), (.ref a_EVERY_CARD)])) t
      refine X1.aaload hx (j := (7 : Int32)) (v := (.ref (ad 4))) (by rw [e1]; exact Ar3.1) (State.isArrayOf_alike hZ.alike Ar3.2.1) rfl Ar3.2.2 hin3 hat3 (g := (mkF m 4 #[.val (.int (7 : Int32))] [(.int (7 : Int32)), (.ref a_EVERY_CARD)])) rfl rfl (hb hby own_d_prog_38_method_8_code_4) _ ?_
      exact k)
  obtain ⟨fs, hr, hrun, hended, hW, hsame⟩ := X1.leave (v := some (.ref (ad 4))) (fun h => by rw [Bd.returns] at h; cases h)
  refine ⟨_, _, ch4 _ ?_, hrun, hended, _, _, rfl, ?_, ⟨_, rfl⟩, hW, hsame.mono (by decide) (by decide)⟩
  · show Steps p.tables e below (T1.setTop (mkF m 5 #[.val (.int (7 : Int32))] [(.ref (ad 4))])) _
    jvm_step X1.here [X1.here.top, hx, (hb hby own_d_prog_38_method_8_code_5), X1.method', Bd.returns, Value.isRef, FieldType.isReference]
    first | (intro acts; rw [hr _ acts rfl rfl rfl]) | rw [hr _ _ rfl rfl rfl]
    exact Steps.refl _
  · show QV (some (.ref (ad 4))) h0 n0 _ T1.heap _
    rw [e1]
    exact ⟨rfl, N0, rfl⟩
theorem own_ef_own_law_0 (m : MethodId) {x0 : Int32} {x1 : Int32} {x2 : Int32} {x3 : Int32} {x4 : Int32} : entryFrame m #[(.int x0), (.int x1), (.int x2), (.int x3), (.int x4)] maxLocals = mkF m 0 #[.val (.int x0), .val (.int x1), .val (.int x2), .val (.int x3), .val (.int x4), .unset, .unset, .unset, .unset, .unset, .unset, .unset, .unset, .unset, .unset] [] := by first | (simp [entryFrame, mkF, argsToLocals, Value.category, maxLocals]; done) | rfl
set_option maxRecDepth 65536 in
set_option maxHeartbeats 40000000 in
theorem own_law_0 (l : Launch) (Z : State) (a0 : Array Value) (hw : ∀ d ∈ tables_1, d.before a0 Z = true) (ws : List Jvm.Cond) (h0 : Heap) (n0 : Nat) (Z0 : n0 ≤ h0.size) (p1 p2 p3 p4 p5 : Int32) (ca cb cd : Addr) (HA : ∀ (h : Heap) (n0 : Nat) (Z0 : n0 ≤ h.size) (E : Ext h0 h), MetFree l (⟨"com/example/baraja/baraja/games/sabacckessel/Card", "of", "(I)Lcom/example/baraja/baraja/games/sabacckessel/Card;"⟩ : MethodName) (head1 (Jvm.Cond.code (⟨"com/example/baraja/baraja/games/sabacckessel/Card", "of", "(I)Lcom/example/baraja/baraja/games/sabacckessel/Card;"⟩ : MethodName) prog_38_method_8_code 1 (some (.object "com/example/baraja/baraja/games/sabacckessel/Card")) :: []) ({ frames := 0, cells := 0, slots := 0, locals := 0 } : Room)) (fun a U => a = #[(.int (p2 &&& (7 : Int32)))] ∧ Z.Warmed39 U.vm ∧ U.heap = h) (fun _ _ _ _ _ => True) (fun _ U o U' => ∃ v L, o = .returned v ∧ QV (some (.ref ca)) h n0 v U'.heap L ∧ FrameEnd U o U' L ({ frames := 0, cells := 0, slots := 0, locals := 0 } : Room).cells ({ frames := 0, cells := 0, slots := 0, locals := 0 } : Room).slots)) (HB : ∀ (h : Heap) (n0 : Nat) (Z0 : n0 ≤ h.size) (E : Ext h0 h), MetFree l (⟨"com/example/baraja/baraja/games/sabacckessel/Card", "of", "(I)Lcom/example/baraja/baraja/games/sabacckessel/Card;"⟩ : MethodName) (head1 (Jvm.Cond.code (⟨"com/example/baraja/baraja/games/sabacckessel/Card", "of", "(I)Lcom/example/baraja/baraja/games/sabacckessel/Card;"⟩ : MethodName) prog_38_method_8_code 1 (some (.object "com/example/baraja/baraja/games/sabacckessel/Card")) :: []) ({ frames := 0, cells := 0, slots := 0, locals := 0 } : Room)) (fun a U => a = #[(.int (p3 &&& (7 : Int32)))] ∧ Z.Warmed39 U.vm ∧ U.heap = h) (fun _ _ _ _ _ => True) (fun _ U o U' => ∃ v L, o = .returned v ∧ QV (some (.ref cb)) h n0 v U'.heap L ∧ FrameEnd U o U' L ({ frames := 0, cells := 0, slots := 0, locals := 0 } : Room).cells ({ frames := 0, cells := 0, slots := 0, locals := 0 } : Room).slots)) (HC : ∀ (h : Heap) (n0 : Nat) (Z0 : n0 ≤ h.size) (E : Ext h0 h), MetFree l (⟨"com/example/baraja/baraja/games/sabacckessel/Card", "of", "(I)Lcom/example/baraja/baraja/games/sabacckessel/Card;"⟩ : MethodName) (head1 (Jvm.Cond.code (⟨"com/example/baraja/baraja/games/sabacckessel/Card", "of", "(I)Lcom/example/baraja/baraja/games/sabacckessel/Card;"⟩ : MethodName) prog_38_method_8_code 1 (some (.object "com/example/baraja/baraja/games/sabacckessel/Card")) :: []) ({ frames := 0, cells := 0, slots := 0, locals := 0 } : Room)) (fun a U => a = #[(.int (p4 &&& (7 : Int32)))] ∧ Z.Warmed39 U.vm ∧ U.heap = h) (fun _ _ _ _ _ => True) (fun _ U o U' => ∃ v L, o = .returned v ∧ QV (some (.ref cd)) h n0 v U'.heap L ∧ FrameEnd U o U' L ({ frames := 0, cells := 0, slots := 0, locals := 0 } : Room).cells ({ frames := 0, cells := 0, slots := 0, locals := 0 } : Room).slots)) (E_ca : Exa Z h0 ca "com/example/baraja/baraja/games/sabacckessel/Card") (E_cb : Exa Z h0 cb "com/example/baraja/baraja/games/sabacckessel/Card") (E_cd : Exa Z h0 cd "com/example/baraja/baraja/games/sabacckessel/Card") (z0 : ¬ ((p1 &&& (7 : Int32)) + (1 : Int32)) < 0) (z8 : (((p1 &&& (7 : Int32)) + (1 : Int32))).toNatClampNeg ≤ 8) (hk : (p5 &&& (2147483647 : Int32)) % (3 : Int32) = (0 : Int32)) :
    MetFree l x (head1 (Jvm.Cond.code x code maxLocals ret :: ws) room_1) (fun a U => a = #[(.int p1), (.int p2), (.int p3), (.int p4), (.int p5)] ∧ Z.Warmed39 U.vm ∧ U.heap = h0) (fun _ _ _ _ _ => True) (fun _ U o U' => ∃ v L, o = .returned v ∧ QN (some (.int (1 : Int32))) n0 v U'.heap L ∧ FrameEnd U o U' L room_1.cells room_1.slots) := by
  refine MetFree.of_bodySF (plainFor_of_name own_pn_com_example_baraja_baraja_games_sabacckessel_FamilyCardsDrawFromDiscardsPinLaw) hisR ?_
  intro p e s m args below meth c s₁ Bd hml0 hP hK
  obtain ⟨rfl, hZ, hh⟩ := hP
  have hx := Bd.exec
  have hby := Bd.bytes
  have hml : c.maxLocals = 15 := hml0
  have hown : s.vm.findClass "com/example/baraja/baraja/games/sabacckessel/FamilyCardsDrawFromDiscardsPinLaw" = some m.cls := findClass_of_methodNamed Bd.named
  have hnm := (name_of_methodNamed Bd.named Bd.method).1
  have X0 : Stand p l e room_1 s m #[(.int p1), (.int p2), (.int p3), (.int p4), (.int p5)] below meth c s₁ [] 0 0 := Stand.of_body Bd
  have e0 : s₁.heap = h0 := by rw [← hh, Bd.state]; rfl
  have N0 := Fr.nil n0
  have pre0 : ∀ t, Steps p.tables e below (s₁.setTop (mkF m 0 #[.val (.int p1), .val (.int p2), .val (.int p3), .val (.int p4), .val (.int p5), .unset, .unset, .unset, .unset, .unset, .unset, .unset, .unset, .unset, .unset] [])) t → Steps p.tables e below (s₁.setTop (entryFrame m #[(.int p1), (.int p2), (.int p3), (.int p4), (.int p5)] maxLocals)) t := fun t k => castTop (own_ef_own_law_0 m) k
  obtain ⟨T1, hp1, X1, e1, E1, A1, D1, -, st1⟩ := newO X0 hx hZ hown (hw _ (List.mem_of_getElem? (i := 0) rfl)) (hw _ (List.mem_of_getElem? (i := 1) rfl)) (hw _ (List.mem_of_getElem? (i := 2) rfl)) e0 (g := (mkF m 0 #[.val (.int p1), .val (.int p2), .val (.int p3), .val (.int p4), .val (.int p5), .unset, .unset, .unset, .unset, .unset, .unset, .unset, .unset, .unset, .unset] [])) rfl (hb hby at_0) (by decide) (by decide)
  obtain ⟨b1, g1⟩ : ∃ z, z = h0.size := ⟨_, rfl⟩
  rw [← g1] at A1 D1 st1
  have ne_ca_b1 : ca ≠ b1 := Nat.ne_of_lt (Nat.lt_of_lt_of_le E_ca.lt (Nat.le_of_eq g1.symm))
  have ne_cb_b1 : cb ≠ b1 := Nat.ne_of_lt (Nat.lt_of_lt_of_le E_cb.lt (Nat.le_of_eq g1.symm))
  have ne_cd_b1 : cd ≠ b1 := Nat.ne_of_lt (Nat.lt_of_lt_of_le E_cd.lt (Nat.le_of_eq g1.symm))
  have g_b1 : n0 ≤ b1 := Nat.le_trans (Nat.le_trans Z0 (Keep.refl h0 []).1) (Nat.le_of_eq g1.symm)
  have sz_b1 : h0.size ≤ b1 := Nat.le_trans (Keep.refl h0 []).1 (Nat.le_of_eq g1.symm)
  have Kp1 := Keep.ext (Keep.refl h0 []) E1
  have F1_11 : Fld Z hp1 b1 "com/example/baraja/baraja/games/sabacckessel/FamilyCards" "deck" "[B" .null := D1 (Or.inr (hw _ (List.mem_of_getElem? (i := 11) rfl))) (ty := (.array .byte)) (by decide)
  have F1_15 : Fld Z hp1 b1 "com/example/baraja/baraja/games/sabacckessel/FamilyCards" "discards" "[Lcom/example/baraja/baraja/games/sabacckessel/Card;" .null := D1 (Or.inr (hw _ (List.mem_of_getElem? (i := 15) rfl))) (ty := (.array (.object "com/example/baraja/baraja/games/sabacckessel/Card"))) (by decide)
  have F1_17 : Fld Z hp1 b1 "com/example/baraja/baraja/games/sabacckessel/FamilyCards" "hands" "[Lcom/example/baraja/baraja/games/sabacckessel/Card;" .null := D1 (Or.inr (hw _ (List.mem_of_getElem? (i := 17) rfl))) (ty := (.array (.object "com/example/baraja/baraja/games/sabacckessel/Card"))) (by decide)
  have F1_20 : Fld Z hp1 b1 "com/example/baraja/baraja/games/sabacckessel/FamilyCards" "seenBy" "[I" .null := D1 (Or.inr (hw _ (List.mem_of_getElem? (i := 20) rfl))) (ty := (.array .int)) (by decide)
  have F1_37 : Fld Z hp1 b1 "com/example/baraja/baraja/games/sabacckessel/FamilyCards" "discardCount" "I" (.int (0 : Int32)) := D1 (Or.inl (hw _ (List.mem_of_getElem? (i := 37) rfl))) (ty := .int) (by decide)
  have ch2 : ∀ t, Steps p.tables e below (T1.setTop (mkF m 3 #[.val (.int p1), .val (.int p2), .val (.int p3), .val (.int p4), .val (.int p5), .unset, .unset, .unset, .unset, .unset, .unset, .unset, .unset, .unset, .unset] [(.ref b1)])) t → Steps p.tables e below (s₁.setTop (entryFrame m #[(.int p1), (.int p2), (.int p3), (.int p4), (.int p5)] maxLocals)) t := fun t k => pre0 t (by
      show Steps p.tables e below (s₁.setTop (mkF m 0 #[.val (.int p1), .val (.int p2), .val (.int p3), .val (.int p4), .val (.int p5), .unset, .unset, .unset, .unset, .unset, .unset, .unset, .unset, .unset, .unset] [])) t
      exact st1 t k)
  obtain ⟨vv3, _, ⟨T3, L3, kk3, nn3⟩, -, X3, ⟨Lc3, hQ3, l3, y3, z3⟩, st3⟩ := X1.specialBack hx (y := (⟨"com/example/baraja/baraja/games/sabacckessel/FamilyCards", "<init>", "(I)V"⟩ : MethodName)) rfl hown (mvT hZ (hw _ (List.mem_of_getElem? (i := 3) rfl))) (mvT hZ (hw _ (List.mem_of_getElem? (i := 4) rfl))) (mvT hZ (hw _ (List.mem_of_getElem? (i := 5) rfl))) (by decide) (backOf (W := 1) (own_ini l Z a0 hw [] hp1 n0 (Nat.le_trans Z0 Kp1.1) b1 ((p1 &&& (7 : Int32)) + (1 : Int32)) A1 F1_11 F1_15 F1_17 F1_20 F1_37 g_b1 z0 z8) hZ (hw _ (List.mem_of_getElem? (i := 5) rfl)) (hw _ (List.mem_of_getElem? (i := 2) rfl)) (by decide) (by decide)) (g := (mkF m 10 #[.val (.int p1), .val (.int p2), .val (.int p3), .val (.int p4), .val (.int p5), .unset, .unset, .unset, .unset, .unset, .unset, .unset, .unset, .unset, .unset] [(.int ((p1 &&& (7 : Int32)) + (1 : Int32))), (.ref b1), (.ref b1)])) rfl (by rw [hml]; rfl) (Steps.refl _) (a := b1) (argsL := [(.int ((p1 &&& (7 : Int32)) + (1 : Int32)))]) (rest := [(.ref b1)]) (lenOf own_pd__I_V rfl) rfl (by show 2 * 0 + _ ≤ _; exact Nat.le_of_eq rfl) (hb hby at_10) (fun _ _ => ⟨rfl, e1, (by decide : 1 + 4 ≤ _), (by decide : 6 + 60 ≤ _)⟩)
  dsimp only [Pt.U, Pt.locs, Pt.cells, Pt.slots] at X3 l3 y3 z3 st3 hQ3
  subst l3 y3 z3
  obtain ⟨hh3, eh3⟩ : ∃ h, T3.heap = h := ⟨_, rfl⟩
  rw [eh3] at hQ3
  obtain ⟨dd, kd, rfl, zq3, Nq3, Kq3, fq3_0, fq3_1, fq3_2, fq3_3, fq3_4⟩ := hQ3
  have N3 := Fr.app N0 Nq3
  have cf4 := (Exa.keep E_ca Kp1)
  have ne_ca_dd : ca ≠ dd := Nat.ne_of_lt (Nat.lt_of_lt_of_le cf4.lt zq3)
  have cf5 := (Exa.keep E_cb Kp1)
  have ne_cb_dd : cb ≠ dd := Nat.ne_of_lt (Nat.lt_of_lt_of_le cf5.lt zq3)
  have cf6 := (Exa.keep E_cd Kp1)
  have ne_cd_dd : cd ≠ dd := Nat.ne_of_lt (Nat.lt_of_lt_of_le cf6.lt zq3)
  have ne_b1_dd : b1 ≠ dd := Nat.ne_of_lt (Nat.lt_of_lt_of_le A1.lt zq3)
  have g_dd : n0 ≤ dd := Nat.le_trans (Nat.le_trans Z0 Kp1.1) zq3
  have sz_dd : h0.size ≤ dd := Nat.le_trans Kp1.1 zq3
  have Kp3 := Keep.trans Kp1 Kq3 (allS (Or.inr sz_b1) all0)
  have ch7 : ∀ t, Steps p.tables e below (T3.setTop (mkF m 13 #[.val (.int p1), .val (.int p2), .val (.int p3), .val (.int p4), .val (.int p5), .unset, .unset, .unset, .unset, .unset, .unset, .unset, .unset, .unset, .unset] [(.ref b1)])) t → Steps p.tables e below (s₁.setTop (entryFrame m #[(.int p1), (.int p2), (.int p3), (.int p4), (.int p5)] maxLocals)) t := fun t k => ch2 t (by
      show Steps p.tables e below (T1.setTop (mkF m 3 #[.val (.int p1), .val (.int p2), .val (.int p3), .val (.int p4), .val (.int p5), .unset, .unset, .unset, .unset, .unset, .unset, .unset, .unset, .unset, .unset] [(.ref b1)])) t
      refine XS.dup X1.here hx rfl (hb hby at_3) rfl rfl ?_
      show Steps p.tables e below (T1.setTop (mkF m 4 #[.val (.int p1), .val (.int p2), .val (.int p3), .val (.int p4), .val (.int p5), .unset, .unset, .unset, .unset, .unset, .unset, .unset, .unset, .unset, .unset] [(.ref b1), (.ref b1)])) t
      refine XS.iloadN X1.here hx rfl (hb hby at_4) rfl ?_
      show Steps p.tables e below (T1.setTop (mkF m 5 #[.val (.int p1), .val (.int p2), .val (.int p3), .val (.int p4), .val (.int p5), .unset, .unset, .unset, .unset, .unset, .unset, .unset, .unset, .unset, .unset] [(.int p1), (.ref b1), (.ref b1)])) t
      refine XS.bipush X1.here hx rfl (hb hby at_5) ?_
      show Steps p.tables e below (T1.setTop (mkF m 7 #[.val (.int p1), .val (.int p2), .val (.int p3), .val (.int p4), .val (.int p5), .unset, .unset, .unset, .unset, .unset, .unset, .unset, .unset, .unset, .unset] [(.int (7 : Int32)), (.int p1), (.ref b1), (.ref b1)])) t
      refine XS.iand X1.here hx rfl (hb hby at_7) rfl ?_
      show Steps p.tables e below (T1.setTop (mkF m 8 #[.val (.int p1), .val (.int p2), .val (.int p3), .val (.int p4), .val (.int p5), .unset, .unset, .unset, .unset, .unset, .unset, .unset, .unset, .unset, .unset] [(.int (p1 &&& (7 : Int32))), (.ref b1), (.ref b1)])) t
      refine XS.iconst X1.here hx rfl (hb hby at_8) ?_
      show Steps p.tables e below (T1.setTop (mkF m 9 #[.val (.int p1), .val (.int p2), .val (.int p3), .val (.int p4), .val (.int p5), .unset, .unset, .unset, .unset, .unset, .unset, .unset, .unset, .unset, .unset] [(.int (1 : Int32)), (.int (p1 &&& (7 : Int32))), (.ref b1), (.ref b1)])) t
      refine XS.iadd X1.here hx rfl (hb hby at_9) rfl ?_
      show Steps p.tables e below (T1.setTop (mkF m 10 #[.val (.int p1), .val (.int p2), .val (.int p3), .val (.int p4), .val (.int p5), .unset, .unset, .unset, .unset, .unset, .unset, .unset, .unset, .unset, .unset] [(.int ((p1 &&& (7 : Int32)) + (1 : Int32))), (.ref b1), (.ref b1)])) t
      exact st3.trans k)
  obtain ⟨vv8, _, ⟨T8, L8, kk8, nn8⟩, -, X8, ⟨Lc8, hQ8, l8, y8, z8⟩, st8⟩ := Jvm.LawKit.callS X3 hx (y := (⟨"com/example/baraja/baraja/games/sabacckessel/Card", "of", "(I)Lcom/example/baraja/baraja/games/sabacckessel/Card;"⟩ : MethodName)) hown (mvT hZ (hw _ (List.mem_of_getElem? (i := 21) rfl))) (mvT hZ (hw _ (List.mem_of_getElem? (i := 22) rfl))) (mvT hZ (hw _ (List.mem_of_getElem? (i := 23) rfl))) (mvT hZ (hw _ (List.mem_of_getElem? (i := 24) rfl))) (by decide) (backOf (W := 0) (HA hh3 n0 (Nat.le_trans Z0 Kp3.1) (own_ext_of_keep Kp3 all0)) hZ (hw _ (List.mem_of_getElem? (i := 24) rfl)) (hw _ (List.mem_of_getElem? (i := 23) rfl)) (by decide) (by decide)) (g := (mkF m 19 #[.val (.int p1), .val (.int p2), .val (.int p3), .val (.int p4), .val (.int p5), .val (.ref b1), .unset, .unset, .unset, .unset, .unset, .unset, .unset, .unset, .unset] [(.int (p2 &&& (7 : Int32)))])) rfl (by rw [hml]; rfl) (argsL := [(.int (p2 &&& (7 : Int32)))]) (rest := []) (lenOf own_pd__I_Lcom_example_baraja_baraja_games_sabacckessel_Card_ rfl) rfl (by show 2 * 0 + _ ≤ _; exact Nat.le_of_eq rfl) (hb hby at_19) (fun _ _ => ⟨rfl, eh3, (by decide : 5 + 0 ≤ _), (by decide : 66 + 0 ≤ _)⟩)
  dsimp only [Pt.U, Pt.locs, Pt.cells, Pt.slots] at X8 l8 y8 z8 st8 hQ8
  subst l8 y8 z8
  obtain ⟨rfl, Nq8, e8⟩ := hQ8
  have N8 := Fr.app N3 Nq8
  have ch9 : ∀ t, Steps p.tables e below (T8.setTop (mkF m 22 #[.val (.int p1), .val (.int p2), .val (.int p3), .val (.int p4), .val (.int p5), .val (.ref b1), .unset, .unset, .unset, .unset, .unset, .unset, .unset, .unset, .unset] [(.ref ca)])) t → Steps p.tables e below (s₁.setTop (entryFrame m #[(.int p1), (.int p2), (.int p3), (.int p4), (.int p5)] maxLocals)) t := fun t k => ch7 t (by
      show Steps p.tables e below (T3.setTop (mkF m 13 #[.val (.int p1), .val (.int p2), .val (.int p3), .val (.int p4), .val (.int p5), .unset, .unset, .unset, .unset, .unset, .unset, .unset, .unset, .unset, .unset] [(.ref b1)])) t
      refine XS.astore X3.here hx rfl (hb hby at_13) rfl rfl (l' := #[.val (.int p1), .val (.int p2), .val (.int p3), .val (.int p4), .val (.int p5), .val (.ref b1), .unset, .unset, .unset, .unset, .unset, .unset, .unset, .unset, .unset]) rfl ?_
      show Steps p.tables e below (T3.setTop (mkF m 15 #[.val (.int p1), .val (.int p2), .val (.int p3), .val (.int p4), .val (.int p5), .val (.ref b1), .unset, .unset, .unset, .unset, .unset, .unset, .unset, .unset, .unset] [])) t
      refine XS.iloadN X3.here hx rfl (hb hby at_15) rfl ?_
      show Steps p.tables e below (T3.setTop (mkF m 16 #[.val (.int p1), .val (.int p2), .val (.int p3), .val (.int p4), .val (.int p5), .val (.ref b1), .unset, .unset, .unset, .unset, .unset, .unset, .unset, .unset, .unset] [(.int p2)])) t
      refine XS.bipush X3.here hx rfl (hb hby at_16) ?_
      show Steps p.tables e below (T3.setTop (mkF m 18 #[.val (.int p1), .val (.int p2), .val (.int p3), .val (.int p4), .val (.int p5), .val (.ref b1), .unset, .unset, .unset, .unset, .unset, .unset, .unset, .unset, .unset] [(.int (7 : Int32)), (.int p2)])) t
      refine XS.iand X3.here hx rfl (hb hby at_18) rfl ?_
      show Steps p.tables e below (T3.setTop (mkF m 19 #[.val (.int p1), .val (.int p2), .val (.int p3), .val (.int p4), .val (.int p5), .val (.ref b1), .unset, .unset, .unset, .unset, .unset, .unset, .unset, .unset, .unset] [(.int (p2 &&& (7 : Int32)))])) t
      exact st8 t k)
  obtain ⟨vv10, _, ⟨T10, L10, kk10, nn10⟩, -, X10, ⟨Lc10, hQ10, l10, y10, z10⟩, st10⟩ := Jvm.LawKit.callS X8 hx (y := (⟨"com/example/baraja/baraja/games/sabacckessel/Card", "of", "(I)Lcom/example/baraja/baraja/games/sabacckessel/Card;"⟩ : MethodName)) hown (mvT hZ (hw _ (List.mem_of_getElem? (i := 21) rfl))) (mvT hZ (hw _ (List.mem_of_getElem? (i := 22) rfl))) (mvT hZ (hw _ (List.mem_of_getElem? (i := 23) rfl))) (mvT hZ (hw _ (List.mem_of_getElem? (i := 24) rfl))) (by decide) (backOf (W := 0) (HB hh3 n0 (Nat.le_trans Z0 Kp3.1) (own_ext_of_keep Kp3 all0)) hZ (hw _ (List.mem_of_getElem? (i := 24) rfl)) (hw _ (List.mem_of_getElem? (i := 23) rfl)) (by decide) (by decide)) (g := (mkF m 28 #[.val (.int p1), .val (.int p2), .val (.int p3), .val (.int p4), .val (.int p5), .val (.ref b1), .val (.ref ca), .unset, .unset, .unset, .unset, .unset, .unset, .unset, .unset] [(.int (p3 &&& (7 : Int32)))])) rfl (by rw [hml]; rfl) (argsL := [(.int (p3 &&& (7 : Int32)))]) (rest := []) (lenOf own_pd__I_Lcom_example_baraja_baraja_games_sabacckessel_Card_ rfl) rfl (by show 2 * 0 + _ ≤ _; exact Nat.le_of_eq rfl) (hb hby at_28) (fun _ _ => ⟨rfl, e8, (by decide : 5 + 0 ≤ _), (by decide : 66 + 0 ≤ _)⟩)
  dsimp only [Pt.U, Pt.locs, Pt.cells, Pt.slots] at X10 l10 y10 z10 st10 hQ10
  subst l10 y10 z10
  obtain ⟨rfl, Nq10, e10⟩ := hQ10
  have N10 := Fr.app N8 Nq10
  have ch11 : ∀ t, Steps p.tables e below (T10.setTop (mkF m 31 #[.val (.int p1), .val (.int p2), .val (.int p3), .val (.int p4), .val (.int p5), .val (.ref b1), .val (.ref ca), .unset, .unset, .unset, .unset, .unset, .unset, .unset, .unset] [(.ref cb)])) t → Steps p.tables e below (s₁.setTop (entryFrame m #[(.int p1), (.int p2), (.int p3), (.int p4), (.int p5)] maxLocals)) t := fun t k => ch9 t (by
      show Steps p.tables e below (T8.setTop (mkF m 22 #[.val (.int p1), .val (.int p2), .val (.int p3), .val (.int p4), .val (.int p5), .val (.ref b1), .unset, .unset, .unset, .unset, .unset, .unset, .unset, .unset, .unset] [(.ref ca)])) t
      refine XS.astore X8.here hx rfl (hb hby at_22) rfl rfl (l' := #[.val (.int p1), .val (.int p2), .val (.int p3), .val (.int p4), .val (.int p5), .val (.ref b1), .val (.ref ca), .unset, .unset, .unset, .unset, .unset, .unset, .unset, .unset]) rfl ?_
      show Steps p.tables e below (T8.setTop (mkF m 24 #[.val (.int p1), .val (.int p2), .val (.int p3), .val (.int p4), .val (.int p5), .val (.ref b1), .val (.ref ca), .unset, .unset, .unset, .unset, .unset, .unset, .unset, .unset] [])) t
      refine XS.iloadN X8.here hx rfl (hb hby at_24) rfl ?_
      show Steps p.tables e below (T8.setTop (mkF m 25 #[.val (.int p1), .val (.int p2), .val (.int p3), .val (.int p4), .val (.int p5), .val (.ref b1), .val (.ref ca), .unset, .unset, .unset, .unset, .unset, .unset, .unset, .unset] [(.int p3)])) t
      refine XS.bipush X8.here hx rfl (hb hby at_25) ?_
      show Steps p.tables e below (T8.setTop (mkF m 27 #[.val (.int p1), .val (.int p2), .val (.int p3), .val (.int p4), .val (.int p5), .val (.ref b1), .val (.ref ca), .unset, .unset, .unset, .unset, .unset, .unset, .unset, .unset] [(.int (7 : Int32)), (.int p3)])) t
      refine XS.iand X8.here hx rfl (hb hby at_27) rfl ?_
      show Steps p.tables e below (T8.setTop (mkF m 28 #[.val (.int p1), .val (.int p2), .val (.int p3), .val (.int p4), .val (.int p5), .val (.ref b1), .val (.ref ca), .unset, .unset, .unset, .unset, .unset, .unset, .unset, .unset] [(.int (p3 &&& (7 : Int32)))])) t
      exact st10 t k)
  obtain ⟨vv12, _, ⟨T12, L12, kk12, nn12⟩, -, X12, ⟨Lc12, hQ12, l12, y12, z12⟩, st12⟩ := Jvm.LawKit.callS X10 hx (y := (⟨"com/example/baraja/baraja/games/sabacckessel/Card", "of", "(I)Lcom/example/baraja/baraja/games/sabacckessel/Card;"⟩ : MethodName)) hown (mvT hZ (hw _ (List.mem_of_getElem? (i := 21) rfl))) (mvT hZ (hw _ (List.mem_of_getElem? (i := 22) rfl))) (mvT hZ (hw _ (List.mem_of_getElem? (i := 23) rfl))) (mvT hZ (hw _ (List.mem_of_getElem? (i := 24) rfl))) (by decide) (backOf (W := 0) (HC hh3 n0 (Nat.le_trans Z0 Kp3.1) (own_ext_of_keep Kp3 all0)) hZ (hw _ (List.mem_of_getElem? (i := 24) rfl)) (hw _ (List.mem_of_getElem? (i := 23) rfl)) (by decide) (by decide)) (g := (mkF m 37 #[.val (.int p1), .val (.int p2), .val (.int p3), .val (.int p4), .val (.int p5), .val (.ref b1), .val (.ref ca), .val (.ref cb), .unset, .unset, .unset, .unset, .unset, .unset, .unset] [(.int (p4 &&& (7 : Int32)))])) rfl (by rw [hml]; rfl) (argsL := [(.int (p4 &&& (7 : Int32)))]) (rest := []) (lenOf own_pd__I_Lcom_example_baraja_baraja_games_sabacckessel_Card_ rfl) rfl (by show 2 * 0 + _ ≤ _; exact Nat.le_of_eq rfl) (hb hby at_37) (fun _ _ => ⟨rfl, e10, (by decide : 5 + 0 ≤ _), (by decide : 66 + 0 ≤ _)⟩)
  dsimp only [Pt.U, Pt.locs, Pt.cells, Pt.slots] at X12 l12 y12 z12 st12 hQ12
  subst l12 y12 z12
  obtain ⟨rfl, Nq12, e12⟩ := hQ12
  have N12 := Fr.app N10 Nq12
  have ch13 : ∀ t, Steps p.tables e below (T12.setTop (mkF m 40 #[.val (.int p1), .val (.int p2), .val (.int p3), .val (.int p4), .val (.int p5), .val (.ref b1), .val (.ref ca), .val (.ref cb), .unset, .unset, .unset, .unset, .unset, .unset, .unset] [(.ref cd)])) t → Steps p.tables e below (s₁.setTop (entryFrame m #[(.int p1), (.int p2), (.int p3), (.int p4), (.int p5)] maxLocals)) t := fun t k => ch11 t (by
      show Steps p.tables e below (T10.setTop (mkF m 31 #[.val (.int p1), .val (.int p2), .val (.int p3), .val (.int p4), .val (.int p5), .val (.ref b1), .val (.ref ca), .unset, .unset, .unset, .unset, .unset, .unset, .unset, .unset] [(.ref cb)])) t
      refine XS.astore X10.here hx rfl (hb hby at_31) rfl rfl (l' := #[.val (.int p1), .val (.int p2), .val (.int p3), .val (.int p4), .val (.int p5), .val (.ref b1), .val (.ref ca), .val (.ref cb), .unset, .unset, .unset, .unset, .unset, .unset, .unset]) rfl ?_
      show Steps p.tables e below (T10.setTop (mkF m 33 #[.val (.int p1), .val (.int p2), .val (.int p3), .val (.int p4), .val (.int p5), .val (.ref b1), .val (.ref ca), .val (.ref cb), .unset, .unset, .unset, .unset, .unset, .unset, .unset] [])) t
      refine XS.iloadN X10.here hx rfl (hb hby at_33) rfl ?_
      show Steps p.tables e below (T10.setTop (mkF m 34 #[.val (.int p1), .val (.int p2), .val (.int p3), .val (.int p4), .val (.int p5), .val (.ref b1), .val (.ref ca), .val (.ref cb), .unset, .unset, .unset, .unset, .unset, .unset, .unset] [(.int p4)])) t
      refine XS.bipush X10.here hx rfl (hb hby at_34) ?_
      show Steps p.tables e below (T10.setTop (mkF m 36 #[.val (.int p1), .val (.int p2), .val (.int p3), .val (.int p4), .val (.int p5), .val (.ref b1), .val (.ref ca), .val (.ref cb), .unset, .unset, .unset, .unset, .unset, .unset, .unset] [(.int (7 : Int32)), (.int p4)])) t
      refine XS.iand X10.here hx rfl (hb hby at_36) rfl ?_
      show Steps p.tables e below (T10.setTop (mkF m 37 #[.val (.int p1), .val (.int p2), .val (.int p3), .val (.int p4), .val (.int p5), .val (.ref b1), .val (.ref ca), .val (.ref cb), .unset, .unset, .unset, .unset, .unset, .unset, .unset] [(.int (p4 &&& (7 : Int32)))])) t
      exact st12 t k)
  have cf14 := (cf4.keep Kq3)
  obtain ⟨cq15, kq15, qa15, qb15, qc15⟩ := isOf hZ e12 fq3_0
  obtain ⟨vv16, _, ⟨T16, L16, kk16, nn16⟩, -, X16, ⟨Lc16, hQ16, l16, y16, z16⟩, st16⟩ := X12.virtualBack hx (y := (⟨"com/example/baraja/baraja/games/sabacckessel/FamilyCards", "discard", "(Lcom/example/baraja/baraja/games/sabacckessel/Card;)V"⟩ : MethodName)) (z := (⟨"com/example/baraja/baraja/games/sabacckessel/FamilyCards", "discard", "(Lcom/example/baraja/baraja/games/sabacckessel/Card;)V"⟩ : MethodName)) hown (mvT hZ (hw _ (List.mem_of_getElem? (i := 31) rfl))) (mvT hZ (hw _ (List.mem_of_getElem? (i := 32) rfl))) (notFace_of_selects (args := #[]) (mvT hZ (hw _ (List.mem_of_getElem? (i := 34) rfl)))) (mvT hZ (hw _ (List.mem_of_getElem? (i := 34) rfl))) (mvT hZ (hw _ (List.mem_of_getElem? (i := 33) rfl))) (by decide) (backOf (W := 0) (own_disc_0 l Z a0 hw [] hh3 n0 (Nat.le_trans Z0 Kp3.1) b1 dd kd ca fq3_0 fq3_1 fq3_2 fq3_3 fq3_4 g_b1 g_dd ne_b1_dd cf14) hZ (hw _ (List.mem_of_getElem? (i := 35) rfl)) (hw _ (List.mem_of_getElem? (i := 2) rfl)) (by decide) (by decide)) qa15 qc15 (g := (mkF m 57 #[.val (.int p1), .val (.int p2), .val (.int p3), .val (.int p4), .val (.int p5), .val (.ref b1), .val (.ref ca), .val (.ref cb), .val (.ref cd), .val (.int (1 : Int32)), .unset, .unset, .unset, .unset, .unset] [(.ref ca), (.ref b1)])) rfl (by rw [hml]; rfl) (Steps.refl _) (argsL := [(.ref ca)]) (rest := []) (lenOf own_pd__Lcom_example_baraja_baraja_games_sabacckessel_Card__V rfl) rfl (by show 2 * 0 + _ ≤ _; exact Nat.le_of_eq rfl) (hb hby at_57) (fun _ _ => ⟨rfl, e12, (by decide : 5 + 0 ≤ _), (by decide : 66 + 0 ≤ _)⟩)
  dsimp only [Pt.U, Pt.locs, Pt.cells, Pt.slots] at X16 l16 y16 z16 st16 hQ16
  subst l16 y16 z16
  obtain ⟨hh16, eh16⟩ : ∃ h, T16.heap = h := ⟨_, rfl⟩
  rw [eh16] at hQ16
  obtain ⟨rfl, Nq16, Kq16, fq16_0, fq16_1, fq16_2, fq16_3⟩ := hQ16
  have N16 := Fr.app N12 Nq16
  have Kp16 := Keep.trans Kp3 Kq16 (allS (Or.inr sz_b1) (allS (Or.inr sz_dd) all0))
  have ch17 : ∀ t, Steps p.tables e below (T16.setTop (mkF m 60 #[.val (.int p1), .val (.int p2), .val (.int p3), .val (.int p4), .val (.int p5), .val (.ref b1), .val (.ref ca), .val (.ref cb), .val (.ref cd), .val (.int (1 : Int32)), .unset, .unset, .unset, .unset, .unset] [])) t → Steps p.tables e below (s₁.setTop (entryFrame m #[(.int p1), (.int p2), (.int p3), (.int p4), (.int p5)] maxLocals)) t := fun t k => ch13 t (by
      show Steps p.tables e below (T12.setTop (mkF m 40 #[.val (.int p1), .val (.int p2), .val (.int p3), .val (.int p4), .val (.int p5), .val (.ref b1), .val (.ref ca), .val (.ref cb), .unset, .unset, .unset, .unset, .unset, .unset, .unset] [(.ref cd)])) t
      refine XS.astore X12.here hx rfl (hb hby at_40) rfl rfl (l' := #[.val (.int p1), .val (.int p2), .val (.int p3), .val (.int p4), .val (.int p5), .val (.ref b1), .val (.ref ca), .val (.ref cb), .val (.ref cd), .unset, .unset, .unset, .unset, .unset, .unset]) rfl ?_
      show Steps p.tables e below (T12.setTop (mkF m 42 #[.val (.int p1), .val (.int p2), .val (.int p3), .val (.int p4), .val (.int p5), .val (.ref b1), .val (.ref ca), .val (.ref cb), .val (.ref cd), .unset, .unset, .unset, .unset, .unset, .unset] [])) t
      refine XS.iconst X12.here hx rfl (hb hby at_42) ?_
      show Steps p.tables e below (T12.setTop (mkF m 43 #[.val (.int p1), .val (.int p2), .val (.int p3), .val (.int p4), .val (.int p5), .val (.ref b1), .val (.ref ca), .val (.ref cb), .val (.ref cd), .unset, .unset, .unset, .unset, .unset, .unset] [(.int (1 : Int32))])) t
      refine XS.iload X12.here hx rfl (hb hby at_43) rfl ?_
      show Steps p.tables e below (T12.setTop (mkF m 45 #[.val (.int p1), .val (.int p2), .val (.int p3), .val (.int p4), .val (.int p5), .val (.ref b1), .val (.ref ca), .val (.ref cb), .val (.ref cd), .unset, .unset, .unset, .unset, .unset, .unset] [(.int p5), (.int (1 : Int32))])) t
      refine X12.ldcInt hx hown (mvT hZ (hw _ (List.mem_of_getElem? (i := 30) rfl))) (g := (mkF m 45 #[.val (.int p1), .val (.int p2), .val (.int p3), .val (.int p4), .val (.int p5), .val (.ref b1), .val (.ref ca), .val (.ref cb), .val (.ref cd), .unset, .unset, .unset, .unset, .unset, .unset] [(.int p5), (.int (1 : Int32))])) rfl (hb hby at_45) _ ?_
      show Steps p.tables e below (T12.setTop (mkF m 47 #[.val (.int p1), .val (.int p2), .val (.int p3), .val (.int p4), .val (.int p5), .val (.ref b1), .val (.ref ca), .val (.ref cb), .val (.ref cd), .unset, .unset, .unset, .unset, .unset, .unset] [(.int (2147483647 : Int32)), (.int p5), (.int (1 : Int32))])) t
      refine XS.iand X12.here hx rfl (hb hby at_47) rfl ?_
      show Steps p.tables e below (T12.setTop (mkF m 48 #[.val (.int p1), .val (.int p2), .val (.int p3), .val (.int p4), .val (.int p5), .val (.ref b1), .val (.ref ca), .val (.ref cb), .val (.ref cd), .unset, .unset, .unset, .unset, .unset, .unset] [(.int (p5 &&& (2147483647 : Int32))), (.int (1 : Int32))])) t
      refine XS.iconst X12.here hx rfl (hb hby at_48) ?_
      show Steps p.tables e below (T12.setTop (mkF m 49 #[.val (.int p1), .val (.int p2), .val (.int p3), .val (.int p4), .val (.int p5), .val (.ref b1), .val (.ref ca), .val (.ref cb), .val (.ref cd), .unset, .unset, .unset, .unset, .unset, .unset] [(.int (3 : Int32)), (.int (p5 &&& (2147483647 : Int32))), (.int (1 : Int32))])) t
      refine Jvm.RoadKit.iremM (g := (mkF m 49 #[.val (.int p1), .val (.int p2), .val (.int p3), .val (.int p4), .val (.int p5), .val (.ref b1), .val (.ref ca), .val (.ref cb), .val (.ref cd), .unset, .unset, .unset, .unset, .unset, .unset] [(.int (3 : Int32)), (.int (p5 &&& (2147483647 : Int32))), (.int (1 : Int32))])) X12 hx rfl (hb hby at_49) rfl (by decide) ?_
      rw [hk]
      show Steps p.tables e below (T12.setTop (mkF m 50 #[.val (.int p1), .val (.int p2), .val (.int p3), .val (.int p4), .val (.int p5), .val (.ref b1), .val (.ref ca), .val (.ref cb), .val (.ref cd), .unset, .unset, .unset, .unset, .unset, .unset] [(.int (0 : Int32)), (.int (1 : Int32))])) t
      refine XS.iadd X12.here hx rfl (hb hby at_50) rfl ?_
      rw [show ((1 : Int32) + (0 : Int32)) = (1 : Int32) from by decide]
      show Steps p.tables e below (T12.setTop (mkF m 51 #[.val (.int p1), .val (.int p2), .val (.int p3), .val (.int p4), .val (.int p5), .val (.ref b1), .val (.ref ca), .val (.ref cb), .val (.ref cd), .unset, .unset, .unset, .unset, .unset, .unset] [(.int (1 : Int32))])) t
      refine XS.istore X12.here hx rfl (hb hby at_51) rfl (l' := #[.val (.int p1), .val (.int p2), .val (.int p3), .val (.int p4), .val (.int p5), .val (.ref b1), .val (.ref ca), .val (.ref cb), .val (.ref cd), .val (.int (1 : Int32)), .unset, .unset, .unset, .unset, .unset]) rfl ?_
      show Steps p.tables e below (T12.setTop (mkF m 53 #[.val (.int p1), .val (.int p2), .val (.int p3), .val (.int p4), .val (.int p5), .val (.ref b1), .val (.ref ca), .val (.ref cb), .val (.ref cd), .val (.int (1 : Int32)), .unset, .unset, .unset, .unset, .unset] [])) t
      refine XS.aload X12.here hx rfl (hb hby at_53) rfl rfl ?_
      show Steps p.tables e below (T12.setTop (mkF m 55 #[.val (.int p1), .val (.int p2), .val (.int p3), .val (.int p4), .val (.int p5), .val (.ref b1), .val (.ref ca), .val (.ref cb), .val (.ref cd), .val (.int (1 : Int32)), .unset, .unset, .unset, .unset, .unset] [(.ref b1)])) t
      refine XS.aload X12.here hx rfl (hb hby at_55) rfl rfl ?_
      show Steps p.tables e below (T12.setTop (mkF m 57 #[.val (.int p1), .val (.int p2), .val (.int p3), .val (.int p4), .val (.int p5), .val (.ref b1), .val (.ref ca), .val (.ref cb), .val (.ref cd), .val (.int (1 : Int32)), .unset, .unset, .unset, .unset, .unset] [(.ref ca), (.ref b1)])) t
      exact st16.trans k)
  obtain ⟨cq18, kq18, qa18, qb18, qc18⟩ := isOf hZ eh16 fq16_0
  obtain ⟨vv19, _, ⟨T19, L19, kk19, nn19⟩, -, X19, ⟨Lc19, hQ19, l19, y19, z19⟩, st19⟩ := X16.virtualBack hx (y := (⟨"com/example/baraja/baraja/games/sabacckessel/FamilyCards", "drawFromDiscards", "()Lcom/example/baraja/baraja/games/sabacckessel/Card;"⟩ : MethodName)) (z := (⟨"com/example/baraja/baraja/games/sabacckessel/FamilyCards", "drawFromDiscards", "()Lcom/example/baraja/baraja/games/sabacckessel/Card;"⟩ : MethodName)) hown (mvT hZ (hw _ (List.mem_of_getElem? (i := 39) rfl))) (mvT hZ (hw _ (List.mem_of_getElem? (i := 40) rfl))) (notFace_of_selects (args := #[]) (mvT hZ (hw _ (List.mem_of_getElem? (i := 42) rfl)))) (mvT hZ (hw _ (List.mem_of_getElem? (i := 42) rfl))) (mvT hZ (hw _ (List.mem_of_getElem? (i := 41) rfl))) (by decide) (backOf (W := 0) (own_draw_1 l Z a0 hw [] hh16 n0 (Nat.le_trans Z0 Kp16.1) b1 dd kd ca fq16_0 fq16_1 fq16_2 fq16_3 fq3_4 g_b1 g_dd ne_b1_dd) hZ (hw _ (List.mem_of_getElem? (i := 43) rfl)) (hw _ (List.mem_of_getElem? (i := 2) rfl)) (by decide) (by decide)) qa18 qc18 (g := (mkF m 139 #[.val (.int p1), .val (.int p2), .val (.int p3), .val (.int p4), .val (.int p5), .val (.ref b1), .val (.ref ca), .val (.ref cb), .val (.ref cd), .val (.int (1 : Int32)), .val (.ref ca), .val .null, .unset, .unset, .unset] [(.ref b1)])) rfl (by rw [hml]; rfl) (Steps.refl _) (argsL := []) (rest := []) (lenOf own_pd___Lcom_example_baraja_baraja_games_sabacckessel_Card_ rfl) rfl (by show 2 * 0 + _ ≤ _; exact Nat.le_of_eq rfl) (hb hby at_139) (fun _ _ => ⟨rfl, eh16, (by decide : 5 + 0 ≤ _), (by decide : 66 + 0 ≤ _)⟩)
  dsimp only [Pt.U, Pt.locs, Pt.cells, Pt.slots] at X19 l19 y19 z19 st19 hQ19
  subst l19 y19 z19
  obtain ⟨hh19, eh19⟩ : ∃ h, T19.heap = h := ⟨_, rfl⟩
  rw [eh19] at hQ19
  obtain ⟨rfl, Nq19, Kq19, fq19_0, fq19_1, fq19_2, fq19_3⟩ := hQ19
  have N19 := Fr.app N16 Nq19
  have Kp19 := Keep.trans Kp16 Kq19 (allS (Or.inr sz_b1) (allS (Or.inr sz_dd) all0))
  have ch20 : ∀ t, Steps p.tables e below (T19.setTop (mkF m 142 #[.val (.int p1), .val (.int p2), .val (.int p3), .val (.int p4), .val (.int p5), .val (.ref b1), .val (.ref ca), .val (.ref cb), .val (.ref cd), .val (.int (1 : Int32)), .val (.ref ca), .val .null, .unset, .unset, .unset] [(.ref ca)])) t → Steps p.tables e below (s₁.setTop (entryFrame m #[(.int p1), (.int p2), (.int p3), (.int p4), (.int p5)] maxLocals)) t := fun t k => ch17 t (by
      show Steps p.tables e below (T16.setTop (mkF m 60 #[.val (.int p1), .val (.int p2), .val (.int p3), .val (.int p4), .val (.int p5), .val (.ref b1), .val (.ref ca), .val (.ref cb), .val (.ref cd), .val (.int (1 : Int32)), .unset, .unset, .unset, .unset, .unset] [])) t
      refine XS.iload X16.here hx rfl (hb hby at_60) rfl ?_
      show Steps p.tables e below (T16.setTop (mkF m 62 #[.val (.int p1), .val (.int p2), .val (.int p3), .val (.int p4), .val (.int p5), .val (.ref b1), .val (.ref ca), .val (.ref cb), .val (.ref cd), .val (.int (1 : Int32)), .unset, .unset, .unset, .unset, .unset] [(.int (1 : Int32))])) t
      refine XS.iconst X16.here hx rfl (hb hby at_62) ?_
      show Steps p.tables e below (T16.setTop (mkF m 63 #[.val (.int p1), .val (.int p2), .val (.int p3), .val (.int p4), .val (.int p5), .val (.ref b1), .val (.ref ca), .val (.ref cb), .val (.ref cd), .val (.int (1 : Int32)), .unset, .unset, .unset, .unset, .unset] [(.int (2 : Int32)), (.int (1 : Int32))])) t
      refine XS.icmpYes X16.here hx rfl (pc0 := 63) (pc' := 73) rfl (hb hby at_63) rfl (tlt (by decide : (1 : Int32) < (2 : Int32))).1 (by decide) (by decide) ?_
      show Steps p.tables e below (T16.setTop (mkF m 73 #[.val (.int p1), .val (.int p2), .val (.int p3), .val (.int p4), .val (.int p5), .val (.ref b1), .val (.ref ca), .val (.ref cb), .val (.ref cd), .val (.int (1 : Int32)), .unset, .unset, .unset, .unset, .unset] [])) t
      refine XS.iload X16.here hx rfl (hb hby at_73) rfl ?_
      show Steps p.tables e below (T16.setTop (mkF m 75 #[.val (.int p1), .val (.int p2), .val (.int p3), .val (.int p4), .val (.int p5), .val (.ref b1), .val (.ref ca), .val (.ref cb), .val (.ref cd), .val (.int (1 : Int32)), .unset, .unset, .unset, .unset, .unset] [(.int (1 : Int32))])) t
      refine XS.iconst X16.here hx rfl (hb hby at_75) ?_
      show Steps p.tables e below (T16.setTop (mkF m 76 #[.val (.int p1), .val (.int p2), .val (.int p3), .val (.int p4), .val (.int p5), .val (.ref b1), .val (.ref ca), .val (.ref cb), .val (.ref cd), .val (.int (1 : Int32)), .unset, .unset, .unset, .unset, .unset] [(.int (3 : Int32)), (.int (1 : Int32))])) t
      refine XS.icmpYes X16.here hx rfl (pc0 := 76) (pc' := 86) rfl (hb hby at_76) rfl (tlt (by decide : (1 : Int32) < (3 : Int32))).1 (by decide) (by decide) ?_
      show Steps p.tables e below (T16.setTop (mkF m 86 #[.val (.int p1), .val (.int p2), .val (.int p3), .val (.int p4), .val (.int p5), .val (.ref b1), .val (.ref ca), .val (.ref cb), .val (.ref cd), .val (.int (1 : Int32)), .unset, .unset, .unset, .unset, .unset] [])) t
      refine XS.iload X16.here hx rfl (hb hby at_86) rfl ?_
      show Steps p.tables e below (T16.setTop (mkF m 88 #[.val (.int p1), .val (.int p2), .val (.int p3), .val (.int p4), .val (.int p5), .val (.ref b1), .val (.ref ca), .val (.ref cb), .val (.ref cd), .val (.int (1 : Int32)), .unset, .unset, .unset, .unset, .unset] [(.int (1 : Int32))])) t
      refine XS.iconst X16.here hx rfl (hb hby at_88) ?_
      show Steps p.tables e below (T16.setTop (mkF m 89 #[.val (.int p1), .val (.int p2), .val (.int p3), .val (.int p4), .val (.int p5), .val (.ref b1), .val (.ref ca), .val (.ref cb), .val (.ref cd), .val (.int (1 : Int32)), .unset, .unset, .unset, .unset, .unset] [(.int (1 : Int32)), (.int (1 : Int32))])) t
      refine XS.icmpNo X16.here hx rfl (hb hby at_89) rfl (teq (by decide : (1 : Int32) = (1 : Int32))).2 ?_
      show Steps p.tables e below (T16.setTop (mkF m 92 #[.val (.int p1), .val (.int p2), .val (.int p3), .val (.int p4), .val (.int p5), .val (.ref b1), .val (.ref ca), .val (.ref cb), .val (.ref cd), .val (.int (1 : Int32)), .unset, .unset, .unset, .unset, .unset] [])) t
      refine XS.aload X16.here hx rfl (hb hby at_92) rfl rfl ?_
      show Steps p.tables e below (T16.setTop (mkF m 94 #[.val (.int p1), .val (.int p2), .val (.int p3), .val (.int p4), .val (.int p5), .val (.ref b1), .val (.ref ca), .val (.ref cb), .val (.ref cd), .val (.int (1 : Int32)), .unset, .unset, .unset, .unset, .unset] [(.ref ca)])) t
      refine XS.goto X16.here hx rfl (pc0 := 94) (pc' := 110) rfl (hb hby at_94) (by decide) (by decide) ?_
      show Steps p.tables e below (T16.setTop (mkF m 110 #[.val (.int p1), .val (.int p2), .val (.int p3), .val (.int p4), .val (.int p5), .val (.ref b1), .val (.ref ca), .val (.ref cb), .val (.ref cd), .val (.int (1 : Int32)), .unset, .unset, .unset, .unset, .unset] [(.ref ca)])) t
      refine XS.astore X16.here hx rfl (hb hby at_110) rfl rfl (l' := #[.val (.int p1), .val (.int p2), .val (.int p3), .val (.int p4), .val (.int p5), .val (.ref b1), .val (.ref ca), .val (.ref cb), .val (.ref cd), .val (.int (1 : Int32)), .val (.ref ca), .unset, .unset, .unset, .unset]) rfl ?_
      show Steps p.tables e below (T16.setTop (mkF m 112 #[.val (.int p1), .val (.int p2), .val (.int p3), .val (.int p4), .val (.int p5), .val (.ref b1), .val (.ref ca), .val (.ref cb), .val (.ref cd), .val (.int (1 : Int32)), .val (.ref ca), .unset, .unset, .unset, .unset] [])) t
      refine XS.iload X16.here hx rfl (hb hby at_112) rfl ?_
      show Steps p.tables e below (T16.setTop (mkF m 114 #[.val (.int p1), .val (.int p2), .val (.int p3), .val (.int p4), .val (.int p5), .val (.ref b1), .val (.ref ca), .val (.ref cb), .val (.ref cd), .val (.int (1 : Int32)), .val (.ref ca), .unset, .unset, .unset, .unset] [(.int (1 : Int32))])) t
      refine XS.iconst X16.here hx rfl (hb hby at_114) ?_
      show Steps p.tables e below (T16.setTop (mkF m 115 #[.val (.int p1), .val (.int p2), .val (.int p3), .val (.int p4), .val (.int p5), .val (.ref b1), .val (.ref ca), .val (.ref cb), .val (.ref cd), .val (.int (1 : Int32)), .val (.ref ca), .unset, .unset, .unset, .unset] [(.int (1 : Int32)), (.int (1 : Int32))])) t
      refine XS.icmpNo X16.here hx rfl (hb hby at_115) rfl (teq (by decide : (1 : Int32) = (1 : Int32))).2 ?_
      show Steps p.tables e below (T16.setTop (mkF m 118 #[.val (.int p1), .val (.int p2), .val (.int p3), .val (.int p4), .val (.int p5), .val (.ref b1), .val (.ref ca), .val (.ref cb), .val (.ref cd), .val (.int (1 : Int32)), .val (.ref ca), .unset, .unset, .unset, .unset] [])) t
      refine XS.aconstNull X16.here hx rfl (hb hby at_118) ?_
      show Steps p.tables e below (T16.setTop (mkF m 119 #[.val (.int p1), .val (.int p2), .val (.int p3), .val (.int p4), .val (.int p5), .val (.ref b1), .val (.ref ca), .val (.ref cb), .val (.ref cd), .val (.int (1 : Int32)), .val (.ref ca), .unset, .unset, .unset, .unset] [.null])) t
      refine XS.goto X16.here hx rfl (pc0 := 119) (pc' := 135) rfl (hb hby at_119) (by decide) (by decide) ?_
      show Steps p.tables e below (T16.setTop (mkF m 135 #[.val (.int p1), .val (.int p2), .val (.int p3), .val (.int p4), .val (.int p5), .val (.ref b1), .val (.ref ca), .val (.ref cb), .val (.ref cd), .val (.int (1 : Int32)), .val (.ref ca), .unset, .unset, .unset, .unset] [.null])) t
      refine XS.astore X16.here hx rfl (hb hby at_135) rfl rfl (l' := #[.val (.int p1), .val (.int p2), .val (.int p3), .val (.int p4), .val (.int p5), .val (.ref b1), .val (.ref ca), .val (.ref cb), .val (.ref cd), .val (.int (1 : Int32)), .val (.ref ca), .val .null, .unset, .unset, .unset]) rfl ?_
      show Steps p.tables e below (T16.setTop (mkF m 137 #[.val (.int p1), .val (.int p2), .val (.int p3), .val (.int p4), .val (.int p5), .val (.ref b1), .val (.ref ca), .val (.ref cb), .val (.ref cd), .val (.int (1 : Int32)), .val (.ref ca), .val .null, .unset, .unset, .unset] [])) t
      refine XS.aload X16.here hx rfl (hb hby at_137) rfl rfl ?_
      show Steps p.tables e below (T16.setTop (mkF m 139 #[.val (.int p1), .val (.int p2), .val (.int p3), .val (.int p4), .val (.int p5), .val (.ref b1), .val (.ref ca), .val (.ref cb), .val (.ref cd), .val (.int (1 : Int32)), .val (.ref ca), .val .null, .unset, .unset, .unset] [(.ref b1)])) t
      exact st19.trans k)
  obtain ⟨cq21, kq21, qa21, qb21, qc21⟩ := isOf hZ eh19 fq19_0
  obtain ⟨vv22, _, ⟨T22, L22, kk22, nn22⟩, -, X22, ⟨Lc22, hQ22, l22, y22, z22⟩, st22⟩ := X19.virtualBack hx (y := (⟨"com/example/baraja/baraja/games/sabacckessel/FamilyCards", "topDiscard", "()Lcom/example/baraja/baraja/games/sabacckessel/Card;"⟩ : MethodName)) (z := (⟨"com/example/baraja/baraja/games/sabacckessel/FamilyCards", "topDiscard", "()Lcom/example/baraja/baraja/games/sabacckessel/Card;"⟩ : MethodName)) hown (mvT hZ (hw _ (List.mem_of_getElem? (i := 44) rfl))) (mvT hZ (hw _ (List.mem_of_getElem? (i := 45) rfl))) (notFace_of_selects (args := #[]) (mvT hZ (hw _ (List.mem_of_getElem? (i := 47) rfl)))) (mvT hZ (hw _ (List.mem_of_getElem? (i := 47) rfl))) (mvT hZ (hw _ (List.mem_of_getElem? (i := 46) rfl))) (by decide) (backOf (W := 0) (own_top_0 l Z a0 hw [] hh19 n0 (Nat.le_trans Z0 Kp19.1) b1 dd kd  fq19_0 fq19_1 fq19_2 fq19_3 fq3_4 g_b1 g_dd ne_b1_dd) hZ (hw _ (List.mem_of_getElem? (i := 48) rfl)) (hw _ (List.mem_of_getElem? (i := 2) rfl)) (by decide) (by decide)) qa21 qc21 (g := (mkF m 165 #[.val (.int p1), .val (.int p2), .val (.int p3), .val (.int p4), .val (.int p5), .val (.ref b1), .val (.ref ca), .val (.ref cb), .val (.ref cd), .val (.int (1 : Int32)), .val (.ref ca), .val .null, .val (.ref ca), .val (.int (1 : Int32)), .unset] [(.ref b1)])) rfl (by rw [hml]; rfl) (Steps.refl _) (argsL := []) (rest := []) (lenOf own_pd___Lcom_example_baraja_baraja_games_sabacckessel_Card_ rfl) rfl (by show 2 * 0 + _ ≤ _; exact Nat.le_of_eq rfl) (hb hby at_165) (fun _ _ => ⟨rfl, eh19, (by decide : 5 + 0 ≤ _), (by decide : 66 + 0 ≤ _)⟩)
  dsimp only [Pt.U, Pt.locs, Pt.cells, Pt.slots] at X22 l22 y22 z22 st22 hQ22
  subst l22 y22 z22
  obtain ⟨rfl, Nq22, e22⟩ := hQ22
  have N22 := Fr.app N19 Nq22
  have ch23 : ∀ t, Steps p.tables e below (T22.setTop (mkF m 168 #[.val (.int p1), .val (.int p2), .val (.int p3), .val (.int p4), .val (.int p5), .val (.ref b1), .val (.ref ca), .val (.ref cb), .val (.ref cd), .val (.int (1 : Int32)), .val (.ref ca), .val .null, .val (.ref ca), .val (.int (1 : Int32)), .unset] [.null])) t → Steps p.tables e below (s₁.setTop (entryFrame m #[(.int p1), (.int p2), (.int p3), (.int p4), (.int p5)] maxLocals)) t := fun t k => ch20 t (by
      show Steps p.tables e below (T19.setTop (mkF m 142 #[.val (.int p1), .val (.int p2), .val (.int p3), .val (.int p4), .val (.int p5), .val (.ref b1), .val (.ref ca), .val (.ref cb), .val (.ref cd), .val (.int (1 : Int32)), .val (.ref ca), .val .null, .unset, .unset, .unset] [(.ref ca)])) t
      refine XS.astore X19.here hx rfl (hb hby at_142) rfl rfl (l' := #[.val (.int p1), .val (.int p2), .val (.int p3), .val (.int p4), .val (.int p5), .val (.ref b1), .val (.ref ca), .val (.ref cb), .val (.ref cd), .val (.int (1 : Int32)), .val (.ref ca), .val .null, .val (.ref ca), .unset, .unset]) rfl ?_
      show Steps p.tables e below (T19.setTop (mkF m 144 #[.val (.int p1), .val (.int p2), .val (.int p3), .val (.int p4), .val (.int p5), .val (.ref b1), .val (.ref ca), .val (.ref cb), .val (.ref cd), .val (.int (1 : Int32)), .val (.ref ca), .val .null, .val (.ref ca), .unset, .unset] [])) t
      refine XS.aload X19.here hx rfl (hb hby at_144) rfl rfl ?_
      show Steps p.tables e below (T19.setTop (mkF m 146 #[.val (.int p1), .val (.int p2), .val (.int p3), .val (.int p4), .val (.int p5), .val (.ref b1), .val (.ref ca), .val (.ref cb), .val (.ref cd), .val (.int (1 : Int32)), .val (.ref ca), .val .null, .val (.ref ca), .unset, .unset] [(.ref ca)])) t
      refine XS.aload X19.here hx rfl (hb hby at_146) rfl rfl ?_
      show Steps p.tables e below (T19.setTop (mkF m 148 #[.val (.int p1), .val (.int p2), .val (.int p3), .val (.int p4), .val (.int p5), .val (.ref b1), .val (.ref ca), .val (.ref cb), .val (.ref cd), .val (.int (1 : Int32)), .val (.ref ca), .val .null, .val (.ref ca), .unset, .unset] [(.ref ca), (.ref ca)])) t
      refine Jvm.RoadKit.acmp (g := (mkF m 148 #[.val (.int p1), .val (.int p2), .val (.int p3), .val (.int p4), .val (.int p5), .val (.ref b1), .val (.ref ca), .val (.ref cb), .val (.ref cd), .val (.int (1 : Int32)), .val (.ref ca), .val .null, .val (.ref ca), .unset, .unset] [(.ref ca), (.ref ca)])) X19 hx rfl rfl rfl (pc0 := 148) (pc' := 151) (same := true) rfl (hb hby at_148) rfl (decide_eq_true rfl) (by decide) (by decide) ?_
      show Steps p.tables e below (T19.setTop (mkF m 151 #[.val (.int p1), .val (.int p2), .val (.int p3), .val (.int p4), .val (.int p5), .val (.ref b1), .val (.ref ca), .val (.ref cb), .val (.ref cd), .val (.int (1 : Int32)), .val (.ref ca), .val .null, .val (.ref ca), .unset, .unset] [])) t
      refine XS.iconst X19.here hx rfl (hb hby at_151) ?_
      show Steps p.tables e below (T19.setTop (mkF m 152 #[.val (.int p1), .val (.int p2), .val (.int p3), .val (.int p4), .val (.int p5), .val (.ref b1), .val (.ref ca), .val (.ref cb), .val (.ref cd), .val (.int (1 : Int32)), .val (.ref ca), .val .null, .val (.ref ca), .unset, .unset] [(.int (1 : Int32))])) t
      refine XS.goto X19.here hx rfl (pc0 := 152) (pc' := 156) rfl (hb hby at_152) (by decide) (by decide) ?_
      show Steps p.tables e below (T19.setTop (mkF m 156 #[.val (.int p1), .val (.int p2), .val (.int p3), .val (.int p4), .val (.int p5), .val (.ref b1), .val (.ref ca), .val (.ref cb), .val (.ref cd), .val (.int (1 : Int32)), .val (.ref ca), .val .null, .val (.ref ca), .unset, .unset] [(.int (1 : Int32))])) t
      refine XS.istore X19.here hx rfl (hb hby at_156) rfl (l' := #[.val (.int p1), .val (.int p2), .val (.int p3), .val (.int p4), .val (.int p5), .val (.ref b1), .val (.ref ca), .val (.ref cb), .val (.ref cd), .val (.int (1 : Int32)), .val (.ref ca), .val .null, .val (.ref ca), .val (.int (1 : Int32)), .unset]) rfl ?_
      show Steps p.tables e below (T19.setTop (mkF m 158 #[.val (.int p1), .val (.int p2), .val (.int p3), .val (.int p4), .val (.int p5), .val (.ref b1), .val (.ref ca), .val (.ref cb), .val (.ref cd), .val (.int (1 : Int32)), .val (.ref ca), .val .null, .val (.ref ca), .val (.int (1 : Int32)), .unset] [])) t
      refine XS.iload X19.here hx rfl (hb hby at_158) rfl ?_
      show Steps p.tables e below (T19.setTop (mkF m 160 #[.val (.int p1), .val (.int p2), .val (.int p3), .val (.int p4), .val (.int p5), .val (.ref b1), .val (.ref ca), .val (.ref cb), .val (.ref cd), .val (.int (1 : Int32)), .val (.ref ca), .val .null, .val (.ref ca), .val (.int (1 : Int32)), .unset] [(.int (1 : Int32))])) t
      refine XS.ifNo X19.here hx rfl (hb hby at_160) rfl ((if0 _ _).trans (feq (by decide : ¬ (1 : Int32) = (0 : Int32))).1) ?_
      show Steps p.tables e below (T19.setTop (mkF m 163 #[.val (.int p1), .val (.int p2), .val (.int p3), .val (.int p4), .val (.int p5), .val (.ref b1), .val (.ref ca), .val (.ref cb), .val (.ref cd), .val (.int (1 : Int32)), .val (.ref ca), .val .null, .val (.ref ca), .val (.int (1 : Int32)), .unset] [])) t
      refine XS.aload X19.here hx rfl (hb hby at_163) rfl rfl ?_
      show Steps p.tables e below (T19.setTop (mkF m 165 #[.val (.int p1), .val (.int p2), .val (.int p3), .val (.int p4), .val (.int p5), .val (.ref b1), .val (.ref ca), .val (.ref cb), .val (.ref cd), .val (.int (1 : Int32)), .val (.ref ca), .val .null, .val (.ref ca), .val (.int (1 : Int32)), .unset] [(.ref b1)])) t
      exact st22.trans k)
  obtain ⟨cq24, kq24, qa24, qb24, qc24⟩ := isOf hZ e22 fq19_0
  obtain ⟨vv25, _, ⟨T25, L25, kk25, nn25⟩, -, X25, ⟨Lc25, hQ25, l25, y25, z25⟩, st25⟩ := X22.virtualBack hx (y := (⟨"com/example/baraja/baraja/games/sabacckessel/FamilyCards", "discardsAreEmpty", "()Z"⟩ : MethodName)) (z := (⟨"com/example/baraja/baraja/games/sabacckessel/FamilyCards", "discardsAreEmpty", "()Z"⟩ : MethodName)) hown (mvT hZ (hw _ (List.mem_of_getElem? (i := 49) rfl))) (mvT hZ (hw _ (List.mem_of_getElem? (i := 50) rfl))) (notFace_of_selects (args := #[]) (mvT hZ (hw _ (List.mem_of_getElem? (i := 52) rfl)))) (mvT hZ (hw _ (List.mem_of_getElem? (i := 52) rfl))) (mvT hZ (hw _ (List.mem_of_getElem? (i := 51) rfl))) (by decide) (backOf (W := 0) (own_emp_0 l Z a0 hw [] hh19 n0 (Nat.le_trans Z0 Kp19.1) b1 dd kd  fq19_0 fq19_1 fq19_2 fq19_3 fq3_4 g_b1 g_dd ne_b1_dd) hZ (hw _ (List.mem_of_getElem? (i := 53) rfl)) (hw _ (List.mem_of_getElem? (i := 2) rfl)) (by decide) (by decide)) qa24 qc24 (g := (mkF m 187 #[.val (.int p1), .val (.int p2), .val (.int p3), .val (.int p4), .val (.int p5), .val (.ref b1), .val (.ref ca), .val (.ref cb), .val (.ref cd), .val (.int (1 : Int32)), .val (.ref ca), .val .null, .val (.ref ca), .val (.int (1 : Int32)), .unset] [(.ref b1)])) rfl (by rw [hml]; rfl) (Steps.refl _) (argsL := []) (rest := []) (lenOf own_pd___Z rfl) rfl (by show 2 * 0 + _ ≤ _; exact Nat.le_of_eq rfl) (hb hby at_187) (fun _ _ => ⟨rfl, e22, (by decide : 5 + 0 ≤ _), (by decide : 66 + 0 ≤ _)⟩)
  dsimp only [Pt.U, Pt.locs, Pt.cells, Pt.slots] at X25 l25 y25 z25 st25 hQ25
  subst l25 y25 z25
  obtain ⟨rfl, Nq25, e25⟩ := hQ25
  have N25 := Fr.app N22 Nq25
  have ch26 : ∀ t, Steps p.tables e below (T25.setTop (mkF m 190 #[.val (.int p1), .val (.int p2), .val (.int p3), .val (.int p4), .val (.int p5), .val (.ref b1), .val (.ref ca), .val (.ref cb), .val (.ref cd), .val (.int (1 : Int32)), .val (.ref ca), .val .null, .val (.ref ca), .val (.int (1 : Int32)), .unset] [(.int (1 : Int32))])) t → Steps p.tables e below (s₁.setTop (entryFrame m #[(.int p1), (.int p2), (.int p3), (.int p4), (.int p5)] maxLocals)) t := fun t k => ch23 t (by
      show Steps p.tables e below (T22.setTop (mkF m 168 #[.val (.int p1), .val (.int p2), .val (.int p3), .val (.int p4), .val (.int p5), .val (.ref b1), .val (.ref ca), .val (.ref cb), .val (.ref cd), .val (.int (1 : Int32)), .val (.ref ca), .val .null, .val (.ref ca), .val (.int (1 : Int32)), .unset] [.null])) t
      refine XS.aload X22.here hx rfl (hb hby at_168) rfl rfl ?_
      show Steps p.tables e below (T22.setTop (mkF m 170 #[.val (.int p1), .val (.int p2), .val (.int p3), .val (.int p4), .val (.int p5), .val (.ref b1), .val (.ref ca), .val (.ref cb), .val (.ref cd), .val (.int (1 : Int32)), .val (.ref ca), .val .null, .val (.ref ca), .val (.int (1 : Int32)), .unset] [.null, .null])) t
      refine Jvm.RoadKit.acmp (g := (mkF m 170 #[.val (.int p1), .val (.int p2), .val (.int p3), .val (.int p4), .val (.int p5), .val (.ref b1), .val (.ref ca), .val (.ref cb), .val (.ref cd), .val (.int (1 : Int32)), .val (.ref ca), .val .null, .val (.ref ca), .val (.int (1 : Int32)), .unset] [.null, .null])) X22 hx rfl rfl rfl (pc0 := 170) (pc' := 173) (same := true) rfl (hb hby at_170) rfl (decide_eq_true rfl) (by decide) (by decide) ?_
      show Steps p.tables e below (T22.setTop (mkF m 173 #[.val (.int p1), .val (.int p2), .val (.int p3), .val (.int p4), .val (.int p5), .val (.ref b1), .val (.ref ca), .val (.ref cb), .val (.ref cd), .val (.int (1 : Int32)), .val (.ref ca), .val .null, .val (.ref ca), .val (.int (1 : Int32)), .unset] [])) t
      refine XS.iconst X22.here hx rfl (hb hby at_173) ?_
      show Steps p.tables e below (T22.setTop (mkF m 174 #[.val (.int p1), .val (.int p2), .val (.int p3), .val (.int p4), .val (.int p5), .val (.ref b1), .val (.ref ca), .val (.ref cb), .val (.ref cd), .val (.int (1 : Int32)), .val (.ref ca), .val .null, .val (.ref ca), .val (.int (1 : Int32)), .unset] [(.int (1 : Int32))])) t
      refine XS.goto X22.here hx rfl (pc0 := 174) (pc' := 178) rfl (hb hby at_174) (by decide) (by decide) ?_
      show Steps p.tables e below (T22.setTop (mkF m 178 #[.val (.int p1), .val (.int p2), .val (.int p3), .val (.int p4), .val (.int p5), .val (.ref b1), .val (.ref ca), .val (.ref cb), .val (.ref cd), .val (.int (1 : Int32)), .val (.ref ca), .val .null, .val (.ref ca), .val (.int (1 : Int32)), .unset] [(.int (1 : Int32))])) t
      refine XS.istore X22.here hx rfl (hb hby at_178) rfl (l' := #[.val (.int p1), .val (.int p2), .val (.int p3), .val (.int p4), .val (.int p5), .val (.ref b1), .val (.ref ca), .val (.ref cb), .val (.ref cd), .val (.int (1 : Int32)), .val (.ref ca), .val .null, .val (.ref ca), .val (.int (1 : Int32)), .unset]) rfl ?_
      show Steps p.tables e below (T22.setTop (mkF m 180 #[.val (.int p1), .val (.int p2), .val (.int p3), .val (.int p4), .val (.int p5), .val (.ref b1), .val (.ref ca), .val (.ref cb), .val (.ref cd), .val (.int (1 : Int32)), .val (.ref ca), .val .null, .val (.ref ca), .val (.int (1 : Int32)), .unset] [])) t
      refine XS.iload X22.here hx rfl (hb hby at_180) rfl ?_
      show Steps p.tables e below (T22.setTop (mkF m 182 #[.val (.int p1), .val (.int p2), .val (.int p3), .val (.int p4), .val (.int p5), .val (.ref b1), .val (.ref ca), .val (.ref cb), .val (.ref cd), .val (.int (1 : Int32)), .val (.ref ca), .val .null, .val (.ref ca), .val (.int (1 : Int32)), .unset] [(.int (1 : Int32))])) t
      refine XS.ifNo X22.here hx rfl (hb hby at_182) rfl ((if0 _ _).trans (feq (by decide : ¬ (1 : Int32) = (0 : Int32))).1) ?_
      show Steps p.tables e below (T22.setTop (mkF m 185 #[.val (.int p1), .val (.int p2), .val (.int p3), .val (.int p4), .val (.int p5), .val (.ref b1), .val (.ref ca), .val (.ref cb), .val (.ref cd), .val (.int (1 : Int32)), .val (.ref ca), .val .null, .val (.ref ca), .val (.int (1 : Int32)), .unset] [])) t
      refine XS.aload X22.here hx rfl (hb hby at_185) rfl rfl ?_
      show Steps p.tables e below (T22.setTop (mkF m 187 #[.val (.int p1), .val (.int p2), .val (.int p3), .val (.int p4), .val (.int p5), .val (.ref b1), .val (.ref ca), .val (.ref cb), .val (.ref cd), .val (.int (1 : Int32)), .val (.ref ca), .val .null, .val (.ref ca), .val (.int (1 : Int32)), .unset] [(.ref b1)])) t
      exact st25.trans k)
  have ch27 : ∀ t, Steps p.tables e below (T25.setTop (mkF m 276 #[.val (.int p1), .val (.int p2), .val (.int p3), .val (.int p4), .val (.int p5), .val (.ref b1), .val (.ref ca), .val (.ref cb), .val (.ref cd), .val (.int (1 : Int32)), .val (.ref ca), .val .null, .val (.ref ca), .val (.int (1 : Int32)), .unset] [(.int (1 : Int32))])) t → Steps p.tables e below (s₁.setTop (entryFrame m #[(.int p1), (.int p2), (.int p3), (.int p4), (.int p5)] maxLocals)) t := fun t k => ch26 t (by
      show Steps p.tables e below (T25.setTop (mkF m 190 #[.val (.int p1), .val (.int p2), .val (.int p3), .val (.int p4), .val (.int p5), .val (.ref b1), .val (.ref ca), .val (.ref cb), .val (.ref cd), .val (.int (1 : Int32)), .val (.ref ca), .val .null, .val (.ref ca), .val (.int (1 : Int32)), .unset] [(.int (1 : Int32))])) t
      refine XS.iload X25.here hx rfl (hb hby at_190) rfl ?_
      show Steps p.tables e below (T25.setTop (mkF m 192 #[.val (.int p1), .val (.int p2), .val (.int p3), .val (.int p4), .val (.int p5), .val (.ref b1), .val (.ref ca), .val (.ref cb), .val (.ref cd), .val (.int (1 : Int32)), .val (.ref ca), .val .null, .val (.ref ca), .val (.int (1 : Int32)), .unset] [(.int (1 : Int32)), (.int (1 : Int32))])) t
      refine XS.iconst X25.here hx rfl (hb hby at_192) ?_
      show Steps p.tables e below (T25.setTop (mkF m 193 #[.val (.int p1), .val (.int p2), .val (.int p3), .val (.int p4), .val (.int p5), .val (.ref b1), .val (.ref ca), .val (.ref cb), .val (.ref cd), .val (.int (1 : Int32)), .val (.ref ca), .val .null, .val (.ref ca), .val (.int (1 : Int32)), .unset] [(.int (1 : Int32)), (.int (1 : Int32)), (.int (1 : Int32))])) t
      refine XS.icmpNo X25.here hx rfl (hb hby at_193) rfl (teq (by decide : (1 : Int32) = (1 : Int32))).2 ?_
      show Steps p.tables e below (T25.setTop (mkF m 196 #[.val (.int p1), .val (.int p2), .val (.int p3), .val (.int p4), .val (.int p5), .val (.ref b1), .val (.ref ca), .val (.ref cb), .val (.ref cd), .val (.int (1 : Int32)), .val (.ref ca), .val .null, .val (.ref ca), .val (.int (1 : Int32)), .unset] [(.int (1 : Int32))])) t
      refine XS.iconst X25.here hx rfl (hb hby at_196) ?_
      show Steps p.tables e below (T25.setTop (mkF m 197 #[.val (.int p1), .val (.int p2), .val (.int p3), .val (.int p4), .val (.int p5), .val (.ref b1), .val (.ref ca), .val (.ref cb), .val (.ref cd), .val (.int (1 : Int32)), .val (.ref ca), .val .null, .val (.ref ca), .val (.int (1 : Int32)), .unset] [(.int (1 : Int32)), (.int (1 : Int32))])) t
      refine XS.goto X25.here hx rfl (pc0 := 197) (pc' := 201) rfl (hb hby at_197) (by decide) (by decide) ?_
      show Steps p.tables e below (T25.setTop (mkF m 201 #[.val (.int p1), .val (.int p2), .val (.int p3), .val (.int p4), .val (.int p5), .val (.ref b1), .val (.ref ca), .val (.ref cb), .val (.ref cd), .val (.int (1 : Int32)), .val (.ref ca), .val .null, .val (.ref ca), .val (.int (1 : Int32)), .unset] [(.int (1 : Int32)), (.int (1 : Int32))])) t
      refine XS.icmpNo X25.here hx rfl (hb hby at_201) rfl (teq (by decide : (1 : Int32) = (1 : Int32))).2 ?_
      show Steps p.tables e below (T25.setTop (mkF m 204 #[.val (.int p1), .val (.int p2), .val (.int p3), .val (.int p4), .val (.int p5), .val (.ref b1), .val (.ref ca), .val (.ref cb), .val (.ref cd), .val (.int (1 : Int32)), .val (.ref ca), .val .null, .val (.ref ca), .val (.int (1 : Int32)), .unset] [])) t
      refine XS.iconst X25.here hx rfl (hb hby at_204) ?_
      show Steps p.tables e below (T25.setTop (mkF m 205 #[.val (.int p1), .val (.int p2), .val (.int p3), .val (.int p4), .val (.int p5), .val (.ref b1), .val (.ref ca), .val (.ref cb), .val (.ref cd), .val (.int (1 : Int32)), .val (.ref ca), .val .null, .val (.ref ca), .val (.int (1 : Int32)), .unset] [(.int (1 : Int32))])) t
      refine XS.goto X25.here hx rfl (pc0 := 205) (pc' := 209) rfl (hb hby at_205) (by decide) (by decide) ?_
      show Steps p.tables e below (T25.setTop (mkF m 209 #[.val (.int p1), .val (.int p2), .val (.int p3), .val (.int p4), .val (.int p5), .val (.ref b1), .val (.ref ca), .val (.ref cb), .val (.ref cd), .val (.int (1 : Int32)), .val (.ref ca), .val .null, .val (.ref ca), .val (.int (1 : Int32)), .unset] [(.int (1 : Int32))])) t
      refine XS.istore X25.here hx rfl (hb hby at_209) rfl (l' := #[.val (.int p1), .val (.int p2), .val (.int p3), .val (.int p4), .val (.int p5), .val (.ref b1), .val (.ref ca), .val (.ref cb), .val (.ref cd), .val (.int (1 : Int32)), .val (.ref ca), .val .null, .val (.ref ca), .val (.int (1 : Int32)), .unset]) rfl ?_
      show Steps p.tables e below (T25.setTop (mkF m 211 #[.val (.int p1), .val (.int p2), .val (.int p3), .val (.int p4), .val (.int p5), .val (.ref b1), .val (.ref ca), .val (.ref cb), .val (.ref cd), .val (.int (1 : Int32)), .val (.ref ca), .val .null, .val (.ref ca), .val (.int (1 : Int32)), .unset] [])) t
      refine XS.iload X25.here hx rfl (hb hby at_211) rfl ?_
      show Steps p.tables e below (T25.setTop (mkF m 213 #[.val (.int p1), .val (.int p2), .val (.int p3), .val (.int p4), .val (.int p5), .val (.ref b1), .val (.ref ca), .val (.ref cb), .val (.ref cd), .val (.int (1 : Int32)), .val (.ref ca), .val .null, .val (.ref ca), .val (.int (1 : Int32)), .unset] [(.int (1 : Int32))])) t
      refine XS.iconst X25.here hx rfl (hb hby at_213) ?_
      show Steps p.tables e below (T25.setTop (mkF m 214 #[.val (.int p1), .val (.int p2), .val (.int p3), .val (.int p4), .val (.int p5), .val (.ref b1), .val (.ref ca), .val (.ref cb), .val (.ref cd), .val (.int (1 : Int32)), .val (.ref ca), .val .null, .val (.ref ca), .val (.int (1 : Int32)), .unset] [(.int (2 : Int32)), (.int (1 : Int32))])) t
      refine XS.icmpYes X25.here hx rfl (pc0 := 214) (pc' := 274) rfl (hb hby at_214) rfl (tlt (by decide : (1 : Int32) < (2 : Int32))).1 (by decide) (by decide) ?_
      show Steps p.tables e below (T25.setTop (mkF m 274 #[.val (.int p1), .val (.int p2), .val (.int p3), .val (.int p4), .val (.int p5), .val (.ref b1), .val (.ref ca), .val (.ref cb), .val (.ref cd), .val (.int (1 : Int32)), .val (.ref ca), .val .null, .val (.ref ca), .val (.int (1 : Int32)), .unset] [])) t
      refine XS.iload X25.here hx rfl (hb hby at_274) rfl ?_
      exact k)
  obtain ⟨fs, hr, hrun, hended, hW, hsame⟩ := X25.leave (v := some (.int (1 : Int32))) (fun h => by rw [Bd.returns] at h; cases h)
  refine ⟨_, _, ch27 _ ?_, hrun, hended, _, _, rfl, ?_, ⟨_, rfl⟩, hW, hsame.mono (by decide) (by decide)⟩
  · show Steps p.tables e below (T25.setTop (mkF m 276 #[.val (.int p1), .val (.int p2), .val (.int p3), .val (.int p4), .val (.int p5), .val (.ref b1), .val (.ref ca), .val (.ref cb), .val (.ref cd), .val (.int (1 : Int32)), .val (.ref ca), .val .null, .val (.ref ca), .val (.int (1 : Int32)), .unset] [(.int (1 : Int32))])) _
    exact retN X25 hx (t := .boolean) Bd.returns (by simp) (hb hby at_276) hr
  · show QN (some (.int (1 : Int32))) n0 _ T25.heap _
    rw [e25]
    exact ⟨rfl, N25⟩
theorem own_ef_own_law_1 (m : MethodId) {x0 : Int32} {x1 : Int32} {x2 : Int32} {x3 : Int32} {x4 : Int32} : entryFrame m #[(.int x0), (.int x1), (.int x2), (.int x3), (.int x4)] maxLocals = mkF m 0 #[.val (.int x0), .val (.int x1), .val (.int x2), .val (.int x3), .val (.int x4), .unset, .unset, .unset, .unset, .unset, .unset, .unset, .unset, .unset, .unset] [] := by first | (simp [entryFrame, mkF, argsToLocals, Value.category, maxLocals]; done) | rfl
set_option maxRecDepth 65536 in
set_option maxHeartbeats 40000000 in
theorem own_law_1 (l : Launch) (Z : State) (a0 : Array Value) (hw : ∀ d ∈ tables_1, d.before a0 Z = true) (ws : List Jvm.Cond) (h0 : Heap) (n0 : Nat) (Z0 : n0 ≤ h0.size) (p1 p2 p3 p4 p5 : Int32) (ca cb cd : Addr) (HA : ∀ (h : Heap) (n0 : Nat) (Z0 : n0 ≤ h.size) (E : Ext h0 h), MetFree l (⟨"com/example/baraja/baraja/games/sabacckessel/Card", "of", "(I)Lcom/example/baraja/baraja/games/sabacckessel/Card;"⟩ : MethodName) (head1 (Jvm.Cond.code (⟨"com/example/baraja/baraja/games/sabacckessel/Card", "of", "(I)Lcom/example/baraja/baraja/games/sabacckessel/Card;"⟩ : MethodName) prog_38_method_8_code 1 (some (.object "com/example/baraja/baraja/games/sabacckessel/Card")) :: []) ({ frames := 0, cells := 0, slots := 0, locals := 0 } : Room)) (fun a U => a = #[(.int (p2 &&& (7 : Int32)))] ∧ Z.Warmed39 U.vm ∧ U.heap = h) (fun _ _ _ _ _ => True) (fun _ U o U' => ∃ v L, o = .returned v ∧ QV (some (.ref ca)) h n0 v U'.heap L ∧ FrameEnd U o U' L ({ frames := 0, cells := 0, slots := 0, locals := 0 } : Room).cells ({ frames := 0, cells := 0, slots := 0, locals := 0 } : Room).slots)) (HB : ∀ (h : Heap) (n0 : Nat) (Z0 : n0 ≤ h.size) (E : Ext h0 h), MetFree l (⟨"com/example/baraja/baraja/games/sabacckessel/Card", "of", "(I)Lcom/example/baraja/baraja/games/sabacckessel/Card;"⟩ : MethodName) (head1 (Jvm.Cond.code (⟨"com/example/baraja/baraja/games/sabacckessel/Card", "of", "(I)Lcom/example/baraja/baraja/games/sabacckessel/Card;"⟩ : MethodName) prog_38_method_8_code 1 (some (.object "com/example/baraja/baraja/games/sabacckessel/Card")) :: []) ({ frames := 0, cells := 0, slots := 0, locals := 0 } : Room)) (fun a U => a = #[(.int (p3 &&& (7 : Int32)))] ∧ Z.Warmed39 U.vm ∧ U.heap = h) (fun _ _ _ _ _ => True) (fun _ U o U' => ∃ v L, o = .returned v ∧ QV (some (.ref cb)) h n0 v U'.heap L ∧ FrameEnd U o U' L ({ frames := 0, cells := 0, slots := 0, locals := 0 } : Room).cells ({ frames := 0, cells := 0, slots := 0, locals := 0 } : Room).slots)) (HC : ∀ (h : Heap) (n0 : Nat) (Z0 : n0 ≤ h.size) (E : Ext h0 h), MetFree l (⟨"com/example/baraja/baraja/games/sabacckessel/Card", "of", "(I)Lcom/example/baraja/baraja/games/sabacckessel/Card;"⟩ : MethodName) (head1 (Jvm.Cond.code (⟨"com/example/baraja/baraja/games/sabacckessel/Card", "of", "(I)Lcom/example/baraja/baraja/games/sabacckessel/Card;"⟩ : MethodName) prog_38_method_8_code 1 (some (.object "com/example/baraja/baraja/games/sabacckessel/Card")) :: []) ({ frames := 0, cells := 0, slots := 0, locals := 0 } : Room)) (fun a U => a = #[(.int (p4 &&& (7 : Int32)))] ∧ Z.Warmed39 U.vm ∧ U.heap = h) (fun _ _ _ _ _ => True) (fun _ U o U' => ∃ v L, o = .returned v ∧ QV (some (.ref cd)) h n0 v U'.heap L ∧ FrameEnd U o U' L ({ frames := 0, cells := 0, slots := 0, locals := 0 } : Room).cells ({ frames := 0, cells := 0, slots := 0, locals := 0 } : Room).slots)) (E_ca : Exa Z h0 ca "com/example/baraja/baraja/games/sabacckessel/Card") (E_cb : Exa Z h0 cb "com/example/baraja/baraja/games/sabacckessel/Card") (E_cd : Exa Z h0 cd "com/example/baraja/baraja/games/sabacckessel/Card") (z0 : ¬ ((p1 &&& (7 : Int32)) + (1 : Int32)) < 0) (z8 : (((p1 &&& (7 : Int32)) + (1 : Int32))).toNatClampNeg ≤ 8) (hk : (p5 &&& (2147483647 : Int32)) % (3 : Int32) = (1 : Int32)) :
    MetFree l x (head1 (Jvm.Cond.code x code maxLocals ret :: ws) room_1) (fun a U => a = #[(.int p1), (.int p2), (.int p3), (.int p4), (.int p5)] ∧ Z.Warmed39 U.vm ∧ U.heap = h0) (fun _ _ _ _ _ => True) (fun _ U o U' => ∃ v L, o = .returned v ∧ QN (some (.int (1 : Int32))) n0 v U'.heap L ∧ FrameEnd U o U' L room_1.cells room_1.slots) := by
  refine MetFree.of_bodySF (plainFor_of_name own_pn_com_example_baraja_baraja_games_sabacckessel_FamilyCardsDrawFromDiscardsPinLaw) hisR ?_
  intro p e s m args below meth c s₁ Bd hml0 hP hK
  obtain ⟨rfl, hZ, hh⟩ := hP
  have hx := Bd.exec
  have hby := Bd.bytes
  have hml : c.maxLocals = 15 := hml0
  have hown : s.vm.findClass "com/example/baraja/baraja/games/sabacckessel/FamilyCardsDrawFromDiscardsPinLaw" = some m.cls := findClass_of_methodNamed Bd.named
  have hnm := (name_of_methodNamed Bd.named Bd.method).1
  have X0 : Stand p l e room_1 s m #[(.int p1), (.int p2), (.int p3), (.int p4), (.int p5)] below meth c s₁ [] 0 0 := Stand.of_body Bd
  have e0 : s₁.heap = h0 := by rw [← hh, Bd.state]; rfl
  have N0 := Fr.nil n0
  have pre0 : ∀ t, Steps p.tables e below (s₁.setTop (mkF m 0 #[.val (.int p1), .val (.int p2), .val (.int p3), .val (.int p4), .val (.int p5), .unset, .unset, .unset, .unset, .unset, .unset, .unset, .unset, .unset, .unset] [])) t → Steps p.tables e below (s₁.setTop (entryFrame m #[(.int p1), (.int p2), (.int p3), (.int p4), (.int p5)] maxLocals)) t := fun t k => castTop (own_ef_own_law_1 m) k
  obtain ⟨T1, hp1, X1, e1, E1, A1, D1, -, st1⟩ := newO X0 hx hZ hown (hw _ (List.mem_of_getElem? (i := 0) rfl)) (hw _ (List.mem_of_getElem? (i := 1) rfl)) (hw _ (List.mem_of_getElem? (i := 2) rfl)) e0 (g := (mkF m 0 #[.val (.int p1), .val (.int p2), .val (.int p3), .val (.int p4), .val (.int p5), .unset, .unset, .unset, .unset, .unset, .unset, .unset, .unset, .unset, .unset] [])) rfl (hb hby at_0) (by decide) (by decide)
  obtain ⟨b1, g1⟩ : ∃ z, z = h0.size := ⟨_, rfl⟩
  rw [← g1] at A1 D1 st1
  have ne_ca_b1 : ca ≠ b1 := Nat.ne_of_lt (Nat.lt_of_lt_of_le E_ca.lt (Nat.le_of_eq g1.symm))
  have ne_cb_b1 : cb ≠ b1 := Nat.ne_of_lt (Nat.lt_of_lt_of_le E_cb.lt (Nat.le_of_eq g1.symm))
  have ne_cd_b1 : cd ≠ b1 := Nat.ne_of_lt (Nat.lt_of_lt_of_le E_cd.lt (Nat.le_of_eq g1.symm))
  have g_b1 : n0 ≤ b1 := Nat.le_trans (Nat.le_trans Z0 (Keep.refl h0 []).1) (Nat.le_of_eq g1.symm)
  have sz_b1 : h0.size ≤ b1 := Nat.le_trans (Keep.refl h0 []).1 (Nat.le_of_eq g1.symm)
  have Kp1 := Keep.ext (Keep.refl h0 []) E1
  have F1_11 : Fld Z hp1 b1 "com/example/baraja/baraja/games/sabacckessel/FamilyCards" "deck" "[B" .null := D1 (Or.inr (hw _ (List.mem_of_getElem? (i := 11) rfl))) (ty := (.array .byte)) (by decide)
  have F1_15 : Fld Z hp1 b1 "com/example/baraja/baraja/games/sabacckessel/FamilyCards" "discards" "[Lcom/example/baraja/baraja/games/sabacckessel/Card;" .null := D1 (Or.inr (hw _ (List.mem_of_getElem? (i := 15) rfl))) (ty := (.array (.object "com/example/baraja/baraja/games/sabacckessel/Card"))) (by decide)
  have F1_17 : Fld Z hp1 b1 "com/example/baraja/baraja/games/sabacckessel/FamilyCards" "hands" "[Lcom/example/baraja/baraja/games/sabacckessel/Card;" .null := D1 (Or.inr (hw _ (List.mem_of_getElem? (i := 17) rfl))) (ty := (.array (.object "com/example/baraja/baraja/games/sabacckessel/Card"))) (by decide)
  have F1_20 : Fld Z hp1 b1 "com/example/baraja/baraja/games/sabacckessel/FamilyCards" "seenBy" "[I" .null := D1 (Or.inr (hw _ (List.mem_of_getElem? (i := 20) rfl))) (ty := (.array .int)) (by decide)
  have F1_37 : Fld Z hp1 b1 "com/example/baraja/baraja/games/sabacckessel/FamilyCards" "discardCount" "I" (.int (0 : Int32)) := D1 (Or.inl (hw _ (List.mem_of_getElem? (i := 37) rfl))) (ty := .int) (by decide)
  have ch2 : ∀ t, Steps p.tables e below (T1.setTop (mkF m 3 #[.val (.int p1), .val (.int p2), .val (.int p3), .val (.int p4), .val (.int p5), .unset, .unset, .unset, .unset, .unset, .unset, .unset, .unset, .unset, .unset] [(.ref b1)])) t → Steps p.tables e below (s₁.setTop (entryFrame m #[(.int p1), (.int p2), (.int p3), (.int p4), (.int p5)] maxLocals)) t := fun t k => pre0 t (by
      show Steps p.tables e below (s₁.setTop (mkF m 0 #[.val (.int p1), .val (.int p2), .val (.int p3), .val (.int p4), .val (.int p5), .unset, .unset, .unset, .unset, .unset, .unset, .unset, .unset, .unset, .unset] [])) t
      exact st1 t k)
  obtain ⟨vv3, _, ⟨T3, L3, kk3, nn3⟩, -, X3, ⟨Lc3, hQ3, l3, y3, z3⟩, st3⟩ := X1.specialBack hx (y := (⟨"com/example/baraja/baraja/games/sabacckessel/FamilyCards", "<init>", "(I)V"⟩ : MethodName)) rfl hown (mvT hZ (hw _ (List.mem_of_getElem? (i := 3) rfl))) (mvT hZ (hw _ (List.mem_of_getElem? (i := 4) rfl))) (mvT hZ (hw _ (List.mem_of_getElem? (i := 5) rfl))) (by decide) (backOf (W := 1) (own_ini l Z a0 hw [] hp1 n0 (Nat.le_trans Z0 Kp1.1) b1 ((p1 &&& (7 : Int32)) + (1 : Int32)) A1 F1_11 F1_15 F1_17 F1_20 F1_37 g_b1 z0 z8) hZ (hw _ (List.mem_of_getElem? (i := 5) rfl)) (hw _ (List.mem_of_getElem? (i := 2) rfl)) (by decide) (by decide)) (g := (mkF m 10 #[.val (.int p1), .val (.int p2), .val (.int p3), .val (.int p4), .val (.int p5), .unset, .unset, .unset, .unset, .unset, .unset, .unset, .unset, .unset, .unset] [(.int ((p1 &&& (7 : Int32)) + (1 : Int32))), (.ref b1), (.ref b1)])) rfl (by rw [hml]; rfl) (Steps.refl _) (a := b1) (argsL := [(.int ((p1 &&& (7 : Int32)) + (1 : Int32)))]) (rest := [(.ref b1)]) (lenOf own_pd__I_V rfl) rfl (by show 2 * 0 + _ ≤ _; exact Nat.le_of_eq rfl) (hb hby at_10) (fun _ _ => ⟨rfl, e1, (by decide : 1 + 4 ≤ _), (by decide : 6 + 60 ≤ _)⟩)
  dsimp only [Pt.U, Pt.locs, Pt.cells, Pt.slots] at X3 l3 y3 z3 st3 hQ3
  subst l3 y3 z3
  obtain ⟨hh3, eh3⟩ : ∃ h, T3.heap = h := ⟨_, rfl⟩
  rw [eh3] at hQ3
  obtain ⟨dd, kd, rfl, zq3, Nq3, Kq3, fq3_0, fq3_1, fq3_2, fq3_3, fq3_4⟩ := hQ3
  have N3 := Fr.app N0 Nq3
  have cf4 := (Exa.keep E_ca Kp1)
  have ne_ca_dd : ca ≠ dd := Nat.ne_of_lt (Nat.lt_of_lt_of_le cf4.lt zq3)
  have cf5 := (Exa.keep E_cb Kp1)
  have ne_cb_dd : cb ≠ dd := Nat.ne_of_lt (Nat.lt_of_lt_of_le cf5.lt zq3)
  have cf6 := (Exa.keep E_cd Kp1)
  have ne_cd_dd : cd ≠ dd := Nat.ne_of_lt (Nat.lt_of_lt_of_le cf6.lt zq3)
  have ne_b1_dd : b1 ≠ dd := Nat.ne_of_lt (Nat.lt_of_lt_of_le A1.lt zq3)
  have g_dd : n0 ≤ dd := Nat.le_trans (Nat.le_trans Z0 Kp1.1) zq3
  have sz_dd : h0.size ≤ dd := Nat.le_trans Kp1.1 zq3
  have Kp3 := Keep.trans Kp1 Kq3 (allS (Or.inr sz_b1) all0)
  have ch7 : ∀ t, Steps p.tables e below (T3.setTop (mkF m 13 #[.val (.int p1), .val (.int p2), .val (.int p3), .val (.int p4), .val (.int p5), .unset, .unset, .unset, .unset, .unset, .unset, .unset, .unset, .unset, .unset] [(.ref b1)])) t → Steps p.tables e below (s₁.setTop (entryFrame m #[(.int p1), (.int p2), (.int p3), (.int p4), (.int p5)] maxLocals)) t := fun t k => ch2 t (by
      show Steps p.tables e below (T1.setTop (mkF m 3 #[.val (.int p1), .val (.int p2), .val (.int p3), .val (.int p4), .val (.int p5), .unset, .unset, .unset, .unset, .unset, .unset, .unset, .unset, .unset, .unset] [(.ref b1)])) t
      refine XS.dup X1.here hx rfl (hb hby at_3) rfl rfl ?_
      show Steps p.tables e below (T1.setTop (mkF m 4 #[.val (.int p1), .val (.int p2), .val (.int p3), .val (.int p4), .val (.int p5), .unset, .unset, .unset, .unset, .unset, .unset, .unset, .unset, .unset, .unset] [(.ref b1), (.ref b1)])) t
      refine XS.iloadN X1.here hx rfl (hb hby at_4) rfl ?_
      show Steps p.tables e below (T1.setTop (mkF m 5 #[.val (.int p1), .val (.int p2), .val (.int p3), .val (.int p4), .val (.int p5), .unset, .unset, .unset, .unset, .unset, .unset, .unset, .unset, .unset, .unset] [(.int p1), (.ref b1), (.ref b1)])) t
      refine XS.bipush X1.here hx rfl (hb hby at_5) ?_
      show Steps p.tables e below (T1.setTop (mkF m 7 #[.val (.int p1), .val (.int p2), .val (.int p3), .val (.int p4), .val (.int p5), .unset, .unset, .unset, .unset, .unset, .unset, .unset, .unset, .unset, .unset] [(.int (7 : Int32)), (.int p1), (.ref b1), (.ref b1)])) t
      refine XS.iand X1.here hx rfl (hb hby at_7) rfl ?_
      show Steps p.tables e below (T1.setTop (mkF m 8 #[.val (.int p1), .val (.int p2), .val (.int p3), .val (.int p4), .val (.int p5), .unset, .unset, .unset, .unset, .unset, .unset, .unset, .unset, .unset, .unset] [(.int (p1 &&& (7 : Int32))), (.ref b1), (.ref b1)])) t
      refine XS.iconst X1.here hx rfl (hb hby at_8) ?_
      show Steps p.tables e below (T1.setTop (mkF m 9 #[.val (.int p1), .val (.int p2), .val (.int p3), .val (.int p4), .val (.int p5), .unset, .unset, .unset, .unset, .unset, .unset, .unset, .unset, .unset, .unset] [(.int (1 : Int32)), (.int (p1 &&& (7 : Int32))), (.ref b1), (.ref b1)])) t
      refine XS.iadd X1.here hx rfl (hb hby at_9) rfl ?_
      show Steps p.tables e below (T1.setTop (mkF m 10 #[.val (.int p1), .val (.int p2), .val (.int p3), .val (.int p4), .val (.int p5), .unset, .unset, .unset, .unset, .unset, .unset, .unset, .unset, .unset, .unset] [(.int ((p1 &&& (7 : Int32)) + (1 : Int32))), (.ref b1), (.ref b1)])) t
      exact st3.trans k)
  obtain ⟨vv8, _, ⟨T8, L8, kk8, nn8⟩, -, X8, ⟨Lc8, hQ8, l8, y8, z8⟩, st8⟩ := Jvm.LawKit.callS X3 hx (y := (⟨"com/example/baraja/baraja/games/sabacckessel/Card", "of", "(I)Lcom/example/baraja/baraja/games/sabacckessel/Card;"⟩ : MethodName)) hown (mvT hZ (hw _ (List.mem_of_getElem? (i := 21) rfl))) (mvT hZ (hw _ (List.mem_of_getElem? (i := 22) rfl))) (mvT hZ (hw _ (List.mem_of_getElem? (i := 23) rfl))) (mvT hZ (hw _ (List.mem_of_getElem? (i := 24) rfl))) (by decide) (backOf (W := 0) (HA hh3 n0 (Nat.le_trans Z0 Kp3.1) (own_ext_of_keep Kp3 all0)) hZ (hw _ (List.mem_of_getElem? (i := 24) rfl)) (hw _ (List.mem_of_getElem? (i := 23) rfl)) (by decide) (by decide)) (g := (mkF m 19 #[.val (.int p1), .val (.int p2), .val (.int p3), .val (.int p4), .val (.int p5), .val (.ref b1), .unset, .unset, .unset, .unset, .unset, .unset, .unset, .unset, .unset] [(.int (p2 &&& (7 : Int32)))])) rfl (by rw [hml]; rfl) (argsL := [(.int (p2 &&& (7 : Int32)))]) (rest := []) (lenOf own_pd__I_Lcom_example_baraja_baraja_games_sabacckessel_Card_ rfl) rfl (by show 2 * 0 + _ ≤ _; exact Nat.le_of_eq rfl) (hb hby at_19) (fun _ _ => ⟨rfl, eh3, (by decide : 5 + 0 ≤ _), (by decide : 66 + 0 ≤ _)⟩)
  dsimp only [Pt.U, Pt.locs, Pt.cells, Pt.slots] at X8 l8 y8 z8 st8 hQ8
  subst l8 y8 z8
  obtain ⟨rfl, Nq8, e8⟩ := hQ8
  have N8 := Fr.app N3 Nq8
  have ch9 : ∀ t, Steps p.tables e below (T8.setTop (mkF m 22 #[.val (.int p1), .val (.int p2), .val (.int p3), .val (.int p4), .val (.int p5), .val (.ref b1), .unset, .unset, .unset, .unset, .unset, .unset, .unset, .unset, .unset] [(.ref ca)])) t → Steps p.tables e below (s₁.setTop (entryFrame m #[(.int p1), (.int p2), (.int p3), (.int p4), (.int p5)] maxLocals)) t := fun t k => ch7 t (by
      show Steps p.tables e below (T3.setTop (mkF m 13 #[.val (.int p1), .val (.int p2), .val (.int p3), .val (.int p4), .val (.int p5), .unset, .unset, .unset, .unset, .unset, .unset, .unset, .unset, .unset, .unset] [(.ref b1)])) t
      refine XS.astore X3.here hx rfl (hb hby at_13) rfl rfl (l' := #[.val (.int p1), .val (.int p2), .val (.int p3), .val (.int p4), .val (.int p5), .val (.ref b1), .unset, .unset, .unset, .unset, .unset, .unset, .unset, .unset, .unset]) rfl ?_
      show Steps p.tables e below (T3.setTop (mkF m 15 #[.val (.int p1), .val (.int p2), .val (.int p3), .val (.int p4), .val (.int p5), .val (.ref b1), .unset, .unset, .unset, .unset, .unset, .unset, .unset, .unset, .unset] [])) t
      refine XS.iloadN X3.here hx rfl (hb hby at_15) rfl ?_
      show Steps p.tables e below (T3.setTop (mkF m 16 #[.val (.int p1), .val (.int p2), .val (.int p3), .val (.int p4), .val (.int p5), .val (.ref b1), .unset, .unset, .unset, .unset, .unset, .unset, .unset, .unset, .unset] [(.int p2)])) t
      refine XS.bipush X3.here hx rfl (hb hby at_16) ?_
      show Steps p.tables e below (T3.setTop (mkF m 18 #[.val (.int p1), .val (.int p2), .val (.int p3), .val (.int p4), .val (.int p5), .val (.ref b1), .unset, .unset, .unset, .unset, .unset, .unset, .unset, .unset, .unset] [(.int (7 : Int32)), (.int p2)])) t
      refine XS.iand X3.here hx rfl (hb hby at_18) rfl ?_
      show Steps p.tables e below (T3.setTop (mkF m 19 #[.val (.int p1), .val (.int p2), .val (.int p3), .val (.int p4), .val (.int p5), .val (.ref b1), .unset, .unset, .unset, .unset, .unset, .unset, .unset, .unset, .unset] [(.int (p2 &&& (7 : Int32)))])) t
      exact st8 t k)
  obtain ⟨vv10, _, ⟨T10, L10, kk10, nn10⟩, -, X10, ⟨Lc10, hQ10, l10, y10, z10⟩, st10⟩ := Jvm.LawKit.callS X8 hx (y := (⟨"com/example/baraja/baraja/games/sabacckessel/Card", "of", "(I)Lcom/example/baraja/baraja/games/sabacckessel/Card;"⟩ : MethodName)) hown (mvT hZ (hw _ (List.mem_of_getElem? (i := 21) rfl))) (mvT hZ (hw _ (List.mem_of_getElem? (i := 22) rfl))) (mvT hZ (hw _ (List.mem_of_getElem? (i := 23) rfl))) (mvT hZ (hw _ (List.mem_of_getElem? (i := 24) rfl))) (by decide) (backOf (W := 0) (HB hh3 n0 (Nat.le_trans Z0 Kp3.1) (own_ext_of_keep Kp3 all0)) hZ (hw _ (List.mem_of_getElem? (i := 24) rfl)) (hw _ (List.mem_of_getElem? (i := 23) rfl)) (by decide) (by decide)) (g := (mkF m 28 #[.val (.int p1), .val (.int p2), .val (.int p3), .val (.int p4), .val (.int p5), .val (.ref b1), .val (.ref ca), .unset, .unset, .unset, .unset, .unset, .unset, .unset, .unset] [(.int (p3 &&& (7 : Int32)))])) rfl (by rw [hml]; rfl) (argsL := [(.int (p3 &&& (7 : Int32)))]) (rest := []) (lenOf own_pd__I_Lcom_example_baraja_baraja_games_sabacckessel_Card_ rfl) rfl (by show 2 * 0 + _ ≤ _; exact Nat.le_of_eq rfl) (hb hby at_28) (fun _ _ => ⟨rfl, e8, (by decide : 5 + 0 ≤ _), (by decide : 66 + 0 ≤ _)⟩)
  dsimp only [Pt.U, Pt.locs, Pt.cells, Pt.slots] at X10 l10 y10 z10 st10 hQ10
  subst l10 y10 z10
  obtain ⟨rfl, Nq10, e10⟩ := hQ10
  have N10 := Fr.app N8 Nq10
  have ch11 : ∀ t, Steps p.tables e below (T10.setTop (mkF m 31 #[.val (.int p1), .val (.int p2), .val (.int p3), .val (.int p4), .val (.int p5), .val (.ref b1), .val (.ref ca), .unset, .unset, .unset, .unset, .unset, .unset, .unset, .unset] [(.ref cb)])) t → Steps p.tables e below (s₁.setTop (entryFrame m #[(.int p1), (.int p2), (.int p3), (.int p4), (.int p5)] maxLocals)) t := fun t k => ch9 t (by
      show Steps p.tables e below (T8.setTop (mkF m 22 #[.val (.int p1), .val (.int p2), .val (.int p3), .val (.int p4), .val (.int p5), .val (.ref b1), .unset, .unset, .unset, .unset, .unset, .unset, .unset, .unset, .unset] [(.ref ca)])) t
      refine XS.astore X8.here hx rfl (hb hby at_22) rfl rfl (l' := #[.val (.int p1), .val (.int p2), .val (.int p3), .val (.int p4), .val (.int p5), .val (.ref b1), .val (.ref ca), .unset, .unset, .unset, .unset, .unset, .unset, .unset, .unset]) rfl ?_
      show Steps p.tables e below (T8.setTop (mkF m 24 #[.val (.int p1), .val (.int p2), .val (.int p3), .val (.int p4), .val (.int p5), .val (.ref b1), .val (.ref ca), .unset, .unset, .unset, .unset, .unset, .unset, .unset, .unset] [])) t
      refine XS.iloadN X8.here hx rfl (hb hby at_24) rfl ?_
      show Steps p.tables e below (T8.setTop (mkF m 25 #[.val (.int p1), .val (.int p2), .val (.int p3), .val (.int p4), .val (.int p5), .val (.ref b1), .val (.ref ca), .unset, .unset, .unset, .unset, .unset, .unset, .unset, .unset] [(.int p3)])) t
      refine XS.bipush X8.here hx rfl (hb hby at_25) ?_
      show Steps p.tables e below (T8.setTop (mkF m 27 #[.val (.int p1), .val (.int p2), .val (.int p3), .val (.int p4), .val (.int p5), .val (.ref b1), .val (.ref ca), .unset, .unset, .unset, .unset, .unset, .unset, .unset, .unset] [(.int (7 : Int32)), (.int p3)])) t
      refine XS.iand X8.here hx rfl (hb hby at_27) rfl ?_
      show Steps p.tables e below (T8.setTop (mkF m 28 #[.val (.int p1), .val (.int p2), .val (.int p3), .val (.int p4), .val (.int p5), .val (.ref b1), .val (.ref ca), .unset, .unset, .unset, .unset, .unset, .unset, .unset, .unset] [(.int (p3 &&& (7 : Int32)))])) t
      exact st10 t k)
  obtain ⟨vv12, _, ⟨T12, L12, kk12, nn12⟩, -, X12, ⟨Lc12, hQ12, l12, y12, z12⟩, st12⟩ := Jvm.LawKit.callS X10 hx (y := (⟨"com/example/baraja/baraja/games/sabacckessel/Card", "of", "(I)Lcom/example/baraja/baraja/games/sabacckessel/Card;"⟩ : MethodName)) hown (mvT hZ (hw _ (List.mem_of_getElem? (i := 21) rfl))) (mvT hZ (hw _ (List.mem_of_getElem? (i := 22) rfl))) (mvT hZ (hw _ (List.mem_of_getElem? (i := 23) rfl))) (mvT hZ (hw _ (List.mem_of_getElem? (i := 24) rfl))) (by decide) (backOf (W := 0) (HC hh3 n0 (Nat.le_trans Z0 Kp3.1) (own_ext_of_keep Kp3 all0)) hZ (hw _ (List.mem_of_getElem? (i := 24) rfl)) (hw _ (List.mem_of_getElem? (i := 23) rfl)) (by decide) (by decide)) (g := (mkF m 37 #[.val (.int p1), .val (.int p2), .val (.int p3), .val (.int p4), .val (.int p5), .val (.ref b1), .val (.ref ca), .val (.ref cb), .unset, .unset, .unset, .unset, .unset, .unset, .unset] [(.int (p4 &&& (7 : Int32)))])) rfl (by rw [hml]; rfl) (argsL := [(.int (p4 &&& (7 : Int32)))]) (rest := []) (lenOf own_pd__I_Lcom_example_baraja_baraja_games_sabacckessel_Card_ rfl) rfl (by show 2 * 0 + _ ≤ _; exact Nat.le_of_eq rfl) (hb hby at_37) (fun _ _ => ⟨rfl, e10, (by decide : 5 + 0 ≤ _), (by decide : 66 + 0 ≤ _)⟩)
  dsimp only [Pt.U, Pt.locs, Pt.cells, Pt.slots] at X12 l12 y12 z12 st12 hQ12
  subst l12 y12 z12
  obtain ⟨rfl, Nq12, e12⟩ := hQ12
  have N12 := Fr.app N10 Nq12
  have ch13 : ∀ t, Steps p.tables e below (T12.setTop (mkF m 40 #[.val (.int p1), .val (.int p2), .val (.int p3), .val (.int p4), .val (.int p5), .val (.ref b1), .val (.ref ca), .val (.ref cb), .unset, .unset, .unset, .unset, .unset, .unset, .unset] [(.ref cd)])) t → Steps p.tables e below (s₁.setTop (entryFrame m #[(.int p1), (.int p2), (.int p3), (.int p4), (.int p5)] maxLocals)) t := fun t k => ch11 t (by
      show Steps p.tables e below (T10.setTop (mkF m 31 #[.val (.int p1), .val (.int p2), .val (.int p3), .val (.int p4), .val (.int p5), .val (.ref b1), .val (.ref ca), .unset, .unset, .unset, .unset, .unset, .unset, .unset, .unset] [(.ref cb)])) t
      refine XS.astore X10.here hx rfl (hb hby at_31) rfl rfl (l' := #[.val (.int p1), .val (.int p2), .val (.int p3), .val (.int p4), .val (.int p5), .val (.ref b1), .val (.ref ca), .val (.ref cb), .unset, .unset, .unset, .unset, .unset, .unset, .unset]) rfl ?_
      show Steps p.tables e below (T10.setTop (mkF m 33 #[.val (.int p1), .val (.int p2), .val (.int p3), .val (.int p4), .val (.int p5), .val (.ref b1), .val (.ref ca), .val (.ref cb), .unset, .unset, .unset, .unset, .unset, .unset, .unset] [])) t
      refine XS.iloadN X10.here hx rfl (hb hby at_33) rfl ?_
      show Steps p.tables e below (T10.setTop (mkF m 34 #[.val (.int p1), .val (.int p2), .val (.int p3), .val (.int p4), .val (.int p5), .val (.ref b1), .val (.ref ca), .val (.ref cb), .unset, .unset, .unset, .unset, .unset, .unset, .unset] [(.int p4)])) t
      refine XS.bipush X10.here hx rfl (hb hby at_34) ?_
      show Steps p.tables e below (T10.setTop (mkF m 36 #[.val (.int p1), .val (.int p2), .val (.int p3), .val (.int p4), .val (.int p5), .val (.ref b1), .val (.ref ca), .val (.ref cb), .unset, .unset, .unset, .unset, .unset, .unset, .unset] [(.int (7 : Int32)), (.int p4)])) t
      refine XS.iand X10.here hx rfl (hb hby at_36) rfl ?_
      show Steps p.tables e below (T10.setTop (mkF m 37 #[.val (.int p1), .val (.int p2), .val (.int p3), .val (.int p4), .val (.int p5), .val (.ref b1), .val (.ref ca), .val (.ref cb), .unset, .unset, .unset, .unset, .unset, .unset, .unset] [(.int (p4 &&& (7 : Int32)))])) t
      exact st12 t k)
  have cf14 := (cf4.keep Kq3)
  obtain ⟨cq15, kq15, qa15, qb15, qc15⟩ := isOf hZ e12 fq3_0
  obtain ⟨vv16, _, ⟨T16, L16, kk16, nn16⟩, -, X16, ⟨Lc16, hQ16, l16, y16, z16⟩, st16⟩ := X12.virtualBack hx (y := (⟨"com/example/baraja/baraja/games/sabacckessel/FamilyCards", "discard", "(Lcom/example/baraja/baraja/games/sabacckessel/Card;)V"⟩ : MethodName)) (z := (⟨"com/example/baraja/baraja/games/sabacckessel/FamilyCards", "discard", "(Lcom/example/baraja/baraja/games/sabacckessel/Card;)V"⟩ : MethodName)) hown (mvT hZ (hw _ (List.mem_of_getElem? (i := 31) rfl))) (mvT hZ (hw _ (List.mem_of_getElem? (i := 32) rfl))) (notFace_of_selects (args := #[]) (mvT hZ (hw _ (List.mem_of_getElem? (i := 34) rfl)))) (mvT hZ (hw _ (List.mem_of_getElem? (i := 34) rfl))) (mvT hZ (hw _ (List.mem_of_getElem? (i := 33) rfl))) (by decide) (backOf (W := 0) (own_disc_0 l Z a0 hw [] hh3 n0 (Nat.le_trans Z0 Kp3.1) b1 dd kd ca fq3_0 fq3_1 fq3_2 fq3_3 fq3_4 g_b1 g_dd ne_b1_dd cf14) hZ (hw _ (List.mem_of_getElem? (i := 35) rfl)) (hw _ (List.mem_of_getElem? (i := 2) rfl)) (by decide) (by decide)) qa15 qc15 (g := (mkF m 57 #[.val (.int p1), .val (.int p2), .val (.int p3), .val (.int p4), .val (.int p5), .val (.ref b1), .val (.ref ca), .val (.ref cb), .val (.ref cd), .val (.int (2 : Int32)), .unset, .unset, .unset, .unset, .unset] [(.ref ca), (.ref b1)])) rfl (by rw [hml]; rfl) (Steps.refl _) (argsL := [(.ref ca)]) (rest := []) (lenOf own_pd__Lcom_example_baraja_baraja_games_sabacckessel_Card__V rfl) rfl (by show 2 * 0 + _ ≤ _; exact Nat.le_of_eq rfl) (hb hby at_57) (fun _ _ => ⟨rfl, e12, (by decide : 5 + 0 ≤ _), (by decide : 66 + 0 ≤ _)⟩)
  dsimp only [Pt.U, Pt.locs, Pt.cells, Pt.slots] at X16 l16 y16 z16 st16 hQ16
  subst l16 y16 z16
  obtain ⟨hh16, eh16⟩ : ∃ h, T16.heap = h := ⟨_, rfl⟩
  rw [eh16] at hQ16
  obtain ⟨rfl, Nq16, Kq16, fq16_0, fq16_1, fq16_2, fq16_3⟩ := hQ16
  have N16 := Fr.app N12 Nq16
  have Kp16 := Keep.trans Kp3 Kq16 (allS (Or.inr sz_b1) (allS (Or.inr sz_dd) all0))
  have ch17 : ∀ t, Steps p.tables e below (T16.setTop (mkF m 60 #[.val (.int p1), .val (.int p2), .val (.int p3), .val (.int p4), .val (.int p5), .val (.ref b1), .val (.ref ca), .val (.ref cb), .val (.ref cd), .val (.int (2 : Int32)), .unset, .unset, .unset, .unset, .unset] [])) t → Steps p.tables e below (s₁.setTop (entryFrame m #[(.int p1), (.int p2), (.int p3), (.int p4), (.int p5)] maxLocals)) t := fun t k => ch13 t (by
      show Steps p.tables e below (T12.setTop (mkF m 40 #[.val (.int p1), .val (.int p2), .val (.int p3), .val (.int p4), .val (.int p5), .val (.ref b1), .val (.ref ca), .val (.ref cb), .unset, .unset, .unset, .unset, .unset, .unset, .unset] [(.ref cd)])) t
      refine XS.astore X12.here hx rfl (hb hby at_40) rfl rfl (l' := #[.val (.int p1), .val (.int p2), .val (.int p3), .val (.int p4), .val (.int p5), .val (.ref b1), .val (.ref ca), .val (.ref cb), .val (.ref cd), .unset, .unset, .unset, .unset, .unset, .unset]) rfl ?_
      show Steps p.tables e below (T12.setTop (mkF m 42 #[.val (.int p1), .val (.int p2), .val (.int p3), .val (.int p4), .val (.int p5), .val (.ref b1), .val (.ref ca), .val (.ref cb), .val (.ref cd), .unset, .unset, .unset, .unset, .unset, .unset] [])) t
      refine XS.iconst X12.here hx rfl (hb hby at_42) ?_
      show Steps p.tables e below (T12.setTop (mkF m 43 #[.val (.int p1), .val (.int p2), .val (.int p3), .val (.int p4), .val (.int p5), .val (.ref b1), .val (.ref ca), .val (.ref cb), .val (.ref cd), .unset, .unset, .unset, .unset, .unset, .unset] [(.int (1 : Int32))])) t
      refine XS.iload X12.here hx rfl (hb hby at_43) rfl ?_
      show Steps p.tables e below (T12.setTop (mkF m 45 #[.val (.int p1), .val (.int p2), .val (.int p3), .val (.int p4), .val (.int p5), .val (.ref b1), .val (.ref ca), .val (.ref cb), .val (.ref cd), .unset, .unset, .unset, .unset, .unset, .unset] [(.int p5), (.int (1 : Int32))])) t
      refine X12.ldcInt hx hown (mvT hZ (hw _ (List.mem_of_getElem? (i := 30) rfl))) (g := (mkF m 45 #[.val (.int p1), .val (.int p2), .val (.int p3), .val (.int p4), .val (.int p5), .val (.ref b1), .val (.ref ca), .val (.ref cb), .val (.ref cd), .unset, .unset, .unset, .unset, .unset, .unset] [(.int p5), (.int (1 : Int32))])) rfl (hb hby at_45) _ ?_
      show Steps p.tables e below (T12.setTop (mkF m 47 #[.val (.int p1), .val (.int p2), .val (.int p3), .val (.int p4), .val (.int p5), .val (.ref b1), .val (.ref ca), .val (.ref cb), .val (.ref cd), .unset, .unset, .unset, .unset, .unset, .unset] [(.int (2147483647 : Int32)), (.int p5), (.int (1 : Int32))])) t
      refine XS.iand X12.here hx rfl (hb hby at_47) rfl ?_
      show Steps p.tables e below (T12.setTop (mkF m 48 #[.val (.int p1), .val (.int p2), .val (.int p3), .val (.int p4), .val (.int p5), .val (.ref b1), .val (.ref ca), .val (.ref cb), .val (.ref cd), .unset, .unset, .unset, .unset, .unset, .unset] [(.int (p5 &&& (2147483647 : Int32))), (.int (1 : Int32))])) t
      refine XS.iconst X12.here hx rfl (hb hby at_48) ?_
      show Steps p.tables e below (T12.setTop (mkF m 49 #[.val (.int p1), .val (.int p2), .val (.int p3), .val (.int p4), .val (.int p5), .val (.ref b1), .val (.ref ca), .val (.ref cb), .val (.ref cd), .unset, .unset, .unset, .unset, .unset, .unset] [(.int (3 : Int32)), (.int (p5 &&& (2147483647 : Int32))), (.int (1 : Int32))])) t
      refine Jvm.RoadKit.iremM (g := (mkF m 49 #[.val (.int p1), .val (.int p2), .val (.int p3), .val (.int p4), .val (.int p5), .val (.ref b1), .val (.ref ca), .val (.ref cb), .val (.ref cd), .unset, .unset, .unset, .unset, .unset, .unset] [(.int (3 : Int32)), (.int (p5 &&& (2147483647 : Int32))), (.int (1 : Int32))])) X12 hx rfl (hb hby at_49) rfl (by decide) ?_
      rw [hk]
      show Steps p.tables e below (T12.setTop (mkF m 50 #[.val (.int p1), .val (.int p2), .val (.int p3), .val (.int p4), .val (.int p5), .val (.ref b1), .val (.ref ca), .val (.ref cb), .val (.ref cd), .unset, .unset, .unset, .unset, .unset, .unset] [(.int (1 : Int32)), (.int (1 : Int32))])) t
      refine XS.iadd X12.here hx rfl (hb hby at_50) rfl ?_
      rw [show ((1 : Int32) + (1 : Int32)) = (2 : Int32) from by decide]
      show Steps p.tables e below (T12.setTop (mkF m 51 #[.val (.int p1), .val (.int p2), .val (.int p3), .val (.int p4), .val (.int p5), .val (.ref b1), .val (.ref ca), .val (.ref cb), .val (.ref cd), .unset, .unset, .unset, .unset, .unset, .unset] [(.int (2 : Int32))])) t
      refine XS.istore X12.here hx rfl (hb hby at_51) rfl (l' := #[.val (.int p1), .val (.int p2), .val (.int p3), .val (.int p4), .val (.int p5), .val (.ref b1), .val (.ref ca), .val (.ref cb), .val (.ref cd), .val (.int (2 : Int32)), .unset, .unset, .unset, .unset, .unset]) rfl ?_
      show Steps p.tables e below (T12.setTop (mkF m 53 #[.val (.int p1), .val (.int p2), .val (.int p3), .val (.int p4), .val (.int p5), .val (.ref b1), .val (.ref ca), .val (.ref cb), .val (.ref cd), .val (.int (2 : Int32)), .unset, .unset, .unset, .unset, .unset] [])) t
      refine XS.aload X12.here hx rfl (hb hby at_53) rfl rfl ?_
      show Steps p.tables e below (T12.setTop (mkF m 55 #[.val (.int p1), .val (.int p2), .val (.int p3), .val (.int p4), .val (.int p5), .val (.ref b1), .val (.ref ca), .val (.ref cb), .val (.ref cd), .val (.int (2 : Int32)), .unset, .unset, .unset, .unset, .unset] [(.ref b1)])) t
      refine XS.aload X12.here hx rfl (hb hby at_55) rfl rfl ?_
      show Steps p.tables e below (T12.setTop (mkF m 57 #[.val (.int p1), .val (.int p2), .val (.int p3), .val (.int p4), .val (.int p5), .val (.ref b1), .val (.ref ca), .val (.ref cb), .val (.ref cd), .val (.int (2 : Int32)), .unset, .unset, .unset, .unset, .unset] [(.ref ca), (.ref b1)])) t
      exact st16.trans k)
  have cf18 := ((cf5.keep Kq3).keep Kq16)
  obtain ⟨cq19, kq19, qa19, qb19, qc19⟩ := isOf hZ eh16 fq16_0
  obtain ⟨vv20, _, ⟨T20, L20, kk20, nn20⟩, -, X20, ⟨Lc20, hQ20, l20, y20, z20⟩, st20⟩ := X16.virtualBack hx (y := (⟨"com/example/baraja/baraja/games/sabacckessel/FamilyCards", "discard", "(Lcom/example/baraja/baraja/games/sabacckessel/Card;)V"⟩ : MethodName)) (z := (⟨"com/example/baraja/baraja/games/sabacckessel/FamilyCards", "discard", "(Lcom/example/baraja/baraja/games/sabacckessel/Card;)V"⟩ : MethodName)) hown (mvT hZ (hw _ (List.mem_of_getElem? (i := 31) rfl))) (mvT hZ (hw _ (List.mem_of_getElem? (i := 32) rfl))) (notFace_of_selects (args := #[]) (mvT hZ (hw _ (List.mem_of_getElem? (i := 34) rfl)))) (mvT hZ (hw _ (List.mem_of_getElem? (i := 34) rfl))) (mvT hZ (hw _ (List.mem_of_getElem? (i := 33) rfl))) (by decide) (backOf (W := 0) (own_disc_1 l Z a0 hw [] hh16 n0 (Nat.le_trans Z0 Kp16.1) b1 dd kd ca cb fq16_0 fq16_1 fq16_2 fq16_3 fq3_4 g_b1 g_dd ne_b1_dd cf18) hZ (hw _ (List.mem_of_getElem? (i := 35) rfl)) (hw _ (List.mem_of_getElem? (i := 2) rfl)) (by decide) (by decide)) qa19 qc19 (g := (mkF m 70 #[.val (.int p1), .val (.int p2), .val (.int p3), .val (.int p4), .val (.int p5), .val (.ref b1), .val (.ref ca), .val (.ref cb), .val (.ref cd), .val (.int (2 : Int32)), .unset, .unset, .unset, .unset, .unset] [(.ref cb), (.ref b1)])) rfl (by rw [hml]; rfl) (Steps.refl _) (argsL := [(.ref cb)]) (rest := []) (lenOf own_pd__Lcom_example_baraja_baraja_games_sabacckessel_Card__V rfl) rfl (by show 2 * 0 + _ ≤ _; exact Nat.le_of_eq rfl) (hb hby at_70) (fun _ _ => ⟨rfl, eh16, (by decide : 5 + 0 ≤ _), (by decide : 66 + 0 ≤ _)⟩)
  dsimp only [Pt.U, Pt.locs, Pt.cells, Pt.slots] at X20 l20 y20 z20 st20 hQ20
  subst l20 y20 z20
  obtain ⟨hh20, eh20⟩ : ∃ h, T20.heap = h := ⟨_, rfl⟩
  rw [eh20] at hQ20
  obtain ⟨rfl, Nq20, Kq20, fq20_0, fq20_1, fq20_2, fq20_3⟩ := hQ20
  have N20 := Fr.app N16 Nq20
  have Kp20 := Keep.trans Kp16 Kq20 (allS (Or.inr sz_b1) (allS (Or.inr sz_dd) all0))
  have ch21 : ∀ t, Steps p.tables e below (T20.setTop (mkF m 73 #[.val (.int p1), .val (.int p2), .val (.int p3), .val (.int p4), .val (.int p5), .val (.ref b1), .val (.ref ca), .val (.ref cb), .val (.ref cd), .val (.int (2 : Int32)), .unset, .unset, .unset, .unset, .unset] [])) t → Steps p.tables e below (s₁.setTop (entryFrame m #[(.int p1), (.int p2), (.int p3), (.int p4), (.int p5)] maxLocals)) t := fun t k => ch17 t (by
      show Steps p.tables e below (T16.setTop (mkF m 60 #[.val (.int p1), .val (.int p2), .val (.int p3), .val (.int p4), .val (.int p5), .val (.ref b1), .val (.ref ca), .val (.ref cb), .val (.ref cd), .val (.int (2 : Int32)), .unset, .unset, .unset, .unset, .unset] [])) t
      refine XS.iload X16.here hx rfl (hb hby at_60) rfl ?_
      show Steps p.tables e below (T16.setTop (mkF m 62 #[.val (.int p1), .val (.int p2), .val (.int p3), .val (.int p4), .val (.int p5), .val (.ref b1), .val (.ref ca), .val (.ref cb), .val (.ref cd), .val (.int (2 : Int32)), .unset, .unset, .unset, .unset, .unset] [(.int (2 : Int32))])) t
      refine XS.iconst X16.here hx rfl (hb hby at_62) ?_
      show Steps p.tables e below (T16.setTop (mkF m 63 #[.val (.int p1), .val (.int p2), .val (.int p3), .val (.int p4), .val (.int p5), .val (.ref b1), .val (.ref ca), .val (.ref cb), .val (.ref cd), .val (.int (2 : Int32)), .unset, .unset, .unset, .unset, .unset] [(.int (2 : Int32)), (.int (2 : Int32))])) t
      refine XS.icmpNo X16.here hx rfl (hb hby at_63) rfl (flt (by decide : ¬ (2 : Int32) < (2 : Int32))).1 ?_
      show Steps p.tables e below (T16.setTop (mkF m 66 #[.val (.int p1), .val (.int p2), .val (.int p3), .val (.int p4), .val (.int p5), .val (.ref b1), .val (.ref ca), .val (.ref cb), .val (.ref cd), .val (.int (2 : Int32)), .unset, .unset, .unset, .unset, .unset] [])) t
      refine XS.aload X16.here hx rfl (hb hby at_66) rfl rfl ?_
      show Steps p.tables e below (T16.setTop (mkF m 68 #[.val (.int p1), .val (.int p2), .val (.int p3), .val (.int p4), .val (.int p5), .val (.ref b1), .val (.ref ca), .val (.ref cb), .val (.ref cd), .val (.int (2 : Int32)), .unset, .unset, .unset, .unset, .unset] [(.ref b1)])) t
      refine XS.aload X16.here hx rfl (hb hby at_68) rfl rfl ?_
      show Steps p.tables e below (T16.setTop (mkF m 70 #[.val (.int p1), .val (.int p2), .val (.int p3), .val (.int p4), .val (.int p5), .val (.ref b1), .val (.ref ca), .val (.ref cb), .val (.ref cd), .val (.int (2 : Int32)), .unset, .unset, .unset, .unset, .unset] [(.ref cb), (.ref b1)])) t
      exact st20.trans k)
  obtain ⟨cq22, kq22, qa22, qb22, qc22⟩ := isOf hZ eh20 fq20_0
  obtain ⟨vv23, _, ⟨T23, L23, kk23, nn23⟩, -, X23, ⟨Lc23, hQ23, l23, y23, z23⟩, st23⟩ := X20.virtualBack hx (y := (⟨"com/example/baraja/baraja/games/sabacckessel/FamilyCards", "drawFromDiscards", "()Lcom/example/baraja/baraja/games/sabacckessel/Card;"⟩ : MethodName)) (z := (⟨"com/example/baraja/baraja/games/sabacckessel/FamilyCards", "drawFromDiscards", "()Lcom/example/baraja/baraja/games/sabacckessel/Card;"⟩ : MethodName)) hown (mvT hZ (hw _ (List.mem_of_getElem? (i := 39) rfl))) (mvT hZ (hw _ (List.mem_of_getElem? (i := 40) rfl))) (notFace_of_selects (args := #[]) (mvT hZ (hw _ (List.mem_of_getElem? (i := 42) rfl)))) (mvT hZ (hw _ (List.mem_of_getElem? (i := 42) rfl))) (mvT hZ (hw _ (List.mem_of_getElem? (i := 41) rfl))) (by decide) (backOf (W := 0) (own_draw_2 l Z a0 hw [] hh20 n0 (Nat.le_trans Z0 Kp20.1) b1 dd kd ca cb fq20_0 fq20_1 fq20_2 fq20_3 fq3_4 g_b1 g_dd ne_b1_dd) hZ (hw _ (List.mem_of_getElem? (i := 43) rfl)) (hw _ (List.mem_of_getElem? (i := 2) rfl)) (by decide) (by decide)) qa22 qc22 (g := (mkF m 139 #[.val (.int p1), .val (.int p2), .val (.int p3), .val (.int p4), .val (.int p5), .val (.ref b1), .val (.ref ca), .val (.ref cb), .val (.ref cd), .val (.int (2 : Int32)), .val (.ref cb), .val (.ref ca), .unset, .unset, .unset] [(.ref b1)])) rfl (by rw [hml]; rfl) (Steps.refl _) (argsL := []) (rest := []) (lenOf own_pd___Lcom_example_baraja_baraja_games_sabacckessel_Card_ rfl) rfl (by show 2 * 0 + _ ≤ _; exact Nat.le_of_eq rfl) (hb hby at_139) (fun _ _ => ⟨rfl, eh20, (by decide : 5 + 0 ≤ _), (by decide : 66 + 0 ≤ _)⟩)
  dsimp only [Pt.U, Pt.locs, Pt.cells, Pt.slots] at X23 l23 y23 z23 st23 hQ23
  subst l23 y23 z23
  obtain ⟨hh23, eh23⟩ : ∃ h, T23.heap = h := ⟨_, rfl⟩
  rw [eh23] at hQ23
  obtain ⟨rfl, Nq23, Kq23, fq23_0, fq23_1, fq23_2, fq23_3⟩ := hQ23
  have N23 := Fr.app N20 Nq23
  have Kp23 := Keep.trans Kp20 Kq23 (allS (Or.inr sz_b1) (allS (Or.inr sz_dd) all0))
  have ch24 : ∀ t, Steps p.tables e below (T23.setTop (mkF m 142 #[.val (.int p1), .val (.int p2), .val (.int p3), .val (.int p4), .val (.int p5), .val (.ref b1), .val (.ref ca), .val (.ref cb), .val (.ref cd), .val (.int (2 : Int32)), .val (.ref cb), .val (.ref ca), .unset, .unset, .unset] [(.ref cb)])) t → Steps p.tables e below (s₁.setTop (entryFrame m #[(.int p1), (.int p2), (.int p3), (.int p4), (.int p5)] maxLocals)) t := fun t k => ch21 t (by
      show Steps p.tables e below (T20.setTop (mkF m 73 #[.val (.int p1), .val (.int p2), .val (.int p3), .val (.int p4), .val (.int p5), .val (.ref b1), .val (.ref ca), .val (.ref cb), .val (.ref cd), .val (.int (2 : Int32)), .unset, .unset, .unset, .unset, .unset] [])) t
      refine XS.iload X20.here hx rfl (hb hby at_73) rfl ?_
      show Steps p.tables e below (T20.setTop (mkF m 75 #[.val (.int p1), .val (.int p2), .val (.int p3), .val (.int p4), .val (.int p5), .val (.ref b1), .val (.ref ca), .val (.ref cb), .val (.ref cd), .val (.int (2 : Int32)), .unset, .unset, .unset, .unset, .unset] [(.int (2 : Int32))])) t
      refine XS.iconst X20.here hx rfl (hb hby at_75) ?_
      show Steps p.tables e below (T20.setTop (mkF m 76 #[.val (.int p1), .val (.int p2), .val (.int p3), .val (.int p4), .val (.int p5), .val (.ref b1), .val (.ref ca), .val (.ref cb), .val (.ref cd), .val (.int (2 : Int32)), .unset, .unset, .unset, .unset, .unset] [(.int (3 : Int32)), (.int (2 : Int32))])) t
      refine XS.icmpYes X20.here hx rfl (pc0 := 76) (pc' := 86) rfl (hb hby at_76) rfl (tlt (by decide : (2 : Int32) < (3 : Int32))).1 (by decide) (by decide) ?_
      show Steps p.tables e below (T20.setTop (mkF m 86 #[.val (.int p1), .val (.int p2), .val (.int p3), .val (.int p4), .val (.int p5), .val (.ref b1), .val (.ref ca), .val (.ref cb), .val (.ref cd), .val (.int (2 : Int32)), .unset, .unset, .unset, .unset, .unset] [])) t
      refine XS.iload X20.here hx rfl (hb hby at_86) rfl ?_
      show Steps p.tables e below (T20.setTop (mkF m 88 #[.val (.int p1), .val (.int p2), .val (.int p3), .val (.int p4), .val (.int p5), .val (.ref b1), .val (.ref ca), .val (.ref cb), .val (.ref cd), .val (.int (2 : Int32)), .unset, .unset, .unset, .unset, .unset] [(.int (2 : Int32))])) t
      refine XS.iconst X20.here hx rfl (hb hby at_88) ?_
      show Steps p.tables e below (T20.setTop (mkF m 89 #[.val (.int p1), .val (.int p2), .val (.int p3), .val (.int p4), .val (.int p5), .val (.ref b1), .val (.ref ca), .val (.ref cb), .val (.ref cd), .val (.int (2 : Int32)), .unset, .unset, .unset, .unset, .unset] [(.int (1 : Int32)), (.int (2 : Int32))])) t
      refine XS.icmpYes X20.here hx rfl (pc0 := 89) (pc' := 97) rfl (hb hby at_89) rfl (feq (by decide : ¬ (2 : Int32) = (1 : Int32))).2 (by decide) (by decide) ?_
      show Steps p.tables e below (T20.setTop (mkF m 97 #[.val (.int p1), .val (.int p2), .val (.int p3), .val (.int p4), .val (.int p5), .val (.ref b1), .val (.ref ca), .val (.ref cb), .val (.ref cd), .val (.int (2 : Int32)), .unset, .unset, .unset, .unset, .unset] [])) t
      refine XS.iload X20.here hx rfl (hb hby at_97) rfl ?_
      show Steps p.tables e below (T20.setTop (mkF m 99 #[.val (.int p1), .val (.int p2), .val (.int p3), .val (.int p4), .val (.int p5), .val (.ref b1), .val (.ref ca), .val (.ref cb), .val (.ref cd), .val (.int (2 : Int32)), .unset, .unset, .unset, .unset, .unset] [(.int (2 : Int32))])) t
      refine XS.iconst X20.here hx rfl (hb hby at_99) ?_
      show Steps p.tables e below (T20.setTop (mkF m 100 #[.val (.int p1), .val (.int p2), .val (.int p3), .val (.int p4), .val (.int p5), .val (.ref b1), .val (.ref ca), .val (.ref cb), .val (.ref cd), .val (.int (2 : Int32)), .unset, .unset, .unset, .unset, .unset] [(.int (2 : Int32)), (.int (2 : Int32))])) t
      refine XS.icmpNo X20.here hx rfl (hb hby at_100) rfl (teq (by decide : (2 : Int32) = (2 : Int32))).2 ?_
      show Steps p.tables e below (T20.setTop (mkF m 103 #[.val (.int p1), .val (.int p2), .val (.int p3), .val (.int p4), .val (.int p5), .val (.ref b1), .val (.ref ca), .val (.ref cb), .val (.ref cd), .val (.int (2 : Int32)), .unset, .unset, .unset, .unset, .unset] [])) t
      refine XS.aload X20.here hx rfl (hb hby at_103) rfl rfl ?_
      show Steps p.tables e below (T20.setTop (mkF m 105 #[.val (.int p1), .val (.int p2), .val (.int p3), .val (.int p4), .val (.int p5), .val (.ref b1), .val (.ref ca), .val (.ref cb), .val (.ref cd), .val (.int (2 : Int32)), .unset, .unset, .unset, .unset, .unset] [(.ref cb)])) t
      refine XS.goto X20.here hx rfl (pc0 := 105) (pc' := 110) rfl (hb hby at_105) (by decide) (by decide) ?_
      show Steps p.tables e below (T20.setTop (mkF m 110 #[.val (.int p1), .val (.int p2), .val (.int p3), .val (.int p4), .val (.int p5), .val (.ref b1), .val (.ref ca), .val (.ref cb), .val (.ref cd), .val (.int (2 : Int32)), .unset, .unset, .unset, .unset, .unset] [(.ref cb)])) t
      refine XS.astore X20.here hx rfl (hb hby at_110) rfl rfl (l' := #[.val (.int p1), .val (.int p2), .val (.int p3), .val (.int p4), .val (.int p5), .val (.ref b1), .val (.ref ca), .val (.ref cb), .val (.ref cd), .val (.int (2 : Int32)), .val (.ref cb), .unset, .unset, .unset, .unset]) rfl ?_
      show Steps p.tables e below (T20.setTop (mkF m 112 #[.val (.int p1), .val (.int p2), .val (.int p3), .val (.int p4), .val (.int p5), .val (.ref b1), .val (.ref ca), .val (.ref cb), .val (.ref cd), .val (.int (2 : Int32)), .val (.ref cb), .unset, .unset, .unset, .unset] [])) t
      refine XS.iload X20.here hx rfl (hb hby at_112) rfl ?_
      show Steps p.tables e below (T20.setTop (mkF m 114 #[.val (.int p1), .val (.int p2), .val (.int p3), .val (.int p4), .val (.int p5), .val (.ref b1), .val (.ref ca), .val (.ref cb), .val (.ref cd), .val (.int (2 : Int32)), .val (.ref cb), .unset, .unset, .unset, .unset] [(.int (2 : Int32))])) t
      refine XS.iconst X20.here hx rfl (hb hby at_114) ?_
      show Steps p.tables e below (T20.setTop (mkF m 115 #[.val (.int p1), .val (.int p2), .val (.int p3), .val (.int p4), .val (.int p5), .val (.ref b1), .val (.ref ca), .val (.ref cb), .val (.ref cd), .val (.int (2 : Int32)), .val (.ref cb), .unset, .unset, .unset, .unset] [(.int (1 : Int32)), (.int (2 : Int32))])) t
      refine XS.icmpYes X20.here hx rfl (pc0 := 115) (pc' := 122) rfl (hb hby at_115) rfl (feq (by decide : ¬ (2 : Int32) = (1 : Int32))).2 (by decide) (by decide) ?_
      show Steps p.tables e below (T20.setTop (mkF m 122 #[.val (.int p1), .val (.int p2), .val (.int p3), .val (.int p4), .val (.int p5), .val (.ref b1), .val (.ref ca), .val (.ref cb), .val (.ref cd), .val (.int (2 : Int32)), .val (.ref cb), .unset, .unset, .unset, .unset] [])) t
      refine XS.iload X20.here hx rfl (hb hby at_122) rfl ?_
      show Steps p.tables e below (T20.setTop (mkF m 124 #[.val (.int p1), .val (.int p2), .val (.int p3), .val (.int p4), .val (.int p5), .val (.ref b1), .val (.ref ca), .val (.ref cb), .val (.ref cd), .val (.int (2 : Int32)), .val (.ref cb), .unset, .unset, .unset, .unset] [(.int (2 : Int32))])) t
      refine XS.iconst X20.here hx rfl (hb hby at_124) ?_
      show Steps p.tables e below (T20.setTop (mkF m 125 #[.val (.int p1), .val (.int p2), .val (.int p3), .val (.int p4), .val (.int p5), .val (.ref b1), .val (.ref ca), .val (.ref cb), .val (.ref cd), .val (.int (2 : Int32)), .val (.ref cb), .unset, .unset, .unset, .unset] [(.int (2 : Int32)), (.int (2 : Int32))])) t
      refine XS.icmpNo X20.here hx rfl (hb hby at_125) rfl (teq (by decide : (2 : Int32) = (2 : Int32))).2 ?_
      show Steps p.tables e below (T20.setTop (mkF m 128 #[.val (.int p1), .val (.int p2), .val (.int p3), .val (.int p4), .val (.int p5), .val (.ref b1), .val (.ref ca), .val (.ref cb), .val (.ref cd), .val (.int (2 : Int32)), .val (.ref cb), .unset, .unset, .unset, .unset] [])) t
      refine XS.aload X20.here hx rfl (hb hby at_128) rfl rfl ?_
      show Steps p.tables e below (T20.setTop (mkF m 130 #[.val (.int p1), .val (.int p2), .val (.int p3), .val (.int p4), .val (.int p5), .val (.ref b1), .val (.ref ca), .val (.ref cb), .val (.ref cd), .val (.int (2 : Int32)), .val (.ref cb), .unset, .unset, .unset, .unset] [(.ref ca)])) t
      refine XS.goto X20.here hx rfl (pc0 := 130) (pc' := 135) rfl (hb hby at_130) (by decide) (by decide) ?_
      show Steps p.tables e below (T20.setTop (mkF m 135 #[.val (.int p1), .val (.int p2), .val (.int p3), .val (.int p4), .val (.int p5), .val (.ref b1), .val (.ref ca), .val (.ref cb), .val (.ref cd), .val (.int (2 : Int32)), .val (.ref cb), .unset, .unset, .unset, .unset] [(.ref ca)])) t
      refine XS.astore X20.here hx rfl (hb hby at_135) rfl rfl (l' := #[.val (.int p1), .val (.int p2), .val (.int p3), .val (.int p4), .val (.int p5), .val (.ref b1), .val (.ref ca), .val (.ref cb), .val (.ref cd), .val (.int (2 : Int32)), .val (.ref cb), .val (.ref ca), .unset, .unset, .unset]) rfl ?_
      show Steps p.tables e below (T20.setTop (mkF m 137 #[.val (.int p1), .val (.int p2), .val (.int p3), .val (.int p4), .val (.int p5), .val (.ref b1), .val (.ref ca), .val (.ref cb), .val (.ref cd), .val (.int (2 : Int32)), .val (.ref cb), .val (.ref ca), .unset, .unset, .unset] [])) t
      refine XS.aload X20.here hx rfl (hb hby at_137) rfl rfl ?_
      show Steps p.tables e below (T20.setTop (mkF m 139 #[.val (.int p1), .val (.int p2), .val (.int p3), .val (.int p4), .val (.int p5), .val (.ref b1), .val (.ref ca), .val (.ref cb), .val (.ref cd), .val (.int (2 : Int32)), .val (.ref cb), .val (.ref ca), .unset, .unset, .unset] [(.ref b1)])) t
      exact st23.trans k)
  obtain ⟨cq25, kq25, qa25, qb25, qc25⟩ := isOf hZ eh23 fq23_0
  obtain ⟨vv26, _, ⟨T26, L26, kk26, nn26⟩, -, X26, ⟨Lc26, hQ26, l26, y26, z26⟩, st26⟩ := X23.virtualBack hx (y := (⟨"com/example/baraja/baraja/games/sabacckessel/FamilyCards", "topDiscard", "()Lcom/example/baraja/baraja/games/sabacckessel/Card;"⟩ : MethodName)) (z := (⟨"com/example/baraja/baraja/games/sabacckessel/FamilyCards", "topDiscard", "()Lcom/example/baraja/baraja/games/sabacckessel/Card;"⟩ : MethodName)) hown (mvT hZ (hw _ (List.mem_of_getElem? (i := 44) rfl))) (mvT hZ (hw _ (List.mem_of_getElem? (i := 45) rfl))) (notFace_of_selects (args := #[]) (mvT hZ (hw _ (List.mem_of_getElem? (i := 47) rfl)))) (mvT hZ (hw _ (List.mem_of_getElem? (i := 47) rfl))) (mvT hZ (hw _ (List.mem_of_getElem? (i := 46) rfl))) (by decide) (backOf (W := 0) (own_top_1 l Z a0 hw [] hh23 n0 (Nat.le_trans Z0 Kp23.1) b1 dd kd ca fq23_0 fq23_1 fq23_2 fq23_3 fq3_4 g_b1 g_dd ne_b1_dd) hZ (hw _ (List.mem_of_getElem? (i := 48) rfl)) (hw _ (List.mem_of_getElem? (i := 2) rfl)) (by decide) (by decide)) qa25 qc25 (g := (mkF m 165 #[.val (.int p1), .val (.int p2), .val (.int p3), .val (.int p4), .val (.int p5), .val (.ref b1), .val (.ref ca), .val (.ref cb), .val (.ref cd), .val (.int (2 : Int32)), .val (.ref cb), .val (.ref ca), .val (.ref cb), .val (.int (1 : Int32)), .unset] [(.ref b1)])) rfl (by rw [hml]; rfl) (Steps.refl _) (argsL := []) (rest := []) (lenOf own_pd___Lcom_example_baraja_baraja_games_sabacckessel_Card_ rfl) rfl (by show 2 * 0 + _ ≤ _; exact Nat.le_of_eq rfl) (hb hby at_165) (fun _ _ => ⟨rfl, eh23, (by decide : 5 + 0 ≤ _), (by decide : 66 + 0 ≤ _)⟩)
  dsimp only [Pt.U, Pt.locs, Pt.cells, Pt.slots] at X26 l26 y26 z26 st26 hQ26
  subst l26 y26 z26
  obtain ⟨rfl, Nq26, e26⟩ := hQ26
  have N26 := Fr.app N23 Nq26
  have ch27 : ∀ t, Steps p.tables e below (T26.setTop (mkF m 168 #[.val (.int p1), .val (.int p2), .val (.int p3), .val (.int p4), .val (.int p5), .val (.ref b1), .val (.ref ca), .val (.ref cb), .val (.ref cd), .val (.int (2 : Int32)), .val (.ref cb), .val (.ref ca), .val (.ref cb), .val (.int (1 : Int32)), .unset] [(.ref ca)])) t → Steps p.tables e below (s₁.setTop (entryFrame m #[(.int p1), (.int p2), (.int p3), (.int p4), (.int p5)] maxLocals)) t := fun t k => ch24 t (by
      show Steps p.tables e below (T23.setTop (mkF m 142 #[.val (.int p1), .val (.int p2), .val (.int p3), .val (.int p4), .val (.int p5), .val (.ref b1), .val (.ref ca), .val (.ref cb), .val (.ref cd), .val (.int (2 : Int32)), .val (.ref cb), .val (.ref ca), .unset, .unset, .unset] [(.ref cb)])) t
      refine XS.astore X23.here hx rfl (hb hby at_142) rfl rfl (l' := #[.val (.int p1), .val (.int p2), .val (.int p3), .val (.int p4), .val (.int p5), .val (.ref b1), .val (.ref ca), .val (.ref cb), .val (.ref cd), .val (.int (2 : Int32)), .val (.ref cb), .val (.ref ca), .val (.ref cb), .unset, .unset]) rfl ?_
      show Steps p.tables e below (T23.setTop (mkF m 144 #[.val (.int p1), .val (.int p2), .val (.int p3), .val (.int p4), .val (.int p5), .val (.ref b1), .val (.ref ca), .val (.ref cb), .val (.ref cd), .val (.int (2 : Int32)), .val (.ref cb), .val (.ref ca), .val (.ref cb), .unset, .unset] [])) t
      refine XS.aload X23.here hx rfl (hb hby at_144) rfl rfl ?_
      show Steps p.tables e below (T23.setTop (mkF m 146 #[.val (.int p1), .val (.int p2), .val (.int p3), .val (.int p4), .val (.int p5), .val (.ref b1), .val (.ref ca), .val (.ref cb), .val (.ref cd), .val (.int (2 : Int32)), .val (.ref cb), .val (.ref ca), .val (.ref cb), .unset, .unset] [(.ref cb)])) t
      refine XS.aload X23.here hx rfl (hb hby at_146) rfl rfl ?_
      show Steps p.tables e below (T23.setTop (mkF m 148 #[.val (.int p1), .val (.int p2), .val (.int p3), .val (.int p4), .val (.int p5), .val (.ref b1), .val (.ref ca), .val (.ref cb), .val (.ref cd), .val (.int (2 : Int32)), .val (.ref cb), .val (.ref ca), .val (.ref cb), .unset, .unset] [(.ref cb), (.ref cb)])) t
      refine Jvm.RoadKit.acmp (g := (mkF m 148 #[.val (.int p1), .val (.int p2), .val (.int p3), .val (.int p4), .val (.int p5), .val (.ref b1), .val (.ref ca), .val (.ref cb), .val (.ref cd), .val (.int (2 : Int32)), .val (.ref cb), .val (.ref ca), .val (.ref cb), .unset, .unset] [(.ref cb), (.ref cb)])) X23 hx rfl rfl rfl (pc0 := 148) (pc' := 151) (same := true) rfl (hb hby at_148) rfl (decide_eq_true rfl) (by decide) (by decide) ?_
      show Steps p.tables e below (T23.setTop (mkF m 151 #[.val (.int p1), .val (.int p2), .val (.int p3), .val (.int p4), .val (.int p5), .val (.ref b1), .val (.ref ca), .val (.ref cb), .val (.ref cd), .val (.int (2 : Int32)), .val (.ref cb), .val (.ref ca), .val (.ref cb), .unset, .unset] [])) t
      refine XS.iconst X23.here hx rfl (hb hby at_151) ?_
      show Steps p.tables e below (T23.setTop (mkF m 152 #[.val (.int p1), .val (.int p2), .val (.int p3), .val (.int p4), .val (.int p5), .val (.ref b1), .val (.ref ca), .val (.ref cb), .val (.ref cd), .val (.int (2 : Int32)), .val (.ref cb), .val (.ref ca), .val (.ref cb), .unset, .unset] [(.int (1 : Int32))])) t
      refine XS.goto X23.here hx rfl (pc0 := 152) (pc' := 156) rfl (hb hby at_152) (by decide) (by decide) ?_
      show Steps p.tables e below (T23.setTop (mkF m 156 #[.val (.int p1), .val (.int p2), .val (.int p3), .val (.int p4), .val (.int p5), .val (.ref b1), .val (.ref ca), .val (.ref cb), .val (.ref cd), .val (.int (2 : Int32)), .val (.ref cb), .val (.ref ca), .val (.ref cb), .unset, .unset] [(.int (1 : Int32))])) t
      refine XS.istore X23.here hx rfl (hb hby at_156) rfl (l' := #[.val (.int p1), .val (.int p2), .val (.int p3), .val (.int p4), .val (.int p5), .val (.ref b1), .val (.ref ca), .val (.ref cb), .val (.ref cd), .val (.int (2 : Int32)), .val (.ref cb), .val (.ref ca), .val (.ref cb), .val (.int (1 : Int32)), .unset]) rfl ?_
      show Steps p.tables e below (T23.setTop (mkF m 158 #[.val (.int p1), .val (.int p2), .val (.int p3), .val (.int p4), .val (.int p5), .val (.ref b1), .val (.ref ca), .val (.ref cb), .val (.ref cd), .val (.int (2 : Int32)), .val (.ref cb), .val (.ref ca), .val (.ref cb), .val (.int (1 : Int32)), .unset] [])) t
      refine XS.iload X23.here hx rfl (hb hby at_158) rfl ?_
      show Steps p.tables e below (T23.setTop (mkF m 160 #[.val (.int p1), .val (.int p2), .val (.int p3), .val (.int p4), .val (.int p5), .val (.ref b1), .val (.ref ca), .val (.ref cb), .val (.ref cd), .val (.int (2 : Int32)), .val (.ref cb), .val (.ref ca), .val (.ref cb), .val (.int (1 : Int32)), .unset] [(.int (1 : Int32))])) t
      refine XS.ifNo X23.here hx rfl (hb hby at_160) rfl ((if0 _ _).trans (feq (by decide : ¬ (1 : Int32) = (0 : Int32))).1) ?_
      show Steps p.tables e below (T23.setTop (mkF m 163 #[.val (.int p1), .val (.int p2), .val (.int p3), .val (.int p4), .val (.int p5), .val (.ref b1), .val (.ref ca), .val (.ref cb), .val (.ref cd), .val (.int (2 : Int32)), .val (.ref cb), .val (.ref ca), .val (.ref cb), .val (.int (1 : Int32)), .unset] [])) t
      refine XS.aload X23.here hx rfl (hb hby at_163) rfl rfl ?_
      show Steps p.tables e below (T23.setTop (mkF m 165 #[.val (.int p1), .val (.int p2), .val (.int p3), .val (.int p4), .val (.int p5), .val (.ref b1), .val (.ref ca), .val (.ref cb), .val (.ref cd), .val (.int (2 : Int32)), .val (.ref cb), .val (.ref ca), .val (.ref cb), .val (.int (1 : Int32)), .unset] [(.ref b1)])) t
      exact st26.trans k)
  obtain ⟨cq28, kq28, qa28, qb28, qc28⟩ := isOf hZ e26 fq23_0
  obtain ⟨vv29, _, ⟨T29, L29, kk29, nn29⟩, -, X29, ⟨Lc29, hQ29, l29, y29, z29⟩, st29⟩ := X26.virtualBack hx (y := (⟨"com/example/baraja/baraja/games/sabacckessel/FamilyCards", "discardsAreEmpty", "()Z"⟩ : MethodName)) (z := (⟨"com/example/baraja/baraja/games/sabacckessel/FamilyCards", "discardsAreEmpty", "()Z"⟩ : MethodName)) hown (mvT hZ (hw _ (List.mem_of_getElem? (i := 49) rfl))) (mvT hZ (hw _ (List.mem_of_getElem? (i := 50) rfl))) (notFace_of_selects (args := #[]) (mvT hZ (hw _ (List.mem_of_getElem? (i := 52) rfl)))) (mvT hZ (hw _ (List.mem_of_getElem? (i := 52) rfl))) (mvT hZ (hw _ (List.mem_of_getElem? (i := 51) rfl))) (by decide) (backOf (W := 0) (own_emp_1 l Z a0 hw [] hh23 n0 (Nat.le_trans Z0 Kp23.1) b1 dd kd ca fq23_0 fq23_1 fq23_2 fq23_3 fq3_4 g_b1 g_dd ne_b1_dd) hZ (hw _ (List.mem_of_getElem? (i := 53) rfl)) (hw _ (List.mem_of_getElem? (i := 2) rfl)) (by decide) (by decide)) qa28 qc28 (g := (mkF m 187 #[.val (.int p1), .val (.int p2), .val (.int p3), .val (.int p4), .val (.int p5), .val (.ref b1), .val (.ref ca), .val (.ref cb), .val (.ref cd), .val (.int (2 : Int32)), .val (.ref cb), .val (.ref ca), .val (.ref cb), .val (.int (1 : Int32)), .unset] [(.ref b1)])) rfl (by rw [hml]; rfl) (Steps.refl _) (argsL := []) (rest := []) (lenOf own_pd___Z rfl) rfl (by show 2 * 0 + _ ≤ _; exact Nat.le_of_eq rfl) (hb hby at_187) (fun _ _ => ⟨rfl, e26, (by decide : 5 + 0 ≤ _), (by decide : 66 + 0 ≤ _)⟩)
  dsimp only [Pt.U, Pt.locs, Pt.cells, Pt.slots] at X29 l29 y29 z29 st29 hQ29
  subst l29 y29 z29
  obtain ⟨rfl, Nq29, e29⟩ := hQ29
  have N29 := Fr.app N26 Nq29
  have ch30 : ∀ t, Steps p.tables e below (T29.setTop (mkF m 190 #[.val (.int p1), .val (.int p2), .val (.int p3), .val (.int p4), .val (.int p5), .val (.ref b1), .val (.ref ca), .val (.ref cb), .val (.ref cd), .val (.int (2 : Int32)), .val (.ref cb), .val (.ref ca), .val (.ref cb), .val (.int (1 : Int32)), .unset] [(.int (0 : Int32))])) t → Steps p.tables e below (s₁.setTop (entryFrame m #[(.int p1), (.int p2), (.int p3), (.int p4), (.int p5)] maxLocals)) t := fun t k => ch27 t (by
      show Steps p.tables e below (T26.setTop (mkF m 168 #[.val (.int p1), .val (.int p2), .val (.int p3), .val (.int p4), .val (.int p5), .val (.ref b1), .val (.ref ca), .val (.ref cb), .val (.ref cd), .val (.int (2 : Int32)), .val (.ref cb), .val (.ref ca), .val (.ref cb), .val (.int (1 : Int32)), .unset] [(.ref ca)])) t
      refine XS.aload X26.here hx rfl (hb hby at_168) rfl rfl ?_
      show Steps p.tables e below (T26.setTop (mkF m 170 #[.val (.int p1), .val (.int p2), .val (.int p3), .val (.int p4), .val (.int p5), .val (.ref b1), .val (.ref ca), .val (.ref cb), .val (.ref cd), .val (.int (2 : Int32)), .val (.ref cb), .val (.ref ca), .val (.ref cb), .val (.int (1 : Int32)), .unset] [(.ref ca), (.ref ca)])) t
      refine Jvm.RoadKit.acmp (g := (mkF m 170 #[.val (.int p1), .val (.int p2), .val (.int p3), .val (.int p4), .val (.int p5), .val (.ref b1), .val (.ref ca), .val (.ref cb), .val (.ref cd), .val (.int (2 : Int32)), .val (.ref cb), .val (.ref ca), .val (.ref cb), .val (.int (1 : Int32)), .unset] [(.ref ca), (.ref ca)])) X26 hx rfl rfl rfl (pc0 := 170) (pc' := 173) (same := true) rfl (hb hby at_170) rfl (decide_eq_true rfl) (by decide) (by decide) ?_
      show Steps p.tables e below (T26.setTop (mkF m 173 #[.val (.int p1), .val (.int p2), .val (.int p3), .val (.int p4), .val (.int p5), .val (.ref b1), .val (.ref ca), .val (.ref cb), .val (.ref cd), .val (.int (2 : Int32)), .val (.ref cb), .val (.ref ca), .val (.ref cb), .val (.int (1 : Int32)), .unset] [])) t
      refine XS.iconst X26.here hx rfl (hb hby at_173) ?_
      show Steps p.tables e below (T26.setTop (mkF m 174 #[.val (.int p1), .val (.int p2), .val (.int p3), .val (.int p4), .val (.int p5), .val (.ref b1), .val (.ref ca), .val (.ref cb), .val (.ref cd), .val (.int (2 : Int32)), .val (.ref cb), .val (.ref ca), .val (.ref cb), .val (.int (1 : Int32)), .unset] [(.int (1 : Int32))])) t
      refine XS.goto X26.here hx rfl (pc0 := 174) (pc' := 178) rfl (hb hby at_174) (by decide) (by decide) ?_
      show Steps p.tables e below (T26.setTop (mkF m 178 #[.val (.int p1), .val (.int p2), .val (.int p3), .val (.int p4), .val (.int p5), .val (.ref b1), .val (.ref ca), .val (.ref cb), .val (.ref cd), .val (.int (2 : Int32)), .val (.ref cb), .val (.ref ca), .val (.ref cb), .val (.int (1 : Int32)), .unset] [(.int (1 : Int32))])) t
      refine XS.istore X26.here hx rfl (hb hby at_178) rfl (l' := #[.val (.int p1), .val (.int p2), .val (.int p3), .val (.int p4), .val (.int p5), .val (.ref b1), .val (.ref ca), .val (.ref cb), .val (.ref cd), .val (.int (2 : Int32)), .val (.ref cb), .val (.ref ca), .val (.ref cb), .val (.int (1 : Int32)), .unset]) rfl ?_
      show Steps p.tables e below (T26.setTop (mkF m 180 #[.val (.int p1), .val (.int p2), .val (.int p3), .val (.int p4), .val (.int p5), .val (.ref b1), .val (.ref ca), .val (.ref cb), .val (.ref cd), .val (.int (2 : Int32)), .val (.ref cb), .val (.ref ca), .val (.ref cb), .val (.int (1 : Int32)), .unset] [])) t
      refine XS.iload X26.here hx rfl (hb hby at_180) rfl ?_
      show Steps p.tables e below (T26.setTop (mkF m 182 #[.val (.int p1), .val (.int p2), .val (.int p3), .val (.int p4), .val (.int p5), .val (.ref b1), .val (.ref ca), .val (.ref cb), .val (.ref cd), .val (.int (2 : Int32)), .val (.ref cb), .val (.ref ca), .val (.ref cb), .val (.int (1 : Int32)), .unset] [(.int (1 : Int32))])) t
      refine XS.ifNo X26.here hx rfl (hb hby at_182) rfl ((if0 _ _).trans (feq (by decide : ¬ (1 : Int32) = (0 : Int32))).1) ?_
      show Steps p.tables e below (T26.setTop (mkF m 185 #[.val (.int p1), .val (.int p2), .val (.int p3), .val (.int p4), .val (.int p5), .val (.ref b1), .val (.ref ca), .val (.ref cb), .val (.ref cd), .val (.int (2 : Int32)), .val (.ref cb), .val (.ref ca), .val (.ref cb), .val (.int (1 : Int32)), .unset] [])) t
      refine XS.aload X26.here hx rfl (hb hby at_185) rfl rfl ?_
      show Steps p.tables e below (T26.setTop (mkF m 187 #[.val (.int p1), .val (.int p2), .val (.int p3), .val (.int p4), .val (.int p5), .val (.ref b1), .val (.ref ca), .val (.ref cb), .val (.ref cd), .val (.int (2 : Int32)), .val (.ref cb), .val (.ref ca), .val (.ref cb), .val (.int (1 : Int32)), .unset] [(.ref b1)])) t
      exact st29.trans k)
  obtain ⟨cq31, kq31, qa31, qb31, qc31⟩ := isOf hZ e29 fq23_0
  obtain ⟨vv32, _, ⟨T32, L32, kk32, nn32⟩, -, X32, ⟨Lc32, hQ32, l32, y32, z32⟩, st32⟩ := X29.virtualBack hx (y := (⟨"com/example/baraja/baraja/games/sabacckessel/FamilyCards", "drawFromDiscards", "()Lcom/example/baraja/baraja/games/sabacckessel/Card;"⟩ : MethodName)) (z := (⟨"com/example/baraja/baraja/games/sabacckessel/FamilyCards", "drawFromDiscards", "()Lcom/example/baraja/baraja/games/sabacckessel/Card;"⟩ : MethodName)) hown (mvT hZ (hw _ (List.mem_of_getElem? (i := 39) rfl))) (mvT hZ (hw _ (List.mem_of_getElem? (i := 40) rfl))) (notFace_of_selects (args := #[]) (mvT hZ (hw _ (List.mem_of_getElem? (i := 42) rfl)))) (mvT hZ (hw _ (List.mem_of_getElem? (i := 42) rfl))) (mvT hZ (hw _ (List.mem_of_getElem? (i := 41) rfl))) (by decide) (backOf (W := 0) (own_draw_1 l Z a0 hw [] hh23 n0 (Nat.le_trans Z0 Kp23.1) b1 dd kd ca fq23_0 fq23_1 fq23_2 fq23_3 fq3_4 g_b1 g_dd ne_b1_dd) hZ (hw _ (List.mem_of_getElem? (i := 43) rfl)) (hw _ (List.mem_of_getElem? (i := 2) rfl)) (by decide) (by decide)) qa31 qc31 (g := (mkF m 219 #[.val (.int p1), .val (.int p2), .val (.int p3), .val (.int p4), .val (.int p5), .val (.ref b1), .val (.ref ca), .val (.ref cb), .val (.ref cd), .val (.int (2 : Int32)), .val (.ref cb), .val (.ref ca), .val (.ref cb), .val (.int (1 : Int32)), .unset] [(.ref b1)])) rfl (by rw [hml]; rfl) (Steps.refl _) (argsL := []) (rest := []) (lenOf own_pd___Lcom_example_baraja_baraja_games_sabacckessel_Card_ rfl) rfl (by show 2 * 0 + _ ≤ _; exact Nat.le_of_eq rfl) (hb hby at_219) (fun _ _ => ⟨rfl, e29, (by decide : 5 + 0 ≤ _), (by decide : 66 + 0 ≤ _)⟩)
  dsimp only [Pt.U, Pt.locs, Pt.cells, Pt.slots] at X32 l32 y32 z32 st32 hQ32
  subst l32 y32 z32
  obtain ⟨hh32, eh32⟩ : ∃ h, T32.heap = h := ⟨_, rfl⟩
  rw [eh32] at hQ32
  obtain ⟨rfl, Nq32, Kq32, fq32_0, fq32_1, fq32_2, fq32_3⟩ := hQ32
  have N32 := Fr.app N29 Nq32
  have Kp32 := Keep.trans Kp23 Kq32 (allS (Or.inr sz_b1) (allS (Or.inr sz_dd) all0))
  have ch33 : ∀ t, Steps p.tables e below (T32.setTop (mkF m 222 #[.val (.int p1), .val (.int p2), .val (.int p3), .val (.int p4), .val (.int p5), .val (.ref b1), .val (.ref ca), .val (.ref cb), .val (.ref cd), .val (.int (2 : Int32)), .val (.ref cb), .val (.ref ca), .val (.ref cb), .val (.int (1 : Int32)), .unset] [(.ref ca)])) t → Steps p.tables e below (s₁.setTop (entryFrame m #[(.int p1), (.int p2), (.int p3), (.int p4), (.int p5)] maxLocals)) t := fun t k => ch30 t (by
      show Steps p.tables e below (T29.setTop (mkF m 190 #[.val (.int p1), .val (.int p2), .val (.int p3), .val (.int p4), .val (.int p5), .val (.ref b1), .val (.ref ca), .val (.ref cb), .val (.ref cd), .val (.int (2 : Int32)), .val (.ref cb), .val (.ref ca), .val (.ref cb), .val (.int (1 : Int32)), .unset] [(.int (0 : Int32))])) t
      refine XS.iload X29.here hx rfl (hb hby at_190) rfl ?_
      show Steps p.tables e below (T29.setTop (mkF m 192 #[.val (.int p1), .val (.int p2), .val (.int p3), .val (.int p4), .val (.int p5), .val (.ref b1), .val (.ref ca), .val (.ref cb), .val (.ref cd), .val (.int (2 : Int32)), .val (.ref cb), .val (.ref ca), .val (.ref cb), .val (.int (1 : Int32)), .unset] [(.int (2 : Int32)), (.int (0 : Int32))])) t
      refine XS.iconst X29.here hx rfl (hb hby at_192) ?_
      show Steps p.tables e below (T29.setTop (mkF m 193 #[.val (.int p1), .val (.int p2), .val (.int p3), .val (.int p4), .val (.int p5), .val (.ref b1), .val (.ref ca), .val (.ref cb), .val (.ref cd), .val (.int (2 : Int32)), .val (.ref cb), .val (.ref ca), .val (.ref cb), .val (.int (1 : Int32)), .unset] [(.int (1 : Int32)), (.int (2 : Int32)), (.int (0 : Int32))])) t
      refine XS.icmpYes X29.here hx rfl (pc0 := 193) (pc' := 200) rfl (hb hby at_193) rfl (feq (by decide : ¬ (2 : Int32) = (1 : Int32))).2 (by decide) (by decide) ?_
      show Steps p.tables e below (T29.setTop (mkF m 200 #[.val (.int p1), .val (.int p2), .val (.int p3), .val (.int p4), .val (.int p5), .val (.ref b1), .val (.ref ca), .val (.ref cb), .val (.ref cd), .val (.int (2 : Int32)), .val (.ref cb), .val (.ref ca), .val (.ref cb), .val (.int (1 : Int32)), .unset] [(.int (0 : Int32))])) t
      refine XS.iconst X29.here hx rfl (hb hby at_200) ?_
      show Steps p.tables e below (T29.setTop (mkF m 201 #[.val (.int p1), .val (.int p2), .val (.int p3), .val (.int p4), .val (.int p5), .val (.ref b1), .val (.ref ca), .val (.ref cb), .val (.ref cd), .val (.int (2 : Int32)), .val (.ref cb), .val (.ref ca), .val (.ref cb), .val (.int (1 : Int32)), .unset] [(.int (0 : Int32)), (.int (0 : Int32))])) t
      refine XS.icmpNo X29.here hx rfl (hb hby at_201) rfl (teq (by decide : (0 : Int32) = (0 : Int32))).2 ?_
      show Steps p.tables e below (T29.setTop (mkF m 204 #[.val (.int p1), .val (.int p2), .val (.int p3), .val (.int p4), .val (.int p5), .val (.ref b1), .val (.ref ca), .val (.ref cb), .val (.ref cd), .val (.int (2 : Int32)), .val (.ref cb), .val (.ref ca), .val (.ref cb), .val (.int (1 : Int32)), .unset] [])) t
      refine XS.iconst X29.here hx rfl (hb hby at_204) ?_
      show Steps p.tables e below (T29.setTop (mkF m 205 #[.val (.int p1), .val (.int p2), .val (.int p3), .val (.int p4), .val (.int p5), .val (.ref b1), .val (.ref ca), .val (.ref cb), .val (.ref cd), .val (.int (2 : Int32)), .val (.ref cb), .val (.ref ca), .val (.ref cb), .val (.int (1 : Int32)), .unset] [(.int (1 : Int32))])) t
      refine XS.goto X29.here hx rfl (pc0 := 205) (pc' := 209) rfl (hb hby at_205) (by decide) (by decide) ?_
      show Steps p.tables e below (T29.setTop (mkF m 209 #[.val (.int p1), .val (.int p2), .val (.int p3), .val (.int p4), .val (.int p5), .val (.ref b1), .val (.ref ca), .val (.ref cb), .val (.ref cd), .val (.int (2 : Int32)), .val (.ref cb), .val (.ref ca), .val (.ref cb), .val (.int (1 : Int32)), .unset] [(.int (1 : Int32))])) t
      refine XS.istore X29.here hx rfl (hb hby at_209) rfl (l' := #[.val (.int p1), .val (.int p2), .val (.int p3), .val (.int p4), .val (.int p5), .val (.ref b1), .val (.ref ca), .val (.ref cb), .val (.ref cd), .val (.int (2 : Int32)), .val (.ref cb), .val (.ref ca), .val (.ref cb), .val (.int (1 : Int32)), .unset]) rfl ?_
      show Steps p.tables e below (T29.setTop (mkF m 211 #[.val (.int p1), .val (.int p2), .val (.int p3), .val (.int p4), .val (.int p5), .val (.ref b1), .val (.ref ca), .val (.ref cb), .val (.ref cd), .val (.int (2 : Int32)), .val (.ref cb), .val (.ref ca), .val (.ref cb), .val (.int (1 : Int32)), .unset] [])) t
      refine XS.iload X29.here hx rfl (hb hby at_211) rfl ?_
      show Steps p.tables e below (T29.setTop (mkF m 213 #[.val (.int p1), .val (.int p2), .val (.int p3), .val (.int p4), .val (.int p5), .val (.ref b1), .val (.ref ca), .val (.ref cb), .val (.ref cd), .val (.int (2 : Int32)), .val (.ref cb), .val (.ref ca), .val (.ref cb), .val (.int (1 : Int32)), .unset] [(.int (2 : Int32))])) t
      refine XS.iconst X29.here hx rfl (hb hby at_213) ?_
      show Steps p.tables e below (T29.setTop (mkF m 214 #[.val (.int p1), .val (.int p2), .val (.int p3), .val (.int p4), .val (.int p5), .val (.ref b1), .val (.ref ca), .val (.ref cb), .val (.ref cd), .val (.int (2 : Int32)), .val (.ref cb), .val (.ref ca), .val (.ref cb), .val (.int (1 : Int32)), .unset] [(.int (2 : Int32)), (.int (2 : Int32))])) t
      refine XS.icmpNo X29.here hx rfl (hb hby at_214) rfl (flt (by decide : ¬ (2 : Int32) < (2 : Int32))).1 ?_
      show Steps p.tables e below (T29.setTop (mkF m 217 #[.val (.int p1), .val (.int p2), .val (.int p3), .val (.int p4), .val (.int p5), .val (.ref b1), .val (.ref ca), .val (.ref cb), .val (.ref cd), .val (.int (2 : Int32)), .val (.ref cb), .val (.ref ca), .val (.ref cb), .val (.int (1 : Int32)), .unset] [])) t
      refine XS.aload X29.here hx rfl (hb hby at_217) rfl rfl ?_
      show Steps p.tables e below (T29.setTop (mkF m 219 #[.val (.int p1), .val (.int p2), .val (.int p3), .val (.int p4), .val (.int p5), .val (.ref b1), .val (.ref ca), .val (.ref cb), .val (.ref cd), .val (.int (2 : Int32)), .val (.ref cb), .val (.ref ca), .val (.ref cb), .val (.int (1 : Int32)), .unset] [(.ref b1)])) t
      exact st32.trans k)
  obtain ⟨cq34, kq34, qa34, qb34, qc34⟩ := isOf hZ eh32 fq32_0
  obtain ⟨vv35, _, ⟨T35, L35, kk35, nn35⟩, -, X35, ⟨Lc35, hQ35, l35, y35, z35⟩, st35⟩ := X32.virtualBack hx (y := (⟨"com/example/baraja/baraja/games/sabacckessel/FamilyCards", "discardsAreEmpty", "()Z"⟩ : MethodName)) (z := (⟨"com/example/baraja/baraja/games/sabacckessel/FamilyCards", "discardsAreEmpty", "()Z"⟩ : MethodName)) hown (mvT hZ (hw _ (List.mem_of_getElem? (i := 49) rfl))) (mvT hZ (hw _ (List.mem_of_getElem? (i := 50) rfl))) (notFace_of_selects (args := #[]) (mvT hZ (hw _ (List.mem_of_getElem? (i := 52) rfl)))) (mvT hZ (hw _ (List.mem_of_getElem? (i := 52) rfl))) (mvT hZ (hw _ (List.mem_of_getElem? (i := 51) rfl))) (by decide) (backOf (W := 0) (own_emp_0 l Z a0 hw [] hh32 n0 (Nat.le_trans Z0 Kp32.1) b1 dd kd  fq32_0 fq32_1 fq32_2 fq32_3 fq3_4 g_b1 g_dd ne_b1_dd) hZ (hw _ (List.mem_of_getElem? (i := 53) rfl)) (hw _ (List.mem_of_getElem? (i := 2) rfl)) (by decide) (by decide)) qa34 qc34 (g := (mkF m 250 #[.val (.int p1), .val (.int p2), .val (.int p3), .val (.int p4), .val (.int p5), .val (.ref b1), .val (.ref ca), .val (.ref cb), .val (.ref cd), .val (.int (2 : Int32)), .val (.ref cb), .val (.ref ca), .val (.ref cb), .val (.int (1 : Int32)), .val (.ref ca)] [(.ref b1)])) rfl (by rw [hml]; rfl) (Steps.refl _) (argsL := []) (rest := []) (lenOf own_pd___Z rfl) rfl (by show 2 * 0 + _ ≤ _; exact Nat.le_of_eq rfl) (hb hby at_250) (fun _ _ => ⟨rfl, eh32, (by decide : 5 + 0 ≤ _), (by decide : 66 + 0 ≤ _)⟩)
  dsimp only [Pt.U, Pt.locs, Pt.cells, Pt.slots] at X35 l35 y35 z35 st35 hQ35
  subst l35 y35 z35
  obtain ⟨rfl, Nq35, e35⟩ := hQ35
  have N35 := Fr.app N32 Nq35
  have ch36 : ∀ t, Steps p.tables e below (T35.setTop (mkF m 253 #[.val (.int p1), .val (.int p2), .val (.int p3), .val (.int p4), .val (.int p5), .val (.ref b1), .val (.ref ca), .val (.ref cb), .val (.ref cd), .val (.int (2 : Int32)), .val (.ref cb), .val (.ref ca), .val (.ref cb), .val (.int (1 : Int32)), .val (.ref ca)] [(.int (1 : Int32))])) t → Steps p.tables e below (s₁.setTop (entryFrame m #[(.int p1), (.int p2), (.int p3), (.int p4), (.int p5)] maxLocals)) t := fun t k => ch33 t (by
      show Steps p.tables e below (T32.setTop (mkF m 222 #[.val (.int p1), .val (.int p2), .val (.int p3), .val (.int p4), .val (.int p5), .val (.ref b1), .val (.ref ca), .val (.ref cb), .val (.ref cd), .val (.int (2 : Int32)), .val (.ref cb), .val (.ref ca), .val (.ref cb), .val (.int (1 : Int32)), .unset] [(.ref ca)])) t
      refine XS.astore X32.here hx rfl (hb hby at_222) rfl rfl (l' := #[.val (.int p1), .val (.int p2), .val (.int p3), .val (.int p4), .val (.int p5), .val (.ref b1), .val (.ref ca), .val (.ref cb), .val (.ref cd), .val (.int (2 : Int32)), .val (.ref cb), .val (.ref ca), .val (.ref cb), .val (.int (1 : Int32)), .val (.ref ca)]) rfl ?_
      show Steps p.tables e below (T32.setTop (mkF m 224 #[.val (.int p1), .val (.int p2), .val (.int p3), .val (.int p4), .val (.int p5), .val (.ref b1), .val (.ref ca), .val (.ref cb), .val (.ref cd), .val (.int (2 : Int32)), .val (.ref cb), .val (.ref ca), .val (.ref cb), .val (.int (1 : Int32)), .val (.ref ca)] [])) t
      refine XS.iload X32.here hx rfl (hb hby at_224) rfl ?_
      show Steps p.tables e below (T32.setTop (mkF m 226 #[.val (.int p1), .val (.int p2), .val (.int p3), .val (.int p4), .val (.int p5), .val (.ref b1), .val (.ref ca), .val (.ref cb), .val (.ref cd), .val (.int (2 : Int32)), .val (.ref cb), .val (.ref ca), .val (.ref cb), .val (.int (1 : Int32)), .val (.ref ca)] [(.int (1 : Int32))])) t
      refine XS.ifNo X32.here hx rfl (hb hby at_226) rfl ((if0 _ _).trans (feq (by decide : ¬ (1 : Int32) = (0 : Int32))).1) ?_
      show Steps p.tables e below (T32.setTop (mkF m 229 #[.val (.int p1), .val (.int p2), .val (.int p3), .val (.int p4), .val (.int p5), .val (.ref b1), .val (.ref ca), .val (.ref cb), .val (.ref cd), .val (.int (2 : Int32)), .val (.ref cb), .val (.ref ca), .val (.ref cb), .val (.int (1 : Int32)), .val (.ref ca)] [])) t
      refine XS.aload X32.here hx rfl (hb hby at_229) rfl rfl ?_
      show Steps p.tables e below (T32.setTop (mkF m 231 #[.val (.int p1), .val (.int p2), .val (.int p3), .val (.int p4), .val (.int p5), .val (.ref b1), .val (.ref ca), .val (.ref cb), .val (.ref cd), .val (.int (2 : Int32)), .val (.ref cb), .val (.ref ca), .val (.ref cb), .val (.int (1 : Int32)), .val (.ref ca)] [(.ref ca)])) t
      refine XS.aload X32.here hx rfl (hb hby at_231) rfl rfl ?_
      show Steps p.tables e below (T32.setTop (mkF m 233 #[.val (.int p1), .val (.int p2), .val (.int p3), .val (.int p4), .val (.int p5), .val (.ref b1), .val (.ref ca), .val (.ref cb), .val (.ref cd), .val (.int (2 : Int32)), .val (.ref cb), .val (.ref ca), .val (.ref cb), .val (.int (1 : Int32)), .val (.ref ca)] [(.ref ca), (.ref ca)])) t
      refine Jvm.RoadKit.acmp (g := (mkF m 233 #[.val (.int p1), .val (.int p2), .val (.int p3), .val (.int p4), .val (.int p5), .val (.ref b1), .val (.ref ca), .val (.ref cb), .val (.ref cd), .val (.int (2 : Int32)), .val (.ref cb), .val (.ref ca), .val (.ref cb), .val (.int (1 : Int32)), .val (.ref ca)] [(.ref ca), (.ref ca)])) X32 hx rfl rfl rfl (pc0 := 233) (pc' := 236) (same := true) rfl (hb hby at_233) rfl (decide_eq_true rfl) (by decide) (by decide) ?_
      show Steps p.tables e below (T32.setTop (mkF m 236 #[.val (.int p1), .val (.int p2), .val (.int p3), .val (.int p4), .val (.int p5), .val (.ref b1), .val (.ref ca), .val (.ref cb), .val (.ref cd), .val (.int (2 : Int32)), .val (.ref cb), .val (.ref ca), .val (.ref cb), .val (.int (1 : Int32)), .val (.ref ca)] [])) t
      refine XS.iconst X32.here hx rfl (hb hby at_236) ?_
      show Steps p.tables e below (T32.setTop (mkF m 237 #[.val (.int p1), .val (.int p2), .val (.int p3), .val (.int p4), .val (.int p5), .val (.ref b1), .val (.ref ca), .val (.ref cb), .val (.ref cd), .val (.int (2 : Int32)), .val (.ref cb), .val (.ref ca), .val (.ref cb), .val (.int (1 : Int32)), .val (.ref ca)] [(.int (1 : Int32))])) t
      refine XS.goto X32.here hx rfl (pc0 := 237) (pc' := 241) rfl (hb hby at_237) (by decide) (by decide) ?_
      show Steps p.tables e below (T32.setTop (mkF m 241 #[.val (.int p1), .val (.int p2), .val (.int p3), .val (.int p4), .val (.int p5), .val (.ref b1), .val (.ref ca), .val (.ref cb), .val (.ref cd), .val (.int (2 : Int32)), .val (.ref cb), .val (.ref ca), .val (.ref cb), .val (.int (1 : Int32)), .val (.ref ca)] [(.int (1 : Int32))])) t
      refine XS.istore X32.here hx rfl (hb hby at_241) rfl (l' := #[.val (.int p1), .val (.int p2), .val (.int p3), .val (.int p4), .val (.int p5), .val (.ref b1), .val (.ref ca), .val (.ref cb), .val (.ref cd), .val (.int (2 : Int32)), .val (.ref cb), .val (.ref ca), .val (.ref cb), .val (.int (1 : Int32)), .val (.ref ca)]) rfl ?_
      show Steps p.tables e below (T32.setTop (mkF m 243 #[.val (.int p1), .val (.int p2), .val (.int p3), .val (.int p4), .val (.int p5), .val (.ref b1), .val (.ref ca), .val (.ref cb), .val (.ref cd), .val (.int (2 : Int32)), .val (.ref cb), .val (.ref ca), .val (.ref cb), .val (.int (1 : Int32)), .val (.ref ca)] [])) t
      refine XS.iload X32.here hx rfl (hb hby at_243) rfl ?_
      show Steps p.tables e below (T32.setTop (mkF m 245 #[.val (.int p1), .val (.int p2), .val (.int p3), .val (.int p4), .val (.int p5), .val (.ref b1), .val (.ref ca), .val (.ref cb), .val (.ref cd), .val (.int (2 : Int32)), .val (.ref cb), .val (.ref ca), .val (.ref cb), .val (.int (1 : Int32)), .val (.ref ca)] [(.int (1 : Int32))])) t
      refine XS.ifNo X32.here hx rfl (hb hby at_245) rfl ((if0 _ _).trans (feq (by decide : ¬ (1 : Int32) = (0 : Int32))).1) ?_
      show Steps p.tables e below (T32.setTop (mkF m 248 #[.val (.int p1), .val (.int p2), .val (.int p3), .val (.int p4), .val (.int p5), .val (.ref b1), .val (.ref ca), .val (.ref cb), .val (.ref cd), .val (.int (2 : Int32)), .val (.ref cb), .val (.ref ca), .val (.ref cb), .val (.int (1 : Int32)), .val (.ref ca)] [])) t
      refine XS.aload X32.here hx rfl (hb hby at_248) rfl rfl ?_
      show Steps p.tables e below (T32.setTop (mkF m 250 #[.val (.int p1), .val (.int p2), .val (.int p3), .val (.int p4), .val (.int p5), .val (.ref b1), .val (.ref ca), .val (.ref cb), .val (.ref cd), .val (.int (2 : Int32)), .val (.ref cb), .val (.ref ca), .val (.ref cb), .val (.int (1 : Int32)), .val (.ref ca)] [(.ref b1)])) t
      exact st35.trans k)
  have ch37 : ∀ t, Steps p.tables e below (T35.setTop (mkF m 276 #[.val (.int p1), .val (.int p2), .val (.int p3), .val (.int p4), .val (.int p5), .val (.ref b1), .val (.ref ca), .val (.ref cb), .val (.ref cd), .val (.int (2 : Int32)), .val (.ref cb), .val (.ref ca), .val (.ref cb), .val (.int (1 : Int32)), .val (.ref ca)] [(.int (1 : Int32))])) t → Steps p.tables e below (s₁.setTop (entryFrame m #[(.int p1), (.int p2), (.int p3), (.int p4), (.int p5)] maxLocals)) t := fun t k => ch36 t (by
      show Steps p.tables e below (T35.setTop (mkF m 253 #[.val (.int p1), .val (.int p2), .val (.int p3), .val (.int p4), .val (.int p5), .val (.ref b1), .val (.ref ca), .val (.ref cb), .val (.ref cd), .val (.int (2 : Int32)), .val (.ref cb), .val (.ref ca), .val (.ref cb), .val (.int (1 : Int32)), .val (.ref ca)] [(.int (1 : Int32))])) t
      refine XS.iload X35.here hx rfl (hb hby at_253) rfl ?_
      show Steps p.tables e below (T35.setTop (mkF m 255 #[.val (.int p1), .val (.int p2), .val (.int p3), .val (.int p4), .val (.int p5), .val (.ref b1), .val (.ref ca), .val (.ref cb), .val (.ref cd), .val (.int (2 : Int32)), .val (.ref cb), .val (.ref ca), .val (.ref cb), .val (.int (1 : Int32)), .val (.ref ca)] [(.int (2 : Int32)), (.int (1 : Int32))])) t
      refine XS.iconst X35.here hx rfl (hb hby at_255) ?_
      show Steps p.tables e below (T35.setTop (mkF m 256 #[.val (.int p1), .val (.int p2), .val (.int p3), .val (.int p4), .val (.int p5), .val (.ref b1), .val (.ref ca), .val (.ref cb), .val (.ref cd), .val (.int (2 : Int32)), .val (.ref cb), .val (.ref ca), .val (.ref cb), .val (.int (1 : Int32)), .val (.ref ca)] [(.int (2 : Int32)), (.int (2 : Int32)), (.int (1 : Int32))])) t
      refine XS.icmpNo X35.here hx rfl (hb hby at_256) rfl (teq (by decide : (2 : Int32) = (2 : Int32))).2 ?_
      show Steps p.tables e below (T35.setTop (mkF m 259 #[.val (.int p1), .val (.int p2), .val (.int p3), .val (.int p4), .val (.int p5), .val (.ref b1), .val (.ref ca), .val (.ref cb), .val (.ref cd), .val (.int (2 : Int32)), .val (.ref cb), .val (.ref ca), .val (.ref cb), .val (.int (1 : Int32)), .val (.ref ca)] [(.int (1 : Int32))])) t
      refine XS.iconst X35.here hx rfl (hb hby at_259) ?_
      show Steps p.tables e below (T35.setTop (mkF m 260 #[.val (.int p1), .val (.int p2), .val (.int p3), .val (.int p4), .val (.int p5), .val (.ref b1), .val (.ref ca), .val (.ref cb), .val (.ref cd), .val (.int (2 : Int32)), .val (.ref cb), .val (.ref ca), .val (.ref cb), .val (.int (1 : Int32)), .val (.ref ca)] [(.int (1 : Int32)), (.int (1 : Int32))])) t
      refine XS.goto X35.here hx rfl (pc0 := 260) (pc' := 264) rfl (hb hby at_260) (by decide) (by decide) ?_
      show Steps p.tables e below (T35.setTop (mkF m 264 #[.val (.int p1), .val (.int p2), .val (.int p3), .val (.int p4), .val (.int p5), .val (.ref b1), .val (.ref ca), .val (.ref cb), .val (.ref cd), .val (.int (2 : Int32)), .val (.ref cb), .val (.ref ca), .val (.ref cb), .val (.int (1 : Int32)), .val (.ref ca)] [(.int (1 : Int32)), (.int (1 : Int32))])) t
      refine XS.icmpNo X35.here hx rfl (hb hby at_264) rfl (teq (by decide : (1 : Int32) = (1 : Int32))).2 ?_
      show Steps p.tables e below (T35.setTop (mkF m 267 #[.val (.int p1), .val (.int p2), .val (.int p3), .val (.int p4), .val (.int p5), .val (.ref b1), .val (.ref ca), .val (.ref cb), .val (.ref cd), .val (.int (2 : Int32)), .val (.ref cb), .val (.ref ca), .val (.ref cb), .val (.int (1 : Int32)), .val (.ref ca)] [])) t
      refine XS.iconst X35.here hx rfl (hb hby at_267) ?_
      show Steps p.tables e below (T35.setTop (mkF m 268 #[.val (.int p1), .val (.int p2), .val (.int p3), .val (.int p4), .val (.int p5), .val (.ref b1), .val (.ref ca), .val (.ref cb), .val (.ref cd), .val (.int (2 : Int32)), .val (.ref cb), .val (.ref ca), .val (.ref cb), .val (.int (1 : Int32)), .val (.ref ca)] [(.int (1 : Int32))])) t
      refine XS.goto X35.here hx rfl (pc0 := 268) (pc' := 272) rfl (hb hby at_268) (by decide) (by decide) ?_
      show Steps p.tables e below (T35.setTop (mkF m 272 #[.val (.int p1), .val (.int p2), .val (.int p3), .val (.int p4), .val (.int p5), .val (.ref b1), .val (.ref ca), .val (.ref cb), .val (.ref cd), .val (.int (2 : Int32)), .val (.ref cb), .val (.ref ca), .val (.ref cb), .val (.int (1 : Int32)), .val (.ref ca)] [(.int (1 : Int32))])) t
      refine XS.istore X35.here hx rfl (hb hby at_272) rfl (l' := #[.val (.int p1), .val (.int p2), .val (.int p3), .val (.int p4), .val (.int p5), .val (.ref b1), .val (.ref ca), .val (.ref cb), .val (.ref cd), .val (.int (2 : Int32)), .val (.ref cb), .val (.ref ca), .val (.ref cb), .val (.int (1 : Int32)), .val (.ref ca)]) rfl ?_
      show Steps p.tables e below (T35.setTop (mkF m 274 #[.val (.int p1), .val (.int p2), .val (.int p3), .val (.int p4), .val (.int p5), .val (.ref b1), .val (.ref ca), .val (.ref cb), .val (.ref cd), .val (.int (2 : Int32)), .val (.ref cb), .val (.ref ca), .val (.ref cb), .val (.int (1 : Int32)), .val (.ref ca)] [])) t
      refine XS.iload X35.here hx rfl (hb hby at_274) rfl ?_
      exact k)
  obtain ⟨fs, hr, hrun, hended, hW, hsame⟩ := X35.leave (v := some (.int (1 : Int32))) (fun h => by rw [Bd.returns] at h; cases h)
  refine ⟨_, _, ch37 _ ?_, hrun, hended, _, _, rfl, ?_, ⟨_, rfl⟩, hW, hsame.mono (by decide) (by decide)⟩
  · show Steps p.tables e below (T35.setTop (mkF m 276 #[.val (.int p1), .val (.int p2), .val (.int p3), .val (.int p4), .val (.int p5), .val (.ref b1), .val (.ref ca), .val (.ref cb), .val (.ref cd), .val (.int (2 : Int32)), .val (.ref cb), .val (.ref ca), .val (.ref cb), .val (.int (1 : Int32)), .val (.ref ca)] [(.int (1 : Int32))])) _
    exact retN X35 hx (t := .boolean) Bd.returns (by simp) (hb hby at_276) hr
  · show QN (some (.int (1 : Int32))) n0 _ T35.heap _
    rw [e35]
    exact ⟨rfl, N35⟩
theorem own_ef_own_law_2 (m : MethodId) {x0 : Int32} {x1 : Int32} {x2 : Int32} {x3 : Int32} {x4 : Int32} : entryFrame m #[(.int x0), (.int x1), (.int x2), (.int x3), (.int x4)] maxLocals = mkF m 0 #[.val (.int x0), .val (.int x1), .val (.int x2), .val (.int x3), .val (.int x4), .unset, .unset, .unset, .unset, .unset, .unset, .unset, .unset, .unset, .unset] [] := by first | (simp [entryFrame, mkF, argsToLocals, Value.category, maxLocals]; done) | rfl
set_option maxRecDepth 65536 in
set_option maxHeartbeats 40000000 in
theorem own_law_2 (l : Launch) (Z : State) (a0 : Array Value) (hw : ∀ d ∈ tables_1, d.before a0 Z = true) (ws : List Jvm.Cond) (h0 : Heap) (n0 : Nat) (Z0 : n0 ≤ h0.size) (p1 p2 p3 p4 p5 : Int32) (ca cb cd : Addr) (HA : ∀ (h : Heap) (n0 : Nat) (Z0 : n0 ≤ h.size) (E : Ext h0 h), MetFree l (⟨"com/example/baraja/baraja/games/sabacckessel/Card", "of", "(I)Lcom/example/baraja/baraja/games/sabacckessel/Card;"⟩ : MethodName) (head1 (Jvm.Cond.code (⟨"com/example/baraja/baraja/games/sabacckessel/Card", "of", "(I)Lcom/example/baraja/baraja/games/sabacckessel/Card;"⟩ : MethodName) prog_38_method_8_code 1 (some (.object "com/example/baraja/baraja/games/sabacckessel/Card")) :: []) ({ frames := 0, cells := 0, slots := 0, locals := 0 } : Room)) (fun a U => a = #[(.int (p2 &&& (7 : Int32)))] ∧ Z.Warmed39 U.vm ∧ U.heap = h) (fun _ _ _ _ _ => True) (fun _ U o U' => ∃ v L, o = .returned v ∧ QV (some (.ref ca)) h n0 v U'.heap L ∧ FrameEnd U o U' L ({ frames := 0, cells := 0, slots := 0, locals := 0 } : Room).cells ({ frames := 0, cells := 0, slots := 0, locals := 0 } : Room).slots)) (HB : ∀ (h : Heap) (n0 : Nat) (Z0 : n0 ≤ h.size) (E : Ext h0 h), MetFree l (⟨"com/example/baraja/baraja/games/sabacckessel/Card", "of", "(I)Lcom/example/baraja/baraja/games/sabacckessel/Card;"⟩ : MethodName) (head1 (Jvm.Cond.code (⟨"com/example/baraja/baraja/games/sabacckessel/Card", "of", "(I)Lcom/example/baraja/baraja/games/sabacckessel/Card;"⟩ : MethodName) prog_38_method_8_code 1 (some (.object "com/example/baraja/baraja/games/sabacckessel/Card")) :: []) ({ frames := 0, cells := 0, slots := 0, locals := 0 } : Room)) (fun a U => a = #[(.int (p3 &&& (7 : Int32)))] ∧ Z.Warmed39 U.vm ∧ U.heap = h) (fun _ _ _ _ _ => True) (fun _ U o U' => ∃ v L, o = .returned v ∧ QV (some (.ref cb)) h n0 v U'.heap L ∧ FrameEnd U o U' L ({ frames := 0, cells := 0, slots := 0, locals := 0 } : Room).cells ({ frames := 0, cells := 0, slots := 0, locals := 0 } : Room).slots)) (HC : ∀ (h : Heap) (n0 : Nat) (Z0 : n0 ≤ h.size) (E : Ext h0 h), MetFree l (⟨"com/example/baraja/baraja/games/sabacckessel/Card", "of", "(I)Lcom/example/baraja/baraja/games/sabacckessel/Card;"⟩ : MethodName) (head1 (Jvm.Cond.code (⟨"com/example/baraja/baraja/games/sabacckessel/Card", "of", "(I)Lcom/example/baraja/baraja/games/sabacckessel/Card;"⟩ : MethodName) prog_38_method_8_code 1 (some (.object "com/example/baraja/baraja/games/sabacckessel/Card")) :: []) ({ frames := 0, cells := 0, slots := 0, locals := 0 } : Room)) (fun a U => a = #[(.int (p4 &&& (7 : Int32)))] ∧ Z.Warmed39 U.vm ∧ U.heap = h) (fun _ _ _ _ _ => True) (fun _ U o U' => ∃ v L, o = .returned v ∧ QV (some (.ref cd)) h n0 v U'.heap L ∧ FrameEnd U o U' L ({ frames := 0, cells := 0, slots := 0, locals := 0 } : Room).cells ({ frames := 0, cells := 0, slots := 0, locals := 0 } : Room).slots)) (E_ca : Exa Z h0 ca "com/example/baraja/baraja/games/sabacckessel/Card") (E_cb : Exa Z h0 cb "com/example/baraja/baraja/games/sabacckessel/Card") (E_cd : Exa Z h0 cd "com/example/baraja/baraja/games/sabacckessel/Card") (z0 : ¬ ((p1 &&& (7 : Int32)) + (1 : Int32)) < 0) (z8 : (((p1 &&& (7 : Int32)) + (1 : Int32))).toNatClampNeg ≤ 8) (hk : (p5 &&& (2147483647 : Int32)) % (3 : Int32) = (2 : Int32)) :
    MetFree l x (head1 (Jvm.Cond.code x code maxLocals ret :: ws) room_1) (fun a U => a = #[(.int p1), (.int p2), (.int p3), (.int p4), (.int p5)] ∧ Z.Warmed39 U.vm ∧ U.heap = h0) (fun _ _ _ _ _ => True) (fun _ U o U' => ∃ v L, o = .returned v ∧ QN (some (.int (1 : Int32))) n0 v U'.heap L ∧ FrameEnd U o U' L room_1.cells room_1.slots) := by
  refine MetFree.of_bodySF (plainFor_of_name own_pn_com_example_baraja_baraja_games_sabacckessel_FamilyCardsDrawFromDiscardsPinLaw) hisR ?_
  intro p e s m args below meth c s₁ Bd hml0 hP hK
  obtain ⟨rfl, hZ, hh⟩ := hP
  have hx := Bd.exec
  have hby := Bd.bytes
  have hml : c.maxLocals = 15 := hml0
  have hown : s.vm.findClass "com/example/baraja/baraja/games/sabacckessel/FamilyCardsDrawFromDiscardsPinLaw" = some m.cls := findClass_of_methodNamed Bd.named
  have hnm := (name_of_methodNamed Bd.named Bd.method).1
  have X0 : Stand p l e room_1 s m #[(.int p1), (.int p2), (.int p3), (.int p4), (.int p5)] below meth c s₁ [] 0 0 := Stand.of_body Bd
  have e0 : s₁.heap = h0 := by rw [← hh, Bd.state]; rfl
  have N0 := Fr.nil n0
  have pre0 : ∀ t, Steps p.tables e below (s₁.setTop (mkF m 0 #[.val (.int p1), .val (.int p2), .val (.int p3), .val (.int p4), .val (.int p5), .unset, .unset, .unset, .unset, .unset, .unset, .unset, .unset, .unset, .unset] [])) t → Steps p.tables e below (s₁.setTop (entryFrame m #[(.int p1), (.int p2), (.int p3), (.int p4), (.int p5)] maxLocals)) t := fun t k => castTop (own_ef_own_law_2 m) k
  obtain ⟨T1, hp1, X1, e1, E1, A1, D1, -, st1⟩ := newO X0 hx hZ hown (hw _ (List.mem_of_getElem? (i := 0) rfl)) (hw _ (List.mem_of_getElem? (i := 1) rfl)) (hw _ (List.mem_of_getElem? (i := 2) rfl)) e0 (g := (mkF m 0 #[.val (.int p1), .val (.int p2), .val (.int p3), .val (.int p4), .val (.int p5), .unset, .unset, .unset, .unset, .unset, .unset, .unset, .unset, .unset, .unset] [])) rfl (hb hby at_0) (by decide) (by decide)
  obtain ⟨b1, g1⟩ : ∃ z, z = h0.size := ⟨_, rfl⟩
  rw [← g1] at A1 D1 st1
  have ne_ca_b1 : ca ≠ b1 := Nat.ne_of_lt (Nat.lt_of_lt_of_le E_ca.lt (Nat.le_of_eq g1.symm))
  have ne_cb_b1 : cb ≠ b1 := Nat.ne_of_lt (Nat.lt_of_lt_of_le E_cb.lt (Nat.le_of_eq g1.symm))
  have ne_cd_b1 : cd ≠ b1 := Nat.ne_of_lt (Nat.lt_of_lt_of_le E_cd.lt (Nat.le_of_eq g1.symm))
  have g_b1 : n0 ≤ b1 := Nat.le_trans (Nat.le_trans Z0 (Keep.refl h0 []).1) (Nat.le_of_eq g1.symm)
  have sz_b1 : h0.size ≤ b1 := Nat.le_trans (Keep.refl h0 []).1 (Nat.le_of_eq g1.symm)
  have Kp1 := Keep.ext (Keep.refl h0 []) E1
  have F1_11 : Fld Z hp1 b1 "com/example/baraja/baraja/games/sabacckessel/FamilyCards" "deck" "[B" .null := D1 (Or.inr (hw _ (List.mem_of_getElem? (i := 11) rfl))) (ty := (.array .byte)) (by decide)
  have F1_15 : Fld Z hp1 b1 "com/example/baraja/baraja/games/sabacckessel/FamilyCards" "discards" "[Lcom/example/baraja/baraja/games/sabacckessel/Card;" .null := D1 (Or.inr (hw _ (List.mem_of_getElem? (i := 15) rfl))) (ty := (.array (.object "com/example/baraja/baraja/games/sabacckessel/Card"))) (by decide)
  have F1_17 : Fld Z hp1 b1 "com/example/baraja/baraja/games/sabacckessel/FamilyCards" "hands" "[Lcom/example/baraja/baraja/games/sabacckessel/Card;" .null := D1 (Or.inr (hw _ (List.mem_of_getElem? (i := 17) rfl))) (ty := (.array (.object "com/example/baraja/baraja/games/sabacckessel/Card"))) (by decide)
  have F1_20 : Fld Z hp1 b1 "com/example/baraja/baraja/games/sabacckessel/FamilyCards" "seenBy" "[I" .null := D1 (Or.inr (hw _ (List.mem_of_getElem? (i := 20) rfl))) (ty := (.array .int)) (by decide)
  have F1_37 : Fld Z hp1 b1 "com/example/baraja/baraja/games/sabacckessel/FamilyCards" "discardCount" "I" (.int (0 : Int32)) := D1 (Or.inl (hw _ (List.mem_of_getElem? (i := 37) rfl))) (ty := .int) (by decide)
  have ch2 : ∀ t, Steps p.tables e below (T1.setTop (mkF m 3 #[.val (.int p1), .val (.int p2), .val (.int p3), .val (.int p4), .val (.int p5), .unset, .unset, .unset, .unset, .unset, .unset, .unset, .unset, .unset, .unset] [(.ref b1)])) t → Steps p.tables e below (s₁.setTop (entryFrame m #[(.int p1), (.int p2), (.int p3), (.int p4), (.int p5)] maxLocals)) t := fun t k => pre0 t (by
      show Steps p.tables e below (s₁.setTop (mkF m 0 #[.val (.int p1), .val (.int p2), .val (.int p3), .val (.int p4), .val (.int p5), .unset, .unset, .unset, .unset, .unset, .unset, .unset, .unset, .unset, .unset] [])) t
      exact st1 t k)
  obtain ⟨vv3, _, ⟨T3, L3, kk3, nn3⟩, -, X3, ⟨Lc3, hQ3, l3, y3, z3⟩, st3⟩ := X1.specialBack hx (y := (⟨"com/example/baraja/baraja/games/sabacckessel/FamilyCards", "<init>", "(I)V"⟩ : MethodName)) rfl hown (mvT hZ (hw _ (List.mem_of_getElem? (i := 3) rfl))) (mvT hZ (hw _ (List.mem_of_getElem? (i := 4) rfl))) (mvT hZ (hw _ (List.mem_of_getElem? (i := 5) rfl))) (by decide) (backOf (W := 1) (own_ini l Z a0 hw [] hp1 n0 (Nat.le_trans Z0 Kp1.1) b1 ((p1 &&& (7 : Int32)) + (1 : Int32)) A1 F1_11 F1_15 F1_17 F1_20 F1_37 g_b1 z0 z8) hZ (hw _ (List.mem_of_getElem? (i := 5) rfl)) (hw _ (List.mem_of_getElem? (i := 2) rfl)) (by decide) (by decide)) (g := (mkF m 10 #[.val (.int p1), .val (.int p2), .val (.int p3), .val (.int p4), .val (.int p5), .unset, .unset, .unset, .unset, .unset, .unset, .unset, .unset, .unset, .unset] [(.int ((p1 &&& (7 : Int32)) + (1 : Int32))), (.ref b1), (.ref b1)])) rfl (by rw [hml]; rfl) (Steps.refl _) (a := b1) (argsL := [(.int ((p1 &&& (7 : Int32)) + (1 : Int32)))]) (rest := [(.ref b1)]) (lenOf own_pd__I_V rfl) rfl (by show 2 * 0 + _ ≤ _; exact Nat.le_of_eq rfl) (hb hby at_10) (fun _ _ => ⟨rfl, e1, (by decide : 1 + 4 ≤ _), (by decide : 6 + 60 ≤ _)⟩)
  dsimp only [Pt.U, Pt.locs, Pt.cells, Pt.slots] at X3 l3 y3 z3 st3 hQ3
  subst l3 y3 z3
  obtain ⟨hh3, eh3⟩ : ∃ h, T3.heap = h := ⟨_, rfl⟩
  rw [eh3] at hQ3
  obtain ⟨dd, kd, rfl, zq3, Nq3, Kq3, fq3_0, fq3_1, fq3_2, fq3_3, fq3_4⟩ := hQ3
  have N3 := Fr.app N0 Nq3
  have cf4 := (Exa.keep E_ca Kp1)
  have ne_ca_dd : ca ≠ dd := Nat.ne_of_lt (Nat.lt_of_lt_of_le cf4.lt zq3)
  have cf5 := (Exa.keep E_cb Kp1)
  have ne_cb_dd : cb ≠ dd := Nat.ne_of_lt (Nat.lt_of_lt_of_le cf5.lt zq3)
  have cf6 := (Exa.keep E_cd Kp1)
  have ne_cd_dd : cd ≠ dd := Nat.ne_of_lt (Nat.lt_of_lt_of_le cf6.lt zq3)
  have ne_b1_dd : b1 ≠ dd := Nat.ne_of_lt (Nat.lt_of_lt_of_le A1.lt zq3)
  have g_dd : n0 ≤ dd := Nat.le_trans (Nat.le_trans Z0 Kp1.1) zq3
  have sz_dd : h0.size ≤ dd := Nat.le_trans Kp1.1 zq3
  have Kp3 := Keep.trans Kp1 Kq3 (allS (Or.inr sz_b1) all0)
  have ch7 : ∀ t, Steps p.tables e below (T3.setTop (mkF m 13 #[.val (.int p1), .val (.int p2), .val (.int p3), .val (.int p4), .val (.int p5), .unset, .unset, .unset, .unset, .unset, .unset, .unset, .unset, .unset, .unset] [(.ref b1)])) t → Steps p.tables e below (s₁.setTop (entryFrame m #[(.int p1), (.int p2), (.int p3), (.int p4), (.int p5)] maxLocals)) t := fun t k => ch2 t (by
      show Steps p.tables e below (T1.setTop (mkF m 3 #[.val (.int p1), .val (.int p2), .val (.int p3), .val (.int p4), .val (.int p5), .unset, .unset, .unset, .unset, .unset, .unset, .unset, .unset, .unset, .unset] [(.ref b1)])) t
      refine XS.dup X1.here hx rfl (hb hby at_3) rfl rfl ?_
      show Steps p.tables e below (T1.setTop (mkF m 4 #[.val (.int p1), .val (.int p2), .val (.int p3), .val (.int p4), .val (.int p5), .unset, .unset, .unset, .unset, .unset, .unset, .unset, .unset, .unset, .unset] [(.ref b1), (.ref b1)])) t
      refine XS.iloadN X1.here hx rfl (hb hby at_4) rfl ?_
      show Steps p.tables e below (T1.setTop (mkF m 5 #[.val (.int p1), .val (.int p2), .val (.int p3), .val (.int p4), .val (.int p5), .unset, .unset, .unset, .unset, .unset, .unset, .unset, .unset, .unset, .unset] [(.int p1), (.ref b1), (.ref b1)])) t
      refine XS.bipush X1.here hx rfl (hb hby at_5) ?_
      show Steps p.tables e below (T1.setTop (mkF m 7 #[.val (.int p1), .val (.int p2), .val (.int p3), .val (.int p4), .val (.int p5), .unset, .unset, .unset, .unset, .unset, .unset, .unset, .unset, .unset, .unset] [(.int (7 : Int32)), (.int p1), (.ref b1), (.ref b1)])) t
      refine XS.iand X1.here hx rfl (hb hby at_7) rfl ?_
      show Steps p.tables e below (T1.setTop (mkF m 8 #[.val (.int p1), .val (.int p2), .val (.int p3), .val (.int p4), .val (.int p5), .unset, .unset, .unset, .unset, .unset, .unset, .unset, .unset, .unset, .unset] [(.int (p1 &&& (7 : Int32))), (.ref b1), (.ref b1)])) t
      refine XS.iconst X1.here hx rfl (hb hby at_8) ?_
      show Steps p.tables e below (T1.setTop (mkF m 9 #[.val (.int p1), .val (.int p2), .val (.int p3), .val (.int p4), .val (.int p5), .unset, .unset, .unset, .unset, .unset, .unset, .unset, .unset, .unset, .unset] [(.int (1 : Int32)), (.int (p1 &&& (7 : Int32))), (.ref b1), (.ref b1)])) t
      refine XS.iadd X1.here hx rfl (hb hby at_9) rfl ?_
      show Steps p.tables e below (T1.setTop (mkF m 10 #[.val (.int p1), .val (.int p2), .val (.int p3), .val (.int p4), .val (.int p5), .unset, .unset, .unset, .unset, .unset, .unset, .unset, .unset, .unset, .unset] [(.int ((p1 &&& (7 : Int32)) + (1 : Int32))), (.ref b1), (.ref b1)])) t
      exact st3.trans k)
  obtain ⟨vv8, _, ⟨T8, L8, kk8, nn8⟩, -, X8, ⟨Lc8, hQ8, l8, y8, z8⟩, st8⟩ := Jvm.LawKit.callS X3 hx (y := (⟨"com/example/baraja/baraja/games/sabacckessel/Card", "of", "(I)Lcom/example/baraja/baraja/games/sabacckessel/Card;"⟩ : MethodName)) hown (mvT hZ (hw _ (List.mem_of_getElem? (i := 21) rfl))) (mvT hZ (hw _ (List.mem_of_getElem? (i := 22) rfl))) (mvT hZ (hw _ (List.mem_of_getElem? (i := 23) rfl))) (mvT hZ (hw _ (List.mem_of_getElem? (i := 24) rfl))) (by decide) (backOf (W := 0) (HA hh3 n0 (Nat.le_trans Z0 Kp3.1) (own_ext_of_keep Kp3 all0)) hZ (hw _ (List.mem_of_getElem? (i := 24) rfl)) (hw _ (List.mem_of_getElem? (i := 23) rfl)) (by decide) (by decide)) (g := (mkF m 19 #[.val (.int p1), .val (.int p2), .val (.int p3), .val (.int p4), .val (.int p5), .val (.ref b1), .unset, .unset, .unset, .unset, .unset, .unset, .unset, .unset, .unset] [(.int (p2 &&& (7 : Int32)))])) rfl (by rw [hml]; rfl) (argsL := [(.int (p2 &&& (7 : Int32)))]) (rest := []) (lenOf own_pd__I_Lcom_example_baraja_baraja_games_sabacckessel_Card_ rfl) rfl (by show 2 * 0 + _ ≤ _; exact Nat.le_of_eq rfl) (hb hby at_19) (fun _ _ => ⟨rfl, eh3, (by decide : 5 + 0 ≤ _), (by decide : 66 + 0 ≤ _)⟩)
  dsimp only [Pt.U, Pt.locs, Pt.cells, Pt.slots] at X8 l8 y8 z8 st8 hQ8
  subst l8 y8 z8
  obtain ⟨rfl, Nq8, e8⟩ := hQ8
  have N8 := Fr.app N3 Nq8
  have ch9 : ∀ t, Steps p.tables e below (T8.setTop (mkF m 22 #[.val (.int p1), .val (.int p2), .val (.int p3), .val (.int p4), .val (.int p5), .val (.ref b1), .unset, .unset, .unset, .unset, .unset, .unset, .unset, .unset, .unset] [(.ref ca)])) t → Steps p.tables e below (s₁.setTop (entryFrame m #[(.int p1), (.int p2), (.int p3), (.int p4), (.int p5)] maxLocals)) t := fun t k => ch7 t (by
      show Steps p.tables e below (T3.setTop (mkF m 13 #[.val (.int p1), .val (.int p2), .val (.int p3), .val (.int p4), .val (.int p5), .unset, .unset, .unset, .unset, .unset, .unset, .unset, .unset, .unset, .unset] [(.ref b1)])) t
      refine XS.astore X3.here hx rfl (hb hby at_13) rfl rfl (l' := #[.val (.int p1), .val (.int p2), .val (.int p3), .val (.int p4), .val (.int p5), .val (.ref b1), .unset, .unset, .unset, .unset, .unset, .unset, .unset, .unset, .unset]) rfl ?_
      show Steps p.tables e below (T3.setTop (mkF m 15 #[.val (.int p1), .val (.int p2), .val (.int p3), .val (.int p4), .val (.int p5), .val (.ref b1), .unset, .unset, .unset, .unset, .unset, .unset, .unset, .unset, .unset] [])) t
      refine XS.iloadN X3.here hx rfl (hb hby at_15) rfl ?_
      show Steps p.tables e below (T3.setTop (mkF m 16 #[.val (.int p1), .val (.int p2), .val (.int p3), .val (.int p4), .val (.int p5), .val (.ref b1), .unset, .unset, .unset, .unset, .unset, .unset, .unset, .unset, .unset] [(.int p2)])) t
      refine XS.bipush X3.here hx rfl (hb hby at_16) ?_
      show Steps p.tables e below (T3.setTop (mkF m 18 #[.val (.int p1), .val (.int p2), .val (.int p3), .val (.int p4), .val (.int p5), .val (.ref b1), .unset, .unset, .unset, .unset, .unset, .unset, .unset, .unset, .unset] [(.int (7 : Int32)), (.int p2)])) t
      refine XS.iand X3.here hx rfl (hb hby at_18) rfl ?_
      show Steps p.tables e below (T3.setTop (mkF m 19 #[.val (.int p1), .val (.int p2), .val (.int p3), .val (.int p4), .val (.int p5), .val (.ref b1), .unset, .unset, .unset, .unset, .unset, .unset, .unset, .unset, .unset] [(.int (p2 &&& (7 : Int32)))])) t
      exact st8 t k)
  obtain ⟨vv10, _, ⟨T10, L10, kk10, nn10⟩, -, X10, ⟨Lc10, hQ10, l10, y10, z10⟩, st10⟩ := Jvm.LawKit.callS X8 hx (y := (⟨"com/example/baraja/baraja/games/sabacckessel/Card", "of", "(I)Lcom/example/baraja/baraja/games/sabacckessel/Card;"⟩ : MethodName)) hown (mvT hZ (hw _ (List.mem_of_getElem? (i := 21) rfl))) (mvT hZ (hw _ (List.mem_of_getElem? (i := 22) rfl))) (mvT hZ (hw _ (List.mem_of_getElem? (i := 23) rfl))) (mvT hZ (hw _ (List.mem_of_getElem? (i := 24) rfl))) (by decide) (backOf (W := 0) (HB hh3 n0 (Nat.le_trans Z0 Kp3.1) (own_ext_of_keep Kp3 all0)) hZ (hw _ (List.mem_of_getElem? (i := 24) rfl)) (hw _ (List.mem_of_getElem? (i := 23) rfl)) (by decide) (by decide)) (g := (mkF m 28 #[.val (.int p1), .val (.int p2), .val (.int p3), .val (.int p4), .val (.int p5), .val (.ref b1), .val (.ref ca), .unset, .unset, .unset, .unset, .unset, .unset, .unset, .unset] [(.int (p3 &&& (7 : Int32)))])) rfl (by rw [hml]; rfl) (argsL := [(.int (p3 &&& (7 : Int32)))]) (rest := []) (lenOf own_pd__I_Lcom_example_baraja_baraja_games_sabacckessel_Card_ rfl) rfl (by show 2 * 0 + _ ≤ _; exact Nat.le_of_eq rfl) (hb hby at_28) (fun _ _ => ⟨rfl, e8, (by decide : 5 + 0 ≤ _), (by decide : 66 + 0 ≤ _)⟩)
  dsimp only [Pt.U, Pt.locs, Pt.cells, Pt.slots] at X10 l10 y10 z10 st10 hQ10
  subst l10 y10 z10
  obtain ⟨rfl, Nq10, e10⟩ := hQ10
  have N10 := Fr.app N8 Nq10
  have ch11 : ∀ t, Steps p.tables e below (T10.setTop (mkF m 31 #[.val (.int p1), .val (.int p2), .val (.int p3), .val (.int p4), .val (.int p5), .val (.ref b1), .val (.ref ca), .unset, .unset, .unset, .unset, .unset, .unset, .unset, .unset] [(.ref cb)])) t → Steps p.tables e below (s₁.setTop (entryFrame m #[(.int p1), (.int p2), (.int p3), (.int p4), (.int p5)] maxLocals)) t := fun t k => ch9 t (by
      show Steps p.tables e below (T8.setTop (mkF m 22 #[.val (.int p1), .val (.int p2), .val (.int p3), .val (.int p4), .val (.int p5), .val (.ref b1), .unset, .unset, .unset, .unset, .unset, .unset, .unset, .unset, .unset] [(.ref ca)])) t
      refine XS.astore X8.here hx rfl (hb hby at_22) rfl rfl (l' := #[.val (.int p1), .val (.int p2), .val (.int p3), .val (.int p4), .val (.int p5), .val (.ref b1), .val (.ref ca), .unset, .unset, .unset, .unset, .unset, .unset, .unset, .unset]) rfl ?_
      show Steps p.tables e below (T8.setTop (mkF m 24 #[.val (.int p1), .val (.int p2), .val (.int p3), .val (.int p4), .val (.int p5), .val (.ref b1), .val (.ref ca), .unset, .unset, .unset, .unset, .unset, .unset, .unset, .unset] [])) t
      refine XS.iloadN X8.here hx rfl (hb hby at_24) rfl ?_
      show Steps p.tables e below (T8.setTop (mkF m 25 #[.val (.int p1), .val (.int p2), .val (.int p3), .val (.int p4), .val (.int p5), .val (.ref b1), .val (.ref ca), .unset, .unset, .unset, .unset, .unset, .unset, .unset, .unset] [(.int p3)])) t
      refine XS.bipush X8.here hx rfl (hb hby at_25) ?_
      show Steps p.tables e below (T8.setTop (mkF m 27 #[.val (.int p1), .val (.int p2), .val (.int p3), .val (.int p4), .val (.int p5), .val (.ref b1), .val (.ref ca), .unset, .unset, .unset, .unset, .unset, .unset, .unset, .unset] [(.int (7 : Int32)), (.int p3)])) t
      refine XS.iand X8.here hx rfl (hb hby at_27) rfl ?_
      show Steps p.tables e below (T8.setTop (mkF m 28 #[.val (.int p1), .val (.int p2), .val (.int p3), .val (.int p4), .val (.int p5), .val (.ref b1), .val (.ref ca), .unset, .unset, .unset, .unset, .unset, .unset, .unset, .unset] [(.int (p3 &&& (7 : Int32)))])) t
      exact st10 t k)
  obtain ⟨vv12, _, ⟨T12, L12, kk12, nn12⟩, -, X12, ⟨Lc12, hQ12, l12, y12, z12⟩, st12⟩ := Jvm.LawKit.callS X10 hx (y := (⟨"com/example/baraja/baraja/games/sabacckessel/Card", "of", "(I)Lcom/example/baraja/baraja/games/sabacckessel/Card;"⟩ : MethodName)) hown (mvT hZ (hw _ (List.mem_of_getElem? (i := 21) rfl))) (mvT hZ (hw _ (List.mem_of_getElem? (i := 22) rfl))) (mvT hZ (hw _ (List.mem_of_getElem? (i := 23) rfl))) (mvT hZ (hw _ (List.mem_of_getElem? (i := 24) rfl))) (by decide) (backOf (W := 0) (HC hh3 n0 (Nat.le_trans Z0 Kp3.1) (own_ext_of_keep Kp3 all0)) hZ (hw _ (List.mem_of_getElem? (i := 24) rfl)) (hw _ (List.mem_of_getElem? (i := 23) rfl)) (by decide) (by decide)) (g := (mkF m 37 #[.val (.int p1), .val (.int p2), .val (.int p3), .val (.int p4), .val (.int p5), .val (.ref b1), .val (.ref ca), .val (.ref cb), .unset, .unset, .unset, .unset, .unset, .unset, .unset] [(.int (p4 &&& (7 : Int32)))])) rfl (by rw [hml]; rfl) (argsL := [(.int (p4 &&& (7 : Int32)))]) (rest := []) (lenOf own_pd__I_Lcom_example_baraja_baraja_games_sabacckessel_Card_ rfl) rfl (by show 2 * 0 + _ ≤ _; exact Nat.le_of_eq rfl) (hb hby at_37) (fun _ _ => ⟨rfl, e10, (by decide : 5 + 0 ≤ _), (by decide : 66 + 0 ≤ _)⟩)
  dsimp only [Pt.U, Pt.locs, Pt.cells, Pt.slots] at X12 l12 y12 z12 st12 hQ12
  subst l12 y12 z12
  obtain ⟨rfl, Nq12, e12⟩ := hQ12
  have N12 := Fr.app N10 Nq12
  have ch13 : ∀ t, Steps p.tables e below (T12.setTop (mkF m 40 #[.val (.int p1), .val (.int p2), .val (.int p3), .val (.int p4), .val (.int p5), .val (.ref b1), .val (.ref ca), .val (.ref cb), .unset, .unset, .unset, .unset, .unset, .unset, .unset] [(.ref cd)])) t → Steps p.tables e below (s₁.setTop (entryFrame m #[(.int p1), (.int p2), (.int p3), (.int p4), (.int p5)] maxLocals)) t := fun t k => ch11 t (by
      show Steps p.tables e below (T10.setTop (mkF m 31 #[.val (.int p1), .val (.int p2), .val (.int p3), .val (.int p4), .val (.int p5), .val (.ref b1), .val (.ref ca), .unset, .unset, .unset, .unset, .unset, .unset, .unset, .unset] [(.ref cb)])) t
      refine XS.astore X10.here hx rfl (hb hby at_31) rfl rfl (l' := #[.val (.int p1), .val (.int p2), .val (.int p3), .val (.int p4), .val (.int p5), .val (.ref b1), .val (.ref ca), .val (.ref cb), .unset, .unset, .unset, .unset, .unset, .unset, .unset]) rfl ?_
      show Steps p.tables e below (T10.setTop (mkF m 33 #[.val (.int p1), .val (.int p2), .val (.int p3), .val (.int p4), .val (.int p5), .val (.ref b1), .val (.ref ca), .val (.ref cb), .unset, .unset, .unset, .unset, .unset, .unset, .unset] [])) t
      refine XS.iloadN X10.here hx rfl (hb hby at_33) rfl ?_
      show Steps p.tables e below (T10.setTop (mkF m 34 #[.val (.int p1), .val (.int p2), .val (.int p3), .val (.int p4), .val (.int p5), .val (.ref b1), .val (.ref ca), .val (.ref cb), .unset, .unset, .unset, .unset, .unset, .unset, .unset] [(.int p4)])) t
      refine XS.bipush X10.here hx rfl (hb hby at_34) ?_
      show Steps p.tables e below (T10.setTop (mkF m 36 #[.val (.int p1), .val (.int p2), .val (.int p3), .val (.int p4), .val (.int p5), .val (.ref b1), .val (.ref ca), .val (.ref cb), .unset, .unset, .unset, .unset, .unset, .unset, .unset] [(.int (7 : Int32)), (.int p4)])) t
      refine XS.iand X10.here hx rfl (hb hby at_36) rfl ?_
      show Steps p.tables e below (T10.setTop (mkF m 37 #[.val (.int p1), .val (.int p2), .val (.int p3), .val (.int p4), .val (.int p5), .val (.ref b1), .val (.ref ca), .val (.ref cb), .unset, .unset, .unset, .unset, .unset, .unset, .unset] [(.int (p4 &&& (7 : Int32)))])) t
      exact st12 t k)
  have cf14 := (cf4.keep Kq3)
  obtain ⟨cq15, kq15, qa15, qb15, qc15⟩ := isOf hZ e12 fq3_0
  obtain ⟨vv16, _, ⟨T16, L16, kk16, nn16⟩, -, X16, ⟨Lc16, hQ16, l16, y16, z16⟩, st16⟩ := X12.virtualBack hx (y := (⟨"com/example/baraja/baraja/games/sabacckessel/FamilyCards", "discard", "(Lcom/example/baraja/baraja/games/sabacckessel/Card;)V"⟩ : MethodName)) (z := (⟨"com/example/baraja/baraja/games/sabacckessel/FamilyCards", "discard", "(Lcom/example/baraja/baraja/games/sabacckessel/Card;)V"⟩ : MethodName)) hown (mvT hZ (hw _ (List.mem_of_getElem? (i := 31) rfl))) (mvT hZ (hw _ (List.mem_of_getElem? (i := 32) rfl))) (notFace_of_selects (args := #[]) (mvT hZ (hw _ (List.mem_of_getElem? (i := 34) rfl)))) (mvT hZ (hw _ (List.mem_of_getElem? (i := 34) rfl))) (mvT hZ (hw _ (List.mem_of_getElem? (i := 33) rfl))) (by decide) (backOf (W := 0) (own_disc_0 l Z a0 hw [] hh3 n0 (Nat.le_trans Z0 Kp3.1) b1 dd kd ca fq3_0 fq3_1 fq3_2 fq3_3 fq3_4 g_b1 g_dd ne_b1_dd cf14) hZ (hw _ (List.mem_of_getElem? (i := 35) rfl)) (hw _ (List.mem_of_getElem? (i := 2) rfl)) (by decide) (by decide)) qa15 qc15 (g := (mkF m 57 #[.val (.int p1), .val (.int p2), .val (.int p3), .val (.int p4), .val (.int p5), .val (.ref b1), .val (.ref ca), .val (.ref cb), .val (.ref cd), .val (.int (3 : Int32)), .unset, .unset, .unset, .unset, .unset] [(.ref ca), (.ref b1)])) rfl (by rw [hml]; rfl) (Steps.refl _) (argsL := [(.ref ca)]) (rest := []) (lenOf own_pd__Lcom_example_baraja_baraja_games_sabacckessel_Card__V rfl) rfl (by show 2 * 0 + _ ≤ _; exact Nat.le_of_eq rfl) (hb hby at_57) (fun _ _ => ⟨rfl, e12, (by decide : 5 + 0 ≤ _), (by decide : 66 + 0 ≤ _)⟩)
  dsimp only [Pt.U, Pt.locs, Pt.cells, Pt.slots] at X16 l16 y16 z16 st16 hQ16
  subst l16 y16 z16
  obtain ⟨hh16, eh16⟩ : ∃ h, T16.heap = h := ⟨_, rfl⟩
  rw [eh16] at hQ16
  obtain ⟨rfl, Nq16, Kq16, fq16_0, fq16_1, fq16_2, fq16_3⟩ := hQ16
  have N16 := Fr.app N12 Nq16
  have Kp16 := Keep.trans Kp3 Kq16 (allS (Or.inr sz_b1) (allS (Or.inr sz_dd) all0))
  have ch17 : ∀ t, Steps p.tables e below (T16.setTop (mkF m 60 #[.val (.int p1), .val (.int p2), .val (.int p3), .val (.int p4), .val (.int p5), .val (.ref b1), .val (.ref ca), .val (.ref cb), .val (.ref cd), .val (.int (3 : Int32)), .unset, .unset, .unset, .unset, .unset] [])) t → Steps p.tables e below (s₁.setTop (entryFrame m #[(.int p1), (.int p2), (.int p3), (.int p4), (.int p5)] maxLocals)) t := fun t k => ch13 t (by
      show Steps p.tables e below (T12.setTop (mkF m 40 #[.val (.int p1), .val (.int p2), .val (.int p3), .val (.int p4), .val (.int p5), .val (.ref b1), .val (.ref ca), .val (.ref cb), .unset, .unset, .unset, .unset, .unset, .unset, .unset] [(.ref cd)])) t
      refine XS.astore X12.here hx rfl (hb hby at_40) rfl rfl (l' := #[.val (.int p1), .val (.int p2), .val (.int p3), .val (.int p4), .val (.int p5), .val (.ref b1), .val (.ref ca), .val (.ref cb), .val (.ref cd), .unset, .unset, .unset, .unset, .unset, .unset]) rfl ?_
      show Steps p.tables e below (T12.setTop (mkF m 42 #[.val (.int p1), .val (.int p2), .val (.int p3), .val (.int p4), .val (.int p5), .val (.ref b1), .val (.ref ca), .val (.ref cb), .val (.ref cd), .unset, .unset, .unset, .unset, .unset, .unset] [])) t
      refine XS.iconst X12.here hx rfl (hb hby at_42) ?_
      show Steps p.tables e below (T12.setTop (mkF m 43 #[.val (.int p1), .val (.int p2), .val (.int p3), .val (.int p4), .val (.int p5), .val (.ref b1), .val (.ref ca), .val (.ref cb), .val (.ref cd), .unset, .unset, .unset, .unset, .unset, .unset] [(.int (1 : Int32))])) t
      refine XS.iload X12.here hx rfl (hb hby at_43) rfl ?_
      show Steps p.tables e below (T12.setTop (mkF m 45 #[.val (.int p1), .val (.int p2), .val (.int p3), .val (.int p4), .val (.int p5), .val (.ref b1), .val (.ref ca), .val (.ref cb), .val (.ref cd), .unset, .unset, .unset, .unset, .unset, .unset] [(.int p5), (.int (1 : Int32))])) t
      refine X12.ldcInt hx hown (mvT hZ (hw _ (List.mem_of_getElem? (i := 30) rfl))) (g := (mkF m 45 #[.val (.int p1), .val (.int p2), .val (.int p3), .val (.int p4), .val (.int p5), .val (.ref b1), .val (.ref ca), .val (.ref cb), .val (.ref cd), .unset, .unset, .unset, .unset, .unset, .unset] [(.int p5), (.int (1 : Int32))])) rfl (hb hby at_45) _ ?_
      show Steps p.tables e below (T12.setTop (mkF m 47 #[.val (.int p1), .val (.int p2), .val (.int p3), .val (.int p4), .val (.int p5), .val (.ref b1), .val (.ref ca), .val (.ref cb), .val (.ref cd), .unset, .unset, .unset, .unset, .unset, .unset] [(.int (2147483647 : Int32)), (.int p5), (.int (1 : Int32))])) t
      refine XS.iand X12.here hx rfl (hb hby at_47) rfl ?_
      show Steps p.tables e below (T12.setTop (mkF m 48 #[.val (.int p1), .val (.int p2), .val (.int p3), .val (.int p4), .val (.int p5), .val (.ref b1), .val (.ref ca), .val (.ref cb), .val (.ref cd), .unset, .unset, .unset, .unset, .unset, .unset] [(.int (p5 &&& (2147483647 : Int32))), (.int (1 : Int32))])) t
      refine XS.iconst X12.here hx rfl (hb hby at_48) ?_
      show Steps p.tables e below (T12.setTop (mkF m 49 #[.val (.int p1), .val (.int p2), .val (.int p3), .val (.int p4), .val (.int p5), .val (.ref b1), .val (.ref ca), .val (.ref cb), .val (.ref cd), .unset, .unset, .unset, .unset, .unset, .unset] [(.int (3 : Int32)), (.int (p5 &&& (2147483647 : Int32))), (.int (1 : Int32))])) t
      refine Jvm.RoadKit.iremM (g := (mkF m 49 #[.val (.int p1), .val (.int p2), .val (.int p3), .val (.int p4), .val (.int p5), .val (.ref b1), .val (.ref ca), .val (.ref cb), .val (.ref cd), .unset, .unset, .unset, .unset, .unset, .unset] [(.int (3 : Int32)), (.int (p5 &&& (2147483647 : Int32))), (.int (1 : Int32))])) X12 hx rfl (hb hby at_49) rfl (by decide) ?_
      rw [hk]
      show Steps p.tables e below (T12.setTop (mkF m 50 #[.val (.int p1), .val (.int p2), .val (.int p3), .val (.int p4), .val (.int p5), .val (.ref b1), .val (.ref ca), .val (.ref cb), .val (.ref cd), .unset, .unset, .unset, .unset, .unset, .unset] [(.int (2 : Int32)), (.int (1 : Int32))])) t
      refine XS.iadd X12.here hx rfl (hb hby at_50) rfl ?_
      rw [show ((1 : Int32) + (2 : Int32)) = (3 : Int32) from by decide]
      show Steps p.tables e below (T12.setTop (mkF m 51 #[.val (.int p1), .val (.int p2), .val (.int p3), .val (.int p4), .val (.int p5), .val (.ref b1), .val (.ref ca), .val (.ref cb), .val (.ref cd), .unset, .unset, .unset, .unset, .unset, .unset] [(.int (3 : Int32))])) t
      refine XS.istore X12.here hx rfl (hb hby at_51) rfl (l' := #[.val (.int p1), .val (.int p2), .val (.int p3), .val (.int p4), .val (.int p5), .val (.ref b1), .val (.ref ca), .val (.ref cb), .val (.ref cd), .val (.int (3 : Int32)), .unset, .unset, .unset, .unset, .unset]) rfl ?_
      show Steps p.tables e below (T12.setTop (mkF m 53 #[.val (.int p1), .val (.int p2), .val (.int p3), .val (.int p4), .val (.int p5), .val (.ref b1), .val (.ref ca), .val (.ref cb), .val (.ref cd), .val (.int (3 : Int32)), .unset, .unset, .unset, .unset, .unset] [])) t
      refine XS.aload X12.here hx rfl (hb hby at_53) rfl rfl ?_
      show Steps p.tables e below (T12.setTop (mkF m 55 #[.val (.int p1), .val (.int p2), .val (.int p3), .val (.int p4), .val (.int p5), .val (.ref b1), .val (.ref ca), .val (.ref cb), .val (.ref cd), .val (.int (3 : Int32)), .unset, .unset, .unset, .unset, .unset] [(.ref b1)])) t
      refine XS.aload X12.here hx rfl (hb hby at_55) rfl rfl ?_
      show Steps p.tables e below (T12.setTop (mkF m 57 #[.val (.int p1), .val (.int p2), .val (.int p3), .val (.int p4), .val (.int p5), .val (.ref b1), .val (.ref ca), .val (.ref cb), .val (.ref cd), .val (.int (3 : Int32)), .unset, .unset, .unset, .unset, .unset] [(.ref ca), (.ref b1)])) t
      exact st16.trans k)
  have cf18 := ((cf5.keep Kq3).keep Kq16)
  obtain ⟨cq19, kq19, qa19, qb19, qc19⟩ := isOf hZ eh16 fq16_0
  obtain ⟨vv20, _, ⟨T20, L20, kk20, nn20⟩, -, X20, ⟨Lc20, hQ20, l20, y20, z20⟩, st20⟩ := X16.virtualBack hx (y := (⟨"com/example/baraja/baraja/games/sabacckessel/FamilyCards", "discard", "(Lcom/example/baraja/baraja/games/sabacckessel/Card;)V"⟩ : MethodName)) (z := (⟨"com/example/baraja/baraja/games/sabacckessel/FamilyCards", "discard", "(Lcom/example/baraja/baraja/games/sabacckessel/Card;)V"⟩ : MethodName)) hown (mvT hZ (hw _ (List.mem_of_getElem? (i := 31) rfl))) (mvT hZ (hw _ (List.mem_of_getElem? (i := 32) rfl))) (notFace_of_selects (args := #[]) (mvT hZ (hw _ (List.mem_of_getElem? (i := 34) rfl)))) (mvT hZ (hw _ (List.mem_of_getElem? (i := 34) rfl))) (mvT hZ (hw _ (List.mem_of_getElem? (i := 33) rfl))) (by decide) (backOf (W := 0) (own_disc_1 l Z a0 hw [] hh16 n0 (Nat.le_trans Z0 Kp16.1) b1 dd kd ca cb fq16_0 fq16_1 fq16_2 fq16_3 fq3_4 g_b1 g_dd ne_b1_dd cf18) hZ (hw _ (List.mem_of_getElem? (i := 35) rfl)) (hw _ (List.mem_of_getElem? (i := 2) rfl)) (by decide) (by decide)) qa19 qc19 (g := (mkF m 70 #[.val (.int p1), .val (.int p2), .val (.int p3), .val (.int p4), .val (.int p5), .val (.ref b1), .val (.ref ca), .val (.ref cb), .val (.ref cd), .val (.int (3 : Int32)), .unset, .unset, .unset, .unset, .unset] [(.ref cb), (.ref b1)])) rfl (by rw [hml]; rfl) (Steps.refl _) (argsL := [(.ref cb)]) (rest := []) (lenOf own_pd__Lcom_example_baraja_baraja_games_sabacckessel_Card__V rfl) rfl (by show 2 * 0 + _ ≤ _; exact Nat.le_of_eq rfl) (hb hby at_70) (fun _ _ => ⟨rfl, eh16, (by decide : 5 + 0 ≤ _), (by decide : 66 + 0 ≤ _)⟩)
  dsimp only [Pt.U, Pt.locs, Pt.cells, Pt.slots] at X20 l20 y20 z20 st20 hQ20
  subst l20 y20 z20
  obtain ⟨hh20, eh20⟩ : ∃ h, T20.heap = h := ⟨_, rfl⟩
  rw [eh20] at hQ20
  obtain ⟨rfl, Nq20, Kq20, fq20_0, fq20_1, fq20_2, fq20_3⟩ := hQ20
  have N20 := Fr.app N16 Nq20
  have Kp20 := Keep.trans Kp16 Kq20 (allS (Or.inr sz_b1) (allS (Or.inr sz_dd) all0))
  have ch21 : ∀ t, Steps p.tables e below (T20.setTop (mkF m 73 #[.val (.int p1), .val (.int p2), .val (.int p3), .val (.int p4), .val (.int p5), .val (.ref b1), .val (.ref ca), .val (.ref cb), .val (.ref cd), .val (.int (3 : Int32)), .unset, .unset, .unset, .unset, .unset] [])) t → Steps p.tables e below (s₁.setTop (entryFrame m #[(.int p1), (.int p2), (.int p3), (.int p4), (.int p5)] maxLocals)) t := fun t k => ch17 t (by
      show Steps p.tables e below (T16.setTop (mkF m 60 #[.val (.int p1), .val (.int p2), .val (.int p3), .val (.int p4), .val (.int p5), .val (.ref b1), .val (.ref ca), .val (.ref cb), .val (.ref cd), .val (.int (3 : Int32)), .unset, .unset, .unset, .unset, .unset] [])) t
      refine XS.iload X16.here hx rfl (hb hby at_60) rfl ?_
      show Steps p.tables e below (T16.setTop (mkF m 62 #[.val (.int p1), .val (.int p2), .val (.int p3), .val (.int p4), .val (.int p5), .val (.ref b1), .val (.ref ca), .val (.ref cb), .val (.ref cd), .val (.int (3 : Int32)), .unset, .unset, .unset, .unset, .unset] [(.int (3 : Int32))])) t
      refine XS.iconst X16.here hx rfl (hb hby at_62) ?_
      show Steps p.tables e below (T16.setTop (mkF m 63 #[.val (.int p1), .val (.int p2), .val (.int p3), .val (.int p4), .val (.int p5), .val (.ref b1), .val (.ref ca), .val (.ref cb), .val (.ref cd), .val (.int (3 : Int32)), .unset, .unset, .unset, .unset, .unset] [(.int (2 : Int32)), (.int (3 : Int32))])) t
      refine XS.icmpNo X16.here hx rfl (hb hby at_63) rfl (flt (by decide : ¬ (3 : Int32) < (2 : Int32))).1 ?_
      show Steps p.tables e below (T16.setTop (mkF m 66 #[.val (.int p1), .val (.int p2), .val (.int p3), .val (.int p4), .val (.int p5), .val (.ref b1), .val (.ref ca), .val (.ref cb), .val (.ref cd), .val (.int (3 : Int32)), .unset, .unset, .unset, .unset, .unset] [])) t
      refine XS.aload X16.here hx rfl (hb hby at_66) rfl rfl ?_
      show Steps p.tables e below (T16.setTop (mkF m 68 #[.val (.int p1), .val (.int p2), .val (.int p3), .val (.int p4), .val (.int p5), .val (.ref b1), .val (.ref ca), .val (.ref cb), .val (.ref cd), .val (.int (3 : Int32)), .unset, .unset, .unset, .unset, .unset] [(.ref b1)])) t
      refine XS.aload X16.here hx rfl (hb hby at_68) rfl rfl ?_
      show Steps p.tables e below (T16.setTop (mkF m 70 #[.val (.int p1), .val (.int p2), .val (.int p3), .val (.int p4), .val (.int p5), .val (.ref b1), .val (.ref ca), .val (.ref cb), .val (.ref cd), .val (.int (3 : Int32)), .unset, .unset, .unset, .unset, .unset] [(.ref cb), (.ref b1)])) t
      exact st20.trans k)
  have cf22 := (((cf6.keep Kq3).keep Kq16).keep Kq20)
  obtain ⟨cq23, kq23, qa23, qb23, qc23⟩ := isOf hZ eh20 fq20_0
  obtain ⟨vv24, _, ⟨T24, L24, kk24, nn24⟩, -, X24, ⟨Lc24, hQ24, l24, y24, z24⟩, st24⟩ := X20.virtualBack hx (y := (⟨"com/example/baraja/baraja/games/sabacckessel/FamilyCards", "discard", "(Lcom/example/baraja/baraja/games/sabacckessel/Card;)V"⟩ : MethodName)) (z := (⟨"com/example/baraja/baraja/games/sabacckessel/FamilyCards", "discard", "(Lcom/example/baraja/baraja/games/sabacckessel/Card;)V"⟩ : MethodName)) hown (mvT hZ (hw _ (List.mem_of_getElem? (i := 31) rfl))) (mvT hZ (hw _ (List.mem_of_getElem? (i := 32) rfl))) (notFace_of_selects (args := #[]) (mvT hZ (hw _ (List.mem_of_getElem? (i := 34) rfl)))) (mvT hZ (hw _ (List.mem_of_getElem? (i := 34) rfl))) (mvT hZ (hw _ (List.mem_of_getElem? (i := 33) rfl))) (by decide) (backOf (W := 0) (own_disc_2 l Z a0 hw [] hh20 n0 (Nat.le_trans Z0 Kp20.1) b1 dd kd ca cb cd fq20_0 fq20_1 fq20_2 fq20_3 fq3_4 g_b1 g_dd ne_b1_dd cf22) hZ (hw _ (List.mem_of_getElem? (i := 35) rfl)) (hw _ (List.mem_of_getElem? (i := 2) rfl)) (by decide) (by decide)) qa23 qc23 (g := (mkF m 83 #[.val (.int p1), .val (.int p2), .val (.int p3), .val (.int p4), .val (.int p5), .val (.ref b1), .val (.ref ca), .val (.ref cb), .val (.ref cd), .val (.int (3 : Int32)), .unset, .unset, .unset, .unset, .unset] [(.ref cd), (.ref b1)])) rfl (by rw [hml]; rfl) (Steps.refl _) (argsL := [(.ref cd)]) (rest := []) (lenOf own_pd__Lcom_example_baraja_baraja_games_sabacckessel_Card__V rfl) rfl (by show 2 * 0 + _ ≤ _; exact Nat.le_of_eq rfl) (hb hby at_83) (fun _ _ => ⟨rfl, eh20, (by decide : 5 + 0 ≤ _), (by decide : 66 + 0 ≤ _)⟩)
  dsimp only [Pt.U, Pt.locs, Pt.cells, Pt.slots] at X24 l24 y24 z24 st24 hQ24
  subst l24 y24 z24
  obtain ⟨hh24, eh24⟩ : ∃ h, T24.heap = h := ⟨_, rfl⟩
  rw [eh24] at hQ24
  obtain ⟨rfl, Nq24, Kq24, fq24_0, fq24_1, fq24_2, fq24_3⟩ := hQ24
  have N24 := Fr.app N20 Nq24
  have Kp24 := Keep.trans Kp20 Kq24 (allS (Or.inr sz_b1) (allS (Or.inr sz_dd) all0))
  have ch25 : ∀ t, Steps p.tables e below (T24.setTop (mkF m 86 #[.val (.int p1), .val (.int p2), .val (.int p3), .val (.int p4), .val (.int p5), .val (.ref b1), .val (.ref ca), .val (.ref cb), .val (.ref cd), .val (.int (3 : Int32)), .unset, .unset, .unset, .unset, .unset] [])) t → Steps p.tables e below (s₁.setTop (entryFrame m #[(.int p1), (.int p2), (.int p3), (.int p4), (.int p5)] maxLocals)) t := fun t k => ch21 t (by
      show Steps p.tables e below (T20.setTop (mkF m 73 #[.val (.int p1), .val (.int p2), .val (.int p3), .val (.int p4), .val (.int p5), .val (.ref b1), .val (.ref ca), .val (.ref cb), .val (.ref cd), .val (.int (3 : Int32)), .unset, .unset, .unset, .unset, .unset] [])) t
      refine XS.iload X20.here hx rfl (hb hby at_73) rfl ?_
      show Steps p.tables e below (T20.setTop (mkF m 75 #[.val (.int p1), .val (.int p2), .val (.int p3), .val (.int p4), .val (.int p5), .val (.ref b1), .val (.ref ca), .val (.ref cb), .val (.ref cd), .val (.int (3 : Int32)), .unset, .unset, .unset, .unset, .unset] [(.int (3 : Int32))])) t
      refine XS.iconst X20.here hx rfl (hb hby at_75) ?_
      show Steps p.tables e below (T20.setTop (mkF m 76 #[.val (.int p1), .val (.int p2), .val (.int p3), .val (.int p4), .val (.int p5), .val (.ref b1), .val (.ref ca), .val (.ref cb), .val (.ref cd), .val (.int (3 : Int32)), .unset, .unset, .unset, .unset, .unset] [(.int (3 : Int32)), (.int (3 : Int32))])) t
      refine XS.icmpNo X20.here hx rfl (hb hby at_76) rfl (flt (by decide : ¬ (3 : Int32) < (3 : Int32))).1 ?_
      show Steps p.tables e below (T20.setTop (mkF m 79 #[.val (.int p1), .val (.int p2), .val (.int p3), .val (.int p4), .val (.int p5), .val (.ref b1), .val (.ref ca), .val (.ref cb), .val (.ref cd), .val (.int (3 : Int32)), .unset, .unset, .unset, .unset, .unset] [])) t
      refine XS.aload X20.here hx rfl (hb hby at_79) rfl rfl ?_
      show Steps p.tables e below (T20.setTop (mkF m 81 #[.val (.int p1), .val (.int p2), .val (.int p3), .val (.int p4), .val (.int p5), .val (.ref b1), .val (.ref ca), .val (.ref cb), .val (.ref cd), .val (.int (3 : Int32)), .unset, .unset, .unset, .unset, .unset] [(.ref b1)])) t
      refine XS.aload X20.here hx rfl (hb hby at_81) rfl rfl ?_
      show Steps p.tables e below (T20.setTop (mkF m 83 #[.val (.int p1), .val (.int p2), .val (.int p3), .val (.int p4), .val (.int p5), .val (.ref b1), .val (.ref ca), .val (.ref cb), .val (.ref cd), .val (.int (3 : Int32)), .unset, .unset, .unset, .unset, .unset] [(.ref cd), (.ref b1)])) t
      exact st24.trans k)
  obtain ⟨cq26, kq26, qa26, qb26, qc26⟩ := isOf hZ eh24 fq24_0
  obtain ⟨vv27, _, ⟨T27, L27, kk27, nn27⟩, -, X27, ⟨Lc27, hQ27, l27, y27, z27⟩, st27⟩ := X24.virtualBack hx (y := (⟨"com/example/baraja/baraja/games/sabacckessel/FamilyCards", "drawFromDiscards", "()Lcom/example/baraja/baraja/games/sabacckessel/Card;"⟩ : MethodName)) (z := (⟨"com/example/baraja/baraja/games/sabacckessel/FamilyCards", "drawFromDiscards", "()Lcom/example/baraja/baraja/games/sabacckessel/Card;"⟩ : MethodName)) hown (mvT hZ (hw _ (List.mem_of_getElem? (i := 39) rfl))) (mvT hZ (hw _ (List.mem_of_getElem? (i := 40) rfl))) (notFace_of_selects (args := #[]) (mvT hZ (hw _ (List.mem_of_getElem? (i := 42) rfl)))) (mvT hZ (hw _ (List.mem_of_getElem? (i := 42) rfl))) (mvT hZ (hw _ (List.mem_of_getElem? (i := 41) rfl))) (by decide) (backOf (W := 0) (own_draw_3 l Z a0 hw [] hh24 n0 (Nat.le_trans Z0 Kp24.1) b1 dd kd ca cb cd fq24_0 fq24_1 fq24_2 fq24_3 fq3_4 g_b1 g_dd ne_b1_dd) hZ (hw _ (List.mem_of_getElem? (i := 43) rfl)) (hw _ (List.mem_of_getElem? (i := 2) rfl)) (by decide) (by decide)) qa26 qc26 (g := (mkF m 139 #[.val (.int p1), .val (.int p2), .val (.int p3), .val (.int p4), .val (.int p5), .val (.ref b1), .val (.ref ca), .val (.ref cb), .val (.ref cd), .val (.int (3 : Int32)), .val (.ref cd), .val (.ref cb), .unset, .unset, .unset] [(.ref b1)])) rfl (by rw [hml]; rfl) (Steps.refl _) (argsL := []) (rest := []) (lenOf own_pd___Lcom_example_baraja_baraja_games_sabacckessel_Card_ rfl) rfl (by show 2 * 0 + _ ≤ _; exact Nat.le_of_eq rfl) (hb hby at_139) (fun _ _ => ⟨rfl, eh24, (by decide : 5 + 0 ≤ _), (by decide : 66 + 0 ≤ _)⟩)
  dsimp only [Pt.U, Pt.locs, Pt.cells, Pt.slots] at X27 l27 y27 z27 st27 hQ27
  subst l27 y27 z27
  obtain ⟨hh27, eh27⟩ : ∃ h, T27.heap = h := ⟨_, rfl⟩
  rw [eh27] at hQ27
  obtain ⟨rfl, Nq27, Kq27, fq27_0, fq27_1, fq27_2, fq27_3⟩ := hQ27
  have N27 := Fr.app N24 Nq27
  have Kp27 := Keep.trans Kp24 Kq27 (allS (Or.inr sz_b1) (allS (Or.inr sz_dd) all0))
  have ch28 : ∀ t, Steps p.tables e below (T27.setTop (mkF m 142 #[.val (.int p1), .val (.int p2), .val (.int p3), .val (.int p4), .val (.int p5), .val (.ref b1), .val (.ref ca), .val (.ref cb), .val (.ref cd), .val (.int (3 : Int32)), .val (.ref cd), .val (.ref cb), .unset, .unset, .unset] [(.ref cd)])) t → Steps p.tables e below (s₁.setTop (entryFrame m #[(.int p1), (.int p2), (.int p3), (.int p4), (.int p5)] maxLocals)) t := fun t k => ch25 t (by
      show Steps p.tables e below (T24.setTop (mkF m 86 #[.val (.int p1), .val (.int p2), .val (.int p3), .val (.int p4), .val (.int p5), .val (.ref b1), .val (.ref ca), .val (.ref cb), .val (.ref cd), .val (.int (3 : Int32)), .unset, .unset, .unset, .unset, .unset] [])) t
      refine XS.iload X24.here hx rfl (hb hby at_86) rfl ?_
      show Steps p.tables e below (T24.setTop (mkF m 88 #[.val (.int p1), .val (.int p2), .val (.int p3), .val (.int p4), .val (.int p5), .val (.ref b1), .val (.ref ca), .val (.ref cb), .val (.ref cd), .val (.int (3 : Int32)), .unset, .unset, .unset, .unset, .unset] [(.int (3 : Int32))])) t
      refine XS.iconst X24.here hx rfl (hb hby at_88) ?_
      show Steps p.tables e below (T24.setTop (mkF m 89 #[.val (.int p1), .val (.int p2), .val (.int p3), .val (.int p4), .val (.int p5), .val (.ref b1), .val (.ref ca), .val (.ref cb), .val (.ref cd), .val (.int (3 : Int32)), .unset, .unset, .unset, .unset, .unset] [(.int (1 : Int32)), (.int (3 : Int32))])) t
      refine XS.icmpYes X24.here hx rfl (pc0 := 89) (pc' := 97) rfl (hb hby at_89) rfl (feq (by decide : ¬ (3 : Int32) = (1 : Int32))).2 (by decide) (by decide) ?_
      show Steps p.tables e below (T24.setTop (mkF m 97 #[.val (.int p1), .val (.int p2), .val (.int p3), .val (.int p4), .val (.int p5), .val (.ref b1), .val (.ref ca), .val (.ref cb), .val (.ref cd), .val (.int (3 : Int32)), .unset, .unset, .unset, .unset, .unset] [])) t
      refine XS.iload X24.here hx rfl (hb hby at_97) rfl ?_
      show Steps p.tables e below (T24.setTop (mkF m 99 #[.val (.int p1), .val (.int p2), .val (.int p3), .val (.int p4), .val (.int p5), .val (.ref b1), .val (.ref ca), .val (.ref cb), .val (.ref cd), .val (.int (3 : Int32)), .unset, .unset, .unset, .unset, .unset] [(.int (3 : Int32))])) t
      refine XS.iconst X24.here hx rfl (hb hby at_99) ?_
      show Steps p.tables e below (T24.setTop (mkF m 100 #[.val (.int p1), .val (.int p2), .val (.int p3), .val (.int p4), .val (.int p5), .val (.ref b1), .val (.ref ca), .val (.ref cb), .val (.ref cd), .val (.int (3 : Int32)), .unset, .unset, .unset, .unset, .unset] [(.int (2 : Int32)), (.int (3 : Int32))])) t
      refine XS.icmpYes X24.here hx rfl (pc0 := 100) (pc' := 108) rfl (hb hby at_100) rfl (feq (by decide : ¬ (3 : Int32) = (2 : Int32))).2 (by decide) (by decide) ?_
      show Steps p.tables e below (T24.setTop (mkF m 108 #[.val (.int p1), .val (.int p2), .val (.int p3), .val (.int p4), .val (.int p5), .val (.ref b1), .val (.ref ca), .val (.ref cb), .val (.ref cd), .val (.int (3 : Int32)), .unset, .unset, .unset, .unset, .unset] [])) t
      refine XS.aload X24.here hx rfl (hb hby at_108) rfl rfl ?_
      show Steps p.tables e below (T24.setTop (mkF m 110 #[.val (.int p1), .val (.int p2), .val (.int p3), .val (.int p4), .val (.int p5), .val (.ref b1), .val (.ref ca), .val (.ref cb), .val (.ref cd), .val (.int (3 : Int32)), .unset, .unset, .unset, .unset, .unset] [(.ref cd)])) t
      refine XS.astore X24.here hx rfl (hb hby at_110) rfl rfl (l' := #[.val (.int p1), .val (.int p2), .val (.int p3), .val (.int p4), .val (.int p5), .val (.ref b1), .val (.ref ca), .val (.ref cb), .val (.ref cd), .val (.int (3 : Int32)), .val (.ref cd), .unset, .unset, .unset, .unset]) rfl ?_
      show Steps p.tables e below (T24.setTop (mkF m 112 #[.val (.int p1), .val (.int p2), .val (.int p3), .val (.int p4), .val (.int p5), .val (.ref b1), .val (.ref ca), .val (.ref cb), .val (.ref cd), .val (.int (3 : Int32)), .val (.ref cd), .unset, .unset, .unset, .unset] [])) t
      refine XS.iload X24.here hx rfl (hb hby at_112) rfl ?_
      show Steps p.tables e below (T24.setTop (mkF m 114 #[.val (.int p1), .val (.int p2), .val (.int p3), .val (.int p4), .val (.int p5), .val (.ref b1), .val (.ref ca), .val (.ref cb), .val (.ref cd), .val (.int (3 : Int32)), .val (.ref cd), .unset, .unset, .unset, .unset] [(.int (3 : Int32))])) t
      refine XS.iconst X24.here hx rfl (hb hby at_114) ?_
      show Steps p.tables e below (T24.setTop (mkF m 115 #[.val (.int p1), .val (.int p2), .val (.int p3), .val (.int p4), .val (.int p5), .val (.ref b1), .val (.ref ca), .val (.ref cb), .val (.ref cd), .val (.int (3 : Int32)), .val (.ref cd), .unset, .unset, .unset, .unset] [(.int (1 : Int32)), (.int (3 : Int32))])) t
      refine XS.icmpYes X24.here hx rfl (pc0 := 115) (pc' := 122) rfl (hb hby at_115) rfl (feq (by decide : ¬ (3 : Int32) = (1 : Int32))).2 (by decide) (by decide) ?_
      show Steps p.tables e below (T24.setTop (mkF m 122 #[.val (.int p1), .val (.int p2), .val (.int p3), .val (.int p4), .val (.int p5), .val (.ref b1), .val (.ref ca), .val (.ref cb), .val (.ref cd), .val (.int (3 : Int32)), .val (.ref cd), .unset, .unset, .unset, .unset] [])) t
      refine XS.iload X24.here hx rfl (hb hby at_122) rfl ?_
      show Steps p.tables e below (T24.setTop (mkF m 124 #[.val (.int p1), .val (.int p2), .val (.int p3), .val (.int p4), .val (.int p5), .val (.ref b1), .val (.ref ca), .val (.ref cb), .val (.ref cd), .val (.int (3 : Int32)), .val (.ref cd), .unset, .unset, .unset, .unset] [(.int (3 : Int32))])) t
      refine XS.iconst X24.here hx rfl (hb hby at_124) ?_
      show Steps p.tables e below (T24.setTop (mkF m 125 #[.val (.int p1), .val (.int p2), .val (.int p3), .val (.int p4), .val (.int p5), .val (.ref b1), .val (.ref ca), .val (.ref cb), .val (.ref cd), .val (.int (3 : Int32)), .val (.ref cd), .unset, .unset, .unset, .unset] [(.int (2 : Int32)), (.int (3 : Int32))])) t
      refine XS.icmpYes X24.here hx rfl (pc0 := 125) (pc' := 133) rfl (hb hby at_125) rfl (feq (by decide : ¬ (3 : Int32) = (2 : Int32))).2 (by decide) (by decide) ?_
      show Steps p.tables e below (T24.setTop (mkF m 133 #[.val (.int p1), .val (.int p2), .val (.int p3), .val (.int p4), .val (.int p5), .val (.ref b1), .val (.ref ca), .val (.ref cb), .val (.ref cd), .val (.int (3 : Int32)), .val (.ref cd), .unset, .unset, .unset, .unset] [])) t
      refine XS.aload X24.here hx rfl (hb hby at_133) rfl rfl ?_
      show Steps p.tables e below (T24.setTop (mkF m 135 #[.val (.int p1), .val (.int p2), .val (.int p3), .val (.int p4), .val (.int p5), .val (.ref b1), .val (.ref ca), .val (.ref cb), .val (.ref cd), .val (.int (3 : Int32)), .val (.ref cd), .unset, .unset, .unset, .unset] [(.ref cb)])) t
      refine XS.astore X24.here hx rfl (hb hby at_135) rfl rfl (l' := #[.val (.int p1), .val (.int p2), .val (.int p3), .val (.int p4), .val (.int p5), .val (.ref b1), .val (.ref ca), .val (.ref cb), .val (.ref cd), .val (.int (3 : Int32)), .val (.ref cd), .val (.ref cb), .unset, .unset, .unset]) rfl ?_
      show Steps p.tables e below (T24.setTop (mkF m 137 #[.val (.int p1), .val (.int p2), .val (.int p3), .val (.int p4), .val (.int p5), .val (.ref b1), .val (.ref ca), .val (.ref cb), .val (.ref cd), .val (.int (3 : Int32)), .val (.ref cd), .val (.ref cb), .unset, .unset, .unset] [])) t
      refine XS.aload X24.here hx rfl (hb hby at_137) rfl rfl ?_
      show Steps p.tables e below (T24.setTop (mkF m 139 #[.val (.int p1), .val (.int p2), .val (.int p3), .val (.int p4), .val (.int p5), .val (.ref b1), .val (.ref ca), .val (.ref cb), .val (.ref cd), .val (.int (3 : Int32)), .val (.ref cd), .val (.ref cb), .unset, .unset, .unset] [(.ref b1)])) t
      exact st27.trans k)
  obtain ⟨cq29, kq29, qa29, qb29, qc29⟩ := isOf hZ eh27 fq27_0
  obtain ⟨vv30, _, ⟨T30, L30, kk30, nn30⟩, -, X30, ⟨Lc30, hQ30, l30, y30, z30⟩, st30⟩ := X27.virtualBack hx (y := (⟨"com/example/baraja/baraja/games/sabacckessel/FamilyCards", "topDiscard", "()Lcom/example/baraja/baraja/games/sabacckessel/Card;"⟩ : MethodName)) (z := (⟨"com/example/baraja/baraja/games/sabacckessel/FamilyCards", "topDiscard", "()Lcom/example/baraja/baraja/games/sabacckessel/Card;"⟩ : MethodName)) hown (mvT hZ (hw _ (List.mem_of_getElem? (i := 44) rfl))) (mvT hZ (hw _ (List.mem_of_getElem? (i := 45) rfl))) (notFace_of_selects (args := #[]) (mvT hZ (hw _ (List.mem_of_getElem? (i := 47) rfl)))) (mvT hZ (hw _ (List.mem_of_getElem? (i := 47) rfl))) (mvT hZ (hw _ (List.mem_of_getElem? (i := 46) rfl))) (by decide) (backOf (W := 0) (own_top_2 l Z a0 hw [] hh27 n0 (Nat.le_trans Z0 Kp27.1) b1 dd kd ca cb fq27_0 fq27_1 fq27_2 fq27_3 fq3_4 g_b1 g_dd ne_b1_dd) hZ (hw _ (List.mem_of_getElem? (i := 48) rfl)) (hw _ (List.mem_of_getElem? (i := 2) rfl)) (by decide) (by decide)) qa29 qc29 (g := (mkF m 165 #[.val (.int p1), .val (.int p2), .val (.int p3), .val (.int p4), .val (.int p5), .val (.ref b1), .val (.ref ca), .val (.ref cb), .val (.ref cd), .val (.int (3 : Int32)), .val (.ref cd), .val (.ref cb), .val (.ref cd), .val (.int (1 : Int32)), .unset] [(.ref b1)])) rfl (by rw [hml]; rfl) (Steps.refl _) (argsL := []) (rest := []) (lenOf own_pd___Lcom_example_baraja_baraja_games_sabacckessel_Card_ rfl) rfl (by show 2 * 0 + _ ≤ _; exact Nat.le_of_eq rfl) (hb hby at_165) (fun _ _ => ⟨rfl, eh27, (by decide : 5 + 0 ≤ _), (by decide : 66 + 0 ≤ _)⟩)
  dsimp only [Pt.U, Pt.locs, Pt.cells, Pt.slots] at X30 l30 y30 z30 st30 hQ30
  subst l30 y30 z30
  obtain ⟨rfl, Nq30, e30⟩ := hQ30
  have N30 := Fr.app N27 Nq30
  have ch31 : ∀ t, Steps p.tables e below (T30.setTop (mkF m 168 #[.val (.int p1), .val (.int p2), .val (.int p3), .val (.int p4), .val (.int p5), .val (.ref b1), .val (.ref ca), .val (.ref cb), .val (.ref cd), .val (.int (3 : Int32)), .val (.ref cd), .val (.ref cb), .val (.ref cd), .val (.int (1 : Int32)), .unset] [(.ref cb)])) t → Steps p.tables e below (s₁.setTop (entryFrame m #[(.int p1), (.int p2), (.int p3), (.int p4), (.int p5)] maxLocals)) t := fun t k => ch28 t (by
      show Steps p.tables e below (T27.setTop (mkF m 142 #[.val (.int p1), .val (.int p2), .val (.int p3), .val (.int p4), .val (.int p5), .val (.ref b1), .val (.ref ca), .val (.ref cb), .val (.ref cd), .val (.int (3 : Int32)), .val (.ref cd), .val (.ref cb), .unset, .unset, .unset] [(.ref cd)])) t
      refine XS.astore X27.here hx rfl (hb hby at_142) rfl rfl (l' := #[.val (.int p1), .val (.int p2), .val (.int p3), .val (.int p4), .val (.int p5), .val (.ref b1), .val (.ref ca), .val (.ref cb), .val (.ref cd), .val (.int (3 : Int32)), .val (.ref cd), .val (.ref cb), .val (.ref cd), .unset, .unset]) rfl ?_
      show Steps p.tables e below (T27.setTop (mkF m 144 #[.val (.int p1), .val (.int p2), .val (.int p3), .val (.int p4), .val (.int p5), .val (.ref b1), .val (.ref ca), .val (.ref cb), .val (.ref cd), .val (.int (3 : Int32)), .val (.ref cd), .val (.ref cb), .val (.ref cd), .unset, .unset] [])) t
      refine XS.aload X27.here hx rfl (hb hby at_144) rfl rfl ?_
      show Steps p.tables e below (T27.setTop (mkF m 146 #[.val (.int p1), .val (.int p2), .val (.int p3), .val (.int p4), .val (.int p5), .val (.ref b1), .val (.ref ca), .val (.ref cb), .val (.ref cd), .val (.int (3 : Int32)), .val (.ref cd), .val (.ref cb), .val (.ref cd), .unset, .unset] [(.ref cd)])) t
      refine XS.aload X27.here hx rfl (hb hby at_146) rfl rfl ?_
      show Steps p.tables e below (T27.setTop (mkF m 148 #[.val (.int p1), .val (.int p2), .val (.int p3), .val (.int p4), .val (.int p5), .val (.ref b1), .val (.ref ca), .val (.ref cb), .val (.ref cd), .val (.int (3 : Int32)), .val (.ref cd), .val (.ref cb), .val (.ref cd), .unset, .unset] [(.ref cd), (.ref cd)])) t
      refine Jvm.RoadKit.acmp (g := (mkF m 148 #[.val (.int p1), .val (.int p2), .val (.int p3), .val (.int p4), .val (.int p5), .val (.ref b1), .val (.ref ca), .val (.ref cb), .val (.ref cd), .val (.int (3 : Int32)), .val (.ref cd), .val (.ref cb), .val (.ref cd), .unset, .unset] [(.ref cd), (.ref cd)])) X27 hx rfl rfl rfl (pc0 := 148) (pc' := 151) (same := true) rfl (hb hby at_148) rfl (decide_eq_true rfl) (by decide) (by decide) ?_
      show Steps p.tables e below (T27.setTop (mkF m 151 #[.val (.int p1), .val (.int p2), .val (.int p3), .val (.int p4), .val (.int p5), .val (.ref b1), .val (.ref ca), .val (.ref cb), .val (.ref cd), .val (.int (3 : Int32)), .val (.ref cd), .val (.ref cb), .val (.ref cd), .unset, .unset] [])) t
      refine XS.iconst X27.here hx rfl (hb hby at_151) ?_
      show Steps p.tables e below (T27.setTop (mkF m 152 #[.val (.int p1), .val (.int p2), .val (.int p3), .val (.int p4), .val (.int p5), .val (.ref b1), .val (.ref ca), .val (.ref cb), .val (.ref cd), .val (.int (3 : Int32)), .val (.ref cd), .val (.ref cb), .val (.ref cd), .unset, .unset] [(.int (1 : Int32))])) t
      refine XS.goto X27.here hx rfl (pc0 := 152) (pc' := 156) rfl (hb hby at_152) (by decide) (by decide) ?_
      show Steps p.tables e below (T27.setTop (mkF m 156 #[.val (.int p1), .val (.int p2), .val (.int p3), .val (.int p4), .val (.int p5), .val (.ref b1), .val (.ref ca), .val (.ref cb), .val (.ref cd), .val (.int (3 : Int32)), .val (.ref cd), .val (.ref cb), .val (.ref cd), .unset, .unset] [(.int (1 : Int32))])) t
      refine XS.istore X27.here hx rfl (hb hby at_156) rfl (l' := #[.val (.int p1), .val (.int p2), .val (.int p3), .val (.int p4), .val (.int p5), .val (.ref b1), .val (.ref ca), .val (.ref cb), .val (.ref cd), .val (.int (3 : Int32)), .val (.ref cd), .val (.ref cb), .val (.ref cd), .val (.int (1 : Int32)), .unset]) rfl ?_
      show Steps p.tables e below (T27.setTop (mkF m 158 #[.val (.int p1), .val (.int p2), .val (.int p3), .val (.int p4), .val (.int p5), .val (.ref b1), .val (.ref ca), .val (.ref cb), .val (.ref cd), .val (.int (3 : Int32)), .val (.ref cd), .val (.ref cb), .val (.ref cd), .val (.int (1 : Int32)), .unset] [])) t
      refine XS.iload X27.here hx rfl (hb hby at_158) rfl ?_
      show Steps p.tables e below (T27.setTop (mkF m 160 #[.val (.int p1), .val (.int p2), .val (.int p3), .val (.int p4), .val (.int p5), .val (.ref b1), .val (.ref ca), .val (.ref cb), .val (.ref cd), .val (.int (3 : Int32)), .val (.ref cd), .val (.ref cb), .val (.ref cd), .val (.int (1 : Int32)), .unset] [(.int (1 : Int32))])) t
      refine XS.ifNo X27.here hx rfl (hb hby at_160) rfl ((if0 _ _).trans (feq (by decide : ¬ (1 : Int32) = (0 : Int32))).1) ?_
      show Steps p.tables e below (T27.setTop (mkF m 163 #[.val (.int p1), .val (.int p2), .val (.int p3), .val (.int p4), .val (.int p5), .val (.ref b1), .val (.ref ca), .val (.ref cb), .val (.ref cd), .val (.int (3 : Int32)), .val (.ref cd), .val (.ref cb), .val (.ref cd), .val (.int (1 : Int32)), .unset] [])) t
      refine XS.aload X27.here hx rfl (hb hby at_163) rfl rfl ?_
      show Steps p.tables e below (T27.setTop (mkF m 165 #[.val (.int p1), .val (.int p2), .val (.int p3), .val (.int p4), .val (.int p5), .val (.ref b1), .val (.ref ca), .val (.ref cb), .val (.ref cd), .val (.int (3 : Int32)), .val (.ref cd), .val (.ref cb), .val (.ref cd), .val (.int (1 : Int32)), .unset] [(.ref b1)])) t
      exact st30.trans k)
  obtain ⟨cq32, kq32, qa32, qb32, qc32⟩ := isOf hZ e30 fq27_0
  obtain ⟨vv33, _, ⟨T33, L33, kk33, nn33⟩, -, X33, ⟨Lc33, hQ33, l33, y33, z33⟩, st33⟩ := X30.virtualBack hx (y := (⟨"com/example/baraja/baraja/games/sabacckessel/FamilyCards", "discardsAreEmpty", "()Z"⟩ : MethodName)) (z := (⟨"com/example/baraja/baraja/games/sabacckessel/FamilyCards", "discardsAreEmpty", "()Z"⟩ : MethodName)) hown (mvT hZ (hw _ (List.mem_of_getElem? (i := 49) rfl))) (mvT hZ (hw _ (List.mem_of_getElem? (i := 50) rfl))) (notFace_of_selects (args := #[]) (mvT hZ (hw _ (List.mem_of_getElem? (i := 52) rfl)))) (mvT hZ (hw _ (List.mem_of_getElem? (i := 52) rfl))) (mvT hZ (hw _ (List.mem_of_getElem? (i := 51) rfl))) (by decide) (backOf (W := 0) (own_emp_2 l Z a0 hw [] hh27 n0 (Nat.le_trans Z0 Kp27.1) b1 dd kd ca cb fq27_0 fq27_1 fq27_2 fq27_3 fq3_4 g_b1 g_dd ne_b1_dd) hZ (hw _ (List.mem_of_getElem? (i := 53) rfl)) (hw _ (List.mem_of_getElem? (i := 2) rfl)) (by decide) (by decide)) qa32 qc32 (g := (mkF m 187 #[.val (.int p1), .val (.int p2), .val (.int p3), .val (.int p4), .val (.int p5), .val (.ref b1), .val (.ref ca), .val (.ref cb), .val (.ref cd), .val (.int (3 : Int32)), .val (.ref cd), .val (.ref cb), .val (.ref cd), .val (.int (1 : Int32)), .unset] [(.ref b1)])) rfl (by rw [hml]; rfl) (Steps.refl _) (argsL := []) (rest := []) (lenOf own_pd___Z rfl) rfl (by show 2 * 0 + _ ≤ _; exact Nat.le_of_eq rfl) (hb hby at_187) (fun _ _ => ⟨rfl, e30, (by decide : 5 + 0 ≤ _), (by decide : 66 + 0 ≤ _)⟩)
  dsimp only [Pt.U, Pt.locs, Pt.cells, Pt.slots] at X33 l33 y33 z33 st33 hQ33
  subst l33 y33 z33
  obtain ⟨rfl, Nq33, e33⟩ := hQ33
  have N33 := Fr.app N30 Nq33
  have ch34 : ∀ t, Steps p.tables e below (T33.setTop (mkF m 190 #[.val (.int p1), .val (.int p2), .val (.int p3), .val (.int p4), .val (.int p5), .val (.ref b1), .val (.ref ca), .val (.ref cb), .val (.ref cd), .val (.int (3 : Int32)), .val (.ref cd), .val (.ref cb), .val (.ref cd), .val (.int (1 : Int32)), .unset] [(.int (0 : Int32))])) t → Steps p.tables e below (s₁.setTop (entryFrame m #[(.int p1), (.int p2), (.int p3), (.int p4), (.int p5)] maxLocals)) t := fun t k => ch31 t (by
      show Steps p.tables e below (T30.setTop (mkF m 168 #[.val (.int p1), .val (.int p2), .val (.int p3), .val (.int p4), .val (.int p5), .val (.ref b1), .val (.ref ca), .val (.ref cb), .val (.ref cd), .val (.int (3 : Int32)), .val (.ref cd), .val (.ref cb), .val (.ref cd), .val (.int (1 : Int32)), .unset] [(.ref cb)])) t
      refine XS.aload X30.here hx rfl (hb hby at_168) rfl rfl ?_
      show Steps p.tables e below (T30.setTop (mkF m 170 #[.val (.int p1), .val (.int p2), .val (.int p3), .val (.int p4), .val (.int p5), .val (.ref b1), .val (.ref ca), .val (.ref cb), .val (.ref cd), .val (.int (3 : Int32)), .val (.ref cd), .val (.ref cb), .val (.ref cd), .val (.int (1 : Int32)), .unset] [(.ref cb), (.ref cb)])) t
      refine Jvm.RoadKit.acmp (g := (mkF m 170 #[.val (.int p1), .val (.int p2), .val (.int p3), .val (.int p4), .val (.int p5), .val (.ref b1), .val (.ref ca), .val (.ref cb), .val (.ref cd), .val (.int (3 : Int32)), .val (.ref cd), .val (.ref cb), .val (.ref cd), .val (.int (1 : Int32)), .unset] [(.ref cb), (.ref cb)])) X30 hx rfl rfl rfl (pc0 := 170) (pc' := 173) (same := true) rfl (hb hby at_170) rfl (decide_eq_true rfl) (by decide) (by decide) ?_
      show Steps p.tables e below (T30.setTop (mkF m 173 #[.val (.int p1), .val (.int p2), .val (.int p3), .val (.int p4), .val (.int p5), .val (.ref b1), .val (.ref ca), .val (.ref cb), .val (.ref cd), .val (.int (3 : Int32)), .val (.ref cd), .val (.ref cb), .val (.ref cd), .val (.int (1 : Int32)), .unset] [])) t
      refine XS.iconst X30.here hx rfl (hb hby at_173) ?_
      show Steps p.tables e below (T30.setTop (mkF m 174 #[.val (.int p1), .val (.int p2), .val (.int p3), .val (.int p4), .val (.int p5), .val (.ref b1), .val (.ref ca), .val (.ref cb), .val (.ref cd), .val (.int (3 : Int32)), .val (.ref cd), .val (.ref cb), .val (.ref cd), .val (.int (1 : Int32)), .unset] [(.int (1 : Int32))])) t
      refine XS.goto X30.here hx rfl (pc0 := 174) (pc' := 178) rfl (hb hby at_174) (by decide) (by decide) ?_
      show Steps p.tables e below (T30.setTop (mkF m 178 #[.val (.int p1), .val (.int p2), .val (.int p3), .val (.int p4), .val (.int p5), .val (.ref b1), .val (.ref ca), .val (.ref cb), .val (.ref cd), .val (.int (3 : Int32)), .val (.ref cd), .val (.ref cb), .val (.ref cd), .val (.int (1 : Int32)), .unset] [(.int (1 : Int32))])) t
      refine XS.istore X30.here hx rfl (hb hby at_178) rfl (l' := #[.val (.int p1), .val (.int p2), .val (.int p3), .val (.int p4), .val (.int p5), .val (.ref b1), .val (.ref ca), .val (.ref cb), .val (.ref cd), .val (.int (3 : Int32)), .val (.ref cd), .val (.ref cb), .val (.ref cd), .val (.int (1 : Int32)), .unset]) rfl ?_
      show Steps p.tables e below (T30.setTop (mkF m 180 #[.val (.int p1), .val (.int p2), .val (.int p3), .val (.int p4), .val (.int p5), .val (.ref b1), .val (.ref ca), .val (.ref cb), .val (.ref cd), .val (.int (3 : Int32)), .val (.ref cd), .val (.ref cb), .val (.ref cd), .val (.int (1 : Int32)), .unset] [])) t
      refine XS.iload X30.here hx rfl (hb hby at_180) rfl ?_
      show Steps p.tables e below (T30.setTop (mkF m 182 #[.val (.int p1), .val (.int p2), .val (.int p3), .val (.int p4), .val (.int p5), .val (.ref b1), .val (.ref ca), .val (.ref cb), .val (.ref cd), .val (.int (3 : Int32)), .val (.ref cd), .val (.ref cb), .val (.ref cd), .val (.int (1 : Int32)), .unset] [(.int (1 : Int32))])) t
      refine XS.ifNo X30.here hx rfl (hb hby at_182) rfl ((if0 _ _).trans (feq (by decide : ¬ (1 : Int32) = (0 : Int32))).1) ?_
      show Steps p.tables e below (T30.setTop (mkF m 185 #[.val (.int p1), .val (.int p2), .val (.int p3), .val (.int p4), .val (.int p5), .val (.ref b1), .val (.ref ca), .val (.ref cb), .val (.ref cd), .val (.int (3 : Int32)), .val (.ref cd), .val (.ref cb), .val (.ref cd), .val (.int (1 : Int32)), .unset] [])) t
      refine XS.aload X30.here hx rfl (hb hby at_185) rfl rfl ?_
      show Steps p.tables e below (T30.setTop (mkF m 187 #[.val (.int p1), .val (.int p2), .val (.int p3), .val (.int p4), .val (.int p5), .val (.ref b1), .val (.ref ca), .val (.ref cb), .val (.ref cd), .val (.int (3 : Int32)), .val (.ref cd), .val (.ref cb), .val (.ref cd), .val (.int (1 : Int32)), .unset] [(.ref b1)])) t
      exact st33.trans k)
  obtain ⟨cq35, kq35, qa35, qb35, qc35⟩ := isOf hZ e33 fq27_0
  obtain ⟨vv36, _, ⟨T36, L36, kk36, nn36⟩, -, X36, ⟨Lc36, hQ36, l36, y36, z36⟩, st36⟩ := X33.virtualBack hx (y := (⟨"com/example/baraja/baraja/games/sabacckessel/FamilyCards", "drawFromDiscards", "()Lcom/example/baraja/baraja/games/sabacckessel/Card;"⟩ : MethodName)) (z := (⟨"com/example/baraja/baraja/games/sabacckessel/FamilyCards", "drawFromDiscards", "()Lcom/example/baraja/baraja/games/sabacckessel/Card;"⟩ : MethodName)) hown (mvT hZ (hw _ (List.mem_of_getElem? (i := 39) rfl))) (mvT hZ (hw _ (List.mem_of_getElem? (i := 40) rfl))) (notFace_of_selects (args := #[]) (mvT hZ (hw _ (List.mem_of_getElem? (i := 42) rfl)))) (mvT hZ (hw _ (List.mem_of_getElem? (i := 42) rfl))) (mvT hZ (hw _ (List.mem_of_getElem? (i := 41) rfl))) (by decide) (backOf (W := 0) (own_draw_2 l Z a0 hw [] hh27 n0 (Nat.le_trans Z0 Kp27.1) b1 dd kd ca cb fq27_0 fq27_1 fq27_2 fq27_3 fq3_4 g_b1 g_dd ne_b1_dd) hZ (hw _ (List.mem_of_getElem? (i := 43) rfl)) (hw _ (List.mem_of_getElem? (i := 2) rfl)) (by decide) (by decide)) qa35 qc35 (g := (mkF m 219 #[.val (.int p1), .val (.int p2), .val (.int p3), .val (.int p4), .val (.int p5), .val (.ref b1), .val (.ref ca), .val (.ref cb), .val (.ref cd), .val (.int (3 : Int32)), .val (.ref cd), .val (.ref cb), .val (.ref cd), .val (.int (1 : Int32)), .unset] [(.ref b1)])) rfl (by rw [hml]; rfl) (Steps.refl _) (argsL := []) (rest := []) (lenOf own_pd___Lcom_example_baraja_baraja_games_sabacckessel_Card_ rfl) rfl (by show 2 * 0 + _ ≤ _; exact Nat.le_of_eq rfl) (hb hby at_219) (fun _ _ => ⟨rfl, e33, (by decide : 5 + 0 ≤ _), (by decide : 66 + 0 ≤ _)⟩)
  dsimp only [Pt.U, Pt.locs, Pt.cells, Pt.slots] at X36 l36 y36 z36 st36 hQ36
  subst l36 y36 z36
  obtain ⟨hh36, eh36⟩ : ∃ h, T36.heap = h := ⟨_, rfl⟩
  rw [eh36] at hQ36
  obtain ⟨rfl, Nq36, Kq36, fq36_0, fq36_1, fq36_2, fq36_3⟩ := hQ36
  have N36 := Fr.app N33 Nq36
  have Kp36 := Keep.trans Kp27 Kq36 (allS (Or.inr sz_b1) (allS (Or.inr sz_dd) all0))
  have ch37 : ∀ t, Steps p.tables e below (T36.setTop (mkF m 222 #[.val (.int p1), .val (.int p2), .val (.int p3), .val (.int p4), .val (.int p5), .val (.ref b1), .val (.ref ca), .val (.ref cb), .val (.ref cd), .val (.int (3 : Int32)), .val (.ref cd), .val (.ref cb), .val (.ref cd), .val (.int (1 : Int32)), .unset] [(.ref cb)])) t → Steps p.tables e below (s₁.setTop (entryFrame m #[(.int p1), (.int p2), (.int p3), (.int p4), (.int p5)] maxLocals)) t := fun t k => ch34 t (by
      show Steps p.tables e below (T33.setTop (mkF m 190 #[.val (.int p1), .val (.int p2), .val (.int p3), .val (.int p4), .val (.int p5), .val (.ref b1), .val (.ref ca), .val (.ref cb), .val (.ref cd), .val (.int (3 : Int32)), .val (.ref cd), .val (.ref cb), .val (.ref cd), .val (.int (1 : Int32)), .unset] [(.int (0 : Int32))])) t
      refine XS.iload X33.here hx rfl (hb hby at_190) rfl ?_
      show Steps p.tables e below (T33.setTop (mkF m 192 #[.val (.int p1), .val (.int p2), .val (.int p3), .val (.int p4), .val (.int p5), .val (.ref b1), .val (.ref ca), .val (.ref cb), .val (.ref cd), .val (.int (3 : Int32)), .val (.ref cd), .val (.ref cb), .val (.ref cd), .val (.int (1 : Int32)), .unset] [(.int (3 : Int32)), (.int (0 : Int32))])) t
      refine XS.iconst X33.here hx rfl (hb hby at_192) ?_
      show Steps p.tables e below (T33.setTop (mkF m 193 #[.val (.int p1), .val (.int p2), .val (.int p3), .val (.int p4), .val (.int p5), .val (.ref b1), .val (.ref ca), .val (.ref cb), .val (.ref cd), .val (.int (3 : Int32)), .val (.ref cd), .val (.ref cb), .val (.ref cd), .val (.int (1 : Int32)), .unset] [(.int (1 : Int32)), (.int (3 : Int32)), (.int (0 : Int32))])) t
      refine XS.icmpYes X33.here hx rfl (pc0 := 193) (pc' := 200) rfl (hb hby at_193) rfl (feq (by decide : ¬ (3 : Int32) = (1 : Int32))).2 (by decide) (by decide) ?_
      show Steps p.tables e below (T33.setTop (mkF m 200 #[.val (.int p1), .val (.int p2), .val (.int p3), .val (.int p4), .val (.int p5), .val (.ref b1), .val (.ref ca), .val (.ref cb), .val (.ref cd), .val (.int (3 : Int32)), .val (.ref cd), .val (.ref cb), .val (.ref cd), .val (.int (1 : Int32)), .unset] [(.int (0 : Int32))])) t
      refine XS.iconst X33.here hx rfl (hb hby at_200) ?_
      show Steps p.tables e below (T33.setTop (mkF m 201 #[.val (.int p1), .val (.int p2), .val (.int p3), .val (.int p4), .val (.int p5), .val (.ref b1), .val (.ref ca), .val (.ref cb), .val (.ref cd), .val (.int (3 : Int32)), .val (.ref cd), .val (.ref cb), .val (.ref cd), .val (.int (1 : Int32)), .unset] [(.int (0 : Int32)), (.int (0 : Int32))])) t
      refine XS.icmpNo X33.here hx rfl (hb hby at_201) rfl (teq (by decide : (0 : Int32) = (0 : Int32))).2 ?_
      show Steps p.tables e below (T33.setTop (mkF m 204 #[.val (.int p1), .val (.int p2), .val (.int p3), .val (.int p4), .val (.int p5), .val (.ref b1), .val (.ref ca), .val (.ref cb), .val (.ref cd), .val (.int (3 : Int32)), .val (.ref cd), .val (.ref cb), .val (.ref cd), .val (.int (1 : Int32)), .unset] [])) t
      refine XS.iconst X33.here hx rfl (hb hby at_204) ?_
      show Steps p.tables e below (T33.setTop (mkF m 205 #[.val (.int p1), .val (.int p2), .val (.int p3), .val (.int p4), .val (.int p5), .val (.ref b1), .val (.ref ca), .val (.ref cb), .val (.ref cd), .val (.int (3 : Int32)), .val (.ref cd), .val (.ref cb), .val (.ref cd), .val (.int (1 : Int32)), .unset] [(.int (1 : Int32))])) t
      refine XS.goto X33.here hx rfl (pc0 := 205) (pc' := 209) rfl (hb hby at_205) (by decide) (by decide) ?_
      show Steps p.tables e below (T33.setTop (mkF m 209 #[.val (.int p1), .val (.int p2), .val (.int p3), .val (.int p4), .val (.int p5), .val (.ref b1), .val (.ref ca), .val (.ref cb), .val (.ref cd), .val (.int (3 : Int32)), .val (.ref cd), .val (.ref cb), .val (.ref cd), .val (.int (1 : Int32)), .unset] [(.int (1 : Int32))])) t
      refine XS.istore X33.here hx rfl (hb hby at_209) rfl (l' := #[.val (.int p1), .val (.int p2), .val (.int p3), .val (.int p4), .val (.int p5), .val (.ref b1), .val (.ref ca), .val (.ref cb), .val (.ref cd), .val (.int (3 : Int32)), .val (.ref cd), .val (.ref cb), .val (.ref cd), .val (.int (1 : Int32)), .unset]) rfl ?_
      show Steps p.tables e below (T33.setTop (mkF m 211 #[.val (.int p1), .val (.int p2), .val (.int p3), .val (.int p4), .val (.int p5), .val (.ref b1), .val (.ref ca), .val (.ref cb), .val (.ref cd), .val (.int (3 : Int32)), .val (.ref cd), .val (.ref cb), .val (.ref cd), .val (.int (1 : Int32)), .unset] [])) t
      refine XS.iload X33.here hx rfl (hb hby at_211) rfl ?_
      show Steps p.tables e below (T33.setTop (mkF m 213 #[.val (.int p1), .val (.int p2), .val (.int p3), .val (.int p4), .val (.int p5), .val (.ref b1), .val (.ref ca), .val (.ref cb), .val (.ref cd), .val (.int (3 : Int32)), .val (.ref cd), .val (.ref cb), .val (.ref cd), .val (.int (1 : Int32)), .unset] [(.int (3 : Int32))])) t
      refine XS.iconst X33.here hx rfl (hb hby at_213) ?_
      show Steps p.tables e below (T33.setTop (mkF m 214 #[.val (.int p1), .val (.int p2), .val (.int p3), .val (.int p4), .val (.int p5), .val (.ref b1), .val (.ref ca), .val (.ref cb), .val (.ref cd), .val (.int (3 : Int32)), .val (.ref cd), .val (.ref cb), .val (.ref cd), .val (.int (1 : Int32)), .unset] [(.int (2 : Int32)), (.int (3 : Int32))])) t
      refine XS.icmpNo X33.here hx rfl (hb hby at_214) rfl (flt (by decide : ¬ (3 : Int32) < (2 : Int32))).1 ?_
      show Steps p.tables e below (T33.setTop (mkF m 217 #[.val (.int p1), .val (.int p2), .val (.int p3), .val (.int p4), .val (.int p5), .val (.ref b1), .val (.ref ca), .val (.ref cb), .val (.ref cd), .val (.int (3 : Int32)), .val (.ref cd), .val (.ref cb), .val (.ref cd), .val (.int (1 : Int32)), .unset] [])) t
      refine XS.aload X33.here hx rfl (hb hby at_217) rfl rfl ?_
      show Steps p.tables e below (T33.setTop (mkF m 219 #[.val (.int p1), .val (.int p2), .val (.int p3), .val (.int p4), .val (.int p5), .val (.ref b1), .val (.ref ca), .val (.ref cb), .val (.ref cd), .val (.int (3 : Int32)), .val (.ref cd), .val (.ref cb), .val (.ref cd), .val (.int (1 : Int32)), .unset] [(.ref b1)])) t
      exact st36.trans k)
  obtain ⟨cq38, kq38, qa38, qb38, qc38⟩ := isOf hZ eh36 fq36_0
  obtain ⟨vv39, _, ⟨T39, L39, kk39, nn39⟩, -, X39, ⟨Lc39, hQ39, l39, y39, z39⟩, st39⟩ := X36.virtualBack hx (y := (⟨"com/example/baraja/baraja/games/sabacckessel/FamilyCards", "discardsAreEmpty", "()Z"⟩ : MethodName)) (z := (⟨"com/example/baraja/baraja/games/sabacckessel/FamilyCards", "discardsAreEmpty", "()Z"⟩ : MethodName)) hown (mvT hZ (hw _ (List.mem_of_getElem? (i := 49) rfl))) (mvT hZ (hw _ (List.mem_of_getElem? (i := 50) rfl))) (notFace_of_selects (args := #[]) (mvT hZ (hw _ (List.mem_of_getElem? (i := 52) rfl)))) (mvT hZ (hw _ (List.mem_of_getElem? (i := 52) rfl))) (mvT hZ (hw _ (List.mem_of_getElem? (i := 51) rfl))) (by decide) (backOf (W := 0) (own_emp_1 l Z a0 hw [] hh36 n0 (Nat.le_trans Z0 Kp36.1) b1 dd kd ca fq36_0 fq36_1 fq36_2 fq36_3 fq3_4 g_b1 g_dd ne_b1_dd) hZ (hw _ (List.mem_of_getElem? (i := 53) rfl)) (hw _ (List.mem_of_getElem? (i := 2) rfl)) (by decide) (by decide)) qa38 qc38 (g := (mkF m 250 #[.val (.int p1), .val (.int p2), .val (.int p3), .val (.int p4), .val (.int p5), .val (.ref b1), .val (.ref ca), .val (.ref cb), .val (.ref cd), .val (.int (3 : Int32)), .val (.ref cd), .val (.ref cb), .val (.ref cd), .val (.int (1 : Int32)), .val (.ref cb)] [(.ref b1)])) rfl (by rw [hml]; rfl) (Steps.refl _) (argsL := []) (rest := []) (lenOf own_pd___Z rfl) rfl (by show 2 * 0 + _ ≤ _; exact Nat.le_of_eq rfl) (hb hby at_250) (fun _ _ => ⟨rfl, eh36, (by decide : 5 + 0 ≤ _), (by decide : 66 + 0 ≤ _)⟩)
  dsimp only [Pt.U, Pt.locs, Pt.cells, Pt.slots] at X39 l39 y39 z39 st39 hQ39
  subst l39 y39 z39
  obtain ⟨rfl, Nq39, e39⟩ := hQ39
  have N39 := Fr.app N36 Nq39
  have ch40 : ∀ t, Steps p.tables e below (T39.setTop (mkF m 253 #[.val (.int p1), .val (.int p2), .val (.int p3), .val (.int p4), .val (.int p5), .val (.ref b1), .val (.ref ca), .val (.ref cb), .val (.ref cd), .val (.int (3 : Int32)), .val (.ref cd), .val (.ref cb), .val (.ref cd), .val (.int (1 : Int32)), .val (.ref cb)] [(.int (0 : Int32))])) t → Steps p.tables e below (s₁.setTop (entryFrame m #[(.int p1), (.int p2), (.int p3), (.int p4), (.int p5)] maxLocals)) t := fun t k => ch37 t (by
      show Steps p.tables e below (T36.setTop (mkF m 222 #[.val (.int p1), .val (.int p2), .val (.int p3), .val (.int p4), .val (.int p5), .val (.ref b1), .val (.ref ca), .val (.ref cb), .val (.ref cd), .val (.int (3 : Int32)), .val (.ref cd), .val (.ref cb), .val (.ref cd), .val (.int (1 : Int32)), .unset] [(.ref cb)])) t
      refine XS.astore X36.here hx rfl (hb hby at_222) rfl rfl (l' := #[.val (.int p1), .val (.int p2), .val (.int p3), .val (.int p4), .val (.int p5), .val (.ref b1), .val (.ref ca), .val (.ref cb), .val (.ref cd), .val (.int (3 : Int32)), .val (.ref cd), .val (.ref cb), .val (.ref cd), .val (.int (1 : Int32)), .val (.ref cb)]) rfl ?_
      show Steps p.tables e below (T36.setTop (mkF m 224 #[.val (.int p1), .val (.int p2), .val (.int p3), .val (.int p4), .val (.int p5), .val (.ref b1), .val (.ref ca), .val (.ref cb), .val (.ref cd), .val (.int (3 : Int32)), .val (.ref cd), .val (.ref cb), .val (.ref cd), .val (.int (1 : Int32)), .val (.ref cb)] [])) t
      refine XS.iload X36.here hx rfl (hb hby at_224) rfl ?_
      show Steps p.tables e below (T36.setTop (mkF m 226 #[.val (.int p1), .val (.int p2), .val (.int p3), .val (.int p4), .val (.int p5), .val (.ref b1), .val (.ref ca), .val (.ref cb), .val (.ref cd), .val (.int (3 : Int32)), .val (.ref cd), .val (.ref cb), .val (.ref cd), .val (.int (1 : Int32)), .val (.ref cb)] [(.int (1 : Int32))])) t
      refine XS.ifNo X36.here hx rfl (hb hby at_226) rfl ((if0 _ _).trans (feq (by decide : ¬ (1 : Int32) = (0 : Int32))).1) ?_
      show Steps p.tables e below (T36.setTop (mkF m 229 #[.val (.int p1), .val (.int p2), .val (.int p3), .val (.int p4), .val (.int p5), .val (.ref b1), .val (.ref ca), .val (.ref cb), .val (.ref cd), .val (.int (3 : Int32)), .val (.ref cd), .val (.ref cb), .val (.ref cd), .val (.int (1 : Int32)), .val (.ref cb)] [])) t
      refine XS.aload X36.here hx rfl (hb hby at_229) rfl rfl ?_
      show Steps p.tables e below (T36.setTop (mkF m 231 #[.val (.int p1), .val (.int p2), .val (.int p3), .val (.int p4), .val (.int p5), .val (.ref b1), .val (.ref ca), .val (.ref cb), .val (.ref cd), .val (.int (3 : Int32)), .val (.ref cd), .val (.ref cb), .val (.ref cd), .val (.int (1 : Int32)), .val (.ref cb)] [(.ref cb)])) t
      refine XS.aload X36.here hx rfl (hb hby at_231) rfl rfl ?_
      show Steps p.tables e below (T36.setTop (mkF m 233 #[.val (.int p1), .val (.int p2), .val (.int p3), .val (.int p4), .val (.int p5), .val (.ref b1), .val (.ref ca), .val (.ref cb), .val (.ref cd), .val (.int (3 : Int32)), .val (.ref cd), .val (.ref cb), .val (.ref cd), .val (.int (1 : Int32)), .val (.ref cb)] [(.ref cb), (.ref cb)])) t
      refine Jvm.RoadKit.acmp (g := (mkF m 233 #[.val (.int p1), .val (.int p2), .val (.int p3), .val (.int p4), .val (.int p5), .val (.ref b1), .val (.ref ca), .val (.ref cb), .val (.ref cd), .val (.int (3 : Int32)), .val (.ref cd), .val (.ref cb), .val (.ref cd), .val (.int (1 : Int32)), .val (.ref cb)] [(.ref cb), (.ref cb)])) X36 hx rfl rfl rfl (pc0 := 233) (pc' := 236) (same := true) rfl (hb hby at_233) rfl (decide_eq_true rfl) (by decide) (by decide) ?_
      show Steps p.tables e below (T36.setTop (mkF m 236 #[.val (.int p1), .val (.int p2), .val (.int p3), .val (.int p4), .val (.int p5), .val (.ref b1), .val (.ref ca), .val (.ref cb), .val (.ref cd), .val (.int (3 : Int32)), .val (.ref cd), .val (.ref cb), .val (.ref cd), .val (.int (1 : Int32)), .val (.ref cb)] [])) t
      refine XS.iconst X36.here hx rfl (hb hby at_236) ?_
      show Steps p.tables e below (T36.setTop (mkF m 237 #[.val (.int p1), .val (.int p2), .val (.int p3), .val (.int p4), .val (.int p5), .val (.ref b1), .val (.ref ca), .val (.ref cb), .val (.ref cd), .val (.int (3 : Int32)), .val (.ref cd), .val (.ref cb), .val (.ref cd), .val (.int (1 : Int32)), .val (.ref cb)] [(.int (1 : Int32))])) t
      refine XS.goto X36.here hx rfl (pc0 := 237) (pc' := 241) rfl (hb hby at_237) (by decide) (by decide) ?_
      show Steps p.tables e below (T36.setTop (mkF m 241 #[.val (.int p1), .val (.int p2), .val (.int p3), .val (.int p4), .val (.int p5), .val (.ref b1), .val (.ref ca), .val (.ref cb), .val (.ref cd), .val (.int (3 : Int32)), .val (.ref cd), .val (.ref cb), .val (.ref cd), .val (.int (1 : Int32)), .val (.ref cb)] [(.int (1 : Int32))])) t
      refine XS.istore X36.here hx rfl (hb hby at_241) rfl (l' := #[.val (.int p1), .val (.int p2), .val (.int p3), .val (.int p4), .val (.int p5), .val (.ref b1), .val (.ref ca), .val (.ref cb), .val (.ref cd), .val (.int (3 : Int32)), .val (.ref cd), .val (.ref cb), .val (.ref cd), .val (.int (1 : Int32)), .val (.ref cb)]) rfl ?_
      show Steps p.tables e below (T36.setTop (mkF m 243 #[.val (.int p1), .val (.int p2), .val (.int p3), .val (.int p4), .val (.int p5), .val (.ref b1), .val (.ref ca), .val (.ref cb), .val (.ref cd), .val (.int (3 : Int32)), .val (.ref cd), .val (.ref cb), .val (.ref cd), .val (.int (1 : Int32)), .val (.ref cb)] [])) t
      refine XS.iload X36.here hx rfl (hb hby at_243) rfl ?_
      show Steps p.tables e below (T36.setTop (mkF m 245 #[.val (.int p1), .val (.int p2), .val (.int p3), .val (.int p4), .val (.int p5), .val (.ref b1), .val (.ref ca), .val (.ref cb), .val (.ref cd), .val (.int (3 : Int32)), .val (.ref cd), .val (.ref cb), .val (.ref cd), .val (.int (1 : Int32)), .val (.ref cb)] [(.int (1 : Int32))])) t
      refine XS.ifNo X36.here hx rfl (hb hby at_245) rfl ((if0 _ _).trans (feq (by decide : ¬ (1 : Int32) = (0 : Int32))).1) ?_
      show Steps p.tables e below (T36.setTop (mkF m 248 #[.val (.int p1), .val (.int p2), .val (.int p3), .val (.int p4), .val (.int p5), .val (.ref b1), .val (.ref ca), .val (.ref cb), .val (.ref cd), .val (.int (3 : Int32)), .val (.ref cd), .val (.ref cb), .val (.ref cd), .val (.int (1 : Int32)), .val (.ref cb)] [])) t
      refine XS.aload X36.here hx rfl (hb hby at_248) rfl rfl ?_
      show Steps p.tables e below (T36.setTop (mkF m 250 #[.val (.int p1), .val (.int p2), .val (.int p3), .val (.int p4), .val (.int p5), .val (.ref b1), .val (.ref ca), .val (.ref cb), .val (.ref cd), .val (.int (3 : Int32)), .val (.ref cd), .val (.ref cb), .val (.ref cd), .val (.int (1 : Int32)), .val (.ref cb)] [(.ref b1)])) t
      exact st39.trans k)
  have ch41 : ∀ t, Steps p.tables e below (T39.setTop (mkF m 276 #[.val (.int p1), .val (.int p2), .val (.int p3), .val (.int p4), .val (.int p5), .val (.ref b1), .val (.ref ca), .val (.ref cb), .val (.ref cd), .val (.int (3 : Int32)), .val (.ref cd), .val (.ref cb), .val (.ref cd), .val (.int (1 : Int32)), .val (.ref cb)] [(.int (1 : Int32))])) t → Steps p.tables e below (s₁.setTop (entryFrame m #[(.int p1), (.int p2), (.int p3), (.int p4), (.int p5)] maxLocals)) t := fun t k => ch40 t (by
      show Steps p.tables e below (T39.setTop (mkF m 253 #[.val (.int p1), .val (.int p2), .val (.int p3), .val (.int p4), .val (.int p5), .val (.ref b1), .val (.ref ca), .val (.ref cb), .val (.ref cd), .val (.int (3 : Int32)), .val (.ref cd), .val (.ref cb), .val (.ref cd), .val (.int (1 : Int32)), .val (.ref cb)] [(.int (0 : Int32))])) t
      refine XS.iload X39.here hx rfl (hb hby at_253) rfl ?_
      show Steps p.tables e below (T39.setTop (mkF m 255 #[.val (.int p1), .val (.int p2), .val (.int p3), .val (.int p4), .val (.int p5), .val (.ref b1), .val (.ref ca), .val (.ref cb), .val (.ref cd), .val (.int (3 : Int32)), .val (.ref cd), .val (.ref cb), .val (.ref cd), .val (.int (1 : Int32)), .val (.ref cb)] [(.int (3 : Int32)), (.int (0 : Int32))])) t
      refine XS.iconst X39.here hx rfl (hb hby at_255) ?_
      show Steps p.tables e below (T39.setTop (mkF m 256 #[.val (.int p1), .val (.int p2), .val (.int p3), .val (.int p4), .val (.int p5), .val (.ref b1), .val (.ref ca), .val (.ref cb), .val (.ref cd), .val (.int (3 : Int32)), .val (.ref cd), .val (.ref cb), .val (.ref cd), .val (.int (1 : Int32)), .val (.ref cb)] [(.int (2 : Int32)), (.int (3 : Int32)), (.int (0 : Int32))])) t
      refine XS.icmpYes X39.here hx rfl (pc0 := 256) (pc' := 263) rfl (hb hby at_256) rfl (feq (by decide : ¬ (3 : Int32) = (2 : Int32))).2 (by decide) (by decide) ?_
      show Steps p.tables e below (T39.setTop (mkF m 263 #[.val (.int p1), .val (.int p2), .val (.int p3), .val (.int p4), .val (.int p5), .val (.ref b1), .val (.ref ca), .val (.ref cb), .val (.ref cd), .val (.int (3 : Int32)), .val (.ref cd), .val (.ref cb), .val (.ref cd), .val (.int (1 : Int32)), .val (.ref cb)] [(.int (0 : Int32))])) t
      refine XS.iconst X39.here hx rfl (hb hby at_263) ?_
      show Steps p.tables e below (T39.setTop (mkF m 264 #[.val (.int p1), .val (.int p2), .val (.int p3), .val (.int p4), .val (.int p5), .val (.ref b1), .val (.ref ca), .val (.ref cb), .val (.ref cd), .val (.int (3 : Int32)), .val (.ref cd), .val (.ref cb), .val (.ref cd), .val (.int (1 : Int32)), .val (.ref cb)] [(.int (0 : Int32)), (.int (0 : Int32))])) t
      refine XS.icmpNo X39.here hx rfl (hb hby at_264) rfl (teq (by decide : (0 : Int32) = (0 : Int32))).2 ?_
      show Steps p.tables e below (T39.setTop (mkF m 267 #[.val (.int p1), .val (.int p2), .val (.int p3), .val (.int p4), .val (.int p5), .val (.ref b1), .val (.ref ca), .val (.ref cb), .val (.ref cd), .val (.int (3 : Int32)), .val (.ref cd), .val (.ref cb), .val (.ref cd), .val (.int (1 : Int32)), .val (.ref cb)] [])) t
      refine XS.iconst X39.here hx rfl (hb hby at_267) ?_
      show Steps p.tables e below (T39.setTop (mkF m 268 #[.val (.int p1), .val (.int p2), .val (.int p3), .val (.int p4), .val (.int p5), .val (.ref b1), .val (.ref ca), .val (.ref cb), .val (.ref cd), .val (.int (3 : Int32)), .val (.ref cd), .val (.ref cb), .val (.ref cd), .val (.int (1 : Int32)), .val (.ref cb)] [(.int (1 : Int32))])) t
      refine XS.goto X39.here hx rfl (pc0 := 268) (pc' := 272) rfl (hb hby at_268) (by decide) (by decide) ?_
      show Steps p.tables e below (T39.setTop (mkF m 272 #[.val (.int p1), .val (.int p2), .val (.int p3), .val (.int p4), .val (.int p5), .val (.ref b1), .val (.ref ca), .val (.ref cb), .val (.ref cd), .val (.int (3 : Int32)), .val (.ref cd), .val (.ref cb), .val (.ref cd), .val (.int (1 : Int32)), .val (.ref cb)] [(.int (1 : Int32))])) t
      refine XS.istore X39.here hx rfl (hb hby at_272) rfl (l' := #[.val (.int p1), .val (.int p2), .val (.int p3), .val (.int p4), .val (.int p5), .val (.ref b1), .val (.ref ca), .val (.ref cb), .val (.ref cd), .val (.int (3 : Int32)), .val (.ref cd), .val (.ref cb), .val (.ref cd), .val (.int (1 : Int32)), .val (.ref cb)]) rfl ?_
      show Steps p.tables e below (T39.setTop (mkF m 274 #[.val (.int p1), .val (.int p2), .val (.int p3), .val (.int p4), .val (.int p5), .val (.ref b1), .val (.ref ca), .val (.ref cb), .val (.ref cd), .val (.int (3 : Int32)), .val (.ref cd), .val (.ref cb), .val (.ref cd), .val (.int (1 : Int32)), .val (.ref cb)] [])) t
      refine XS.iload X39.here hx rfl (hb hby at_274) rfl ?_
      exact k)
  obtain ⟨fs, hr, hrun, hended, hW, hsame⟩ := X39.leave (v := some (.int (1 : Int32))) (fun h => by rw [Bd.returns] at h; cases h)
  refine ⟨_, _, ch41 _ ?_, hrun, hended, _, _, rfl, ?_, ⟨_, rfl⟩, hW, hsame.mono (by decide) (by decide)⟩
  · show Steps p.tables e below (T39.setTop (mkF m 276 #[.val (.int p1), .val (.int p2), .val (.int p3), .val (.int p4), .val (.int p5), .val (.ref b1), .val (.ref ca), .val (.ref cb), .val (.ref cd), .val (.int (3 : Int32)), .val (.ref cd), .val (.ref cb), .val (.ref cd), .val (.int (1 : Int32)), .val (.ref cb)] [(.int (1 : Int32))])) _
    exact retN X39 hx (t := .boolean) Bd.returns (by simp) (hb hby at_276) hr
  · show QN (some (.int (1 : Int32))) n0 _ T39.heap _
    rw [e39]
    exact ⟨rfl, N39⟩
set_option maxRecDepth 65536 in
set_option maxHeartbeats 40000000 in
theorem comes_1 {Post : Tables → Env → Array Value → State → Outcome → State → Prop} (hpost : ∀ tb e args s v u, (limb_1_1.after args s (.returned v) u = true ∧ limb_1_2.after args s (.returned v) u = true ∧ True) → FrameEnd s (.returned v) u (Jvm.fieldLocs frame_1_writes args s ++ Jvm.arrayLocs frame_1_arrays args s ++ Jvm.staticLocs frame_1_statics s) 24 256 → Post tb e args s (.returned v) u) :
    ArmFor flags0 classFile x code maxLocals ret World_1 tables_1 room_1 Calls_1 rest_1 Pre_1 Post := by
  intro l hfl _ _ p e ha hc hk s m args below hf hA hF happ hP
  obtain ⟨hcalls, hrest, hpre⟩ := hP
  obtain ⟨-, -, -, hnamed, -, -, -, hat⟩ := (Spec.applies_iff hf).mp happ
  obtain ⟨hg, hn⟩ := and_e (Cond.before_iff.mp (show (Jvm.Cond.and given_1 narrow_1).before args s = true from hpre))
  obtain ⟨gc, hg⟩ := and_e hg
  obtain ⟨w0, w1, w2, w3, w4, rfl⟩ : ∃ w0 w1 w2 w3 w4 : Value, args = #[w0, w1, w2, w3, w4] := by
    have hs : args.size = 5 := by simpa [Cond.value, given_1] using gc
    obtain ⟨L⟩ := args
    match L, hs with
    | [w0, w1, w2, w3, w4], _ => exact ⟨w0, w1, w2, w3, w4, rfl⟩
  have hw := fun d (hd : d ∈ tables_1) => atoms_spec (ws := Jvm.Cond.code x code maxLocals ret :: tables_1) hat d (List.mem_cons_of_mem _ hd)
  have hfit : Fit s := fun {y c} hc i hi => by
    obtain ⟨ha, rfl⟩ := Array.getElem?_eq_some_iff.mp hc
    have q := List.all_eq_true.mp ((Array.all_eq_true_iff_forall_mem.mp hF) _ (Array.getElem_mem ha)) i (List.mem_range.mpr hi)
    simpa [Array.getElem?_eq_getElem hi] using q
  obtain ⟨ga0, hg⟩ := and_e hg
  obtain ⟨i0, ei0⟩ := is_v ga0
  obtain rfl : w0 = (.int i0) := Option.some.inj ei0
  obtain ⟨ga1, hg⟩ := and_e hg
  obtain ⟨i1, ei1⟩ := is_v ga1
  obtain rfl : w1 = (.int i1) := Option.some.inj ei1
  obtain ⟨ga2, hg⟩ := and_e hg
  obtain ⟨i2, ei2⟩ := is_v ga2
  obtain rfl : w2 = (.int i2) := Option.some.inj ei2
  obtain ⟨ga3, hg⟩ := and_e hg
  obtain ⟨i3, ei3⟩ := is_v ga3
  obtain rfl : w3 = (.int i3) := Option.some.inj ei3
  obtain ⟨i4, ei4⟩ := is_v hg
  obtain rfl : w4 = (.int i4) := Option.some.inj ei4
  obtain ⟨hn0, hn⟩ := and_e hn
  obtain ⟨hn1, hn⟩ := and_e hn
  obtain ⟨hn2, hn⟩ := and_e hn
  obtain ⟨hn3, hn⟩ := and_e hn
  obtain ⟨hn4, hn⟩ := and_e hn
  obtain ⟨hn5, hn⟩ := and_e hn
  obtain ⟨hn6, hn⟩ := and_e hn
  obtain ⟨hn7, hn⟩ := and_e hn
  obtain ⟨hn8, hn⟩ := and_e hn
  obtain ⟨hn9, hn⟩ := and_e hn
  obtain ⟨hn10, hn⟩ := and_e hn
  obtain ⟨hn11, hn⟩ := and_e hn
  obtain ⟨hn12, hn⟩ := and_e hn
  obtain ⟨hn13, hn⟩ := and_e hn
  obtain ⟨hn14, hn⟩ := and_e hn
  obtain ⟨hn15, hn⟩ := and_e hn
  obtain ⟨hn16, hn⟩ := and_e hn
  have hn17 := hn
  obtain ⟨a_EVERY_CARD, ev_EVERY_CARD⟩ := arr_v hn0
  have S_EVERY_CARD : Sta s s.heap "com/example/baraja/baraja/games/sabacckessel/Card" "EVERY_CARD" "[Lcom/example/baraja/baraja/games/sabacckessel/Card;" (.ref a_EVERY_CARD) := Sta.start ev_EVERY_CARD (Or.inr ⟨(hw _ (List.mem_of_getElem? (i := 23) rfl)), (hw _ (List.mem_of_getElem? (i := 26) rfl))⟩)
  obtain ⟨a_FOUR, ev_FOUR⟩ := exa_v hn2
  have S_FOUR : Sta s s.heap "com/example/baraja/baraja/games/sabacckessel/Card" "FOUR" "Lcom/example/baraja/baraja/games/sabacckessel/Card;" (.ref a_FOUR) := Sta.start ev_FOUR (Or.inr ⟨(hw _ (List.mem_of_getElem? (i := 23) rfl)), (hw _ (List.mem_of_getElem? (i := 27) rfl))⟩)
  have E_FOUR : Exa s s.heap a_FOUR "com/example/baraja/baraja/games/sabacckessel/Card" := Exa.start ev_FOUR hn2
  obtain ⟨a_THREE, ev_THREE⟩ := exa_v hn4
  have S_THREE : Sta s s.heap "com/example/baraja/baraja/games/sabacckessel/Card" "THREE" "Lcom/example/baraja/baraja/games/sabacckessel/Card;" (.ref a_THREE) := Sta.start ev_THREE (Or.inr ⟨(hw _ (List.mem_of_getElem? (i := 23) rfl)), (hw _ (List.mem_of_getElem? (i := 28) rfl))⟩)
  have E_THREE : Exa s s.heap a_THREE "com/example/baraja/baraja/games/sabacckessel/Card" := Exa.start ev_THREE hn4
  obtain ⟨a_TWO, ev_TWO⟩ := exa_v hn6
  have S_TWO : Sta s s.heap "com/example/baraja/baraja/games/sabacckessel/Card" "TWO" "Lcom/example/baraja/baraja/games/sabacckessel/Card;" (.ref a_TWO) := Sta.start ev_TWO (Or.inr ⟨(hw _ (List.mem_of_getElem? (i := 23) rfl)), (hw _ (List.mem_of_getElem? (i := 29) rfl))⟩)
  have E_TWO : Exa s s.heap a_TWO "com/example/baraja/baraja/games/sabacckessel/Card" := Exa.start ev_TWO hn6
  obtain ⟨a_FIVE, ev_FIVE⟩ := exa_v hn8
  have S_FIVE : Sta s s.heap "com/example/baraja/baraja/games/sabacckessel/Card" "FIVE" "Lcom/example/baraja/baraja/games/sabacckessel/Card;" (.ref a_FIVE) := Sta.start ev_FIVE (Or.inr ⟨(hw _ (List.mem_of_getElem? (i := 23) rfl)), (hw _ (List.mem_of_getElem? (i := 54) rfl))⟩)
  have E_FIVE : Exa s s.heap a_FIVE "com/example/baraja/baraja/games/sabacckessel/Card" := Exa.start ev_FIVE hn8
  obtain ⟨a_SYLOP, ev_SYLOP⟩ := exa_v hn10
  have S_SYLOP : Sta s s.heap "com/example/baraja/baraja/games/sabacckessel/Card" "SYLOP" "Lcom/example/baraja/baraja/games/sabacckessel/Card;" (.ref a_SYLOP) := Sta.start ev_SYLOP (Or.inr ⟨(hw _ (List.mem_of_getElem? (i := 23) rfl)), (hw _ (List.mem_of_getElem? (i := 55) rfl))⟩)
  have E_SYLOP : Exa s s.heap a_SYLOP "com/example/baraja/baraja/games/sabacckessel/Card" := Exa.start ev_SYLOP hn10
  obtain ⟨a_SIX, ev_SIX⟩ := exa_v hn12
  have S_SIX : Sta s s.heap "com/example/baraja/baraja/games/sabacckessel/Card" "SIX" "Lcom/example/baraja/baraja/games/sabacckessel/Card;" (.ref a_SIX) := Sta.start ev_SIX (Or.inr ⟨(hw _ (List.mem_of_getElem? (i := 23) rfl)), (hw _ (List.mem_of_getElem? (i := 56) rfl))⟩)
  have E_SIX : Exa s s.heap a_SIX "com/example/baraja/baraja/games/sabacckessel/Card" := Exa.start ev_SIX hn12
  obtain ⟨a_ONE, ev_ONE⟩ := exa_v hn14
  have S_ONE : Sta s s.heap "com/example/baraja/baraja/games/sabacckessel/Card" "ONE" "Lcom/example/baraja/baraja/games/sabacckessel/Card;" (.ref a_ONE) := Sta.start ev_ONE (Or.inr ⟨(hw _ (List.mem_of_getElem? (i := 23) rfl)), (hw _ (List.mem_of_getElem? (i := 57) rfl))⟩)
  have E_ONE : Exa s s.heap a_ONE "com/example/baraja/baraja/games/sabacckessel/Card" := Exa.start ev_ONE hn14
  obtain ⟨a_IMPOSTOR, ev_IMPOSTOR⟩ := exa_v hn16
  have S_IMPOSTOR : Sta s s.heap "com/example/baraja/baraja/games/sabacckessel/Card" "IMPOSTOR" "Lcom/example/baraja/baraja/games/sabacckessel/Card;" (.ref a_IMPOSTOR) := Sta.start ev_IMPOSTOR (Or.inr ⟨(hw _ (List.mem_of_getElem? (i := 23) rfl)), (hw _ (List.mem_of_getElem? (i := 58) rfl))⟩)
  have E_IMPOSTOR : Exa s s.heap a_IMPOSTOR "com/example/baraja/baraja/games/sabacckessel/Card" := Exa.start ev_IMPOSTOR hn16
  obtain ⟨cl_EVERY_CARD, A_EVERY_CARD⟩ := Arr.start ev_EVERY_CARD hn0
  obtain ⟨ql_EVERY_CARD, el_EVERY_CARD⟩ := own_len ev_EVERY_CARD A_EVERY_CARD (own_eqI hn1)
  have V_EVERY_CARD : Arv s s.heap a_EVERY_CARD cl_EVERY_CARD.cls (.object "com/example/baraja/baraja/games/sabacckessel/Card") (8 : Int32) [(.ref a_ONE), (.ref a_TWO), (.ref a_THREE), (.ref a_FOUR), (.ref a_FIVE), (.ref a_SIX), (.ref a_IMPOSTOR), (.ref a_SYLOP)] .null := Arv.start hfit A_EVERY_CARD ql_EVERY_CARD el_EVERY_CARD (by decide) rfl ⟨own_elem ev_EVERY_CARD A_EVERY_CARD (own_eqR hn15 ev_ONE), own_elem ev_EVERY_CARD A_EVERY_CARD (own_eqR hn7 ev_TWO), own_elem ev_EVERY_CARD A_EVERY_CARD (own_eqR hn5 ev_THREE), own_elem ev_EVERY_CARD A_EVERY_CARD (own_eqR hn3 ev_FOUR), own_elem ev_EVERY_CARD A_EVERY_CARD (own_eqR hn9 ev_FIVE), own_elem ev_EVERY_CARD A_EVERY_CARD (own_eqR hn13 ev_SIX), own_elem ev_EVERY_CARD A_EVERY_CARD (own_eqR hn17 ev_IMPOSTOR), own_elem ev_EVERY_CARD A_EVERY_CARD (own_eqR hn11 ev_SYLOP), trivial⟩
  have W : OwnWd s s.heap (fun i => [a_FOUR, a_THREE, a_TWO, a_FIVE, a_SYLOP, a_SIX, a_ONE, a_IMPOSTOR].getD i 0) a_EVERY_CARD cl_EVERY_CARD.cls := ⟨S_FOUR, E_FOUR, S_THREE, E_THREE, S_TWO, E_TWO, S_FIVE, E_FIVE, S_SYLOP, E_SYLOP, S_SIX, E_SIX, S_ONE, E_ONE, S_IMPOSTOR, E_IMPOSTOR, S_EVERY_CARD, V_EVERY_CARD⟩
  have hm_i0 := c_mask i0 (7 : Int32) 3 (by decide) (by decide)
  have hz8 : (i0 &&& (7 : Int32)).toInt = 0 ∨ (i0 &&& (7 : Int32)).toInt = 1 ∨ (i0 &&& (7 : Int32)).toInt = 2 ∨ (i0 &&& (7 : Int32)).toInt = 3 ∨ (i0 &&& (7 : Int32)).toInt = 4 ∨ (i0 &&& (7 : Int32)).toInt = 5 ∨ (i0 &&& (7 : Int32)).toInt = 6 ∨ (i0 &&& (7 : Int32)).toInt = 7 := by omega
  have zz : (((i0 &&& (7 : Int32)) + (1 : Int32))).toInt = (i0 &&& (7 : Int32)).toInt + 1 := Jvm.Free.XT.add32 (by constructor <;> simp <;> omega)
  have hm_i1 := c_mask i1 (7 : Int32) 3 (by decide) (by decide)
  have hc_i1 : (i1 &&& (7 : Int32)).toInt = 0 ∨ (i1 &&& (7 : Int32)).toInt = 1 ∨ (i1 &&& (7 : Int32)).toInt = 2 ∨ (i1 &&& (7 : Int32)).toInt = 3 ∨ (i1 &&& (7 : Int32)).toInt = 4 ∨ (i1 &&& (7 : Int32)).toInt = 5 ∨ (i1 &&& (7 : Int32)).toInt = 6 ∨ (i1 &&& (7 : Int32)).toInt = 7 := by omega
  obtain ⟨ca, E_ca, H_ca⟩ : ∃ ca : Addr, Exa s s.heap ca "com/example/baraja/baraja/games/sabacckessel/Card" ∧ ∀ (h : Heap) (n0 : Nat) (Z0 : n0 ≤ h.size) (E : Ext s.heap h), MetFree l (⟨"com/example/baraja/baraja/games/sabacckessel/Card", "of", "(I)Lcom/example/baraja/baraja/games/sabacckessel/Card;"⟩ : MethodName) (head1 (Jvm.Cond.code (⟨"com/example/baraja/baraja/games/sabacckessel/Card", "of", "(I)Lcom/example/baraja/baraja/games/sabacckessel/Card;"⟩ : MethodName) prog_38_method_8_code 1 (some (.object "com/example/baraja/baraja/games/sabacckessel/Card")) :: []) ({ frames := 0, cells := 0, slots := 0, locals := 0 } : Room)) (fun a U => a = #[(.int (i1 &&& (7 : Int32)))] ∧ s.Warmed39 U.vm ∧ U.heap = h) (fun _ _ _ _ _ => True) (fun _ U o U' => ∃ v L, o = .returned v ∧ QV (some (.ref ca)) h n0 v U'.heap L ∧ FrameEnd U o U' L ({ frames := 0, cells := 0, slots := 0, locals := 0 } : Room).cells ({ frames := 0, cells := 0, slots := 0, locals := 0 } : Room).slots) := by
    rcases hc_i1 with hk | hk | hk | hk | hk | hk | hk | hk
    · refine ⟨_, E_ONE, fun h n0 Z0 E => ?_⟩
      rw [show i1 &&& (7 : Int32) = (0 : Int32) from Int32.toInt_inj.mp (hk.trans (by decide))]
      exact own_of_0 l s _ hw [] h n0 Z0 (fun i => [a_FOUR, a_THREE, a_TWO, a_FIVE, a_SYLOP, a_SIX, a_ONE, a_IMPOSTOR].getD i 0) a_EVERY_CARD cl_EVERY_CARD.cls (own_Wd_ext W E)
    · refine ⟨_, E_TWO, fun h n0 Z0 E => ?_⟩
      rw [show i1 &&& (7 : Int32) = (1 : Int32) from Int32.toInt_inj.mp (hk.trans (by decide))]
      exact own_of_1 l s _ hw [] h n0 Z0 (fun i => [a_FOUR, a_THREE, a_TWO, a_FIVE, a_SYLOP, a_SIX, a_ONE, a_IMPOSTOR].getD i 0) a_EVERY_CARD cl_EVERY_CARD.cls (own_Wd_ext W E)
    · refine ⟨_, E_THREE, fun h n0 Z0 E => ?_⟩
      rw [show i1 &&& (7 : Int32) = (2 : Int32) from Int32.toInt_inj.mp (hk.trans (by decide))]
      exact own_of_2 l s _ hw [] h n0 Z0 (fun i => [a_FOUR, a_THREE, a_TWO, a_FIVE, a_SYLOP, a_SIX, a_ONE, a_IMPOSTOR].getD i 0) a_EVERY_CARD cl_EVERY_CARD.cls (own_Wd_ext W E)
    · refine ⟨_, E_FOUR, fun h n0 Z0 E => ?_⟩
      rw [show i1 &&& (7 : Int32) = (3 : Int32) from Int32.toInt_inj.mp (hk.trans (by decide))]
      exact own_of_3 l s _ hw [] h n0 Z0 (fun i => [a_FOUR, a_THREE, a_TWO, a_FIVE, a_SYLOP, a_SIX, a_ONE, a_IMPOSTOR].getD i 0) a_EVERY_CARD cl_EVERY_CARD.cls (own_Wd_ext W E)
    · refine ⟨_, E_FIVE, fun h n0 Z0 E => ?_⟩
      rw [show i1 &&& (7 : Int32) = (4 : Int32) from Int32.toInt_inj.mp (hk.trans (by decide))]
      exact own_of_4 l s _ hw [] h n0 Z0 (fun i => [a_FOUR, a_THREE, a_TWO, a_FIVE, a_SYLOP, a_SIX, a_ONE, a_IMPOSTOR].getD i 0) a_EVERY_CARD cl_EVERY_CARD.cls (own_Wd_ext W E)
    · refine ⟨_, E_SIX, fun h n0 Z0 E => ?_⟩
      rw [show i1 &&& (7 : Int32) = (5 : Int32) from Int32.toInt_inj.mp (hk.trans (by decide))]
      exact own_of_5 l s _ hw [] h n0 Z0 (fun i => [a_FOUR, a_THREE, a_TWO, a_FIVE, a_SYLOP, a_SIX, a_ONE, a_IMPOSTOR].getD i 0) a_EVERY_CARD cl_EVERY_CARD.cls (own_Wd_ext W E)
    · refine ⟨_, E_IMPOSTOR, fun h n0 Z0 E => ?_⟩
      rw [show i1 &&& (7 : Int32) = (6 : Int32) from Int32.toInt_inj.mp (hk.trans (by decide))]
      exact own_of_6 l s _ hw [] h n0 Z0 (fun i => [a_FOUR, a_THREE, a_TWO, a_FIVE, a_SYLOP, a_SIX, a_ONE, a_IMPOSTOR].getD i 0) a_EVERY_CARD cl_EVERY_CARD.cls (own_Wd_ext W E)
    · refine ⟨_, E_SYLOP, fun h n0 Z0 E => ?_⟩
      rw [show i1 &&& (7 : Int32) = (7 : Int32) from Int32.toInt_inj.mp (hk.trans (by decide))]
      exact own_of_7 l s _ hw [] h n0 Z0 (fun i => [a_FOUR, a_THREE, a_TWO, a_FIVE, a_SYLOP, a_SIX, a_ONE, a_IMPOSTOR].getD i 0) a_EVERY_CARD cl_EVERY_CARD.cls (own_Wd_ext W E)
  have hm_i2 := c_mask i2 (7 : Int32) 3 (by decide) (by decide)
  have hc_i2 : (i2 &&& (7 : Int32)).toInt = 0 ∨ (i2 &&& (7 : Int32)).toInt = 1 ∨ (i2 &&& (7 : Int32)).toInt = 2 ∨ (i2 &&& (7 : Int32)).toInt = 3 ∨ (i2 &&& (7 : Int32)).toInt = 4 ∨ (i2 &&& (7 : Int32)).toInt = 5 ∨ (i2 &&& (7 : Int32)).toInt = 6 ∨ (i2 &&& (7 : Int32)).toInt = 7 := by omega
  obtain ⟨cb, E_cb, H_cb⟩ : ∃ ca : Addr, Exa s s.heap ca "com/example/baraja/baraja/games/sabacckessel/Card" ∧ ∀ (h : Heap) (n0 : Nat) (Z0 : n0 ≤ h.size) (E : Ext s.heap h), MetFree l (⟨"com/example/baraja/baraja/games/sabacckessel/Card", "of", "(I)Lcom/example/baraja/baraja/games/sabacckessel/Card;"⟩ : MethodName) (head1 (Jvm.Cond.code (⟨"com/example/baraja/baraja/games/sabacckessel/Card", "of", "(I)Lcom/example/baraja/baraja/games/sabacckessel/Card;"⟩ : MethodName) prog_38_method_8_code 1 (some (.object "com/example/baraja/baraja/games/sabacckessel/Card")) :: []) ({ frames := 0, cells := 0, slots := 0, locals := 0 } : Room)) (fun a U => a = #[(.int (i2 &&& (7 : Int32)))] ∧ s.Warmed39 U.vm ∧ U.heap = h) (fun _ _ _ _ _ => True) (fun _ U o U' => ∃ v L, o = .returned v ∧ QV (some (.ref ca)) h n0 v U'.heap L ∧ FrameEnd U o U' L ({ frames := 0, cells := 0, slots := 0, locals := 0 } : Room).cells ({ frames := 0, cells := 0, slots := 0, locals := 0 } : Room).slots) := by
    rcases hc_i2 with hk | hk | hk | hk | hk | hk | hk | hk
    · refine ⟨_, E_ONE, fun h n0 Z0 E => ?_⟩
      rw [show i2 &&& (7 : Int32) = (0 : Int32) from Int32.toInt_inj.mp (hk.trans (by decide))]
      exact own_of_0 l s _ hw [] h n0 Z0 (fun i => [a_FOUR, a_THREE, a_TWO, a_FIVE, a_SYLOP, a_SIX, a_ONE, a_IMPOSTOR].getD i 0) a_EVERY_CARD cl_EVERY_CARD.cls (own_Wd_ext W E)
    · refine ⟨_, E_TWO, fun h n0 Z0 E => ?_⟩
      rw [show i2 &&& (7 : Int32) = (1 : Int32) from Int32.toInt_inj.mp (hk.trans (by decide))]
      exact own_of_1 l s _ hw [] h n0 Z0 (fun i => [a_FOUR, a_THREE, a_TWO, a_FIVE, a_SYLOP, a_SIX, a_ONE, a_IMPOSTOR].getD i 0) a_EVERY_CARD cl_EVERY_CARD.cls (own_Wd_ext W E)
    · refine ⟨_, E_THREE, fun h n0 Z0 E => ?_⟩
      rw [show i2 &&& (7 : Int32) = (2 : Int32) from Int32.toInt_inj.mp (hk.trans (by decide))]
      exact own_of_2 l s _ hw [] h n0 Z0 (fun i => [a_FOUR, a_THREE, a_TWO, a_FIVE, a_SYLOP, a_SIX, a_ONE, a_IMPOSTOR].getD i 0) a_EVERY_CARD cl_EVERY_CARD.cls (own_Wd_ext W E)
    · refine ⟨_, E_FOUR, fun h n0 Z0 E => ?_⟩
      rw [show i2 &&& (7 : Int32) = (3 : Int32) from Int32.toInt_inj.mp (hk.trans (by decide))]
      exact own_of_3 l s _ hw [] h n0 Z0 (fun i => [a_FOUR, a_THREE, a_TWO, a_FIVE, a_SYLOP, a_SIX, a_ONE, a_IMPOSTOR].getD i 0) a_EVERY_CARD cl_EVERY_CARD.cls (own_Wd_ext W E)
    · refine ⟨_, E_FIVE, fun h n0 Z0 E => ?_⟩
      rw [show i2 &&& (7 : Int32) = (4 : Int32) from Int32.toInt_inj.mp (hk.trans (by decide))]
      exact own_of_4 l s _ hw [] h n0 Z0 (fun i => [a_FOUR, a_THREE, a_TWO, a_FIVE, a_SYLOP, a_SIX, a_ONE, a_IMPOSTOR].getD i 0) a_EVERY_CARD cl_EVERY_CARD.cls (own_Wd_ext W E)
    · refine ⟨_, E_SIX, fun h n0 Z0 E => ?_⟩
      rw [show i2 &&& (7 : Int32) = (5 : Int32) from Int32.toInt_inj.mp (hk.trans (by decide))]
      exact own_of_5 l s _ hw [] h n0 Z0 (fun i => [a_FOUR, a_THREE, a_TWO, a_FIVE, a_SYLOP, a_SIX, a_ONE, a_IMPOSTOR].getD i 0) a_EVERY_CARD cl_EVERY_CARD.cls (own_Wd_ext W E)
    · refine ⟨_, E_IMPOSTOR, fun h n0 Z0 E => ?_⟩
      rw [show i2 &&& (7 : Int32) = (6 : Int32) from Int32.toInt_inj.mp (hk.trans (by decide))]
      exact own_of_6 l s _ hw [] h n0 Z0 (fun i => [a_FOUR, a_THREE, a_TWO, a_FIVE, a_SYLOP, a_SIX, a_ONE, a_IMPOSTOR].getD i 0) a_EVERY_CARD cl_EVERY_CARD.cls (own_Wd_ext W E)
    · refine ⟨_, E_SYLOP, fun h n0 Z0 E => ?_⟩
      rw [show i2 &&& (7 : Int32) = (7 : Int32) from Int32.toInt_inj.mp (hk.trans (by decide))]
      exact own_of_7 l s _ hw [] h n0 Z0 (fun i => [a_FOUR, a_THREE, a_TWO, a_FIVE, a_SYLOP, a_SIX, a_ONE, a_IMPOSTOR].getD i 0) a_EVERY_CARD cl_EVERY_CARD.cls (own_Wd_ext W E)
  have hm_i3 := c_mask i3 (7 : Int32) 3 (by decide) (by decide)
  have hc_i3 : (i3 &&& (7 : Int32)).toInt = 0 ∨ (i3 &&& (7 : Int32)).toInt = 1 ∨ (i3 &&& (7 : Int32)).toInt = 2 ∨ (i3 &&& (7 : Int32)).toInt = 3 ∨ (i3 &&& (7 : Int32)).toInt = 4 ∨ (i3 &&& (7 : Int32)).toInt = 5 ∨ (i3 &&& (7 : Int32)).toInt = 6 ∨ (i3 &&& (7 : Int32)).toInt = 7 := by omega
  obtain ⟨cd, E_cd, H_cd⟩ : ∃ ca : Addr, Exa s s.heap ca "com/example/baraja/baraja/games/sabacckessel/Card" ∧ ∀ (h : Heap) (n0 : Nat) (Z0 : n0 ≤ h.size) (E : Ext s.heap h), MetFree l (⟨"com/example/baraja/baraja/games/sabacckessel/Card", "of", "(I)Lcom/example/baraja/baraja/games/sabacckessel/Card;"⟩ : MethodName) (head1 (Jvm.Cond.code (⟨"com/example/baraja/baraja/games/sabacckessel/Card", "of", "(I)Lcom/example/baraja/baraja/games/sabacckessel/Card;"⟩ : MethodName) prog_38_method_8_code 1 (some (.object "com/example/baraja/baraja/games/sabacckessel/Card")) :: []) ({ frames := 0, cells := 0, slots := 0, locals := 0 } : Room)) (fun a U => a = #[(.int (i3 &&& (7 : Int32)))] ∧ s.Warmed39 U.vm ∧ U.heap = h) (fun _ _ _ _ _ => True) (fun _ U o U' => ∃ v L, o = .returned v ∧ QV (some (.ref ca)) h n0 v U'.heap L ∧ FrameEnd U o U' L ({ frames := 0, cells := 0, slots := 0, locals := 0 } : Room).cells ({ frames := 0, cells := 0, slots := 0, locals := 0 } : Room).slots) := by
    rcases hc_i3 with hk | hk | hk | hk | hk | hk | hk | hk
    · refine ⟨_, E_ONE, fun h n0 Z0 E => ?_⟩
      rw [show i3 &&& (7 : Int32) = (0 : Int32) from Int32.toInt_inj.mp (hk.trans (by decide))]
      exact own_of_0 l s _ hw [] h n0 Z0 (fun i => [a_FOUR, a_THREE, a_TWO, a_FIVE, a_SYLOP, a_SIX, a_ONE, a_IMPOSTOR].getD i 0) a_EVERY_CARD cl_EVERY_CARD.cls (own_Wd_ext W E)
    · refine ⟨_, E_TWO, fun h n0 Z0 E => ?_⟩
      rw [show i3 &&& (7 : Int32) = (1 : Int32) from Int32.toInt_inj.mp (hk.trans (by decide))]
      exact own_of_1 l s _ hw [] h n0 Z0 (fun i => [a_FOUR, a_THREE, a_TWO, a_FIVE, a_SYLOP, a_SIX, a_ONE, a_IMPOSTOR].getD i 0) a_EVERY_CARD cl_EVERY_CARD.cls (own_Wd_ext W E)
    · refine ⟨_, E_THREE, fun h n0 Z0 E => ?_⟩
      rw [show i3 &&& (7 : Int32) = (2 : Int32) from Int32.toInt_inj.mp (hk.trans (by decide))]
      exact own_of_2 l s _ hw [] h n0 Z0 (fun i => [a_FOUR, a_THREE, a_TWO, a_FIVE, a_SYLOP, a_SIX, a_ONE, a_IMPOSTOR].getD i 0) a_EVERY_CARD cl_EVERY_CARD.cls (own_Wd_ext W E)
    · refine ⟨_, E_FOUR, fun h n0 Z0 E => ?_⟩
      rw [show i3 &&& (7 : Int32) = (3 : Int32) from Int32.toInt_inj.mp (hk.trans (by decide))]
      exact own_of_3 l s _ hw [] h n0 Z0 (fun i => [a_FOUR, a_THREE, a_TWO, a_FIVE, a_SYLOP, a_SIX, a_ONE, a_IMPOSTOR].getD i 0) a_EVERY_CARD cl_EVERY_CARD.cls (own_Wd_ext W E)
    · refine ⟨_, E_FIVE, fun h n0 Z0 E => ?_⟩
      rw [show i3 &&& (7 : Int32) = (4 : Int32) from Int32.toInt_inj.mp (hk.trans (by decide))]
      exact own_of_4 l s _ hw [] h n0 Z0 (fun i => [a_FOUR, a_THREE, a_TWO, a_FIVE, a_SYLOP, a_SIX, a_ONE, a_IMPOSTOR].getD i 0) a_EVERY_CARD cl_EVERY_CARD.cls (own_Wd_ext W E)
    · refine ⟨_, E_SIX, fun h n0 Z0 E => ?_⟩
      rw [show i3 &&& (7 : Int32) = (5 : Int32) from Int32.toInt_inj.mp (hk.trans (by decide))]
      exact own_of_5 l s _ hw [] h n0 Z0 (fun i => [a_FOUR, a_THREE, a_TWO, a_FIVE, a_SYLOP, a_SIX, a_ONE, a_IMPOSTOR].getD i 0) a_EVERY_CARD cl_EVERY_CARD.cls (own_Wd_ext W E)
    · refine ⟨_, E_IMPOSTOR, fun h n0 Z0 E => ?_⟩
      rw [show i3 &&& (7 : Int32) = (6 : Int32) from Int32.toInt_inj.mp (hk.trans (by decide))]
      exact own_of_6 l s _ hw [] h n0 Z0 (fun i => [a_FOUR, a_THREE, a_TWO, a_FIVE, a_SYLOP, a_SIX, a_ONE, a_IMPOSTOR].getD i 0) a_EVERY_CARD cl_EVERY_CARD.cls (own_Wd_ext W E)
    · refine ⟨_, E_SYLOP, fun h n0 Z0 E => ?_⟩
      rw [show i3 &&& (7 : Int32) = (7 : Int32) from Int32.toInt_inj.mp (hk.trans (by decide))]
      exact own_of_7 l s _ hw [] h n0 Z0 (fun i => [a_FOUR, a_THREE, a_TWO, a_FIVE, a_SYLOP, a_SIX, a_ONE, a_IMPOSTOR].getD i 0) a_EVERY_CARD cl_EVERY_CARD.cls (own_Wd_ext W E)
  have hm_i4 := c_mask i4 (2147483647 : Int32) 31 (by decide) (by decide)
  have hr_i4 := (c_irem (i4 &&& (2147483647 : Int32)) (3 : Int32) 3 (by decide)).1 (by omega)
  have hc8 : ((i4 &&& (2147483647 : Int32)) % (3 : Int32)).toInt = 0 ∨ ((i4 &&& (2147483647 : Int32)) % (3 : Int32)).toInt = 1 ∨ ((i4 &&& (2147483647 : Int32)) % (3 : Int32)).toInt = 2 := by omega
  have z0 : ¬ ((i0 &&& (7 : Int32)) + (1 : Int32)) < 0 := by rw [Int32.lt_iff_toInt_lt, zz, show (0 : Int32).toInt = 0 from rfl]; omega
  have z8 : (((i0 &&& (7 : Int32)) + (1 : Int32))).toNatClampNeg ≤ 8 := by simp only [Int32.toNatClampNeg, zz]; omega
  have H : MetFree l x (head1 (Jvm.Cond.code x code maxLocals ret :: tables_1) room_1) (fun a U => a = #[(.int i0), (.int i1), (.int i2), (.int i3), (.int i4)] ∧ s.Warmed39 U.vm ∧ U.heap = s.heap) (fun _ _ _ _ _ => True) (fun _ U o U' => ∃ v L, o = .returned v ∧ QN (some (.int (1 : Int32))) s.heap.size v U'.heap L ∧ FrameEnd U o U' L room_1.cells room_1.slots) := by
    rcases hc8 with hk | hk | hk
    · exact own_law_0 l s _ hw tables_1 s.heap s.heap.size (Nat.le_refl _)  i0 i1 i2 i3 i4 ca cb cd H_ca H_cb H_cd E_ca E_cb E_cd z0 z8 (Int32.toInt_inj.mp (hk.trans (by decide)))
    · exact own_law_1 l s _ hw tables_1 s.heap s.heap.size (Nat.le_refl _)  i0 i1 i2 i3 i4 ca cb cd H_ca H_cb H_cd E_ca E_cb E_cd z0 z8 (Int32.toInt_inj.mp (hk.trans (by decide)))
    · exact own_law_2 l s _ hw tables_1 s.heap s.heap.size (Nat.le_refl _)  i0 i1 i2 i3 i4 ca cb cd H_ca H_cb H_cd E_ca E_cb E_cd z0 z8 (Int32.toInt_inj.mp (hk.trans (by decide)))
  obtain ⟨n, o, h1, h2, h3, _, L, rfl, ⟨rfl, N⟩, hq⟩ := H p e ha hc hk s m _ below hf ((Spec.applies_iff_loose hf).mp happ).1 ⟨rfl, State.Warmed39.refl s, rfl⟩ trivial
  refine ⟨n, _, h1, h2, h3, hpost _ _ _ _ _ _ ⟨Cond.after_iff.mpr rfl, Cond.after_iff.mpr (eq_i res_at (Term.int_eval (1)) rfl), trivial⟩ ⟨hq.1, hq.2.1, (hq.2.2.sift fun y hy => Or.inr (N y hy)).mono (by decide) (by decide)⟩⟩
theorem main_1_1 : Claimed_1_1 := comes_1 fun _ _ _ _ _ _ h hF => ⟨h.1, hF⟩
theorem main_1_2 : Claimed_1_2 := comes_1 fun _ _ _ _ _ _ h hF => ⟨h.2.1, hF⟩
end Jvm.Pilot.@@N@@
namespace Jvm.Pilot.@@N@@
open Jvm Jvm.ClassFile Sem Op Lib Jvm.Free Jvm.Stand Jvm.Pilot.@@N@@.Jvm.D
/-! MADE BY PROGRAM (witnessworld.py) out of the Statement's table words and the real class files: 14 classes; the members and pool entries that the words name. The judged class is class 1, her method 1. -/
namespace start1
open Jvm.ClassFile
def u (s : String) : CpInfo := .utf8 (stringToUtf16 s)
/-- a pool by its gaps: so many unusable entries, then the entry; so many at the end -/
def gap : Nat → List CpInfo → List CpInfo
  | 0, r => r
  | n + 1, r => .unusable :: gap n r
def poolList (es : List (Nat × CpInfo)) (last : Nat) : List CpInfo := es.foldr (fun e r => gap e.1 (e.2 :: r)) (gap last [])
def pool (es : List (Nat × CpInfo)) (last : Nat) : Array CpInfo := ⟨poolList es last⟩
def fileOf (pool : Array CpInfo) (this : Nat) (attrs : Array Attribute := #[]) (ms : Array MethodInfo := #[]) (fl : Nat := 33) (sup : Nat := 0) (ifs : Array Nat := #[]) (fds : Array FieldInfo := #[]) : ClassFile where
  minorVersion := 0
  majorVersion := 65
  constantPool := pool
  accessFlags := fl
  thisClass := this
  superClass := sup
  interfaces := ifs
  fields := fds
  methods := ms
  attributes := attrs
def plain (name : String) (sup : Option ClassId) : Class where
  name := name
  kind := .ordinary
  loader := none
  accessFlags := 33
  super := sup
  interfaces := #[]
  cf := none
  fields := #[]
  methods := #[]
  instanceTypes := #[]
  staticTypes := #[]
  resolved := #[]
  callSites := []
  init := .initialized
  statics := none
  mirror := none

def pool0 : Array CpInfo := pool [(5, u "<init>"), (0, u "()V"), (1, .class_ 10), (1, u "java/lang/Object")] 113

def k0c0 : Code := { maxStack := 0, maxLocals := 1, code := object_method_1_code, exceptionTable := #[], attributes := #[] }
def k0m0 : Method := { name := "<init>", desc := "()V", sig := { parameters := [], returnType := none }, accessFlags := 1, code := some k0c0 }
/-- java/lang/Object -/
def k0 : Class := { plain "java/lang/Object" none with
  accessFlags := 33
  interfaces := #[]
  cf := some (fileOf pool0 8 #[] #[{ accessFlags := 1, nameIndex := 5, descriptorIndex := 6, attributes := #[] }] 33 0 #[] #[])
  fields := #[]
  methods := #[k0m0]
  instanceTypes := #[]
  staticTypes := #[]
  resolved := Array.replicate 124 none
  statics := none }

def pool1 : Array CpInfo := pool [(2, .class_ 4), (1, u "java/lang/Object"), (0, u "<init>"), (0, u "()V"), (0, .class_ 8), (0, u "com/example/baraja/baraja/games/sabacckessel/FamilyCards"), (0, .methodref 7 10), (0, .nameAndType 5 11), (0, u "(I)V"), (0, .methodref 13 14), (0, .class_ 15), (0, .nameAndType 16 17), (0, u "com/example/baraja/baraja/games/sabacckessel/Card"), (0, u "of"), (0, u "(I)Lcom/example/baraja/baraja/games/sabacckessel/Card;"), (0, .integer 2147483647), (0, .methodref 7 20), (0, .nameAndType 21 22), (0, u "discard"), (0, u "(Lcom/example/baraja/baraja/games/sabacckessel/Card;)V"), (0, .methodref 7 24), (0, .nameAndType 25 26), (0, u "drawFromDiscards"), (0, u "()Lcom/example/baraja/baraja/games/sabacckessel/Card;"), (0, .methodref 7 28), (0, .nameAndType 29 26), (0, u "topDiscard"), (0, .methodref 7 31), (0, .nameAndType 32 33), (0, u "discardsAreEmpty"), (0, u "()Z"), (0, .class_ 35), (0, u "com/example/baraja/baraja/games/sabacckessel/FamilyCardsDrawFromDiscardsPinLaw"), (2, u "law"), (0, u "(IIIII)Z")] 3

def k1m0 : Method := { name := "<init>", desc := "()V", sig := { parameters := [], returnType := none }, accessFlags := 2, code := none }
def k1c1 : Code := { maxStack := 4, maxLocals := 15, code := code, exceptionTable := #[], attributes := #[] }
def k1m1 : Method := { name := "law", desc := "(IIIII)Z", sig := { parameters := [.int, .int, .int, .int, .int], returnType := some .boolean }, accessFlags := 9, code := some k1c1 }
/-- com/example/baraja/baraja/games/sabacckessel/FamilyCardsDrawFromDiscardsPinLaw -/
def k1 : Class := { plain "com/example/baraja/baraja/games/sabacckessel/FamilyCardsDrawFromDiscardsPinLaw" (some 0) with
  accessFlags := 49
  interfaces := #[]
  cf := some (fileOf pool1 34 #[] #[{ accessFlags := 2, nameIndex := 5, descriptorIndex := 6, attributes := #[] }, { accessFlags := 9, nameIndex := 38, descriptorIndex := 39, attributes := #[] }] 49 2 #[] #[])
  fields := #[]
  methods := #[k1m0, k1m1]
  instanceTypes := #[]
  staticTypes := #[]
  resolved := Array.replicate 43 none
  statics := none }

def pool2 : Array CpInfo := pool [(1, .methodref 2 3), (0, .class_ 4), (0, .nameAndType 5 6), (0, u "java/lang/Object"), (0, u "<init>"), (0, u "()V"), (0, .class_ 8), (0, u "com/example/baraja/baraja/games/sabacckessel/Card"), (0, .fieldref 10 11), (0, .class_ 12), (0, .nameAndType 13 14), (0, u "com/example/baraja/baraja/games/sabacckessel/FamilyCards"), (0, u "deck"), (0, u "[B"), (0, .fieldref 10 16), (0, .nameAndType 17 18), (0, u "discards"), (0, u "[Lcom/example/baraja/baraja/games/sabacckessel/Card;"), (0, .fieldref 10 20), (0, .nameAndType 21 18), (0, u "hands"), (0, .fieldref 10 23), (0, .nameAndType 24 25), (0, u "seenBy"), (0, u "[I"), (7, u "nextCard"), (0, u "I"), (2, .fieldref 10 38), (0, .nameAndType 39 34), (0, u "discardCount"), (81, u "NO_CARD"), (0, u "B"), (2, u "(I)V"), (8, u "()Z"), (0, u "discardsAreEmpty"), (1, u "()Lcom/example/baraja/baraja/games/sabacckessel/Card;"), (0, u "drawFromDiscards"), (0, u "topDiscard"), (0, u "discard"), (0, u "(Lcom/example/baraja/baraja/games/sabacckessel/Card;)V")] 30

def k2c0 : Code := { maxStack := 2, maxLocals := 2, code := prog_40_method_1_code, exceptionTable := #[], attributes := #[] }
def k2m0 : Method := { name := "<init>", desc := "(I)V", sig := { parameters := [.int], returnType := none }, accessFlags := 0, code := some k2c0 }
def k2c1 : Code := { maxStack := 1, maxLocals := 1, code := prog_40_method_7_code, exceptionTable := #[], attributes := #[] }
def k2m1 : Method := { name := "discardsAreEmpty", desc := "()Z", sig := { parameters := [], returnType := some .boolean }, accessFlags := 0, code := some k2c1 }
def k2c2 : Code := { maxStack := 4, maxLocals := 2, code := prog_40_method_9_code, exceptionTable := #[], attributes := #[] }
def k2m2 : Method := { name := "drawFromDiscards", desc := "()Lcom/example/baraja/baraja/games/sabacckessel/Card;", sig := { parameters := [], returnType := some (.object "com/example/baraja/baraja/games/sabacckessel/Card") }, accessFlags := 0, code := some k2c2 }
def k2c3 : Code := { maxStack := 3, maxLocals := 1, code := prog_40_method_10_code, exceptionTable := #[], attributes := #[] }
def k2m3 : Method := { name := "topDiscard", desc := "()Lcom/example/baraja/baraja/games/sabacckessel/Card;", sig := { parameters := [], returnType := some (.object "com/example/baraja/baraja/games/sabacckessel/Card") }, accessFlags := 0, code := some k2c3 }
def k2c4 : Code := { maxStack := 5, maxLocals := 2, code := prog_40_method_11_code, exceptionTable := #[], attributes := #[] }
def k2m4 : Method := { name := "discard", desc := "(Lcom/example/baraja/baraja/games/sabacckessel/Card;)V", sig := { parameters := [(.object "com/example/baraja/baraja/games/sabacckessel/Card")], returnType := none }, accessFlags := 0, code := some k2c4 }
/-- com/example/baraja/baraja/games/sabacckessel/FamilyCards -/
def k2 : Class := { plain "com/example/baraja/baraja/games/sabacckessel/FamilyCards" (some 0) with
  accessFlags := 32
  interfaces := #[]
  cf := some (fileOf pool2 10 #[] #[{ accessFlags := 0, nameIndex := 5, descriptorIndex := 125, attributes := #[] }, { accessFlags := 0, nameIndex := 135, descriptorIndex := 134, attributes := #[] }, { accessFlags := 0, nameIndex := 138, descriptorIndex := 137, attributes := #[] }, { accessFlags := 0, nameIndex := 139, descriptorIndex := 137, attributes := #[] }, { accessFlags := 0, nameIndex := 140, descriptorIndex := 141, attributes := #[] }] 32 2 #[] #[{ accessFlags := 26, nameIndex := 121, descriptorIndex := 122, attributes := #[] }, { accessFlags := 18, nameIndex := 13, descriptorIndex := 14, attributes := #[] }, { accessFlags := 2, nameIndex := 33, descriptorIndex := 34, attributes := #[] }, { accessFlags := 18, nameIndex := 17, descriptorIndex := 18, attributes := #[] }, { accessFlags := 2, nameIndex := 39, descriptorIndex := 34, attributes := #[] }, { accessFlags := 18, nameIndex := 21, descriptorIndex := 18, attributes := #[] }, { accessFlags := 18, nameIndex := 24, descriptorIndex := 25, attributes := #[] }])
  fields := #[{ name := "NO_CARD", type := .byte, accessFlags := 26, slot := 0, constantValue := 0 }, { name := "deck", type := (.array .byte), accessFlags := 18, slot := 0, constantValue := 0 }, { name := "nextCard", type := .int, accessFlags := 2, slot := 1, constantValue := 0 }, { name := "discards", type := (.array (.object "com/example/baraja/baraja/games/sabacckessel/Card")), accessFlags := 18, slot := 2, constantValue := 0 }, { name := "discardCount", type := .int, accessFlags := 2, slot := 3, constantValue := 0 }, { name := "hands", type := (.array (.object "com/example/baraja/baraja/games/sabacckessel/Card")), accessFlags := 18, slot := 4, constantValue := 0 }, { name := "seenBy", type := (.array .int), accessFlags := 18, slot := 5, constantValue := 0 }]
  methods := #[k2m0, k2m1, k2m2, k2m3, k2m4]
  instanceTypes := #[(.array .byte), .int, (.array (.object "com/example/baraja/baraja/games/sabacckessel/Card")), .int, (.array (.object "com/example/baraja/baraja/games/sabacckessel/Card")), (.array .int)]
  staticTypes := #[.byte]
  resolved := Array.replicate 172 none
  statics := none }

def pool3 : Array CpInfo := pool [(1, .class_ 2), (0, u "java/lang/constant/Constable"), (0, .class_ 4), (0, u "java/lang/Object")] 6

/-- java/lang/constant/Constable -/
def k3 : Class := { plain "java/lang/constant/Constable" (some 0) with
  accessFlags := 1537
  interfaces := #[]
  cf := some (fileOf pool3 1 #[] #[] 1537 3 #[] #[])
  fields := #[]
  methods := #[]
  instanceTypes := #[]
  staticTypes := #[]
  resolved := Array.replicate 11 none
  statics := none }

def pool4 : Array CpInfo := pool [(1, .class_ 2), (0, u "java/lang/Comparable"), (0, .class_ 4), (0, u "java/lang/Object")] 7

/-- java/lang/Comparable -/
def k4 : Class := { plain "java/lang/Comparable" (some 0) with
  accessFlags := 1537
  interfaces := #[]
  cf := some (fileOf pool4 1 #[] #[] 1537 3 #[] #[])
  fields := #[]
  methods := #[]
  instanceTypes := #[]
  staticTypes := #[]
  resolved := Array.replicate 12 none
  statics := none }

def pool5 : Array CpInfo := pool [(1, .class_ 2), (0, u "java/io/Serializable"), (0, .class_ 4), (0, u "java/lang/Object")] 2

/-- java/io/Serializable -/
def k5 : Class := { plain "java/io/Serializable" (some 0) with
  accessFlags := 1537
  interfaces := #[]
  cf := some (fileOf pool5 1 #[] #[] 1537 3 #[] #[])
  fields := #[]
  methods := #[]
  instanceTypes := #[]
  staticTypes := #[]
  resolved := Array.replicate 7 none
  statics := none }

def pool6 : Array CpInfo := pool [(2, .class_ 4), (1, u "java/lang/Enum"), (0, u "name"), (0, u "Ljava/lang/String;"), (2, u "ordinal"), (0, u "I"), (1, .class_ 14), (1, u "java/lang/Object"), (4, u "hash"), (86, .class_ 108), (1, u "java/lang/Enum$EnumDesc"), (2, .class_ 112), (0, u "java/lang/constant/Constable"), (0, .class_ 114), (0, u "java/lang/Comparable"), (0, .class_ 116), (0, u "java/io/Serializable")] 87

/-- java/lang/Enum -/
def k6 : Class := { plain "java/lang/Enum" (some 0) with
  accessFlags := 1057
  interfaces := #[3, 4, 5]
  cf := some (fileOf pool6 2 #[.nestMembers #[106]] #[] 1057 12 #[111, 113, 115] #[{ accessFlags := 18, nameIndex := 5, descriptorIndex := 6, attributes := #[] }, { accessFlags := 18, nameIndex := 9, descriptorIndex := 10, attributes := #[] }, { accessFlags := 2, nameIndex := 19, descriptorIndex := 10, attributes := #[] }])
  fields := #[{ name := "name", type := (.object "java/lang/String"), accessFlags := 18, slot := 0, constantValue := 0 }, { name := "ordinal", type := .int, accessFlags := 18, slot := 1, constantValue := 0 }, { name := "hash", type := .int, accessFlags := 2, slot := 2, constantValue := 0 }]
  methods := #[]
  instanceTypes := #[(.object "java/lang/String"), .int, .int]
  staticTypes := #[]
  resolved := Array.replicate 204 none
  statics := none }

def pool7 : Array CpInfo := pool [(1, .class_ 2), (0, u "com/example/baraja/baraja/games/sabacckessel/Card"), (2, u "ONE"), (0, u "Lcom/example/baraja/baraja/games/sabacckessel/Card;"), (2, u "TWO"), (2, u "THREE"), (2, u "FOUR"), (2, u "FIVE"), (2, u "SIX"), (2, u "IMPOSTOR"), (2, u "SYLOP"), (2, u "$VALUES"), (0, u "[Lcom/example/baraja/baraja/games/sabacckessel/Card;"), (6, .class_ 40), (1, u "java/lang/Enum"), (8, u "text"), (0, u "Ljava/lang/String;"), (2, u "value"), (0, u "I"), (2, u "copies"), (4, .fieldref 1 63), (0, .nameAndType 64 31), (0, u "EVERY_CARD"), (2, u "FAMILY"), (0, u "[B"), (23, u "of"), (0, u "(I)Lcom/example/baraja/baraja/games/sabacckessel/Card;"), (86, u "PER_FAMILY")] 59

def k7c0 : Code := { maxStack := 2, maxLocals := 1, code := prog_38_method_8_code, exceptionTable := #[], attributes := #[] }
def k7m0 : Method := { name := "of", desc := "(I)Lcom/example/baraja/baraja/games/sabacckessel/Card;", sig := { parameters := [.int], returnType := some (.object "com/example/baraja/baraja/games/sabacckessel/Card") }, accessFlags := 8, code := some k7c0 }
/-- com/example/baraja/baraja/games/sabacckessel/Card -/
def k7 : Class := { plain "com/example/baraja/baraja/games/sabacckessel/Card" (some 6) with
  accessFlags := 16432
  interfaces := #[]
  cf := some (fileOf pool7 1 #[] #[{ accessFlags := 8, nameIndex := 92, descriptorIndex := 93, attributes := #[] }] 16432 38 #[] #[{ accessFlags := 16409, nameIndex := 5, descriptorIndex := 6, attributes := #[] }, { accessFlags := 16409, nameIndex := 9, descriptorIndex := 6, attributes := #[] }, { accessFlags := 16409, nameIndex := 12, descriptorIndex := 6, attributes := #[] }, { accessFlags := 16409, nameIndex := 15, descriptorIndex := 6, attributes := #[] }, { accessFlags := 16409, nameIndex := 18, descriptorIndex := 6, attributes := #[] }, { accessFlags := 16409, nameIndex := 21, descriptorIndex := 6, attributes := #[] }, { accessFlags := 16409, nameIndex := 24, descriptorIndex := 6, attributes := #[] }, { accessFlags := 16409, nameIndex := 27, descriptorIndex := 6, attributes := #[] }, { accessFlags := 24, nameIndex := 180, descriptorIndex := 54, attributes := #[] }, { accessFlags := 26, nameIndex := 64, descriptorIndex := 31, attributes := #[] }, { accessFlags := 26, nameIndex := 67, descriptorIndex := 68, attributes := #[] }, { accessFlags := 18, nameIndex := 49, descriptorIndex := 50, attributes := #[] }, { accessFlags := 18, nameIndex := 53, descriptorIndex := 54, attributes := #[] }, { accessFlags := 18, nameIndex := 57, descriptorIndex := 54, attributes := #[] }, { accessFlags := 4122, nameIndex := 30, descriptorIndex := 31, attributes := #[] }])
  fields := #[{ name := "ONE", type := (.object "com/example/baraja/baraja/games/sabacckessel/Card"), accessFlags := 16409, slot := 0, constantValue := 0 }, { name := "TWO", type := (.object "com/example/baraja/baraja/games/sabacckessel/Card"), accessFlags := 16409, slot := 1, constantValue := 0 }, { name := "THREE", type := (.object "com/example/baraja/baraja/games/sabacckessel/Card"), accessFlags := 16409, slot := 2, constantValue := 0 }, { name := "FOUR", type := (.object "com/example/baraja/baraja/games/sabacckessel/Card"), accessFlags := 16409, slot := 3, constantValue := 0 }, { name := "FIVE", type := (.object "com/example/baraja/baraja/games/sabacckessel/Card"), accessFlags := 16409, slot := 4, constantValue := 0 }, { name := "SIX", type := (.object "com/example/baraja/baraja/games/sabacckessel/Card"), accessFlags := 16409, slot := 5, constantValue := 0 }, { name := "IMPOSTOR", type := (.object "com/example/baraja/baraja/games/sabacckessel/Card"), accessFlags := 16409, slot := 6, constantValue := 0 }, { name := "SYLOP", type := (.object "com/example/baraja/baraja/games/sabacckessel/Card"), accessFlags := 16409, slot := 7, constantValue := 0 }, { name := "PER_FAMILY", type := .int, accessFlags := 24, slot := 8, constantValue := 0 }, { name := "EVERY_CARD", type := (.array (.object "com/example/baraja/baraja/games/sabacckessel/Card")), accessFlags := 26, slot := 9, constantValue := 0 }, { name := "FAMILY", type := (.array .byte), accessFlags := 26, slot := 10, constantValue := 0 }, { name := "text", type := (.object "java/lang/String"), accessFlags := 18, slot := 3, constantValue := 0 }, { name := "value", type := .int, accessFlags := 18, slot := 4, constantValue := 0 }, { name := "copies", type := .int, accessFlags := 18, slot := 5, constantValue := 0 }, { name := "$VALUES", type := (.array (.object "com/example/baraja/baraja/games/sabacckessel/Card")), accessFlags := 4122, slot := 11, constantValue := 0 }]
  methods := #[k7m0]
  instanceTypes := #[(.object "java/lang/String"), .int, .int, (.object "java/lang/String"), .int, .int]
  staticTypes := #[(.object "com/example/baraja/baraja/games/sabacckessel/Card"), (.object "com/example/baraja/baraja/games/sabacckessel/Card"), (.object "com/example/baraja/baraja/games/sabacckessel/Card"), (.object "com/example/baraja/baraja/games/sabacckessel/Card"), (.object "com/example/baraja/baraja/games/sabacckessel/Card"), (.object "com/example/baraja/baraja/games/sabacckessel/Card"), (.object "com/example/baraja/baraja/games/sabacckessel/Card"), (.object "com/example/baraja/baraja/games/sabacckessel/Card"), .int, (.array (.object "com/example/baraja/baraja/games/sabacckessel/Card")), (.array .byte), (.array (.object "com/example/baraja/baraja/games/sabacckessel/Card"))]
  resolved := Array.replicate 240 none
  statics := some 0 }

def pool8 : Array CpInfo := pool [(1, u "java/lang/Cloneable"), (0, .class_ 1), (0, u "java/lang/Object"), (0, .class_ 3)] 3

/-- java/lang/Cloneable -/
def k8 : Class := { plain "java/lang/Cloneable" (some 0) with
  accessFlags := 1537
  interfaces := #[]
  cf := some (fileOf pool8 2 #[] #[] 1537 4 #[] #[])
  fields := #[]
  methods := #[]
  instanceTypes := #[]
  staticTypes := #[]
  resolved := Array.replicate 8 none
  statics := none }

/-- the primitive byte -/
def k9 : Class := { plain "byte" none with kind := .primitive 'B', accessFlags := 0x411 }
/-- [B -/
def k10 : Class := { plain "[B" (some 0) with kind := .array 9 .byte, interfaces := #[8, 5], accessFlags := 1041 }

/-- the primitive int -/
def k11 : Class := { plain "int" none with kind := .primitive 'I', accessFlags := 0x411 }
/-- [I -/
def k12 : Class := { plain "[I" (some 0) with kind := .array 11 .int, interfaces := #[8, 5], accessFlags := 1041 }

/-- [Lcom/example/baraja/baraja/games/sabacckessel/Card; -/
def k13 : Class := { plain "[Lcom/example/baraja/baraja/games/sabacckessel/Card;" (some 0) with kind := .array 7 (.object "com/example/baraja/baraja/games/sabacckessel/Card"), interfaces := #[8, 5], accessFlags := 1041 }

def heap : Heap := #[{ cls := 7, slots := #[.ref 8, .ref 4, .ref 3, .ref 2, .ref 5, .ref 7, .ref 9, .ref 6, .int 0, .ref 1, .null, .null], vm := .statics 7 },
  { cls := 13, slots := #[.ref 8, .ref 4, .ref 3, .ref 2, .ref 5, .ref 7, .ref 9, .ref 6], vm := .none },
  { cls := 7, slots := #[.null, .int 0, .int 0, .null, .int 0, .int 0], vm := .none },
  { cls := 7, slots := #[.null, .int 0, .int 0, .null, .int 0, .int 0], vm := .none },
  { cls := 7, slots := #[.null, .int 0, .int 0, .null, .int 0, .int 0], vm := .none },
  { cls := 7, slots := #[.null, .int 0, .int 0, .null, .int 0, .int 0], vm := .none },
  { cls := 7, slots := #[.null, .int 0, .int 0, .null, .int 0, .int 0], vm := .none },
  { cls := 7, slots := #[.null, .int 0, .int 0, .null, .int 0, .int 0], vm := .none },
  { cls := 7, slots := #[.null, .int 0, .int 0, .null, .int 0, .int 0], vm := .none },
  { cls := 7, slots := #[.null, .int 0, .int 0, .null, .int 0, .int 0], vm := .none }]
def classes : Array Class := #[k0, k1, k2, k3, k4, k5, k6, k7, k8, k9, k10, k11, k12, k13]
def interned : List (Array UInt16 × Addr) := []
def slotsUsed : Nat := 68
def theMethod : MethodId := ⟨1, 1⟩
def args0 : Array Value := #[.int 1, .int 2, .int 3, .int 4, .int 5]
def aboutOver (below : List Frame) : State where
  vm := { classes := classes, interned := interned.toArray }
  heap := heap
  slotsUsed := slotsUsed
  threads := #[{ frames := .invoking theMethod args0 :: below }]
def below0 : List Frame := [.native { method := ⟨0, 0⟩, args := #[] }]
def about1 : State := aboutOver below0
def p0 : Program := .bare "" "" ""
def e0 : Env := launch0.env 0 0 0
theorem w_frames : about1.frames = Frame.invoking theMethod args0 :: below0 := rfl
set_option maxRecDepth 65536 in
theorem w_args : argsFit about1.vm theMethod args0 = true := by decide +kernel
set_option maxRecDepth 65536 in
theorem w_heap : heapFits about1 = true := by decide +kernel
set_option maxRecDepth 65536 in
theorem w_runnable : about1.curStatus? = some .runnable := by decide +kernel
set_option maxRecDepth 65536 in
theorem w_alone : about1.alone = true := by decide +kernel
set_option maxRecDepth 65536 in
theorem w_named : about1.methodNamed? x = some theMethod := by decide +kernel
set_option maxRecDepth 65536 in
theorem w_hears : about1.hears theMethod below0 = true := by decide +kernel
set_option maxRecDepth 65536 in
theorem w_ripe : about1.ripe theMethod args0 below0 = true := by decide +kernel
theorem w_running : about1.status = .running := rfl
set_option maxRecDepth 65536 in
theorem w_room : about1.hasRoom e0.platform room_1 = true :=
  launch0.hasRoom_least _ room_1 (by decide +kernel) (by decide +kernel) (by decide +kernel) (by decide +kernel) (by decide +kernel) (by decide +kernel)
theorem allAtoms_all (ts : List Jvm.Cond) (a : Array Jvm.Value) (st : Jvm.State) : (allAtoms ts).before a st = ts.all (fun c => c.before a st) := by
  induction ts with
  | nil => rfl
  | cons c t ih =>
    show (Jvm.Cond.and c (allAtoms t)).before a st = _
    rw [Jvm.Cond.before_and, ih, List.all_cons]
def words1 : List Jvm.Cond := Jvm.Cond.code x code maxLocals ret :: tables_1
/-- a 'code' word, met by the world's own term for the bytes: nothing is compared byte by byte -/
theorem code_word {y : MethodName} {bytes : ByteArray} {mx : Nat} {rt : Option FieldType} {a : Array Value} {s : State} {m : MethodId} {meth : Method} {c : Code} (h1 : s.methodNamed? y = some m) (h2 : s.vm.method? m = some meth) (h3 : meth.code = some c) (h4 : c.code = bytes)
    (h5 : (c.maxLocals == mx && c.exceptionTable.isEmpty && decide (c.maxStack ≤ mostOperands) && decide (meth.sig.returnType = rt) && !meth.locks && decide (parseMethodDescriptor y.desc = some meth.sig)) = true) : (Jvm.Cond.code y bytes mx rt).before a s = true := by
  simp only [Bool.and_eq_true, beq_iff_eq, Bool.not_eq_true', decide_eq_true_eq] at h5
  obtain ⟨⟨⟨⟨⟨g1, g2⟩, g3⟩, g4⟩, g5⟩, g6⟩ := h5
  simp [Cond.before, Cond.holds, Cond.value, h1, h2, h3, h4, g1, g2, g3, g4, g5, g6]
def isCode : Jvm.Cond → Bool
  | .code _ _ _ _ => true
  | _ => false
theorem all_split {L : List Jvm.Cond} {P : Jvm.Cond → Bool} (h1 : L.all (fun c => isCode c || P c) = true) (h2 : ∀ c ∈ L.filter isCode, P c = true) : L.all P = true := by
  refine List.all_eq_true.mpr fun c hc => ?_
  have h := List.all_eq_true.mp h1 c hc
  rcases Bool.eq_false_or_eq_true (isCode c) with hi | hi
  · exact h2 c (List.mem_filter.mpr ⟨hc, hi⟩)
  · simpa [hi] using h
set_option maxRecDepth 65536 in
theorem w_c0 : (Jvm.Cond.code x code maxLocals ret).before args0 about1 = true := code_word (m := ⟨1, 1⟩) (meth := k1m1) (c := k1c1) (by decide +kernel) rfl rfl rfl (by decide +kernel)
set_option maxRecDepth 65536 in
theorem w_c1 : (Jvm.Cond.code ({ cls := "com/example/baraja/baraja/games/sabacckessel/FamilyCards", name := "<init>", desc := "(I)V" } : Jvm.MethodName) prog_40_method_1_code (2 : Nat) (Option.none : Option Jvm.ClassFile.FieldType)).before args0 about1 = true := code_word (m := ⟨2, 0⟩) (meth := k2m0) (c := k2c0) (by decide +kernel) rfl rfl rfl (by decide +kernel)
set_option maxRecDepth 65536 in
theorem w_c2 : (Jvm.Cond.code ({ cls := "java/lang/Object", name := "<init>", desc := "()V" } : Jvm.MethodName) object_method_1_code (1 : Nat) (Option.none : Option Jvm.ClassFile.FieldType)).before args0 about1 = true := code_word (m := ⟨0, 0⟩) (meth := k0m0) (c := k0c0) (by decide +kernel) rfl rfl rfl (by decide +kernel)
set_option maxRecDepth 65536 in
theorem w_c3 : (Jvm.Cond.code ({ cls := "com/example/baraja/baraja/games/sabacckessel/Card", name := "of", desc := "(I)Lcom/example/baraja/baraja/games/sabacckessel/Card;" } : Jvm.MethodName) prog_38_method_8_code (1 : Nat) (Option.some (Jvm.ClassFile.FieldType.object "com/example/baraja/baraja/games/sabacckessel/Card"))).before args0 about1 = true := code_word (m := ⟨7, 0⟩) (meth := k7m0) (c := k7c0) (by decide +kernel) rfl rfl rfl (by decide +kernel)
set_option maxRecDepth 65536 in
theorem w_c4 : (Jvm.Cond.code ({ cls := "com/example/baraja/baraja/games/sabacckessel/FamilyCards", name := "discard", desc := "(Lcom/example/baraja/baraja/games/sabacckessel/Card;)V" } : Jvm.MethodName) prog_40_method_11_code (2 : Nat) (Option.none : Option Jvm.ClassFile.FieldType)).before args0 about1 = true := code_word (m := ⟨2, 4⟩) (meth := k2m4) (c := k2c4) (by decide +kernel) rfl rfl rfl (by decide +kernel)
set_option maxRecDepth 65536 in
theorem w_c5 : (Jvm.Cond.code ({ cls := "com/example/baraja/baraja/games/sabacckessel/FamilyCards", name := "drawFromDiscards", desc := "()Lcom/example/baraja/baraja/games/sabacckessel/Card;" } : Jvm.MethodName) prog_40_method_9_code (2 : Nat) (Option.some (Jvm.ClassFile.FieldType.object "com/example/baraja/baraja/games/sabacckessel/Card"))).before args0 about1 = true := code_word (m := ⟨2, 2⟩) (meth := k2m2) (c := k2c2) (by decide +kernel) rfl rfl rfl (by decide +kernel)
set_option maxRecDepth 65536 in
theorem w_c6 : (Jvm.Cond.code ({ cls := "com/example/baraja/baraja/games/sabacckessel/FamilyCards", name := "topDiscard", desc := "()Lcom/example/baraja/baraja/games/sabacckessel/Card;" } : Jvm.MethodName) prog_40_method_10_code (1 : Nat) (Option.some (Jvm.ClassFile.FieldType.object "com/example/baraja/baraja/games/sabacckessel/Card"))).before args0 about1 = true := code_word (m := ⟨2, 3⟩) (meth := k2m3) (c := k2c3) (by decide +kernel) rfl rfl rfl (by decide +kernel)
set_option maxRecDepth 65536 in
theorem w_c7 : (Jvm.Cond.code ({ cls := "com/example/baraja/baraja/games/sabacckessel/FamilyCards", name := "discardsAreEmpty", desc := "()Z" } : Jvm.MethodName) prog_40_method_7_code (1 : Nat) (Option.some Jvm.ClassFile.FieldType.boolean)).before args0 about1 = true := code_word (m := ⟨2, 1⟩) (meth := k2m1) (c := k2c1) (by decide +kernel) rfl rfl rfl (by decide +kernel)
def codes1 : List Jvm.Cond := [Jvm.Cond.code x code maxLocals ret, Jvm.Cond.code ({ cls := "com/example/baraja/baraja/games/sabacckessel/FamilyCards", name := "<init>", desc := "(I)V" } : Jvm.MethodName) prog_40_method_1_code (2 : Nat) (Option.none : Option Jvm.ClassFile.FieldType), Jvm.Cond.code ({ cls := "java/lang/Object", name := "<init>", desc := "()V" } : Jvm.MethodName) object_method_1_code (1 : Nat) (Option.none : Option Jvm.ClassFile.FieldType), Jvm.Cond.code ({ cls := "com/example/baraja/baraja/games/sabacckessel/Card", name := "of", desc := "(I)Lcom/example/baraja/baraja/games/sabacckessel/Card;" } : Jvm.MethodName) prog_38_method_8_code (1 : Nat) (Option.some (Jvm.ClassFile.FieldType.object "com/example/baraja/baraja/games/sabacckessel/Card")), Jvm.Cond.code ({ cls := "com/example/baraja/baraja/games/sabacckessel/FamilyCards", name := "discard", desc := "(Lcom/example/baraja/baraja/games/sabacckessel/Card;)V" } : Jvm.MethodName) prog_40_method_11_code (2 : Nat) (Option.none : Option Jvm.ClassFile.FieldType), Jvm.Cond.code ({ cls := "com/example/baraja/baraja/games/sabacckessel/FamilyCards", name := "drawFromDiscards", desc := "()Lcom/example/baraja/baraja/games/sabacckessel/Card;" } : Jvm.MethodName) prog_40_method_9_code (2 : Nat) (Option.some (Jvm.ClassFile.FieldType.object "com/example/baraja/baraja/games/sabacckessel/Card")), Jvm.Cond.code ({ cls := "com/example/baraja/baraja/games/sabacckessel/FamilyCards", name := "topDiscard", desc := "()Lcom/example/baraja/baraja/games/sabacckessel/Card;" } : Jvm.MethodName) prog_40_method_10_code (1 : Nat) (Option.some (Jvm.ClassFile.FieldType.object "com/example/baraja/baraja/games/sabacckessel/Card")), Jvm.Cond.code ({ cls := "com/example/baraja/baraja/games/sabacckessel/FamilyCards", name := "discardsAreEmpty", desc := "()Z" } : Jvm.MethodName) prog_40_method_7_code (1 : Nat) (Option.some Jvm.ClassFile.FieldType.boolean)]
set_option maxRecDepth 65536 in
theorem codes_eq : words1.filter isCode = codes1 := rfl
theorem w_codes : ∀ c ∈ words1.filter isCode, c.before args0 about1 = true := by
  rw [codes_eq]
  intro c hc
  simp only [codes1, List.mem_cons, List.not_mem_nil, or_false] at hc
  rcases hc with rfl | rfl | rfl | rfl | rfl | rfl | rfl | rfl
  · exact w_c0
  · exact w_c1
  · exact w_c2
  · exact w_c3
  · exact w_c4
  · exact w_c5
  · exact w_c6
  · exact w_c7
set_option maxRecDepth 65536 in
theorem w_t1 : (words1.take 24).all (fun c => isCode c || c.before args0 about1) = true := by decide +kernel
set_option maxRecDepth 65536 in
theorem w_t2 : ((words1.drop 24).take 24).all (fun c => isCode c || c.before args0 about1) = true := by decide +kernel
set_option maxRecDepth 65536 in
theorem w_t3 : ((words1.drop 24).drop 24).all (fun c => isCode c || c.before args0 about1) = true := by decide +kernel
theorem w_tables : (allAtoms (Jvm.Cond.code x code maxLocals ret :: tables_1)).before args0 about1 = true := by
  rw [allAtoms_all]
  show words1.all (fun c => c.before args0 about1) = true
  refine all_split ?_ w_codes
  rw [← List.take_append_drop 24 words1, List.all_append, w_t1, ← List.take_append_drop 24 (words1.drop 24), List.all_append, w_t2, w_t3]
  rfl
set_option maxRecDepth 65536 in
theorem w_case : (Jvm.Cond.and given_1 narrow_1).before args0 about1 = true := by decide +kernel
theorem w_applies : (headSpec (Jvm.Cond.code x code maxLocals ret :: tables_1) room_1).applies x e0.platform about1 = true :=
  (Spec.applies_iff w_frames).mpr ⟨w_running, w_runnable, w_alone, w_named, w_hears, w_ripe, w_room, w_tables⟩
theorem atStart : AtStart classFile x code maxLocals ret World_1 tables_1 room_1 Calls_1 rest_1 Pre_1 launch0 p0 e0 about1 theMethod args0 below0 :=
  ⟨lists_1, trivial, launch0.admits_env _ _ _, launch0.least_env, fairChoices_fair.cas, fairChoices_fair.clock, w_frames, w_args, w_heap, w_applies, trivial, trivial, w_case⟩
end start1
theorem witness_1 : WitnessClaimed_1 := ⟨start1.p0, start1.e0, start1.about1, start1.theMethod, start1.args0, start1.below0, start1.atStart⟩
end Jvm.Pilot.@@N@@
