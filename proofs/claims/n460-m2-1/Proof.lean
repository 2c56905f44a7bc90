import JvmDerived
import JvmDerived.Pilot.@@N@@Statement
import JvmDerived.Pilot.@@N@@Code
set_option linter.unusedVariables false
set_option linter.unusedSimpArgs false
namespace Jvm.RoadKit
open Sem ClassFile Op Lib Jvm.Stand Jvm.Free Jvm.LawKit
section New
variable {p : Program} {l : Launch} {e : Env} {R : Room} {s : State} {m : MethodId} {args : Array Value} {below : List Frame} {meth : Method} {c : Code} {T : State} {locs : List Loc} {cells slots : Nat}
theorem retI (X : Stand p l e R s m args below meth c T locs cells slots) (hx : p.tables.exec = Jvm.exec) {pc : Nat} {Ls : Array Slot} {z : Int32} {rest : List Value} (hret : meth.sig.returnType = some .int) (hd : decode c.code pc = .ok (.ireturn, 1)) {fs : List Frame}
    (hl : ∀ (f : JFrame) (acts : List Action), f.method = m → f.locked = none → f.entered = [] → (doReturn e (T.setTop f) acts (some (.int z))).1 = T.setFrames fs) : Steps p.tables e below (T.setTop (mkF m pc Ls (.int z :: rest))) (T.setFrames fs) := by
  have hm' : T.vm.method? m = some meth := X.method'
  have hn : narrow .int (.int z) = .int z := rfl
  show Steps p.tables e below (T.setTop { method := m, pc := pc, locals := Ls, stack := _ :: rest, locked := none }) _
  jvm_step X.here [X.here.top, hx, hd, hm', hret, hn]
  first | (intro acts; rw [hl _ acts rfl rfl rfl]) | rw [hl _ _ rfl rfl rfl]
  exact Steps.refl _
end New
end Jvm.RoadKit
namespace Jvm.Pilot.@@N@@
open Jvm Jvm.ClassFile Sem Op Lib Jvm.Free Jvm.Stand Jvm.LawKit Jvm.RoadKit Bundle Jvm.Pilot.@@N@@.Jvm.D
def QV (r : Option Value) (h0 : Heap) (n0 : Nat) (v : Option Value) (h : Heap) (L : List Loc) : Prop := v = r ∧ Fr n0 L ∧ h = h0
def QN (r : Option Value) (n0 : Nat) (v : Option Value) (h : Heap) (L : List Loc) : Prop := v = r ∧ Fr n0 L
section OwnWords
variable {args : Array Value} {first s : State} {o : Option Outcome} {idx : List Nat} {t : Term}
theorem own_eqI {k : Int32} (h : (Jvm.Cond.eq t (.int k)).value args first o s idx = some true) : t.eval args first o idx s = some (.int k) := by
  simp only [Jvm.Cond.value, Term.eval] at h; cases ht : t.eval args first o idx s with | none => simp [ht] at h | some x => cases x <;> simp [ht] at h ⊢; exact h
end OwnWords
theorem own_exa_plain {Z : State} {h : Heap} {a : Addr} {C : String} (F : Exa Z h a C) (c : Cell) (hc : h[a]? = some c) : c.vm.isStatics = false := by
  obtain ⟨cell, k, h1, h2, h3, h4, h5⟩ := F; cases h1.symm.trans hc; exact h4
theorem own_arv_plain {Z : State} {h : Heap} {a : Addr} {k : ClassId} {ty : FieldType} {n : Int32} {vs : List Value} {d : Value} (F : Arv Z h a k ty n vs d) (c : Cell) (hc : h[a]? = some c) : c.vm.isStatics = false := by
  obtain ⟨cell, A, -⟩ := F; cases A.1.symm.trans hc; exact A.plain
theorem own_ext_of_keep {h h' : Heap} {ws : List Addr} (K : Keep h h' ws) (q : ∀ x ∈ ws, h.size ≤ x) : Ext h h' := ⟨K.1, fun a c hc => K.2.1 a c hc fun hm => absurd (Array.getElem?_eq_some_iff.mp hc).1 (Nat.not_lt.mpr (q a hm))⟩
theorem own_fitc {Z : State} {h : Heap} {a : Addr} {c : Cell} {ty : FieldType} {vs : List Value} {d : Value} (A : Arr Z h a c ty) (H : Has c vs d) (G : ∀ i, i < c.slots.size → fits ty (vs.getD i d) = true) : FitC Z c := fun i v hv => by
  obtain ⟨hi, -⟩ := Array.getElem?_eq_some_iff.mp hv
  obtain ⟨hs, k, hk, comp, hkind⟩ := A.2.1
  have e : Z.slotType? c.cls .none i = some ty := by simp [State.slotType?, hk, hkind]
  have ev : v = vs.getD i d := Option.some.inj (hv.symm.trans (H i hi))
  simp only [State.fitsSlot, e]
  rw [ev]; exact G i hi
theorem own_sta_keep {Z : State} {h h' : Heap} {C n d : String} {w : Value} {ws : List Addr} (F : Sta Z h C n d w) (K : Keep h h' ws) (q : ∀ x ∈ ws, ∀ c : Cell, h[x]? = some c → c.vm.isStatics = false) : Sta Z h' C n d w := by
  obtain ⟨cf, i, k, f, st, cell, h1, h2, h3, h4, h5, h6, h7⟩ := F
  exact ⟨cf, i, k, f, st, cell, h1, h2, h3, h4, K.2.1 _ _ h5 (fun hx => by rw [q _ hx _ h5] at h6; cases h6), h6, h7⟩
section OwnWords2
variable {args : Array Value} {s : State} {t u : Term}
theorem own_eqR {a : Addr} (h : (Jvm.Cond.eq t u).value args s none s [] = some true) (hu : u.eval args s none [] s = some (.ref a)) : t.eval args s none [] s = some (.ref a) := by
  simp only [Jvm.Cond.value, hu] at h; cases ht : t.eval args s none [] s with | none => simp [ht] at h | some x => cases x <;> simp [ht] at h ⊢; exact h
theorem own_len {a : Addr} {cl : Cell} {ty : FieldType} {k : Int32} (ev : t.eval args s none [] s = some (.ref a)) (A : Arr s s.heap a cl ty) (h : (Term.length t).eval args s none [] s = some (.int k)) : cl.slots.size < 2 ^ 31 ∧ cl.slots.size.toInt32 = k := by
  have ha := A.fin (Vm.Alike.refl _)
  by_cases hl : cl.slots.size < 2 ^ 31
  · rw [len_f ev ha hl] at h; exact ⟨hl, Value.int.inj (Option.some.inj h)⟩
  · simp [Term.eval, ev, ha, hl] at h
theorem own_elem {a : Addr} {cl : Cell} {ty : FieldType} {k : Int32} {v : Value} (ev : t.eval args s none [] s = some (.ref a)) (A : Arr s s.heap a cl ty) (h : (Term.elem t (.int k)).eval args s none [] s = some v) : cl.slots[k.toNatClampNeg]? = some v := (elem_in h ev (Term.int_eval k) A.1).2
end OwnWords2
def OwnWd (Z : State) (h0 : Heap) (ad : Nat → Addr) (a_VALUES : Addr) (k_VALUES : ClassId) : Prop := Sta Z h0 "com/example/libsnippet/libsnippet/WordBreak" "OTHER" "Lcom/example/libsnippet/libsnippet/WordBreak;" (.ref (ad 0)) ∧ Exa Z h0 (ad 0) "com/example/libsnippet/libsnippet/WordBreak" ∧ Fld Z h0 (ad 0) "java/lang/Enum" "ordinal" "I" (.int (0 : Int32)) ∧ Sta Z h0 "com/example/libsnippet/libsnippet/WordBreak" "EXTEND" "Lcom/example/libsnippet/libsnippet/WordBreak;" (.ref (ad 1)) ∧ Exa Z h0 (ad 1) "com/example/libsnippet/libsnippet/WordBreak" ∧ Fld Z h0 (ad 1) "java/lang/Enum" "ordinal" "I" (.int (4 : Int32)) ∧ Sta Z h0 "com/example/libsnippet/libsnippet/WordBreak" "FORMAT" "Lcom/example/libsnippet/libsnippet/WordBreak;" (.ref (ad 2)) ∧ Exa Z h0 (ad 2) "com/example/libsnippet/libsnippet/WordBreak" ∧ Fld Z h0 (ad 2) "java/lang/Enum" "ordinal" "I" (.int (7 : Int32)) ∧ Sta Z h0 "com/example/libsnippet/libsnippet/WordBreak" "ZWJ" "Lcom/example/libsnippet/libsnippet/WordBreak;" (.ref (ad 3)) ∧ Exa Z h0 (ad 3) "com/example/libsnippet/libsnippet/WordBreak" ∧ Fld Z h0 (ad 3) "java/lang/Enum" "ordinal" "I" (.int (5 : Int32)) ∧ Sta Z h0 "com/example/libsnippet/libsnippet/WordBreak" "NEWLINE" "Lcom/example/libsnippet/libsnippet/WordBreak;" (.ref (ad 4)) ∧ Exa Z h0 (ad 4) "com/example/libsnippet/libsnippet/WordBreak" ∧ Fld Z h0 (ad 4) "java/lang/Enum" "ordinal" "I" (.int (3 : Int32)) ∧ Sta Z h0 "com/example/libsnippet/libsnippet/WordBreak" "MID_NUM" "Lcom/example/libsnippet/libsnippet/WordBreak;" (.ref (ad 5)) ∧ Exa Z h0 (ad 5) "com/example/libsnippet/libsnippet/WordBreak" ∧ Fld Z h0 (ad 5) "java/lang/Enum" "ordinal" "I" (.int (15 : Int32)) ∧ Sta Z h0 "com/example/libsnippet/libsnippet/WordBreak" "EXTEND_NUM_LET" "Lcom/example/libsnippet/libsnippet/WordBreak;" (.ref (ad 6)) ∧ Exa Z h0 (ad 6) "com/example/libsnippet/libsnippet/WordBreak" ∧ Fld Z h0 (ad 6) "java/lang/Enum" "ordinal" "I" (.int (17 : Int32)) ∧ Sta Z h0 "com/example/libsnippet/libsnippet/WordBreak" "LF" "Lcom/example/libsnippet/libsnippet/WordBreak;" (.ref (ad 7)) ∧ Exa Z h0 (ad 7) "com/example/libsnippet/libsnippet/WordBreak" ∧ Fld Z h0 (ad 7) "java/lang/Enum" "ordinal" "I" (.int (2 : Int32)) ∧ Sta Z h0 "com/example/libsnippet/libsnippet/WordBreak" "SINGLE_QUOTE" "Lcom/example/libsnippet/libsnippet/WordBreak;" (.ref (ad 8)) ∧ Exa Z h0 (ad 8) "com/example/libsnippet/libsnippet/WordBreak" ∧ Fld Z h0 (ad 8) "java/lang/Enum" "ordinal" "I" (.int (11 : Int32)) ∧ Sta Z h0 "com/example/libsnippet/libsnippet/WordBreak" "ALETTER" "Lcom/example/libsnippet/libsnippet/WordBreak;" (.ref (ad 9)) ∧ Exa Z h0 (ad 9) "com/example/libsnippet/libsnippet/WordBreak" ∧ Fld Z h0 (ad 9) "java/lang/Enum" "ordinal" "I" (.int (10 : Int32)) ∧ Sta Z h0 "com/example/libsnippet/libsnippet/WordBreak" "KATAKANA" "Lcom/example/libsnippet/libsnippet/WordBreak;" (.ref (ad 10)) ∧ Exa Z h0 (ad 10) "com/example/libsnippet/libsnippet/WordBreak" ∧ Fld Z h0 (ad 10) "java/lang/Enum" "ordinal" "I" (.int (8 : Int32)) ∧ Sta Z h0 "com/example/libsnippet/libsnippet/WordBreak" "CR" "Lcom/example/libsnippet/libsnippet/WordBreak;" (.ref (ad 11)) ∧ Exa Z h0 (ad 11) "com/example/libsnippet/libsnippet/WordBreak" ∧ Fld Z h0 (ad 11) "java/lang/Enum" "ordinal" "I" (.int (1 : Int32)) ∧ Sta Z h0 "com/example/libsnippet/libsnippet/WordBreak" "MID_LETTER" "Lcom/example/libsnippet/libsnippet/WordBreak;" (.ref (ad 12)) ∧ Exa Z h0 (ad 12) "com/example/libsnippet/libsnippet/WordBreak" ∧ Fld Z h0 (ad 12) "java/lang/Enum" "ordinal" "I" (.int (14 : Int32)) ∧ Sta Z h0 "com/example/libsnippet/libsnippet/WordBreak" "WSEG_SPACE" "Lcom/example/libsnippet/libsnippet/WordBreak;" (.ref (ad 13)) ∧ Exa Z h0 (ad 13) "com/example/libsnippet/libsnippet/WordBreak" ∧ Fld Z h0 (ad 13) "java/lang/Enum" "ordinal" "I" (.int (18 : Int32)) ∧ Sta Z h0 "com/example/libsnippet/libsnippet/WordBreak" "REGIONAL_INDICATOR" "Lcom/example/libsnippet/libsnippet/WordBreak;" (.ref (ad 14)) ∧ Exa Z h0 (ad 14) "com/example/libsnippet/libsnippet/WordBreak" ∧ Fld Z h0 (ad 14) "java/lang/Enum" "ordinal" "I" (.int (6 : Int32)) ∧ Sta Z h0 "com/example/libsnippet/libsnippet/WordBreak" "NUMERIC" "Lcom/example/libsnippet/libsnippet/WordBreak;" (.ref (ad 15)) ∧ Exa Z h0 (ad 15) "com/example/libsnippet/libsnippet/WordBreak" ∧ Fld Z h0 (ad 15) "java/lang/Enum" "ordinal" "I" (.int (16 : Int32)) ∧ Sta Z h0 "com/example/libsnippet/libsnippet/WordBreak" "HEBREW_LETTER" "Lcom/example/libsnippet/libsnippet/WordBreak;" (.ref (ad 16)) ∧ Exa Z h0 (ad 16) "com/example/libsnippet/libsnippet/WordBreak" ∧ Fld Z h0 (ad 16) "java/lang/Enum" "ordinal" "I" (.int (9 : Int32)) ∧ Sta Z h0 "com/example/libsnippet/libsnippet/WordBreak" "DOUBLE_QUOTE" "Lcom/example/libsnippet/libsnippet/WordBreak;" (.ref (ad 17)) ∧ Exa Z h0 (ad 17) "com/example/libsnippet/libsnippet/WordBreak" ∧ Fld Z h0 (ad 17) "java/lang/Enum" "ordinal" "I" (.int (12 : Int32)) ∧ Sta Z h0 "com/example/libsnippet/libsnippet/WordBreak" "MID_NUM_LET" "Lcom/example/libsnippet/libsnippet/WordBreak;" (.ref (ad 18)) ∧ Exa Z h0 (ad 18) "com/example/libsnippet/libsnippet/WordBreak" ∧ Fld Z h0 (ad 18) "java/lang/Enum" "ordinal" "I" (.int (13 : Int32)) ∧ Sta Z h0 "com/example/libsnippet/libsnippet/WordBreak" "VALUES" "[Lcom/example/libsnippet/libsnippet/WordBreak;" (.ref a_VALUES) ∧ Arv Z h0 a_VALUES k_VALUES (.object "com/example/libsnippet/libsnippet/WordBreak") (19 : Int32) [(.ref (ad 0)), (.ref (ad 11)), (.ref (ad 7)), (.ref (ad 4)), (.ref (ad 1)), (.ref (ad 3)), (.ref (ad 14)), (.ref (ad 2)), (.ref (ad 10)), (.ref (ad 16)), (.ref (ad 9)), (.ref (ad 8)), (.ref (ad 17)), (.ref (ad 18)), (.ref (ad 12)), (.ref (ad 5)), (.ref (ad 15)), (.ref (ad 6)), (.ref (ad 13))] .null
theorem own_S_OTHER {Z : State} {h0 : Heap} {ad : Nat → Addr} {a_VALUES : Addr} {k_VALUES : ClassId} (W : OwnWd Z h0 ad a_VALUES k_VALUES) : Sta Z h0 "com/example/libsnippet/libsnippet/WordBreak" "OTHER" "Lcom/example/libsnippet/libsnippet/WordBreak;" (.ref (ad 0)) := W.1
theorem own_E_OTHER {Z : State} {h0 : Heap} {ad : Nat → Addr} {a_VALUES : Addr} {k_VALUES : ClassId} (W : OwnWd Z h0 ad a_VALUES k_VALUES) : Exa Z h0 (ad 0) "com/example/libsnippet/libsnippet/WordBreak" := W.2.1
theorem own_F_OTHER_ordinal {Z : State} {h0 : Heap} {ad : Nat → Addr} {a_VALUES : Addr} {k_VALUES : ClassId} (W : OwnWd Z h0 ad a_VALUES k_VALUES) : Fld Z h0 (ad 0) "java/lang/Enum" "ordinal" "I" (.int (0 : Int32)) := W.2.2.1
theorem own_S_EXTEND {Z : State} {h0 : Heap} {ad : Nat → Addr} {a_VALUES : Addr} {k_VALUES : ClassId} (W : OwnWd Z h0 ad a_VALUES k_VALUES) : Sta Z h0 "com/example/libsnippet/libsnippet/WordBreak" "EXTEND" "Lcom/example/libsnippet/libsnippet/WordBreak;" (.ref (ad 1)) := W.2.2.2.1
theorem own_E_EXTEND {Z : State} {h0 : Heap} {ad : Nat → Addr} {a_VALUES : Addr} {k_VALUES : ClassId} (W : OwnWd Z h0 ad a_VALUES k_VALUES) : Exa Z h0 (ad 1) "com/example/libsnippet/libsnippet/WordBreak" := W.2.2.2.2.1
theorem own_F_EXTEND_ordinal {Z : State} {h0 : Heap} {ad : Nat → Addr} {a_VALUES : Addr} {k_VALUES : ClassId} (W : OwnWd Z h0 ad a_VALUES k_VALUES) : Fld Z h0 (ad 1) "java/lang/Enum" "ordinal" "I" (.int (4 : Int32)) := W.2.2.2.2.2.1
theorem own_S_FORMAT {Z : State} {h0 : Heap} {ad : Nat → Addr} {a_VALUES : Addr} {k_VALUES : ClassId} (W : OwnWd Z h0 ad a_VALUES k_VALUES) : Sta Z h0 "com/example/libsnippet/libsnippet/WordBreak" "FORMAT" "Lcom/example/libsnippet/libsnippet/WordBreak;" (.ref (ad 2)) := W.2.2.2.2.2.2.1
theorem own_E_FORMAT {Z : State} {h0 : Heap} {ad : Nat → Addr} {a_VALUES : Addr} {k_VALUES : ClassId} (W : OwnWd Z h0 ad a_VALUES k_VALUES) : Exa Z h0 (ad 2) "com/example/libsnippet/libsnippet/WordBreak" := W.2.2.2.2.2.2.2.1
theorem own_F_FORMAT_ordinal {Z : State} {h0 : Heap} {ad : Nat → Addr} {a_VALUES : Addr} {k_VALUES : ClassId} (W : OwnWd Z h0 ad a_VALUES k_VALUES) : Fld Z h0 (ad 2) "java/lang/Enum" "ordinal" "I" (.int (7 : Int32)) := W.2.2.2.2.2.2.2.2.1
theorem own_S_ZWJ {Z : State} {h0 : Heap} {ad : Nat → Addr} {a_VALUES : Addr} {k_VALUES : ClassId} (W : OwnWd Z h0 ad a_VALUES k_VALUES) : Sta Z h0 "com/example/libsnippet/libsnippet/WordBreak" "ZWJ" "Lcom/example/libsnippet/libsnippet/WordBreak;" (.ref (ad 3)) := W.2.2.2.2.2.2.2.2.2.1
theorem own_E_ZWJ {Z : State} {h0 : Heap} {ad : Nat → Addr} {a_VALUES : Addr} {k_VALUES : ClassId} (W : OwnWd Z h0 ad a_VALUES k_VALUES) : Exa Z h0 (ad 3) "com/example/libsnippet/libsnippet/WordBreak" := W.2.2.2.2.2.2.2.2.2.2.1
theorem own_F_ZWJ_ordinal {Z : State} {h0 : Heap} {ad : Nat → Addr} {a_VALUES : Addr} {k_VALUES : ClassId} (W : OwnWd Z h0 ad a_VALUES k_VALUES) : Fld Z h0 (ad 3) "java/lang/Enum" "ordinal" "I" (.int (5 : Int32)) := W.2.2.2.2.2.2.2.2.2.2.2.1
theorem own_S_NEWLINE {Z : State} {h0 : Heap} {ad : Nat → Addr} {a_VALUES : Addr} {k_VALUES : ClassId} (W : OwnWd Z h0 ad a_VALUES k_VALUES) : Sta Z h0 "com/example/libsnippet/libsnippet/WordBreak" "NEWLINE" "Lcom/example/libsnippet/libsnippet/WordBreak;" (.ref (ad 4)) := W.2.2.2.2.2.2.2.2.2.2.2.2.1
theorem own_E_NEWLINE {Z : State} {h0 : Heap} {ad : Nat → Addr} {a_VALUES : Addr} {k_VALUES : ClassId} (W : OwnWd Z h0 ad a_VALUES k_VALUES) : Exa Z h0 (ad 4) "com/example/libsnippet/libsnippet/WordBreak" := W.2.2.2.2.2.2.2.2.2.2.2.2.2.1
theorem own_F_NEWLINE_ordinal {Z : State} {h0 : Heap} {ad : Nat → Addr} {a_VALUES : Addr} {k_VALUES : ClassId} (W : OwnWd Z h0 ad a_VALUES k_VALUES) : Fld Z h0 (ad 4) "java/lang/Enum" "ordinal" "I" (.int (3 : Int32)) := W.2.2.2.2.2.2.2.2.2.2.2.2.2.2.1
theorem own_S_MID_NUM {Z : State} {h0 : Heap} {ad : Nat → Addr} {a_VALUES : Addr} {k_VALUES : ClassId} (W : OwnWd Z h0 ad a_VALUES k_VALUES) : Sta Z h0 "com/example/libsnippet/libsnippet/WordBreak" "MID_NUM" "Lcom/example/libsnippet/libsnippet/WordBreak;" (.ref (ad 5)) := W.2.2.2.2.2.2.2.2.2.2.2.2.2.2.2.1
theorem own_E_MID_NUM {Z : State} {h0 : Heap} {ad : Nat → Addr} {a_VALUES : Addr} {k_VALUES : ClassId} (W : OwnWd Z h0 ad a_VALUES k_VALUES) : Exa Z h0 (ad 5) "com/example/libsnippet/libsnippet/WordBreak" := W.2.2.2.2.2.2.2.2.2.2.2.2.2.2.2.2.1
theorem own_F_MID_NUM_ordinal {Z : State} {h0 : Heap} {ad : Nat → Addr} {a_VALUES : Addr} {k_VALUES : ClassId} (W : OwnWd Z h0 ad a_VALUES k_VALUES) : Fld Z h0 (ad 5) "java/lang/Enum" "ordinal" "I" (.int (15 : Int32)) := W.2.2.2.2.2.2.2.2.2.2.2.2.2.2.2.2.2.1
theorem own_S_EXTEND_NUM_LET {Z : State} {h0 : Heap} {ad : Nat → Addr} {a_VALUES : Addr} {k_VALUES : ClassId} (W : OwnWd Z h0 ad a_VALUES k_VALUES) : Sta Z h0 "com/example/libsnippet/libsnippet/WordBreak" "EXTEND_NUM_LET" "Lcom/example/libsnippet/libsnippet/WordBreak;" (.ref (ad 6)) := W.2.2.2.2.2.2.2.2.2.2.2.2.2.2.2.2.2.2.1
theorem own_E_EXTEND_NUM_LET {Z : State} {h0 : Heap} {ad : Nat → Addr} {a_VALUES : Addr} {k_VALUES : ClassId} (W : OwnWd Z h0 ad a_VALUES k_VALUES) : Exa Z h0 (ad 6) "com/example/libsnippet/libsnippet/WordBreak" := W.2.2.2.2.2.2.2.2.2.2.2.2.2.2.2.2.2.2.2.1
theorem own_F_EXTEND_NUM_LET_ordinal {Z : State} {h0 : Heap} {ad : Nat → Addr} {a_VALUES : Addr} {k_VALUES : ClassId} (W : OwnWd Z h0 ad a_VALUES k_VALUES) : Fld Z h0 (ad 6) "java/lang/Enum" "ordinal" "I" (.int (17 : Int32)) := W.2.2.2.2.2.2.2.2.2.2.2.2.2.2.2.2.2.2.2.2.1
theorem own_S_LF {Z : State} {h0 : Heap} {ad : Nat → Addr} {a_VALUES : Addr} {k_VALUES : ClassId} (W : OwnWd Z h0 ad a_VALUES k_VALUES) : Sta Z h0 "com/example/libsnippet/libsnippet/WordBreak" "LF" "Lcom/example/libsnippet/libsnippet/WordBreak;" (.ref (ad 7)) := W.2.2.2.2.2.2.2.2.2.2.2.2.2.2.2.2.2.2.2.2.2.1
theorem own_E_LF {Z : State} {h0 : Heap} {ad : Nat → Addr} {a_VALUES : Addr} {k_VALUES : ClassId} (W : OwnWd Z h0 ad a_VALUES k_VALUES) : Exa Z h0 (ad 7) "com/example/libsnippet/libsnippet/WordBreak" := W.2.2.2.2.2.2.2.2.2.2.2.2.2.2.2.2.2.2.2.2.2.2.1
theorem own_F_LF_ordinal {Z : State} {h0 : Heap} {ad : Nat → Addr} {a_VALUES : Addr} {k_VALUES : ClassId} (W : OwnWd Z h0 ad a_VALUES k_VALUES) : Fld Z h0 (ad 7) "java/lang/Enum" "ordinal" "I" (.int (2 : Int32)) := W.2.2.2.2.2.2.2.2.2.2.2.2.2.2.2.2.2.2.2.2.2.2.2.1
theorem own_S_SINGLE_QUOTE {Z : State} {h0 : Heap} {ad : Nat → Addr} {a_VALUES : Addr} {k_VALUES : ClassId} (W : OwnWd Z h0 ad a_VALUES k_VALUES) : Sta Z h0 "com/example/libsnippet/libsnippet/WordBreak" "SINGLE_QUOTE" "Lcom/example/libsnippet/libsnippet/WordBreak;" (.ref (ad 8)) := W.2.2.2.2.2.2.2.2.2.2.2.2.2.2.2.2.2.2.2.2.2.2.2.2.1
theorem own_E_SINGLE_QUOTE {Z : State} {h0 : Heap} {ad : Nat → Addr} {a_VALUES : Addr} {k_VALUES : ClassId} (W : OwnWd Z h0 ad a_VALUES k_VALUES) : Exa Z h0 (ad 8) "com/example/libsnippet/libsnippet/WordBreak" := W.2.2.2.2.2.2.2.2.2.2.2.2.2.2.2.2.2.2.2.2.2.2.2.2.2.1
theorem own_F_SINGLE_QUOTE_ordinal {Z : State} {h0 : Heap} {ad : Nat → Addr} {a_VALUES : Addr} {k_VALUES : ClassId} (W : OwnWd Z h0 ad a_VALUES k_VALUES) : Fld Z h0 (ad 8) "java/lang/Enum" "ordinal" "I" (.int (11 : Int32)) := W.2.2.2.2.2.2.2.2.2.2.2.2.2.2.2.2.2.2.2.2.2.2.2.2.2.2.1
theorem own_S_ALETTER {Z : State} {h0 : Heap} {ad : Nat → Addr} {a_VALUES : Addr} {k_VALUES : ClassId} (W : OwnWd Z h0 ad a_VALUES k_VALUES) : Sta Z h0 "com/example/libsnippet/libsnippet/WordBreak" "ALETTER" "Lcom/example/libsnippet/libsnippet/WordBreak;" (.ref (ad 9)) := W.2.2.2.2.2.2.2.2.2.2.2.2.2.2.2.2.2.2.2.2.2.2.2.2.2.2.2.1
theorem own_E_ALETTER {Z : State} {h0 : Heap} {ad : Nat → Addr} {a_VALUES : Addr} {k_VALUES : ClassId} (W : OwnWd Z h0 ad a_VALUES k_VALUES) : Exa Z h0 (ad 9) "com/example/libsnippet/libsnippet/WordBreak" := W.2.2.2.2.2.2.2.2.2.2.2.2.2.2.2.2.2.2.2.2.2.2.2.2.2.2.2.2.1
theorem own_F_ALETTER_ordinal {Z : State} {h0 : Heap} {ad : Nat → Addr} {a_VALUES : Addr} {k_VALUES : ClassId} (W : OwnWd Z h0 ad a_VALUES k_VALUES) : Fld Z h0 (ad 9) "java/lang/Enum" "ordinal" "I" (.int (10 : Int32)) := W.2.2.2.2.2.2.2.2.2.2.2.2.2.2.2.2.2.2.2.2.2.2.2.2.2.2.2.2.2.1
theorem own_S_KATAKANA {Z : State} {h0 : Heap} {ad : Nat → Addr} {a_VALUES : Addr} {k_VALUES : ClassId} (W : OwnWd Z h0 ad a_VALUES k_VALUES) : Sta Z h0 "com/example/libsnippet/libsnippet/WordBreak" "KATAKANA" "Lcom/example/libsnippet/libsnippet/WordBreak;" (.ref (ad 10)) := W.2.2.2.2.2.2.2.2.2.2.2.2.2.2.2.2.2.2.2.2.2.2.2.2.2.2.2.2.2.2.1
theorem own_E_KATAKANA {Z : State} {h0 : Heap} {ad : Nat → Addr} {a_VALUES : Addr} {k_VALUES : ClassId} (W : OwnWd Z h0 ad a_VALUES k_VALUES) : Exa Z h0 (ad 10) "com/example/libsnippet/libsnippet/WordBreak" := W.2.2.2.2.2.2.2.2.2.2.2.2.2.2.2.2.2.2.2.2.2.2.2.2.2.2.2.2.2.2.2.1
theorem own_F_KATAKANA_ordinal {Z : State} {h0 : Heap} {ad : Nat → Addr} {a_VALUES : Addr} {k_VALUES : ClassId} (W : OwnWd Z h0 ad a_VALUES k_VALUES) : Fld Z h0 (ad 10) "java/lang/Enum" "ordinal" "I" (.int (8 : Int32)) := W.2.2.2.2.2.2.2.2.2.2.2.2.2.2.2.2.2.2.2.2.2.2.2.2.2.2.2.2.2.2.2.2.1
theorem own_S_CR {Z : State} {h0 : Heap} {ad : Nat → Addr} {a_VALUES : Addr} {k_VALUES : ClassId} (W : OwnWd Z h0 ad a_VALUES k_VALUES) : Sta Z h0 "com/example/libsnippet/libsnippet/WordBreak" "CR" "Lcom/example/libsnippet/libsnippet/WordBreak;" (.ref (ad 11)) := W.2.2.2.2.2.2.2.2.2.2.2.2.2.2.2.2.2.2.2.2.2.2.2.2.2.2.2.2.2.2.2.2.2.1
theorem own_E_CR {Z : State} {h0 : Heap} {ad : Nat → Addr} {a_VALUES : Addr} {k_VALUES : ClassId} (W : OwnWd Z h0 ad a_VALUES k_VALUES) : Exa Z h0 (ad 11) "com/example/libsnippet/libsnippet/WordBreak" := W.2.2.2.2.2.2.2.2.2.2.2.2.2.2.2.2.2.2.2.2.2.2.2.2.2.2.2.2.2.2.2.2.2.2.1
theorem own_F_CR_ordinal {Z : State} {h0 : Heap} {ad : Nat → Addr} {a_VALUES : Addr} {k_VALUES : ClassId} (W : OwnWd Z h0 ad a_VALUES k_VALUES) : Fld Z h0 (ad 11) "java/lang/Enum" "ordinal" "I" (.int (1 : Int32)) := W.2.2.2.2.2.2.2.2.2.2.2.2.2.2.2.2.2.2.2.2.2.2.2.2.2.2.2.2.2.2.2.2.2.2.2.1
theorem own_S_MID_LETTER {Z : State} {h0 : Heap} {ad : Nat → Addr} {a_VALUES : Addr} {k_VALUES : ClassId} (W : OwnWd Z h0 ad a_VALUES k_VALUES) : Sta Z h0 "com/example/libsnippet/libsnippet/WordBreak" "MID_LETTER" "Lcom/example/libsnippet/libsnippet/WordBreak;" (.ref (ad 12)) := W.2.2.2.2.2.2.2.2.2.2.2.2.2.2.2.2.2.2.2.2.2.2.2.2.2.2.2.2.2.2.2.2.2.2.2.2.1
theorem own_E_MID_LETTER {Z : State} {h0 : Heap} {ad : Nat → Addr} {a_VALUES : Addr} {k_VALUES : ClassId} (W : OwnWd Z h0 ad a_VALUES k_VALUES) : Exa Z h0 (ad 12) "com/example/libsnippet/libsnippet/WordBreak" := W.2.2.2.2.2.2.2.2.2.2.2.2.2.2.2.2.2.2.2.2.2.2.2.2.2.2.2.2.2.2.2.2.2.2.2.2.2.1
theorem own_F_MID_LETTER_ordinal {Z : State} {h0 : Heap} {ad : Nat → Addr} {a_VALUES : Addr} {k_VALUES : ClassId} (W : OwnWd Z h0 ad a_VALUES k_VALUES) : Fld Z h0 (ad 12) "java/lang/Enum" "ordinal" "I" (.int (14 : Int32)) := W.2.2.2.2.2.2.2.2.2.2.2.2.2.2.2.2.2.2.2.2.2.2.2.2.2.2.2.2.2.2.2.2.2.2.2.2.2.2.1
theorem own_S_WSEG_SPACE {Z : State} {h0 : Heap} {ad : Nat → Addr} {a_VALUES : Addr} {k_VALUES : ClassId} (W : OwnWd Z h0 ad a_VALUES k_VALUES) : Sta Z h0 "com/example/libsnippet/libsnippet/WordBreak" "WSEG_SPACE" "Lcom/example/libsnippet/libsnippet/WordBreak;" (.ref (ad 13)) := W.2.2.2.2.2.2.2.2.2.2.2.2.2.2.2.2.2.2.2.2.2.2.2.2.2.2.2.2.2.2.2.2.2.2.2.2.2.2.2.1
theorem own_E_WSEG_SPACE {Z : State} {h0 : Heap} {ad : Nat → Addr} {a_VALUES : Addr} {k_VALUES : ClassId} (W : OwnWd Z h0 ad a_VALUES k_VALUES) : Exa Z h0 (ad 13) "com/example/libsnippet/libsnippet/WordBreak" := W.2.2.2.2.2.2.2.2.2.2.2.2.2.2.2.2.2.2.2.2.2.2.2.2.2.2.2.2.2.2.2.2.2.2.2.2.2.2.2.2.1
theorem own_F_WSEG_SPACE_ordinal {Z : State} {h0 : Heap} {ad : Nat → Addr} {a_VALUES : Addr} {k_VALUES : ClassId} (W : OwnWd Z h0 ad a_VALUES k_VALUES) : Fld Z h0 (ad 13) "java/lang/Enum" "ordinal" "I" (.int (18 : Int32)) := W.2.2.2.2.2.2.2.2.2.2.2.2.2.2.2.2.2.2.2.2.2.2.2.2.2.2.2.2.2.2.2.2.2.2.2.2.2.2.2.2.2.1
theorem own_S_REGIONAL_INDICATOR {Z : State} {h0 : Heap} {ad : Nat → Addr} {a_VALUES : Addr} {k_VALUES : ClassId} (W : OwnWd Z h0 ad a_VALUES k_VALUES) : Sta Z h0 "com/example/libsnippet/libsnippet/WordBreak" "REGIONAL_INDICATOR" "Lcom/example/libsnippet/libsnippet/WordBreak;" (.ref (ad 14)) := W.2.2.2.2.2.2.2.2.2.2.2.2.2.2.2.2.2.2.2.2.2.2.2.2.2.2.2.2.2.2.2.2.2.2.2.2.2.2.2.2.2.2.1
theorem own_E_REGIONAL_INDICATOR {Z : State} {h0 : Heap} {ad : Nat → Addr} {a_VALUES : Addr} {k_VALUES : ClassId} (W : OwnWd Z h0 ad a_VALUES k_VALUES) : Exa Z h0 (ad 14) "com/example/libsnippet/libsnippet/WordBreak" := W.2.2.2.2.2.2.2.2.2.2.2.2.2.2.2.2.2.2.2.2.2.2.2.2.2.2.2.2.2.2.2.2.2.2.2.2.2.2.2.2.2.2.2.1
theorem own_F_REGIONAL_INDICATOR_ordinal {Z : State} {h0 : Heap} {ad : Nat → Addr} {a_VALUES : Addr} {k_VALUES : ClassId} (W : OwnWd Z h0 ad a_VALUES k_VALUES) : Fld Z h0 (ad 14) "java/lang/Enum" "ordinal" "I" (.int (6 : Int32)) := W.2.2.2.2.2.2.2.2.2.2.2.2.2.2.2.2.2.2.2.2.2.2.2.2.2.2.2.2.2.2.2.2.2.2.2.2.2.2.2.2.2.2.2.2.1
theorem own_S_NUMERIC {Z : State} {h0 : Heap} {ad : Nat → Addr} {a_VALUES : Addr} {k_VALUES : ClassId} (W : OwnWd Z h0 ad a_VALUES k_VALUES) : Sta Z h0 "com/example/libsnippet/libsnippet/WordBreak" "NUMERIC" "Lcom/example/libsnippet/libsnippet/WordBreak;" (.ref (ad 15)) := W.2.2.2.2.2.2.2.2.2.2.2.2.2.2.2.2.2.2.2.2.2.2.2.2.2.2.2.2.2.2.2.2.2.2.2.2.2.2.2.2.2.2.2.2.2.1
theorem own_E_NUMERIC {Z : State} {h0 : Heap} {ad : Nat → Addr} {a_VALUES : Addr} {k_VALUES : ClassId} (W : OwnWd Z h0 ad a_VALUES k_VALUES) : Exa Z h0 (ad 15) "com/example/libsnippet/libsnippet/WordBreak" := W.2.2.2.2.2.2.2.2.2.2.2.2.2.2.2.2.2.2.2.2.2.2.2.2.2.2.2.2.2.2.2.2.2.2.2.2.2.2.2.2.2.2.2.2.2.2.1
theorem own_F_NUMERIC_ordinal {Z : State} {h0 : Heap} {ad : Nat → Addr} {a_VALUES : Addr} {k_VALUES : ClassId} (W : OwnWd Z h0 ad a_VALUES k_VALUES) : Fld Z h0 (ad 15) "java/lang/Enum" "ordinal" "I" (.int (16 : Int32)) := W.2.2.2.2.2.2.2.2.2.2.2.2.2.2.2.2.2.2.2.2.2.2.2.2.2.2.2.2.2.2.2.2.2.2.2.2.2.2.2.2.2.2.2.2.2.2.2.1
theorem own_S_HEBREW_LETTER {Z : State} {h0 : Heap} {ad : Nat → Addr} {a_VALUES : Addr} {k_VALUES : ClassId} (W : OwnWd Z h0 ad a_VALUES k_VALUES) : Sta Z h0 "com/example/libsnippet/libsnippet/WordBreak" "HEBREW_LETTER" "Lcom/example/libsnippet/libsnippet/WordBreak;" (.ref (ad 16)) := W.2.2.2.2.2.2.2.2.2.2.2.2.2.2.2.2.2.2.2.2.2.2.2.2.2.2.2.2.2.2.2.2.2.2.2.2.2.2.2.2.2.2.2.2.2.2.2.2.1
theorem own_E_HEBREW_LETTER {Z : State} {h0 : Heap} {ad : Nat → Addr} {a_VALUES : Addr} {k_VALUES : ClassId} (W : OwnWd Z h0 ad a_VALUES k_VALUES) : Exa Z h0 (ad 16) "com/example/libsnippet/libsnippet/WordBreak" := W.2.2.2.2.2.2.2.2.2.2.2.2.2.2.2.2.2.2.2.2.2.2.2.2.2.2.2.2.2.2.2.2.2.2.2.2.2.2.2.2.2.2.2.2.2.2.2.2.2.1
theorem own_F_HEBREW_LETTER_ordinal {Z : State} {h0 : Heap} {ad : Nat → Addr} {a_VALUES : Addr} {k_VALUES : ClassId} (W : OwnWd Z h0 ad a_VALUES k_VALUES) : Fld Z h0 (ad 16) "java/lang/Enum" "ordinal" "I" (.int (9 : Int32)) := W.2.2.2.2.2.2.2.2.2.2.2.2.2.2.2.2.2.2.2.2.2.2.2.2.2.2.2.2.2.2.2.2.2.2.2.2.2.2.2.2.2.2.2.2.2.2.2.2.2.2.1
theorem own_S_DOUBLE_QUOTE {Z : State} {h0 : Heap} {ad : Nat → Addr} {a_VALUES : Addr} {k_VALUES : ClassId} (W : OwnWd Z h0 ad a_VALUES k_VALUES) : Sta Z h0 "com/example/libsnippet/libsnippet/WordBreak" "DOUBLE_QUOTE" "Lcom/example/libsnippet/libsnippet/WordBreak;" (.ref (ad 17)) := W.2.2.2.2.2.2.2.2.2.2.2.2.2.2.2.2.2.2.2.2.2.2.2.2.2.2.2.2.2.2.2.2.2.2.2.2.2.2.2.2.2.2.2.2.2.2.2.2.2.2.2.1
theorem own_E_DOUBLE_QUOTE {Z : State} {h0 : Heap} {ad : Nat → Addr} {a_VALUES : Addr} {k_VALUES : ClassId} (W : OwnWd Z h0 ad a_VALUES k_VALUES) : Exa Z h0 (ad 17) "com/example/libsnippet/libsnippet/WordBreak" := W.2.2.2.2.2.2.2.2.2.2.2.2.2.2.2.2.2.2.2.2.2.2.2.2.2.2.2.2.2.2.2.2.2.2.2.2.2.2.2.2.2.2.2.2.2.2.2.2.2.2.2.2.1
theorem own_F_DOUBLE_QUOTE_ordinal {Z : State} {h0 : Heap} {ad : Nat → Addr} {a_VALUES : Addr} {k_VALUES : ClassId} (W : OwnWd Z h0 ad a_VALUES k_VALUES) : Fld Z h0 (ad 17) "java/lang/Enum" "ordinal" "I" (.int (12 : Int32)) := W.2.2.2.2.2.2.2.2.2.2.2.2.2.2.2.2.2.2.2.2.2.2.2.2.2.2.2.2.2.2.2.2.2.2.2.2.2.2.2.2.2.2.2.2.2.2.2.2.2.2.2.2.2.1
theorem own_S_MID_NUM_LET {Z : State} {h0 : Heap} {ad : Nat → Addr} {a_VALUES : Addr} {k_VALUES : ClassId} (W : OwnWd Z h0 ad a_VALUES k_VALUES) : Sta Z h0 "com/example/libsnippet/libsnippet/WordBreak" "MID_NUM_LET" "Lcom/example/libsnippet/libsnippet/WordBreak;" (.ref (ad 18)) := W.2.2.2.2.2.2.2.2.2.2.2.2.2.2.2.2.2.2.2.2.2.2.2.2.2.2.2.2.2.2.2.2.2.2.2.2.2.2.2.2.2.2.2.2.2.2.2.2.2.2.2.2.2.2.1
theorem own_E_MID_NUM_LET {Z : State} {h0 : Heap} {ad : Nat → Addr} {a_VALUES : Addr} {k_VALUES : ClassId} (W : OwnWd Z h0 ad a_VALUES k_VALUES) : Exa Z h0 (ad 18) "com/example/libsnippet/libsnippet/WordBreak" := W.2.2.2.2.2.2.2.2.2.2.2.2.2.2.2.2.2.2.2.2.2.2.2.2.2.2.2.2.2.2.2.2.2.2.2.2.2.2.2.2.2.2.2.2.2.2.2.2.2.2.2.2.2.2.2.1
theorem own_F_MID_NUM_LET_ordinal {Z : State} {h0 : Heap} {ad : Nat → Addr} {a_VALUES : Addr} {k_VALUES : ClassId} (W : OwnWd Z h0 ad a_VALUES k_VALUES) : Fld Z h0 (ad 18) "java/lang/Enum" "ordinal" "I" (.int (13 : Int32)) := W.2.2.2.2.2.2.2.2.2.2.2.2.2.2.2.2.2.2.2.2.2.2.2.2.2.2.2.2.2.2.2.2.2.2.2.2.2.2.2.2.2.2.2.2.2.2.2.2.2.2.2.2.2.2.2.2.1
theorem own_S_VALUES {Z : State} {h0 : Heap} {ad : Nat → Addr} {a_VALUES : Addr} {k_VALUES : ClassId} (W : OwnWd Z h0 ad a_VALUES k_VALUES) : Sta Z h0 "com/example/libsnippet/libsnippet/WordBreak" "VALUES" "[Lcom/example/libsnippet/libsnippet/WordBreak;" (.ref a_VALUES) := W.2.2.2.2.2.2.2.2.2.2.2.2.2.2.2.2.2.2.2.2.2.2.2.2.2.2.2.2.2.2.2.2.2.2.2.2.2.2.2.2.2.2.2.2.2.2.2.2.2.2.2.2.2.2.2.2.2.1
theorem own_V_VALUES {Z : State} {h0 : Heap} {ad : Nat → Addr} {a_VALUES : Addr} {k_VALUES : ClassId} (W : OwnWd Z h0 ad a_VALUES k_VALUES) : Arv Z h0 a_VALUES k_VALUES (.object "com/example/libsnippet/libsnippet/WordBreak") (19 : Int32) [(.ref (ad 0)), (.ref (ad 11)), (.ref (ad 7)), (.ref (ad 4)), (.ref (ad 1)), (.ref (ad 3)), (.ref (ad 14)), (.ref (ad 2)), (.ref (ad 10)), (.ref (ad 16)), (.ref (ad 9)), (.ref (ad 8)), (.ref (ad 17)), (.ref (ad 18)), (.ref (ad 12)), (.ref (ad 5)), (.ref (ad 15)), (.ref (ad 6)), (.ref (ad 13))] .null := W.2.2.2.2.2.2.2.2.2.2.2.2.2.2.2.2.2.2.2.2.2.2.2.2.2.2.2.2.2.2.2.2.2.2.2.2.2.2.2.2.2.2.2.2.2.2.2.2.2.2.2.2.2.2.2.2.2.2
theorem own_Wd_ext {Z : State} {h0 : Heap} {ad : Nat → Addr} {a_VALUES : Addr} {k_VALUES : ClassId} {h' : Heap} (W : OwnWd Z h0 ad a_VALUES k_VALUES) (E : Ext h0 h') : OwnWd Z h' ad a_VALUES k_VALUES := ⟨(own_S_OTHER W).ext E, (own_E_OTHER W).ext E, (own_F_OTHER_ordinal W).ext E, (own_S_EXTEND W).ext E, (own_E_EXTEND W).ext E, (own_F_EXTEND_ordinal W).ext E, (own_S_FORMAT W).ext E, (own_E_FORMAT W).ext E, (own_F_FORMAT_ordinal W).ext E, (own_S_ZWJ W).ext E, (own_E_ZWJ W).ext E, (own_F_ZWJ_ordinal W).ext E, (own_S_NEWLINE W).ext E, (own_E_NEWLINE W).ext E, (own_F_NEWLINE_ordinal W).ext E, (own_S_MID_NUM W).ext E, (own_E_MID_NUM W).ext E, (own_F_MID_NUM_ordinal W).ext E, (own_S_EXTEND_NUM_LET W).ext E, (own_E_EXTEND_NUM_LET W).ext E, (own_F_EXTEND_NUM_LET_ordinal W).ext E, (own_S_LF W).ext E, (own_E_LF W).ext E, (own_F_LF_ordinal W).ext E, (own_S_SINGLE_QUOTE W).ext E, (own_E_SINGLE_QUOTE W).ext E, (own_F_SINGLE_QUOTE_ordinal W).ext E, (own_S_ALETTER W).ext E, (own_E_ALETTER W).ext E, (own_F_ALETTER_ordinal W).ext E, (own_S_KATAKANA W).ext E, (own_E_KATAKANA W).ext E, (own_F_KATAKANA_ordinal W).ext E, (own_S_CR W).ext E, (own_E_CR W).ext E, (own_F_CR_ordinal W).ext E, (own_S_MID_LETTER W).ext E, (own_E_MID_LETTER W).ext E, (own_F_MID_LETTER_ordinal W).ext E, (own_S_WSEG_SPACE W).ext E, (own_E_WSEG_SPACE W).ext E, (own_F_WSEG_SPACE_ordinal W).ext E, (own_S_REGIONAL_INDICATOR W).ext E, (own_E_REGIONAL_INDICATOR W).ext E, (own_F_REGIONAL_INDICATOR_ordinal W).ext E, (own_S_NUMERIC W).ext E, (own_E_NUMERIC W).ext E, (own_F_NUMERIC_ordinal W).ext E, (own_S_HEBREW_LETTER W).ext E, (own_E_HEBREW_LETTER W).ext E, (own_F_HEBREW_LETTER_ordinal W).ext E, (own_S_DOUBLE_QUOTE W).ext E, (own_E_DOUBLE_QUOTE W).ext E, (own_F_DOUBLE_QUOTE_ordinal W).ext E, (own_S_MID_NUM_LET W).ext E, (own_E_MID_NUM_LET W).ext E, (own_F_MID_NUM_LET_ordinal W).ext E, (own_S_VALUES W).ext E, (own_V_VALUES W).ext E⟩
theorem own_d_prog_11_method_5_code_0 : decode prog_11_method_5_code 0 = .ok (.getstatic 84, 3) := by decide +kernel
theorem own_d_prog_11_method_5_code_3 : decode prog_11_method_5_code 3 = .ok (.iload_n 0, 1) := by decide +kernel
theorem own_d_prog_11_method_5_code_4 : decode prog_11_method_5_code 4 = .ok (.aaload, 1) := by decide +kernel
theorem own_d_prog_11_method_5_code_5 : decode prog_11_method_5_code 5 = .ok (.areturn, 1) := by decide +kernel
theorem own_pn_com_example_libsnippet_libsnippet_WordBreak : plainName "com/example/libsnippet/libsnippet/WordBreak" = true := by first | (simp [plainName, overriddenIn]; done) | decide +kernel
theorem own_d_prog_11_method_7_code_0 : decode prog_11_method_7_code 0 = .ok (.aload_n 0, 1) := by decide +kernel
theorem own_d_prog_11_method_7_code_1 : decode prog_11_method_7_code 1 = .ok (.getstatic 16, 3) := by decide +kernel
theorem own_d_prog_11_method_7_code_4 : decode prog_11_method_7_code 4 = .ok (.if_acmp .eq 17, 3) := by decide +kernel
theorem own_d_prog_11_method_7_code_7 : decode prog_11_method_7_code 7 = .ok (.aload_n 0, 1) := by decide +kernel
theorem own_d_prog_11_method_7_code_8 : decode prog_11_method_7_code 8 = .ok (.getstatic 25, 3) := by decide +kernel
theorem own_d_prog_11_method_7_code_11 : decode prog_11_method_7_code 11 = .ok (.if_acmp .eq 10, 3) := by decide +kernel
theorem own_d_prog_11_method_7_code_14 : decode prog_11_method_7_code 14 = .ok (.aload_n 0, 1) := by decide +kernel
theorem own_d_prog_11_method_7_code_15 : decode prog_11_method_7_code 15 = .ok (.getstatic 19, 3) := by decide +kernel
theorem own_d_prog_11_method_7_code_18 : decode prog_11_method_7_code 18 = .ok (.if_acmp .ne 7, 3) := by decide +kernel
theorem own_d_prog_11_method_7_code_25 : decode prog_11_method_7_code 25 = .ok (.iconst 0, 1) := by decide +kernel
theorem own_d_prog_11_method_7_code_26 : decode prog_11_method_7_code 26 = .ok (.ireturn, 1) := by decide +kernel
theorem own_d_jdk_37_method_2_code_0 : decode jdk_37_method_2_code 0 = .ok (.aload_n 0, 1) := by decide +kernel
theorem own_d_jdk_37_method_2_code_1 : decode jdk_37_method_2_code 1 = .ok (.getfield 7, 3) := by decide +kernel
theorem own_d_jdk_37_method_2_code_4 : decode jdk_37_method_2_code 4 = .ok (.ireturn, 1) := by decide +kernel
theorem own_pn_java_lang_Enum : plainName "java/lang/Enum" = true := by first | (simp [plainName, overriddenIn]; done) | decide +kernel
theorem own_pd__I_Lcom_example_libsnippet_libsnippet_WordBreak_ : parseMethodDescriptor "(I)Lcom/example/libsnippet/libsnippet/WordBreak;" = some ⟨[.int], some (.object "com/example/libsnippet/libsnippet/WordBreak")⟩ := by decide +kernel
theorem own_pd___I : parseMethodDescriptor "()I" = some ⟨[], some .int⟩ := by decide +kernel
theorem own_pd___Z : parseMethodDescriptor "()Z" = some ⟨[], some .boolean⟩ := by decide +kernel
theorem own_pn_com_example_libsnippet_libsnippet_WordBreakIsIgnorablePinLaw : plainName "com/example/libsnippet/libsnippet/WordBreakIsIgnorablePinLaw" = true := by first | (simp [plainName, overriddenIn]; done) | decide +kernel
theorem own_d_prog_11_method_7_code_21 : decode prog_11_method_7_code 21 = .ok (.iconst 1, 1) := by decide +kernel
theorem own_d_prog_11_method_7_code_22 : decode prog_11_method_7_code 22 = .ok (.goto 4, 3) := by decide +kernel
theorem own_ef_own_pick_0 (m : MethodId) {x0 : Int32} : entryFrame m #[(.int x0)] 1 = mkF m 0 #[.val (.int x0)] [] := by first | (simp [entryFrame, mkF, argsToLocals, Value.category, maxLocals]; done) | rfl
set_option maxRecDepth 65536 in
set_option maxHeartbeats 40000000 in
theorem own_pick_0 (l : Launch) (Z : State) (a0 : Array Value) (hw : ∀ d ∈ tables_1, d.before a0 Z = true) (ws : List Jvm.Cond) (h0 : Heap) (n0 : Nat) (Z0 : n0 ≤ h0.size) (ad : Nat → Addr) (a_VALUES : Addr) (k_VALUES : ClassId) (W : OwnWd Z h0 ad a_VALUES k_VALUES) :
    MetFree l (⟨"com/example/libsnippet/libsnippet/WordBreak", "ofOrdinal", "(I)Lcom/example/libsnippet/libsnippet/WordBreak;"⟩ : MethodName) (head1 (Jvm.Cond.code (⟨"com/example/libsnippet/libsnippet/WordBreak", "ofOrdinal", "(I)Lcom/example/libsnippet/libsnippet/WordBreak;"⟩ : MethodName) prog_11_method_5_code 1 (some (.object "com/example/libsnippet/libsnippet/WordBreak")) :: ws) ({ frames := 0, cells := 0, slots := 0, locals := 0 } : Room)) (fun a U => a = #[(.int (0 : Int32))] ∧ Z.Warmed39 U.vm ∧ U.heap = h0) (fun _ _ _ _ _ => True) (fun _ U o U' => ∃ v L, o = .returned v ∧ QV (some (.ref (ad 0))) h0 n0 v U'.heap L ∧ FrameEnd U o U' L ({ frames := 0, cells := 0, slots := 0, locals := 0 } : Room).cells ({ frames := 0, cells := 0, slots := 0, locals := 0 } : Room).slots) := by
  refine MetFree.of_bodySF (plainFor_of_name own_pn_com_example_libsnippet_libsnippet_WordBreak) hisR ?_
  intro p e s m args below meth c s₁ Bd hml0 hP hK
  obtain ⟨rfl, hZ, hh⟩ := hP
  have hx := Bd.exec
  have hby := Bd.bytes
  have hml : c.maxLocals = 1 := hml0
  have hown : s.vm.findClass "com/example/libsnippet/libsnippet/WordBreak" = some m.cls := findClass_of_methodNamed Bd.named
  have hnm := (name_of_methodNamed Bd.named Bd.method).1
  have X0 : Stand p l e ({ frames := 0, cells := 0, slots := 0, locals := 0 } : Room) s m #[(.int (0 : Int32))] below meth c s₁ [] 0 0 := Stand.of_body Bd
  have e0 : s₁.heap = h0 := by rw [← hh, Bd.state]; rfl
  have N0 := Fr.nil n0
  have pre0 : ∀ t, Steps p.tables e below (s₁.setTop (mkF m 0 #[.val (.int (0 : Int32))] [])) t → Steps p.tables e below (s₁.setTop (entryFrame m #[(.int (0 : Int32))] 1)) t := fun t k => castTop (own_ef_own_pick_0 m) k
  obtain ⟨T1, X1, e1, st1⟩ := getS2 X0 hx hZ hown (host := "") (Or.inl (hw _ (List.mem_of_getElem? (i := 5) rfl))) Via.refl e0 (own_S_VALUES W) (g := (mkF m 0 #[.val (.int (0 : Int32))] [])) rfl (hb hby own_d_prog_11_method_5_code_0)
  have ch2 : ∀ t, Steps p.tables e below (T1.setTop (mkF m 3 #[.val (.int (0 : Int32))] [(.ref a_VALUES)])) t → Steps p.tables e below (s₁.setTop (entryFrame m #[(.int (0 : Int32))] 1)) t := fun t k => pre0 t (by
      show Steps p.tables e below (s₁.setTop (mkF m 0 #[.val (.int (0 : Int32))] [])) t
      exact st1 t k)
  obtain ⟨cl3, Ar3, -, Sz3, Ng3, Ha3, -⟩ := (own_V_VALUES W)
  have hin3 : ¬ ((0 : Int32) < 0 ∨ cl3.slots.size ≤ ((0 : Int32)).toNatClampNeg) := inb_of Sz3 (by decide)
  have hat3 : cl3.slots[((0 : Int32)).toNatClampNeg]? = some (.ref (ad 0)) := Ha3.at hin3 rfl
  have ch4 : ∀ t, Steps p.tables e below (T1.setTop (mkF m 5 #[.val (.int (0 : Int32))] [(.ref (ad 0))])) t → Steps p.tables e below (s₁.setTop (entryFrame m #[(.int (0 : Int32))] 1)) t := fun t k => ch2 t (by
      show Steps p.tables e below (T1.setTop (mkF m 3 #[.val (.int (0 : Int32))] [(.ref a_VALUES)])) t
      refine XS.iloadN X1.here hx rfl (hb hby own_d_prog_11_method_5_code_3) rfl ?_
      show Steps p.tables e below (T1.setTop (mkF m 4 #[.val (.int (0 : Int32))] [(.int (0 : Int32)), (.ref a_VALUES)])) t
      refine X1.aaload hx (j := (0 : Int32)) (v := (.ref (ad 0))) (by rw [e1]; exact Ar3.1) (State.isArrayOf_alike hZ.alike Ar3.2.1) rfl Ar3.2.2 hin3 hat3 (g := (mkF m 4 #[.val (.int (0 : Int32))] [(.int (0 : Int32)), (.ref a_VALUES)])) rfl rfl (hb hby own_d_prog_11_method_5_code_4) _ ?_
      exact k)
  obtain ⟨fs, hr, hrun, hended, hW, hsame⟩ := X1.leave (v := some (.ref (ad 0))) (fun h => by rw [Bd.returns] at h; cases h)
  refine ⟨_, _, ch4 _ ?_, hrun, hended, _, _, rfl, ?_, ⟨_, rfl⟩, hW, hsame.mono (by decide) (by decide)⟩
  · show Steps p.tables e below (T1.setTop (mkF m 5 #[.val (.int (0 : Int32))] [(.ref (ad 0))])) _
    jvm_step X1.here [X1.here.top, hx, (hb hby own_d_prog_11_method_5_code_5), X1.method', Bd.returns, Value.isRef, FieldType.isReference]
    first | (intro acts; rw [hr _ acts rfl rfl rfl]) | rw [hr _ _ rfl rfl rfl]
    exact Steps.refl _
  · show QV (some (.ref (ad 0))) h0 n0 _ T1.heap _
    rw [e1]
    exact ⟨rfl, N0, rfl⟩
theorem own_ef_own_pred_0 (m : MethodId) {x0 : Addr} : entryFrame m #[(.ref x0)] 1 = mkF m 0 #[.val (.ref x0)] [] := by first | (simp [entryFrame, mkF, argsToLocals, Value.category, maxLocals]; done) | rfl
set_option maxRecDepth 65536 in
set_option maxHeartbeats 40000000 in
theorem own_pred_0 (l : Launch) (Z : State) (a0 : Array Value) (hw : ∀ d ∈ tables_1, d.before a0 Z = true) (ws : List Jvm.Cond) (h0 : Heap) (n0 : Nat) (Z0 : n0 ≤ h0.size) (ad : Nat → Addr) (a_VALUES : Addr) (k_VALUES : ClassId) (W : OwnWd Z h0 ad a_VALUES k_VALUES) :
    MetFree l (⟨"com/example/libsnippet/libsnippet/WordBreak", "isIgnorable", "()Z"⟩ : MethodName) (head1 (Jvm.Cond.code (⟨"com/example/libsnippet/libsnippet/WordBreak", "isIgnorable", "()Z"⟩ : MethodName) prog_11_method_7_code 1 (some .boolean) :: ws) ({ frames := 0, cells := 0, slots := 0, locals := 0 } : Room)) (fun a U => a = #[(.ref (ad 0))] ∧ Z.Warmed39 U.vm ∧ U.heap = h0) (fun _ _ _ _ _ => True) (fun _ U o U' => ∃ v L, o = .returned v ∧ QV (some (.int (0 : Int32))) h0 n0 v U'.heap L ∧ FrameEnd U o U' L ({ frames := 0, cells := 0, slots := 0, locals := 0 } : Room).cells ({ frames := 0, cells := 0, slots := 0, locals := 0 } : Room).slots) := by
  refine MetFree.of_bodySF (plainFor_of_name own_pn_com_example_libsnippet_libsnippet_WordBreak) hisR ?_
  intro p e s m args below meth c s₁ Bd hml0 hP hK
  obtain ⟨rfl, hZ, hh⟩ := hP
  have hx := Bd.exec
  have hby := Bd.bytes
  have hml : c.maxLocals = 1 := hml0
  have hown : s.vm.findClass "com/example/libsnippet/libsnippet/WordBreak" = some m.cls := findClass_of_methodNamed Bd.named
  have hnm := (name_of_methodNamed Bd.named Bd.method).1
  have X0 : Stand p l e ({ frames := 0, cells := 0, slots := 0, locals := 0 } : Room) s m #[(.ref (ad 0))] below meth c s₁ [] 0 0 := Stand.of_body Bd
  have e0 : s₁.heap = h0 := by rw [← hh, Bd.state]; rfl
  have N0 := Fr.nil n0
  have pre0 : ∀ t, Steps p.tables e below (s₁.setTop (mkF m 0 #[.val (.ref (ad 0))] [])) t → Steps p.tables e below (s₁.setTop (entryFrame m #[(.ref (ad 0))] 1)) t := fun t k => castTop (own_ef_own_pred_0 m) k
  obtain ⟨T1, X1, e1, st1⟩ := getS2 X0 hx hZ hown (host := "") (Or.inl (hw _ (List.mem_of_getElem? (i := 22) rfl))) Via.refl e0 (own_S_EXTEND W) (g := (mkF m 1 #[.val (.ref (ad 0))] [(.ref (ad 0))])) rfl (hb hby own_d_prog_11_method_7_code_1)
  have ch2 : ∀ t, Steps p.tables e below (T1.setTop (mkF m 4 #[.val (.ref (ad 0))] [(.ref (ad 1)), (.ref (ad 0))])) t → Steps p.tables e below (s₁.setTop (entryFrame m #[(.ref (ad 0))] 1)) t := fun t k => pre0 t (by
      show Steps p.tables e below (s₁.setTop (mkF m 0 #[.val (.ref (ad 0))] [])) t
      refine XS.aloadN X0.here hx rfl (hb hby own_d_prog_11_method_7_code_0) rfl rfl ?_
      show Steps p.tables e below (s₁.setTop (mkF m 1 #[.val (.ref (ad 0))] [(.ref (ad 0))])) t
      exact st1 t k)
  obtain ⟨T3, X3, e3, st3⟩ := getS2 X1 hx hZ hown (host := "") (Or.inl (hw _ (List.mem_of_getElem? (i := 24) rfl))) Via.refl e1 (own_S_FORMAT W) (g := (mkF m 8 #[.val (.ref (ad 0))] [(.ref (ad 0))])) rfl (hb hby own_d_prog_11_method_7_code_8)
  have ch4 : ∀ t, Steps p.tables e below (T3.setTop (mkF m 11 #[.val (.ref (ad 0))] [(.ref (ad 2)), (.ref (ad 0))])) t → Steps p.tables e below (s₁.setTop (entryFrame m #[(.ref (ad 0))] 1)) t := fun t k => ch2 t (by
      show Steps p.tables e below (T1.setTop (mkF m 4 #[.val (.ref (ad 0))] [(.ref (ad 1)), (.ref (ad 0))])) t
      refine Jvm.RoadKit.acmp (g := (mkF m 4 #[.val (.ref (ad 0))] [(.ref (ad 1)), (.ref (ad 0))])) X1 hx rfl rfl rfl (pc0 := 4) (pc' := 7) (same := false) rfl (hb hby own_d_prog_11_method_7_code_4) rfl (decide_eq_false fun q => (Fld.ne (own_F_OTHER_ordinal W) (own_F_EXTEND_ordinal W) (by decide)) (Value.ref.inj q)) (by decide) (by decide) ?_
      show Steps p.tables e below (T1.setTop (mkF m 7 #[.val (.ref (ad 0))] [])) t
      refine XS.aloadN X1.here hx rfl (hb hby own_d_prog_11_method_7_code_7) rfl rfl ?_
      show Steps p.tables e below (T1.setTop (mkF m 8 #[.val (.ref (ad 0))] [(.ref (ad 0))])) t
      exact st3 t k)
  obtain ⟨T5, X5, e5, st5⟩ := getS2 X3 hx hZ hown (host := "") (Or.inl (hw _ (List.mem_of_getElem? (i := 26) rfl))) Via.refl e3 (own_S_ZWJ W) (g := (mkF m 15 #[.val (.ref (ad 0))] [(.ref (ad 0))])) rfl (hb hby own_d_prog_11_method_7_code_15)
  have ch6 : ∀ t, Steps p.tables e below (T5.setTop (mkF m 18 #[.val (.ref (ad 0))] [(.ref (ad 3)), (.ref (ad 0))])) t → Steps p.tables e below (s₁.setTop (entryFrame m #[(.ref (ad 0))] 1)) t := fun t k => ch4 t (by
      show Steps p.tables e below (T3.setTop (mkF m 11 #[.val (.ref (ad 0))] [(.ref (ad 2)), (.ref (ad 0))])) t
      refine Jvm.RoadKit.acmp (g := (mkF m 11 #[.val (.ref (ad 0))] [(.ref (ad 2)), (.ref (ad 0))])) X3 hx rfl rfl rfl (pc0 := 11) (pc' := 14) (same := false) rfl (hb hby own_d_prog_11_method_7_code_11) rfl (decide_eq_false fun q => (Fld.ne (own_F_OTHER_ordinal W) (own_F_FORMAT_ordinal W) (by decide)) (Value.ref.inj q)) (by decide) (by decide) ?_
      show Steps p.tables e below (T3.setTop (mkF m 14 #[.val (.ref (ad 0))] [])) t
      refine XS.aloadN X3.here hx rfl (hb hby own_d_prog_11_method_7_code_14) rfl rfl ?_
      show Steps p.tables e below (T3.setTop (mkF m 15 #[.val (.ref (ad 0))] [(.ref (ad 0))])) t
      exact st5 t k)
  have ch7 : ∀ t, Steps p.tables e below (T5.setTop (mkF m 26 #[.val (.ref (ad 0))] [(.int (0 : Int32))])) t → Steps p.tables e below (s₁.setTop (entryFrame m #[(.ref (ad 0))] 1)) t := fun t k => ch6 t (by
      show Steps p.tables e below (T5.setTop (mkF m 18 #[.val (.ref (ad 0))] [(.ref (ad 3)), (.ref (ad 0))])) t
      refine Jvm.RoadKit.acmp (g := (mkF m 18 #[.val (.ref (ad 0))] [(.ref (ad 3)), (.ref (ad 0))])) X5 hx rfl rfl rfl (pc0 := 18) (pc' := 25) (same := false) rfl (hb hby own_d_prog_11_method_7_code_18) rfl (decide_eq_false fun q => (Fld.ne (own_F_OTHER_ordinal W) (own_F_ZWJ_ordinal W) (by decide)) (Value.ref.inj q)) (by decide) (by decide) ?_
      show Steps p.tables e below (T5.setTop (mkF m 25 #[.val (.ref (ad 0))] [])) t
      refine XS.iconst X5.here hx rfl (hb hby own_d_prog_11_method_7_code_25) ?_
      exact k)
  obtain ⟨fs, hr, hrun, hended, hW, hsame⟩ := X5.leave (v := some (.int (0 : Int32))) (fun h => by rw [Bd.returns] at h; cases h)
  refine ⟨_, _, ch7 _ ?_, hrun, hended, _, _, rfl, ?_, ⟨_, rfl⟩, hW, hsame.mono (by decide) (by decide)⟩
  · show Steps p.tables e below (T5.setTop (mkF m 26 #[.val (.ref (ad 0))] [(.int (0 : Int32))])) _
    exact retN X5 hx (t := .boolean) Bd.returns (by simp) (hb hby own_d_prog_11_method_7_code_26) hr
  · show QV (some (.int (0 : Int32))) h0 n0 _ T5.heap _
    rw [e5]
    exact ⟨rfl, N0, rfl⟩
theorem own_ef_own_ordi_0 (m : MethodId) {x0 : Addr} : entryFrame m #[(.ref x0)] 1 = mkF m 0 #[.val (.ref x0)] [] := by first | (simp [entryFrame, mkF, argsToLocals, Value.category, maxLocals]; done) | rfl
set_option maxRecDepth 65536 in
set_option maxHeartbeats 40000000 in
theorem own_ordi_0 (l : Launch) (Z : State) (a0 : Array Value) (hw : ∀ d ∈ tables_1, d.before a0 Z = true) (ws : List Jvm.Cond) (h0 : Heap) (n0 : Nat) (Z0 : n0 ≤ h0.size) (ad : Nat → Addr) (a_VALUES : Addr) (k_VALUES : ClassId) (W : OwnWd Z h0 ad a_VALUES k_VALUES) :
    MetFree l (⟨"java/lang/Enum", "ordinal", "()I"⟩ : MethodName) (head1 (Jvm.Cond.code (⟨"java/lang/Enum", "ordinal", "()I"⟩ : MethodName) jdk_37_method_2_code 1 (some .int) :: ws) ({ frames := 0, cells := 0, slots := 0, locals := 0 } : Room)) (fun a U => a = #[(.ref (ad 0))] ∧ Z.Warmed39 U.vm ∧ U.heap = h0) (fun _ _ _ _ _ => True) (fun _ U o U' => ∃ v L, o = .returned v ∧ QV (some (.int (0 : Int32))) h0 n0 v U'.heap L ∧ FrameEnd U o U' L ({ frames := 0, cells := 0, slots := 0, locals := 0 } : Room).cells ({ frames := 0, cells := 0, slots := 0, locals := 0 } : Room).slots) := by
  refine MetFree.of_bodySF (plainFor_of_name own_pn_java_lang_Enum) hisR ?_
  intro p e s m args below meth c s₁ Bd hml0 hP hK
  obtain ⟨rfl, hZ, hh⟩ := hP
  have hx := Bd.exec
  have hby := Bd.bytes
  have hml : c.maxLocals = 1 := hml0
  have hown : s.vm.findClass "java/lang/Enum" = some m.cls := findClass_of_methodNamed Bd.named
  have hnm := (name_of_methodNamed Bd.named Bd.method).1
  have X0 : Stand p l e ({ frames := 0, cells := 0, slots := 0, locals := 0 } : Room) s m #[(.ref (ad 0))] below meth c s₁ [] 0 0 := Stand.of_body Bd
  have e0 : s₁.heap = h0 := by rw [← hh, Bd.state]; rfl
  have N0 := Fr.nil n0
  have pre0 : ∀ t, Steps p.tables e below (s₁.setTop (mkF m 0 #[.val (.ref (ad 0))] [])) t → Steps p.tables e below (s₁.setTop (entryFrame m #[(.ref (ad 0))] 1)) t := fun t k => castTop (own_ef_own_ordi_0 m) k
  obtain ⟨T1, X1, e1, st1⟩ := getF X0 hx hZ hown (host := "") (Or.inl (hw _ (List.mem_of_getElem? (i := 15) rfl))) Via.refl e0 (own_F_OTHER_ordinal W) (g := (mkF m 1 #[.val (.ref (ad 0))] [(.ref (ad 0))])) rfl rfl (hb hby own_d_jdk_37_method_2_code_1)
  have ch2 : ∀ t, Steps p.tables e below (T1.setTop (mkF m 4 #[.val (.ref (ad 0))] [(.int (0 : Int32))])) t → Steps p.tables e below (s₁.setTop (entryFrame m #[(.ref (ad 0))] 1)) t := fun t k => pre0 t (by
      show Steps p.tables e below (s₁.setTop (mkF m 0 #[.val (.ref (ad 0))] [])) t
      refine XS.aloadN X0.here hx rfl (hb hby own_d_jdk_37_method_2_code_0) rfl rfl ?_
      show Steps p.tables e below (s₁.setTop (mkF m 1 #[.val (.ref (ad 0))] [(.ref (ad 0))])) t
      exact st1 t k)
  obtain ⟨fs, hr, hrun, hended, hW, hsame⟩ := X1.leave (v := some (.int (0 : Int32))) (fun h => by rw [Bd.returns] at h; cases h)
  refine ⟨_, _, ch2 _ ?_, hrun, hended, _, _, rfl, ?_, ⟨_, rfl⟩, hW, hsame.mono (by decide) (by decide)⟩
  · show Steps p.tables e below (T1.setTop (mkF m 4 #[.val (.ref (ad 0))] [(.int (0 : Int32))])) _
    exact retI X1 hx Bd.returns (hb hby own_d_jdk_37_method_2_code_4) hr
  · show QV (some (.int (0 : Int32))) h0 n0 _ T1.heap _
    rw [e1]
    exact ⟨rfl, N0, rfl⟩
theorem own_ef_own_law_0 (m : MethodId) {x0 : Int32} : entryFrame m #[(.int x0)] maxLocals = mkF m 0 #[.val (.int x0), .unset, .unset, .unset] [] := by first | (simp [entryFrame, mkF, argsToLocals, Value.category, maxLocals]; done) | rfl
set_option maxRecDepth 65536 in
set_option maxHeartbeats 40000000 in
theorem own_law_0 (l : Launch) (Z : State) (a0 : Array Value) (hw : ∀ d ∈ tables_1, d.before a0 Z = true) (ws : List Jvm.Cond) (h0 : Heap) (n0 : Nat) (Z0 : n0 ≤ h0.size) (p1 : Int32) (hk : (p1 &&& (2147483647 : Int32)) % (19 : Int32) = (0 : Int32)) (ad : Nat → Addr) (a_VALUES : Addr) (k_VALUES : ClassId) (W : OwnWd Z h0 ad a_VALUES k_VALUES) :
    MetFree l x (head1 (Jvm.Cond.code x code maxLocals ret :: ws) room_1) (fun a U => a = #[(.int p1)] ∧ Z.Warmed39 U.vm ∧ U.heap = h0) (fun _ _ _ _ _ => True) (fun _ U o U' => ∃ v L, o = .returned v ∧ QN (some (.int (1 : Int32))) n0 v U'.heap L ∧ FrameEnd U o U' L room_1.cells room_1.slots) := by
  refine MetFree.of_bodySF (plainFor_of_name own_pn_com_example_libsnippet_libsnippet_WordBreakIsIgnorablePinLaw) hisR ?_
  intro p e s m args below meth c s₁ Bd hml0 hP hK
  obtain ⟨rfl, hZ, hh⟩ := hP
  have hx := Bd.exec
  have hby := Bd.bytes
  have hml : c.maxLocals = 4 := hml0
  have hown : s.vm.findClass "com/example/libsnippet/libsnippet/WordBreakIsIgnorablePinLaw" = some m.cls := findClass_of_methodNamed Bd.named
  have hnm := (name_of_methodNamed Bd.named Bd.method).1
  have X0 : Stand p l e room_1 s m #[(.int p1)] below meth c s₁ [] 0 0 := Stand.of_body Bd
  have e0 : s₁.heap = h0 := by rw [← hh, Bd.state]; rfl
  have N0 := Fr.nil n0
  have pre0 : ∀ t, Steps p.tables e below (s₁.setTop (mkF m 0 #[.val (.int p1), .unset, .unset, .unset] [])) t → Steps p.tables e below (s₁.setTop (entryFrame m #[(.int p1)] maxLocals)) t := fun t k => castTop (own_ef_own_law_0 m) k
  obtain ⟨vv1, _, ⟨T1, L1, kk1, nn1⟩, -, X1, ⟨Lc1, hQ1, l1, y1, z1⟩, st1⟩ := Jvm.LawKit.callS X0 hx (y := (⟨"com/example/libsnippet/libsnippet/WordBreak", "ofOrdinal", "(I)Lcom/example/libsnippet/libsnippet/WordBreak;"⟩ : MethodName)) hown (mvT hZ (hw _ (List.mem_of_getElem? (i := 1) rfl))) (mvT hZ (hw _ (List.mem_of_getElem? (i := 2) rfl))) (mvT hZ (hw _ (List.mem_of_getElem? (i := 3) rfl))) (mvT hZ (hw _ (List.mem_of_getElem? (i := 4) rfl))) (by decide) (backOf (W := 0) (own_pick_0 l Z a0 hw [] h0 n0 Z0 ad a_VALUES k_VALUES W) hZ (hw _ (List.mem_of_getElem? (i := 4) rfl)) (hw _ (List.mem_of_getElem? (i := 3) rfl)) (by decide) (by decide)) (g := (mkF m 9 #[.val (.int p1), .val (.int (0 : Int32)), .unset, .unset] [(.int (0 : Int32))])) rfl (by rw [hml]; rfl) (argsL := [(.int (0 : Int32))]) (rest := []) (lenOf own_pd__I_Lcom_example_libsnippet_libsnippet_WordBreak_ rfl) rfl (by show 2 * 0 + _ ≤ _; exact Nat.le_of_eq rfl) (hb hby at_9) (fun _ _ => ⟨rfl, e0, (by decide : 0 + 0 ≤ _), (by decide : 0 + 0 ≤ _)⟩)
  dsimp only [Pt.U, Pt.locs, Pt.cells, Pt.slots] at X1 l1 y1 z1 st1 hQ1
  subst l1 y1 z1
  obtain ⟨rfl, Nq1, e1⟩ := hQ1
  have N1 := Fr.app N0 Nq1
  have ch2 : ∀ t, Steps p.tables e below (T1.setTop (mkF m 12 #[.val (.int p1), .val (.int (0 : Int32)), .unset, .unset] [(.ref (ad 0))])) t → Steps p.tables e below (s₁.setTop (entryFrame m #[(.int p1)] maxLocals)) t := fun t k => pre0 t (by
      show Steps p.tables e below (s₁.setTop (mkF m 0 #[.val (.int p1), .unset, .unset, .unset] [])) t
      refine XS.iloadN X0.here hx rfl (hb hby at_0) rfl ?_
      show Steps p.tables e below (s₁.setTop (mkF m 1 #[.val (.int p1), .unset, .unset, .unset] [(.int p1)])) t
      refine X0.ldcInt hx hown (mvT hZ (hw _ (List.mem_of_getElem? (i := 0) rfl))) (g := (mkF m 1 #[.val (.int p1), .unset, .unset, .unset] [(.int p1)])) rfl (hb hby at_1) _ ?_
      show Steps p.tables e below (s₁.setTop (mkF m 3 #[.val (.int p1), .unset, .unset, .unset] [(.int (2147483647 : Int32)), (.int p1)])) t
      refine XS.iand X0.here hx rfl (hb hby at_3) rfl ?_
      show Steps p.tables e below (s₁.setTop (mkF m 4 #[.val (.int p1), .unset, .unset, .unset] [(.int (p1 &&& (2147483647 : Int32)))])) t
      refine XS.bipush X0.here hx rfl (hb hby at_4) ?_
      show Steps p.tables e below (s₁.setTop (mkF m 6 #[.val (.int p1), .unset, .unset, .unset] [(.int (19 : Int32)), (.int (p1 &&& (2147483647 : Int32)))])) t
      refine Jvm.RoadKit.iremM (g := (mkF m 6 #[.val (.int p1), .unset, .unset, .unset] [(.int (19 : Int32)), (.int (p1 &&& (2147483647 : Int32)))])) X0 hx rfl (hb hby at_6) rfl (by decide) ?_
      rw [hk]
      show Steps p.tables e below (s₁.setTop (mkF m 7 #[.val (.int p1), .unset, .unset, .unset] [(.int (0 : Int32))])) t
      refine XS.istoreN X0.here hx rfl (hb hby at_7) rfl (l' := #[.val (.int p1), .val (.int (0 : Int32)), .unset, .unset]) rfl ?_
      show Steps p.tables e below (s₁.setTop (mkF m 8 #[.val (.int p1), .val (.int (0 : Int32)), .unset, .unset] [])) t
      refine XS.iloadN X0.here hx rfl (hb hby at_8) rfl ?_
      show Steps p.tables e below (s₁.setTop (mkF m 9 #[.val (.int p1), .val (.int (0 : Int32)), .unset, .unset] [(.int (0 : Int32))])) t
      exact st1 t k)
  obtain ⟨cq3, kq3, qa3, qb3, qc3⟩ := isOf hZ e1 (own_E_OTHER W)
  obtain ⟨vv4, _, ⟨T4, L4, kk4, nn4⟩, -, X4, ⟨Lc4, hQ4, l4, y4, z4⟩, st4⟩ := X1.virtualBackUp hx (x := (⟨"com/example/libsnippet/libsnippet/WordBreak", "ordinal", "()I"⟩ : MethodName)) (y := (⟨"java/lang/Enum", "ordinal", "()I"⟩ : MethodName)) (owner := "java/lang/Enum") hown (mvT hZ (hw _ (List.mem_of_getElem? (i := 8) rfl))) (mvT hZ (hw _ (List.mem_of_getElem? (i := 9) rfl))) (mvT hZ (hw _ (List.mem_of_getElem? (i := 10) rfl))) (by decide) (mvT hZ (hw _ (List.mem_of_getElem? (i := 12) rfl))) (mvT hZ (hw _ (List.mem_of_getElem? (i := 11) rfl))) (backOf (W := 0) (own_ordi_0 l Z a0 hw [] h0 n0 Z0 ad a_VALUES k_VALUES W) hZ (hw _ (List.mem_of_getElem? (i := 14) rfl)) (hw _ (List.mem_of_getElem? (i := 13) rfl)) (by decide) (by decide)) qa3 qc3 (g := (mkF m 36 #[.val (.int p1), .val (.int (0 : Int32)), .val (.ref (ad 0)), .val (.int (0 : Int32))] [(.ref (ad 0))])) rfl (by rw [hml]; rfl) (Steps.refl _) (argsL := []) (rest := []) (lenOf own_pd___I rfl) rfl (by show 2 * 0 + _ ≤ _; exact Nat.le_of_eq rfl) (hb hby at_36) (fun _ _ => ⟨rfl, e1, (by decide : 0 + 0 ≤ _), (by decide : 0 + 0 ≤ _)⟩)
  dsimp only [Pt.U, Pt.locs, Pt.cells, Pt.slots] at X4 l4 y4 z4 st4 hQ4
  subst l4 y4 z4
  obtain ⟨rfl, Nq4, e4⟩ := hQ4
  have N4 := Fr.app N1 Nq4
  have ch5 : ∀ t, Steps p.tables e below (T4.setTop (mkF m 39 #[.val (.int p1), .val (.int (0 : Int32)), .val (.ref (ad 0)), .val (.int (0 : Int32))] [(.int (0 : Int32))])) t → Steps p.tables e below (s₁.setTop (entryFrame m #[(.int p1)] maxLocals)) t := fun t k => ch2 t (by
      show Steps p.tables e below (T1.setTop (mkF m 12 #[.val (.int p1), .val (.int (0 : Int32)), .unset, .unset] [(.ref (ad 0))])) t
      refine XS.astoreN X1.here hx rfl (hb hby at_12) rfl rfl (l' := #[.val (.int p1), .val (.int (0 : Int32)), .val (.ref (ad 0)), .unset]) rfl ?_
      show Steps p.tables e below (T1.setTop (mkF m 13 #[.val (.int p1), .val (.int (0 : Int32)), .val (.ref (ad 0)), .unset] [])) t
      refine XS.iloadN X1.here hx rfl (hb hby at_13) rfl ?_
      show Steps p.tables e below (T1.setTop (mkF m 14 #[.val (.int p1), .val (.int (0 : Int32)), .val (.ref (ad 0)), .unset] [(.int (0 : Int32))])) t
      refine XS.iconst X1.here hx rfl (hb hby at_14) ?_
      show Steps p.tables e below (T1.setTop (mkF m 15 #[.val (.int p1), .val (.int (0 : Int32)), .val (.ref (ad 0)), .unset] [(.int (4 : Int32)), (.int (0 : Int32))])) t
      refine XS.icmpNo X1.here hx rfl (hb hby at_15) rfl (feq (by decide : ¬ (0 : Int32) = (4 : Int32))).1 ?_
      show Steps p.tables e below (T1.setTop (mkF m 18 #[.val (.int p1), .val (.int (0 : Int32)), .val (.ref (ad 0)), .unset] [])) t
      refine XS.iloadN X1.here hx rfl (hb hby at_18) rfl ?_
      show Steps p.tables e below (T1.setTop (mkF m 19 #[.val (.int p1), .val (.int (0 : Int32)), .val (.ref (ad 0)), .unset] [(.int (0 : Int32))])) t
      refine XS.iconst X1.here hx rfl (hb hby at_19) ?_
      show Steps p.tables e below (T1.setTop (mkF m 20 #[.val (.int p1), .val (.int (0 : Int32)), .val (.ref (ad 0)), .unset] [(.int (5 : Int32)), (.int (0 : Int32))])) t
      refine XS.icmpNo X1.here hx rfl (hb hby at_20) rfl (feq (by decide : ¬ (0 : Int32) = (5 : Int32))).1 ?_
      show Steps p.tables e below (T1.setTop (mkF m 23 #[.val (.int p1), .val (.int (0 : Int32)), .val (.ref (ad 0)), .unset] [])) t
      refine XS.iloadN X1.here hx rfl (hb hby at_23) rfl ?_
      show Steps p.tables e below (T1.setTop (mkF m 24 #[.val (.int p1), .val (.int (0 : Int32)), .val (.ref (ad 0)), .unset] [(.int (0 : Int32))])) t
      refine XS.bipush X1.here hx rfl (hb hby at_24) ?_
      show Steps p.tables e below (T1.setTop (mkF m 26 #[.val (.int p1), .val (.int (0 : Int32)), .val (.ref (ad 0)), .unset] [(.int (7 : Int32)), (.int (0 : Int32))])) t
      refine XS.icmpYes X1.here hx rfl (pc0 := 26) (pc' := 33) rfl (hb hby at_26) rfl (feq (by decide : ¬ (0 : Int32) = (7 : Int32))).2 (by decide) (by decide) ?_
      show Steps p.tables e below (T1.setTop (mkF m 33 #[.val (.int p1), .val (.int (0 : Int32)), .val (.ref (ad 0)), .unset] [])) t
      refine XS.iconst X1.here hx rfl (hb hby at_33) ?_
      show Steps p.tables e below (T1.setTop (mkF m 34 #[.val (.int p1), .val (.int (0 : Int32)), .val (.ref (ad 0)), .unset] [(.int (0 : Int32))])) t
      refine XS.istoreN X1.here hx rfl (hb hby at_34) rfl (l' := #[.val (.int p1), .val (.int (0 : Int32)), .val (.ref (ad 0)), .val (.int (0 : Int32))]) rfl ?_
      show Steps p.tables e below (T1.setTop (mkF m 35 #[.val (.int p1), .val (.int (0 : Int32)), .val (.ref (ad 0)), .val (.int (0 : Int32))] [])) t
      refine XS.aloadN X1.here hx rfl (hb hby at_35) rfl rfl ?_
      show Steps p.tables e below (T1.setTop (mkF m 36 #[.val (.int p1), .val (.int (0 : Int32)), .val (.ref (ad 0)), .val (.int (0 : Int32))] [(.ref (ad 0))])) t
      exact st4.trans k)
  obtain ⟨cq6, kq6, qa6, qb6, qc6⟩ := isOf hZ e4 (own_E_OTHER W)
  obtain ⟨vv7, _, ⟨T7, L7, kk7, nn7⟩, -, X7, ⟨Lc7, hQ7, l7, y7, z7⟩, st7⟩ := X4.virtualBack hx (y := (⟨"com/example/libsnippet/libsnippet/WordBreak", "isIgnorable", "()Z"⟩ : MethodName)) (z := (⟨"com/example/libsnippet/libsnippet/WordBreak", "isIgnorable", "()Z"⟩ : MethodName)) hown (mvT hZ (hw _ (List.mem_of_getElem? (i := 17) rfl))) (mvT hZ (hw _ (List.mem_of_getElem? (i := 18) rfl))) (notFace_of_selects (args := #[]) (mvT hZ (hw _ (List.mem_of_getElem? (i := 20) rfl)))) (mvT hZ (hw _ (List.mem_of_getElem? (i := 20) rfl))) (mvT hZ (hw _ (List.mem_of_getElem? (i := 19) rfl))) (by decide) (backOf (W := 0) (own_pred_0 l Z a0 hw [] h0 n0 Z0 ad a_VALUES k_VALUES W) hZ (hw _ (List.mem_of_getElem? (i := 21) rfl)) (hw _ (List.mem_of_getElem? (i := 3) rfl)) (by decide) (by decide)) qa6 qc6 (g := (mkF m 44 #[.val (.int p1), .val (.int (0 : Int32)), .val (.ref (ad 0)), .val (.int (0 : Int32))] [(.ref (ad 0))])) rfl (by rw [hml]; rfl) (Steps.refl _) (argsL := []) (rest := []) (lenOf own_pd___Z rfl) rfl (by show 2 * 0 + _ ≤ _; exact Nat.le_of_eq rfl) (hb hby at_44) (fun _ _ => ⟨rfl, e4, (by decide : 0 + 0 ≤ _), (by decide : 0 + 0 ≤ _)⟩)
  dsimp only [Pt.U, Pt.locs, Pt.cells, Pt.slots] at X7 l7 y7 z7 st7 hQ7
  subst l7 y7 z7
  obtain ⟨rfl, Nq7, e7⟩ := hQ7
  have N7 := Fr.app N4 Nq7
  have ch8 : ∀ t, Steps p.tables e below (T7.setTop (mkF m 47 #[.val (.int p1), .val (.int (0 : Int32)), .val (.ref (ad 0)), .val (.int (0 : Int32))] [(.int (0 : Int32))])) t → Steps p.tables e below (s₁.setTop (entryFrame m #[(.int p1)] maxLocals)) t := fun t k => ch5 t (by
      show Steps p.tables e below (T4.setTop (mkF m 39 #[.val (.int p1), .val (.int (0 : Int32)), .val (.ref (ad 0)), .val (.int (0 : Int32))] [(.int (0 : Int32))])) t
      refine XS.iloadN X4.here hx rfl (hb hby at_39) rfl ?_
      show Steps p.tables e below (T4.setTop (mkF m 40 #[.val (.int p1), .val (.int (0 : Int32)), .val (.ref (ad 0)), .val (.int (0 : Int32))] [(.int (0 : Int32)), (.int (0 : Int32))])) t
      refine XS.icmpNo X4.here hx rfl (hb hby at_40) rfl (teq (by decide : (0 : Int32) = (0 : Int32))).2 ?_
      show Steps p.tables e below (T4.setTop (mkF m 43 #[.val (.int p1), .val (.int (0 : Int32)), .val (.ref (ad 0)), .val (.int (0 : Int32))] [])) t
      refine XS.aloadN X4.here hx rfl (hb hby at_43) rfl rfl ?_
      show Steps p.tables e below (T4.setTop (mkF m 44 #[.val (.int p1), .val (.int (0 : Int32)), .val (.ref (ad 0)), .val (.int (0 : Int32))] [(.ref (ad 0))])) t
      exact st7.trans k)
  have ch9 : ∀ t, Steps p.tables e below (T7.setTop (mkF m 56 #[.val (.int p1), .val (.int (0 : Int32)), .val (.ref (ad 0)), .val (.int (0 : Int32))] [(.int (1 : Int32))])) t → Steps p.tables e below (s₁.setTop (entryFrame m #[(.int p1)] maxLocals)) t := fun t k => ch8 t (by
      show Steps p.tables e below (T7.setTop (mkF m 47 #[.val (.int p1), .val (.int (0 : Int32)), .val (.ref (ad 0)), .val (.int (0 : Int32))] [(.int (0 : Int32))])) t
      refine XS.iloadN X7.here hx rfl (hb hby at_47) rfl ?_
      show Steps p.tables e below (T7.setTop (mkF m 48 #[.val (.int p1), .val (.int (0 : Int32)), .val (.ref (ad 0)), .val (.int (0 : Int32))] [(.int (0 : Int32)), (.int (0 : Int32))])) t
      refine XS.icmpNo X7.here hx rfl (hb hby at_48) rfl (teq (by decide : (0 : Int32) = (0 : Int32))).2 ?_
      show Steps p.tables e below (T7.setTop (mkF m 51 #[.val (.int p1), .val (.int (0 : Int32)), .val (.ref (ad 0)), .val (.int (0 : Int32))] [])) t
      refine XS.iconst X7.here hx rfl (hb hby at_51) ?_
      show Steps p.tables e below (T7.setTop (mkF m 52 #[.val (.int p1), .val (.int (0 : Int32)), .val (.ref (ad 0)), .val (.int (0 : Int32))] [(.int (1 : Int32))])) t
      refine XS.goto X7.here hx rfl (pc0 := 52) (pc' := 56) rfl (hb hby at_52) (by decide) (by decide) ?_
      exact k)
  obtain ⟨fs, hr, hrun, hended, hW, hsame⟩ := X7.leave (v := some (.int (1 : Int32))) (fun h => by rw [Bd.returns] at h; cases h)
  refine ⟨_, _, ch9 _ ?_, hrun, hended, _, _, rfl, ?_, ⟨_, rfl⟩, hW, hsame.mono (by decide) (by decide)⟩
  · show Steps p.tables e below (T7.setTop (mkF m 56 #[.val (.int p1), .val (.int (0 : Int32)), .val (.ref (ad 0)), .val (.int (0 : Int32))] [(.int (1 : Int32))])) _
    exact retN X7 hx (t := .boolean) Bd.returns (by simp) (hb hby at_56) hr
  · show QN (some (.int (1 : Int32))) n0 _ T7.heap _
    rw [e7]
    exact ⟨rfl, N7⟩
theorem own_ef_own_pick_1 (m : MethodId) {x0 : Int32} : entryFrame m #[(.int x0)] 1 = mkF m 0 #[.val (.int x0)] [] := by first | (simp [entryFrame, mkF, argsToLocals, Value.category, maxLocals]; done) | rfl
set_option maxRecDepth 65536 in
set_option maxHeartbeats 40000000 in
theorem own_pick_1 (l : Launch) (Z : State) (a0 : Array Value) (hw : ∀ d ∈ tables_1, d.before a0 Z = true) (ws : List Jvm.Cond) (h0 : Heap) (n0 : Nat) (Z0 : n0 ≤ h0.size) (ad : Nat → Addr) (a_VALUES : Addr) (k_VALUES : ClassId) (W : OwnWd Z h0 ad a_VALUES k_VALUES) :
    MetFree l (⟨"com/example/libsnippet/libsnippet/WordBreak", "ofOrdinal", "(I)Lcom/example/libsnippet/libsnippet/WordBreak;"⟩ : MethodName) (head1 (Jvm.Cond.code (⟨"com/example/libsnippet/libsnippet/WordBreak", "ofOrdinal", "(I)Lcom/example/libsnippet/libsnippet/WordBreak;"⟩ : MethodName) prog_11_method_5_code 1 (some (.object "com/example/libsnippet/libsnippet/WordBreak")) :: ws) ({ frames := 0, cells := 0, slots := 0, locals := 0 } : Room)) (fun a U => a = #[(.int (1 : Int32))] ∧ Z.Warmed39 U.vm ∧ U.heap = h0) (fun _ _ _ _ _ => True) (fun _ U o U' => ∃ v L, o = .returned v ∧ QV (some (.ref (ad 11))) h0 n0 v U'.heap L ∧ FrameEnd U o U' L ({ frames := 0, cells := 0, slots := 0, locals := 0 } : Room).cells ({ frames := 0, cells := 0, slots := 0, locals := 0 } : Room).slots) := by
  refine MetFree.of_bodySF (plainFor_of_name own_pn_com_example_libsnippet_libsnippet_WordBreak) hisR ?_
  intro p e s m args below meth c s₁ Bd hml0 hP hK
  obtain ⟨rfl, hZ, hh⟩ := hP
  have hx := Bd.exec
  have hby := Bd.bytes
  have hml : c.maxLocals = 1 := hml0
  have hown : s.vm.findClass "com/example/libsnippet/libsnippet/WordBreak" = some m.cls := findClass_of_methodNamed Bd.named
  have hnm := (name_of_methodNamed Bd.named Bd.method).1
  have X0 : Stand p l e ({ frames := 0, cells := 0, slots := 0, locals := 0 } : Room) s m #[(.int (1 : Int32))] below meth c s₁ [] 0 0 := Stand.of_body Bd
  have e0 : s₁.heap = h0 := by rw [← hh, Bd.state]; rfl
  have N0 := Fr.nil n0
  have pre0 : ∀ t, Steps p.tables e below (s₁.setTop (mkF m 0 #[.val (.int (1 : Int32))] [])) t → Steps p.tables e below (s₁.setTop (entryFrame m #[(.int (1 : Int32))] 1)) t := fun t k => castTop (own_ef_own_pick_1 m) k
  obtain ⟨T1, X1, e1, st1⟩ := getS2 X0 hx hZ hown (host := "") (Or.inl (hw _ (List.mem_of_getElem? (i := 5) rfl))) Via.refl e0 (own_S_VALUES W) (g := (mkF m 0 #[.val (.int (1 : Int32))] [])) rfl (hb hby own_d_prog_11_method_5_code_0)
  have ch2 : ∀ t, Steps p.tables e below (T1.setTop (mkF m 3 #[.val (.int (1 : Int32))] [(.ref a_VALUES)])) t → Steps p.tables e below (s₁.setTop (entryFrame m #[(.int (1 : Int32))] 1)) t := fun t k => pre0 t (by
      show Steps p.tables e below (s₁.setTop (mkF m 0 #[.val (.int (1 : Int32))] [])) t
      exact st1 t k)
  obtain ⟨cl3, Ar3, -, Sz3, Ng3, Ha3, -⟩ := (own_V_VALUES W)
  have hin3 : ¬ ((1 : Int32) < 0 ∨ cl3.slots.size ≤ ((1 : Int32)).toNatClampNeg) := inb_of Sz3 (by decide)
  have hat3 : cl3.slots[((1 : Int32)).toNatClampNeg]? = some (.ref (ad 11)) := Ha3.at hin3 rfl
  have ch4 : ∀ t, Steps p.tables e below (T1.setTop (mkF m 5 #[.val (.int (1 : Int32))] [(.ref (ad 11))])) t → Steps p.tables e below (s₁.setTop (entryFrame m #[(.int (1 : Int32))] 1)) t := fun t k => ch2 t (by
      show Steps p.tables e below (T1.setTop (mkF m 3 #[.val (.int (1 : Int32))] [(.ref a_VALUES)])) t
      refine XS.iloadN X1.here hx rfl (hb hby own_d_prog_11_method_5_code_3) rfl ?_
      show Steps p.tables e below (T1.setTop (mkF m 4 #[.val (.int (1 : Int32))] [(.int (1 : Int32)), (.ref a_VALUES)])) t
      refine X1.aaload hx (j := (1 : Int32)) (v := (.ref (ad 11))) (by rw [e1]; exact Ar3.1) (State.isArrayOf_alike hZ.alike Ar3.2.1) rfl Ar3.2.2 hin3 hat3 (g := (mkF m 4 #[.val (.int (1 : Int32))] [(.int (1 : Int32)), (.ref a_VALUES)])) rfl rfl (hb hby own_d_prog_11_method_5_code_4) _ ?_
      exact k)
  obtain ⟨fs, hr, hrun, hended, hW, hsame⟩ := X1.leave (v := some (.ref (ad 11))) (fun h => by rw [Bd.returns] at h; cases h)
  refine ⟨_, _, ch4 _ ?_, hrun, hended, _, _, rfl, ?_, ⟨_, rfl⟩, hW, hsame.mono (by decide) (by decide)⟩
  · show Steps p.tables e below (T1.setTop (mkF m 5 #[.val (.int (1 : Int32))] [(.ref (ad 11))])) _
    jvm_step X1.here [X1.here.top, hx, (hb hby own_d_prog_11_method_5_code_5), X1.method', Bd.returns, Value.isRef, FieldType.isReference]
    first | (intro acts; rw [hr _ acts rfl rfl rfl]) | rw [hr _ _ rfl rfl rfl]
    exact Steps.refl _
  · show QV (some (.ref (ad 11))) h0 n0 _ T1.heap _
    rw [e1]
    exact ⟨rfl, N0, rfl⟩
theorem own_ef_own_pred_1 (m : MethodId) {x0 : Addr} : entryFrame m #[(.ref x0)] 1 = mkF m 0 #[.val (.ref x0)] [] := by first | (simp [entryFrame, mkF, argsToLocals, Value.category, maxLocals]; done) | rfl
set_option maxRecDepth 65536 in
set_option maxHeartbeats 40000000 in
theorem own_pred_1 (l : Launch) (Z : State) (a0 : Array Value) (hw : ∀ d ∈ tables_1, d.before a0 Z = true) (ws : List Jvm.Cond) (h0 : Heap) (n0 : Nat) (Z0 : n0 ≤ h0.size) (ad : Nat → Addr) (a_VALUES : Addr) (k_VALUES : ClassId) (W : OwnWd Z h0 ad a_VALUES k_VALUES) :
    MetFree l (⟨"com/example/libsnippet/libsnippet/WordBreak", "isIgnorable", "()Z"⟩ : MethodName) (head1 (Jvm.Cond.code (⟨"com/example/libsnippet/libsnippet/WordBreak", "isIgnorable", "()Z"⟩ : MethodName) prog_11_method_7_code 1 (some .boolean) :: ws) ({ frames := 0, cells := 0, slots := 0, locals := 0 } : Room)) (fun a U => a = #[(.ref (ad 11))] ∧ Z.Warmed39 U.vm ∧ U.heap = h0) (fun _ _ _ _ _ => True) (fun _ U o U' => ∃ v L, o = .returned v ∧ QV (some (.int (0 : Int32))) h0 n0 v U'.heap L ∧ FrameEnd U o U' L ({ frames := 0, cells := 0, slots := 0, locals := 0 } : Room).cells ({ frames := 0, cells := 0, slots := 0, locals := 0 } : Room).slots) := by
  refine MetFree.of_bodySF (plainFor_of_name own_pn_com_example_libsnippet_libsnippet_WordBreak) hisR ?_
  intro p e s m args below meth c s₁ Bd hml0 hP hK
  obtain ⟨rfl, hZ, hh⟩ := hP
  have hx := Bd.exec
  have hby := Bd.bytes
  have hml : c.maxLocals = 1 := hml0
  have hown : s.vm.findClass "com/example/libsnippet/libsnippet/WordBreak" = some m.cls := findClass_of_methodNamed Bd.named
  have hnm := (name_of_methodNamed Bd.named Bd.method).1
  have X0 : Stand p l e ({ frames := 0, cells := 0, slots := 0, locals := 0 } : Room) s m #[(.ref (ad 11))] below meth c s₁ [] 0 0 := Stand.of_body Bd
  have e0 : s₁.heap = h0 := by rw [← hh, Bd.state]; rfl
  have N0 := Fr.nil n0
  have pre0 : ∀ t, Steps p.tables e below (s₁.setTop (mkF m 0 #[.val (.ref (ad 11))] [])) t → Steps p.tables e below (s₁.setTop (entryFrame m #[(.ref (ad 11))] 1)) t := fun t k => castTop (own_ef_own_pred_1 m) k
  obtain ⟨T1, X1, e1, st1⟩ := getS2 X0 hx hZ hown (host := "") (Or.inl (hw _ (List.mem_of_getElem? (i := 22) rfl))) Via.refl e0 (own_S_EXTEND W) (g := (mkF m 1 #[.val (.ref (ad 11))] [(.ref (ad 11))])) rfl (hb hby own_d_prog_11_method_7_code_1)
  have ch2 : ∀ t, Steps p.tables e below (T1.setTop (mkF m 4 #[.val (.ref (ad 11))] [(.ref (ad 1)), (.ref (ad 11))])) t → Steps p.tables e below (s₁.setTop (entryFrame m #[(.ref (ad 11))] 1)) t := fun t k => pre0 t (by
      show Steps p.tables e below (s₁.setTop (mkF m 0 #[.val (.ref (ad 11))] [])) t
      refine XS.aloadN X0.here hx rfl (hb hby own_d_prog_11_method_7_code_0) rfl rfl ?_
      show Steps p.tables e below (s₁.setTop (mkF m 1 #[.val (.ref (ad 11))] [(.ref (ad 11))])) t
      exact st1 t k)
  obtain ⟨T3, X3, e3, st3⟩ := getS2 X1 hx hZ hown (host := "") (Or.inl (hw _ (List.mem_of_getElem? (i := 24) rfl))) Via.refl e1 (own_S_FORMAT W) (g := (mkF m 8 #[.val (.ref (ad 11))] [(.ref (ad 11))])) rfl (hb hby own_d_prog_11_method_7_code_8)
  have ch4 : ∀ t, Steps p.tables e below (T3.setTop (mkF m 11 #[.val (.ref (ad 11))] [(.ref (ad 2)), (.ref (ad 11))])) t → Steps p.tables e below (s₁.setTop (entryFrame m #[(.ref (ad 11))] 1)) t := fun t k => ch2 t (by
      show Steps p.tables e below (T1.setTop (mkF m 4 #[.val (.ref (ad 11))] [(.ref (ad 1)), (.ref (ad 11))])) t
      refine Jvm.RoadKit.acmp (g := (mkF m 4 #[.val (.ref (ad 11))] [(.ref (ad 1)), (.ref (ad 11))])) X1 hx rfl rfl rfl (pc0 := 4) (pc' := 7) (same := false) rfl (hb hby own_d_prog_11_method_7_code_4) rfl (decide_eq_false fun q => (Fld.ne (own_F_CR_ordinal W) (own_F_EXTEND_ordinal W) (by decide)) (Value.ref.inj q)) (by decide) (by decide) ?_
      show Steps p.tables e below (T1.setTop (mkF m 7 #[.val (.ref (ad 11))] [])) t
      refine XS.aloadN X1.here hx rfl (hb hby own_d_prog_11_method_7_code_7) rfl rfl ?_
      show Steps p.tables e below (T1.setTop (mkF m 8 #[.val (.ref (ad 11))] [(.ref (ad 11))])) t
      exact st3 t k)
  obtain ⟨T5, X5, e5, st5⟩ := getS2 X3 hx hZ hown (host := "") (Or.inl (hw _ (List.mem_of_getElem? (i := 26) rfl))) Via.refl e3 (own_S_ZWJ W) (g := (mkF m 15 #[.val (.ref (ad 11))] [(.ref (ad 11))])) rfl (hb hby own_d_prog_11_method_7_code_15)
  have ch6 : ∀ t, Steps p.tables e below (T5.setTop (mkF m 18 #[.val (.ref (ad 11))] [(.ref (ad 3)), (.ref (ad 11))])) t → Steps p.tables e below (s₁.setTop (entryFrame m #[(.ref (ad 11))] 1)) t := fun t k => ch4 t (by
      show Steps p.tables e below (T3.setTop (mkF m 11 #[.val (.ref (ad 11))] [(.ref (ad 2)), (.ref (ad 11))])) t
      refine Jvm.RoadKit.acmp (g := (mkF m 11 #[.val (.ref (ad 11))] [(.ref (ad 2)), (.ref (ad 11))])) X3 hx rfl rfl rfl (pc0 := 11) (pc' := 14) (same := false) rfl (hb hby own_d_prog_11_method_7_code_11) rfl (decide_eq_false fun q => (Fld.ne (own_F_CR_ordinal W) (own_F_FORMAT_ordinal W) (by decide)) (Value.ref.inj q)) (by decide) (by decide) ?_
      show Steps p.tables e below (T3.setTop (mkF m 14 #[.val (.ref (ad 11))] [])) t
      refine XS.aloadN X3.here hx rfl (hb hby own_d_prog_11_method_7_code_14) rfl rfl ?_
      show Steps p.tables e below (T3.setTop (mkF m 15 #[.val (.ref (ad 11))] [(.ref (ad 11))])) t
      exact st5 t k)
  have ch7 : ∀ t, Steps p.tables e below (T5.setTop (mkF m 26 #[.val (.ref (ad 11))] [(.int (0 : Int32))])) t → Steps p.tables e below (s₁.setTop (entryFrame m #[(.ref (ad 11))] 1)) t := fun t k => ch6 t (by
      show Steps p.tables e below (T5.setTop (mkF m 18 #[.val (.ref (ad 11))] [(.ref (ad 3)), (.ref (ad 11))])) t
      refine Jvm.RoadKit.acmp (g := (mkF m 18 #[.val (.ref (ad 11))] [(.ref (ad 3)), (.ref (ad 11))])) X5 hx rfl rfl rfl (pc0 := 18) (pc' := 25) (same := false) rfl (hb hby own_d_prog_11_method_7_code_18) rfl (decide_eq_false fun q => (Fld.ne (own_F_CR_ordinal W) (own_F_ZWJ_ordinal W) (by decide)) (Value.ref.inj q)) (by decide) (by decide) ?_
      show Steps p.tables e below (T5.setTop (mkF m 25 #[.val (.ref (ad 11))] [])) t
      refine XS.iconst X5.here hx rfl (hb hby own_d_prog_11_method_7_code_25) ?_
      exact k)
  obtain ⟨fs, hr, hrun, hended, hW, hsame⟩ := X5.leave (v := some (.int (0 : Int32))) (fun h => by rw [Bd.returns] at h; cases h)
  refine ⟨_, _, ch7 _ ?_, hrun, hended, _, _, rfl, ?_, ⟨_, rfl⟩, hW, hsame.mono (by decide) (by decide)⟩
  · show Steps p.tables e below (T5.setTop (mkF m 26 #[.val (.ref (ad 11))] [(.int (0 : Int32))])) _
    exact retN X5 hx (t := .boolean) Bd.returns (by simp) (hb hby own_d_prog_11_method_7_code_26) hr
  · show QV (some (.int (0 : Int32))) h0 n0 _ T5.heap _
    rw [e5]
    exact ⟨rfl, N0, rfl⟩
theorem own_ef_own_ordi_1 (m : MethodId) {x0 : Addr} : entryFrame m #[(.ref x0)] 1 = mkF m 0 #[.val (.ref x0)] [] := by first | (simp [entryFrame, mkF, argsToLocals, Value.category, maxLocals]; done) | rfl
set_option maxRecDepth 65536 in
set_option maxHeartbeats 40000000 in
theorem own_ordi_1 (l : Launch) (Z : State) (a0 : Array Value) (hw : ∀ d ∈ tables_1, d.before a0 Z = true) (ws : List Jvm.Cond) (h0 : Heap) (n0 : Nat) (Z0 : n0 ≤ h0.size) (ad : Nat → Addr) (a_VALUES : Addr) (k_VALUES : ClassId) (W : OwnWd Z h0 ad a_VALUES k_VALUES) :
    MetFree l (⟨"java/lang/Enum", "ordinal", "()I"⟩ : MethodName) (head1 (Jvm.Cond.code (⟨"java/lang/Enum", "ordinal", "()I"⟩ : MethodName) jdk_37_method_2_code 1 (some .int) :: ws) ({ frames := 0, cells := 0, slots := 0, locals := 0 } : Room)) (fun a U => a = #[(.ref (ad 11))] ∧ Z.Warmed39 U.vm ∧ U.heap = h0) (fun _ _ _ _ _ => True) (fun _ U o U' => ∃ v L, o = .returned v ∧ QV (some (.int (1 : Int32))) h0 n0 v U'.heap L ∧ FrameEnd U o U' L ({ frames := 0, cells := 0, slots := 0, locals := 0 } : Room).cells ({ frames := 0, cells := 0, slots := 0, locals := 0 } : Room).slots) := by
  refine MetFree.of_bodySF (plainFor_of_name own_pn_java_lang_Enum) hisR ?_
  intro p e s m args below meth c s₁ Bd hml0 hP hK
  obtain ⟨rfl, hZ, hh⟩ := hP
  have hx := Bd.exec
  have hby := Bd.bytes
  have hml : c.maxLocals = 1 := hml0
  have hown : s.vm.findClass "java/lang/Enum" = some m.cls := findClass_of_methodNamed Bd.named
  have hnm := (name_of_methodNamed Bd.named Bd.method).1
  have X0 : Stand p l e ({ frames := 0, cells := 0, slots := 0, locals := 0 } : Room) s m #[(.ref (ad 11))] below meth c s₁ [] 0 0 := Stand.of_body Bd
  have e0 : s₁.heap = h0 := by rw [← hh, Bd.state]; rfl
  have N0 := Fr.nil n0
  have pre0 : ∀ t, Steps p.tables e below (s₁.setTop (mkF m 0 #[.val (.ref (ad 11))] [])) t → Steps p.tables e below (s₁.setTop (entryFrame m #[(.ref (ad 11))] 1)) t := fun t k => castTop (own_ef_own_ordi_1 m) k
  obtain ⟨T1, X1, e1, st1⟩ := getF X0 hx hZ hown (host := "") (Or.inl (hw _ (List.mem_of_getElem? (i := 15) rfl))) Via.refl e0 (own_F_CR_ordinal W) (g := (mkF m 1 #[.val (.ref (ad 11))] [(.ref (ad 11))])) rfl rfl (hb hby own_d_jdk_37_method_2_code_1)
  have ch2 : ∀ t, Steps p.tables e below (T1.setTop (mkF m 4 #[.val (.ref (ad 11))] [(.int (1 : Int32))])) t → Steps p.tables e below (s₁.setTop (entryFrame m #[(.ref (ad 11))] 1)) t := fun t k => pre0 t (by
      show Steps p.tables e below (s₁.setTop (mkF m 0 #[.val (.ref (ad 11))] [])) t
      refine XS.aloadN X0.here hx rfl (hb hby own_d_jdk_37_method_2_code_0) rfl rfl ?_
      show Steps p.tables e below (s₁.setTop (mkF m 1 #[.val (.ref (ad 11))] [(.ref (ad 11))])) t
      exact st1 t k)
  obtain ⟨fs, hr, hrun, hended, hW, hsame⟩ := X1.leave (v := some (.int (1 : Int32))) (fun h => by rw [Bd.returns] at h; cases h)
  refine ⟨_, _, ch2 _ ?_, hrun, hended, _, _, rfl, ?_, ⟨_, rfl⟩, hW, hsame.mono (by decide) (by decide)⟩
  · show Steps p.tables e below (T1.setTop (mkF m 4 #[.val (.ref (ad 11))] [(.int (1 : Int32))])) _
    exact retI X1 hx Bd.returns (hb hby own_d_jdk_37_method_2_code_4) hr
  · show QV (some (.int (1 : Int32))) h0 n0 _ T1.heap _
    rw [e1]
    exact ⟨rfl, N0, rfl⟩
theorem own_ef_own_law_1 (m : MethodId) {x0 : Int32} : entryFrame m #[(.int x0)] maxLocals = mkF m 0 #[.val (.int x0), .unset, .unset, .unset] [] := by first | (simp [entryFrame, mkF, argsToLocals, Value.category, maxLocals]; done) | rfl
set_option maxRecDepth 65536 in
set_option maxHeartbeats 40000000 in
theorem own_law_1 (l : Launch) (Z : State) (a0 : Array Value) (hw : ∀ d ∈ tables_1, d.before a0 Z = true) (ws : List Jvm.Cond) (h0 : Heap) (n0 : Nat) (Z0 : n0 ≤ h0.size) (p1 : Int32) (hk : (p1 &&& (2147483647 : Int32)) % (19 : Int32) = (1 : Int32)) (ad : Nat → Addr) (a_VALUES : Addr) (k_VALUES : ClassId) (W : OwnWd Z h0 ad a_VALUES k_VALUES) :
    MetFree l x (head1 (Jvm.Cond.code x code maxLocals ret :: ws) room_1) (fun a U => a = #[(.int p1)] ∧ Z.Warmed39 U.vm ∧ U.heap = h0) (fun _ _ _ _ _ => True) (fun _ U o U' => ∃ v L, o = .returned v ∧ QN (some (.int (1 : Int32))) n0 v U'.heap L ∧ FrameEnd U o U' L room_1.cells room_1.slots) := by
  refine MetFree.of_bodySF (plainFor_of_name own_pn_com_example_libsnippet_libsnippet_WordBreakIsIgnorablePinLaw) hisR ?_
  intro p e s m args below meth c s₁ Bd hml0 hP hK
  obtain ⟨rfl, hZ, hh⟩ := hP
  have hx := Bd.exec
  have hby := Bd.bytes
  have hml : c.maxLocals = 4 := hml0
  have hown : s.vm.findClass "com/example/libsnippet/libsnippet/WordBreakIsIgnorablePinLaw" = some m.cls := findClass_of_methodNamed Bd.named
  have hnm := (name_of_methodNamed Bd.named Bd.method).1
  have X0 : Stand p l e room_1 s m #[(.int p1)] below meth c s₁ [] 0 0 := Stand.of_body Bd
  have e0 : s₁.heap = h0 := by rw [← hh, Bd.state]; rfl
  have N0 := Fr.nil n0
  have pre0 : ∀ t, Steps p.tables e below (s₁.setTop (mkF m 0 #[.val (.int p1), .unset, .unset, .unset] [])) t → Steps p.tables e below (s₁.setTop (entryFrame m #[(.int p1)] maxLocals)) t := fun t k => castTop (own_ef_own_law_1 m) k
  obtain ⟨vv1, _, ⟨T1, L1, kk1, nn1⟩, -, X1, ⟨Lc1, hQ1, l1, y1, z1⟩, st1⟩ := Jvm.LawKit.callS X0 hx (y := (⟨"com/example/libsnippet/libsnippet/WordBreak", "ofOrdinal", "(I)Lcom/example/libsnippet/libsnippet/WordBreak;"⟩ : MethodName)) hown (mvT hZ (hw _ (List.mem_of_getElem? (i := 1) rfl))) (mvT hZ (hw _ (List.mem_of_getElem? (i := 2) rfl))) (mvT hZ (hw _ (List.mem_of_getElem? (i := 3) rfl))) (mvT hZ (hw _ (List.mem_of_getElem? (i := 4) rfl))) (by decide) (backOf (W := 0) (own_pick_1 l Z a0 hw [] h0 n0 Z0 ad a_VALUES k_VALUES W) hZ (hw _ (List.mem_of_getElem? (i := 4) rfl)) (hw _ (List.mem_of_getElem? (i := 3) rfl)) (by decide) (by decide)) (g := (mkF m 9 #[.val (.int p1), .val (.int (1 : Int32)), .unset, .unset] [(.int (1 : Int32))])) rfl (by rw [hml]; rfl) (argsL := [(.int (1 : Int32))]) (rest := []) (lenOf own_pd__I_Lcom_example_libsnippet_libsnippet_WordBreak_ rfl) rfl (by show 2 * 0 + _ ≤ _; exact Nat.le_of_eq rfl) (hb hby at_9) (fun _ _ => ⟨rfl, e0, (by decide : 0 + 0 ≤ _), (by decide : 0 + 0 ≤ _)⟩)
  dsimp only [Pt.U, Pt.locs, Pt.cells, Pt.slots] at X1 l1 y1 z1 st1 hQ1
  subst l1 y1 z1
  obtain ⟨rfl, Nq1, e1⟩ := hQ1
  have N1 := Fr.app N0 Nq1
  have ch2 : ∀ t, Steps p.tables e below (T1.setTop (mkF m 12 #[.val (.int p1), .val (.int (1 : Int32)), .unset, .unset] [(.ref (ad 11))])) t → Steps p.tables e below (s₁.setTop (entryFrame m #[(.int p1)] maxLocals)) t := fun t k => pre0 t (by
      show Steps p.tables e below (s₁.setTop (mkF m 0 #[.val (.int p1), .unset, .unset, .unset] [])) t
      refine XS.iloadN X0.here hx rfl (hb hby at_0) rfl ?_
      show Steps p.tables e below (s₁.setTop (mkF m 1 #[.val (.int p1), .unset, .unset, .unset] [(.int p1)])) t
      refine X0.ldcInt hx hown (mvT hZ (hw _ (List.mem_of_getElem? (i := 0) rfl))) (g := (mkF m 1 #[.val (.int p1), .unset, .unset, .unset] [(.int p1)])) rfl (hb hby at_1) _ ?_
      show Steps p.tables e below (s₁.setTop (mkF m 3 #[.val (.int p1), .unset, .unset, .unset] [(.int (2147483647 : Int32)), (.int p1)])) t
      refine XS.iand X0.here hx rfl (hb hby at_3) rfl ?_
      show Steps p.tables e below (s₁.setTop (mkF m 4 #[.val (.int p1), .unset, .unset, .unset] [(.int (p1 &&& (2147483647 : Int32)))])) t
      refine XS.bipush X0.here hx rfl (hb hby at_4) ?_
      show Steps p.tables e below (s₁.setTop (mkF m 6 #[.val (.int p1), .unset, .unset, .unset] [(.int (19 : Int32)), (.int (p1 &&& (2147483647 : Int32)))])) t
      refine Jvm.RoadKit.iremM (g := (mkF m 6 #[.val (.int p1), .unset, .unset, .unset] [(.int (19 : Int32)), (.int (p1 &&& (2147483647 : Int32)))])) X0 hx rfl (hb hby at_6) rfl (by decide) ?_
      rw [hk]
      show Steps p.tables e below (s₁.setTop (mkF m 7 #[.val (.int p1), .unset, .unset, .unset] [(.int (1 : Int32))])) t
      refine XS.istoreN X0.here hx rfl (hb hby at_7) rfl (l' := #[.val (.int p1), .val (.int (1 : Int32)), .unset, .unset]) rfl ?_
      show Steps p.tables e below (s₁.setTop (mkF m 8 #[.val (.int p1), .val (.int (1 : Int32)), .unset, .unset] [])) t
      refine XS.iloadN X0.here hx rfl (hb hby at_8) rfl ?_
      show Steps p.tables e below (s₁.setTop (mkF m 9 #[.val (.int p1), .val (.int (1 : Int32)), .unset, .unset] [(.int (1 : Int32))])) t
      exact st1 t k)
  obtain ⟨cq3, kq3, qa3, qb3, qc3⟩ := isOf hZ e1 (own_E_CR W)
  obtain ⟨vv4, _, ⟨T4, L4, kk4, nn4⟩, -, X4, ⟨Lc4, hQ4, l4, y4, z4⟩, st4⟩ := X1.virtualBackUp hx (x := (⟨"com/example/libsnippet/libsnippet/WordBreak", "ordinal", "()I"⟩ : MethodName)) (y := (⟨"java/lang/Enum", "ordinal", "()I"⟩ : MethodName)) (owner := "java/lang/Enum") hown (mvT hZ (hw _ (List.mem_of_getElem? (i := 8) rfl))) (mvT hZ (hw _ (List.mem_of_getElem? (i := 9) rfl))) (mvT hZ (hw _ (List.mem_of_getElem? (i := 10) rfl))) (by decide) (mvT hZ (hw _ (List.mem_of_getElem? (i := 12) rfl))) (mvT hZ (hw _ (List.mem_of_getElem? (i := 11) rfl))) (backOf (W := 0) (own_ordi_1 l Z a0 hw [] h0 n0 Z0 ad a_VALUES k_VALUES W) hZ (hw _ (List.mem_of_getElem? (i := 14) rfl)) (hw _ (List.mem_of_getElem? (i := 13) rfl)) (by decide) (by decide)) qa3 qc3 (g := (mkF m 36 #[.val (.int p1), .val (.int (1 : Int32)), .val (.ref (ad 11)), .val (.int (0 : Int32))] [(.ref (ad 11))])) rfl (by rw [hml]; rfl) (Steps.refl _) (argsL := []) (rest := []) (lenOf own_pd___I rfl) rfl (by show 2 * 0 + _ ≤ _; exact Nat.le_of_eq rfl) (hb hby at_36) (fun _ _ => ⟨rfl, e1, (by decide : 0 + 0 ≤ _), (by decide : 0 + 0 ≤ _)⟩)
  dsimp only [Pt.U, Pt.locs, Pt.cells, Pt.slots] at X4 l4 y4 z4 st4 hQ4
  subst l4 y4 z4
  obtain ⟨rfl, Nq4, e4⟩ := hQ4
  have N4 := Fr.app N1 Nq4
  have ch5 : ∀ t, Steps p.tables e below (T4.setTop (mkF m 39 #[.val (.int p1), .val (.int (1 : Int32)), .val (.ref (ad 11)), .val (.int (0 : Int32))] [(.int (1 : Int32))])) t → Steps p.tables e below (s₁.setTop (entryFrame m #[(.int p1)] maxLocals)) t := fun t k => ch2 t (by
      show Steps p.tables e below (T1.setTop (mkF m 12 #[.val (.int p1), .val (.int (1 : Int32)), .unset, .unset] [(.ref (ad 11))])) t
      refine XS.astoreN X1.here hx rfl (hb hby at_12) rfl rfl (l' := #[.val (.int p1), .val (.int (1 : Int32)), .val (.ref (ad 11)), .unset]) rfl ?_
      show Steps p.tables e below (T1.setTop (mkF m 13 #[.val (.int p1), .val (.int (1 : Int32)), .val (.ref (ad 11)), .unset] [])) t
      refine XS.iloadN X1.here hx rfl (hb hby at_13) rfl ?_
      show Steps p.tables e below (T1.setTop (mkF m 14 #[.val (.int p1), .val (.int (1 : Int32)), .val (.ref (ad 11)), .unset] [(.int (1 : Int32))])) t
      refine XS.iconst X1.here hx rfl (hb hby at_14) ?_
      show Steps p.tables e below (T1.setTop (mkF m 15 #[.val (.int p1), .val (.int (1 : Int32)), .val (.ref (ad 11)), .unset] [(.int (4 : Int32)), (.int (1 : Int32))])) t
      refine XS.icmpNo X1.here hx rfl (hb hby at_15) rfl (feq (by decide : ¬ (1 : Int32) = (4 : Int32))).1 ?_
      show Steps p.tables e below (T1.setTop (mkF m 18 #[.val (.int p1), .val (.int (1 : Int32)), .val (.ref (ad 11)), .unset] [])) t
      refine XS.iloadN X1.here hx rfl (hb hby at_18) rfl ?_
      show Steps p.tables e below (T1.setTop (mkF m 19 #[.val (.int p1), .val (.int (1 : Int32)), .val (.ref (ad 11)), .unset] [(.int (1 : Int32))])) t
      refine XS.iconst X1.here hx rfl (hb hby at_19) ?_
      show Steps p.tables e below (T1.setTop (mkF m 20 #[.val (.int p1), .val (.int (1 : Int32)), .val (.ref (ad 11)), .unset] [(.int (5 : Int32)), (.int (1 : Int32))])) t
      refine XS.icmpNo X1.here hx rfl (hb hby at_20) rfl (feq (by decide : ¬ (1 : Int32) = (5 : Int32))).1 ?_
      show Steps p.tables e below (T1.setTop (mkF m 23 #[.val (.int p1), .val (.int (1 : Int32)), .val (.ref (ad 11)), .unset] [])) t
      refine XS.iloadN X1.here hx rfl (hb hby at_23) rfl ?_
      show Steps p.tables e below (T1.setTop (mkF m 24 #[.val (.int p1), .val (.int (1 : Int32)), .val (.ref (ad 11)), .unset] [(.int (1 : Int32))])) t
      refine XS.bipush X1.here hx rfl (hb hby at_24) ?_
      show Steps p.tables e below (T1.setTop (mkF m 26 #[.val (.int p1), .val (.int (1 : Int32)), .val (.ref (ad 11)), .unset] [(.int (7 : Int32)), (.int (1 : Int32))])) t
      refine XS.icmpYes X1.here hx rfl (pc0 := 26) (pc' := 33) rfl (hb hby at_26) rfl (feq (by decide : ¬ (1 : Int32) = (7 : Int32))).2 (by decide) (by decide) ?_
      show Steps p.tables e below (T1.setTop (mkF m 33 #[.val (.int p1), .val (.int (1 : Int32)), .val (.ref (ad 11)), .unset] [])) t
      refine XS.iconst X1.here hx rfl (hb hby at_33) ?_
      show Steps p.tables e below (T1.setTop (mkF m 34 #[.val (.int p1), .val (.int (1 : Int32)), .val (.ref (ad 11)), .unset] [(.int (0 : Int32))])) t
      refine XS.istoreN X1.here hx rfl (hb hby at_34) rfl (l' := #[.val (.int p1), .val (.int (1 : Int32)), .val (.ref (ad 11)), .val (.int (0 : Int32))]) rfl ?_
      show Steps p.tables e below (T1.setTop (mkF m 35 #[.val (.int p1), .val (.int (1 : Int32)), .val (.ref (ad 11)), .val (.int (0 : Int32))] [])) t
      refine XS.aloadN X1.here hx rfl (hb hby at_35) rfl rfl ?_
      show Steps p.tables e below (T1.setTop (mkF m 36 #[.val (.int p1), .val (.int (1 : Int32)), .val (.ref (ad 11)), .val (.int (0 : Int32))] [(.ref (ad 11))])) t
      exact st4.trans k)
  obtain ⟨cq6, kq6, qa6, qb6, qc6⟩ := isOf hZ e4 (own_E_CR W)
  obtain ⟨vv7, _, ⟨T7, L7, kk7, nn7⟩, -, X7, ⟨Lc7, hQ7, l7, y7, z7⟩, st7⟩ := X4.virtualBack hx (y := (⟨"com/example/libsnippet/libsnippet/WordBreak", "isIgnorable", "()Z"⟩ : MethodName)) (z := (⟨"com/example/libsnippet/libsnippet/WordBreak", "isIgnorable", "()Z"⟩ : MethodName)) hown (mvT hZ (hw _ (List.mem_of_getElem? (i := 17) rfl))) (mvT hZ (hw _ (List.mem_of_getElem? (i := 18) rfl))) (notFace_of_selects (args := #[]) (mvT hZ (hw _ (List.mem_of_getElem? (i := 20) rfl)))) (mvT hZ (hw _ (List.mem_of_getElem? (i := 20) rfl))) (mvT hZ (hw _ (List.mem_of_getElem? (i := 19) rfl))) (by decide) (backOf (W := 0) (own_pred_1 l Z a0 hw [] h0 n0 Z0 ad a_VALUES k_VALUES W) hZ (hw _ (List.mem_of_getElem? (i := 21) rfl)) (hw _ (List.mem_of_getElem? (i := 3) rfl)) (by decide) (by decide)) qa6 qc6 (g := (mkF m 44 #[.val (.int p1), .val (.int (1 : Int32)), .val (.ref (ad 11)), .val (.int (0 : Int32))] [(.ref (ad 11))])) rfl (by rw [hml]; rfl) (Steps.refl _) (argsL := []) (rest := []) (lenOf own_pd___Z rfl) rfl (by show 2 * 0 + _ ≤ _; exact Nat.le_of_eq rfl) (hb hby at_44) (fun _ _ => ⟨rfl, e4, (by decide : 0 + 0 ≤ _), (by decide : 0 + 0 ≤ _)⟩)
  dsimp only [Pt.U, Pt.locs, Pt.cells, Pt.slots] at X7 l7 y7 z7 st7 hQ7
  subst l7 y7 z7
  obtain ⟨rfl, Nq7, e7⟩ := hQ7
  have N7 := Fr.app N4 Nq7
  have ch8 : ∀ t, Steps p.tables e below (T7.setTop (mkF m 47 #[.val (.int p1), .val (.int (1 : Int32)), .val (.ref (ad 11)), .val (.int (0 : Int32))] [(.int (0 : Int32))])) t → Steps p.tables e below (s₁.setTop (entryFrame m #[(.int p1)] maxLocals)) t := fun t k => ch5 t (by
      show Steps p.tables e below (T4.setTop (mkF m 39 #[.val (.int p1), .val (.int (1 : Int32)), .val (.ref (ad 11)), .val (.int (0 : Int32))] [(.int (1 : Int32))])) t
      refine XS.iloadN X4.here hx rfl (hb hby at_39) rfl ?_
      show Steps p.tables e below (T4.setTop (mkF m 40 #[.val (.int p1), .val (.int (1 : Int32)), .val (.ref (ad 11)), .val (.int (0 : Int32))] [(.int (1 : Int32)), (.int (1 : Int32))])) t
      refine XS.icmpNo X4.here hx rfl (hb hby at_40) rfl (teq (by decide : (1 : Int32) = (1 : Int32))).2 ?_
      show Steps p.tables e below (T4.setTop (mkF m 43 #[.val (.int p1), .val (.int (1 : Int32)), .val (.ref (ad 11)), .val (.int (0 : Int32))] [])) t
      refine XS.aloadN X4.here hx rfl (hb hby at_43) rfl rfl ?_
      show Steps p.tables e below (T4.setTop (mkF m 44 #[.val (.int p1), .val (.int (1 : Int32)), .val (.ref (ad 11)), .val (.int (0 : Int32))] [(.ref (ad 11))])) t
      exact st7.trans k)
  have ch9 : ∀ t, Steps p.tables e below (T7.setTop (mkF m 56 #[.val (.int p1), .val (.int (1 : Int32)), .val (.ref (ad 11)), .val (.int (0 : Int32))] [(.int (1 : Int32))])) t → Steps p.tables e below (s₁.setTop (entryFrame m #[(.int p1)] maxLocals)) t := fun t k => ch8 t (by
      show Steps p.tables e below (T7.setTop (mkF m 47 #[.val (.int p1), .val (.int (1 : Int32)), .val (.ref (ad 11)), .val (.int (0 : Int32))] [(.int (0 : Int32))])) t
      refine XS.iloadN X7.here hx rfl (hb hby at_47) rfl ?_
      show Steps p.tables e below (T7.setTop (mkF m 48 #[.val (.int p1), .val (.int (1 : Int32)), .val (.ref (ad 11)), .val (.int (0 : Int32))] [(.int (0 : Int32)), (.int (0 : Int32))])) t
      refine XS.icmpNo X7.here hx rfl (hb hby at_48) rfl (teq (by decide : (0 : Int32) = (0 : Int32))).2 ?_
      show Steps p.tables e below (T7.setTop (mkF m 51 #[.val (.int p1), .val (.int (1 : Int32)), .val (.ref (ad 11)), .val (.int (0 : Int32))] [])) t
      refine XS.iconst X7.here hx rfl (hb hby at_51) ?_
      show Steps p.tables e below (T7.setTop (mkF m 52 #[.val (.int p1), .val (.int (1 : Int32)), .val (.ref (ad 11)), .val (.int (0 : Int32))] [(.int (1 : Int32))])) t
      refine XS.goto X7.here hx rfl (pc0 := 52) (pc' := 56) rfl (hb hby at_52) (by decide) (by decide) ?_
      exact k)
  obtain ⟨fs, hr, hrun, hended, hW, hsame⟩ := X7.leave (v := some (.int (1 : Int32))) (fun h => by rw [Bd.returns] at h; cases h)
  refine ⟨_, _, ch9 _ ?_, hrun, hended, _, _, rfl, ?_, ⟨_, rfl⟩, hW, hsame.mono (by decide) (by decide)⟩
  · show Steps p.tables e below (T7.setTop (mkF m 56 #[.val (.int p1), .val (.int (1 : Int32)), .val (.ref (ad 11)), .val (.int (0 : Int32))] [(.int (1 : Int32))])) _
    exact retN X7 hx (t := .boolean) Bd.returns (by simp) (hb hby at_56) hr
  · show QN (some (.int (1 : Int32))) n0 _ T7.heap _
    rw [e7]
    exact ⟨rfl, N7⟩
theorem own_ef_own_pick_2 (m : MethodId) {x0 : Int32} : entryFrame m #[(.int x0)] 1 = mkF m 0 #[.val (.int x0)] [] := by first | (simp [entryFrame, mkF, argsToLocals, Value.category, maxLocals]; done) | rfl
set_option maxRecDepth 65536 in
set_option maxHeartbeats 40000000 in
theorem own_pick_2 (l : Launch) (Z : State) (a0 : Array Value) (hw : ∀ d ∈ tables_1, d.before a0 Z = true) (ws : List Jvm.Cond) (h0 : Heap) (n0 : Nat) (Z0 : n0 ≤ h0.size) (ad : Nat → Addr) (a_VALUES : Addr) (k_VALUES : ClassId) (W : OwnWd Z h0 ad a_VALUES k_VALUES) :
    MetFree l (⟨"com/example/libsnippet/libsnippet/WordBreak", "ofOrdinal", "(I)Lcom/example/libsnippet/libsnippet/WordBreak;"⟩ : MethodName) (head1 (Jvm.Cond.code (⟨"com/example/libsnippet/libsnippet/WordBreak", "ofOrdinal", "(I)Lcom/example/libsnippet/libsnippet/WordBreak;"⟩ : MethodName) prog_11_method_5_code 1 (some (.object "com/example/libsnippet/libsnippet/WordBreak")) :: ws) ({ frames := 0, cells := 0, slots := 0, locals := 0 } : Room)) (fun a U => a = #[(.int (2 : Int32))] ∧ Z.Warmed39 U.vm ∧ U.heap = h0) (fun _ _ _ _ _ => True) (fun _ U o U' => ∃ v L, o = .returned v ∧ QV (some (.ref (ad 7))) h0 n0 v U'.heap L ∧ FrameEnd U o U' L ({ frames := 0, cells := 0, slots := 0, locals := 0 } : Room).cells ({ frames := 0, cells := 0, slots := 0, locals := 0 } : Room).slots) := by
  refine MetFree.of_bodySF (plainFor_of_name own_pn_com_example_libsnippet_libsnippet_WordBreak) hisR ?_
  intro p e s m args below meth c s₁ Bd hml0 hP hK
  obtain ⟨rfl, hZ, hh⟩ := hP
  have hx := Bd.exec
  have hby := Bd.bytes
  have hml : c.maxLocals = 1 := hml0
  have hown : s.vm.findClass "com/example/libsnippet/libsnippet/WordBreak" = some m.cls := findClass_of_methodNamed Bd.named
  have hnm := (name_of_methodNamed Bd.named Bd.method).1
  have X0 : Stand p l e ({ frames := 0, cells := 0, slots := 0, locals := 0 } : Room) s m #[(.int (2 : Int32))] below meth c s₁ [] 0 0 := Stand.of_body Bd
  have e0 : s₁.heap = h0 := by rw [← hh, Bd.state]; rfl
  have N0 := Fr.nil n0
  have pre0 : ∀ t, Steps p.tables e below (s₁.setTop (mkF m 0 #[.val (.int (2 : Int32))] [])) t → Steps p.tables e below (s₁.setTop (entryFrame m #[(.int (2 : Int32))] 1)) t := fun t k => castTop (own_ef_own_pick_2 m) k
  obtain ⟨T1, X1, e1, st1⟩ := getS2 X0 hx hZ hown (host := "") (Or.inl (hw _ (List.mem_of_getElem? (i := 5) rfl))) Via.refl e0 (own_S_VALUES W) (g := (mkF m 0 #[.val (.int (2 : Int32))] [])) rfl (hb hby own_d_prog_11_method_5_code_0)
  have ch2 : ∀ t, Steps p.tables e below (T1.setTop (mkF m 3 #[.val (.int (2 : Int32))] [(.ref a_VALUES)])) t → Steps p.tables e below (s₁.setTop (entryFrame m #[(.int (2 : Int32))] 1)) t := fun t k => pre0 t (by
      show Steps p.tables e below (s₁.setTop (mkF m 0 #[.val (.int (2 : Int32))] [])) t
      exact st1 t k)
  obtain ⟨cl3, Ar3, -, Sz3, Ng3, Ha3, -⟩ := (own_V_VALUES W)
  have hin3 : ¬ ((2 : Int32) < 0 ∨ cl3.slots.size ≤ ((2 : Int32)).toNatClampNeg) := inb_of Sz3 (by decide)
  have hat3 : cl3.slots[((2 : Int32)).toNatClampNeg]? = some (.ref (ad 7)) := Ha3.at hin3 rfl
  have ch4 : ∀ t, Steps p.tables e below (T1.setTop (mkF m 5 #[.val (.int (2 : Int32))] [(.ref (ad 7))])) t → Steps p.tables e below (s₁.setTop (entryFrame m #[(.int (2 : Int32))] 1)) t := fun t k => ch2 t (by
      show Steps p.tables e below (T1.setTop (mkF m 3 #[.val (.int (2 : Int32))] [(.ref a_VALUES)])) t
      refine XS.iloadN X1.here hx rfl (hb hby own_d_prog_11_method_5_code_3) rfl ?_
      show Steps p.tables e below (T1.setTop (mkF m 4 #[.val (.int (2 : Int32))] [(.int (2 : Int32)), (.ref a_VALUES)])) t
      refine X1.aaload hx (j := (2 : Int32)) (v := (.ref (ad 7))) (by rw [e1]; exact Ar3.1) (State.isArrayOf_alike hZ.alike Ar3.2.1) rfl Ar3.2.2 hin3 hat3 (g := (mkF m 4 #[.val (.int (2 : Int32))] [(.int (2 : Int32)), (.ref a_VALUES)])) rfl rfl (hb hby own_d_prog_11_method_5_code_4) _ ?_
      exact k)
  obtain ⟨fs, hr, hrun, hended, hW, hsame⟩ := X1.leave (v := some (.ref (ad 7))) (fun h => by rw [Bd.returns] at h; cases h)
  refine ⟨_, _, ch4 _ ?_, hrun, hended, _, _, rfl, ?_, ⟨_, rfl⟩, hW, hsame.mono (by decide) (by decide)⟩
  · show Steps p.tables e below (T1.setTop (mkF m 5 #[.val (.int (2 : Int32))] [(.ref (ad 7))])) _
    jvm_step X1.here [X1.here.top, hx, (hb hby own_d_prog_11_method_5_code_5), X1.method', Bd.returns, Value.isRef, FieldType.isReference]
    first | (intro acts; rw [hr _ acts rfl rfl rfl]) | rw [hr _ _ rfl rfl rfl]
    exact Steps.refl _
  · show QV (some (.ref (ad 7))) h0 n0 _ T1.heap _
    rw [e1]
    exact ⟨rfl, N0, rfl⟩
theorem own_ef_own_pred_2 (m : MethodId) {x0 : Addr} : entryFrame m #[(.ref x0)] 1 = mkF m 0 #[.val (.ref x0)] [] := by first | (simp [entryFrame, mkF, argsToLocals, Value.category, maxLocals]; done) | rfl
set_option maxRecDepth 65536 in
set_option maxHeartbeats 40000000 in
theorem own_pred_2 (l : Launch) (Z : State) (a0 : Array Value) (hw : ∀ d ∈ tables_1, d.before a0 Z = true) (ws : List Jvm.Cond) (h0 : Heap) (n0 : Nat) (Z0 : n0 ≤ h0.size) (ad : Nat → Addr) (a_VALUES : Addr) (k_VALUES : ClassId) (W : OwnWd Z h0 ad a_VALUES k_VALUES) :
    MetFree l (⟨"com/example/libsnippet/libsnippet/WordBreak", "isIgnorable", "()Z"⟩ : MethodName) (head1 (Jvm.Cond.code (⟨"com/example/libsnippet/libsnippet/WordBreak", "isIgnorable", "()Z"⟩ : MethodName) prog_11_method_7_code 1 (some .boolean) :: ws) ({ frames := 0, cells := 0, slots := 0, locals := 0 } : Room)) (fun a U => a = #[(.ref (ad 7))] ∧ Z.Warmed39 U.vm ∧ U.heap = h0) (fun _ _ _ _ _ => True) (fun _ U o U' => ∃ v L, o = .returned v ∧ QV (some (.int (0 : Int32))) h0 n0 v U'.heap L ∧ FrameEnd U o U' L ({ frames := 0, cells := 0, slots := 0, locals := 0 } : Room).cells ({ frames := 0, cells := 0, slots := 0, locals := 0 } : Room).slots) := by
  refine MetFree.of_bodySF (plainFor_of_name own_pn_com_example_libsnippet_libsnippet_WordBreak) hisR ?_
  intro p e s m args below meth c s₁ Bd hml0 hP hK
  obtain ⟨rfl, hZ, hh⟩ := hP
  have hx := Bd.exec
  have hby := Bd.bytes
  have hml : c.maxLocals = 1 := hml0
  have hown : s.vm.findClass "com/example/libsnippet/libsnippet/WordBreak" = some m.cls := findClass_of_methodNamed Bd.named
  have hnm := (name_of_methodNamed Bd.named Bd.method).1
  have X0 : Stand p l e ({ frames := 0, cells := 0, slots := 0, locals := 0 } : Room) s m #[(.ref (ad 7))] below meth c s₁ [] 0 0 := Stand.of_body Bd
  have e0 : s₁.heap = h0 := by rw [← hh, Bd.state]; rfl
  have N0 := Fr.nil n0
  have pre0 : ∀ t, Steps p.tables e below (s₁.setTop (mkF m 0 #[.val (.ref (ad 7))] [])) t → Steps p.tables e below (s₁.setTop (entryFrame m #[(.ref (ad 7))] 1)) t := fun t k => castTop (own_ef_own_pred_2 m) k
  obtain ⟨T1, X1, e1, st1⟩ := getS2 X0 hx hZ hown (host := "") (Or.inl (hw _ (List.mem_of_getElem? (i := 22) rfl))) Via.refl e0 (own_S_EXTEND W) (g := (mkF m 1 #[.val (.ref (ad 7))] [(.ref (ad 7))])) rfl (hb hby own_d_prog_11_method_7_code_1)
  have ch2 : ∀ t, Steps p.tables e below (T1.setTop (mkF m 4 #[.val (.ref (ad 7))] [(.ref (ad 1)), (.ref (ad 7))])) t → Steps p.tables e below (s₁.setTop (entryFrame m #[(.ref (ad 7))] 1)) t := fun t k => pre0 t (by
      show Steps p.tables e below (s₁.setTop (mkF m 0 #[.val (.ref (ad 7))] [])) t
      refine XS.aloadN X0.here hx rfl (hb hby own_d_prog_11_method_7_code_0) rfl rfl ?_
      show Steps p.tables e below (s₁.setTop (mkF m 1 #[.val (.ref (ad 7))] [(.ref (ad 7))])) t
      exact st1 t k)
  obtain ⟨T3, X3, e3, st3⟩ := getS2 X1 hx hZ hown (host := "") (Or.inl (hw _ (List.mem_of_getElem? (i := 24) rfl))) Via.refl e1 (own_S_FORMAT W) (g := (mkF m 8 #[.val (.ref (ad 7))] [(.ref (ad 7))])) rfl (hb hby own_d_prog_11_method_7_code_8)
  have ch4 : ∀ t, Steps p.tables e below (T3.setTop (mkF m 11 #[.val (.ref (ad 7))] [(.ref (ad 2)), (.ref (ad 7))])) t → Steps p.tables e below (s₁.setTop (entryFrame m #[(.ref (ad 7))] 1)) t := fun t k => ch2 t (by
      show Steps p.tables e below (T1.setTop (mkF m 4 #[.val (.ref (ad 7))] [(.ref (ad 1)), (.ref (ad 7))])) t
      refine Jvm.RoadKit.acmp (g := (mkF m 4 #[.val (.ref (ad 7))] [(.ref (ad 1)), (.ref (ad 7))])) X1 hx rfl rfl rfl (pc0 := 4) (pc' := 7) (same := false) rfl (hb hby own_d_prog_11_method_7_code_4) rfl (decide_eq_false fun q => (Fld.ne (own_F_LF_ordinal W) (own_F_EXTEND_ordinal W) (by decide)) (Value.ref.inj q)) (by decide) (by decide) ?_
      show Steps p.tables e below (T1.setTop (mkF m 7 #[.val (.ref (ad 7))] [])) t
      refine XS.aloadN X1.here hx rfl (hb hby own_d_prog_11_method_7_code_7) rfl rfl ?_
      show Steps p.tables e below (T1.setTop (mkF m 8 #[.val (.ref (ad 7))] [(.ref (ad 7))])) t
      exact st3 t k)
  obtain ⟨T5, X5, e5, st5⟩ := getS2 X3 hx hZ hown (host := "") (Or.inl (hw _ (List.mem_of_getElem? (i := 26) rfl))) Via.refl e3 (own_S_ZWJ W) (g := (mkF m 15 #[.val (.ref (ad 7))] [(.ref (ad 7))])) rfl (hb hby own_d_prog_11_method_7_code_15)
  have ch6 : ∀ t, Steps p.tables e below (T5.setTop (mkF m 18 #[.val (.ref (ad 7))] [(.ref (ad 3)), (.ref (ad 7))])) t → Steps p.tables e below (s₁.setTop (entryFrame m #[(.ref (ad 7))] 1)) t := fun t k => ch4 t (by
      show Steps p.tables e below (T3.setTop (mkF m 11 #[.val (.ref (ad 7))] [(.ref (ad 2)), (.ref (ad 7))])) t
      refine Jvm.RoadKit.acmp (g := (mkF m 11 #[.val (.ref (ad 7))] [(.ref (ad 2)), (.ref (ad 7))])) X3 hx rfl rfl rfl (pc0 := 11) (pc' := 14) (same := false) rfl (hb hby own_d_prog_11_method_7_code_11) rfl (decide_eq_false fun q => (Fld.ne (own_F_LF_ordinal W) (own_F_FORMAT_ordinal W) (by decide)) (Value.ref.inj q)) (by decide) (by decide) ?_
      show Steps p.tables e below (T3.setTop (mkF m 14 #[.val (.ref (ad 7))] [])) t
      refine XS.aloadN X3.here hx rfl (hb hby own_d_prog_11_method_7_code_14) rfl rfl ?_
      show Steps p.tables e below (T3.setTop (mkF m 15 #[.val (.ref (ad 7))] [(.ref (ad 7))])) t
      exact st5 t k)
  have ch7 : ∀ t, Steps p.tables e below (T5.setTop (mkF m 26 #[.val (.ref (ad 7))] [(.int (0 : Int32))])) t → Steps p.tables e below (s₁.setTop (entryFrame m #[(.ref (ad 7))] 1)) t := fun t k => ch6 t (by
      show Steps p.tables e below (T5.setTop (mkF m 18 #[.val (.ref (ad 7))] [(.ref (ad 3)), (.ref (ad 7))])) t
      refine Jvm.RoadKit.acmp (g := (mkF m 18 #[.val (.ref (ad 7))] [(.ref (ad 3)), (.ref (ad 7))])) X5 hx rfl rfl rfl (pc0 := 18) (pc' := 25) (same := false) rfl (hb hby own_d_prog_11_method_7_code_18) rfl (decide_eq_false fun q => (Fld.ne (own_F_LF_ordinal W) (own_F_ZWJ_ordinal W) (by decide)) (Value.ref.inj q)) (by decide) (by decide) ?_
      show Steps p.tables e below (T5.setTop (mkF m 25 #[.val (.ref (ad 7))] [])) t
      refine XS.iconst X5.here hx rfl (hb hby own_d_prog_11_method_7_code_25) ?_
      exact k)
  obtain ⟨fs, hr, hrun, hended, hW, hsame⟩ := X5.leave (v := some (.int (0 : Int32))) (fun h => by rw [Bd.returns] at h; cases h)
  refine ⟨_, _, ch7 _ ?_, hrun, hended, _, _, rfl, ?_, ⟨_, rfl⟩, hW, hsame.mono (by decide) (by decide)⟩
  · show Steps p.tables e below (T5.setTop (mkF m 26 #[.val (.ref (ad 7))] [(.int (0 : Int32))])) _
    exact retN X5 hx (t := .boolean) Bd.returns (by simp) (hb hby own_d_prog_11_method_7_code_26) hr
  · show QV (some (.int (0 : Int32))) h0 n0 _ T5.heap _
    rw [e5]
    exact ⟨rfl, N0, rfl⟩
theorem own_ef_own_ordi_2 (m : MethodId) {x0 : Addr} : entryFrame m #[(.ref x0)] 1 = mkF m 0 #[.val (.ref x0)] [] := by first | (simp [entryFrame, mkF, argsToLocals, Value.category, maxLocals]; done) | rfl
set_option maxRecDepth 65536 in
set_option maxHeartbeats 40000000 in
theorem own_ordi_2 (l : Launch) (Z : State) (a0 : Array Value) (hw : ∀ d ∈ tables_1, d.before a0 Z = true) (ws : List Jvm.Cond) (h0 : Heap) (n0 : Nat) (Z0 : n0 ≤ h0.size) (ad : Nat → Addr) (a_VALUES : Addr) (k_VALUES : ClassId) (W : OwnWd Z h0 ad a_VALUES k_VALUES) :
    MetFree l (⟨"java/lang/Enum", "ordinal", "()I"⟩ : MethodName) (head1 (Jvm.Cond.code (⟨"java/lang/Enum", "ordinal", "()I"⟩ : MethodName) jdk_37_method_2_code 1 (some .int) :: ws) ({ frames := 0, cells := 0, slots := 0, locals := 0 } : Room)) (fun a U => a = #[(.ref (ad 7))] ∧ Z.Warmed39 U.vm ∧ U.heap = h0) (fun _ _ _ _ _ => True) (fun _ U o U' => ∃ v L, o = .returned v ∧ QV (some (.int (2 : Int32))) h0 n0 v U'.heap L ∧ FrameEnd U o U' L ({ frames := 0, cells := 0, slots := 0, locals := 0 } : Room).cells ({ frames := 0, cells := 0, slots := 0, locals := 0 } : Room).slots) := by
  refine MetFree.of_bodySF (plainFor_of_name own_pn_java_lang_Enum) hisR ?_
  intro p e s m args below meth c s₁ Bd hml0 hP hK
  obtain ⟨rfl, hZ, hh⟩ := hP
  have hx := Bd.exec
  have hby := Bd.bytes
  have hml : c.maxLocals = 1 := hml0
  have hown : s.vm.findClass "java/lang/Enum" = some m.cls := findClass_of_methodNamed Bd.named
  have hnm := (name_of_methodNamed Bd.named Bd.method).1
  have X0 : Stand p l e ({ frames := 0, cells := 0, slots := 0, locals := 0 } : Room) s m #[(.ref (ad 7))] below meth c s₁ [] 0 0 := Stand.of_body Bd
  have e0 : s₁.heap = h0 := by rw [← hh, Bd.state]; rfl
  have N0 := Fr.nil n0
  have pre0 : ∀ t, Steps p.tables e below (s₁.setTop (mkF m 0 #[.val (.ref (ad 7))] [])) t → Steps p.tables e below (s₁.setTop (entryFrame m #[(.ref (ad 7))] 1)) t := fun t k => castTop (own_ef_own_ordi_2 m) k
  obtain ⟨T1, X1, e1, st1⟩ := getF X0 hx hZ hown (host := "") (Or.inl (hw _ (List.mem_of_getElem? (i := 15) rfl))) Via.refl e0 (own_F_LF_ordinal W) (g := (mkF m 1 #[.val (.ref (ad 7))] [(.ref (ad 7))])) rfl rfl (hb hby own_d_jdk_37_method_2_code_1)
  have ch2 : ∀ t, Steps p.tables e below (T1.setTop (mkF m 4 #[.val (.ref (ad 7))] [(.int (2 : Int32))])) t → Steps p.tables e below (s₁.setTop (entryFrame m #[(.ref (ad 7))] 1)) t := fun t k => pre0 t (by
      show Steps p.tables e below (s₁.setTop (mkF m 0 #[.val (.ref (ad 7))] [])) t
      refine XS.aloadN X0.here hx rfl (hb hby own_d_jdk_37_method_2_code_0) rfl rfl ?_
      show Steps p.tables e below (s₁.setTop (mkF m 1 #[.val (.ref (ad 7))] [(.ref (ad 7))])) t
      exact st1 t k)
  obtain ⟨fs, hr, hrun, hended, hW, hsame⟩ := X1.leave (v := some (.int (2 : Int32))) (fun h => by rw [Bd.returns] at h; cases h)
  refine ⟨_, _, ch2 _ ?_, hrun, hended, _, _, rfl, ?_, ⟨_, rfl⟩, hW, hsame.mono (by decide) (by decide)⟩
  · show Steps p.tables e below (T1.setTop (mkF m 4 #[.val (.ref (ad 7))] [(.int (2 : Int32))])) _
    exact retI X1 hx Bd.returns (hb hby own_d_jdk_37_method_2_code_4) hr
  · show QV (some (.int (2 : Int32))) h0 n0 _ T1.heap _
    rw [e1]
    exact ⟨rfl, N0, rfl⟩
theorem own_ef_own_law_2 (m : MethodId) {x0 : Int32} : entryFrame m #[(.int x0)] maxLocals = mkF m 0 #[.val (.int x0), .unset, .unset, .unset] [] := by first | (simp [entryFrame, mkF, argsToLocals, Value.category, maxLocals]; done) | rfl
set_option maxRecDepth 65536 in
set_option maxHeartbeats 40000000 in
theorem own_law_2 (l : Launch) (Z : State) (a0 : Array Value) (hw : ∀ d ∈ tables_1, d.before a0 Z = true) (ws : List Jvm.Cond) (h0 : Heap) (n0 : Nat) (Z0 : n0 ≤ h0.size) (p1 : Int32) (hk : (p1 &&& (2147483647 : Int32)) % (19 : Int32) = (2 : Int32)) (ad : Nat → Addr) (a_VALUES : Addr) (k_VALUES : ClassId) (W : OwnWd Z h0 ad a_VALUES k_VALUES) :
    MetFree l x (head1 (Jvm.Cond.code x code maxLocals ret :: ws) room_1) (fun a U => a = #[(.int p1)] ∧ Z.Warmed39 U.vm ∧ U.heap = h0) (fun _ _ _ _ _ => True) (fun _ U o U' => ∃ v L, o = .returned v ∧ QN (some (.int (1 : Int32))) n0 v U'.heap L ∧ FrameEnd U o U' L room_1.cells room_1.slots) := by
  refine MetFree.of_bodySF (plainFor_of_name own_pn_com_example_libsnippet_libsnippet_WordBreakIsIgnorablePinLaw) hisR ?_
  intro p e s m args below meth c s₁ Bd hml0 hP hK
  obtain ⟨rfl, hZ, hh⟩ := hP
  have hx := Bd.exec
  have hby := Bd.bytes
  have hml : c.maxLocals = 4 := hml0
  have hown : s.vm.findClass "com/example/libsnippet/libsnippet/WordBreakIsIgnorablePinLaw" = some m.cls := findClass_of_methodNamed Bd.named
  have hnm := (name_of_methodNamed Bd.named Bd.method).1
  have X0 : Stand p l e room_1 s m #[(.int p1)] below meth c s₁ [] 0 0 := Stand.of_body Bd
  have e0 : s₁.heap = h0 := by rw [← hh, Bd.state]; rfl
  have N0 := Fr.nil n0
  have pre0 : ∀ t, Steps p.tables e below (s₁.setTop (mkF m 0 #[.val (.int p1), .unset, .unset, .unset] [])) t → Steps p.tables e below (s₁.setTop (entryFrame m #[(.int p1)] maxLocals)) t := fun t k => castTop (own_ef_own_law_2 m) k
  obtain ⟨vv1, _, ⟨T1, L1, kk1, nn1⟩, -, X1, ⟨Lc1, hQ1, l1, y1, z1⟩, st1⟩ := Jvm.LawKit.callS X0 hx (y := (⟨"com/example/libsnippet/libsnippet/WordBreak", "ofOrdinal", "(I)Lcom/example/libsnippet/libsnippet/WordBreak;"⟩ : MethodName)) hown (mvT hZ (hw _ (List.mem_of_getElem? (i := 1) rfl))) (mvT hZ (hw _ (List.mem_of_getElem? (i := 2) rfl))) (mvT hZ (hw _ (List.mem_of_getElem? (i := 3) rfl))) (mvT hZ (hw _ (List.mem_of_getElem? (i := 4) rfl))) (by decide) (backOf (W := 0) (own_pick_2 l Z a0 hw [] h0 n0 Z0 ad a_VALUES k_VALUES W) hZ (hw _ (List.mem_of_getElem? (i := 4) rfl)) (hw _ (List.mem_of_getElem? (i := 3) rfl)) (by decide) (by decide)) (g := (mkF m 9 #[.val (.int p1), .val (.int (2 : Int32)), .unset, .unset] [(.int (2 : Int32))])) rfl (by rw [hml]; rfl) (argsL := [(.int (2 : Int32))]) (rest := []) (lenOf own_pd__I_Lcom_example_libsnippet_libsnippet_WordBreak_ rfl) rfl (by show 2 * 0 + _ ≤ _; exact Nat.le_of_eq rfl) (hb hby at_9) (fun _ _ => ⟨rfl, e0, (by decide : 0 + 0 ≤ _), (by decide : 0 + 0 ≤ _)⟩)
  dsimp only [Pt.U, Pt.locs, Pt.cells, Pt.slots] at X1 l1 y1 z1 st1 hQ1
  subst l1 y1 z1
  obtain ⟨rfl, Nq1, e1⟩ := hQ1
  have N1 := Fr.app N0 Nq1
  have ch2 : ∀ t, Steps p.tables e below (T1.setTop (mkF m 12 #[.val (.int p1), .val (.int (2 : Int32)), .unset, .unset] [(.ref (ad 7))])) t → Steps p.tables e below (s₁.setTop (entryFrame m #[(.int p1)] maxLocals)) t := fun t k => pre0 t (by
      show Steps p.tables e below (s₁.setTop (mkF m 0 #[.val (.int p1), .unset, .unset, .unset] [])) t
      refine XS.iloadN X0.here hx rfl (hb hby at_0) rfl ?_
      show Steps p.tables e below (s₁.setTop (mkF m 1 #[.val (.int p1), .unset, .unset, .unset] [(.int p1)])) t
      refine X0.ldcInt hx hown (mvT hZ (hw _ (List.mem_of_getElem? (i := 0) rfl))) (g := (mkF m 1 #[.val (.int p1), .unset, .unset, .unset] [(.int p1)])) rfl (hb hby at_1) _ ?_
      show Steps p.tables e below (s₁.setTop (mkF m 3 #[.val (.int p1), .unset, .unset, .unset] [(.int (2147483647 : Int32)), (.int p1)])) t
      refine XS.iand X0.here hx rfl (hb hby at_3) rfl ?_
      show Steps p.tables e below (s₁.setTop (mkF m 4 #[.val (.int p1), .unset, .unset, .unset] [(.int (p1 &&& (2147483647 : Int32)))])) t
      refine XS.bipush X0.here hx rfl (hb hby at_4) ?_
      show Steps p.tables e below (s₁.setTop (mkF m 6 #[.val (.int p1), .unset, .unset, .unset] [(.int (19 : Int32)), (.int (p1 &&& (2147483647 : Int32)))])) t
      refine Jvm.RoadKit.iremM (g := (mkF m 6 #[.val (.int p1), .unset, .unset, .unset] [(.int (19 : Int32)), (.int (p1 &&& (2147483647 : Int32)))])) X0 hx rfl (hb hby at_6) rfl (by decide) ?_
      rw [hk]
      show Steps p.tables e below (s₁.setTop (mkF m 7 #[.val (.int p1), .unset, .unset, .unset] [(.int (2 : Int32))])) t
      refine XS.istoreN X0.here hx rfl (hb hby at_7) rfl (l' := #[.val (.int p1), .val (.int (2 : Int32)), .unset, .unset]) rfl ?_
      show Steps p.tables e below (s₁.setTop (mkF m 8 #[.val (.int p1), .val (.int (2 : Int32)), .unset, .unset] [])) t
      refine XS.iloadN X0.here hx rfl (hb hby at_8) rfl ?_
      show Steps p.tables e below (s₁.setTop (mkF m 9 #[.val (.int p1), .val (.int (2 : Int32)), .unset, .unset] [(.int (2 : Int32))])) t
      exact st1 t k)
  obtain ⟨cq3, kq3, qa3, qb3, qc3⟩ := isOf hZ e1 (own_E_LF W)
  obtain ⟨vv4, _, ⟨T4, L4, kk4, nn4⟩, -, X4, ⟨Lc4, hQ4, l4, y4, z4⟩, st4⟩ := X1.virtualBackUp hx (x := (⟨"com/example/libsnippet/libsnippet/WordBreak", "ordinal", "()I"⟩ : MethodName)) (y := (⟨"java/lang/Enum", "ordinal", "()I"⟩ : MethodName)) (owner := "java/lang/Enum") hown (mvT hZ (hw _ (List.mem_of_getElem? (i := 8) rfl))) (mvT hZ (hw _ (List.mem_of_getElem? (i := 9) rfl))) (mvT hZ (hw _ (List.mem_of_getElem? (i := 10) rfl))) (by decide) (mvT hZ (hw _ (List.mem_of_getElem? (i := 12) rfl))) (mvT hZ (hw _ (List.mem_of_getElem? (i := 11) rfl))) (backOf (W := 0) (own_ordi_2 l Z a0 hw [] h0 n0 Z0 ad a_VALUES k_VALUES W) hZ (hw _ (List.mem_of_getElem? (i := 14) rfl)) (hw _ (List.mem_of_getElem? (i := 13) rfl)) (by decide) (by decide)) qa3 qc3 (g := (mkF m 36 #[.val (.int p1), .val (.int (2 : Int32)), .val (.ref (ad 7)), .val (.int (0 : Int32))] [(.ref (ad 7))])) rfl (by rw [hml]; rfl) (Steps.refl _) (argsL := []) (rest := []) (lenOf own_pd___I rfl) rfl (by show 2 * 0 + _ ≤ _; exact Nat.le_of_eq rfl) (hb hby at_36) (fun _ _ => ⟨rfl, e1, (by decide : 0 + 0 ≤ _), (by decide : 0 + 0 ≤ _)⟩)
  dsimp only [Pt.U, Pt.locs, Pt.cells, Pt.slots] at X4 l4 y4 z4 st4 hQ4
  subst l4 y4 z4
  obtain ⟨rfl, Nq4, e4⟩ := hQ4
  have N4 := Fr.app N1 Nq4
  have ch5 : ∀ t, Steps p.tables e below (T4.setTop (mkF m 39 #[.val (.int p1), .val (.int (2 : Int32)), .val (.ref (ad 7)), .val (.int (0 : Int32))] [(.int (2 : Int32))])) t → Steps p.tables e below (s₁.setTop (entryFrame m #[(.int p1)] maxLocals)) t := fun t k => ch2 t (by
      show Steps p.tables e below (T1.setTop (mkF m 12 #[.val (.int p1), .val (.int (2 : Int32)), .unset, .unset] [(.ref (ad 7))])) t
      refine XS.astoreN X1.here hx rfl (hb hby at_12) rfl rfl (l' := #[.val (.int p1), .val (.int (2 : Int32)), .val (.ref (ad 7)), .unset]) rfl ?_
      show Steps p.tables e below (T1.setTop (mkF m 13 #[.val (.int p1), .val (.int (2 : Int32)), .val (.ref (ad 7)), .unset] [])) t
      refine XS.iloadN X1.here hx rfl (hb hby at_13) rfl ?_
      show Steps p.tables e below (T1.setTop (mkF m 14 #[.val (.int p1), .val (.int (2 : Int32)), .val (.ref (ad 7)), .unset] [(.int (2 : Int32))])) t
      refine XS.iconst X1.here hx rfl (hb hby at_14) ?_
      show Steps p.tables e below (T1.setTop (mkF m 15 #[.val (.int p1), .val (.int (2 : Int32)), .val (.ref (ad 7)), .unset] [(.int (4 : Int32)), (.int (2 : Int32))])) t
      refine XS.icmpNo X1.here hx rfl (hb hby at_15) rfl (feq (by decide : ¬ (2 : Int32) = (4 : Int32))).1 ?_
      show Steps p.tables e below (T1.setTop (mkF m 18 #[.val (.int p1), .val (.int (2 : Int32)), .val (.ref (ad 7)), .unset] [])) t
      refine XS.iloadN X1.here hx rfl (hb hby at_18) rfl ?_
      show Steps p.tables e below (T1.setTop (mkF m 19 #[.val (.int p1), .val (.int (2 : Int32)), .val (.ref (ad 7)), .unset] [(.int (2 : Int32))])) t
      refine XS.iconst X1.here hx rfl (hb hby at_19) ?_
      show Steps p.tables e below (T1.setTop (mkF m 20 #[.val (.int p1), .val (.int (2 : Int32)), .val (.ref (ad 7)), .unset] [(.int (5 : Int32)), (.int (2 : Int32))])) t
      refine XS.icmpNo X1.here hx rfl (hb hby at_20) rfl (feq (by decide : ¬ (2 : Int32) = (5 : Int32))).1 ?_
      show Steps p.tables e below (T1.setTop (mkF m 23 #[.val (.int p1), .val (.int (2 : Int32)), .val (.ref (ad 7)), .unset] [])) t
      refine XS.iloadN X1.here hx rfl (hb hby at_23) rfl ?_
      show Steps p.tables e below (T1.setTop (mkF m 24 #[.val (.int p1), .val (.int (2 : Int32)), .val (.ref (ad 7)), .unset] [(.int (2 : Int32))])) t
      refine XS.bipush X1.here hx rfl (hb hby at_24) ?_
      show Steps p.tables e below (T1.setTop (mkF m 26 #[.val (.int p1), .val (.int (2 : Int32)), .val (.ref (ad 7)), .unset] [(.int (7 : Int32)), (.int (2 : Int32))])) t
      refine XS.icmpYes X1.here hx rfl (pc0 := 26) (pc' := 33) rfl (hb hby at_26) rfl (feq (by decide : ¬ (2 : Int32) = (7 : Int32))).2 (by decide) (by decide) ?_
      show Steps p.tables e below (T1.setTop (mkF m 33 #[.val (.int p1), .val (.int (2 : Int32)), .val (.ref (ad 7)), .unset] [])) t
      refine XS.iconst X1.here hx rfl (hb hby at_33) ?_
      show Steps p.tables e below (T1.setTop (mkF m 34 #[.val (.int p1), .val (.int (2 : Int32)), .val (.ref (ad 7)), .unset] [(.int (0 : Int32))])) t
      refine XS.istoreN X1.here hx rfl (hb hby at_34) rfl (l' := #[.val (.int p1), .val (.int (2 : Int32)), .val (.ref (ad 7)), .val (.int (0 : Int32))]) rfl ?_
      show Steps p.tables e below (T1.setTop (mkF m 35 #[.val (.int p1), .val (.int (2 : Int32)), .val (.ref (ad 7)), .val (.int (0 : Int32))] [])) t
      refine XS.aloadN X1.here hx rfl (hb hby at_35) rfl rfl ?_
      show Steps p.tables e below (T1.setTop (mkF m 36 #[.val (.int p1), .val (.int (2 : Int32)), .val (.ref (ad 7)), .val (.int (0 : Int32))] [(.ref (ad 7))])) t
      exact st4.trans k)
  obtain ⟨cq6, kq6, qa6, qb6, qc6⟩ := isOf hZ e4 (own_E_LF W)
  obtain ⟨vv7, _, ⟨T7, L7, kk7, nn7⟩, -, X7, ⟨Lc7, hQ7, l7, y7, z7⟩, st7⟩ := X4.virtualBack hx (y := (⟨"com/example/libsnippet/libsnippet/WordBreak", "isIgnorable", "()Z"⟩ : MethodName)) (z := (⟨"com/example/libsnippet/libsnippet/WordBreak", "isIgnorable", "()Z"⟩ : MethodName)) hown (mvT hZ (hw _ (List.mem_of_getElem? (i := 17) rfl))) (mvT hZ (hw _ (List.mem_of_getElem? (i := 18) rfl))) (notFace_of_selects (args := #[]) (mvT hZ (hw _ (List.mem_of_getElem? (i := 20) rfl)))) (mvT hZ (hw _ (List.mem_of_getElem? (i := 20) rfl))) (mvT hZ (hw _ (List.mem_of_getElem? (i := 19) rfl))) (by decide) (backOf (W := 0) (own_pred_2 l Z a0 hw [] h0 n0 Z0 ad a_VALUES k_VALUES W) hZ (hw _ (List.mem_of_getElem? (i := 21) rfl)) (hw _ (List.mem_of_getElem? (i := 3) rfl)) (by decide) (by decide)) qa6 qc6 (g := (mkF m 44 #[.val (.int p1), .val (.int (2 : Int32)), .val (.ref (ad 7)), .val (.int (0 : Int32))] [(.ref (ad 7))])) rfl (by rw [hml]; rfl) (Steps.refl _) (argsL := []) (rest := []) (lenOf own_pd___Z rfl) rfl (by show 2 * 0 + _ ≤ _; exact Nat.le_of_eq rfl) (hb hby at_44) (fun _ _ => ⟨rfl, e4, (by decide : 0 + 0 ≤ _), (by decide : 0 + 0 ≤ _)⟩)
  dsimp only [Pt.U, Pt.locs, Pt.cells, Pt.slots] at X7 l7 y7 z7 st7 hQ7
  subst l7 y7 z7
  obtain ⟨rfl, Nq7, e7⟩ := hQ7
  have N7 := Fr.app N4 Nq7
  have ch8 : ∀ t, Steps p.tables e below (T7.setTop (mkF m 47 #[.val (.int p1), .val (.int (2 : Int32)), .val (.ref (ad 7)), .val (.int (0 : Int32))] [(.int (0 : Int32))])) t → Steps p.tables e below (s₁.setTop (entryFrame m #[(.int p1)] maxLocals)) t := fun t k => ch5 t (by
      show Steps p.tables e below (T4.setTop (mkF m 39 #[.val (.int p1), .val (.int (2 : Int32)), .val (.ref (ad 7)), .val (.int (0 : Int32))] [(.int (2 : Int32))])) t
      refine XS.iloadN X4.here hx rfl (hb hby at_39) rfl ?_
      show Steps p.tables e below (T4.setTop (mkF m 40 #[.val (.int p1), .val (.int (2 : Int32)), .val (.ref (ad 7)), .val (.int (0 : Int32))] [(.int (2 : Int32)), (.int (2 : Int32))])) t
      refine XS.icmpNo X4.here hx rfl (hb hby at_40) rfl (teq (by decide : (2 : Int32) = (2 : Int32))).2 ?_
      show Steps p.tables e below (T4.setTop (mkF m 43 #[.val (.int p1), .val (.int (2 : Int32)), .val (.ref (ad 7)), .val (.int (0 : Int32))] [])) t
      refine XS.aloadN X4.here hx rfl (hb hby at_43) rfl rfl ?_
      show Steps p.tables e below (T4.setTop (mkF m 44 #[.val (.int p1), .val (.int (2 : Int32)), .val (.ref (ad 7)), .val (.int (0 : Int32))] [(.ref (ad 7))])) t
      exact st7.trans k)
  have ch9 : ∀ t, Steps p.tables e below (T7.setTop (mkF m 56 #[.val (.int p1), .val (.int (2 : Int32)), .val (.ref (ad 7)), .val (.int (0 : Int32))] [(.int (1 : Int32))])) t → Steps p.tables e below (s₁.setTop (entryFrame m #[(.int p1)] maxLocals)) t := fun t k => ch8 t (by
      show Steps p.tables e below (T7.setTop (mkF m 47 #[.val (.int p1), .val (.int (2 : Int32)), .val (.ref (ad 7)), .val (.int (0 : Int32))] [(.int (0 : Int32))])) t
      refine XS.iloadN X7.here hx rfl (hb hby at_47) rfl ?_
      show Steps p.tables e below (T7.setTop (mkF m 48 #[.val (.int p1), .val (.int (2 : Int32)), .val (.ref (ad 7)), .val (.int (0 : Int32))] [(.int (0 : Int32)), (.int (0 : Int32))])) t
      refine XS.icmpNo X7.here hx rfl (hb hby at_48) rfl (teq (by decide : (0 : Int32) = (0 : Int32))).2 ?_
      show Steps p.tables e below (T7.setTop (mkF m 51 #[.val (.int p1), .val (.int (2 : Int32)), .val (.ref (ad 7)), .val (.int (0 : Int32))] [])) t
      refine XS.iconst X7.here hx rfl (hb hby at_51) ?_
      show Steps p.tables e below (T7.setTop (mkF m 52 #[.val (.int p1), .val (.int (2 : Int32)), .val (.ref (ad 7)), .val (.int (0 : Int32))] [(.int (1 : Int32))])) t
      refine XS.goto X7.here hx rfl (pc0 := 52) (pc' := 56) rfl (hb hby at_52) (by decide) (by decide) ?_
      exact k)
  obtain ⟨fs, hr, hrun, hended, hW, hsame⟩ := X7.leave (v := some (.int (1 : Int32))) (fun h => by rw [Bd.returns] at h; cases h)
  refine ⟨_, _, ch9 _ ?_, hrun, hended, _, _, rfl, ?_, ⟨_, rfl⟩, hW, hsame.mono (by decide) (by decide)⟩
  · show Steps p.tables e below (T7.setTop (mkF m 56 #[.val (.int p1), .val (.int (2 : Int32)), .val (.ref (ad 7)), .val (.int (0 : Int32))] [(.int (1 : Int32))])) _
    exact retN X7 hx (t := .boolean) Bd.returns (by simp) (hb hby at_56) hr
  · show QN (some (.int (1 : Int32))) n0 _ T7.heap _
    rw [e7]
    exact ⟨rfl, N7⟩
theorem own_ef_own_pick_3 (m : MethodId) {x0 : Int32} : entryFrame m #[(.int x0)] 1 = mkF m 0 #[.val (.int x0)] [] := by first | (simp [entryFrame, mkF, argsToLocals, Value.category, maxLocals]; done) | rfl
set_option maxRecDepth 65536 in
set_option maxHeartbeats 40000000 in
theorem own_pick_3 (l : Launch) (Z : State) (a0 : Array Value) (hw : ∀ d ∈ tables_1, d.before a0 Z = true) (ws : List Jvm.Cond) (h0 : Heap) (n0 : Nat) (Z0 : n0 ≤ h0.size) (ad : Nat → Addr) (a_VALUES : Addr) (k_VALUES : ClassId) (W : OwnWd Z h0 ad a_VALUES k_VALUES) :
    MetFree l (⟨"com/example/libsnippet/libsnippet/WordBreak", "ofOrdinal", "(I)Lcom/example/libsnippet/libsnippet/WordBreak;"⟩ : MethodName) (head1 (Jvm.Cond.code (⟨"com/example/libsnippet/libsnippet/WordBreak", "ofOrdinal", "(I)Lcom/example/libsnippet/libsnippet/WordBreak;"⟩ : MethodName) prog_11_method_5_code 1 (some (.object "com/example/libsnippet/libsnippet/WordBreak")) :: ws) ({ frames := 0, cells := 0, slots := 0, locals := 0 } : Room)) (fun a U => a = #[(.int (3 : Int32))] ∧ Z.Warmed39 U.vm ∧ U.heap = h0) (fun _ _ _ _ _ => True) (fun _ U o U' => ∃ v L, o = .returned v ∧ QV (some (.ref (ad 4))) h0 n0 v U'.heap L ∧ FrameEnd U o U' L ({ frames := 0, cells := 0, slots := 0, locals := 0 } : Room).cells ({ frames := 0, cells := 0, slots := 0, locals := 0 } : Room).slots) := by
  refine MetFree.of_bodySF (plainFor_of_name own_pn_com_example_libsnippet_libsnippet_WordBreak) hisR ?_
  intro p e s m args below meth c s₁ Bd hml0 hP hK
  obtain ⟨rfl, hZ, hh⟩ := hP
  have hx := Bd.exec
  have hby := Bd.bytes
  have hml : c.maxLocals = 1 := hml0
  have hown : s.vm.findClass "com/example/libsnippet/libsnippet/WordBreak" = some m.cls := findClass_of_methodNamed Bd.named
  have hnm := (name_of_methodNamed Bd.named Bd.method).1
  have X0 : Stand p l e ({ frames := 0, cells := 0, slots := 0, locals := 0 } : Room) s m #[(.int (3 : Int32))] below meth c s₁ [] 0 0 := Stand.of_body Bd
  have e0 : s₁.heap = h0 := by rw [← hh, Bd.state]; rfl
  have N0 := Fr.nil n0
  have pre0 : ∀ t, Steps p.tables e below (s₁.setTop (mkF m 0 #[.val (.int (3 : Int32))] [])) t → Steps p.tables e below (s₁.setTop (entryFrame m #[(.int (3 : Int32))] 1)) t := fun t k => castTop (own_ef_own_pick_3 m) k
  obtain ⟨T1, X1, e1, st1⟩ := getS2 X0 hx hZ hown (host := "") (Or.inl (hw _ (List.mem_of_getElem? (i := 5) rfl))) Via.refl e0 (own_S_VALUES W) (g := (mkF m 0 #[.val (.int (3 : Int32))] [])) rfl (hb hby own_d_prog_11_method_5_code_0)
  have ch2 : ∀ t, Steps p.tables e below (T1.setTop (mkF m 3 #[.val (.int (3 : Int32))] [(.ref a_VALUES)])) t → Steps p.tables e below (s₁.setTop (entryFrame m #[(.int (3 : Int32))] 1)) t := fun t k => pre0 t (by
      show Steps p.tables e below (s₁.setTop (mkF m 0 #[.val (.int (3 : Int32))] [])) t
      exact st1 t k)
  obtain ⟨cl3, Ar3, -, Sz3, Ng3, Ha3, -⟩ := (own_V_VALUES W)
  have hin3 : ¬ ((3 : Int32) < 0 ∨ cl3.slots.size ≤ ((3 : Int32)).toNatClampNeg) := inb_of Sz3 (by decide)
  have hat3 : cl3.slots[((3 : Int32)).toNatClampNeg]? = some (.ref (ad 4)) := Ha3.at hin3 rfl
  have ch4 : ∀ t, Steps p.tables e below (T1.setTop (mkF m 5 #[.val (.int (3 : Int32))] [(.ref (ad 4))])) t → Steps p.tables e below (s₁.setTop (entryFrame m #[(.int (3 : Int32))] 1)) t := fun t k => ch2 t (by
      show Steps p.tables e below (T1.setTop (mkF m 3 #[.val (.int (3 : Int32))] [(.ref a_VALUES)])) t
      refine XS.iloadN X1.here hx rfl (hb hby own_d_prog_11_method_5_code_3) rfl ?_
      show Steps p.tables e below (T1.setTop (mkF m 4 #[.val (.int (3 : Int32))] [(.int (3 : Int32)), (.ref a_VALUES)])) t
      refine X1.aaload hx (j := (3 : Int32)) (v := (.ref (ad 4))) (by rw [e1]; exact Ar3.1) (State.isArrayOf_alike hZ.alike Ar3.2.1) rfl Ar3.2.2 hin3 hat3 (g := (mkF m 4 #[.val (.int (3 : Int32))] [(.int (3 : Int32)), (.ref a_VALUES)])) rfl rfl (hb hby own_d_prog_11_method_5_code_4) _ ?_
      exact k)
  obtain ⟨fs, hr, hrun, hended, hW, hsame⟩ := X1.leave (v := some (.ref (ad 4))) (fun h => by rw [Bd.returns] at h; cases h)
  refine ⟨_, _, ch4 _ ?_, hrun, hended, _, _, rfl, ?_, ⟨_, rfl⟩, hW, hsame.mono (by decide) (by decide)⟩
  · show Steps p.tables e below (T1.setTop (mkF m 5 #[.val (.int (3 : Int32))] [(.ref (ad 4))])) _
    jvm_step X1.here [X1.here.top, hx, (hb hby own_d_prog_11_method_5_code_5), X1.method', Bd.returns, Value.isRef, FieldType.isReference]
    first | (intro acts; rw [hr _ acts rfl rfl rfl]) | rw [hr _ _ rfl rfl rfl]
    exact Steps.refl _
  · show QV (some (.ref (ad 4))) h0 n0 _ T1.heap _
    rw [e1]
    exact ⟨rfl, N0, rfl⟩
theorem own_ef_own_pred_3 (m : MethodId) {x0 : Addr} : entryFrame m #[(.ref x0)] 1 = mkF m 0 #[.val (.ref x0)] [] := by first | (simp [entryFrame, mkF, argsToLocals, Value.category, maxLocals]; done) | rfl
set_option maxRecDepth 65536 in
set_option maxHeartbeats 40000000 in
theorem own_pred_3 (l : Launch) (Z : State) (a0 : Array Value) (hw : ∀ d ∈ tables_1, d.before a0 Z = true) (ws : List Jvm.Cond) (h0 : Heap) (n0 : Nat) (Z0 : n0 ≤ h0.size) (ad : Nat → Addr) (a_VALUES : Addr) (k_VALUES : ClassId) (W : OwnWd Z h0 ad a_VALUES k_VALUES) :
    MetFree l (⟨"com/example/libsnippet/libsnippet/WordBreak", "isIgnorable", "()Z"⟩ : MethodName) (head1 (Jvm.Cond.code (⟨"com/example/libsnippet/libsnippet/WordBreak", "isIgnorable", "()Z"⟩ : MethodName) prog_11_method_7_code 1 (some .boolean) :: ws) ({ frames := 0, cells := 0, slots := 0, locals := 0 } : Room)) (fun a U => a = #[(.ref (ad 4))] ∧ Z.Warmed39 U.vm ∧ U.heap = h0) (fun _ _ _ _ _ => True) (fun _ U o U' => ∃ v L, o = .returned v ∧ QV (some (.int (0 : Int32))) h0 n0 v U'.heap L ∧ FrameEnd U o U' L ({ frames := 0, cells := 0, slots := 0, locals := 0 } : Room).cells ({ frames := 0, cells := 0, slots := 0, locals := 0 } : Room).slots) := by
  refine MetFree.of_bodySF (plainFor_of_name own_pn_com_example_libsnippet_libsnippet_WordBreak) hisR ?_
  intro p e s m args below meth c s₁ Bd hml0 hP hK
  obtain ⟨rfl, hZ, hh⟩ := hP
  have hx := Bd.exec
  have hby := Bd.bytes
  have hml : c.maxLocals = 1 := hml0
  have hown : s.vm.findClass "com/example/libsnippet/libsnippet/WordBreak" = some m.cls := findClass_of_methodNamed Bd.named
  have hnm := (name_of_methodNamed Bd.named Bd.method).1
  have X0 : Stand p l e ({ frames := 0, cells := 0, slots := 0, locals := 0 } : Room) s m #[(.ref (ad 4))] below meth c s₁ [] 0 0 := Stand.of_body Bd
  have e0 : s₁.heap = h0 := by rw [← hh, Bd.state]; rfl
  have N0 := Fr.nil n0
  have pre0 : ∀ t, Steps p.tables e below (s₁.setTop (mkF m 0 #[.val (.ref (ad 4))] [])) t → Steps p.tables e below (s₁.setTop (entryFrame m #[(.ref (ad 4))] 1)) t := fun t k => castTop (own_ef_own_pred_3 m) k
  obtain ⟨T1, X1, e1, st1⟩ := getS2 X0 hx hZ hown (host := "") (Or.inl (hw _ (List.mem_of_getElem? (i := 22) rfl))) Via.refl e0 (own_S_EXTEND W) (g := (mkF m 1 #[.val (.ref (ad 4))] [(.ref (ad 4))])) rfl (hb hby own_d_prog_11_method_7_code_1)
  have ch2 : ∀ t, Steps p.tables e below (T1.setTop (mkF m 4 #[.val (.ref (ad 4))] [(.ref (ad 1)), (.ref (ad 4))])) t → Steps p.tables e below (s₁.setTop (entryFrame m #[(.ref (ad 4))] 1)) t := fun t k => pre0 t (by
      show Steps p.tables e below (s₁.setTop (mkF m 0 #[.val (.ref (ad 4))] [])) t
      refine XS.aloadN X0.here hx rfl (hb hby own_d_prog_11_method_7_code_0) rfl rfl ?_
      show Steps p.tables e below (s₁.setTop (mkF m 1 #[.val (.ref (ad 4))] [(.ref (ad 4))])) t
      exact st1 t k)
  obtain ⟨T3, X3, e3, st3⟩ := getS2 X1 hx hZ hown (host := "") (Or.inl (hw _ (List.mem_of_getElem? (i := 24) rfl))) Via.refl e1 (own_S_FORMAT W) (g := (mkF m 8 #[.val (.ref (ad 4))] [(.ref (ad 4))])) rfl (hb hby own_d_prog_11_method_7_code_8)
  have ch4 : ∀ t, Steps p.tables e below (T3.setTop (mkF m 11 #[.val (.ref (ad 4))] [(.ref (ad 2)), (.ref (ad 4))])) t → Steps p.tables e below (s₁.setTop (entryFrame m #[(.ref (ad 4))] 1)) t := fun t k => ch2 t (by
      show Steps p.tables e below (T1.setTop (mkF m 4 #[.val (.ref (ad 4))] [(.ref (ad 1)), (.ref (ad 4))])) t
      refine Jvm.RoadKit.acmp (g := (mkF m 4 #[.val (.ref (ad 4))] [(.ref (ad 1)), (.ref (ad 4))])) X1 hx rfl rfl rfl (pc0 := 4) (pc' := 7) (same := false) rfl (hb hby own_d_prog_11_method_7_code_4) rfl (decide_eq_false fun q => (Fld.ne (own_F_NEWLINE_ordinal W) (own_F_EXTEND_ordinal W) (by decide)) (Value.ref.inj q)) (by decide) (by decide) ?_
      show Steps p.tables e below (T1.setTop (mkF m 7 #[.val (.ref (ad 4))] [])) t
      refine XS.aloadN X1.here hx rfl (hb hby own_d_prog_11_method_7_code_7) rfl rfl ?_
      show Steps p.tables e below (T1.setTop (mkF m 8 #[.val (.ref (ad 4))] [(.ref (ad 4))])) t
      exact st3 t k)
  obtain ⟨T5, X5, e5, st5⟩ := getS2 X3 hx hZ hown (host := "") (Or.inl (hw _ (List.mem_of_getElem? (i := 26) rfl))) Via.refl e3 (own_S_ZWJ W) (g := (mkF m 15 #[.val (.ref (ad 4))] [(.ref (ad 4))])) rfl (hb hby own_d_prog_11_method_7_code_15)
  have ch6 : ∀ t, Steps p.tables e below (T5.setTop (mkF m 18 #[.val (.ref (ad 4))] [(.ref (ad 3)), (.ref (ad 4))])) t → Steps p.tables e below (s₁.setTop (entryFrame m #[(.ref (ad 4))] 1)) t := fun t k => ch4 t (by
      show Steps p.tables e below (T3.setTop (mkF m 11 #[.val (.ref (ad 4))] [(.ref (ad 2)), (.ref (ad 4))])) t
      refine Jvm.RoadKit.acmp (g := (mkF m 11 #[.val (.ref (ad 4))] [(.ref (ad 2)), (.ref (ad 4))])) X3 hx rfl rfl rfl (pc0 := 11) (pc' := 14) (same := false) rfl (hb hby own_d_prog_11_method_7_code_11) rfl (decide_eq_false fun q => (Fld.ne (own_F_NEWLINE_ordinal W) (own_F_FORMAT_ordinal W) (by decide)) (Value.ref.inj q)) (by decide) (by decide) ?_
      show Steps p.tables e below (T3.setTop (mkF m 14 #[.val (.ref (ad 4))] [])) t
      refine XS.aloadN X3.here hx rfl (hb hby own_d_prog_11_method_7_code_14) rfl rfl ?_
      show Steps p.tables e below (T3.setTop (mkF m 15 #[.val (.ref (ad 4))] [(.ref (ad 4))])) t
      exact st5 t k)
  have ch7 : ∀ t, Steps p.tables e below (T5.setTop (mkF m 26 #[.val (.ref (ad 4))] [(.int (0 : Int32))])) t → Steps p.tables e below (s₁.setTop (entryFrame m #[(.ref (ad 4))] 1)) t := fun t k => ch6 t (by
      show Steps p.tables e below (T5.setTop (mkF m 18 #[.val (.ref (ad 4))] [(.ref (ad 3)), (.ref (ad 4))])) t
      refine Jvm.RoadKit.acmp (g := (mkF m 18 #[.val (.ref (ad 4))] [(.ref (ad 3)), (.ref (ad 4))])) X5 hx rfl rfl rfl (pc0 := 18) (pc' := 25) (same := false) rfl (hb hby own_d_prog_11_method_7_code_18) rfl (decide_eq_false fun q => (Fld.ne (own_F_NEWLINE_ordinal W) (own_F_ZWJ_ordinal W) (by decide)) (Value.ref.inj q)) (by decide) (by decide) ?_
      show Steps p.tables e below (T5.setTop (mkF m 25 #[.val (.ref (ad 4))] [])) t
      refine XS.iconst X5.here hx rfl (hb hby own_d_prog_11_method_7_code_25) ?_
      exact k)
  obtain ⟨fs, hr, hrun, hended, hW, hsame⟩ := X5.leave (v := some (.int (0 : Int32))) (fun h => by rw [Bd.returns] at h; cases h)
  refine ⟨_, _, ch7 _ ?_, hrun, hended, _, _, rfl, ?_, ⟨_, rfl⟩, hW, hsame.mono (by decide) (by decide)⟩
  · show Steps p.tables e below (T5.setTop (mkF m 26 #[.val (.ref (ad 4))] [(.int (0 : Int32))])) _
    exact retN X5 hx (t := .boolean) Bd.returns (by simp) (hb hby own_d_prog_11_method_7_code_26) hr
  · show QV (some (.int (0 : Int32))) h0 n0 _ T5.heap _
    rw [e5]
    exact ⟨rfl, N0, rfl⟩
theorem own_ef_own_ordi_3 (m : MethodId) {x0 : Addr} : entryFrame m #[(.ref x0)] 1 = mkF m 0 #[.val (.ref x0)] [] := by first | (simp [entryFrame, mkF, argsToLocals, Value.category, maxLocals]; done) | rfl
set_option maxRecDepth 65536 in
set_option maxHeartbeats 40000000 in
theorem own_ordi_3 (l : Launch) (Z : State) (a0 : Array Value) (hw : ∀ d ∈ tables_1, d.before a0 Z = true) (ws : List Jvm.Cond) (h0 : Heap) (n0 : Nat) (Z0 : n0 ≤ h0.size) (ad : Nat → Addr) (a_VALUES : Addr) (k_VALUES : ClassId) (W : OwnWd Z h0 ad a_VALUES k_VALUES) :
    MetFree l (⟨"java/lang/Enum", "ordinal", "()I"⟩ : MethodName) (head1 (Jvm.Cond.code (⟨"java/lang/Enum", "ordinal", "()I"⟩ : MethodName) jdk_37_method_2_code 1 (some .int) :: ws) ({ frames := 0, cells := 0, slots := 0, locals := 0 } : Room)) (fun a U => a = #[(.ref (ad 4))] ∧ Z.Warmed39 U.vm ∧ U.heap = h0) (fun _ _ _ _ _ => True) (fun _ U o U' => ∃ v L, o = .returned v ∧ QV (some (.int (3 : Int32))) h0 n0 v U'.heap L ∧ FrameEnd U o U' L ({ frames := 0, cells := 0, slots := 0, locals := 0 } : Room).cells ({ frames := 0, cells := 0, slots := 0, locals := 0 } : Room).slots) := by
  refine MetFree.of_bodySF (plainFor_of_name own_pn_java_lang_Enum) hisR ?_
  intro p e s m args below meth c s₁ Bd hml0 hP hK
  obtain ⟨rfl, hZ, hh⟩ := hP
  have hx := Bd.exec
  have hby := Bd.bytes
  have hml : c.maxLocals = 1 := hml0
  have hown : s.vm.findClass "java/lang/Enum" = some m.cls := findClass_of_methodNamed Bd.named
  have hnm := (name_of_methodNamed Bd.named Bd.method).1
  have X0 : Stand p l e ({ frames := 0, cells := 0, slots := 0, locals := 0 } : Room) s m #[(.ref (ad 4))] below meth c s₁ [] 0 0 := Stand.of_body Bd
  have e0 : s₁.heap = h0 := by rw [← hh, Bd.state]; rfl
  have N0 := Fr.nil n0
  have pre0 : ∀ t, Steps p.tables e below (s₁.setTop (mkF m 0 #[.val (.ref (ad 4))] [])) t → Steps p.tables e below (s₁.setTop (entryFrame m #[(.ref (ad 4))] 1)) t := fun t k => castTop (own_ef_own_ordi_3 m) k
  obtain ⟨T1, X1, e1, st1⟩ := getF X0 hx hZ hown (host := "") (Or.inl (hw _ (List.mem_of_getElem? (i := 15) rfl))) Via.refl e0 (own_F_NEWLINE_ordinal W) (g := (mkF m 1 #[.val (.ref (ad 4))] [(.ref (ad 4))])) rfl rfl (hb hby own_d_jdk_37_method_2_code_1)
  have ch2 : ∀ t, Steps p.tables e below (T1.setTop (mkF m 4 #[.val (.ref (ad 4))] [(.int (3 : Int32))])) t → Steps p.tables e below (s₁.setTop (entryFrame m #[(.ref (ad 4))] 1)) t := fun t k => pre0 t (by
      show Steps p.tables e below (s₁.setTop (mkF m 0 #[.val (.ref (ad 4))] [])) t
      refine XS.aloadN X0.here hx rfl (hb hby own_d_jdk_37_method_2_code_0) rfl rfl ?_
      show Steps p.tables e below (s₁.setTop (mkF m 1 #[.val (.ref (ad 4))] [(.ref (ad 4))])) t
      exact st1 t k)
  obtain ⟨fs, hr, hrun, hended, hW, hsame⟩ := X1.leave (v := some (.int (3 : Int32))) (fun h => by rw [Bd.returns] at h; cases h)
  refine ⟨_, _, ch2 _ ?_, hrun, hended, _, _, rfl, ?_, ⟨_, rfl⟩, hW, hsame.mono (by decide) (by decide)⟩
  · show Steps p.tables e below (T1.setTop (mkF m 4 #[.val (.ref (ad 4))] [(.int (3 : Int32))])) _
    exact retI X1 hx Bd.returns (hb hby own_d_jdk_37_method_2_code_4) hr
  · show QV (some (.int (3 : Int32))) h0 n0 _ T1.heap _
    rw [e1]
    exact ⟨rfl, N0, rfl⟩
theorem own_ef_own_law_3 (m : MethodId) {x0 : Int32} : entryFrame m #[(.int x0)] maxLocals = mkF m 0 #[.val (.int x0), .unset, .unset, .unset] [] := by first | (simp [entryFrame, mkF, argsToLocals, Value.category, maxLocals]; done) | rfl
set_option maxRecDepth 65536 in
set_option maxHeartbeats 40000000 in
theorem own_law_3 (l : Launch) (Z : State) (a0 : Array Value) (hw : ∀ d ∈ tables_1, d.before a0 Z = true) (ws : List Jvm.Cond) (h0 : Heap) (n0 : Nat) (Z0 : n0 ≤ h0.size) (p1 : Int32) (hk : (p1 &&& (2147483647 : Int32)) % (19 : Int32) = (3 : Int32)) (ad : Nat → Addr) (a_VALUES : Addr) (k_VALUES : ClassId) (W : OwnWd Z h0 ad a_VALUES k_VALUES) :
    MetFree l x (head1 (Jvm.Cond.code x code maxLocals ret :: ws) room_1) (fun a U => a = #[(.int p1)] ∧ Z.Warmed39 U.vm ∧ U.heap = h0) (fun _ _ _ _ _ => True) (fun _ U o U' => ∃ v L, o = .returned v ∧ QN (some (.int (1 : Int32))) n0 v U'.heap L ∧ FrameEnd U o U' L room_1.cells room_1.slots) := by
  refine MetFree.of_bodySF (plainFor_of_name own_pn_com_example_libsnippet_libsnippet_WordBreakIsIgnorablePinLaw) hisR ?_
  intro p e s m args below meth c s₁ Bd hml0 hP hK
  obtain ⟨rfl, hZ, hh⟩ := hP
  have hx := Bd.exec
  have hby := Bd.bytes
  have hml : c.maxLocals = 4 := hml0
  have hown : s.vm.findClass "com/example/libsnippet/libsnippet/WordBreakIsIgnorablePinLaw" = some m.cls := findClass_of_methodNamed Bd.named
  have hnm := (name_of_methodNamed Bd.named Bd.method).1
  have X0 : Stand p l e room_1 s m #[(.int p1)] below meth c s₁ [] 0 0 := Stand.of_body Bd
  have e0 : s₁.heap = h0 := by rw [← hh, Bd.state]; rfl
  have N0 := Fr.nil n0
  have pre0 : ∀ t, Steps p.tables e below (s₁.setTop (mkF m 0 #[.val (.int p1), .unset, .unset, .unset] [])) t → Steps p.tables e below (s₁.setTop (entryFrame m #[(.int p1)] maxLocals)) t := fun t k => castTop (own_ef_own_law_3 m) k
  obtain ⟨vv1, _, ⟨T1, L1, kk1, nn1⟩, -, X1, ⟨Lc1, hQ1, l1, y1, z1⟩, st1⟩ := Jvm.LawKit.callS X0 hx (y := (⟨"com/example/libsnippet/libsnippet/WordBreak", "ofOrdinal", "(I)Lcom/example/libsnippet/libsnippet/WordBreak;"⟩ : MethodName)) hown (mvT hZ (hw _ (List.mem_of_getElem? (i := 1) rfl))) (mvT hZ (hw _ (List.mem_of_getElem? (i := 2) rfl))) (mvT hZ (hw _ (List.mem_of_getElem? (i := 3) rfl))) (mvT hZ (hw _ (List.mem_of_getElem? (i := 4) rfl))) (by decide) (backOf (W := 0) (own_pick_3 l Z a0 hw [] h0 n0 Z0 ad a_VALUES k_VALUES W) hZ (hw _ (List.mem_of_getElem? (i := 4) rfl)) (hw _ (List.mem_of_getElem? (i := 3) rfl)) (by decide) (by decide)) (g := (mkF m 9 #[.val (.int p1), .val (.int (3 : Int32)), .unset, .unset] [(.int (3 : Int32))])) rfl (by rw [hml]; rfl) (argsL := [(.int (3 : Int32))]) (rest := []) (lenOf own_pd__I_Lcom_example_libsnippet_libsnippet_WordBreak_ rfl) rfl (by show 2 * 0 + _ ≤ _; exact Nat.le_of_eq rfl) (hb hby at_9) (fun _ _ => ⟨rfl, e0, (by decide : 0 + 0 ≤ _), (by decide : 0 + 0 ≤ _)⟩)
  dsimp only [Pt.U, Pt.locs, Pt.cells, Pt.slots] at X1 l1 y1 z1 st1 hQ1
  subst l1 y1 z1
  obtain ⟨rfl, Nq1, e1⟩ := hQ1
  have N1 := Fr.app N0 Nq1
  have ch2 : ∀ t, Steps p.tables e below (T1.setTop (mkF m 12 #[.val (.int p1), .val (.int (3 : Int32)), .unset, .unset] [(.ref (ad 4))])) t → Steps p.tables e below (s₁.setTop (entryFrame m #[(.int p1)] maxLocals)) t := fun t k => pre0 t (by
      show Steps p.tables e below (s₁.setTop (mkF m 0 #[.val (.int p1), .unset, .unset, .unset] [])) t
      refine XS.iloadN X0.here hx rfl (hb hby at_0) rfl ?_
      show Steps p.tables e below (s₁.setTop (mkF m 1 #[.val (.int p1), .unset, .unset, .unset] [(.int p1)])) t
      refine X0.ldcInt hx hown (mvT hZ (hw _ (List.mem_of_getElem? (i := 0) rfl))) (g := (mkF m 1 #[.val (.int p1), .unset, .unset, .unset] [(.int p1)])) rfl (hb hby at_1) _ ?_
      show Steps p.tables e below (s₁.setTop (mkF m 3 #[.val (.int p1), .unset, .unset, .unset] [(.int (2147483647 : Int32)), (.int p1)])) t
      refine XS.iand X0.here hx rfl (hb hby at_3) rfl ?_
      show Steps p.tables e below (s₁.setTop (mkF m 4 #[.val (.int p1), .unset, .unset, .unset] [(.int (p1 &&& (2147483647 : Int32)))])) t
      refine XS.bipush X0.here hx rfl (hb hby at_4) ?_
      show Steps p.tables e below (s₁.setTop (mkF m 6 #[.val (.int p1), .unset, .unset, .unset] [(.int (19 : Int32)), (.int (p1 &&& (2147483647 : Int32)))])) t
      refine Jvm.RoadKit.iremM (g := (mkF m 6 #[.val (.int p1), .unset, .unset, .unset] [(.int (19 : Int32)), (.int (p1 &&& (2147483647 : Int32)))])) X0 hx rfl (hb hby at_6) rfl (by decide) ?_
      rw [hk]
      show Steps p.tables e below (s₁.setTop (mkF m 7 #[.val (.int p1), .unset, .unset, .unset] [(.int (3 : Int32))])) t
      refine XS.istoreN X0.here hx rfl (hb hby at_7) rfl (l' := #[.val (.int p1), .val (.int (3 : Int32)), .unset, .unset]) rfl ?_
      show Steps p.tables e below (s₁.setTop (mkF m 8 #[.val (.int p1), .val (.int (3 : Int32)), .unset, .unset] [])) t
      refine XS.iloadN X0.here hx rfl (hb hby at_8) rfl ?_
      show Steps p.tables e below (s₁.setTop (mkF m 9 #[.val (.int p1), .val (.int (3 : Int32)), .unset, .unset] [(.int (3 : Int32))])) t
      exact st1 t k)
  obtain ⟨cq3, kq3, qa3, qb3, qc3⟩ := isOf hZ e1 (own_E_NEWLINE W)
  obtain ⟨vv4, _, ⟨T4, L4, kk4, nn4⟩, -, X4, ⟨Lc4, hQ4, l4, y4, z4⟩, st4⟩ := X1.virtualBackUp hx (x := (⟨"com/example/libsnippet/libsnippet/WordBreak", "ordinal", "()I"⟩ : MethodName)) (y := (⟨"java/lang/Enum", "ordinal", "()I"⟩ : MethodName)) (owner := "java/lang/Enum") hown (mvT hZ (hw _ (List.mem_of_getElem? (i := 8) rfl))) (mvT hZ (hw _ (List.mem_of_getElem? (i := 9) rfl))) (mvT hZ (hw _ (List.mem_of_getElem? (i := 10) rfl))) (by decide) (mvT hZ (hw _ (List.mem_of_getElem? (i := 12) rfl))) (mvT hZ (hw _ (List.mem_of_getElem? (i := 11) rfl))) (backOf (W := 0) (own_ordi_3 l Z a0 hw [] h0 n0 Z0 ad a_VALUES k_VALUES W) hZ (hw _ (List.mem_of_getElem? (i := 14) rfl)) (hw _ (List.mem_of_getElem? (i := 13) rfl)) (by decide) (by decide)) qa3 qc3 (g := (mkF m 36 #[.val (.int p1), .val (.int (3 : Int32)), .val (.ref (ad 4)), .val (.int (0 : Int32))] [(.ref (ad 4))])) rfl (by rw [hml]; rfl) (Steps.refl _) (argsL := []) (rest := []) (lenOf own_pd___I rfl) rfl (by show 2 * 0 + _ ≤ _; exact Nat.le_of_eq rfl) (hb hby at_36) (fun _ _ => ⟨rfl, e1, (by decide : 0 + 0 ≤ _), (by decide : 0 + 0 ≤ _)⟩)
  dsimp only [Pt.U, Pt.locs, Pt.cells, Pt.slots] at X4 l4 y4 z4 st4 hQ4
  subst l4 y4 z4
  obtain ⟨rfl, Nq4, e4⟩ := hQ4
  have N4 := Fr.app N1 Nq4
  have ch5 : ∀ t, Steps p.tables e below (T4.setTop (mkF m 39 #[.val (.int p1), .val (.int (3 : Int32)), .val (.ref (ad 4)), .val (.int (0 : Int32))] [(.int (3 : Int32))])) t → Steps p.tables e below (s₁.setTop (entryFrame m #[(.int p1)] maxLocals)) t := fun t k => ch2 t (by
      show Steps p.tables e below (T1.setTop (mkF m 12 #[.val (.int p1), .val (.int (3 : Int32)), .unset, .unset] [(.ref (ad 4))])) t
      refine XS.astoreN X1.here hx rfl (hb hby at_12) rfl rfl (l' := #[.val (.int p1), .val (.int (3 : Int32)), .val (.ref (ad 4)), .unset]) rfl ?_
      show Steps p.tables e below (T1.setTop (mkF m 13 #[.val (.int p1), .val (.int (3 : Int32)), .val (.ref (ad 4)), .unset] [])) t
      refine XS.iloadN X1.here hx rfl (hb hby at_13) rfl ?_
      show Steps p.tables e below (T1.setTop (mkF m 14 #[.val (.int p1), .val (.int (3 : Int32)), .val (.ref (ad 4)), .unset] [(.int (3 : Int32))])) t
      refine XS.iconst X1.here hx rfl (hb hby at_14) ?_
      show Steps p.tables e below (T1.setTop (mkF m 15 #[.val (.int p1), .val (.int (3 : Int32)), .val (.ref (ad 4)), .unset] [(.int (4 : Int32)), (.int (3 : Int32))])) t
      refine XS.icmpNo X1.here hx rfl (hb hby at_15) rfl (feq (by decide : ¬ (3 : Int32) = (4 : Int32))).1 ?_
      show Steps p.tables e below (T1.setTop (mkF m 18 #[.val (.int p1), .val (.int (3 : Int32)), .val (.ref (ad 4)), .unset] [])) t
      refine XS.iloadN X1.here hx rfl (hb hby at_18) rfl ?_
      show Steps p.tables e below (T1.setTop (mkF m 19 #[.val (.int p1), .val (.int (3 : Int32)), .val (.ref (ad 4)), .unset] [(.int (3 : Int32))])) t
      refine XS.iconst X1.here hx rfl (hb hby at_19) ?_
      show Steps p.tables e below (T1.setTop (mkF m 20 #[.val (.int p1), .val (.int (3 : Int32)), .val (.ref (ad 4)), .unset] [(.int (5 : Int32)), (.int (3 : Int32))])) t
      refine XS.icmpNo X1.here hx rfl (hb hby at_20) rfl (feq (by decide : ¬ (3 : Int32) = (5 : Int32))).1 ?_
      show Steps p.tables e below (T1.setTop (mkF m 23 #[.val (.int p1), .val (.int (3 : Int32)), .val (.ref (ad 4)), .unset] [])) t
      refine XS.iloadN X1.here hx rfl (hb hby at_23) rfl ?_
      show Steps p.tables e below (T1.setTop (mkF m 24 #[.val (.int p1), .val (.int (3 : Int32)), .val (.ref (ad 4)), .unset] [(.int (3 : Int32))])) t
      refine XS.bipush X1.here hx rfl (hb hby at_24) ?_
      show Steps p.tables e below (T1.setTop (mkF m 26 #[.val (.int p1), .val (.int (3 : Int32)), .val (.ref (ad 4)), .unset] [(.int (7 : Int32)), (.int (3 : Int32))])) t
      refine XS.icmpYes X1.here hx rfl (pc0 := 26) (pc' := 33) rfl (hb hby at_26) rfl (feq (by decide : ¬ (3 : Int32) = (7 : Int32))).2 (by decide) (by decide) ?_
      show Steps p.tables e below (T1.setTop (mkF m 33 #[.val (.int p1), .val (.int (3 : Int32)), .val (.ref (ad 4)), .unset] [])) t
      refine XS.iconst X1.here hx rfl (hb hby at_33) ?_
      show Steps p.tables e below (T1.setTop (mkF m 34 #[.val (.int p1), .val (.int (3 : Int32)), .val (.ref (ad 4)), .unset] [(.int (0 : Int32))])) t
      refine XS.istoreN X1.here hx rfl (hb hby at_34) rfl (l' := #[.val (.int p1), .val (.int (3 : Int32)), .val (.ref (ad 4)), .val (.int (0 : Int32))]) rfl ?_
      show Steps p.tables e below (T1.setTop (mkF m 35 #[.val (.int p1), .val (.int (3 : Int32)), .val (.ref (ad 4)), .val (.int (0 : Int32))] [])) t
      refine XS.aloadN X1.here hx rfl (hb hby at_35) rfl rfl ?_
      show Steps p.tables e below (T1.setTop (mkF m 36 #[.val (.int p1), .val (.int (3 : Int32)), .val (.ref (ad 4)), .val (.int (0 : Int32))] [(.ref (ad 4))])) t
      exact st4.trans k)
  obtain ⟨cq6, kq6, qa6, qb6, qc6⟩ := isOf hZ e4 (own_E_NEWLINE W)
  obtain ⟨vv7, _, ⟨T7, L7, kk7, nn7⟩, -, X7, ⟨Lc7, hQ7, l7, y7, z7⟩, st7⟩ := X4.virtualBack hx (y := (⟨"com/example/libsnippet/libsnippet/WordBreak", "isIgnorable", "()Z"⟩ : MethodName)) (z := (⟨"com/example/libsnippet/libsnippet/WordBreak", "isIgnorable", "()Z"⟩ : MethodName)) hown (mvT hZ (hw _ (List.mem_of_getElem? (i := 17) rfl))) (mvT hZ (hw _ (List.mem_of_getElem? (i := 18) rfl))) (notFace_of_selects (args := #[]) (mvT hZ (hw _ (List.mem_of_getElem? (i := 20) rfl)))) (mvT hZ (hw _ (List.mem_of_getElem? (i := 20) rfl))) (mvT hZ (hw _ (List.mem_of_getElem? (i := 19) rfl))) (by decide) (backOf (W := 0) (own_pred_3 l Z a0 hw [] h0 n0 Z0 ad a_VALUES k_VALUES W) hZ (hw _ (List.mem_of_getElem? (i := 21) rfl)) (hw _ (List.mem_of_getElem? (i := 3) rfl)) (by decide) (by decide)) qa6 qc6 (g := (mkF m 44 #[.val (.int p1), .val (.int (3 : Int32)), .val (.ref (ad 4)), .val (.int (0 : Int32))] [(.ref (ad 4))])) rfl (by rw [hml]; rfl) (Steps.refl _) (argsL := []) (rest := []) (lenOf own_pd___Z rfl) rfl (by show 2 * 0 + _ ≤ _; exact Nat.le_of_eq rfl) (hb hby at_44) (fun _ _ => ⟨rfl, e4, (by decide : 0 + 0 ≤ _), (by decide : 0 + 0 ≤ _)⟩)
  dsimp only [Pt.U, Pt.locs, Pt.cells, Pt.slots] at X7 l7 y7 z7 st7 hQ7
  subst l7 y7 z7
  obtain ⟨rfl, Nq7, e7⟩ := hQ7
  have N7 := Fr.app N4 Nq7
  have ch8 : ∀ t, Steps p.tables e below (T7.setTop (mkF m 47 #[.val (.int p1), .val (.int (3 : Int32)), .val (.ref (ad 4)), .val (.int (0 : Int32))] [(.int (0 : Int32))])) t → Steps p.tables e below (s₁.setTop (entryFrame m #[(.int p1)] maxLocals)) t := fun t k => ch5 t (by
      show Steps p.tables e below (T4.setTop (mkF m 39 #[.val (.int p1), .val (.int (3 : Int32)), .val (.ref (ad 4)), .val (.int (0 : Int32))] [(.int (3 : Int32))])) t
      refine XS.iloadN X4.here hx rfl (hb hby at_39) rfl ?_
      show Steps p.tables e below (T4.setTop (mkF m 40 #[.val (.int p1), .val (.int (3 : Int32)), .val (.ref (ad 4)), .val (.int (0 : Int32))] [(.int (3 : Int32)), (.int (3 : Int32))])) t
      refine XS.icmpNo X4.here hx rfl (hb hby at_40) rfl (teq (by decide : (3 : Int32) = (3 : Int32))).2 ?_
      show Steps p.tables e below (T4.setTop (mkF m 43 #[.val (.int p1), .val (.int (3 : Int32)), .val (.ref (ad 4)), .val (.int (0 : Int32))] [])) t
      refine XS.aloadN X4.here hx rfl (hb hby at_43) rfl rfl ?_
      show Steps p.tables e below (T4.setTop (mkF m 44 #[.val (.int p1), .val (.int (3 : Int32)), .val (.ref (ad 4)), .val (.int (0 : Int32))] [(.ref (ad 4))])) t
      exact st7.trans k)
  have ch9 : ∀ t, Steps p.tables e below (T7.setTop (mkF m 56 #[.val (.int p1), .val (.int (3 : Int32)), .val (.ref (ad 4)), .val (.int (0 : Int32))] [(.int (1 : Int32))])) t → Steps p.tables e below (s₁.setTop (entryFrame m #[(.int p1)] maxLocals)) t := fun t k => ch8 t (by
      show Steps p.tables e below (T7.setTop (mkF m 47 #[.val (.int p1), .val (.int (3 : Int32)), .val (.ref (ad 4)), .val (.int (0 : Int32))] [(.int (0 : Int32))])) t
      refine XS.iloadN X7.here hx rfl (hb hby at_47) rfl ?_
      show Steps p.tables e below (T7.setTop (mkF m 48 #[.val (.int p1), .val (.int (3 : Int32)), .val (.ref (ad 4)), .val (.int (0 : Int32))] [(.int (0 : Int32)), (.int (0 : Int32))])) t
      refine XS.icmpNo X7.here hx rfl (hb hby at_48) rfl (teq (by decide : (0 : Int32) = (0 : Int32))).2 ?_
      show Steps p.tables e below (T7.setTop (mkF m 51 #[.val (.int p1), .val (.int (3 : Int32)), .val (.ref (ad 4)), .val (.int (0 : Int32))] [])) t
      refine XS.iconst X7.here hx rfl (hb hby at_51) ?_
      show Steps p.tables e below (T7.setTop (mkF m 52 #[.val (.int p1), .val (.int (3 : Int32)), .val (.ref (ad 4)), .val (.int (0 : Int32))] [(.int (1 : Int32))])) t
      refine XS.goto X7.here hx rfl (pc0 := 52) (pc' := 56) rfl (hb hby at_52) (by decide) (by decide) ?_
      exact k)
  obtain ⟨fs, hr, hrun, hended, hW, hsame⟩ := X7.leave (v := some (.int (1 : Int32))) (fun h => by rw [Bd.returns] at h; cases h)
  refine ⟨_, _, ch9 _ ?_, hrun, hended, _, _, rfl, ?_, ⟨_, rfl⟩, hW, hsame.mono (by decide) (by decide)⟩
  · show Steps p.tables e below (T7.setTop (mkF m 56 #[.val (.int p1), .val (.int (3 : Int32)), .val (.ref (ad 4)), .val (.int (0 : Int32))] [(.int (1 : Int32))])) _
    exact retN X7 hx (t := .boolean) Bd.returns (by simp) (hb hby at_56) hr
  · show QN (some (.int (1 : Int32))) n0 _ T7.heap _
    rw [e7]
    exact ⟨rfl, N7⟩
theorem own_ef_own_pick_4 (m : MethodId) {x0 : Int32} : entryFrame m #[(.int x0)] 1 = mkF m 0 #[.val (.int x0)] [] := by first | (simp [entryFrame, mkF, argsToLocals, Value.category, maxLocals]; done) | rfl
set_option maxRecDepth 65536 in
set_option maxHeartbeats 40000000 in
theorem own_pick_4 (l : Launch) (Z : State) (a0 : Array Value) (hw : ∀ d ∈ tables_1, d.before a0 Z = true) (ws : List Jvm.Cond) (h0 : Heap) (n0 : Nat) (Z0 : n0 ≤ h0.size) (ad : Nat → Addr) (a_VALUES : Addr) (k_VALUES : ClassId) (W : OwnWd Z h0 ad a_VALUES k_VALUES) :
    MetFree l (⟨"com/example/libsnippet/libsnippet/WordBreak", "ofOrdinal", "(I)Lcom/example/libsnippet/libsnippet/WordBreak;"⟩ : MethodName) (head1 (Jvm.Cond.code (⟨"com/example/libsnippet/libsnippet/WordBreak", "ofOrdinal", "(I)Lcom/example/libsnippet/libsnippet/WordBreak;"⟩ : MethodName) prog_11_method_5_code 1 (some (.object "com/example/libsnippet/libsnippet/WordBreak")) :: ws) ({ frames := 0, cells := 0, slots := 0, locals := 0 } : Room)) (fun a U => a = #[(.int (4 : Int32))] ∧ Z.Warmed39 U.vm ∧ U.heap = h0) (fun _ _ _ _ _ => True) (fun _ U o U' => ∃ v L, o = .returned v ∧ QV (some (.ref (ad 1))) h0 n0 v U'.heap L ∧ FrameEnd U o U' L ({ frames := 0, cells := 0, slots := 0, locals := 0 } : Room).cells ({ frames := 0, cells := 0, slots := 0, locals := 0 } : Room).slots) := by
  refine MetFree.of_bodySF (plainFor_of_name own_pn_com_example_libsnippet_libsnippet_WordBreak) hisR ?_
  intro p e s m args below meth c s₁ Bd hml0 hP hK
  obtain ⟨rfl, hZ, hh⟩ := hP
  have hx := Bd.exec
  have hby := Bd.bytes
  have hml : c.maxLocals = 1 := hml0
  have hown : s.vm.findClass "com/example/libsnippet/libsnippet/WordBreak" = some m.cls := findClass_of_methodNamed Bd.named
  have hnm := (name_of_methodNamed Bd.named Bd.method).1
  have X0 : Stand p l e ({ frames := 0, cells := 0, slots := 0, locals := 0 } : Room) s m #[(.int (4 : Int32))] below meth c s₁ [] 0 0 := Stand.of_body Bd
  have e0 : s₁.heap = h0 := by rw [← hh, Bd.state]; rfl
  have N0 := Fr.nil n0
  have pre0 : ∀ t, Steps p.tables e below (s₁.setTop (mkF m 0 #[.val (.int (4 : Int32))] [])) t → Steps p.tables e below (s₁.setTop (entryFrame m #[(.int (4 : Int32))] 1)) t := fun t k => castTop (own_ef_own_pick_4 m) k
  obtain ⟨T1, X1, e1, st1⟩ := getS2 X0 hx hZ hown (host := "") (Or.inl (hw _ (List.mem_of_getElem? (i := 5) rfl))) Via.refl e0 (own_S_VALUES W) (g := (mkF m 0 #[.val (.int (4 : Int32))] [])) rfl (hb hby own_d_prog_11_method_5_code_0)
  have ch2 : ∀ t, Steps p.tables e below (T1.setTop (mkF m 3 #[.val (.int (4 : Int32))] [(.ref a_VALUES)])) t → Steps p.tables e below (s₁.setTop (entryFrame m #[(.int (4 : Int32))] 1)) t := fun t k => pre0 t (by
      show Steps p.tables e below (s₁.setTop (mkF m 0 #[.val (.int (4 : Int32))] [])) t
      exact st1 t k)
  obtain ⟨cl3, Ar3, -, Sz3, Ng3, Ha3, -⟩ := (own_V_VALUES W)
  have hin3 : ¬ ((4 : Int32) < 0 ∨ cl3.slots.size ≤ ((4 : Int32)).toNatClampNeg) := inb_of Sz3 (by decide)
  have hat3 : cl3.slots[((4 : Int32)).toNatClampNeg]? = some (.ref (ad 1)) := Ha3.at hin3 rfl
  have ch4 : ∀ t, Steps p.tables e below (T1.setTop (mkF m 5 #[.val (.int (4 : Int32))] [(.ref (ad 1))])) t → Steps p.tables e below (s₁.setTop (entryFrame m #[(.int (4 : Int32))] 1)) t := fun t k => ch2 t (by
      show Steps p.tables e below (T1.setTop (mkF m 3 #[.val (.int (4 : Int32))] [(.ref a_VALUES)])) t
      refine XS.iloadN X1.here hx rfl (hb hby own_d_prog_11_method_5_code_3) rfl ?_
      show Steps p.tables e below (T1.setTop (mkF m 4 #[.val (.int (4 : Int32))] [(.int (4 : Int32)), (.ref a_VALUES)])) t
      refine X1.aaload hx (j := (4 : Int32)) (v := (.ref (ad 1))) (by rw [e1]; exact Ar3.1) (State.isArrayOf_alike hZ.alike Ar3.2.1) rfl Ar3.2.2 hin3 hat3 (g := (mkF m 4 #[.val (.int (4 : Int32))] [(.int (4 : Int32)), (.ref a_VALUES)])) rfl rfl (hb hby own_d_prog_11_method_5_code_4) _ ?_
      exact k)
  obtain ⟨fs, hr, hrun, hended, hW, hsame⟩ := X1.leave (v := some (.ref (ad 1))) (fun h => by rw [Bd.returns] at h; cases h)
  refine ⟨_, _, ch4 _ ?_, hrun, hended, _, _, rfl, ?_, ⟨_, rfl⟩, hW, hsame.mono (by decide) (by decide)⟩
  · show Steps p.tables e below (T1.setTop (mkF m 5 #[.val (.int (4 : Int32))] [(.ref (ad 1))])) _
    jvm_step X1.here [X1.here.top, hx, (hb hby own_d_prog_11_method_5_code_5), X1.method', Bd.returns, Value.isRef, FieldType.isReference]
    first | (intro acts; rw [hr _ acts rfl rfl rfl]) | rw [hr _ _ rfl rfl rfl]
    exact Steps.refl _
  · show QV (some (.ref (ad 1))) h0 n0 _ T1.heap _
    rw [e1]
    exact ⟨rfl, N0, rfl⟩
theorem own_ef_own_pred_4 (m : MethodId) {x0 : Addr} : entryFrame m #[(.ref x0)] 1 = mkF m 0 #[.val (.ref x0)] [] := by first | (simp [entryFrame, mkF, argsToLocals, Value.category, maxLocals]; done) | rfl
set_option maxRecDepth 65536 in
set_option maxHeartbeats 40000000 in
theorem own_pred_4 (l : Launch) (Z : State) (a0 : Array Value) (hw : ∀ d ∈ tables_1, d.before a0 Z = true) (ws : List Jvm.Cond) (h0 : Heap) (n0 : Nat) (Z0 : n0 ≤ h0.size) (ad : Nat → Addr) (a_VALUES : Addr) (k_VALUES : ClassId) (W : OwnWd Z h0 ad a_VALUES k_VALUES) :
    MetFree l (⟨"com/example/libsnippet/libsnippet/WordBreak", "isIgnorable", "()Z"⟩ : MethodName) (head1 (Jvm.Cond.code (⟨"com/example/libsnippet/libsnippet/WordBreak", "isIgnorable", "()Z"⟩ : MethodName) prog_11_method_7_code 1 (some .boolean) :: ws) ({ frames := 0, cells := 0, slots := 0, locals := 0 } : Room)) (fun a U => a = #[(.ref (ad 1))] ∧ Z.Warmed39 U.vm ∧ U.heap = h0) (fun _ _ _ _ _ => True) (fun _ U o U' => ∃ v L, o = .returned v ∧ QV (some (.int (1 : Int32))) h0 n0 v U'.heap L ∧ FrameEnd U o U' L ({ frames := 0, cells := 0, slots := 0, locals := 0 } : Room).cells ({ frames := 0, cells := 0, slots := 0, locals := 0 } : Room).slots) := by
  refine MetFree.of_bodySF (plainFor_of_name own_pn_com_example_libsnippet_libsnippet_WordBreak) hisR ?_
  intro p e s m args below meth c s₁ Bd hml0 hP hK
  obtain ⟨rfl, hZ, hh⟩ := hP
  have hx := Bd.exec
  have hby := Bd.bytes
  have hml : c.maxLocals = 1 := hml0
  have hown : s.vm.findClass "com/example/libsnippet/libsnippet/WordBreak" = some m.cls := findClass_of_methodNamed Bd.named
  have hnm := (name_of_methodNamed Bd.named Bd.method).1
  have X0 : Stand p l e ({ frames := 0, cells := 0, slots := 0, locals := 0 } : Room) s m #[(.ref (ad 1))] below meth c s₁ [] 0 0 := Stand.of_body Bd
  have e0 : s₁.heap = h0 := by rw [← hh, Bd.state]; rfl
  have N0 := Fr.nil n0
  have pre0 : ∀ t, Steps p.tables e below (s₁.setTop (mkF m 0 #[.val (.ref (ad 1))] [])) t → Steps p.tables e below (s₁.setTop (entryFrame m #[(.ref (ad 1))] 1)) t := fun t k => castTop (own_ef_own_pred_4 m) k
  obtain ⟨T1, X1, e1, st1⟩ := getS2 X0 hx hZ hown (host := "") (Or.inl (hw _ (List.mem_of_getElem? (i := 22) rfl))) Via.refl e0 (own_S_EXTEND W) (g := (mkF m 1 #[.val (.ref (ad 1))] [(.ref (ad 1))])) rfl (hb hby own_d_prog_11_method_7_code_1)
  have ch2 : ∀ t, Steps p.tables e below (T1.setTop (mkF m 4 #[.val (.ref (ad 1))] [(.ref (ad 1)), (.ref (ad 1))])) t → Steps p.tables e below (s₁.setTop (entryFrame m #[(.ref (ad 1))] 1)) t := fun t k => pre0 t (by
      show Steps p.tables e below (s₁.setTop (mkF m 0 #[.val (.ref (ad 1))] [])) t
      refine XS.aloadN X0.here hx rfl (hb hby own_d_prog_11_method_7_code_0) rfl rfl ?_
      show Steps p.tables e below (s₁.setTop (mkF m 1 #[.val (.ref (ad 1))] [(.ref (ad 1))])) t
      exact st1 t k)
  have ch3 : ∀ t, Steps p.tables e below (T1.setTop (mkF m 26 #[.val (.ref (ad 1))] [(.int (1 : Int32))])) t → Steps p.tables e below (s₁.setTop (entryFrame m #[(.ref (ad 1))] 1)) t := fun t k => ch2 t (by
      show Steps p.tables e below (T1.setTop (mkF m 4 #[.val (.ref (ad 1))] [(.ref (ad 1)), (.ref (ad 1))])) t
      refine Jvm.RoadKit.acmp (g := (mkF m 4 #[.val (.ref (ad 1))] [(.ref (ad 1)), (.ref (ad 1))])) X1 hx rfl rfl rfl (pc0 := 4) (pc' := 21) (same := true) rfl (hb hby own_d_prog_11_method_7_code_4) rfl (decide_eq_true rfl) (by decide) (by decide) ?_
      show Steps p.tables e below (T1.setTop (mkF m 21 #[.val (.ref (ad 1))] [])) t
      refine XS.iconst X1.here hx rfl (hb hby own_d_prog_11_method_7_code_21) ?_
      show Steps p.tables e below (T1.setTop (mkF m 22 #[.val (.ref (ad 1))] [(.int (1 : Int32))])) t
      refine XS.goto X1.here hx rfl (pc0 := 22) (pc' := 26) rfl (hb hby own_d_prog_11_method_7_code_22) (by decide) (by decide) ?_
      exact k)
  obtain ⟨fs, hr, hrun, hended, hW, hsame⟩ := X1.leave (v := some (.int (1 : Int32))) (fun h => by rw [Bd.returns] at h; cases h)
  refine ⟨_, _, ch3 _ ?_, hrun, hended, _, _, rfl, ?_, ⟨_, rfl⟩, hW, hsame.mono (by decide) (by decide)⟩
  · show Steps p.tables e below (T1.setTop (mkF m 26 #[.val (.ref (ad 1))] [(.int (1 : Int32))])) _
    exact retN X1 hx (t := .boolean) Bd.returns (by simp) (hb hby own_d_prog_11_method_7_code_26) hr
  · show QV (some (.int (1 : Int32))) h0 n0 _ T1.heap _
    rw [e1]
    exact ⟨rfl, N0, rfl⟩
theorem own_ef_own_ordi_4 (m : MethodId) {x0 : Addr} : entryFrame m #[(.ref x0)] 1 = mkF m 0 #[.val (.ref x0)] [] := by first | (simp [entryFrame, mkF, argsToLocals, Value.category, maxLocals]; done) | rfl
set_option maxRecDepth 65536 in
set_option maxHeartbeats 40000000 in
theorem own_ordi_4 (l : Launch) (Z : State) (a0 : Array Value) (hw : ∀ d ∈ tables_1, d.before a0 Z = true) (ws : List Jvm.Cond) (h0 : Heap) (n0 : Nat) (Z0 : n0 ≤ h0.size) (ad : Nat → Addr) (a_VALUES : Addr) (k_VALUES : ClassId) (W : OwnWd Z h0 ad a_VALUES k_VALUES) :
    MetFree l (⟨"java/lang/Enum", "ordinal", "()I"⟩ : MethodName) (head1 (Jvm.Cond.code (⟨"java/lang/Enum", "ordinal", "()I"⟩ : MethodName) jdk_37_method_2_code 1 (some .int) :: ws) ({ frames := 0, cells := 0, slots := 0, locals := 0 } : Room)) (fun a U => a = #[(.ref (ad 1))] ∧ Z.Warmed39 U.vm ∧ U.heap = h0) (fun _ _ _ _ _ => True) (fun _ U o U' => ∃ v L, o = .returned v ∧ QV (some (.int (4 : Int32))) h0 n0 v U'.heap L ∧ FrameEnd U o U' L ({ frames := 0, cells := 0, slots := 0, locals := 0 } : Room).cells ({ frames := 0, cells := 0, slots := 0, locals := 0 } : Room).slots) := by
  refine MetFree.of_bodySF (plainFor_of_name own_pn_java_lang_Enum) hisR ?_
  intro p e s m args below meth c s₁ Bd hml0 hP hK
  obtain ⟨rfl, hZ, hh⟩ := hP
  have hx := Bd.exec
  have hby := Bd.bytes
  have hml : c.maxLocals = 1 := hml0
  have hown : s.vm.findClass "java/lang/Enum" = some m.cls := findClass_of_methodNamed Bd.named
  have hnm := (name_of_methodNamed Bd.named Bd.method).1
  have X0 : Stand p l e ({ frames := 0, cells := 0, slots := 0, locals := 0 } : Room) s m #[(.ref (ad 1))] below meth c s₁ [] 0 0 := Stand.of_body Bd
  have e0 : s₁.heap = h0 := by rw [← hh, Bd.state]; rfl
  have N0 := Fr.nil n0
  have pre0 : ∀ t, Steps p.tables e below (s₁.setTop (mkF m 0 #[.val (.ref (ad 1))] [])) t → Steps p.tables e below (s₁.setTop (entryFrame m #[(.ref (ad 1))] 1)) t := fun t k => castTop (own_ef_own_ordi_4 m) k
  obtain ⟨T1, X1, e1, st1⟩ := getF X0 hx hZ hown (host := "") (Or.inl (hw _ (List.mem_of_getElem? (i := 15) rfl))) Via.refl e0 (own_F_EXTEND_ordinal W) (g := (mkF m 1 #[.val (.ref (ad 1))] [(.ref (ad 1))])) rfl rfl (hb hby own_d_jdk_37_method_2_code_1)
  have ch2 : ∀ t, Steps p.tables e below (T1.setTop (mkF m 4 #[.val (.ref (ad 1))] [(.int (4 : Int32))])) t → Steps p.tables e below (s₁.setTop (entryFrame m #[(.ref (ad 1))] 1)) t := fun t k => pre0 t (by
      show Steps p.tables e below (s₁.setTop (mkF m 0 #[.val (.ref (ad 1))] [])) t
      refine XS.aloadN X0.here hx rfl (hb hby own_d_jdk_37_method_2_code_0) rfl rfl ?_
      show Steps p.tables e below (s₁.setTop (mkF m 1 #[.val (.ref (ad 1))] [(.ref (ad 1))])) t
      exact st1 t k)
  obtain ⟨fs, hr, hrun, hended, hW, hsame⟩ := X1.leave (v := some (.int (4 : Int32))) (fun h => by rw [Bd.returns] at h; cases h)
  refine ⟨_, _, ch2 _ ?_, hrun, hended, _, _, rfl, ?_, ⟨_, rfl⟩, hW, hsame.mono (by decide) (by decide)⟩
  · show Steps p.tables e below (T1.setTop (mkF m 4 #[.val (.ref (ad 1))] [(.int (4 : Int32))])) _
    exact retI X1 hx Bd.returns (hb hby own_d_jdk_37_method_2_code_4) hr
  · show QV (some (.int (4 : Int32))) h0 n0 _ T1.heap _
    rw [e1]
    exact ⟨rfl, N0, rfl⟩
theorem own_ef_own_law_4 (m : MethodId) {x0 : Int32} : entryFrame m #[(.int x0)] maxLocals = mkF m 0 #[.val (.int x0), .unset, .unset, .unset] [] := by first | (simp [entryFrame, mkF, argsToLocals, Value.category, maxLocals]; done) | rfl
set_option maxRecDepth 65536 in
set_option maxHeartbeats 40000000 in
theorem own_law_4 (l : Launch) (Z : State) (a0 : Array Value) (hw : ∀ d ∈ tables_1, d.before a0 Z = true) (ws : List Jvm.Cond) (h0 : Heap) (n0 : Nat) (Z0 : n0 ≤ h0.size) (p1 : Int32) (hk : (p1 &&& (2147483647 : Int32)) % (19 : Int32) = (4 : Int32)) (ad : Nat → Addr) (a_VALUES : Addr) (k_VALUES : ClassId) (W : OwnWd Z h0 ad a_VALUES k_VALUES) :
    MetFree l x (head1 (Jvm.Cond.code x code maxLocals ret :: ws) room_1) (fun a U => a = #[(.int p1)] ∧ Z.Warmed39 U.vm ∧ U.heap = h0) (fun _ _ _ _ _ => True) (fun _ U o U' => ∃ v L, o = .returned v ∧ QN (some (.int (1 : Int32))) n0 v U'.heap L ∧ FrameEnd U o U' L room_1.cells room_1.slots) := by
  refine MetFree.of_bodySF (plainFor_of_name own_pn_com_example_libsnippet_libsnippet_WordBreakIsIgnorablePinLaw) hisR ?_
  intro p e s m args below meth c s₁ Bd hml0 hP hK
  obtain ⟨rfl, hZ, hh⟩ := hP
  have hx := Bd.exec
  have hby := Bd.bytes
  have hml : c.maxLocals = 4 := hml0
  have hown : s.vm.findClass "com/example/libsnippet/libsnippet/WordBreakIsIgnorablePinLaw" = some m.cls := findClass_of_methodNamed Bd.named
  have hnm := (name_of_methodNamed Bd.named Bd.method).1
  have X0 : Stand p l e room_1 s m #[(.int p1)] below meth c s₁ [] 0 0 := Stand.of_body Bd
  have e0 : s₁.heap = h0 := by rw [← hh, Bd.state]; rfl
  have N0 := Fr.nil n0
  have pre0 : ∀ t, Steps p.tables e below (s₁.setTop (mkF m 0 #[.val (.int p1), .unset, .unset, .unset] [])) t → Steps p.tables e below (s₁.setTop (entryFrame m #[(.int p1)] maxLocals)) t := fun t k => castTop (own_ef_own_law_4 m) k
  obtain ⟨vv1, _, ⟨T1, L1, kk1, nn1⟩, -, X1, ⟨Lc1, hQ1, l1, y1, z1⟩, st1⟩ := Jvm.LawKit.callS X0 hx (y := (⟨"com/example/libsnippet/libsnippet/WordBreak", "ofOrdinal", "(I)Lcom/example/libsnippet/libsnippet/WordBreak;"⟩ : MethodName)) hown (mvT hZ (hw _ (List.mem_of_getElem? (i := 1) rfl))) (mvT hZ (hw _ (List.mem_of_getElem? (i := 2) rfl))) (mvT hZ (hw _ (List.mem_of_getElem? (i := 3) rfl))) (mvT hZ (hw _ (List.mem_of_getElem? (i := 4) rfl))) (by decide) (backOf (W := 0) (own_pick_4 l Z a0 hw [] h0 n0 Z0 ad a_VALUES k_VALUES W) hZ (hw _ (List.mem_of_getElem? (i := 4) rfl)) (hw _ (List.mem_of_getElem? (i := 3) rfl)) (by decide) (by decide)) (g := (mkF m 9 #[.val (.int p1), .val (.int (4 : Int32)), .unset, .unset] [(.int (4 : Int32))])) rfl (by rw [hml]; rfl) (argsL := [(.int (4 : Int32))]) (rest := []) (lenOf own_pd__I_Lcom_example_libsnippet_libsnippet_WordBreak_ rfl) rfl (by show 2 * 0 + _ ≤ _; exact Nat.le_of_eq rfl) (hb hby at_9) (fun _ _ => ⟨rfl, e0, (by decide : 0 + 0 ≤ _), (by decide : 0 + 0 ≤ _)⟩)
  dsimp only [Pt.U, Pt.locs, Pt.cells, Pt.slots] at X1 l1 y1 z1 st1 hQ1
  subst l1 y1 z1
  obtain ⟨rfl, Nq1, e1⟩ := hQ1
  have N1 := Fr.app N0 Nq1
  have ch2 : ∀ t, Steps p.tables e below (T1.setTop (mkF m 12 #[.val (.int p1), .val (.int (4 : Int32)), .unset, .unset] [(.ref (ad 1))])) t → Steps p.tables e below (s₁.setTop (entryFrame m #[(.int p1)] maxLocals)) t := fun t k => pre0 t (by
      show Steps p.tables e below (s₁.setTop (mkF m 0 #[.val (.int p1), .unset, .unset, .unset] [])) t
      refine XS.iloadN X0.here hx rfl (hb hby at_0) rfl ?_
      show Steps p.tables e below (s₁.setTop (mkF m 1 #[.val (.int p1), .unset, .unset, .unset] [(.int p1)])) t
      refine X0.ldcInt hx hown (mvT hZ (hw _ (List.mem_of_getElem? (i := 0) rfl))) (g := (mkF m 1 #[.val (.int p1), .unset, .unset, .unset] [(.int p1)])) rfl (hb hby at_1) _ ?_
      show Steps p.tables e below (s₁.setTop (mkF m 3 #[.val (.int p1), .unset, .unset, .unset] [(.int (2147483647 : Int32)), (.int p1)])) t
      refine XS.iand X0.here hx rfl (hb hby at_3) rfl ?_
      show Steps p.tables e below (s₁.setTop (mkF m 4 #[.val (.int p1), .unset, .unset, .unset] [(.int (p1 &&& (2147483647 : Int32)))])) t
      refine XS.bipush X0.here hx rfl (hb hby at_4) ?_
      show Steps p.tables e below (s₁.setTop (mkF m 6 #[.val (.int p1), .unset, .unset, .unset] [(.int (19 : Int32)), (.int (p1 &&& (2147483647 : Int32)))])) t
      refine Jvm.RoadKit.iremM (g := (mkF m 6 #[.val (.int p1), .unset, .unset, .unset] [(.int (19 : Int32)), (.int (p1 &&& (2147483647 : Int32)))])) X0 hx rfl (hb hby at_6) rfl (by decide) ?_
      rw [hk]
      show Steps p.tables e below (s₁.setTop (mkF m 7 #[.val (.int p1), .unset, .unset, .unset] [(.int (4 : Int32))])) t
      refine XS.istoreN X0.here hx rfl (hb hby at_7) rfl (l' := #[.val (.int p1), .val (.int (4 : Int32)), .unset, .unset]) rfl ?_
      show Steps p.tables e below (s₁.setTop (mkF m 8 #[.val (.int p1), .val (.int (4 : Int32)), .unset, .unset] [])) t
      refine XS.iloadN X0.here hx rfl (hb hby at_8) rfl ?_
      show Steps p.tables e below (s₁.setTop (mkF m 9 #[.val (.int p1), .val (.int (4 : Int32)), .unset, .unset] [(.int (4 : Int32))])) t
      exact st1 t k)
  obtain ⟨cq3, kq3, qa3, qb3, qc3⟩ := isOf hZ e1 (own_E_EXTEND W)
  obtain ⟨vv4, _, ⟨T4, L4, kk4, nn4⟩, -, X4, ⟨Lc4, hQ4, l4, y4, z4⟩, st4⟩ := X1.virtualBackUp hx (x := (⟨"com/example/libsnippet/libsnippet/WordBreak", "ordinal", "()I"⟩ : MethodName)) (y := (⟨"java/lang/Enum", "ordinal", "()I"⟩ : MethodName)) (owner := "java/lang/Enum") hown (mvT hZ (hw _ (List.mem_of_getElem? (i := 8) rfl))) (mvT hZ (hw _ (List.mem_of_getElem? (i := 9) rfl))) (mvT hZ (hw _ (List.mem_of_getElem? (i := 10) rfl))) (by decide) (mvT hZ (hw _ (List.mem_of_getElem? (i := 12) rfl))) (mvT hZ (hw _ (List.mem_of_getElem? (i := 11) rfl))) (backOf (W := 0) (own_ordi_4 l Z a0 hw [] h0 n0 Z0 ad a_VALUES k_VALUES W) hZ (hw _ (List.mem_of_getElem? (i := 14) rfl)) (hw _ (List.mem_of_getElem? (i := 13) rfl)) (by decide) (by decide)) qa3 qc3 (g := (mkF m 36 #[.val (.int p1), .val (.int (4 : Int32)), .val (.ref (ad 1)), .val (.int (1 : Int32))] [(.ref (ad 1))])) rfl (by rw [hml]; rfl) (Steps.refl _) (argsL := []) (rest := []) (lenOf own_pd___I rfl) rfl (by show 2 * 0 + _ ≤ _; exact Nat.le_of_eq rfl) (hb hby at_36) (fun _ _ => ⟨rfl, e1, (by decide : 0 + 0 ≤ _), (by decide : 0 + 0 ≤ _)⟩)
  dsimp only [Pt.U, Pt.locs, Pt.cells, Pt.slots] at X4 l4 y4 z4 st4 hQ4
  subst l4 y4 z4
  obtain ⟨rfl, Nq4, e4⟩ := hQ4
  have N4 := Fr.app N1 Nq4
  have ch5 : ∀ t, Steps p.tables e below (T4.setTop (mkF m 39 #[.val (.int p1), .val (.int (4 : Int32)), .val (.ref (ad 1)), .val (.int (1 : Int32))] [(.int (4 : Int32))])) t → Steps p.tables e below (s₁.setTop (entryFrame m #[(.int p1)] maxLocals)) t := fun t k => ch2 t (by
      show Steps p.tables e below (T1.setTop (mkF m 12 #[.val (.int p1), .val (.int (4 : Int32)), .unset, .unset] [(.ref (ad 1))])) t
      refine XS.astoreN X1.here hx rfl (hb hby at_12) rfl rfl (l' := #[.val (.int p1), .val (.int (4 : Int32)), .val (.ref (ad 1)), .unset]) rfl ?_
      show Steps p.tables e below (T1.setTop (mkF m 13 #[.val (.int p1), .val (.int (4 : Int32)), .val (.ref (ad 1)), .unset] [])) t
      refine XS.iloadN X1.here hx rfl (hb hby at_13) rfl ?_
      show Steps p.tables e below (T1.setTop (mkF m 14 #[.val (.int p1), .val (.int (4 : Int32)), .val (.ref (ad 1)), .unset] [(.int (4 : Int32))])) t
      refine XS.iconst X1.here hx rfl (hb hby at_14) ?_
      show Steps p.tables e below (T1.setTop (mkF m 15 #[.val (.int p1), .val (.int (4 : Int32)), .val (.ref (ad 1)), .unset] [(.int (4 : Int32)), (.int (4 : Int32))])) t
      refine XS.icmpYes X1.here hx rfl (pc0 := 15) (pc' := 29) rfl (hb hby at_15) rfl (teq (by decide : (4 : Int32) = (4 : Int32))).1 (by decide) (by decide) ?_
      show Steps p.tables e below (T1.setTop (mkF m 29 #[.val (.int p1), .val (.int (4 : Int32)), .val (.ref (ad 1)), .unset] [])) t
      refine XS.iconst X1.here hx rfl (hb hby at_29) ?_
      show Steps p.tables e below (T1.setTop (mkF m 30 #[.val (.int p1), .val (.int (4 : Int32)), .val (.ref (ad 1)), .unset] [(.int (1 : Int32))])) t
      refine XS.goto X1.here hx rfl (pc0 := 30) (pc' := 34) rfl (hb hby at_30) (by decide) (by decide) ?_
      show Steps p.tables e below (T1.setTop (mkF m 34 #[.val (.int p1), .val (.int (4 : Int32)), .val (.ref (ad 1)), .unset] [(.int (1 : Int32))])) t
      refine XS.istoreN X1.here hx rfl (hb hby at_34) rfl (l' := #[.val (.int p1), .val (.int (4 : Int32)), .val (.ref (ad 1)), .val (.int (1 : Int32))]) rfl ?_
      show Steps p.tables e below (T1.setTop (mkF m 35 #[.val (.int p1), .val (.int (4 : Int32)), .val (.ref (ad 1)), .val (.int (1 : Int32))] [])) t
      refine XS.aloadN X1.here hx rfl (hb hby at_35) rfl rfl ?_
      show Steps p.tables e below (T1.setTop (mkF m 36 #[.val (.int p1), .val (.int (4 : Int32)), .val (.ref (ad 1)), .val (.int (1 : Int32))] [(.ref (ad 1))])) t
      exact st4.trans k)
  obtain ⟨cq6, kq6, qa6, qb6, qc6⟩ := isOf hZ e4 (own_E_EXTEND W)
  obtain ⟨vv7, _, ⟨T7, L7, kk7, nn7⟩, -, X7, ⟨Lc7, hQ7, l7, y7, z7⟩, st7⟩ := X4.virtualBack hx (y := (⟨"com/example/libsnippet/libsnippet/WordBreak", "isIgnorable", "()Z"⟩ : MethodName)) (z := (⟨"com/example/libsnippet/libsnippet/WordBreak", "isIgnorable", "()Z"⟩ : MethodName)) hown (mvT hZ (hw _ (List.mem_of_getElem? (i := 17) rfl))) (mvT hZ (hw _ (List.mem_of_getElem? (i := 18) rfl))) (notFace_of_selects (args := #[]) (mvT hZ (hw _ (List.mem_of_getElem? (i := 20) rfl)))) (mvT hZ (hw _ (List.mem_of_getElem? (i := 20) rfl))) (mvT hZ (hw _ (List.mem_of_getElem? (i := 19) rfl))) (by decide) (backOf (W := 0) (own_pred_4 l Z a0 hw [] h0 n0 Z0 ad a_VALUES k_VALUES W) hZ (hw _ (List.mem_of_getElem? (i := 21) rfl)) (hw _ (List.mem_of_getElem? (i := 3) rfl)) (by decide) (by decide)) qa6 qc6 (g := (mkF m 44 #[.val (.int p1), .val (.int (4 : Int32)), .val (.ref (ad 1)), .val (.int (1 : Int32))] [(.ref (ad 1))])) rfl (by rw [hml]; rfl) (Steps.refl _) (argsL := []) (rest := []) (lenOf own_pd___Z rfl) rfl (by show 2 * 0 + _ ≤ _; exact Nat.le_of_eq rfl) (hb hby at_44) (fun _ _ => ⟨rfl, e4, (by decide : 0 + 0 ≤ _), (by decide : 0 + 0 ≤ _)⟩)
  dsimp only [Pt.U, Pt.locs, Pt.cells, Pt.slots] at X7 l7 y7 z7 st7 hQ7
  subst l7 y7 z7
  obtain ⟨rfl, Nq7, e7⟩ := hQ7
  have N7 := Fr.app N4 Nq7
  have ch8 : ∀ t, Steps p.tables e below (T7.setTop (mkF m 47 #[.val (.int p1), .val (.int (4 : Int32)), .val (.ref (ad 1)), .val (.int (1 : Int32))] [(.int (1 : Int32))])) t → Steps p.tables e below (s₁.setTop (entryFrame m #[(.int p1)] maxLocals)) t := fun t k => ch5 t (by
      show Steps p.tables e below (T4.setTop (mkF m 39 #[.val (.int p1), .val (.int (4 : Int32)), .val (.ref (ad 1)), .val (.int (1 : Int32))] [(.int (4 : Int32))])) t
      refine XS.iloadN X4.here hx rfl (hb hby at_39) rfl ?_
      show Steps p.tables e below (T4.setTop (mkF m 40 #[.val (.int p1), .val (.int (4 : Int32)), .val (.ref (ad 1)), .val (.int (1 : Int32))] [(.int (4 : Int32)), (.int (4 : Int32))])) t
      refine XS.icmpNo X4.here hx rfl (hb hby at_40) rfl (teq (by decide : (4 : Int32) = (4 : Int32))).2 ?_
      show Steps p.tables e below (T4.setTop (mkF m 43 #[.val (.int p1), .val (.int (4 : Int32)), .val (.ref (ad 1)), .val (.int (1 : Int32))] [])) t
      refine XS.aloadN X4.here hx rfl (hb hby at_43) rfl rfl ?_
      show Steps p.tables e below (T4.setTop (mkF m 44 #[.val (.int p1), .val (.int (4 : Int32)), .val (.ref (ad 1)), .val (.int (1 : Int32))] [(.ref (ad 1))])) t
      exact st7.trans k)
  have ch9 : ∀ t, Steps p.tables e below (T7.setTop (mkF m 56 #[.val (.int p1), .val (.int (4 : Int32)), .val (.ref (ad 1)), .val (.int (1 : Int32))] [(.int (1 : Int32))])) t → Steps p.tables e below (s₁.setTop (entryFrame m #[(.int p1)] maxLocals)) t := fun t k => ch8 t (by
      show Steps p.tables e below (T7.setTop (mkF m 47 #[.val (.int p1), .val (.int (4 : Int32)), .val (.ref (ad 1)), .val (.int (1 : Int32))] [(.int (1 : Int32))])) t
      refine XS.iloadN X7.here hx rfl (hb hby at_47) rfl ?_
      show Steps p.tables e below (T7.setTop (mkF m 48 #[.val (.int p1), .val (.int (4 : Int32)), .val (.ref (ad 1)), .val (.int (1 : Int32))] [(.int (1 : Int32)), (.int (1 : Int32))])) t
      refine XS.icmpNo X7.here hx rfl (hb hby at_48) rfl (teq (by decide : (1 : Int32) = (1 : Int32))).2 ?_
      show Steps p.tables e below (T7.setTop (mkF m 51 #[.val (.int p1), .val (.int (4 : Int32)), .val (.ref (ad 1)), .val (.int (1 : Int32))] [])) t
      refine XS.iconst X7.here hx rfl (hb hby at_51) ?_
      show Steps p.tables e below (T7.setTop (mkF m 52 #[.val (.int p1), .val (.int (4 : Int32)), .val (.ref (ad 1)), .val (.int (1 : Int32))] [(.int (1 : Int32))])) t
      refine XS.goto X7.here hx rfl (pc0 := 52) (pc' := 56) rfl (hb hby at_52) (by decide) (by decide) ?_
      exact k)
  obtain ⟨fs, hr, hrun, hended, hW, hsame⟩ := X7.leave (v := some (.int (1 : Int32))) (fun h => by rw [Bd.returns] at h; cases h)
  refine ⟨_, _, ch9 _ ?_, hrun, hended, _, _, rfl, ?_, ⟨_, rfl⟩, hW, hsame.mono (by decide) (by decide)⟩
  · show Steps p.tables e below (T7.setTop (mkF m 56 #[.val (.int p1), .val (.int (4 : Int32)), .val (.ref (ad 1)), .val (.int (1 : Int32))] [(.int (1 : Int32))])) _
    exact retN X7 hx (t := .boolean) Bd.returns (by simp) (hb hby at_56) hr
  · show QN (some (.int (1 : Int32))) n0 _ T7.heap _
    rw [e7]
    exact ⟨rfl, N7⟩
theorem own_ef_own_pick_5 (m : MethodId) {x0 : Int32} : entryFrame m #[(.int x0)] 1 = mkF m 0 #[.val (.int x0)] [] := by first | (simp [entryFrame, mkF, argsToLocals, Value.category, maxLocals]; done) | rfl
set_option maxRecDepth 65536 in
set_option maxHeartbeats 40000000 in
theorem own_pick_5 (l : Launch) (Z : State) (a0 : Array Value) (hw : ∀ d ∈ tables_1, d.before a0 Z = true) (ws : List Jvm.Cond) (h0 : Heap) (n0 : Nat) (Z0 : n0 ≤ h0.size) (ad : Nat → Addr) (a_VALUES : Addr) (k_VALUES : ClassId) (W : OwnWd Z h0 ad a_VALUES k_VALUES) :
    MetFree l (⟨"com/example/libsnippet/libsnippet/WordBreak", "ofOrdinal", "(I)Lcom/example/libsnippet/libsnippet/WordBreak;"⟩ : MethodName) (head1 (Jvm.Cond.code (⟨"com/example/libsnippet/libsnippet/WordBreak", "ofOrdinal", "(I)Lcom/example/libsnippet/libsnippet/WordBreak;"⟩ : MethodName) prog_11_method_5_code 1 (some (.object "com/example/libsnippet/libsnippet/WordBreak")) :: ws) ({ frames := 0, cells := 0, slots := 0, locals := 0 } : Room)) (fun a U => a = #[(.int (5 : Int32))] ∧ Z.Warmed39 U.vm ∧ U.heap = h0) (fun _ _ _ _ _ => True) (fun _ U o U' => ∃ v L, o = .returned v ∧ QV (some (.ref (ad 3))) h0 n0 v U'.heap L ∧ FrameEnd U o U' L ({ frames := 0, cells := 0, slots := 0, locals := 0 } : Room).cells ({ frames := 0, cells := 0, slots := 0, locals := 0 } : Room).slots) := by
  refine MetFree.of_bodySF (plainFor_of_name own_pn_com_example_libsnippet_libsnippet_WordBreak) hisR ?_
  intro p e s m args below meth c s₁ Bd hml0 hP hK
  obtain ⟨rfl, hZ, hh⟩ := hP
  have hx := Bd.exec
  have hby := Bd.bytes
  have hml : c.maxLocals = 1 := hml0
  have hown : s.vm.findClass "com/example/libsnippet/libsnippet/WordBreak" = some m.cls := findClass_of_methodNamed Bd.named
  have hnm := (name_of_methodNamed Bd.named Bd.method).1
  have X0 : Stand p l e ({ frames := 0, cells := 0, slots := 0, locals := 0 } : Room) s m #[(.int (5 : Int32))] below meth c s₁ [] 0 0 := Stand.of_body Bd
  have e0 : s₁.heap = h0 := by rw [← hh, Bd.state]; rfl
  have N0 := Fr.nil n0
  have pre0 : ∀ t, Steps p.tables e below (s₁.setTop (mkF m 0 #[.val (.int (5 : Int32))] [])) t → Steps p.tables e below (s₁.setTop (entryFrame m #[(.int (5 : Int32))] 1)) t := fun t k => castTop (own_ef_own_pick_5 m) k
  obtain ⟨T1, X1, e1, st1⟩ := getS2 X0 hx hZ hown (host := "") (Or.inl (hw _ (List.mem_of_getElem? (i := 5) rfl))) Via.refl e0 (own_S_VALUES W) (g := (mkF m 0 #[.val (.int (5 : Int32))] [])) rfl (hb hby own_d_prog_11_method_5_code_0)
  have ch2 : ∀ t, Steps p.tables e below (T1.setTop (mkF m 3 #[.val (.int (5 : Int32))] [(.ref a_VALUES)])) t → Steps p.tables e below (s₁.setTop (entryFrame m #[(.int (5 : Int32))] 1)) t := fun t k => pre0 t (by
      show Steps p.tables e below (s₁.setTop (mkF m 0 #[.val (.int (5 : Int32))] [])) t
      exact st1 t k)
  obtain ⟨cl3, Ar3, -, Sz3, Ng3, Ha3, -⟩ := (own_V_VALUES W)
  have hin3 : ¬ ((5 : Int32) < 0 ∨ cl3.slots.size ≤ ((5 : Int32)).toNatClampNeg) := inb_of Sz3 (by decide)
  have hat3 : cl3.slots[((5 : Int32)).toNatClampNeg]? = some (.ref (ad 3)) := Ha3.at hin3 rfl
  have ch4 : ∀ t, Steps p.tables e below (T1.setTop (mkF m 5 #[.val (.int (5 : Int32))] [(.ref (ad 3))])) t → Steps p.tables e below (s₁.setTop (entryFrame m #[(.int (5 : Int32))] 1)) t := fun t k => ch2 t (by
      show Steps p.tables e below (T1.setTop (mkF m 3 #[.val (.int (5 : Int32))] [(.ref a_VALUES)])) t
      refine XS.iloadN X1.here hx rfl (hb hby own_d_prog_11_method_5_code_3) rfl ?_
      show Steps p.tables e below (T1.setTop (mkF m 4 #[.val (.int (5 : Int32))] [(.int (5 : Int32)), (.ref a_VALUES)])) t
      refine X1.aaload hx (j := (5 : Int32)) (v := (.ref (ad 3))) (by rw [e1]; exact Ar3.1) (State.isArrayOf_alike hZ.alike Ar3.2.1) rfl Ar3.2.2 hin3 hat3 (g := (mkF m 4 #[.val (.int (5 : Int32))] [(.int (5 : Int32)), (.ref a_VALUES)])) rfl rfl (hb hby own_d_prog_11_method_5_code_4) _ ?_
      exact k)
  obtain ⟨fs, hr, hrun, hended, hW, hsame⟩ := X1.leave (v := some (.ref (ad 3))) (fun h => by rw [Bd.returns] at h; cases h)
  refine ⟨_, _, ch4 _ ?_, hrun, hended, _, _, rfl, ?_, ⟨_, rfl⟩, hW, hsame.mono (by decide) (by decide)⟩
  · show Steps p.tables e below (T1.setTop (mkF m 5 #[.val (.int (5 : Int32))] [(.ref (ad 3))])) _
    jvm_step X1.here [X1.here.top, hx, (hb hby own_d_prog_11_method_5_code_5), X1.method', Bd.returns, Value.isRef, FieldType.isReference]
    first | (intro acts; rw [hr _ acts rfl rfl rfl]) | rw [hr _ _ rfl rfl rfl]
    exact Steps.refl _
  · show QV (some (.ref (ad 3))) h0 n0 _ T1.heap _
    rw [e1]
    exact ⟨rfl, N0, rfl⟩
theorem own_ef_own_pred_5 (m : MethodId) {x0 : Addr} : entryFrame m #[(.ref x0)] 1 = mkF m 0 #[.val (.ref x0)] [] := by first | (simp [entryFrame, mkF, argsToLocals, Value.category, maxLocals]; done) | rfl
set_option maxRecDepth 65536 in
set_option maxHeartbeats 40000000 in
theorem own_pred_5 (l : Launch) (Z : State) (a0 : Array Value) (hw : ∀ d ∈ tables_1, d.before a0 Z = true) (ws : List Jvm.Cond) (h0 : Heap) (n0 : Nat) (Z0 : n0 ≤ h0.size) (ad : Nat → Addr) (a_VALUES : Addr) (k_VALUES : ClassId) (W : OwnWd Z h0 ad a_VALUES k_VALUES) :
    MetFree l (⟨"com/example/libsnippet/libsnippet/WordBreak", "isIgnorable", "()Z"⟩ : MethodName) (head1 (Jvm.Cond.code (⟨"com/example/libsnippet/libsnippet/WordBreak", "isIgnorable", "()Z"⟩ : MethodName) prog_11_method_7_code 1 (some .boolean) :: ws) ({ frames := 0, cells := 0, slots := 0, locals := 0 } : Room)) (fun a U => a = #[(.ref (ad 3))] ∧ Z.Warmed39 U.vm ∧ U.heap = h0) (fun _ _ _ _ _ => True) (fun _ U o U' => ∃ v L, o = .returned v ∧ QV (some (.int (1 : Int32))) h0 n0 v U'.heap L ∧ FrameEnd U o U' L ({ frames := 0, cells := 0, slots := 0, locals := 0 } : Room).cells ({ frames := 0, cells := 0, slots := 0, locals := 0 } : Room).slots) := by
  refine MetFree.of_bodySF (plainFor_of_name own_pn_com_example_libsnippet_libsnippet_WordBreak) hisR ?_
  intro p e s m args below meth c s₁ Bd hml0 hP hK
  obtain ⟨rfl, hZ, hh⟩ := hP
  have hx := Bd.exec
  have hby := Bd.bytes
  have hml : c.maxLocals = 1 := hml0
  have hown : s.vm.findClass "com/example/libsnippet/libsnippet/WordBreak" = some m.cls := findClass_of_methodNamed Bd.named
  have hnm := (name_of_methodNamed Bd.named Bd.method).1
  have X0 : Stand p l e ({ frames := 0, cells := 0, slots := 0, locals := 0 } : Room) s m #[(.ref (ad 3))] below meth c s₁ [] 0 0 := Stand.of_body Bd
  have e0 : s₁.heap = h0 := by rw [← hh, Bd.state]; rfl
  have N0 := Fr.nil n0
  have pre0 : ∀ t, Steps p.tables e below (s₁.setTop (mkF m 0 #[.val (.ref (ad 3))] [])) t → Steps p.tables e below (s₁.setTop (entryFrame m #[(.ref (ad 3))] 1)) t := fun t k => castTop (own_ef_own_pred_5 m) k
  obtain ⟨T1, X1, e1, st1⟩ := getS2 X0 hx hZ hown (host := "") (Or.inl (hw _ (List.mem_of_getElem? (i := 22) rfl))) Via.refl e0 (own_S_EXTEND W) (g := (mkF m 1 #[.val (.ref (ad 3))] [(.ref (ad 3))])) rfl (hb hby own_d_prog_11_method_7_code_1)
  have ch2 : ∀ t, Steps p.tables e below (T1.setTop (mkF m 4 #[.val (.ref (ad 3))] [(.ref (ad 1)), (.ref (ad 3))])) t → Steps p.tables e below (s₁.setTop (entryFrame m #[(.ref (ad 3))] 1)) t := fun t k => pre0 t (by
      show Steps p.tables e below (s₁.setTop (mkF m 0 #[.val (.ref (ad 3))] [])) t
      refine XS.aloadN X0.here hx rfl (hb hby own_d_prog_11_method_7_code_0) rfl rfl ?_
      show Steps p.tables e below (s₁.setTop (mkF m 1 #[.val (.ref (ad 3))] [(.ref (ad 3))])) t
      exact st1 t k)
  obtain ⟨T3, X3, e3, st3⟩ := getS2 X1 hx hZ hown (host := "") (Or.inl (hw _ (List.mem_of_getElem? (i := 24) rfl))) Via.refl e1 (own_S_FORMAT W) (g := (mkF m 8 #[.val (.ref (ad 3))] [(.ref (ad 3))])) rfl (hb hby own_d_prog_11_method_7_code_8)
  have ch4 : ∀ t, Steps p.tables e below (T3.setTop (mkF m 11 #[.val (.ref (ad 3))] [(.ref (ad 2)), (.ref (ad 3))])) t → Steps p.tables e below (s₁.setTop (entryFrame m #[(.ref (ad 3))] 1)) t := fun t k => ch2 t (by
      show Steps p.tables e below (T1.setTop (mkF m 4 #[.val (.ref (ad 3))] [(.ref (ad 1)), (.ref (ad 3))])) t
      refine Jvm.RoadKit.acmp (g := (mkF m 4 #[.val (.ref (ad 3))] [(.ref (ad 1)), (.ref (ad 3))])) X1 hx rfl rfl rfl (pc0 := 4) (pc' := 7) (same := false) rfl (hb hby own_d_prog_11_method_7_code_4) rfl (decide_eq_false fun q => (Fld.ne (own_F_ZWJ_ordinal W) (own_F_EXTEND_ordinal W) (by decide)) (Value.ref.inj q)) (by decide) (by decide) ?_
      show Steps p.tables e below (T1.setTop (mkF m 7 #[.val (.ref (ad 3))] [])) t
      refine XS.aloadN X1.here hx rfl (hb hby own_d_prog_11_method_7_code_7) rfl rfl ?_
      show Steps p.tables e below (T1.setTop (mkF m 8 #[.val (.ref (ad 3))] [(.ref (ad 3))])) t
      exact st3 t k)
  obtain ⟨T5, X5, e5, st5⟩ := getS2 X3 hx hZ hown (host := "") (Or.inl (hw _ (List.mem_of_getElem? (i := 26) rfl))) Via.refl e3 (own_S_ZWJ W) (g := (mkF m 15 #[.val (.ref (ad 3))] [(.ref (ad 3))])) rfl (hb hby own_d_prog_11_method_7_code_15)
  have ch6 : ∀ t, Steps p.tables e below (T5.setTop (mkF m 18 #[.val (.ref (ad 3))] [(.ref (ad 3)), (.ref (ad 3))])) t → Steps p.tables e below (s₁.setTop (entryFrame m #[(.ref (ad 3))] 1)) t := fun t k => ch4 t (by
      show Steps p.tables e below (T3.setTop (mkF m 11 #[.val (.ref (ad 3))] [(.ref (ad 2)), (.ref (ad 3))])) t
      refine Jvm.RoadKit.acmp (g := (mkF m 11 #[.val (.ref (ad 3))] [(.ref (ad 2)), (.ref (ad 3))])) X3 hx rfl rfl rfl (pc0 := 11) (pc' := 14) (same := false) rfl (hb hby own_d_prog_11_method_7_code_11) rfl (decide_eq_false fun q => (Fld.ne (own_F_ZWJ_ordinal W) (own_F_FORMAT_ordinal W) (by decide)) (Value.ref.inj q)) (by decide) (by decide) ?_
      show Steps p.tables e below (T3.setTop (mkF m 14 #[.val (.ref (ad 3))] [])) t
      refine XS.aloadN X3.here hx rfl (hb hby own_d_prog_11_method_7_code_14) rfl rfl ?_
      show Steps p.tables e below (T3.setTop (mkF m 15 #[.val (.ref (ad 3))] [(.ref (ad 3))])) t
      exact st5 t k)
  have ch7 : ∀ t, Steps p.tables e below (T5.setTop (mkF m 26 #[.val (.ref (ad 3))] [(.int (1 : Int32))])) t → Steps p.tables e below (s₁.setTop (entryFrame m #[(.ref (ad 3))] 1)) t := fun t k => ch6 t (by
      show Steps p.tables e below (T5.setTop (mkF m 18 #[.val (.ref (ad 3))] [(.ref (ad 3)), (.ref (ad 3))])) t
      refine Jvm.RoadKit.acmp (g := (mkF m 18 #[.val (.ref (ad 3))] [(.ref (ad 3)), (.ref (ad 3))])) X5 hx rfl rfl rfl (pc0 := 18) (pc' := 21) (same := true) rfl (hb hby own_d_prog_11_method_7_code_18) rfl (decide_eq_true rfl) (by decide) (by decide) ?_
      show Steps p.tables e below (T5.setTop (mkF m 21 #[.val (.ref (ad 3))] [])) t
      refine XS.iconst X5.here hx rfl (hb hby own_d_prog_11_method_7_code_21) ?_
      show Steps p.tables e below (T5.setTop (mkF m 22 #[.val (.ref (ad 3))] [(.int (1 : Int32))])) t
      refine XS.goto X5.here hx rfl (pc0 := 22) (pc' := 26) rfl (hb hby own_d_prog_11_method_7_code_22) (by decide) (by decide) ?_
      exact k)
  obtain ⟨fs, hr, hrun, hended, hW, hsame⟩ := X5.leave (v := some (.int (1 : Int32))) (fun h => by rw [Bd.returns] at h; cases h)
  refine ⟨_, _, ch7 _ ?_, hrun, hended, _, _, rfl, ?_, ⟨_, rfl⟩, hW, hsame.mono (by decide) (by decide)⟩
  · show Steps p.tables e below (T5.setTop (mkF m 26 #[.val (.ref (ad 3))] [(.int (1 : Int32))])) _
    exact retN X5 hx (t := .boolean) Bd.returns (by simp) (hb hby own_d_prog_11_method_7_code_26) hr
  · show QV (some (.int (1 : Int32))) h0 n0 _ T5.heap _
    rw [e5]
    exact ⟨rfl, N0, rfl⟩
theorem own_ef_own_ordi_5 (m : MethodId) {x0 : Addr} : entryFrame m #[(.ref x0)] 1 = mkF m 0 #[.val (.ref x0)] [] := by first | (simp [entryFrame, mkF, argsToLocals, Value.category, maxLocals]; done) | rfl
set_option maxRecDepth 65536 in
set_option maxHeartbeats 40000000 in
theorem own_ordi_5 (l : Launch) (Z : State) (a0 : Array Value) (hw : ∀ d ∈ tables_1, d.before a0 Z = true) (ws : List Jvm.Cond) (h0 : Heap) (n0 : Nat) (Z0 : n0 ≤ h0.size) (ad : Nat → Addr) (a_VALUES : Addr) (k_VALUES : ClassId) (W : OwnWd Z h0 ad a_VALUES k_VALUES) :
    MetFree l (⟨"java/lang/Enum", "ordinal", "()I"⟩ : MethodName) (head1 (Jvm.Cond.code (⟨"java/lang/Enum", "ordinal", "()I"⟩ : MethodName) jdk_37_method_2_code 1 (some .int) :: ws) ({ frames := 0, cells := 0, slots := 0, locals := 0 } : Room)) (fun a U => a = #[(.ref (ad 3))] ∧ Z.Warmed39 U.vm ∧ U.heap = h0) (fun _ _ _ _ _ => True) (fun _ U o U' => ∃ v L, o = .returned v ∧ QV (some (.int (5 : Int32))) h0 n0 v U'.heap L ∧ FrameEnd U o U' L ({ frames := 0, cells := 0, slots := 0, locals := 0 } : Room).cells ({ frames := 0, cells := 0, slots := 0, locals := 0 } : Room).slots) := by
  refine MetFree.of_bodySF (plainFor_of_name own_pn_java_lang_Enum) hisR ?_
  intro p e s m args below meth c s₁ Bd hml0 hP hK
  obtain ⟨rfl, hZ, hh⟩ := hP
  have hx := Bd.exec
  have hby := Bd.bytes
  have hml : c.maxLocals = 1 := hml0
  have hown : s.vm.findClass "java/lang/Enum" = some m.cls := findClass_of_methodNamed Bd.named
  have hnm := (name_of_methodNamed Bd.named Bd.method).1
  have X0 : Stand p l e ({ frames := 0, cells := 0, slots := 0, locals := 0 } : Room) s m #[(.ref (ad 3))] below meth c s₁ [] 0 0 := Stand.of_body Bd
  have e0 : s₁.heap = h0 := by rw [← hh, Bd.state]; rfl
  have N0 := Fr.nil n0
  have pre0 : ∀ t, Steps p.tables e below (s₁.setTop (mkF m 0 #[.val (.ref (ad 3))] [])) t → Steps p.tables e below (s₁.setTop (entryFrame m #[(.ref (ad 3))] 1)) t := fun t k => castTop (own_ef_own_ordi_5 m) k
  obtain ⟨T1, X1, e1, st1⟩ := getF X0 hx hZ hown (host := "") (Or.inl (hw _ (List.mem_of_getElem? (i := 15) rfl))) Via.refl e0 (own_F_ZWJ_ordinal W) (g := (mkF m 1 #[.val (.ref (ad 3))] [(.ref (ad 3))])) rfl rfl (hb hby own_d_jdk_37_method_2_code_1)
  have ch2 : ∀ t, Steps p.tables e below (T1.setTop (mkF m 4 #[.val (.ref (ad 3))] [(.int (5 : Int32))])) t → Steps p.tables e below (s₁.setTop (entryFrame m #[(.ref (ad 3))] 1)) t := fun t k => pre0 t (by
      show Steps p.tables e below (s₁.setTop (mkF m 0 #[.val (.ref (ad 3))] [])) t
      refine XS.aloadN X0.here hx rfl (hb hby own_d_jdk_37_method_2_code_0) rfl rfl ?_
      show Steps p.tables e below (s₁.setTop (mkF m 1 #[.val (.ref (ad 3))] [(.ref (ad 3))])) t
      exact st1 t k)
  obtain ⟨fs, hr, hrun, hended, hW, hsame⟩ := X1.leave (v := some (.int (5 : Int32))) (fun h => by rw [Bd.returns] at h; cases h)
  refine ⟨_, _, ch2 _ ?_, hrun, hended, _, _, rfl, ?_, ⟨_, rfl⟩, hW, hsame.mono (by decide) (by decide)⟩
  · show Steps p.tables e below (T1.setTop (mkF m 4 #[.val (.ref (ad 3))] [(.int (5 : Int32))])) _
    exact retI X1 hx Bd.returns (hb hby own_d_jdk_37_method_2_code_4) hr
  · show QV (some (.int (5 : Int32))) h0 n0 _ T1.heap _
    rw [e1]
    exact ⟨rfl, N0, rfl⟩
theorem own_ef_own_law_5 (m : MethodId) {x0 : Int32} : entryFrame m #[(.int x0)] maxLocals = mkF m 0 #[.val (.int x0), .unset, .unset, .unset] [] := by first | (simp [entryFrame, mkF, argsToLocals, Value.category, maxLocals]; done) | rfl
set_option maxRecDepth 65536 in
set_option maxHeartbeats 40000000 in
theorem own_law_5 (l : Launch) (Z : State) (a0 : Array Value) (hw : ∀ d ∈ tables_1, d.before a0 Z = true) (ws : List Jvm.Cond) (h0 : Heap) (n0 : Nat) (Z0 : n0 ≤ h0.size) (p1 : Int32) (hk : (p1 &&& (2147483647 : Int32)) % (19 : Int32) = (5 : Int32)) (ad : Nat → Addr) (a_VALUES : Addr) (k_VALUES : ClassId) (W : OwnWd Z h0 ad a_VALUES k_VALUES) :
    MetFree l x (head1 (Jvm.Cond.code x code maxLocals ret :: ws) room_1) (fun a U => a = #[(.int p1)] ∧ Z.Warmed39 U.vm ∧ U.heap = h0) (fun _ _ _ _ _ => True) (fun _ U o U' => ∃ v L, o = .returned v ∧ QN (some (.int (1 : Int32))) n0 v U'.heap L ∧ FrameEnd U o U' L room_1.cells room_1.slots) := by
  refine MetFree.of_bodySF (plainFor_of_name own_pn_com_example_libsnippet_libsnippet_WordBreakIsIgnorablePinLaw) hisR ?_
  intro p e s m args below meth c s₁ Bd hml0 hP hK
  obtain ⟨rfl, hZ, hh⟩ := hP
  have hx := Bd.exec
  have hby := Bd.bytes
  have hml : c.maxLocals = 4 := hml0
  have hown : s.vm.findClass "com/example/libsnippet/libsnippet/WordBreakIsIgnorablePinLaw" = some m.cls := findClass_of_methodNamed Bd.named
  have hnm := (name_of_methodNamed Bd.named Bd.method).1
  have X0 : Stand p l e room_1 s m #[(.int p1)] below meth c s₁ [] 0 0 := Stand.of_body Bd
  have e0 : s₁.heap = h0 := by rw [← hh, Bd.state]; rfl
  have N0 := Fr.nil n0
  have pre0 : ∀ t, Steps p.tables e below (s₁.setTop (mkF m 0 #[.val (.int p1), .unset, .unset, .unset] [])) t → Steps p.tables e below (s₁.setTop (entryFrame m #[(.int p1)] maxLocals)) t := fun t k => castTop (own_ef_own_law_5 m) k
  obtain ⟨vv1, _, ⟨T1, L1, kk1, nn1⟩, -, X1, ⟨Lc1, hQ1, l1, y1, z1⟩, st1⟩ := Jvm.LawKit.callS X0 hx (y := (⟨"com/example/libsnippet/libsnippet/WordBreak", "ofOrdinal", "(I)Lcom/example/libsnippet/libsnippet/WordBreak;"⟩ : MethodName)) hown (mvT hZ (hw _ (List.mem_of_getElem? (i := 1) rfl))) (mvT hZ (hw _ (List.mem_of_getElem? (i := 2) rfl))) (mvT hZ (hw _ (List.mem_of_getElem? (i := 3) rfl))) (mvT hZ (hw _ (List.mem_of_getElem? (i := 4) rfl))) (by decide) (backOf (W := 0) (own_pick_5 l Z a0 hw [] h0 n0 Z0 ad a_VALUES k_VALUES W) hZ (hw _ (List.mem_of_getElem? (i := 4) rfl)) (hw _ (List.mem_of_getElem? (i := 3) rfl)) (by decide) (by decide)) (g := (mkF m 9 #[.val (.int p1), .val (.int (5 : Int32)), .unset, .unset] [(.int (5 : Int32))])) rfl (by rw [hml]; rfl) (argsL := [(.int (5 : Int32))]) (rest := []) (lenOf own_pd__I_Lcom_example_libsnippet_libsnippet_WordBreak_ rfl) rfl (by show 2 * 0 + _ ≤ _; exact Nat.le_of_eq rfl) (hb hby at_9) (fun _ _ => ⟨rfl, e0, (by decide : 0 + 0 ≤ _), (by decide : 0 + 0 ≤ _)⟩)
  dsimp only [Pt.U, Pt.locs, Pt.cells, Pt.slots] at X1 l1 y1 z1 st1 hQ1
  subst l1 y1 z1
  obtain ⟨rfl, Nq1, e1⟩ := hQ1
  have N1 := Fr.app N0 Nq1
  have ch2 : ∀ t, Steps p.tables e below (T1.setTop (mkF m 12 #[.val (.int p1), .val (.int (5 : Int32)), .unset, .unset] [(.ref (ad 3))])) t → Steps p.tables e below (s₁.setTop (entryFrame m #[(.int p1)] maxLocals)) t := fun t k => pre0 t (by
      show Steps p.tables e below (s₁.setTop (mkF m 0 #[.val (.int p1), .unset, .unset, .unset] [])) t
      refine XS.iloadN X0.here hx rfl (hb hby at_0) rfl ?_
      show Steps p.tables e below (s₁.setTop (mkF m 1 #[.val (.int p1), .unset, .unset, .unset] [(.int p1)])) t
      refine X0.ldcInt hx hown (mvT hZ (hw _ (List.mem_of_getElem? (i := 0) rfl))) (g := (mkF m 1 #[.val (.int p1), .unset, .unset, .unset] [(.int p1)])) rfl (hb hby at_1) _ ?_
      show Steps p.tables e below (s₁.setTop (mkF m 3 #[.val (.int p1), .unset, .unset, .unset] [(.int (2147483647 : Int32)), (.int p1)])) t
      refine XS.iand X0.here hx rfl (hb hby at_3) rfl ?_
      show Steps p.tables e below (s₁.setTop (mkF m 4 #[.val (.int p1), .unset, .unset, .unset] [(.int (p1 &&& (2147483647 : Int32)))])) t
      refine XS.bipush X0.here hx rfl (hb hby at_4) ?_
      show Steps p.tables e below (s₁.setTop (mkF m 6 #[.val (.int p1), .unset, .unset, .unset] [(.int (19 : Int32)), (.int (p1 &&& (2147483647 : Int32)))])) t
      refine Jvm.RoadKit.iremM (g := (mkF m 6 #[.val (.int p1), .unset, .unset, .unset] [(.int (19 : Int32)), (.int (p1 &&& (2147483647 : Int32)))])) X0 hx rfl (hb hby at_6) rfl (by decide) ?_
      rw [hk]
      show Steps p.tables e below (s₁.setTop (mkF m 7 #[.val (.int p1), .unset, .unset, .unset] [(.int (5 : Int32))])) t
      refine XS.istoreN X0.here hx rfl (hb hby at_7) rfl (l' := #[.val (.int p1), .val (.int (5 : Int32)), .unset, .unset]) rfl ?_
      show Steps p.tables e below (s₁.setTop (mkF m 8 #[.val (.int p1), .val (.int (5 : Int32)), .unset, .unset] [])) t
      refine XS.iloadN X0.here hx rfl (hb hby at_8) rfl ?_
      show Steps p.tables e below (s₁.setTop (mkF m 9 #[.val (.int p1), .val (.int (5 : Int32)), .unset, .unset] [(.int (5 : Int32))])) t
      exact st1 t k)
  obtain ⟨cq3, kq3, qa3, qb3, qc3⟩ := isOf hZ e1 (own_E_ZWJ W)
  obtain ⟨vv4, _, ⟨T4, L4, kk4, nn4⟩, -, X4, ⟨Lc4, hQ4, l4, y4, z4⟩, st4⟩ := X1.virtualBackUp hx (x := (⟨"com/example/libsnippet/libsnippet/WordBreak", "ordinal", "()I"⟩ : MethodName)) (y := (⟨"java/lang/Enum", "ordinal", "()I"⟩ : MethodName)) (owner := "java/lang/Enum") hown (mvT hZ (hw _ (List.mem_of_getElem? (i := 8) rfl))) (mvT hZ (hw _ (List.mem_of_getElem? (i := 9) rfl))) (mvT hZ (hw _ (List.mem_of_getElem? (i := 10) rfl))) (by decide) (mvT hZ (hw _ (List.mem_of_getElem? (i := 12) rfl))) (mvT hZ (hw _ (List.mem_of_getElem? (i := 11) rfl))) (backOf (W := 0) (own_ordi_5 l Z a0 hw [] h0 n0 Z0 ad a_VALUES k_VALUES W) hZ (hw _ (List.mem_of_getElem? (i := 14) rfl)) (hw _ (List.mem_of_getElem? (i := 13) rfl)) (by decide) (by decide)) qa3 qc3 (g := (mkF m 36 #[.val (.int p1), .val (.int (5 : Int32)), .val (.ref (ad 3)), .val (.int (1 : Int32))] [(.ref (ad 3))])) rfl (by rw [hml]; rfl) (Steps.refl _) (argsL := []) (rest := []) (lenOf own_pd___I rfl) rfl (by show 2 * 0 + _ ≤ _; exact Nat.le_of_eq rfl) (hb hby at_36) (fun _ _ => ⟨rfl, e1, (by decide : 0 + 0 ≤ _), (by decide : 0 + 0 ≤ _)⟩)
  dsimp only [Pt.U, Pt.locs, Pt.cells, Pt.slots] at X4 l4 y4 z4 st4 hQ4
  subst l4 y4 z4
  obtain ⟨rfl, Nq4, e4⟩ := hQ4
  have N4 := Fr.app N1 Nq4
  have ch5 : ∀ t, Steps p.tables e below (T4.setTop (mkF m 39 #[.val (.int p1), .val (.int (5 : Int32)), .val (.ref (ad 3)), .val (.int (1 : Int32))] [(.int (5 : Int32))])) t → Steps p.tables e below (s₁.setTop (entryFrame m #[(.int p1)] maxLocals)) t := fun t k => ch2 t (by
      show Steps p.tables e below (T1.setTop (mkF m 12 #[.val (.int p1), .val (.int (5 : Int32)), .unset, .unset] [(.ref (ad 3))])) t
      refine XS.astoreN X1.here hx rfl (hb hby at_12) rfl rfl (l' := #[.val (.int p1), .val (.int (5 : Int32)), .val (.ref (ad 3)), .unset]) rfl ?_
      show Steps p.tables e below (T1.setTop (mkF m 13 #[.val (.int p1), .val (.int (5 : Int32)), .val (.ref (ad 3)), .unset] [])) t
      refine XS.iloadN X1.here hx rfl (hb hby at_13) rfl ?_
      show Steps p.tables e below (T1.setTop (mkF m 14 #[.val (.int p1), .val (.int (5 : Int32)), .val (.ref (ad 3)), .unset] [(.int (5 : Int32))])) t
      refine XS.iconst X1.here hx rfl (hb hby at_14) ?_
      show Steps p.tables e below (T1.setTop (mkF m 15 #[.val (.int p1), .val (.int (5 : Int32)), .val (.ref (ad 3)), .unset] [(.int (4 : Int32)), (.int (5 : Int32))])) t
      refine XS.icmpNo X1.here hx rfl (hb hby at_15) rfl (feq (by decide : ¬ (5 : Int32) = (4 : Int32))).1 ?_
      show Steps p.tables e below (T1.setTop (mkF m 18 #[.val (.int p1), .val (.int (5 : Int32)), .val (.ref (ad 3)), .unset] [])) t
      refine XS.iloadN X1.here hx rfl (hb hby at_18) rfl ?_
      show Steps p.tables e below (T1.setTop (mkF m 19 #[.val (.int p1), .val (.int (5 : Int32)), .val (.ref (ad 3)), .unset] [(.int (5 : Int32))])) t
      refine XS.iconst X1.here hx rfl (hb hby at_19) ?_
      show Steps p.tables e below (T1.setTop (mkF m 20 #[.val (.int p1), .val (.int (5 : Int32)), .val (.ref (ad 3)), .unset] [(.int (5 : Int32)), (.int (5 : Int32))])) t
      refine XS.icmpYes X1.here hx rfl (pc0 := 20) (pc' := 29) rfl (hb hby at_20) rfl (teq (by decide : (5 : Int32) = (5 : Int32))).1 (by decide) (by decide) ?_
      show Steps p.tables e below (T1.setTop (mkF m 29 #[.val (.int p1), .val (.int (5 : Int32)), .val (.ref (ad 3)), .unset] [])) t
      refine XS.iconst X1.here hx rfl (hb hby at_29) ?_
      show Steps p.tables e below (T1.setTop (mkF m 30 #[.val (.int p1), .val (.int (5 : Int32)), .val (.ref (ad 3)), .unset] [(.int (1 : Int32))])) t
      refine XS.goto X1.here hx rfl (pc0 := 30) (pc' := 34) rfl (hb hby at_30) (by decide) (by decide) ?_
      show Steps p.tables e below (T1.setTop (mkF m 34 #[.val (.int p1), .val (.int (5 : Int32)), .val (.ref (ad 3)), .unset] [(.int (1 : Int32))])) t
      refine XS.istoreN X1.here hx rfl (hb hby at_34) rfl (l' := #[.val (.int p1), .val (.int (5 : Int32)), .val (.ref (ad 3)), .val (.int (1 : Int32))]) rfl ?_
      show Steps p.tables e below (T1.setTop (mkF m 35 #[.val (.int p1), .val (.int (5 : Int32)), .val (.ref (ad 3)), .val (.int (1 : Int32))] [])) t
      refine XS.aloadN X1.here hx rfl (hb hby at_35) rfl rfl ?_
      show Steps p.tables e below (T1.setTop (mkF m 36 #[.val (.int p1), .val (.int (5 : Int32)), .val (.ref (ad 3)), .val (.int (1 : Int32))] [(.ref (ad 3))])) t
      exact st4.trans k)
  obtain ⟨cq6, kq6, qa6, qb6, qc6⟩ := isOf hZ e4 (own_E_ZWJ W)
  obtain ⟨vv7, _, ⟨T7, L7, kk7, nn7⟩, -, X7, ⟨Lc7, hQ7, l7, y7, z7⟩, st7⟩ := X4.virtualBack hx (y := (⟨"com/example/libsnippet/libsnippet/WordBreak", "isIgnorable", "()Z"⟩ : MethodName)) (z := (⟨"com/example/libsnippet/libsnippet/WordBreak", "isIgnorable", "()Z"⟩ : MethodName)) hown (mvT hZ (hw _ (List.mem_of_getElem? (i := 17) rfl))) (mvT hZ (hw _ (List.mem_of_getElem? (i := 18) rfl))) (notFace_of_selects (args := #[]) (mvT hZ (hw _ (List.mem_of_getElem? (i := 20) rfl)))) (mvT hZ (hw _ (List.mem_of_getElem? (i := 20) rfl))) (mvT hZ (hw _ (List.mem_of_getElem? (i := 19) rfl))) (by decide) (backOf (W := 0) (own_pred_5 l Z a0 hw [] h0 n0 Z0 ad a_VALUES k_VALUES W) hZ (hw _ (List.mem_of_getElem? (i := 21) rfl)) (hw _ (List.mem_of_getElem? (i := 3) rfl)) (by decide) (by decide)) qa6 qc6 (g := (mkF m 44 #[.val (.int p1), .val (.int (5 : Int32)), .val (.ref (ad 3)), .val (.int (1 : Int32))] [(.ref (ad 3))])) rfl (by rw [hml]; rfl) (Steps.refl _) (argsL := []) (rest := []) (lenOf own_pd___Z rfl) rfl (by show 2 * 0 + _ ≤ _; exact Nat.le_of_eq rfl) (hb hby at_44) (fun _ _ => ⟨rfl, e4, (by decide : 0 + 0 ≤ _), (by decide : 0 + 0 ≤ _)⟩)
  dsimp only [Pt.U, Pt.locs, Pt.cells, Pt.slots] at X7 l7 y7 z7 st7 hQ7
  subst l7 y7 z7
  obtain ⟨rfl, Nq7, e7⟩ := hQ7
  have N7 := Fr.app N4 Nq7
  have ch8 : ∀ t, Steps p.tables e below (T7.setTop (mkF m 47 #[.val (.int p1), .val (.int (5 : Int32)), .val (.ref (ad 3)), .val (.int (1 : Int32))] [(.int (1 : Int32))])) t → Steps p.tables e below (s₁.setTop (entryFrame m #[(.int p1)] maxLocals)) t := fun t k => ch5 t (by
      show Steps p.tables e below (T4.setTop (mkF m 39 #[.val (.int p1), .val (.int (5 : Int32)), .val (.ref (ad 3)), .val (.int (1 : Int32))] [(.int (5 : Int32))])) t
      refine XS.iloadN X4.here hx rfl (hb hby at_39) rfl ?_
      show Steps p.tables e below (T4.setTop (mkF m 40 #[.val (.int p1), .val (.int (5 : Int32)), .val (.ref (ad 3)), .val (.int (1 : Int32))] [(.int (5 : Int32)), (.int (5 : Int32))])) t
      refine XS.icmpNo X4.here hx rfl (hb hby at_40) rfl (teq (by decide : (5 : Int32) = (5 : Int32))).2 ?_
      show Steps p.tables e below (T4.setTop (mkF m 43 #[.val (.int p1), .val (.int (5 : Int32)), .val (.ref (ad 3)), .val (.int (1 : Int32))] [])) t
      refine XS.aloadN X4.here hx rfl (hb hby at_43) rfl rfl ?_
      show Steps p.tables e below (T4.setTop (mkF m 44 #[.val (.int p1), .val (.int (5 : Int32)), .val (.ref (ad 3)), .val (.int (1 : Int32))] [(.ref (ad 3))])) t
      exact st7.trans k)
  have ch9 : ∀ t, Steps p.tables e below (T7.setTop (mkF m 56 #[.val (.int p1), .val (.int (5 : Int32)), .val (.ref (ad 3)), .val (.int (1 : Int32))] [(.int (1 : Int32))])) t → Steps p.tables e below (s₁.setTop (entryFrame m #[(.int p1)] maxLocals)) t := fun t k => ch8 t (by
      show Steps p.tables e below (T7.setTop (mkF m 47 #[.val (.int p1), .val (.int (5 : Int32)), .val (.ref (ad 3)), .val (.int (1 : Int32))] [(.int (1 : Int32))])) t
      refine XS.iloadN X7.here hx rfl (hb hby at_47) rfl ?_
      show Steps p.tables e below (T7.setTop (mkF m 48 #[.val (.int p1), .val (.int (5 : Int32)), .val (.ref (ad 3)), .val (.int (1 : Int32))] [(.int (1 : Int32)), (.int (1 : Int32))])) t
      refine XS.icmpNo X7.here hx rfl (hb hby at_48) rfl (teq (by decide : (1 : Int32) = (1 : Int32))).2 ?_
      show Steps p.tables e below (T7.setTop (mkF m 51 #[.val (.int p1), .val (.int (5 : Int32)), .val (.ref (ad 3)), .val (.int (1 : Int32))] [])) t
      refine XS.iconst X7.here hx rfl (hb hby at_51) ?_
      show Steps p.tables e below (T7.setTop (mkF m 52 #[.val (.int p1), .val (.int (5 : Int32)), .val (.ref (ad 3)), .val (.int (1 : Int32))] [(.int (1 : Int32))])) t
      refine XS.goto X7.here hx rfl (pc0 := 52) (pc' := 56) rfl (hb hby at_52) (by decide) (by decide) ?_
      exact k)
  obtain ⟨fs, hr, hrun, hended, hW, hsame⟩ := X7.leave (v := some (.int (1 : Int32))) (fun h => by rw [Bd.returns] at h; cases h)
  refine ⟨_, _, ch9 _ ?_, hrun, hended, _, _, rfl, ?_, ⟨_, rfl⟩, hW, hsame.mono (by decide) (by decide)⟩
  · show Steps p.tables e below (T7.setTop (mkF m 56 #[.val (.int p1), .val (.int (5 : Int32)), .val (.ref (ad 3)), .val (.int (1 : Int32))] [(.int (1 : Int32))])) _
    exact retN X7 hx (t := .boolean) Bd.returns (by simp) (hb hby at_56) hr
  · show QN (some (.int (1 : Int32))) n0 _ T7.heap _
    rw [e7]
    exact ⟨rfl, N7⟩
theorem own_ef_own_pick_6 (m : MethodId) {x0 : Int32} : entryFrame m #[(.int x0)] 1 = mkF m 0 #[.val (.int x0)] [] := by first | (simp [entryFrame, mkF, argsToLocals, Value.category, maxLocals]; done) | rfl
set_option maxRecDepth 65536 in
set_option maxHeartbeats 40000000 in
theorem own_pick_6 (l : Launch) (Z : State) (a0 : Array Value) (hw : ∀ d ∈ tables_1, d.before a0 Z = true) (ws : List Jvm.Cond) (h0 : Heap) (n0 : Nat) (Z0 : n0 ≤ h0.size) (ad : Nat → Addr) (a_VALUES : Addr) (k_VALUES : ClassId) (W : OwnWd Z h0 ad a_VALUES k_VALUES) :
    MetFree l (⟨"com/example/libsnippet/libsnippet/WordBreak", "ofOrdinal", "(I)Lcom/example/libsnippet/libsnippet/WordBreak;"⟩ : MethodName) (head1 (Jvm.Cond.code (⟨"com/example/libsnippet/libsnippet/WordBreak", "ofOrdinal", "(I)Lcom/example/libsnippet/libsnippet/WordBreak;"⟩ : MethodName) prog_11_method_5_code 1 (some (.object "com/example/libsnippet/libsnippet/WordBreak")) :: ws) ({ frames := 0, cells := 0, slots := 0, locals := 0 } : Room)) (fun a U => a = #[(.int (6 : Int32))] ∧ Z.Warmed39 U.vm ∧ U.heap = h0) (fun _ _ _ _ _ => True) (fun _ U o U' => ∃ v L, o = .returned v ∧ QV (some (.ref (ad 14))) h0 n0 v U'.heap L ∧ FrameEnd U o U' L ({ frames := 0, cells := 0, slots := 0, locals := 0 } : Room).cells ({ frames := 0, cells := 0, slots := 0, locals := 0 } : Room).slots) := by
  refine MetFree.of_bodySF (plainFor_of_name own_pn_com_example_libsnippet_libsnippet_WordBreak) hisR ?_
  intro p e s m args below meth c s₁ Bd hml0 hP hK
  obtain ⟨rfl, hZ, hh⟩ := hP
  have hx := Bd.exec
  have hby := Bd.bytes
  have hml : c.maxLocals = 1 := hml0
  have hown : s.vm.findClass "com/example/libsnippet/libsnippet/WordBreak" = some m.cls := findClass_of_methodNamed Bd.named
  have hnm := (name_of_methodNamed Bd.named Bd.method).1
  have X0 : Stand p l e ({ frames := 0, cells := 0, slots := 0, locals := 0 } : Room) s m #[(.int (6 : Int32))] below meth c s₁ [] 0 0 := Stand.of_body Bd
  have e0 : s₁.heap = h0 := by rw [← hh, Bd.state]; rfl
  have N0 := Fr.nil n0
  have pre0 : ∀ t, Steps p.tables e below (s₁.setTop (mkF m 0 #[.val (.int (6 : Int32))] [])) t → Steps p.tables e below (s₁.setTop (entryFrame m #[(.int (6 : Int32))] 1)) t := fun t k => castTop (own_ef_own_pick_6 m) k
  obtain ⟨T1, X1, e1, st1⟩ := getS2 X0 hx hZ hown (host := "") (Or.inl (hw _ (List.mem_of_getElem? (i := 5) rfl))) Via.refl e0 (own_S_VALUES W) (g := (mkF m 0 #[.val (.int (6 : Int32))] [])) rfl (hb hby own_d_prog_11_method_5_code_0)
  have ch2 : ∀ t, Steps p.tables e below (T1.setTop (mkF m 3 #[.val (.int (6 : Int32))] [(.ref a_VALUES)])) t → Steps p.tables e below (s₁.setTop (entryFrame m #[(.int (6 : Int32))] 1)) t := fun t k => pre0 t (by
      show Steps p.tables e below (s₁.setTop (mkF m 0 #[.val (.int (6 : Int32))] [])) t
      exact st1 t k)
  obtain ⟨cl3, Ar3, -, Sz3, Ng3, Ha3, -⟩ := (own_V_VALUES W)
  have hin3 : ¬ ((6 : Int32) < 0 ∨ cl3.slots.size ≤ ((6 : Int32)).toNatClampNeg) := inb_of Sz3 (by decide)
  have hat3 : cl3.slots[((6 : Int32)).toNatClampNeg]? = some (.ref (ad 14)) := Ha3.at hin3 rfl
  have ch4 : ∀ t, Steps p.tables e below (T1.setTop (mkF m 5 #[.val (.int (6 : Int32))] [(.ref (ad 14))])) t → Steps p.tables e below (s₁.setTop (entryFrame m #[(.int (6 : Int32))] 1)) t := fun t k => ch2 t (by
      show Steps p.tables e below (T1.setTop (mkF m 3 #[.val (.int (6 : Int32))] [(.ref a_VALUES)])) t
      refine XS.iloadN X1.here hx rfl (hb hby own_d_prog_11_method_5_code_3) rfl ?_
      show Steps p.tables e below (T1.setTop (mkF m 4 #[.val (.int (6 : Int32))] [(.int (6 : Int32)), (.ref a_VALUES)])) t
      refine X1.aaload hx (j := (6 : Int32)) (v := (.ref (ad 14))) (by rw [e1]; exact Ar3.1) (State.isArrayOf_alike hZ.alike Ar3.2.1) rfl Ar3.2.2 hin3 hat3 (g := (mkF m 4 #[.val (.int (6 : Int32))] [(.int (6 : Int32)), (.ref a_VALUES)])) rfl rfl (hb hby own_d_prog_11_method_5_code_4) _ ?_
      exact k)
  obtain ⟨fs, hr, hrun, hended, hW, hsame⟩ := X1.leave (v := some (.ref (ad 14))) (fun h => by rw [Bd.returns] at h; cases h)
  refine ⟨_, _, ch4 _ ?_, hrun, hended, _, _, rfl, ?_, ⟨_, rfl⟩, hW, hsame.mono (by decide) (by decide)⟩
  · show Steps p.tables e below (T1.setTop (mkF m 5 #[.val (.int (6 : Int32))] [(.ref (ad 14))])) _
    jvm_step X1.here [X1.here.top, hx, (hb hby own_d_prog_11_method_5_code_5), X1.method', Bd.returns, Value.isRef, FieldType.isReference]
    first | (intro acts; rw [hr _ acts rfl rfl rfl]) | rw [hr _ _ rfl rfl rfl]
    exact Steps.refl _
  · show QV (some (.ref (ad 14))) h0 n0 _ T1.heap _
    rw [e1]
    exact ⟨rfl, N0, rfl⟩
theorem own_ef_own_pred_6 (m : MethodId) {x0 : Addr} : entryFrame m #[(.ref x0)] 1 = mkF m 0 #[.val (.ref x0)] [] := by first | (simp [entryFrame, mkF, argsToLocals, Value.category, maxLocals]; done) | rfl
set_option maxRecDepth 65536 in
set_option maxHeartbeats 40000000 in
theorem own_pred_6 (l : Launch) (Z : State) (a0 : Array Value) (hw : ∀ d ∈ tables_1, d.before a0 Z = true) (ws : List Jvm.Cond) (h0 : Heap) (n0 : Nat) (Z0 : n0 ≤ h0.size) (ad : Nat → Addr) (a_VALUES : Addr) (k_VALUES : ClassId) (W : OwnWd Z h0 ad a_VALUES k_VALUES) :
    MetFree l (⟨"com/example/libsnippet/libsnippet/WordBreak", "isIgnorable", "()Z"⟩ : MethodName) (head1 (Jvm.Cond.code (⟨"com/example/libsnippet/libsnippet/WordBreak", "isIgnorable", "()Z"⟩ : MethodName) prog_11_method_7_code 1 (some .boolean) :: ws) ({ frames := 0, cells := 0, slots := 0, locals := 0 } : Room)) (fun a U => a = #[(.ref (ad 14))] ∧ Z.Warmed39 U.vm ∧ U.heap = h0) (fun _ _ _ _ _ => True) (fun _ U o U' => ∃ v L, o = .returned v ∧ QV (some (.int (0 : Int32))) h0 n0 v U'.heap L ∧ FrameEnd U o U' L ({ frames := 0, cells := 0, slots := 0, locals := 0 } : Room).cells ({ frames := 0, cells := 0, slots := 0, locals := 0 } : Room).slots) := by
  refine MetFree.of_bodySF (plainFor_of_name own_pn_com_example_libsnippet_libsnippet_WordBreak) hisR ?_
  intro p e s m args below meth c s₁ Bd hml0 hP hK
  obtain ⟨rfl, hZ, hh⟩ := hP
  have hx := Bd.exec
  have hby := Bd.bytes
  have hml : c.maxLocals = 1 := hml0
  have hown : s.vm.findClass "com/example/libsnippet/libsnippet/WordBreak" = some m.cls := findClass_of_methodNamed Bd.named
  have hnm := (name_of_methodNamed Bd.named Bd.method).1
  have X0 : Stand p l e ({ frames := 0, cells := 0, slots := 0, locals := 0 } : Room) s m #[(.ref (ad 14))] below meth c s₁ [] 0 0 := Stand.of_body Bd
  have e0 : s₁.heap = h0 := by rw [← hh, Bd.state]; rfl
  have N0 := Fr.nil n0
  have pre0 : ∀ t, Steps p.tables e below (s₁.setTop (mkF m 0 #[.val (.ref (ad 14))] [])) t → Steps p.tables e below (s₁.setTop (entryFrame m #[(.ref (ad 14))] 1)) t := fun t k => castTop (own_ef_own_pred_6 m) k
  obtain ⟨T1, X1, e1, st1⟩ := getS2 X0 hx hZ hown (host := "") (Or.inl (hw _ (List.mem_of_getElem? (i := 22) rfl))) Via.refl e0 (own_S_EXTEND W) (g := (mkF m 1 #[.val (.ref (ad 14))] [(.ref (ad 14))])) rfl (hb hby own_d_prog_11_method_7_code_1)
  have ch2 : ∀ t, Steps p.tables e below (T1.setTop (mkF m 4 #[.val (.ref (ad 14))] [(.ref (ad 1)), (.ref (ad 14))])) t → Steps p.tables e below (s₁.setTop (entryFrame m #[(.ref (ad 14))] 1)) t := fun t k => pre0 t (by
      show Steps p.tables e below (s₁.setTop (mkF m 0 #[.val (.ref (ad 14))] [])) t
      refine XS.aloadN X0.here hx rfl (hb hby own_d_prog_11_method_7_code_0) rfl rfl ?_
      show Steps p.tables e below (s₁.setTop (mkF m 1 #[.val (.ref (ad 14))] [(.ref (ad 14))])) t
      exact st1 t k)
  obtain ⟨T3, X3, e3, st3⟩ := getS2 X1 hx hZ hown (host := "") (Or.inl (hw _ (List.mem_of_getElem? (i := 24) rfl))) Via.refl e1 (own_S_FORMAT W) (g := (mkF m 8 #[.val (.ref (ad 14))] [(.ref (ad 14))])) rfl (hb hby own_d_prog_11_method_7_code_8)
  have ch4 : ∀ t, Steps p.tables e below (T3.setTop (mkF m 11 #[.val (.ref (ad 14))] [(.ref (ad 2)), (.ref (ad 14))])) t → Steps p.tables e below (s₁.setTop (entryFrame m #[(.ref (ad 14))] 1)) t := fun t k => ch2 t (by
      show Steps p.tables e below (T1.setTop (mkF m 4 #[.val (.ref (ad 14))] [(.ref (ad 1)), (.ref (ad 14))])) t
      refine Jvm.RoadKit.acmp (g := (mkF m 4 #[.val (.ref (ad 14))] [(.ref (ad 1)), (.ref (ad 14))])) X1 hx rfl rfl rfl (pc0 := 4) (pc' := 7) (same := false) rfl (hb hby own_d_prog_11_method_7_code_4) rfl (decide_eq_false fun q => (Fld.ne (own_F_REGIONAL_INDICATOR_ordinal W) (own_F_EXTEND_ordinal W) (by decide)) (Value.ref.inj q)) (by decide) (by decide) ?_
      show Steps p.tables e below (T1.setTop (mkF m 7 #[.val (.ref (ad 14))] [])) t
      refine XS.aloadN X1.here hx rfl (hb hby own_d_prog_11_method_7_code_7) rfl rfl ?_
      show Steps p.tables e below (T1.setTop (mkF m 8 #[.val (.ref (ad 14))] [(.ref (ad 14))])) t
      exact st3 t k)
  obtain ⟨T5, X5, e5, st5⟩ := getS2 X3 hx hZ hown (host := "") (Or.inl (hw _ (List.mem_of_getElem? (i := 26) rfl))) Via.refl e3 (own_S_ZWJ W) (g := (mkF m 15 #[.val (.ref (ad 14))] [(.ref (ad 14))])) rfl (hb hby own_d_prog_11_method_7_code_15)
  have ch6 : ∀ t, Steps p.tables e below (T5.setTop (mkF m 18 #[.val (.ref (ad 14))] [(.ref (ad 3)), (.ref (ad 14))])) t → Steps p.tables e below (s₁.setTop (entryFrame m #[(.ref (ad 14))] 1)) t := fun t k => ch4 t (by
      show Steps p.tables e below (T3.setTop (mkF m 11 #[.val (.ref (ad 14))] [(.ref (ad 2)), (.ref (ad 14))])) t
      refine Jvm.RoadKit.acmp (g := (mkF m 11 #[.val (.ref (ad 14))] [(.ref (ad 2)), (.ref (ad 14))])) X3 hx rfl rfl rfl (pc0 := 11) (pc' := 14) (same := false) rfl (hb hby own_d_prog_11_method_7_code_11) rfl (decide_eq_false fun q => (Fld.ne (own_F_REGIONAL_INDICATOR_ordinal W) (own_F_FORMAT_ordinal W) (by decide)) (Value.ref.inj q)) (by decide) (by decide) ?_
      show Steps p.tables e below (T3.setTop (mkF m 14 #[.val (.ref (ad 14))] [])) t
      refine XS.aloadN X3.here hx rfl (hb hby own_d_prog_11_method_7_code_14) rfl rfl ?_
      show Steps p.tables e below (T3.setTop (mkF m 15 #[.val (.ref (ad 14))] [(.ref (ad 14))])) t
      exact st5 t k)
  have ch7 : ∀ t, Steps p.tables e below (T5.setTop (mkF m 26 #[.val (.ref (ad 14))] [(.int (0 : Int32))])) t → Steps p.tables e below (s₁.setTop (entryFrame m #[(.ref (ad 14))] 1)) t := fun t k => ch6 t (by
      show Steps p.tables e below (T5.setTop (mkF m 18 #[.val (.ref (ad 14))] [(.ref (ad 3)), (.ref (ad 14))])) t
      refine Jvm.RoadKit.acmp (g := (mkF m 18 #[.val (.ref (ad 14))] [(.ref (ad 3)), (.ref (ad 14))])) X5 hx rfl rfl rfl (pc0 := 18) (pc' := 25) (same := false) rfl (hb hby own_d_prog_11_method_7_code_18) rfl (decide_eq_false fun q => (Fld.ne (own_F_REGIONAL_INDICATOR_ordinal W) (own_F_ZWJ_ordinal W) (by decide)) (Value.ref.inj q)) (by decide) (by decide) ?_
      show Steps p.tables e below (T5.setTop (mkF m 25 #[.val (.ref (ad 14))] [])) t
      refine XS.iconst X5.here hx rfl (hb hby own_d_prog_11_method_7_code_25) ?_
      exact k)
  obtain ⟨fs, hr, hrun, hended, hW, hsame⟩ := X5.leave (v := some (.int (0 : Int32))) (fun h => by rw [Bd.returns] at h; cases h)
  refine ⟨_, _, ch7 _ ?_, hrun, hended, _, _, rfl, ?_, ⟨_, rfl⟩, hW, hsame.mono (by decide) (by decide)⟩
  · show Steps p.tables e below (T5.setTop (mkF m 26 #[.val (.ref (ad 14))] [(.int (0 : Int32))])) _
    exact retN X5 hx (t := .boolean) Bd.returns (by simp) (hb hby own_d_prog_11_method_7_code_26) hr
  · show QV (some (.int (0 : Int32))) h0 n0 _ T5.heap _
    rw [e5]
    exact ⟨rfl, N0, rfl⟩
theorem own_ef_own_ordi_6 (m : MethodId) {x0 : Addr} : entryFrame m #[(.ref x0)] 1 = mkF m 0 #[.val (.ref x0)] [] := by first | (simp [entryFrame, mkF, argsToLocals, Value.category, maxLocals]; done) | rfl
set_option maxRecDepth 65536 in
set_option maxHeartbeats 40000000 in
theorem own_ordi_6 (l : Launch) (Z : State) (a0 : Array Value) (hw : ∀ d ∈ tables_1, d.before a0 Z = true) (ws : List Jvm.Cond) (h0 : Heap) (n0 : Nat) (Z0 : n0 ≤ h0.size) (ad : Nat → Addr) (a_VALUES : Addr) (k_VALUES : ClassId) (W : OwnWd Z h0 ad a_VALUES k_VALUES) :
    MetFree l (⟨"java/lang/Enum", "ordinal", "()I"⟩ : MethodName) (head1 (Jvm.Cond.code (⟨"java/lang/Enum", "ordinal", "()I"⟩ : MethodName) jdk_37_method_2_code 1 (some .int) :: ws) ({ frames := 0, cells := 0, slots := 0, locals := 0 } : Room)) (fun a U => a = #[(.ref (ad 14))] ∧ Z.Warmed39 U.vm ∧ U.heap = h0) (fun _ _ _ _ _ => True) (fun _ U o U' => ∃ v L, o = .returned v ∧ QV (some (.int (6 : Int32))) h0 n0 v U'.heap L ∧ FrameEnd U o U' L ({ frames := 0, cells := 0, slots := 0, locals := 0 } : Room).cells ({ frames := 0, cells := 0, slots := 0, locals := 0 } : Room).slots) := by
  refine MetFree.of_bodySF (plainFor_of_name own_pn_java_lang_Enum) hisR ?_
  intro p e s m args below meth c s₁ Bd hml0 hP hK
  obtain ⟨rfl, hZ, hh⟩ := hP
  have hx := Bd.exec
  have hby := Bd.bytes
  have hml : c.maxLocals = 1 := hml0
  have hown : s.vm.findClass "java/lang/Enum" = some m.cls := findClass_of_methodNamed Bd.named
  have hnm := (name_of_methodNamed Bd.named Bd.method).1
  have X0 : Stand p l e ({ frames := 0, cells := 0, slots := 0, locals := 0 } : Room) s m #[(.ref (ad 14))] below meth c s₁ [] 0 0 := Stand.of_body Bd
  have e0 : s₁.heap = h0 := by rw [← hh, Bd.state]; rfl
  have N0 := Fr.nil n0
  have pre0 : ∀ t, Steps p.tables e below (s₁.setTop (mkF m 0 #[.val (.ref (ad 14))] [])) t → Steps p.tables e below (s₁.setTop (entryFrame m #[(.ref (ad 14))] 1)) t := fun t k => castTop (own_ef_own_ordi_6 m) k
  obtain ⟨T1, X1, e1, st1⟩ := getF X0 hx hZ hown (host := "") (Or.inl (hw _ (List.mem_of_getElem? (i := 15) rfl))) Via.refl e0 (own_F_REGIONAL_INDICATOR_ordinal W) (g := (mkF m 1 #[.val (.ref (ad 14))] [(.ref (ad 14))])) rfl rfl (hb hby own_d_jdk_37_method_2_code_1)
  have ch2 : ∀ t, Steps p.tables e below (T1.setTop (mkF m 4 #[.val (.ref (ad 14))] [(.int (6 : Int32))])) t → Steps p.tables e below (s₁.setTop (entryFrame m #[(.ref (ad 14))] 1)) t := fun t k => pre0 t (by
      show Steps p.tables e below (s₁.setTop (mkF m 0 #[.val (.ref (ad 14))] [])) t
      refine XS.aloadN X0.here hx rfl (hb hby own_d_jdk_37_method_2_code_0) rfl rfl ?_
      show Steps p.tables e below (s₁.setTop (mkF m 1 #[.val (.ref (ad 14))] [(.ref (ad 14))])) t
      exact st1 t k)
  obtain ⟨fs, hr, hrun, hended, hW, hsame⟩ := X1.leave (v := some (.int (6 : Int32))) (fun h => by rw [Bd.returns] at h; cases h)
  refine ⟨_, _, ch2 _ ?_, hrun, hended, _, _, rfl, ?_, ⟨_, rfl⟩, hW, hsame.mono (by decide) (by decide)⟩
  · show Steps p.tables e below (T1.setTop (mkF m 4 #[.val (.ref (ad 14))] [(.int (6 : Int32))])) _
    exact retI X1 hx Bd.returns (hb hby own_d_jdk_37_method_2_code_4) hr
  · show QV (some (.int (6 : Int32))) h0 n0 _ T1.heap _
    rw [e1]
    exact ⟨rfl, N0, rfl⟩
theorem own_ef_own_law_6 (m : MethodId) {x0 : Int32} : entryFrame m #[(.int x0)] maxLocals = mkF m 0 #[.val (.int x0), .unset, .unset, .unset] [] := by first | (simp [entryFrame, mkF, argsToLocals, Value.category, maxLocals]; done) | rfl
set_option maxRecDepth 65536 in
set_option maxHeartbeats 40000000 in
theorem own_law_6 (l : Launch) (Z : State) (a0 : Array Value) (hw : ∀ d ∈ tables_1, d.before a0 Z = true) (ws : List Jvm.Cond) (h0 : Heap) (n0 : Nat) (Z0 : n0 ≤ h0.size) (p1 : Int32) (hk : (p1 &&& (2147483647 : Int32)) % (19 : Int32) = (6 : Int32)) (ad : Nat → Addr) (a_VALUES : Addr) (k_VALUES : ClassId) (W : OwnWd Z h0 ad a_VALUES k_VALUES) :
    MetFree l x (head1 (Jvm.Cond.code x code maxLocals ret :: ws) room_1) (fun a U => a = #[(.int p1)] ∧ Z.Warmed39 U.vm ∧ U.heap = h0) (fun _ _ _ _ _ => True) (fun _ U o U' => ∃ v L, o = .returned v ∧ QN (some (.int (1 : Int32))) n0 v U'.heap L ∧ FrameEnd U o U' L room_1.cells room_1.slots) := by
  refine MetFree.of_bodySF (plainFor_of_name own_pn_com_example_libsnippet_libsnippet_WordBreakIsIgnorablePinLaw) hisR ?_
  intro p e s m args below meth c s₁ Bd hml0 hP hK
  obtain ⟨rfl, hZ, hh⟩ := hP
  have hx := Bd.exec
  have hby := Bd.bytes
  have hml : c.maxLocals = 4 := hml0
  have hown : s.vm.findClass "com/example/libsnippet/libsnippet/WordBreakIsIgnorablePinLaw" = some m.cls := findClass_of_methodNamed Bd.named
  have hnm := (name_of_methodNamed Bd.named Bd.method).1
  have X0 : Stand p l e room_1 s m #[(.int p1)] below meth c s₁ [] 0 0 := Stand.of_body Bd
  have e0 : s₁.heap = h0 := by rw [← hh, Bd.state]; rfl
  have N0 := Fr.nil n0
  have pre0 : ∀ t, Steps p.tables e below (s₁.setTop (mkF m 0 #[.val (.int p1), .unset, .unset, .unset] [])) t → Steps p.tables e below (s₁.setTop (entryFrame m #[(.int p1)] maxLocals)) t := fun t k => castTop (own_ef_own_law_6 m) k
  obtain ⟨vv1, _, ⟨T1, L1, kk1, nn1⟩, -, X1, ⟨Lc1, hQ1, l1, y1, z1⟩, st1⟩ := Jvm.LawKit.callS X0 hx (y := (⟨"com/example/libsnippet/libsnippet/WordBreak", "ofOrdinal", "(I)Lcom/example/libsnippet/libsnippet/WordBreak;"⟩ : MethodName)) hown (mvT hZ (hw _ (List.mem_of_getElem? (i := 1) rfl))) (mvT hZ (hw _ (List.mem_of_getElem? (i := 2) rfl))) (mvT hZ (hw _ (List.mem_of_getElem? (i := 3) rfl))) (mvT hZ (hw _ (List.mem_of_getElem? (i := 4) rfl))) (by decide) (backOf (W := 0) (own_pick_6 l Z a0 hw [] h0 n0 Z0 ad a_VALUES k_VALUES W) hZ (hw _ (List.mem_of_getElem? (i := 4) rfl)) (hw _ (List.mem_of_getElem? (i := 3) rfl)) (by decide) (by decide)) (g := (mkF m 9 #[.val (.int p1), .val (.int (6 : Int32)), .unset, .unset] [(.int (6 : Int32))])) rfl (by rw [hml]; rfl) (argsL := [(.int (6 : Int32))]) (rest := []) (lenOf own_pd__I_Lcom_example_libsnippet_libsnippet_WordBreak_ rfl) rfl (by show 2 * 0 + _ ≤ _; exact Nat.le_of_eq rfl) (hb hby at_9) (fun _ _ => ⟨rfl, e0, (by decide : 0 + 0 ≤ _), (by decide : 0 + 0 ≤ _)⟩)
  dsimp only [Pt.U, Pt.locs, Pt.cells, Pt.slots] at X1 l1 y1 z1 st1 hQ1
  subst l1 y1 z1
  obtain ⟨rfl, Nq1, e1⟩ := hQ1
  have N1 := Fr.app N0 Nq1
  have ch2 : ∀ t, Steps p.tables e below (T1.setTop (mkF m 12 #[.val (.int p1), .val (.int (6 : Int32)), .unset, .unset] [(.ref (ad 14))])) t → Steps p.tables e below (s₁.setTop (entryFrame m #[(.int p1)] maxLocals)) t := fun t k => pre0 t (by
      show Steps p.tables e below (s₁.setTop (mkF m 0 #[.val (.int p1), .unset, .unset, .unset] [])) t
      refine XS.iloadN X0.here hx rfl (hb hby at_0) rfl ?_
      show Steps p.tables e below (s₁.setTop (mkF m 1 #[.val (.int p1), .unset, .unset, .unset] [(.int p1)])) t
      refine X0.ldcInt hx hown (mvT hZ (hw _ (List.mem_of_getElem? (i := 0) rfl))) (g := (mkF m 1 #[.val (.int p1), .unset, .unset, .unset] [(.int p1)])) rfl (hb hby at_1) _ ?_
      show Steps p.tables e below (s₁.setTop (mkF m 3 #[.val (.int p1), .unset, .unset, .unset] [(.int (2147483647 : Int32)), (.int p1)])) t
      refine XS.iand X0.here hx rfl (hb hby at_3) rfl ?_
      show Steps p.tables e below (s₁.setTop (mkF m 4 #[.val (.int p1), .unset, .unset, .unset] [(.int (p1 &&& (2147483647 : Int32)))])) t
      refine XS.bipush X0.here hx rfl (hb hby at_4) ?_
      show Steps p.tables e below (s₁.setTop (mkF m 6 #[.val (.int p1), .unset, .unset, .unset] [(.int (19 : Int32)), (.int (p1 &&& (2147483647 : Int32)))])) t
      refine Jvm.RoadKit.iremM (g := (mkF m 6 #[.val (.int p1), .unset, .unset, .unset] [(.int (19 : Int32)), (.int (p1 &&& (2147483647 : Int32)))])) X0 hx rfl (hb hby at_6) rfl (by decide) ?_
      rw [hk]
      show Steps p.tables e below (s₁.setTop (mkF m 7 #[.val (.int p1), .unset, .unset, .unset] [(.int (6 : Int32))])) t
      refine XS.istoreN X0.here hx rfl (hb hby at_7) rfl (l' := #[.val (.int p1), .val (.int (6 : Int32)), .unset, .unset]) rfl ?_
      show Steps p.tables e below (s₁.setTop (mkF m 8 #[.val (.int p1), .val (.int (6 : Int32)), .unset, .unset] [])) t
      refine XS.iloadN X0.here hx rfl (hb hby at_8) rfl ?_
      show Steps p.tables e below (s₁.setTop (mkF m 9 #[.val (.int p1), .val (.int (6 : Int32)), .unset, .unset] [(.int (6 : Int32))])) t
      exact st1 t k)
  obtain ⟨cq3, kq3, qa3, qb3, qc3⟩ := isOf hZ e1 (own_E_REGIONAL_INDICATOR W)
  obtain ⟨vv4, _, ⟨T4, L4, kk4, nn4⟩, -, X4, ⟨Lc4, hQ4, l4, y4, z4⟩, st4⟩ := X1.virtualBackUp hx (x := (⟨"com/example/libsnippet/libsnippet/WordBreak", "ordinal", "()I"⟩ : MethodName)) (y := (⟨"java/lang/Enum", "ordinal", "()I"⟩ : MethodName)) (owner := "java/lang/Enum") hown (mvT hZ (hw _ (List.mem_of_getElem? (i := 8) rfl))) (mvT hZ (hw _ (List.mem_of_getElem? (i := 9) rfl))) (mvT hZ (hw _ (List.mem_of_getElem? (i := 10) rfl))) (by decide) (mvT hZ (hw _ (List.mem_of_getElem? (i := 12) rfl))) (mvT hZ (hw _ (List.mem_of_getElem? (i := 11) rfl))) (backOf (W := 0) (own_ordi_6 l Z a0 hw [] h0 n0 Z0 ad a_VALUES k_VALUES W) hZ (hw _ (List.mem_of_getElem? (i := 14) rfl)) (hw _ (List.mem_of_getElem? (i := 13) rfl)) (by decide) (by decide)) qa3 qc3 (g := (mkF m 36 #[.val (.int p1), .val (.int (6 : Int32)), .val (.ref (ad 14)), .val (.int (0 : Int32))] [(.ref (ad 14))])) rfl (by rw [hml]; rfl) (Steps.refl _) (argsL := []) (rest := []) (lenOf own_pd___I rfl) rfl (by show 2 * 0 + _ ≤ _; exact Nat.le_of_eq rfl) (hb hby at_36) (fun _ _ => ⟨rfl, e1, (by decide : 0 + 0 ≤ _), (by decide : 0 + 0 ≤ _)⟩)
  dsimp only [Pt.U, Pt.locs, Pt.cells, Pt.slots] at X4 l4 y4 z4 st4 hQ4
  subst l4 y4 z4
  obtain ⟨rfl, Nq4, e4⟩ := hQ4
  have N4 := Fr.app N1 Nq4
  have ch5 : ∀ t, Steps p.tables e below (T4.setTop (mkF m 39 #[.val (.int p1), .val (.int (6 : Int32)), .val (.ref (ad 14)), .val (.int (0 : Int32))] [(.int (6 : Int32))])) t → Steps p.tables e below (s₁.setTop (entryFrame m #[(.int p1)] maxLocals)) t := fun t k => ch2 t (by
      show Steps p.tables e below (T1.setTop (mkF m 12 #[.val (.int p1), .val (.int (6 : Int32)), .unset, .unset] [(.ref (ad 14))])) t
      refine XS.astoreN X1.here hx rfl (hb hby at_12) rfl rfl (l' := #[.val (.int p1), .val (.int (6 : Int32)), .val (.ref (ad 14)), .unset]) rfl ?_
      show Steps p.tables e below (T1.setTop (mkF m 13 #[.val (.int p1), .val (.int (6 : Int32)), .val (.ref (ad 14)), .unset] [])) t
      refine XS.iloadN X1.here hx rfl (hb hby at_13) rfl ?_
      show Steps p.tables e below (T1.setTop (mkF m 14 #[.val (.int p1), .val (.int (6 : Int32)), .val (.ref (ad 14)), .unset] [(.int (6 : Int32))])) t
      refine XS.iconst X1.here hx rfl (hb hby at_14) ?_
      show Steps p.tables e below (T1.setTop (mkF m 15 #[.val (.int p1), .val (.int (6 : Int32)), .val (.ref (ad 14)), .unset] [(.int (4 : Int32)), (.int (6 : Int32))])) t
      refine XS.icmpNo X1.here hx rfl (hb hby at_15) rfl (feq (by decide : ¬ (6 : Int32) = (4 : Int32))).1 ?_
      show Steps p.tables e below (T1.setTop (mkF m 18 #[.val (.int p1), .val (.int (6 : Int32)), .val (.ref (ad 14)), .unset] [])) t
      refine XS.iloadN X1.here hx rfl (hb hby at_18) rfl ?_
      show Steps p.tables e below (T1.setTop (mkF m 19 #[.val (.int p1), .val (.int (6 : Int32)), .val (.ref (ad 14)), .unset] [(.int (6 : Int32))])) t
      refine XS.iconst X1.here hx rfl (hb hby at_19) ?_
      show Steps p.tables e below (T1.setTop (mkF m 20 #[.val (.int p1), .val (.int (6 : Int32)), .val (.ref (ad 14)), .unset] [(.int (5 : Int32)), (.int (6 : Int32))])) t
      refine XS.icmpNo X1.here hx rfl (hb hby at_20) rfl (feq (by decide : ¬ (6 : Int32) = (5 : Int32))).1 ?_
      show Steps p.tables e below (T1.setTop (mkF m 23 #[.val (.int p1), .val (.int (6 : Int32)), .val (.ref (ad 14)), .unset] [])) t
      refine XS.iloadN X1.here hx rfl (hb hby at_23) rfl ?_
      show Steps p.tables e below (T1.setTop (mkF m 24 #[.val (.int p1), .val (.int (6 : Int32)), .val (.ref (ad 14)), .unset] [(.int (6 : Int32))])) t
      refine XS.bipush X1.here hx rfl (hb hby at_24) ?_
      show Steps p.tables e below (T1.setTop (mkF m 26 #[.val (.int p1), .val (.int (6 : Int32)), .val (.ref (ad 14)), .unset] [(.int (7 : Int32)), (.int (6 : Int32))])) t
      refine XS.icmpYes X1.here hx rfl (pc0 := 26) (pc' := 33) rfl (hb hby at_26) rfl (feq (by decide : ¬ (6 : Int32) = (7 : Int32))).2 (by decide) (by decide) ?_
      show Steps p.tables e below (T1.setTop (mkF m 33 #[.val (.int p1), .val (.int (6 : Int32)), .val (.ref (ad 14)), .unset] [])) t
      refine XS.iconst X1.here hx rfl (hb hby at_33) ?_
      show Steps p.tables e below (T1.setTop (mkF m 34 #[.val (.int p1), .val (.int (6 : Int32)), .val (.ref (ad 14)), .unset] [(.int (0 : Int32))])) t
      refine XS.istoreN X1.here hx rfl (hb hby at_34) rfl (l' := #[.val (.int p1), .val (.int (6 : Int32)), .val (.ref (ad 14)), .val (.int (0 : Int32))]) rfl ?_
      show Steps p.tables e below (T1.setTop (mkF m 35 #[.val (.int p1), .val (.int (6 : Int32)), .val (.ref (ad 14)), .val (.int (0 : Int32))] [])) t
      refine XS.aloadN X1.here hx rfl (hb hby at_35) rfl rfl ?_
      show Steps p.tables e below (T1.setTop (mkF m 36 #[.val (.int p1), .val (.int (6 : Int32)), .val (.ref (ad 14)), .val (.int (0 : Int32))] [(.ref (ad 14))])) t
      exact st4.trans k)
  obtain ⟨cq6, kq6, qa6, qb6, qc6⟩ := isOf hZ e4 (own_E_REGIONAL_INDICATOR W)
  obtain ⟨vv7, _, ⟨T7, L7, kk7, nn7⟩, -, X7, ⟨Lc7, hQ7, l7, y7, z7⟩, st7⟩ := X4.virtualBack hx (y := (⟨"com/example/libsnippet/libsnippet/WordBreak", "isIgnorable", "()Z"⟩ : MethodName)) (z := (⟨"com/example/libsnippet/libsnippet/WordBreak", "isIgnorable", "()Z"⟩ : MethodName)) hown (mvT hZ (hw _ (List.mem_of_getElem? (i := 17) rfl))) (mvT hZ (hw _ (List.mem_of_getElem? (i := 18) rfl))) (notFace_of_selects (args := #[]) (mvT hZ (hw _ (List.mem_of_getElem? (i := 20) rfl)))) (mvT hZ (hw _ (List.mem_of_getElem? (i := 20) rfl))) (mvT hZ (hw _ (List.mem_of_getElem? (i := 19) rfl))) (by decide) (backOf (W := 0) (own_pred_6 l Z a0 hw [] h0 n0 Z0 ad a_VALUES k_VALUES W) hZ (hw _ (List.mem_of_getElem? (i := 21) rfl)) (hw _ (List.mem_of_getElem? (i := 3) rfl)) (by decide) (by decide)) qa6 qc6 (g := (mkF m 44 #[.val (.int p1), .val (.int (6 : Int32)), .val (.ref (ad 14)), .val (.int (0 : Int32))] [(.ref (ad 14))])) rfl (by rw [hml]; rfl) (Steps.refl _) (argsL := []) (rest := []) (lenOf own_pd___Z rfl) rfl (by show 2 * 0 + _ ≤ _; exact Nat.le_of_eq rfl) (hb hby at_44) (fun _ _ => ⟨rfl, e4, (by decide : 0 + 0 ≤ _), (by decide : 0 + 0 ≤ _)⟩)
  dsimp only [Pt.U, Pt.locs, Pt.cells, Pt.slots] at X7 l7 y7 z7 st7 hQ7
  subst l7 y7 z7
  obtain ⟨rfl, Nq7, e7⟩ := hQ7
  have N7 := Fr.app N4 Nq7
  have ch8 : ∀ t, Steps p.tables e below (T7.setTop (mkF m 47 #[.val (.int p1), .val (.int (6 : Int32)), .val (.ref (ad 14)), .val (.int (0 : Int32))] [(.int (0 : Int32))])) t → Steps p.tables e below (s₁.setTop (entryFrame m #[(.int p1)] maxLocals)) t := fun t k => ch5 t (by
      show Steps p.tables e below (T4.setTop (mkF m 39 #[.val (.int p1), .val (.int (6 : Int32)), .val (.ref (ad 14)), .val (.int (0 : Int32))] [(.int (6 : Int32))])) t
      refine XS.iloadN X4.here hx rfl (hb hby at_39) rfl ?_
      show Steps p.tables e below (T4.setTop (mkF m 40 #[.val (.int p1), .val (.int (6 : Int32)), .val (.ref (ad 14)), .val (.int (0 : Int32))] [(.int (6 : Int32)), (.int (6 : Int32))])) t
      refine XS.icmpNo X4.here hx rfl (hb hby at_40) rfl (teq (by decide : (6 : Int32) = (6 : Int32))).2 ?_
      show Steps p.tables e below (T4.setTop (mkF m 43 #[.val (.int p1), .val (.int (6 : Int32)), .val (.ref (ad 14)), .val (.int (0 : Int32))] [])) t
      refine XS.aloadN X4.here hx rfl (hb hby at_43) rfl rfl ?_
      show Steps p.tables e below (T4.setTop (mkF m 44 #[.val (.int p1), .val (.int (6 : Int32)), .val (.ref (ad 14)), .val (.int (0 : Int32))] [(.ref (ad 14))])) t
      exact st7.trans k)
  have ch9 : ∀ t, Steps p.tables e below (T7.setTop (mkF m 56 #[.val (.int p1), .val (.int (6 : Int32)), .val (.ref (ad 14)), .val (.int (0 : Int32))] [(.int (1 : Int32))])) t → Steps p.tables e below (s₁.setTop (entryFrame m #[(.int p1)] maxLocals)) t := fun t k => ch8 t (by
      show Steps p.tables e below (T7.setTop (mkF m 47 #[.val (.int p1), .val (.int (6 : Int32)), .val (.ref (ad 14)), .val (.int (0 : Int32))] [(.int (0 : Int32))])) t
      refine XS.iloadN X7.here hx rfl (hb hby at_47) rfl ?_
      show Steps p.tables e below (T7.setTop (mkF m 48 #[.val (.int p1), .val (.int (6 : Int32)), .val (.ref (ad 14)), .val (.int (0 : Int32))] [(.int (0 : Int32)), (.int (0 : Int32))])) t
      refine XS.icmpNo X7.here hx rfl (hb hby at_48) rfl (teq (by decide : (0 : Int32) = (0 : Int32))).2 ?_
      show Steps p.tables e below (T7.setTop (mkF m 51 #[.val (.int p1), .val (.int (6 : Int32)), .val (.ref (ad 14)), .val (.int (0 : Int32))] [])) t
      refine XS.iconst X7.here hx rfl (hb hby at_51) ?_
      show Steps p.tables e below (T7.setTop (mkF m 52 #[.val (.int p1), .val (.int (6 : Int32)), .val (.ref (ad 14)), .val (.int (0 : Int32))] [(.int (1 : Int32))])) t
      refine XS.goto X7.here hx rfl (pc0 := 52) (pc' := 56) rfl (hb hby at_52) (by decide) (by decide) ?_
      exact k)
  obtain ⟨fs, hr, hrun, hended, hW, hsame⟩ := X7.leave (v := some (.int (1 : Int32))) (fun h => by rw [Bd.returns] at h; cases h)
  refine ⟨_, _, ch9 _ ?_, hrun, hended, _, _, rfl, ?_, ⟨_, rfl⟩, hW, hsame.mono (by decide) (by decide)⟩
  · show Steps p.tables e below (T7.setTop (mkF m 56 #[.val (.int p1), .val (.int (6 : Int32)), .val (.ref (ad 14)), .val (.int (0 : Int32))] [(.int (1 : Int32))])) _
    exact retN X7 hx (t := .boolean) Bd.returns (by simp) (hb hby at_56) hr
  · show QN (some (.int (1 : Int32))) n0 _ T7.heap _
    rw [e7]
    exact ⟨rfl, N7⟩
theorem own_ef_own_pick_7 (m : MethodId) {x0 : Int32} : entryFrame m #[(.int x0)] 1 = mkF m 0 #[.val (.int x0)] [] := by first | (simp [entryFrame, mkF, argsToLocals, Value.category, maxLocals]; done) | rfl
set_option maxRecDepth 65536 in
set_option maxHeartbeats 40000000 in
theorem own_pick_7 (l : Launch) (Z : State) (a0 : Array Value) (hw : ∀ d ∈ tables_1, d.before a0 Z = true) (ws : List Jvm.Cond) (h0 : Heap) (n0 : Nat) (Z0 : n0 ≤ h0.size) (ad : Nat → Addr) (a_VALUES : Addr) (k_VALUES : ClassId) (W : OwnWd Z h0 ad a_VALUES k_VALUES) :
    MetFree l (⟨"com/example/libsnippet/libsnippet/WordBreak", "ofOrdinal", "(I)Lcom/example/libsnippet/libsnippet/WordBreak;"⟩ : MethodName) (head1 (Jvm.Cond.code (⟨"com/example/libsnippet/libsnippet/WordBreak", "ofOrdinal", "(I)Lcom/example/libsnippet/libsnippet/WordBreak;"⟩ : MethodName) prog_11_method_5_code 1 (some (.object "com/example/libsnippet/libsnippet/WordBreak")) :: ws) ({ frames := 0, cells := 0, slots := 0, locals := 0 } : Room)) (fun a U => a = #[(.int (7 : Int32))] ∧ Z.Warmed39 U.vm ∧ U.heap = h0) (fun _ _ _ _ _ => True) (fun _ U o U' => ∃ v L, o = .returned v ∧ QV (some (.ref (ad 2))) h0 n0 v U'.heap L ∧ FrameEnd U o U' L ({ frames := 0, cells := 0, slots := 0, locals := 0 } : Room).cells ({ frames := 0, cells := 0, slots := 0, locals := 0 } : Room).slots) := by
  refine MetFree.of_bodySF (plainFor_of_name own_pn_com_example_libsnippet_libsnippet_WordBreak) hisR ?_
  intro p e s m args below meth c s₁ Bd hml0 hP hK
  obtain ⟨rfl, hZ, hh⟩ := hP
  have hx := Bd.exec
  have hby := Bd.bytes
  have hml : c.maxLocals = 1 := hml0
  have hown : s.vm.findClass "com/example/libsnippet/libsnippet/WordBreak" = some m.cls := findClass_of_methodNamed Bd.named
  have hnm := (name_of_methodNamed Bd.named Bd.method).1
  have X0 : Stand p l e ({ frames := 0, cells := 0, slots := 0, locals := 0 } : Room) s m #[(.int (7 : Int32))] below meth c s₁ [] 0 0 := Stand.of_body Bd
  have e0 : s₁.heap = h0 := by rw [← hh, Bd.state]; rfl
  have N0 := Fr.nil n0
  have pre0 : ∀ t, Steps p.tables e below (s₁.setTop (mkF m 0 #[.val (.int (7 : Int32))] [])) t → Steps p.tables e below (s₁.setTop (entryFrame m #[(.int (7 : Int32))] 1)) t := fun t k => castTop (own_ef_own_pick_7 m) k
  obtain ⟨T1, X1, e1, st1⟩ := getS2 X0 hx hZ hown (host := "") (Or.inl (hw _ (List.mem_of_getElem? (i := 5) rfl))) Via.refl e0 (own_S_VALUES W) (g := (mkF m 0 #[.val (.int (7 : Int32))] [])) rfl (hb hby own_d_prog_11_method_5_code_0)
  have ch2 : ∀ t, Steps p.tables e below (T1.setTop (mkF m 3 #[.val (.int (7 : Int32))] [(.ref a_VALUES)])) t → Steps p.tables e below (s₁.setTop (entryFrame m #[(.int (7 : Int32))] 1)) t := fun t k => pre0 t (by
      show Steps p.tables e below (s₁.setTop (mkF m 0 #[.val (.int (7 : Int32))] [])) t
      exact st1 t k)
  obtain ⟨cl3, Ar3, -, Sz3, Ng3, Ha3, -⟩ := (own_V_VALUES W)
  have hin3 : ¬ ((7 : Int32) < 0 ∨ cl3.slots.size ≤ ((7 : Int32)).toNatClampNeg) := inb_of Sz3 (by decide)
  have hat3 : cl3.slots[((7 : Int32)).toNatClampNeg]? = some (.ref (ad 2)) := Ha3.at hin3 rfl
  have ch4 : ∀ t, Steps p.tables e below (T1.setTop (mkF m 5 #[.val (.int (7 : Int32))] [(.ref (ad 2))])) t → Steps p.tables e below (s₁.setTop (entryFrame m #[(.int (7 : Int32))] 1)) t := fun t k => ch2 t (by
      show Steps p.tables e below (T1.setTop (mkF m 3 #[.val (.int (7 : Int32))] [(.ref a_VALUES)])) t
      refine XS.iloadN X1.here hx rfl (hb hby own_d_prog_11_method_5_code_3) rfl ?_
      show Steps p.tables e below (T1.setTop (mkF m 4 #[.val (.int (7 : Int32))] [(.int (7 : Int32)), (.ref a_VALUES)])) t
      refine X1.aaload hx (j := (7 : Int32)) (v := (.ref (ad 2))) (by rw [e1]; exact Ar3.1) (State.isArrayOf_alike hZ.alike Ar3.2.1) rfl Ar3.2.2 hin3 hat3 (g := (mkF m 4 #[.val (.int (7 : Int32))] [(.int (7 : Int32)), (.ref a_VALUES)])) rfl rfl (hb hby own_d_prog_11_method_5_code_4) _ ?_
      exact k)
  obtain ⟨fs, hr, hrun, hended, hW, hsame⟩ := X1.leave (v := some (.ref (ad 2))) (fun h => by rw [Bd.returns] at h; cases h)
  refine ⟨_, _, ch4 _ ?_, hrun, hended, _, _, rfl, ?_, ⟨_, rfl⟩, hW, hsame.mono (by decide) (by decide)⟩
  · show Steps p.tables e below (T1.setTop (mkF m 5 #[.val (.int (7 : Int32))] [(.ref (ad 2))])) _
    jvm_step X1.here [X1.here.top, hx, (hb hby own_d_prog_11_method_5_code_5), X1.method', Bd.returns, Value.isRef, FieldType.isReference]
    first | (intro acts; rw [hr _ acts rfl rfl rfl]) | rw [hr _ _ rfl rfl rfl]
    exact Steps.refl _
  · show QV (some (.ref (ad 2))) h0 n0 _ T1.heap _
    rw [e1]
    exact ⟨rfl, N0, rfl⟩
theorem own_ef_own_pred_7 (m : MethodId) {x0 : Addr} : entryFrame m #[(.ref x0)] 1 = mkF m 0 #[.val (.ref x0)] [] := by first | (simp [entryFrame, mkF, argsToLocals, Value.category, maxLocals]; done) | rfl
set_option maxRecDepth 65536 in
set_option maxHeartbeats 40000000 in
theorem own_pred_7 (l : Launch) (Z : State) (a0 : Array Value) (hw : ∀ d ∈ tables_1, d.before a0 Z = true) (ws : List Jvm.Cond) (h0 : Heap) (n0 : Nat) (Z0 : n0 ≤ h0.size) (ad : Nat → Addr) (a_VALUES : Addr) (k_VALUES : ClassId) (W : OwnWd Z h0 ad a_VALUES k_VALUES) :
    MetFree l (⟨"com/example/libsnippet/libsnippet/WordBreak", "isIgnorable", "()Z"⟩ : MethodName) (head1 (Jvm.Cond.code (⟨"com/example/libsnippet/libsnippet/WordBreak", "isIgnorable", "()Z"⟩ : MethodName) prog_11_method_7_code 1 (some .boolean) :: ws) ({ frames := 0, cells := 0, slots := 0, locals := 0 } : Room)) (fun a U => a = #[(.ref (ad 2))] ∧ Z.Warmed39 U.vm ∧ U.heap = h0) (fun _ _ _ _ _ => True) (fun _ U o U' => ∃ v L, o = .returned v ∧ QV (some (.int (1 : Int32))) h0 n0 v U'.heap L ∧ FrameEnd U o U' L ({ frames := 0, cells := 0, slots := 0, locals := 0 } : Room).cells ({ frames := 0, cells := 0, slots := 0, locals := 0 } : Room).slots) := by
  refine MetFree.of_bodySF (plainFor_of_name own_pn_com_example_libsnippet_libsnippet_WordBreak) hisR ?_
  intro p e s m args below meth c s₁ Bd hml0 hP hK
  obtain ⟨rfl, hZ, hh⟩ := hP
  have hx := Bd.exec
  have hby := Bd.bytes
  have hml : c.maxLocals = 1 := hml0
  have hown : s.vm.findClass "com/example/libsnippet/libsnippet/WordBreak" = some m.cls := findClass_of_methodNamed Bd.named
  have hnm := (name_of_methodNamed Bd.named Bd.method).1
  have X0 : Stand p l e ({ frames := 0, cells := 0, slots := 0, locals := 0 } : Room) s m #[(.ref (ad 2))] below meth c s₁ [] 0 0 := Stand.of_body Bd
  have e0 : s₁.heap = h0 := by rw [← hh, Bd.state]; rfl
  have N0 := Fr.nil n0
  have pre0 : ∀ t, Steps p.tables e below (s₁.setTop (mkF m 0 #[.val (.ref (ad 2))] [])) t → Steps p.tables e below (s₁.setTop (entryFrame m #[(.ref (ad 2))] 1)) t := fun t k => castTop (own_ef_own_pred_7 m) k
  obtain ⟨T1, X1, e1, st1⟩ := getS2 X0 hx hZ hown (host := "") (Or.inl (hw _ (List.mem_of_getElem? (i := 22) rfl))) Via.refl e0 (own_S_EXTEND W) (g := (mkF m 1 #[.val (.ref (ad 2))] [(.ref (ad 2))])) rfl (hb hby own_d_prog_11_method_7_code_1)
  have ch2 : ∀ t, Steps p.tables e below (T1.setTop (mkF m 4 #[.val (.ref (ad 2))] [(.ref (ad 1)), (.ref (ad 2))])) t → Steps p.tables e below (s₁.setTop (entryFrame m #[(.ref (ad 2))] 1)) t := fun t k => pre0 t (by
      show Steps p.tables e below (s₁.setTop (mkF m 0 #[.val (.ref (ad 2))] [])) t
      refine XS.aloadN X0.here hx rfl (hb hby own_d_prog_11_method_7_code_0) rfl rfl ?_
      show Steps p.tables e below (s₁.setTop (mkF m 1 #[.val (.ref (ad 2))] [(.ref (ad 2))])) t
      exact st1 t k)
  obtain ⟨T3, X3, e3, st3⟩ := getS2 X1 hx hZ hown (host := "") (Or.inl (hw _ (List.mem_of_getElem? (i := 24) rfl))) Via.refl e1 (own_S_FORMAT W) (g := (mkF m 8 #[.val (.ref (ad 2))] [(.ref (ad 2))])) rfl (hb hby own_d_prog_11_method_7_code_8)
  have ch4 : ∀ t, Steps p.tables e below (T3.setTop (mkF m 11 #[.val (.ref (ad 2))] [(.ref (ad 2)), (.ref (ad 2))])) t → Steps p.tables e below (s₁.setTop (entryFrame m #[(.ref (ad 2))] 1)) t := fun t k => ch2 t (by
      show Steps p.tables e below (T1.setTop (mkF m 4 #[.val (.ref (ad 2))] [(.ref (ad 1)), (.ref (ad 2))])) t
      refine Jvm.RoadKit.acmp (g := (mkF m 4 #[.val (.ref (ad 2))] [(.ref (ad 1)), (.ref (ad 2))])) X1 hx rfl rfl rfl (pc0 := 4) (pc' := 7) (same := false) rfl (hb hby own_d_prog_11_method_7_code_4) rfl (decide_eq_false fun q => (Fld.ne (own_F_FORMAT_ordinal W) (own_F_EXTEND_ordinal W) (by decide)) (Value.ref.inj q)) (by decide) (by decide) ?_
      show Steps p.tables e below (T1.setTop (mkF m 7 #[.val (.ref (ad 2))] [])) t
      refine XS.aloadN X1.here hx rfl (hb hby own_d_prog_11_method_7_code_7) rfl rfl ?_
      show Steps p.tables e below (T1.setTop (mkF m 8 #[.val (.ref (ad 2))] [(.ref (ad 2))])) t
      exact st3 t k)
  have ch5 : ∀ t, Steps p.tables e below (T3.setTop (mkF m 26 #[.val (.ref (ad 2))] [(.int (1 : Int32))])) t → Steps p.tables e below (s₁.setTop (entryFrame m #[(.ref (ad 2))] 1)) t := fun t k => ch4 t (by
      show Steps p.tables e below (T3.setTop (mkF m 11 #[.val (.ref (ad 2))] [(.ref (ad 2)), (.ref (ad 2))])) t
      refine Jvm.RoadKit.acmp (g := (mkF m 11 #[.val (.ref (ad 2))] [(.ref (ad 2)), (.ref (ad 2))])) X3 hx rfl rfl rfl (pc0 := 11) (pc' := 21) (same := true) rfl (hb hby own_d_prog_11_method_7_code_11) rfl (decide_eq_true rfl) (by decide) (by decide) ?_
      show Steps p.tables e below (T3.setTop (mkF m 21 #[.val (.ref (ad 2))] [])) t
      refine XS.iconst X3.here hx rfl (hb hby own_d_prog_11_method_7_code_21) ?_
      show Steps p.tables e below (T3.setTop (mkF m 22 #[.val (.ref (ad 2))] [(.int (1 : Int32))])) t
      refine XS.goto X3.here hx rfl (pc0 := 22) (pc' := 26) rfl (hb hby own_d_prog_11_method_7_code_22) (by decide) (by decide) ?_
      exact k)
  obtain ⟨fs, hr, hrun, hended, hW, hsame⟩ := X3.leave (v := some (.int (1 : Int32))) (fun h => by rw [Bd.returns] at h; cases h)
  refine ⟨_, _, ch5 _ ?_, hrun, hended, _, _, rfl, ?_, ⟨_, rfl⟩, hW, hsame.mono (by decide) (by decide)⟩
  · show Steps p.tables e below (T3.setTop (mkF m 26 #[.val (.ref (ad 2))] [(.int (1 : Int32))])) _
    exact retN X3 hx (t := .boolean) Bd.returns (by simp) (hb hby own_d_prog_11_method_7_code_26) hr
  · show QV (some (.int (1 : Int32))) h0 n0 _ T3.heap _
    rw [e3]
    exact ⟨rfl, N0, rfl⟩
theorem own_ef_own_ordi_7 (m : MethodId) {x0 : Addr} : entryFrame m #[(.ref x0)] 1 = mkF m 0 #[.val (.ref x0)] [] := by first | (simp [entryFrame, mkF, argsToLocals, Value.category, maxLocals]; done) | rfl
set_option maxRecDepth 65536 in
set_option maxHeartbeats 40000000 in
theorem own_ordi_7 (l : Launch) (Z : State) (a0 : Array Value) (hw : ∀ d ∈ tables_1, d.before a0 Z = true) (ws : List Jvm.Cond) (h0 : Heap) (n0 : Nat) (Z0 : n0 ≤ h0.size) (ad : Nat → Addr) (a_VALUES : Addr) (k_VALUES : ClassId) (W : OwnWd Z h0 ad a_VALUES k_VALUES) :
    MetFree l (⟨"java/lang/Enum", "ordinal", "()I"⟩ : MethodName) (head1 (Jvm.Cond.code (⟨"java/lang/Enum", "ordinal", "()I"⟩ : MethodName) jdk_37_method_2_code 1 (some .int) :: ws) ({ frames := 0, cells := 0, slots := 0, locals := 0 } : Room)) (fun a U => a = #[(.ref (ad 2))] ∧ Z.Warmed39 U.vm ∧ U.heap = h0) (fun _ _ _ _ _ => True) (fun _ U o U' => ∃ v L, o = .returned v ∧ QV (some (.int (7 : Int32))) h0 n0 v U'.heap L ∧ FrameEnd U o U' L ({ frames := 0, cells := 0, slots := 0, locals := 0 } : Room).cells ({ frames := 0, cells := 0, slots := 0, locals := 0 } : Room).slots) := by
  refine MetFree.of_bodySF (plainFor_of_name own_pn_java_lang_Enum) hisR ?_
  intro p e s m args below meth c s₁ Bd hml0 hP hK
  obtain ⟨rfl, hZ, hh⟩ := hP
  have hx := Bd.exec
  have hby := Bd.bytes
  have hml : c.maxLocals = 1 := hml0
  have hown : s.vm.findClass "java/lang/Enum" = some m.cls := findClass_of_methodNamed Bd.named
  have hnm := (name_of_methodNamed Bd.named Bd.method).1
  have X0 : Stand p l e ({ frames := 0, cells := 0, slots := 0, locals := 0 } : Room) s m #[(.ref (ad 2))] below meth c s₁ [] 0 0 := Stand.of_body Bd
  have e0 : s₁.heap = h0 := by rw [← hh, Bd.state]; rfl
  have N0 := Fr.nil n0
  have pre0 : ∀ t, Steps p.tables e below (s₁.setTop (mkF m 0 #[.val (.ref (ad 2))] [])) t → Steps p.tables e below (s₁.setTop (entryFrame m #[(.ref (ad 2))] 1)) t := fun t k => castTop (own_ef_own_ordi_7 m) k
  obtain ⟨T1, X1, e1, st1⟩ := getF X0 hx hZ hown (host := "") (Or.inl (hw _ (List.mem_of_getElem? (i := 15) rfl))) Via.refl e0 (own_F_FORMAT_ordinal W) (g := (mkF m 1 #[.val (.ref (ad 2))] [(.ref (ad 2))])) rfl rfl (hb hby own_d_jdk_37_method_2_code_1)
  have ch2 : ∀ t, Steps p.tables e below (T1.setTop (mkF m 4 #[.val (.ref (ad 2))] [(.int (7 : Int32))])) t → Steps p.tables e below (s₁.setTop (entryFrame m #[(.ref (ad 2))] 1)) t := fun t k => pre0 t (by
      show Steps p.tables e below (s₁.setTop (mkF m 0 #[.val (.ref (ad 2))] [])) t
      refine XS.aloadN X0.here hx rfl (hb hby own_d_jdk_37_method_2_code_0) rfl rfl ?_
      show Steps p.tables e below (s₁.setTop (mkF m 1 #[.val (.ref (ad 2))] [(.ref (ad 2))])) t
      exact st1 t k)
  obtain ⟨fs, hr, hrun, hended, hW, hsame⟩ := X1.leave (v := some (.int (7 : Int32))) (fun h => by rw [Bd.returns] at h; cases h)
  refine ⟨_, _, ch2 _ ?_, hrun, hended, _, _, rfl, ?_, ⟨_, rfl⟩, hW, hsame.mono (by decide) (by decide)⟩
  · show Steps p.tables e below (T1.setTop (mkF m 4 #[.val (.ref (ad 2))] [(.int (7 : Int32))])) _
    exact retI X1 hx Bd.returns (hb hby own_d_jdk_37_method_2_code_4) hr
  · show QV (some (.int (7 : Int32))) h0 n0 _ T1.heap _
    rw [e1]
    exact ⟨rfl, N0, rfl⟩
theorem own_ef_own_law_7 (m : MethodId) {x0 : Int32} : entryFrame m #[(.int x0)] maxLocals = mkF m 0 #[.val (.int x0), .unset, .unset, .unset] [] := by first | (simp [entryFrame, mkF, argsToLocals, Value.category, maxLocals]; done) | rfl
set_option maxRecDepth 65536 in
set_option maxHeartbeats 40000000 in
theorem own_law_7 (l : Launch) (Z : State) (a0 : Array Value) (hw : ∀ d ∈ tables_1, d.before a0 Z = true) (ws : List Jvm.Cond) (h0 : Heap) (n0 : Nat) (Z0 : n0 ≤ h0.size) (p1 : Int32) (hk : (p1 &&& (2147483647 : Int32)) % (19 : Int32) = (7 : Int32)) (ad : Nat → Addr) (a_VALUES : Addr) (k_VALUES : ClassId) (W : OwnWd Z h0 ad a_VALUES k_VALUES) :
    MetFree l x (head1 (Jvm.Cond.code x code maxLocals ret :: ws) room_1) (fun a U => a = #[(.int p1)] ∧ Z.Warmed39 U.vm ∧ U.heap = h0) (fun _ _ _ _ _ => True) (fun _ U o U' => ∃ v L, o = .returned v ∧ QN (some (.int (1 : Int32))) n0 v U'.heap L ∧ FrameEnd U o U' L room_1.cells room_1.slots) := by
  refine MetFree.of_bodySF (plainFor_of_name own_pn_com_example_libsnippet_libsnippet_WordBreakIsIgnorablePinLaw) hisR ?_
  intro p e s m args below meth c s₁ Bd hml0 hP hK
  obtain ⟨rfl, hZ, hh⟩ := hP
  have hx := Bd.exec
  have hby := Bd.bytes
  have hml : c.maxLocals = 4 := hml0
  have hown : s.vm.findClass "com/example/libsnippet/libsnippet/WordBreakIsIgnorablePinLaw" = some m.cls := findClass_of_methodNamed Bd.named
  have hnm := (name_of_methodNamed Bd.named Bd.method).1
  have X0 : Stand p l e room_1 s m #[(.int p1)] below meth c s₁ [] 0 0 := Stand.of_body Bd
  have e0 : s₁.heap = h0 := by rw [← hh, Bd.state]; rfl
  have N0 := Fr.nil n0
  have pre0 : ∀ t, Steps p.tables e below (s₁.setTop (mkF m 0 #[.val (.int p1), .unset, .unset, .unset] [])) t → Steps p.tables e below (s₁.setTop (entryFrame m #[(.int p1)] maxLocals)) t := fun t k => castTop (own_ef_own_law_7 m) k
  obtain ⟨vv1, _, ⟨T1, L1, kk1, nn1⟩, -, X1, ⟨Lc1, hQ1, l1, y1, z1⟩, st1⟩ := Jvm.LawKit.callS X0 hx (y := (⟨"com/example/libsnippet/libsnippet/WordBreak", "ofOrdinal", "(I)Lcom/example/libsnippet/libsnippet/WordBreak;"⟩ : MethodName)) hown (mvT hZ (hw _ (List.mem_of_getElem? (i := 1) rfl))) (mvT hZ (hw _ (List.mem_of_getElem? (i := 2) rfl))) (mvT hZ (hw _ (List.mem_of_getElem? (i := 3) rfl))) (mvT hZ (hw _ (List.mem_of_getElem? (i := 4) rfl))) (by decide) (backOf (W := 0) (own_pick_7 l Z a0 hw [] h0 n0 Z0 ad a_VALUES k_VALUES W) hZ (hw _ (List.mem_of_getElem? (i := 4) rfl)) (hw _ (List.mem_of_getElem? (i := 3) rfl)) (by decide) (by decide)) (g := (mkF m 9 #[.val (.int p1), .val (.int (7 : Int32)), .unset, .unset] [(.int (7 : Int32))])) rfl (by rw [hml]; rfl) (argsL := [(.int (7 : Int32))]) (rest := []) (lenOf own_pd__I_Lcom_example_libsnippet_libsnippet_WordBreak_ rfl) rfl (by show 2 * 0 + _ ≤ _; exact Nat.le_of_eq rfl) (hb hby at_9) (fun _ _ => ⟨rfl, e0, (by decide : 0 + 0 ≤ _), (by decide : 0 + 0 ≤ _)⟩)
  dsimp only [Pt.U, Pt.locs, Pt.cells, Pt.slots] at X1 l1 y1 z1 st1 hQ1
  subst l1 y1 z1
  obtain ⟨rfl, Nq1, e1⟩ := hQ1
  have N1 := Fr.app N0 Nq1
  have ch2 : ∀ t, Steps p.tables e below (T1.setTop (mkF m 12 #[.val (.int p1), .val (.int (7 : Int32)), .unset, .unset] [(.ref (ad 2))])) t → Steps p.tables e below (s₁.setTop (entryFrame m #[(.int p1)] maxLocals)) t := fun t k => pre0 t (by
      show Steps p.tables e below (s₁.setTop (mkF m 0 #[.val (.int p1), .unset, .unset, .unset] [])) t
      refine XS.iloadN X0.here hx rfl (hb hby at_0) rfl ?_
      show Steps p.tables e below (s₁.setTop (mkF m 1 #[.val (.int p1), .unset, .unset, .unset] [(.int p1)])) t
      refine X0.ldcInt hx hown (mvT hZ (hw _ (List.mem_of_getElem? (i := 0) rfl))) (g := (mkF m 1 #[.val (.int p1), .unset, .unset, .unset] [(.int p1)])) rfl (hb hby at_1) _ ?_
      show Steps p.tables e below (s₁.setTop (mkF m 3 #[.val (.int p1), .unset, .unset, .unset] [(.int (2147483647 : Int32)), (.int p1)])) t
      refine XS.iand X0.here hx rfl (hb hby at_3) rfl ?_
      show Steps p.tables e below (s₁.setTop (mkF m 4 #[.val (.int p1), .unset, .unset, .unset] [(.int (p1 &&& (2147483647 : Int32)))])) t
      refine XS.bipush X0.here hx rfl (hb hby at_4) ?_
      show Steps p.tables e below (s₁.setTop (mkF m 6 #[.val (.int p1), .unset, .unset, .unset] [(.int (19 : Int32)), (.int (p1 &&& (2147483647 : Int32)))])) t
      refine Jvm.RoadKit.iremM (g := (mkF m 6 #[.val (.int p1), .unset, .unset, .unset] [(.int (19 : Int32)), (.int (p1 &&& (2147483647 : Int32)))])) X0 hx rfl (hb hby at_6) rfl (by decide) ?_
      rw [hk]
      show Steps p.tables e below (s₁.setTop (mkF m 7 #[.val (.int p1), .unset, .unset, .unset] [(.int (7 : Int32))])) t
      refine XS.istoreN X0.here hx rfl (hb hby at_7) rfl (l' := #[.val (.int p1), .val (.int (7 : Int32)), .unset, .unset]) rfl ?_
      show Steps p.tables e below (s₁.setTop (mkF m 8 #[.val (.int p1), .val (.int (7 : Int32)), .unset, .unset] [])) t
      refine XS.iloadN X0.here hx rfl (hb hby at_8) rfl ?_
      show Steps p.tables e below (s₁.setTop (mkF m 9 #[.val (.int p1), .val (.int (7 : Int32)), .unset, .unset] [(.int (7 : Int32))])) t
      exact st1 t k)
  obtain ⟨cq3, kq3, qa3, qb3, qc3⟩ := isOf hZ e1 (own_E_FORMAT W)
  obtain ⟨vv4, _, ⟨T4, L4, kk4, nn4⟩, -, X4, ⟨Lc4, hQ4, l4, y4, z4⟩, st4⟩ := X1.virtualBackUp hx (x := (⟨"com/example/libsnippet/libsnippet/WordBreak", "ordinal", "()I"⟩ : MethodName)) (y := (⟨"java/lang/Enum", "ordinal", "()I"⟩ : MethodName)) (owner := "java/lang/Enum") hown (mvT hZ (hw _ (List.mem_of_getElem? (i := 8) rfl))) (mvT hZ (hw _ (List.mem_of_getElem? (i := 9) rfl))) (mvT hZ (hw _ (List.mem_of_getElem? (i := 10) rfl))) (by decide) (mvT hZ (hw _ (List.mem_of_getElem? (i := 12) rfl))) (mvT hZ (hw _ (List.mem_of_getElem? (i := 11) rfl))) (backOf (W := 0) (own_ordi_7 l Z a0 hw [] h0 n0 Z0 ad a_VALUES k_VALUES W) hZ (hw _ (List.mem_of_getElem? (i := 14) rfl)) (hw _ (List.mem_of_getElem? (i := 13) rfl)) (by decide) (by decide)) qa3 qc3 (g := (mkF m 36 #[.val (.int p1), .val (.int (7 : Int32)), .val (.ref (ad 2)), .val (.int (1 : Int32))] [(.ref (ad 2))])) rfl (by rw [hml]; rfl) (Steps.refl _) (argsL := []) (rest := []) (lenOf own_pd___I rfl) rfl (by show 2 * 0 + _ ≤ _; exact Nat.le_of_eq rfl) (hb hby at_36) (fun _ _ => ⟨rfl, e1, (by decide : 0 + 0 ≤ _), (by decide : 0 + 0 ≤ _)⟩)
  dsimp only [Pt.U, Pt.locs, Pt.cells, Pt.slots] at X4 l4 y4 z4 st4 hQ4
  subst l4 y4 z4
  obtain ⟨rfl, Nq4, e4⟩ := hQ4
  have N4 := Fr.app N1 Nq4
  have ch5 : ∀ t, Steps p.tables e below (T4.setTop (mkF m 39 #[.val (.int p1), .val (.int (7 : Int32)), .val (.ref (ad 2)), .val (.int (1 : Int32))] [(.int (7 : Int32))])) t → Steps p.tables e below (s₁.setTop (entryFrame m #[(.int p1)] maxLocals)) t := fun t k => ch2 t (by
      show Steps p.tables e below (T1.setTop (mkF m 12 #[.val (.int p1), .val (.int (7 : Int32)), .unset, .unset] [(.ref (ad 2))])) t
      refine XS.astoreN X1.here hx rfl (hb hby at_12) rfl rfl (l' := #[.val (.int p1), .val (.int (7 : Int32)), .val (.ref (ad 2)), .unset]) rfl ?_
      show Steps p.tables e below (T1.setTop (mkF m 13 #[.val (.int p1), .val (.int (7 : Int32)), .val (.ref (ad 2)), .unset] [])) t
      refine XS.iloadN X1.here hx rfl (hb hby at_13) rfl ?_
      show Steps p.tables e below (T1.setTop (mkF m 14 #[.val (.int p1), .val (.int (7 : Int32)), .val (.ref (ad 2)), .unset] [(.int (7 : Int32))])) t
      refine XS.iconst X1.here hx rfl (hb hby at_14) ?_
      show Steps p.tables e below (T1.setTop (mkF m 15 #[.val (.int p1), .val (.int (7 : Int32)), .val (.ref (ad 2)), .unset] [(.int (4 : Int32)), (.int (7 : Int32))])) t
      refine XS.icmpNo X1.here hx rfl (hb hby at_15) rfl (feq (by decide : ¬ (7 : Int32) = (4 : Int32))).1 ?_
      show Steps p.tables e below (T1.setTop (mkF m 18 #[.val (.int p1), .val (.int (7 : Int32)), .val (.ref (ad 2)), .unset] [])) t
      refine XS.iloadN X1.here hx rfl (hb hby at_18) rfl ?_
      show Steps p.tables e below (T1.setTop (mkF m 19 #[.val (.int p1), .val (.int (7 : Int32)), .val (.ref (ad 2)), .unset] [(.int (7 : Int32))])) t
      refine XS.iconst X1.here hx rfl (hb hby at_19) ?_
      show Steps p.tables e below (T1.setTop (mkF m 20 #[.val (.int p1), .val (.int (7 : Int32)), .val (.ref (ad 2)), .unset] [(.int (5 : Int32)), (.int (7 : Int32))])) t
      refine XS.icmpNo X1.here hx rfl (hb hby at_20) rfl (feq (by decide : ¬ (7 : Int32) = (5 : Int32))).1 ?_
      show Steps p.tables e below (T1.setTop (mkF m 23 #[.val (.int p1), .val (.int (7 : Int32)), .val (.ref (ad 2)), .unset] [])) t
      refine XS.iloadN X1.here hx rfl (hb hby at_23) rfl ?_
      show Steps p.tables e below (T1.setTop (mkF m 24 #[.val (.int p1), .val (.int (7 : Int32)), .val (.ref (ad 2)), .unset] [(.int (7 : Int32))])) t
      refine XS.bipush X1.here hx rfl (hb hby at_24) ?_
      show Steps p.tables e below (T1.setTop (mkF m 26 #[.val (.int p1), .val (.int (7 : Int32)), .val (.ref (ad 2)), .unset] [(.int (7 : Int32)), (.int (7 : Int32))])) t
      refine XS.icmpNo X1.here hx rfl (hb hby at_26) rfl (teq (by decide : (7 : Int32) = (7 : Int32))).2 ?_
      show Steps p.tables e below (T1.setTop (mkF m 29 #[.val (.int p1), .val (.int (7 : Int32)), .val (.ref (ad 2)), .unset] [])) t
      refine XS.iconst X1.here hx rfl (hb hby at_29) ?_
      show Steps p.tables e below (T1.setTop (mkF m 30 #[.val (.int p1), .val (.int (7 : Int32)), .val (.ref (ad 2)), .unset] [(.int (1 : Int32))])) t
      refine XS.goto X1.here hx rfl (pc0 := 30) (pc' := 34) rfl (hb hby at_30) (by decide) (by decide) ?_
      show Steps p.tables e below (T1.setTop (mkF m 34 #[.val (.int p1), .val (.int (7 : Int32)), .val (.ref (ad 2)), .unset] [(.int (1 : Int32))])) t
      refine XS.istoreN X1.here hx rfl (hb hby at_34) rfl (l' := #[.val (.int p1), .val (.int (7 : Int32)), .val (.ref (ad 2)), .val (.int (1 : Int32))]) rfl ?_
      show Steps p.tables e below (T1.setTop (mkF m 35 #[.val (.int p1), .val (.int (7 : Int32)), .val (.ref (ad 2)), .val (.int (1 : Int32))] [])) t
      refine XS.aloadN X1.here hx rfl (hb hby at_35) rfl rfl ?_
      show Steps p.tables e below (T1.setTop (mkF m 36 #[.val (.int p1), .val (.int (7 : Int32)), .val (.ref (ad 2)), .val (.int (1 : Int32))] [(.ref (ad 2))])) t
      exact st4.trans k)
  obtain ⟨cq6, kq6, qa6, qb6, qc6⟩ := isOf hZ e4 (own_E_FORMAT W)
  obtain ⟨vv7, _, ⟨T7, L7, kk7, nn7⟩, -, X7, ⟨Lc7, hQ7, l7, y7, z7⟩, st7⟩ := X4.virtualBack hx (y := (⟨"com/example/libsnippet/libsnippet/WordBreak", "isIgnorable", "()Z"⟩ : MethodName)) (z := (⟨"com/example/libsnippet/libsnippet/WordBreak", "isIgnorable", "()Z"⟩ : MethodName)) hown (mvT hZ (hw _ (List.mem_of_getElem? (i := 17) rfl))) (mvT hZ (hw _ (List.mem_of_getElem? (i := 18) rfl))) (notFace_of_selects (args := #[]) (mvT hZ (hw _ (List.mem_of_getElem? (i := 20) rfl)))) (mvT hZ (hw _ (List.mem_of_getElem? (i := 20) rfl))) (mvT hZ (hw _ (List.mem_of_getElem? (i := 19) rfl))) (by decide) (backOf (W := 0) (own_pred_7 l Z a0 hw [] h0 n0 Z0 ad a_VALUES k_VALUES W) hZ (hw _ (List.mem_of_getElem? (i := 21) rfl)) (hw _ (List.mem_of_getElem? (i := 3) rfl)) (by decide) (by decide)) qa6 qc6 (g := (mkF m 44 #[.val (.int p1), .val (.int (7 : Int32)), .val (.ref (ad 2)), .val (.int (1 : Int32))] [(.ref (ad 2))])) rfl (by rw [hml]; rfl) (Steps.refl _) (argsL := []) (rest := []) (lenOf own_pd___Z rfl) rfl (by show 2 * 0 + _ ≤ _; exact Nat.le_of_eq rfl) (hb hby at_44) (fun _ _ => ⟨rfl, e4, (by decide : 0 + 0 ≤ _), (by decide : 0 + 0 ≤ _)⟩)
  dsimp only [Pt.U, Pt.locs, Pt.cells, Pt.slots] at X7 l7 y7 z7 st7 hQ7
  subst l7 y7 z7
  obtain ⟨rfl, Nq7, e7⟩ := hQ7
  have N7 := Fr.app N4 Nq7
  have ch8 : ∀ t, Steps p.tables e below (T7.setTop (mkF m 47 #[.val (.int p1), .val (.int (7 : Int32)), .val (.ref (ad 2)), .val (.int (1 : Int32))] [(.int (1 : Int32))])) t → Steps p.tables e below (s₁.setTop (entryFrame m #[(.int p1)] maxLocals)) t := fun t k => ch5 t (by
      show Steps p.tables e below (T4.setTop (mkF m 39 #[.val (.int p1), .val (.int (7 : Int32)), .val (.ref (ad 2)), .val (.int (1 : Int32))] [(.int (7 : Int32))])) t
      refine XS.iloadN X4.here hx rfl (hb hby at_39) rfl ?_
      show Steps p.tables e below (T4.setTop (mkF m 40 #[.val (.int p1), .val (.int (7 : Int32)), .val (.ref (ad 2)), .val (.int (1 : Int32))] [(.int (7 : Int32)), (.int (7 : Int32))])) t
      refine XS.icmpNo X4.here hx rfl (hb hby at_40) rfl (teq (by decide : (7 : Int32) = (7 : Int32))).2 ?_
      show Steps p.tables e below (T4.setTop (mkF m 43 #[.val (.int p1), .val (.int (7 : Int32)), .val (.ref (ad 2)), .val (.int (1 : Int32))] [])) t
      refine XS.aloadN X4.here hx rfl (hb hby at_43) rfl rfl ?_
      show Steps p.tables e below (T4.setTop (mkF m 44 #[.val (.int p1), .val (.int (7 : Int32)), .val (.ref (ad 2)), .val (.int (1 : Int32))] [(.ref (ad 2))])) t
      exact st7.trans k)
  have ch9 : ∀ t, Steps p.tables e below (T7.setTop (mkF m 56 #[.val (.int p1), .val (.int (7 : Int32)), .val (.ref (ad 2)), .val (.int (1 : Int32))] [(.int (1 : Int32))])) t → Steps p.tables e below (s₁.setTop (entryFrame m #[(.int p1)] maxLocals)) t := fun t k => ch8 t (by
      show Steps p.tables e below (T7.setTop (mkF m 47 #[.val (.int p1), .val (.int (7 : Int32)), .val (.ref (ad 2)), .val (.int (1 : Int32))] [(.int (1 : Int32))])) t
      refine XS.iloadN X7.here hx rfl (hb hby at_47) rfl ?_
      show Steps p.tables e below (T7.setTop (mkF m 48 #[.val (.int p1), .val (.int (7 : Int32)), .val (.ref (ad 2)), .val (.int (1 : Int32))] [(.int (1 : Int32)), (.int (1 : Int32))])) t
      refine XS.icmpNo X7.here hx rfl (hb hby at_48) rfl (teq (by decide : (1 : Int32) = (1 : Int32))).2 ?_
      show Steps p.tables e below (T7.setTop (mkF m 51 #[.val (.int p1), .val (.int (7 : Int32)), .val (.ref (ad 2)), .val (.int (1 : Int32))] [])) t
      refine XS.iconst X7.here hx rfl (hb hby at_51) ?_
      show Steps p.tables e below (T7.setTop (mkF m 52 #[.val (.int p1), .val (.int (7 : Int32)), .val (.ref (ad 2)), .val (.int (1 : Int32))] [(.int (1 : Int32))])) t
      refine XS.goto X7.here hx rfl (pc0 := 52) (pc' := 56) rfl (hb hby at_52) (by decide) (by decide) ?_
      exact k)
  obtain ⟨fs, hr, hrun, hended, hW, hsame⟩ := X7.leave (v := some (.int (1 : Int32))) (fun h => by rw [Bd.returns] at h; cases h)
  refine ⟨_, _, ch9 _ ?_, hrun, hended, _, _, rfl, ?_, ⟨_, rfl⟩, hW, hsame.mono (by decide) (by decide)⟩
  · show Steps p.tables e below (T7.setTop (mkF m 56 #[.val (.int p1), .val (.int (7 : Int32)), .val (.ref (ad 2)), .val (.int (1 : Int32))] [(.int (1 : Int32))])) _
    exact retN X7 hx (t := .boolean) Bd.returns (by simp) (hb hby at_56) hr
  · show QN (some (.int (1 : Int32))) n0 _ T7.heap _
    rw [e7]
    exact ⟨rfl, N7⟩
theorem own_ef_own_pick_8 (m : MethodId) {x0 : Int32} : entryFrame m #[(.int x0)] 1 = mkF m 0 #[.val (.int x0)] [] := by first | (simp [entryFrame, mkF, argsToLocals, Value.category, maxLocals]; done) | rfl
set_option maxRecDepth 65536 in
set_option maxHeartbeats 40000000 in
theorem own_pick_8 (l : Launch) (Z : State) (a0 : Array Value) (hw : ∀ d ∈ tables_1, d.before a0 Z = true) (ws : List Jvm.Cond) (h0 : Heap) (n0 : Nat) (Z0 : n0 ≤ h0.size) (ad : Nat → Addr) (a_VALUES : Addr) (k_VALUES : ClassId) (W : OwnWd Z h0 ad a_VALUES k_VALUES) :
    MetFree l (⟨"com/example/libsnippet/libsnippet/WordBreak", "ofOrdinal", "(I)Lcom/example/libsnippet/libsnippet/WordBreak;"⟩ : MethodName) (head1 (Jvm.Cond.code (⟨"com/example/libsnippet/libsnippet/WordBreak", "ofOrdinal", "(I)Lcom/example/libsnippet/libsnippet/WordBreak;"⟩ : MethodName) prog_11_method_5_code 1 (some (.object "com/example/libsnippet/libsnippet/WordBreak")) :: ws) ({ frames := 0, cells := 0, slots := 0, locals := 0 } : Room)) (fun a U => a = #[(.int (8 : Int32))] ∧ Z.Warmed39 U.vm ∧ U.heap = h0) (fun _ _ _ _ _ => True) (fun _ U o U' => ∃ v L, o = .returned v ∧ QV (some (.ref (ad 10))) h0 n0 v U'.heap L ∧ FrameEnd U o U' L ({ frames := 0, cells := 0, slots := 0, locals := 0 } : Room).cells ({ frames := 0, cells := 0, slots := 0, locals := 0 } : Room).slots) := by
  refine MetFree.of_bodySF (plainFor_of_name own_pn_com_example_libsnippet_libsnippet_WordBreak) hisR ?_
  intro p e s m args below meth c s₁ Bd hml0 hP hK
  obtain ⟨rfl, hZ, hh⟩ := hP
  have hx := Bd.exec
  have hby := Bd.bytes
  have hml : c.maxLocals = 1 := hml0
  have hown : s.vm.findClass "com/example/libsnippet/libsnippet/WordBreak" = some m.cls := findClass_of_methodNamed Bd.named
  have hnm := (name_of_methodNamed Bd.named Bd.method).1
  have X0 : Stand p l e ({ frames := 0, cells := 0, slots := 0, locals := 0 } : Room) s m #[(.int (8 : Int32))] below meth c s₁ [] 0 0 := Stand.of_body Bd
  have e0 : s₁.heap = h0 := by rw [← hh, Bd.state]; rfl
  have N0 := Fr.nil n0
  have pre0 : ∀ t, Steps p.tables e below (s₁.setTop (mkF m 0 #[.val (.int (8 : Int32))] [])) t → Steps p.tables e below (s₁.setTop (entryFrame m #[(.int (8 : Int32))] 1)) t := fun t k => castTop (own_ef_own_pick_8 m) k
  obtain ⟨T1, X1, e1, st1⟩ := getS2 X0 hx hZ hown (host := "") (Or.inl (hw _ (List.mem_of_getElem? (i := 5) rfl))) Via.refl e0 (own_S_VALUES W) (g := (mkF m 0 #[.val (.int (8 : Int32))] [])) rfl (hb hby own_d_prog_11_method_5_code_0)
  have ch2 : ∀ t, Steps p.tables e below (T1.setTop (mkF m 3 #[.val (.int (8 : Int32))] [(.ref a_VALUES)])) t → Steps p.tables e below (s₁.setTop (entryFrame m #[(.int (8 : Int32))] 1)) t := fun t k => pre0 t (by
      show Steps p.tables e below (s₁.setTop (mkF m 0 #[.val (.int (8 : Int32))] [])) t
      exact st1 t k)
  obtain ⟨cl3, Ar3, -, Sz3, Ng3, Ha3, -⟩ := (own_V_VALUES W)
  have hin3 : ¬ ((8 : Int32) < 0 ∨ cl3.slots.size ≤ ((8 : Int32)).toNatClampNeg) := inb_of Sz3 (by decide)
  have hat3 : cl3.slots[((8 : Int32)).toNatClampNeg]? = some (.ref (ad 10)) := Ha3.at hin3 rfl
  have ch4 : ∀ t, Steps p.tables e below (T1.setTop (mkF m 5 #[.val (.int (8 : Int32))] [(.ref (ad 10))])) t → Steps p.tables e below (s₁.setTop (entryFrame m #[(.int (8 : Int32))] 1)) t := fun t k => ch2 t (by
      show Steps p.tables e below (T1.setTop (mkF m 3 #[.val (.int (8 : Int32))] [(.ref a_VALUES)])) t
      refine XS.iloadN X1.here hx rfl (hb hby own_d_prog_11_method_5_code_3) rfl ?_
      show Steps p.tables e below (T1.setTop (mkF m 4 #[.val (.int (8 : Int32))] [(.int (8 : Int32)), (.ref a_VALUES)])) t
      refine X1.aaload hx (j := (8 : Int32)) (v := (.ref (ad 10))) (by rw [e1]; exact Ar3.1) (State.isArrayOf_alike hZ.alike Ar3.2.1) rfl Ar3.2.2 hin3 hat3 (g := (mkF m 4 #[.val (.int (8 : Int32))] [(.int (8 : Int32)), (.ref a_VALUES)])) rfl rfl (hb hby own_d_prog_11_method_5_code_4) _ ?_
      exact k)
  obtain ⟨fs, hr, hrun, hended, hW, hsame⟩ := X1.leave (v := some (.ref (ad 10))) (fun h => by rw [Bd.returns] at h; cases h)
  refine ⟨_, _, ch4 _ ?_, hrun, hended, _, _, rfl, ?_, ⟨_, rfl⟩, hW, hsame.mono (by decide) (by decide)⟩
  · show Steps p.tables e below (T1.setTop (mkF m 5 #[.val (.int (8 : Int32))] [(.ref (ad 10))])) _
    jvm_step X1.here [X1.here.top, hx, (hb hby own_d_prog_11_method_5_code_5), X1.method', Bd.returns, Value.isRef, FieldType.isReference]
    first | (intro acts; rw [hr _ acts rfl rfl rfl]) | rw [hr _ _ rfl rfl rfl]
    exact Steps.refl _
  · show QV (some (.ref (ad 10))) h0 n0 _ T1.heap _
    rw [e1]
    exact ⟨rfl, N0, rfl⟩
theorem own_ef_own_pred_8 (m : MethodId) {x0 : Addr} : entryFrame m #[(.ref x0)] 1 = mkF m 0 #[.val (.ref x0)] [] := by first | (simp [entryFrame, mkF, argsToLocals, Value.category, maxLocals]; done) | rfl
set_option maxRecDepth 65536 in
set_option maxHeartbeats 40000000 in
theorem own_pred_8 (l : Launch) (Z : State) (a0 : Array Value) (hw : ∀ d ∈ tables_1, d.before a0 Z = true) (ws : List Jvm.Cond) (h0 : Heap) (n0 : Nat) (Z0 : n0 ≤ h0.size) (ad : Nat → Addr) (a_VALUES : Addr) (k_VALUES : ClassId) (W : OwnWd Z h0 ad a_VALUES k_VALUES) :
    MetFree l (⟨"com/example/libsnippet/libsnippet/WordBreak", "isIgnorable", "()Z"⟩ : MethodName) (head1 (Jvm.Cond.code (⟨"com/example/libsnippet/libsnippet/WordBreak", "isIgnorable", "()Z"⟩ : MethodName) prog_11_method_7_code 1 (some .boolean) :: ws) ({ frames := 0, cells := 0, slots := 0, locals := 0 } : Room)) (fun a U => a = #[(.ref (ad 10))] ∧ Z.Warmed39 U.vm ∧ U.heap = h0) (fun _ _ _ _ _ => True) (fun _ U o U' => ∃ v L, o = .returned v ∧ QV (some (.int (0 : Int32))) h0 n0 v U'.heap L ∧ FrameEnd U o U' L ({ frames := 0, cells := 0, slots := 0, locals := 0 } : Room).cells ({ frames := 0, cells := 0, slots := 0, locals := 0 } : Room).slots) := by
  refine MetFree.of_bodySF (plainFor_of_name own_pn_com_example_libsnippet_libsnippet_WordBreak) hisR ?_
  intro p e s m args below meth c s₁ Bd hml0 hP hK
  obtain ⟨rfl, hZ, hh⟩ := hP
  have hx := Bd.exec
  have hby := Bd.bytes
  have hml : c.maxLocals = 1 := hml0
  have hown : s.vm.findClass "com/example/libsnippet/libsnippet/WordBreak" = some m.cls := findClass_of_methodNamed Bd.named
  have hnm := (name_of_methodNamed Bd.named Bd.method).1
  have X0 : Stand p l e ({ frames := 0, cells := 0, slots := 0, locals := 0 } : Room) s m #[(.ref (ad 10))] below meth c s₁ [] 0 0 := Stand.of_body Bd
  have e0 : s₁.heap = h0 := by rw [← hh, Bd.state]; rfl
  have N0 := Fr.nil n0
  have pre0 : ∀ t, Steps p.tables e below (s₁.setTop (mkF m 0 #[.val (.ref (ad 10))] [])) t → Steps p.tables e below (s₁.setTop (entryFrame m #[(.ref (ad 10))] 1)) t := fun t k => castTop (own_ef_own_pred_8 m) k
  obtain ⟨T1, X1, e1, st1⟩ := getS2 X0 hx hZ hown (host := "") (Or.inl (hw _ (List.mem_of_getElem? (i := 22) rfl))) Via.refl e0 (own_S_EXTEND W) (g := (mkF m 1 #[.val (.ref (ad 10))] [(.ref (ad 10))])) rfl (hb hby own_d_prog_11_method_7_code_1)
  have ch2 : ∀ t, Steps p.tables e below (T1.setTop (mkF m 4 #[.val (.ref (ad 10))] [(.ref (ad 1)), (.ref (ad 10))])) t → Steps p.tables e below (s₁.setTop (entryFrame m #[(.ref (ad 10))] 1)) t := fun t k => pre0 t (by
      show Steps p.tables e below (s₁.setTop (mkF m 0 #[.val (.ref (ad 10))] [])) t
      refine XS.aloadN X0.here hx rfl (hb hby own_d_prog_11_method_7_code_0) rfl rfl ?_
      show Steps p.tables e below (s₁.setTop (mkF m 1 #[.val (.ref (ad 10))] [(.ref (ad 10))])) t
      exact st1 t k)
  obtain ⟨T3, X3, e3, st3⟩ := getS2 X1 hx hZ hown (host := "") (Or.inl (hw _ (List.mem_of_getElem? (i := 24) rfl))) Via.refl e1 (own_S_FORMAT W) (g := (mkF m 8 #[.val (.ref (ad 10))] [(.ref (ad 10))])) rfl (hb hby own_d_prog_11_method_7_code_8)
  have ch4 : ∀ t, Steps p.tables e below (T3.setTop (mkF m 11 #[.val (.ref (ad 10))] [(.ref (ad 2)), (.ref (ad 10))])) t → Steps p.tables e below (s₁.setTop (entryFrame m #[(.ref (ad 10))] 1)) t := fun t k => ch2 t (by
      show Steps p.tables e below (T1.setTop (mkF m 4 #[.val (.ref (ad 10))] [(.ref (ad 1)), (.ref (ad 10))])) t
      refine Jvm.RoadKit.acmp (g := (mkF m 4 #[.val (.ref (ad 10))] [(.ref (ad 1)), (.ref (ad 10))])) X1 hx rfl rfl rfl (pc0 := 4) (pc' := 7) (same := false) rfl (hb hby own_d_prog_11_method_7_code_4) rfl (decide_eq_false fun q => (Fld.ne (own_F_KATAKANA_ordinal W) (own_F_EXTEND_ordinal W) (by decide)) (Value.ref.inj q)) (by decide) (by decide) ?_
      show Steps p.tables e below (T1.setTop (mkF m 7 #[.val (.ref (ad 10))] [])) t
      refine XS.aloadN X1.here hx rfl (hb hby own_d_prog_11_method_7_code_7) rfl rfl ?_
      show Steps p.tables e below (T1.setTop (mkF m 8 #[.val (.ref (ad 10))] [(.ref (ad 10))])) t
      exact st3 t k)
  obtain ⟨T5, X5, e5, st5⟩ := getS2 X3 hx hZ hown (host := "") (Or.inl (hw _ (List.mem_of_getElem? (i := 26) rfl))) Via.refl e3 (own_S_ZWJ W) (g := (mkF m 15 #[.val (.ref (ad 10))] [(.ref (ad 10))])) rfl (hb hby own_d_prog_11_method_7_code_15)
  have ch6 : ∀ t, Steps p.tables e below (T5.setTop (mkF m 18 #[.val (.ref (ad 10))] [(.ref (ad 3)), (.ref (ad 10))])) t → Steps p.tables e below (s₁.setTop (entryFrame m #[(.ref (ad 10))] 1)) t := fun t k => ch4 t (by
      show Steps p.tables e below (T3.setTop (mkF m 11 #[.val (.ref (ad 10))] [(.ref (ad 2)), (.ref (ad 10))])) t
      refine Jvm.RoadKit.acmp (g := (mkF m 11 #[.val (.ref (ad 10))] [(.ref (ad 2)), (.ref (ad 10))])) X3 hx rfl rfl rfl (pc0 := 11) (pc' := 14) (same := false) rfl (hb hby own_d_prog_11_method_7_code_11) rfl (decide_eq_false fun q => (Fld.ne (own_F_KATAKANA_ordinal W) (own_F_FORMAT_ordinal W) (by decide)) (Value.ref.inj q)) (by decide) (by decide) ?_
      show Steps p.tables e below (T3.setTop (mkF m 14 #[.val (.ref (ad 10))] [])) t
      refine XS.aloadN X3.here hx rfl (hb hby own_d_prog_11_method_7_code_14) rfl rfl ?_
      show Steps p.tables e below (T3.setTop (mkF m 15 #[.val (.ref (ad 10))] [(.ref (ad 10))])) t
      exact st5 t k)
  have ch7 : ∀ t, Steps p.tables e below (T5.setTop (mkF m 26 #[.val (.ref (ad 10))] [(.int (0 : Int32))])) t → Steps p.tables e below (s₁.setTop (entryFrame m #[(.ref (ad 10))] 1)) t := fun t k => ch6 t (by
      show Steps p.tables e below (T5.setTop (mkF m 18 #[.val (.ref (ad 10))] [(.ref (ad 3)), (.ref (ad 10))])) t
      refine Jvm.RoadKit.acmp (g := (mkF m 18 #[.val (.ref (ad 10))] [(.ref (ad 3)), (.ref (ad 10))])) X5 hx rfl rfl rfl (pc0 := 18) (pc' := 25) (same := false) rfl (hb hby own_d_prog_11_method_7_code_18) rfl (decide_eq_false fun q => (Fld.ne (own_F_KATAKANA_ordinal W) (own_F_ZWJ_ordinal W) (by decide)) (Value.ref.inj q)) (by decide) (by decide) ?_
      show Steps p.tables e below (T5.setTop (mkF m 25 #[.val (.ref (ad 10))] [])) t
      refine XS.iconst X5.here hx rfl (hb hby own_d_prog_11_method_7_code_25) ?_
      exact k)
  obtain ⟨fs, hr, hrun, hended, hW, hsame⟩ := X5.leave (v := some (.int (0 : Int32))) (fun h => by rw [Bd.returns] at h; cases h)
  refine ⟨_, _, ch7 _ ?_, hrun, hended, _, _, rfl, ?_, ⟨_, rfl⟩, hW, hsame.mono (by decide) (by decide)⟩
  · show Steps p.tables e below (T5.setTop (mkF m 26 #[.val (.ref (ad 10))] [(.int (0 : Int32))])) _
    exact retN X5 hx (t := .boolean) Bd.returns (by simp) (hb hby own_d_prog_11_method_7_code_26) hr
  · show QV (some (.int (0 : Int32))) h0 n0 _ T5.heap _
    rw [e5]
    exact ⟨rfl, N0, rfl⟩
theorem own_ef_own_ordi_8 (m : MethodId) {x0 : Addr} : entryFrame m #[(.ref x0)] 1 = mkF m 0 #[.val (.ref x0)] [] := by first | (simp [entryFrame, mkF, argsToLocals, Value.category, maxLocals]; done) | rfl
set_option maxRecDepth 65536 in
set_option maxHeartbeats 40000000 in
theorem own_ordi_8 (l : Launch) (Z : State) (a0 : Array Value) (hw : ∀ d ∈ tables_1, d.before a0 Z = true) (ws : List Jvm.Cond) (h0 : Heap) (n0 : Nat) (Z0 : n0 ≤ h0.size) (ad : Nat → Addr) (a_VALUES : Addr) (k_VALUES : ClassId) (W : OwnWd Z h0 ad a_VALUES k_VALUES) :
    MetFree l (⟨"java/lang/Enum", "ordinal", "()I"⟩ : MethodName) (head1 (Jvm.Cond.code (⟨"java/lang/Enum", "ordinal", "()I"⟩ : MethodName) jdk_37_method_2_code 1 (some .int) :: ws) ({ frames := 0, cells := 0, slots := 0, locals := 0 } : Room)) (fun a U => a = #[(.ref (ad 10))] ∧ Z.Warmed39 U.vm ∧ U.heap = h0) (fun _ _ _ _ _ => True) (fun _ U o U' => ∃ v L, o = .returned v ∧ QV (some (.int (8 : Int32))) h0 n0 v U'.heap L ∧ FrameEnd U o U' L ({ frames := 0, cells := 0, slots := 0, locals := 0 } : Room).cells ({ frames := 0, cells := 0, slots := 0, locals := 0 } : Room).slots) := by
  refine MetFree.of_bodySF (plainFor_of_name own_pn_java_lang_Enum) hisR ?_
  intro p e s m args below meth c s₁ Bd hml0 hP hK
  obtain ⟨rfl, hZ, hh⟩ := hP
  have hx := Bd.exec
  have hby := Bd.bytes
  have hml : c.maxLocals = 1 := hml0
  have hown : s.vm.findClass "java/lang/Enum" = some m.cls := findClass_of_methodNamed Bd.named
  have hnm := (name_of_methodNamed Bd.named Bd.method).1
  have X0 : Stand p l e ({ frames := 0, cells := 0, slots := 0, locals := 0 } : Room) s m #[(.ref (ad 10))] below meth c s₁ [] 0 0 := Stand.of_body Bd
  have e0 : s₁.heap = h0 := by rw [← hh, Bd.state]; rfl
  have N0 := Fr.nil n0
  have pre0 : ∀ t, Steps p.tables e below (s₁.setTop (mkF m 0 #[.val (.ref (ad 10))] [])) t → Steps p.tables e below (s₁.setTop (entryFrame m #[(.ref (ad 10))] 1)) t := fun t k => castTop (own_ef_own_ordi_8 m) k
  obtain ⟨T1, X1, e1, st1⟩ := getF X0 hx hZ hown (host := "") (Or.inl (hw _ (List.mem_of_getElem? (i := 15) rfl))) Via.refl e0 (own_F_KATAKANA_ordinal W) (g := (mkF m 1 #[.val (.ref (ad 10))] [(.ref (ad 10))])) rfl rfl (hb hby own_d_jdk_37_method_2_code_1)
  have ch2 : ∀ t, Steps p.tables e below (T1.setTop (mkF m 4 #[.val (.ref (ad 10))] [(.int (8 : Int32))])) t → Steps p.tables e below (s₁.setTop (entryFrame m #[(.ref (ad 10))] 1)) t := fun t k => pre0 t (by
      show Steps p.tables e below (s₁.setTop (mkF m 0 #[.val (.ref (ad 10))] [])) t
      refine XS.aloadN X0.here hx rfl (hb hby own_d_jdk_37_method_2_code_0) rfl rfl ?_
      show Steps p.tables e below (s₁.setTop (mkF m 1 #[.val (.ref (ad 10))] [(.ref (ad 10))])) t
      exact st1 t k)
  obtain ⟨fs, hr, hrun, hended, hW, hsame⟩ := X1.leave (v := some (.int (8 : Int32))) (fun h => by rw [Bd.returns] at h; cases h)
  refine ⟨_, _, ch2 _ ?_, hrun, hended, _, _, rfl, ?_, ⟨_, rfl⟩, hW, hsame.mono (by decide) (by decide)⟩
  · show Steps p.tables e below (T1.setTop (mkF m 4 #[.val (.ref (ad 10))] [(.int (8 : Int32))])) _
    exact retI X1 hx Bd.returns (hb hby own_d_jdk_37_method_2_code_4) hr
  · show QV (some (.int (8 : Int32))) h0 n0 _ T1.heap _
    rw [e1]
    exact ⟨rfl, N0, rfl⟩
theorem own_ef_own_law_8 (m : MethodId) {x0 : Int32} : entryFrame m #[(.int x0)] maxLocals = mkF m 0 #[.val (.int x0), .unset, .unset, .unset] [] := by first | (simp [entryFrame, mkF, argsToLocals, Value.category, maxLocals]; done) | rfl
set_option maxRecDepth 65536 in
set_option maxHeartbeats 40000000 in
theorem own_law_8 (l : Launch) (Z : State) (a0 : Array Value) (hw : ∀ d ∈ tables_1, d.before a0 Z = true) (ws : List Jvm.Cond) (h0 : Heap) (n0 : Nat) (Z0 : n0 ≤ h0.size) (p1 : Int32) (hk : (p1 &&& (2147483647 : Int32)) % (19 : Int32) = (8 : Int32)) (ad : Nat → Addr) (a_VALUES : Addr) (k_VALUES : ClassId) (W : OwnWd Z h0 ad a_VALUES k_VALUES) :
    MetFree l x (head1 (Jvm.Cond.code x code maxLocals ret :: ws) room_1) (fun a U => a = #[(.int p1)] ∧ Z.Warmed39 U.vm ∧ U.heap = h0) (fun _ _ _ _ _ => True) (fun _ U o U' => ∃ v L, o = .returned v ∧ QN (some (.int (1 : Int32))) n0 v U'.heap L ∧ FrameEnd U o U' L room_1.cells room_1.slots) := by
  refine MetFree.of_bodySF (plainFor_of_name own_pn_com_example_libsnippet_libsnippet_WordBreakIsIgnorablePinLaw) hisR ?_
  intro p e s m args below meth c s₁ Bd hml0 hP hK
  obtain ⟨rfl, hZ, hh⟩ := hP
  have hx := Bd.exec
  have hby := Bd.bytes
  have hml : c.maxLocals = 4 := hml0
  have hown : s.vm.findClass "com/example/libsnippet/libsnippet/WordBreakIsIgnorablePinLaw" = some m.cls := findClass_of_methodNamed Bd.named
  have hnm := (name_of_methodNamed Bd.named Bd.method).1
  have X0 : Stand p l e room_1 s m #[(.int p1)] below meth c s₁ [] 0 0 := Stand.of_body Bd
  have e0 : s₁.heap = h0 := by rw [← hh, Bd.state]; rfl
  have N0 := Fr.nil n0
  have pre0 : ∀ t, Steps p.tables e below (s₁.setTop (mkF m 0 #[.val (.int p1), .unset, .unset, .unset] [])) t → Steps p.tables e below (s₁.setTop (entryFrame m #[(.int p1)] maxLocals)) t := fun t k => castTop (own_ef_own_law_8 m) k
  obtain ⟨vv1, _, ⟨T1, L1, kk1, nn1⟩, -, X1, ⟨Lc1, hQ1, l1, y1, z1⟩, st1⟩ := Jvm.LawKit.callS X0 hx (y := (⟨"com/example/libsnippet/libsnippet/WordBreak", "ofOrdinal", "(I)Lcom/example/libsnippet/libsnippet/WordBreak;"⟩ : MethodName)) hown (mvT hZ (hw _ (List.mem_of_getElem? (i := 1) rfl))) (mvT hZ (hw _ (List.mem_of_getElem? (i := 2) rfl))) (mvT hZ (hw _ (List.mem_of_getElem? (i := 3) rfl))) (mvT hZ (hw _ (List.mem_of_getElem? (i := 4) rfl))) (by decide) (backOf (W := 0) (own_pick_8 l Z a0 hw [] h0 n0 Z0 ad a_VALUES k_VALUES W) hZ (hw _ (List.mem_of_getElem? (i := 4) rfl)) (hw _ (List.mem_of_getElem? (i := 3) rfl)) (by decide) (by decide)) (g := (mkF m 9 #[.val (.int p1), .val (.int (8 : Int32)), .unset, .unset] [(.int (8 : Int32))])) rfl (by rw [hml]; rfl) (argsL := [(.int (8 : Int32))]) (rest := []) (lenOf own_pd__I_Lcom_example_libsnippet_libsnippet_WordBreak_ rfl) rfl (by show 2 * 0 + _ ≤ _; exact Nat.le_of_eq rfl) (hb hby at_9) (fun _ _ => ⟨rfl, e0, (by decide : 0 + 0 ≤ _), (by decide : 0 + 0 ≤ _)⟩)
  dsimp only [Pt.U, Pt.locs, Pt.cells, Pt.slots] at X1 l1 y1 z1 st1 hQ1
  subst l1 y1 z1
  obtain ⟨rfl, Nq1, e1⟩ := hQ1
  have N1 := Fr.app N0 Nq1
  have ch2 : ∀ t, Steps p.tables e below (T1.setTop (mkF m 12 #[.val (.int p1), .val (.int (8 : Int32)), .unset, .unset] [(.ref (ad 10))])) t → Steps p.tables e below (s₁.setTop (entryFrame m #[(.int p1)] maxLocals)) t := fun t k => pre0 t (by
      show Steps p.tables e below (s₁.setTop (mkF m 0 #[.val (.int p1), .unset, .unset, .unset] [])) t
      refine XS.iloadN X0.here hx rfl (hb hby at_0) rfl ?_
      show Steps p.tables e below (s₁.setTop (mkF m 1 #[.val (.int p1), .unset, .unset, .unset] [(.int p1)])) t
      refine X0.ldcInt hx hown (mvT hZ (hw _ (List.mem_of_getElem? (i := 0) rfl))) (g := (mkF m 1 #[.val (.int p1), .unset, .unset, .unset] [(.int p1)])) rfl (hb hby at_1) _ ?_
      show Steps p.tables e below (s₁.setTop (mkF m 3 #[.val (.int p1), .unset, .unset, .unset] [(.int (2147483647 : Int32)), (.int p1)])) t
      refine XS.iand X0.here hx rfl (hb hby at_3) rfl ?_
      show Steps p.tables e below (s₁.setTop (mkF m 4 #[.val (.int p1), .unset, .unset, .unset] [(.int (p1 &&& (2147483647 : Int32)))])) t
      refine XS.bipush X0.here hx rfl (hb hby at_4) ?_
      show Steps p.tables e below (s₁.setTop (mkF m 6 #[.val (.int p1), .unset, .unset, .unset] [(.int (19 : Int32)), (.int (p1 &&& (2147483647 : Int32)))])) t
      refine Jvm.RoadKit.iremM (g := (mkF m 6 #[.val (.int p1), .unset, .unset, .unset] [(.int (19 : Int32)), (.int (p1 &&& (2147483647 : Int32)))])) X0 hx rfl (hb hby at_6) rfl (by decide) ?_
      rw [hk]
      show Steps p.tables e below (s₁.setTop (mkF m 7 #[.val (.int p1), .unset, .unset, .unset] [(.int (8 : Int32))])) t
      refine XS.istoreN X0.here hx rfl (hb hby at_7) rfl (l' := #[.val (.int p1), .val (.int (8 : Int32)), .unset, .unset]) rfl ?_
      show Steps p.tables e below (s₁.setTop (mkF m 8 #[.val (.int p1), .val (.int (8 : Int32)), .unset, .unset] [])) t
      refine XS.iloadN X0.here hx rfl (hb hby at_8) rfl ?_
      show Steps p.tables e below (s₁.setTop (mkF m 9 #[.val (.int p1), .val (.int (8 : Int32)), .unset, .unset] [(.int (8 : Int32))])) t
      exact st1 t k)
  obtain ⟨cq3, kq3, qa3, qb3, qc3⟩ := isOf hZ e1 (own_E_KATAKANA W)
  obtain ⟨vv4, _, ⟨T4, L4, kk4, nn4⟩, -, X4, ⟨Lc4, hQ4, l4, y4, z4⟩, st4⟩ := X1.virtualBackUp hx (x := (⟨"com/example/libsnippet/libsnippet/WordBreak", "ordinal", "()I"⟩ : MethodName)) (y := (⟨"java/lang/Enum", "ordinal", "()I"⟩ : MethodName)) (owner := "java/lang/Enum") hown (mvT hZ (hw _ (List.mem_of_getElem? (i := 8) rfl))) (mvT hZ (hw _ (List.mem_of_getElem? (i := 9) rfl))) (mvT hZ (hw _ (List.mem_of_getElem? (i := 10) rfl))) (by decide) (mvT hZ (hw _ (List.mem_of_getElem? (i := 12) rfl))) (mvT hZ (hw _ (List.mem_of_getElem? (i := 11) rfl))) (backOf (W := 0) (own_ordi_8 l Z a0 hw [] h0 n0 Z0 ad a_VALUES k_VALUES W) hZ (hw _ (List.mem_of_getElem? (i := 14) rfl)) (hw _ (List.mem_of_getElem? (i := 13) rfl)) (by decide) (by decide)) qa3 qc3 (g := (mkF m 36 #[.val (.int p1), .val (.int (8 : Int32)), .val (.ref (ad 10)), .val (.int (0 : Int32))] [(.ref (ad 10))])) rfl (by rw [hml]; rfl) (Steps.refl _) (argsL := []) (rest := []) (lenOf own_pd___I rfl) rfl (by show 2 * 0 + _ ≤ _; exact Nat.le_of_eq rfl) (hb hby at_36) (fun _ _ => ⟨rfl, e1, (by decide : 0 + 0 ≤ _), (by decide : 0 + 0 ≤ _)⟩)
  dsimp only [Pt.U, Pt.locs, Pt.cells, Pt.slots] at X4 l4 y4 z4 st4 hQ4
  subst l4 y4 z4
  obtain ⟨rfl, Nq4, e4⟩ := hQ4
  have N4 := Fr.app N1 Nq4
  have ch5 : ∀ t, Steps p.tables e below (T4.setTop (mkF m 39 #[.val (.int p1), .val (.int (8 : Int32)), .val (.ref (ad 10)), .val (.int (0 : Int32))] [(.int (8 : Int32))])) t → Steps p.tables e below (s₁.setTop (entryFrame m #[(.int p1)] maxLocals)) t := fun t k => ch2 t (by
      show Steps p.tables e below (T1.setTop (mkF m 12 #[.val (.int p1), .val (.int (8 : Int32)), .unset, .unset] [(.ref (ad 10))])) t
      refine XS.astoreN X1.here hx rfl (hb hby at_12) rfl rfl (l' := #[.val (.int p1), .val (.int (8 : Int32)), .val (.ref (ad 10)), .unset]) rfl ?_
      show Steps p.tables e below (T1.setTop (mkF m 13 #[.val (.int p1), .val (.int (8 : Int32)), .val (.ref (ad 10)), .unset] [])) t
      refine XS.iloadN X1.here hx rfl (hb hby at_13) rfl ?_
      show Steps p.tables e below (T1.setTop (mkF m 14 #[.val (.int p1), .val (.int (8 : Int32)), .val (.ref (ad 10)), .unset] [(.int (8 : Int32))])) t
      refine XS.iconst X1.here hx rfl (hb hby at_14) ?_
      show Steps p.tables e below (T1.setTop (mkF m 15 #[.val (.int p1), .val (.int (8 : Int32)), .val (.ref (ad 10)), .unset] [(.int (4 : Int32)), (.int (8 : Int32))])) t
      refine XS.icmpNo X1.here hx rfl (hb hby at_15) rfl (feq (by decide : ¬ (8 : Int32) = (4 : Int32))).1 ?_
      show Steps p.tables e below (T1.setTop (mkF m 18 #[.val (.int p1), .val (.int (8 : Int32)), .val (.ref (ad 10)), .unset] [])) t
      refine XS.iloadN X1.here hx rfl (hb hby at_18) rfl ?_
      show Steps p.tables e below (T1.setTop (mkF m 19 #[.val (.int p1), .val (.int (8 : Int32)), .val (.ref (ad 10)), .unset] [(.int (8 : Int32))])) t
      refine XS.iconst X1.here hx rfl (hb hby at_19) ?_
      show Steps p.tables e below (T1.setTop (mkF m 20 #[.val (.int p1), .val (.int (8 : Int32)), .val (.ref (ad 10)), .unset] [(.int (5 : Int32)), (.int (8 : Int32))])) t
      refine XS.icmpNo X1.here hx rfl (hb hby at_20) rfl (feq (by decide : ¬ (8 : Int32) = (5 : Int32))).1 ?_
      show Steps p.tables e below (T1.setTop (mkF m 23 #[.val (.int p1), .val (.int (8 : Int32)), .val (.ref (ad 10)), .unset] [])) t
      refine XS.iloadN X1.here hx rfl (hb hby at_23) rfl ?_
      show Steps p.tables e below (T1.setTop (mkF m 24 #[.val (.int p1), .val (.int (8 : Int32)), .val (.ref (ad 10)), .unset] [(.int (8 : Int32))])) t
      refine XS.bipush X1.here hx rfl (hb hby at_24) ?_
      show Steps p.tables e below (T1.setTop (mkF m 26 #[.val (.int p1), .val (.int (8 : Int32)), .val (.ref (ad 10)), .unset] [(.int (7 : Int32)), (.int (8 : Int32))])) t
      refine XS.icmpYes X1.here hx rfl (pc0 := 26) (pc' := 33) rfl (hb hby at_26) rfl (feq (by decide : ¬ (8 : Int32) = (7 : Int32))).2 (by decide) (by decide) ?_
      show Steps p.tables e below (T1.setTop (mkF m 33 #[.val (.int p1), .val (.int (8 : Int32)), .val (.ref (ad 10)), .unset] [])) t
      refine XS.iconst X1.here hx rfl (hb hby at_33) ?_
      show Steps p.tables e below (T1.setTop (mkF m 34 #[.val (.int p1), .val (.int (8 : Int32)), .val (.ref (ad 10)), .unset] [(.int (0 : Int32))])) t
      refine XS.istoreN X1.here hx rfl (hb hby at_34) rfl (l' := #[.val (.int p1), .val (.int (8 : Int32)), .val (.ref (ad 10)), .val (.int (0 : Int32))]) rfl ?_
      show Steps p.tables e below (T1.setTop (mkF m 35 #[.val (.int p1), .val (.int (8 : Int32)), .val (.ref (ad 10)), .val (.int (0 : Int32))] [])) t
      refine XS.aloadN X1.here hx rfl (hb hby at_35) rfl rfl ?_
      show Steps p.tables e below (T1.setTop (mkF m 36 #[.val (.int p1), .val (.int (8 : Int32)), .val (.ref (ad 10)), .val (.int (0 : Int32))] [(.ref (ad 10))])) t
      exact st4.trans k)
  obtain ⟨cq6, kq6, qa6, qb6, qc6⟩ := isOf hZ e4 (own_E_KATAKANA W)
  obtain ⟨vv7, _, ⟨T7, L7, kk7, nn7⟩, -, X7, ⟨Lc7, hQ7, l7, y7, z7⟩, st7⟩ := X4.virtualBack hx (y := (⟨"com/example/libsnippet/libsnippet/WordBreak", "isIgnorable", "()Z"⟩ : MethodName)) (z := (⟨"com/example/libsnippet/libsnippet/WordBreak", "isIgnorable", "()Z"⟩ : MethodName)) hown (mvT hZ (hw _ (List.mem_of_getElem? (i := 17) rfl))) (mvT hZ (hw _ (List.mem_of_getElem? (i := 18) rfl))) (notFace_of_selects (args := #[]) (mvT hZ (hw _ (List.mem_of_getElem? (i := 20) rfl)))) (mvT hZ (hw _ (List.mem_of_getElem? (i := 20) rfl))) (mvT hZ (hw _ (List.mem_of_getElem? (i := 19) rfl))) (by decide) (backOf (W := 0) (own_pred_8 l Z a0 hw [] h0 n0 Z0 ad a_VALUES k_VALUES W) hZ (hw _ (List.mem_of_getElem? (i := 21) rfl)) (hw _ (List.mem_of_getElem? (i := 3) rfl)) (by decide) (by decide)) qa6 qc6 (g := (mkF m 44 #[.val (.int p1), .val (.int (8 : Int32)), .val (.ref (ad 10)), .val (.int (0 : Int32))] [(.ref (ad 10))])) rfl (by rw [hml]; rfl) (Steps.refl _) (argsL := []) (rest := []) (lenOf own_pd___Z rfl) rfl (by show 2 * 0 + _ ≤ _; exact Nat.le_of_eq rfl) (hb hby at_44) (fun _ _ => ⟨rfl, e4, (by decide : 0 + 0 ≤ _), (by decide : 0 + 0 ≤ _)⟩)
  dsimp only [Pt.U, Pt.locs, Pt.cells, Pt.slots] at X7 l7 y7 z7 st7 hQ7
  subst l7 y7 z7
  obtain ⟨rfl, Nq7, e7⟩ := hQ7
  have N7 := Fr.app N4 Nq7
  have ch8 : ∀ t, Steps p.tables e below (T7.setTop (mkF m 47 #[.val (.int p1), .val (.int (8 : Int32)), .val (.ref (ad 10)), .val (.int (0 : Int32))] [(.int (0 : Int32))])) t → Steps p.tables e below (s₁.setTop (entryFrame m #[(.int p1)] maxLocals)) t := fun t k => ch5 t (by
      show Steps p.tables e below (T4.setTop (mkF m 39 #[.val (.int p1), .val (.int (8 : Int32)), .val (.ref (ad 10)), .val (.int (0 : Int32))] [(.int (8 : Int32))])) t
      refine XS.iloadN X4.here hx rfl (hb hby at_39) rfl ?_
      show Steps p.tables e below (T4.setTop (mkF m 40 #[.val (.int p1), .val (.int (8 : Int32)), .val (.ref (ad 10)), .val (.int (0 : Int32))] [(.int (8 : Int32)), (.int (8 : Int32))])) t
      refine XS.icmpNo X4.here hx rfl (hb hby at_40) rfl (teq (by decide : (8 : Int32) = (8 : Int32))).2 ?_
      show Steps p.tables e below (T4.setTop (mkF m 43 #[.val (.int p1), .val (.int (8 : Int32)), .val (.ref (ad 10)), .val (.int (0 : Int32))] [])) t
      refine XS.aloadN X4.here hx rfl (hb hby at_43) rfl rfl ?_
      show Steps p.tables e below (T4.setTop (mkF m 44 #[.val (.int p1), .val (.int (8 : Int32)), .val (.ref (ad 10)), .val (.int (0 : Int32))] [(.ref (ad 10))])) t
      exact st7.trans k)
  have ch9 : ∀ t, Steps p.tables e below (T7.setTop (mkF m 56 #[.val (.int p1), .val (.int (8 : Int32)), .val (.ref (ad 10)), .val (.int (0 : Int32))] [(.int (1 : Int32))])) t → Steps p.tables e below (s₁.setTop (entryFrame m #[(.int p1)] maxLocals)) t := fun t k => ch8 t (by
      show Steps p.tables e below (T7.setTop (mkF m 47 #[.val (.int p1), .val (.int (8 : Int32)), .val (.ref (ad 10)), .val (.int (0 : Int32))] [(.int (0 : Int32))])) t
      refine XS.iloadN X7.here hx rfl (hb hby at_47) rfl ?_
      show Steps p.tables e below (T7.setTop (mkF m 48 #[.val (.int p1), .val (.int (8 : Int32)), .val (.ref (ad 10)), .val (.int (0 : Int32))] [(.int (0 : Int32)), (.int (0 : Int32))])) t
      refine XS.icmpNo X7.here hx rfl (hb hby at_48) rfl (teq (by decide : (0 : Int32) = (0 : Int32))).2 ?_
      show Steps p.tables e below (T7.setTop (mkF m 51 #[.val (.int p1), .val (.int (8 : Int32)), .val (.ref (ad 10)), .val (.int (0 : Int32))] [])) t
      refine XS.iconst X7.here hx rfl (hb hby at_51) ?_
      show Steps p.tables e below (T7.setTop (mkF m 52 #[.val (.int p1), .val (.int (8 : Int32)), .val (.ref (ad 10)), .val (.int (0 : Int32))] [(.int (1 : Int32))])) t
      refine XS.goto X7.here hx rfl (pc0 := 52) (pc' := 56) rfl (hb hby at_52) (by decide) (by decide) ?_
      exact k)
  obtain ⟨fs, hr, hrun, hended, hW, hsame⟩ := X7.leave (v := some (.int (1 : Int32))) (fun h => by rw [Bd.returns] at h; cases h)
  refine ⟨_, _, ch9 _ ?_, hrun, hended, _, _, rfl, ?_, ⟨_, rfl⟩, hW, hsame.mono (by decide) (by decide)⟩
  · show Steps p.tables e below (T7.setTop (mkF m 56 #[.val (.int p1), .val (.int (8 : Int32)), .val (.ref (ad 10)), .val (.int (0 : Int32))] [(.int (1 : Int32))])) _
    exact retN X7 hx (t := .boolean) Bd.returns (by simp) (hb hby at_56) hr
  · show QN (some (.int (1 : Int32))) n0 _ T7.heap _
    rw [e7]
    exact ⟨rfl, N7⟩
theorem own_ef_own_pick_9 (m : MethodId) {x0 : Int32} : entryFrame m #[(.int x0)] 1 = mkF m 0 #[.val (.int x0)] [] := by first | (simp [entryFrame, mkF, argsToLocals, Value.category, maxLocals]; done) | rfl
set_option maxRecDepth 65536 in
set_option maxHeartbeats 40000000 in
theorem own_pick_9 (l : Launch) (Z : State) (a0 : Array Value) (hw : ∀ d ∈ tables_1, d.before a0 Z = true) (ws : List Jvm.Cond) (h0 : Heap) (n0 : Nat) (Z0 : n0 ≤ h0.size) (ad : Nat → Addr) (a_VALUES : Addr) (k_VALUES : ClassId) (W : OwnWd Z h0 ad a_VALUES k_VALUES) :
    MetFree l (⟨"com/example/libsnippet/libsnippet/WordBreak", "ofOrdinal", "(I)Lcom/example/libsnippet/libsnippet/WordBreak;"⟩ : MethodName) (head1 (Jvm.Cond.code (⟨"com/example/libsnippet/libsnippet/WordBreak", "ofOrdinal", "(I)Lcom/example/libsnippet/libsnippet/WordBreak;"⟩ : MethodName) prog_11_method_5_code 1 (some (.object "com/example/libsnippet/libsnippet/WordBreak")) :: ws) ({ frames := 0, cells := 0, slots := 0, locals := 0 } : Room)) (fun a U => a = #[(.int (9 : Int32))] ∧ Z.Warmed39 U.vm ∧ U.heap = h0) (fun _ _ _ _ _ => True) (fun _ U o U' => ∃ v L, o = .returned v ∧ QV (some (.ref (ad 16))) h0 n0 v U'.heap L ∧ FrameEnd U o U' L ({ frames := 0, cells := 0, slots := 0, locals := 0 } : Room).cells ({ frames := 0, cells := 0, slots := 0, locals := 0 } : Room).slots) := by
  refine MetFree.of_bodySF (plainFor_of_name own_pn_com_example_libsnippet_libsnippet_WordBreak) hisR ?_
  intro p e s m args below meth c s₁ Bd hml0 hP hK
  obtain ⟨rfl, hZ, hh⟩ := hP
  have hx := Bd.exec
  have hby := Bd.bytes
  have hml : c.maxLocals = 1 := hml0
  have hown : s.vm.findClass "com/example/libsnippet/libsnippet/WordBreak" = some m.cls := findClass_of_methodNamed Bd.named
  have hnm := (name_of_methodNamed Bd.named Bd.method).1
  have X0 : Stand p l e ({ frames := 0, cells := 0, slots := 0, locals := 0 } : Room) s m #[(.int (9 : Int32))] below meth c s₁ [] 0 0 := Stand.of_body Bd
  have e0 : s₁.heap = h0 := by rw [← hh, Bd.state]; rfl
  have N0 := Fr.nil n0
  have pre0 : ∀ t, Steps p.tables e below (s₁.setTop (mkF m 0 #[.val (.int (9 : Int32))] [])) t → Steps p.tables e below (s₁.setTop (entryFrame m #[(.int (9 : Int32))] 1)) t := fun t k => castTop (own_ef_own_pick_9 m) k
  obtain ⟨T1, X1, e1, st1⟩ := getS2 X0 hx hZ hown (host := "") (Or.inl (hw _ (List.mem_of_getElem? (i := 5) rfl))) Via.refl e0 (own_S_VALUES W) (g := (mkF m 0 #[.val (.int (9 : Int32))] [])) rfl (hb hby own_d_prog_11_method_5_code_0)
  have ch2 : ∀ t, Steps p.tables e below (T1.setTop (mkF m 3 #[.val (.int (9 : Int32))] [(.ref a_VALUES)])) t → Steps p.tables e below (s₁.setTop (entryFrame m #[(.int (9 : Int32))] 1)) t := fun t k => pre0 t (by
      show Steps p.tables e below (s₁.setTop (mkF m 0 #[.val (.int (9 : Int32))] [])) t
      exact st1 t k)
  obtain ⟨cl3, Ar3, -, Sz3, Ng3, Ha3, -⟩ := (own_V_VALUES W)
  have hin3 : ¬ ((9 : Int32) < 0 ∨ cl3.slots.size ≤ ((9 : Int32)).toNatClampNeg) := inb_of Sz3 (by decide)
  have hat3 : cl3.slots[((9 : Int32)).toNatClampNeg]? = some (.ref (ad 16)) := Ha3.at hin3 rfl
  have ch4 : ∀ t, Steps p.tables e below (T1.setTop (mkF m 5 #[.val (.int (9 : Int32))] [(.ref (ad 16))])) t → Steps p.tables e below (s₁.setTop (entryFrame m #[(.int (9 : Int32))] 1)) t := fun t k => ch2 t (by
      show Steps p.tables e below (T1.setTop (mkF m 3 #[.val (.int (9 : Int32))] [(.ref a_VALUES)])) t
      refine XS.iloadN X1.here hx rfl (hb hby own_d_prog_11_method_5_code_3) rfl ?_
      show Steps p.tables e below (T1.setTop (mkF m 4 #[.val (.int (9 : Int32))] [(.int (9 : Int32)), (.ref a_VALUES)])) t
      refine X1.aaload hx (j := (9 : Int32)) (v := (.ref (ad 16))) (by rw [e1]; exact Ar3.1) (State.isArrayOf_alike hZ.alike Ar3.2.1) rfl Ar3.2.2 hin3 hat3 (g := (mkF m 4 #[.val (.int (9 : Int32))] [(.int (9 : Int32)), (.ref a_VALUES)])) rfl rfl (hb hby own_d_prog_11_method_5_code_4) _ ?_
      exact k)
  obtain ⟨fs, hr, hrun, hended, hW, hsame⟩ := X1.leave (v := some (.ref (ad 16))) (fun h => by rw [Bd.returns] at h; cases h)
  refine ⟨_, _, ch4 _ ?_, hrun, hended, _, _, rfl, ?_, ⟨_, rfl⟩, hW, hsame.mono (by decide) (by decide)⟩
  · show Steps p.tables e below (T1.setTop (mkF m 5 #[.val (.int (9 : Int32))] [(.ref (ad 16))])) _
    jvm_step X1.here [X1.here.top, hx, (hb hby own_d_prog_11_method_5_code_5), X1.method', Bd.returns, Value.isRef, FieldType.isReference]
    first | (intro acts; rw [hr _ acts rfl rfl rfl]) | rw [hr _ _ rfl rfl rfl]
    exact Steps.refl _
  · show QV (some (.ref (ad 16))) h0 n0 _ T1.heap _
    rw [e1]
    exact ⟨rfl, N0, rfl⟩
theorem own_ef_own_pred_9 (m : MethodId) {x0 : Addr} : entryFrame m #[(.ref x0)] 1 = mkF m 0 #[.val (.ref x0)] [] := by first | (simp [entryFrame, mkF, argsToLocals, Value.category, maxLocals]; done) | rfl
set_option maxRecDepth 65536 in
set_option maxHeartbeats 40000000 in
theorem own_pred_9 (l : Launch) (Z : State) (a0 : Array Value) (hw : ∀ d ∈ tables_1, d.before a0 Z = true) (ws : List Jvm.Cond) (h0 : Heap) (n0 : Nat) (Z0 : n0 ≤ h0.size) (ad : Nat → Addr) (a_VALUES : Addr) (k_VALUES : ClassId) (W : OwnWd Z h0 ad a_VALUES k_VALUES) :
    MetFree l (⟨"com/example/libsnippet/libsnippet/WordBreak", "isIgnorable", "()Z"⟩ : MethodName) (head1 (Jvm.Cond.code (⟨"com/example/libsnippet/libsnippet/WordBreak", "isIgnorable", "()Z"⟩ : MethodName) prog_11_method_7_code 1 (some .boolean) :: ws) ({ frames := 0, cells := 0, slots := 0, locals := 0 } : Room)) (fun a U => a = #[(.ref (ad 16))] ∧ Z.Warmed39 U.vm ∧ U.heap = h0) (fun _ _ _ _ _ => True) (fun _ U o U' => ∃ v L, o = .returned v ∧ QV (some (.int (0 : Int32))) h0 n0 v U'.heap L ∧ FrameEnd U o U' L ({ frames := 0, cells := 0, slots := 0, locals := 0 } : Room).cells ({ frames := 0, cells := 0, slots := 0, locals := 0 } : Room).slots) := by
  refine MetFree.of_bodySF (plainFor_of_name own_pn_com_example_libsnippet_libsnippet_WordBreak) hisR ?_
  intro p e s m args below meth c s₁ Bd hml0 hP hK
  obtain ⟨rfl, hZ, hh⟩ := hP
  have hx := Bd.exec
  have hby := Bd.bytes
  have hml : c.maxLocals = 1 := hml0
  have hown : s.vm.findClass "com/example/libsnippet/libsnippet/WordBreak" = some m.cls := findClass_of_methodNamed Bd.named
  have hnm := (name_of_methodNamed Bd.named Bd.method).1
  have X0 : Stand p l e ({ frames := 0, cells := 0, slots := 0, locals := 0 } : Room) s m #[(.ref (ad 16))] below meth c s₁ [] 0 0 := Stand.of_body Bd
  have e0 : s₁.heap = h0 := by rw [← hh, Bd.state]; rfl
  have N0 := Fr.nil n0
  have pre0 : ∀ t, Steps p.tables e below (s₁.setTop (mkF m 0 #[.val (.ref (ad 16))] [])) t → Steps p.tables e below (s₁.setTop (entryFrame m #[(.ref (ad 16))] 1)) t := fun t k => castTop (own_ef_own_pred_9 m) k
  obtain ⟨T1, X1, e1, st1⟩ := getS2 X0 hx hZ hown (host := "") (Or.inl (hw _ (List.mem_of_getElem? (i := 22) rfl))) Via.refl e0 (own_S_EXTEND W) (g := (mkF m 1 #[.val (.ref (ad 16))] [(.ref (ad 16))])) rfl (hb hby own_d_prog_11_method_7_code_1)
  have ch2 : ∀ t, Steps p.tables e below (T1.setTop (mkF m 4 #[.val (.ref (ad 16))] [(.ref (ad 1)), (.ref (ad 16))])) t → Steps p.tables e below (s₁.setTop (entryFrame m #[(.ref (ad 16))] 1)) t := fun t k => pre0 t (by
      show Steps p.tables e below (s₁.setTop (mkF m 0 #[.val (.ref (ad 16))] [])) t
      refine XS.aloadN X0.here hx rfl (hb hby own_d_prog_11_method_7_code_0) rfl rfl ?_
      show Steps p.tables e below (s₁.setTop (mkF m 1 #[.val (.ref (ad 16))] [(.ref (ad 16))])) t
      exact st1 t k)
  obtain ⟨T3, X3, e3, st3⟩ := getS2 X1 hx hZ hown (host := "") (Or.inl (hw _ (List.mem_of_getElem? (i := 24) rfl))) Via.refl e1 (own_S_FORMAT W) (g := (mkF m 8 #[.val (.ref (ad 16))] [(.ref (ad 16))])) rfl (hb hby own_d_prog_11_method_7_code_8)
  have ch4 : ∀ t, Steps p.tables e below (T3.setTop (mkF m 11 #[.val (.ref (ad 16))] [(.ref (ad 2)), (.ref (ad 16))])) t → Steps p.tables e below (s₁.setTop (entryFrame m #[(.ref (ad 16))] 1)) t := fun t k => ch2 t (by
      show Steps p.tables e below (T1.setTop (mkF m 4 #[.val (.ref (ad 16))] [(.ref (ad 1)), (.ref (ad 16))])) t
      refine Jvm.RoadKit.acmp (g := (mkF m 4 #[.val (.ref (ad 16))] [(.ref (ad 1)), (.ref (ad 16))])) X1 hx rfl rfl rfl (pc0 := 4) (pc' := 7) (same := false) rfl (hb hby own_d_prog_11_method_7_code_4) rfl (decide_eq_false fun q => (Fld.ne (own_F_HEBREW_LETTER_ordinal W) (own_F_EXTEND_ordinal W) (by decide)) (Value.ref.inj q)) (by decide) (by decide) ?_
      show Steps p.tables e below (T1.setTop (mkF m 7 #[.val (.ref (ad 16))] [])) t
      refine XS.aloadN X1.here hx rfl (hb hby own_d_prog_11_method_7_code_7) rfl rfl ?_
      show Steps p.tables e below (T1.setTop (mkF m 8 #[.val (.ref (ad 16))] [(.ref (ad 16))])) t
      exact st3 t k)
  obtain ⟨T5, X5, e5, st5⟩ := getS2 X3 hx hZ hown (host := "") (Or.inl (hw _ (List.mem_of_getElem? (i := 26) rfl))) Via.refl e3 (own_S_ZWJ W) (g := (mkF m 15 #[.val (.ref (ad 16))] [(.ref (ad 16))])) rfl (hb hby own_d_prog_11_method_7_code_15)
  have ch6 : ∀ t, Steps p.tables e below (T5.setTop (mkF m 18 #[.val (.ref (ad 16))] [(.ref (ad 3)), (.ref (ad 16))])) t → Steps p.tables e below (s₁.setTop (entryFrame m #[(.ref (ad 16))] 1)) t := fun t k => ch4 t (by
      show Steps p.tables e below (T3.setTop (mkF m 11 #[.val (.ref (ad 16))] [(.ref (ad 2)), (.ref (ad 16))])) t
      refine Jvm.RoadKit.acmp (g := (mkF m 11 #[.val (.ref (ad 16))] [(.ref (ad 2)), (.ref (ad 16))])) X3 hx rfl rfl rfl (pc0 := 11) (pc' := 14) (same := false) rfl (hb hby own_d_prog_11_method_7_code_11) rfl (decide_eq_false fun q => (Fld.ne (own_F_HEBREW_LETTER_ordinal W) (own_F_FORMAT_ordinal W) (by decide)) (Value.ref.inj q)) (by decide) (by decide) ?_
      show Steps p.tables e below (T3.setTop (mkF m 14 #[.val (.ref (ad 16))] [])) t
      refine XS.aloadN X3.here hx rfl (hb hby own_d_prog_11_method_7_code_14) rfl rfl ?_
      show Steps p.tables e below (T3.setTop (mkF m 15 #[.val (.ref (ad 16))] [(.ref (ad 16))])) t
      exact st5 t k)
  have ch7 : ∀ t, Steps p.tables e below (T5.setTop (mkF m 26 #[.val (.ref (ad 16))] [(.int (0 : Int32))])) t → Steps p.tables e below (s₁.setTop (entryFrame m #[(.ref (ad 16))] 1)) t := fun t k => ch6 t (by
      show Steps p.tables e below (T5.setTop (mkF m 18 #[.val (.ref (ad 16))] [(.ref (ad 3)), (.ref (ad 16))])) t
      refine Jvm.RoadKit.acmp (g := (mkF m 18 #[.val (.ref (ad 16))] [(.ref (ad 3)), (.ref (ad 16))])) X5 hx rfl rfl rfl (pc0 := 18) (pc' := 25) (same := false) rfl (hb hby own_d_prog_11_method_7_code_18) rfl (decide_eq_false fun q => (Fld.ne (own_F_HEBREW_LETTER_ordinal W) (own_F_ZWJ_ordinal W) (by decide)) (Value.ref.inj q)) (by decide) (by decide) ?_
      show Steps p.tables e below (T5.setTop (mkF m 25 #[.val (.ref (ad 16))] [])) t
      refine XS.iconst X5.here hx rfl (hb hby own_d_prog_11_method_7_code_25) ?_
      exact k)
  obtain ⟨fs, hr, hrun, hended, hW, hsame⟩ := X5.leave (v := some (.int (0 : Int32))) (fun h => by rw [Bd.returns] at h; cases h)
  refine ⟨_, _, ch7 _ ?_, hrun, hended, _, _, rfl, ?_, ⟨_, rfl⟩, hW, hsame.mono (by decide) (by decide)⟩
  · show Steps p.tables e below (T5.setTop (mkF m 26 #[.val (.ref (ad 16))] [(.int (0 : Int32))])) _
    exact retN X5 hx (t := .boolean) Bd.returns (by simp) (hb hby own_d_prog_11_method_7_code_26) hr
  · show QV (some (.int (0 : Int32))) h0 n0 _ T5.heap _
    rw [e5]
    exact ⟨rfl, N0, rfl⟩
theorem own_ef_own_ordi_9 (m : MethodId) {x0 : Addr} : entryFrame m #[(.ref x0)] 1 = mkF m 0 #[.val (.ref x0)] [] := by first | (simp [entryFrame, mkF, argsToLocals, Value.category, maxLocals]; done) | rfl
set_option maxRecDepth 65536 in
set_option maxHeartbeats 40000000 in
theorem own_ordi_9 (l : Launch) (Z : State) (a0 : Array Value) (hw : ∀ d ∈ tables_1, d.before a0 Z = true) (ws : List Jvm.Cond) (h0 : Heap) (n0 : Nat) (Z0 : n0 ≤ h0.size) (ad : Nat → Addr) (a_VALUES : Addr) (k_VALUES : ClassId) (W : OwnWd Z h0 ad a_VALUES k_VALUES) :
    MetFree l (⟨"java/lang/Enum", "ordinal", "()I"⟩ : MethodName) (head1 (Jvm.Cond.code (⟨"java/lang/Enum", "ordinal", "()I"⟩ : MethodName) jdk_37_method_2_code 1 (some .int) :: ws) ({ frames := 0, cells := 0, slots := 0, locals := 0 } : Room)) (fun a U => a = #[(.ref (ad 16))] ∧ Z.Warmed39 U.vm ∧ U.heap = h0) (fun _ _ _ _ _ => True) (fun _ U o U' => ∃ v L, o = .returned v ∧ QV (some (.int (9 : Int32))) h0 n0 v U'.heap L ∧ FrameEnd U o U' L ({ frames := 0, cells := 0, slots := 0, locals := 0 } : Room).cells ({ frames := 0, cells := 0, slots := 0, locals := 0 } : Room).slots) := by
  refine MetFree.of_bodySF (plainFor_of_name own_pn_java_lang_Enum) hisR ?_
  intro p e s m args below meth c s₁ Bd hml0 hP hK
  obtain ⟨rfl, hZ, hh⟩ := hP
  have hx := Bd.exec
  have hby := Bd.bytes
  have hml : c.maxLocals = 1 := hml0
  have hown : s.vm.findClass "java/lang/Enum" = some m.cls := findClass_of_methodNamed Bd.named
  have hnm := (name_of_methodNamed Bd.named Bd.method).1
  have X0 : Stand p l e ({ frames := 0, cells := 0, slots := 0, locals := 0 } : Room) s m #[(.ref (ad 16))] below meth c s₁ [] 0 0 := Stand.of_body Bd
  have e0 : s₁.heap = h0 := by rw [← hh, Bd.state]; rfl
  have N0 := Fr.nil n0
  have pre0 : ∀ t, Steps p.tables e below (s₁.setTop (mkF m 0 #[.val (.ref (ad 16))] [])) t → Steps p.tables e below (s₁.setTop (entryFrame m #[(.ref (ad 16))] 1)) t := fun t k => castTop (own_ef_own_ordi_9 m) k
  obtain ⟨T1, X1, e1, st1⟩ := getF X0 hx hZ hown (host := "") (Or.inl (hw _ (List.mem_of_getElem? (i := 15) rfl))) Via.refl e0 (own_F_HEBREW_LETTER_ordinal W) (g := (mkF m 1 #[.val (.ref (ad 16))] [(.ref (ad 16))])) rfl rfl (hb hby own_d_jdk_37_method_2_code_1)
  have ch2 : ∀ t, Steps p.tables e below (T1.setTop (mkF m 4 #[.val (.ref (ad 16))] [(.int (9 : Int32))])) t → Steps p.tables e below (s₁.setTop (entryFrame m #[(.ref (ad 16))] 1)) t := fun t k => pre0 t (by
      show Steps p.tables e below (s₁.setTop (mkF m 0 #[.val (.ref (ad 16))] [])) t
      refine XS.aloadN X0.here hx rfl (hb hby own_d_jdk_37_method_2_code_0) rfl rfl ?_
      show Steps p.tables e below (s₁.setTop (mkF m 1 #[.val (.ref (ad 16))] [(.ref (ad 16))])) t
      exact st1 t k)
  obtain ⟨fs, hr, hrun, hended, hW, hsame⟩ := X1.leave (v := some (.int (9 : Int32))) (fun h => by rw [Bd.returns] at h; cases h)
  refine ⟨_, _, ch2 _ ?_, hrun, hended, _, _, rfl, ?_, ⟨_, rfl⟩, hW, hsame.mono (by decide) (by decide)⟩
  · show Steps p.tables e below (T1.setTop (mkF m 4 #[.val (.ref (ad 16))] [(.int (9 : Int32))])) _
    exact retI X1 hx Bd.returns (hb hby own_d_jdk_37_method_2_code_4) hr
  · show QV (some (.int (9 : Int32))) h0 n0 _ T1.heap _
    rw [e1]
    exact ⟨rfl, N0, rfl⟩
theorem own_ef_own_law_9 (m : MethodId) {x0 : Int32} : entryFrame m #[(.int x0)] maxLocals = mkF m 0 #[.val (.int x0), .unset, .unset, .unset] [] := by first | (simp [entryFrame, mkF, argsToLocals, Value.category, maxLocals]; done) | rfl
set_option maxRecDepth 65536 in
set_option maxHeartbeats 40000000 in
theorem own_law_9 (l : Launch) (Z : State) (a0 : Array Value) (hw : ∀ d ∈ tables_1, d.before a0 Z = true) (ws : List Jvm.Cond) (h0 : Heap) (n0 : Nat) (Z0 : n0 ≤ h0.size) (p1 : Int32) (hk : (p1 &&& (2147483647 : Int32)) % (19 : Int32) = (9 : Int32)) (ad : Nat → Addr) (a_VALUES : Addr) (k_VALUES : ClassId) (W : OwnWd Z h0 ad a_VALUES k_VALUES) :
    MetFree l x (head1 (Jvm.Cond.code x code maxLocals ret :: ws) room_1) (fun a U => a = #[(.int p1)] ∧ Z.Warmed39 U.vm ∧ U.heap = h0) (fun _ _ _ _ _ => True) (fun _ U o U' => ∃ v L, o = .returned v ∧ QN (some (.int (1 : Int32))) n0 v U'.heap L ∧ FrameEnd U o U' L room_1.cells room_1.slots) := by
  refine MetFree.of_bodySF (plainFor_of_name own_pn_com_example_libsnippet_libsnippet_WordBreakIsIgnorablePinLaw) hisR ?_
  intro p e s m args below meth c s₁ Bd hml0 hP hK
  obtain ⟨rfl, hZ, hh⟩ := hP
  have hx := Bd.exec
  have hby := Bd.bytes
  have hml : c.maxLocals = 4 := hml0
  have hown : s.vm.findClass "com/example/libsnippet/libsnippet/WordBreakIsIgnorablePinLaw" = some m.cls := findClass_of_methodNamed Bd.named
  have hnm := (name_of_methodNamed Bd.named Bd.method).1
  have X0 : Stand p l e room_1 s m #[(.int p1)] below meth c s₁ [] 0 0 := Stand.of_body Bd
  have e0 : s₁.heap = h0 := by rw [← hh, Bd.state]; rfl
  have N0 := Fr.nil n0
  have pre0 : ∀ t, Steps p.tables e below (s₁.setTop (mkF m 0 #[.val (.int p1), .unset, .unset, .unset] [])) t → Steps p.tables e below (s₁.setTop (entryFrame m #[(.int p1)] maxLocals)) t := fun t k => castTop (own_ef_own_law_9 m) k
  obtain ⟨vv1, _, ⟨T1, L1, kk1, nn1⟩, -, X1, ⟨Lc1, hQ1, l1, y1, z1⟩, st1⟩ := Jvm.LawKit.callS X0 hx (y := (⟨"com/example/libsnippet/libsnippet/WordBreak", "ofOrdinal", "(I)Lcom/example/libsnippet/libsnippet/WordBreak;"⟩ : MethodName)) hown (mvT hZ (hw _ (List.mem_of_getElem? (i := 1) rfl))) (mvT hZ (hw _ (List.mem_of_getElem? (i := 2) rfl))) (mvT hZ (hw _ (List.mem_of_getElem? (i := 3) rfl))) (mvT hZ (hw _ (List.mem_of_getElem? (i := 4) rfl))) (by decide) (backOf (W := 0) (own_pick_9 l Z a0 hw [] h0 n0 Z0 ad a_VALUES k_VALUES W) hZ (hw _ (List.mem_of_getElem? (i := 4) rfl)) (hw _ (List.mem_of_getElem? (i := 3) rfl)) (by decide) (by decide)) (g := (mkF m 9 #[.val (.int p1), .val (.int (9 : Int32)), .unset, .unset] [(.int (9 : Int32))])) rfl (by rw [hml]; rfl) (argsL := [(.int (9 : Int32))]) (rest := []) (lenOf own_pd__I_Lcom_example_libsnippet_libsnippet_WordBreak_ rfl) rfl (by show 2 * 0 + _ ≤ _; exact Nat.le_of_eq rfl) (hb hby at_9) (fun _ _ => ⟨rfl, e0, (by decide : 0 + 0 ≤ _), (by decide : 0 + 0 ≤ _)⟩)
  dsimp only [Pt.U, Pt.locs, Pt.cells, Pt.slots] at X1 l1 y1 z1 st1 hQ1
  subst l1 y1 z1
  obtain ⟨rfl, Nq1, e1⟩ := hQ1
  have N1 := Fr.app N0 Nq1
  have ch2 : ∀ t, Steps p.tables e below (T1.setTop (mkF m 12 #[.val (.int p1), .val (.int (9 : Int32)), .unset, .unset] [(.ref (ad 16))])) t → Steps p.tables e below (s₁.setTop (entryFrame m #[(.int p1)] maxLocals)) t := fun t k => pre0 t (by
      show Steps p.tables e below (s₁.setTop (mkF m 0 #[.val (.int p1), .unset, .unset, .unset] [])) t
      refine XS.iloadN X0.here hx rfl (hb hby at_0) rfl ?_
      show Steps p.tables e below (s₁.setTop (mkF m 1 #[.val (.int p1), .unset, .unset, .unset] [(.int p1)])) t
      refine X0.ldcInt hx hown (mvT hZ (hw _ (List.mem_of_getElem? (i := 0) rfl))) (g := (mkF m 1 #[.val (.int p1), .unset, .unset, .unset] [(.int p1)])) rfl (hb hby at_1) _ ?_
      show Steps p.tables e below (s₁.setTop (mkF m 3 #[.val (.int p1), .unset, .unset, .unset] [(.int (2147483647 : Int32)), (.int p1)])) t
      refine XS.iand X0.here hx rfl (hb hby at_3) rfl ?_
      show Steps p.tables e below (s₁.setTop (mkF m 4 #[.val (.int p1), .unset, .unset, .unset] [(.int (p1 &&& (2147483647 : Int32)))])) t
      refine XS.bipush X0.here hx rfl (hb hby at_4) ?_
      show Steps p.tables e below (s₁.setTop (mkF m 6 #[.val (.int p1), .unset, .unset, .unset] [(.int (19 : Int32)), (.int (p1 &&& (2147483647 : Int32)))])) t
      refine Jvm.RoadKit.iremM (g := (mkF m 6 #[.val (.int p1), .unset, .unset, .unset] [(.int (19 : Int32)), (.int (p1 &&& (2147483647 : Int32)))])) X0 hx rfl (hb hby at_6) rfl (by decide) ?_
      rw [hk]
      show Steps p.tables e below (s₁.setTop (mkF m 7 #[.val (.int p1), .unset, .unset, .unset] [(.int (9 : Int32))])) t
      refine XS.istoreN X0.here hx rfl (hb hby at_7) rfl (l' := #[.val (.int p1), .val (.int (9 : Int32)), .unset, .unset]) rfl ?_
      show Steps p.tables e below (s₁.setTop (mkF m 8 #[.val (.int p1), .val (.int (9 : Int32)), .unset, .unset] [])) t
      refine XS.iloadN X0.here hx rfl (hb hby at_8) rfl ?_
      show Steps p.tables e below (s₁.setTop (mkF m 9 #[.val (.int p1), .val (.int (9 : Int32)), .unset, .unset] [(.int (9 : Int32))])) t
      exact st1 t k)
  obtain ⟨cq3, kq3, qa3, qb3, qc3⟩ := isOf hZ e1 (own_E_HEBREW_LETTER W)
  obtain ⟨vv4, _, ⟨T4, L4, kk4, nn4⟩, -, X4, ⟨Lc4, hQ4, l4, y4, z4⟩, st4⟩ := X1.virtualBackUp hx (x := (⟨"com/example/libsnippet/libsnippet/WordBreak", "ordinal", "()I"⟩ : MethodName)) (y := (⟨"java/lang/Enum", "ordinal", "()I"⟩ : MethodName)) (owner := "java/lang/Enum") hown (mvT hZ (hw _ (List.mem_of_getElem? (i := 8) rfl))) (mvT hZ (hw _ (List.mem_of_getElem? (i := 9) rfl))) (mvT hZ (hw _ (List.mem_of_getElem? (i := 10) rfl))) (by decide) (mvT hZ (hw _ (List.mem_of_getElem? (i := 12) rfl))) (mvT hZ (hw _ (List.mem_of_getElem? (i := 11) rfl))) (backOf (W := 0) (own_ordi_9 l Z a0 hw [] h0 n0 Z0 ad a_VALUES k_VALUES W) hZ (hw _ (List.mem_of_getElem? (i := 14) rfl)) (hw _ (List.mem_of_getElem? (i := 13) rfl)) (by decide) (by decide)) qa3 qc3 (g := (mkF m 36 #[.val (.int p1), .val (.int (9 : Int32)), .val (.ref (ad 16)), .val (.int (0 : Int32))] [(.ref (ad 16))])) rfl (by rw [hml]; rfl) (Steps.refl _) (argsL := []) (rest := []) (lenOf own_pd___I rfl) rfl (by show 2 * 0 + _ ≤ _; exact Nat.le_of_eq rfl) (hb hby at_36) (fun _ _ => ⟨rfl, e1, (by decide : 0 + 0 ≤ _), (by decide : 0 + 0 ≤ _)⟩)
  dsimp only [Pt.U, Pt.locs, Pt.cells, Pt.slots] at X4 l4 y4 z4 st4 hQ4
  subst l4 y4 z4
  obtain ⟨rfl, Nq4, e4⟩ := hQ4
  have N4 := Fr.app N1 Nq4
  have ch5 : ∀ t, Steps p.tables e below (T4.setTop (mkF m 39 #[.val (.int p1), .val (.int (9 : Int32)), .val (.ref (ad 16)), .val (.int (0 : Int32))] [(.int (9 : Int32))])) t → Steps p.tables e below (s₁.setTop (entryFrame m #[(.int p1)] maxLocals)) t := fun t k => ch2 t (by
      show Steps p.tables e below (T1.setTop (mkF m 12 #[.val (.int p1), .val (.int (9 : Int32)), .unset, .unset] [(.ref (ad 16))])) t
      refine XS.astoreN X1.here hx rfl (hb hby at_12) rfl rfl (l' := #[.val (.int p1), .val (.int (9 : Int32)), .val (.ref (ad 16)), .unset]) rfl ?_
      show Steps p.tables e below (T1.setTop (mkF m 13 #[.val (.int p1), .val (.int (9 : Int32)), .val (.ref (ad 16)), .unset] [])) t
      refine XS.iloadN X1.here hx rfl (hb hby at_13) rfl ?_
      show Steps p.tables e below (T1.setTop (mkF m 14 #[.val (.int p1), .val (.int (9 : Int32)), .val (.ref (ad 16)), .unset] [(.int (9 : Int32))])) t
      refine XS.iconst X1.here hx rfl (hb hby at_14) ?_
      show Steps p.tables e below (T1.setTop (mkF m 15 #[.val (.int p1), .val (.int (9 : Int32)), .val (.ref (ad 16)), .unset] [(.int (4 : Int32)), (.int (9 : Int32))])) t
      refine XS.icmpNo X1.here hx rfl (hb hby at_15) rfl (feq (by decide : ¬ (9 : Int32) = (4 : Int32))).1 ?_
      show Steps p.tables e below (T1.setTop (mkF m 18 #[.val (.int p1), .val (.int (9 : Int32)), .val (.ref (ad 16)), .unset] [])) t
      refine XS.iloadN X1.here hx rfl (hb hby at_18) rfl ?_
      show Steps p.tables e below (T1.setTop (mkF m 19 #[.val (.int p1), .val (.int (9 : Int32)), .val (.ref (ad 16)), .unset] [(.int (9 : Int32))])) t
      refine XS.iconst X1.here hx rfl (hb hby at_19) ?_
      show Steps p.tables e below (T1.setTop (mkF m 20 #[.val (.int p1), .val (.int (9 : Int32)), .val (.ref (ad 16)), .unset] [(.int (5 : Int32)), (.int (9 : Int32))])) t
      refine XS.icmpNo X1.here hx rfl (hb hby at_20) rfl (feq (by decide : ¬ (9 : Int32) = (5 : Int32))).1 ?_
      show Steps p.tables e below (T1.setTop (mkF m 23 #[.val (.int p1), .val (.int (9 : Int32)), .val (.ref (ad 16)), .unset] [])) t
      refine XS.iloadN X1.here hx rfl (hb hby at_23) rfl ?_
      show Steps p.tables e below (T1.setTop (mkF m 24 #[.val (.int p1), .val (.int (9 : Int32)), .val (.ref (ad 16)), .unset] [(.int (9 : Int32))])) t
      refine XS.bipush X1.here hx rfl (hb hby at_24) ?_
      show Steps p.tables e below (T1.setTop (mkF m 26 #[.val (.int p1), .val (.int (9 : Int32)), .val (.ref (ad 16)), .unset] [(.int (7 : Int32)), (.int (9 : Int32))])) t
      refine XS.icmpYes X1.here hx rfl (pc0 := 26) (pc' := 33) rfl (hb hby at_26) rfl (feq (by decide : ¬ (9 : Int32) = (7 : Int32))).2 (by decide) (by decide) ?_
      show Steps p.tables e below (T1.setTop (mkF m 33 #[.val (.int p1), .val (.int (9 : Int32)), .val (.ref (ad 16)), .unset] [])) t
      refine XS.iconst X1.here hx rfl (hb hby at_33) ?_
      show Steps p.tables e below (T1.setTop (mkF m 34 #[.val (.int p1), .val (.int (9 : Int32)), .val (.ref (ad 16)), .unset] [(.int (0 : Int32))])) t
      refine XS.istoreN X1.here hx rfl (hb hby at_34) rfl (l' := #[.val (.int p1), .val (.int (9 : Int32)), .val (.ref (ad 16)), .val (.int (0 : Int32))]) rfl ?_
      show Steps p.tables e below (T1.setTop (mkF m 35 #[.val (.int p1), .val (.int (9 : Int32)), .val (.ref (ad 16)), .val (.int (0 : Int32))] [])) t
      refine XS.aloadN X1.here hx rfl (hb hby at_35) rfl rfl ?_
      show Steps p.tables e below (T1.setTop (mkF m 36 #[.val (.int p1), .val (.int (9 : Int32)), .val (.ref (ad 16)), .val (.int (0 : Int32))] [(.ref (ad 16))])) t
      exact st4.trans k)
  obtain ⟨cq6, kq6, qa6, qb6, qc6⟩ := isOf hZ e4 (own_E_HEBREW_LETTER W)
  obtain ⟨vv7, _, ⟨T7, L7, kk7, nn7⟩, -, X7, ⟨Lc7, hQ7, l7, y7, z7⟩, st7⟩ := X4.virtualBack hx (y := (⟨"com/example/libsnippet/libsnippet/WordBreak", "isIgnorable", "()Z"⟩ : MethodName)) (z := (⟨"com/example/libsnippet/libsnippet/WordBreak", "isIgnorable", "()Z"⟩ : MethodName)) hown (mvT hZ (hw _ (List.mem_of_getElem? (i := 17) rfl))) (mvT hZ (hw _ (List.mem_of_getElem? (i := 18) rfl))) (notFace_of_selects (args := #[]) (mvT hZ (hw _ (List.mem_of_getElem? (i := 20) rfl)))) (mvT hZ (hw _ (List.mem_of_getElem? (i := 20) rfl))) (mvT hZ (hw _ (List.mem_of_getElem? (i := 19) rfl))) (by decide) (backOf (W := 0) (own_pred_9 l Z a0 hw [] h0 n0 Z0 ad a_VALUES k_VALUES W) hZ (hw _ (List.mem_of_getElem? (i := 21) rfl)) (hw _ (List.mem_of_getElem? (i := 3) rfl)) (by decide) (by decide)) qa6 qc6 (g := (mkF m 44 #[.val (.int p1), .val (.int (9 : Int32)), .val (.ref (ad 16)), .val (.int (0 : Int32))] [(.ref (ad 16))])) rfl (by rw [hml]; rfl) (Steps.refl _) (argsL := []) (rest := []) (lenOf own_pd___Z rfl) rfl (by show 2 * 0 + _ ≤ _; exact Nat.le_of_eq rfl) (hb hby at_44) (fun _ _ => ⟨rfl, e4, (by decide : 0 + 0 ≤ _), (by decide : 0 + 0 ≤ _)⟩)
  dsimp only [Pt.U, Pt.locs, Pt.cells, Pt.slots] at X7 l7 y7 z7 st7 hQ7
  subst l7 y7 z7
  obtain ⟨rfl, Nq7, e7⟩ := hQ7
  have N7 := Fr.app N4 Nq7
  have ch8 : ∀ t, Steps p.tables e below (T7.setTop (mkF m 47 #[.val (.int p1), .val (.int (9 : Int32)), .val (.ref (ad 16)), .val (.int (0 : Int32))] [(.int (0 : Int32))])) t → Steps p.tables e below (s₁.setTop (entryFrame m #[(.int p1)] maxLocals)) t := fun t k => ch5 t (by
      show Steps p.tables e below (T4.setTop (mkF m 39 #[.val (.int p1), .val (.int (9 : Int32)), .val (.ref (ad 16)), .val (.int (0 : Int32))] [(.int (9 : Int32))])) t
      refine XS.iloadN X4.here hx rfl (hb hby at_39) rfl ?_
      show Steps p.tables e below (T4.setTop (mkF m 40 #[.val (.int p1), .val (.int (9 : Int32)), .val (.ref (ad 16)), .val (.int (0 : Int32))] [(.int (9 : Int32)), (.int (9 : Int32))])) t
      refine XS.icmpNo X4.here hx rfl (hb hby at_40) rfl (teq (by decide : (9 : Int32) = (9 : Int32))).2 ?_
      show Steps p.tables e below (T4.setTop (mkF m 43 #[.val (.int p1), .val (.int (9 : Int32)), .val (.ref (ad 16)), .val (.int (0 : Int32))] [])) t
      refine XS.aloadN X4.here hx rfl (hb hby at_43) rfl rfl ?_
      show Steps p.tables e below (T4.setTop (mkF m 44 #[.val (.int p1), .val (.int (9 : Int32)), .val (.ref (ad 16)), .val (.int (0 : Int32))] [(.ref (ad 16))])) t
      exact st7.trans k)
  have ch9 : ∀ t, Steps p.tables e below (T7.setTop (mkF m 56 #[.val (.int p1), .val (.int (9 : Int32)), .val (.ref (ad 16)), .val (.int (0 : Int32))] [(.int (1 : Int32))])) t → Steps p.tables e below (s₁.setTop (entryFrame m #[(.int p1)] maxLocals)) t := fun t k => ch8 t (by
      show Steps p.tables e below (T7.setTop (mkF m 47 #[.val (.int p1), .val (.int (9 : Int32)), .val (.ref (ad 16)), .val (.int (0 : Int32))] [(.int (0 : Int32))])) t
      refine XS.iloadN X7.here hx rfl (hb hby at_47) rfl ?_
      show Steps p.tables e below (T7.setTop (mkF m 48 #[.val (.int p1), .val (.int (9 : Int32)), .val (.ref (ad 16)), .val (.int (0 : Int32))] [(.int (0 : Int32)), (.int (0 : Int32))])) t
      refine XS.icmpNo X7.here hx rfl (hb hby at_48) rfl (teq (by decide : (0 : Int32) = (0 : Int32))).2 ?_
      show Steps p.tables e below (T7.setTop (mkF m 51 #[.val (.int p1), .val (.int (9 : Int32)), .val (.ref (ad 16)), .val (.int (0 : Int32))] [])) t
      refine XS.iconst X7.here hx rfl (hb hby at_51) ?_
      show Steps p.tables e below (T7.setTop (mkF m 52 #[.val (.int p1), .val (.int (9 : Int32)), .val (.ref (ad 16)), .val (.int (0 : Int32))] [(.int (1 : Int32))])) t
      refine XS.goto X7.here hx rfl (pc0 := 52) (pc' := 56) rfl (hb hby at_52) (by decide) (by decide) ?_
      exact k)
  obtain ⟨fs, hr, hrun, hended, hW, hsame⟩ := X7.leave (v := some (.int (1 : Int32))) (fun h => by rw [Bd.returns] at h; cases h)
  refine ⟨_, _, ch9 _ ?_, hrun, hended, _, _, rfl, ?_, ⟨_, rfl⟩, hW, hsame.mono (by decide) (by decide)⟩
  · show Steps p.tables e below (T7.setTop (mkF m 56 #[.val (.int p1), .val (.int (9 : Int32)), .val (.ref (ad 16)), .val (.int (0 : Int32))] [(.int (1 : Int32))])) _
    exact retN X7 hx (t := .boolean) Bd.returns (by simp) (hb hby at_56) hr
  · show QN (some (.int (1 : Int32))) n0 _ T7.heap _
    rw [e7]
    exact ⟨rfl, N7⟩
theorem own_ef_own_pick_10 (m : MethodId) {x0 : Int32} : entryFrame m #[(.int x0)] 1 = mkF m 0 #[.val (.int x0)] [] := by first | (simp [entryFrame, mkF, argsToLocals, Value.category, maxLocals]; done) | rfl
set_option maxRecDepth 65536 in
set_option maxHeartbeats 40000000 in
theorem own_pick_10 (l : Launch) (Z : State) (a0 : Array Value) (hw : ∀ d ∈ tables_1, d.before a0 Z = true) (ws : List Jvm.Cond) (h0 : Heap) (n0 : Nat) (Z0 : n0 ≤ h0.size) (ad : Nat → Addr) (a_VALUES : Addr) (k_VALUES : ClassId) (W : OwnWd Z h0 ad a_VALUES k_VALUES) :
    MetFree l (⟨"com/example/libsnippet/libsnippet/WordBreak", "ofOrdinal", "(I)Lcom/example/libsnippet/libsnippet/WordBreak;"⟩ : MethodName) (head1 (Jvm.Cond.code (⟨"com/example/libsnippet/libsnippet/WordBreak", "ofOrdinal", "(I)Lcom/example/libsnippet/libsnippet/WordBreak;"⟩ : MethodName) prog_11_method_5_code 1 (some (.object "com/example/libsnippet/libsnippet/WordBreak")) :: ws) ({ frames := 0, cells := 0, slots := 0, locals := 0 } : Room)) (fun a U => a = #[(.int (10 : Int32))] ∧ Z.Warmed39 U.vm ∧ U.heap = h0) (fun _ _ _ _ _ => True) (fun _ U o U' => ∃ v L, o = .returned v ∧ QV (some (.ref (ad 9))) h0 n0 v U'.heap L ∧ FrameEnd U o U' L ({ frames := 0, cells := 0, slots := 0, locals := 0 } : Room).cells ({ frames := 0, cells := 0, slots := 0, locals := 0 } : Room).slots) := by
  refine MetFree.of_bodySF (plainFor_of_name own_pn_com_example_libsnippet_libsnippet_WordBreak) hisR ?_
  intro p e s m args below meth c s₁ Bd hml0 hP hK
  obtain ⟨rfl, hZ, hh⟩ := hP
  have hx := Bd.exec
  have hby := Bd.bytes
  have hml : c.maxLocals = 1 := hml0
  have hown : s.vm.findClass "com/example/libsnippet/libsnippet/WordBreak" = some m.cls := findClass_of_methodNamed Bd.named
  have hnm := (name_of_methodNamed Bd.named Bd.method).1
  have X0 : Stand p l e ({ frames := 0, cells := 0, slots := 0, locals := 0 } : Room) s m #[(.int (10 : Int32))] below meth c s₁ [] 0 0 := Stand.of_body Bd
  have e0 : s₁.heap = h0 := by rw [← hh, Bd.state]; rfl
  have N0 := Fr.nil n0
  have pre0 : ∀ t, Steps p.tables e below (s₁.setTop (mkF m 0 #[.val (.int (10 : Int32))] [])) t → Steps p.tables e below (s₁.setTop (entryFrame m #[(.int (10 : Int32))] 1)) t := fun t k => castTop (own_ef_own_pick_10 m) k
  obtain ⟨T1, X1, e1, st1⟩ := getS2 X0 hx hZ hown (host := "") (Or.inl (hw _ (List.mem_of_getElem? (i := 5) rfl))) Via.refl e0 (own_S_VALUES W) (g := (mkF m 0 #[.val (.int (10 : Int32))] [])) rfl (hb hby own_d_prog_11_method_5_code_0)
  have ch2 : ∀ t, Steps p.tables e below (T1.setTop (mkF m 3 #[.val (.int (10 : Int32))] [(.ref a_VALUES)])) t → Steps p.tables e below (s₁.setTop (entryFrame m #[(.int (10 : Int32))] 1)) t := fun t k => pre0 t (by
      show Steps p.tables e below (s₁.setTop (mkF m 0 #[.val (.int (10 : Int32))] [])) t
      exact st1 t k)
  obtain ⟨cl3, Ar3, -, Sz3, Ng3, Ha3, -⟩ := (own_V_VALUES W)
  have hin3 : ¬ ((10 : Int32) < 0 ∨ cl3.slots.size ≤ ((10 : Int32)).toNatClampNeg) := inb_of Sz3 (by decide)
  have hat3 : cl3.slots[((10 : Int32)).toNatClampNeg]? = some (.ref (ad 9)) := Ha3.at hin3 rfl
  have ch4 : ∀ t, Steps p.tables e below (T1.setTop (mkF m 5 #[.val (.int (10 : Int32))] [(.ref (ad 9))])) t → Steps p.tables e below (s₁.setTop (entryFrame m #[(.int (10 : Int32))] 1)) t := fun t k => ch2 t (by
      show Steps p.tables e below (T1.setTop (mkF m 3 #[.val (.int (10 : Int32))] [(.ref a_VALUES)])) t
      refine XS.iloadN X1.here hx rfl (hb hby own_d_prog_11_method_5_code_3) rfl ?_
      show Steps p.tables e below (T1.setTop (mkF m 4 #[.val (.int (10 : Int32))] [(.int (10 : Int32)), (.ref a_VALUES)])) t
      refine X1.aaload hx (j := (10 : Int32)) (v := (.ref (ad 9))) (by rw [e1]; exact Ar3.1) (State.isArrayOf_alike hZ.alike Ar3.2.1) rfl Ar3.2.2 hin3 hat3 (g := (mkF m 4 #[.val (.int (10 : Int32))] [(.int (10 : Int32)), (.ref a_VALUES)])) rfl rfl (hb hby own_d_prog_11_method_5_code_4) _ ?_
      exact k)
  obtain ⟨fs, hr, hrun, hended, hW, hsame⟩ := X1.leave (v := some (.ref (ad 9))) (fun h => by rw [Bd.returns] at h; cases h)
  refine ⟨_, _, ch4 _ ?_, hrun, hended, _, _, rfl, ?_, ⟨_, rfl⟩, hW, hsame.mono (by decide) (by decide)⟩
  · show Steps p.tables e below (T1.setTop (mkF m 5 #[.val (.int (10 : Int32))] [(.ref (ad 9))])) _
    jvm_step X1.here [X1.here.top, hx, (hb hby own_d_prog_11_method_5_code_5), X1.method', Bd.returns, Value.isRef, FieldType.isReference]
    first | (intro acts; rw [hr _ acts rfl rfl rfl]) | rw [hr _ _ rfl rfl rfl]
    exact Steps.refl _
  · show QV (some (.ref (ad 9))) h0 n0 _ T1.heap _
    rw [e1]
    exact ⟨rfl, N0, rfl⟩
theorem own_ef_own_pred_10 (m : MethodId) {x0 : Addr} : entryFrame m #[(.ref x0)] 1 = mkF m 0 #[.val (.ref x0)] [] := by first | (simp [entryFrame, mkF, argsToLocals, Value.category, maxLocals]; done) | rfl
set_option maxRecDepth 65536 in
set_option maxHeartbeats 40000000 in
theorem own_pred_10 (l : Launch) (Z : State) (a0 : Array Value) (hw : ∀ d ∈ tables_1, d.before a0 Z = true) (ws : List Jvm.Cond) (h0 : Heap) (n0 : Nat) (Z0 : n0 ≤ h0.size) (ad : Nat → Addr) (a_VALUES : Addr) (k_VALUES : ClassId) (W : OwnWd Z h0 ad a_VALUES k_VALUES) :
    MetFree l (⟨"com/example/libsnippet/libsnippet/WordBreak", "isIgnorable", "()Z"⟩ : MethodName) (head1 (Jvm.Cond.code (⟨"com/example/libsnippet/libsnippet/WordBreak", "isIgnorable", "()Z"⟩ : MethodName) prog_11_method_7_code 1 (some .boolean) :: ws) ({ frames := 0, cells := 0, slots := 0, locals := 0 } : Room)) (fun a U => a = #[(.ref (ad 9))] ∧ Z.Warmed39 U.vm ∧ U.heap = h0) (fun _ _ _ _ _ => True) (fun _ U o U' => ∃ v L, o = .returned v ∧ QV (some (.int (0 : Int32))) h0 n0 v U'.heap L ∧ FrameEnd U o U' L ({ frames := 0, cells := 0, slots := 0, locals := 0 } : Room).cells ({ frames := 0, cells := 0, slots := 0, locals := 0 } : Room).slots) := by
  refine MetFree.of_bodySF (plainFor_of_name own_pn_com_example_libsnippet_libsnippet_WordBreak) hisR ?_
  intro p e s m args below meth c s₁ Bd hml0 hP hK
  obtain ⟨rfl, hZ, hh⟩ := hP
  have hx := Bd.exec
  have hby := Bd.bytes
  have hml : c.maxLocals = 1 := hml0
  have hown : s.vm.findClass "com/example/libsnippet/libsnippet/WordBreak" = some m.cls := findClass_of_methodNamed Bd.named
  have hnm := (name_of_methodNamed Bd.named Bd.method).1
  have X0 : Stand p l e ({ frames := 0, cells := 0, slots := 0, locals := 0 } : Room) s m #[(.ref (ad 9))] below meth c s₁ [] 0 0 := Stand.of_body Bd
  have e0 : s₁.heap = h0 := by rw [← hh, Bd.state]; rfl
  have N0 := Fr.nil n0
  have pre0 : ∀ t, Steps p.tables e below (s₁.setTop (mkF m 0 #[.val (.ref (ad 9))] [])) t → Steps p.tables e below (s₁.setTop (entryFrame m #[(.ref (ad 9))] 1)) t := fun t k => castTop (own_ef_own_pred_10 m) k
  obtain ⟨T1, X1, e1, st1⟩ := getS2 X0 hx hZ hown (host := "") (Or.inl (hw _ (List.mem_of_getElem? (i := 22) rfl))) Via.refl e0 (own_S_EXTEND W) (g := (mkF m 1 #[.val (.ref (ad 9))] [(.ref (ad 9))])) rfl (hb hby own_d_prog_11_method_7_code_1)
  have ch2 : ∀ t, Steps p.tables e below (T1.setTop (mkF m 4 #[.val (.ref (ad 9))] [(.ref (ad 1)), (.ref (ad 9))])) t → Steps p.tables e below (s₁.setTop (entryFrame m #[(.ref (ad 9))] 1)) t := fun t k => pre0 t (by
      show Steps p.tables e below (s₁.setTop (mkF m 0 #[.val (.ref (ad 9))] [])) t
      refine XS.aloadN X0.here hx rfl (hb hby own_d_prog_11_method_7_code_0) rfl rfl ?_
      show Steps p.tables e below (s₁.setTop (mkF m 1 #[.val (.ref (ad 9))] [(.ref (ad 9))])) t
      exact st1 t k)
  obtain ⟨T3, X3, e3, st3⟩ := getS2 X1 hx hZ hown (host := "") (Or.inl (hw _ (List.mem_of_getElem? (i := 24) rfl))) Via.refl e1 (own_S_FORMAT W) (g := (mkF m 8 #[.val (.ref (ad 9))] [(.ref (ad 9))])) rfl (hb hby own_d_prog_11_method_7_code_8)
  have ch4 : ∀ t, Steps p.tables e below (T3.setTop (mkF m 11 #[.val (.ref (ad 9))] [(.ref (ad 2)), (.ref (ad 9))])) t → Steps p.tables e below (s₁.setTop (entryFrame m #[(.ref (ad 9))] 1)) t := fun t k => ch2 t (by
      show Steps p.tables e below (T1.setTop (mkF m 4 #[.val (.ref (ad 9))] [(.ref (ad 1)), (.ref (ad 9))])) t
      refine Jvm.RoadKit.acmp (g := (mkF m 4 #[.val (.ref (ad 9))] [(.ref (ad 1)), (.ref (ad 9))])) X1 hx rfl rfl rfl (pc0 := 4) (pc' := 7) (same := false) rfl (hb hby own_d_prog_11_method_7_code_4) rfl (decide_eq_false fun q => (Fld.ne (own_F_ALETTER_ordinal W) (own_F_EXTEND_ordinal W) (by decide)) (Value.ref.inj q)) (by decide) (by decide) ?_
      show Steps p.tables e below (T1.setTop (mkF m 7 #[.val (.ref (ad 9))] [])) t
      refine XS.aloadN X1.here hx rfl (hb hby own_d_prog_11_method_7_code_7) rfl rfl ?_
      show Steps p.tables e below (T1.setTop (mkF m 8 #[.val (.ref (ad 9))] [(.ref (ad 9))])) t
      exact st3 t k)
  obtain ⟨T5, X5, e5, st5⟩ := getS2 X3 hx hZ hown (host := "") (Or.inl (hw _ (List.mem_of_getElem? (i := 26) rfl))) Via.refl e3 (own_S_ZWJ W) (g := (mkF m 15 #[.val (.ref (ad 9))] [(.ref (ad 9))])) rfl (hb hby own_d_prog_11_method_7_code_15)
  have ch6 : ∀ t, Steps p.tables e below (T5.setTop (mkF m 18 #[.val (.ref (ad 9))] [(.ref (ad 3)), (.ref (ad 9))])) t → Steps p.tables e below (s₁.setTop (entryFrame m #[(.ref (ad 9))] 1)) t := fun t k => ch4 t (by
      show Steps p.tables e below (T3.setTop (mkF m 11 #[.val (.ref (ad 9))] [(.ref (ad 2)), (.ref (ad 9))])) t
      refine Jvm.RoadKit.acmp (g := (mkF m 11 #[.val (.ref (ad 9))] [(.ref (ad 2)), (.ref (ad 9))])) X3 hx rfl rfl rfl (pc0 := 11) (pc' := 14) (same := false) rfl (hb hby own_d_prog_11_method_7_code_11) rfl (decide_eq_false fun q => (Fld.ne (own_F_ALETTER_ordinal W) (own_F_FORMAT_ordinal W) (by decide)) (Value.ref.inj q)) (by decide) (by decide) ?_
      show Steps p.tables e below (T3.setTop (mkF m 14 #[.val (.ref (ad 9))] [])) t
      refine XS.aloadN X3.here hx rfl (hb hby own_d_prog_11_method_7_code_14) rfl rfl ?_
      show Steps p.tables e below (T3.setTop (mkF m 15 #[.val (.ref (ad 9))] [(.ref (ad 9))])) t
      exact st5 t k)
  have ch7 : ∀ t, Steps p.tables e below (T5.setTop (mkF m 26 #[.val (.ref (ad 9))] [(.int (0 : Int32))])) t → Steps p.tables e below (s₁.setTop (entryFrame m #[(.ref (ad 9))] 1)) t := fun t k => ch6 t (by
      show Steps p.tables e below (T5.setTop (mkF m 18 #[.val (.ref (ad 9))] [(.ref (ad 3)), (.ref (ad 9))])) t
      refine Jvm.RoadKit.acmp (g := (mkF m 18 #[.val (.ref (ad 9))] [(.ref (ad 3)), (.ref (ad 9))])) X5 hx rfl rfl rfl (pc0 := 18) (pc' := 25) (same := false) rfl (hb hby own_d_prog_11_method_7_code_18) rfl (decide_eq_false fun q => (Fld.ne (own_F_ALETTER_ordinal W) (own_F_ZWJ_ordinal W) (by decide)) (Value.ref.inj q)) (by decide) (by decide) ?_
      show Steps p.tables e below (T5.setTop (mkF m 25 #[.val (.ref (ad 9))] [])) t
      refine XS.iconst X5.here hx rfl (hb hby own_d_prog_11_method_7_code_25) ?_
      exact k)
  obtain ⟨fs, hr, hrun, hended, hW, hsame⟩ := X5.leave (v := some (.int (0 : Int32))) (fun h => by rw [Bd.returns] at h; cases h)
  refine ⟨_, _, ch7 _ ?_, hrun, hended, _, _, rfl, ?_, ⟨_, rfl⟩, hW, hsame.mono (by decide) (by decide)⟩
  · show Steps p.tables e below (T5.setTop (mkF m 26 #[.val (.ref (ad 9))] [(.int (0 : Int32))])) _
    exact retN X5 hx (t := .boolean) Bd.returns (by simp) (hb hby own_d_prog_11_method_7_code_26) hr
  · show QV (some (.int (0 : Int32))) h0 n0 _ T5.heap _
    rw [e5]
    exact ⟨rfl, N0, rfl⟩
theorem own_ef_own_ordi_10 (m : MethodId) {x0 : Addr} : entryFrame m #[(.ref x0)] 1 = mkF m 0 #[.val (.ref x0)] [] := by first | (simp [entryFrame, mkF, argsToLocals, Value.category, maxLocals]; done) | rfl
set_option maxRecDepth 65536 in
set_option maxHeartbeats 40000000 in
theorem own_ordi_10 (l : Launch) (Z : State) (a0 : Array Value) (hw : ∀ d ∈ tables_1, d.before a0 Z = true) (ws : List Jvm.Cond) (h0 : Heap) (n0 : Nat) (Z0 : n0 ≤ h0.size) (ad : Nat → Addr) (a_VALUES : Addr) (k_VALUES : ClassId) (W : OwnWd Z h0 ad a_VALUES k_VALUES) :
    MetFree l (⟨"java/lang/Enum", "ordinal", "()I"⟩ : MethodName) (head1 (Jvm.Cond.code (⟨"java/lang/Enum", "ordinal", "()I"⟩ : MethodName) jdk_37_method_2_code 1 (some .int) :: ws) ({ frames := 0, cells := 0, slots := 0, locals := 0 } : Room)) (fun a U => a = #[(.ref (ad 9))] ∧ Z.Warmed39 U.vm ∧ U.heap = h0) (fun _ _ _ _ _ => True) (fun _ U o U' => ∃ v L, o = .returned v ∧ QV (some (.int (10 : Int32))) h0 n0 v U'.heap L ∧ FrameEnd U o U' L ({ frames := 0, cells := 0, slots := 0, locals := 0 } : Room).cells ({ frames := 0, cells := 0, slots := 0, locals := 0 } : Room).slots) := by
  refine MetFree.of_bodySF (plainFor_of_name own_pn_java_lang_Enum) hisR ?_
  intro p e s m args below meth c s₁ Bd hml0 hP hK
  obtain ⟨rfl, hZ, hh⟩ := hP
  have hx := Bd.exec
  have hby := Bd.bytes
  have hml : c.maxLocals = 1 := hml0
  have hown : s.vm.findClass "java/lang/Enum" = some m.cls := findClass_of_methodNamed Bd.named
  have hnm := (name_of_methodNamed Bd.named Bd.method).1
  have X0 : Stand p l e ({ frames := 0, cells := 0, slots := 0, locals := 0 } : Room) s m #[(.ref (ad 9))] below meth c s₁ [] 0 0 := Stand.of_body Bd
  have e0 : s₁.heap = h0 := by rw [← hh, Bd.state]; rfl
  have N0 := Fr.nil n0
  have pre0 : ∀ t, Steps p.tables e below (s₁.setTop (mkF m 0 #[.val (.ref (ad 9))] [])) t → Steps p.tables e below (s₁.setTop (entryFrame m #[(.ref (ad 9))] 1)) t := fun t k => castTop (own_ef_own_ordi_10 m) k
  obtain ⟨T1, X1, e1, st1⟩ := getF X0 hx hZ hown (host := "") (Or.inl (hw _ (List.mem_of_getElem? (i := 15) rfl))) Via.refl e0 (own_F_ALETTER_ordinal W) (g := (mkF m 1 #[.val (.ref (ad 9))] [(.ref (ad 9))])) rfl rfl (hb hby own_d_jdk_37_method_2_code_1)
  have ch2 : ∀ t, Steps p.tables e below (T1.setTop (mkF m 4 #[.val (.ref (ad 9))] [(.int (10 : Int32))])) t → Steps p.tables e below (s₁.setTop (entryFrame m #[(.ref (ad 9))] 1)) t := fun t k => pre0 t (by
      show Steps p.tables e below (s₁.setTop (mkF m 0 #[.val (.ref (ad 9))] [])) t
      refine XS.aloadN X0.here hx rfl (hb hby own_d_jdk_37_method_2_code_0) rfl rfl ?_
      show Steps p.tables e below (s₁.setTop (mkF m 1 #[.val (.ref (ad 9))] [(.ref (ad 9))])) t
      exact st1 t k)
  obtain ⟨fs, hr, hrun, hended, hW, hsame⟩ := X1.leave (v := some (.int (10 : Int32))) (fun h => by rw [Bd.returns] at h; cases h)
  refine ⟨_, _, ch2 _ ?_, hrun, hended, _, _, rfl, ?_, ⟨_, rfl⟩, hW, hsame.mono (by decide) (by decide)⟩
  · show Steps p.tables e below (T1.setTop (mkF m 4 #[.val (.ref (ad 9))] [(.int (10 : Int32))])) _
    exact retI X1 hx Bd.returns (hb hby own_d_jdk_37_method_2_code_4) hr
  · show QV (some (.int (10 : Int32))) h0 n0 _ T1.heap _
    rw [e1]
    exact ⟨rfl, N0, rfl⟩
theorem own_ef_own_law_10 (m : MethodId) {x0 : Int32} : entryFrame m #[(.int x0)] maxLocals = mkF m 0 #[.val (.int x0), .unset, .unset, .unset] [] := by first | (simp [entryFrame, mkF, argsToLocals, Value.category, maxLocals]; done) | rfl
set_option maxRecDepth 65536 in
set_option maxHeartbeats 40000000 in
theorem own_law_10 (l : Launch) (Z : State) (a0 : Array Value) (hw : ∀ d ∈ tables_1, d.before a0 Z = true) (ws : List Jvm.Cond) (h0 : Heap) (n0 : Nat) (Z0 : n0 ≤ h0.size) (p1 : Int32) (hk : (p1 &&& (2147483647 : Int32)) % (19 : Int32) = (10 : Int32)) (ad : Nat → Addr) (a_VALUES : Addr) (k_VALUES : ClassId) (W : OwnWd Z h0 ad a_VALUES k_VALUES) :
    MetFree l x (head1 (Jvm.Cond.code x code maxLocals ret :: ws) room_1) (fun a U => a = #[(.int p1)] ∧ Z.Warmed39 U.vm ∧ U.heap = h0) (fun _ _ _ _ _ => True) (fun _ U o U' => ∃ v L, o = .returned v ∧ QN (some (.int (1 : Int32))) n0 v U'.heap L ∧ FrameEnd U o U' L room_1.cells room_1.slots) := by
  refine MetFree.of_bodySF (plainFor_of_name own_pn_com_example_libsnippet_libsnippet_WordBreakIsIgnorablePinLaw) hisR ?_
  intro p e s m args below meth c s₁ Bd hml0 hP hK
  obtain ⟨rfl, hZ, hh⟩ := hP
  have hx := Bd.exec
  have hby := Bd.bytes
  have hml : c.maxLocals = 4 := hml0
  have hown : s.vm.findClass "com/example/libsnippet/libsnippet/WordBreakIsIgnorablePinLaw" = some m.cls := findClass_of_methodNamed Bd.named
  have hnm := (name_of_methodNamed Bd.named Bd.method).1
  have X0 : Stand p l e room_1 s m #[(.int p1)] below meth c s₁ [] 0 0 := Stand.of_body Bd
  have e0 : s₁.heap = h0 := by rw [← hh, Bd.state]; rfl
  have N0 := Fr.nil n0
  have pre0 : ∀ t, Steps p.tables e below (s₁.setTop (mkF m 0 #[.val (.int p1), .unset, .unset, .unset] [])) t → Steps p.tables e below (s₁.setTop (entryFrame m #[(.int p1)] maxLocals)) t := fun t k => castTop (own_ef_own_law_10 m) k
  obtain ⟨vv1, _, ⟨T1, L1, kk1, nn1⟩, -, X1, ⟨Lc1, hQ1, l1, y1, z1⟩, st1⟩ := Jvm.LawKit.callS X0 hx (y := (⟨"com/example/libsnippet/libsnippet/WordBreak", "ofOrdinal", "(I)Lcom/example/libsnippet/libsnippet/WordBreak;"⟩ : MethodName)) hown (mvT hZ (hw _ (List.mem_of_getElem? (i := 1) rfl))) (mvT hZ (hw _ (List.mem_of_getElem? (i := 2) rfl))) (mvT hZ (hw _ (List.mem_of_getElem? (i := 3) rfl))) (mvT hZ (hw _ (List.mem_of_getElem? (i := 4) rfl))) (by decide) (backOf (W := 0) (own_pick_10 l Z a0 hw [] h0 n0 Z0 ad a_VALUES k_VALUES W) hZ (hw _ (List.mem_of_getElem? (i := 4) rfl)) (hw _ (List.mem_of_getElem? (i := 3) rfl)) (by decide) (by decide)) (g := (mkF m 9 #[.val (.int p1), .val (.int (10 : Int32)), .unset, .unset] [(.int (10 : Int32))])) rfl (by rw [hml]; rfl) (argsL := [(.int (10 : Int32))]) (rest := []) (lenOf own_pd__I_Lcom_example_libsnippet_libsnippet_WordBreak_ rfl) rfl (by show 2 * 0 + _ ≤ _; exact Nat.le_of_eq rfl) (hb hby at_9) (fun _ _ => ⟨rfl, e0, (by decide : 0 + 0 ≤ _), (by decide : 0 + 0 ≤ _)⟩)
  dsimp only [Pt.U, Pt.locs, Pt.cells, Pt.slots] at X1 l1 y1 z1 st1 hQ1
  subst l1 y1 z1
  obtain ⟨rfl, Nq1, e1⟩ := hQ1
  have N1 := Fr.app N0 Nq1
  have ch2 : ∀ t, Steps p.tables e below (T1.setTop (mkF m 12 #[.val (.int p1), .val (.int (10 : Int32)), .unset, .unset] [(.ref (ad 9))])) t → Steps p.tables e below (s₁.setTop (entryFrame m #[(.int p1)] maxLocals)) t := fun t k => pre0 t (by
      show Steps p.tables e below (s₁.setTop (mkF m 0 #[.val (.int p1), .unset, .unset, .unset] [])) t
      refine XS.iloadN X0.here hx rfl (hb hby at_0) rfl ?_
      show Steps p.tables e below (s₁.setTop (mkF m 1 #[.val (.int p1), .unset, .unset, .unset] [(.int p1)])) t
      refine X0.ldcInt hx hown (mvT hZ (hw _ (List.mem_of_getElem? (i := 0) rfl))) (g := (mkF m 1 #[.val (.int p1), .unset, .unset, .unset] [(.int p1)])) rfl (hb hby at_1) _ ?_
      show Steps p.tables e below (s₁.setTop (mkF m 3 #[.val (.int p1), .unset, .unset, .unset] [(.int (2147483647 : Int32)), (.int p1)])) t
      refine XS.iand X0.here hx rfl (hb hby at_3) rfl ?_
      show Steps p.tables e below (s₁.setTop (mkF m 4 #[.val (.int p1), .unset, .unset, .unset] [(.int (p1 &&& (2147483647 : Int32)))])) t
      refine XS.bipush X0.here hx rfl (hb hby at_4) ?_
      show Steps p.tables e below (s₁.setTop (mkF m 6 #[.val (.int p1), .unset, .unset, .unset] [(.int (19 : Int32)), (.int (p1 &&& (2147483647 : Int32)))])) t
      refine Jvm.RoadKit.iremM (g := (mkF m 6 #[.val (.int p1), .unset, .unset, .unset] [(.int (19 : Int32)), (.int (p1 &&& (2147483647 : Int32)))])) X0 hx rfl (hb hby at_6) rfl (by decide) ?_
      rw [hk]
      show Steps p.tables e below (s₁.setTop (mkF m 7 #[.val (.int p1), .unset, .unset, .unset] [(.int (10 : Int32))])) t
      refine XS.istoreN X0.here hx rfl (hb hby at_7) rfl (l' := #[.val (.int p1), .val (.int (10 : Int32)), .unset, .unset]) rfl ?_
      show Steps p.tables e below (s₁.setTop (mkF m 8 #[.val (.int p1), .val (.int (10 : Int32)), .unset, .unset] [])) t
      refine XS.iloadN X0.here hx rfl (hb hby at_8) rfl ?_
      show Steps p.tables e below (s₁.setTop (mkF m 9 #[.val (.int p1), .val (.int (10 : Int32)), .unset, .unset] [(.int (10 : Int32))])) t
      exact st1 t k)
  obtain ⟨cq3, kq3, qa3, qb3, qc3⟩ := isOf hZ e1 (own_E_ALETTER W)
  obtain ⟨vv4, _, ⟨T4, L4, kk4, nn4⟩, -, X4, ⟨Lc4, hQ4, l4, y4, z4⟩, st4⟩ := X1.virtualBackUp hx (x := (⟨"com/example/libsnippet/libsnippet/WordBreak", "ordinal", "()I"⟩ : MethodName)) (y := (⟨"java/lang/Enum", "ordinal", "()I"⟩ : MethodName)) (owner := "java/lang/Enum") hown (mvT hZ (hw _ (List.mem_of_getElem? (i := 8) rfl))) (mvT hZ (hw _ (List.mem_of_getElem? (i := 9) rfl))) (mvT hZ (hw _ (List.mem_of_getElem? (i := 10) rfl))) (by decide) (mvT hZ (hw _ (List.mem_of_getElem? (i := 12) rfl))) (mvT hZ (hw _ (List.mem_of_getElem? (i := 11) rfl))) (backOf (W := 0) (own_ordi_10 l Z a0 hw [] h0 n0 Z0 ad a_VALUES k_VALUES W) hZ (hw _ (List.mem_of_getElem? (i := 14) rfl)) (hw _ (List.mem_of_getElem? (i := 13) rfl)) (by decide) (by decide)) qa3 qc3 (g := (mkF m 36 #[.val (.int p1), .val (.int (10 : Int32)), .val (.ref (ad 9)), .val (.int (0 : Int32))] [(.ref (ad 9))])) rfl (by rw [hml]; rfl) (Steps.refl _) (argsL := []) (rest := []) (lenOf own_pd___I rfl) rfl (by show 2 * 0 + _ ≤ _; exact Nat.le_of_eq rfl) (hb hby at_36) (fun _ _ => ⟨rfl, e1, (by decide : 0 + 0 ≤ _), (by decide : 0 + 0 ≤ _)⟩)
  dsimp only [Pt.U, Pt.locs, Pt.cells, Pt.slots] at X4 l4 y4 z4 st4 hQ4
  subst l4 y4 z4
  obtain ⟨rfl, Nq4, e4⟩ := hQ4
  have N4 := Fr.app N1 Nq4
  have ch5 : ∀ t, Steps p.tables e below (T4.setTop (mkF m 39 #[.val (.int p1), .val (.int (10 : Int32)), .val (.ref (ad 9)), .val (.int (0 : Int32))] [(.int (10 : Int32))])) t → Steps p.tables e below (s₁.setTop (entryFrame m #[(.int p1)] maxLocals)) t := fun t k => ch2 t (by
      show Steps p.tables e below (T1.setTop (mkF m 12 #[.val (.int p1), .val (.int (10 : Int32)), .unset, .unset] [(.ref (ad 9))])) t
      refine XS.astoreN X1.here hx rfl (hb hby at_12) rfl rfl (l' := #[.val (.int p1), .val (.int (10 : Int32)), .val (.ref (ad 9)), .unset]) rfl ?_
      show Steps p.tables e below (T1.setTop (mkF m 13 #[.val (.int p1), .val (.int (10 : Int32)), .val (.ref (ad 9)), .unset] [])) t
      refine XS.iloadN X1.here hx rfl (hb hby at_13) rfl ?_
      show Steps p.tables e below (T1.setTop (mkF m 14 #[.val (.int p1), .val (.int (10 : Int32)), .val (.ref (ad 9)), .unset] [(.int (10 : Int32))])) t
      refine XS.iconst X1.here hx rfl (hb hby at_14) ?_
      show Steps p.tables e below (T1.setTop (mkF m 15 #[.val (.int p1), .val (.int (10 : Int32)), .val (.ref (ad 9)), .unset] [(.int (4 : Int32)), (.int (10 : Int32))])) t
      refine XS.icmpNo X1.here hx rfl (hb hby at_15) rfl (feq (by decide : ¬ (10 : Int32) = (4 : Int32))).1 ?_
      show Steps p.tables e below (T1.setTop (mkF m 18 #[.val (.int p1), .val (.int (10 : Int32)), .val (.ref (ad 9)), .unset] [])) t
      refine XS.iloadN X1.here hx rfl (hb hby at_18) rfl ?_
      show Steps p.tables e below (T1.setTop (mkF m 19 #[.val (.int p1), .val (.int (10 : Int32)), .val (.ref (ad 9)), .unset] [(.int (10 : Int32))])) t
      refine XS.iconst X1.here hx rfl (hb hby at_19) ?_
      show Steps p.tables e below (T1.setTop (mkF m 20 #[.val (.int p1), .val (.int (10 : Int32)), .val (.ref (ad 9)), .unset] [(.int (5 : Int32)), (.int (10 : Int32))])) t
      refine XS.icmpNo X1.here hx rfl (hb hby at_20) rfl (feq (by decide : ¬ (10 : Int32) = (5 : Int32))).1 ?_
      show Steps p.tables e below (T1.setTop (mkF m 23 #[.val (.int p1), .val (.int (10 : Int32)), .val (.ref (ad 9)), .unset] [])) t
      refine XS.iloadN X1.here hx rfl (hb hby at_23) rfl ?_
      show Steps p.tables e below (T1.setTop (mkF m 24 #[.val (.int p1), .val (.int (10 : Int32)), .val (.ref (ad 9)), .unset] [(.int (10 : Int32))])) t
      refine XS.bipush X1.here hx rfl (hb hby at_24) ?_
      show Steps p.tables e below (T1.setTop (mkF m 26 #[.val (.int p1), .val (.int (10 : Int32)), .val (.ref (ad 9)), .unset] [(.int (7 : Int32)), (.int (10 : Int32))])) t
      refine XS.icmpYes X1.here hx rfl (pc0 := 26) (pc' := 33) rfl (hb hby at_26) rfl (feq (by decide : ¬ (10 : Int32) = (7 : Int32))).2 (by decide) (by decide) ?_
      show Steps p.tables e below (T1.setTop (mkF m 33 #[.val (.int p1), .val (.int (10 : Int32)), .val (.ref (ad 9)), .unset] [])) t
      refine XS.iconst X1.here hx rfl (hb hby at_33) ?_
      show Steps p.tables e below (T1.setTop (mkF m 34 #[.val (.int p1), .val (.int (10 : Int32)), .val (.ref (ad 9)), .unset] [(.int (0 : Int32))])) t
      refine XS.istoreN X1.here hx rfl (hb hby at_34) rfl (l' := #[.val (.int p1), .val (.int (10 : Int32)), .val (.ref (ad 9)), .val (.int (0 : Int32))]) rfl ?_
      show Steps p.tables e below (T1.setTop (mkF m 35 #[.val (.int p1), .val (.int (10 : Int32)), .val (.ref (ad 9)), .val (.int (0 : Int32))] [])) t
      refine XS.aloadN X1.here hx rfl (hb hby at_35) rfl rfl ?_
      show Steps p.tables e below (T1.setTop (mkF m 36 #[.val (.int p1), .val (.int (10 : Int32)), .val (.ref (ad 9)), .val (.int (0 : Int32))] [(.ref (ad 9))])) t
      exact st4.trans k)
  obtain ⟨cq6, kq6, qa6, qb6, qc6⟩ := isOf hZ e4 (own_E_ALETTER W)
  obtain ⟨vv7, _, ⟨T7, L7, kk7, nn7⟩, -, X7, ⟨Lc7, hQ7, l7, y7, z7⟩, st7⟩ := X4.virtualBack hx (y := (⟨"com/example/libsnippet/libsnippet/WordBreak", "isIgnorable", "()Z"⟩ : MethodName)) (z := (⟨"com/example/libsnippet/libsnippet/WordBreak", "isIgnorable", "()Z"⟩ : MethodName)) hown (mvT hZ (hw _ (List.mem_of_getElem? (i := 17) rfl))) (mvT hZ (hw _ (List.mem_of_getElem? (i := 18) rfl))) (notFace_of_selects (args := #[]) (mvT hZ (hw _ (List.mem_of_getElem? (i := 20) rfl)))) (mvT hZ (hw _ (List.mem_of_getElem? (i := 20) rfl))) (mvT hZ (hw _ (List.mem_of_getElem? (i := 19) rfl))) (by decide) (backOf (W := 0) (own_pred_10 l Z a0 hw [] h0 n0 Z0 ad a_VALUES k_VALUES W) hZ (hw _ (List.mem_of_getElem? (i := 21) rfl)) (hw _ (List.mem_of_getElem? (i := 3) rfl)) (by decide) (by decide)) qa6 qc6 (g := (mkF m 44 #[.val (.int p1), .val (.int (10 : Int32)), .val (.ref (ad 9)), .val (.int (0 : Int32))] [(.ref (ad 9))])) rfl (by rw [hml]; rfl) (Steps.refl _) (argsL := []) (rest := []) (lenOf own_pd___Z rfl) rfl (by show 2 * 0 + _ ≤ _; exact Nat.le_of_eq rfl) (hb hby at_44) (fun _ _ => ⟨rfl, e4, (by decide : 0 + 0 ≤ _), (by decide : 0 + 0 ≤ _)⟩)
  dsimp only [Pt.U, Pt.locs, Pt.cells, Pt.slots] at X7 l7 y7 z7 st7 hQ7
  subst l7 y7 z7
  obtain ⟨rfl, Nq7, e7⟩ := hQ7
  have N7 := Fr.app N4 Nq7
  have ch8 : ∀ t, Steps p.tables e below (T7.setTop (mkF m 47 #[.val (.int p1), .val (.int (10 : Int32)), .val (.ref (ad 9)), .val (.int (0 : Int32))] [(.int (0 : Int32))])) t → Steps p.tables e below (s₁.setTop (entryFrame m #[(.int p1)] maxLocals)) t := fun t k => ch5 t (by
      show Steps p.tables e below (T4.setTop (mkF m 39 #[.val (.int p1), .val (.int (10 : Int32)), .val (.ref (ad 9)), .val (.int (0 : Int32))] [(.int (10 : Int32))])) t
      refine XS.iloadN X4.here hx rfl (hb hby at_39) rfl ?_
      show Steps p.tables e below (T4.setTop (mkF m 40 #[.val (.int p1), .val (.int (10 : Int32)), .val (.ref (ad 9)), .val (.int (0 : Int32))] [(.int (10 : Int32)), (.int (10 : Int32))])) t
      refine XS.icmpNo X4.here hx rfl (hb hby at_40) rfl (teq (by decide : (10 : Int32) = (10 : Int32))).2 ?_
      show Steps p.tables e below (T4.setTop (mkF m 43 #[.val (.int p1), .val (.int (10 : Int32)), .val (.ref (ad 9)), .val (.int (0 : Int32))] [])) t
      refine XS.aloadN X4.here hx rfl (hb hby at_43) rfl rfl ?_
      show Steps p.tables e below (T4.setTop (mkF m 44 #[.val (.int p1), .val (.int (10 : Int32)), .val (.ref (ad 9)), .val (.int (0 : Int32))] [(.ref (ad 9))])) t
      exact st7.trans k)
  have ch9 : ∀ t, Steps p.tables e below (T7.setTop (mkF m 56 #[.val (.int p1), .val (.int (10 : Int32)), .val (.ref (ad 9)), .val (.int (0 : Int32))] [(.int (1 : Int32))])) t → Steps p.tables e below (s₁.setTop (entryFrame m #[(.int p1)] maxLocals)) t := fun t k => ch8 t (by
      show Steps p.tables e below (T7.setTop (mkF m 47 #[.val (.int p1), .val (.int (10 : Int32)), .val (.ref (ad 9)), .val (.int (0 : Int32))] [(.int (0 : Int32))])) t
      refine XS.iloadN X7.here hx rfl (hb hby at_47) rfl ?_
      show Steps p.tables e below (T7.setTop (mkF m 48 #[.val (.int p1), .val (.int (10 : Int32)), .val (.ref (ad 9)), .val (.int (0 : Int32))] [(.int (0 : Int32)), (.int (0 : Int32))])) t
      refine XS.icmpNo X7.here hx rfl (hb hby at_48) rfl (teq (by decide : (0 : Int32) = (0 : Int32))).2 ?_
      show Steps p.tables e below (T7.setTop (mkF m 51 #[.val (.int p1), .val (.int (10 : Int32)), .val (.ref (ad 9)), .val (.int (0 : Int32))] [])) t
      refine XS.iconst X7.here hx rfl (hb hby at_51) ?_
      show Steps p.tables e below (T7.setTop (mkF m 52 #[.val (.int p1), .val (.int (10 : Int32)), .val (.ref (ad 9)), .val (.int (0 : Int32))] [(.int (1 : Int32))])) t
      refine XS.goto X7.here hx rfl (pc0 := 52) (pc' := 56) rfl (hb hby at_52) (by decide) (by decide) ?_
      exact k)
  obtain ⟨fs, hr, hrun, hended, hW, hsame⟩ := X7.leave (v := some (.int (1 : Int32))) (fun h => by rw [Bd.returns] at h; cases h)
  refine ⟨_, _, ch9 _ ?_, hrun, hended, _, _, rfl, ?_, ⟨_, rfl⟩, hW, hsame.mono (by decide) (by decide)⟩
  · show Steps p.tables e below (T7.setTop (mkF m 56 #[.val (.int p1), .val (.int (10 : Int32)), .val (.ref (ad 9)), .val (.int (0 : Int32))] [(.int (1 : Int32))])) _
    exact retN X7 hx (t := .boolean) Bd.returns (by simp) (hb hby at_56) hr
  · show QN (some (.int (1 : Int32))) n0 _ T7.heap _
    rw [e7]
    exact ⟨rfl, N7⟩
theorem own_ef_own_pick_11 (m : MethodId) {x0 : Int32} : entryFrame m #[(.int x0)] 1 = mkF m 0 #[.val (.int x0)] [] := by first | (simp [entryFrame, mkF, argsToLocals, Value.category, maxLocals]; done) | rfl
set_option maxRecDepth 65536 in
set_option maxHeartbeats 40000000 in
theorem own_pick_11 (l : Launch) (Z : State) (a0 : Array Value) (hw : ∀ d ∈ tables_1, d.before a0 Z = true) (ws : List Jvm.Cond) (h0 : Heap) (n0 : Nat) (Z0 : n0 ≤ h0.size) (ad : Nat → Addr) (a_VALUES : Addr) (k_VALUES : ClassId) (W : OwnWd Z h0 ad a_VALUES k_VALUES) :
    MetFree l (⟨"com/example/libsnippet/libsnippet/WordBreak", "ofOrdinal", "(I)Lcom/example/libsnippet/libsnippet/WordBreak;"⟩ : MethodName) (head1 (Jvm.Cond.code (⟨"com/example/libsnippet/libsnippet/WordBreak", "ofOrdinal", "(I)Lcom/example/libsnippet/libsnippet/WordBreak;"⟩ : MethodName) prog_11_method_5_code 1 (some (.object "com/example/libsnippet/libsnippet/WordBreak")) :: ws) ({ frames := 0, cells := 0, slots := 0, locals := 0 } : Room)) (fun a U => a = #[(.int (11 : Int32))] ∧ Z.Warmed39 U.vm ∧ U.heap = h0) (fun _ _ _ _ _ => True) (fun _ U o U' => ∃ v L, o = .returned v ∧ QV (some (.ref (ad 8))) h0 n0 v U'.heap L ∧ FrameEnd U o U' L ({ frames := 0, cells := 0, slots := 0, locals := 0 } : Room).cells ({ frames := 0, cells := 0, slots := 0, locals := 0 } : Room).slots) := by
  refine MetFree.of_bodySF (plainFor_of_name own_pn_com_example_libsnippet_libsnippet_WordBreak) hisR ?_
  intro p e s m args below meth c s₁ Bd hml0 hP hK
  obtain ⟨rfl, hZ, hh⟩ := hP
  have hx := Bd.exec
  have hby := Bd.bytes
  have hml : c.maxLocals = 1 := hml0
  have hown : s.vm.findClass "com/example/libsnippet/libsnippet/WordBreak" = some m.cls := findClass_of_methodNamed Bd.named
  have hnm := (name_of_methodNamed Bd.named Bd.method).1
  have X0 : Stand p l e ({ frames := 0, cells := 0, slots := 0, locals := 0 } : Room) s m #[(.int (11 : Int32))] below meth c s₁ [] 0 0 := Stand.of_body Bd
  have e0 : s₁.heap = h0 := by rw [← hh, Bd.state]; rfl
  have N0 := Fr.nil n0
  have pre0 : ∀ t, Steps p.tables e below (s₁.setTop (mkF m 0 #[.val (.int (11 : Int32))] [])) t → Steps p.tables e below (s₁.setTop (entryFrame m #[(.int (11 : Int32))] 1)) t := fun t k => castTop (own_ef_own_pick_11 m) k
  obtain ⟨T1, X1, e1, st1⟩ := getS2 X0 hx hZ hown (host := "") (Or.inl (hw _ (List.mem_of_getElem? (i := 5) rfl))) Via.refl e0 (own_S_VALUES W) (g := (mkF m 0 #[.val (.int (11 : Int32))] [])) rfl (hb hby own_d_prog_11_method_5_code_0)
  have ch2 : ∀ t, Steps p.tables e below (T1.setTop (mkF m 3 #[.val (.int (11 : Int32))] [(.ref a_VALUES)])) t → Steps p.tables e below (s₁.setTop (entryFrame m #[(.int (11 : Int32))] 1)) t := fun t k => pre0 t (by
      show Steps p.tables e below (s₁.setTop (mkF m 0 #[.val (.int (11 : Int32))] [])) t
      exact st1 t k)
  obtain ⟨cl3, Ar3, -, Sz3, Ng3, Ha3, -⟩ := (own_V_VALUES W)
  have hin3 : ¬ ((11 : Int32) < 0 ∨ cl3.slots.size ≤ ((11 : Int32)).toNatClampNeg) := inb_of Sz3 (by decide)
  have hat3 : cl3.slots[((11 : Int32)).toNatClampNeg]? = some (.ref (ad 8)) := Ha3.at hin3 rfl
  have ch4 : ∀ t, Steps p.tables e below (T1.setTop (mkF m 5 #[.val (.int (11 : Int32))] [(.ref (ad 8))])) t → Steps p.tables e below (s₁.setTop (entryFrame m #[(.int (11 : Int32))] 1)) t := fun t k => ch2 t (by
      show Steps p.tables e below (T1.setTop (mkF m 3 #[.val (.int (11 : Int32))] [(.ref a_VALUES)])) t
      refine XS.iloadN X1.here hx rfl (hb hby own_d_prog_11_method_5_code_3) rfl ?_
      show Steps p.tables e below (T1.setTop (mkF m 4 #[.val (.int (11 : Int32))] [(.int (11 : Int32)), (.ref a_VALUES)])) t
      refine X1.aaload hx (j := (11 : Int32)) (v := (.ref (ad 8))) (by rw [e1]; exact Ar3.1) (State.isArrayOf_alike hZ.alike Ar3.2.1) rfl Ar3.2.2 hin3 hat3 (g := (mkF m 4 #[.val (.int (11 : Int32))] [(.int (11 : Int32)), (.ref a_VALUES)])) rfl rfl (hb hby own_d_prog_11_method_5_code_4) _ ?_
      exact k)
  obtain ⟨fs, hr, hrun, hended, hW, hsame⟩ := X1.leave (v := some (.ref (ad 8))) (fun h => by rw [Bd.returns] at h; cases h)
  refine ⟨_, _, ch4 _ ?_, hrun, hended, _, _, rfl, ?_, ⟨_, rfl⟩, hW, hsame.mono (by decide) (by decide)⟩
  · show Steps p.tables e below (T1.setTop (mkF m 5 #[.val (.int (11 : Int32))] [(.ref (ad 8))])) _
    jvm_step X1.here [X1.here.top, hx, (hb hby own_d_prog_11_method_5_code_5), X1.method', Bd.returns, Value.isRef, FieldType.isReference]
    first | (intro acts; rw [hr _ acts rfl rfl rfl]) | rw [hr _ _ rfl rfl rfl]
    exact Steps.refl _
  · show QV (some (.ref (ad 8))) h0 n0 _ T1.heap _
    rw [e1]
    exact ⟨rfl, N0, rfl⟩
theorem own_ef_own_pred_11 (m : MethodId) {x0 : Addr} : entryFrame m #[(.ref x0)] 1 = mkF m 0 #[.val (.ref x0)] [] := by first | (simp [entryFrame, mkF, argsToLocals, Value.category, maxLocals]; done) | rfl
set_option maxRecDepth 65536 in
set_option maxHeartbeats 40000000 in
theorem own_pred_11 (l : Launch) (Z : State) (a0 : Array Value) (hw : ∀ d ∈ tables_1, d.before a0 Z = true) (ws : List Jvm.Cond) (h0 : Heap) (n0 : Nat) (Z0 : n0 ≤ h0.size) (ad : Nat → Addr) (a_VALUES : Addr) (k_VALUES : ClassId) (W : OwnWd Z h0 ad a_VALUES k_VALUES) :
    MetFree l (⟨"com/example/libsnippet/libsnippet/WordBreak", "isIgnorable", "()Z"⟩ : MethodName) (head1 (Jvm.Cond.code (⟨"com/example/libsnippet/libsnippet/WordBreak", "isIgnorable", "()Z"⟩ : MethodName) prog_11_method_7_code 1 (some .boolean) :: ws) ({ frames := 0, cells := 0, slots := 0, locals := 0 } : Room)) (fun a U => a = #[(.ref (ad 8))] ∧ Z.Warmed39 U.vm ∧ U.heap = h0) (fun _ _ _ _ _ => True) (fun _ U o U' => ∃ v L, o = .returned v ∧ QV (some (.int (0 : Int32))) h0 n0 v U'.heap L ∧ FrameEnd U o U' L ({ frames := 0, cells := 0, slots := 0, locals := 0 } : Room).cells ({ frames := 0, cells := 0, slots := 0, locals := 0 } : Room).slots) := by
  refine MetFree.of_bodySF (plainFor_of_name own_pn_com_example_libsnippet_libsnippet_WordBreak) hisR ?_
  intro p e s m args below meth c s₁ Bd hml0 hP hK
  obtain ⟨rfl, hZ, hh⟩ := hP
  have hx := Bd.exec
  have hby := Bd.bytes
  have hml : c.maxLocals = 1 := hml0
  have hown : s.vm.findClass "com/example/libsnippet/libsnippet/WordBreak" = some m.cls := findClass_of_methodNamed Bd.named
  have hnm := (name_of_methodNamed Bd.named Bd.method).1
  have X0 : Stand p l e ({ frames := 0, cells := 0, slots := 0, locals := 0 } : Room) s m #[(.ref (ad 8))] below meth c s₁ [] 0 0 := Stand.of_body Bd
  have e0 : s₁.heap = h0 := by rw [← hh, Bd.state]; rfl
  have N0 := Fr.nil n0
  have pre0 : ∀ t, Steps p.tables e below (s₁.setTop (mkF m 0 #[.val (.ref (ad 8))] [])) t → Steps p.tables e below (s₁.setTop (entryFrame m #[(.ref (ad 8))] 1)) t := fun t k => castTop (own_ef_own_pred_11 m) k
  obtain ⟨T1, X1, e1, st1⟩ := getS2 X0 hx hZ hown (host := "") (Or.inl (hw _ (List.mem_of_getElem? (i := 22) rfl))) Via.refl e0 (own_S_EXTEND W) (g := (mkF m 1 #[.val (.ref (ad 8))] [(.ref (ad 8))])) rfl (hb hby own_d_prog_11_method_7_code_1)
  have ch2 : ∀ t, Steps p.tables e below (T1.setTop (mkF m 4 #[.val (.ref (ad 8))] [(.ref (ad 1)), (.ref (ad 8))])) t → Steps p.tables e below (s₁.setTop (entryFrame m #[(.ref (ad 8))] 1)) t := fun t k => pre0 t (by
      show Steps p.tables e below (s₁.setTop (mkF m 0 #[.val (.ref (ad 8))] [])) t
      refine XS.aloadN X0.here hx rfl (hb hby own_d_prog_11_method_7_code_0) rfl rfl ?_
      show Steps p.tables e below (s₁.setTop (mkF m 1 #[.val (.ref (ad 8))] [(.ref (ad 8))])) t
      exact st1 t k)
  obtain ⟨T3, X3, e3, st3⟩ := getS2 X1 hx hZ hown (host := "") (Or.inl (hw _ (List.mem_of_getElem? (i := 24) rfl))) Via.refl e1 (own_S_FORMAT W) (g := (mkF m 8 #[.val (.ref (ad 8))] [(.ref (ad 8))])) rfl (hb hby own_d_prog_11_method_7_code_8)
  have ch4 : ∀ t, Steps p.tables e below (T3.setTop (mkF m 11 #[.val (.ref (ad 8))] [(.ref (ad 2)), (.ref (ad 8))])) t → Steps p.tables e below (s₁.setTop (entryFrame m #[(.ref (ad 8))] 1)) t := fun t k => ch2 t (by
      show Steps p.tables e below (T1.setTop (mkF m 4 #[.val (.ref (ad 8))] [(.ref (ad 1)), (.ref (ad 8))])) t
      refine Jvm.RoadKit.acmp (g := (mkF m 4 #[.val (.ref (ad 8))] [(.ref (ad 1)), (.ref (ad 8))])) X1 hx rfl rfl rfl (pc0 := 4) (pc' := 7) (same := false) rfl (hb hby own_d_prog_11_method_7_code_4) rfl (decide_eq_false fun q => (Fld.ne (own_F_SINGLE_QUOTE_ordinal W) (own_F_EXTEND_ordinal W) (by decide)) (Value.ref.inj q)) (by decide) (by decide) ?_
      show Steps p.tables e below (T1.setTop (mkF m 7 #[.val (.ref (ad 8))] [])) t
      refine XS.aloadN X1.here hx rfl (hb hby own_d_prog_11_method_7_code_7) rfl rfl ?_
      show Steps p.tables e below (T1.setTop (mkF m 8 #[.val (.ref (ad 8))] [(.ref (ad 8))])) t
      exact st3 t k)
  obtain ⟨T5, X5, e5, st5⟩ := getS2 X3 hx hZ hown (host := "") (Or.inl (hw _ (List.mem_of_getElem? (i := 26) rfl))) Via.refl e3 (own_S_ZWJ W) (g := (mkF m 15 #[.val (.ref (ad 8))] [(.ref (ad 8))])) rfl (hb hby own_d_prog_11_method_7_code_15)
  have ch6 : ∀ t, Steps p.tables e below (T5.setTop (mkF m 18 #[.val (.ref (ad 8))] [(.ref (ad 3)), (.ref (ad 8))])) t → Steps p.tables e below (s₁.setTop (entryFrame m #[(.ref (ad 8))] 1)) t := fun t k => ch4 t (by
      show Steps p.tables e below (T3.setTop (mkF m 11 #[.val (.ref (ad 8))] [(.ref (ad 2)), (.ref (ad 8))])) t
      refine Jvm.RoadKit.acmp (g := (mkF m 11 #[.val (.ref (ad 8))] [(.ref (ad 2)), (.ref (ad 8))])) X3 hx rfl rfl rfl (pc0 := 11) (pc' := 14) (same := false) rfl (hb hby own_d_prog_11_method_7_code_11) rfl (decide_eq_false fun q => (Fld.ne (own_F_SINGLE_QUOTE_ordinal W) (own_F_FORMAT_ordinal W) (by decide)) (Value.ref.inj q)) (by decide) (by decide) ?_
      show Steps p.tables e below (T3.setTop (mkF m 14 #[.val (.ref (ad 8))] [])) t
      refine XS.aloadN X3.here hx rfl (hb hby own_d_prog_11_method_7_code_14) rfl rfl ?_
      show Steps p.tables e below (T3.setTop (mkF m 15 #[.val (.ref (ad 8))] [(.ref (ad 8))])) t
      exact st5 t k)
  have ch7 : ∀ t, Steps p.tables e below (T5.setTop (mkF m 26 #[.val (.ref (ad 8))] [(.int (0 : Int32))])) t → Steps p.tables e below (s₁.setTop (entryFrame m #[(.ref (ad 8))] 1)) t := fun t k => ch6 t (by
      show Steps p.tables e below (T5.setTop (mkF m 18 #[.val (.ref (ad 8))] [(.ref (ad 3)), (.ref (ad 8))])) t
      refine Jvm.RoadKit.acmp (g := (mkF m 18 #[.val (.ref (ad 8))] [(.ref (ad 3)), (.ref (ad 8))])) X5 hx rfl rfl rfl (pc0 := 18) (pc' := 25) (same := false) rfl (hb hby own_d_prog_11_method_7_code_18) rfl (decide_eq_false fun q => (Fld.ne (own_F_SINGLE_QUOTE_ordinal W) (own_F_ZWJ_ordinal W) (by decide)) (Value.ref.inj q)) (by decide) (by decide) ?_
      show Steps p.tables e below (T5.setTop (mkF m 25 #[.val (.ref (ad 8))] [])) t
      refine XS.iconst X5.here hx rfl (hb hby own_d_prog_11_method_7_code_25) ?_
      exact k)
  obtain ⟨fs, hr, hrun, hended, hW, hsame⟩ := X5.leave (v := some (.int (0 : Int32))) (fun h => by rw [Bd.returns] at h; cases h)
  refine ⟨_, _, ch7 _ ?_, hrun, hended, _, _, rfl, ?_, ⟨_, rfl⟩, hW, hsame.mono (by decide) (by decide)⟩
  · show Steps p.tables e below (T5.setTop (mkF m 26 #[.val (.ref (ad 8))] [(.int (0 : Int32))])) _
    exact retN X5 hx (t := .boolean) Bd.returns (by simp) (hb hby own_d_prog_11_method_7_code_26) hr
  · show QV (some (.int (0 : Int32))) h0 n0 _ T5.heap _
    rw [e5]
    exact ⟨rfl, N0, rfl⟩
theorem own_ef_own_ordi_11 (m : MethodId) {x0 : Addr} : entryFrame m #[(.ref x0)] 1 = mkF m 0 #[.val (.ref x0)] [] := by first | (simp [entryFrame, mkF, argsToLocals, Value.category, maxLocals]; done) | rfl
set_option maxRecDepth 65536 in
set_option maxHeartbeats 40000000 in
theorem own_ordi_11 (l : Launch) (Z : State) (a0 : Array Value) (hw : ∀ d ∈ tables_1, d.before a0 Z = true) (ws : List Jvm.Cond) (h0 : Heap) (n0 : Nat) (Z0 : n0 ≤ h0.size) (ad : Nat → Addr) (a_VALUES : Addr) (k_VALUES : ClassId) (W : OwnWd Z h0 ad a_VALUES k_VALUES) :
    MetFree l (⟨"java/lang/Enum", "ordinal", "()I"⟩ : MethodName) (head1 (Jvm.Cond.code (⟨"java/lang/Enum", "ordinal", "()I"⟩ : MethodName) jdk_37_method_2_code 1 (some .int) :: ws) ({ frames := 0, cells := 0, slots := 0, locals := 0 } : Room)) (fun a U => a = #[(.ref (ad 8))] ∧ Z.Warmed39 U.vm ∧ U.heap = h0) (fun _ _ _ _ _ => True) (fun _ U o U' => ∃ v L, o = .returned v ∧ QV (some (.int (11 : Int32))) h0 n0 v U'.heap L ∧ FrameEnd U o U' L ({ frames := 0, cells := 0, slots := 0, locals := 0 } : Room).cells ({ frames := 0, cells := 0, slots := 0, locals := 0 } : Room).slots) := by
  refine MetFree.of_bodySF (plainFor_of_name own_pn_java_lang_Enum) hisR ?_
  intro p e s m args below meth c s₁ Bd hml0 hP hK
  obtain ⟨rfl, hZ, hh⟩ := hP
  have hx := Bd.exec
  have hby := Bd.bytes
  have hml : c.maxLocals = 1 := hml0
  have hown : s.vm.findClass "java/lang/Enum" = some m.cls := findClass_of_methodNamed Bd.named
  have hnm := (name_of_methodNamed Bd.named Bd.method).1
  have X0 : Stand p l e ({ frames := 0, cells := 0, slots := 0, locals := 0 } : Room) s m #[(.ref (ad 8))] below meth c s₁ [] 0 0 := Stand.of_body Bd
  have e0 : s₁.heap = h0 := by rw [← hh, Bd.state]; rfl
  have N0 := Fr.nil n0
  have pre0 : ∀ t, Steps p.tables e below (s₁.setTop (mkF m 0 #[.val (.ref (ad 8))] [])) t → Steps p.tables e below (s₁.setTop (entryFrame m #[(.ref (ad 8))] 1)) t := fun t k => castTop (own_ef_own_ordi_11 m) k
  obtain ⟨T1, X1, e1, st1⟩ := getF X0 hx hZ hown (host := "") (Or.inl (hw _ (List.mem_of_getElem? (i := 15) rfl))) Via.refl e0 (own_F_SINGLE_QUOTE_ordinal W) (g := (mkF m 1 #[.val (.ref (ad 8))] [(.ref (ad 8))])) rfl rfl (hb hby own_d_jdk_37_method_2_code_1)
  have ch2 : ∀ t, Steps p.tables e below (T1.setTop (mkF m 4 #[.val (.ref (ad 8))] [(.int (11 : Int32))])) t → Steps p.tables e below (s₁.setTop (entryFrame m #[(.ref (ad 8))] 1)) t := fun t k => pre0 t (by
      show Steps p.tables e below (s₁.setTop (mkF m 0 #[.val (.ref (ad 8))] [])) t
      refine XS.aloadN X0.here hx rfl (hb hby own_d_jdk_37_method_2_code_0) rfl rfl ?_
      show Steps p.tables e below (s₁.setTop (mkF m 1 #[.val (.ref (ad 8))] [(.ref (ad 8))])) t
      exact st1 t k)
  obtain ⟨fs, hr, hrun, hended, hW, hsame⟩ := X1.leave (v := some (.int (11 : Int32))) (fun h => by rw [Bd.returns] at h; cases h)
  refine ⟨_, _, ch2 _ ?_, hrun, hended, _, _, rfl, ?_, ⟨_, rfl⟩, hW, hsame.mono (by decide) (by decide)⟩
  · show Steps p.tables e below (T1.setTop (mkF m 4 #[.val (.ref (ad 8))] [(.int (11 : Int32))])) _
    exact retI X1 hx Bd.returns (hb hby own_d_jdk_37_method_2_code_4) hr
  · show QV (some (.int (11 : Int32))) h0 n0 _ T1.heap _
    rw [e1]
    exact ⟨rfl, N0, rfl⟩
theorem own_ef_own_law_11 (m : MethodId) {x0 : Int32} : entryFrame m #[(.int x0)] maxLocals = mkF m 0 #[.val (.int x0), .unset, .unset, .unset] [] := by first | (simp [entryFrame, mkF, argsToLocals, Value.category, maxLocals]; done) | rfl
set_option maxRecDepth 65536 in
set_option maxHeartbeats 40000000 in
theorem own_law_11 (l : Launch) (Z : State) (a0 : Array Value) (hw : ∀ d ∈ tables_1, d.before a0 Z = true) (ws : List Jvm.Cond) (h0 : Heap) (n0 : Nat) (Z0 : n0 ≤ h0.size) (p1 : Int32) (hk : (p1 &&& (2147483647 : Int32)) % (19 : Int32) = (11 : Int32)) (ad : Nat → Addr) (a_VALUES : Addr) (k_VALUES : ClassId) (W : OwnWd Z h0 ad a_VALUES k_VALUES) :
    MetFree l x (head1 (Jvm.Cond.code x code maxLocals ret :: ws) room_1) (fun a U => a = #[(.int p1)] ∧ Z.Warmed39 U.vm ∧ U.heap = h0) (fun _ _ _ _ _ => True) (fun _ U o U' => ∃ v L, o = .returned v ∧ QN (some (.int (1 : Int32))) n0 v U'.heap L ∧ FrameEnd U o U' L room_1.cells room_1.slots) := by
  refine MetFree.of_bodySF (plainFor_of_name own_pn_com_example_libsnippet_libsnippet_WordBreakIsIgnorablePinLaw) hisR ?_
  intro p e s m args below meth c s₁ Bd hml0 hP hK
  obtain ⟨rfl, hZ, hh⟩ := hP
  have hx := Bd.exec
  have hby := Bd.bytes
  have hml : c.maxLocals = 4 := hml0
  have hown : s.vm.findClass "com/example/libsnippet/libsnippet/WordBreakIsIgnorablePinLaw" = some m.cls := findClass_of_methodNamed Bd.named
  have hnm := (name_of_methodNamed Bd.named Bd.method).1
  have X0 : Stand p l e room_1 s m #[(.int p1)] below meth c s₁ [] 0 0 := Stand.of_body Bd
  have e0 : s₁.heap = h0 := by rw [← hh, Bd.state]; rfl
  have N0 := Fr.nil n0
  have pre0 : ∀ t, Steps p.tables e below (s₁.setTop (mkF m 0 #[.val (.int p1), .unset, .unset, .unset] [])) t → Steps p.tables e below (s₁.setTop (entryFrame m #[(.int p1)] maxLocals)) t := fun t k => castTop (own_ef_own_law_11 m) k
  obtain ⟨vv1, _, ⟨T1, L1, kk1, nn1⟩, -, X1, ⟨Lc1, hQ1, l1, y1, z1⟩, st1⟩ := Jvm.LawKit.callS X0 hx (y := (⟨"com/example/libsnippet/libsnippet/WordBreak", "ofOrdinal", "(I)Lcom/example/libsnippet/libsnippet/WordBreak;"⟩ : MethodName)) hown (mvT hZ (hw _ (List.mem_of_getElem? (i := 1) rfl))) (mvT hZ (hw _ (List.mem_of_getElem? (i := 2) rfl))) (mvT hZ (hw _ (List.mem_of_getElem? (i := 3) rfl))) (mvT hZ (hw _ (List.mem_of_getElem? (i := 4) rfl))) (by decide) (backOf (W := 0) (own_pick_11 l Z a0 hw [] h0 n0 Z0 ad a_VALUES k_VALUES W) hZ (hw _ (List.mem_of_getElem? (i := 4) rfl)) (hw _ (List.mem_of_getElem? (i := 3) rfl)) (by decide) (by decide)) (g := (mkF m 9 #[.val (.int p1), .val (.int (11 : Int32)), .unset, .unset] [(.int (11 : Int32))])) rfl (by rw [hml]; rfl) (argsL := [(.int (11 : Int32))]) (rest := []) (lenOf own_pd__I_Lcom_example_libsnippet_libsnippet_WordBreak_ rfl) rfl (by show 2 * 0 + _ ≤ _; exact Nat.le_of_eq rfl) (hb hby at_9) (fun _ _ => ⟨rfl, e0, (by decide : 0 + 0 ≤ _), (by decide : 0 + 0 ≤ _)⟩)
  dsimp only [Pt.U, Pt.locs, Pt.cells, Pt.slots] at X1 l1 y1 z1 st1 hQ1
  subst l1 y1 z1
  obtain ⟨rfl, Nq1, e1⟩ := hQ1
  have N1 := Fr.app N0 Nq1
  have ch2 : ∀ t, Steps p.tables e below (T1.setTop (mkF m 12 #[.val (.int p1), .val (.int (11 : Int32)), .unset, .unset] [(.ref (ad 8))])) t → Steps p.tables e below (s₁.setTop (entryFrame m #[(.int p1)] maxLocals)) t := fun t k => pre0 t (by
      show Steps p.tables e below (s₁.setTop (mkF m 0 #[.val (.int p1), .unset, .unset, .unset] [])) t
      refine XS.iloadN X0.here hx rfl (hb hby at_0) rfl ?_
      show Steps p.tables e below (s₁.setTop (mkF m 1 #[.val (.int p1), .unset, .unset, .unset] [(.int p1)])) t
      refine X0.ldcInt hx hown (mvT hZ (hw _ (List.mem_of_getElem? (i := 0) rfl))) (g := (mkF m 1 #[.val (.int p1), .unset, .unset, .unset] [(.int p1)])) rfl (hb hby at_1) _ ?_
      show Steps p.tables e below (s₁.setTop (mkF m 3 #[.val (.int p1), .unset, .unset, .unset] [(.int (2147483647 : Int32)), (.int p1)])) t
      refine XS.iand X0.here hx rfl (hb hby at_3) rfl ?_
      show Steps p.tables e below (s₁.setTop (mkF m 4 #[.val (.int p1), .unset, .unset, .unset] [(.int (p1 &&& (2147483647 : Int32)))])) t
      refine XS.bipush X0.here hx rfl (hb hby at_4) ?_
      show Steps p.tables e below (s₁.setTop (mkF m 6 #[.val (.int p1), .unset, .unset, .unset] [(.int (19 : Int32)), (.int (p1 &&& (2147483647 : Int32)))])) t
      refine Jvm.RoadKit.iremM (g := (mkF m 6 #[.val (.int p1), .unset, .unset, .unset] [(.int (19 : Int32)), (.int (p1 &&& (2147483647 : Int32)))])) X0 hx rfl (hb hby at_6) rfl (by decide) ?_
      rw [hk]
      show Steps p.tables e below (s₁.setTop (mkF m 7 #[.val (.int p1), .unset, .unset, .unset] [(.int (11 : Int32))])) t
      refine XS.istoreN X0.here hx rfl (hb hby at_7) rfl (l' := #[.val (.int p1), .val (.int (11 : Int32)), .unset, .unset]) rfl ?_
      show Steps p.tables e below (s₁.setTop (mkF m 8 #[.val (.int p1), .val (.int (11 : Int32)), .unset, .unset] [])) t
      refine XS.iloadN X0.here hx rfl (hb hby at_8) rfl ?_
      show Steps p.tables e below (s₁.setTop (mkF m 9 #[.val (.int p1), .val (.int (11 : Int32)), .unset, .unset] [(.int (11 : Int32))])) t
      exact st1 t k)
  obtain ⟨cq3, kq3, qa3, qb3, qc3⟩ := isOf hZ e1 (own_E_SINGLE_QUOTE W)
  obtain ⟨vv4, _, ⟨T4, L4, kk4, nn4⟩, -, X4, ⟨Lc4, hQ4, l4, y4, z4⟩, st4⟩ := X1.virtualBackUp hx (x := (⟨"com/example/libsnippet/libsnippet/WordBreak", "ordinal", "()I"⟩ : MethodName)) (y := (⟨"java/lang/Enum", "ordinal", "()I"⟩ : MethodName)) (owner := "java/lang/Enum") hown (mvT hZ (hw _ (List.mem_of_getElem? (i := 8) rfl))) (mvT hZ (hw _ (List.mem_of_getElem? (i := 9) rfl))) (mvT hZ (hw _ (List.mem_of_getElem? (i := 10) rfl))) (by decide) (mvT hZ (hw _ (List.mem_of_getElem? (i := 12) rfl))) (mvT hZ (hw _ (List.mem_of_getElem? (i := 11) rfl))) (backOf (W := 0) (own_ordi_11 l Z a0 hw [] h0 n0 Z0 ad a_VALUES k_VALUES W) hZ (hw _ (List.mem_of_getElem? (i := 14) rfl)) (hw _ (List.mem_of_getElem? (i := 13) rfl)) (by decide) (by decide)) qa3 qc3 (g := (mkF m 36 #[.val (.int p1), .val (.int (11 : Int32)), .val (.ref (ad 8)), .val (.int (0 : Int32))] [(.ref (ad 8))])) rfl (by rw [hml]; rfl) (Steps.refl _) (argsL := []) (rest := []) (lenOf own_pd___I rfl) rfl (by show 2 * 0 + _ ≤ _; exact Nat.le_of_eq rfl) (hb hby at_36) (fun _ _ => ⟨rfl, e1, (by decide : 0 + 0 ≤ _), (by decide : 0 + 0 ≤ _)⟩)
  dsimp only [Pt.U, Pt.locs, Pt.cells, Pt.slots] at X4 l4 y4 z4 st4 hQ4
  subst l4 y4 z4
  obtain ⟨rfl, Nq4, e4⟩ := hQ4
  have N4 := Fr.app N1 Nq4
  have ch5 : ∀ t, Steps p.tables e below (T4.setTop (mkF m 39 #[.val (.int p1), .val (.int (11 : Int32)), .val (.ref (ad 8)), .val (.int (0 : Int32))] [(.int (11 : Int32))])) t → Steps p.tables e below (s₁.setTop (entryFrame m #[(.int p1)] maxLocals)) t := fun t k => ch2 t (by
      show Steps p.tables e below (T1.setTop (mkF m 12 #[.val (.int p1), .val (.int (11 : Int32)), .unset, .unset] [(.ref (ad 8))])) t
      refine XS.astoreN X1.here hx rfl (hb hby at_12) rfl rfl (l' := #[.val (.int p1), .val (.int (11 : Int32)), .val (.ref (ad 8)), .unset]) rfl ?_
      show Steps p.tables e below (T1.setTop (mkF m 13 #[.val (.int p1), .val (.int (11 : Int32)), .val (.ref (ad 8)), .unset] [])) t
      refine XS.iloadN X1.here hx rfl (hb hby at_13) rfl ?_
      show Steps p.tables e below (T1.setTop (mkF m 14 #[.val (.int p1), .val (.int (11 : Int32)), .val (.ref (ad 8)), .unset] [(.int (11 : Int32))])) t
      refine XS.iconst X1.here hx rfl (hb hby at_14) ?_
      show Steps p.tables e below (T1.setTop (mkF m 15 #[.val (.int p1), .val (.int (11 : Int32)), .val (.ref (ad 8)), .unset] [(.int (4 : Int32)), (.int (11 : Int32))])) t
      refine XS.icmpNo X1.here hx rfl (hb hby at_15) rfl (feq (by decide : ¬ (11 : Int32) = (4 : Int32))).1 ?_
      show Steps p.tables e below (T1.setTop (mkF m 18 #[.val (.int p1), .val (.int (11 : Int32)), .val (.ref (ad 8)), .unset] [])) t
      refine XS.iloadN X1.here hx rfl (hb hby at_18) rfl ?_
      show Steps p.tables e below (T1.setTop (mkF m 19 #[.val (.int p1), .val (.int (11 : Int32)), .val (.ref (ad 8)), .unset] [(.int (11 : Int32))])) t
      refine XS.iconst X1.here hx rfl (hb hby at_19) ?_
      show Steps p.tables e below (T1.setTop (mkF m 20 #[.val (.int p1), .val (.int (11 : Int32)), .val (.ref (ad 8)), .unset] [(.int (5 : Int32)), (.int (11 : Int32))])) t
      refine XS.icmpNo X1.here hx rfl (hb hby at_20) rfl (feq (by decide : ¬ (11 : Int32) = (5 : Int32))).1 ?_
      show Steps p.tables e below (T1.setTop (mkF m 23 #[.val (.int p1), .val (.int (11 : Int32)), .val (.ref (ad 8)), .unset] [])) t
      refine XS.iloadN X1.here hx rfl (hb hby at_23) rfl ?_
      show Steps p.tables e below (T1.setTop (mkF m 24 #[.val (.int p1), .val (.int (11 : Int32)), .val (.ref (ad 8)), .unset] [(.int (11 : Int32))])) t
      refine XS.bipush X1.here hx rfl (hb hby at_24) ?_
      show Steps p.tables e below (T1.setTop (mkF m 26 #[.val (.int p1), .val (.int (11 : Int32)), .val (.ref (ad 8)), .unset] [(.int (7 : Int32)), (.int (11 : Int32))])) t
      refine XS.icmpYes X1.here hx rfl (pc0 := 26) (pc' := 33) rfl (hb hby at_26) rfl (feq (by decide : ¬ (11 : Int32) = (7 : Int32))).2 (by decide) (by decide) ?_
      show Steps p.tables e below (T1.setTop (mkF m 33 #[.val (.int p1), .val (.int (11 : Int32)), .val (.ref (ad 8)), .unset] [])) t
      refine XS.iconst X1.here hx rfl (hb hby at_33) ?_
      show Steps p.tables e below (T1.setTop (mkF m 34 #[.val (.int p1), .val (.int (11 : Int32)), .val (.ref (ad 8)), .unset] [(.int (0 : Int32))])) t
      refine XS.istoreN X1.here hx rfl (hb hby at_34) rfl (l' := #[.val (.int p1), .val (.int (11 : Int32)), .val (.ref (ad 8)), .val (.int (0 : Int32))]) rfl ?_
      show Steps p.tables e below (T1.setTop (mkF m 35 #[.val (.int p1), .val (.int (11 : Int32)), .val (.ref (ad 8)), .val (.int (0 : Int32))] [])) t
      refine XS.aloadN X1.here hx rfl (hb hby at_35) rfl rfl ?_
      show Steps p.tables e below (T1.setTop (mkF m 36 #[.val (.int p1), .val (.int (11 : Int32)), .val (.ref (ad 8)), .val (.int (0 : Int32))] [(.ref (ad 8))])) t
      exact st4.trans k)
  obtain ⟨cq6, kq6, qa6, qb6, qc6⟩ := isOf hZ e4 (own_E_SINGLE_QUOTE W)
  obtain ⟨vv7, _, ⟨T7, L7, kk7, nn7⟩, -, X7, ⟨Lc7, hQ7, l7, y7, z7⟩, st7⟩ := X4.virtualBack hx (y := (⟨"com/example/libsnippet/libsnippet/WordBreak", "isIgnorable", "()Z"⟩ : MethodName)) (z := (⟨"com/example/libsnippet/libsnippet/WordBreak", "isIgnorable", "()Z"⟩ : MethodName)) hown (mvT hZ (hw _ (List.mem_of_getElem? (i := 17) rfl))) (mvT hZ (hw _ (List.mem_of_getElem? (i := 18) rfl))) (notFace_of_selects (args := #[]) (mvT hZ (hw _ (List.mem_of_getElem? (i := 20) rfl)))) (mvT hZ (hw _ (List.mem_of_getElem? (i := 20) rfl))) (mvT hZ (hw _ (List.mem_of_getElem? (i := 19) rfl))) (by decide) (backOf (W := 0) (own_pred_11 l Z a0 hw [] h0 n0 Z0 ad a_VALUES k_VALUES W) hZ (hw _ (List.mem_of_getElem? (i := 21) rfl)) (hw _ (List.mem_of_getElem? (i := 3) rfl)) (by decide) (by decide)) qa6 qc6 (g := (mkF m 44 #[.val (.int p1), .val (.int (11 : Int32)), .val (.ref (ad 8)), .val (.int (0 : Int32))] [(.ref (ad 8))])) rfl (by rw [hml]; rfl) (Steps.refl _) (argsL := []) (rest := []) (lenOf own_pd___Z rfl) rfl (by show 2 * 0 + _ ≤ _; exact Nat.le_of_eq rfl) (hb hby at_44) (fun _ _ => ⟨rfl, e4, (by decide : 0 + 0 ≤ _), (by decide : 0 + 0 ≤ _)⟩)
  dsimp only [Pt.U, Pt.locs, Pt.cells, Pt.slots] at X7 l7 y7 z7 st7 hQ7
  subst l7 y7 z7
  obtain ⟨rfl, Nq7, e7⟩ := hQ7
  have N7 := Fr.app N4 Nq7
  have ch8 : ∀ t, Steps p.tables e below (T7.setTop (mkF m 47 #[.val (.int p1), .val (.int (11 : Int32)), .val (.ref (ad 8)), .val (.int (0 : Int32))] [(.int (0 : Int32))])) t → Steps p.tables e below (s₁.setTop (entryFrame m #[(.int p1)] maxLocals)) t := fun t k => ch5 t (by
      show Steps p.tables e below (T4.setTop (mkF m 39 #[.val (.int p1), .val (.int (11 : Int32)), .val (.ref (ad 8)), .val (.int (0 : Int32))] [(.int (11 : Int32))])) t
      refine XS.iloadN X4.here hx rfl (hb hby at_39) rfl ?_
      show Steps p.tables e below (T4.setTop (mkF m 40 #[.val (.int p1), .val (.int (11 : Int32)), .val (.ref (ad 8)), .val (.int (0 : Int32))] [(.int (11 : Int32)), (.int (11 : Int32))])) t
      refine XS.icmpNo X4.here hx rfl (hb hby at_40) rfl (teq (by decide : (11 : Int32) = (11 : Int32))).2 ?_
      show Steps p.tables e below (T4.setTop (mkF m 43 #[.val (.int p1), .val (.int (11 : Int32)), .val (.ref (ad 8)), .val (.int (0 : Int32))] [])) t
      refine XS.aloadN X4.here hx rfl (hb hby at_43) rfl rfl ?_
      show Steps p.tables e below (T4.setTop (mkF m 44 #[.val (.int p1), .val (.int (11 : Int32)), .val (.ref (ad 8)), .val (.int (0 : Int32))] [(.ref (ad 8))])) t
      exact st7.trans k)
  have ch9 : ∀ t, Steps p.tables e below (T7.setTop (mkF m 56 #[.val (.int p1), .val (.int (11 : Int32)), .val (.ref (ad 8)), .val (.int (0 : Int32))] [(.int (1 : Int32))])) t → Steps p.tables e below (s₁.setTop (entryFrame m #[(.int p1)] maxLocals)) t := fun t k => ch8 t (by
      show Steps p.tables e below (T7.setTop (mkF m 47 #[.val (.int p1), .val (.int (11 : Int32)), .val (.ref (ad 8)), .val (.int (0 : Int32))] [(.int (0 : Int32))])) t
      refine XS.iloadN X7.here hx rfl (hb hby at_47) rfl ?_
      show Steps p.tables e below (T7.setTop (mkF m 48 #[.val (.int p1), .val (.int (11 : Int32)), .val (.ref (ad 8)), .val (.int (0 : Int32))] [(.int (0 : Int32)), (.int (0 : Int32))])) t
      refine XS.icmpNo X7.here hx rfl (hb hby at_48) rfl (teq (by decide : (0 : Int32) = (0 : Int32))).2 ?_
      show Steps p.tables e below (T7.setTop (mkF m 51 #[.val (.int p1), .val (.int (11 : Int32)), .val (.ref (ad 8)), .val (.int (0 : Int32))] [])) t
      refine XS.iconst X7.here hx rfl (hb hby at_51) ?_
      show Steps p.tables e below (T7.setTop (mkF m 52 #[.val (.int p1), .val (.int (11 : Int32)), .val (.ref (ad 8)), .val (.int (0 : Int32))] [(.int (1 : Int32))])) t
      refine XS.goto X7.here hx rfl (pc0 := 52) (pc' := 56) rfl (hb hby at_52) (by decide) (by decide) ?_
      exact k)
  obtain ⟨fs, hr, hrun, hended, hW, hsame⟩ := X7.leave (v := some (.int (1 : Int32))) (fun h => by rw [Bd.returns] at h; cases h)
  refine ⟨_, _, ch9 _ ?_, hrun, hended, _, _, rfl, ?_, ⟨_, rfl⟩, hW, hsame.mono (by decide) (by decide)⟩
  · show Steps p.tables e below (T7.setTop (mkF m 56 #[.val (.int p1), .val (.int (11 : Int32)), .val (.ref (ad 8)), .val (.int (0 : Int32))] [(.int (1 : Int32))])) _
    exact retN X7 hx (t := .boolean) Bd.returns (by simp) (hb hby at_56) hr
  · show QN (some (.int (1 : Int32))) n0 _ T7.heap _
    rw [e7]
    exact ⟨rfl, N7⟩
theorem own_ef_own_pick_12 (m : MethodId) {x0 : Int32} : entryFrame m #[(.int x0)] 1 = mkF m 0 #[.val (.int x0)] [] := by first | (simp [entryFrame, mkF, argsToLocals, Value.category, maxLocals]; done) | rfl
set_option maxRecDepth 65536 in
set_option maxHeartbeats 40000000 in
theorem own_pick_12 (l : Launch) (Z : State) (a0 : Array Value) (hw : ∀ d ∈ tables_1, d.before a0 Z = true) (ws : List Jvm.Cond) (h0 : Heap) (n0 : Nat) (Z0 : n0 ≤ h0.size) (ad : Nat → Addr) (a_VALUES : Addr) (k_VALUES : ClassId) (W : OwnWd Z h0 ad a_VALUES k_VALUES) :
    MetFree l (⟨"com/example/libsnippet/libsnippet/WordBreak", "ofOrdinal", "(I)Lcom/example/libsnippet/libsnippet/WordBreak;"⟩ : MethodName) (head1 (Jvm.Cond.code (⟨"com/example/libsnippet/libsnippet/WordBreak", "ofOrdinal", "(I)Lcom/example/libsnippet/libsnippet/WordBreak;"⟩ : MethodName) prog_11_method_5_code 1 (some (.object "com/example/libsnippet/libsnippet/WordBreak")) :: ws) ({ frames := 0, cells := 0, slots := 0, locals := 0 } : Room)) (fun a U => a = #[(.int (12 : Int32))] ∧ Z.Warmed39 U.vm ∧ U.heap = h0) (fun _ _ _ _ _ => True) (fun _ U o U' => ∃ v L, o = .returned v ∧ QV (some (.ref (ad 17))) h0 n0 v U'.heap L ∧ FrameEnd U o U' L ({ frames := 0, cells := 0, slots := 0, locals := 0 } : Room).cells ({ frames := 0, cells := 0, slots := 0, locals := 0 } : Room).slots) := by
  refine MetFree.of_bodySF (plainFor_of_name own_pn_com_example_libsnippet_libsnippet_WordBreak) hisR ?_
  intro p e s m args below meth c s₁ Bd hml0 hP hK
  obtain ⟨rfl, hZ, hh⟩ := hP
  have hx := Bd.exec
  have hby := Bd.bytes
  have hml : c.maxLocals = 1 := hml0
  have hown : s.vm.findClass "com/example/libsnippet/libsnippet/WordBreak" = some m.cls := findClass_of_methodNamed Bd.named
  have hnm := (name_of_methodNamed Bd.named Bd.method).1
  have X0 : Stand p l e ({ frames := 0, cells := 0, slots := 0, locals := 0 } : Room) s m #[(.int (12 : Int32))] below meth c s₁ [] 0 0 := Stand.of_body Bd
  have e0 : s₁.heap = h0 := by rw [← hh, Bd.state]; rfl
  have N0 := Fr.nil n0
  have pre0 : ∀ t, Steps p.tables e below (s₁.setTop (mkF m 0 #[.val (.int (12 : Int32))] [])) t → Steps p.tables e below (s₁.setTop (entryFrame m #[(.int (12 : Int32))] 1)) t := fun t k => castTop (own_ef_own_pick_12 m) k
  obtain ⟨T1, X1, e1, st1⟩ := getS2 X0 hx hZ hown (host := "") (Or.inl (hw _ (List.mem_of_getElem? (i := 5) rfl))) Via.refl e0 (own_S_VALUES W) (g := (mkF m 0 #[.val (.int (12 : Int32))] [])) rfl (hb hby own_d_prog_11_method_5_code_0)
  have ch2 : ∀ t, Steps p.tables e below (T1.setTop (mkF m 3 #[.val (.int (12 : Int32))] [(.ref a_VALUES)])) t → Steps p.tables e below (s₁.setTop (entryFrame m #[(.int (12 : Int32))] 1)) t := fun t k => pre0 t (by
      show Steps p.tables e below (s₁.setTop (mkF m 0 #[.val (.int (12 : Int32))] [])) t
      exact st1 t k)
  obtain ⟨cl3, Ar3, -, Sz3, Ng3, Ha3, -⟩ := (own_V_VALUES W)
  have hin3 : ¬ ((12 : Int32) < 0 ∨ cl3.slots.size ≤ ((12 : Int32)).toNatClampNeg) := inb_of Sz3 (by decide)
  have hat3 : cl3.slots[((12 : Int32)).toNatClampNeg]? = some (.ref (ad 17)) := Ha3.at hin3 rfl
  have ch4 : ∀ t, Steps p.tables e below (T1.setTop (mkF m 5 #[.val (.int (12 : Int32))] [(.ref (ad 17))])) t → Steps p.tables e below (s₁.setTop (entryFrame m #[(.int (12 : Int32))] 1)) t := fun t k => ch2 t (by
      show Steps p.tables e below (T1.setTop (mkF m 3 #[.val (.int (12 : Int32))] [(.ref a_VALUES)])) t
      refine XS.iloadN X1.here hx rfl (hb hby own_d_prog_11_method_5_code_3) rfl ?_
      show Steps p.tables e below (T1.setTop (mkF m 4 #[.val (.int (12 : Int32))] [(.int (12 : Int32)), (.ref a_VALUES)])) t
      refine X1.aaload hx (j := (12 : Int32)) (v := (.ref (ad 17))) (by rw [e1]; exact Ar3.1) (State.isArrayOf_alike hZ.alike Ar3.2.1) rfl Ar3.2.2 hin3 hat3 (g := (mkF m 4 #[.val (.int (12 : Int32))] [(.int (12 : Int32)), (.ref a_VALUES)])) rfl rfl (hb hby own_d_prog_11_method_5_code_4) _ ?_
      exact k)
  obtain ⟨fs, hr, hrun, hended, hW, hsame⟩ := X1.leave (v := some (.ref (ad 17))) (fun h => by rw [Bd.returns] at h; cases h)
  refine ⟨_, _, ch4 _ ?_, hrun, hended, _, _, rfl, ?_, ⟨_, rfl⟩, hW, hsame.mono (by decide) (by decide)⟩
  · show Steps p.tables e below (T1.setTop (mkF m 5 #[.val (.int (12 : Int32))] [(.ref (ad 17))])) _
    jvm_step X1.here [X1.here.top, hx, (hb hby own_d_prog_11_method_5_code_5), X1.method', Bd.returns, Value.isRef, FieldType.isReference]
    first | (intro acts; rw [hr _ acts rfl rfl rfl]) | rw [hr _ _ rfl rfl rfl]
    exact Steps.refl _
  · show QV (some (.ref (ad 17))) h0 n0 _ T1.heap _
    rw [e1]
    exact ⟨rfl, N0, rfl⟩
theorem own_ef_own_pred_12 (m : MethodId) {x0 : Addr} : entryFrame m #[(.ref x0)] 1 = mkF m 0 #[.val (.ref x0)] [] := by first | (simp [entryFrame, mkF, argsToLocals, Value.category, maxLocals]; done) | rfl
set_option maxRecDepth 65536 in
set_option maxHeartbeats 40000000 in
theorem own_pred_12 (l : Launch) (Z : State) (a0 : Array Value) (hw : ∀ d ∈ tables_1, d.before a0 Z = true) (ws : List Jvm.Cond) (h0 : Heap) (n0 : Nat) (Z0 : n0 ≤ h0.size) (ad : Nat → Addr) (a_VALUES : Addr) (k_VALUES : ClassId) (W : OwnWd Z h0 ad a_VALUES k_VALUES) :
    MetFree l (⟨"com/example/libsnippet/libsnippet/WordBreak", "isIgnorable", "()Z"⟩ : MethodName) (head1 (Jvm.Cond.code (⟨"com/example/libsnippet/libsnippet/WordBreak", "isIgnorable", "()Z"⟩ : MethodName) prog_11_method_7_code 1 (some .boolean) :: ws) ({ frames := 0, cells := 0, slots := 0, locals := 0 } : Room)) (fun a U => a = #[(.ref (ad 17))] ∧ Z.Warmed39 U.vm ∧ U.heap = h0) (fun _ _ _ _ _ => True) (fun _ U o U' => ∃ v L, o = .returned v ∧ QV (some (.int (0 : Int32))) h0 n0 v U'.heap L ∧ FrameEnd U o U' L ({ frames := 0, cells := 0, slots := 0, locals := 0 } : Room).cells ({ frames := 0, cells := 0, slots := 0, locals := 0 } : Room).slots) := by
  refine MetFree.of_bodySF (plainFor_of_name own_pn_com_example_libsnippet_libsnippet_WordBreak) hisR ?_
  intro p e s m args below meth c s₁ Bd hml0 hP hK
  obtain ⟨rfl, hZ, hh⟩ := hP
  have hx := Bd.exec
  have hby := Bd.bytes
  have hml : c.maxLocals = 1 := hml0
  have hown : s.vm.findClass "com/example/libsnippet/libsnippet/WordBreak" = some m.cls := findClass_of_methodNamed Bd.named
  have hnm := (name_of_methodNamed Bd.named Bd.method).1
  have X0 : Stand p l e ({ frames := 0, cells := 0, slots := 0, locals := 0 } : Room) s m #[(.ref (ad 17))] below meth c s₁ [] 0 0 := Stand.of_body Bd
  have e0 : s₁.heap = h0 := by rw [← hh, Bd.state]; rfl
  have N0 := Fr.nil n0
  have pre0 : ∀ t, Steps p.tables e below (s₁.setTop (mkF m 0 #[.val (.ref (ad 17))] [])) t → Steps p.tables e below (s₁.setTop (entryFrame m #[(.ref (ad 17))] 1)) t := fun t k => castTop (own_ef_own_pred_12 m) k
  obtain ⟨T1, X1, e1, st1⟩ := getS2 X0 hx hZ hown (host := "") (Or.inl (hw _ (List.mem_of_getElem? (i := 22) rfl))) Via.refl e0 (own_S_EXTEND W) (g := (mkF m 1 #[.val (.ref (ad 17))] [(.ref (ad 17))])) rfl (hb hby own_d_prog_11_method_7_code_1)
  have ch2 : ∀ t, Steps p.tables e below (T1.setTop (mkF m 4 #[.val (.ref (ad 17))] [(.ref (ad 1)), (.ref (ad 17))])) t → Steps p.tables e below (s₁.setTop (entryFrame m #[(.ref (ad 17))] 1)) t := fun t k => pre0 t (by
      show Steps p.tables e below (s₁.setTop (mkF m 0 #[.val (.ref (ad 17))] [])) t
      refine XS.aloadN X0.here hx rfl (hb hby own_d_prog_11_method_7_code_0) rfl rfl ?_
      show Steps p.tables e below (s₁.setTop (mkF m 1 #[.val (.ref (ad 17))] [(.ref (ad 17))])) t
      exact st1 t k)
  obtain ⟨T3, X3, e3, st3⟩ := getS2 X1 hx hZ hown (host := "") (Or.inl (hw _ (List.mem_of_getElem? (i := 24) rfl))) Via.refl e1 (own_S_FORMAT W) (g := (mkF m 8 #[.val (.ref (ad 17))] [(.ref (ad 17))])) rfl (hb hby own_d_prog_11_method_7_code_8)
  have ch4 : ∀ t, Steps p.tables e below (T3.setTop (mkF m 11 #[.val (.ref (ad 17))] [(.ref (ad 2)), (.ref (ad 17))])) t → Steps p.tables e below (s₁.setTop (entryFrame m #[(.ref (ad 17))] 1)) t := fun t k => ch2 t (by
      show Steps p.tables e below (T1.setTop (mkF m 4 #[.val (.ref (ad 17))] [(.ref (ad 1)), (.ref (ad 17))])) t
      refine Jvm.RoadKit.acmp (g := (mkF m 4 #[.val (.ref (ad 17))] [(.ref (ad 1)), (.ref (ad 17))])) X1 hx rfl rfl rfl (pc0 := 4) (pc' := 7) (same := false) rfl (hb hby own_d_prog_11_method_7_code_4) rfl (decide_eq_false fun q => (Fld.ne (own_F_DOUBLE_QUOTE_ordinal W) (own_F_EXTEND_ordinal W) (by decide)) (Value.ref.inj q)) (by decide) (by decide) ?_
      show Steps p.tables e below (T1.setTop (mkF m 7 #[.val (.ref (ad 17))] [])) t
      refine XS.aloadN X1.here hx rfl (hb hby own_d_prog_11_method_7_code_7) rfl rfl ?_
      show Steps p.tables e below (T1.setTop (mkF m 8 #[.val (.ref (ad 17))] [(.ref (ad 17))])) t
      exact st3 t k)
  obtain ⟨T5, X5, e5, st5⟩ := getS2 X3 hx hZ hown (host := "") (Or.inl (hw _ (List.mem_of_getElem? (i := 26) rfl))) Via.refl e3 (own_S_ZWJ W) (g := (mkF m 15 #[.val (.ref (ad 17))] [(.ref (ad 17))])) rfl (hb hby own_d_prog_11_method_7_code_15)
  have ch6 : ∀ t, Steps p.tables e below (T5.setTop (mkF m 18 #[.val (.ref (ad 17))] [(.ref (ad 3)), (.ref (ad 17))])) t → Steps p.tables e below (s₁.setTop (entryFrame m #[(.ref (ad 17))] 1)) t := fun t k => ch4 t (by
      show Steps p.tables e below (T3.setTop (mkF m 11 #[.val (.ref (ad 17))] [(.ref (ad 2)), (.ref (ad 17))])) t
      refine Jvm.RoadKit.acmp (g := (mkF m 11 #[.val (.ref (ad 17))] [(.ref (ad 2)), (.ref (ad 17))])) X3 hx rfl rfl rfl (pc0 := 11) (pc' := 14) (same := false) rfl (hb hby own_d_prog_11_method_7_code_11) rfl (decide_eq_false fun q => (Fld.ne (own_F_DOUBLE_QUOTE_ordinal W) (own_F_FORMAT_ordinal W) (by decide)) (Value.ref.inj q)) (by decide) (by decide) ?_
      show Steps p.tables e below (T3.setTop (mkF m 14 #[.val (.ref (ad 17))] [])) t
      refine XS.aloadN X3.here hx rfl (hb hby own_d_prog_11_method_7_code_14) rfl rfl ?_
      show Steps p.tables e below (T3.setTop (mkF m 15 #[.val (.ref (ad 17))] [(.ref (ad 17))])) t
      exact st5 t k)
  have ch7 : ∀ t, Steps p.tables e below (T5.setTop (mkF m 26 #[.val (.ref (ad 17))] [(.int (0 : Int32))])) t → Steps p.tables e below (s₁.setTop (entryFrame m #[(.ref (ad 17))] 1)) t := fun t k => ch6 t (by
      show Steps p.tables e below (T5.setTop (mkF m 18 #[.val (.ref (ad 17))] [(.ref (ad 3)), (.ref (ad 17))])) t
      refine Jvm.RoadKit.acmp (g := (mkF m 18 #[.val (.ref (ad 17))] [(.ref (ad 3)), (.ref (ad 17))])) X5 hx rfl rfl rfl (pc0 := 18) (pc' := 25) (same := false) rfl (hb hby own_d_prog_11_method_7_code_18) rfl (decide_eq_false fun q => (Fld.ne (own_F_DOUBLE_QUOTE_ordinal W) (own_F_ZWJ_ordinal W) (by decide)) (Value.ref.inj q)) (by decide) (by decide) ?_
      show Steps p.tables e below (T5.setTop (mkF m 25 #[.val (.ref (ad 17))] [])) t
      refine XS.iconst X5.here hx rfl (hb hby own_d_prog_11_method_7_code_25) ?_
      exact k)
  obtain ⟨fs, hr, hrun, hended, hW, hsame⟩ := X5.leave (v := some (.int (0 : Int32))) (fun h => by rw [Bd.returns] at h; cases h)
  refine ⟨_, _, ch7 _ ?_, hrun, hended, _, _, rfl, ?_, ⟨_, rfl⟩, hW, hsame.mono (by decide) (by decide)⟩
  · show Steps p.tables e below (T5.setTop (mkF m 26 #[.val (.ref (ad 17))] [(.int (0 : Int32))])) _
    exact retN X5 hx (t := .boolean) Bd.returns (by simp) (hb hby own_d_prog_11_method_7_code_26) hr
  · show QV (some (.int (0 : Int32))) h0 n0 _ T5.heap _
    rw [e5]
    exact ⟨rfl, N0, rfl⟩
theorem own_ef_own_ordi_12 (m : MethodId) {x0 : Addr} : entryFrame m #[(.ref x0)] 1 = mkF m 0 #[.val (.ref x0)] [] := by first | (simp [entryFrame, mkF, argsToLocals, Value.category, maxLocals]; done) | rfl
set_option maxRecDepth 65536 in
set_option maxHeartbeats 40000000 in
theorem own_ordi_12 (l : Launch) (Z : State) (a0 : Array Value) (hw : ∀ d ∈ tables_1, d.before a0 Z = true) (ws : List Jvm.Cond) (h0 : Heap) (n0 : Nat) (Z0 : n0 ≤ h0.size) (ad : Nat → Addr) (a_VALUES : Addr) (k_VALUES : ClassId) (W : OwnWd Z h0 ad a_VALUES k_VALUES) :
    MetFree l (⟨"java/lang/Enum", "ordinal", "()I"⟩ : MethodName) (head1 (Jvm.Cond.code (⟨"java/lang/Enum", "ordinal", "()I"⟩ : MethodName) jdk_37_method_2_code 1 (some .int) :: ws) ({ frames := 0, cells := 0, slots := 0, locals := 0 } : Room)) (fun a U => a = #[(.ref (ad 17))] ∧ Z.Warmed39 U.vm ∧ U.heap = h0) (fun _ _ _ _ _ => True) (fun _ U o U' => ∃ v L, o = .returned v ∧ QV (some (.int (12 : Int32))) h0 n0 v U'.heap L ∧ FrameEnd U o U' L ({ frames := 0, cells := 0, slots := 0, locals := 0 } : Room).cells ({ frames := 0, cells := 0, slots := 0, locals := 0 } : Room).slots) := by
  refine MetFree.of_bodySF (plainFor_of_name own_pn_java_lang_Enum) hisR ?_
  intro p e s m args below meth c s₁ Bd hml0 hP hK
  obtain ⟨rfl, hZ, hh⟩ := hP
  have hx := Bd.exec
  have hby := Bd.bytes
  have hml : c.maxLocals = 1 := hml0
  have hown : s.vm.findClass "java/lang/Enum" = some m.cls := findClass_of_methodNamed Bd.named
  have hnm := (name_of_methodNamed Bd.named Bd.method).1
  have X0 : Stand p l e ({ frames := 0, cells := 0, slots := 0, locals := 0 } : Room) s m #[(.ref (ad 17))] below meth c s₁ [] 0 0 := Stand.of_body Bd
  have e0 : s₁.heap = h0 := by rw [← hh, Bd.state]; rfl
  have N0 := Fr.nil n0
  have pre0 : ∀ t, Steps p.tables e below (s₁.setTop (mkF m 0 #[.val (.ref (ad 17))] [])) t → Steps p.tables e below (s₁.setTop (entryFrame m #[(.ref (ad 17))] 1)) t := fun t k => castTop (own_ef_own_ordi_12 m) k
  obtain ⟨T1, X1, e1, st1⟩ := getF X0 hx hZ hown (host := "") (Or.inl (hw _ (List.mem_of_getElem? (i := 15) rfl))) Via.refl e0 (own_F_DOUBLE_QUOTE_ordinal W) (g := (mkF m 1 #[.val (.ref (ad 17))] [(.ref (ad 17))])) rfl rfl (hb hby own_d_jdk_37_method_2_code_1)
  have ch2 : ∀ t, Steps p.tables e below (T1.setTop (mkF m 4 #[.val (.ref (ad 17))] [(.int (12 : Int32))])) t → Steps p.tables e below (s₁.setTop (entryFrame m #[(.ref (ad 17))] 1)) t := fun t k => pre0 t (by
      show Steps p.tables e below (s₁.setTop (mkF m 0 #[.val (.ref (ad 17))] [])) t
      refine XS.aloadN X0.here hx rfl (hb hby own_d_jdk_37_method_2_code_0) rfl rfl ?_
      show Steps p.tables e below (s₁.setTop (mkF m 1 #[.val (.ref (ad 17))] [(.ref (ad 17))])) t
      exact st1 t k)
  obtain ⟨fs, hr, hrun, hended, hW, hsame⟩ := X1.leave (v := some (.int (12 : Int32))) (fun h => by rw [Bd.returns] at h; cases h)
  refine ⟨_, _, ch2 _ ?_, hrun, hended, _, _, rfl, ?_, ⟨_, rfl⟩, hW, hsame.mono (by decide) (by decide)⟩
  · show Steps p.tables e below (T1.setTop (mkF m 4 #[.val (.ref (ad 17))] [(.int (12 : Int32))])) _
    exact retI X1 hx Bd.returns (hb hby own_d_jdk_37_method_2_code_4) hr
  · show QV (some (.int (12 : Int32))) h0 n0 _ T1.heap _
    rw [e1]
    exact ⟨rfl, N0, rfl⟩
theorem own_ef_own_law_12 (m : MethodId) {x0 : Int32} : entryFrame m #[(.int x0)] maxLocals = mkF m 0 #[.val (.int x0), .unset, .unset, .unset] [] := by first | (simp [entryFrame, mkF, argsToLocals, Value.category, maxLocals]; done) | rfl
set_option maxRecDepth 65536 in
set_option maxHeartbeats 40000000 in
theorem own_law_12 (l : Launch) (Z : State) (a0 : Array Value) (hw : ∀ d ∈ tables_1, d.before a0 Z = true) (ws : List Jvm.Cond) (h0 : Heap) (n0 : Nat) (Z0 : n0 ≤ h0.size) (p1 : Int32) (hk : (p1 &&& (2147483647 : Int32)) % (19 : Int32) = (12 : Int32)) (ad : Nat → Addr) (a_VALUES : Addr) (k_VALUES : ClassId) (W : OwnWd Z h0 ad a_VALUES k_VALUES) :
    MetFree l x (head1 (Jvm.Cond.code x code maxLocals ret :: ws) room_1) (fun a U => a = #[(.int p1)] ∧ Z.Warmed39 U.vm ∧ U.heap = h0) (fun _ _ _ _ _ => True) (fun _ U o U' => ∃ v L, o = .returned v ∧ QN (some (.int (1 : Int32))) n0 v U'.heap L ∧ FrameEnd U o U' L room_1.cells room_1.slots) := by
  refine MetFree.of_bodySF (plainFor_of_name own_pn_com_example_libsnippet_libsnippet_WordBreakIsIgnorablePinLaw) hisR ?_
  intro p e s m args below meth c s₁ Bd hml0 hP hK
  obtain ⟨rfl, hZ, hh⟩ := hP
  have hx := Bd.exec
  have hby := Bd.bytes
  have hml : c.maxLocals = 4 := hml0
  have hown : s.vm.findClass "com/example/libsnippet/libsnippet/WordBreakIsIgnorablePinLaw" = some m.cls := findClass_of_methodNamed Bd.named
  have hnm := (name_of_methodNamed Bd.named Bd.method).1
  have X0 : Stand p l e room_1 s m #[(.int p1)] below meth c s₁ [] 0 0 := Stand.of_body Bd
  have e0 : s₁.heap = h0 := by rw [← hh, Bd.state]; rfl
  have N0 := Fr.nil n0
  have pre0 : ∀ t, Steps p.tables e below (s₁.setTop (mkF m 0 #[.val (.int p1), .unset, .unset, .unset] [])) t → Steps p.tables e below (s₁.setTop (entryFrame m #[(.int p1)] maxLocals)) t := fun t k => castTop (own_ef_own_law_12 m) k
  obtain ⟨vv1, _, ⟨T1, L1, kk1, nn1⟩, -, X1, ⟨Lc1, hQ1, l1, y1, z1⟩, st1⟩ := Jvm.LawKit.callS X0 hx (y := (⟨"com/example/libsnippet/libsnippet/WordBreak", "ofOrdinal", "(I)Lcom/example/libsnippet/libsnippet/WordBreak;"⟩ : MethodName)) hown (mvT hZ (hw _ (List.mem_of_getElem? (i := 1) rfl))) (mvT hZ (hw _ (List.mem_of_getElem? (i := 2) rfl))) (mvT hZ (hw _ (List.mem_of_getElem? (i := 3) rfl))) (mvT hZ (hw _ (List.mem_of_getElem? (i := 4) rfl))) (by decide) (backOf (W := 0) (own_pick_12 l Z a0 hw [] h0 n0 Z0 ad a_VALUES k_VALUES W) hZ (hw _ (List.mem_of_getElem? (i := 4) rfl)) (hw _ (List.mem_of_getElem? (i := 3) rfl)) (by decide) (by decide)) (g := (mkF m 9 #[.val (.int p1), .val (.int (12 : Int32)), .unset, .unset] [(.int (12 : Int32))])) rfl (by rw [hml]; rfl) (argsL := [(.int (12 : Int32))]) (rest := []) (lenOf own_pd__I_Lcom_example_libsnippet_libsnippet_WordBreak_ rfl) rfl (by show 2 * 0 + _ ≤ _; exact Nat.le_of_eq rfl) (hb hby at_9) (fun _ _ => ⟨rfl, e0, (by decide : 0 + 0 ≤ _), (by decide : 0 + 0 ≤ _)⟩)
  dsimp only [Pt.U, Pt.locs, Pt.cells, Pt.slots] at X1 l1 y1 z1 st1 hQ1
  subst l1 y1 z1
  obtain ⟨rfl, Nq1, e1⟩ := hQ1
  have N1 := Fr.app N0 Nq1
  have ch2 : ∀ t, Steps p.tables e below (T1.setTop (mkF m 12 #[.val (.int p1), .val (.int (12 : Int32)), .unset, .unset] [(.ref (ad 17))])) t → Steps p.tables e below (s₁.setTop (entryFrame m #[(.int p1)] maxLocals)) t := fun t k => pre0 t (by
      show Steps p.tables e below (s₁.setTop (mkF m 0 #[.val (.int p1), .unset, .unset, .unset] [])) t
      refine XS.iloadN X0.here hx rfl (hb hby at_0) rfl ?_
      show Steps p.tables e below (s₁.setTop (mkF m 1 #[.val (.int p1), .unset, .unset, .unset] [(.int p1)])) t
      refine X0.ldcInt hx hown (mvT hZ (hw _ (List.mem_of_getElem? (i := 0) rfl))) (g := (mkF m 1 #[.val (.int p1), .unset, .unset, .unset] [(.int p1)])) rfl (hb hby at_1) _ ?_
      show Steps p.tables e below (s₁.setTop (mkF m 3 #[.val (.int p1), .unset, .unset, .unset] [(.int (2147483647 : Int32)), (.int p1)])) t
      refine XS.iand X0.here hx rfl (hb hby at_3) rfl ?_
      show Steps p.tables e below (s₁.setTop (mkF m 4 #[.val (.int p1), .unset, .unset, .unset] [(.int (p1 &&& (2147483647 : Int32)))])) t
      refine XS.bipush X0.here hx rfl (hb hby at_4) ?_
      show Steps p.tables e below (s₁.setTop (mkF m 6 #[.val (.int p1), .unset, .unset, .unset] [(.int (19 : Int32)), (.int (p1 &&& (2147483647 : Int32)))])) t
      refine Jvm.RoadKit.iremM (g := (mkF m 6 #[.val (.int p1), .unset, .unset, .unset] [(.int (19 : Int32)), (.int (p1 &&& (2147483647 : Int32)))])) X0 hx rfl (hb hby at_6) rfl (by decide) ?_
      rw [hk]
      show Steps p.tables e below (s₁.setTop (mkF m 7 #[.val (.int p1), .unset, .unset, .unset] [(.int (12 : Int32))])) t
      refine XS.istoreN X0.here hx rfl (hb hby at_7) rfl (l' := #[.val (.int p1), .val (.int (12 : Int32)), .unset, .unset]) rfl ?_
      show Steps p.tables e below (s₁.setTop (mkF m 8 #[.val (.int p1), .val (.int (12 : Int32)), .unset, .unset] [])) t
      refine XS.iloadN X0.here hx rfl (hb hby at_8) rfl ?_
      show Steps p.tables e below (s₁.setTop (mkF m 9 #[.val (.int p1), .val (.int (12 : Int32)), .unset, .unset] [(.int (12 : Int32))])) t
      exact st1 t k)
  obtain ⟨cq3, kq3, qa3, qb3, qc3⟩ := isOf hZ e1 (own_E_DOUBLE_QUOTE W)
  obtain ⟨vv4, _, ⟨T4, L4, kk4, nn4⟩, -, X4, ⟨Lc4, hQ4, l4, y4, z4⟩, st4⟩ := X1.virtualBackUp hx (x := (⟨"com/example/libsnippet/libsnippet/WordBreak", "ordinal", "()I"⟩ : MethodName)) (y := (⟨"java/lang/Enum", "ordinal", "()I"⟩ : MethodName)) (owner := "java/lang/Enum") hown (mvT hZ (hw _ (List.mem_of_getElem? (i := 8) rfl))) (mvT hZ (hw _ (List.mem_of_getElem? (i := 9) rfl))) (mvT hZ (hw _ (List.mem_of_getElem? (i := 10) rfl))) (by decide) (mvT hZ (hw _ (List.mem_of_getElem? (i := 12) rfl))) (mvT hZ (hw _ (List.mem_of_getElem? (i := 11) rfl))) (backOf (W := 0) (own_ordi_12 l Z a0 hw [] h0 n0 Z0 ad a_VALUES k_VALUES W) hZ (hw _ (List.mem_of_getElem? (i := 14) rfl)) (hw _ (List.mem_of_getElem? (i := 13) rfl)) (by decide) (by decide)) qa3 qc3 (g := (mkF m 36 #[.val (.int p1), .val (.int (12 : Int32)), .val (.ref (ad 17)), .val (.int (0 : Int32))] [(.ref (ad 17))])) rfl (by rw [hml]; rfl) (Steps.refl _) (argsL := []) (rest := []) (lenOf own_pd___I rfl) rfl (by show 2 * 0 + _ ≤ _; exact Nat.le_of_eq rfl) (hb hby at_36) (fun _ _ => ⟨rfl, e1, (by decide : 0 + 0 ≤ _), (by decide : 0 + 0 ≤ _)⟩)
  dsimp only [Pt.U, Pt.locs, Pt.cells, Pt.slots] at X4 l4 y4 z4 st4 hQ4
  subst l4 y4 z4
  obtain ⟨rfl, Nq4, e4⟩ := hQ4
  have N4 := Fr.app N1 Nq4
  have ch5 : ∀ t, Steps p.tables e below (T4.setTop (mkF m 39 #[.val (.int p1), .val (.int (12 : Int32)), .val (.ref (ad 17)), .val (.int (0 : Int32))] [(.int (12 : Int32))])) t → Steps p.tables e below (s₁.setTop (entryFrame m #[(.int p1)] maxLocals)) t := fun t k => ch2 t (by
      show Steps p.tables e below (T1.setTop (mkF m 12 #[.val (.int p1), .val (.int (12 : Int32)), .unset, .unset] [(.ref (ad 17))])) t
      refine XS.astoreN X1.here hx rfl (hb hby at_12) rfl rfl (l' := #[.val (.int p1), .val (.int (12 : Int32)), .val (.ref (ad 17)), .unset]) rfl ?_
      show Steps p.tables e below (T1.setTop (mkF m 13 #[.val (.int p1), .val (.int (12 : Int32)), .val (.ref (ad 17)), .unset] [])) t
      refine XS.iloadN X1.here hx rfl (hb hby at_13) rfl ?_
      show Steps p.tables e below (T1.setTop (mkF m 14 #[.val (.int p1), .val (.int (12 : Int32)), .val (.ref (ad 17)), .unset] [(.int (12 : Int32))])) t
      refine XS.iconst X1.here hx rfl (hb hby at_14) ?_
      show Steps p.tables e below (T1.setTop (mkF m 15 #[.val (.int p1), .val (.int (12 : Int32)), .val (.ref (ad 17)), .unset] [(.int (4 : Int32)), (.int (12 : Int32))])) t
      refine XS.icmpNo X1.here hx rfl (hb hby at_15) rfl (feq (by decide : ¬ (12 : Int32) = (4 : Int32))).1 ?_
      show Steps p.tables e below (T1.setTop (mkF m 18 #[.val (.int p1), .val (.int (12 : Int32)), .val (.ref (ad 17)), .unset] [])) t
      refine XS.iloadN X1.here hx rfl (hb hby at_18) rfl ?_
      show Steps p.tables e below (T1.setTop (mkF m 19 #[.val (.int p1), .val (.int (12 : Int32)), .val (.ref (ad 17)), .unset] [(.int (12 : Int32))])) t
      refine XS.iconst X1.here hx rfl (hb hby at_19) ?_
      show Steps p.tables e below (T1.setTop (mkF m 20 #[.val (.int p1), .val (.int (12 : Int32)), .val (.ref (ad 17)), .unset] [(.int (5 : Int32)), (.int (12 : Int32))])) t
      refine XS.icmpNo X1.here hx rfl (hb hby at_20) rfl (feq (by decide : ¬ (12 : Int32) = (5 : Int32))).1 ?_
      show Steps p.tables e below (T1.setTop (mkF m 23 #[.val (.int p1), .val (.int (12 : Int32)), .val (.ref (ad 17)), .unset] [])) t
      refine XS.iloadN X1.here hx rfl (hb hby at_23) rfl ?_
      show Steps p.tables e below (T1.setTop (mkF m 24 #[.val (.int p1), .val (.int (12 : Int32)), .val (.ref (ad 17)), .unset] [(.int (12 : Int32))])) t
      refine XS.bipush X1.here hx rfl (hb hby at_24) ?_
      show Steps p.tables e below (T1.setTop (mkF m 26 #[.val (.int p1), .val (.int (12 : Int32)), .val (.ref (ad 17)), .unset] [(.int (7 : Int32)), (.int (12 : Int32))])) t
      refine XS.icmpYes X1.here hx rfl (pc0 := 26) (pc' := 33) rfl (hb hby at_26) rfl (feq (by decide : ¬ (12 : Int32) = (7 : Int32))).2 (by decide) (by decide) ?_
      show Steps p.tables e below (T1.setTop (mkF m 33 #[.val (.int p1), .val (.int (12 : Int32)), .val (.ref (ad 17)), .unset] [])) t
      refine XS.iconst X1.here hx rfl (hb hby at_33) ?_
      show Steps p.tables e below (T1.setTop (mkF m 34 #[.val (.int p1), .val (.int (12 : Int32)), .val (.ref (ad 17)), .unset] [(.int (0 : Int32))])) t
      refine XS.istoreN X1.here hx rfl (hb hby at_34) rfl (l' := #[.val (.int p1), .val (.int (12 : Int32)), .val (.ref (ad 17)), .val (.int (0 : Int32))]) rfl ?_
      show Steps p.tables e below (T1.setTop (mkF m 35 #[.val (.int p1), .val (.int (12 : Int32)), .val (.ref (ad 17)), .val (.int (0 : Int32))] [])) t
      refine XS.aloadN X1.here hx rfl (hb hby at_35) rfl rfl ?_
      show Steps p.tables e below (T1.setTop (mkF m 36 #[.val (.int p1), .val (.int (12 : Int32)), .val (.ref (ad 17)), .val (.int (0 : Int32))] [(.ref (ad 17))])) t
      exact st4.trans k)
  obtain ⟨cq6, kq6, qa6, qb6, qc6⟩ := isOf hZ e4 (own_E_DOUBLE_QUOTE W)
  obtain ⟨vv7, _, ⟨T7, L7, kk7, nn7⟩, -, X7, ⟨Lc7, hQ7, l7, y7, z7⟩, st7⟩ := X4.virtualBack hx (y := (⟨"com/example/libsnippet/libsnippet/WordBreak", "isIgnorable", "()Z"⟩ : MethodName)) (z := (⟨"com/example/libsnippet/libsnippet/WordBreak", "isIgnorable", "()Z"⟩ : MethodName)) hown (mvT hZ (hw _ (List.mem_of_getElem? (i := 17) rfl))) (mvT hZ (hw _ (List.mem_of_getElem? (i := 18) rfl))) (notFace_of_selects (args := #[]) (mvT hZ (hw _ (List.mem_of_getElem? (i := 20) rfl)))) (mvT hZ (hw _ (List.mem_of_getElem? (i := 20) rfl))) (mvT hZ (hw _ (List.mem_of_getElem? (i := 19) rfl))) (by decide) (backOf (W := 0) (own_pred_12 l Z a0 hw [] h0 n0 Z0 ad a_VALUES k_VALUES W) hZ (hw _ (List.mem_of_getElem? (i := 21) rfl)) (hw _ (List.mem_of_getElem? (i := 3) rfl)) (by decide) (by decide)) qa6 qc6 (g := (mkF m 44 #[.val (.int p1), .val (.int (12 : Int32)), .val (.ref (ad 17)), .val (.int (0 : Int32))] [(.ref (ad 17))])) rfl (by rw [hml]; rfl) (Steps.refl _) (argsL := []) (rest := []) (lenOf own_pd___Z rfl) rfl (by show 2 * 0 + _ ≤ _; exact Nat.le_of_eq rfl) (hb hby at_44) (fun _ _ => ⟨rfl, e4, (by decide : 0 + 0 ≤ _), (by decide : 0 + 0 ≤ _)⟩)
  dsimp only [Pt.U, Pt.locs, Pt.cells, Pt.slots] at X7 l7 y7 z7 st7 hQ7
  subst l7 y7 z7
  obtain ⟨rfl, Nq7, e7⟩ := hQ7
  have N7 := Fr.app N4 Nq7
  have ch8 : ∀ t, Steps p.tables e below (T7.setTop (mkF m 47 #[.val (.int p1), .val (.int (12 : Int32)), .val (.ref (ad 17)), .val (.int (0 : Int32))] [(.int (0 : Int32))])) t → Steps p.tables e below (s₁.setTop (entryFrame m #[(.int p1)] maxLocals)) t := fun t k => ch5 t (by
      show Steps p.tables e below (T4.setTop (mkF m 39 #[.val (.int p1), .val (.int (12 : Int32)), .val (.ref (ad 17)), .val (.int (0 : Int32))] [(.int (12 : Int32))])) t
      refine XS.iloadN X4.here hx rfl (hb hby at_39) rfl ?_
      show Steps p.tables e below (T4.setTop (mkF m 40 #[.val (.int p1), .val (.int (12 : Int32)), .val (.ref (ad 17)), .val (.int (0 : Int32))] [(.int (12 : Int32)), (.int (12 : Int32))])) t
      refine XS.icmpNo X4.here hx rfl (hb hby at_40) rfl (teq (by decide : (12 : Int32) = (12 : Int32))).2 ?_
      show Steps p.tables e below (T4.setTop (mkF m 43 #[.val (.int p1), .val (.int (12 : Int32)), .val (.ref (ad 17)), .val (.int (0 : Int32))] [])) t
      refine XS.aloadN X4.here hx rfl (hb hby at_43) rfl rfl ?_
      show Steps p.tables e below (T4.setTop (mkF m 44 #[.val (.int p1), .val (.int (12 : Int32)), .val (.ref (ad 17)), .val (.int (0 : Int32))] [(.ref (ad 17))])) t
      exact st7.trans k)
  have ch9 : ∀ t, Steps p.tables e below (T7.setTop (mkF m 56 #[.val (.int p1), .val (.int (12 : Int32)), .val (.ref (ad 17)), .val (.int (0 : Int32))] [(.int (1 : Int32))])) t → Steps p.tables e below (s₁.setTop (entryFrame m #[(.int p1)] maxLocals)) t := fun t k => ch8 t (by
      show Steps p.tables e below (T7.setTop (mkF m 47 #[.val (.int p1), .val (.int (12 : Int32)), .val (.ref (ad 17)), .val (.int (0 : Int32))] [(.int (0 : Int32))])) t
      refine XS.iloadN X7.here hx rfl (hb hby at_47) rfl ?_
      show Steps p.tables e below (T7.setTop (mkF m 48 #[.val (.int p1), .val (.int (12 : Int32)), .val (.ref (ad 17)), .val (.int (0 : Int32))] [(.int (0 : Int32)), (.int (0 : Int32))])) t
      refine XS.icmpNo X7.here hx rfl (hb hby at_48) rfl (teq (by decide : (0 : Int32) = (0 : Int32))).2 ?_
      show Steps p.tables e below (T7.setTop (mkF m 51 #[.val (.int p1), .val (.int (12 : Int32)), .val (.ref (ad 17)), .val (.int (0 : Int32))] [])) t
      refine XS.iconst X7.here hx rfl (hb hby at_51) ?_
      show Steps p.tables e below (T7.setTop (mkF m 52 #[.val (.int p1), .val (.int (12 : Int32)), .val (.ref (ad 17)), .val (.int (0 : Int32))] [(.int (1 : Int32))])) t
      refine XS.goto X7.here hx rfl (pc0 := 52) (pc' := 56) rfl (hb hby at_52) (by decide) (by decide) ?_
      exact k)
  obtain ⟨fs, hr, hrun, hended, hW, hsame⟩ := X7.leave (v := some (.int (1 : Int32))) (fun h => by rw [Bd.returns] at h; cases h)
  refine ⟨_, _, ch9 _ ?_, hrun, hended, _, _, rfl, ?_, ⟨_, rfl⟩, hW, hsame.mono (by decide) (by decide)⟩
  · show Steps p.tables e below (T7.setTop (mkF m 56 #[.val (.int p1), .val (.int (12 : Int32)), .val (.ref (ad 17)), .val (.int (0 : Int32))] [(.int (1 : Int32))])) _
    exact retN X7 hx (t := .boolean) Bd.returns (by simp) (hb hby at_56) hr
  · show QN (some (.int (1 : Int32))) n0 _ T7.heap _
    rw [e7]
    exact ⟨rfl, N7⟩
theorem own_ef_own_pick_13 (m : MethodId) {x0 : Int32} : entryFrame m #[(.int x0)] 1 = mkF m 0 #[.val (.int x0)] [] := by first | (simp [entryFrame, mkF, argsToLocals, Value.category, maxLocals]; done) | rfl
set_option maxRecDepth 65536 in
set_option maxHeartbeats 40000000 in
theorem own_pick_13 (l : Launch) (Z : State) (a0 : Array Value) (hw : ∀ d ∈ tables_1, d.before a0 Z = true) (ws : List Jvm.Cond) (h0 : Heap) (n0 : Nat) (Z0 : n0 ≤ h0.size) (ad : Nat → Addr) (a_VALUES : Addr) (k_VALUES : ClassId) (W : OwnWd Z h0 ad a_VALUES k_VALUES) :
    MetFree l (⟨"com/example/libsnippet/libsnippet/WordBreak", "ofOrdinal", "(I)Lcom/example/libsnippet/libsnippet/WordBreak;"⟩ : MethodName) (head1 (Jvm.Cond.code (⟨"com/example/libsnippet/libsnippet/WordBreak", "ofOrdinal", "(I)Lcom/example/libsnippet/libsnippet/WordBreak;"⟩ : MethodName) prog_11_method_5_code 1 (some (.object "com/example/libsnippet/libsnippet/WordBreak")) :: ws) ({ frames := 0, cells := 0, slots := 0, locals := 0 } : Room)) (fun a U => a = #[(.int (13 : Int32))] ∧ Z.Warmed39 U.vm ∧ U.heap = h0) (fun _ _ _ _ _ => True) (fun _ U o U' => ∃ v L, o = .returned v ∧ QV (some (.ref (ad 18))) h0 n0 v U'.heap L ∧ FrameEnd U o U' L ({ frames := 0, cells := 0, slots := 0, locals := 0 } : Room).cells ({ frames := 0, cells := 0, slots := 0, locals := 0 } : Room).slots) := by
  refine MetFree.of_bodySF (plainFor_of_name own_pn_com_example_libsnippet_libsnippet_WordBreak) hisR ?_
  intro p e s m args below meth c s₁ Bd hml0 hP hK
  obtain ⟨rfl, hZ, hh⟩ := hP
  have hx := Bd.exec
  have hby := Bd.bytes
  have hml : c.maxLocals = 1 := hml0
  have hown : s.vm.findClass "com/example/libsnippet/libsnippet/WordBreak" = some m.cls := findClass_of_methodNamed Bd.named
  have hnm := (name_of_methodNamed Bd.named Bd.method).1
  have X0 : Stand p l e ({ frames := 0, cells := 0, slots := 0, locals := 0 } : Room) s m #[(.int (13 : Int32))] below meth c s₁ [] 0 0 := Stand.of_body Bd
  have e0 : s₁.heap = h0 := by rw [← hh, Bd.state]; rfl
  have N0 := Fr.nil n0
  have pre0 : ∀ t, Steps p.tables e below (s₁.setTop (mkF m 0 #[.val (.int (13 : Int32))] [])) t → Steps p.tables e below (s₁.setTop (entryFrame m #[(.int (13 : Int32))] 1)) t := fun t k => castTop (own_ef_own_pick_13 m) k
  obtain ⟨T1, X1, e1, st1⟩ := getS2 X0 hx hZ hown (host := "") (Or.inl (hw _ (List.mem_of_getElem? (i := 5) rfl))) Via.refl e0 (own_S_VALUES W) (g := (mkF m 0 #[.val (.int (13 : Int32))] [])) rfl (hb hby own_d_prog_11_method_5_code_0)
  have ch2 : ∀ t, Steps p.tables e below (T1.setTop (mkF m 3 #[.val (.int (13 : Int32))] [(.ref a_VALUES)])) t → Steps p.tables e below (s₁.setTop (entryFrame m #[(.int (13 : Int32))] 1)) t := fun t k => pre0 t (by
      show Steps p.tables e below (s₁.setTop (mkF m 0 #[.val (.int (13 : Int32))] [])) t
      exact st1 t k)
  obtain ⟨cl3, Ar3, -, Sz3, Ng3, Ha3, -⟩ := (own_V_VALUES W)
  have hin3 : ¬ ((13 : Int32) < 0 ∨ cl3.slots.size ≤ ((13 : Int32)).toNatClampNeg) := inb_of Sz3 (by decide)
  have hat3 : cl3.slots[((13 : Int32)).toNatClampNeg]? = some (.ref (ad 18)) := Ha3.at hin3 rfl
  have ch4 : ∀ t, Steps p.tables e below (T1.setTop (mkF m 5 #[.val (.int (13 : Int32))] [(.ref (ad 18))])) t → Steps p.tables e below (s₁.setTop (entryFrame m #[(.int (13 : Int32))] 1)) t := fun t k => ch2 t (by
      show Steps p.tables e below (T1.setTop (mkF m 3 #[.val (.int (13 : Int32))] [(.ref a_VALUES)])) t
      refine XS.iloadN X1.here hx rfl (hb hby own_d_prog_11_method_5_code_3) rfl ?_
      show Steps p.tables e below (T1.setTop (mkF m 4 #[.val (.int (13 : Int32))] [(.int (13 : Int32)), (.ref a_VALUES)])) t
      refine X1.aaload hx (j := (13 : Int32)) (v := (.ref (ad 18))) (by rw [e1]; exact Ar3.1) (State.isArrayOf_alike hZ.alike Ar3.2.1) rfl Ar3.2.2 hin3 hat3 (g := (mkF m 4 #[.val (.int (13 : Int32))] [(.int (13 : Int32)), (.ref a_VALUES)])) rfl rfl (hb hby own_d_prog_11_method_5_code_4) _ ?_
      exact k)
  obtain ⟨fs, hr, hrun, hended, hW, hsame⟩ := X1.leave (v := some (.ref (ad 18))) (fun h => by rw [Bd.returns] at h; cases h)
  refine ⟨_, _, ch4 _ ?_, hrun, hended, _, _, rfl, ?_, ⟨_, rfl⟩, hW, hsame.mono (by decide) (by decide)⟩
  · show Steps p.tables e below (T1.setTop (mkF m 5 #[.val (.int (13 : Int32))] [(.ref (ad 18))])) _
    jvm_step X1.here [X1.here.top, hx, (hb hby own_d_prog_11_method_5_code_5), X1.method', Bd.returns, Value.isRef, FieldType.isReference]
    first | (intro acts; rw [hr _ acts rfl rfl rfl]) | rw [hr _ _ rfl rfl rfl]
    exact Steps.refl _
  · show QV (some (.ref (ad 18))) h0 n0 _ T1.heap _
    rw [e1]
    exact ⟨rfl, N0, rfl⟩
theorem own_ef_own_pred_13 (m : MethodId) {x0 : Addr} : entryFrame m #[(.ref x0)] 1 = mkF m 0 #[.val (.ref x0)] [] := by first | (simp [entryFrame, mkF, argsToLocals, Value.category, maxLocals]; done) | rfl
set_option maxRecDepth 65536 in
set_option maxHeartbeats 40000000 in
theorem own_pred_13 (l : Launch) (Z : State) (a0 : Array Value) (hw : ∀ d ∈ tables_1, d.before a0 Z = true) (ws : List Jvm.Cond) (h0 : Heap) (n0 : Nat) (Z0 : n0 ≤ h0.size) (ad : Nat → Addr) (a_VALUES : Addr) (k_VALUES : ClassId) (W : OwnWd Z h0 ad a_VALUES k_VALUES) :
    MetFree l (⟨"com/example/libsnippet/libsnippet/WordBreak", "isIgnorable", "()Z"⟩ : MethodName) (head1 (Jvm.Cond.code (⟨"com/example/libsnippet/libsnippet/WordBreak", "isIgnorable", "()Z"⟩ : MethodName) prog_11_method_7_code 1 (some .boolean) :: ws) ({ frames := 0, cells := 0, slots := 0, locals := 0 } : Room)) (fun a U => a = #[(.ref (ad 18))] ∧ Z.Warmed39 U.vm ∧ U.heap = h0) (fun _ _ _ _ _ => True) (fun _ U o U' => ∃ v L, o = .returned v ∧ QV (some (.int (0 : Int32))) h0 n0 v U'.heap L ∧ FrameEnd U o U' L ({ frames := 0, cells := 0, slots := 0, locals := 0 } : Room).cells ({ frames := 0, cells := 0, slots := 0, locals := 0 } : Room).slots) := by
  refine MetFree.of_bodySF (plainFor_of_name own_pn_com_example_libsnippet_libsnippet_WordBreak) hisR ?_
  intro p e s m args below meth c s₁ Bd hml0 hP hK
  obtain ⟨rfl, hZ, hh⟩ := hP
  have hx := Bd.exec
  have hby := Bd.bytes
  have hml : c.maxLocals = 1 := hml0
  have hown : s.vm.findClass "com/example/libsnippet/libsnippet/WordBreak" = some m.cls := findClass_of_methodNamed Bd.named
  have hnm := (name_of_methodNamed Bd.named Bd.method).1
  have X0 : Stand p l e ({ frames := 0, cells := 0, slots := 0, locals := 0 } : Room) s m #[(.ref (ad 18))] below meth c s₁ [] 0 0 := Stand.of_body Bd
  have e0 : s₁.heap = h0 := by rw [← hh, Bd.state]; rfl
  have N0 := Fr.nil n0
  have pre0 : ∀ t, Steps p.tables e below (s₁.setTop (mkF m 0 #[.val (.ref (ad 18))] [])) t → Steps p.tables e below (s₁.setTop (entryFrame m #[(.ref (ad 18))] 1)) t := fun t k => castTop (own_ef_own_pred_13 m) k
  obtain ⟨T1, X1, e1, st1⟩ := getS2 X0 hx hZ hown (host := "") (Or.inl (hw _ (List.mem_of_getElem? (i := 22) rfl))) Via.refl e0 (own_S_EXTEND W) (g := (mkF m 1 #[.val (.ref (ad 18))] [(.ref (ad 18))])) rfl (hb hby own_d_prog_11_method_7_code_1)
  have ch2 : ∀ t, Steps p.tables e below (T1.setTop (mkF m 4 #[.val (.ref (ad 18))] [(.ref (ad 1)), (.ref (ad 18))])) t → Steps p.tables e below (s₁.setTop (entryFrame m #[(.ref (ad 18))] 1)) t := fun t k => pre0 t (by
      show Steps p.tables e below (s₁.setTop (mkF m 0 #[.val (.ref (ad 18))] [])) t
      refine XS.aloadN X0.here hx rfl (hb hby own_d_prog_11_method_7_code_0) rfl rfl ?_
      show Steps p.tables e below (s₁.setTop (mkF m 1 #[.val (.ref (ad 18))] [(.ref (ad 18))])) t
      exact st1 t k)
  obtain ⟨T3, X3, e3, st3⟩ := getS2 X1 hx hZ hown (host := "") (Or.inl (hw _ (List.mem_of_getElem? (i := 24) rfl))) Via.refl e1 (own_S_FORMAT W) (g := (mkF m 8 #[.val (.ref (ad 18))] [(.ref (ad 18))])) rfl (hb hby own_d_prog_11_method_7_code_8)
  have ch4 : ∀ t, Steps p.tables e below (T3.setTop (mkF m 11 #[.val (.ref (ad 18))] [(.ref (ad 2)), (.ref (ad 18))])) t → Steps p.tables e below (s₁.setTop (entryFrame m #[(.ref (ad 18))] 1)) t := fun t k => ch2 t (by
      show Steps p.tables e below (T1.setTop (mkF m 4 #[.val (.ref (ad 18))] [(.ref (ad 1)), (.ref (ad 18))])) t
      refine Jvm.RoadKit.acmp (g := (mkF m 4 #[.val (.ref (ad 18))] [(.ref (ad 1)), (.ref (ad 18))])) X1 hx rfl rfl rfl (pc0 := 4) (pc' := 7) (same := false) rfl (hb hby own_d_prog_11_method_7_code_4) rfl (decide_eq_false fun q => (Fld.ne (own_F_MID_NUM_LET_ordinal W) (own_F_EXTEND_ordinal W) (by decide)) (Value.ref.inj q)) (by decide) (by decide) ?_
      show Steps p.tables e below (T1.setTop (mkF m 7 #[.val (.ref (ad 18))] [])) t
      refine XS.aloadN X1.here hx rfl (hb hby own_d_prog_11_method_7_code_7) rfl rfl ?_
      show Steps p.tables e below (T1.setTop (mkF m 8 #[.val (.ref (ad 18))] [(.ref (ad 18))])) t
      exact st3 t k)
  obtain ⟨T5, X5, e5, st5⟩ := getS2 X3 hx hZ hown (host := "") (Or.inl (hw _ (List.mem_of_getElem? (i := 26) rfl))) Via.refl e3 (own_S_ZWJ W) (g := (mkF m 15 #[.val (.ref (ad 18))] [(.ref (ad 18))])) rfl (hb hby own_d_prog_11_method_7_code_15)
  have ch6 : ∀ t, Steps p.tables e below (T5.setTop (mkF m 18 #[.val (.ref (ad 18))] [(.ref (ad 3)), (.ref (ad 18))])) t → Steps p.tables e below (s₁.setTop (entryFrame m #[(.ref (ad 18))] 1)) t := fun t k => ch4 t (by
      show Steps p.tables e below (T3.setTop (mkF m 11 #[.val (.ref (ad 18))] [(.ref (ad 2)), (.ref (ad 18))])) t
      refine Jvm.RoadKit.acmp (g := (mkF m 11 #[.val (.ref (ad 18))] [(.ref (ad 2)), (.ref (ad 18))])) X3 hx rfl rfl rfl (pc0 := 11) (pc' := 14) (same := false) rfl (hb hby own_d_prog_11_method_7_code_11) rfl (decide_eq_false fun q => (Fld.ne (own_F_MID_NUM_LET_ordinal W) (own_F_FORMAT_ordinal W) (by decide)) (Value.ref.inj q)) (by decide) (by decide) ?_
      show Steps p.tables e below (T3.setTop (mkF m 14 #[.val (.ref (ad 18))] [])) t
      refine XS.aloadN X3.here hx rfl (hb hby own_d_prog_11_method_7_code_14) rfl rfl ?_
      show Steps p.tables e below (T3.setTop (mkF m 15 #[.val (.ref (ad 18))] [(.ref (ad 18))])) t
      exact st5 t k)
  have ch7 : ∀ t, Steps p.tables e below (T5.setTop (mkF m 26 #[.val (.ref (ad 18))] [(.int (0 : Int32))])) t → Steps p.tables e below (s₁.setTop (entryFrame m #[(.ref (ad 18))] 1)) t := fun t k => ch6 t (by
      show Steps p.tables e below (T5.setTop (mkF m 18 #[.val (.ref (ad 18))] [(.ref (ad 3)), (.ref (ad 18))])) t
      refine Jvm.RoadKit.acmp (g := (mkF m 18 #[.val (.ref (ad 18))] [(.ref (ad 3)), (.ref (ad 18))])) X5 hx rfl rfl rfl (pc0 := 18) (pc' := 25) (same := false) rfl (hb hby own_d_prog_11_method_7_code_18) rfl (decide_eq_false fun q => (Fld.ne (own_F_MID_NUM_LET_ordinal W) (own_F_ZWJ_ordinal W) (by decide)) (Value.ref.inj q)) (by decide) (by decide) ?_
      show Steps p.tables e below (T5.setTop (mkF m 25 #[.val (.ref (ad 18))] [])) t
      refine XS.iconst X5.here hx rfl (hb hby own_d_prog_11_method_7_code_25) ?_
      exact k)
  obtain ⟨fs, hr, hrun, hended, hW, hsame⟩ := X5.leave (v := some (.int (0 : Int32))) (fun h => by rw [Bd.returns] at h; cases h)
  refine ⟨_, _, ch7 _ ?_, hrun, hended, _, _, rfl, ?_, ⟨_, rfl⟩, hW, hsame.mono (by decide) (by decide)⟩
  · show Steps p.tables e below (T5.setTop (mkF m 26 #[.val (.ref (ad 18))] [(.int (0 : Int32))])) _
    exact retN X5 hx (t := .boolean) Bd.returns (by simp) (hb hby own_d_prog_11_method_7_code_26) hr
  · show QV (some (.int (0 : Int32))) h0 n0 _ T5.heap _
    rw [e5]
    exact ⟨rfl, N0, rfl⟩
theorem own_ef_own_ordi_13 (m : MethodId) {x0 : Addr} : entryFrame m #[(.ref x0)] 1 = mkF m 0 #[.val (.ref x0)] [] := by first | (simp [entryFrame, mkF, argsToLocals, Value.category, maxLocals]; done) | rfl
set_option maxRecDepth 65536 in
set_option maxHeartbeats 40000000 in
theorem own_ordi_13 (l : Launch) (Z : State) (a0 : Array Value) (hw : ∀ d ∈ tables_1, d.before a0 Z = true) (ws : List Jvm.Cond) (h0 : Heap) (n0 : Nat) (Z0 : n0 ≤ h0.size) (ad : Nat → Addr) (a_VALUES : Addr) (k_VALUES : ClassId) (W : OwnWd Z h0 ad a_VALUES k_VALUES) :
    MetFree l (⟨"java/lang/Enum", "ordinal", "()I"⟩ : MethodName) (head1 (Jvm.Cond.code (⟨"java/lang/Enum", "ordinal", "()I"⟩ : MethodName) jdk_37_method_2_code 1 (some .int) :: ws) ({ frames := 0, cells := 0, slots := 0, locals := 0 } : Room)) (fun a U => a = #[(.ref (ad 18))] ∧ Z.Warmed39 U.vm ∧ U.heap = h0) (fun _ _ _ _ _ => True) (fun _ U o U' => ∃ v L, o = .returned v ∧ QV (some (.int (13 : Int32))) h0 n0 v U'.heap L ∧ FrameEnd U o U' L ({ frames := 0, cells := 0, slots := 0, locals := 0 } : Room).cells ({ frames := 0, cells := 0, slots := 0, locals := 0 } : Room).slots) := by
  refine MetFree.of_bodySF (plainFor_of_name own_pn_java_lang_Enum) hisR ?_
  intro p e s m args below meth c s₁ Bd hml0 hP hK
  obtain ⟨rfl, hZ, hh⟩ := hP
  have hx := Bd.exec
  have hby := Bd.bytes
  have hml : c.maxLocals = 1 := hml0
  have hown : s.vm.findClass "java/lang/Enum" = some m.cls := findClass_of_methodNamed Bd.named
  have hnm := (name_of_methodNamed Bd.named Bd.method).1
  have X0 : Stand p l e ({ frames := 0, cells := 0, slots := 0, locals := 0 } : Room) s m #[(.ref (ad 18))] below meth c s₁ [] 0 0 := Stand.of_body Bd
  have e0 : s₁.heap = h0 := by rw [← hh, Bd.state]; rfl
  have N0 := Fr.nil n0
  have pre0 : ∀ t, Steps p.tables e below (s₁.setTop (mkF m 0 #[.val (.ref (ad 18))] [])) t → Steps p.tables e below (s₁.setTop (entryFrame m #[(.ref (ad 18))] 1)) t := fun t k => castTop (own_ef_own_ordi_13 m) k
  obtain ⟨T1, X1, e1, st1⟩ := getF X0 hx hZ hown (host := "") (Or.inl (hw _ (List.mem_of_getElem? (i := 15) rfl))) Via.refl e0 (own_F_MID_NUM_LET_ordinal W) (g := (mkF m 1 #[.val (.ref (ad 18))] [(.ref (ad 18))])) rfl rfl (hb hby own_d_jdk_37_method_2_code_1)
  have ch2 : ∀ t, Steps p.tables e below (T1.setTop (mkF m 4 #[.val (.ref (ad 18))] [(.int (13 : Int32))])) t → Steps p.tables e below (s₁.setTop (entryFrame m #[(.ref (ad 18))] 1)) t := fun t k => pre0 t (by
      show Steps p.tables e below (s₁.setTop (mkF m 0 #[.val (.ref (ad 18))] [])) t
      refine XS.aloadN X0.here hx rfl (hb hby own_d_jdk_37_method_2_code_0) rfl rfl ?_
      show Steps p.tables e below (s₁.setTop (mkF m 1 #[.val (.ref (ad 18))] [(.ref (ad 18))])) t
      exact st1 t k)
  obtain ⟨fs, hr, hrun, hended, hW, hsame⟩ := X1.leave (v := some (.int (13 : Int32))) (fun h => by rw [Bd.returns] at h; cases h)
  refine ⟨_, _, ch2 _ ?_, hrun, hended, _, _, rfl, ?_, ⟨_, rfl⟩, hW, hsame.mono (by decide) (by decide)⟩
  · show Steps p.tables e below (T1.setTop (mkF m 4 #[.val (.ref (ad 18))] [(.int (13 : Int32))])) _
    exact retI X1 hx Bd.returns (hb hby own_d_jdk_37_method_2_code_4) hr
  · show QV (some (.int (13 : Int32))) h0 n0 _ T1.heap _
    rw [e1]
    exact ⟨rfl, N0, rfl⟩
theorem own_ef_own_law_13 (m : MethodId) {x0 : Int32} : entryFrame m #[(.int x0)] maxLocals = mkF m 0 #[.val (.int x0), .unset, .unset, .unset] [] := by first | (simp [entryFrame, mkF, argsToLocals, Value.category, maxLocals]; done) | rfl
set_option maxRecDepth 65536 in
set_option maxHeartbeats 40000000 in
theorem own_law_13 (l : Launch) (Z : State) (a0 : Array Value) (hw : ∀ d ∈ tables_1, d.before a0 Z = true) (ws : List Jvm.Cond) (h0 : Heap) (n0 : Nat) (Z0 : n0 ≤ h0.size) (p1 : Int32) (hk : (p1 &&& (2147483647 : Int32)) % (19 : Int32) = (13 : Int32)) (ad : Nat → Addr) (a_VALUES : Addr) (k_VALUES : ClassId) (W : OwnWd Z h0 ad a_VALUES k_VALUES) :
    MetFree l x (head1 (Jvm.Cond.code x code maxLocals ret :: ws) room_1) (fun a U => a = #[(.int p1)] ∧ Z.Warmed39 U.vm ∧ U.heap = h0) (fun _ _ _ _ _ => True) (fun _ U o U' => ∃ v L, o = .returned v ∧ QN (some (.int (1 : Int32))) n0 v U'.heap L ∧ FrameEnd U o U' L room_1.cells room_1.slots) := by
  refine MetFree.of_bodySF (plainFor_of_name own_pn_com_example_libsnippet_libsnippet_WordBreakIsIgnorablePinLaw) hisR ?_
  intro p e s m args below meth c s₁ Bd hml0 hP hK
  obtain ⟨rfl, hZ, hh⟩ := hP
  have hx := Bd.exec
  have hby := Bd.bytes
  have hml : c.maxLocals = 4 := hml0
  have hown : s.vm.findClass "com/example/libsnippet/libsnippet/WordBreakIsIgnorablePinLaw" = some m.cls := findClass_of_methodNamed Bd.named
  have hnm := (name_of_methodNamed Bd.named Bd.method).1
  have X0 : Stand p l e room_1 s m #[(.int p1)] below meth c s₁ [] 0 0 := Stand.of_body Bd
  have e0 : s₁.heap = h0 := by rw [← hh, Bd.state]; rfl
  have N0 := Fr.nil n0
  have pre0 : ∀ t, Steps p.tables e below (s₁.setTop (mkF m 0 #[.val (.int p1), .unset, .unset, .unset] [])) t → Steps p.tables e below (s₁.setTop (entryFrame m #[(.int p1)] maxLocals)) t := fun t k => castTop (own_ef_own_law_13 m) k
  obtain ⟨vv1, _, ⟨T1, L1, kk1, nn1⟩, -, X1, ⟨Lc1, hQ1, l1, y1, z1⟩, st1⟩ := Jvm.LawKit.callS X0 hx (y := (⟨"com/example/libsnippet/libsnippet/WordBreak", "ofOrdinal", "(I)Lcom/example/libsnippet/libsnippet/WordBreak;"⟩ : MethodName)) hown (mvT hZ (hw _ (List.mem_of_getElem? (i := 1) rfl))) (mvT hZ (hw _ (List.mem_of_getElem? (i := 2) rfl))) (mvT hZ (hw _ (List.mem_of_getElem? (i := 3) rfl))) (mvT hZ (hw _ (List.mem_of_getElem? (i := 4) rfl))) (by decide) (backOf (W := 0) (own_pick_13 l Z a0 hw [] h0 n0 Z0 ad a_VALUES k_VALUES W) hZ (hw _ (List.mem_of_getElem? (i := 4) rfl)) (hw _ (List.mem_of_getElem? (i := 3) rfl)) (by decide) (by decide)) (g := (mkF m 9 #[.val (.int p1), .val (.int (13 : Int32)), .unset, .unset] [(.int (13 : Int32))])) rfl (by rw [hml]; rfl) (argsL := [(.int (13 : Int32))]) (rest := []) (lenOf own_pd__I_Lcom_example_libsnippet_libsnippet_WordBreak_ rfl) rfl (by show 2 * 0 + _ ≤ _; exact Nat.le_of_eq rfl) (hb hby at_9) (fun _ _ => ⟨rfl, e0, (by decide : 0 + 0 ≤ _), (by decide : 0 + 0 ≤ _)⟩)
  dsimp only [Pt.U, Pt.locs, Pt.cells, Pt.slots] at X1 l1 y1 z1 st1 hQ1
  subst l1 y1 z1
  obtain ⟨rfl, Nq1, e1⟩ := hQ1
  have N1 := Fr.app N0 Nq1
  have ch2 : ∀ t, Steps p.tables e below (T1.setTop (mkF m 12 #[.val (.int p1), .val (.int (13 : Int32)), .unset, .unset] [(.ref (ad 18))])) t → Steps p.tables e below (s₁.setTop (entryFrame m #[(.int p1)] maxLocals)) t := fun t k => pre0 t (by
      show Steps p.tables e below (s₁.setTop (mkF m 0 #[.val (.int p1), .unset, .unset, .unset] [])) t
      refine XS.iloadN X0.here hx rfl (hb hby at_0) rfl ?_
      show Steps p.tables e below (s₁.setTop (mkF m 1 #[.val (.int p1), .unset, .unset, .unset] [(.int p1)])) t
      refine X0.ldcInt hx hown (mvT hZ (hw _ (List.mem_of_getElem? (i := 0) rfl))) (g := (mkF m 1 #[.val (.int p1), .unset, .unset, .unset] [(.int p1)])) rfl (hb hby at_1) _ ?_
      show Steps p.tables e below (s₁.setTop (mkF m 3 #[.val (.int p1), .unset, .unset, .unset] [(.int (2147483647 : Int32)), (.int p1)])) t
      refine XS.iand X0.here hx rfl (hb hby at_3) rfl ?_
      show Steps p.tables e below (s₁.setTop (mkF m 4 #[.val (.int p1), .unset, .unset, .unset] [(.int (p1 &&& (2147483647 : Int32)))])) t
      refine XS.bipush X0.here hx rfl (hb hby at_4) ?_
      show Steps p.tables e below (s₁.setTop (mkF m 6 #[.val (.int p1), .unset, .unset, .unset] [(.int (19 : Int32)), (.int (p1 &&& (2147483647 : Int32)))])) t
      refine Jvm.RoadKit.iremM (g := (mkF m 6 #[.val (.int p1), .unset, .unset, .unset] [(.int (19 : Int32)), (.int (p1 &&& (2147483647 : Int32)))])) X0 hx rfl (hb hby at_6) rfl (by decide) ?_
      rw [hk]
      show Steps p.tables e below (s₁.setTop (mkF m 7 #[.val (.int p1), .unset, .unset, .unset] [(.int (13 : Int32))])) t
      refine XS.istoreN X0.here hx rfl (hb hby at_7) rfl (l' := #[.val (.int p1), .val (.int (13 : Int32)), .unset, .unset]) rfl ?_
      show Steps p.tables e below (s₁.setTop (mkF m 8 #[.val (.int p1), .val (.int (13 : Int32)), .unset, .unset] [])) t
      refine XS.iloadN X0.here hx rfl (hb hby at_8) rfl ?_
      show Steps p.tables e below (s₁.setTop (mkF m 9 #[.val (.int p1), .val (.int (13 : Int32)), .unset, .unset] [(.int (13 : Int32))])) t
      exact st1 t k)
  obtain ⟨cq3, kq3, qa3, qb3, qc3⟩ := isOf hZ e1 (own_E_MID_NUM_LET W)
  obtain ⟨vv4, _, ⟨T4, L4, kk4, nn4⟩, -, X4, ⟨Lc4, hQ4, l4, y4, z4⟩, st4⟩ := X1.virtualBackUp hx (x := (⟨"com/example/libsnippet/libsnippet/WordBreak", "ordinal", "()I"⟩ : MethodName)) (y := (⟨"java/lang/Enum", "ordinal", "()I"⟩ : MethodName)) (owner := "java/lang/Enum") hown (mvT hZ (hw _ (List.mem_of_getElem? (i := 8) rfl))) (mvT hZ (hw _ (List.mem_of_getElem? (i := 9) rfl))) (mvT hZ (hw _ (List.mem_of_getElem? (i := 10) rfl))) (by decide) (mvT hZ (hw _ (List.mem_of_getElem? (i := 12) rfl))) (mvT hZ (hw _ (List.mem_of_getElem? (i := 11) rfl))) (backOf (W := 0) (own_ordi_13 l Z a0 hw [] h0 n0 Z0 ad a_VALUES k_VALUES W) hZ (hw _ (List.mem_of_getElem? (i := 14) rfl)) (hw _ (List.mem_of_getElem? (i := 13) rfl)) (by decide) (by decide)) qa3 qc3 (g := (mkF m 36 #[.val (.int p1), .val (.int (13 : Int32)), .val (.ref (ad 18)), .val (.int (0 : Int32))] [(.ref (ad 18))])) rfl (by rw [hml]; rfl) (Steps.refl _) (argsL := []) (rest := []) (lenOf own_pd___I rfl) rfl (by show 2 * 0 + _ ≤ _; exact Nat.le_of_eq rfl) (hb hby at_36) (fun _ _ => ⟨rfl, e1, (by decide : 0 + 0 ≤ _), (by decide : 0 + 0 ≤ _)⟩)
  dsimp only [Pt.U, Pt.locs, Pt.cells, Pt.slots] at X4 l4 y4 z4 st4 hQ4
  subst l4 y4 z4
  obtain ⟨rfl, Nq4, e4⟩ := hQ4
  have N4 := Fr.app N1 Nq4
  have ch5 : ∀ t, Steps p.tables e below (T4.setTop (mkF m 39 #[.val (.int p1), .val (.int (13 : Int32)), .val (.ref (ad 18)), .val (.int (0 : Int32))] [(.int (13 : Int32))])) t → Steps p.tables e below (s₁.setTop (entryFrame m #[(.int p1)] maxLocals)) t := fun t k => ch2 t (by
      show Steps p.tables e below (T1.setTop (mkF m 12 #[.val (.int p1), .val (.int (13 : Int32)), .unset, .unset] [(.ref (ad 18))])) t
      refine XS.astoreN X1.here hx rfl (hb hby at_12) rfl rfl (l' := #[.val (.int p1), .val (.int (13 : Int32)), .val (.ref (ad 18)), .unset]) rfl ?_
      show Steps p.tables e below (T1.setTop (mkF m 13 #[.val (.int p1), .val (.int (13 : Int32)), .val (.ref (ad 18)), .unset] [])) t
      refine XS.iloadN X1.here hx rfl (hb hby at_13) rfl ?_
      show Steps p.tables e below (T1.setTop (mkF m 14 #[.val (.int p1), .val (.int (13 : Int32)), .val (.ref (ad 18)), .unset] [(.int (13 : Int32))])) t
      refine XS.iconst X1.here hx rfl (hb hby at_14) ?_
      show Steps p.tables e below (T1.setTop (mkF m 15 #[.val (.int p1), .val (.int (13 : Int32)), .val (.ref (ad 18)), .unset] [(.int (4 : Int32)), (.int (13 : Int32))])) t
      refine XS.icmpNo X1.here hx rfl (hb hby at_15) rfl (feq (by decide : ¬ (13 : Int32) = (4 : Int32))).1 ?_
      show Steps p.tables e below (T1.setTop (mkF m 18 #[.val (.int p1), .val (.int (13 : Int32)), .val (.ref (ad 18)), .unset] [])) t
      refine XS.iloadN X1.here hx rfl (hb hby at_18) rfl ?_
      show Steps p.tables e below (T1.setTop (mkF m 19 #[.val (.int p1), .val (.int (13 : Int32)), .val (.ref (ad 18)), .unset] [(.int (13 : Int32))])) t
      refine XS.iconst X1.here hx rfl (hb hby at_19) ?_
      show Steps p.tables e below (T1.setTop (mkF m 20 #[.val (.int p1), .val (.int (13 : Int32)), .val (.ref (ad 18)), .unset] [(.int (5 : Int32)), (.int (13 : Int32))])) t
      refine XS.icmpNo X1.here hx rfl (hb hby at_20) rfl (feq (by decide : ¬ (13 : Int32) = (5 : Int32))).1 ?_
      show Steps p.tables e below (T1.setTop (mkF m 23 #[.val (.int p1), .val (.int (13 : Int32)), .val (.ref (ad 18)), .unset] [])) t
      refine XS.iloadN X1.here hx rfl (hb hby at_23) rfl ?_
      show Steps p.tables e below (T1.setTop (mkF m 24 #[.val (.int p1), .val (.int (13 : Int32)), .val (.ref (ad 18)), .unset] [(.int (13 : Int32))])) t
      refine XS.bipush X1.here hx rfl (hb hby at_24) ?_
      show Steps p.tables e below (T1.setTop (mkF m 26 #[.val (.int p1), .val (.int (13 : Int32)), .val (.ref (ad 18)), .unset] [(.int (7 : Int32)), (.int (13 : Int32))])) t
      refine XS.icmpYes X1.here hx rfl (pc0 := 26) (pc' := 33) rfl (hb hby at_26) rfl (feq (by decide : ¬ (13 : Int32) = (7 : Int32))).2 (by decide) (by decide) ?_
      show Steps p.tables e below (T1.setTop (mkF m 33 #[.val (.int p1), .val (.int (13 : Int32)), .val (.ref (ad 18)), .unset] [])) t
      refine XS.iconst X1.here hx rfl (hb hby at_33) ?_
      show Steps p.tables e below (T1.setTop (mkF m 34 #[.val (.int p1), .val (.int (13 : Int32)), .val (.ref (ad 18)), .unset] [(.int (0 : Int32))])) t
      refine XS.istoreN X1.here hx rfl (hb hby at_34) rfl (l' := #[.val (.int p1), .val (.int (13 : Int32)), .val (.ref (ad 18)), .val (.int (0 : Int32))]) rfl ?_
      show Steps p.tables e below (T1.setTop (mkF m 35 #[.val (.int p1), .val (.int (13 : Int32)), .val (.ref (ad 18)), .val (.int (0 : Int32))] [])) t
      refine XS.aloadN X1.here hx rfl (hb hby at_35) rfl rfl ?_
      show Steps p.tables e below (T1.setTop (mkF m 36 #[.val (.int p1), .val (.int (13 : Int32)), .val (.ref (ad 18)), .val (.int (0 : Int32))] [(.ref (ad 18))])) t
      exact st4.trans k)
  obtain ⟨cq6, kq6, qa6, qb6, qc6⟩ := isOf hZ e4 (own_E_MID_NUM_LET W)
  obtain ⟨vv7, _, ⟨T7, L7, kk7, nn7⟩, -, X7, ⟨Lc7, hQ7, l7, y7, z7⟩, st7⟩ := X4.virtualBack hx (y := (⟨"com/example/libsnippet/libsnippet/WordBreak", "isIgnorable", "()Z"⟩ : MethodName)) (z := (⟨"com/example/libsnippet/libsnippet/WordBreak", "isIgnorable", "()Z"⟩ : MethodName)) hown (mvT hZ (hw _ (List.mem_of_getElem? (i := 17) rfl))) (mvT hZ (hw _ (List.mem_of_getElem? (i := 18) rfl))) (notFace_of_selects (args := #[]) (mvT hZ (hw _ (List.mem_of_getElem? (i := 20) rfl)))) (mvT hZ (hw _ (List.mem_of_getElem? (i := 20) rfl))) (mvT hZ (hw _ (List.mem_of_getElem? (i := 19) rfl))) (by decide) (backOf (W := 0) (own_pred_13 l Z a0 hw [] h0 n0 Z0 ad a_VALUES k_VALUES W) hZ (hw _ (List.mem_of_getElem? (i := 21) rfl)) (hw _ (List.mem_of_getElem? (i := 3) rfl)) (by decide) (by decide)) qa6 qc6 (g := (mkF m 44 #[.val (.int p1), .val (.int (13 : Int32)), .val (.ref (ad 18)), .val (.int (0 : Int32))] [(.ref (ad 18))])) rfl (by rw [hml]; rfl) (Steps.refl _) (argsL := []) (rest := []) (lenOf own_pd___Z rfl) rfl (by show 2 * 0 + _ ≤ _; exact Nat.le_of_eq rfl) (hb hby at_44) (fun _ _ => ⟨rfl, e4, (by decide : 0 + 0 ≤ _), (by decide : 0 + 0 ≤ _)⟩)
  dsimp only [Pt.U, Pt.locs, Pt.cells, Pt.slots] at X7 l7 y7 z7 st7 hQ7
  subst l7 y7 z7
  obtain ⟨rfl, Nq7, e7⟩ := hQ7
  have N7 := Fr.app N4 Nq7
  have ch8 : ∀ t, Steps p.tables e below (T7.setTop (mkF m 47 #[.val (.int p1), .val (.int (13 : Int32)), .val (.ref (ad 18)), .val (.int (0 : Int32))] [(.int (0 : Int32))])) t → Steps p.tables e below (s₁.setTop (entryFrame m #[(.int p1)] maxLocals)) t := fun t k => ch5 t (by
      show Steps p.tables e below (T4.setTop (mkF m 39 #[.val (.int p1), .val (.int (13 : Int32)), .val (.ref (ad 18)), .val (.int (0 : Int32))] [(.int (13 : Int32))])) t
      refine XS.iloadN X4.here hx rfl (hb hby at_39) rfl ?_
      show Steps p.tables e below (T4.setTop (mkF m 40 #[.val (.int p1), .val (.int (13 : Int32)), .val (.ref (ad 18)), .val (.int (0 : Int32))] [(.int (13 : Int32)), (.int (13 : Int32))])) t
      refine XS.icmpNo X4.here hx rfl (hb hby at_40) rfl (teq (by decide : (13 : Int32) = (13 : Int32))).2 ?_
      show Steps p.tables e below (T4.setTop (mkF m 43 #[.val (.int p1), .val (.int (13 : Int32)), .val (.ref (ad 18)), .val (.int (0 : Int32))] [])) t
      refine XS.aloadN X4.here hx rfl (hb hby at_43) rfl rfl ?_
      show Steps p.tables e below (T4.setTop (mkF m 44 #[.val (.int p1), .val (.int (13 : Int32)), .val (.ref (ad 18)), .val (.int (0 : Int32))] [(.ref (ad 18))])) t
      exact st7.trans k)
  have ch9 : ∀ t, Steps p.tables e below (T7.setTop (mkF m 56 #[.val (.int p1), .val (.int (13 : Int32)), .val (.ref (ad 18)), .val (.int (0 : Int32))] [(.int (1 : Int32))])) t → Steps p.tables e below (s₁.setTop (entryFrame m #[(.int p1)] maxLocals)) t := fun t k => ch8 t (by
      show Steps p.tables e below (T7.setTop (mkF m 47 #[.val (.int p1), .val (.int (13 : Int32)), .val (.ref (ad 18)), .val (.int (0 : Int32))] [(.int (0 : Int32))])) t
      refine XS.iloadN X7.here hx rfl (hb hby at_47) rfl ?_
      show Steps p.tables e below (T7.setTop (mkF m 48 #[.val (.int p1), .val (.int (13 : Int32)), .val (.ref (ad 18)), .val (.int (0 : Int32))] [(.int (0 : Int32)), (.int (0 : Int32))])) t
      refine XS.icmpNo X7.here hx rfl (hb hby at_48) rfl (teq (by decide : (0 : Int32) = (0 : Int32))).2 ?_
      show Steps p.tables e below (T7.setTop (mkF m 51 #[.val (.int p1), .val (.int (13 : Int32)), .val (.ref (ad 18)), .val (.int (0 : Int32))] [])) t
      refine XS.iconst X7.here hx rfl (hb hby at_51) ?_
      show Steps p.tables e below (T7.setTop (mkF m 52 #[.val (.int p1), .val (.int (13 : Int32)), .val (.ref (ad 18)), .val (.int (0 : Int32))] [(.int (1 : Int32))])) t
      refine XS.goto X7.here hx rfl (pc0 := 52) (pc' := 56) rfl (hb hby at_52) (by decide) (by decide) ?_
      exact k)
  obtain ⟨fs, hr, hrun, hended, hW, hsame⟩ := X7.leave (v := some (.int (1 : Int32))) (fun h => by rw [Bd.returns] at h; cases h)
  refine ⟨_, _, ch9 _ ?_, hrun, hended, _, _, rfl, ?_, ⟨_, rfl⟩, hW, hsame.mono (by decide) (by decide)⟩
  · show Steps p.tables e below (T7.setTop (mkF m 56 #[.val (.int p1), .val (.int (13 : Int32)), .val (.ref (ad 18)), .val (.int (0 : Int32))] [(.int (1 : Int32))])) _
    exact retN X7 hx (t := .boolean) Bd.returns (by simp) (hb hby at_56) hr
  · show QN (some (.int (1 : Int32))) n0 _ T7.heap _
    rw [e7]
    exact ⟨rfl, N7⟩
theorem own_ef_own_pick_14 (m : MethodId) {x0 : Int32} : entryFrame m #[(.int x0)] 1 = mkF m 0 #[.val (.int x0)] [] := by first | (simp [entryFrame, mkF, argsToLocals, Value.category, maxLocals]; done) | rfl
set_option maxRecDepth 65536 in
set_option maxHeartbeats 40000000 in
theorem own_pick_14 (l : Launch) (Z : State) (a0 : Array Value) (hw : ∀ d ∈ tables_1, d.before a0 Z = true) (ws : List Jvm.Cond) (h0 : Heap) (n0 : Nat) (Z0 : n0 ≤ h0.size) (ad : Nat → Addr) (a_VALUES : Addr) (k_VALUES : ClassId) (W : OwnWd Z h0 ad a_VALUES k_VALUES) :
    MetFree l (⟨"com/example/libsnippet/libsnippet/WordBreak", "ofOrdinal", "(I)Lcom/example/libsnippet/libsnippet/WordBreak;"⟩ : MethodName) (head1 (Jvm.Cond.code (⟨"com/example/libsnippet/libsnippet/WordBreak", "ofOrdinal", "(I)Lcom/example/libsnippet/libsnippet/WordBreak;"⟩ : MethodName) prog_11_method_5_code 1 (some (.object "com/example/libsnippet/libsnippet/WordBreak")) :: ws) ({ frames := 0, cells := 0, slots := 0, locals := 0 } : Room)) (fun a U => a = #[(.int (14 : Int32))] ∧ Z.Warmed39 U.vm ∧ U.heap = h0) (fun _ _ _ _ _ => True) (fun _ U o U' => ∃ v L, o = .returned v ∧ QV (some (.ref (ad 12))) h0 n0 v U'.heap L ∧ FrameEnd U o U' L ({ frames := 0, cells := 0, slots := 0, locals := 0 } : Room).cells ({ frames := 0, cells := 0, slots := 0, locals := 0 } : Room).slots) := by
  refine MetFree.of_bodySF (plainFor_of_name own_pn_com_example_libsnippet_libsnippet_WordBreak) hisR ?_
  intro p e s m args below meth c s₁ Bd hml0 hP hK
  obtain ⟨rfl, hZ, hh⟩ := hP
  have hx := Bd.exec
  have hby := Bd.bytes
  have hml : c.maxLocals = 1 := hml0
  have hown : s.vm.findClass "com/example/libsnippet/libsnippet/WordBreak" = some m.cls := findClass_of_methodNamed Bd.named
  have hnm := (name_of_methodNamed Bd.named Bd.method).1
  have X0 : Stand p l e ({ frames := 0, cells := 0, slots := 0, locals := 0 } : Room) s m #[(.int (14 : Int32))] below meth c s₁ [] 0 0 := Stand.of_body Bd
  have e0 : s₁.heap = h0 := by rw [← hh, Bd.state]; rfl
  have N0 := Fr.nil n0
  have pre0 : ∀ t, Steps p.tables e below (s₁.setTop (mkF m 0 #[.val (.int (14 : Int32))] [])) t → Steps p.tables e below (s₁.setTop (entryFrame m #[(.int (14 : Int32))] 1)) t := fun t k => castTop (own_ef_own_pick_14 m) k
  obtain ⟨T1, X1, e1, st1⟩ := getS2 X0 hx hZ hown (host := "") (Or.inl (hw _ (List.mem_of_getElem? (i := 5) rfl))) Via.refl e0 (own_S_VALUES W) (g := (mkF m 0 #[.val (.int (14 : Int32))] [])) rfl (hb hby own_d_prog_11_method_5_code_0)
  have ch2 : ∀ t, Steps p.tables e below (T1.setTop (mkF m 3 #[.val (.int (14 : Int32))] [(.ref a_VALUES)])) t → Steps p.tables e below (s₁.setTop (entryFrame m #[(.int (14 : Int32))] 1)) t := fun t k => pre0 t (by
      show Steps p.tables e below (s₁.setTop (mkF m 0 #[.val (.int (14 : Int32))] [])) t
      exact st1 t k)
  obtain ⟨cl3, Ar3, -, Sz3, Ng3, Ha3, -⟩ := (own_V_VALUES W)
  have hin3 : ¬ ((14 : Int32) < 0 ∨ cl3.slots.size ≤ ((14 : Int32)).toNatClampNeg) := inb_of Sz3 (by decide)
  have hat3 : cl3.slots[((14 : Int32)).toNatClampNeg]? = some (.ref (ad 12)) := Ha3.at hin3 rfl
  have ch4 : ∀ t, Steps p.tables e below (T1.setTop (mkF m 5 #[.val (.int (14 : Int32))] [(.ref (ad 12))])) t → Steps p.tables e below (s₁.setTop (entryFrame m #[(.int (14 : Int32))] 1)) t := fun t k => ch2 t (by
      show Steps p.tables e below (T1.setTop (mkF m 3 #[.val (.int (14 : Int32))] [(.ref a_VALUES)])) t
      refine XS.iloadN X1.here hx rfl (hb hby own_d_prog_11_method_5_code_3) rfl ?_
      show Steps p.tables e below (T1.setTop (mkF m 4 #[.val (.int (14 : Int32))] [(.int (14 : Int32)), (.ref a_VALUES)])) t
      refine X1.aaload hx (j := (14 : Int32)) (v := (.ref (ad 12))) (by rw [e1]; exact Ar3.1) (State.isArrayOf_alike hZ.alike Ar3.2.1) rfl Ar3.2.2 hin3 hat3 (g := (mkF m 4 #[.val (.int (14 : Int32))] [(.int (14 : Int32)), (.ref a_VALUES)])) rfl rfl (hb hby own_d_prog_11_method_5_code_4) _ ?_
      exact k)
  obtain ⟨fs, hr, hrun, hended, hW, hsame⟩ := X1.leave (v := some (.ref (ad 12))) (fun h => by rw [Bd.returns] at h; cases h)
  refine ⟨_, _, ch4 _ ?_, hrun, hended, _, _, rfl, ?_, ⟨_, rfl⟩, hW, hsame.mono (by decide) (by decide)⟩
  · show Steps p.tables e below (T1.setTop (mkF m 5 #[.val (.int (14 : Int32))] [(.ref (ad 12))])) _
    jvm_step X1.here [X1.here.top, hx, (hb hby own_d_prog_11_method_5_code_5), X1.method', Bd.returns, Value.isRef, FieldType.isReference]
    first | (intro acts; rw [hr _ acts rfl rfl rfl]) | rw [hr _ _ rfl rfl rfl]
    exact Steps.refl _
  · show QV (some (.ref (ad 12))) h0 n0 _ T1.heap _
    rw [e1]
    exact ⟨rfl, N0, rfl⟩
theorem own_ef_own_pred_14 (m : MethodId) {x0 : Addr} : entryFrame m #[(.ref x0)] 1 = mkF m 0 #[.val (.ref x0)] [] := by first | (simp [entryFrame, mkF, argsToLocals, Value.category, maxLocals]; done) | rfl
set_option maxRecDepth 65536 in
set_option maxHeartbeats 40000000 in
theorem own_pred_14 (l : Launch) (Z : State) (a0 : Array Value) (hw : ∀ d ∈ tables_1, d.before a0 Z = true) (ws : List Jvm.Cond) (h0 : Heap) (n0 : Nat) (Z0 : n0 ≤ h0.size) (ad : Nat → Addr) (a_VALUES : Addr) (k_VALUES : ClassId) (W : OwnWd Z h0 ad a_VALUES k_VALUES) :
    MetFree l (⟨"com/example/libsnippet/libsnippet/WordBreak", "isIgnorable", "()Z"⟩ : MethodName) (head1 (Jvm.Cond.code (⟨"com/example/libsnippet/libsnippet/WordBreak", "isIgnorable", "()Z"⟩ : MethodName) prog_11_method_7_code 1 (some .boolean) :: ws) ({ frames := 0, cells := 0, slots := 0, locals := 0 } : Room)) (fun a U => a = #[(.ref (ad 12))] ∧ Z.Warmed39 U.vm ∧ U.heap = h0) (fun _ _ _ _ _ => True) (fun _ U o U' => ∃ v L, o = .returned v ∧ QV (some (.int (0 : Int32))) h0 n0 v U'.heap L ∧ FrameEnd U o U' L ({ frames := 0, cells := 0, slots := 0, locals := 0 } : Room).cells ({ frames := 0, cells := 0, slots := 0, locals := 0 } : Room).slots) := by
  refine MetFree.of_bodySF (plainFor_of_name own_pn_com_example_libsnippet_libsnippet_WordBreak) hisR ?_
  intro p e s m args below meth c s₁ Bd hml0 hP hK
  obtain ⟨rfl, hZ, hh⟩ := hP
  have hx := Bd.exec
  have hby := Bd.bytes
  have hml : c.maxLocals = 1 := hml0
  have hown : s.vm.findClass "com/example/libsnippet/libsnippet/WordBreak" = some m.cls := findClass_of_methodNamed Bd.named
  have hnm := (name_of_methodNamed Bd.named Bd.method).1
  have X0 : Stand p l e ({ frames := 0, cells := 0, slots := 0, locals := 0 } : Room) s m #[(.ref (ad 12))] below meth c s₁ [] 0 0 := Stand.of_body Bd
  have e0 : s₁.heap = h0 := by rw [← hh, Bd.state]; rfl
  have N0 := Fr.nil n0
  have pre0 : ∀ t, Steps p.tables e below (s₁.setTop (mkF m 0 #[.val (.ref (ad 12))] [])) t → Steps p.tables e below (s₁.setTop (entryFrame m #[(.ref (ad 12))] 1)) t := fun t k => castTop (own_ef_own_pred_14 m) k
  obtain ⟨T1, X1, e1, st1⟩ := getS2 X0 hx hZ hown (host := "") (Or.inl (hw _ (List.mem_of_getElem? (i := 22) rfl))) Via.refl e0 (own_S_EXTEND W) (g := (mkF m 1 #[.val (.ref (ad 12))] [(.ref (ad 12))])) rfl (hb hby own_d_prog_11_method_7_code_1)
  have ch2 : ∀ t, Steps p.tables e below (T1.setTop (mkF m 4 #[.val (.ref (ad 12))] [(.ref (ad 1)), (.ref (ad 12))])) t → Steps p.tables e below (s₁.setTop (entryFrame m #[(.ref (ad 12))] 1)) t := fun t k => pre0 t (by
      show Steps p.tables e below (s₁.setTop (mkF m 0 #[.val (.ref (ad 12))] [])) t
      refine XS.aloadN X0.here hx rfl (hb hby own_d_prog_11_method_7_code_0) rfl rfl ?_
      show Steps p.tables e below (s₁.setTop (mkF m 1 #[.val (.ref (ad 12))] [(.ref (ad 12))])) t
      exact st1 t k)
  obtain ⟨T3, X3, e3, st3⟩ := getS2 X1 hx hZ hown (host := "") (Or.inl (hw _ (List.mem_of_getElem? (i := 24) rfl))) Via.refl e1 (own_S_FORMAT W) (g := (mkF m 8 #[.val (.ref (ad 12))] [(.ref (ad 12))])) rfl (hb hby own_d_prog_11_method_7_code_8)
  have ch4 : ∀ t, Steps p.tables e below (T3.setTop (mkF m 11 #[.val (.ref (ad 12))] [(.ref (ad 2)), (.ref (ad 12))])) t → Steps p.tables e below (s₁.setTop (entryFrame m #[(.ref (ad 12))] 1)) t := fun t k => ch2 t (by
      show Steps p.tables e below (T1.setTop (mkF m 4 #[.val (.ref (ad 12))] [(.ref (ad 1)), (.ref (ad 12))])) t
      refine Jvm.RoadKit.acmp (g := (mkF m 4 #[.val (.ref (ad 12))] [(.ref (ad 1)), (.ref (ad 12))])) X1 hx rfl rfl rfl (pc0 := 4) (pc' := 7) (same := false) rfl (hb hby own_d_prog_11_method_7_code_4) rfl (decide_eq_false fun q => (Fld.ne (own_F_MID_LETTER_ordinal W) (own_F_EXTEND_ordinal W) (by decide)) (Value.ref.inj q)) (by decide) (by decide) ?_
      show Steps p.tables e below (T1.setTop (mkF m 7 #[.val (.ref (ad 12))] [])) t
      refine XS.aloadN X1.here hx rfl (hb hby own_d_prog_11_method_7_code_7) rfl rfl ?_
      show Steps p.tables e below (T1.setTop (mkF m 8 #[.val (.ref (ad 12))] [(.ref (ad 12))])) t
      exact st3 t k)
  obtain ⟨T5, X5, e5, st5⟩ := getS2 X3 hx hZ hown (host := "") (Or.inl (hw _ (List.mem_of_getElem? (i := 26) rfl))) Via.refl e3 (own_S_ZWJ W) (g := (mkF m 15 #[.val (.ref (ad 12))] [(.ref (ad 12))])) rfl (hb hby own_d_prog_11_method_7_code_15)
  have ch6 : ∀ t, Steps p.tables e below (T5.setTop (mkF m 18 #[.val (.ref (ad 12))] [(.ref (ad 3)), (.ref (ad 12))])) t → Steps p.tables e below (s₁.setTop (entryFrame m #[(.ref (ad 12))] 1)) t := fun t k => ch4 t (by
      show Steps p.tables e below (T3.setTop (mkF m 11 #[.val (.ref (ad 12))] [(.ref (ad 2)), (.ref (ad 12))])) t
      refine Jvm.RoadKit.acmp (g := (mkF m 11 #[.val (.ref (ad 12))] [(.ref (ad 2)), (.ref (ad 12))])) X3 hx rfl rfl rfl (pc0 := 11) (pc' := 14) (same := false) rfl (hb hby own_d_prog_11_method_7_code_11) rfl (decide_eq_false fun q => (Fld.ne (own_F_MID_LETTER_ordinal W) (own_F_FORMAT_ordinal W) (by decide)) (Value.ref.inj q)) (by decide) (by decide) ?_
      show Steps p.tables e below (T3.setTop (mkF m 14 #[.val (.ref (ad 12))] [])) t
      refine XS.aloadN X3.here hx rfl (hb hby own_d_prog_11_method_7_code_14) rfl rfl ?_
      show Steps p.tables e below (T3.setTop (mkF m 15 #[.val (.ref (ad 12))] [(.ref (ad 12))])) t
      exact st5 t k)
  have ch7 : ∀ t, Steps p.tables e below (T5.setTop (mkF m 26 #[.val (.ref (ad 12))] [(.int (0 : Int32))])) t → Steps p.tables e below (s₁.setTop (entryFrame m #[(.ref (ad 12))] 1)) t := fun t k => ch6 t (by
      show Steps p.tables e below (T5.setTop (mkF m 18 #[.val (.ref (ad 12))] [(.ref (ad 3)), (.ref (ad 12))])) t
      refine Jvm.RoadKit.acmp (g := (mkF m 18 #[.val (.ref (ad 12))] [(.ref (ad 3)), (.ref (ad 12))])) X5 hx rfl rfl rfl (pc0 := 18) (pc' := 25) (same := false) rfl (hb hby own_d_prog_11_method_7_code_18) rfl (decide_eq_false fun q => (Fld.ne (own_F_MID_LETTER_ordinal W) (own_F_ZWJ_ordinal W) (by decide)) (Value.ref.inj q)) (by decide) (by decide) ?_
      show Steps p.tables e below (T5.setTop (mkF m 25 #[.val (.ref (ad 12))] [])) t
      refine XS.iconst X5.here hx rfl (hb hby own_d_prog_11_method_7_code_25) ?_
      exact k)
  obtain ⟨fs, hr, hrun, hended, hW, hsame⟩ := X5.leave (v := some (.int (0 : Int32))) (fun h => by rw [Bd.returns] at h; cases h)
  refine ⟨_, _, ch7 _ ?_, hrun, hended, _, _, rfl, ?_, ⟨_, rfl⟩, hW, hsame.mono (by decide) (by decide)⟩
  · show Steps p.tables e below (T5.setTop (mkF m 26 #[.val (.ref (ad 12))] [(.int (0 : Int32))])) _
    exact retN X5 hx (t := .boolean) Bd.returns (by simp) (hb hby own_d_prog_11_method_7_code_26) hr
  · show QV (some (.int (0 : Int32))) h0 n0 _ T5.heap _
    rw [e5]
    exact ⟨rfl, N0, rfl⟩
theorem own_ef_own_ordi_14 (m : MethodId) {x0 : Addr} : entryFrame m #[(.ref x0)] 1 = mkF m 0 #[.val (.ref x0)] [] := by first | (simp [entryFrame, mkF, argsToLocals, Value.category, maxLocals]; done) | rfl
set_option maxRecDepth 65536 in
set_option maxHeartbeats 40000000 in
theorem own_ordi_14 (l : Launch) (Z : State) (a0 : Array Value) (hw : ∀ d ∈ tables_1, d.before a0 Z = true) (ws : List Jvm.Cond) (h0 : Heap) (n0 : Nat) (Z0 : n0 ≤ h0.size) (ad : Nat → Addr) (a_VALUES : Addr) (k_VALUES : ClassId) (W : OwnWd Z h0 ad a_VALUES k_VALUES) :
    MetFree l (⟨"java/lang/Enum", "ordinal", "()I"⟩ : MethodName) (head1 (Jvm.Cond.code (⟨"java/lang/Enum", "ordinal", "()I"⟩ : MethodName) jdk_37_method_2_code 1 (some .int) :: ws) ({ frames := 0, cells := 0, slots := 0, locals := 0 } : Room)) (fun a U => a = #[(.ref (ad 12))] ∧ Z.Warmed39 U.vm ∧ U.heap = h0) (fun _ _ _ _ _ => True) (fun _ U o U' => ∃ v L, o = .returned v ∧ QV (some (.int (14 : Int32))) h0 n0 v U'.heap L ∧ FrameEnd U o U' L ({ frames := 0, cells := 0, slots := 0, locals := 0 } : Room).cells ({ frames := 0, cells := 0, slots := 0, locals := 0 } : Room).slots) := by
  refine MetFree.of_bodySF (plainFor_of_name own_pn_java_lang_Enum) hisR ?_
  intro p e s m args below meth c s₁ Bd hml0 hP hK
  obtain ⟨rfl, hZ, hh⟩ := hP
  have hx := Bd.exec
  have hby := Bd.bytes
  have hml : c.maxLocals = 1 := hml0
  have hown : s.vm.findClass "java/lang/Enum" = some m.cls := findClass_of_methodNamed Bd.named
  have hnm := (name_of_methodNamed Bd.named Bd.method).1
  have X0 : Stand p l e ({ frames := 0, cells := 0, slots := 0, locals := 0 } : Room) s m #[(.ref (ad 12))] below meth c s₁ [] 0 0 := Stand.of_body Bd
  have e0 : s₁.heap = h0 := by rw [← hh, Bd.state]; rfl
  have N0 := Fr.nil n0
  have pre0 : ∀ t, Steps p.tables e below (s₁.setTop (mkF m 0 #[.val (.ref (ad 12))] [])) t → Steps p.tables e below (s₁.setTop (entryFrame m #[(.ref (ad 12))] 1)) t := fun t k => castTop (own_ef_own_ordi_14 m) k
  obtain ⟨T1, X1, e1, st1⟩ := getF X0 hx hZ hown (host := "") (Or.inl (hw _ (List.mem_of_getElem? (i := 15) rfl))) Via.refl e0 (own_F_MID_LETTER_ordinal W) (g := (mkF m 1 #[.val (.ref (ad 12))] [(.ref (ad 12))])) rfl rfl (hb hby own_d_jdk_37_method_2_code_1)
  have ch2 : ∀ t, Steps p.tables e below (T1.setTop (mkF m 4 #[.val (.ref (ad 12))] [(.int (14 : Int32))])) t → Steps p.tables e below (s₁.setTop (entryFrame m #[(.ref (ad 12))] 1)) t := fun t k => pre0 t (by
      show Steps p.tables e below (s₁.setTop (mkF m 0 #[.val (.ref (ad 12))] [])) t
      refine XS.aloadN X0.here hx rfl (hb hby own_d_jdk_37_method_2_code_0) rfl rfl ?_
      show Steps p.tables e below (s₁.setTop (mkF m 1 #[.val (.ref (ad 12))] [(.ref (ad 12))])) t
      exact st1 t k)
  obtain ⟨fs, hr, hrun, hended, hW, hsame⟩ := X1.leave (v := some (.int (14 : Int32))) (fun h => by rw [Bd.returns] at h; cases h)
  refine ⟨_, _, ch2 _ ?_, hrun, hended, _, _, rfl, ?_, ⟨_, rfl⟩, hW, hsame.mono (by decide) (by decide)⟩
  · show Steps p.tables e below (T1.setTop (mkF m 4 #[.val (.ref (ad 12))] [(.int (14 : Int32))])) _
    exact retI X1 hx Bd.returns (hb hby own_d_jdk_37_method_2_code_4) hr
  · show QV (some (.int (14 : Int32))) h0 n0 _ T1.heap _
    rw [e1]
    exact ⟨rfl, N0, rfl⟩
theorem own_ef_own_law_14 (m : MethodId) {x0 : Int32} : entryFrame m #[(.int x0)] maxLocals = mkF m 0 #[.val (.int x0), .unset, .unset, .unset] [] := by first | (simp [entryFrame, mkF, argsToLocals, Value.category, maxLocals]; done) | rfl
set_option maxRecDepth 65536 in
set_option maxHeartbeats 40000000 in
theorem own_law_14 (l : Launch) (Z : State) (a0 : Array Value) (hw : ∀ d ∈ tables_1, d.before a0 Z = true) (ws : List Jvm.Cond) (h0 : Heap) (n0 : Nat) (Z0 : n0 ≤ h0.size) (p1 : Int32) (hk : (p1 &&& (2147483647 : Int32)) % (19 : Int32) = (14 : Int32)) (ad : Nat → Addr) (a_VALUES : Addr) (k_VALUES : ClassId) (W : OwnWd Z h0 ad a_VALUES k_VALUES) :
    MetFree l x (head1 (Jvm.Cond.code x code maxLocals ret :: ws) room_1) (fun a U => a = #[(.int p1)] ∧ Z.Warmed39 U.vm ∧ U.heap = h0) (fun _ _ _ _ _ => True) (fun _ U o U' => ∃ v L, o = .returned v ∧ QN (some (.int (1 : Int32))) n0 v U'.heap L ∧ FrameEnd U o U' L room_1.cells room_1.slots) := by
  refine MetFree.of_bodySF (plainFor_of_name own_pn_com_example_libsnippet_libsnippet_WordBreakIsIgnorablePinLaw) hisR ?_
  intro p e s m args below meth c s₁ Bd hml0 hP hK
  obtain ⟨rfl, hZ, hh⟩ := hP
  have hx := Bd.exec
  have hby := Bd.bytes
  have hml : c.maxLocals = 4 := hml0
  have hown : s.vm.findClass "com/example/libsnippet/libsnippet/WordBreakIsIgnorablePinLaw" = some m.cls := findClass_of_methodNamed Bd.named
  have hnm := (name_of_methodNamed Bd.named Bd.method).1
  have X0 : Stand p l e room_1 s m #[(.int p1)] below meth c s₁ [] 0 0 := Stand.of_body Bd
  have e0 : s₁.heap = h0 := by rw [← hh, Bd.state]; rfl
  have N0 := Fr.nil n0
  have pre0 : ∀ t, Steps p.tables e below (s₁.setTop (mkF m 0 #[.val (.int p1), .unset, .unset, .unset] [])) t → Steps p.tables e below (s₁.setTop (entryFrame m #[(.int p1)] maxLocals)) t := fun t k => castTop (own_ef_own_law_14 m) k
  obtain ⟨vv1, _, ⟨T1, L1, kk1, nn1⟩, -, X1, ⟨Lc1, hQ1, l1, y1, z1⟩, st1⟩ := Jvm.LawKit.callS X0 hx (y := (⟨"com/example/libsnippet/libsnippet/WordBreak", "ofOrdinal", "(I)Lcom/example/libsnippet/libsnippet/WordBreak;"⟩ : MethodName)) hown (mvT hZ (hw _ (List.mem_of_getElem? (i := 1) rfl))) (mvT hZ (hw _ (List.mem_of_getElem? (i := 2) rfl))) (mvT hZ (hw _ (List.mem_of_getElem? (i := 3) rfl))) (mvT hZ (hw _ (List.mem_of_getElem? (i := 4) rfl))) (by decide) (backOf (W := 0) (own_pick_14 l Z a0 hw [] h0 n0 Z0 ad a_VALUES k_VALUES W) hZ (hw _ (List.mem_of_getElem? (i := 4) rfl)) (hw _ (List.mem_of_getElem? (i := 3) rfl)) (by decide) (by decide)) (g := (mkF m 9 #[.val (.int p1), .val (.int (14 : Int32)), .unset, .unset] [(.int (14 : Int32))])) rfl (by rw [hml]; rfl) (argsL := [(.int (14 : Int32))]) (rest := []) (lenOf own_pd__I_Lcom_example_libsnippet_libsnippet_WordBreak_ rfl) rfl (by show 2 * 0 + _ ≤ _; exact Nat.le_of_eq rfl) (hb hby at_9) (fun _ _ => ⟨rfl, e0, (by decide : 0 + 0 ≤ _), (by decide : 0 + 0 ≤ _)⟩)
  dsimp only [Pt.U, Pt.locs, Pt.cells, Pt.slots] at X1 l1 y1 z1 st1 hQ1
  subst l1 y1 z1
  obtain ⟨rfl, Nq1, e1⟩ := hQ1
  have N1 := Fr.app N0 Nq1
  have ch2 : ∀ t, Steps p.tables e below (T1.setTop (mkF m 12 #[.val (.int p1), .val (.int (14 : Int32)), .unset, .unset] [(.ref (ad 12))])) t → Steps p.tables e below (s₁.setTop (entryFrame m #[(.int p1)] maxLocals)) t := fun t k => pre0 t (by
      show Steps p.tables e below (s₁.setTop (mkF m 0 #[.val (.int p1), .unset, .unset, .unset] [])) t
      refine XS.iloadN X0.here hx rfl (hb hby at_0) rfl ?_
      show Steps p.tables e below (s₁.setTop (mkF m 1 #[.val (.int p1), .unset, .unset, .unset] [(.int p1)])) t
      refine X0.ldcInt hx hown (mvT hZ (hw _ (List.mem_of_getElem? (i := 0) rfl))) (g := (mkF m 1 #[.val (.int p1), .unset, .unset, .unset] [(.int p1)])) rfl (hb hby at_1) _ ?_
      show Steps p.tables e below (s₁.setTop (mkF m 3 #[.val (.int p1), .unset, .unset, .unset] [(.int (2147483647 : Int32)), (.int p1)])) t
      refine XS.iand X0.here hx rfl (hb hby at_3) rfl ?_
      show Steps p.tables e below (s₁.setTop (mkF m 4 #[.val (.int p1), .unset, .unset, .unset] [(.int (p1 &&& (2147483647 : Int32)))])) t
      refine XS.bipush X0.here hx rfl (hb hby at_4) ?_
      show Steps p.tables e below (s₁.setTop (mkF m 6 #[.val (.int p1), .unset, .unset, .unset] [(.int (19 : Int32)), (.int (p1 &&& (2147483647 : Int32)))])) t
      refine Jvm.RoadKit.iremM (g := (mkF m 6 #[.val (.int p1), .unset, .unset, .unset] [(.int (19 : Int32)), (.int (p1 &&& (2147483647 : Int32)))])) X0 hx rfl (hb hby at_6) rfl (by decide) ?_
      rw [hk]
      show Steps p.tables e below (s₁.setTop (mkF m 7 #[.val (.int p1), .unset, .unset, .unset] [(.int (14 : Int32))])) t
      refine XS.istoreN X0.here hx rfl (hb hby at_7) rfl (l' := #[.val (.int p1), .val (.int (14 : Int32)), .unset, .unset]) rfl ?_
      show Steps p.tables e below (s₁.setTop (mkF m 8 #[.val (.int p1), .val (.int (14 : Int32)), .unset, .unset] [])) t
      refine XS.iloadN X0.here hx rfl (hb hby at_8) rfl ?_
      show Steps p.tables e below (s₁.setTop (mkF m 9 #[.val (.int p1), .val (.int (14 : Int32)), .unset, .unset] [(.int (14 : Int32))])) t
      exact st1 t k)
  obtain ⟨cq3, kq3, qa3, qb3, qc3⟩ := isOf hZ e1 (own_E_MID_LETTER W)
  obtain ⟨vv4, _, ⟨T4, L4, kk4, nn4⟩, -, X4, ⟨Lc4, hQ4, l4, y4, z4⟩, st4⟩ := X1.virtualBackUp hx (x := (⟨"com/example/libsnippet/libsnippet/WordBreak", "ordinal", "()I"⟩ : MethodName)) (y := (⟨"java/lang/Enum", "ordinal", "()I"⟩ : MethodName)) (owner := "java/lang/Enum") hown (mvT hZ (hw _ (List.mem_of_getElem? (i := 8) rfl))) (mvT hZ (hw _ (List.mem_of_getElem? (i := 9) rfl))) (mvT hZ (hw _ (List.mem_of_getElem? (i := 10) rfl))) (by decide) (mvT hZ (hw _ (List.mem_of_getElem? (i := 12) rfl))) (mvT hZ (hw _ (List.mem_of_getElem? (i := 11) rfl))) (backOf (W := 0) (own_ordi_14 l Z a0 hw [] h0 n0 Z0 ad a_VALUES k_VALUES W) hZ (hw _ (List.mem_of_getElem? (i := 14) rfl)) (hw _ (List.mem_of_getElem? (i := 13) rfl)) (by decide) (by decide)) qa3 qc3 (g := (mkF m 36 #[.val (.int p1), .val (.int (14 : Int32)), .val (.ref (ad 12)), .val (.int (0 : Int32))] [(.ref (ad 12))])) rfl (by rw [hml]; rfl) (Steps.refl _) (argsL := []) (rest := []) (lenOf own_pd___I rfl) rfl (by show 2 * 0 + _ ≤ _; exact Nat.le_of_eq rfl) (hb hby at_36) (fun _ _ => ⟨rfl, e1, (by decide : 0 + 0 ≤ _), (by decide : 0 + 0 ≤ _)⟩)
  dsimp only [Pt.U, Pt.locs, Pt.cells, Pt.slots] at X4 l4 y4 z4 st4 hQ4
  subst l4 y4 z4
  obtain ⟨rfl, Nq4, e4⟩ := hQ4
  have N4 := Fr.app N1 Nq4
  have ch5 : ∀ t, Steps p.tables e below (T4.setTop (mkF m 39 #[.val (.int p1), .val (.int (14 : Int32)), .val (.ref (ad 12)), .val (.int (0 : Int32))] [(.int (14 : Int32))])) t → Steps p.tables e below (s₁.setTop (entryFrame m #[(.int p1)] maxLocals)) t := fun t k => ch2 t (by
      show Steps p.tables e below (T1.setTop (mkF m 12 #[.val (.int p1), .val (.int (14 : Int32)), .unset, .unset] [(.ref (ad 12))])) t
      refine XS.astoreN X1.here hx rfl (hb hby at_12) rfl rfl (l' := #[.val (.int p1), .val (.int (14 : Int32)), .val (.ref (ad 12)), .unset]) rfl ?_
      show Steps p.tables e below (T1.setTop (mkF m 13 #[.val (.int p1), .val (.int (14 : Int32)), .val (.ref (ad 12)), .unset] [])) t
      refine XS.iloadN X1.here hx rfl (hb hby at_13) rfl ?_
      show Steps p.tables e below (T1.setTop (mkF m 14 #[.val (.int p1), .val (.int (14 : Int32)), .val (.ref (ad 12)), .unset] [(.int (14 : Int32))])) t
      refine XS.iconst X1.here hx rfl (hb hby at_14) ?_
      show Steps p.tables e below (T1.setTop (mkF m 15 #[.val (.int p1), .val (.int (14 : Int32)), .val (.ref (ad 12)), .unset] [(.int (4 : Int32)), (.int (14 : Int32))])) t
      refine XS.icmpNo X1.here hx rfl (hb hby at_15) rfl (feq (by decide : ¬ (14 : Int32) = (4 : Int32))).1 ?_
      show Steps p.tables e below (T1.setTop (mkF m 18 #[.val (.int p1), .val (.int (14 : Int32)), .val (.ref (ad 12)), .unset] [])) t
      refine XS.iloadN X1.here hx rfl (hb hby at_18) rfl ?_
      show Steps p.tables e below (T1.setTop (mkF m 19 #[.val (.int p1), .val (.int (14 : Int32)), .val (.ref (ad 12)), .unset] [(.int (14 : Int32))])) t
      refine XS.iconst X1.here hx rfl (hb hby at_19) ?_
      show Steps p.tables e below (T1.setTop (mkF m 20 #[.val (.int p1), .val (.int (14 : Int32)), .val (.ref (ad 12)), .unset] [(.int (5 : Int32)), (.int (14 : Int32))])) t
      refine XS.icmpNo X1.here hx rfl (hb hby at_20) rfl (feq (by decide : ¬ (14 : Int32) = (5 : Int32))).1 ?_
      show Steps p.tables e below (T1.setTop (mkF m 23 #[.val (.int p1), .val (.int (14 : Int32)), .val (.ref (ad 12)), .unset] [])) t
      refine XS.iloadN X1.here hx rfl (hb hby at_23) rfl ?_
      show Steps p.tables e below (T1.setTop (mkF m 24 #[.val (.int p1), .val (.int (14 : Int32)), .val (.ref (ad 12)), .unset] [(.int (14 : Int32))])) t
      refine XS.bipush X1.here hx rfl (hb hby at_24) ?_
      show Steps p.tables e below (T1.setTop (mkF m 26 #[.val (.int p1), .val (.int (14 : Int32)), .val (.ref (ad 12)), .unset] [(.int (7 : Int32)), (.int (14 : Int32))])) t
      refine XS.icmpYes X1.here hx rfl (pc0 := 26) (pc' := 33) rfl (hb hby at_26) rfl (feq (by decide : ¬ (14 : Int32) = (7 : Int32))).2 (by decide) (by decide) ?_
      show Steps p.tables e below (T1.setTop (mkF m 33 #[.val (.int p1), .val (.int (14 : Int32)), .val (.ref (ad 12)), .unset] [])) t
      refine XS.iconst X1.here hx rfl (hb hby at_33) ?_
      show Steps p.tables e below (T1.setTop (mkF m 34 #[.val (.int p1), .val (.int (14 : Int32)), .val (.ref (ad 12)), .unset] [(.int (0 : Int32))])) t
      refine XS.istoreN X1.here hx rfl (hb hby at_34) rfl (l' := #[.val (.int p1), .val (.int (14 : Int32)), .val (.ref (ad 12)), .val (.int (0 : Int32))]) rfl ?_
      show Steps p.tables e below (T1.setTop (mkF m 35 #[.val (.int p1), .val (.int (14 : Int32)), .val (.ref (ad 12)), .val (.int (0 : Int32))] [])) t
      refine XS.aloadN X1.here hx rfl (hb hby at_35) rfl rfl ?_
      show Steps p.tables e below (T1.setTop (mkF m 36 #[.val (.int p1), .val (.int (14 : Int32)), .val (.ref (ad 12)), .val (.int (0 : Int32))] [(.ref (ad 12))])) t
      exact st4.trans k)
  obtain ⟨cq6, kq6, qa6, qb6, qc6⟩ := isOf hZ e4 (own_E_MID_LETTER W)
  obtain ⟨vv7, _, ⟨T7, L7, kk7, nn7⟩, -, X7, ⟨Lc7, hQ7, l7, y7, z7⟩, st7⟩ := X4.virtualBack hx (y := (⟨"com/example/libsnippet/libsnippet/WordBreak", "isIgnorable", "()Z"⟩ : MethodName)) (z := (⟨"com/example/libsnippet/libsnippet/WordBreak", "isIgnorable", "()Z"⟩ : MethodName)) hown (mvT hZ (hw _ (List.mem_of_getElem? (i := 17) rfl))) (mvT hZ (hw _ (List.mem_of_getElem? (i := 18) rfl))) (notFace_of_selects (args := #[]) (mvT hZ (hw _ (List.mem_of_getElem? (i := 20) rfl)))) (mvT hZ (hw _ (List.mem_of_getElem? (i := 20) rfl))) (mvT hZ (hw _ (List.mem_of_getElem? (i := 19) rfl))) (by decide) (backOf (W := 0) (own_pred_14 l Z a0 hw [] h0 n0 Z0 ad a_VALUES k_VALUES W) hZ (hw _ (List.mem_of_getElem? (i := 21) rfl)) (hw _ (List.mem_of_getElem? (i := 3) rfl)) (by decide) (by decide)) qa6 qc6 (g := (mkF m 44 #[.val (.int p1), .val (.int (14 : Int32)), .val (.ref (ad 12)), .val (.int (0 : Int32))] [(.ref (ad 12))])) rfl (by rw [hml]; rfl) (Steps.refl _) (argsL := []) (rest := []) (lenOf own_pd___Z rfl) rfl (by show 2 * 0 + _ ≤ _; exact Nat.le_of_eq rfl) (hb hby at_44) (fun _ _ => ⟨rfl, e4, (by decide : 0 + 0 ≤ _), (by decide : 0 + 0 ≤ _)⟩)
  dsimp only [Pt.U, Pt.locs, Pt.cells, Pt.slots] at X7 l7 y7 z7 st7 hQ7
  subst l7 y7 z7
  obtain ⟨rfl, Nq7, e7⟩ := hQ7
  have N7 := Fr.app N4 Nq7
  have ch8 : ∀ t, Steps p.tables e below (T7.setTop (mkF m 47 #[.val (.int p1), .val (.int (14 : Int32)), .val (.ref (ad 12)), .val (.int (0 : Int32))] [(.int (0 : Int32))])) t → Steps p.tables e below (s₁.setTop (entryFrame m #[(.int p1)] maxLocals)) t := fun t k => ch5 t (by
      show Steps p.tables e below (T4.setTop (mkF m 39 #[.val (.int p1), .val (.int (14 : Int32)), .val (.ref (ad 12)), .val (.int (0 : Int32))] [(.int (14 : Int32))])) t
      refine XS.iloadN X4.here hx rfl (hb hby at_39) rfl ?_
      show Steps p.tables e below (T4.setTop (mkF m 40 #[.val (.int p1), .val (.int (14 : Int32)), .val (.ref (ad 12)), .val (.int (0 : Int32))] [(.int (14 : Int32)), (.int (14 : Int32))])) t
      refine XS.icmpNo X4.here hx rfl (hb hby at_40) rfl (teq (by decide : (14 : Int32) = (14 : Int32))).2 ?_
      show Steps p.tables e below (T4.setTop (mkF m 43 #[.val (.int p1), .val (.int (14 : Int32)), .val (.ref (ad 12)), .val (.int (0 : Int32))] [])) t
      refine XS.aloadN X4.here hx rfl (hb hby at_43) rfl rfl ?_
      show Steps p.tables e below (T4.setTop (mkF m 44 #[.val (.int p1), .val (.int (14 : Int32)), .val (.ref (ad 12)), .val (.int (0 : Int32))] [(.ref (ad 12))])) t
      exact st7.trans k)
  have ch9 : ∀ t, Steps p.tables e below (T7.setTop (mkF m 56 #[.val (.int p1), .val (.int (14 : Int32)), .val (.ref (ad 12)), .val (.int (0 : Int32))] [(.int (1 : Int32))])) t → Steps p.tables e below (s₁.setTop (entryFrame m #[(.int p1)] maxLocals)) t := fun t k => ch8 t (by
      show Steps p.tables e below (T7.setTop (mkF m 47 #[.val (.int p1), .val (.int (14 : Int32)), .val (.ref (ad 12)), .val (.int (0 : Int32))] [(.int (0 : Int32))])) t
      refine XS.iloadN X7.here hx rfl (hb hby at_47) rfl ?_
      show Steps p.tables e below (T7.setTop (mkF m 48 #[.val (.int p1), .val (.int (14 : Int32)), .val (.ref (ad 12)), .val (.int (0 : Int32))] [(.int (0 : Int32)), (.int (0 : Int32))])) t
      refine XS.icmpNo X7.here hx rfl (hb hby at_48) rfl (teq (by decide : (0 : Int32) = (0 : Int32))).2 ?_
      show Steps p.tables e below (T7.setTop (mkF m 51 #[.val (.int p1), .val (.int (14 : Int32)), .val (.ref (ad 12)), .val (.int (0 : Int32))] [])) t
      refine XS.iconst X7.here hx rfl (hb hby at_51) ?_
      show Steps p.tables e below (T7.setTop (mkF m 52 #[.val (.int p1), .val (.int (14 : Int32)), .val (.ref (ad 12)), .val (.int (0 : Int32))] [(.int (1 : Int32))])) t
      refine XS.goto X7.here hx rfl (pc0 := 52) (pc' := 56) rfl (hb hby at_52) (by decide) (by decide) ?_
      exact k)
  obtain ⟨fs, hr, hrun, hended, hW, hsame⟩ := X7.leave (v := some (.int (1 : Int32))) (fun h => by rw [Bd.returns] at h; cases h)
  refine ⟨_, _, ch9 _ ?_, hrun, hended, _, _, rfl, ?_, ⟨_, rfl⟩, hW, hsame.mono (by decide) (by decide)⟩
  · show Steps p.tables e below (T7.setTop (mkF m 56 #[.val (.int p1), .val (.int (14 : Int32)), .val (.ref (ad 12)), .val (.int (0 : Int32))] [(.int (1 : Int32))])) _
    exact retN X7 hx (t := .boolean) Bd.returns (by simp) (hb hby at_56) hr
  · show QN (some (.int (1 : Int32))) n0 _ T7.heap _
    rw [e7]
    exact ⟨rfl, N7⟩
theorem own_ef_own_pick_15 (m : MethodId) {x0 : Int32} : entryFrame m #[(.int x0)] 1 = mkF m 0 #[.val (.int x0)] [] := by first | (simp [entryFrame, mkF, argsToLocals, Value.category, maxLocals]; done) | rfl
set_option maxRecDepth 65536 in
set_option maxHeartbeats 40000000 in
theorem own_pick_15 (l : Launch) (Z : State) (a0 : Array Value) (hw : ∀ d ∈ tables_1, d.before a0 Z = true) (ws : List Jvm.Cond) (h0 : Heap) (n0 : Nat) (Z0 : n0 ≤ h0.size) (ad : Nat → Addr) (a_VALUES : Addr) (k_VALUES : ClassId) (W : OwnWd Z h0 ad a_VALUES k_VALUES) :
    MetFree l (⟨"com/example/libsnippet/libsnippet/WordBreak", "ofOrdinal", "(I)Lcom/example/libsnippet/libsnippet/WordBreak;"⟩ : MethodName) (head1 (Jvm.Cond.code (⟨"com/example/libsnippet/libsnippet/WordBreak", "ofOrdinal", "(I)Lcom/example/libsnippet/libsnippet/WordBreak;"⟩ : MethodName) prog_11_method_5_code 1 (some (.object "com/example/libsnippet/libsnippet/WordBreak")) :: ws) ({ frames := 0, cells := 0, slots := 0, locals := 0 } : Room)) (fun a U => a = #[(.int (15 : Int32))] ∧ Z.Warmed39 U.vm ∧ U.heap = h0) (fun _ _ _ _ _ => True) (fun _ U o U' => ∃ v L, o = .returned v ∧ QV (some (.ref (ad 5))) h0 n0 v U'.heap L ∧ FrameEnd U o U' L ({ frames := 0, cells := 0, slots := 0, locals := 0 } : Room).cells ({ frames := 0, cells := 0, slots := 0, locals := 0 } : Room).slots) := by
  refine MetFree.of_bodySF (plainFor_of_name own_pn_com_example_libsnippet_libsnippet_WordBreak) hisR ?_
  intro p e s m args below meth c s₁ Bd hml0 hP hK
  obtain ⟨rfl, hZ, hh⟩ := hP
  have hx := Bd.exec
  have hby := Bd.bytes
  have hml : c.maxLocals = 1 := hml0
  have hown : s.vm.findClass "com/example/libsnippet/libsnippet/WordBreak" = some m.cls := findClass_of_methodNamed Bd.named
  have hnm := (name_of_methodNamed Bd.named Bd.method).1
  have X0 : Stand p l e ({ frames := 0, cells := 0, slots := 0, locals := 0 } : Room) s m #[(.int (15 : Int32))] below meth c s₁ [] 0 0 := Stand.of_body Bd
  have e0 : s₁.heap = h0 := by rw [← hh, Bd.state]; rfl
  have N0 := Fr.nil n0
  have pre0 : ∀ t, Steps p.tables e below (s₁.setTop (mkF m 0 #[.val (.int (15 : Int32))] [])) t → Steps p.tables e below (s₁.setTop (entryFrame m #[(.int (15 : Int32))] 1)) t := fun t k => castTop (own_ef_own_pick_15 m) k
  obtain ⟨T1, X1, e1, st1⟩ := getS2 X0 hx hZ hown (host := "") (Or.inl (hw _ (List.mem_of_getElem? (i := 5) rfl))) Via.refl e0 (own_S_VALUES W) (g := (mkF m 0 #[.val (.int (15 : Int32))] [])) rfl (hb hby own_d_prog_11_method_5_code_0)
  have ch2 : ∀ t, Steps p.tables e below (T1.setTop (mkF m 3 #[.val (.int (15 : Int32))] [(.ref a_VALUES)])) t → Steps p.tables e below (s₁.setTop (entryFrame m #[(.int (15 : Int32))] 1)) t := fun t k => pre0 t (by
      show Steps p.tables e below (s₁.setTop (mkF m 0 #[.val (.int (15 : Int32))] [])) t
      exact st1 t k)
  obtain ⟨cl3, Ar3, -, Sz3, Ng3, Ha3, -⟩ := (own_V_VALUES W)
  have hin3 : ¬ ((15 : Int32) < 0 ∨ cl3.slots.size ≤ ((15 : Int32)).toNatClampNeg) := inb_of Sz3 (by decide)
  have hat3 : cl3.slots[((15 : Int32)).toNatClampNeg]? = some (.ref (ad 5)) := Ha3.at hin3 rfl
  have ch4 : ∀ t, Steps p.tables e below (T1.setTop (mkF m 5 #[.val (.int (15 : Int32))] [(.ref (ad 5))])) t → Steps p.tables e below (s₁.setTop (entryFrame m #[(.int (15 : Int32))] 1)) t := fun t k => ch2 t (by
      show Steps p.tables e below (T1.setTop (mkF m 3 #[.val (.int (15 : Int32))] [(.ref a_VALUES)])) t
      refine XS.iloadN X1.here hx rfl (hb hby own_d_prog_11_method_5_code_3) rfl ?_
      show Steps p.tables e below (T1.setTop (mkF m 4 #[.val (.int (15 : Int32))] [(.int (15 : Int32)), (.ref a_VALUES)])) t
      refine X1.aaload hx (j := (15 : Int32)) (v := (.ref (ad 5))) (by rw [e1]; exact Ar3.1) (State.isArrayOf_alike hZ.alike Ar3.2.1) rfl Ar3.2.2 hin3 hat3 (g := (mkF m 4 #[.val (.int (15 : Int32))] [(.int (15 : Int32)), (.ref a_VALUES)])) rfl rfl (hb hby own_d_prog_11_method_5_code_4) _ ?_
      exact k)
  obtain ⟨fs, hr, hrun, hended, hW, hsame⟩ := X1.leave (v := some (.ref (ad 5))) (fun h => by rw [Bd.returns] at h; cases h)
  refine ⟨_, _, ch4 _ ?_, hrun, hended, _, _, rfl, ?_, ⟨_, rfl⟩, hW, hsame.mono (by decide) (by decide)⟩
  · show Steps p.tables e below (T1.setTop (mkF m 5 #[.val (.int (15 : Int32))] [(.ref (ad 5))])) _
    jvm_step X1.here [X1.here.top, hx, (hb hby own_d_prog_11_method_5_code_5), X1.method', Bd.returns, Value.isRef, FieldType.isReference]
    first | (intro acts; rw [hr _ acts rfl rfl rfl]) | rw [hr _ _ rfl rfl rfl]
    exact Steps.refl _
  · show QV (some (.ref (ad 5))) h0 n0 _ T1.heap _
    rw [e1]
    exact ⟨rfl, N0, rfl⟩
theorem own_ef_own_pred_15 (m : MethodId) {x0 : Addr} : entryFrame m #[(.ref x0)] 1 = mkF m 0 #[.val (.ref x0)] [] := by first | (simp [entryFrame, mkF, argsToLocals, Value.category, maxLocals]; done) | rfl
set_option maxRecDepth 65536 in
set_option maxHeartbeats 40000000 in
theorem own_pred_15 (l : Launch) (Z : State) (a0 : Array Value) (hw : ∀ d ∈ tables_1, d.before a0 Z = true) (ws : List Jvm.Cond) (h0 : Heap) (n0 : Nat) (Z0 : n0 ≤ h0.size) (ad : Nat → Addr) (a_VALUES : Addr) (k_VALUES : ClassId) (W : OwnWd Z h0 ad a_VALUES k_VALUES) :
    MetFree l (⟨"com/example/libsnippet/libsnippet/WordBreak", "isIgnorable", "()Z"⟩ : MethodName) (head1 (Jvm.Cond.code (⟨"com/example/libsnippet/libsnippet/WordBreak", "isIgnorable", "()Z"⟩ : MethodName) prog_11_method_7_code 1 (some .boolean) :: ws) ({ frames := 0, cells := 0, slots := 0, locals := 0 } : Room)) (fun a U => a = #[(.ref (ad 5))] ∧ Z.Warmed39 U.vm ∧ U.heap = h0) (fun _ _ _ _ _ => True) (fun _ U o U' => ∃ v L, o = .returned v ∧ QV (some (.int (0 : Int32))) h0 n0 v U'.heap L ∧ FrameEnd U o U' L ({ frames := 0, cells := 0, slots := 0, locals := 0 } : Room).cells ({ frames := 0, cells := 0, slots := 0, locals := 0 } : Room).slots) := by
  refine MetFree.of_bodySF (plainFor_of_name own_pn_com_example_libsnippet_libsnippet_WordBreak) hisR ?_
  intro p e s m args below meth c s₁ Bd hml0 hP hK
  obtain ⟨rfl, hZ, hh⟩ := hP
  have hx := Bd.exec
  have hby := Bd.bytes
  have hml : c.maxLocals = 1 := hml0
  have hown : s.vm.findClass "com/example/libsnippet/libsnippet/WordBreak" = some m.cls := findClass_of_methodNamed Bd.named
  have hnm := (name_of_methodNamed Bd.named Bd.method).1
  have X0 : Stand p l e ({ frames := 0, cells := 0, slots := 0, locals := 0 } : Room) s m #[(.ref (ad 5))] below meth c s₁ [] 0 0 := Stand.of_body Bd
  have e0 : s₁.heap = h0 := by rw [← hh, Bd.state]; rfl
  have N0 := Fr.nil n0
  have pre0 : ∀ t, Steps p.tables e below (s₁.setTop (mkF m 0 #[.val (.ref (ad 5))] [])) t → Steps p.tables e below (s₁.setTop (entryFrame m #[(.ref (ad 5))] 1)) t := fun t k => castTop (own_ef_own_pred_15 m) k
  obtain ⟨T1, X1, e1, st1⟩ := getS2 X0 hx hZ hown (host := "") (Or.inl (hw _ (List.mem_of_getElem? (i := 22) rfl))) Via.refl e0 (own_S_EXTEND W) (g := (mkF m 1 #[.val (.ref (ad 5))] [(.ref (ad 5))])) rfl (hb hby own_d_prog_11_method_7_code_1)
  have ch2 : ∀ t, Steps p.tables e below (T1.setTop (mkF m 4 #[.val (.ref (ad 5))] [(.ref (ad 1)), (.ref (ad 5))])) t → Steps p.tables e below (s₁.setTop (entryFrame m #[(.ref (ad 5))] 1)) t := fun t k => pre0 t (by
      show Steps p.tables e below (s₁.setTop (mkF m 0 #[.val (.ref (ad 5))] [])) t
      refine XS.aloadN X0.here hx rfl (hb hby own_d_prog_11_method_7_code_0) rfl rfl ?_
      show Steps p.tables e below (s₁.setTop (mkF m 1 #[.val (.ref (ad 5))] [(.ref (ad 5))])) t
      exact st1 t k)
  obtain ⟨T3, X3, e3, st3⟩ := getS2 X1 hx hZ hown (host := "") (Or.inl (hw _ (List.mem_of_getElem? (i := 24) rfl))) Via.refl e1 (own_S_FORMAT W) (g := (mkF m 8 #[.val (.ref (ad 5))] [(.ref (ad 5))])) rfl (hb hby own_d_prog_11_method_7_code_8)
  have ch4 : ∀ t, Steps p.tables e below (T3.setTop (mkF m 11 #[.val (.ref (ad 5))] [(.ref (ad 2)), (.ref (ad 5))])) t → Steps p.tables e below (s₁.setTop (entryFrame m #[(.ref (ad 5))] 1)) t := fun t k => ch2 t (by
      show Steps p.tables e below (T1.setTop (mkF m 4 #[.val (.ref (ad 5))] [(.ref (ad 1)), (.ref (ad 5))])) t
      refine Jvm.RoadKit.acmp (g := (mkF m 4 #[.val (.ref (ad 5))] [(.ref (ad 1)), (.ref (ad 5))])) X1 hx rfl rfl rfl (pc0 := 4) (pc' := 7) (same := false) rfl (hb hby own_d_prog_11_method_7_code_4) rfl (decide_eq_false fun q => (Fld.ne (own_F_MID_NUM_ordinal W) (own_F_EXTEND_ordinal W) (by decide)) (Value.ref.inj q)) (by decide) (by decide) ?_
      show Steps p.tables e below (T1.setTop (mkF m 7 #[.val (.ref (ad 5))] [])) t
      refine XS.aloadN X1.here hx rfl (hb hby own_d_prog_11_method_7_code_7) rfl rfl ?_
      show Steps p.tables e below (T1.setTop (mkF m 8 #[.val (.ref (ad 5))] [(.ref (ad 5))])) t
      exact st3 t k)
  obtain ⟨T5, X5, e5, st5⟩ := getS2 X3 hx hZ hown (host := "") (Or.inl (hw _ (List.mem_of_getElem? (i := 26) rfl))) Via.refl e3 (own_S_ZWJ W) (g := (mkF m 15 #[.val (.ref (ad 5))] [(.ref (ad 5))])) rfl (hb hby own_d_prog_11_method_7_code_15)
  have ch6 : ∀ t, Steps p.tables e below (T5.setTop (mkF m 18 #[.val (.ref (ad 5))] [(.ref (ad 3)), (.ref (ad 5))])) t → Steps p.tables e below (s₁.setTop (entryFrame m #[(.ref (ad 5))] 1)) t := fun t k => ch4 t (by
      show Steps p.tables e below (T3.setTop (mkF m 11 #[.val (.ref (ad 5))] [(.ref (ad 2)), (.ref (ad 5))])) t
      refine Jvm.RoadKit.acmp (g := (mkF m 11 #[.val (.ref (ad 5))] [(.ref (ad 2)), (.ref (ad 5))])) X3 hx rfl rfl rfl (pc0 := 11) (pc' := 14) (same := false) rfl (hb hby own_d_prog_11_method_7_code_11) rfl (decide_eq_false fun q => (Fld.ne (own_F_MID_NUM_ordinal W) (own_F_FORMAT_ordinal W) (by decide)) (Value.ref.inj q)) (by decide) (by decide) ?_
      show Steps p.tables e below (T3.setTop (mkF m 14 #[.val (.ref (ad 5))] [])) t
      refine XS.aloadN X3.here hx rfl (hb hby own_d_prog_11_method_7_code_14) rfl rfl ?_
      show Steps p.tables e below (T3.setTop (mkF m 15 #[.val (.ref (ad 5))] [(.ref (ad 5))])) t
      exact st5 t k)
  have ch7 : ∀ t, Steps p.tables e below (T5.setTop (mkF m 26 #[.val (.ref (ad 5))] [(.int (0 : Int32))])) t → Steps p.tables e below (s₁.setTop (entryFrame m #[(.ref (ad 5))] 1)) t := fun t k => ch6 t (by
      show Steps p.tables e below (T5.setTop (mkF m 18 #[.val (.ref (ad 5))] [(.ref (ad 3)), (.ref (ad 5))])) t
      refine Jvm.RoadKit.acmp (g := (mkF m 18 #[.val (.ref (ad 5))] [(.ref (ad 3)), (.ref (ad 5))])) X5 hx rfl rfl rfl (pc0 := 18) (pc' := 25) (same := false) rfl (hb hby own_d_prog_11_method_7_code_18) rfl (decide_eq_false fun q => (Fld.ne (own_F_MID_NUM_ordinal W) (own_F_ZWJ_ordinal W) (by decide)) (Value.ref.inj q)) (by decide) (by decide) ?_
      show Steps p.tables e below (T5.setTop (mkF m 25 #[.val (.ref (ad 5))] [])) t
      refine XS.iconst X5.here hx rfl (hb hby own_d_prog_11_method_7_code_25) ?_
      exact k)
  obtain ⟨fs, hr, hrun, hended, hW, hsame⟩ := X5.leave (v := some (.int (0 : Int32))) (fun h => by rw [Bd.returns] at h; cases h)
  refine ⟨_, _, ch7 _ ?_, hrun, hended, _, _, rfl, ?_, ⟨_, rfl⟩, hW, hsame.mono (by decide) (by decide)⟩
  · show Steps p.tables e below (T5.setTop (mkF m 26 #[.val (.ref (ad 5))] [(.int (0 : Int32))])) _
    exact retN X5 hx (t := .boolean) Bd.returns (by simp) (hb hby own_d_prog_11_method_7_code_26) hr
  · show QV (some (.int (0 : Int32))) h0 n0 _ T5.heap _
    rw [e5]
    exact ⟨rfl, N0, rfl⟩
theorem own_ef_own_ordi_15 (m : MethodId) {x0 : Addr} : entryFrame m #[(.ref x0)] 1 = mkF m 0 #[.val (.ref x0)] [] := by first | (simp [entryFrame, mkF, argsToLocals, Value.category, maxLocals]; done) | rfl
set_option maxRecDepth 65536 in
set_option maxHeartbeats 40000000 in
theorem own_ordi_15 (l : Launch) (Z : State) (a0 : Array Value) (hw : ∀ d ∈ tables_1, d.before a0 Z = true) (ws : List Jvm.Cond) (h0 : Heap) (n0 : Nat) (Z0 : n0 ≤ h0.size) (ad : Nat → Addr) (a_VALUES : Addr) (k_VALUES : ClassId) (W : OwnWd Z h0 ad a_VALUES k_VALUES) :
    MetFree l (⟨"java/lang/Enum", "ordinal", "()I"⟩ : MethodName) (head1 (Jvm.Cond.code (⟨"java/lang/Enum", "ordinal", "()I"⟩ : MethodName) jdk_37_method_2_code 1 (some .int) :: ws) ({ frames := 0, cells := 0, slots := 0, locals := 0 } : Room)) (fun a U => a = #[(.ref (ad 5))] ∧ Z.Warmed39 U.vm ∧ U.heap = h0) (fun _ _ _ _ _ => True) (fun _ U o U' => ∃ v L, o = .returned v ∧ QV (some (.int (15 : Int32))) h0 n0 v U'.heap L ∧ FrameEnd U o U' L ({ frames := 0, cells := 0, slots := 0, locals := 0 } : Room).cells ({ frames := 0, cells := 0, slots := 0, locals := 0 } : Room).slots) := by
  refine MetFree.of_bodySF (plainFor_of_name own_pn_java_lang_Enum) hisR ?_
  intro p e s m args below meth c s₁ Bd hml0 hP hK
  obtain ⟨rfl, hZ, hh⟩ := hP
  have hx := Bd.exec
  have hby := Bd.bytes
  have hml : c.maxLocals = 1 := hml0
  have hown : s.vm.findClass "java/lang/Enum" = some m.cls := findClass_of_methodNamed Bd.named
  have hnm := (name_of_methodNamed Bd.named Bd.method).1
  have X0 : Stand p l e ({ frames := 0, cells := 0, slots := 0, locals := 0 } : Room) s m #[(.ref (ad 5))] below meth c s₁ [] 0 0 := Stand.of_body Bd
  have e0 : s₁.heap = h0 := by rw [← hh, Bd.state]; rfl
  have N0 := Fr.nil n0
  have pre0 : ∀ t, Steps p.tables e below (s₁.setTop (mkF m 0 #[.val (.ref (ad 5))] [])) t → Steps p.tables e below (s₁.setTop (entryFrame m #[(.ref (ad 5))] 1)) t := fun t k => castTop (own_ef_own_ordi_15 m) k
  obtain ⟨T1, X1, e1, st1⟩ := getF X0 hx hZ hown (host := "") (Or.inl (hw _ (List.mem_of_getElem? (i := 15) rfl))) Via.refl e0 (own_F_MID_NUM_ordinal W) (g := (mkF m 1 #[.val (.ref (ad 5))] [(.ref (ad 5))])) rfl rfl (hb hby own_d_jdk_37_method_2_code_1)
  have ch2 : ∀ t, Steps p.tables e below (T1.setTop (mkF m 4 #[.val (.ref (ad 5))] [(.int (15 : Int32))])) t → Steps p.tables e below (s₁.setTop (entryFrame m #[(.ref (ad 5))] 1)) t := fun t k => pre0 t (by
      show Steps p.tables e below (s₁.setTop (mkF m 0 #[.val (.ref (ad 5))] [])) t
      refine XS.aloadN X0.here hx rfl (hb hby own_d_jdk_37_method_2_code_0) rfl rfl ?_
      show Steps p.tables e below (s₁.setTop (mkF m 1 #[.val (.ref (ad 5))] [(.ref (ad 5))])) t
      exact st1 t k)
  obtain ⟨fs, hr, hrun, hended, hW, hsame⟩ := X1.leave (v := some (.int (15 : Int32))) (fun h => by rw [Bd.returns] at h; cases h)
  refine ⟨_, _, ch2 _ ?_, hrun, hended, _, _, rfl, ?_, ⟨_, rfl⟩, hW, hsame.mono (by decide) (by decide)⟩
  · show Steps p.tables e below (T1.setTop (mkF m 4 #[.val (.ref (ad 5))] [(.int (15 : Int32))])) _
    exact retI X1 hx Bd.returns (hb hby own_d_jdk_37_method_2_code_4) hr
  · show QV (some (.int (15 : Int32))) h0 n0 _ T1.heap _
    rw [e1]
    exact ⟨rfl, N0, rfl⟩
theorem own_ef_own_law_15 (m : MethodId) {x0 : Int32} : entryFrame m #[(.int x0)] maxLocals = mkF m 0 #[.val (.int x0), .unset, .unset, .unset] [] := by first | (simp [entryFrame, mkF, argsToLocals, Value.category, maxLocals]; done) | rfl
set_option maxRecDepth 65536 in
set_option maxHeartbeats 40000000 in
theorem own_law_15 (l : Launch) (Z : State) (a0 : Array Value) (hw : ∀ d ∈ tables_1, d.before a0 Z = true) (ws : List Jvm.Cond) (h0 : Heap) (n0 : Nat) (Z0 : n0 ≤ h0.size) (p1 : Int32) (hk : (p1 &&& (2147483647 : Int32)) % (19 : Int32) = (15 : Int32)) (ad : Nat → Addr) (a_VALUES : Addr) (k_VALUES : ClassId) (W : OwnWd Z h0 ad a_VALUES k_VALUES) :
    MetFree l x (head1 (Jvm.Cond.code x code maxLocals ret :: ws) room_1) (fun a U => a = #[(.int p1)] ∧ Z.Warmed39 U.vm ∧ U.heap = h0) (fun _ _ _ _ _ => True) (fun _ U o U' => ∃ v L, o = .returned v ∧ QN (some (.int (1 : Int32))) n0 v U'.heap L ∧ FrameEnd U o U' L room_1.cells room_1.slots) := by
  refine MetFree.of_bodySF (plainFor_of_name own_pn_com_example_libsnippet_libsnippet_WordBreakIsIgnorablePinLaw) hisR ?_
  intro p e s m args below meth c s₁ Bd hml0 hP hK
  obtain ⟨rfl, hZ, hh⟩ := hP
  have hx := Bd.exec
  have hby := Bd.bytes
  have hml : c.maxLocals = 4 := hml0
  have hown : s.vm.findClass "com/example/libsnippet/libsnippet/WordBreakIsIgnorablePinLaw" = some m.cls := findClass_of_methodNamed Bd.named
  have hnm := (name_of_methodNamed Bd.named Bd.method).1
  have X0 : Stand p l e room_1 s m #[(.int p1)] below meth c s₁ [] 0 0 := Stand.of_body Bd
  have e0 : s₁.heap = h0 := by rw [← hh, Bd.state]; rfl
  have N0 := Fr.nil n0
  have pre0 : ∀ t, Steps p.tables e below (s₁.setTop (mkF m 0 #[.val (.int p1), .unset, .unset, .unset] [])) t → Steps p.tables e below (s₁.setTop (entryFrame m #[(.int p1)] maxLocals)) t := fun t k => castTop (own_ef_own_law_15 m) k
  obtain ⟨vv1, _, ⟨T1, L1, kk1, nn1⟩, -, X1, ⟨Lc1, hQ1, l1, y1, z1⟩, st1⟩ := Jvm.LawKit.callS X0 hx (y := (⟨"com/example/libsnippet/libsnippet/WordBreak", "ofOrdinal", "(I)Lcom/example/libsnippet/libsnippet/WordBreak;"⟩ : MethodName)) hown (mvT hZ (hw _ (List.mem_of_getElem? (i := 1) rfl))) (mvT hZ (hw _ (List.mem_of_getElem? (i := 2) rfl))) (mvT hZ (hw _ (List.mem_of_getElem? (i := 3) rfl))) (mvT hZ (hw _ (List.mem_of_getElem? (i := 4) rfl))) (by decide) (backOf (W := 0) (own_pick_15 l Z a0 hw [] h0 n0 Z0 ad a_VALUES k_VALUES W) hZ (hw _ (List.mem_of_getElem? (i := 4) rfl)) (hw _ (List.mem_of_getElem? (i := 3) rfl)) (by decide) (by decide)) (g := (mkF m 9 #[.val (.int p1), .val (.int (15 : Int32)), .unset, .unset] [(.int (15 : Int32))])) rfl (by rw [hml]; rfl) (argsL := [(.int (15 : Int32))]) (rest := []) (lenOf own_pd__I_Lcom_example_libsnippet_libsnippet_WordBreak_ rfl) rfl (by show 2 * 0 + _ ≤ _; exact Nat.le_of_eq rfl) (hb hby at_9) (fun _ _ => ⟨rfl, e0, (by decide : 0 + 0 ≤ _), (by decide : 0 + 0 ≤ _)⟩)
  dsimp only [Pt.U, Pt.locs, Pt.cells, Pt.slots] at X1 l1 y1 z1 st1 hQ1
  subst l1 y1 z1
  obtain ⟨rfl, Nq1, e1⟩ := hQ1
  have N1 := Fr.app N0 Nq1
  have ch2 : ∀ t, Steps p.tables e below (T1.setTop (mkF m 12 #[.val (.int p1), .val (.int (15 : Int32)), .unset, .unset] [(.ref (ad 5))])) t → Steps p.tables e below (s₁.setTop (entryFrame m #[(.int p1)] maxLocals)) t := fun t k => pre0 t (by
      show Steps p.tables e below (s₁.setTop (mkF m 0 #[.val (.int p1), .unset, .unset, .unset] [])) t
      refine XS.iloadN X0.here hx rfl (hb hby at_0) rfl ?_
      show Steps p.tables e below (s₁.setTop (mkF m 1 #[.val (.int p1), .unset, .unset, .unset] [(.int p1)])) t
      refine X0.ldcInt hx hown (mvT hZ (hw _ (List.mem_of_getElem? (i := 0) rfl))) (g := (mkF m 1 #[.val (.int p1), .unset, .unset, .unset] [(.int p1)])) rfl (hb hby at_1) _ ?_
      show Steps p.tables e below (s₁.setTop (mkF m 3 #[.val (.int p1), .unset, .unset, .unset] [(.int (2147483647 : Int32)), (.int p1)])) t
      refine XS.iand X0.here hx rfl (hb hby at_3) rfl ?_
      show Steps p.tables e below (s₁.setTop (mkF m 4 #[.val (.int p1), .unset, .unset, .unset] [(.int (p1 &&& (2147483647 : Int32)))])) t
      refine XS.bipush X0.here hx rfl (hb hby at_4) ?_
      show Steps p.tables e below (s₁.setTop (mkF m 6 #[.val (.int p1), .unset, .unset, .unset] [(.int (19 : Int32)), (.int (p1 &&& (2147483647 : Int32)))])) t
      refine Jvm.RoadKit.iremM (g := (mkF m 6 #[.val (.int p1), .unset, .unset, .unset] [(.int (19 : Int32)), (.int (p1 &&& (2147483647 : Int32)))])) X0 hx rfl (hb hby at_6) rfl (by decide) ?_
      rw [hk]
      show Steps p.tables e below (s₁.setTop (mkF m 7 #[.val (.int p1), .unset, .unset, .unset] [(.int (15 : Int32))])) t
      refine XS.istoreN X0.here hx rfl (hb hby at_7) rfl (l' := #[.val (.int p1), .val (.int (15 : Int32)), .unset, .unset]) rfl ?_
      show Steps p.tables e below (s₁.setTop (mkF m 8 #[.val (.int p1), .val (.int (15 : Int32)), .unset, .unset] [])) t
      refine XS.iloadN X0.here hx rfl (hb hby at_8) rfl ?_
      show Steps p.tables e below (s₁.setTop (mkF m 9 #[.val (.int p1), .val (.int (15 : Int32)), .unset, .unset] [(.int (15 : Int32))])) t
      exact st1 t k)
  obtain ⟨cq3, kq3, qa3, qb3, qc3⟩ := isOf hZ e1 (own_E_MID_NUM W)
  obtain ⟨vv4, _, ⟨T4, L4, kk4, nn4⟩, -, X4, ⟨Lc4, hQ4, l4, y4, z4⟩, st4⟩ := X1.virtualBackUp hx (x := (⟨"com/example/libsnippet/libsnippet/WordBreak", "ordinal", "()I"⟩ : MethodName)) (y := (⟨"java/lang/Enum", "ordinal", "()I"⟩ : MethodName)) (owner := "java/lang/Enum") hown (mvT hZ (hw _ (List.mem_of_getElem? (i := 8) rfl))) (mvT hZ (hw _ (List.mem_of_getElem? (i := 9) rfl))) (mvT hZ (hw _ (List.mem_of_getElem? (i := 10) rfl))) (by decide) (mvT hZ (hw _ (List.mem_of_getElem? (i := 12) rfl))) (mvT hZ (hw _ (List.mem_of_getElem? (i := 11) rfl))) (backOf (W := 0) (own_ordi_15 l Z a0 hw [] h0 n0 Z0 ad a_VALUES k_VALUES W) hZ (hw _ (List.mem_of_getElem? (i := 14) rfl)) (hw _ (List.mem_of_getElem? (i := 13) rfl)) (by decide) (by decide)) qa3 qc3 (g := (mkF m 36 #[.val (.int p1), .val (.int (15 : Int32)), .val (.ref (ad 5)), .val (.int (0 : Int32))] [(.ref (ad 5))])) rfl (by rw [hml]; rfl) (Steps.refl _) (argsL := []) (rest := []) (lenOf own_pd___I rfl) rfl (by show 2 * 0 + _ ≤ _; exact Nat.le_of_eq rfl) (hb hby at_36) (fun _ _ => ⟨rfl, e1, (by decide : 0 + 0 ≤ _), (by decide : 0 + 0 ≤ _)⟩)
  dsimp only [Pt.U, Pt.locs, Pt.cells, Pt.slots] at X4 l4 y4 z4 st4 hQ4
  subst l4 y4 z4
  obtain ⟨rfl, Nq4, e4⟩ := hQ4
  have N4 := Fr.app N1 Nq4
  have ch5 : ∀ t, Steps p.tables e below (T4.setTop (mkF m 39 #[.val (.int p1), .val (.int (15 : Int32)), .val (.ref (ad 5)), .val (.int (0 : Int32))] [(.int (15 : Int32))])) t → Steps p.tables e below (s₁.setTop (entryFrame m #[(.int p1)] maxLocals)) t := fun t k => ch2 t (by
      show Steps p.tables e below (T1.setTop (mkF m 12 #[.val (.int p1), .val (.int (15 : Int32)), .unset, .unset] [(.ref (ad 5))])) t
      refine XS.astoreN X1.here hx rfl (hb hby at_12) rfl rfl (l' := #[.val (.int p1), .val (.int (15 : Int32)), .val (.ref (ad 5)), .unset]) rfl ?_
      show Steps p.tables e below (T1.setTop (mkF m 13 #[.val (.int p1), .val (.int (15 : Int32)), .val (.ref (ad 5)), .unset] [])) t
      refine XS.iloadN X1.here hx rfl (hb hby at_13) rfl ?_
      show Steps p.tables e below (T1.setTop (mkF m 14 #[.val (.int p1), .val (.int (15 : Int32)), .val (.ref (ad 5)), .unset] [(.int (15 : Int32))])) t
      refine XS.iconst X1.here hx rfl (hb hby at_14) ?_
      show Steps p.tables e below (T1.setTop (mkF m 15 #[.val (.int p1), .val (.int (15 : Int32)), .val (.ref (ad 5)), .unset] [(.int (4 : Int32)), (.int (15 : Int32))])) t
      refine XS.icmpNo X1.here hx rfl (hb hby at_15) rfl (feq (by decide : ¬ (15 : Int32) = (4 : Int32))).1 ?_
      show Steps p.tables e below (T1.setTop (mkF m 18 #[.val (.int p1), .val (.int (15 : Int32)), .val (.ref (ad 5)), .unset] [])) t
      refine XS.iloadN X1.here hx rfl (hb hby at_18) rfl ?_
      show Steps p.tables e below (T1.setTop (mkF m 19 #[.val (.int p1), .val (.int (15 : Int32)), .val (.ref (ad 5)), .unset] [(.int (15 : Int32))])) t
      refine XS.iconst X1.here hx rfl (hb hby at_19) ?_
      show Steps p.tables e below (T1.setTop (mkF m 20 #[.val (.int p1), .val (.int (15 : Int32)), .val (.ref (ad 5)), .unset] [(.int (5 : Int32)), (.int (15 : Int32))])) t
      refine XS.icmpNo X1.here hx rfl (hb hby at_20) rfl (feq (by decide : ¬ (15 : Int32) = (5 : Int32))).1 ?_
      show Steps p.tables e below (T1.setTop (mkF m 23 #[.val (.int p1), .val (.int (15 : Int32)), .val (.ref (ad 5)), .unset] [])) t
      refine XS.iloadN X1.here hx rfl (hb hby at_23) rfl ?_
      show Steps p.tables e below (T1.setTop (mkF m 24 #[.val (.int p1), .val (.int (15 : Int32)), .val (.ref (ad 5)), .unset] [(.int (15 : Int32))])) t
      refine XS.bipush X1.here hx rfl (hb hby at_24) ?_
      show Steps p.tables e below (T1.setTop (mkF m 26 #[.val (.int p1), .val (.int (15 : Int32)), .val (.ref (ad 5)), .unset] [(.int (7 : Int32)), (.int (15 : Int32))])) t
      refine XS.icmpYes X1.here hx rfl (pc0 := 26) (pc' := 33) rfl (hb hby at_26) rfl (feq (by decide : ¬ (15 : Int32) = (7 : Int32))).2 (by decide) (by decide) ?_
      show Steps p.tables e below (T1.setTop (mkF m 33 #[.val (.int p1), .val (.int (15 : Int32)), .val (.ref (ad 5)), .unset] [])) t
      refine XS.iconst X1.here hx rfl (hb hby at_33) ?_
      show Steps p.tables e below (T1.setTop (mkF m 34 #[.val (.int p1), .val (.int (15 : Int32)), .val (.ref (ad 5)), .unset] [(.int (0 : Int32))])) t
      refine XS.istoreN X1.here hx rfl (hb hby at_34) rfl (l' := #[.val (.int p1), .val (.int (15 : Int32)), .val (.ref (ad 5)), .val (.int (0 : Int32))]) rfl ?_
      show Steps p.tables e below (T1.setTop (mkF m 35 #[.val (.int p1), .val (.int (15 : Int32)), .val (.ref (ad 5)), .val (.int (0 : Int32))] [])) t
      refine XS.aloadN X1.here hx rfl (hb hby at_35) rfl rfl ?_
      show Steps p.tables e below (T1.setTop (mkF m 36 #[.val (.int p1), .val (.int (15 : Int32)), .val (.ref (ad 5)), .val (.int (0 : Int32))] [(.ref (ad 5))])) t
      exact st4.trans k)
  obtain ⟨cq6, kq6, qa6, qb6, qc6⟩ := isOf hZ e4 (own_E_MID_NUM W)
  obtain ⟨vv7, _, ⟨T7, L7, kk7, nn7⟩, -, X7, ⟨Lc7, hQ7, l7, y7, z7⟩, st7⟩ := X4.virtualBack hx (y := (⟨"com/example/libsnippet/libsnippet/WordBreak", "isIgnorable", "()Z"⟩ : MethodName)) (z := (⟨"com/example/libsnippet/libsnippet/WordBreak", "isIgnorable", "()Z"⟩ : MethodName)) hown (mvT hZ (hw _ (List.mem_of_getElem? (i := 17) rfl))) (mvT hZ (hw _ (List.mem_of_getElem? (i := 18) rfl))) (notFace_of_selects (args := #[]) (mvT hZ (hw _ (List.mem_of_getElem? (i := 20) rfl)))) (mvT hZ (hw _ (List.mem_of_getElem? (i := 20) rfl))) (mvT hZ (hw _ (List.mem_of_getElem? (i := 19) rfl))) (by decide) (backOf (W := 0) (own_pred_15 l Z a0 hw [] h0 n0 Z0 ad a_VALUES k_VALUES W) hZ (hw _ (List.mem_of_getElem? (i := 21) rfl)) (hw _ (List.mem_of_getElem? (i := 3) rfl)) (by decide) (by decide)) qa6 qc6 (g := (mkF m 44 #[.val (.int p1), .val (.int (15 : Int32)), .val (.ref (ad 5)), .val (.int (0 : Int32))] [(.ref (ad 5))])) rfl (by rw [hml]; rfl) (Steps.refl _) (argsL := []) (rest := []) (lenOf own_pd___Z rfl) rfl (by show 2 * 0 + _ ≤ _; exact Nat.le_of_eq rfl) (hb hby at_44) (fun _ _ => ⟨rfl, e4, (by decide : 0 + 0 ≤ _), (by decide : 0 + 0 ≤ _)⟩)
  dsimp only [Pt.U, Pt.locs, Pt.cells, Pt.slots] at X7 l7 y7 z7 st7 hQ7
  subst l7 y7 z7
  obtain ⟨rfl, Nq7, e7⟩ := hQ7
  have N7 := Fr.app N4 Nq7
  have ch8 : ∀ t, Steps p.tables e below (T7.setTop (mkF m 47 #[.val (.int p1), .val (.int (15 : Int32)), .val (.ref (ad 5)), .val (.int (0 : Int32))] [(.int (0 : Int32))])) t → Steps p.tables e below (s₁.setTop (entryFrame m #[(.int p1)] maxLocals)) t := fun t k => ch5 t (by
      show Steps p.tables e below (T4.setTop (mkF m 39 #[.val (.int p1), .val (.int (15 : Int32)), .val (.ref (ad 5)), .val (.int (0 : Int32))] [(.int (15 : Int32))])) t
      refine XS.iloadN X4.here hx rfl (hb hby at_39) rfl ?_
      show Steps p.tables e below (T4.setTop (mkF m 40 #[.val (.int p1), .val (.int (15 : Int32)), .val (.ref (ad 5)), .val (.int (0 : Int32))] [(.int (15 : Int32)), (.int (15 : Int32))])) t
      refine XS.icmpNo X4.here hx rfl (hb hby at_40) rfl (teq (by decide : (15 : Int32) = (15 : Int32))).2 ?_
      show Steps p.tables e below (T4.setTop (mkF m 43 #[.val (.int p1), .val (.int (15 : Int32)), .val (.ref (ad 5)), .val (.int (0 : Int32))] [])) t
      refine XS.aloadN X4.here hx rfl (hb hby at_43) rfl rfl ?_
      show Steps p.tables e below (T4.setTop (mkF m 44 #[.val (.int p1), .val (.int (15 : Int32)), .val (.ref (ad 5)), .val (.int (0 : Int32))] [(.ref (ad 5))])) t
      exact st7.trans k)
  have ch9 : ∀ t, Steps p.tables e below (T7.setTop (mkF m 56 #[.val (.int p1), .val (.int (15 : Int32)), .val (.ref (ad 5)), .val (.int (0 : Int32))] [(.int (1 : Int32))])) t → Steps p.tables e below (s₁.setTop (entryFrame m #[(.int p1)] maxLocals)) t := fun t k => ch8 t (by
      show Steps p.tables e below (T7.setTop (mkF m 47 #[.val (.int p1), .val (.int (15 : Int32)), .val (.ref (ad 5)), .val (.int (0 : Int32))] [(.int (0 : Int32))])) t
      refine XS.iloadN X7.here hx rfl (hb hby at_47) rfl ?_
      show Steps p.tables e below (T7.setTop (mkF m 48 #[.val (.int p1), .val (.int (15 : Int32)), .val (.ref (ad 5)), .val (.int (0 : Int32))] [(.int (0 : Int32)), (.int (0 : Int32))])) t
      refine XS.icmpNo X7.here hx rfl (hb hby at_48) rfl (teq (by decide : (0 : Int32) = (0 : Int32))).2 ?_
      show Steps p.tables e below (T7.setTop (mkF m 51 #[.val (.int p1), .val (.int (15 : Int32)), .val (.ref (ad 5)), .val (.int (0 : Int32))] [])) t
      refine XS.iconst X7.here hx rfl (hb hby at_51) ?_
      show Steps p.tables e below (T7.setTop (mkF m 52 #[.val (.int p1), .val (.int (15 : Int32)), .val (.ref (ad 5)), .val (.int (0 : Int32))] [(.int (1 : Int32))])) t
      refine XS.goto X7.here hx rfl (pc0 := 52) (pc' := 56) rfl (hb hby at_52) (by decide) (by decide) ?_
      exact k)
  obtain ⟨fs, hr, hrun, hended, hW, hsame⟩ := X7.leave (v := some (.int (1 : Int32))) (fun h => by rw [Bd.returns] at h; cases h)
  refine ⟨_, _, ch9 _ ?_, hrun, hended, _, _, rfl, ?_, ⟨_, rfl⟩, hW, hsame.mono (by decide) (by decide)⟩
  · show Steps p.tables e below (T7.setTop (mkF m 56 #[.val (.int p1), .val (.int (15 : Int32)), .val (.ref (ad 5)), .val (.int (0 : Int32))] [(.int (1 : Int32))])) _
    exact retN X7 hx (t := .boolean) Bd.returns (by simp) (hb hby at_56) hr
  · show QN (some (.int (1 : Int32))) n0 _ T7.heap _
    rw [e7]
    exact ⟨rfl, N7⟩
theorem own_ef_own_pick_16 (m : MethodId) {x0 : Int32} : entryFrame m #[(.int x0)] 1 = mkF m 0 #[.val (.int x0)] [] := by first | (simp [entryFrame, mkF, argsToLocals, Value.category, maxLocals]; done) | rfl
set_option maxRecDepth 65536 in
set_option maxHeartbeats 40000000 in
theorem own_pick_16 (l : Launch) (Z : State) (a0 : Array Value) (hw : ∀ d ∈ tables_1, d.before a0 Z = true) (ws : List Jvm.Cond) (h0 : Heap) (n0 : Nat) (Z0 : n0 ≤ h0.size) (ad : Nat → Addr) (a_VALUES : Addr) (k_VALUES : ClassId) (W : OwnWd Z h0 ad a_VALUES k_VALUES) :
    MetFree l (⟨"com/example/libsnippet/libsnippet/WordBreak", "ofOrdinal", "(I)Lcom/example/libsnippet/libsnippet/WordBreak;"⟩ : MethodName) (head1 (Jvm.Cond.code (⟨"com/example/libsnippet/libsnippet/WordBreak", "ofOrdinal", "(I)Lcom/example/libsnippet/libsnippet/WordBreak;"⟩ : MethodName) prog_11_method_5_code 1 (some (.object "com/example/libsnippet/libsnippet/WordBreak")) :: ws) ({ frames := 0, cells := 0, slots := 0, locals := 0 } : Room)) (fun a U => a = #[(.int (16 : Int32))] ∧ Z.Warmed39 U.vm ∧ U.heap = h0) (fun _ _ _ _ _ => True) (fun _ U o U' => ∃ v L, o = .returned v ∧ QV (some (.ref (ad 15))) h0 n0 v U'.heap L ∧ FrameEnd U o U' L ({ frames := 0, cells := 0, slots := 0, locals := 0 } : Room).cells ({ frames := 0, cells := 0, slots := 0, locals := 0 } : Room).slots) := by
  refine MetFree.of_bodySF (plainFor_of_name own_pn_com_example_libsnippet_libsnippet_WordBreak) hisR ?_
  intro p e s m args below meth c s₁ Bd hml0 hP hK
  obtain ⟨rfl, hZ, hh⟩ := hP
  have hx := Bd.exec
  have hby := Bd.bytes
  have hml : c.maxLocals = 1 := hml0
  have hown : s.vm.findClass "com/example/libsnippet/libsnippet/WordBreak" = some m.cls := findClass_of_methodNamed Bd.named
  have hnm := (name_of_methodNamed Bd.named Bd.method).1
  have X0 : Stand p l e ({ frames := 0, cells := 0, slots := 0, locals := 0 } : Room) s m #[(.int (16 : Int32))] below meth c s₁ [] 0 0 := Stand.of_body Bd
  have e0 : s₁.heap = h0 := by rw [← hh, Bd.state]; rfl
  have N0 := Fr.nil n0
  have pre0 : ∀ t, Steps p.tables e below (s₁.setTop (mkF m 0 #[.val (.int (16 : Int32))] [])) t → Steps p.tables e below (s₁.setTop (entryFrame m #[(.int (16 : Int32))] 1)) t := fun t k => castTop (own_ef_own_pick_16 m) k
  obtain ⟨T1, X1, e1, st1⟩ := getS2 X0 hx hZ hown (host := "") (Or.inl (hw _ (List.mem_of_getElem? (i := 5) rfl))) Via.refl e0 (own_S_VALUES W) (g := (mkF m 0 #[.val (.int (16 : Int32))] [])) rfl (hb hby own_d_prog_11_method_5_code_0)
  have ch2 : ∀ t, Steps p.tables e below (T1.setTop (mkF m 3 #[.val (.int (16 : Int32))] [(.ref a_VALUES)])) t → Steps p.tables e below (s₁.setTop (entryFrame m #[(.int (16 : Int32))] 1)) t := fun t k => pre0 t (by
      show Steps p.tables e below (s₁.setTop (mkF m 0 #[.val (.int (16 : Int32))] [])) t
      exact st1 t k)
  obtain ⟨cl3, Ar3, -, Sz3, Ng3, Ha3, -⟩ := (own_V_VALUES W)
  have hin3 : ¬ ((16 : Int32) < 0 ∨ cl3.slots.size ≤ ((16 : Int32)).toNatClampNeg) := inb_of Sz3 (by decide)
  have hat3 : cl3.slots[((16 : Int32)).toNatClampNeg]? = some (.ref (ad 15)) := Ha3.at hin3 rfl
  have ch4 : ∀ t, Steps p.tables e below (T1.setTop (mkF m 5 #[.val (.int (16 : Int32))] [(.ref (ad 15))])) t → Steps p.tables e below (s₁.setTop (entryFrame m #[(.int (16 : Int32))] 1)) t := fun t k => ch2 t (by
      show Steps p.tables e below (T1.setTop (mkF m 3 #[.val (.int (16 : Int32))] [(.ref a_VALUES)])) t
      refine XS.iloadN X1.here hx rfl (hb hby own_d_prog_11_method_5_code_3) rfl ?_
      show Steps p.tables e below (T1.setTop (mkF m 4 #[.val (.int (16 : Int32))] [(.int (16 : Int32)), (.ref a_VALUES)])) t
      refine X1.aaload hx (j := (16 : Int32)) (v := (.ref (ad 15))) (by rw [e1]; exact Ar3.1) (State.isArrayOf_alike hZ.alike Ar3.2.1) rfl Ar3.2.2 hin3 hat3 (g := (mkF m 4 #[.val (.int (16 : Int32))] [(.int (16 : Int32)), (.ref a_VALUES)])) rfl rfl (hb hby own_d_prog_11_method_5_code_4) _ ?_
      exact k)
  obtain ⟨fs, hr, hrun, hended, hW, hsame⟩ := X1.leave (v := some (.ref (ad 15))) (fun h => by rw [Bd.returns] at h; cases h)
  refine ⟨_, _, ch4 _ ?_, hrun, hended, _, _, rfl, ?_, ⟨_, rfl⟩, hW, hsame.mono (by decide) (by decide)⟩
  · show Steps p.tables e below (T1.setTop (mkF m 5 #[.val (.int (16 : Int32))] [(.ref (ad 15))])) _
    jvm_step X1.here [X1.here.top, hx, (hb hby own_d_prog_11_method_5_code_5), X1.method', Bd.returns, Value.isRef, FieldType.isReference]
    first | (intro acts; rw [hr _ acts rfl rfl rfl]) | rw [hr _ _ rfl rfl rfl]
    exact Steps.refl _
  · show QV (some (.ref (ad 15))) h0 n0 _ T1.heap _
    rw [e1]
    exact ⟨rfl, N0, rfl⟩
theorem own_ef_own_pred_16 (m : MethodId) {x0 : Addr} : entryFrame m #[(.ref x0)] 1 = mkF m 0 #[.val (.ref x0)] [] := by first | (simp [entryFrame, mkF, argsToLocals, Value.category, maxLocals]; done) | rfl
set_option maxRecDepth 65536 in
set_option maxHeartbeats 40000000 in
theorem own_pred_16 (l : Launch) (Z : State) (a0 : Array Value) (hw : ∀ d ∈ tables_1, d.before a0 Z = true) (ws : List Jvm.Cond) (h0 : Heap) (n0 : Nat) (Z0 : n0 ≤ h0.size) (ad : Nat → Addr) (a_VALUES : Addr) (k_VALUES : ClassId) (W : OwnWd Z h0 ad a_VALUES k_VALUES) :
    MetFree l (⟨"com/example/libsnippet/libsnippet/WordBreak", "isIgnorable", "()Z"⟩ : MethodName) (head1 (Jvm.Cond.code (⟨"com/example/libsnippet/libsnippet/WordBreak", "isIgnorable", "()Z"⟩ : MethodName) prog_11_method_7_code 1 (some .boolean) :: ws) ({ frames := 0, cells := 0, slots := 0, locals := 0 } : Room)) (fun a U => a = #[(.ref (ad 15))] ∧ Z.Warmed39 U.vm ∧ U.heap = h0) (fun _ _ _ _ _ => True) (fun _ U o U' => ∃ v L, o = .returned v ∧ QV (some (.int (0 : Int32))) h0 n0 v U'.heap L ∧ FrameEnd U o U' L ({ frames := 0, cells := 0, slots := 0, locals := 0 } : Room).cells ({ frames := 0, cells := 0, slots := 0, locals := 0 } : Room).slots) := by
  refine MetFree.of_bodySF (plainFor_of_name own_pn_com_example_libsnippet_libsnippet_WordBreak) hisR ?_
  intro p e s m args below meth c s₁ Bd hml0 hP hK
  obtain ⟨rfl, hZ, hh⟩ := hP
  have hx := Bd.exec
  have hby := Bd.bytes
  have hml : c.maxLocals = 1 := hml0
  have hown : s.vm.findClass "com/example/libsnippet/libsnippet/WordBreak" = some m.cls := findClass_of_methodNamed Bd.named
  have hnm := (name_of_methodNamed Bd.named Bd.method).1
  have X0 : Stand p l e ({ frames := 0, cells := 0, slots := 0, locals := 0 } : Room) s m #[(.ref (ad 15))] below meth c s₁ [] 0 0 := Stand.of_body Bd
  have e0 : s₁.heap = h0 := by rw [← hh, Bd.state]; rfl
  have N0 := Fr.nil n0
  have pre0 : ∀ t, Steps p.tables e below (s₁.setTop (mkF m 0 #[.val (.ref (ad 15))] [])) t → Steps p.tables e below (s₁.setTop (entryFrame m #[(.ref (ad 15))] 1)) t := fun t k => castTop (own_ef_own_pred_16 m) k
  obtain ⟨T1, X1, e1, st1⟩ := getS2 X0 hx hZ hown (host := "") (Or.inl (hw _ (List.mem_of_getElem? (i := 22) rfl))) Via.refl e0 (own_S_EXTEND W) (g := (mkF m 1 #[.val (.ref (ad 15))] [(.ref (ad 15))])) rfl (hb hby own_d_prog_11_method_7_code_1)
  have ch2 : ∀ t, Steps p.tables e below (T1.setTop (mkF m 4 #[.val (.ref (ad 15))] [(.ref (ad 1)), (.ref (ad 15))])) t → Steps p.tables e below (s₁.setTop (entryFrame m #[(.ref (ad 15))] 1)) t := fun t k => pre0 t (by
      show Steps p.tables e below (s₁.setTop (mkF m 0 #[.val (.ref (ad 15))] [])) t
      refine XS.aloadN X0.here hx rfl (hb hby own_d_prog_11_method_7_code_0) rfl rfl ?_
      show Steps p.tables e below (s₁.setTop (mkF m 1 #[.val (.ref (ad 15))] [(.ref (ad 15))])) t
      exact st1 t k)
  obtain ⟨T3, X3, e3, st3⟩ := getS2 X1 hx hZ hown (host := "") (Or.inl (hw _ (List.mem_of_getElem? (i := 24) rfl))) Via.refl e1 (own_S_FORMAT W) (g := (mkF m 8 #[.val (.ref (ad 15))] [(.ref (ad 15))])) rfl (hb hby own_d_prog_11_method_7_code_8)
  have ch4 : ∀ t, Steps p.tables e below (T3.setTop (mkF m 11 #[.val (.ref (ad 15))] [(.ref (ad 2)), (.ref (ad 15))])) t → Steps p.tables e below (s₁.setTop (entryFrame m #[(.ref (ad 15))] 1)) t := fun t k => ch2 t (by
      show Steps p.tables e below (T1.setTop (mkF m 4 #[.val (.ref (ad 15))] [(.ref (ad 1)), (.ref (ad 15))])) t
      refine Jvm.RoadKit.acmp (g := (mkF m 4 #[.val (.ref (ad 15))] [(.ref (ad 1)), (.ref (ad 15))])) X1 hx rfl rfl rfl (pc0 := 4) (pc' := 7) (same := false) rfl (hb hby own_d_prog_11_method_7_code_4) rfl (decide_eq_false fun q => (Fld.ne (own_F_NUMERIC_ordinal W) (own_F_EXTEND_ordinal W) (by decide)) (Value.ref.inj q)) (by decide) (by decide) ?_
      show Steps p.tables e below (T1.setTop (mkF m 7 #[.val (.ref (ad 15))] [])) t
      refine XS.aloadN X1.here hx rfl (hb hby own_d_prog_11_method_7_code_7) rfl rfl ?_
      show Steps p.tables e below (T1.setTop (mkF m 8 #[.val (.ref (ad 15))] [(.ref (ad 15))])) t
      exact st3 t k)
  obtain ⟨T5, X5, e5, st5⟩ := getS2 X3 hx hZ hown (host := "") (Or.inl (hw _ (List.mem_of_getElem? (i := 26) rfl))) Via.refl e3 (own_S_ZWJ W) (g := (mkF m 15 #[.val (.ref (ad 15))] [(.ref (ad 15))])) rfl (hb hby own_d_prog_11_method_7_code_15)
  have ch6 : ∀ t, Steps p.tables e below (T5.setTop (mkF m 18 #[.val (.ref (ad 15))] [(.ref (ad 3)), (.ref (ad 15))])) t → Steps p.tables e below (s₁.setTop (entryFrame m #[(.ref (ad 15))] 1)) t := fun t k => ch4 t (by
      show Steps p.tables e below (T3.setTop (mkF m 11 #[.val (.ref (ad 15))] [(.ref (ad 2)), (.ref (ad 15))])) t
      refine Jvm.RoadKit.acmp (g := (mkF m 11 #[.val (.ref (ad 15))] [(.ref (ad 2)), (.ref (ad 15))])) X3 hx rfl rfl rfl (pc0 := 11) (pc' := 14) (same := false) rfl (hb hby own_d_prog_11_method_7_code_11) rfl (decide_eq_false fun q => (Fld.ne (own_F_NUMERIC_ordinal W) (own_F_FORMAT_ordinal W) (by decide)) (Value.ref.inj q)) (by decide) (by decide) ?_
      show Steps p.tables e below (T3.setTop (mkF m 14 #[.val (.ref (ad 15))] [])) t
      refine XS.aloadN X3.here hx rfl (hb hby own_d_prog_11_method_7_code_14) rfl rfl ?_
      show Steps p.tables e below (T3.setTop (mkF m 15 #[.val (.ref (ad 15))] [(.ref (ad 15))])) t
      exact st5 t k)
  have ch7 : ∀ t, Steps p.tables e below (T5.setTop (mkF m 26 #[.val (.ref (ad 15))] [(.int (0 : Int32))])) t → Steps p.tables e below (s₁.setTop (entryFrame m #[(.ref (ad 15))] 1)) t := fun t k => ch6 t (by
      show Steps p.tables e below (T5.setTop (mkF m 18 #[.val (.ref (ad 15))] [(.ref (ad 3)), (.ref (ad 15))])) t
      refine Jvm.RoadKit.acmp (g := (mkF m 18 #[.val (.ref (ad 15))] [(.ref (ad 3)), (.ref (ad 15))])) X5 hx rfl rfl rfl (pc0 := 18) (pc' := 25) (same := false) rfl (hb hby own_d_prog_11_method_7_code_18) rfl (decide_eq_false fun q => (Fld.ne (own_F_NUMERIC_ordinal W) (own_F_ZWJ_ordinal W) (by decide)) (Value.ref.inj q)) (by decide) (by decide) ?_
      show Steps p.tables e below (T5.setTop (mkF m 25 #[.val (.ref (ad 15))] [])) t
      refine XS.iconst X5.here hx rfl (hb hby own_d_prog_11_method_7_code_25) ?_
      exact k)
  obtain ⟨fs, hr, hrun, hended, hW, hsame⟩ := X5.leave (v := some (.int (0 : Int32))) (fun h => by rw [Bd.returns] at h; cases h)
  refine ⟨_, _, ch7 _ ?_, hrun, hended, _, _, rfl, ?_, ⟨_, rfl⟩, hW, hsame.mono (by decide) (by decide)⟩
  · show Steps p.tables e below (T5.setTop (mkF m 26 #[.val (.ref (ad 15))] [(.int (0 : Int32))])) _
    exact retN X5 hx (t := .boolean) Bd.returns (by simp) (hb hby own_d_prog_11_method_7_code_26) hr
  · show QV (some (.int (0 : Int32))) h0 n0 _ T5.heap _
    rw [e5]
    exact ⟨rfl, N0, rfl⟩
theorem own_ef_own_ordi_16 (m : MethodId) {x0 : Addr} : entryFrame m #[(.ref x0)] 1 = mkF m 0 #[.val (.ref x0)] [] := by first | (simp [entryFrame, mkF, argsToLocals, Value.category, maxLocals]; done) | rfl
set_option maxRecDepth 65536 in
set_option maxHeartbeats 40000000 in
theorem own_ordi_16 (l : Launch) (Z : State) (a0 : Array Value) (hw : ∀ d ∈ tables_1, d.before a0 Z = true) (ws : List Jvm.Cond) (h0 : Heap) (n0 : Nat) (Z0 : n0 ≤ h0.size) (ad : Nat → Addr) (a_VALUES : Addr) (k_VALUES : ClassId) (W : OwnWd Z h0 ad a_VALUES k_VALUES) :
    MetFree l (⟨"java/lang/Enum", "ordinal", "()I"⟩ : MethodName) (head1 (Jvm.Cond.code (⟨"java/lang/Enum", "ordinal", "()I"⟩ : MethodName) jdk_37_method_2_code 1 (some .int) :: ws) ({ frames := 0, cells := 0, slots := 0, locals := 0 } : Room)) (fun a U => a = #[(.ref (ad 15))] ∧ Z.Warmed39 U.vm ∧ U.heap = h0) (fun _ _ _ _ _ => True) (fun _ U o U' => ∃ v L, o = .returned v ∧ QV (some (.int (16 : Int32))) h0 n0 v U'.heap L ∧ FrameEnd U o U' L ({ frames := 0, cells := 0, slots := 0, locals := 0 } : Room).cells ({ frames := 0, cells := 0, slots := 0, locals := 0 } : Room).slots) := by
  refine MetFree.of_bodySF (plainFor_of_name own_pn_java_lang_Enum) hisR ?_
  intro p e s m args below meth c s₁ Bd hml0 hP hK
  obtain ⟨rfl, hZ, hh⟩ := hP
  have hx := Bd.exec
  have hby := Bd.bytes
  have hml : c.maxLocals = 1 := hml0
  have hown : s.vm.findClass "java/lang/Enum" = some m.cls := findClass_of_methodNamed Bd.named
  have hnm := (name_of_methodNamed Bd.named Bd.method).1
  have X0 : Stand p l e ({ frames := 0, cells := 0, slots := 0, locals := 0 } : Room) s m #[(.ref (ad 15))] below meth c s₁ [] 0 0 := Stand.of_body Bd
  have e0 : s₁.heap = h0 := by rw [← hh, Bd.state]; rfl
  have N0 := Fr.nil n0
  have pre0 : ∀ t, Steps p.tables e below (s₁.setTop (mkF m 0 #[.val (.ref (ad 15))] [])) t → Steps p.tables e below (s₁.setTop (entryFrame m #[(.ref (ad 15))] 1)) t := fun t k => castTop (own_ef_own_ordi_16 m) k
  obtain ⟨T1, X1, e1, st1⟩ := getF X0 hx hZ hown (host := "") (Or.inl (hw _ (List.mem_of_getElem? (i := 15) rfl))) Via.refl e0 (own_F_NUMERIC_ordinal W) (g := (mkF m 1 #[.val (.ref (ad 15))] [(.ref (ad 15))])) rfl rfl (hb hby own_d_jdk_37_method_2_code_1)
  have ch2 : ∀ t, Steps p.tables e below (T1.setTop (mkF m 4 #[.val (.ref (ad 15))] [(.int (16 : Int32))])) t → Steps p.tables e below (s₁.setTop (entryFrame m #[(.ref (ad 15))] 1)) t := fun t k => pre0 t (by
      show Steps p.tables e below (s₁.setTop (mkF m 0 #[.val (.ref (ad 15))] [])) t
      refine XS.aloadN X0.here hx rfl (hb hby own_d_jdk_37_method_2_code_0) rfl rfl ?_
      show Steps p.tables e below (s₁.setTop (mkF m 1 #[.val (.ref (ad 15))] [(.ref (ad 15))])) t
      exact st1 t k)
  obtain ⟨fs, hr, hrun, hended, hW, hsame⟩ := X1.leave (v := some (.int (16 : Int32))) (fun h => by rw [Bd.returns] at h; cases h)
  refine ⟨_, _, ch2 _ ?_, hrun, hended, _, _, rfl, ?_, ⟨_, rfl⟩, hW, hsame.mono (by decide) (by decide)⟩
  · show Steps p.tables e below (T1.setTop (mkF m 4 #[.val (.ref (ad 15))] [(.int (16 : Int32))])) _
    exact retI X1 hx Bd.returns (hb hby own_d_jdk_37_method_2_code_4) hr
  · show QV (some (.int (16 : Int32))) h0 n0 _ T1.heap _
    rw [e1]
    exact ⟨rfl, N0, rfl⟩
theorem own_ef_own_law_16 (m : MethodId) {x0 : Int32} : entryFrame m #[(.int x0)] maxLocals = mkF m 0 #[.val (.int x0), .unset, .unset, .unset] [] := by first | (simp [entryFrame, mkF, argsToLocals, Value.category, maxLocals]; done) | rfl
set_option maxRecDepth 65536 in
set_option maxHeartbeats 40000000 in
theorem own_law_16 (l : Launch) (Z : State) (a0 : Array Value) (hw : ∀ d ∈ tables_1, d.before a0 Z = true) (ws : List Jvm.Cond) (h0 : Heap) (n0 : Nat) (Z0 : n0 ≤ h0.size) (p1 : Int32) (hk : (p1 &&& (2147483647 : Int32)) % (19 : Int32) = (16 : Int32)) (ad : Nat → Addr) (a_VALUES : Addr) (k_VALUES : ClassId) (W : OwnWd Z h0 ad a_VALUES k_VALUES) :
    MetFree l x (head1 (Jvm.Cond.code x code maxLocals ret :: ws) room_1) (fun a U => a = #[(.int p1)] ∧ Z.Warmed39 U.vm ∧ U.heap = h0) (fun _ _ _ _ _ => True) (fun _ U o U' => ∃ v L, o = .returned v ∧ QN (some (.int (1 : Int32))) n0 v U'.heap L ∧ FrameEnd U o U' L room_1.cells room_1.slots) := by
  refine MetFree.of_bodySF (plainFor_of_name own_pn_com_example_libsnippet_libsnippet_WordBreakIsIgnorablePinLaw) hisR ?_
  intro p e s m args below meth c s₁ Bd hml0 hP hK
  obtain ⟨rfl, hZ, hh⟩ := hP
  have hx := Bd.exec
  have hby := Bd.bytes
  have hml : c.maxLocals = 4 := hml0
  have hown : s.vm.findClass "com/example/libsnippet/libsnippet/WordBreakIsIgnorablePinLaw" = some m.cls := findClass_of_methodNamed Bd.named
  have hnm := (name_of_methodNamed Bd.named Bd.method).1
  have X0 : Stand p l e room_1 s m #[(.int p1)] below meth c s₁ [] 0 0 := Stand.of_body Bd
  have e0 : s₁.heap = h0 := by rw [← hh, Bd.state]; rfl
  have N0 := Fr.nil n0
  have pre0 : ∀ t, Steps p.tables e below (s₁.setTop (mkF m 0 #[.val (.int p1), .unset, .unset, .unset] [])) t → Steps p.tables e below (s₁.setTop (entryFrame m #[(.int p1)] maxLocals)) t := fun t k => castTop (own_ef_own_law_16 m) k
  obtain ⟨vv1, _, ⟨T1, L1, kk1, nn1⟩, -, X1, ⟨Lc1, hQ1, l1, y1, z1⟩, st1⟩ := Jvm.LawKit.callS X0 hx (y := (⟨"com/example/libsnippet/libsnippet/WordBreak", "ofOrdinal", "(I)Lcom/example/libsnippet/libsnippet/WordBreak;"⟩ : MethodName)) hown (mvT hZ (hw _ (List.mem_of_getElem? (i := 1) rfl))) (mvT hZ (hw _ (List.mem_of_getElem? (i := 2) rfl))) (mvT hZ (hw _ (List.mem_of_getElem? (i := 3) rfl))) (mvT hZ (hw _ (List.mem_of_getElem? (i := 4) rfl))) (by decide) (backOf (W := 0) (own_pick_16 l Z a0 hw [] h0 n0 Z0 ad a_VALUES k_VALUES W) hZ (hw _ (List.mem_of_getElem? (i := 4) rfl)) (hw _ (List.mem_of_getElem? (i := 3) rfl)) (by decide) (by decide)) (g := (mkF m 9 #[.val (.int p1), .val (.int (16 : Int32)), .unset, .unset] [(.int (16 : Int32))])) rfl (by rw [hml]; rfl) (argsL := [(.int (16 : Int32))]) (rest := []) (lenOf own_pd__I_Lcom_example_libsnippet_libsnippet_WordBreak_ rfl) rfl (by show 2 * 0 + _ ≤ _; exact Nat.le_of_eq rfl) (hb hby at_9) (fun _ _ => ⟨rfl, e0, (by decide : 0 + 0 ≤ _), (by decide : 0 + 0 ≤ _)⟩)
  dsimp only [Pt.U, Pt.locs, Pt.cells, Pt.slots] at X1 l1 y1 z1 st1 hQ1
  subst l1 y1 z1
  obtain ⟨rfl, Nq1, e1⟩ := hQ1
  have N1 := Fr.app N0 Nq1
  have ch2 : ∀ t, Steps p.tables e below (T1.setTop (mkF m 12 #[.val (.int p1), .val (.int (16 : Int32)), .unset, .unset] [(.ref (ad 15))])) t → Steps p.tables e below (s₁.setTop (entryFrame m #[(.int p1)] maxLocals)) t := fun t k => pre0 t (by
      show Steps p.tables e below (s₁.setTop (mkF m 0 #[.val (.int p1), .unset, .unset, .unset] [])) t
      refine XS.iloadN X0.here hx rfl (hb hby at_0) rfl ?_
      show Steps p.tables e below (s₁.setTop (mkF m 1 #[.val (.int p1), .unset, .unset, .unset] [(.int p1)])) t
      refine X0.ldcInt hx hown (mvT hZ (hw _ (List.mem_of_getElem? (i := 0) rfl))) (g := (mkF m 1 #[.val (.int p1), .unset, .unset, .unset] [(.int p1)])) rfl (hb hby at_1) _ ?_
      show Steps p.tables e below (s₁.setTop (mkF m 3 #[.val (.int p1), .unset, .unset, .unset] [(.int (2147483647 : Int32)), (.int p1)])) t
      refine XS.iand X0.here hx rfl (hb hby at_3) rfl ?_
      show Steps p.tables e below (s₁.setTop (mkF m 4 #[.val (.int p1), .unset, .unset, .unset] [(.int (p1 &&& (2147483647 : Int32)))])) t
      refine XS.bipush X0.here hx rfl (hb hby at_4) ?_
      show Steps p.tables e below (s₁.setTop (mkF m 6 #[.val (.int p1), .unset, .unset, .unset] [(.int (19 : Int32)), (.int (p1 &&& (2147483647 : Int32)))])) t
      refine Jvm.RoadKit.iremM (g := (mkF m 6 #[.val (.int p1), .unset, .unset, .unset] [(.int (19 : Int32)), (.int (p1 &&& (2147483647 : Int32)))])) X0 hx rfl (hb hby at_6) rfl (by decide) ?_
      rw [hk]
      show Steps p.tables e below (s₁.setTop (mkF m 7 #[.val (.int p1), .unset, .unset, .unset] [(.int (16 : Int32))])) t
      refine XS.istoreN X0.here hx rfl (hb hby at_7) rfl (l' := #[.val (.int p1), .val (.int (16 : Int32)), .unset, .unset]) rfl ?_
      show Steps p.tables e below (s₁.setTop (mkF m 8 #[.val (.int p1), .val (.int (16 : Int32)), .unset, .unset] [])) t
      refine XS.iloadN X0.here hx rfl (hb hby at_8) rfl ?_
      show Steps p.tables e below (s₁.setTop (mkF m 9 #[.val (.int p1), .val (.int (16 : Int32)), .unset, .unset] [(.int (16 : Int32))])) t
      exact st1 t k)
  obtain ⟨cq3, kq3, qa3, qb3, qc3⟩ := isOf hZ e1 (own_E_NUMERIC W)
  obtain ⟨vv4, _, ⟨T4, L4, kk4, nn4⟩, -, X4, ⟨Lc4, hQ4, l4, y4, z4⟩, st4⟩ := X1.virtualBackUp hx (x := (⟨"com/example/libsnippet/libsnippet/WordBreak", "ordinal", "()I"⟩ : MethodName)) (y := (⟨"java/lang/Enum", "ordinal", "()I"⟩ : MethodName)) (owner := "java/lang/Enum") hown (mvT hZ (hw _ (List.mem_of_getElem? (i := 8) rfl))) (mvT hZ (hw _ (List.mem_of_getElem? (i := 9) rfl))) (mvT hZ (hw _ (List.mem_of_getElem? (i := 10) rfl))) (by decide) (mvT hZ (hw _ (List.mem_of_getElem? (i := 12) rfl))) (mvT hZ (hw _ (List.mem_of_getElem? (i := 11) rfl))) (backOf (W := 0) (own_ordi_16 l Z a0 hw [] h0 n0 Z0 ad a_VALUES k_VALUES W) hZ (hw _ (List.mem_of_getElem? (i := 14) rfl)) (hw _ (List.mem_of_getElem? (i := 13) rfl)) (by decide) (by decide)) qa3 qc3 (g := (mkF m 36 #[.val (.int p1), .val (.int (16 : Int32)), .val (.ref (ad 15)), .val (.int (0 : Int32))] [(.ref (ad 15))])) rfl (by rw [hml]; rfl) (Steps.refl _) (argsL := []) (rest := []) (lenOf own_pd___I rfl) rfl (by show 2 * 0 + _ ≤ _; exact Nat.le_of_eq rfl) (hb hby at_36) (fun _ _ => ⟨rfl, e1, (by decide : 0 + 0 ≤ _), (by decide : 0 + 0 ≤ _)⟩)
  dsimp only [Pt.U, Pt.locs, Pt.cells, Pt.slots] at X4 l4 y4 z4 st4 hQ4
  subst l4 y4 z4
  obtain ⟨rfl, Nq4, e4⟩ := hQ4
  have N4 := Fr.app N1 Nq4
  have ch5 : ∀ t, Steps p.tables e below (T4.setTop (mkF m 39 #[.val (.int p1), .val (.int (16 : Int32)), .val (.ref (ad 15)), .val (.int (0 : Int32))] [(.int (16 : Int32))])) t → Steps p.tables e below (s₁.setTop (entryFrame m #[(.int p1)] maxLocals)) t := fun t k => ch2 t (by
      show Steps p.tables e below (T1.setTop (mkF m 12 #[.val (.int p1), .val (.int (16 : Int32)), .unset, .unset] [(.ref (ad 15))])) t
      refine XS.astoreN X1.here hx rfl (hb hby at_12) rfl rfl (l' := #[.val (.int p1), .val (.int (16 : Int32)), .val (.ref (ad 15)), .unset]) rfl ?_
      show Steps p.tables e below (T1.setTop (mkF m 13 #[.val (.int p1), .val (.int (16 : Int32)), .val (.ref (ad 15)), .unset] [])) t
      refine XS.iloadN X1.here hx rfl (hb hby at_13) rfl ?_
      show Steps p.tables e below (T1.setTop (mkF m 14 #[.val (.int p1), .val (.int (16 : Int32)), .val (.ref (ad 15)), .unset] [(.int (16 : Int32))])) t
      refine XS.iconst X1.here hx rfl (hb hby at_14) ?_
      show Steps p.tables e below (T1.setTop (mkF m 15 #[.val (.int p1), .val (.int (16 : Int32)), .val (.ref (ad 15)), .unset] [(.int (4 : Int32)), (.int (16 : Int32))])) t
      refine XS.icmpNo X1.here hx rfl (hb hby at_15) rfl (feq (by decide : ¬ (16 : Int32) = (4 : Int32))).1 ?_
      show Steps p.tables e below (T1.setTop (mkF m 18 #[.val (.int p1), .val (.int (16 : Int32)), .val (.ref (ad 15)), .unset] [])) t
      refine XS.iloadN X1.here hx rfl (hb hby at_18) rfl ?_
      show Steps p.tables e below (T1.setTop (mkF m 19 #[.val (.int p1), .val (.int (16 : Int32)), .val (.ref (ad 15)), .unset] [(.int (16 : Int32))])) t
      refine XS.iconst X1.here hx rfl (hb hby at_19) ?_
      show Steps p.tables e below (T1.setTop (mkF m 20 #[.val (.int p1), .val (.int (16 : Int32)), .val (.ref (ad 15)), .unset] [(.int (5 : Int32)), (.int (16 : Int32))])) t
      refine XS.icmpNo X1.here hx rfl (hb hby at_20) rfl (feq (by decide : ¬ (16 : Int32) = (5 : Int32))).1 ?_
      show Steps p.tables e below (T1.setTop (mkF m 23 #[.val (.int p1), .val (.int (16 : Int32)), .val (.ref (ad 15)), .unset] [])) t
      refine XS.iloadN X1.here hx rfl (hb hby at_23) rfl ?_
      show Steps p.tables e below (T1.setTop (mkF m 24 #[.val (.int p1), .val (.int (16 : Int32)), .val (.ref (ad 15)), .unset] [(.int (16 : Int32))])) t
      refine XS.bipush X1.here hx rfl (hb hby at_24) ?_
      show Steps p.tables e below (T1.setTop (mkF m 26 #[.val (.int p1), .val (.int (16 : Int32)), .val (.ref (ad 15)), .unset] [(.int (7 : Int32)), (.int (16 : Int32))])) t
      refine XS.icmpYes X1.here hx rfl (pc0 := 26) (pc' := 33) rfl (hb hby at_26) rfl (feq (by decide : ¬ (16 : Int32) = (7 : Int32))).2 (by decide) (by decide) ?_
      show Steps p.tables e below (T1.setTop (mkF m 33 #[.val (.int p1), .val (.int (16 : Int32)), .val (.ref (ad 15)), .unset] [])) t
      refine XS.iconst X1.here hx rfl (hb hby at_33) ?_
      show Steps p.tables e below (T1.setTop (mkF m 34 #[.val (.int p1), .val (.int (16 : Int32)), .val (.ref (ad 15)), .unset] [(.int (0 : Int32))])) t
      refine XS.istoreN X1.here hx rfl (hb hby at_34) rfl (l' := #[.val (.int p1), .val (.int (16 : Int32)), .val (.ref (ad 15)), .val (.int (0 : Int32))]) rfl ?_
      show Steps p.tables e below (T1.setTop (mkF m 35 #[.val (.int p1), .val (.int (16 : Int32)), .val (.ref (ad 15)), .val (.int (0 : Int32))] [])) t
      refine XS.aloadN X1.here hx rfl (hb hby at_35) rfl rfl ?_
      show Steps p.tables e below (T1.setTop (mkF m 36 #[.val (.int p1), .val (.int (16 : Int32)), .val (.ref (ad 15)), .val (.int (0 : Int32))] [(.ref (ad 15))])) t
      exact st4.trans k)
  obtain ⟨cq6, kq6, qa6, qb6, qc6⟩ := isOf hZ e4 (own_E_NUMERIC W)
  obtain ⟨vv7, _, ⟨T7, L7, kk7, nn7⟩, -, X7, ⟨Lc7, hQ7, l7, y7, z7⟩, st7⟩ := X4.virtualBack hx (y := (⟨"com/example/libsnippet/libsnippet/WordBreak", "isIgnorable", "()Z"⟩ : MethodName)) (z := (⟨"com/example/libsnippet/libsnippet/WordBreak", "isIgnorable", "()Z"⟩ : MethodName)) hown (mvT hZ (hw _ (List.mem_of_getElem? (i := 17) rfl))) (mvT hZ (hw _ (List.mem_of_getElem? (i := 18) rfl))) (notFace_of_selects (args := #[]) (mvT hZ (hw _ (List.mem_of_getElem? (i := 20) rfl)))) (mvT hZ (hw _ (List.mem_of_getElem? (i := 20) rfl))) (mvT hZ (hw _ (List.mem_of_getElem? (i := 19) rfl))) (by decide) (backOf (W := 0) (own_pred_16 l Z a0 hw [] h0 n0 Z0 ad a_VALUES k_VALUES W) hZ (hw _ (List.mem_of_getElem? (i := 21) rfl)) (hw _ (List.mem_of_getElem? (i := 3) rfl)) (by decide) (by decide)) qa6 qc6 (g := (mkF m 44 #[.val (.int p1), .val (.int (16 : Int32)), .val (.ref (ad 15)), .val (.int (0 : Int32))] [(.ref (ad 15))])) rfl (by rw [hml]; rfl) (Steps.refl _) (argsL := []) (rest := []) (lenOf own_pd___Z rfl) rfl (by show 2 * 0 + _ ≤ _; exact Nat.le_of_eq rfl) (hb hby at_44) (fun _ _ => ⟨rfl, e4, (by decide : 0 + 0 ≤ _), (by decide : 0 + 0 ≤ _)⟩)
  dsimp only [Pt.U, Pt.locs, Pt.cells, Pt.slots] at X7 l7 y7 z7 st7 hQ7
  subst l7 y7 z7
  obtain ⟨rfl, Nq7, e7⟩ := hQ7
  have N7 := Fr.app N4 Nq7
  have ch8 : ∀ t, Steps p.tables e below (T7.setTop (mkF m 47 #[.val (.int p1), .val (.int (16 : Int32)), .val (.ref (ad 15)), .val (.int (0 : Int32))] [(.int (0 : Int32))])) t → Steps p.tables e below (s₁.setTop (entryFrame m #[(.int p1)] maxLocals)) t := fun t k => ch5 t (by
      show Steps p.tables e below (T4.setTop (mkF m 39 #[.val (.int p1), .val (.int (16 : Int32)), .val (.ref (ad 15)), .val (.int (0 : Int32))] [(.int (16 : Int32))])) t
      refine XS.iloadN X4.here hx rfl (hb hby at_39) rfl ?_
      show Steps p.tables e below (T4.setTop (mkF m 40 #[.val (.int p1), .val (.int (16 : Int32)), .val (.ref (ad 15)), .val (.int (0 : Int32))] [(.int (16 : Int32)), (.int (16 : Int32))])) t
      refine XS.icmpNo X4.here hx rfl (hb hby at_40) rfl (teq (by decide : (16 : Int32) = (16 : Int32))).2 ?_
      show Steps p.tables e below (T4.setTop (mkF m 43 #[.val (.int p1), .val (.int (16 : Int32)), .val (.ref (ad 15)), .val (.int (0 : Int32))] [])) t
      refine XS.aloadN X4.here hx rfl (hb hby at_43) rfl rfl ?_
      show Steps p.tables e below (T4.setTop (mkF m 44 #[.val (.int p1), .val (.int (16 : Int32)), .val (.ref (ad 15)), .val (.int (0 : Int32))] [(.ref (ad 15))])) t
      exact st7.trans k)
  have ch9 : ∀ t, Steps p.tables e below (T7.setTop (mkF m 56 #[.val (.int p1), .val (.int (16 : Int32)), .val (.ref (ad 15)), .val (.int (0 : Int32))] [(.int (1 : Int32))])) t → Steps p.tables e below (s₁.setTop (entryFrame m #[(.int p1)] maxLocals)) t := fun t k => ch8 t (by
      show Steps p.tables e below (T7.setTop (mkF m 47 #[.val (.int p1), .val (.int (16 : Int32)), .val (.ref (ad 15)), .val (.int (0 : Int32))] [(.int (0 : Int32))])) t
      refine XS.iloadN X7.here hx rfl (hb hby at_47) rfl ?_
      show Steps p.tables e below (T7.setTop (mkF m 48 #[.val (.int p1), .val (.int (16 : Int32)), .val (.ref (ad 15)), .val (.int (0 : Int32))] [(.int (0 : Int32)), (.int (0 : Int32))])) t
      refine XS.icmpNo X7.here hx rfl (hb hby at_48) rfl (teq (by decide : (0 : Int32) = (0 : Int32))).2 ?_
      show Steps p.tables e below (T7.setTop (mkF m 51 #[.val (.int p1), .val (.int (16 : Int32)), .val (.ref (ad 15)), .val (.int (0 : Int32))] [])) t
      refine XS.iconst X7.here hx rfl (hb hby at_51) ?_
      show Steps p.tables e below (T7.setTop (mkF m 52 #[.val (.int p1), .val (.int (16 : Int32)), .val (.ref (ad 15)), .val (.int (0 : Int32))] [(.int (1 : Int32))])) t
      refine XS.goto X7.here hx rfl (pc0 := 52) (pc' := 56) rfl (hb hby at_52) (by decide) (by decide) ?_
      exact k)
  obtain ⟨fs, hr, hrun, hended, hW, hsame⟩ := X7.leave (v := some (.int (1 : Int32))) (fun h => by rw [Bd.returns] at h; cases h)
  refine ⟨_, _, ch9 _ ?_, hrun, hended, _, _, rfl, ?_, ⟨_, rfl⟩, hW, hsame.mono (by decide) (by decide)⟩
  · show Steps p.tables e below (T7.setTop (mkF m 56 #[.val (.int p1), .val (.int (16 : Int32)), .val (.ref (ad 15)), .val (.int (0 : Int32))] [(.int (1 : Int32))])) _
    exact retN X7 hx (t := .boolean) Bd.returns (by simp) (hb hby at_56) hr
  · show QN (some (.int (1 : Int32))) n0 _ T7.heap _
    rw [e7]
    exact ⟨rfl, N7⟩
theorem own_ef_own_pick_17 (m : MethodId) {x0 : Int32} : entryFrame m #[(.int x0)] 1 = mkF m 0 #[.val (.int x0)] [] := by first | (simp [entryFrame, mkF, argsToLocals, Value.category, maxLocals]; done) | rfl
set_option maxRecDepth 65536 in
set_option maxHeartbeats 40000000 in
theorem own_pick_17 (l : Launch) (Z : State) (a0 : Array Value) (hw : ∀ d ∈ tables_1, d.before a0 Z = true) (ws : List Jvm.Cond) (h0 : Heap) (n0 : Nat) (Z0 : n0 ≤ h0.size) (ad : Nat → Addr) (a_VALUES : Addr) (k_VALUES : ClassId) (W : OwnWd Z h0 ad a_VALUES k_VALUES) :
    MetFree l (⟨"com/example/libsnippet/libsnippet/WordBreak", "ofOrdinal", "(I)Lcom/example/libsnippet/libsnippet/WordBreak;"⟩ : MethodName) (head1 (Jvm.Cond.code (⟨"com/example/libsnippet/libsnippet/WordBreak", "ofOrdinal", "(I)Lcom/example/libsnippet/libsnippet/WordBreak;"⟩ : MethodName) prog_11_method_5_code 1 (some (.object "com/example/libsnippet/libsnippet/WordBreak")) :: ws) ({ frames := 0, cells := 0, slots := 0, locals := 0 } : Room)) (fun a U => a = #[(.int (17 : Int32))] ∧ Z.Warmed39 U.vm ∧ U.heap = h0) (fun _ _ _ _ _ => True) (fun _ U o U' => ∃ v L, o = .returned v ∧ QV (some (.ref (ad 6))) h0 n0 v U'.heap L ∧ FrameEnd U o U' L ({ frames := 0, cells := 0, slots := 0, locals := 0 } : Room).cells ({ frames := 0, cells := 0, slots := 0, locals := 0 } : Room).slots) := by
  refine MetFree.of_bodySF (plainFor_of_name own_pn_com_example_libsnippet_libsnippet_WordBreak) hisR ?_
  intro p e s m args below meth c s₁ Bd hml0 hP hK
  obtain ⟨rfl, hZ, hh⟩ := hP
  have hx := Bd.exec
  have hby := Bd.bytes
  have hml : c.maxLocals = 1 := hml0
  have hown : s.vm.findClass "com/example/libsnippet/libsnippet/WordBreak" = some m.cls := findClass_of_methodNamed Bd.named
  have hnm := (name_of_methodNamed Bd.named Bd.method).1
  have X0 : Stand p l e ({ frames := 0, cells := 0, slots := 0, locals := 0 } : Room) s m #[(.int (17 : Int32))] below meth c s₁ [] 0 0 := Stand.of_body Bd
  have e0 : s₁.heap = h0 := by rw [← hh, Bd.state]; rfl
  have N0 := Fr.nil n0
  have pre0 : ∀ t, Steps p.tables e below (s₁.setTop (mkF m 0 #[.val (.int (17 : Int32))] [])) t → Steps p.tables e below (s₁.setTop (entryFrame m #[(.int (17 : Int32))] 1)) t := fun t k => castTop (own_ef_own_pick_17 m) k
  obtain ⟨T1, X1, e1, st1⟩ := getS2 X0 hx hZ hown (host := "") (Or.inl (hw _ (List.mem_of_getElem? (i := 5) rfl))) Via.refl e0 (own_S_VALUES W) (g := (mkF m 0 #[.val (.int (17 : Int32))] [])) rfl (hb hby own_d_prog_11_method_5_code_0)
  have ch2 : ∀ t, Steps p.tables e below (T1.setTop (mkF m 3 #[.val (.int (17 : Int32))] [(.ref a_VALUES)])) t → Steps p.tables e below (s₁.setTop (entryFrame m #[(.int (17 : Int32))] 1)) t := fun t k => pre0 t (by
      show Steps p.tables e below (s₁.setTop (mkF m 0 #[.val (.int (17 : Int32))] [])) t
      exact st1 t k)
  obtain ⟨cl3, Ar3, -, Sz3, Ng3, Ha3, -⟩ := (own_V_VALUES W)
  have hin3 : ¬ ((17 : Int32) < 0 ∨ cl3.slots.size ≤ ((17 : Int32)).toNatClampNeg) := inb_of Sz3 (by decide)
  have hat3 : cl3.slots[((17 : Int32)).toNatClampNeg]? = some (.ref (ad 6)) := Ha3.at hin3 rfl
  have ch4 : ∀ t, Steps p.tables e below (T1.setTop (mkF m 5 #[.val (.int (17 : Int32))] [(.ref (ad 6))])) t → Steps p.tables e below (s₁.setTop (entryFrame m #[(.int (17 : Int32))] 1)) t := fun t k => ch2 t (by
      show Steps p.tables e below (T1.setTop (mkF m 3 #[.val (.int (17 : Int32))] [(.ref a_VALUES)])) t
      refine XS.iloadN X1.here hx rfl (hb hby own_d_prog_11_method_5_code_3) rfl ?_
      show Steps p.tables e below (T1.setTop (mkF m 4 #[.val (.int (17 : Int32))] [(.int (17 : Int32)), (.ref a_VALUES)])) t
      refine X1.aaload hx (j := (17 : Int32)) (v := (.ref (ad 6))) (by rw [e1]; exact Ar3.1) (State.isArrayOf_alike hZ.alike Ar3.2.1) rfl Ar3.2.2 hin3 hat3 (g := (mkF m 4 #[.val (.int (17 : Int32))] [(.int (17 : Int32)), (.ref a_VALUES)])) rfl rfl (hb hby own_d_prog_11_method_5_code_4) _ ?_
      exact k)
  obtain ⟨fs, hr, hrun, hended, hW, hsame⟩ := X1.leave (v := some (.ref (ad 6))) (fun h => by rw [Bd.returns] at h; cases h)
  refine ⟨_, _, ch4 _ ?_, hrun, hended, _, _, rfl, ?_, ⟨_, rfl⟩, hW, hsame.mono (by decide) (by decide)⟩
  · show Steps p.tables e below (T1.setTop (mkF m 5 #[.val (.int (17 : Int32))] [(.ref (ad 6))])) _
    jvm_step X1.here [X1.here.top, hx, (hb hby own_d_prog_11_method_5_code_5), X1.method', Bd.returns, Value.isRef, FieldType.isReference]
    first | (intro acts; rw [hr _ acts rfl rfl rfl]) | rw [hr _ _ rfl rfl rfl]
    exact Steps.refl _
  · show QV (some (.ref (ad 6))) h0 n0 _ T1.heap _
    rw [e1]
    exact ⟨rfl, N0, rfl⟩
theorem own_ef_own_pred_17 (m : MethodId) {x0 : Addr} : entryFrame m #[(.ref x0)] 1 = mkF m 0 #[.val (.ref x0)] [] := by first | (simp [entryFrame, mkF, argsToLocals, Value.category, maxLocals]; done) | rfl
set_option maxRecDepth 65536 in
set_option maxHeartbeats 40000000 in
theorem own_pred_17 (l : Launch) (Z : State) (a0 : Array Value) (hw : ∀ d ∈ tables_1, d.before a0 Z = true) (ws : List Jvm.Cond) (h0 : Heap) (n0 : Nat) (Z0 : n0 ≤ h0.size) (ad : Nat → Addr) (a_VALUES : Addr) (k_VALUES : ClassId) (W : OwnWd Z h0 ad a_VALUES k_VALUES) :
    MetFree l (⟨"com/example/libsnippet/libsnippet/WordBreak", "isIgnorable", "()Z"⟩ : MethodName) (head1 (Jvm.Cond.code (⟨"com/example/libsnippet/libsnippet/WordBreak", "isIgnorable", "()Z"⟩ : MethodName) prog_11_method_7_code 1 (some .boolean) :: ws) ({ frames := 0, cells := 0, slots := 0, locals := 0 } : Room)) (fun a U => a = #[(.ref (ad 6))] ∧ Z.Warmed39 U.vm ∧ U.heap = h0) (fun _ _ _ _ _ => True) (fun _ U o U' => ∃ v L, o = .returned v ∧ QV (some (.int (0 : Int32))) h0 n0 v U'.heap L ∧ FrameEnd U o U' L ({ frames := 0, cells := 0, slots := 0, locals := 0 } : Room).cells ({ frames := 0, cells := 0, slots := 0, locals := 0 } : Room).slots) := by
  refine MetFree.of_bodySF (plainFor_of_name own_pn_com_example_libsnippet_libsnippet_WordBreak) hisR ?_
  intro p e s m args below meth c s₁ Bd hml0 hP hK
  obtain ⟨rfl, hZ, hh⟩ := hP
  have hx := Bd.exec
  have hby := Bd.bytes
  have hml : c.maxLocals = 1 := hml0
  have hown : s.vm.findClass "com/example/libsnippet/libsnippet/WordBreak" = some m.cls := findClass_of_methodNamed Bd.named
  have hnm := (name_of_methodNamed Bd.named Bd.method).1
  have X0 : Stand p l e ({ frames := 0, cells := 0, slots := 0, locals := 0 } : Room) s m #[(.ref (ad 6))] below meth c s₁ [] 0 0 := Stand.of_body Bd
  have e0 : s₁.heap = h0 := by rw [← hh, Bd.state]; rfl
  have N0 := Fr.nil n0
  have pre0 : ∀ t, Steps p.tables e below (s₁.setTop (mkF m 0 #[.val (.ref (ad 6))] [])) t → Steps p.tables e below (s₁.setTop (entryFrame m #[(.ref (ad 6))] 1)) t := fun t k => castTop (own_ef_own_pred_17 m) k
  obtain ⟨T1, X1, e1, st1⟩ := getS2 X0 hx hZ hown (host := "") (Or.inl (hw _ (List.mem_of_getElem? (i := 22) rfl))) Via.refl e0 (own_S_EXTEND W) (g := (mkF m 1 #[.val (.ref (ad 6))] [(.ref (ad 6))])) rfl (hb hby own_d_prog_11_method_7_code_1)
  have ch2 : ∀ t, Steps p.tables e below (T1.setTop (mkF m 4 #[.val (.ref (ad 6))] [(.ref (ad 1)), (.ref (ad 6))])) t → Steps p.tables e below (s₁.setTop (entryFrame m #[(.ref (ad 6))] 1)) t := fun t k => pre0 t (by
      show Steps p.tables e below (s₁.setTop (mkF m 0 #[.val (.ref (ad 6))] [])) t
      refine XS.aloadN X0.here hx rfl (hb hby own_d_prog_11_method_7_code_0) rfl rfl ?_
      show Steps p.tables e below (s₁.setTop (mkF m 1 #[.val (.ref (ad 6))] [(.ref (ad 6))])) t
      exact st1 t k)
  obtain ⟨T3, X3, e3, st3⟩ := getS2 X1 hx hZ hown (host := "") (Or.inl (hw _ (List.mem_of_getElem? (i := 24) rfl))) Via.refl e1 (own_S_FORMAT W) (g := (mkF m 8 #[.val (.ref (ad 6))] [(.ref (ad 6))])) rfl (hb hby own_d_prog_11_method_7_code_8)
  have ch4 : ∀ t, Steps p.tables e below (T3.setTop (mkF m 11 #[.val (.ref (ad 6))] [(.ref (ad 2)), (.ref (ad 6))])) t → Steps p.tables e below (s₁.setTop (entryFrame m #[(.ref (ad 6))] 1)) t := fun t k => ch2 t (by
      show Steps p.tables e below (T1.setTop (mkF m 4 #[.val (.ref (ad 6))] [(.ref (ad 1)), (.ref (ad 6))])) t
      refine Jvm.RoadKit.acmp (g := (mkF m 4 #[.val (.ref (ad 6))] [(.ref (ad 1)), (.ref (ad 6))])) X1 hx rfl rfl rfl (pc0 := 4) (pc' := 7) (same := false) rfl (hb hby own_d_prog_11_method_7_code_4) rfl (decide_eq_false fun q => (Fld.ne (own_F_EXTEND_NUM_LET_ordinal W) (own_F_EXTEND_ordinal W) (by decide)) (Value.ref.inj q)) (by decide) (by decide) ?_
      show Steps p.tables e below (T1.setTop (mkF m 7 #[.val (.ref (ad 6))] [])) t
      refine XS.aloadN X1.here hx rfl (hb hby own_d_prog_11_method_7_code_7) rfl rfl ?_
      show Steps p.tables e below (T1.setTop (mkF m 8 #[.val (.ref (ad 6))] [(.ref (ad 6))])) t
      exact st3 t k)
  obtain ⟨T5, X5, e5, st5⟩ := getS2 X3 hx hZ hown (host := "") (Or.inl (hw _ (List.mem_of_getElem? (i := 26) rfl))) Via.refl e3 (own_S_ZWJ W) (g := (mkF m 15 #[.val (.ref (ad 6))] [(.ref (ad 6))])) rfl (hb hby own_d_prog_11_method_7_code_15)
  have ch6 : ∀ t, Steps p.tables e below (T5.setTop (mkF m 18 #[.val (.ref (ad 6))] [(.ref (ad 3)), (.ref (ad 6))])) t → Steps p.tables e below (s₁.setTop (entryFrame m #[(.ref (ad 6))] 1)) t := fun t k => ch4 t (by
      show Steps p.tables e below (T3.setTop (mkF m 11 #[.val (.ref (ad 6))] [(.ref (ad 2)), (.ref (ad 6))])) t
      refine Jvm.RoadKit.acmp (g := (mkF m 11 #[.val (.ref (ad 6))] [(.ref (ad 2)), (.ref (ad 6))])) X3 hx rfl rfl rfl (pc0 := 11) (pc' := 14) (same := false) rfl (hb hby own_d_prog_11_method_7_code_11) rfl (decide_eq_false fun q => (Fld.ne (own_F_EXTEND_NUM_LET_ordinal W) (own_F_FORMAT_ordinal W) (by decide)) (Value.ref.inj q)) (by decide) (by decide) ?_
      show Steps p.tables e below (T3.setTop (mkF m 14 #[.val (.ref (ad 6))] [])) t
      refine XS.aloadN X3.here hx rfl (hb hby own_d_prog_11_method_7_code_14) rfl rfl ?_
      show Steps p.tables e below (T3.setTop (mkF m 15 #[.val (.ref (ad 6))] [(.ref (ad 6))])) t
      exact st5 t k)
  have ch7 : ∀ t, Steps p.tables e below (T5.setTop (mkF m 26 #[.val (.ref (ad 6))] [(.int (0 : Int32))])) t → Steps p.tables e below (s₁.setTop (entryFrame m #[(.ref (ad 6))] 1)) t := fun t k => ch6 t (by
      show Steps p.tables e below (T5.setTop (mkF m 18 #[.val (.ref (ad 6))] [(.ref (ad 3)), (.ref (ad 6))])) t
      refine Jvm.RoadKit.acmp (g := (mkF m 18 #[.val (.ref (ad 6))] [(.ref (ad 3)), (.ref (ad 6))])) X5 hx rfl rfl rfl (pc0 := 18) (pc' := 25) (same := false) rfl (hb hby own_d_prog_11_method_7_code_18) rfl (decide_eq_false fun q => (Fld.ne (own_F_EXTEND_NUM_LET_ordinal W) (own_F_ZWJ_ordinal W) (by decide)) (Value.ref.inj q)) (by decide) (by decide) ?_
      show Steps p.tables e below (T5.setTop (mkF m 25 #[.val (.ref (ad 6))] [])) t
      refine XS.iconst X5.here hx rfl (hb hby own_d_prog_11_method_7_code_25) ?_
      exact k)
  obtain ⟨fs, hr, hrun, hended, hW, hsame⟩ := X5.leave (v := some (.int (0 : Int32))) (fun h => by rw [Bd.returns] at h; cases h)
  refine ⟨_, _, ch7 _ ?_, hrun, hended, _, _, rfl, ?_, ⟨_, rfl⟩, hW, hsame.mono (by decide) (by decide)⟩
  · show Steps p.tables e below (T5.setTop (mkF m 26 #[.val (.ref (ad 6))] [(.int (0 : Int32))])) _
    exact retN X5 hx (t := .boolean) Bd.returns (by simp) (hb hby own_d_prog_11_method_7_code_26) hr
  · show QV (some (.int (0 : Int32))) h0 n0 _ T5.heap _
    rw [e5]
    exact ⟨rfl, N0, rfl⟩
theorem own_ef_own_ordi_17 (m : MethodId) {x0 : Addr} : entryFrame m #[(.ref x0)] 1 = mkF m 0 #[.val (.ref x0)] [] := by first | (simp [entryFrame, mkF, argsToLocals, Value.category, maxLocals]; done) | rfl
set_option maxRecDepth 65536 in
set_option maxHeartbeats 40000000 in
theorem own_ordi_17 (l : Launch) (Z : State) (a0 : Array Value) (hw : ∀ d ∈ tables_1, d.before a0 Z = true) (ws : List Jvm.Cond) (h0 : Heap) (n0 : Nat) (Z0 : n0 ≤ h0.size) (ad : Nat → Addr) (a_VALUES : Addr) (k_VALUES : ClassId) (W : OwnWd Z h0 ad a_VALUES k_VALUES) :
    MetFree l (⟨"java/lang/Enum", "ordinal", "()I"⟩ : MethodName) (head1 (Jvm.Cond.code (⟨"java/lang/Enum", "ordinal", "()I"⟩ : MethodName) jdk_37_method_2_code 1 (some .int) :: ws) ({ frames := 0, cells := 0, slots := 0, locals := 0 } : Room)) (fun a U => a = #[(.ref (ad 6))] ∧ Z.Warmed39 U.vm ∧ U.heap = h0) (fun _ _ _ _ _ => True) (fun _ U o U' => ∃ v L, o = .returned v ∧ QV (some (.int (17 : Int32))) h0 n0 v U'.heap L ∧ FrameEnd U o U' L ({ frames := 0, cells := 0, slots := 0, locals := 0 } : Room).cells ({ frames := 0, cells := 0, slots := 0, locals := 0 } : Room).slots) := by
  refine MetFree.of_bodySF (plainFor_of_name own_pn_java_lang_Enum) hisR ?_
  intro p e s m args below meth c s₁ Bd hml0 hP hK
  obtain ⟨rfl, hZ, hh⟩ := hP
  have hx := Bd.exec
  have hby := Bd.bytes
  have hml : c.maxLocals = 1 := hml0
  have hown : s.vm.findClass "java/lang/Enum" = some m.cls := findClass_of_methodNamed Bd.named
  have hnm := (name_of_methodNamed Bd.named Bd.method).1
  have X0 : Stand p l e ({ frames := 0, cells := 0, slots := 0, locals := 0 } : Room) s m #[(.ref (ad 6))] below meth c s₁ [] 0 0 := Stand.of_body Bd
  have e0 : s₁.heap = h0 := by rw [← hh, Bd.state]; rfl
  have N0 := Fr.nil n0
  have pre0 : ∀ t, Steps p.tables e below (s₁.setTop (mkF m 0 #[.val (.ref (ad 6))] [])) t → Steps p.tables e below (s₁.setTop (entryFrame m #[(.ref (ad 6))] 1)) t := fun t k => castTop (own_ef_own_ordi_17 m) k
  obtain ⟨T1, X1, e1, st1⟩ := getF X0 hx hZ hown (host := "") (Or.inl (hw _ (List.mem_of_getElem? (i := 15) rfl))) Via.refl e0 (own_F_EXTEND_NUM_LET_ordinal W) (g := (mkF m 1 #[.val (.ref (ad 6))] [(.ref (ad 6))])) rfl rfl (hb hby own_d_jdk_37_method_2_code_1)
  have ch2 : ∀ t, Steps p.tables e below (T1.setTop (mkF m 4 #[.val (.ref (ad 6))] [(.int (17 : Int32))])) t → Steps p.tables e below (s₁.setTop (entryFrame m #[(.ref (ad 6))] 1)) t := fun t k => pre0 t (by
      show Steps p.tables e below (s₁.setTop (mkF m 0 #[.val (.ref (ad 6))] [])) t
      refine XS.aloadN X0.here hx rfl (hb hby own_d_jdk_37_method_2_code_0) rfl rfl ?_
      show Steps p.tables e below (s₁.setTop (mkF m 1 #[.val (.ref (ad 6))] [(.ref (ad 6))])) t
      exact st1 t k)
  obtain ⟨fs, hr, hrun, hended, hW, hsame⟩ := X1.leave (v := some (.int (17 : Int32))) (fun h => by rw [Bd.returns] at h; cases h)
  refine ⟨_, _, ch2 _ ?_, hrun, hended, _, _, rfl, ?_, ⟨_, rfl⟩, hW, hsame.mono (by decide) (by decide)⟩
  · show Steps p.tables e below (T1.setTop (mkF m 4 #[.val (.ref (ad 6))] [(.int (17 : Int32))])) _
    exact retI X1 hx Bd.returns (hb hby own_d_jdk_37_method_2_code_4) hr
  · show QV (some (.int (17 : Int32))) h0 n0 _ T1.heap _
    rw [e1]
    exact ⟨rfl, N0, rfl⟩
theorem own_ef_own_law_17 (m : MethodId) {x0 : Int32} : entryFrame m #[(.int x0)] maxLocals = mkF m 0 #[.val (.int x0), .unset, .unset, .unset] [] := by first | (simp [entryFrame, mkF, argsToLocals, Value.category, maxLocals]; done) | rfl
set_option maxRecDepth 65536 in
set_option maxHeartbeats 40000000 in
theorem own_law_17 (l : Launch) (Z : State) (a0 : Array Value) (hw : ∀ d ∈ tables_1, d.before a0 Z = true) (ws : List Jvm.Cond) (h0 : Heap) (n0 : Nat) (Z0 : n0 ≤ h0.size) (p1 : Int32) (hk : (p1 &&& (2147483647 : Int32)) % (19 : Int32) = (17 : Int32)) (ad : Nat → Addr) (a_VALUES : Addr) (k_VALUES : ClassId) (W : OwnWd Z h0 ad a_VALUES k_VALUES) :
    MetFree l x (head1 (Jvm.Cond.code x code maxLocals ret :: ws) room_1) (fun a U => a = #[(.int p1)] ∧ Z.Warmed39 U.vm ∧ U.heap = h0) (fun _ _ _ _ _ => True) (fun _ U o U' => ∃ v L, o = .returned v ∧ QN (some (.int (1 : Int32))) n0 v U'.heap L ∧ FrameEnd U o U' L room_1.cells room_1.slots) := by
  refine MetFree.of_bodySF (plainFor_of_name own_pn_com_example_libsnippet_libsnippet_WordBreakIsIgnorablePinLaw) hisR ?_
  intro p e s m args below meth c s₁ Bd hml0 hP hK
  obtain ⟨rfl, hZ, hh⟩ := hP
  have hx := Bd.exec
  have hby := Bd.bytes
  have hml : c.maxLocals = 4 := hml0
  have hown : s.vm.findClass "com/example/libsnippet/libsnippet/WordBreakIsIgnorablePinLaw" = some m.cls := findClass_of_methodNamed Bd.named
  have hnm := (name_of_methodNamed Bd.named Bd.method).1
  have X0 : Stand p l e room_1 s m #[(.int p1)] below meth c s₁ [] 0 0 := Stand.of_body Bd
  have e0 : s₁.heap = h0 := by rw [← hh, Bd.state]; rfl
  have N0 := Fr.nil n0
  have pre0 : ∀ t, Steps p.tables e below (s₁.setTop (mkF m 0 #[.val (.int p1), .unset, .unset, .unset] [])) t → Steps p.tables e below (s₁.setTop (entryFrame m #[(.int p1)] maxLocals)) t := fun t k => castTop (own_ef_own_law_17 m) k
  obtain ⟨vv1, _, ⟨T1, L1, kk1, nn1⟩, -, X1, ⟨Lc1, hQ1, l1, y1, z1⟩, st1⟩ := Jvm.LawKit.callS X0 hx (y := (⟨"com/example/libsnippet/libsnippet/WordBreak", "ofOrdinal", "(I)Lcom/example/libsnippet/libsnippet/WordBreak;"⟩ : MethodName)) hown (mvT hZ (hw _ (List.mem_of_getElem? (i := 1) rfl))) (mvT hZ (hw _ (List.mem_of_getElem? (i := 2) rfl))) (mvT hZ (hw _ (List.mem_of_getElem? (i := 3) rfl))) (mvT hZ (hw _ (List.mem_of_getElem? (i := 4) rfl))) (by decide) (backOf (W := 0) (own_pick_17 l Z a0 hw [] h0 n0 Z0 ad a_VALUES k_VALUES W) hZ (hw _ (List.mem_of_getElem? (i := 4) rfl)) (hw _ (List.mem_of_getElem? (i := 3) rfl)) (by decide) (by decide)) (g := (mkF m 9 #[.val (.int p1), .val (.int (17 : Int32)), .unset, .unset] [(.int (17 : Int32))])) rfl (by rw [hml]; rfl) (argsL := [(.int (17 : Int32))]) (rest := []) (lenOf own_pd__I_Lcom_example_libsnippet_libsnippet_WordBreak_ rfl) rfl (by show 2 * 0 + _ ≤ _; exact Nat.le_of_eq rfl) (hb hby at_9) (fun _ _ => ⟨rfl, e0, (by decide : 0 + 0 ≤ _), (by decide : 0 + 0 ≤ _)⟩)
  dsimp only [Pt.U, Pt.locs, Pt.cells, Pt.slots] at X1 l1 y1 z1 st1 hQ1
  subst l1 y1 z1
  obtain ⟨rfl, Nq1, e1⟩ := hQ1
  have N1 := Fr.app N0 Nq1
  have ch2 : ∀ t, Steps p.tables e below (T1.setTop (mkF m 12 #[.val (.int p1), .val (.int (17 : Int32)), .unset, .unset] [(.ref (ad 6))])) t → Steps p.tables e below (s₁.setTop (entryFrame m #[(.int p1)] maxLocals)) t := fun t k => pre0 t (by
      show Steps p.tables e below (s₁.setTop (mkF m 0 #[.val (.int p1), .unset, .unset, .unset] [])) t
      refine XS.iloadN X0.here hx rfl (hb hby at_0) rfl ?_
      show Steps p.tables e below (s₁.setTop (mkF m 1 #[.val (.int p1), .unset, .unset, .unset] [(.int p1)])) t
      refine X0.ldcInt hx hown (mvT hZ (hw _ (List.mem_of_getElem? (i := 0) rfl))) (g := (mkF m 1 #[.val (.int p1), .unset, .unset, .unset] [(.int p1)])) rfl (hb hby at_1) _ ?_
      show Steps p.tables e below (s₁.setTop (mkF m 3 #[.val (.int p1), .unset, .unset, .unset] [(.int (2147483647 : Int32)), (.int p1)])) t
      refine XS.iand X0.here hx rfl (hb hby at_3) rfl ?_
      show Steps p.tables e below (s₁.setTop (mkF m 4 #[.val (.int p1), .unset, .unset, .unset] [(.int (p1 &&& (2147483647 : Int32)))])) t
      refine XS.bipush X0.here hx rfl (hb hby at_4) ?_
      show Steps p.tables e below (s₁.setTop (mkF m 6 #[.val (.int p1), .unset, .unset, .unset] [(.int (19 : Int32)), (.int (p1 &&& (2147483647 : Int32)))])) t
      refine Jvm.RoadKit.iremM (g := (mkF m 6 #[.val (.int p1), .unset, .unset, .unset] [(.int (19 : Int32)), (.int (p1 &&& (2147483647 : Int32)))])) X0 hx rfl (hb hby at_6) rfl (by decide) ?_
      rw [hk]
      show Steps p.tables e below (s₁.setTop (mkF m 7 #[.val (.int p1), .unset, .unset, .unset] [(.int (17 : Int32))])) t
      refine XS.istoreN X0.here hx rfl (hb hby at_7) rfl (l' := #[.val (.int p1), .val (.int (17 : Int32)), .unset, .unset]) rfl ?_
      show Steps p.tables e below (s₁.setTop (mkF m 8 #[.val (.int p1), .val (.int (17 : Int32)), .unset, .unset] [])) t
      refine XS.iloadN X0.here hx rfl (hb hby at_8) rfl ?_
      show Steps p.tables e below (s₁.setTop (mkF m 9 #[.val (.int p1), .val (.int (17 : Int32)), .unset, .unset] [(.int (17 : Int32))])) t
      exact st1 t k)
  obtain ⟨cq3, kq3, qa3, qb3, qc3⟩ := isOf hZ e1 (own_E_EXTEND_NUM_LET W)
  obtain ⟨vv4, _, ⟨T4, L4, kk4, nn4⟩, -, X4, ⟨Lc4, hQ4, l4, y4, z4⟩, st4⟩ := X1.virtualBackUp hx (x := (⟨"com/example/libsnippet/libsnippet/WordBreak", "ordinal", "()I"⟩ : MethodName)) (y := (⟨"java/lang/Enum", "ordinal", "()I"⟩ : MethodName)) (owner := "java/lang/Enum") hown (mvT hZ (hw _ (List.mem_of_getElem? (i := 8) rfl))) (mvT hZ (hw _ (List.mem_of_getElem? (i := 9) rfl))) (mvT hZ (hw _ (List.mem_of_getElem? (i := 10) rfl))) (by decide) (mvT hZ (hw _ (List.mem_of_getElem? (i := 12) rfl))) (mvT hZ (hw _ (List.mem_of_getElem? (i := 11) rfl))) (backOf (W := 0) (own_ordi_17 l Z a0 hw [] h0 n0 Z0 ad a_VALUES k_VALUES W) hZ (hw _ (List.mem_of_getElem? (i := 14) rfl)) (hw _ (List.mem_of_getElem? (i := 13) rfl)) (by decide) (by decide)) qa3 qc3 (g := (mkF m 36 #[.val (.int p1), .val (.int (17 : Int32)), .val (.ref (ad 6)), .val (.int (0 : Int32))] [(.ref (ad 6))])) rfl (by rw [hml]; rfl) (Steps.refl _) (argsL := []) (rest := []) (lenOf own_pd___I rfl) rfl (by show 2 * 0 + _ ≤ _; exact Nat.le_of_eq rfl) (hb hby at_36) (fun _ _ => ⟨rfl, e1, (by decide : 0 + 0 ≤ _), (by decide : 0 + 0 ≤ _)⟩)
  dsimp only [Pt.U, Pt.locs, Pt.cells, Pt.slots] at X4 l4 y4 z4 st4 hQ4
  subst l4 y4 z4
  obtain ⟨rfl, Nq4, e4⟩ := hQ4
  have N4 := Fr.app N1 Nq4
  have ch5 : ∀ t, Steps p.tables e below (T4.setTop (mkF m 39 #[.val (.int p1), .val (.int (17 : Int32)), .val (.ref (ad 6)), .val (.int (0 : Int32))] [(.int (17 : Int32))])) t → Steps p.tables e below (s₁.setTop (entryFrame m #[(.int p1)] maxLocals)) t := fun t k => ch2 t (by
      show Steps p.tables e below (T1.setTop (mkF m 12 #[.val (.int p1), .val (.int (17 : Int32)), .unset, .unset] [(.ref (ad 6))])) t
      refine XS.astoreN X1.here hx rfl (hb hby at_12) rfl rfl (l' := #[.val (.int p1), .val (.int (17 : Int32)), .val (.ref (ad 6)), .unset]) rfl ?_
      show Steps p.tables e below (T1.setTop (mkF m 13 #[.val (.int p1), .val (.int (17 : Int32)), .val (.ref (ad 6)), .unset] [])) t
      refine XS.iloadN X1.here hx rfl (hb hby at_13) rfl ?_
      show Steps p.tables e below (T1.setTop (mkF m 14 #[.val (.int p1), .val (.int (17 : Int32)), .val (.ref (ad 6)), .unset] [(.int (17 : Int32))])) t
      refine XS.iconst X1.here hx rfl (hb hby at_14) ?_
      show Steps p.tables e below (T1.setTop (mkF m 15 #[.val (.int p1), .val (.int (17 : Int32)), .val (.ref (ad 6)), .unset] [(.int (4 : Int32)), (.int (17 : Int32))])) t
      refine XS.icmpNo X1.here hx rfl (hb hby at_15) rfl (feq (by decide : ¬ (17 : Int32) = (4 : Int32))).1 ?_
      show Steps p.tables e below (T1.setTop (mkF m 18 #[.val (.int p1), .val (.int (17 : Int32)), .val (.ref (ad 6)), .unset] [])) t
      refine XS.iloadN X1.here hx rfl (hb hby at_18) rfl ?_
      show Steps p.tables e below (T1.setTop (mkF m 19 #[.val (.int p1), .val (.int (17 : Int32)), .val (.ref (ad 6)), .unset] [(.int (17 : Int32))])) t
      refine XS.iconst X1.here hx rfl (hb hby at_19) ?_
      show Steps p.tables e below (T1.setTop (mkF m 20 #[.val (.int p1), .val (.int (17 : Int32)), .val (.ref (ad 6)), .unset] [(.int (5 : Int32)), (.int (17 : Int32))])) t
      refine XS.icmpNo X1.here hx rfl (hb hby at_20) rfl (feq (by decide : ¬ (17 : Int32) = (5 : Int32))).1 ?_
      show Steps p.tables e below (T1.setTop (mkF m 23 #[.val (.int p1), .val (.int (17 : Int32)), .val (.ref (ad 6)), .unset] [])) t
      refine XS.iloadN X1.here hx rfl (hb hby at_23) rfl ?_
      show Steps p.tables e below (T1.setTop (mkF m 24 #[.val (.int p1), .val (.int (17 : Int32)), .val (.ref (ad 6)), .unset] [(.int (17 : Int32))])) t
      refine XS.bipush X1.here hx rfl (hb hby at_24) ?_
      show Steps p.tables e below (T1.setTop (mkF m 26 #[.val (.int p1), .val (.int (17 : Int32)), .val (.ref (ad 6)), .unset] [(.int (7 : Int32)), (.int (17 : Int32))])) t
      refine XS.icmpYes X1.here hx rfl (pc0 := 26) (pc' := 33) rfl (hb hby at_26) rfl (feq (by decide : ¬ (17 : Int32) = (7 : Int32))).2 (by decide) (by decide) ?_
      show Steps p.tables e below (T1.setTop (mkF m 33 #[.val (.int p1), .val (.int (17 : Int32)), .val (.ref (ad 6)), .unset] [])) t
      refine XS.iconst X1.here hx rfl (hb hby at_33) ?_
      show Steps p.tables e below (T1.setTop (mkF m 34 #[.val (.int p1), .val (.int (17 : Int32)), .val (.ref (ad 6)), .unset] [(.int (0 : Int32))])) t
      refine XS.istoreN X1.here hx rfl (hb hby at_34) rfl (l' := #[.val (.int p1), .val (.int (17 : Int32)), .val (.ref (ad 6)), .val (.int (0 : Int32))]) rfl ?_
      show Steps p.tables e below (T1.setTop (mkF m 35 #[.val (.int p1), .val (.int (17 : Int32)), .val (.ref (ad 6)), .val (.int (0 : Int32))] [])) t
      refine XS.aloadN X1.here hx rfl (hb hby at_35) rfl rfl ?_
      show Steps p.tables e below (T1.setTop (mkF m 36 #[.val (.int p1), .val (.int (17 : Int32)), .val (.ref (ad 6)), .val (.int (0 : Int32))] [(.ref (ad 6))])) t
      exact st4.trans k)
  obtain ⟨cq6, kq6, qa6, qb6, qc6⟩ := isOf hZ e4 (own_E_EXTEND_NUM_LET W)
  obtain ⟨vv7, _, ⟨T7, L7, kk7, nn7⟩, -, X7, ⟨Lc7, hQ7, l7, y7, z7⟩, st7⟩ := X4.virtualBack hx (y := (⟨"com/example/libsnippet/libsnippet/WordBreak", "isIgnorable", "()Z"⟩ : MethodName)) (z := (⟨"com/example/libsnippet/libsnippet/WordBreak", "isIgnorable", "()Z"⟩ : MethodName)) hown (mvT hZ (hw _ (List.mem_of_getElem? (i := 17) rfl))) (mvT hZ (hw _ (List.mem_of_getElem? (i := 18) rfl))) (notFace_of_selects (args := #[]) (mvT hZ (hw _ (List.mem_of_getElem? (i := 20) rfl)))) (mvT hZ (hw _ (List.mem_of_getElem? (i := 20) rfl))) (mvT hZ (hw _ (List.mem_of_getElem? (i := 19) rfl))) (by decide) (backOf (W := 0) (own_pred_17 l Z a0 hw [] h0 n0 Z0 ad a_VALUES k_VALUES W) hZ (hw _ (List.mem_of_getElem? (i := 21) rfl)) (hw _ (List.mem_of_getElem? (i := 3) rfl)) (by decide) (by decide)) qa6 qc6 (g := (mkF m 44 #[.val (.int p1), .val (.int (17 : Int32)), .val (.ref (ad 6)), .val (.int (0 : Int32))] [(.ref (ad 6))])) rfl (by rw [hml]; rfl) (Steps.refl _) (argsL := []) (rest := []) (lenOf own_pd___Z rfl) rfl (by show 2 * 0 + _ ≤ _; exact Nat.le_of_eq rfl) (hb hby at_44) (fun _ _ => ⟨rfl, e4, (by decide : 0 + 0 ≤ _), (by decide : 0 + 0 ≤ _)⟩)
  dsimp only [Pt.U, Pt.locs, Pt.cells, Pt.slots] at X7 l7 y7 z7 st7 hQ7
  subst l7 y7 z7
  obtain ⟨rfl, Nq7, e7⟩ := hQ7
  have N7 := Fr.app N4 Nq7
  have ch8 : ∀ t, Steps p.tables e below (T7.setTop (mkF m 47 #[.val (.int p1), .val (.int (17 : Int32)), .val (.ref (ad 6)), .val (.int (0 : Int32))] [(.int (0 : Int32))])) t → Steps p.tables e below (s₁.setTop (entryFrame m #[(.int p1)] maxLocals)) t := fun t k => ch5 t (by
      show Steps p.tables e below (T4.setTop (mkF m 39 #[.val (.int p1), .val (.int (17 : Int32)), .val (.ref (ad 6)), .val (.int (0 : Int32))] [(.int (17 : Int32))])) t
      refine XS.iloadN X4.here hx rfl (hb hby at_39) rfl ?_
      show Steps p.tables e below (T4.setTop (mkF m 40 #[.val (.int p1), .val (.int (17 : Int32)), .val (.ref (ad 6)), .val (.int (0 : Int32))] [(.int (17 : Int32)), (.int (17 : Int32))])) t
      refine XS.icmpNo X4.here hx rfl (hb hby at_40) rfl (teq (by decide : (17 : Int32) = (17 : Int32))).2 ?_
      show Steps p.tables e below (T4.setTop (mkF m 43 #[.val (.int p1), .val (.int (17 : Int32)), .val (.ref (ad 6)), .val (.int (0 : Int32))] [])) t
      refine XS.aloadN X4.here hx rfl (hb hby at_43) rfl rfl ?_
      show Steps p.tables e below (T4.setTop (mkF m 44 #[.val (.int p1), .val (.int (17 : Int32)), .val (.ref (ad 6)), .val (.int (0 : Int32))] [(.ref (ad 6))])) t
      exact st7.trans k)
  have ch9 : ∀ t, Steps p.tables e below (T7.setTop (mkF m 56 #[.val (.int p1), .val (.int (17 : Int32)), .val (.ref (ad 6)), .val (.int (0 : Int32))] [(.int (1 : Int32))])) t → Steps p.tables e below (s₁.setTop (entryFrame m #[(.int p1)] maxLocals)) t := fun t k => ch8 t (by
      show Steps p.tables e below (T7.setTop (mkF m 47 #[.val (.int p1), .val (.int (17 : Int32)), .val (.ref (ad 6)), .val (.int (0 : Int32))] [(.int (0 : Int32))])) t
      refine XS.iloadN X7.here hx rfl (hb hby at_47) rfl ?_
      show Steps p.tables e below (T7.setTop (mkF m 48 #[.val (.int p1), .val (.int (17 : Int32)), .val (.ref (ad 6)), .val (.int (0 : Int32))] [(.int (0 : Int32)), (.int (0 : Int32))])) t
      refine XS.icmpNo X7.here hx rfl (hb hby at_48) rfl (teq (by decide : (0 : Int32) = (0 : Int32))).2 ?_
      show Steps p.tables e below (T7.setTop (mkF m 51 #[.val (.int p1), .val (.int (17 : Int32)), .val (.ref (ad 6)), .val (.int (0 : Int32))] [])) t
      refine XS.iconst X7.here hx rfl (hb hby at_51) ?_
      show Steps p.tables e below (T7.setTop (mkF m 52 #[.val (.int p1), .val (.int (17 : Int32)), .val (.ref (ad 6)), .val (.int (0 : Int32))] [(.int (1 : Int32))])) t
      refine XS.goto X7.here hx rfl (pc0 := 52) (pc' := 56) rfl (hb hby at_52) (by decide) (by decide) ?_
      exact k)
  obtain ⟨fs, hr, hrun, hended, hW, hsame⟩ := X7.leave (v := some (.int (1 : Int32))) (fun h => by rw [Bd.returns] at h; cases h)
  refine ⟨_, _, ch9 _ ?_, hrun, hended, _, _, rfl, ?_, ⟨_, rfl⟩, hW, hsame.mono (by decide) (by decide)⟩
  · show Steps p.tables e below (T7.setTop (mkF m 56 #[.val (.int p1), .val (.int (17 : Int32)), .val (.ref (ad 6)), .val (.int (0 : Int32))] [(.int (1 : Int32))])) _
    exact retN X7 hx (t := .boolean) Bd.returns (by simp) (hb hby at_56) hr
  · show QN (some (.int (1 : Int32))) n0 _ T7.heap _
    rw [e7]
    exact ⟨rfl, N7⟩
theorem own_ef_own_pick_18 (m : MethodId) {x0 : Int32} : entryFrame m #[(.int x0)] 1 = mkF m 0 #[.val (.int x0)] [] := by first | (simp [entryFrame, mkF, argsToLocals, Value.category, maxLocals]; done) | rfl
set_option maxRecDepth 65536 in
set_option maxHeartbeats 40000000 in
theorem own_pick_18 (l : Launch) (Z : State) (a0 : Array Value) (hw : ∀ d ∈ tables_1, d.before a0 Z = true) (ws : List Jvm.Cond) (h0 : Heap) (n0 : Nat) (Z0 : n0 ≤ h0.size) (ad : Nat → Addr) (a_VALUES : Addr) (k_VALUES : ClassId) (W : OwnWd Z h0 ad a_VALUES k_VALUES) :
    MetFree l (⟨"com/example/libsnippet/libsnippet/WordBreak", "ofOrdinal", "(I)Lcom/example/libsnippet/libsnippet/WordBreak;"⟩ : MethodName) (head1 (Jvm.Cond.code (⟨"com/example/libsnippet/libsnippet/WordBreak", "ofOrdinal", "(I)Lcom/example/libsnippet/libsnippet/WordBreak;"⟩ : MethodName) prog_11_method_5_code 1 (some (.object "com/example/libsnippet/libsnippet/WordBreak")) :: ws) ({ frames := 0, cells := 0, slots := 0, locals := 0 } : Room)) (fun a U => a = #[(.int (18 : Int32))] ∧ Z.Warmed39 U.vm ∧ U.heap = h0) (fun _ _ _ _ _ => True) (fun _ U o U' => ∃ v L, o = .returned v ∧ QV (some (.ref (ad 13))) h0 n0 v U'.heap L ∧ FrameEnd U o U' L ({ frames := 0, cells := 0, slots := 0, locals := 0 } : Room).cells ({ frames := 0, cells := 0, slots := 0, locals := 0 } : Room).slots) := by
  refine MetFree.of_bodySF (plainFor_of_name own_pn_com_example_libsnippet_libsnippet_WordBreak) hisR ?_
  intro p e s m args below meth c s₁ Bd hml0 hP hK
  obtain ⟨rfl, hZ, hh⟩ := hP
  have hx := Bd.exec
  have hby := Bd.bytes
  have hml : c.maxLocals = 1 := hml0
  have hown : s.vm.findClass "com/example/libsnippet/libsnippet/WordBreak" = some m.cls := findClass_of_methodNamed Bd.named
  have hnm := (name_of_methodNamed Bd.named Bd.method).1
  have X0 : Stand p l e ({ frames := 0, cells := 0, slots := 0, locals := 0 } : Room) s m #[(.int (18 : Int32))] below meth c s₁ [] 0 0 := Stand.of_body Bd
  have e0 : s₁.heap = h0 := by rw [← hh, Bd.state]; rfl
  have N0 := Fr.nil n0
  have pre0 : ∀ t, Steps p.tables e below (s₁.setTop (mkF m 0 #[.val (.int (18 : Int32))] [])) t → Steps p.tables e below (s₁.setTop (entryFrame m #[(.int (18 : Int32))] 1)) t := fun t k => castTop (own_ef_own_pick_18 m) k
  obtain ⟨T1, X1, e1, st1⟩ := getS2 X0 hx hZ hown (host := "") (Or.inl (hw _ (List.mem_of_getElem? (i := 5) rfl))) Via.refl e0 (own_S_VALUES W) (g := (mkF m 0 #[.val (.int (18 : Int32))] [])) rfl (hb hby own_d_prog_11_method_5_code_0)
  have ch2 : ∀ t, Steps p.tables e below (T1.setTop (mkF m 3 #[.val (.int (18 : Int32))] [(.ref a_VALUES)])) t → Steps p.tables e below (s₁.setTop (entryFrame m #[(.int (18 : Int32))] 1)) t := fun t k => pre0 t (by
      show Steps p.tables e below (s₁.setTop (mkF m 0 #[.val (.int (18 : Int32))] [])) t
      exact st1 t k)
  obtain ⟨cl3, Ar3, -, Sz3, Ng3, Ha3, -⟩ := (own_V_VALUES W)
  have hin3 : ¬ ((18 : Int32) < 0 ∨ cl3.slots.size ≤ ((18 : Int32)).toNatClampNeg) := inb_of Sz3 (by decide)
  have hat3 : cl3.slots[((18 : Int32)).toNatClampNeg]? = some (.ref (ad 13)) := Ha3.at hin3 rfl
  have ch4 : ∀ t, Steps p.tables e below (T1.setTop (mkF m 5 #[.val (.int (18 : Int32))] [(.ref (ad 13))])) t → Steps p.tables e below (s₁.setTop (entryFrame m #[(.int (18 : Int32))] 1)) t := fun t k => ch2 t (by
      show Steps p.tables e below (T1.setTop (mkF m 3 #[.val (.int (18 : Int32))] [(.ref a_VALUES)])) t
      refine XS.iloadN X1.here hx rfl (hb hby own_d_prog_11_method_5_code_3) rfl ?_
      show Steps p.tables e below (T1.setTop (mkF m 4 #[.val (.int (18 : Int32))] [(.int (18 : Int32)), (.ref a_VALUES)])) t
      refine X1.aaload hx (j := (18 : Int32)) (v := (.ref (ad 13))) (by rw [e1]; exact Ar3.1) (State.isArrayOf_alike hZ.alike Ar3.2.1) rfl Ar3.2.2 hin3 hat3 (g := (mkF m 4 #[.val (.int (18 : Int32))] [(.int (18 : Int32)), (.ref a_VALUES)])) rfl rfl (hb hby own_d_prog_11_method_5_code_4) _ ?_
      exact k)
  obtain ⟨fs, hr, hrun, hended, hW, hsame⟩ := X1.leave (v := some (.ref (ad 13))) (fun h => by rw [Bd.returns] at h; cases h)
  refine ⟨_, _, ch4 _ ?_, hrun, hended, _, _, rfl, ?_, ⟨_, rfl⟩, hW, hsame.mono (by decide) (by decide)⟩
  · show Steps p.tables e below (T1.setTop (mkF m 5 #[.val (.int (18 : Int32))] [(.ref (ad 13))])) _
    jvm_step X1.here [X1.here.top, hx, (hb hby own_d_prog_11_method_5_code_5), X1.method', Bd.returns, Value.isRef, FieldType.isReference]
    first | (intro acts; rw [hr _ acts rfl rfl rfl]) | rw [hr _ _ rfl rfl rfl]
    exact Steps.refl _
  · show QV (some (.ref (ad 13))) h0 n0 _ T1.heap _
    rw [e1]
    exact ⟨rfl, N0, rfl⟩
theorem own_ef_own_pred_18 (m : MethodId) {x0 : Addr} : entryFrame m #[(.ref x0)] 1 = mkF m 0 #[.val (.ref x0)] [] := by first | (simp [entryFrame, mkF, argsToLocals, Value.category, maxLocals]; done) | rfl
set_option maxRecDepth 65536 in
set_option maxHeartbeats 40000000 in
theorem own_pred_18 (l : Launch) (Z : State) (a0 : Array Value) (hw : ∀ d ∈ tables_1, d.before a0 Z = true) (ws : List Jvm.Cond) (h0 : Heap) (n0 : Nat) (Z0 : n0 ≤ h0.size) (ad : Nat → Addr) (a_VALUES : Addr) (k_VALUES : ClassId) (W : OwnWd Z h0 ad a_VALUES k_VALUES) :
    MetFree l (⟨"com/example/libsnippet/libsnippet/WordBreak", "isIgnorable", "()Z"⟩ : MethodName) (head1 (Jvm.Cond.code (⟨"com/example/libsnippet/libsnippet/WordBreak", "isIgnorable", "()Z"⟩ : MethodName) prog_11_method_7_code 1 (some .boolean) :: ws) ({ frames := 0, cells := 0, slots := 0, locals := 0 } : Room)) (fun a U => a = #[(.ref (ad 13))] ∧ Z.Warmed39 U.vm ∧ U.heap = h0) (fun _ _ _ _ _ => True) (fun _ U o U' => ∃ v L, o = .returned v ∧ QV (some (.int (0 : Int32))) h0 n0 v U'.heap L ∧ FrameEnd U o U' L ({ frames := 0, cells := 0, slots := 0, locals := 0 } : Room).cells ({ frames := 0, cells := 0, slots := 0, locals := 0 } : Room).slots) := by
  refine MetFree.of_bodySF (plainFor_of_name own_pn_com_example_libsnippet_libsnippet_WordBreak) hisR ?_
  intro p e s m args below meth c s₁ Bd hml0 hP hK
  obtain ⟨rfl, hZ, hh⟩ := hP
  have hx := Bd.exec
  have hby := Bd.bytes
  have hml : c.maxLocals = 1 := hml0
  have hown : s.vm.findClass "com/example/libsnippet/libsnippet/WordBreak" = some m.cls := findClass_of_methodNamed Bd.named
  have hnm := (name_of_methodNamed Bd.named Bd.method).1
  have X0 : Stand p l e ({ frames := 0, cells := 0, slots := 0, locals := 0 } : Room) s m #[(.ref (ad 13))] below meth c s₁ [] 0 0 := Stand.of_body Bd
  have e0 : s₁.heap = h0 := by rw [← hh, Bd.state]; rfl
  have N0 := Fr.nil n0
  have pre0 : ∀ t, Steps p.tables e below (s₁.setTop (mkF m 0 #[.val (.ref (ad 13))] [])) t → Steps p.tables e below (s₁.setTop (entryFrame m #[(.ref (ad 13))] 1)) t := fun t k => castTop (own_ef_own_pred_18 m) k
  obtain ⟨T1, X1, e1, st1⟩ := getS2 X0 hx hZ hown (host := "") (Or.inl (hw _ (List.mem_of_getElem? (i := 22) rfl))) Via.refl e0 (own_S_EXTEND W) (g := (mkF m 1 #[.val (.ref (ad 13))] [(.ref (ad 13))])) rfl (hb hby own_d_prog_11_method_7_code_1)
  have ch2 : ∀ t, Steps p.tables e below (T1.setTop (mkF m 4 #[.val (.ref (ad 13))] [(.ref (ad 1)), (.ref (ad 13))])) t → Steps p.tables e below (s₁.setTop (entryFrame m #[(.ref (ad 13))] 1)) t := fun t k => pre0 t (by
      show Steps p.tables e below (s₁.setTop (mkF m 0 #[.val (.ref (ad 13))] [])) t
      refine XS.aloadN X0.here hx rfl (hb hby own_d_prog_11_method_7_code_0) rfl rfl ?_
      show Steps p.tables e below (s₁.setTop (mkF m 1 #[.val (.ref (ad 13))] [(.ref (ad 13))])) t
      exact st1 t k)
  obtain ⟨T3, X3, e3, st3⟩ := getS2 X1 hx hZ hown (host := "") (Or.inl (hw _ (List.mem_of_getElem? (i := 24) rfl))) Via.refl e1 (own_S_FORMAT W) (g := (mkF m 8 #[.val (.ref (ad 13))] [(.ref (ad 13))])) rfl (hb hby own_d_prog_11_method_7_code_8)
  have ch4 : ∀ t, Steps p.tables e below (T3.setTop (mkF m 11 #[.val (.ref (ad 13))] [(.ref (ad 2)), (.ref (ad 13))])) t → Steps p.tables e below (s₁.setTop (entryFrame m #[(.ref (ad 13))] 1)) t := fun t k => ch2 t (by
      show Steps p.tables e below (T1.setTop (mkF m 4 #[.val (.ref (ad 13))] [(.ref (ad 1)), (.ref (ad 13))])) t
      refine Jvm.RoadKit.acmp (g := (mkF m 4 #[.val (.ref (ad 13))] [(.ref (ad 1)), (.ref (ad 13))])) X1 hx rfl rfl rfl (pc0 := 4) (pc' := 7) (same := false) rfl (hb hby own_d_prog_11_method_7_code_4) rfl (decide_eq_false fun q => (Fld.ne (own_F_WSEG_SPACE_ordinal W) (own_F_EXTEND_ordinal W) (by decide)) (Value.ref.inj q)) (by decide) (by decide) ?_
      show Steps p.tables e below (T1.setTop (mkF m 7 #[.val (.ref (ad 13))] [])) t
      refine XS.aloadN X1.here hx rfl (hb hby own_d_prog_11_method_7_code_7) rfl rfl ?_
      show Steps p.tables e below (T1.setTop (mkF m 8 #[.val (.ref (ad 13))] [(.ref (ad 13))])) t
      exact st3 t k)
  obtain ⟨T5, X5, e5, st5⟩ := getS2 X3 hx hZ hown (host := "") (Or.inl (hw _ (List.mem_of_getElem? (i := 26) rfl))) Via.refl e3 (own_S_ZWJ W) (g := (mkF m 15 #[.val (.ref (ad 13))] [(.ref (ad 13))])) rfl (hb hby own_d_prog_11_method_7_code_15)
  have ch6 : ∀ t, Steps p.tables e below (T5.setTop (mkF m 18 #[.val (.ref (ad 13))] [(.ref (ad 3)), (.ref (ad 13))])) t → Steps p.tables e below (s₁.setTop (entryFrame m #[(.ref (ad 13))] 1)) t := fun t k => ch4 t (by
      show Steps p.tables e below (T3.setTop (mkF m 11 #[.val (.ref (ad 13))] [(.ref (ad 2)), (.ref (ad 13))])) t
      refine Jvm.RoadKit.acmp (g := (mkF m 11 #[.val (.ref (ad 13))] [(.ref (ad 2)), (.ref (ad 13))])) X3 hx rfl rfl rfl (pc0 := 11) (pc' := 14) (same := false) rfl (hb hby own_d_prog_11_method_7_code_11) rfl (decide_eq_false fun q => (Fld.ne (own_F_WSEG_SPACE_ordinal W) (own_F_FORMAT_ordinal W) (by decide)) (Value.ref.inj q)) (by decide) (by decide) ?_
      show Steps p.tables e below (T3.setTop (mkF m 14 #[.val (.ref (ad 13))] [])) t
      refine XS.aloadN X3.here hx rfl (hb hby own_d_prog_11_method_7_code_14) rfl rfl ?_
      show Steps p.tables e below (T3.setTop (mkF m 15 #[.val (.ref (ad 13))] [(.ref (ad 13))])) t
      exact st5 t k)
  have ch7 : ∀ t, Steps p.tables e below (T5.setTop (mkF m 26 #[.val (.ref (ad 13))] [(.int (0 : Int32))])) t → Steps p.tables e below (s₁.setTop (entryFrame m #[(.ref (ad 13))] 1)) t := fun t k => ch6 t (by
      show Steps p.tables e below (T5.setTop (mkF m 18 #[.val (.ref (ad 13))] [(.ref (ad 3)), (.ref (ad 13))])) t
      refine Jvm.RoadKit.acmp (g := (mkF m 18 #[.val (.ref (ad 13))] [(.ref (ad 3)), (.ref (ad 13))])) X5 hx rfl rfl rfl (pc0 := 18) (pc' := 25) (same := false) rfl (hb hby own_d_prog_11_method_7_code_18) rfl (decide_eq_false fun q => (Fld.ne (own_F_WSEG_SPACE_ordinal W) (own_F_ZWJ_ordinal W) (by decide)) (Value.ref.inj q)) (by decide) (by decide) ?_
      show Steps p.tables e below (T5.setTop (mkF m 25 #[.val (.ref (ad 13))] [])) t
      refine XS.iconst X5.here hx rfl (hb hby own_d_prog_11_method_7_code_25) ?_
      exact k)
  obtain ⟨fs, hr, hrun, hended, hW, hsame⟩ := X5.leave (v := some (.int (0 : Int32))) (fun h => by rw [Bd.returns] at h; cases h)
  refine ⟨_, _, ch7 _ ?_, hrun, hended, _, _, rfl, ?_, ⟨_, rfl⟩, hW, hsame.mono (by decide) (by decide)⟩
  · show Steps p.tables e below (T5.setTop (mkF m 26 #[.val (.ref (ad 13))] [(.int (0 : Int32))])) _
    exact retN X5 hx (t := .boolean) Bd.returns (by simp) (hb hby own_d_prog_11_method_7_code_26) hr
  · show QV (some (.int (0 : Int32))) h0 n0 _ T5.heap _
    rw [e5]
    exact ⟨rfl, N0, rfl⟩
theorem own_ef_own_ordi_18 (m : MethodId) {x0 : Addr} : entryFrame m #[(.ref x0)] 1 = mkF m 0 #[.val (.ref x0)] [] := by first | (simp [entryFrame, mkF, argsToLocals, Value.category, maxLocals]; done) | rfl
set_option maxRecDepth 65536 in
set_option maxHeartbeats 40000000 in
theorem own_ordi_18 (l : Launch) (Z : State) (a0 : Array Value) (hw : ∀ d ∈ tables_1, d.before a0 Z = true) (ws : List Jvm.Cond) (h0 : Heap) (n0 : Nat) (Z0 : n0 ≤ h0.size) (ad : Nat → Addr) (a_VALUES : Addr) (k_VALUES : ClassId) (W : OwnWd Z h0 ad a_VALUES k_VALUES) :
    MetFree l (⟨"java/lang/Enum", "ordinal", "()I"⟩ : MethodName) (head1 (Jvm.Cond.code (⟨"java/lang/Enum", "ordinal", "()I"⟩ : MethodName) jdk_37_method_2_code 1 (some .int) :: ws) ({ frames := 0, cells := 0, slots := 0, locals := 0 } : Room)) (fun a U => a = #[(.ref (ad 13))] ∧ Z.Warmed39 U.vm ∧ U.heap = h0) (fun _ _ _ _ _ => True) (fun _ U o U' => ∃ v L, o = .returned v ∧ QV (some (.int (18 : Int32))) h0 n0 v U'.heap L ∧ FrameEnd U o U' L ({ frames := 0, cells := 0, slots := 0, locals := 0 } : Room).cells ({ frames := 0, cells := 0, slots := 0, locals := 0 } : Room).slots) := by
  refine MetFree.of_bodySF (plainFor_of_name own_pn_java_lang_Enum) hisR ?_
  intro p e s m args below meth c s₁ Bd hml0 hP hK
  obtain ⟨rfl, hZ, hh⟩ := hP
  have hx := Bd.exec
  have hby := Bd.bytes
  have hml : c.maxLocals = 1 := hml0
  have hown : s.vm.findClass "java/lang/Enum" = some m.cls := findClass_of_methodNamed Bd.named
  have hnm := (name_of_methodNamed Bd.named Bd.method).1
  have X0 : Stand p l e ({ frames := 0, cells := 0, slots := 0, locals := 0 } : Room) s m #[(.ref (ad 13))] below meth c s₁ [] 0 0 := Stand.of_body Bd
  have e0 : s₁.heap = h0 := by rw [← hh, Bd.state]; rfl
  have N0 := Fr.nil n0
  have pre0 : ∀ t, Steps p.tables e below (s₁.setTop (mkF m 0 #[.val (.ref (ad 13))] [])) t → Steps p.tables e below (s₁.setTop (entryFrame m #[(.ref (ad 13))] 1)) t := fun t k => castTop (own_ef_own_ordi_18 m) k
  obtain ⟨T1, X1, e1, st1⟩ := getF X0 hx hZ hown (host := "") (Or.inl (hw _ (List.mem_of_getElem? (i := 15) rfl))) Via.refl e0 (own_F_WSEG_SPACE_ordinal W) (g := (mkF m 1 #[.val (.ref (ad 13))] [(.ref (ad 13))])) rfl rfl (hb hby own_d_jdk_37_method_2_code_1)
  have ch2 : ∀ t, Steps p.tables e below (T1.setTop (mkF m 4 #[.val (.ref (ad 13))] [(.int (18 : Int32))])) t → Steps p.tables e below (s₁.setTop (entryFrame m #[(.ref (ad 13))] 1)) t := fun t k => pre0 t (by
      show Steps p.tables e below (s₁.setTop (mkF m 0 #[.val (.ref (ad 13))] [])) t
      refine XS.aloadN X0.here hx rfl (hb hby own_d_jdk_37_method_2_code_0) rfl rfl ?_
      show Steps p.tables e below (s₁.setTop (mkF m 1 #[.val (.ref (ad 13))] [(.ref (ad 13))])) t
      exact st1 t k)
  obtain ⟨fs, hr, hrun, hended, hW, hsame⟩ := X1.leave (v := some (.int (18 : Int32))) (fun h => by rw [Bd.returns] at h; cases h)
  refine ⟨_, _, ch2 _ ?_, hrun, hended, _, _, rfl, ?_, ⟨_, rfl⟩, hW, hsame.mono (by decide) (by decide)⟩
  · show Steps p.tables e below (T1.setTop (mkF m 4 #[.val (.ref (ad 13))] [(.int (18 : Int32))])) _
    exact retI X1 hx Bd.returns (hb hby own_d_jdk_37_method_2_code_4) hr
  · show QV (some (.int (18 : Int32))) h0 n0 _ T1.heap _
    rw [e1]
    exact ⟨rfl, N0, rfl⟩
theorem own_ef_own_law_18 (m : MethodId) {x0 : Int32} : entryFrame m #[(.int x0)] maxLocals = mkF m 0 #[.val (.int x0), .unset, .unset, .unset] [] := by first | (simp [entryFrame, mkF, argsToLocals, Value.category, maxLocals]; done) | rfl
set_option maxRecDepth 65536 in
set_option maxHeartbeats 40000000 in
theorem own_law_18 (l : Launch) (Z : State) (a0 : Array Value) (hw : ∀ d ∈ tables_1, d.before a0 Z = true) (ws : List Jvm.Cond) (h0 : Heap) (n0 : Nat) (Z0 : n0 ≤ h0.size) (p1 : Int32) (hk : (p1 &&& (2147483647 : Int32)) % (19 : Int32) = (18 : Int32)) (ad : Nat → Addr) (a_VALUES : Addr) (k_VALUES : ClassId) (W : OwnWd Z h0 ad a_VALUES k_VALUES) :
    MetFree l x (head1 (Jvm.Cond.code x code maxLocals ret :: ws) room_1) (fun a U => a = #[(.int p1)] ∧ Z.Warmed39 U.vm ∧ U.heap = h0) (fun _ _ _ _ _ => True) (fun _ U o U' => ∃ v L, o = .returned v ∧ QN (some (.int (1 : Int32))) n0 v U'.heap L ∧ FrameEnd U o U' L room_1.cells room_1.slots) := by
  refine MetFree.of_bodySF (plainFor_of_name own_pn_com_example_libsnippet_libsnippet_WordBreakIsIgnorablePinLaw) hisR ?_
  intro p e s m args below meth c s₁ Bd hml0 hP hK
  obtain ⟨rfl, hZ, hh⟩ := hP
  have hx := Bd.exec
  have hby := Bd.bytes
  have hml : c.maxLocals = 4 := hml0
  have hown : s.vm.findClass "com/example/libsnippet/libsnippet/WordBreakIsIgnorablePinLaw" = some m.cls := findClass_of_methodNamed Bd.named
  have hnm := (name_of_methodNamed Bd.named Bd.method).1
  have X0 : Stand p l e room_1 s m #[(.int p1)] below meth c s₁ [] 0 0 := Stand.of_body Bd
  have e0 : s₁.heap = h0 := by rw [← hh, Bd.state]; rfl
  have N0 := Fr.nil n0
  have pre0 : ∀ t, Steps p.tables e below (s₁.setTop (mkF m 0 #[.val (.int p1), .unset, .unset, .unset] [])) t → Steps p.tables e below (s₁.setTop (entryFrame m #[(.int p1)] maxLocals)) t := fun t k => castTop (own_ef_own_law_18 m) k
  obtain ⟨vv1, _, ⟨T1, L1, kk1, nn1⟩, -, X1, ⟨Lc1, hQ1, l1, y1, z1⟩, st1⟩ := Jvm.LawKit.callS X0 hx (y := (⟨"com/example/libsnippet/libsnippet/WordBreak", "ofOrdinal", "(I)Lcom/example/libsnippet/libsnippet/WordBreak;"⟩ : MethodName)) hown (mvT hZ (hw _ (List.mem_of_getElem? (i := 1) rfl))) (mvT hZ (hw _ (List.mem_of_getElem? (i := 2) rfl))) (mvT hZ (hw _ (List.mem_of_getElem? (i := 3) rfl))) (mvT hZ (hw _ (List.mem_of_getElem? (i := 4) rfl))) (by decide) (backOf (W := 0) (own_pick_18 l Z a0 hw [] h0 n0 Z0 ad a_VALUES k_VALUES W) hZ (hw _ (List.mem_of_getElem? (i := 4) rfl)) (hw _ (List.mem_of_getElem? (i := 3) rfl)) (by decide) (by decide)) (g := (mkF m 9 #[.val (.int p1), .val (.int (18 : Int32)), .unset, .unset] [(.int (18 : Int32))])) rfl (by rw [hml]; rfl) (argsL := [(.int (18 : Int32))]) (rest := []) (lenOf own_pd__I_Lcom_example_libsnippet_libsnippet_WordBreak_ rfl) rfl (by show 2 * 0 + _ ≤ _; exact Nat.le_of_eq rfl) (hb hby at_9) (fun _ _ => ⟨rfl, e0, (by decide : 0 + 0 ≤ _), (by decide : 0 + 0 ≤ _)⟩)
  dsimp only [Pt.U, Pt.locs, Pt.cells, Pt.slots] at X1 l1 y1 z1 st1 hQ1
  subst l1 y1 z1
  obtain ⟨rfl, Nq1, e1⟩ := hQ1
  have N1 := Fr.app N0 Nq1
  have ch2 : ∀ t, Steps p.tables e below (T1.setTop (mkF m 12 #[.val (.int p1), .val (.int (18 : Int32)), .unset, .unset] [(.ref (ad 13))])) t → Steps p.tables e below (s₁.setTop (entryFrame m #[(.int p1)] maxLocals)) t := fun t k => pre0 t (by
      show Steps p.tables e below (s₁.setTop (mkF m 0 #[.val (.int p1), .unset, .unset, .unset] [])) t
      refine XS.iloadN X0.here hx rfl (hb hby at_0) rfl ?_
      show Steps p.tables e below (s₁.setTop (mkF m 1 #[.val (.int p1), .unset, .unset, .unset] [(.int p1)])) t
      refine X0.ldcInt hx hown (mvT hZ (hw _ (List.mem_of_getElem? (i := 0) rfl))) (g := (mkF m 1 #[.val (.int p1), .unset, .unset, .unset] [(.int p1)])) rfl (hb hby at_1) _ ?_
      show Steps p.tables e below (s₁.setTop (mkF m 3 #[.val (.int p1), .unset, .unset, .unset] [(.int (2147483647 : Int32)), (.int p1)])) t
      refine XS.iand X0.here hx rfl (hb hby at_3) rfl ?_
      show Steps p.tables e below (s₁.setTop (mkF m 4 #[.val (.int p1), .unset, .unset, .unset] [(.int (p1 &&& (2147483647 : Int32)))])) t
      refine XS.bipush X0.here hx rfl (hb hby at_4) ?_
      show Steps p.tables e below (s₁.setTop (mkF m 6 #[.val (.int p1), .unset, .unset, .unset] [(.int (19 : Int32)), (.int (p1 &&& (2147483647 : Int32)))])) t
      refine Jvm.RoadKit.iremM (g := (mkF m 6 #[.val (.int p1), .unset, .unset, .unset] [(.int (19 : Int32)), (.int (p1 &&& (2147483647 : Int32)))])) X0 hx rfl (hb hby at_6) rfl (by decide) ?_
      rw [hk]
      show Steps p.tables e below (s₁.setTop (mkF m 7 #[.val (.int p1), .unset, .unset, .unset] [(.int (18 : Int32))])) t
      refine XS.istoreN X0.here hx rfl (hb hby at_7) rfl (l' := #[.val (.int p1), .val (.int (18 : Int32)), .unset, .unset]) rfl ?_
      show Steps p.tables e below (s₁.setTop (mkF m 8 #[.val (.int p1), .val (.int (18 : Int32)), .unset, .unset] [])) t
      refine XS.iloadN X0.here hx rfl (hb hby at_8) rfl ?_
      show Steps p.tables e below (s₁.setTop (mkF m 9 #[.val (.int p1), .val (.int (18 : Int32)), .unset, .unset] [(.int (18 : Int32))])) t
      exact st1 t k)
  obtain ⟨cq3, kq3, qa3, qb3, qc3⟩ := isOf hZ e1 (own_E_WSEG_SPACE W)
  obtain ⟨vv4, _, ⟨T4, L4, kk4, nn4⟩, -, X4, ⟨Lc4, hQ4, l4, y4, z4⟩, st4⟩ := X1.virtualBackUp hx (x := (⟨"com/example/libsnippet/libsnippet/WordBreak", "ordinal", "()I"⟩ : MethodName)) (y := (⟨"java/lang/Enum", "ordinal", "()I"⟩ : MethodName)) (owner := "java/lang/Enum") hown (mvT hZ (hw _ (List.mem_of_getElem? (i := 8) rfl))) (mvT hZ (hw _ (List.mem_of_getElem? (i := 9) rfl))) (mvT hZ (hw _ (List.mem_of_getElem? (i := 10) rfl))) (by decide) (mvT hZ (hw _ (List.mem_of_getElem? (i := 12) rfl))) (mvT hZ (hw _ (List.mem_of_getElem? (i := 11) rfl))) (backOf (W := 0) (own_ordi_18 l Z a0 hw [] h0 n0 Z0 ad a_VALUES k_VALUES W) hZ (hw _ (List.mem_of_getElem? (i := 14) rfl)) (hw _ (List.mem_of_getElem? (i := 13) rfl)) (by decide) (by decide)) qa3 qc3 (g := (mkF m 36 #[.val (.int p1), .val (.int (18 : Int32)), .val (.ref (ad 13)), .val (.int (0 : Int32))] [(.ref (ad 13))])) rfl (by rw [hml]; rfl) (Steps.refl _) (argsL := []) (rest := []) (lenOf own_pd___I rfl) rfl (by show 2 * 0 + _ ≤ _; exact Nat.le_of_eq rfl) (hb hby at_36) (fun _ _ => ⟨rfl, e1, (by decide : 0 + 0 ≤ _), (by decide : 0 + 0 ≤ _)⟩)
  dsimp only [Pt.U, Pt.locs, Pt.cells, Pt.slots] at X4 l4 y4 z4 st4 hQ4
  subst l4 y4 z4
  obtain ⟨rfl, Nq4, e4⟩ := hQ4
  have N4 := Fr.app N1 Nq4
  have ch5 : ∀ t, Steps p.tables e below (T4.setTop (mkF m 39 #[.val (.int p1), .val (.int (18 : Int32)), .val (.ref (ad 13)), .val (.int (0 : Int32))] [(.int (18 : Int32))])) t → Steps p.tables e below (s₁.setTop (entryFrame m #[(.int p1)] maxLocals)) t := fun t k => ch2 t (by
      show Steps p.tables e below (T1.setTop (mkF m 12 #[.val (.int p1), .val (.int (18 : Int32)), .unset, .unset] [(.ref (ad 13))])) t
      refine XS.astoreN X1.here hx rfl (hb hby at_12) rfl rfl (l' := #[.val (.int p1), .val (.int (18 : Int32)), .val (.ref (ad 13)), .unset]) rfl ?_
      show Steps p.tables e below (T1.setTop (mkF m 13 #[.val (.int p1), .val (.int (18 : Int32)), .val (.ref (ad 13)), .unset] [])) t
      refine XS.iloadN X1.here hx rfl (hb hby at_13) rfl ?_
      show Steps p.tables e below (T1.setTop (mkF m 14 #[.val (.int p1), .val (.int (18 : Int32)), .val (.ref (ad 13)), .unset] [(.int (18 : Int32))])) t
      refine XS.iconst X1.here hx rfl (hb hby at_14) ?_
      show Steps p.tables e below (T1.setTop (mkF m 15 #[.val (.int p1), .val (.int (18 : Int32)), .val (.ref (ad 13)), .unset] [(.int (4 : Int32)), (.int (18 : Int32))])) t
      refine XS.icmpNo X1.here hx rfl (hb hby at_15) rfl (feq (by decide : ¬ (18 : Int32) = (4 : Int32))).1 ?_
      show Steps p.tables e below (T1.setTop (mkF m 18 #[.val (.int p1), .val (.int (18 : Int32)), .val (.ref (ad 13)), .unset] [])) t
      refine XS.iloadN X1.here hx rfl (hb hby at_18) rfl ?_
      show Steps p.tables e below (T1.setTop (mkF m 19 #[.val (.int p1), .val (.int (18 : Int32)), .val (.ref (ad 13)), .unset] [(.int (18 : Int32))])) t
      refine XS.iconst X1.here hx rfl (hb hby at_19) ?_
      show Steps p.tables e below (T1.setTop (mkF m 20 #[.val (.int p1), .val (.int (18 : Int32)), .val (.ref (ad 13)), .unset] [(.int (5 : Int32)), (.int (18 : Int32))])) t
      refine XS.icmpNo X1.here hx rfl (hb hby at_20) rfl (feq (by decide : ¬ (18 : Int32) = (5 : Int32))).1 ?_
      show Steps p.tables e below (T1.setTop (mkF m 23 #[.val (.int p1), .val (.int (18 : Int32)), .val (.ref (ad 13)), .unset] [])) t
      refine XS.iloadN X1.here hx rfl (hb hby at_23) rfl ?_
      show Steps p.tables e below (T1.setTop (mkF m 24 #[.val (.int p1), .val (.int (18 : Int32)), .val (.ref (ad 13)), .unset] [(.int (18 : Int32))])) t
      refine XS.bipush X1.here hx rfl (hb hby at_24) ?_
      show Steps p.tables e below (T1.setTop (mkF m 26 #[.val (.int p1), .val (.int (18 : Int32)), .val (.ref (ad 13)), .unset] [(.int (7 : Int32)), (.int (18 : Int32))])) t
      refine XS.icmpYes X1.here hx rfl (pc0 := 26) (pc' := 33) rfl (hb hby at_26) rfl (feq (by decide : ¬ (18 : Int32) = (7 : Int32))).2 (by decide) (by decide) ?_
      show Steps p.tables e below (T1.setTop (mkF m 33 #[.val (.int p1), .val (.int (18 : Int32)), .val (.ref (ad 13)), .unset] [])) t
      refine XS.iconst X1.here hx rfl (hb hby at_33) ?_
      show Steps p.tables e below (T1.setTop (mkF m 34 #[.val (.int p1), .val (.int (18 : Int32)), .val (.ref (ad 13)), .unset] [(.int (0 : Int32))])) t
      refine XS.istoreN X1.here hx rfl (hb hby at_34) rfl (l' := #[.val (.int p1), .val (.int (18 : Int32)), .val (.ref (ad 13)), .val (.int (0 : Int32))]) rfl ?_
      show Steps p.tables e below (T1.setTop (mkF m 35 #[.val (.int p1), .val (.int (18 : Int32)), .val (.ref (ad 13)), .val (.int (0 : Int32))] [])) t
      refine XS.aloadN X1.here hx rfl (hb hby at_35) rfl rfl ?_
      show Steps p.tables e below (T1.setTop (mkF m 36 #[.val (.int p1), .val (.int (18 : Int32)), .val (.ref (ad 13)), .val (.int (0 : Int32))] [(.ref (ad 13))])) t
      exact st4.trans k)
  obtain ⟨cq6, kq6, qa6, qb6, qc6⟩ := isOf hZ e4 (own_E_WSEG_SPACE W)
  obtain ⟨vv7, _, ⟨T7, L7, kk7, nn7⟩, -, X7, ⟨Lc7, hQ7, l7, y7, z7⟩, st7⟩ := X4.virtualBack hx (y := (⟨"com/example/libsnippet/libsnippet/WordBreak", "isIgnorable", "()Z"⟩ : MethodName)) (z := (⟨"com/example/libsnippet/libsnippet/WordBreak", "isIgnorable", "()Z"⟩ : MethodName)) hown (mvT hZ (hw _ (List.mem_of_getElem? (i := 17) rfl))) (mvT hZ (hw _ (List.mem_of_getElem? (i := 18) rfl))) (notFace_of_selects (args := #[]) (mvT hZ (hw _ (List.mem_of_getElem? (i := 20) rfl)))) (mvT hZ (hw _ (List.mem_of_getElem? (i := 20) rfl))) (mvT hZ (hw _ (List.mem_of_getElem? (i := 19) rfl))) (by decide) (backOf (W := 0) (own_pred_18 l Z a0 hw [] h0 n0 Z0 ad a_VALUES k_VALUES W) hZ (hw _ (List.mem_of_getElem? (i := 21) rfl)) (hw _ (List.mem_of_getElem? (i := 3) rfl)) (by decide) (by decide)) qa6 qc6 (g := (mkF m 44 #[.val (.int p1), .val (.int (18 : Int32)), .val (.ref (ad 13)), .val (.int (0 : Int32))] [(.ref (ad 13))])) rfl (by rw [hml]; rfl) (Steps.refl _) (argsL := []) (rest := []) (lenOf own_pd___Z rfl) rfl (by show 2 * 0 + _ ≤ _; exact Nat.le_of_eq rfl) (hb hby at_44) (fun _ _ => ⟨rfl, e4, (by decide : 0 + 0 ≤ _), (by decide : 0 + 0 ≤ _)⟩)
  dsimp only [Pt.U, Pt.locs, Pt.cells, Pt.slots] at X7 l7 y7 z7 st7 hQ7
  subst l7 y7 z7
  obtain ⟨rfl, Nq7, e7⟩ := hQ7
  have N7 := Fr.app N4 Nq7
  have ch8 : ∀ t, Steps p.tables e below (T7.setTop (mkF m 47 #[.val (.int p1), .val (.int (18 : Int32)), .val (.ref (ad 13)), .val (.int (0 : Int32))] [(.int (0 : Int32))])) t → Steps p.tables e below (s₁.setTop (entryFrame m #[(.int p1)] maxLocals)) t := fun t k => ch5 t (by
      show Steps p.tables e below (T4.setTop (mkF m 39 #[.val (.int p1), .val (.int (18 : Int32)), .val (.ref (ad 13)), .val (.int (0 : Int32))] [(.int (18 : Int32))])) t
      refine XS.iloadN X4.here hx rfl (hb hby at_39) rfl ?_
      show Steps p.tables e below (T4.setTop (mkF m 40 #[.val (.int p1), .val (.int (18 : Int32)), .val (.ref (ad 13)), .val (.int (0 : Int32))] [(.int (18 : Int32)), (.int (18 : Int32))])) t
      refine XS.icmpNo X4.here hx rfl (hb hby at_40) rfl (teq (by decide : (18 : Int32) = (18 : Int32))).2 ?_
      show Steps p.tables e below (T4.setTop (mkF m 43 #[.val (.int p1), .val (.int (18 : Int32)), .val (.ref (ad 13)), .val (.int (0 : Int32))] [])) t
      refine XS.aloadN X4.here hx rfl (hb hby at_43) rfl rfl ?_
      show Steps p.tables e below (T4.setTop (mkF m 44 #[.val (.int p1), .val (.int (18 : Int32)), .val (.ref (ad 13)), .val (.int (0 : Int32))] [(.ref (ad 13))])) t
      exact st7.trans k)
  have ch9 : ∀ t, Steps p.tables e below (T7.setTop (mkF m 56 #[.val (.int p1), .val (.int (18 : Int32)), .val (.ref (ad 13)), .val (.int (0 : Int32))] [(.int (1 : Int32))])) t → Steps p.tables e below (s₁.setTop (entryFrame m #[(.int p1)] maxLocals)) t := fun t k => ch8 t (by
      show Steps p.tables e below (T7.setTop (mkF m 47 #[.val (.int p1), .val (.int (18 : Int32)), .val (.ref (ad 13)), .val (.int (0 : Int32))] [(.int (0 : Int32))])) t
      refine XS.iloadN X7.here hx rfl (hb hby at_47) rfl ?_
      show Steps p.tables e below (T7.setTop (mkF m 48 #[.val (.int p1), .val (.int (18 : Int32)), .val (.ref (ad 13)), .val (.int (0 : Int32))] [(.int (0 : Int32)), (.int (0 : Int32))])) t
      refine XS.icmpNo X7.here hx rfl (hb hby at_48) rfl (teq (by decide : (0 : Int32) = (0 : Int32))).2 ?_
      show Steps p.tables e below (T7.setTop (mkF m 51 #[.val (.int p1), .val (.int (18 : Int32)), .val (.ref (ad 13)), .val (.int (0 : Int32))] [])) t
      refine XS.iconst X7.here hx rfl (hb hby at_51) ?_
      show Steps p.tables e below (T7.setTop (mkF m 52 #[.val (.int p1), .val (.int (18 : Int32)), .val (.ref (ad 13)), .val (.int (0 : Int32))] [(.int (1 : Int32))])) t
      refine XS.goto X7.here hx rfl (pc0 := 52) (pc' := 56) rfl (hb hby at_52) (by decide) (by decide) ?_
      exact k)
  obtain ⟨fs, hr, hrun, hended, hW, hsame⟩ := X7.leave (v := some (.int (1 : Int32))) (fun h => by rw [Bd.returns] at h; cases h)
  refine ⟨_, _, ch9 _ ?_, hrun, hended, _, _, rfl, ?_, ⟨_, rfl⟩, hW, hsame.mono (by decide) (by decide)⟩
  · show Steps p.tables e below (T7.setTop (mkF m 56 #[.val (.int p1), .val (.int (18 : Int32)), .val (.ref (ad 13)), .val (.int (0 : Int32))] [(.int (1 : Int32))])) _
    exact retN X7 hx (t := .boolean) Bd.returns (by simp) (hb hby at_56) hr
  · show QN (some (.int (1 : Int32))) n0 _ T7.heap _
    rw [e7]
    exact ⟨rfl, N7⟩
set_option maxRecDepth 65536 in
set_option maxHeartbeats 40000000 in
theorem comes_1 {Post : Tables → Env → Array Value → State → Outcome → State → Prop} (hpost : ∀ tb e args s v u, (limb_1_1.after args s (.returned v) u = true ∧ limb_1_2.after args s (.returned v) u = true ∧ True) → FrameEnd s (.returned v) u (Jvm.fieldLocs frame_1_writes args s ++ Jvm.arrayLocs frame_1_arrays args s ++ Jvm.staticLocs frame_1_statics s) 0 0 → Post tb e args s (.returned v) u) :
    ArmFor flags0 classFile x code maxLocals ret World_1 tables_1 room_1 Calls_1 rest_1 Pre_1 Post := by
  intro l hfl _ _ p e ha hc hk s m args below hf hA hF happ hP
  obtain ⟨hcalls, hrest, hpre⟩ := hP
  obtain ⟨-, -, -, hnamed, -, -, -, hat⟩ := (Spec.applies_iff hf).mp happ
  obtain ⟨hg, hn⟩ := and_e (Cond.before_iff.mp (show (Jvm.Cond.and given_1 narrow_1).before args s = true from hpre))
  obtain ⟨gc, hg⟩ := and_e hg
  obtain ⟨w0, rfl⟩ : ∃ w0 : Value, args = #[w0] := by
    have hs : args.size = 1 := by simpa [Cond.value, given_1] using gc
    obtain ⟨L⟩ := args
    match L, hs with
    | [w0], _ => exact ⟨w0, rfl⟩
  have hw := fun d (hd : d ∈ tables_1) => atoms_spec (ws := Jvm.Cond.code x code maxLocals ret :: tables_1) hat d (List.mem_cons_of_mem _ hd)
  have hfit : Fit s := fun {y c} hc i hi => by
    obtain ⟨ha, rfl⟩ := Array.getElem?_eq_some_iff.mp hc
    have q := List.all_eq_true.mp ((Array.all_eq_true_iff_forall_mem.mp hF) _ (Array.getElem_mem ha)) i (List.mem_range.mpr hi)
    simpa [Array.getElem?_eq_getElem hi] using q
  obtain ⟨i0, ei0⟩ := is_v hg
  obtain rfl : w0 = (.int i0) := Option.some.inj ei0
  obtain ⟨hn0, hn⟩ := and_e hn
  obtain ⟨hn1, hn⟩ := and_e hn
  obtain ⟨hn2, hn⟩ := and_e hn
  obtain ⟨hn3, hn⟩ := and_e hn
  obtain ⟨hn4, hn⟩ := and_e hn
  obtain ⟨hn5, hn⟩ := and_e hn
  obtain ⟨hn6, hn⟩ := and_e hn
  obtain ⟨hn7, hn⟩ := and_e hn
  obtain ⟨hn8, hn⟩ := and_e hn
  obtain ⟨hn9, hn⟩ := and_e hn
  obtain ⟨hn10, hn⟩ := and_e hn
  obtain ⟨hn11, hn⟩ := and_e hn
  obtain ⟨hn12, hn⟩ := and_e hn
  obtain ⟨hn13, hn⟩ := and_e hn
  obtain ⟨hn14, hn⟩ := and_e hn
  obtain ⟨hn15, hn⟩ := and_e hn
  obtain ⟨hn16, hn⟩ := and_e hn
  obtain ⟨hn17, hn⟩ := and_e hn
  obtain ⟨hn18, hn⟩ := and_e hn
  obtain ⟨hn19, hn⟩ := and_e hn
  obtain ⟨hn20, hn⟩ := and_e hn
  obtain ⟨hn21, hn⟩ := and_e hn
  obtain ⟨hn22, hn⟩ := and_e hn
  obtain ⟨hn23, hn⟩ := and_e hn
  obtain ⟨hn24, hn⟩ := and_e hn
  obtain ⟨hn25, hn⟩ := and_e hn
  obtain ⟨hn26, hn⟩ := and_e hn
  obtain ⟨hn27, hn⟩ := and_e hn
  obtain ⟨hn28, hn⟩ := and_e hn
  obtain ⟨hn29, hn⟩ := and_e hn
  obtain ⟨hn30, hn⟩ := and_e hn
  obtain ⟨hn31, hn⟩ := and_e hn
  obtain ⟨hn32, hn⟩ := and_e hn
  obtain ⟨hn33, hn⟩ := and_e hn
  obtain ⟨hn34, hn⟩ := and_e hn
  obtain ⟨hn35, hn⟩ := and_e hn
  obtain ⟨hn36, hn⟩ := and_e hn
  obtain ⟨hn37, hn⟩ := and_e hn
  obtain ⟨hn38, hn⟩ := and_e hn
  obtain ⟨hn39, hn⟩ := and_e hn
  obtain ⟨hn40, hn⟩ := and_e hn
  obtain ⟨hn41, hn⟩ := and_e hn
  obtain ⟨hn42, hn⟩ := and_e hn
  obtain ⟨hn43, hn⟩ := and_e hn
  obtain ⟨hn44, hn⟩ := and_e hn
  obtain ⟨hn45, hn⟩ := and_e hn
  obtain ⟨hn46, hn⟩ := and_e hn
  obtain ⟨hn47, hn⟩ := and_e hn
  obtain ⟨hn48, hn⟩ := and_e hn
  obtain ⟨hn49, hn⟩ := and_e hn
  obtain ⟨hn50, hn⟩ := and_e hn
  obtain ⟨hn51, hn⟩ := and_e hn
  obtain ⟨hn52, hn⟩ := and_e hn
  obtain ⟨hn53, hn⟩ := and_e hn
  obtain ⟨hn54, hn⟩ := and_e hn
  obtain ⟨hn55, hn⟩ := and_e hn
  obtain ⟨hn56, hn⟩ := and_e hn
  obtain ⟨hn57, hn⟩ := and_e hn
  have hn58 := hn
  obtain ⟨a_VALUES, ev_VALUES⟩ := arr_v hn0
  have S_VALUES : Sta s s.heap "com/example/libsnippet/libsnippet/WordBreak" "VALUES" "[Lcom/example/libsnippet/libsnippet/WordBreak;" (.ref a_VALUES) := Sta.start ev_VALUES (Or.inr ⟨(hw _ (List.mem_of_getElem? (i := 3) rfl)), (hw _ (List.mem_of_getElem? (i := 6) rfl))⟩)
  obtain ⟨a_OTHER, ev_OTHER⟩ := exa_v hn2
  have S_OTHER : Sta s s.heap "com/example/libsnippet/libsnippet/WordBreak" "OTHER" "Lcom/example/libsnippet/libsnippet/WordBreak;" (.ref a_OTHER) := Sta.start ev_OTHER (Or.inr ⟨(hw _ (List.mem_of_getElem? (i := 3) rfl)), (hw _ (List.mem_of_getElem? (i := 7) rfl))⟩)
  have E_OTHER : Exa s s.heap a_OTHER "com/example/libsnippet/libsnippet/WordBreak" := Exa.start ev_OTHER hn2
  obtain ⟨a_EXTEND, ev_EXTEND⟩ := exa_v hn5
  have S_EXTEND : Sta s s.heap "com/example/libsnippet/libsnippet/WordBreak" "EXTEND" "Lcom/example/libsnippet/libsnippet/WordBreak;" (.ref a_EXTEND) := Sta.start ev_EXTEND (Or.inr ⟨(hw _ (List.mem_of_getElem? (i := 3) rfl)), (hw _ (List.mem_of_getElem? (i := 23) rfl))⟩)
  have E_EXTEND : Exa s s.heap a_EXTEND "com/example/libsnippet/libsnippet/WordBreak" := Exa.start ev_EXTEND hn5
  obtain ⟨a_FORMAT, ev_FORMAT⟩ := exa_v hn7
  have S_FORMAT : Sta s s.heap "com/example/libsnippet/libsnippet/WordBreak" "FORMAT" "Lcom/example/libsnippet/libsnippet/WordBreak;" (.ref a_FORMAT) := Sta.start ev_FORMAT (Or.inr ⟨(hw _ (List.mem_of_getElem? (i := 3) rfl)), (hw _ (List.mem_of_getElem? (i := 25) rfl))⟩)
  have E_FORMAT : Exa s s.heap a_FORMAT "com/example/libsnippet/libsnippet/WordBreak" := Exa.start ev_FORMAT hn7
  obtain ⟨a_ZWJ, ev_ZWJ⟩ := exa_v hn9
  have S_ZWJ : Sta s s.heap "com/example/libsnippet/libsnippet/WordBreak" "ZWJ" "Lcom/example/libsnippet/libsnippet/WordBreak;" (.ref a_ZWJ) := Sta.start ev_ZWJ (Or.inr ⟨(hw _ (List.mem_of_getElem? (i := 3) rfl)), (hw _ (List.mem_of_getElem? (i := 27) rfl))⟩)
  have E_ZWJ : Exa s s.heap a_ZWJ "com/example/libsnippet/libsnippet/WordBreak" := Exa.start ev_ZWJ hn9
  obtain ⟨a_NEWLINE, ev_NEWLINE⟩ := exa_v hn11
  have S_NEWLINE : Sta s s.heap "com/example/libsnippet/libsnippet/WordBreak" "NEWLINE" "Lcom/example/libsnippet/libsnippet/WordBreak;" (.ref a_NEWLINE) := Sta.start ev_NEWLINE (Or.inr ⟨(hw _ (List.mem_of_getElem? (i := 3) rfl)), (hw _ (List.mem_of_getElem? (i := 28) rfl))⟩)
  have E_NEWLINE : Exa s s.heap a_NEWLINE "com/example/libsnippet/libsnippet/WordBreak" := Exa.start ev_NEWLINE hn11
  obtain ⟨a_MID_NUM, ev_MID_NUM⟩ := exa_v hn14
  have S_MID_NUM : Sta s s.heap "com/example/libsnippet/libsnippet/WordBreak" "MID_NUM" "Lcom/example/libsnippet/libsnippet/WordBreak;" (.ref a_MID_NUM) := Sta.start ev_MID_NUM (Or.inr ⟨(hw _ (List.mem_of_getElem? (i := 3) rfl)), (hw _ (List.mem_of_getElem? (i := 29) rfl))⟩)
  have E_MID_NUM : Exa s s.heap a_MID_NUM "com/example/libsnippet/libsnippet/WordBreak" := Exa.start ev_MID_NUM hn14
  obtain ⟨a_EXTEND_NUM_LET, ev_EXTEND_NUM_LET⟩ := exa_v hn18
  have S_EXTEND_NUM_LET : Sta s s.heap "com/example/libsnippet/libsnippet/WordBreak" "EXTEND_NUM_LET" "Lcom/example/libsnippet/libsnippet/WordBreak;" (.ref a_EXTEND_NUM_LET) := Sta.start ev_EXTEND_NUM_LET (Or.inr ⟨(hw _ (List.mem_of_getElem? (i := 3) rfl)), (hw _ (List.mem_of_getElem? (i := 30) rfl))⟩)
  have E_EXTEND_NUM_LET : Exa s s.heap a_EXTEND_NUM_LET "com/example/libsnippet/libsnippet/WordBreak" := Exa.start ev_EXTEND_NUM_LET hn18
  obtain ⟨a_LF, ev_LF⟩ := exa_v hn22
  have S_LF : Sta s s.heap "com/example/libsnippet/libsnippet/WordBreak" "LF" "Lcom/example/libsnippet/libsnippet/WordBreak;" (.ref a_LF) := Sta.start ev_LF (Or.inr ⟨(hw _ (List.mem_of_getElem? (i := 3) rfl)), (hw _ (List.mem_of_getElem? (i := 31) rfl))⟩)
  have E_LF : Exa s s.heap a_LF "com/example/libsnippet/libsnippet/WordBreak" := Exa.start ev_LF hn22
  obtain ⟨a_SINGLE_QUOTE, ev_SINGLE_QUOTE⟩ := exa_v hn25
  have S_SINGLE_QUOTE : Sta s s.heap "com/example/libsnippet/libsnippet/WordBreak" "SINGLE_QUOTE" "Lcom/example/libsnippet/libsnippet/WordBreak;" (.ref a_SINGLE_QUOTE) := Sta.start ev_SINGLE_QUOTE (Or.inr ⟨(hw _ (List.mem_of_getElem? (i := 3) rfl)), (hw _ (List.mem_of_getElem? (i := 32) rfl))⟩)
  have E_SINGLE_QUOTE : Exa s s.heap a_SINGLE_QUOTE "com/example/libsnippet/libsnippet/WordBreak" := Exa.start ev_SINGLE_QUOTE hn25
  obtain ⟨a_ALETTER, ev_ALETTER⟩ := exa_v hn28
  have S_ALETTER : Sta s s.heap "com/example/libsnippet/libsnippet/WordBreak" "ALETTER" "Lcom/example/libsnippet/libsnippet/WordBreak;" (.ref a_ALETTER) := Sta.start ev_ALETTER (Or.inr ⟨(hw _ (List.mem_of_getElem? (i := 3) rfl)), (hw _ (List.mem_of_getElem? (i := 33) rfl))⟩)
  have E_ALETTER : Exa s s.heap a_ALETTER "com/example/libsnippet/libsnippet/WordBreak" := Exa.start ev_ALETTER hn28
  obtain ⟨a_KATAKANA, ev_KATAKANA⟩ := exa_v hn31
  have S_KATAKANA : Sta s s.heap "com/example/libsnippet/libsnippet/WordBreak" "KATAKANA" "Lcom/example/libsnippet/libsnippet/WordBreak;" (.ref a_KATAKANA) := Sta.start ev_KATAKANA (Or.inr ⟨(hw _ (List.mem_of_getElem? (i := 3) rfl)), (hw _ (List.mem_of_getElem? (i := 34) rfl))⟩)
  have E_KATAKANA : Exa s s.heap a_KATAKANA "com/example/libsnippet/libsnippet/WordBreak" := Exa.start ev_KATAKANA hn31
  obtain ⟨a_CR, ev_CR⟩ := exa_v hn34
  have S_CR : Sta s s.heap "com/example/libsnippet/libsnippet/WordBreak" "CR" "Lcom/example/libsnippet/libsnippet/WordBreak;" (.ref a_CR) := Sta.start ev_CR (Or.inr ⟨(hw _ (List.mem_of_getElem? (i := 3) rfl)), (hw _ (List.mem_of_getElem? (i := 35) rfl))⟩)
  have E_CR : Exa s s.heap a_CR "com/example/libsnippet/libsnippet/WordBreak" := Exa.start ev_CR hn34
  obtain ⟨a_MID_LETTER, ev_MID_LETTER⟩ := exa_v hn37
  have S_MID_LETTER : Sta s s.heap "com/example/libsnippet/libsnippet/WordBreak" "MID_LETTER" "Lcom/example/libsnippet/libsnippet/WordBreak;" (.ref a_MID_LETTER) := Sta.start ev_MID_LETTER (Or.inr ⟨(hw _ (List.mem_of_getElem? (i := 3) rfl)), (hw _ (List.mem_of_getElem? (i := 36) rfl))⟩)
  have E_MID_LETTER : Exa s s.heap a_MID_LETTER "com/example/libsnippet/libsnippet/WordBreak" := Exa.start ev_MID_LETTER hn37
  obtain ⟨a_WSEG_SPACE, ev_WSEG_SPACE⟩ := exa_v hn40
  have S_WSEG_SPACE : Sta s s.heap "com/example/libsnippet/libsnippet/WordBreak" "WSEG_SPACE" "Lcom/example/libsnippet/libsnippet/WordBreak;" (.ref a_WSEG_SPACE) := Sta.start ev_WSEG_SPACE (Or.inr ⟨(hw _ (List.mem_of_getElem? (i := 3) rfl)), (hw _ (List.mem_of_getElem? (i := 37) rfl))⟩)
  have E_WSEG_SPACE : Exa s s.heap a_WSEG_SPACE "com/example/libsnippet/libsnippet/WordBreak" := Exa.start ev_WSEG_SPACE hn40
  obtain ⟨a_REGIONAL_INDICATOR, ev_REGIONAL_INDICATOR⟩ := exa_v hn43
  have S_REGIONAL_INDICATOR : Sta s s.heap "com/example/libsnippet/libsnippet/WordBreak" "REGIONAL_INDICATOR" "Lcom/example/libsnippet/libsnippet/WordBreak;" (.ref a_REGIONAL_INDICATOR) := Sta.start ev_REGIONAL_INDICATOR (Or.inr ⟨(hw _ (List.mem_of_getElem? (i := 3) rfl)), (hw _ (List.mem_of_getElem? (i := 38) rfl))⟩)
  have E_REGIONAL_INDICATOR : Exa s s.heap a_REGIONAL_INDICATOR "com/example/libsnippet/libsnippet/WordBreak" := Exa.start ev_REGIONAL_INDICATOR hn43
  obtain ⟨a_NUMERIC, ev_NUMERIC⟩ := exa_v hn46
  have S_NUMERIC : Sta s s.heap "com/example/libsnippet/libsnippet/WordBreak" "NUMERIC" "Lcom/example/libsnippet/libsnippet/WordBreak;" (.ref a_NUMERIC) := Sta.start ev_NUMERIC (Or.inr ⟨(hw _ (List.mem_of_getElem? (i := 3) rfl)), (hw _ (List.mem_of_getElem? (i := 39) rfl))⟩)
  have E_NUMERIC : Exa s s.heap a_NUMERIC "com/example/libsnippet/libsnippet/WordBreak" := Exa.start ev_NUMERIC hn46
  obtain ⟨a_HEBREW_LETTER, ev_HEBREW_LETTER⟩ := exa_v hn50
  have S_HEBREW_LETTER : Sta s s.heap "com/example/libsnippet/libsnippet/WordBreak" "HEBREW_LETTER" "Lcom/example/libsnippet/libsnippet/WordBreak;" (.ref a_HEBREW_LETTER) := Sta.start ev_HEBREW_LETTER (Or.inr ⟨(hw _ (List.mem_of_getElem? (i := 3) rfl)), (hw _ (List.mem_of_getElem? (i := 40) rfl))⟩)
  have E_HEBREW_LETTER : Exa s s.heap a_HEBREW_LETTER "com/example/libsnippet/libsnippet/WordBreak" := Exa.start ev_HEBREW_LETTER hn50
  obtain ⟨a_DOUBLE_QUOTE, ev_DOUBLE_QUOTE⟩ := exa_v hn53
  have S_DOUBLE_QUOTE : Sta s s.heap "com/example/libsnippet/libsnippet/WordBreak" "DOUBLE_QUOTE" "Lcom/example/libsnippet/libsnippet/WordBreak;" (.ref a_DOUBLE_QUOTE) := Sta.start ev_DOUBLE_QUOTE (Or.inr ⟨(hw _ (List.mem_of_getElem? (i := 3) rfl)), (hw _ (List.mem_of_getElem? (i := 41) rfl))⟩)
  have E_DOUBLE_QUOTE : Exa s s.heap a_DOUBLE_QUOTE "com/example/libsnippet/libsnippet/WordBreak" := Exa.start ev_DOUBLE_QUOTE hn53
  obtain ⟨a_MID_NUM_LET, ev_MID_NUM_LET⟩ := exa_v hn56
  have S_MID_NUM_LET : Sta s s.heap "com/example/libsnippet/libsnippet/WordBreak" "MID_NUM_LET" "Lcom/example/libsnippet/libsnippet/WordBreak;" (.ref a_MID_NUM_LET) := Sta.start ev_MID_NUM_LET (Or.inr ⟨(hw _ (List.mem_of_getElem? (i := 3) rfl)), (hw _ (List.mem_of_getElem? (i := 42) rfl))⟩)
  have E_MID_NUM_LET : Exa s s.heap a_MID_NUM_LET "com/example/libsnippet/libsnippet/WordBreak" := Exa.start ev_MID_NUM_LET hn56
  have F_OTHER_ordinal : Fld s s.heap a_OTHER "java/lang/Enum" "ordinal" "I" (.int (0 : Int32)) := Fld.start ((fld_at ev_OTHER).symm.trans (own_eqI hn4))
  have F_EXTEND_ordinal : Fld s s.heap a_EXTEND "java/lang/Enum" "ordinal" "I" (.int (4 : Int32)) := Fld.start ((fld_at ev_EXTEND).symm.trans (own_eqI hn6))
  have F_FORMAT_ordinal : Fld s s.heap a_FORMAT "java/lang/Enum" "ordinal" "I" (.int (7 : Int32)) := Fld.start ((fld_at ev_FORMAT).symm.trans (own_eqI hn8))
  have F_ZWJ_ordinal : Fld s s.heap a_ZWJ "java/lang/Enum" "ordinal" "I" (.int (5 : Int32)) := Fld.start ((fld_at ev_ZWJ).symm.trans (own_eqI hn10))
  have F_NEWLINE_ordinal : Fld s s.heap a_NEWLINE "java/lang/Enum" "ordinal" "I" (.int (3 : Int32)) := Fld.start ((fld_at ev_NEWLINE).symm.trans (own_eqI hn13))
  have F_MID_NUM_ordinal : Fld s s.heap a_MID_NUM "java/lang/Enum" "ordinal" "I" (.int (15 : Int32)) := Fld.start ((fld_at ev_MID_NUM).symm.trans (own_eqI hn16))
  have F_EXTEND_NUM_LET_ordinal : Fld s s.heap a_EXTEND_NUM_LET "java/lang/Enum" "ordinal" "I" (.int (17 : Int32)) := Fld.start ((fld_at ev_EXTEND_NUM_LET).symm.trans (own_eqI hn20))
  have F_LF_ordinal : Fld s s.heap a_LF "java/lang/Enum" "ordinal" "I" (.int (2 : Int32)) := Fld.start ((fld_at ev_LF).symm.trans (own_eqI hn24))
  have F_SINGLE_QUOTE_ordinal : Fld s s.heap a_SINGLE_QUOTE "java/lang/Enum" "ordinal" "I" (.int (11 : Int32)) := Fld.start ((fld_at ev_SINGLE_QUOTE).symm.trans (own_eqI hn27))
  have F_ALETTER_ordinal : Fld s s.heap a_ALETTER "java/lang/Enum" "ordinal" "I" (.int (10 : Int32)) := Fld.start ((fld_at ev_ALETTER).symm.trans (own_eqI hn30))
  have F_KATAKANA_ordinal : Fld s s.heap a_KATAKANA "java/lang/Enum" "ordinal" "I" (.int (8 : Int32)) := Fld.start ((fld_at ev_KATAKANA).symm.trans (own_eqI hn33))
  have F_CR_ordinal : Fld s s.heap a_CR "java/lang/Enum" "ordinal" "I" (.int (1 : Int32)) := Fld.start ((fld_at ev_CR).symm.trans (own_eqI hn36))
  have F_MID_LETTER_ordinal : Fld s s.heap a_MID_LETTER "java/lang/Enum" "ordinal" "I" (.int (14 : Int32)) := Fld.start ((fld_at ev_MID_LETTER).symm.trans (own_eqI hn39))
  have F_WSEG_SPACE_ordinal : Fld s s.heap a_WSEG_SPACE "java/lang/Enum" "ordinal" "I" (.int (18 : Int32)) := Fld.start ((fld_at ev_WSEG_SPACE).symm.trans (own_eqI hn42))
  have F_REGIONAL_INDICATOR_ordinal : Fld s s.heap a_REGIONAL_INDICATOR "java/lang/Enum" "ordinal" "I" (.int (6 : Int32)) := Fld.start ((fld_at ev_REGIONAL_INDICATOR).symm.trans (own_eqI hn45))
  have F_NUMERIC_ordinal : Fld s s.heap a_NUMERIC "java/lang/Enum" "ordinal" "I" (.int (16 : Int32)) := Fld.start ((fld_at ev_NUMERIC).symm.trans (own_eqI hn48))
  have F_HEBREW_LETTER_ordinal : Fld s s.heap a_HEBREW_LETTER "java/lang/Enum" "ordinal" "I" (.int (9 : Int32)) := Fld.start ((fld_at ev_HEBREW_LETTER).symm.trans (own_eqI hn52))
  have F_DOUBLE_QUOTE_ordinal : Fld s s.heap a_DOUBLE_QUOTE "java/lang/Enum" "ordinal" "I" (.int (12 : Int32)) := Fld.start ((fld_at ev_DOUBLE_QUOTE).symm.trans (own_eqI hn55))
  have F_MID_NUM_LET_ordinal : Fld s s.heap a_MID_NUM_LET "java/lang/Enum" "ordinal" "I" (.int (13 : Int32)) := Fld.start ((fld_at ev_MID_NUM_LET).symm.trans (own_eqI hn58))
  obtain ⟨cl_VALUES, A_VALUES⟩ := Arr.start ev_VALUES hn0
  obtain ⟨ql_VALUES, el_VALUES⟩ := own_len ev_VALUES A_VALUES (own_eqI hn1)
  have V_VALUES : Arv s s.heap a_VALUES cl_VALUES.cls (.object "com/example/libsnippet/libsnippet/WordBreak") (19 : Int32) [(.ref a_OTHER), (.ref a_CR), (.ref a_LF), (.ref a_NEWLINE), (.ref a_EXTEND), (.ref a_ZWJ), (.ref a_REGIONAL_INDICATOR), (.ref a_FORMAT), (.ref a_KATAKANA), (.ref a_HEBREW_LETTER), (.ref a_ALETTER), (.ref a_SINGLE_QUOTE), (.ref a_DOUBLE_QUOTE), (.ref a_MID_NUM_LET), (.ref a_MID_LETTER), (.ref a_MID_NUM), (.ref a_NUMERIC), (.ref a_EXTEND_NUM_LET), (.ref a_WSEG_SPACE)] .null := Arv.start hfit A_VALUES ql_VALUES el_VALUES (by decide) rfl ⟨own_elem ev_VALUES A_VALUES (own_eqR hn3 ev_OTHER), own_elem ev_VALUES A_VALUES (own_eqR hn35 ev_CR), own_elem ev_VALUES A_VALUES (own_eqR hn23 ev_LF), own_elem ev_VALUES A_VALUES (own_eqR hn12 ev_NEWLINE), own_elem ev_VALUES A_VALUES (own_eqR hn49 ev_EXTEND), own_elem ev_VALUES A_VALUES (own_eqR hn17 ev_ZWJ), own_elem ev_VALUES A_VALUES (own_eqR hn44 ev_REGIONAL_INDICATOR), own_elem ev_VALUES A_VALUES (own_eqR hn21 ev_FORMAT), own_elem ev_VALUES A_VALUES (own_eqR hn32 ev_KATAKANA), own_elem ev_VALUES A_VALUES (own_eqR hn51 ev_HEBREW_LETTER), own_elem ev_VALUES A_VALUES (own_eqR hn29 ev_ALETTER), own_elem ev_VALUES A_VALUES (own_eqR hn26 ev_SINGLE_QUOTE), own_elem ev_VALUES A_VALUES (own_eqR hn54 ev_DOUBLE_QUOTE), own_elem ev_VALUES A_VALUES (own_eqR hn57 ev_MID_NUM_LET), own_elem ev_VALUES A_VALUES (own_eqR hn38 ev_MID_LETTER), own_elem ev_VALUES A_VALUES (own_eqR hn15 ev_MID_NUM), own_elem ev_VALUES A_VALUES (own_eqR hn47 ev_NUMERIC), own_elem ev_VALUES A_VALUES (own_eqR hn19 ev_EXTEND_NUM_LET), own_elem ev_VALUES A_VALUES (own_eqR hn41 ev_WSEG_SPACE), trivial⟩
  have W : OwnWd s s.heap (fun i => [a_OTHER, a_EXTEND, a_FORMAT, a_ZWJ, a_NEWLINE, a_MID_NUM, a_EXTEND_NUM_LET, a_LF, a_SINGLE_QUOTE, a_ALETTER, a_KATAKANA, a_CR, a_MID_LETTER, a_WSEG_SPACE, a_REGIONAL_INDICATOR, a_NUMERIC, a_HEBREW_LETTER, a_DOUBLE_QUOTE, a_MID_NUM_LET].getD i 0) a_VALUES cl_VALUES.cls := ⟨S_OTHER, E_OTHER, F_OTHER_ordinal, S_EXTEND, E_EXTEND, F_EXTEND_ordinal, S_FORMAT, E_FORMAT, F_FORMAT_ordinal, S_ZWJ, E_ZWJ, F_ZWJ_ordinal, S_NEWLINE, E_NEWLINE, F_NEWLINE_ordinal, S_MID_NUM, E_MID_NUM, F_MID_NUM_ordinal, S_EXTEND_NUM_LET, E_EXTEND_NUM_LET, F_EXTEND_NUM_LET_ordinal, S_LF, E_LF, F_LF_ordinal, S_SINGLE_QUOTE, E_SINGLE_QUOTE, F_SINGLE_QUOTE_ordinal, S_ALETTER, E_ALETTER, F_ALETTER_ordinal, S_KATAKANA, E_KATAKANA, F_KATAKANA_ordinal, S_CR, E_CR, F_CR_ordinal, S_MID_LETTER, E_MID_LETTER, F_MID_LETTER_ordinal, S_WSEG_SPACE, E_WSEG_SPACE, F_WSEG_SPACE_ordinal, S_REGIONAL_INDICATOR, E_REGIONAL_INDICATOR, F_REGIONAL_INDICATOR_ordinal, S_NUMERIC, E_NUMERIC, F_NUMERIC_ordinal, S_HEBREW_LETTER, E_HEBREW_LETTER, F_HEBREW_LETTER_ordinal, S_DOUBLE_QUOTE, E_DOUBLE_QUOTE, F_DOUBLE_QUOTE_ordinal, S_MID_NUM_LET, E_MID_NUM_LET, F_MID_NUM_LET_ordinal, S_VALUES, V_VALUES⟩
  have hm_i0 := c_mask i0 (2147483647 : Int32) 31 (by decide) (by decide)
  have hr_i0 := (c_irem (i0 &&& (2147483647 : Int32)) (19 : Int32) 19 (by decide)).1 (by omega)
  have hc8 : ((i0 &&& (2147483647 : Int32)) % (19 : Int32)).toInt = 0 ∨ ((i0 &&& (2147483647 : Int32)) % (19 : Int32)).toInt = 1 ∨ ((i0 &&& (2147483647 : Int32)) % (19 : Int32)).toInt = 2 ∨ ((i0 &&& (2147483647 : Int32)) % (19 : Int32)).toInt = 3 ∨ ((i0 &&& (2147483647 : Int32)) % (19 : Int32)).toInt = 4 ∨ ((i0 &&& (2147483647 : Int32)) % (19 : Int32)).toInt = 5 ∨ ((i0 &&& (2147483647 : Int32)) % (19 : Int32)).toInt = 6 ∨ ((i0 &&& (2147483647 : Int32)) % (19 : Int32)).toInt = 7 ∨ ((i0 &&& (2147483647 : Int32)) % (19 : Int32)).toInt = 8 ∨ ((i0 &&& (2147483647 : Int32)) % (19 : Int32)).toInt = 9 ∨ ((i0 &&& (2147483647 : Int32)) % (19 : Int32)).toInt = 10 ∨ ((i0 &&& (2147483647 : Int32)) % (19 : Int32)).toInt = 11 ∨ ((i0 &&& (2147483647 : Int32)) % (19 : Int32)).toInt = 12 ∨ ((i0 &&& (2147483647 : Int32)) % (19 : Int32)).toInt = 13 ∨ ((i0 &&& (2147483647 : Int32)) % (19 : Int32)).toInt = 14 ∨ ((i0 &&& (2147483647 : Int32)) % (19 : Int32)).toInt = 15 ∨ ((i0 &&& (2147483647 : Int32)) % (19 : Int32)).toInt = 16 ∨ ((i0 &&& (2147483647 : Int32)) % (19 : Int32)).toInt = 17 ∨ ((i0 &&& (2147483647 : Int32)) % (19 : Int32)).toInt = 18 := by omega
  have H : MetFree l x (head1 (Jvm.Cond.code x code maxLocals ret :: tables_1) room_1) (fun a U => a = #[(.int i0)] ∧ s.Warmed39 U.vm ∧ U.heap = s.heap) (fun _ _ _ _ _ => True) (fun _ U o U' => ∃ v L, o = .returned v ∧ QN (some (.int (1 : Int32))) s.heap.size v U'.heap L ∧ FrameEnd U o U' L room_1.cells room_1.slots) := by
    rcases hc8 with hk | hk | hk | hk | hk | hk | hk | hk | hk | hk | hk | hk | hk | hk | hk | hk | hk | hk | hk
    · exact own_law_0 l s _ hw tables_1 s.heap s.heap.size (Nat.le_refl _)  i0 (Int32.toInt_inj.mp (hk.trans (by decide))) (fun i => [a_OTHER, a_EXTEND, a_FORMAT, a_ZWJ, a_NEWLINE, a_MID_NUM, a_EXTEND_NUM_LET, a_LF, a_SINGLE_QUOTE, a_ALETTER, a_KATAKANA, a_CR, a_MID_LETTER, a_WSEG_SPACE, a_REGIONAL_INDICATOR, a_NUMERIC, a_HEBREW_LETTER, a_DOUBLE_QUOTE, a_MID_NUM_LET].getD i 0) a_VALUES cl_VALUES.cls W
    · exact own_law_1 l s _ hw tables_1 s.heap s.heap.size (Nat.le_refl _)  i0 (Int32.toInt_inj.mp (hk.trans (by decide))) (fun i => [a_OTHER, a_EXTEND, a_FORMAT, a_ZWJ, a_NEWLINE, a_MID_NUM, a_EXTEND_NUM_LET, a_LF, a_SINGLE_QUOTE, a_ALETTER, a_KATAKANA, a_CR, a_MID_LETTER, a_WSEG_SPACE, a_REGIONAL_INDICATOR, a_NUMERIC, a_HEBREW_LETTER, a_DOUBLE_QUOTE, a_MID_NUM_LET].getD i 0) a_VALUES cl_VALUES.cls W
    · exact own_law_2 l s _ hw tables_1 s.heap s.heap.size (Nat.le_refl _)  i0 (Int32.toInt_inj.mp (hk.trans (by decide))) (fun i => [a_OTHER, a_EXTEND, a_FORMAT, a_ZWJ, a_NEWLINE, a_MID_NUM, a_EXTEND_NUM_LET, a_LF, a_SINGLE_QUOTE, a_ALETTER, a_KATAKANA, a_CR, a_MID_LETTER, a_WSEG_SPACE, a_REGIONAL_INDICATOR, a_NUMERIC, a_HEBREW_LETTER, a_DOUBLE_QUOTE, a_MID_NUM_LET].getD i 0) a_VALUES cl_VALUES.cls W
    · exact own_law_3 l s _ hw tables_1 s.heap s.heap.size (Nat.le_refl _)  i0 (Int32.toInt_inj.mp (hk.trans (by decide))) (fun i => [a_OTHER, a_EXTEND, a_FORMAT, a_ZWJ, a_NEWLINE, a_MID_NUM, a_EXTEND_NUM_LET, a_LF, a_SINGLE_QUOTE, a_ALETTER, a_KATAKANA, a_CR, a_MID_LETTER, a_WSEG_SPACE, a_REGIONAL_INDICATOR, a_NUMERIC, a_HEBREW_LETTER, a_DOUBLE_QUOTE, a_MID_NUM_LET].getD i 0) a_VALUES cl_VALUES.cls W
    · exact own_law_4 l s _ hw tables_1 s.heap s.heap.size (Nat.le_refl _)  i0 (Int32.toInt_inj.mp (hk.trans (by decide))) (fun i => [a_OTHER, a_EXTEND, a_FORMAT, a_ZWJ, a_NEWLINE, a_MID_NUM, a_EXTEND_NUM_LET, a_LF, a_SINGLE_QUOTE, a_ALETTER, a_KATAKANA, a_CR, a_MID_LETTER, a_WSEG_SPACE, a_REGIONAL_INDICATOR, a_NUMERIC, a_HEBREW_LETTER, a_DOUBLE_QUOTE, a_MID_NUM_LET].getD i 0) a_VALUES cl_VALUES.cls W
    · exact own_law_5 l s _ hw tables_1 s.heap s.heap.size (Nat.le_refl _)  i0 (Int32.toInt_inj.mp (hk.trans (by decide))) (fun i => [a_OTHER, a_EXTEND, a_FORMAT, a_ZWJ, a_NEWLINE, a_MID_NUM, a_EXTEND_NUM_LET, a_LF, a_SINGLE_QUOTE, a_ALETTER, a_KATAKANA, a_CR, a_MID_LETTER, a_WSEG_SPACE, a_REGIONAL_INDICATOR, a_NUMERIC, a_HEBREW_LETTER, a_DOUBLE_QUOTE, a_MID_NUM_LET].getD i 0) a_VALUES cl_VALUES.cls W
    · exact own_law_6 l s _ hw tables_1 s.heap s.heap.size (Nat.le_refl _)  i0 (Int32.toInt_inj.mp (hk.trans (by decide))) (fun i => [a_OTHER, a_EXTEND, a_FORMAT, a_ZWJ, a_NEWLINE, a_MID_NUM, a_EXTEND_NUM_LET, a_LF, a_SINGLE_QUOTE, a_ALETTER, a_KATAKANA, a_CR, a_MID_LETTER, a_WSEG_SPACE, a_REGIONAL_INDICATOR, a_NUMERIC, a_HEBREW_LETTER, a_DOUBLE_QUOTE, a_MID_NUM_LET].getD i 0) a_VALUES cl_VALUES.cls W
    · exact own_law_7 l s _ hw tables_1 s.heap s.heap.size (Nat.le_refl _)  i0 (Int32.toInt_inj.mp (hk.trans (by decide))) (fun i => [a_OTHER, a_EXTEND, a_FORMAT, a_ZWJ, a_NEWLINE, a_MID_NUM, a_EXTEND_NUM_LET, a_LF, a_SINGLE_QUOTE, a_ALETTER, a_KATAKANA, a_CR, a_MID_LETTER, a_WSEG_SPACE, a_REGIONAL_INDICATOR, a_NUMERIC, a_HEBREW_LETTER, a_DOUBLE_QUOTE, a_MID_NUM_LET].getD i 0) a_VALUES cl_VALUES.cls W
    · exact own_law_8 l s _ hw tables_1 s.heap s.heap.size (Nat.le_refl _)  i0 (Int32.toInt_inj.mp (hk.trans (by decide))) (fun i => [a_OTHER, a_EXTEND, a_FORMAT, a_ZWJ, a_NEWLINE, a_MID_NUM, a_EXTEND_NUM_LET, a_LF, a_SINGLE_QUOTE, a_ALETTER, a_KATAKANA, a_CR, a_MID_LETTER, a_WSEG_SPACE, a_REGIONAL_INDICATOR, a_NUMERIC, a_HEBREW_LETTER, a_DOUBLE_QUOTE, a_MID_NUM_LET].getD i 0) a_VALUES cl_VALUES.cls W
    · exact own_law_9 l s _ hw tables_1 s.heap s.heap.size (Nat.le_refl _)  i0 (Int32.toInt_inj.mp (hk.trans (by decide))) (fun i => [a_OTHER, a_EXTEND, a_FORMAT, a_ZWJ, a_NEWLINE, a_MID_NUM, a_EXTEND_NUM_LET, a_LF, a_SINGLE_QUOTE, a_ALETTER, a_KATAKANA, a_CR, a_MID_LETTER, a_WSEG_SPACE, a_REGIONAL_INDICATOR, a_NUMERIC, a_HEBREW_LETTER, a_DOUBLE_QUOTE, a_MID_NUM_LET].getD i 0) a_VALUES cl_VALUES.cls W
    · exact own_law_10 l s _ hw tables_1 s.heap s.heap.size (Nat.le_refl _)  i0 (Int32.toInt_inj.mp (hk.trans (by decide))) (fun i => [a_OTHER, a_EXTEND, a_FORMAT, a_ZWJ, a_NEWLINE, a_MID_NUM, a_EXTEND_NUM_LET, a_LF, a_SINGLE_QUOTE, a_ALETTER, a_KATAKANA, a_CR, a_MID_LETTER, a_WSEG_SPACE, a_REGIONAL_INDICATOR, a_NUMERIC, a_HEBREW_LETTER, a_DOUBLE_QUOTE, a_MID_NUM_LET].getD i 0) a_VALUES cl_VALUES.cls W
    · exact own_law_11 l s _ hw tables_1 s.heap s.heap.size (Nat.le_refl _)  i0 (Int32.toInt_inj.mp (hk.trans (by decide))) (fun i => [a_OTHER, a_EXTEND, a_FORMAT, a_ZWJ, a_NEWLINE, a_MID_NUM, a_EXTEND_NUM_LET, a_LF, a_SINGLE_QUOTE, a_ALETTER, a_KATAKANA, a_CR, a_MID_LETTER, a_WSEG_SPACE, a_REGIONAL_INDICATOR, a_NUMERIC, a_HEBREW_LETTER, a_DOUBLE_QUOTE, a_MID_NUM_LET].getD i 0) a_VALUES cl_VALUES.cls W
    · exact own_law_12 l s _ hw tables_1 s.heap s.heap.size (Nat.le_refl _)  i0 (Int32.toInt_inj.mp (hk.trans (by decide))) (fun i => [a_OTHER, a_EXTEND, a_FORMAT, a_ZWJ, a_NEWLINE, a_MID_NUM, a_EXTEND_NUM_LET, a_LF, a_SINGLE_QUOTE, a_ALETTER, a_KATAKANA, a_CR, a_MID_LETTER, a_WSEG_SPACE, a_REGIONAL_INDICATOR, a_NUMERIC, a_HEBREW_LETTER, a_DOUBLE_QUOTE, a_MID_NUM_LET].getD i 0) a_VALUES cl_VALUES.cls W
    · exact own_law_13 l s _ hw tables_1 s.heap s.heap.size (Nat.le_refl _)  i0 (Int32.toInt_inj.mp (hk.trans (by decide))) (fun i => [a_OTHER, a_EXTEND, a_FORMAT, a_ZWJ, a_NEWLINE, a_MID_NUM, a_EXTEND_NUM_LET, a_LF, a_SINGLE_QUOTE, a_ALETTER, a_KATAKANA, a_CR, a_MID_LETTER, a_WSEG_SPACE, a_REGIONAL_INDICATOR, a_NUMERIC, a_HEBREW_LETTER, a_DOUBLE_QUOTE, a_MID_NUM_LET].getD i 0) a_VALUES cl_VALUES.cls W
    · exact own_law_14 l s _ hw tables_1 s.heap s.heap.size (Nat.le_refl _)  i0 (Int32.toInt_inj.mp (hk.trans (by decide))) (fun i => [a_OTHER, a_EXTEND, a_FORMAT, a_ZWJ, a_NEWLINE, a_MID_NUM, a_EXTEND_NUM_LET, a_LF, a_SINGLE_QUOTE, a_ALETTER, a_KATAKANA, a_CR, a_MID_LETTER, a_WSEG_SPACE, a_REGIONAL_INDICATOR, a_NUMERIC, a_HEBREW_LETTER, a_DOUBLE_QUOTE, a_MID_NUM_LET].getD i 0) a_VALUES cl_VALUES.cls W
    · exact own_law_15 l s _ hw tables_1 s.heap s.heap.size (Nat.le_refl _)  i0 (Int32.toInt_inj.mp (hk.trans (by decide))) (fun i => [a_OTHER, a_EXTEND, a_FORMAT, a_ZWJ, a_NEWLINE, a_MID_NUM, a_EXTEND_NUM_LET, a_LF, a_SINGLE_QUOTE, a_ALETTER, a_KATAKANA, a_CR, a_MID_LETTER, a_WSEG_SPACE, a_REGIONAL_INDICATOR, a_NUMERIC, a_HEBREW_LETTER, a_DOUBLE_QUOTE, a_MID_NUM_LET].getD i 0) a_VALUES cl_VALUES.cls W
    · exact own_law_16 l s _ hw tables_1 s.heap s.heap.size (Nat.le_refl _)  i0 (Int32.toInt_inj.mp (hk.trans (by decide))) (fun i => [a_OTHER, a_EXTEND, a_FORMAT, a_ZWJ, a_NEWLINE, a_MID_NUM, a_EXTEND_NUM_LET, a_LF, a_SINGLE_QUOTE, a_ALETTER, a_KATAKANA, a_CR, a_MID_LETTER, a_WSEG_SPACE, a_REGIONAL_INDICATOR, a_NUMERIC, a_HEBREW_LETTER, a_DOUBLE_QUOTE, a_MID_NUM_LET].getD i 0) a_VALUES cl_VALUES.cls W
    · exact own_law_17 l s _ hw tables_1 s.heap s.heap.size (Nat.le_refl _)  i0 (Int32.toInt_inj.mp (hk.trans (by decide))) (fun i => [a_OTHER, a_EXTEND, a_FORMAT, a_ZWJ, a_NEWLINE, a_MID_NUM, a_EXTEND_NUM_LET, a_LF, a_SINGLE_QUOTE, a_ALETTER, a_KATAKANA, a_CR, a_MID_LETTER, a_WSEG_SPACE, a_REGIONAL_INDICATOR, a_NUMERIC, a_HEBREW_LETTER, a_DOUBLE_QUOTE, a_MID_NUM_LET].getD i 0) a_VALUES cl_VALUES.cls W
    · exact own_law_18 l s _ hw tables_1 s.heap s.heap.size (Nat.le_refl _)  i0 (Int32.toInt_inj.mp (hk.trans (by decide))) (fun i => [a_OTHER, a_EXTEND, a_FORMAT, a_ZWJ, a_NEWLINE, a_MID_NUM, a_EXTEND_NUM_LET, a_LF, a_SINGLE_QUOTE, a_ALETTER, a_KATAKANA, a_CR, a_MID_LETTER, a_WSEG_SPACE, a_REGIONAL_INDICATOR, a_NUMERIC, a_HEBREW_LETTER, a_DOUBLE_QUOTE, a_MID_NUM_LET].getD i 0) a_VALUES cl_VALUES.cls W
  obtain ⟨n, o, h1, h2, h3, _, L, rfl, ⟨rfl, N⟩, hq⟩ := H p e ha hc hk s m _ below hf ((Spec.applies_iff_loose hf).mp happ).1 ⟨rfl, State.Warmed39.refl s, rfl⟩ trivial
  refine ⟨n, _, h1, h2, h3, hpost _ _ _ _ _ _ ⟨Cond.after_iff.mpr rfl, Cond.after_iff.mpr (eq_i res_at (Term.int_eval (1)) rfl), trivial⟩ ⟨hq.1, hq.2.1, (hq.2.2.sift fun y hy => Or.inr (N y hy)).mono (by decide) (by decide)⟩⟩
theorem main_1_1 : Claimed_1_1 := comes_1 fun _ _ _ _ _ _ h hF => ⟨h.1, hF⟩
theorem main_1_2 : Claimed_1_2 := comes_1 fun _ _ _ _ _ _ h hF => ⟨h.2.1, hF⟩
end Jvm.Pilot.@@N@@
namespace Jvm.Pilot.@@N@@
open Jvm Jvm.ClassFile Sem Op Lib Jvm.Free Jvm.Stand Jvm.Pilot.@@N@@.Jvm.D
/-! MADE BY PROGRAM (witnessworld.py) out of the Statement's table words and the real class files: 11 classes; the members and pool entries that the words name. The judged class is class 1, her method 1. -/
namespace start1
open Jvm.ClassFile
def u (s : String) : CpInfo := .utf8 (stringToUtf16 s)
/-- a pool by its gaps: so many unusable entries, then the entry; so many at the end -/
def gap : Nat → List CpInfo → List CpInfo
  | 0, r => r
  | n + 1, r => .unusable :: gap n r
def poolList (es : List (Nat × CpInfo)) (last : Nat) : List CpInfo := es.foldr (fun e r => gap e.1 (e.2 :: r)) (gap last [])
def pool (es : List (Nat × CpInfo)) (last : Nat) : Array CpInfo := ⟨poolList es last⟩
def fileOf (pool : Array CpInfo) (this : Nat) (attrs : Array Attribute := #[]) (ms : Array MethodInfo := #[]) (fl : Nat := 33) (sup : Nat := 0) (ifs : Array Nat := #[]) (fds : Array FieldInfo := #[]) : ClassFile where
  minorVersion := 0
  majorVersion := 65
  constantPool := pool
  accessFlags := fl
  thisClass := this
  superClass := sup
  interfaces := ifs
  fields := fds
  methods := ms
  attributes := attrs
def plain (name : String) (sup : Option ClassId) : Class where
  name := name
  kind := .ordinary
  loader := none
  accessFlags := 33
  super := sup
  interfaces := #[]
  cf := none
  fields := #[]
  methods := #[]
  instanceTypes := #[]
  staticTypes := #[]
  resolved := #[]
  callSites := []
  init := .initialized
  statics := none
  mirror := none

def pool0 : Array CpInfo := pool [(5, u "<init>"), (0, u "()V"), (1, .class_ 10), (1, u "java/lang/Object")] 113

def k0m0 : Method := { name := "<init>", desc := "()V", sig := { parameters := [], returnType := none }, accessFlags := 1, code := none }
/-- java/lang/Object -/
def k0 : Class := { plain "java/lang/Object" none with
  accessFlags := 33
  interfaces := #[]
  cf := some (fileOf pool0 8 #[] #[{ accessFlags := 1, nameIndex := 5, descriptorIndex := 6, attributes := #[] }] 33 0 #[] #[])
  fields := #[]
  methods := #[k0m0]
  instanceTypes := #[]
  staticTypes := #[]
  resolved := Array.replicate 124 none
  statics := none }

def pool1 : Array CpInfo := pool [(2, .class_ 4), (1, u "java/lang/Object"), (0, u "<init>"), (0, u "()V"), (0, .integer 2147483647), (0, .methodref 9 10), (0, .class_ 11), (0, .nameAndType 12 13), (0, u "com/example/libsnippet/libsnippet/WordBreak"), (0, u "ofOrdinal"), (0, u "(I)Lcom/example/libsnippet/libsnippet/WordBreak;"), (0, .methodref 9 15), (0, .nameAndType 16 17), (0, u "ordinal"), (0, u "()I"), (0, .methodref 9 19), (0, .nameAndType 20 21), (0, u "isIgnorable"), (0, u "()Z"), (0, .class_ 23), (0, u "com/example/libsnippet/libsnippet/WordBreakIsIgnorablePinLaw"), (2, u "law"), (0, u "(I)Z")] 3

def k1m0 : Method := { name := "<init>", desc := "()V", sig := { parameters := [], returnType := none }, accessFlags := 2, code := none }
def k1c1 : Code := { maxStack := 2, maxLocals := 4, code := code, exceptionTable := #[], attributes := #[] }
def k1m1 : Method := { name := "law", desc := "(I)Z", sig := { parameters := [.int], returnType := some .boolean }, accessFlags := 9, code := some k1c1 }
/-- com/example/libsnippet/libsnippet/WordBreakIsIgnorablePinLaw -/
def k1 : Class := { plain "com/example/libsnippet/libsnippet/WordBreakIsIgnorablePinLaw" (some 0) with
  accessFlags := 49
  interfaces := #[]
  cf := some (fileOf pool1 22 #[] #[{ accessFlags := 2, nameIndex := 5, descriptorIndex := 6, attributes := #[] }, { accessFlags := 9, nameIndex := 26, descriptorIndex := 27, attributes := #[] }] 49 2 #[] #[])
  fields := #[]
  methods := #[k1m0, k1m1]
  instanceTypes := #[]
  staticTypes := #[]
  resolved := Array.replicate 31 none
  statics := none }

def pool2 : Array CpInfo := pool [(1, .class_ 2), (0, u "java/lang/constant/Constable"), (0, .class_ 4), (0, u "java/lang/Object")] 6

/-- java/lang/constant/Constable -/
def k2 : Class := { plain "java/lang/constant/Constable" (some 0) with
  accessFlags := 1537
  interfaces := #[]
  cf := some (fileOf pool2 1 #[] #[] 1537 3 #[] #[])
  fields := #[]
  methods := #[]
  instanceTypes := #[]
  staticTypes := #[]
  resolved := Array.replicate 11 none
  statics := none }

def pool3 : Array CpInfo := pool [(1, .class_ 2), (0, u "java/lang/Comparable"), (0, .class_ 4), (0, u "java/lang/Object")] 7

/-- java/lang/Comparable -/
def k3 : Class := { plain "java/lang/Comparable" (some 0) with
  accessFlags := 1537
  interfaces := #[]
  cf := some (fileOf pool3 1 #[] #[] 1537 3 #[] #[])
  fields := #[]
  methods := #[]
  instanceTypes := #[]
  staticTypes := #[]
  resolved := Array.replicate 12 none
  statics := none }

def pool4 : Array CpInfo := pool [(1, .class_ 2), (0, u "java/io/Serializable"), (0, .class_ 4), (0, u "java/lang/Object")] 2

/-- java/io/Serializable -/
def k4 : Class := { plain "java/io/Serializable" (some 0) with
  accessFlags := 1537
  interfaces := #[]
  cf := some (fileOf pool4 1 #[] #[] 1537 3 #[] #[])
  fields := #[]
  methods := #[]
  instanceTypes := #[]
  staticTypes := #[]
  resolved := Array.replicate 7 none
  statics := none }

def pool5 : Array CpInfo := pool [(2, .class_ 4), (1, u "java/lang/Enum"), (0, u "name"), (0, u "Ljava/lang/String;"), (0, .fieldref 2 8), (0, .nameAndType 9 10), (0, u "ordinal"), (0, u "I"), (1, .class_ 14), (1, u "java/lang/Object"), (4, u "hash"), (86, .class_ 108), (1, u "java/lang/Enum$EnumDesc"), (2, .class_ 112), (0, u "java/lang/constant/Constable"), (0, .class_ 114), (0, u "java/lang/Comparable"), (0, .class_ 116), (0, u "java/io/Serializable"), (9, u "()I")] 77

def k5c0 : Code := { maxStack := 1, maxLocals := 1, code := jdk_37_method_2_code, exceptionTable := #[], attributes := #[] }
def k5m0 : Method := { name := "ordinal", desc := "()I", sig := { parameters := [], returnType := some .int }, accessFlags := 17, code := some k5c0 }
/-- java/lang/Enum -/
def k5 : Class := { plain "java/lang/Enum" (some 0) with
  accessFlags := 1057
  interfaces := #[2, 3, 4]
  cf := some (fileOf pool5 2 #[.nestMembers #[106]] #[{ accessFlags := 17, nameIndex := 9, descriptorIndex := 126, attributes := #[] }] 1057 12 #[111, 113, 115] #[{ accessFlags := 18, nameIndex := 5, descriptorIndex := 6, attributes := #[] }, { accessFlags := 18, nameIndex := 9, descriptorIndex := 10, attributes := #[] }, { accessFlags := 2, nameIndex := 19, descriptorIndex := 10, attributes := #[] }])
  fields := #[{ name := "name", type := (.object "java/lang/String"), accessFlags := 18, slot := 0, constantValue := 0 }, { name := "ordinal", type := .int, accessFlags := 18, slot := 1, constantValue := 0 }, { name := "hash", type := .int, accessFlags := 2, slot := 2, constantValue := 0 }]
  methods := #[k5m0]
  instanceTypes := #[(.object "java/lang/String"), .int, .int]
  staticTypes := #[]
  resolved := Array.replicate 204 none
  statics := none }

def pool6 : Array CpInfo := pool [(1, .class_ 2), (0, u "com/example/libsnippet/libsnippet/WordBreak"), (2, u "OTHER"), (0, u "Lcom/example/libsnippet/libsnippet/WordBreak;"), (2, u "CR"), (2, u "LF"), (2, u "NEWLINE"), (0, .fieldref 1 17), (0, .nameAndType 18 6), (0, u "EXTEND"), (0, .fieldref 1 20), (0, .nameAndType 21 6), (0, u "ZWJ"), (2, u "REGIONAL_INDICATOR"), (0, .fieldref 1 26), (0, .nameAndType 27 6), (0, u "FORMAT"), (2, u "KATAKANA"), (2, u "HEBREW_LETTER"), (2, u "ALETTER"), (2, u "SINGLE_QUOTE"), (2, u "DOUBLE_QUOTE"), (2, u "MID_NUM_LET"), (2, u "MID_LETTER"), (2, u "MID_NUM"), (2, u "NUMERIC"), (2, u "EXTEND_NUM_LET"), (2, u "WSEG_SPACE"), (2, u "$VALUES"), (0, u "[Lcom/example/libsnippet/libsnippet/WordBreak;"), (6, .class_ 73), (1, u "java/lang/Enum"), (8, u "name"), (0, u "Ljava/lang/String;"), (0, .fieldref 1 85), (0, .nameAndType 86 64), (0, u "VALUES"), (75, u "ofOrdinal"), (0, u "(I)Lcom/example/libsnippet/libsnippet/WordBreak;"), (1, u "()Z"), (0, u "isIgnorable")] 8

def k6c0 : Code := { maxStack := 2, maxLocals := 1, code := prog_11_method_5_code, exceptionTable := #[], attributes := #[] }
def k6m0 : Method := { name := "ofOrdinal", desc := "(I)Lcom/example/libsnippet/libsnippet/WordBreak;", sig := { parameters := [.int], returnType := some (.object "com/example/libsnippet/libsnippet/WordBreak") }, accessFlags := 8, code := some k6c0 }
def k6c1 : Code := { maxStack := 2, maxLocals := 1, code := prog_11_method_7_code, exceptionTable := #[], attributes := #[] }
def k6m1 : Method := { name := "isIgnorable", desc := "()Z", sig := { parameters := [], returnType := some .boolean }, accessFlags := 0, code := some k6c1 }
/-- com/example/libsnippet/libsnippet/WordBreak -/
def k6 : Class := { plain "com/example/libsnippet/libsnippet/WordBreak" (some 5) with
  accessFlags := 16432
  interfaces := #[]
  cf := some (fileOf pool6 1 #[] #[{ accessFlags := 8, nameIndex := 162, descriptorIndex := 163, attributes := #[] }, { accessFlags := 0, nameIndex := 166, descriptorIndex := 165, attributes := #[] }] 16432 71 #[] #[{ accessFlags := 16409, nameIndex := 5, descriptorIndex := 6, attributes := #[] }, { accessFlags := 16409, nameIndex := 9, descriptorIndex := 6, attributes := #[] }, { accessFlags := 16409, nameIndex := 12, descriptorIndex := 6, attributes := #[] }, { accessFlags := 16409, nameIndex := 15, descriptorIndex := 6, attributes := #[] }, { accessFlags := 16409, nameIndex := 18, descriptorIndex := 6, attributes := #[] }, { accessFlags := 16409, nameIndex := 21, descriptorIndex := 6, attributes := #[] }, { accessFlags := 16409, nameIndex := 24, descriptorIndex := 6, attributes := #[] }, { accessFlags := 16409, nameIndex := 27, descriptorIndex := 6, attributes := #[] }, { accessFlags := 16409, nameIndex := 30, descriptorIndex := 6, attributes := #[] }, { accessFlags := 16409, nameIndex := 33, descriptorIndex := 6, attributes := #[] }, { accessFlags := 16409, nameIndex := 36, descriptorIndex := 6, attributes := #[] }, { accessFlags := 16409, nameIndex := 39, descriptorIndex := 6, attributes := #[] }, { accessFlags := 16409, nameIndex := 42, descriptorIndex := 6, attributes := #[] }, { accessFlags := 16409, nameIndex := 45, descriptorIndex := 6, attributes := #[] }, { accessFlags := 16409, nameIndex := 48, descriptorIndex := 6, attributes := #[] }, { accessFlags := 16409, nameIndex := 51, descriptorIndex := 6, attributes := #[] }, { accessFlags := 16409, nameIndex := 54, descriptorIndex := 6, attributes := #[] }, { accessFlags := 16409, nameIndex := 57, descriptorIndex := 6, attributes := #[] }, { accessFlags := 16409, nameIndex := 60, descriptorIndex := 6, attributes := #[] }, { accessFlags := 26, nameIndex := 86, descriptorIndex := 64, attributes := #[] }, { accessFlags := 18, nameIndex := 82, descriptorIndex := 83, attributes := #[] }, { accessFlags := 4122, nameIndex := 63, descriptorIndex := 64, attributes := #[] }])
  fields := #[{ name := "OTHER", type := (.object "com/example/libsnippet/libsnippet/WordBreak"), accessFlags := 16409, slot := 0, constantValue := 0 }, { name := "CR", type := (.object "com/example/libsnippet/libsnippet/WordBreak"), accessFlags := 16409, slot := 1, constantValue := 0 }, { name := "LF", type := (.object "com/example/libsnippet/libsnippet/WordBreak"), accessFlags := 16409, slot := 2, constantValue := 0 }, { name := "NEWLINE", type := (.object "com/example/libsnippet/libsnippet/WordBreak"), accessFlags := 16409, slot := 3, constantValue := 0 }, { name := "EXTEND", type := (.object "com/example/libsnippet/libsnippet/WordBreak"), accessFlags := 16409, slot := 4, constantValue := 0 }, { name := "ZWJ", type := (.object "com/example/libsnippet/libsnippet/WordBreak"), accessFlags := 16409, slot := 5, constantValue := 0 }, { name := "REGIONAL_INDICATOR", type := (.object "com/example/libsnippet/libsnippet/WordBreak"), accessFlags := 16409, slot := 6, constantValue := 0 }, { name := "FORMAT", type := (.object "com/example/libsnippet/libsnippet/WordBreak"), accessFlags := 16409, slot := 7, constantValue := 0 }, { name := "KATAKANA", type := (.object "com/example/libsnippet/libsnippet/WordBreak"), accessFlags := 16409, slot := 8, constantValue := 0 }, { name := "HEBREW_LETTER", type := (.object "com/example/libsnippet/libsnippet/WordBreak"), accessFlags := 16409, slot := 9, constantValue := 0 }, { name := "ALETTER", type := (.object "com/example/libsnippet/libsnippet/WordBreak"), accessFlags := 16409, slot := 10, constantValue := 0 }, { name := "SINGLE_QUOTE", type := (.object "com/example/libsnippet/libsnippet/WordBreak"), accessFlags := 16409, slot := 11, constantValue := 0 }, { name := "DOUBLE_QUOTE", type := (.object "com/example/libsnippet/libsnippet/WordBreak"), accessFlags := 16409, slot := 12, constantValue := 0 }, { name := "MID_NUM_LET", type := (.object "com/example/libsnippet/libsnippet/WordBreak"), accessFlags := 16409, slot := 13, constantValue := 0 }, { name := "MID_LETTER", type := (.object "com/example/libsnippet/libsnippet/WordBreak"), accessFlags := 16409, slot := 14, constantValue := 0 }, { name := "MID_NUM", type := (.object "com/example/libsnippet/libsnippet/WordBreak"), accessFlags := 16409, slot := 15, constantValue := 0 }, { name := "NUMERIC", type := (.object "com/example/libsnippet/libsnippet/WordBreak"), accessFlags := 16409, slot := 16, constantValue := 0 }, { name := "EXTEND_NUM_LET", type := (.object "com/example/libsnippet/libsnippet/WordBreak"), accessFlags := 16409, slot := 17, constantValue := 0 }, { name := "WSEG_SPACE", type := (.object "com/example/libsnippet/libsnippet/WordBreak"), accessFlags := 16409, slot := 18, constantValue := 0 }, { name := "VALUES", type := (.array (.object "com/example/libsnippet/libsnippet/WordBreak")), accessFlags := 26, slot := 19, constantValue := 0 }, { name := "name", type := (.object "java/lang/String"), accessFlags := 18, slot := 3, constantValue := 0 }, { name := "$VALUES", type := (.array (.object "com/example/libsnippet/libsnippet/WordBreak")), accessFlags := 4122, slot := 20, constantValue := 0 }]
  methods := #[k6m0, k6m1]
  instanceTypes := #[(.object "java/lang/String"), .int, .int, (.object "java/lang/String")]
  staticTypes := #[(.object "com/example/libsnippet/libsnippet/WordBreak"), (.object "com/example/libsnippet/libsnippet/WordBreak"), (.object "com/example/libsnippet/libsnippet/WordBreak"), (.object "com/example/libsnippet/libsnippet/WordBreak"), (.object "com/example/libsnippet/libsnippet/WordBreak"), (.object "com/example/libsnippet/libsnippet/WordBreak"), (.object "com/example/libsnippet/libsnippet/WordBreak"), (.object "com/example/libsnippet/libsnippet/WordBreak"), (.object "com/example/libsnippet/libsnippet/WordBreak"), (.object "com/example/libsnippet/libsnippet/WordBreak"), (.object "com/example/libsnippet/libsnippet/WordBreak"), (.object "com/example/libsnippet/libsnippet/WordBreak"), (.object "com/example/libsnippet/libsnippet/WordBreak"), (.object "com/example/libsnippet/libsnippet/WordBreak"), (.object "com/example/libsnippet/libsnippet/WordBreak"), (.object "com/example/libsnippet/libsnippet/WordBreak"), (.object "com/example/libsnippet/libsnippet/WordBreak"), (.object "com/example/libsnippet/libsnippet/WordBreak"), (.object "com/example/libsnippet/libsnippet/WordBreak"), (.array (.object "com/example/libsnippet/libsnippet/WordBreak")), (.array (.object "com/example/libsnippet/libsnippet/WordBreak"))]
  resolved := Array.replicate 175 none
  statics := some 0 }

def pool7 : Array CpInfo := pool [(1, u "java/lang/Cloneable"), (0, .class_ 1), (0, u "java/lang/Object"), (0, .class_ 3)] 3

/-- java/lang/Cloneable -/
def k7 : Class := { plain "java/lang/Cloneable" (some 0) with
  accessFlags := 1537
  interfaces := #[]
  cf := some (fileOf pool7 2 #[] #[] 1537 4 #[] #[])
  fields := #[]
  methods := #[]
  instanceTypes := #[]
  staticTypes := #[]
  resolved := Array.replicate 8 none
  statics := none }

/-- the primitive byte -/
def k8 : Class := { plain "byte" none with kind := .primitive 'B', accessFlags := 0x411 }
/-- [B -/
def k9 : Class := { plain "[B" (some 0) with kind := .array 8 .byte, interfaces := #[7, 4], accessFlags := 1041 }

/-- [Lcom/example/libsnippet/libsnippet/WordBreak; -/
def k10 : Class := { plain "[Lcom/example/libsnippet/libsnippet/WordBreak;" (some 0) with kind := .array 6 (.object "com/example/libsnippet/libsnippet/WordBreak"), interfaces := #[7, 4], accessFlags := 1041 }

def heap : Heap := #[{ cls := 6, slots := #[.ref 2, .ref 13, .ref 9, .ref 6, .ref 3, .ref 5, .ref 16, .ref 4, .ref 12, .ref 18, .ref 11, .ref 10, .ref 19, .ref 20, .ref 14, .ref 7, .ref 17, .ref 8, .ref 15, .ref 1, .null], vm := .statics 6 },
  { cls := 10, slots := #[.ref 2, .ref 13, .ref 9, .ref 6, .ref 3, .ref 5, .ref 16, .ref 4, .ref 12, .ref 18, .ref 11, .ref 10, .ref 19, .ref 20, .ref 14, .ref 7, .ref 17, .ref 8, .ref 15], vm := .none },
  { cls := 6, slots := #[.null, .int 0, .int 0, .null], vm := .none },
  { cls := 6, slots := #[.null, .int 4, .int 0, .null], vm := .none },
  { cls := 6, slots := #[.null, .int 7, .int 0, .null], vm := .none },
  { cls := 6, slots := #[.null, .int 5, .int 0, .null], vm := .none },
  { cls := 6, slots := #[.null, .int 3, .int 0, .null], vm := .none },
  { cls := 6, slots := #[.null, .int 15, .int 0, .null], vm := .none },
  { cls := 6, slots := #[.null, .int 17, .int 0, .null], vm := .none },
  { cls := 6, slots := #[.null, .int 2, .int 0, .null], vm := .none },
  { cls := 6, slots := #[.null, .int 11, .int 0, .null], vm := .none },
  { cls := 6, slots := #[.null, .int 10, .int 0, .null], vm := .none },
  { cls := 6, slots := #[.null, .int 8, .int 0, .null], vm := .none },
  { cls := 6, slots := #[.null, .int 1, .int 0, .null], vm := .none },
  { cls := 6, slots := #[.null, .int 14, .int 0, .null], vm := .none },
  { cls := 6, slots := #[.null, .int 18, .int 0, .null], vm := .none },
  { cls := 6, slots := #[.null, .int 6, .int 0, .null], vm := .none },
  { cls := 6, slots := #[.null, .int 16, .int 0, .null], vm := .none },
  { cls := 6, slots := #[.null, .int 9, .int 0, .null], vm := .none },
  { cls := 6, slots := #[.null, .int 12, .int 0, .null], vm := .none },
  { cls := 6, slots := #[.null, .int 13, .int 0, .null], vm := .none }]
def classes : Array Class := #[k0, k1, k2, k3, k4, k5, k6, k7, k8, k9, k10]
def interned : List (Array UInt16 × Addr) := []
def slotsUsed : Nat := 116
def theMethod : MethodId := ⟨1, 1⟩
def args0 : Array Value := #[.int 5]
def aboutOver (below : List Frame) : State where
  vm := { classes := classes, interned := interned.toArray }
  heap := heap
  slotsUsed := slotsUsed
  threads := #[{ frames := .invoking theMethod args0 :: below }]
def below0 : List Frame := [.native { method := ⟨0, 0⟩, args := #[] }]
def about1 : State := aboutOver below0
def p0 : Program := .bare "" "" ""
def e0 : Env := launch0.env 0 0 0
theorem w_frames : about1.frames = Frame.invoking theMethod args0 :: below0 := rfl
set_option maxRecDepth 65536 in
theorem w_args : argsFit about1.vm theMethod args0 = true := by decide +kernel
set_option maxRecDepth 65536 in
theorem w_heap : heapFits about1 = true := by decide +kernel
set_option maxRecDepth 65536 in
theorem w_runnable : about1.curStatus? = some .runnable := by decide +kernel
set_option maxRecDepth 65536 in
theorem w_alone : about1.alone = true := by decide +kernel
set_option maxRecDepth 65536 in
theorem w_named : about1.methodNamed? x = some theMethod := by decide +kernel
set_option maxRecDepth 65536 in
theorem w_hears : about1.hears theMethod below0 = true := by decide +kernel
set_option maxRecDepth 65536 in
theorem w_ripe : about1.ripe theMethod args0 below0 = true := by decide +kernel
theorem w_running : about1.status = .running := rfl
set_option maxRecDepth 65536 in
theorem w_room : about1.hasRoom e0.platform room_1 = true :=
  launch0.hasRoom_least _ room_1 (by decide +kernel) (by decide +kernel) (by decide +kernel) (by decide +kernel) (by decide +kernel) (by decide +kernel)
theorem allAtoms_all (ts : List Jvm.Cond) (a : Array Jvm.Value) (st : Jvm.State) : (allAtoms ts).before a st = ts.all (fun c => c.before a st) := by
  induction ts with
  | nil => rfl
  | cons c t ih =>
    show (Jvm.Cond.and c (allAtoms t)).before a st = _
    rw [Jvm.Cond.before_and, ih, List.all_cons]
def words1 : List Jvm.Cond := Jvm.Cond.code x code maxLocals ret :: tables_1
/-- a 'code' word, met by the world's own term for the bytes: nothing is compared byte by byte -/
theorem code_word {y : MethodName} {bytes : ByteArray} {mx : Nat} {rt : Option FieldType} {a : Array Value} {s : State} {m : MethodId} {meth : Method} {c : Code} (h1 : s.methodNamed? y = some m) (h2 : s.vm.method? m = some meth) (h3 : meth.code = some c) (h4 : c.code = bytes)
    (h5 : (c.maxLocals == mx && c.exceptionTable.isEmpty && decide (c.maxStack ≤ mostOperands) && decide (meth.sig.returnType = rt) && !meth.locks && decide (parseMethodDescriptor y.desc = some meth.sig)) = true) : (Jvm.Cond.code y bytes mx rt).before a s = true := by
  simp only [Bool.and_eq_true, beq_iff_eq, Bool.not_eq_true', decide_eq_true_eq] at h5
  obtain ⟨⟨⟨⟨⟨g1, g2⟩, g3⟩, g4⟩, g5⟩, g6⟩ := h5
  simp [Cond.before, Cond.holds, Cond.value, h1, h2, h3, h4, g1, g2, g3, g4, g5, g6]
def isCode : Jvm.Cond → Bool
  | .code _ _ _ _ => true
  | _ => false
theorem all_split {L : List Jvm.Cond} {P : Jvm.Cond → Bool} (h1 : L.all (fun c => isCode c || P c) = true) (h2 : ∀ c ∈ L.filter isCode, P c = true) : L.all P = true := by
  refine List.all_eq_true.mpr fun c hc => ?_
  have h := List.all_eq_true.mp h1 c hc
  rcases Bool.eq_false_or_eq_true (isCode c) with hi | hi
  · exact h2 c (List.mem_filter.mpr ⟨hc, hi⟩)
  · simpa [hi] using h
set_option maxRecDepth 65536 in
theorem w_c0 : (Jvm.Cond.code x code maxLocals ret).before args0 about1 = true := code_word (m := ⟨1, 1⟩) (meth := k1m1) (c := k1c1) (by decide +kernel) rfl rfl rfl (by decide +kernel)
set_option maxRecDepth 65536 in
theorem w_c1 : (Jvm.Cond.code ({ cls := "com/example/libsnippet/libsnippet/WordBreak", name := "ofOrdinal", desc := "(I)Lcom/example/libsnippet/libsnippet/WordBreak;" } : Jvm.MethodName) prog_11_method_5_code (1 : Nat) (Option.some (Jvm.ClassFile.FieldType.object "com/example/libsnippet/libsnippet/WordBreak"))).before args0 about1 = true := code_word (m := ⟨6, 0⟩) (meth := k6m0) (c := k6c0) (by decide +kernel) rfl rfl rfl (by decide +kernel)
set_option maxRecDepth 65536 in
theorem w_c2 : (Jvm.Cond.code ({ cls := "java/lang/Enum", name := "ordinal", desc := "()I" } : Jvm.MethodName) jdk_37_method_2_code (1 : Nat) (Option.some Jvm.ClassFile.FieldType.int)).before args0 about1 = true := code_word (m := ⟨5, 0⟩) (meth := k5m0) (c := k5c0) (by decide +kernel) rfl rfl rfl (by decide +kernel)
set_option maxRecDepth 65536 in
theorem w_c3 : (Jvm.Cond.code ({ cls := "com/example/libsnippet/libsnippet/WordBreak", name := "isIgnorable", desc := "()Z" } : Jvm.MethodName) prog_11_method_7_code (1 : Nat) (Option.some Jvm.ClassFile.FieldType.boolean)).before args0 about1 = true := code_word (m := ⟨6, 1⟩) (meth := k6m1) (c := k6c1) (by decide +kernel) rfl rfl rfl (by decide +kernel)
def codes1 : List Jvm.Cond := [Jvm.Cond.code x code maxLocals ret, Jvm.Cond.code ({ cls := "com/example/libsnippet/libsnippet/WordBreak", name := "ofOrdinal", desc := "(I)Lcom/example/libsnippet/libsnippet/WordBreak;" } : Jvm.MethodName) prog_11_method_5_code (1 : Nat) (Option.some (Jvm.ClassFile.FieldType.object "com/example/libsnippet/libsnippet/WordBreak")), Jvm.Cond.code ({ cls := "java/lang/Enum", name := "ordinal", desc := "()I" } : Jvm.MethodName) jdk_37_method_2_code (1 : Nat) (Option.some Jvm.ClassFile.FieldType.int), Jvm.Cond.code ({ cls := "com/example/libsnippet/libsnippet/WordBreak", name := "isIgnorable", desc := "()Z" } : Jvm.MethodName) prog_11_method_7_code (1 : Nat) (Option.some Jvm.ClassFile.FieldType.boolean)]
set_option maxRecDepth 65536 in
theorem codes_eq : words1.filter isCode = codes1 := rfl
theorem w_codes : ∀ c ∈ words1.filter isCode, c.before args0 about1 = true := by
  rw [codes_eq]
  intro c hc
  simp only [codes1, List.mem_cons, List.not_mem_nil, or_false] at hc
  rcases hc with rfl | rfl | rfl | rfl
  · exact w_c0
  · exact w_c1
  · exact w_c2
  · exact w_c3
set_option maxRecDepth 65536 in
theorem w_t1 : (words1.take 24).all (fun c => isCode c || c.before args0 about1) = true := by decide +kernel
set_option maxRecDepth 65536 in
theorem w_t2 : (words1.drop 24).all (fun c => isCode c || c.before args0 about1) = true := by decide +kernel
theorem w_tables : (allAtoms (Jvm.Cond.code x code maxLocals ret :: tables_1)).before args0 about1 = true := by
  rw [allAtoms_all]
  show words1.all (fun c => c.before args0 about1) = true
  refine all_split ?_ w_codes
  rw [← List.take_append_drop 24 words1, List.all_append, w_t1, w_t2]
  rfl
set_option maxRecDepth 65536 in
theorem w_case : (Jvm.Cond.and given_1 narrow_1).before args0 about1 = true := by decide +kernel
theorem w_applies : (headSpec (Jvm.Cond.code x code maxLocals ret :: tables_1) room_1).applies x e0.platform about1 = true :=
  (Spec.applies_iff w_frames).mpr ⟨w_running, w_runnable, w_alone, w_named, w_hears, w_ripe, w_room, w_tables⟩
theorem atStart : AtStart classFile x code maxLocals ret World_1 tables_1 room_1 Calls_1 rest_1 Pre_1 launch0 p0 e0 about1 theMethod args0 below0 :=
  ⟨lists_1, trivial, launch0.admits_env _ _ _, launch0.least_env, fairChoices_fair.cas, fairChoices_fair.clock, w_frames, w_args, w_heap, w_applies, trivial, trivial, w_case⟩
end start1
theorem witness_1 : WitnessClaimed_1 := ⟨start1.p0, start1.e0, start1.about1, start1.theMethod, start1.args0, start1.below0, start1.atStart⟩
end Jvm.Pilot.@@N@@
