import JvmDerived
import JvmDerived.Pilot.@@N@@Statement
import JvmDerived.Pilot.@@N@@Code
set_option linter.unusedVariables false
set_option linter.unusedSimpArgs false
namespace Jvm.RoadKit
open Sem ClassFile Op Lib Jvm.Stand Jvm.Free Jvm.LawKit
section New
variable {p : Program} {l : Launch} {e : Env} {R : Room} {s : State} {m : MethodId} {args : Array Value} {below : List Frame} {meth : Method} {c : Code} {T : State} {locs : List Loc} {cells slots : Nat}
theorem retI (X : Stand p l e R s m args below meth c T locs cells slots) (hx : p.tables.exec = Jvm.exec) {pc : Nat} {Ls : Array Slot} {z : Int32} {rest : List Value} (hret : meth.sig.returnType = some .int) (hd : decode c.code pc = .ok (.ireturn, 1)) {fs : List Frame}
    (hl : ∀ (f : JFrame) (acts : List Action), f.method = m → f.locked = none → f.entered = [] → (doReturn e (T.setTop f) acts (some (.int z))).1 = T.setFrames fs) : Steps p.tables e below (T.setTop (mkF m pc Ls (.int z :: rest))) (T.setFrames fs) := by
  have hm' : T.vm.method? m = some meth := X.method'
  have hn : narrow .int (.int z) = .int z := rfl
  show Steps p.tables e below (T.setTop { method := m, pc := pc, locals := Ls, stack := _ :: rest, locked := none }) _
  jvm_step X.here [X.here.top, hx, hd, hm', hret, hn]
  first | (intro acts; rw [hl _ acts rfl rfl rfl]) | rw [hl _ _ rfl rfl rfl]
  exact Steps.refl _
end New
end Jvm.RoadKit
namespace Jvm.Pilot.@@N@@
open Jvm Jvm.ClassFile Sem Op Lib Jvm.Free Jvm.Stand Jvm.LawKit Jvm.RoadKit Bundle Jvm.Pilot.@@N@@.Jvm.D
def QV (r : Option Value) (h0 : Heap) (n0 : Nat) (v : Option Value) (h : Heap) (L : List Loc) : Prop := v = r ∧ Fr n0 L ∧ h = h0
def QN (r : Option Value) (n0 : Nat) (v : Option Value) (h : Heap) (L : List Loc) : Prop := v = r ∧ Fr n0 L
section OwnWords
variable {args : Array Value} {first s : State} {o : Option Outcome} {idx : List Nat} {t : Term}
theorem own_eqI {k : Int32} (h : (Jvm.Cond.eq t (.int k)).value args first o s idx = some true) : t.eval args first o idx s = some (.int k) := by
  simp only [Jvm.Cond.value, Term.eval] at h; cases ht : t.eval args first o idx s with | none => simp [ht] at h | some x => cases x <;> simp [ht] at h ⊢; exact h
end OwnWords
theorem own_exa_plain {Z : State} {h : Heap} {a : Addr} {C : String} (F : Exa Z h a C) (c : Cell) (hc : h[a]? = some c) : c.vm.isStatics = false := by
  obtain ⟨cell, k, h1, h2, h3, h4, h5⟩ := F; cases h1.symm.trans hc; exact h4
theorem own_arv_plain {Z : State} {h : Heap} {a : Addr} {k : ClassId} {ty : FieldType} {n : Int32} {vs : List Value} {d : Value} (F : Arv Z h a k ty n vs d) (c : Cell) (hc : h[a]? = some c) : c.vm.isStatics = false := by
  obtain ⟨cell, A, -⟩ := F; cases A.1.symm.trans hc; exact A.plain
theorem own_ext_of_keep {h h' : Heap} {ws : List Addr} (K : Keep h h' ws) (q : ∀ x ∈ ws, h.size ≤ x) : Ext h h' := ⟨K.1, fun a c hc => K.2.1 a c hc fun hm => absurd (Array.getElem?_eq_some_iff.mp hc).1 (Nat.not_lt.mpr (q a hm))⟩
theorem own_fitc {Z : State} {h : Heap} {a : Addr} {c : Cell} {ty : FieldType} {vs : List Value} {d : Value} (A : Arr Z h a c ty) (H : Has c vs d) (G : ∀ i, i < c.slots.size → fits ty (vs.getD i d) = true) : FitC Z c := fun i v hv => by
  obtain ⟨hi, -⟩ := Array.getElem?_eq_some_iff.mp hv
  obtain ⟨hs, k, hk, comp, hkind⟩ := A.2.1
  have e : Z.slotType? c.cls .none i = some ty := by simp [State.slotType?, hk, hkind]
  have ev : v = vs.getD i d := Option.some.inj (hv.symm.trans (H i hi))
  simp only [State.fitsSlot, e]
  rw [ev]; exact G i hi
theorem own_sta_keep {Z : State} {h h' : Heap} {C n d : String} {w : Value} {ws : List Addr} (F : Sta Z h C n d w) (K : Keep h h' ws) (q : ∀ x ∈ ws, ∀ c : Cell, h[x]? = some c → c.vm.isStatics = false) : Sta Z h' C n d w := by
  obtain ⟨cf, i, k, f, st, cell, h1, h2, h3, h4, h5, h6, h7⟩ := F
  exact ⟨cf, i, k, f, st, cell, h1, h2, h3, h4, K.2.1 _ _ h5 (fun hx => by rw [q _ hx _ h5] at h6; cases h6), h6, h7⟩
section OwnWords2
variable {args : Array Value} {s : State} {t u : Term}
theorem own_eqR {a : Addr} (h : (Jvm.Cond.eq t u).value args s none s [] = some true) (hu : u.eval args s none [] s = some (.ref a)) : t.eval args s none [] s = some (.ref a) := by
  simp only [Jvm.Cond.value, hu] at h; cases ht : t.eval args s none [] s with | none => simp [ht] at h | some x => cases x <;> simp [ht] at h ⊢; exact h
theorem own_len {a : Addr} {cl : Cell} {ty : FieldType} {k : Int32} (ev : t.eval args s none [] s = some (.ref a)) (A : Arr s s.heap a cl ty) (h : (Term.length t).eval args s none [] s = some (.int k)) : cl.slots.size < 2 ^ 31 ∧ cl.slots.size.toInt32 = k := by
  have ha := A.fin (Vm.Alike.refl _)
  by_cases hl : cl.slots.size < 2 ^ 31
  · rw [len_f ev ha hl] at h; exact ⟨hl, Value.int.inj (Option.some.inj h)⟩
  · simp [Term.eval, ev, ha, hl] at h
theorem own_elem {a : Addr} {cl : Cell} {ty : FieldType} {k : Int32} {v : Value} (ev : t.eval args s none [] s = some (.ref a)) (A : Arr s s.heap a cl ty) (h : (Term.elem t (.int k)).eval args s none [] s = some v) : cl.slots[k.toNatClampNeg]? = some v := (elem_in h ev (Term.int_eval k) A.1).2
end OwnWords2
def OwnWd (Z : State) (h0 : Heap) (ad : Nat → Addr) (a__VALUES : Addr) (k__VALUES : ClassId) : Prop := Sta Z h0 "com/example/limpet/limpet/io/Status" "OK" "Lcom/example/limpet/limpet/io/Status;" (.ref (ad 0)) ∧ Exa Z h0 (ad 0) "com/example/limpet/limpet/io/Status" ∧ Fld Z h0 (ad 0) "com/example/limpet/limpet/io/Status" "code" "I" (.int (0 : Int32)) ∧ Sta Z h0 "com/example/limpet/limpet/io/Status" "BAD_REQUEST" "Lcom/example/limpet/limpet/io/Status;" (.ref (ad 1)) ∧ Exa Z h0 (ad 1) "com/example/limpet/limpet/io/Status" ∧ Fld Z h0 (ad 1) "com/example/limpet/limpet/io/Status" "code" "I" (.int (1 : Int32)) ∧ Sta Z h0 "com/example/limpet/limpet/io/Status" "NOT_FOUND" "Lcom/example/limpet/limpet/io/Status;" (.ref (ad 2)) ∧ Exa Z h0 (ad 2) "com/example/limpet/limpet/io/Status" ∧ Fld Z h0 (ad 2) "com/example/limpet/limpet/io/Status" "code" "I" (.int (2 : Int32)) ∧ Sta Z h0 "com/example/limpet/limpet/io/Status" "FAILED" "Lcom/example/limpet/limpet/io/Status;" (.ref (ad 3)) ∧ Exa Z h0 (ad 3) "com/example/limpet/limpet/io/Status" ∧ Fld Z h0 (ad 3) "com/example/limpet/limpet/io/Status" "code" "I" (.int (3 : Int32)) ∧ Sta Z h0 "com/example/limpet/limpet/io/Status" "UNSUPPORTED_KEY" "Lcom/example/limpet/limpet/io/Status;" (.ref (ad 4)) ∧ Exa Z h0 (ad 4) "com/example/limpet/limpet/io/Status" ∧ Fld Z h0 (ad 4) "com/example/limpet/limpet/io/Status" "code" "I" (.int (4 : Int32)) ∧ Sta Z h0 "com/example/limpet/limpet/io/Status" "PERMISSION_DENIED" "Lcom/example/limpet/limpet/io/Status;" (.ref (ad 5)) ∧ Exa Z h0 (ad 5) "com/example/limpet/limpet/io/Status" ∧ Fld Z h0 (ad 5) "com/example/limpet/limpet/io/Status" "code" "I" (.int (5 : Int32)) ∧ Sta Z h0 "com/example/limpet/limpet/io/Status" "GRANT_NOT_FOUND" "Lcom/example/limpet/limpet/io/Status;" (.ref (ad 6)) ∧ Exa Z h0 (ad 6) "com/example/limpet/limpet/io/Status" ∧ Fld Z h0 (ad 6) "com/example/limpet/limpet/io/Status" "code" "I" (.int (6 : Int32)) ∧ Sta Z h0 "com/example/limpet/limpet/io/Status" "TOO_MANY_KEYS" "Lcom/example/limpet/limpet/io/Status;" (.ref (ad 7)) ∧ Exa Z h0 (ad 7) "com/example/limpet/limpet/io/Status" ∧ Fld Z h0 (ad 7) "com/example/limpet/limpet/io/Status" "code" "I" (.int (7 : Int32)) ∧ Sta Z h0 "com/example/limpet/limpet/io/Status" "TOO_MANY_GRANTS" "Lcom/example/limpet/limpet/io/Status;" (.ref (ad 8)) ∧ Exa Z h0 (ad 8) "com/example/limpet/limpet/io/Status" ∧ Fld Z h0 (ad 8) "com/example/limpet/limpet/io/Status" "code" "I" (.int (8 : Int32)) ∧ Sta Z h0 "com/example/limpet/limpet/io/Status" "$VALUES" "[Lcom/example/limpet/limpet/io/Status;" (.ref a__VALUES) ∧ Arv Z h0 a__VALUES k__VALUES (.object "com/example/limpet/limpet/io/Status") (9 : Int32) [(.ref (ad 0)), (.ref (ad 1)), (.ref (ad 2)), (.ref (ad 3)), (.ref (ad 4)), (.ref (ad 5)), (.ref (ad 6)), (.ref (ad 7)), (.ref (ad 8))] .null ∧ Exa Z h0 a__VALUES "[Lcom/example/limpet/limpet/io/Status;"
theorem own_S_OK {Z : State} {h0 : Heap} {ad : Nat → Addr} {a__VALUES : Addr} {k__VALUES : ClassId} (W : OwnWd Z h0 ad a__VALUES k__VALUES) : Sta Z h0 "com/example/limpet/limpet/io/Status" "OK" "Lcom/example/limpet/limpet/io/Status;" (.ref (ad 0)) := W.1
theorem own_E_OK {Z : State} {h0 : Heap} {ad : Nat → Addr} {a__VALUES : Addr} {k__VALUES : ClassId} (W : OwnWd Z h0 ad a__VALUES k__VALUES) : Exa Z h0 (ad 0) "com/example/limpet/limpet/io/Status" := W.2.1
theorem own_F_OK_code {Z : State} {h0 : Heap} {ad : Nat → Addr} {a__VALUES : Addr} {k__VALUES : ClassId} (W : OwnWd Z h0 ad a__VALUES k__VALUES) : Fld Z h0 (ad 0) "com/example/limpet/limpet/io/Status" "code" "I" (.int (0 : Int32)) := W.2.2.1
theorem own_S_BAD_REQUEST {Z : State} {h0 : Heap} {ad : Nat → Addr} {a__VALUES : Addr} {k__VALUES : ClassId} (W : OwnWd Z h0 ad a__VALUES k__VALUES) : Sta Z h0 "com/example/limpet/limpet/io/Status" "BAD_REQUEST" "Lcom/example/limpet/limpet/io/Status;" (.ref (ad 1)) := W.2.2.2.1
theorem own_E_BAD_REQUEST {Z : State} {h0 : Heap} {ad : Nat → Addr} {a__VALUES : Addr} {k__VALUES : ClassId} (W : OwnWd Z h0 ad a__VALUES k__VALUES) : Exa Z h0 (ad 1) "com/example/limpet/limpet/io/Status" := W.2.2.2.2.1
theorem own_F_BAD_REQUEST_code {Z : State} {h0 : Heap} {ad : Nat → Addr} {a__VALUES : Addr} {k__VALUES : ClassId} (W : OwnWd Z h0 ad a__VALUES k__VALUES) : Fld Z h0 (ad 1) "com/example/limpet/limpet/io/Status" "code" "I" (.int (1 : Int32)) := W.2.2.2.2.2.1
theorem own_S_NOT_FOUND {Z : State} {h0 : Heap} {ad : Nat → Addr} {a__VALUES : Addr} {k__VALUES : ClassId} (W : OwnWd Z h0 ad a__VALUES k__VALUES) : Sta Z h0 "com/example/limpet/limpet/io/Status" "NOT_FOUND" "Lcom/example/limpet/limpet/io/Status;" (.ref (ad 2)) := W.2.2.2.2.2.2.1
theorem own_E_NOT_FOUND {Z : State} {h0 : Heap} {ad : Nat → Addr} {a__VALUES : Addr} {k__VALUES : ClassId} (W : OwnWd Z h0 ad a__VALUES k__VALUES) : Exa Z h0 (ad 2) "com/example/limpet/limpet/io/Status" := W.2.2.2.2.2.2.2.1
theorem own_F_NOT_FOUND_code {Z : State} {h0 : Heap} {ad : Nat → Addr} {a__VALUES : Addr} {k__VALUES : ClassId} (W : OwnWd Z h0 ad a__VALUES k__VALUES) : Fld Z h0 (ad 2) "com/example/limpet/limpet/io/Status" "code" "I" (.int (2 : Int32)) := W.2.2.2.2.2.2.2.2.1
theorem own_S_FAILED {Z : State} {h0 : Heap} {ad : Nat → Addr} {a__VALUES : Addr} {k__VALUES : ClassId} (W : OwnWd Z h0 ad a__VALUES k__VALUES) : Sta Z h0 "com/example/limpet/limpet/io/Status" "FAILED" "Lcom/example/limpet/limpet/io/Status;" (.ref (ad 3)) := W.2.2.2.2.2.2.2.2.2.1
theorem own_E_FAILED {Z : State} {h0 : Heap} {ad : Nat → Addr} {a__VALUES : Addr} {k__VALUES : ClassId} (W : OwnWd Z h0 ad a__VALUES k__VALUES) : Exa Z h0 (ad 3) "com/example/limpet/limpet/io/Status" := W.2.2.2.2.2.2.2.2.2.2.1
theorem own_F_FAILED_code {Z : State} {h0 : Heap} {ad : Nat → Addr} {a__VALUES : Addr} {k__VALUES : ClassId} (W : OwnWd Z h0 ad a__VALUES k__VALUES) : Fld Z h0 (ad 3) "com/example/limpet/limpet/io/Status" "code" "I" (.int (3 : Int32)) := W.2.2.2.2.2.2.2.2.2.2.2.1
theorem own_S_UNSUPPORTED_KEY {Z : State} {h0 : Heap} {ad : Nat → Addr} {a__VALUES : Addr} {k__VALUES : ClassId} (W : OwnWd Z h0 ad a__VALUES k__VALUES) : Sta Z h0 "com/example/limpet/limpet/io/Status" "UNSUPPORTED_KEY" "Lcom/example/limpet/limpet/io/Status;" (.ref (ad 4)) := W.2.2.2.2.2.2.2.2.2.2.2.2.1
theorem own_E_UNSUPPORTED_KEY {Z : State} {h0 : Heap} {ad : Nat → Addr} {a__VALUES : Addr} {k__VALUES : ClassId} (W : OwnWd Z h0 ad a__VALUES k__VALUES) : Exa Z h0 (ad 4) "com/example/limpet/limpet/io/Status" := W.2.2.2.2.2.2.2.2.2.2.2.2.2.1
theorem own_F_UNSUPPORTED_KEY_code {Z : State} {h0 : Heap} {ad : Nat → Addr} {a__VALUES : Addr} {k__VALUES : ClassId} (W : OwnWd Z h0 ad a__VALUES k__VALUES) : Fld Z h0 (ad 4) "com/example/limpet/limpet/io/Status" "code" "I" (.int (4 : Int32)) := W.2.2.2.2.2.2.2.2.2.2.2.2.2.2.1
theorem own_S_PERMISSION_DENIED {Z : State} {h0 : Heap} {ad : Nat → Addr} {a__VALUES : Addr} {k__VALUES : ClassId} (W : OwnWd Z h0 ad a__VALUES k__VALUES) : Sta Z h0 "com/example/limpet/limpet/io/Status" "PERMISSION_DENIED" "Lcom/example/limpet/limpet/io/Status;" (.ref (ad 5)) := W.2.2.2.2.2.2.2.2.2.2.2.2.2.2.2.1
theorem own_E_PERMISSION_DENIED {Z : State} {h0 : Heap} {ad : Nat → Addr} {a__VALUES : Addr} {k__VALUES : ClassId} (W : OwnWd Z h0 ad a__VALUES k__VALUES) : Exa Z h0 (ad 5) "com/example/limpet/limpet/io/Status" := W.2.2.2.2.2.2.2.2.2.2.2.2.2.2.2.2.1
theorem own_F_PERMISSION_DENIED_code {Z : State} {h0 : Heap} {ad : Nat → Addr} {a__VALUES : Addr} {k__VALUES : ClassId} (W : OwnWd Z h0 ad a__VALUES k__VALUES) : Fld Z h0 (ad 5) "com/example/limpet/limpet/io/Status" "code" "I" (.int (5 : Int32)) := W.2.2.2.2.2.2.2.2.2.2.2.2.2.2.2.2.2.1
theorem own_S_GRANT_NOT_FOUND {Z : State} {h0 : Heap} {ad : Nat → Addr} {a__VALUES : Addr} {k__VALUES : ClassId} (W : OwnWd Z h0 ad a__VALUES k__VALUES) : Sta Z h0 "com/example/limpet/limpet/io/Status" "GRANT_NOT_FOUND" "Lcom/example/limpet/limpet/io/Status;" (.ref (ad 6)) := W.2.2.2.2.2.2.2.2.2.2.2.2.2.2.2.2.2.2.1
theorem own_E_GRANT_NOT_FOUND {Z : State} {h0 : Heap} {ad : Nat → Addr} {a__VALUES : Addr} {k__VALUES : ClassId} (W : OwnWd Z h0 ad a__VALUES k__VALUES) : Exa Z h0 (ad 6) "com/example/limpet/limpet/io/Status" := W.2.2.2.2.2.2.2.2.2.2.2.2.2.2.2.2.2.2.2.1
theorem own_F_GRANT_NOT_FOUND_code {Z : State} {h0 : Heap} {ad : Nat → Addr} {a__VALUES : Addr} {k__VALUES : ClassId} (W : OwnWd Z h0 ad a__VALUES k__VALUES) : Fld Z h0 (ad 6) "com/example/limpet/limpet/io/Status" "code" "I" (.int (6 : Int32)) := W.2.2.2.2.2.2.2.2.2.2.2.2.2.2.2.2.2.2.2.2.1
theorem own_S_TOO_MANY_KEYS {Z : State} {h0 : Heap} {ad : Nat → Addr} {a__VALUES : Addr} {k__VALUES : ClassId} (W : OwnWd Z h0 ad a__VALUES k__VALUES) : Sta Z h0 "com/example/limpet/limpet/io/Status" "TOO_MANY_KEYS" "Lcom/example/limpet/limpet/io/Status;" (.ref (ad 7)) := W.2.2.2.2.2.2.2.2.2.2.2.2.2.2.2.2.2.2.2.2.2.1
theorem own_E_TOO_MANY_KEYS {Z : State} {h0 : Heap} {ad : Nat → Addr} {a__VALUES : Addr} {k__VALUES : ClassId} (W : OwnWd Z h0 ad a__VALUES k__VALUES) : Exa Z h0 (ad 7) "com/example/limpet/limpet/io/Status" := W.2.2.2.2.2.2.2.2.2.2.2.2.2.2.2.2.2.2.2.2.2.2.1
theorem own_F_TOO_MANY_KEYS_code {Z : State} {h0 : Heap} {ad : Nat → Addr} {a__VALUES : Addr} {k__VALUES : ClassId} (W : OwnWd Z h0 ad a__VALUES k__VALUES) : Fld Z h0 (ad 7) "com/example/limpet/limpet/io/Status" "code" "I" (.int (7 : Int32)) := W.2.2.2.2.2.2.2.2.2.2.2.2.2.2.2.2.2.2.2.2.2.2.2.1
theorem own_S_TOO_MANY_GRANTS {Z : State} {h0 : Heap} {ad : Nat → Addr} {a__VALUES : Addr} {k__VALUES : ClassId} (W : OwnWd Z h0 ad a__VALUES k__VALUES) : Sta Z h0 "com/example/limpet/limpet/io/Status" "TOO_MANY_GRANTS" "Lcom/example/limpet/limpet/io/Status;" (.ref (ad 8)) := W.2.2.2.2.2.2.2.2.2.2.2.2.2.2.2.2.2.2.2.2.2.2.2.2.1
theorem own_E_TOO_MANY_GRANTS {Z : State} {h0 : Heap} {ad : Nat → Addr} {a__VALUES : Addr} {k__VALUES : ClassId} (W : OwnWd Z h0 ad a__VALUES k__VALUES) : Exa Z h0 (ad 8) "com/example/limpet/limpet/io/Status" := W.2.2.2.2.2.2.2.2.2.2.2.2.2.2.2.2.2.2.2.2.2.2.2.2.2.1
theorem own_F_TOO_MANY_GRANTS_code {Z : State} {h0 : Heap} {ad : Nat → Addr} {a__VALUES : Addr} {k__VALUES : ClassId} (W : OwnWd Z h0 ad a__VALUES k__VALUES) : Fld Z h0 (ad 8) "com/example/limpet/limpet/io/Status" "code" "I" (.int (8 : Int32)) := W.2.2.2.2.2.2.2.2.2.2.2.2.2.2.2.2.2.2.2.2.2.2.2.2.2.2.1
theorem own_S__VALUES {Z : State} {h0 : Heap} {ad : Nat → Addr} {a__VALUES : Addr} {k__VALUES : ClassId} (W : OwnWd Z h0 ad a__VALUES k__VALUES) : Sta Z h0 "com/example/limpet/limpet/io/Status" "$VALUES" "[Lcom/example/limpet/limpet/io/Status;" (.ref a__VALUES) := W.2.2.2.2.2.2.2.2.2.2.2.2.2.2.2.2.2.2.2.2.2.2.2.2.2.2.2.1
theorem own_V__VALUES {Z : State} {h0 : Heap} {ad : Nat → Addr} {a__VALUES : Addr} {k__VALUES : ClassId} (W : OwnWd Z h0 ad a__VALUES k__VALUES) : Arv Z h0 a__VALUES k__VALUES (.object "com/example/limpet/limpet/io/Status") (9 : Int32) [(.ref (ad 0)), (.ref (ad 1)), (.ref (ad 2)), (.ref (ad 3)), (.ref (ad 4)), (.ref (ad 5)), (.ref (ad 6)), (.ref (ad 7)), (.ref (ad 8))] .null := W.2.2.2.2.2.2.2.2.2.2.2.2.2.2.2.2.2.2.2.2.2.2.2.2.2.2.2.2.1
theorem own_E__VALUES {Z : State} {h0 : Heap} {ad : Nat → Addr} {a__VALUES : Addr} {k__VALUES : ClassId} (W : OwnWd Z h0 ad a__VALUES k__VALUES) : Exa Z h0 a__VALUES "[Lcom/example/limpet/limpet/io/Status;" := W.2.2.2.2.2.2.2.2.2.2.2.2.2.2.2.2.2.2.2.2.2.2.2.2.2.2.2.2.2
theorem own_Wd_ext {Z : State} {h0 : Heap} {ad : Nat → Addr} {a__VALUES : Addr} {k__VALUES : ClassId} {h' : Heap} (W : OwnWd Z h0 ad a__VALUES k__VALUES) (E : Ext h0 h') : OwnWd Z h' ad a__VALUES k__VALUES := ⟨(own_S_OK W).ext E, (own_E_OK W).ext E, (own_F_OK_code W).ext E, (own_S_BAD_REQUEST W).ext E, (own_E_BAD_REQUEST W).ext E, (own_F_BAD_REQUEST_code W).ext E, (own_S_NOT_FOUND W).ext E, (own_E_NOT_FOUND W).ext E, (own_F_NOT_FOUND_code W).ext E, (own_S_FAILED W).ext E, (own_E_FAILED W).ext E, (own_F_FAILED_code W).ext E, (own_S_UNSUPPORTED_KEY W).ext E, (own_E_UNSUPPORTED_KEY W).ext E, (own_F_UNSUPPORTED_KEY_code W).ext E, (own_S_PERMISSION_DENIED W).ext E, (own_E_PERMISSION_DENIED W).ext E, (own_F_PERMISSION_DENIED_code W).ext E, (own_S_GRANT_NOT_FOUND W).ext E, (own_E_GRANT_NOT_FOUND W).ext E, (own_F_GRANT_NOT_FOUND_code W).ext E, (own_S_TOO_MANY_KEYS W).ext E, (own_E_TOO_MANY_KEYS W).ext E, (own_F_TOO_MANY_KEYS_code W).ext E, (own_S_TOO_MANY_GRANTS W).ext E, (own_E_TOO_MANY_GRANTS W).ext E, (own_F_TOO_MANY_GRANTS_code W).ext E, (own_S__VALUES W).ext E, (own_V__VALUES W).ext E, (own_E__VALUES W).ext E⟩
theorem own_d_prog_38_method_1_code_0 : decode prog_38_method_1_code 0 = .ok (.getstatic 31, 3) := by decide +kernel
theorem own_d_prog_38_method_1_code_3 : decode prog_38_method_1_code 3 = .ok (.invokevirtual 35, 3) := by decide +kernel
theorem own_d_prog_38_method_1_code_6 : decode prog_38_method_1_code 6 = .ok (.checkcast 36, 3) := by decide +kernel
theorem own_d_prog_38_method_1_code_9 : decode prog_38_method_1_code 9 = .ok (.areturn, 1) := by decide +kernel
theorem own_pn_com_example_limpet_limpet_io_Status : plainName "com/example/limpet/limpet/io/Status" = true := by first | (simp [plainName, overriddenIn]; done) | decide +kernel
theorem own_d_prog_38_method_5_code_0 : decode prog_38_method_5_code 0 = .ok (.invokestatic 54, 3) := by decide +kernel
theorem own_pd____Lcom_example_limpet_limpet_io_Status_ : parseMethodDescriptor "()[Lcom/example/limpet/limpet/io/Status;" = some ⟨[], some (.array (.object "com/example/limpet/limpet/io/Status"))⟩ := by decide +kernel
theorem own_d_prog_38_method_5_code_3 : decode prog_38_method_5_code 3 = .ok (.astore_n 1, 1) := by decide +kernel
theorem own_d_prog_38_method_5_code_4 : decode prog_38_method_5_code 4 = .ok (.aload_n 1, 1) := by decide +kernel
theorem own_d_prog_38_method_5_code_5 : decode prog_38_method_5_code 5 = .ok (.arraylength, 1) := by decide +kernel
theorem own_d_prog_38_method_5_code_6 : decode prog_38_method_5_code 6 = .ok (.istore_n 2, 1) := by decide +kernel
theorem own_d_prog_38_method_5_code_7 : decode prog_38_method_5_code 7 = .ok (.iconst 0, 1) := by decide +kernel
theorem own_d_prog_38_method_5_code_8 : decode prog_38_method_5_code 8 = .ok (.istore_n 3, 1) := by decide +kernel
theorem own_d_prog_38_method_5_code_9 : decode prog_38_method_5_code 9 = .ok (.iload_n 3, 1) := by decide +kernel
theorem own_d_prog_38_method_5_code_10 : decode prog_38_method_5_code 10 = .ok (.iload_n 2, 1) := by decide +kernel
theorem own_d_prog_38_method_5_code_11 : decode prog_38_method_5_code 11 = .ok (.if_icmp .ge 26, 3) := by decide +kernel
theorem own_d_prog_38_method_5_code_14 : decode prog_38_method_5_code 14 = .ok (.aload_n 1, 1) := by decide +kernel
theorem own_d_prog_38_method_5_code_15 : decode prog_38_method_5_code 15 = .ok (.iload_n 3, 1) := by decide +kernel
theorem own_d_prog_38_method_5_code_16 : decode prog_38_method_5_code 16 = .ok (.aaload, 1) := by decide +kernel
theorem own_d_prog_38_method_5_code_17 : decode prog_38_method_5_code 17 = .ok (.astore 4, 2) := by decide +kernel
theorem own_d_prog_38_method_5_code_19 : decode prog_38_method_5_code 19 = .ok (.aload 4, 2) := by decide +kernel
theorem own_d_prog_38_method_5_code_21 : decode prog_38_method_5_code 21 = .ok (.getfield 50, 3) := by decide +kernel
theorem own_d_prog_38_method_5_code_24 : decode prog_38_method_5_code 24 = .ok (.iload_n 0, 1) := by decide +kernel
theorem own_d_prog_38_method_5_code_25 : decode prog_38_method_5_code 25 = .ok (.if_icmp .ne 6, 3) := by decide +kernel
theorem own_d_prog_38_method_5_code_28 : decode prog_38_method_5_code 28 = .ok (.aload 4, 2) := by decide +kernel
theorem own_d_prog_38_method_5_code_30 : decode prog_38_method_5_code 30 = .ok (.areturn, 1) := by decide +kernel
theorem own_d_method_2_code_0 : decode method_2_code 0 = .ok (.iload_n 0, 1) := by decide +kernel
theorem own_d_method_2_code_1 : decode method_2_code 1 = .ok (.ifCond .ne 7, 3) := by decide +kernel
theorem own_d_method_2_code_4 : decode method_2_code 4 = .ok (.getstatic 7, 3) := by decide +kernel
theorem own_d_method_2_code_7 : decode method_2_code 7 = .ok (.areturn, 1) := by decide +kernel
theorem own_pn_com_example_limpet_limpet_io_StatusFromCodePinLaw : plainName "com/example/limpet/limpet/io/StatusFromCodePinLaw" = true := by first | (simp [plainName, overriddenIn]; done) | decide +kernel
theorem own_d_prog_38_method_4_code_0 : decode prog_38_method_4_code 0 = .ok (.aload_n 0, 1) := by decide +kernel
theorem own_d_prog_38_method_4_code_1 : decode prog_38_method_4_code 1 = .ok (.getfield 50, 3) := by decide +kernel
theorem own_d_prog_38_method_4_code_4 : decode prog_38_method_4_code 4 = .ok (.ireturn, 1) := by decide +kernel
theorem own_pd__I_Lcom_example_limpet_limpet_io_Status_ : parseMethodDescriptor "(I)Lcom/example/limpet/limpet/io/Status;" = some ⟨[.int], some (.object "com/example/limpet/limpet/io/Status")⟩ := by decide +kernel
theorem own_pd___I : parseMethodDescriptor "()I" = some ⟨[], some .int⟩ := by decide +kernel
theorem own_d_prog_38_method_5_code_31 : decode prog_38_method_5_code 31 = .ok (.iinc 3 1, 3) := by decide +kernel
theorem own_d_prog_38_method_5_code_34 : decode prog_38_method_5_code 34 = .ok (.goto (-25), 3) := by decide +kernel
theorem own_d_method_2_code_8 : decode method_2_code 8 = .ok (.iload_n 0, 1) := by decide +kernel
theorem own_d_method_2_code_9 : decode method_2_code 9 = .ok (.iconst 1, 1) := by decide +kernel
theorem own_d_method_2_code_10 : decode method_2_code 10 = .ok (.if_icmp .ne 7, 3) := by decide +kernel
theorem own_d_method_2_code_13 : decode method_2_code 13 = .ok (.getstatic 13, 3) := by decide +kernel
theorem own_d_method_2_code_16 : decode method_2_code 16 = .ok (.areturn, 1) := by decide +kernel
theorem own_d_method_2_code_17 : decode method_2_code 17 = .ok (.iload_n 0, 1) := by decide +kernel
theorem own_d_method_2_code_18 : decode method_2_code 18 = .ok (.iconst 2, 1) := by decide +kernel
theorem own_d_method_2_code_19 : decode method_2_code 19 = .ok (.if_icmp .ne 7, 3) := by decide +kernel
theorem own_d_method_2_code_22 : decode method_2_code 22 = .ok (.getstatic 16, 3) := by decide +kernel
theorem own_d_method_2_code_25 : decode method_2_code 25 = .ok (.areturn, 1) := by decide +kernel
theorem own_d_method_2_code_26 : decode method_2_code 26 = .ok (.iload_n 0, 1) := by decide +kernel
theorem own_d_method_2_code_27 : decode method_2_code 27 = .ok (.iconst 3, 1) := by decide +kernel
theorem own_d_method_2_code_28 : decode method_2_code 28 = .ok (.if_icmp .ne 7, 3) := by decide +kernel
theorem own_d_method_2_code_31 : decode method_2_code 31 = .ok (.getstatic 19, 3) := by decide +kernel
theorem own_d_method_2_code_34 : decode method_2_code 34 = .ok (.areturn, 1) := by decide +kernel
theorem own_d_method_2_code_35 : decode method_2_code 35 = .ok (.iload_n 0, 1) := by decide +kernel
theorem own_d_method_2_code_36 : decode method_2_code 36 = .ok (.iconst 4, 1) := by decide +kernel
theorem own_d_method_2_code_37 : decode method_2_code 37 = .ok (.if_icmp .ne 7, 3) := by decide +kernel
theorem own_d_method_2_code_40 : decode method_2_code 40 = .ok (.getstatic 22, 3) := by decide +kernel
theorem own_d_method_2_code_43 : decode method_2_code 43 = .ok (.areturn, 1) := by decide +kernel
theorem own_d_method_2_code_44 : decode method_2_code 44 = .ok (.iload_n 0, 1) := by decide +kernel
theorem own_d_method_2_code_45 : decode method_2_code 45 = .ok (.iconst 5, 1) := by decide +kernel
theorem own_d_method_2_code_46 : decode method_2_code 46 = .ok (.if_icmp .ne 7, 3) := by decide +kernel
theorem own_d_method_2_code_49 : decode method_2_code 49 = .ok (.getstatic 25, 3) := by decide +kernel
theorem own_d_method_2_code_52 : decode method_2_code 52 = .ok (.areturn, 1) := by decide +kernel
theorem own_d_method_2_code_53 : decode method_2_code 53 = .ok (.iload_n 0, 1) := by decide +kernel
theorem own_d_method_2_code_54 : decode method_2_code 54 = .ok (.bipush 6, 2) := by decide +kernel
theorem own_d_method_2_code_56 : decode method_2_code 56 = .ok (.if_icmp .ne 7, 3) := by decide +kernel
theorem own_d_method_2_code_59 : decode method_2_code 59 = .ok (.getstatic 28, 3) := by decide +kernel
theorem own_d_method_2_code_62 : decode method_2_code 62 = .ok (.areturn, 1) := by decide +kernel
theorem own_d_method_2_code_63 : decode method_2_code 63 = .ok (.iload_n 0, 1) := by decide +kernel
theorem own_d_method_2_code_64 : decode method_2_code 64 = .ok (.bipush 7, 2) := by decide +kernel
theorem own_d_method_2_code_66 : decode method_2_code 66 = .ok (.if_icmp .ne 7, 3) := by decide +kernel
theorem own_d_method_2_code_69 : decode method_2_code 69 = .ok (.getstatic 31, 3) := by decide +kernel
theorem own_d_method_2_code_72 : decode method_2_code 72 = .ok (.areturn, 1) := by decide +kernel
theorem own_d_method_2_code_73 : decode method_2_code 73 = .ok (.getstatic 34, 3) := by decide +kernel
theorem own_d_method_2_code_76 : decode method_2_code 76 = .ok (.areturn, 1) := by decide +kernel
def QVals (Z : State) (ad : Nat → Addr) (k__VALUES : ClassId) (h0 : Heap) (n0 : Nat) (v : Option Value) (h : Heap) (L : List Loc) : Prop := ∃ b, v = some (.ref b) ∧ h0.size ≤ b ∧ Fr n0 L ∧ Keep h0 h [] ∧ Arv Z h b k__VALUES (.object "com/example/limpet/limpet/io/Status") (9 : Int32) [(.ref (ad 0)), (.ref (ad 1)), (.ref (ad 2)), (.ref (ad 3)), (.ref (ad 4)), (.ref (ad 5)), (.ref (ad 6)), (.ref (ad 7)), (.ref (ad 8))] .null
def QK (r : Option Value) (h0 : Heap) (n0 : Nat) (v : Option Value) (h : Heap) (L : List Loc) : Prop := v = r ∧ Fr n0 L ∧ Keep h0 h []
theorem own_ef_own_vals (m : MethodId)  : entryFrame m #[] 0 = mkF m 0 #[] [] := by first | (simp [entryFrame, mkF, argsToLocals, Value.category, maxLocals]; done) | rfl
set_option maxRecDepth 65536 in
set_option maxHeartbeats 40000000 in
theorem own_vals (l : Launch) (Z : State) (a0 : Array Value) (hw : ∀ d ∈ tables_1, d.before a0 Z = true) (ws : List Jvm.Cond) (h0 : Heap) (n0 : Nat) (Z0 : n0 ≤ h0.size) (ad : Nat → Addr) (a__VALUES : Addr) (k__VALUES : ClassId) (W : OwnWd Z h0 ad a__VALUES k__VALUES) :
    MetFree l (⟨"com/example/limpet/limpet/io/Status", "values", "()[Lcom/example/limpet/limpet/io/Status;"⟩ : MethodName) (head1 (Jvm.Cond.code (⟨"com/example/limpet/limpet/io/Status", "values", "()[Lcom/example/limpet/limpet/io/Status;"⟩ : MethodName) prog_38_method_1_code 0 (some (.array (.object "com/example/limpet/limpet/io/Status"))) :: ws) ({ frames := 1, cells := 1, slots := 9, locals := 14 } : Room)) (fun a U => a = #[] ∧ Z.Warmed39 U.vm ∧ U.heap = h0) (fun _ _ _ _ _ => True) (fun _ U o U' => ∃ v L, o = .returned v ∧ QVals Z ad k__VALUES h0 n0 v U'.heap L ∧ FrameEnd U o U' L ({ frames := 1, cells := 1, slots := 9, locals := 14 } : Room).cells ({ frames := 1, cells := 1, slots := 9, locals := 14 } : Room).slots) := by
  refine MetFree.of_bodySF (plainFor_of_name own_pn_com_example_limpet_limpet_io_Status) hisR ?_
  intro p e s m args below meth c s₁ Bd hml0 hP hK
  obtain ⟨rfl, hZ, hh⟩ := hP
  have hx := Bd.exec
  have hby := Bd.bytes
  have hml : c.maxLocals = 0 := hml0
  have hown : s.vm.findClass "com/example/limpet/limpet/io/Status" = some m.cls := findClass_of_methodNamed Bd.named
  have hnm := (name_of_methodNamed Bd.named Bd.method).1
  have X0 : Stand p l e ({ frames := 1, cells := 1, slots := 9, locals := 14 } : Room) s m #[] below meth c s₁ [] 0 0 := Stand.of_body Bd
  have e0 : s₁.heap = h0 := by rw [← hh, Bd.state]; rfl
  have N0 := Fr.nil n0
  have pre0 : ∀ t, Steps p.tables e below (s₁.setTop (mkF m 0 #[] [])) t → Steps p.tables e below (s₁.setTop (entryFrame m #[] 0)) t := fun t k => castTop (own_ef_own_vals m) k
  obtain ⟨T1, X1, e1, st1⟩ := getS2 X0 hx hZ hown (host := "") (Or.inl (hw _ (List.mem_of_getElem? (i := 8) rfl))) Via.refl e0 (own_S__VALUES W) (g := (mkF m 0 #[] [])) rfl (hb hby own_d_prog_38_method_1_code_0)
  have ch2 : ∀ t, Steps p.tables e below (T1.setTop (mkF m 3 #[] [(.ref a__VALUES)])) t → Steps p.tables e below (s₁.setTop (entryFrame m #[] 0)) t := fun t k => pre0 t (by
      show Steps p.tables e below (s₁.setTop (mkF m 0 #[] [])) t
      exact st1 t k)
  obtain ⟨cl3, Ar3, qq3, Sz3, Ng3, Ha3, Ga3⟩ := id (own_V__VALUES W)
  obtain ⟨T4, hp4, X4, e4, E4, A4, B4, st4⟩ := cloneA X1 hx hZ hown (hw _ (List.mem_of_getElem? (i := 10) rfl)) (hw _ (List.mem_of_getElem? (i := 11) rfl)) (hw _ (List.mem_of_getElem? (i := 15) rfl)) (hw _ (List.mem_of_getElem? (i := 13) rfl)) (hw _ (List.mem_of_getElem? (i := 14) rfl)) (hw _ (List.mem_of_getElem? (i := 16) rfl)) e1 Ar3 (own_E__VALUES W) (own_fitc Ar3 Ha3 Ga3) (g := (mkF m 3 #[] [(.ref a__VALUES)])) rfl (by rw [hml]; rfl) rfl (hb hby own_d_prog_38_method_1_code_3) (by decide) (W := 0) (cap := 9) (by show 2 * 0 + _ ≤ _; exact Nat.le_of_eq rfl) (by decide) (by rw [Sz3]; decide) (by decide) (by decide)
  obtain ⟨b4, g4⟩ : ∃ z, z = h0.size := ⟨_, rfl⟩
  rw [← g4] at A4 B4 st4
  have ne_ad0_b4 : (ad 0) ≠ b4 := Nat.ne_of_lt (Nat.lt_of_lt_of_le (own_E_OK W).lt (Nat.le_of_eq g4.symm))
  have ne_ad1_b4 : (ad 1) ≠ b4 := Nat.ne_of_lt (Nat.lt_of_lt_of_le (own_E_BAD_REQUEST W).lt (Nat.le_of_eq g4.symm))
  have ne_ad2_b4 : (ad 2) ≠ b4 := Nat.ne_of_lt (Nat.lt_of_lt_of_le (own_E_NOT_FOUND W).lt (Nat.le_of_eq g4.symm))
  have ne_ad3_b4 : (ad 3) ≠ b4 := Nat.ne_of_lt (Nat.lt_of_lt_of_le (own_E_FAILED W).lt (Nat.le_of_eq g4.symm))
  have ne_ad4_b4 : (ad 4) ≠ b4 := Nat.ne_of_lt (Nat.lt_of_lt_of_le (own_E_UNSUPPORTED_KEY W).lt (Nat.le_of_eq g4.symm))
  have ne_ad5_b4 : (ad 5) ≠ b4 := Nat.ne_of_lt (Nat.lt_of_lt_of_le (own_E_PERMISSION_DENIED W).lt (Nat.le_of_eq g4.symm))
  have ne_ad6_b4 : (ad 6) ≠ b4 := Nat.ne_of_lt (Nat.lt_of_lt_of_le (own_E_GRANT_NOT_FOUND W).lt (Nat.le_of_eq g4.symm))
  have ne_ad7_b4 : (ad 7) ≠ b4 := Nat.ne_of_lt (Nat.lt_of_lt_of_le (own_E_TOO_MANY_KEYS W).lt (Nat.le_of_eq g4.symm))
  have ne_ad8_b4 : (ad 8) ≠ b4 := Nat.ne_of_lt (Nat.lt_of_lt_of_le (own_E_TOO_MANY_GRANTS W).lt (Nat.le_of_eq g4.symm))
  have ne_a__VALUES_b4 : a__VALUES ≠ b4 := Nat.ne_of_lt (Nat.lt_of_lt_of_le (own_V__VALUES W).lt (Nat.le_of_eq g4.symm))
  have g_b4 : n0 ≤ b4 := Nat.le_trans (Nat.le_trans Z0 (Keep.refl h0 []).1) (Nat.le_of_eq g4.symm)
  have sz_b4 : h0.size ≤ b4 := Nat.le_trans (Keep.refl h0 []).1 (Nat.le_of_eq g4.symm)
  have Kp4 := Keep.ext (Keep.refl h0 []) E4
  have V4 : Arv Z hp4 b4 k__VALUES (.object "com/example/limpet/limpet/io/Status") (9 : Int32) [(.ref (ad 0)), (.ref (ad 1)), (.ref (ad 2)), (.ref (ad 3)), (.ref (ad 4)), (.ref (ad 5)), (.ref (ad 6)), (.ref (ad 7)), (.ref (ad 8))] .null := ⟨_, A4, qq3, Sz3, Ng3, Ha3, Ga3⟩
  have ch5 : ∀ t, Steps p.tables e below (T4.setTop (mkF m 6 #[] [(.ref b4)])) t → Steps p.tables e below (s₁.setTop (entryFrame m #[] 0)) t := fun t k => ch2 t (by
      show Steps p.tables e below (T1.setTop (mkF m 3 #[] [(.ref a__VALUES)])) t
      exact st4 t k)
  obtain ⟨T6, X6, e6, st6⟩ := castY X4 hx hZ hown (hw _ (List.mem_of_getElem? (i := 27) rfl)) e4 (Ins.self B4) (g := (mkF m 6 #[] [(.ref b4)])) rfl rfl (hb hby own_d_prog_38_method_1_code_6)
  have ch7 : ∀ t, Steps p.tables e below (T6.setTop (mkF m 9 #[] [(.ref b4)])) t → Steps p.tables e below (s₁.setTop (entryFrame m #[] 0)) t := fun t k => ch5 t (by
      show Steps p.tables e below (T4.setTop (mkF m 6 #[] [(.ref b4)])) t
      exact st6 t k)
  obtain ⟨fs, hr, hrun, hended, hW, hsame⟩ := X6.leave (v := some (.ref b4)) (fun h => by rw [Bd.returns] at h; cases h)
  refine ⟨_, _, ch7 _ ?_, hrun, hended, _, _, rfl, ?_, ⟨_, rfl⟩, hW, hsame.mono (by decide) (by decide)⟩
  · show Steps p.tables e below (T6.setTop (mkF m 9 #[] [(.ref b4)])) _
    jvm_step X6.here [X6.here.top, hx, (hb hby own_d_prog_38_method_1_code_9), X6.method', Bd.returns, Value.isRef, FieldType.isReference]
    first | (intro acts; rw [hr _ acts rfl rfl rfl]) | rw [hr _ _ rfl rfl rfl]
    exact Steps.refl _
  · show QVals Z ad k__VALUES h0 n0 _ T6.heap _
    rw [e6]
    exact ⟨_, rfl, sz_b4, N0, Kp4, V4⟩
theorem own_ef_own_from_0 (m : MethodId) {x0 : Int32} : entryFrame m #[(.int x0)] 5 = mkF m 0 #[.val (.int x0), .unset, .unset, .unset, .unset] [] := by first | (simp [entryFrame, mkF, argsToLocals, Value.category, maxLocals]; done) | rfl
set_option maxRecDepth 65536 in
set_option maxHeartbeats 40000000 in
theorem own_from_0 (l : Launch) (Z : State) (a0 : Array Value) (hw : ∀ d ∈ tables_1, d.before a0 Z = true) (ws : List Jvm.Cond) (h0 : Heap) (n0 : Nat) (Z0 : n0 ≤ h0.size) (ad : Nat → Addr) (a__VALUES : Addr) (k__VALUES : ClassId) (W : OwnWd Z h0 ad a__VALUES k__VALUES) :
    MetFree l (⟨"com/example/limpet/limpet/io/Status", "fromCode", "(I)Lcom/example/limpet/limpet/io/Status;"⟩ : MethodName) (head1 (Jvm.Cond.code (⟨"com/example/limpet/limpet/io/Status", "fromCode", "(I)Lcom/example/limpet/limpet/io/Status;"⟩ : MethodName) prog_38_method_5_code 5 (some (.object "com/example/limpet/limpet/io/Status")) :: ws) ({ frames := 2, cells := 1, slots := 9, locals := 25 } : Room)) (fun a U => a = #[(.int (0 : Int32))] ∧ Z.Warmed39 U.vm ∧ U.heap = h0) (fun _ _ _ _ _ => True) (fun _ U o U' => ∃ v L, o = .returned v ∧ QK (some (.ref (ad 0))) h0 n0 v U'.heap L ∧ FrameEnd U o U' L ({ frames := 2, cells := 1, slots := 9, locals := 25 } : Room).cells ({ frames := 2, cells := 1, slots := 9, locals := 25 } : Room).slots) := by
  refine MetFree.of_bodySF (plainFor_of_name own_pn_com_example_limpet_limpet_io_Status) hisR ?_
  intro p e s m args below meth c s₁ Bd hml0 hP hK
  obtain ⟨rfl, hZ, hh⟩ := hP
  have hx := Bd.exec
  have hby := Bd.bytes
  have hml : c.maxLocals = 5 := hml0
  have hown : s.vm.findClass "com/example/limpet/limpet/io/Status" = some m.cls := findClass_of_methodNamed Bd.named
  have hnm := (name_of_methodNamed Bd.named Bd.method).1
  have X0 : Stand p l e ({ frames := 2, cells := 1, slots := 9, locals := 25 } : Room) s m #[(.int (0 : Int32))] below meth c s₁ [] 0 0 := Stand.of_body Bd
  have e0 : s₁.heap = h0 := by rw [← hh, Bd.state]; rfl
  have N0 := Fr.nil n0
  have pre0 : ∀ t, Steps p.tables e below (s₁.setTop (mkF m 0 #[.val (.int (0 : Int32)), .unset, .unset, .unset, .unset] [])) t → Steps p.tables e below (s₁.setTop (entryFrame m #[(.int (0 : Int32))] 5)) t := fun t k => castTop (own_ef_own_from_0 m) k
  obtain ⟨vv1, _, ⟨T1, L1, kk1, nn1⟩, -, X1, ⟨Lc1, hQ1, l1, y1, z1⟩, st1⟩ := Jvm.LawKit.callS X0 hx (y := (⟨"com/example/limpet/limpet/io/Status", "values", "()[Lcom/example/limpet/limpet/io/Status;"⟩ : MethodName)) hown (mvT hZ (hw _ (List.mem_of_getElem? (i := 5) rfl))) (mvT hZ (hw _ (List.mem_of_getElem? (i := 6) rfl))) (mvT hZ (hw _ (List.mem_of_getElem? (i := 3) rfl))) (mvT hZ (hw _ (List.mem_of_getElem? (i := 7) rfl))) (by decide) (backOf (W := 0) (own_vals l Z a0 hw [] h0 n0 (Nat.le_trans Z0 (Keep.refl h0 []).1) ad a__VALUES k__VALUES W) hZ (hw _ (List.mem_of_getElem? (i := 7) rfl)) (hw _ (List.mem_of_getElem? (i := 3) rfl)) (by decide) (by decide)) (g := (mkF m 0 #[.val (.int (0 : Int32)), .unset, .unset, .unset, .unset] [])) rfl (by rw [hml]; rfl) (argsL := []) (rest := []) (lenOf own_pd____Lcom_example_limpet_limpet_io_Status_ rfl) rfl (by show 2 * 0 + _ ≤ _; exact Nat.le_of_eq rfl) (hb hby own_d_prog_38_method_5_code_0) (fun _ _ => ⟨rfl, e0, (by decide : 0 + 1 ≤ _), (by decide : 0 + 9 ≤ _)⟩)
  dsimp only [Pt.U, Pt.locs, Pt.cells, Pt.slots] at X1 l1 y1 z1 st1 hQ1
  subst l1 y1 z1
  obtain ⟨hh1, eh1⟩ : ∃ h, T1.heap = h := ⟨_, rfl⟩
  rw [eh1] at hQ1
  obtain ⟨rv, rfl, zq1, Nq1, Kq1, fq1_0⟩ := hQ1
  have N1 := Fr.app N0 Nq1
  have ne_ad0_rv : (ad 0) ≠ rv := Nat.ne_of_lt (Nat.lt_of_lt_of_le (own_E_OK W).lt zq1)
  have ne_ad1_rv : (ad 1) ≠ rv := Nat.ne_of_lt (Nat.lt_of_lt_of_le (own_E_BAD_REQUEST W).lt zq1)
  have ne_ad2_rv : (ad 2) ≠ rv := Nat.ne_of_lt (Nat.lt_of_lt_of_le (own_E_NOT_FOUND W).lt zq1)
  have ne_ad3_rv : (ad 3) ≠ rv := Nat.ne_of_lt (Nat.lt_of_lt_of_le (own_E_FAILED W).lt zq1)
  have ne_ad4_rv : (ad 4) ≠ rv := Nat.ne_of_lt (Nat.lt_of_lt_of_le (own_E_UNSUPPORTED_KEY W).lt zq1)
  have ne_ad5_rv : (ad 5) ≠ rv := Nat.ne_of_lt (Nat.lt_of_lt_of_le (own_E_PERMISSION_DENIED W).lt zq1)
  have ne_ad6_rv : (ad 6) ≠ rv := Nat.ne_of_lt (Nat.lt_of_lt_of_le (own_E_GRANT_NOT_FOUND W).lt zq1)
  have ne_ad7_rv : (ad 7) ≠ rv := Nat.ne_of_lt (Nat.lt_of_lt_of_le (own_E_TOO_MANY_KEYS W).lt zq1)
  have ne_ad8_rv : (ad 8) ≠ rv := Nat.ne_of_lt (Nat.lt_of_lt_of_le (own_E_TOO_MANY_GRANTS W).lt zq1)
  have ne_a__VALUES_rv : a__VALUES ≠ rv := Nat.ne_of_lt (Nat.lt_of_lt_of_le (own_V__VALUES W).lt zq1)
  have g_rv : n0 ≤ rv := Nat.le_trans (Nat.le_trans Z0 (Keep.refl h0 []).1) zq1
  have sz_rv : h0.size ≤ rv := Nat.le_trans (Keep.refl h0 []).1 zq1
  have Kp1 := Keep.trans (Keep.refl h0 []) Kq1 all0
  have ch2 : ∀ t, Steps p.tables e below (T1.setTop (mkF m 3 #[.val (.int (0 : Int32)), .unset, .unset, .unset, .unset] [(.ref rv)])) t → Steps p.tables e below (s₁.setTop (entryFrame m #[(.int (0 : Int32))] 5)) t := fun t k => pre0 t (by
      show Steps p.tables e below (s₁.setTop (mkF m 0 #[.val (.int (0 : Int32)), .unset, .unset, .unset, .unset] [])) t
      exact st1 t k)
  obtain ⟨cl3, Ar3, -, Sz3, Ng3, -, -⟩ := id fq1_0
  obtain ⟨cl4, Ar4, -, Sz4, Ng4, Ha4, -⟩ := id fq1_0
  have hin4 : ¬ ((0 : Int32) < 0 ∨ cl4.slots.size ≤ ((0 : Int32)).toNatClampNeg) := inb_of Sz4 (by decide)
  have hat4 : cl4.slots[((0 : Int32)).toNatClampNeg]? = some (.ref (ad 0)) := Ha4.at hin4 rfl
  have cf5 := ((own_F_OK_code W).keep Kp1 nin0)
  obtain ⟨T6, X6, e6, st6⟩ := getF X1 hx hZ hown (host := "") (Or.inl (hw _ (List.mem_of_getElem? (i := 29) rfl))) Via.refl eh1 cf5 (g := (mkF m 21 #[.val (.int (0 : Int32)), .val (.ref rv), .val (.int (9 : Int32)), .val (.int (0 : Int32)), .val (.ref (ad 0))] [(.ref (ad 0))])) rfl rfl (hb hby own_d_prog_38_method_5_code_21)
  have ch7 : ∀ t, Steps p.tables e below (T6.setTop (mkF m 24 #[.val (.int (0 : Int32)), .val (.ref rv), .val (.int (9 : Int32)), .val (.int (0 : Int32)), .val (.ref (ad 0))] [(.int (0 : Int32))])) t → Steps p.tables e below (s₁.setTop (entryFrame m #[(.int (0 : Int32))] 5)) t := fun t k => ch2 t (by
      show Steps p.tables e below (T1.setTop (mkF m 3 #[.val (.int (0 : Int32)), .unset, .unset, .unset, .unset] [(.ref rv)])) t
      refine XS.astoreN X1.here hx rfl (hb hby own_d_prog_38_method_5_code_3) rfl rfl (l' := #[.val (.int (0 : Int32)), .val (.ref rv), .unset, .unset, .unset]) rfl ?_
      show Steps p.tables e below (T1.setTop (mkF m 4 #[.val (.int (0 : Int32)), .val (.ref rv), .unset, .unset, .unset] [])) t
      refine XS.aloadN X1.here hx rfl (hb hby own_d_prog_38_method_5_code_4) rfl rfl ?_
      show Steps p.tables e below (T1.setTop (mkF m 5 #[.val (.int (0 : Int32)), .val (.ref rv), .unset, .unset, .unset] [(.ref rv)])) t
      refine X1.arraylength hx (by rw [eh1]; exact Ar3.1) (State.isArrayOf_alike hZ.alike Ar3.2.1) (g := (mkF m 5 #[.val (.int (0 : Int32)), .val (.ref rv), .unset, .unset, .unset] [(.ref rv)])) rfl rfl (hb hby own_d_prog_38_method_5_code_5) _ ?_
      rw [len_of Sz3 Ng3]
      show Steps p.tables e below (T1.setTop (mkF m 6 #[.val (.int (0 : Int32)), .val (.ref rv), .unset, .unset, .unset] [(.int (9 : Int32))])) t
      refine XS.istoreN X1.here hx rfl (hb hby own_d_prog_38_method_5_code_6) rfl (l' := #[.val (.int (0 : Int32)), .val (.ref rv), .val (.int (9 : Int32)), .unset, .unset]) rfl ?_
      show Steps p.tables e below (T1.setTop (mkF m 7 #[.val (.int (0 : Int32)), .val (.ref rv), .val (.int (9 : Int32)), .unset, .unset] [])) t
      refine XS.iconst X1.here hx rfl (hb hby own_d_prog_38_method_5_code_7) ?_
      show Steps p.tables e below (T1.setTop (mkF m 8 #[.val (.int (0 : Int32)), .val (.ref rv), .val (.int (9 : Int32)), .unset, .unset] [(.int (0 : Int32))])) t
      refine XS.istoreN X1.here hx rfl (hb hby own_d_prog_38_method_5_code_8) rfl (l' := #[.val (.int (0 : Int32)), .val (.ref rv), .val (.int (9 : Int32)), .val (.int (0 : Int32)), .unset]) rfl ?_
      show Steps p.tables e below (T1.setTop (mkF m 9 #[.val (.int (0 : Int32)), .val (.ref rv), .val (.int (9 : Int32)), .val (.int (0 : Int32)), .unset] [])) t
      refine XS.iloadN X1.here hx rfl (hb hby own_d_prog_38_method_5_code_9) rfl ?_
      show Steps p.tables e below (T1.setTop (mkF m 10 #[.val (.int (0 : Int32)), .val (.ref rv), .val (.int (9 : Int32)), .val (.int (0 : Int32)), .unset] [(.int (0 : Int32))])) t
      refine XS.iloadN X1.here hx rfl (hb hby own_d_prog_38_method_5_code_10) rfl ?_
      show Steps p.tables e below (T1.setTop (mkF m 11 #[.val (.int (0 : Int32)), .val (.ref rv), .val (.int (9 : Int32)), .val (.int (0 : Int32)), .unset] [(.int (9 : Int32)), (.int (0 : Int32))])) t
      refine XS.icmpNo X1.here hx rfl (hb hby own_d_prog_38_method_5_code_11) rfl (tlt (by decide : (0 : Int32) < (9 : Int32))).2.1 ?_
      show Steps p.tables e below (T1.setTop (mkF m 14 #[.val (.int (0 : Int32)), .val (.ref rv), .val (.int (9 : Int32)), .val (.int (0 : Int32)), .unset] [])) t
      refine XS.aloadN X1.here hx rfl (hb hby own_d_prog_38_method_5_code_14) rfl rfl ?_
      show Steps p.tables e below (T1.setTop (mkF m 15 #[.val (.int (0 : Int32)), .val (.ref rv), .val (.int (9 : Int32)), .val (.int (0 : Int32)), .unset] [(.ref rv)])) t
      refine XS.iloadN X1.here hx rfl (hb hby own_d_prog_38_method_5_code_15) rfl ?_
      show Steps p.tables e below (T1.setTop (mkF m 16 #[.val (.int (0 : Int32)), .val (.ref rv), .val (.int (9 : Int32)), .val (.int (0 : Int32)), .unset] [(.int (0 : Int32)), (.ref rv)])) t
      refine X1.aaload hx (j := (0 : Int32)) (v := (.ref (ad 0))) (by rw [eh1]; exact Ar4.1) (State.isArrayOf_alike hZ.alike Ar4.2.1) rfl Ar4.2.2 hin4 hat4 (g := (mkF m 16 #[.val (.int (0 : Int32)), .val (.ref rv), .val (.int (9 : Int32)), .val (.int (0 : Int32)), .unset] [(.int (0 : Int32)), (.ref rv)])) rfl rfl (hb hby own_d_prog_38_method_5_code_16) _ ?_
      show Steps p.tables e below (T1.setTop (mkF m 17 #[.val (.int (0 : Int32)), .val (.ref rv), .val (.int (9 : Int32)), .val (.int (0 : Int32)), .unset] [(.ref (ad 0))])) t
      refine XS.astore X1.here hx rfl (hb hby own_d_prog_38_method_5_code_17) rfl rfl (l' := #[.val (.int (0 : Int32)), .val (.ref rv), .val (.int (9 : Int32)), .val (.int (0 : Int32)), .val (.ref (ad 0))]) rfl ?_
      show Steps p.tables e below (T1.setTop (mkF m 19 #[.val (.int (0 : Int32)), .val (.ref rv), .val (.int (9 : Int32)), .val (.int (0 : Int32)), .val (.ref (ad 0))] [])) t
      refine XS.aload X1.here hx rfl (hb hby own_d_prog_38_method_5_code_19) rfl rfl ?_
      show Steps p.tables e below (T1.setTop (mkF m 21 #[.val (.int (0 : Int32)), .val (.ref rv), .val (.int (9 : Int32)), .val (.int (0 : Int32)), .val (.ref (ad 0))] [(.ref (ad 0))])) t
      exact st6 t k)
  have ch8 : ∀ t, Steps p.tables e below (T6.setTop (mkF m 30 #[.val (.int (0 : Int32)), .val (.ref rv), .val (.int (9 : Int32)), .val (.int (0 : Int32)), .val (.ref (ad 0))] [(.ref (ad 0))])) t → Steps p.tables e below (s₁.setTop (entryFrame m #[(.int (0 : Int32))] 5)) t := fun t k => ch7 t (by
      show Steps p.tables e below (T6.setTop (mkF m 24 #[.val (.int (0 : Int32)), .val (.ref rv), .val (.int (9 : Int32)), .val (.int (0 : Int32)), .val (.ref (ad 0))] [(.int (0 : Int32))])) t
      refine XS.iloadN X6.here hx rfl (hb hby own_d_prog_38_method_5_code_24) rfl ?_
      show Steps p.tables e below (T6.setTop (mkF m 25 #[.val (.int (0 : Int32)), .val (.ref rv), .val (.int (9 : Int32)), .val (.int (0 : Int32)), .val (.ref (ad 0))] [(.int (0 : Int32)), (.int (0 : Int32))])) t
      refine XS.icmpNo X6.here hx rfl (hb hby own_d_prog_38_method_5_code_25) rfl (teq (by decide : (0 : Int32) = (0 : Int32))).2 ?_
      show Steps p.tables e below (T6.setTop (mkF m 28 #[.val (.int (0 : Int32)), .val (.ref rv), .val (.int (9 : Int32)), .val (.int (0 : Int32)), .val (.ref (ad 0))] [])) t
      refine XS.aload X6.here hx rfl (hb hby own_d_prog_38_method_5_code_28) rfl rfl ?_
      exact k)
  obtain ⟨fs, hr, hrun, hended, hW, hsame⟩ := X6.leave (v := some (.ref (ad 0))) (fun h => by rw [Bd.returns] at h; cases h)
  refine ⟨_, _, ch8 _ ?_, hrun, hended, _, _, rfl, ?_, ⟨_, rfl⟩, hW, hsame.mono (by decide) (by decide)⟩
  · show Steps p.tables e below (T6.setTop (mkF m 30 #[.val (.int (0 : Int32)), .val (.ref rv), .val (.int (9 : Int32)), .val (.int (0 : Int32)), .val (.ref (ad 0))] [(.ref (ad 0))])) _
    jvm_step X6.here [X6.here.top, hx, (hb hby own_d_prog_38_method_5_code_30), X6.method', Bd.returns, Value.isRef, FieldType.isReference]
    first | (intro acts; rw [hr _ acts rfl rfl rfl]) | rw [hr _ _ rfl rfl rfl]
    exact Steps.refl _
  · show QK (some (.ref (ad 0))) h0 n0 _ T6.heap _
    rw [e6]
    exact ⟨rfl, N1, Kp1⟩
theorem own_ef_own_expd_0 (m : MethodId) {x0 : Int32} : entryFrame m #[(.int x0)] 1 = mkF m 0 #[.val (.int x0)] [] := by first | (simp [entryFrame, mkF, argsToLocals, Value.category, maxLocals]; done) | rfl
set_option maxRecDepth 65536 in
set_option maxHeartbeats 40000000 in
theorem own_expd_0 (l : Launch) (Z : State) (a0 : Array Value) (hw : ∀ d ∈ tables_1, d.before a0 Z = true) (ws : List Jvm.Cond) (h0 : Heap) (n0 : Nat) (Z0 : n0 ≤ h0.size) (ad : Nat → Addr) (a__VALUES : Addr) (k__VALUES : ClassId) (W : OwnWd Z h0 ad a__VALUES k__VALUES) :
    MetFree l (⟨"com/example/limpet/limpet/io/StatusFromCodePinLaw", "expected", "(I)Lcom/example/limpet/limpet/io/Status;"⟩ : MethodName) (head1 (Jvm.Cond.code (⟨"com/example/limpet/limpet/io/StatusFromCodePinLaw", "expected", "(I)Lcom/example/limpet/limpet/io/Status;"⟩ : MethodName) method_2_code 1 (some (.object "com/example/limpet/limpet/io/Status")) :: ws) ({ frames := 0, cells := 0, slots := 0, locals := 0 } : Room)) (fun a U => a = #[(.int (0 : Int32))] ∧ Z.Warmed39 U.vm ∧ U.heap = h0) (fun _ _ _ _ _ => True) (fun _ U o U' => ∃ v L, o = .returned v ∧ QV (some (.ref (ad 0))) h0 n0 v U'.heap L ∧ FrameEnd U o U' L ({ frames := 0, cells := 0, slots := 0, locals := 0 } : Room).cells ({ frames := 0, cells := 0, slots := 0, locals := 0 } : Room).slots) := by
  refine MetFree.of_bodySF (plainFor_of_name own_pn_com_example_limpet_limpet_io_StatusFromCodePinLaw) hisR ?_
  intro p e s m args below meth c s₁ Bd hml0 hP hK
  obtain ⟨rfl, hZ, hh⟩ := hP
  have hx := Bd.exec
  have hby := Bd.bytes
  have hml : c.maxLocals = 1 := hml0
  have hown : s.vm.findClass "com/example/limpet/limpet/io/StatusFromCodePinLaw" = some m.cls := findClass_of_methodNamed Bd.named
  have hnm := (name_of_methodNamed Bd.named Bd.method).1
  have X0 : Stand p l e ({ frames := 0, cells := 0, slots := 0, locals := 0 } : Room) s m #[(.int (0 : Int32))] below meth c s₁ [] 0 0 := Stand.of_body Bd
  have e0 : s₁.heap = h0 := by rw [← hh, Bd.state]; rfl
  have N0 := Fr.nil n0
  have pre0 : ∀ t, Steps p.tables e below (s₁.setTop (mkF m 0 #[.val (.int (0 : Int32))] [])) t → Steps p.tables e below (s₁.setTop (entryFrame m #[(.int (0 : Int32))] 1)) t := fun t k => castTop (own_ef_own_expd_0 m) k
  obtain ⟨T1, X1, e1, st1⟩ := getS2 X0 hx hZ hown (host := "") (Or.inl (hw _ (List.mem_of_getElem? (i := 35) rfl))) Via.refl e0 (own_S_OK W) (g := (mkF m 4 #[.val (.int (0 : Int32))] [])) rfl (hb hby own_d_method_2_code_4)
  have ch2 : ∀ t, Steps p.tables e below (T1.setTop (mkF m 7 #[.val (.int (0 : Int32))] [(.ref (ad 0))])) t → Steps p.tables e below (s₁.setTop (entryFrame m #[(.int (0 : Int32))] 1)) t := fun t k => pre0 t (by
      show Steps p.tables e below (s₁.setTop (mkF m 0 #[.val (.int (0 : Int32))] [])) t
      refine XS.iloadN X0.here hx rfl (hb hby own_d_method_2_code_0) rfl ?_
      show Steps p.tables e below (s₁.setTop (mkF m 1 #[.val (.int (0 : Int32))] [(.int (0 : Int32))])) t
      refine XS.ifNo X0.here hx rfl (hb hby own_d_method_2_code_1) rfl ((if0 _ _).trans (teq (by decide : (0 : Int32) = (0 : Int32))).2) ?_
      show Steps p.tables e below (s₁.setTop (mkF m 4 #[.val (.int (0 : Int32))] [])) t
      exact st1 t k)
  obtain ⟨fs, hr, hrun, hended, hW, hsame⟩ := X1.leave (v := some (.ref (ad 0))) (fun h => by rw [Bd.returns] at h; cases h)
  refine ⟨_, _, ch2 _ ?_, hrun, hended, _, _, rfl, ?_, ⟨_, rfl⟩, hW, hsame.mono (by decide) (by decide)⟩
  · show Steps p.tables e below (T1.setTop (mkF m 7 #[.val (.int (0 : Int32))] [(.ref (ad 0))])) _
    jvm_step X1.here [X1.here.top, hx, (hb hby own_d_method_2_code_7), X1.method', Bd.returns, Value.isRef, FieldType.isReference]
    first | (intro acts; rw [hr _ acts rfl rfl rfl]) | rw [hr _ _ rfl rfl rfl]
    exact Steps.refl _
  · show QV (some (.ref (ad 0))) h0 n0 _ T1.heap _
    rw [e1]
    exact ⟨rfl, N0, rfl⟩
theorem own_ef_own_code_0 (m : MethodId) {x0 : Addr} : entryFrame m #[(.ref x0)] 1 = mkF m 0 #[.val (.ref x0)] [] := by first | (simp [entryFrame, mkF, argsToLocals, Value.category, maxLocals]; done) | rfl
set_option maxRecDepth 65536 in
set_option maxHeartbeats 40000000 in
theorem own_code_0 (l : Launch) (Z : State) (a0 : Array Value) (hw : ∀ d ∈ tables_1, d.before a0 Z = true) (ws : List Jvm.Cond) (h0 : Heap) (n0 : Nat) (Z0 : n0 ≤ h0.size) (ad : Nat → Addr) (a__VALUES : Addr) (k__VALUES : ClassId) (W : OwnWd Z h0 ad a__VALUES k__VALUES) :
    MetFree l (⟨"com/example/limpet/limpet/io/Status", "code", "()I"⟩ : MethodName) (head1 (Jvm.Cond.code (⟨"com/example/limpet/limpet/io/Status", "code", "()I"⟩ : MethodName) prog_38_method_4_code 1 (some .int) :: ws) ({ frames := 0, cells := 0, slots := 0, locals := 0 } : Room)) (fun a U => a = #[(.ref (ad 0))] ∧ Z.Warmed39 U.vm ∧ U.heap = h0) (fun _ _ _ _ _ => True) (fun _ U o U' => ∃ v L, o = .returned v ∧ QV (some (.int (0 : Int32))) h0 n0 v U'.heap L ∧ FrameEnd U o U' L ({ frames := 0, cells := 0, slots := 0, locals := 0 } : Room).cells ({ frames := 0, cells := 0, slots := 0, locals := 0 } : Room).slots) := by
  refine MetFree.of_bodySF (plainFor_of_name own_pn_com_example_limpet_limpet_io_Status) hisR ?_
  intro p e s m args below meth c s₁ Bd hml0 hP hK
  obtain ⟨rfl, hZ, hh⟩ := hP
  have hx := Bd.exec
  have hby := Bd.bytes
  have hml : c.maxLocals = 1 := hml0
  have hown : s.vm.findClass "com/example/limpet/limpet/io/Status" = some m.cls := findClass_of_methodNamed Bd.named
  have hnm := (name_of_methodNamed Bd.named Bd.method).1
  have X0 : Stand p l e ({ frames := 0, cells := 0, slots := 0, locals := 0 } : Room) s m #[(.ref (ad 0))] below meth c s₁ [] 0 0 := Stand.of_body Bd
  have e0 : s₁.heap = h0 := by rw [← hh, Bd.state]; rfl
  have N0 := Fr.nil n0
  have pre0 : ∀ t, Steps p.tables e below (s₁.setTop (mkF m 0 #[.val (.ref (ad 0))] [])) t → Steps p.tables e below (s₁.setTop (entryFrame m #[(.ref (ad 0))] 1)) t := fun t k => castTop (own_ef_own_code_0 m) k
  obtain ⟨T1, X1, e1, st1⟩ := getF X0 hx hZ hown (host := "") (Or.inl (hw _ (List.mem_of_getElem? (i := 29) rfl))) Via.refl e0 (own_F_OK_code W) (g := (mkF m 1 #[.val (.ref (ad 0))] [(.ref (ad 0))])) rfl rfl (hb hby own_d_prog_38_method_4_code_1)
  have ch2 : ∀ t, Steps p.tables e below (T1.setTop (mkF m 4 #[.val (.ref (ad 0))] [(.int (0 : Int32))])) t → Steps p.tables e below (s₁.setTop (entryFrame m #[(.ref (ad 0))] 1)) t := fun t k => pre0 t (by
      show Steps p.tables e below (s₁.setTop (mkF m 0 #[.val (.ref (ad 0))] [])) t
      refine XS.aloadN X0.here hx rfl (hb hby own_d_prog_38_method_4_code_0) rfl rfl ?_
      show Steps p.tables e below (s₁.setTop (mkF m 1 #[.val (.ref (ad 0))] [(.ref (ad 0))])) t
      exact st1 t k)
  obtain ⟨fs, hr, hrun, hended, hW, hsame⟩ := X1.leave (v := some (.int (0 : Int32))) (fun h => by rw [Bd.returns] at h; cases h)
  refine ⟨_, _, ch2 _ ?_, hrun, hended, _, _, rfl, ?_, ⟨_, rfl⟩, hW, hsame.mono (by decide) (by decide)⟩
  · show Steps p.tables e below (T1.setTop (mkF m 4 #[.val (.ref (ad 0))] [(.int (0 : Int32))])) _
    exact retI X1 hx Bd.returns (hb hby own_d_prog_38_method_4_code_4) hr
  · show QV (some (.int (0 : Int32))) h0 n0 _ T1.heap _
    rw [e1]
    exact ⟨rfl, N0, rfl⟩
theorem own_ef_own_law_0 (m : MethodId) {x0 : Int32} : entryFrame m #[(.int x0)] maxLocals = mkF m 0 #[.val (.int x0), .unset, .unset, .unset] [] := by first | (simp [entryFrame, mkF, argsToLocals, Value.category, maxLocals]; done) | rfl
set_option maxRecDepth 65536 in
set_option maxHeartbeats 40000000 in
theorem own_law_0 (l : Launch) (Z : State) (a0 : Array Value) (hw : ∀ d ∈ tables_1, d.before a0 Z = true) (ws : List Jvm.Cond) (h0 : Heap) (n0 : Nat) (Z0 : n0 ≤ h0.size) (p1 : Int32) (hk : (p1 &&& (2147483647 : Int32)) % (9 : Int32) = (0 : Int32)) (ad : Nat → Addr) (a__VALUES : Addr) (k__VALUES : ClassId) (W : OwnWd Z h0 ad a__VALUES k__VALUES) :
    MetFree l x (head1 (Jvm.Cond.code x code maxLocals ret :: ws) room_1) (fun a U => a = #[(.int p1)] ∧ Z.Warmed39 U.vm ∧ U.heap = h0) (fun _ _ _ _ _ => True) (fun _ U o U' => ∃ v L, o = .returned v ∧ QN (some (.int (1 : Int32))) n0 v U'.heap L ∧ FrameEnd U o U' L room_1.cells room_1.slots) := by
  refine MetFree.of_bodySF (plainFor_of_name own_pn_com_example_limpet_limpet_io_StatusFromCodePinLaw) hisR ?_
  intro p e s m args below meth c s₁ Bd hml0 hP hK
  obtain ⟨rfl, hZ, hh⟩ := hP
  have hx := Bd.exec
  have hby := Bd.bytes
  have hml : c.maxLocals = 4 := hml0
  have hown : s.vm.findClass "com/example/limpet/limpet/io/StatusFromCodePinLaw" = some m.cls := findClass_of_methodNamed Bd.named
  have hnm := (name_of_methodNamed Bd.named Bd.method).1
  have X0 : Stand p l e room_1 s m #[(.int p1)] below meth c s₁ [] 0 0 := Stand.of_body Bd
  have e0 : s₁.heap = h0 := by rw [← hh, Bd.state]; rfl
  have N0 := Fr.nil n0
  have pre0 : ∀ t, Steps p.tables e below (s₁.setTop (mkF m 0 #[.val (.int p1), .unset, .unset, .unset] [])) t → Steps p.tables e below (s₁.setTop (entryFrame m #[(.int p1)] maxLocals)) t := fun t k => castTop (own_ef_own_law_0 m) k
  obtain ⟨vv1, _, ⟨T1, L1, kk1, nn1⟩, -, X1, ⟨Lc1, hQ1, l1, y1, z1⟩, st1⟩ := Jvm.LawKit.callS X0 hx (y := (⟨"com/example/limpet/limpet/io/Status", "fromCode", "(I)Lcom/example/limpet/limpet/io/Status;"⟩ : MethodName)) hown (mvT hZ (hw _ (List.mem_of_getElem? (i := 1) rfl))) (mvT hZ (hw _ (List.mem_of_getElem? (i := 2) rfl))) (mvT hZ (hw _ (List.mem_of_getElem? (i := 3) rfl))) (mvT hZ (hw _ (List.mem_of_getElem? (i := 4) rfl))) (by decide) (backOf (W := 0) (own_from_0 l Z a0 hw [] h0 n0 (Nat.le_trans Z0 (Keep.refl h0 []).1) ad a__VALUES k__VALUES W) hZ (hw _ (List.mem_of_getElem? (i := 4) rfl)) (hw _ (List.mem_of_getElem? (i := 3) rfl)) (by decide) (by decide)) (g := (mkF m 9 #[.val (.int p1), .val (.int (0 : Int32)), .unset, .unset] [(.int (0 : Int32))])) rfl (by rw [hml]; rfl) (argsL := [(.int (0 : Int32))]) (rest := []) (lenOf own_pd__I_Lcom_example_limpet_limpet_io_Status_ rfl) rfl (by show 2 * 0 + _ ≤ _; exact Nat.le_of_eq rfl) (hb hby at_9) (fun _ _ => ⟨rfl, e0, (by decide : 0 + 1 ≤ _), (by decide : 0 + 9 ≤ _)⟩)
  dsimp only [Pt.U, Pt.locs, Pt.cells, Pt.slots] at X1 l1 y1 z1 st1 hQ1
  subst l1 y1 z1
  obtain ⟨hh1, eh1⟩ : ∃ h, T1.heap = h := ⟨_, rfl⟩
  rw [eh1] at hQ1
  obtain ⟨rfl, Nq1, Kq1⟩ := hQ1
  have N1 := Fr.app N0 Nq1
  have Kp1 := Keep.trans (Keep.refl h0 []) Kq1 all0
  have ch2 : ∀ t, Steps p.tables e below (T1.setTop (mkF m 12 #[.val (.int p1), .val (.int (0 : Int32)), .unset, .unset] [(.ref (ad 0))])) t → Steps p.tables e below (s₁.setTop (entryFrame m #[(.int p1)] maxLocals)) t := fun t k => pre0 t (by
      show Steps p.tables e below (s₁.setTop (mkF m 0 #[.val (.int p1), .unset, .unset, .unset] [])) t
      refine XS.iloadN X0.here hx rfl (hb hby at_0) rfl ?_
      show Steps p.tables e below (s₁.setTop (mkF m 1 #[.val (.int p1), .unset, .unset, .unset] [(.int p1)])) t
      refine X0.ldcInt hx hown (mvT hZ (hw _ (List.mem_of_getElem? (i := 0) rfl))) (g := (mkF m 1 #[.val (.int p1), .unset, .unset, .unset] [(.int p1)])) rfl (hb hby at_1) _ ?_
      show Steps p.tables e below (s₁.setTop (mkF m 3 #[.val (.int p1), .unset, .unset, .unset] [(.int (2147483647 : Int32)), (.int p1)])) t
      refine XS.iand X0.here hx rfl (hb hby at_3) rfl ?_
      show Steps p.tables e below (s₁.setTop (mkF m 4 #[.val (.int p1), .unset, .unset, .unset] [(.int (p1 &&& (2147483647 : Int32)))])) t
      refine XS.bipush X0.here hx rfl (hb hby at_4) ?_
      show Steps p.tables e below (s₁.setTop (mkF m 6 #[.val (.int p1), .unset, .unset, .unset] [(.int (9 : Int32)), (.int (p1 &&& (2147483647 : Int32)))])) t
      refine Jvm.RoadKit.iremM (g := (mkF m 6 #[.val (.int p1), .unset, .unset, .unset] [(.int (9 : Int32)), (.int (p1 &&& (2147483647 : Int32)))])) X0 hx rfl (hb hby at_6) rfl (by decide) ?_
      rw [hk]
      show Steps p.tables e below (s₁.setTop (mkF m 7 #[.val (.int p1), .unset, .unset, .unset] [(.int (0 : Int32))])) t
      refine XS.istoreN X0.here hx rfl (hb hby at_7) rfl (l' := #[.val (.int p1), .val (.int (0 : Int32)), .unset, .unset]) rfl ?_
      show Steps p.tables e below (s₁.setTop (mkF m 8 #[.val (.int p1), .val (.int (0 : Int32)), .unset, .unset] [])) t
      refine XS.iloadN X0.here hx rfl (hb hby at_8) rfl ?_
      show Steps p.tables e below (s₁.setTop (mkF m 9 #[.val (.int p1), .val (.int (0 : Int32)), .unset, .unset] [(.int (0 : Int32))])) t
      exact st1 t k)
  obtain ⟨vv3, _, ⟨T3, L3, kk3, nn3⟩, -, X3, ⟨Lc3, hQ3, l3, y3, z3⟩, st3⟩ := Jvm.LawKit.callS X1 hx (y := (⟨"com/example/limpet/limpet/io/StatusFromCodePinLaw", "expected", "(I)Lcom/example/limpet/limpet/io/Status;"⟩ : MethodName)) hown (mvT hZ (hw _ (List.mem_of_getElem? (i := 31) rfl))) (mvT hZ (hw _ (List.mem_of_getElem? (i := 32) rfl))) (mvT hZ (hw _ (List.mem_of_getElem? (i := 33) rfl))) (mvT hZ (hw _ (List.mem_of_getElem? (i := 34) rfl))) (by decide) (backOf (W := 0) (own_expd_0 l Z a0 hw [] hh1 n0 (Nat.le_trans Z0 Kp1.1) ad a__VALUES k__VALUES (own_Wd_ext W (own_ext_of_keep Kp1 all0))) hZ (hw _ (List.mem_of_getElem? (i := 34) rfl)) (hw _ (List.mem_of_getElem? (i := 33) rfl)) (by decide) (by decide)) (g := (mkF m 14 #[.val (.int p1), .val (.int (0 : Int32)), .val (.ref (ad 0)), .unset] [(.int (0 : Int32))])) rfl (by rw [hml]; rfl) (argsL := [(.int (0 : Int32))]) (rest := []) (lenOf own_pd__I_Lcom_example_limpet_limpet_io_Status_ rfl) rfl (by show 2 * 0 + _ ≤ _; exact Nat.le_of_eq rfl) (hb hby at_14) (fun _ _ => ⟨rfl, eh1, (by decide : 1 + 0 ≤ _), (by decide : 9 + 0 ≤ _)⟩)
  dsimp only [Pt.U, Pt.locs, Pt.cells, Pt.slots] at X3 l3 y3 z3 st3 hQ3
  subst l3 y3 z3
  obtain ⟨rfl, Nq3, e3⟩ := hQ3
  have N3 := Fr.app N1 Nq3
  have ch4 : ∀ t, Steps p.tables e below (T3.setTop (mkF m 17 #[.val (.int p1), .val (.int (0 : Int32)), .val (.ref (ad 0)), .unset] [(.ref (ad 0))])) t → Steps p.tables e below (s₁.setTop (entryFrame m #[(.int p1)] maxLocals)) t := fun t k => ch2 t (by
      show Steps p.tables e below (T1.setTop (mkF m 12 #[.val (.int p1), .val (.int (0 : Int32)), .unset, .unset] [(.ref (ad 0))])) t
      refine XS.astoreN X1.here hx rfl (hb hby at_12) rfl rfl (l' := #[.val (.int p1), .val (.int (0 : Int32)), .val (.ref (ad 0)), .unset]) rfl ?_
      show Steps p.tables e below (T1.setTop (mkF m 13 #[.val (.int p1), .val (.int (0 : Int32)), .val (.ref (ad 0)), .unset] [])) t
      refine XS.iloadN X1.here hx rfl (hb hby at_13) rfl ?_
      show Steps p.tables e below (T1.setTop (mkF m 14 #[.val (.int p1), .val (.int (0 : Int32)), .val (.ref (ad 0)), .unset] [(.int (0 : Int32))])) t
      exact st3 t k)
  have cf6 := (Exa.keep (own_E_OK W) Kp1)
  obtain ⟨cq5, kq5, qa5, qb5, qc5⟩ := isOf hZ e3 cf6
  obtain ⟨vv7, _, ⟨T7, L7, kk7, nn7⟩, -, X7, ⟨Lc7, hQ7, l7, y7, z7⟩, st7⟩ := X3.virtualBack hx (y := (⟨"com/example/limpet/limpet/io/Status", "code", "()I"⟩ : MethodName)) (z := (⟨"com/example/limpet/limpet/io/Status", "code", "()I"⟩ : MethodName)) hown (mvT hZ (hw _ (List.mem_of_getElem? (i := 36) rfl))) (mvT hZ (hw _ (List.mem_of_getElem? (i := 37) rfl))) (notFace_of_selects (args := #[]) (mvT hZ (hw _ (List.mem_of_getElem? (i := 39) rfl)))) (mvT hZ (hw _ (List.mem_of_getElem? (i := 39) rfl))) (mvT hZ (hw _ (List.mem_of_getElem? (i := 38) rfl))) (by decide) (backOf (W := 0) (own_code_0 l Z a0 hw [] hh1 n0 (Nat.le_trans Z0 Kp1.1) ad a__VALUES k__VALUES (own_Wd_ext W (own_ext_of_keep Kp1 all0))) hZ (hw _ (List.mem_of_getElem? (i := 40) rfl)) (hw _ (List.mem_of_getElem? (i := 3) rfl)) (by decide) (by decide)) qa5 qc5 (g := (mkF m 24 #[.val (.int p1), .val (.int (0 : Int32)), .val (.ref (ad 0)), .val (.ref (ad 0))] [(.ref (ad 0))])) rfl (by rw [hml]; rfl) (Steps.refl _) (argsL := []) (rest := []) (lenOf own_pd___I rfl) rfl (by show 2 * 0 + _ ≤ _; exact Nat.le_of_eq rfl) (hb hby at_24) (fun _ _ => ⟨rfl, e3, (by decide : 1 + 0 ≤ _), (by decide : 9 + 0 ≤ _)⟩)
  dsimp only [Pt.U, Pt.locs, Pt.cells, Pt.slots] at X7 l7 y7 z7 st7 hQ7
  subst l7 y7 z7
  obtain ⟨rfl, Nq7, e7⟩ := hQ7
  have N7 := Fr.app N3 Nq7
  have ch8 : ∀ t, Steps p.tables e below (T7.setTop (mkF m 27 #[.val (.int p1), .val (.int (0 : Int32)), .val (.ref (ad 0)), .val (.ref (ad 0))] [(.int (0 : Int32))])) t → Steps p.tables e below (s₁.setTop (entryFrame m #[(.int p1)] maxLocals)) t := fun t k => ch4 t (by
      show Steps p.tables e below (T3.setTop (mkF m 17 #[.val (.int p1), .val (.int (0 : Int32)), .val (.ref (ad 0)), .unset] [(.ref (ad 0))])) t
      refine XS.astoreN X3.here hx rfl (hb hby at_17) rfl rfl (l' := #[.val (.int p1), .val (.int (0 : Int32)), .val (.ref (ad 0)), .val (.ref (ad 0))]) rfl ?_
      show Steps p.tables e below (T3.setTop (mkF m 18 #[.val (.int p1), .val (.int (0 : Int32)), .val (.ref (ad 0)), .val (.ref (ad 0))] [])) t
      refine XS.aloadN X3.here hx rfl (hb hby at_18) rfl rfl ?_
      show Steps p.tables e below (T3.setTop (mkF m 19 #[.val (.int p1), .val (.int (0 : Int32)), .val (.ref (ad 0)), .val (.ref (ad 0))] [(.ref (ad 0))])) t
      refine XS.aloadN X3.here hx rfl (hb hby at_19) rfl rfl ?_
      show Steps p.tables e below (T3.setTop (mkF m 20 #[.val (.int p1), .val (.int (0 : Int32)), .val (.ref (ad 0)), .val (.ref (ad 0))] [(.ref (ad 0)), (.ref (ad 0))])) t
      refine Jvm.RoadKit.acmp (g := (mkF m 20 #[.val (.int p1), .val (.int (0 : Int32)), .val (.ref (ad 0)), .val (.ref (ad 0))] [(.ref (ad 0)), (.ref (ad 0))])) X3 hx rfl rfl rfl (pc0 := 20) (pc' := 23) (same := true) rfl (hb hby at_20) rfl (decide_eq_true rfl) (by decide) (by decide) ?_
      show Steps p.tables e below (T3.setTop (mkF m 23 #[.val (.int p1), .val (.int (0 : Int32)), .val (.ref (ad 0)), .val (.ref (ad 0))] [])) t
      refine XS.aloadN X3.here hx rfl (hb hby at_23) rfl rfl ?_
      show Steps p.tables e below (T3.setTop (mkF m 24 #[.val (.int p1), .val (.int (0 : Int32)), .val (.ref (ad 0)), .val (.ref (ad 0))] [(.ref (ad 0))])) t
      exact st7.trans k)
  have ch9 : ∀ t, Steps p.tables e below (T7.setTop (mkF m 36 #[.val (.int p1), .val (.int (0 : Int32)), .val (.ref (ad 0)), .val (.ref (ad 0))] [(.int (1 : Int32))])) t → Steps p.tables e below (s₁.setTop (entryFrame m #[(.int p1)] maxLocals)) t := fun t k => ch8 t (by
      show Steps p.tables e below (T7.setTop (mkF m 27 #[.val (.int p1), .val (.int (0 : Int32)), .val (.ref (ad 0)), .val (.ref (ad 0))] [(.int (0 : Int32))])) t
      refine XS.iloadN X7.here hx rfl (hb hby at_27) rfl ?_
      show Steps p.tables e below (T7.setTop (mkF m 28 #[.val (.int p1), .val (.int (0 : Int32)), .val (.ref (ad 0)), .val (.ref (ad 0))] [(.int (0 : Int32)), (.int (0 : Int32))])) t
      refine XS.icmpNo X7.here hx rfl (hb hby at_28) rfl (teq (by decide : (0 : Int32) = (0 : Int32))).2 ?_
      show Steps p.tables e below (T7.setTop (mkF m 31 #[.val (.int p1), .val (.int (0 : Int32)), .val (.ref (ad 0)), .val (.ref (ad 0))] [])) t
      refine XS.iconst X7.here hx rfl (hb hby at_31) ?_
      show Steps p.tables e below (T7.setTop (mkF m 32 #[.val (.int p1), .val (.int (0 : Int32)), .val (.ref (ad 0)), .val (.ref (ad 0))] [(.int (1 : Int32))])) t
      refine XS.goto X7.here hx rfl (pc0 := 32) (pc' := 36) rfl (hb hby at_32) (by decide) (by decide) ?_
      exact k)
  obtain ⟨fs, hr, hrun, hended, hW, hsame⟩ := X7.leave (v := some (.int (1 : Int32))) (fun h => by rw [Bd.returns] at h; cases h)
  refine ⟨_, _, ch9 _ ?_, hrun, hended, _, _, rfl, ?_, ⟨_, rfl⟩, hW, hsame.mono (by decide) (by decide)⟩
  · show Steps p.tables e below (T7.setTop (mkF m 36 #[.val (.int p1), .val (.int (0 : Int32)), .val (.ref (ad 0)), .val (.ref (ad 0))] [(.int (1 : Int32))])) _
    exact retN X7 hx (t := .boolean) Bd.returns (by simp) (hb hby at_36) hr
  · show QN (some (.int (1 : Int32))) n0 _ T7.heap _
    rw [e7]
    exact ⟨rfl, N7⟩
theorem own_ef_own_from_1 (m : MethodId) {x0 : Int32} : entryFrame m #[(.int x0)] 5 = mkF m 0 #[.val (.int x0), .unset, .unset, .unset, .unset] [] := by first | (simp [entryFrame, mkF, argsToLocals, Value.category, maxLocals]; done) | rfl
set_option maxRecDepth 65536 in
set_option maxHeartbeats 40000000 in
theorem own_from_1 (l : Launch) (Z : State) (a0 : Array Value) (hw : ∀ d ∈ tables_1, d.before a0 Z = true) (ws : List Jvm.Cond) (h0 : Heap) (n0 : Nat) (Z0 : n0 ≤ h0.size) (ad : Nat → Addr) (a__VALUES : Addr) (k__VALUES : ClassId) (W : OwnWd Z h0 ad a__VALUES k__VALUES) :
    MetFree l (⟨"com/example/limpet/limpet/io/Status", "fromCode", "(I)Lcom/example/limpet/limpet/io/Status;"⟩ : MethodName) (head1 (Jvm.Cond.code (⟨"com/example/limpet/limpet/io/Status", "fromCode", "(I)Lcom/example/limpet/limpet/io/Status;"⟩ : MethodName) prog_38_method_5_code 5 (some (.object "com/example/limpet/limpet/io/Status")) :: ws) ({ frames := 2, cells := 1, slots := 9, locals := 25 } : Room)) (fun a U => a = #[(.int (1 : Int32))] ∧ Z.Warmed39 U.vm ∧ U.heap = h0) (fun _ _ _ _ _ => True) (fun _ U o U' => ∃ v L, o = .returned v ∧ QK (some (.ref (ad 1))) h0 n0 v U'.heap L ∧ FrameEnd U o U' L ({ frames := 2, cells := 1, slots := 9, locals := 25 } : Room).cells ({ frames := 2, cells := 1, slots := 9, locals := 25 } : Room).slots) := by
  refine MetFree.of_bodySF (plainFor_of_name own_pn_com_example_limpet_limpet_io_Status) hisR ?_
  intro p e s m args below meth c s₁ Bd hml0 hP hK
  obtain ⟨rfl, hZ, hh⟩ := hP
  have hx := Bd.exec
  have hby := Bd.bytes
  have hml : c.maxLocals = 5 := hml0
  have hown : s.vm.findClass "com/example/limpet/limpet/io/Status" = some m.cls := findClass_of_methodNamed Bd.named
  have hnm := (name_of_methodNamed Bd.named Bd.method).1
  have X0 : Stand p l e ({ frames := 2, cells := 1, slots := 9, locals := 25 } : Room) s m #[(.int (1 : Int32))] below meth c s₁ [] 0 0 := Stand.of_body Bd
  have e0 : s₁.heap = h0 := by rw [← hh, Bd.state]; rfl
  have N0 := Fr.nil n0
  have pre0 : ∀ t, Steps p.tables e below (s₁.setTop (mkF m 0 #[.val (.int (1 : Int32)), .unset, .unset, .unset, .unset] [])) t → Steps p.tables e below (s₁.setTop (entryFrame m #[(.int (1 : Int32))] 5)) t := fun t k => castTop (own_ef_own_from_1 m) k
  obtain ⟨vv1, _, ⟨T1, L1, kk1, nn1⟩, -, X1, ⟨Lc1, hQ1, l1, y1, z1⟩, st1⟩ := Jvm.LawKit.callS X0 hx (y := (⟨"com/example/limpet/limpet/io/Status", "values", "()[Lcom/example/limpet/limpet/io/Status;"⟩ : MethodName)) hown (mvT hZ (hw _ (List.mem_of_getElem? (i := 5) rfl))) (mvT hZ (hw _ (List.mem_of_getElem? (i := 6) rfl))) (mvT hZ (hw _ (List.mem_of_getElem? (i := 3) rfl))) (mvT hZ (hw _ (List.mem_of_getElem? (i := 7) rfl))) (by decide) (backOf (W := 0) (own_vals l Z a0 hw [] h0 n0 (Nat.le_trans Z0 (Keep.refl h0 []).1) ad a__VALUES k__VALUES W) hZ (hw _ (List.mem_of_getElem? (i := 7) rfl)) (hw _ (List.mem_of_getElem? (i := 3) rfl)) (by decide) (by decide)) (g := (mkF m 0 #[.val (.int (1 : Int32)), .unset, .unset, .unset, .unset] [])) rfl (by rw [hml]; rfl) (argsL := []) (rest := []) (lenOf own_pd____Lcom_example_limpet_limpet_io_Status_ rfl) rfl (by show 2 * 0 + _ ≤ _; exact Nat.le_of_eq rfl) (hb hby own_d_prog_38_method_5_code_0) (fun _ _ => ⟨rfl, e0, (by decide : 0 + 1 ≤ _), (by decide : 0 + 9 ≤ _)⟩)
  dsimp only [Pt.U, Pt.locs, Pt.cells, Pt.slots] at X1 l1 y1 z1 st1 hQ1
  subst l1 y1 z1
  obtain ⟨hh1, eh1⟩ : ∃ h, T1.heap = h := ⟨_, rfl⟩
  rw [eh1] at hQ1
  obtain ⟨rv, rfl, zq1, Nq1, Kq1, fq1_0⟩ := hQ1
  have N1 := Fr.app N0 Nq1
  have ne_ad0_rv : (ad 0) ≠ rv := Nat.ne_of_lt (Nat.lt_of_lt_of_le (own_E_OK W).lt zq1)
  have ne_ad1_rv : (ad 1) ≠ rv := Nat.ne_of_lt (Nat.lt_of_lt_of_le (own_E_BAD_REQUEST W).lt zq1)
  have ne_ad2_rv : (ad 2) ≠ rv := Nat.ne_of_lt (Nat.lt_of_lt_of_le (own_E_NOT_FOUND W).lt zq1)
  have ne_ad3_rv : (ad 3) ≠ rv := Nat.ne_of_lt (Nat.lt_of_lt_of_le (own_E_FAILED W).lt zq1)
  have ne_ad4_rv : (ad 4) ≠ rv := Nat.ne_of_lt (Nat.lt_of_lt_of_le (own_E_UNSUPPORTED_KEY W).lt zq1)
  have ne_ad5_rv : (ad 5) ≠ rv := Nat.ne_of_lt (Nat.lt_of_lt_of_le (own_E_PERMISSION_DENIED W).lt zq1)
  have ne_ad6_rv : (ad 6) ≠ rv := Nat.ne_of_lt (Nat.lt_of_lt_of_le (own_E_GRANT_NOT_FOUND W).lt zq1)
  have ne_ad7_rv : (ad 7) ≠ rv := Nat.ne_of_lt (Nat.lt_of_lt_of_le (own_E_TOO_MANY_KEYS W).lt zq1)
  have ne_ad8_rv : (ad 8) ≠ rv := Nat.ne_of_lt (Nat.lt_of_lt_of_le (own_E_TOO_MANY_GRANTS W).lt zq1)
  have ne_a__VALUES_rv : a__VALUES ≠ rv := Nat.ne_of_lt (Nat.lt_of_lt_of_le (own_V__VALUES W).lt zq1)
  have g_rv : n0 ≤ rv := Nat.le_trans (Nat.le_trans Z0 (Keep.refl h0 []).1) zq1
  have sz_rv : h0.size ≤ rv := Nat.le_trans (Keep.refl h0 []).1 zq1
  have Kp1 := Keep.trans (Keep.refl h0 []) Kq1 all0
  have ch2 : ∀ t, Steps p.tables e below (T1.setTop (mkF m 3 #[.val (.int (1 : Int32)), .unset, .unset, .unset, .unset] [(.ref rv)])) t → Steps p.tables e below (s₁.setTop (entryFrame m #[(.int (1 : Int32))] 5)) t := fun t k => pre0 t (by
      show Steps p.tables e below (s₁.setTop (mkF m 0 #[.val (.int (1 : Int32)), .unset, .unset, .unset, .unset] [])) t
      exact st1 t k)
  obtain ⟨cl3, Ar3, -, Sz3, Ng3, -, -⟩ := id fq1_0
  obtain ⟨cl4, Ar4, -, Sz4, Ng4, Ha4, -⟩ := id fq1_0
  have hin4 : ¬ ((0 : Int32) < 0 ∨ cl4.slots.size ≤ ((0 : Int32)).toNatClampNeg) := inb_of Sz4 (by decide)
  have hat4 : cl4.slots[((0 : Int32)).toNatClampNeg]? = some (.ref (ad 0)) := Ha4.at hin4 rfl
  have cf5 := ((own_F_OK_code W).keep Kp1 nin0)
  obtain ⟨T6, X6, e6, st6⟩ := getF X1 hx hZ hown (host := "") (Or.inl (hw _ (List.mem_of_getElem? (i := 29) rfl))) Via.refl eh1 cf5 (g := (mkF m 21 #[.val (.int (1 : Int32)), .val (.ref rv), .val (.int (9 : Int32)), .val (.int (0 : Int32)), .val (.ref (ad 0))] [(.ref (ad 0))])) rfl rfl (hb hby own_d_prog_38_method_5_code_21)
  have ch7 : ∀ t, Steps p.tables e below (T6.setTop (mkF m 24 #[.val (.int (1 : Int32)), .val (.ref rv), .val (.int (9 : Int32)), .val (.int (0 : Int32)), .val (.ref (ad 0))] [(.int (0 : Int32))])) t → Steps p.tables e below (s₁.setTop (entryFrame m #[(.int (1 : Int32))] 5)) t := fun t k => ch2 t (by
      show Steps p.tables e below (T1.setTop (mkF m 3 #[.val (.int (1 : Int32)), .unset, .unset, .unset, .unset] [(.ref rv)])) t
      refine XS.astoreN X1.here hx rfl (hb hby own_d_prog_38_method_5_code_3) rfl rfl (l' := #[.val (.int (1 : Int32)), .val (.ref rv), .unset, .unset, .unset]) rfl ?_
      show Steps p.tables e below (T1.setTop (mkF m 4 #[.val (.int (1 : Int32)), .val (.ref rv), .unset, .unset, .unset] [])) t
      refine XS.aloadN X1.here hx rfl (hb hby own_d_prog_38_method_5_code_4) rfl rfl ?_
      show Steps p.tables e below (T1.setTop (mkF m 5 #[.val (.int (1 : Int32)), .val (.ref rv), .unset, .unset, .unset] [(.ref rv)])) t
      refine X1.arraylength hx (by rw [eh1]; exact Ar3.1) (State.isArrayOf_alike hZ.alike Ar3.2.1) (g := (mkF m 5 #[.val (.int (1 : Int32)), .val (.ref rv), .unset, .unset, .unset] [(.ref rv)])) rfl rfl (hb hby own_d_prog_38_method_5_code_5) _ ?_
      rw [len_of Sz3 Ng3]
      show Steps p.tables e below (T1.setTop (mkF m 6 #[.val (.int (1 : Int32)), .val (.ref rv), .unset, .unset, .unset] [(.int (9 : Int32))])) t
      refine XS.istoreN X1.here hx rfl (hb hby own_d_prog_38_method_5_code_6) rfl (l' := #[.val (.int (1 : Int32)), .val (.ref rv), .val (.int (9 : Int32)), .unset, .unset]) rfl ?_
      show Steps p.tables e below (T1.setTop (mkF m 7 #[.val (.int (1 : Int32)), .val (.ref rv), .val (.int (9 : Int32)), .unset, .unset] [])) t
      refine XS.iconst X1.here hx rfl (hb hby own_d_prog_38_method_5_code_7) ?_
      show Steps p.tables e below (T1.setTop (mkF m 8 #[.val (.int (1 : Int32)), .val (.ref rv), .val (.int (9 : Int32)), .unset, .unset] [(.int (0 : Int32))])) t
      refine XS.istoreN X1.here hx rfl (hb hby own_d_prog_38_method_5_code_8) rfl (l' := #[.val (.int (1 : Int32)), .val (.ref rv), .val (.int (9 : Int32)), .val (.int (0 : Int32)), .unset]) rfl ?_
      show Steps p.tables e below (T1.setTop (mkF m 9 #[.val (.int (1 : Int32)), .val (.ref rv), .val (.int (9 : Int32)), .val (.int (0 : Int32)), .unset] [])) t
      refine XS.iloadN X1.here hx rfl (hb hby own_d_prog_38_method_5_code_9) rfl ?_
      show Steps p.tables e below (T1.setTop (mkF m 10 #[.val (.int (1 : Int32)), .val (.ref rv), .val (.int (9 : Int32)), .val (.int (0 : Int32)), .unset] [(.int (0 : Int32))])) t
      refine XS.iloadN X1.here hx rfl (hb hby own_d_prog_38_method_5_code_10) rfl ?_
      show Steps p.tables e below (T1.setTop (mkF m 11 #[.val (.int (1 : Int32)), .val (.ref rv), .val (.int (9 : Int32)), .val (.int (0 : Int32)), .unset] [(.int (9 : Int32)), (.int (0 : Int32))])) t
      refine XS.icmpNo X1.here hx rfl (hb hby own_d_prog_38_method_5_code_11) rfl (tlt (by decide : (0 : Int32) < (9 : Int32))).2.1 ?_
      show Steps p.tables e below (T1.setTop (mkF m 14 #[.val (.int (1 : Int32)), .val (.ref rv), .val (.int (9 : Int32)), .val (.int (0 : Int32)), .unset] [])) t
      refine XS.aloadN X1.here hx rfl (hb hby own_d_prog_38_method_5_code_14) rfl rfl ?_
      show Steps p.tables e below (T1.setTop (mkF m 15 #[.val (.int (1 : Int32)), .val (.ref rv), .val (.int (9 : Int32)), .val (.int (0 : Int32)), .unset] [(.ref rv)])) t
      refine XS.iloadN X1.here hx rfl (hb hby own_d_prog_38_method_5_code_15) rfl ?_
      show Steps p.tables e below (T1.setTop (mkF m 16 #[.val (.int (1 : Int32)), .val (.ref rv), .val (.int (9 : Int32)), .val (.int (0 : Int32)), .unset] [(.int (0 : Int32)), (.ref rv)])) t
      refine X1.aaload hx (j := (0 : Int32)) (v := (.ref (ad 0))) (by rw [eh1]; exact Ar4.1) (State.isArrayOf_alike hZ.alike Ar4.2.1) rfl Ar4.2.2 hin4 hat4 (g := (mkF m 16 #[.val (.int (1 : Int32)), .val (.ref rv), .val (.int (9 : Int32)), .val (.int (0 : Int32)), .unset] [(.int (0 : Int32)), (.ref rv)])) rfl rfl (hb hby own_d_prog_38_method_5_code_16) _ ?_
      show Steps p.tables e below (T1.setTop (mkF m 17 #[.val (.int (1 : Int32)), .val (.ref rv), .val (.int (9 : Int32)), .val (.int (0 : Int32)), .unset] [(.ref (ad 0))])) t
      refine XS.astore X1.here hx rfl (hb hby own_d_prog_38_method_5_code_17) rfl rfl (l' := #[.val (.int (1 : Int32)), .val (.ref rv), .val (.int (9 : Int32)), .val (.int (0 : Int32)), .val (.ref (ad 0))]) rfl ?_
      show Steps p.tables e below (T1.setTop (mkF m 19 #[.val (.int (1 : Int32)), .val (.ref rv), .val (.int (9 : Int32)), .val (.int (0 : Int32)), .val (.ref (ad 0))] [])) t
      refine XS.aload X1.here hx rfl (hb hby own_d_prog_38_method_5_code_19) rfl rfl ?_
      show Steps p.tables e below (T1.setTop (mkF m 21 #[.val (.int (1 : Int32)), .val (.ref rv), .val (.int (9 : Int32)), .val (.int (0 : Int32)), .val (.ref (ad 0))] [(.ref (ad 0))])) t
      exact st6 t k)
  obtain ⟨cl8, Ar8, -, Sz8, Ng8, Ha8, -⟩ := id fq1_0
  have hin8 : ¬ ((1 : Int32) < 0 ∨ cl8.slots.size ≤ ((1 : Int32)).toNatClampNeg) := inb_of Sz8 (by decide)
  have hat8 : cl8.slots[((1 : Int32)).toNatClampNeg]? = some (.ref (ad 1)) := Ha8.at hin8 rfl
  have cf9 := ((own_F_BAD_REQUEST_code W).keep Kp1 nin0)
  obtain ⟨T10, X10, e10, st10⟩ := getF X6 hx hZ hown (host := "") (Or.inl (hw _ (List.mem_of_getElem? (i := 29) rfl))) Via.refl e6 cf9 (g := (mkF m 21 #[.val (.int (1 : Int32)), .val (.ref rv), .val (.int (9 : Int32)), .val (.int (1 : Int32)), .val (.ref (ad 1))] [(.ref (ad 1))])) rfl rfl (hb hby own_d_prog_38_method_5_code_21)
  have ch11 : ∀ t, Steps p.tables e below (T10.setTop (mkF m 24 #[.val (.int (1 : Int32)), .val (.ref rv), .val (.int (9 : Int32)), .val (.int (1 : Int32)), .val (.ref (ad 1))] [(.int (1 : Int32))])) t → Steps p.tables e below (s₁.setTop (entryFrame m #[(.int (1 : Int32))] 5)) t := fun t k => ch7 t (by
      show Steps p.tables e below (T6.setTop (mkF m 24 #[.val (.int (1 : Int32)), .val (.ref rv), .val (.int (9 : Int32)), .val (.int (0 : Int32)), .val (.ref (ad 0))] [(.int (0 : Int32))])) t
      refine XS.iloadN X6.here hx rfl (hb hby own_d_prog_38_method_5_code_24) rfl ?_
      show Steps p.tables e below (T6.setTop (mkF m 25 #[.val (.int (1 : Int32)), .val (.ref rv), .val (.int (9 : Int32)), .val (.int (0 : Int32)), .val (.ref (ad 0))] [(.int (1 : Int32)), (.int (0 : Int32))])) t
      refine XS.icmpYes X6.here hx rfl (pc0 := 25) (pc' := 31) rfl (hb hby own_d_prog_38_method_5_code_25) rfl (feq (by decide : ¬ (0 : Int32) = (1 : Int32))).2 (by decide) (by decide) ?_
      show Steps p.tables e below (T6.setTop (mkF m 31 #[.val (.int (1 : Int32)), .val (.ref rv), .val (.int (9 : Int32)), .val (.int (0 : Int32)), .val (.ref (ad 0))] [])) t
      refine Jvm.Free.XT.iincV X6.here hx rfl (1 : Int32) (hb hby own_d_prog_38_method_5_code_31) (by decide) rfl (l' := #[.val (.int (1 : Int32)), .val (.ref rv), .val (.int (9 : Int32)), .val (.int (1 : Int32)), .val (.ref (ad 0))]) (by rw [show ((0 : Int32) + (1 : Int32)) = (1 : Int32) from by decide]; rfl) ?_
      show Steps p.tables e below (T6.setTop (mkF m 34 #[.val (.int (1 : Int32)), .val (.ref rv), .val (.int (9 : Int32)), .val (.int (1 : Int32)), .val (.ref (ad 0))] [])) t
      refine XS.goto X6.here hx rfl (pc0 := 34) (pc' := 9) rfl (hb hby own_d_prog_38_method_5_code_34) (by decide) (by decide) ?_
      show Steps p.tables e below (T6.setTop (mkF m 9 #[.val (.int (1 : Int32)), .val (.ref rv), .val (.int (9 : Int32)), .val (.int (1 : Int32)), .val (.ref (ad 0))] [])) t
      refine XS.iloadN X6.here hx rfl (hb hby own_d_prog_38_method_5_code_9) rfl ?_
      show Steps p.tables e below (T6.setTop (mkF m 10 #[.val (.int (1 : Int32)), .val (.ref rv), .val (.int (9 : Int32)), .val (.int (1 : Int32)), .val (.ref (ad 0))] [(.int (1 : Int32))])) t
      refine XS.iloadN X6.here hx rfl (hb hby own_d_prog_38_method_5_code_10) rfl ?_
      show Steps p.tables e below (T6.setTop (mkF m 11 #[.val (.int (1 : Int32)), .val (.ref rv), .val (.int (9 : Int32)), .val (.int (1 : Int32)), .val (.ref (ad 0))] [(.int (9 : Int32)), (.int (1 : Int32))])) t
      refine XS.icmpNo X6.here hx rfl (hb hby own_d_prog_38_method_5_code_11) rfl (tlt (by decide : (1 : Int32) < (9 : Int32))).2.1 ?_
      show Steps p.tables e below (T6.setTop (mkF m 14 #[.val (.int (1 : Int32)), .val (.ref rv), .val (.int (9 : Int32)), .val (.int (1 : Int32)), .val (.ref (ad 0))] [])) t
      refine XS.aloadN X6.here hx rfl (hb hby own_d_prog_38_method_5_code_14) rfl rfl ?_
      show Steps p.tables e below (T6.setTop (mkF m 15 #[.val (.int (1 : Int32)), .val (.ref rv), .val (.int (9 : Int32)), .val (.int (1 : Int32)), .val (.ref (ad 0))] [(.ref rv)])) t
      refine XS.iloadN X6.here hx rfl (hb hby own_d_prog_38_method_5_code_15) rfl ?_
      show Steps p.tables e below (T6.setTop (mkF m 16 #[.val (.int (1 : Int32)), .val (.ref rv), .val (.int (9 : Int32)), .val (.int (1 : Int32)), .val (.ref (ad 0))] [(.int (1 : Int32)), (.ref rv)])) t
      refine X6.aaload hx (j := (1 : Int32)) (v := (.ref (ad 1))) (by rw [e6]; exact Ar8.1) (State.isArrayOf_alike hZ.alike Ar8.2.1) rfl Ar8.2.2 hin8 hat8 (g := (mkF m 16 #[.val (.int (1 : Int32)), .val (.ref rv), .val (.int (9 : Int32)), .val (.int (1 : Int32)), .val (.ref (ad 0))] [(.int (1 : Int32)), (.ref rv)])) rfl rfl (hb hby own_d_prog_38_method_5_code_16) _ ?_
      show Steps p.tables e below (T6.setTop (mkF m 17 #[.val (.int (1 : Int32)), .val (.ref rv), .val (.int (9 : Int32)), .val (.int (1 : Int32)), .val (.ref (ad 0))] [(.ref (ad 1))])) t
      refine XS.astore X6.here hx rfl (hb hby own_d_prog_38_method_5_code_17) rfl rfl (l' := #[.val (.int (1 : Int32)), .val (.ref rv), .val (.int (9 : Int32)), .val (.int (1 : Int32)), .val (.ref (ad 1))]) rfl ?_
      show Steps p.tables e below (T6.setTop (mkF m 19 #[.val (.int (1 : Int32)), .val (.ref rv), .val (.int (9 : Int32)), .val (.int (1 : Int32)), .val (.ref (ad 1))] [])) t
      refine XS.aload X6.here hx rfl (hb hby own_d_prog_38_method_5_code_19) rfl rfl ?_
      show Steps p.tables e below (T6.setTop (mkF m 21 #[.val (.int (1 : Int32)), .val (.ref rv), .val (.int (9 : Int32)), .val (.int (1 : Int32)), .val (.ref (ad 1))] [(.ref (ad 1))])) t
      exact st10 t k)
  have ch12 : ∀ t, Steps p.tables e below (T10.setTop (mkF m 30 #[.val (.int (1 : Int32)), .val (.ref rv), .val (.int (9 : Int32)), .val (.int (1 : Int32)), .val (.ref (ad 1))] [(.ref (ad 1))])) t → Steps p.tables e below (s₁.setTop (entryFrame m #[(.int (1 : Int32))] 5)) t := fun t k => ch11 t (by
      show Steps p.tables e below (T10.setTop (mkF m 24 #[.val (.int (1 : Int32)), .val (.ref rv), .val (.int (9 : Int32)), .val (.int (1 : Int32)), .val (.ref (ad 1))] [(.int (1 : Int32))])) t
      refine XS.iloadN X10.here hx rfl (hb hby own_d_prog_38_method_5_code_24) rfl ?_
      show Steps p.tables e below (T10.setTop (mkF m 25 #[.val (.int (1 : Int32)), .val (.ref rv), .val (.int (9 : Int32)), .val (.int (1 : Int32)), .val (.ref (ad 1))] [(.int (1 : Int32)), (.int (1 : Int32))])) t
      refine XS.icmpNo X10.here hx rfl (hb hby own_d_prog_38_method_5_code_25) rfl (teq (by decide : (1 : Int32) = (1 : Int32))).2 ?_
      show Steps p.tables e below (T10.setTop (mkF m 28 #[.val (.int (1 : Int32)), .val (.ref rv), .val (.int (9 : Int32)), .val (.int (1 : Int32)), .val (.ref (ad 1))] [])) t
      refine XS.aload X10.here hx rfl (hb hby own_d_prog_38_method_5_code_28) rfl rfl ?_
      exact k)
  obtain ⟨fs, hr, hrun, hended, hW, hsame⟩ := X10.leave (v := some (.ref (ad 1))) (fun h => by rw [Bd.returns] at h; cases h)
  refine ⟨_, _, ch12 _ ?_, hrun, hended, _, _, rfl, ?_, ⟨_, rfl⟩, hW, hsame.mono (by decide) (by decide)⟩
  · show Steps p.tables e below (T10.setTop (mkF m 30 #[.val (.int (1 : Int32)), .val (.ref rv), .val (.int (9 : Int32)), .val (.int (1 : Int32)), .val (.ref (ad 1))] [(.ref (ad 1))])) _
    jvm_step X10.here [X10.here.top, hx, (hb hby own_d_prog_38_method_5_code_30), X10.method', Bd.returns, Value.isRef, FieldType.isReference]
    first | (intro acts; rw [hr _ acts rfl rfl rfl]) | rw [hr _ _ rfl rfl rfl]
    exact Steps.refl _
  · show QK (some (.ref (ad 1))) h0 n0 _ T10.heap _
    rw [e10]
    exact ⟨rfl, N1, Kp1⟩
theorem own_ef_own_expd_1 (m : MethodId) {x0 : Int32} : entryFrame m #[(.int x0)] 1 = mkF m 0 #[.val (.int x0)] [] := by first | (simp [entryFrame, mkF, argsToLocals, Value.category, maxLocals]; done) | rfl
set_option maxRecDepth 65536 in
set_option maxHeartbeats 40000000 in
theorem own_expd_1 (l : Launch) (Z : State) (a0 : Array Value) (hw : ∀ d ∈ tables_1, d.before a0 Z = true) (ws : List Jvm.Cond) (h0 : Heap) (n0 : Nat) (Z0 : n0 ≤ h0.size) (ad : Nat → Addr) (a__VALUES : Addr) (k__VALUES : ClassId) (W : OwnWd Z h0 ad a__VALUES k__VALUES) :
    MetFree l (⟨"com/example/limpet/limpet/io/StatusFromCodePinLaw", "expected", "(I)Lcom/example/limpet/limpet/io/Status;"⟩ : MethodName) (head1 (Jvm.Cond.code (⟨"com/example/limpet/limpet/io/StatusFromCodePinLaw", "expected", "(I)Lcom/example/limpet/limpet/io/Status;"⟩ : MethodName) method_2_code 1 (some (.object "com/example/limpet/limpet/io/Status")) :: ws) ({ frames := 0, cells := 0, slots := 0, locals := 0 } : Room)) (fun a U => a = #[(.int (1 : Int32))] ∧ Z.Warmed39 U.vm ∧ U.heap = h0) (fun _ _ _ _ _ => True) (fun _ U o U' => ∃ v L, o = .returned v ∧ QV (some (.ref (ad 1))) h0 n0 v U'.heap L ∧ FrameEnd U o U' L ({ frames := 0, cells := 0, slots := 0, locals := 0 } : Room).cells ({ frames := 0, cells := 0, slots := 0, locals := 0 } : Room).slots) := by
  refine MetFree.of_bodySF (plainFor_of_name own_pn_com_example_limpet_limpet_io_StatusFromCodePinLaw) hisR ?_
  intro p e s m args below meth c s₁ Bd hml0 hP hK
  obtain ⟨rfl, hZ, hh⟩ := hP
  have hx := Bd.exec
  have hby := Bd.bytes
  have hml : c.maxLocals = 1 := hml0
  have hown : s.vm.findClass "com/example/limpet/limpet/io/StatusFromCodePinLaw" = some m.cls := findClass_of_methodNamed Bd.named
  have hnm := (name_of_methodNamed Bd.named Bd.method).1
  have X0 : Stand p l e ({ frames := 0, cells := 0, slots := 0, locals := 0 } : Room) s m #[(.int (1 : Int32))] below meth c s₁ [] 0 0 := Stand.of_body Bd
  have e0 : s₁.heap = h0 := by rw [← hh, Bd.state]; rfl
  have N0 := Fr.nil n0
  have pre0 : ∀ t, Steps p.tables e below (s₁.setTop (mkF m 0 #[.val (.int (1 : Int32))] [])) t → Steps p.tables e below (s₁.setTop (entryFrame m #[(.int (1 : Int32))] 1)) t := fun t k => castTop (own_ef_own_expd_1 m) k
  obtain ⟨T1, X1, e1, st1⟩ := getS2 X0 hx hZ hown (host := "") (Or.inl (hw _ (List.mem_of_getElem? (i := 43) rfl))) Via.refl e0 (own_S_BAD_REQUEST W) (g := (mkF m 13 #[.val (.int (1 : Int32))] [])) rfl (hb hby own_d_method_2_code_13)
  have ch2 : ∀ t, Steps p.tables e below (T1.setTop (mkF m 16 #[.val (.int (1 : Int32))] [(.ref (ad 1))])) t → Steps p.tables e below (s₁.setTop (entryFrame m #[(.int (1 : Int32))] 1)) t := fun t k => pre0 t (by
      show Steps p.tables e below (s₁.setTop (mkF m 0 #[.val (.int (1 : Int32))] [])) t
      refine XS.iloadN X0.here hx rfl (hb hby own_d_method_2_code_0) rfl ?_
      show Steps p.tables e below (s₁.setTop (mkF m 1 #[.val (.int (1 : Int32))] [(.int (1 : Int32))])) t
      refine XS.ifYes X0.here hx rfl (pc0 := 1) (pc' := 8) rfl (hb hby own_d_method_2_code_1) rfl ((if0 _ _).trans (feq (by decide : ¬ (1 : Int32) = (0 : Int32))).2) (by decide) (by decide) ?_
      show Steps p.tables e below (s₁.setTop (mkF m 8 #[.val (.int (1 : Int32))] [])) t
      refine XS.iloadN X0.here hx rfl (hb hby own_d_method_2_code_8) rfl ?_
      show Steps p.tables e below (s₁.setTop (mkF m 9 #[.val (.int (1 : Int32))] [(.int (1 : Int32))])) t
      refine XS.iconst X0.here hx rfl (hb hby own_d_method_2_code_9) ?_
      show Steps p.tables e below (s₁.setTop (mkF m 10 #[.val (.int (1 : Int32))] [(.int (1 : Int32)), (.int (1 : Int32))])) t
      refine XS.icmpNo X0.here hx rfl (hb hby own_d_method_2_code_10) rfl (teq (by decide : (1 : Int32) = (1 : Int32))).2 ?_
      show Steps p.tables e below (s₁.setTop (mkF m 13 #[.val (.int (1 : Int32))] [])) t
      exact st1 t k)
  obtain ⟨fs, hr, hrun, hended, hW, hsame⟩ := X1.leave (v := some (.ref (ad 1))) (fun h => by rw [Bd.returns] at h; cases h)
  refine ⟨_, _, ch2 _ ?_, hrun, hended, _, _, rfl, ?_, ⟨_, rfl⟩, hW, hsame.mono (by decide) (by decide)⟩
  · show Steps p.tables e below (T1.setTop (mkF m 16 #[.val (.int (1 : Int32))] [(.ref (ad 1))])) _
    jvm_step X1.here [X1.here.top, hx, (hb hby own_d_method_2_code_16), X1.method', Bd.returns, Value.isRef, FieldType.isReference]
    first | (intro acts; rw [hr _ acts rfl rfl rfl]) | rw [hr _ _ rfl rfl rfl]
    exact Steps.refl _
  · show QV (some (.ref (ad 1))) h0 n0 _ T1.heap _
    rw [e1]
    exact ⟨rfl, N0, rfl⟩
theorem own_ef_own_code_1 (m : MethodId) {x0 : Addr} : entryFrame m #[(.ref x0)] 1 = mkF m 0 #[.val (.ref x0)] [] := by first | (simp [entryFrame, mkF, argsToLocals, Value.category, maxLocals]; done) | rfl
set_option maxRecDepth 65536 in
set_option maxHeartbeats 40000000 in
theorem own_code_1 (l : Launch) (Z : State) (a0 : Array Value) (hw : ∀ d ∈ tables_1, d.before a0 Z = true) (ws : List Jvm.Cond) (h0 : Heap) (n0 : Nat) (Z0 : n0 ≤ h0.size) (ad : Nat → Addr) (a__VALUES : Addr) (k__VALUES : ClassId) (W : OwnWd Z h0 ad a__VALUES k__VALUES) :
    MetFree l (⟨"com/example/limpet/limpet/io/Status", "code", "()I"⟩ : MethodName) (head1 (Jvm.Cond.code (⟨"com/example/limpet/limpet/io/Status", "code", "()I"⟩ : MethodName) prog_38_method_4_code 1 (some .int) :: ws) ({ frames := 0, cells := 0, slots := 0, locals := 0 } : Room)) (fun a U => a = #[(.ref (ad 1))] ∧ Z.Warmed39 U.vm ∧ U.heap = h0) (fun _ _ _ _ _ => True) (fun _ U o U' => ∃ v L, o = .returned v ∧ QV (some (.int (1 : Int32))) h0 n0 v U'.heap L ∧ FrameEnd U o U' L ({ frames := 0, cells := 0, slots := 0, locals := 0 } : Room).cells ({ frames := 0, cells := 0, slots := 0, locals := 0 } : Room).slots) := by
  refine MetFree.of_bodySF (plainFor_of_name own_pn_com_example_limpet_limpet_io_Status) hisR ?_
  intro p e s m args below meth c s₁ Bd hml0 hP hK
  obtain ⟨rfl, hZ, hh⟩ := hP
  have hx := Bd.exec
  have hby := Bd.bytes
  have hml : c.maxLocals = 1 := hml0
  have hown : s.vm.findClass "com/example/limpet/limpet/io/Status" = some m.cls := findClass_of_methodNamed Bd.named
  have hnm := (name_of_methodNamed Bd.named Bd.method).1
  have X0 : Stand p l e ({ frames := 0, cells := 0, slots := 0, locals := 0 } : Room) s m #[(.ref (ad 1))] below meth c s₁ [] 0 0 := Stand.of_body Bd
  have e0 : s₁.heap = h0 := by rw [← hh, Bd.state]; rfl
  have N0 := Fr.nil n0
  have pre0 : ∀ t, Steps p.tables e below (s₁.setTop (mkF m 0 #[.val (.ref (ad 1))] [])) t → Steps p.tables e below (s₁.setTop (entryFrame m #[(.ref (ad 1))] 1)) t := fun t k => castTop (own_ef_own_code_1 m) k
  obtain ⟨T1, X1, e1, st1⟩ := getF X0 hx hZ hown (host := "") (Or.inl (hw _ (List.mem_of_getElem? (i := 29) rfl))) Via.refl e0 (own_F_BAD_REQUEST_code W) (g := (mkF m 1 #[.val (.ref (ad 1))] [(.ref (ad 1))])) rfl rfl (hb hby own_d_prog_38_method_4_code_1)
  have ch2 : ∀ t, Steps p.tables e below (T1.setTop (mkF m 4 #[.val (.ref (ad 1))] [(.int (1 : Int32))])) t → Steps p.tables e below (s₁.setTop (entryFrame m #[(.ref (ad 1))] 1)) t := fun t k => pre0 t (by
      show Steps p.tables e below (s₁.setTop (mkF m 0 #[.val (.ref (ad 1))] [])) t
      refine XS.aloadN X0.here hx rfl (hb hby own_d_prog_38_method_4_code_0) rfl rfl ?_
      show Steps p.tables e below (s₁.setTop (mkF m 1 #[.val (.ref (ad 1))] [(.ref (ad 1))])) t
      exact st1 t k)
  obtain ⟨fs, hr, hrun, hended, hW, hsame⟩ := X1.leave (v := some (.int (1 : Int32))) (fun h => by rw [Bd.returns] at h; cases h)
  refine ⟨_, _, ch2 _ ?_, hrun, hended, _, _, rfl, ?_, ⟨_, rfl⟩, hW, hsame.mono (by decide) (by decide)⟩
  · show Steps p.tables e below (T1.setTop (mkF m 4 #[.val (.ref (ad 1))] [(.int (1 : Int32))])) _
    exact retI X1 hx Bd.returns (hb hby own_d_prog_38_method_4_code_4) hr
  · show QV (some (.int (1 : Int32))) h0 n0 _ T1.heap _
    rw [e1]
    exact ⟨rfl, N0, rfl⟩
theorem own_ef_own_law_1 (m : MethodId) {x0 : Int32} : entryFrame m #[(.int x0)] maxLocals = mkF m 0 #[.val (.int x0), .unset, .unset, .unset] [] := by first | (simp [entryFrame, mkF, argsToLocals, Value.category, maxLocals]; done) | rfl
set_option maxRecDepth 65536 in
set_option maxHeartbeats 40000000 in
theorem own_law_1 (l : Launch) (Z : State) (a0 : Array Value) (hw : ∀ d ∈ tables_1, d.before a0 Z = true) (ws : List Jvm.Cond) (h0 : Heap) (n0 : Nat) (Z0 : n0 ≤ h0.size) (p1 : Int32) (hk : (p1 &&& (2147483647 : Int32)) % (9 : Int32) = (1 : Int32)) (ad : Nat → Addr) (a__VALUES : Addr) (k__VALUES : ClassId) (W : OwnWd Z h0 ad a__VALUES k__VALUES) :
    MetFree l x (head1 (Jvm.Cond.code x code maxLocals ret :: ws) room_1) (fun a U => a = #[(.int p1)] ∧ Z.Warmed39 U.vm ∧ U.heap = h0) (fun _ _ _ _ _ => True) (fun _ U o U' => ∃ v L, o = .returned v ∧ QN (some (.int (1 : Int32))) n0 v U'.heap L ∧ FrameEnd U o U' L room_1.cells room_1.slots) := by
  refine MetFree.of_bodySF (plainFor_of_name own_pn_com_example_limpet_limpet_io_StatusFromCodePinLaw) hisR ?_
  intro p e s m args below meth c s₁ Bd hml0 hP hK
  obtain ⟨rfl, hZ, hh⟩ := hP
  have hx := Bd.exec
  have hby := Bd.bytes
  have hml : c.maxLocals = 4 := hml0
  have hown : s.vm.findClass "com/example/limpet/limpet/io/StatusFromCodePinLaw" = some m.cls := findClass_of_methodNamed Bd.named
  have hnm := (name_of_methodNamed Bd.named Bd.method).1
  have X0 : Stand p l e room_1 s m #[(.int p1)] below meth c s₁ [] 0 0 := Stand.of_body Bd
  have e0 : s₁.heap = h0 := by rw [← hh, Bd.state]; rfl
  have N0 := Fr.nil n0
  have pre0 : ∀ t, Steps p.tables e below (s₁.setTop (mkF m 0 #[.val (.int p1), .unset, .unset, .unset] [])) t → Steps p.tables e below (s₁.setTop (entryFrame m #[(.int p1)] maxLocals)) t := fun t k => castTop (own_ef_own_law_1 m) k
  obtain ⟨vv1, _, ⟨T1, L1, kk1, nn1⟩, -, X1, ⟨Lc1, hQ1, l1, y1, z1⟩, st1⟩ := Jvm.LawKit.callS X0 hx (y := (⟨"com/example/limpet/limpet/io/Status", "fromCode", "(I)Lcom/example/limpet/limpet/io/Status;"⟩ : MethodName)) hown (mvT hZ (hw _ (List.mem_of_getElem? (i := 1) rfl))) (mvT hZ (hw _ (List.mem_of_getElem? (i := 2) rfl))) (mvT hZ (hw _ (List.mem_of_getElem? (i := 3) rfl))) (mvT hZ (hw _ (List.mem_of_getElem? (i := 4) rfl))) (by decide) (backOf (W := 0) (own_from_1 l Z a0 hw [] h0 n0 (Nat.le_trans Z0 (Keep.refl h0 []).1) ad a__VALUES k__VALUES W) hZ (hw _ (List.mem_of_getElem? (i := 4) rfl)) (hw _ (List.mem_of_getElem? (i := 3) rfl)) (by decide) (by decide)) (g := (mkF m 9 #[.val (.int p1), .val (.int (1 : Int32)), .unset, .unset] [(.int (1 : Int32))])) rfl (by rw [hml]; rfl) (argsL := [(.int (1 : Int32))]) (rest := []) (lenOf own_pd__I_Lcom_example_limpet_limpet_io_Status_ rfl) rfl (by show 2 * 0 + _ ≤ _; exact Nat.le_of_eq rfl) (hb hby at_9) (fun _ _ => ⟨rfl, e0, (by decide : 0 + 1 ≤ _), (by decide : 0 + 9 ≤ _)⟩)
  dsimp only [Pt.U, Pt.locs, Pt.cells, Pt.slots] at X1 l1 y1 z1 st1 hQ1
  subst l1 y1 z1
  obtain ⟨hh1, eh1⟩ : ∃ h, T1.heap = h := ⟨_, rfl⟩
  rw [eh1] at hQ1
  obtain ⟨rfl, Nq1, Kq1⟩ := hQ1
  have N1 := Fr.app N0 Nq1
  have Kp1 := Keep.trans (Keep.refl h0 []) Kq1 all0
  have ch2 : ∀ t, Steps p.tables e below (T1.setTop (mkF m 12 #[.val (.int p1), .val (.int (1 : Int32)), .unset, .unset] [(.ref (ad 1))])) t → Steps p.tables e below (s₁.setTop (entryFrame m #[(.int p1)] maxLocals)) t := fun t k => pre0 t (by
      show Steps p.tables e below (s₁.setTop (mkF m 0 #[.val (.int p1), .unset, .unset, .unset] [])) t
      refine XS.iloadN X0.here hx rfl (hb hby at_0) rfl ?_
      show Steps p.tables e below (s₁.setTop (mkF m 1 #[.val (.int p1), .unset, .unset, .unset] [(.int p1)])) t
      refine X0.ldcInt hx hown (mvT hZ (hw _ (List.mem_of_getElem? (i := 0) rfl))) (g := (mkF m 1 #[.val (.int p1), .unset, .unset, .unset] [(.int p1)])) rfl (hb hby at_1) _ ?_
      show Steps p.tables e below (s₁.setTop (mkF m 3 #[.val (.int p1), .unset, .unset, .unset] [(.int (2147483647 : Int32)), (.int p1)])) t
      refine XS.iand X0.here hx rfl (hb hby at_3) rfl ?_
      show Steps p.tables e below (s₁.setTop (mkF m 4 #[.val (.int p1), .unset, .unset, .unset] [(.int (p1 &&& (2147483647 : Int32)))])) t
      refine XS.bipush X0.here hx rfl (hb hby at_4) ?_
      show Steps p.tables e below (s₁.setTop (mkF m 6 #[.val (.int p1), .unset, .unset, .unset] [(.int (9 : Int32)), (.int (p1 &&& (2147483647 : Int32)))])) t
      refine Jvm.RoadKit.iremM (g := (mkF m 6 #[.val (.int p1), .unset, .unset, .unset] [(.int (9 : Int32)), (.int (p1 &&& (2147483647 : Int32)))])) X0 hx rfl (hb hby at_6) rfl (by decide) ?_
      rw [hk]
      show Steps p.tables e below (s₁.setTop (mkF m 7 #[.val (.int p1), .unset, .unset, .unset] [(.int (1 : Int32))])) t
      refine XS.istoreN X0.here hx rfl (hb hby at_7) rfl (l' := #[.val (.int p1), .val (.int (1 : Int32)), .unset, .unset]) rfl ?_
      show Steps p.tables e below (s₁.setTop (mkF m 8 #[.val (.int p1), .val (.int (1 : Int32)), .unset, .unset] [])) t
      refine XS.iloadN X0.here hx rfl (hb hby at_8) rfl ?_
      show Steps p.tables e below (s₁.setTop (mkF m 9 #[.val (.int p1), .val (.int (1 : Int32)), .unset, .unset] [(.int (1 : Int32))])) t
      exact st1 t k)
  obtain ⟨vv3, _, ⟨T3, L3, kk3, nn3⟩, -, X3, ⟨Lc3, hQ3, l3, y3, z3⟩, st3⟩ := Jvm.LawKit.callS X1 hx (y := (⟨"com/example/limpet/limpet/io/StatusFromCodePinLaw", "expected", "(I)Lcom/example/limpet/limpet/io/Status;"⟩ : MethodName)) hown (mvT hZ (hw _ (List.mem_of_getElem? (i := 31) rfl))) (mvT hZ (hw _ (List.mem_of_getElem? (i := 32) rfl))) (mvT hZ (hw _ (List.mem_of_getElem? (i := 33) rfl))) (mvT hZ (hw _ (List.mem_of_getElem? (i := 34) rfl))) (by decide) (backOf (W := 0) (own_expd_1 l Z a0 hw [] hh1 n0 (Nat.le_trans Z0 Kp1.1) ad a__VALUES k__VALUES (own_Wd_ext W (own_ext_of_keep Kp1 all0))) hZ (hw _ (List.mem_of_getElem? (i := 34) rfl)) (hw _ (List.mem_of_getElem? (i := 33) rfl)) (by decide) (by decide)) (g := (mkF m 14 #[.val (.int p1), .val (.int (1 : Int32)), .val (.ref (ad 1)), .unset] [(.int (1 : Int32))])) rfl (by rw [hml]; rfl) (argsL := [(.int (1 : Int32))]) (rest := []) (lenOf own_pd__I_Lcom_example_limpet_limpet_io_Status_ rfl) rfl (by show 2 * 0 + _ ≤ _; exact Nat.le_of_eq rfl) (hb hby at_14) (fun _ _ => ⟨rfl, eh1, (by decide : 1 + 0 ≤ _), (by decide : 9 + 0 ≤ _)⟩)
  dsimp only [Pt.U, Pt.locs, Pt.cells, Pt.slots] at X3 l3 y3 z3 st3 hQ3
  subst l3 y3 z3
  obtain ⟨rfl, Nq3, e3⟩ := hQ3
  have N3 := Fr.app N1 Nq3
  have ch4 : ∀ t, Steps p.tables e below (T3.setTop (mkF m 17 #[.val (.int p1), .val (.int (1 : Int32)), .val (.ref (ad 1)), .unset] [(.ref (ad 1))])) t → Steps p.tables e below (s₁.setTop (entryFrame m #[(.int p1)] maxLocals)) t := fun t k => ch2 t (by
      show Steps p.tables e below (T1.setTop (mkF m 12 #[.val (.int p1), .val (.int (1 : Int32)), .unset, .unset] [(.ref (ad 1))])) t
      refine XS.astoreN X1.here hx rfl (hb hby at_12) rfl rfl (l' := #[.val (.int p1), .val (.int (1 : Int32)), .val (.ref (ad 1)), .unset]) rfl ?_
      show Steps p.tables e below (T1.setTop (mkF m 13 #[.val (.int p1), .val (.int (1 : Int32)), .val (.ref (ad 1)), .unset] [])) t
      refine XS.iloadN X1.here hx rfl (hb hby at_13) rfl ?_
      show Steps p.tables e below (T1.setTop (mkF m 14 #[.val (.int p1), .val (.int (1 : Int32)), .val (.ref (ad 1)), .unset] [(.int (1 : Int32))])) t
      exact st3 t k)
  have cf6 := (Exa.keep (own_E_BAD_REQUEST W) Kp1)
  obtain ⟨cq5, kq5, qa5, qb5, qc5⟩ := isOf hZ e3 cf6
  obtain ⟨vv7, _, ⟨T7, L7, kk7, nn7⟩, -, X7, ⟨Lc7, hQ7, l7, y7, z7⟩, st7⟩ := X3.virtualBack hx (y := (⟨"com/example/limpet/limpet/io/Status", "code", "()I"⟩ : MethodName)) (z := (⟨"com/example/limpet/limpet/io/Status", "code", "()I"⟩ : MethodName)) hown (mvT hZ (hw _ (List.mem_of_getElem? (i := 36) rfl))) (mvT hZ (hw _ (List.mem_of_getElem? (i := 37) rfl))) (notFace_of_selects (args := #[]) (mvT hZ (hw _ (List.mem_of_getElem? (i := 39) rfl)))) (mvT hZ (hw _ (List.mem_of_getElem? (i := 39) rfl))) (mvT hZ (hw _ (List.mem_of_getElem? (i := 38) rfl))) (by decide) (backOf (W := 0) (own_code_1 l Z a0 hw [] hh1 n0 (Nat.le_trans Z0 Kp1.1) ad a__VALUES k__VALUES (own_Wd_ext W (own_ext_of_keep Kp1 all0))) hZ (hw _ (List.mem_of_getElem? (i := 40) rfl)) (hw _ (List.mem_of_getElem? (i := 3) rfl)) (by decide) (by decide)) qa5 qc5 (g := (mkF m 24 #[.val (.int p1), .val (.int (1 : Int32)), .val (.ref (ad 1)), .val (.ref (ad 1))] [(.ref (ad 1))])) rfl (by rw [hml]; rfl) (Steps.refl _) (argsL := []) (rest := []) (lenOf own_pd___I rfl) rfl (by show 2 * 0 + _ ≤ _; exact Nat.le_of_eq rfl) (hb hby at_24) (fun _ _ => ⟨rfl, e3, (by decide : 1 + 0 ≤ _), (by decide : 9 + 0 ≤ _)⟩)
  dsimp only [Pt.U, Pt.locs, Pt.cells, Pt.slots] at X7 l7 y7 z7 st7 hQ7
  subst l7 y7 z7
  obtain ⟨rfl, Nq7, e7⟩ := hQ7
  have N7 := Fr.app N3 Nq7
  have ch8 : ∀ t, Steps p.tables e below (T7.setTop (mkF m 27 #[.val (.int p1), .val (.int (1 : Int32)), .val (.ref (ad 1)), .val (.ref (ad 1))] [(.int (1 : Int32))])) t → Steps p.tables e below (s₁.setTop (entryFrame m #[(.int p1)] maxLocals)) t := fun t k => ch4 t (by
      show Steps p.tables e below (T3.setTop (mkF m 17 #[.val (.int p1), .val (.int (1 : Int32)), .val (.ref (ad 1)), .unset] [(.ref (ad 1))])) t
      refine XS.astoreN X3.here hx rfl (hb hby at_17) rfl rfl (l' := #[.val (.int p1), .val (.int (1 : Int32)), .val (.ref (ad 1)), .val (.ref (ad 1))]) rfl ?_
      show Steps p.tables e below (T3.setTop (mkF m 18 #[.val (.int p1), .val (.int (1 : Int32)), .val (.ref (ad 1)), .val (.ref (ad 1))] [])) t
      refine XS.aloadN X3.here hx rfl (hb hby at_18) rfl rfl ?_
      show Steps p.tables e below (T3.setTop (mkF m 19 #[.val (.int p1), .val (.int (1 : Int32)), .val (.ref (ad 1)), .val (.ref (ad 1))] [(.ref (ad 1))])) t
      refine XS.aloadN X3.here hx rfl (hb hby at_19) rfl rfl ?_
      show Steps p.tables e below (T3.setTop (mkF m 20 #[.val (.int p1), .val (.int (1 : Int32)), .val (.ref (ad 1)), .val (.ref (ad 1))] [(.ref (ad 1)), (.ref (ad 1))])) t
      refine Jvm.RoadKit.acmp (g := (mkF m 20 #[.val (.int p1), .val (.int (1 : Int32)), .val (.ref (ad 1)), .val (.ref (ad 1))] [(.ref (ad 1)), (.ref (ad 1))])) X3 hx rfl rfl rfl (pc0 := 20) (pc' := 23) (same := true) rfl (hb hby at_20) rfl (decide_eq_true rfl) (by decide) (by decide) ?_
      show Steps p.tables e below (T3.setTop (mkF m 23 #[.val (.int p1), .val (.int (1 : Int32)), .val (.ref (ad 1)), .val (.ref (ad 1))] [])) t
      refine XS.aloadN X3.here hx rfl (hb hby at_23) rfl rfl ?_
      show Steps p.tables e below (T3.setTop (mkF m 24 #[.val (.int p1), .val (.int (1 : Int32)), .val (.ref (ad 1)), .val (.ref (ad 1))] [(.ref (ad 1))])) t
      exact st7.trans k)
  have ch9 : ∀ t, Steps p.tables e below (T7.setTop (mkF m 36 #[.val (.int p1), .val (.int (1 : Int32)), .val (.ref (ad 1)), .val (.ref (ad 1))] [(.int (1 : Int32))])) t → Steps p.tables e below (s₁.setTop (entryFrame m #[(.int p1)] maxLocals)) t := fun t k => ch8 t (by
      show Steps p.tables e below (T7.setTop (mkF m 27 #[.val (.int p1), .val (.int (1 : Int32)), .val (.ref (ad 1)), .val (.ref (ad 1))] [(.int (1 : Int32))])) t
      refine XS.iloadN X7.here hx rfl (hb hby at_27) rfl ?_
      show Steps p.tables e below (T7.setTop (mkF m 28 #[.val (.int p1), .val (.int (1 : Int32)), .val (.ref (ad 1)), .val (.ref (ad 1))] [(.int (1 : Int32)), (.int (1 : Int32))])) t
      refine XS.icmpNo X7.here hx rfl (hb hby at_28) rfl (teq (by decide : (1 : Int32) = (1 : Int32))).2 ?_
      show Steps p.tables e below (T7.setTop (mkF m 31 #[.val (.int p1), .val (.int (1 : Int32)), .val (.ref (ad 1)), .val (.ref (ad 1))] [])) t
      refine XS.iconst X7.here hx rfl (hb hby at_31) ?_
      show Steps p.tables e below (T7.setTop (mkF m 32 #[.val (.int p1), .val (.int (1 : Int32)), .val (.ref (ad 1)), .val (.ref (ad 1))] [(.int (1 : Int32))])) t
      refine XS.goto X7.here hx rfl (pc0 := 32) (pc' := 36) rfl (hb hby at_32) (by decide) (by decide) ?_
      exact k)
  obtain ⟨fs, hr, hrun, hended, hW, hsame⟩ := X7.leave (v := some (.int (1 : Int32))) (fun h => by rw [Bd.returns] at h; cases h)
  refine ⟨_, _, ch9 _ ?_, hrun, hended, _, _, rfl, ?_, ⟨_, rfl⟩, hW, hsame.mono (by decide) (by decide)⟩
  · show Steps p.tables e below (T7.setTop (mkF m 36 #[.val (.int p1), .val (.int (1 : Int32)), .val (.ref (ad 1)), .val (.ref (ad 1))] [(.int (1 : Int32))])) _
    exact retN X7 hx (t := .boolean) Bd.returns (by simp) (hb hby at_36) hr
  · show QN (some (.int (1 : Int32))) n0 _ T7.heap _
    rw [e7]
    exact ⟨rfl, N7⟩
theorem own_ef_own_from_2 (m : MethodId) {x0 : Int32} : entryFrame m #[(.int x0)] 5 = mkF m 0 #[.val (.int x0), .unset, .unset, .unset, .unset] [] := by first | (simp [entryFrame, mkF, argsToLocals, Value.category, maxLocals]; done) | rfl
set_option maxRecDepth 65536 in
set_option maxHeartbeats 40000000 in
theorem own_from_2 (l : Launch) (Z : State) (a0 : Array Value) (hw : ∀ d ∈ tables_1, d.before a0 Z = true) (ws : List Jvm.Cond) (h0 : Heap) (n0 : Nat) (Z0 : n0 ≤ h0.size) (ad : Nat → Addr) (a__VALUES : Addr) (k__VALUES : ClassId) (W : OwnWd Z h0 ad a__VALUES k__VALUES) :
    MetFree l (⟨"com/example/limpet/limpet/io/Status", "fromCode", "(I)Lcom/example/limpet/limpet/io/Status;"⟩ : MethodName) (head1 (Jvm.Cond.code (⟨"com/example/limpet/limpet/io/Status", "fromCode", "(I)Lcom/example/limpet/limpet/io/Status;"⟩ : MethodName) prog_38_method_5_code 5 (some (.object "com/example/limpet/limpet/io/Status")) :: ws) ({ frames := 2, cells := 1, slots := 9, locals := 25 } : Room)) (fun a U => a = #[(.int (2 : Int32))] ∧ Z.Warmed39 U.vm ∧ U.heap = h0) (fun _ _ _ _ _ => True) (fun _ U o U' => ∃ v L, o = .returned v ∧ QK (some (.ref (ad 2))) h0 n0 v U'.heap L ∧ FrameEnd U o U' L ({ frames := 2, cells := 1, slots := 9, locals := 25 } : Room).cells ({ frames := 2, cells := 1, slots := 9, locals := 25 } : Room).slots) := by
  refine MetFree.of_bodySF (plainFor_of_name own_pn_com_example_limpet_limpet_io_Status) hisR ?_
  intro p e s m args below meth c s₁ Bd hml0 hP hK
  obtain ⟨rfl, hZ, hh⟩ := hP
  have hx := Bd.exec
  have hby := Bd.bytes
  have hml : c.maxLocals = 5 := hml0
  have hown : s.vm.findClass "com/example/limpet/limpet/io/Status" = some m.cls := findClass_of_methodNamed Bd.named
  have hnm := (name_of_methodNamed Bd.named Bd.method).1
  have X0 : Stand p l e ({ frames := 2, cells := 1, slots := 9, locals := 25 } : Room) s m #[(.int (2 : Int32))] below meth c s₁ [] 0 0 := Stand.of_body Bd
  have e0 : s₁.heap = h0 := by rw [← hh, Bd.state]; rfl
  have N0 := Fr.nil n0
  have pre0 : ∀ t, Steps p.tables e below (s₁.setTop (mkF m 0 #[.val (.int (2 : Int32)), .unset, .unset, .unset, .unset] [])) t → Steps p.tables e below (s₁.setTop (entryFrame m #[(.int (2 : Int32))] 5)) t := fun t k => castTop (own_ef_own_from_2 m) k
  obtain ⟨vv1, _, ⟨T1, L1, kk1, nn1⟩, -, X1, ⟨Lc1, hQ1, l1, y1, z1⟩, st1⟩ := Jvm.LawKit.callS X0 hx (y := (⟨"com/example/limpet/limpet/io/Status", "values", "()[Lcom/example/limpet/limpet/io/Status;"⟩ : MethodName)) hown (mvT hZ (hw _ (List.mem_of_getElem? (i := 5) rfl))) (mvT hZ (hw _ (List.mem_of_getElem? (i := 6) rfl))) (mvT hZ (hw _ (List.mem_of_getElem? (i := 3) rfl))) (mvT hZ (hw _ (List.mem_of_getElem? (i := 7) rfl))) (by decide) (backOf (W := 0) (own_vals l Z a0 hw [] h0 n0 (Nat.le_trans Z0 (Keep.refl h0 []).1) ad a__VALUES k__VALUES W) hZ (hw _ (List.mem_of_getElem? (i := 7) rfl)) (hw _ (List.mem_of_getElem? (i := 3) rfl)) (by decide) (by decide)) (g := (mkF m 0 #[.val (.int (2 : Int32)), .unset, .unset, .unset, .unset] [])) rfl (by rw [hml]; rfl) (argsL := []) (rest := []) (lenOf own_pd____Lcom_example_limpet_limpet_io_Status_ rfl) rfl (by show 2 * 0 + _ ≤ _; exact Nat.le_of_eq rfl) (hb hby own_d_prog_38_method_5_code_0) (fun _ _ => ⟨rfl, e0, (by decide : 0 + 1 ≤ _), (by decide : 0 + 9 ≤ _)⟩)
  dsimp only [Pt.U, Pt.locs, Pt.cells, Pt.slots] at X1 l1 y1 z1 st1 hQ1
  subst l1 y1 z1
  obtain ⟨hh1, eh1⟩ : ∃ h, T1.heap = h := ⟨_, rfl⟩
  rw [eh1] at hQ1
  obtain ⟨rv, rfl, zq1, Nq1, Kq1, fq1_0⟩ := hQ1
  have N1 := Fr.app N0 Nq1
  have ne_ad0_rv : (ad 0) ≠ rv := Nat.ne_of_lt (Nat.lt_of_lt_of_le (own_E_OK W).lt zq1)
  have ne_ad1_rv : (ad 1) ≠ rv := Nat.ne_of_lt (Nat.lt_of_lt_of_le (own_E_BAD_REQUEST W).lt zq1)
  have ne_ad2_rv : (ad 2) ≠ rv := Nat.ne_of_lt (Nat.lt_of_lt_of_le (own_E_NOT_FOUND W).lt zq1)
  have ne_ad3_rv : (ad 3) ≠ rv := Nat.ne_of_lt (Nat.lt_of_lt_of_le (own_E_FAILED W).lt zq1)
  have ne_ad4_rv : (ad 4) ≠ rv := Nat.ne_of_lt (Nat.lt_of_lt_of_le (own_E_UNSUPPORTED_KEY W).lt zq1)
  have ne_ad5_rv : (ad 5) ≠ rv := Nat.ne_of_lt (Nat.lt_of_lt_of_le (own_E_PERMISSION_DENIED W).lt zq1)
  have ne_ad6_rv : (ad 6) ≠ rv := Nat.ne_of_lt (Nat.lt_of_lt_of_le (own_E_GRANT_NOT_FOUND W).lt zq1)
  have ne_ad7_rv : (ad 7) ≠ rv := Nat.ne_of_lt (Nat.lt_of_lt_of_le (own_E_TOO_MANY_KEYS W).lt zq1)
  have ne_ad8_rv : (ad 8) ≠ rv := Nat.ne_of_lt (Nat.lt_of_lt_of_le (own_E_TOO_MANY_GRANTS W).lt zq1)
  have ne_a__VALUES_rv : a__VALUES ≠ rv := Nat.ne_of_lt (Nat.lt_of_lt_of_le (own_V__VALUES W).lt zq1)
  have g_rv : n0 ≤ rv := Nat.le_trans (Nat.le_trans Z0 (Keep.refl h0 []).1) zq1
  have sz_rv : h0.size ≤ rv := Nat.le_trans (Keep.refl h0 []).1 zq1
  have Kp1 := Keep.trans (Keep.refl h0 []) Kq1 all0
  have ch2 : ∀ t, Steps p.tables e below (T1.setTop (mkF m 3 #[.val (.int (2 : Int32)), .unset, .unset, .unset, .unset] [(.ref rv)])) t → Steps p.tables e below (s₁.setTop (entryFrame m #[(.int (2 : Int32))] 5)) t := fun t k => pre0 t (by
      show Steps p.tables e below (s₁.setTop (mkF m 0 #[.val (.int (2 : Int32)), .unset, .unset, .unset, .unset] [])) t
      exact st1 t k)
  obtain ⟨cl3, Ar3, -, Sz3, Ng3, -, -⟩ := id fq1_0
  obtain ⟨cl4, Ar4, -, Sz4, Ng4, Ha4, -⟩ := id fq1_0
  have hin4 : ¬ ((0 : Int32) < 0 ∨ cl4.slots.size ≤ ((0 : Int32)).toNatClampNeg) := inb_of Sz4 (by decide)
  have hat4 : cl4.slots[((0 : Int32)).toNatClampNeg]? = some (.ref (ad 0)) := Ha4.at hin4 rfl
  have cf5 := ((own_F_OK_code W).keep Kp1 nin0)
  obtain ⟨T6, X6, e6, st6⟩ := getF X1 hx hZ hown (host := "") (Or.inl (hw _ (List.mem_of_getElem? (i := 29) rfl))) Via.refl eh1 cf5 (g := (mkF m 21 #[.val (.int (2 : Int32)), .val (.ref rv), .val (.int (9 : Int32)), .val (.int (0 : Int32)), .val (.ref (ad 0))] [(.ref (ad 0))])) rfl rfl (hb hby own_d_prog_38_method_5_code_21)
  have ch7 : ∀ t, Steps p.tables e below (T6.setTop (mkF m 24 #[.val (.int (2 : Int32)), .val (.ref rv), .val (.int (9 : Int32)), .val (.int (0 : Int32)), .val (.ref (ad 0))] [(.int (0 : Int32))])) t → Steps p.tables e below (s₁.setTop (entryFrame m #[(.int (2 : Int32))] 5)) t := fun t k => ch2 t (by
      show Steps p.tables e below (T1.setTop (mkF m 3 #[.val (.int (2 : Int32)), .unset, .unset, .unset, .unset] [(.ref rv)])) t
      refine XS.astoreN X1.here hx rfl (hb hby own_d_prog_38_method_5_code_3) rfl rfl (l' := #[.val (.int (2 : Int32)), .val (.ref rv), .unset, .unset, .unset]) rfl ?_
      show Steps p.tables e below (T1.setTop (mkF m 4 #[.val (.int (2 : Int32)), .val (.ref rv), .unset, .unset, .unset] [])) t
      refine XS.aloadN X1.here hx rfl (hb hby own_d_prog_38_method_5_code_4) rfl rfl ?_
      show Steps p.tables e below (T1.setTop (mkF m 5 #[.val (.int (2 : Int32)), .val (.ref rv), .unset, .unset, .unset] [(.ref rv)])) t
      refine X1.arraylength hx (by rw [eh1]; exact Ar3.1) (State.isArrayOf_alike hZ.alike Ar3.2.1) (g := (mkF m 5 #[.val (.int (2 : Int32)), .val (.ref rv), .unset, .unset, .unset] [(.ref rv)])) rfl rfl (hb hby own_d_prog_38_method_5_code_5) _ ?_
      rw [len_of Sz3 Ng3]
      show Steps p.tables e below (T1.setTop (mkF m 6 #[.val (.int (2 : Int32)), .val (.ref rv), .unset, .unset, .unset] [(.int (9 : Int32))])) t
      refine XS.istoreN X1.here hx rfl (hb hby own_d_prog_38_method_5_code_6) rfl (l' := #[.val (.int (2 : Int32)), .val (.ref rv), .val (.int (9 : Int32)), .unset, .unset]) rfl ?_
      show Steps p.tables e below (T1.setTop (mkF m 7 #[.val (.int (2 : Int32)), .val (.ref rv), .val (.int (9 : Int32)), .unset, .unset] [])) t
      refine XS.iconst X1.here hx rfl (hb hby own_d_prog_38_method_5_code_7) ?_
      show Steps p.tables e below (T1.setTop (mkF m 8 #[.val (.int (2 : Int32)), .val (.ref rv), .val (.int (9 : Int32)), .unset, .unset] [(.int (0 : Int32))])) t
      refine XS.istoreN X1.here hx rfl (hb hby own_d_prog_38_method_5_code_8) rfl (l' := #[.val (.int (2 : Int32)), .val (.ref rv), .val (.int (9 : Int32)), .val (.int (0 : Int32)), .unset]) rfl ?_
      show Steps p.tables e below (T1.setTop (mkF m 9 #[.val (.int (2 : Int32)), .val (.ref rv), .val (.int (9 : Int32)), .val (.int (0 : Int32)), .unset] [])) t
      refine XS.iloadN X1.here hx rfl (hb hby own_d_prog_38_method_5_code_9) rfl ?_
      show Steps p.tables e below (T1.setTop (mkF m 10 #[.val (.int (2 : Int32)), .val (.ref rv), .val (.int (9 : Int32)), .val (.int (0 : Int32)), .unset] [(.int (0 : Int32))])) t
      refine XS.iloadN X1.here hx rfl (hb hby own_d_prog_38_method_5_code_10) rfl ?_
      show Steps p.tables e below (T1.setTop (mkF m 11 #[.val (.int (2 : Int32)), .val (.ref rv), .val (.int (9 : Int32)), .val (.int (0 : Int32)), .unset] [(.int (9 : Int32)), (.int (0 : Int32))])) t
      refine XS.icmpNo X1.here hx rfl (hb hby own_d_prog_38_method_5_code_11) rfl (tlt (by decide : (0 : Int32) < (9 : Int32))).2.1 ?_
      show Steps p.tables e below (T1.setTop (mkF m 14 #[.val (.int (2 : Int32)), .val (.ref rv), .val (.int (9 : Int32)), .val (.int (0 : Int32)), .unset] [])) t
      refine XS.aloadN X1.here hx rfl (hb hby own_d_prog_38_method_5_code_14) rfl rfl ?_
      show Steps p.tables e below (T1.setTop (mkF m 15 #[.val (.int (2 : Int32)), .val (.ref rv), .val (.int (9 : Int32)), .val (.int (0 : Int32)), .unset] [(.ref rv)])) t
      refine XS.iloadN X1.here hx rfl (hb hby own_d_prog_38_method_5_code_15) rfl ?_
      show Steps p.tables e below (T1.setTop (mkF m 16 #[.val (.int (2 : Int32)), .val (.ref rv), .val (.int (9 : Int32)), .val (.int (0 : Int32)), .unset] [(.int (0 : Int32)), (.ref rv)])) t
      refine X1.aaload hx (j := (0 : Int32)) (v := (.ref (ad 0))) (by rw [eh1]; exact Ar4.1) (State.isArrayOf_alike hZ.alike Ar4.2.1) rfl Ar4.2.2 hin4 hat4 (g := (mkF m 16 #[.val (.int (2 : Int32)), .val (.ref rv), .val (.int (9 : Int32)), .val (.int (0 : Int32)), .unset] [(.int (0 : Int32)), (.ref rv)])) rfl rfl (hb hby own_d_prog_38_method_5_code_16) _ ?_
      show Steps p.tables e below (T1.setTop (mkF m 17 #[.val (.int (2 : Int32)), .val (.ref rv), .val (.int (9 : Int32)), .val (.int (0 : Int32)), .unset] [(.ref (ad 0))])) t
      refine XS.astore X1.here hx rfl (hb hby own_d_prog_38_method_5_code_17) rfl rfl (l' := #[.val (.int (2 : Int32)), .val (.ref rv), .val (.int (9 : Int32)), .val (.int (0 : Int32)), .val (.ref (ad 0))]) rfl ?_
      show Steps p.tables e below (T1.setTop (mkF m 19 #[.val (.int (2 : Int32)), .val (.ref rv), .val (.int (9 : Int32)), .val (.int (0 : Int32)), .val (.ref (ad 0))] [])) t
      refine XS.aload X1.here hx rfl (hb hby own_d_prog_38_method_5_code_19) rfl rfl ?_
      show Steps p.tables e below (T1.setTop (mkF m 21 #[.val (.int (2 : Int32)), .val (.ref rv), .val (.int (9 : Int32)), .val (.int (0 : Int32)), .val (.ref (ad 0))] [(.ref (ad 0))])) t
      exact st6 t k)
  obtain ⟨cl8, Ar8, -, Sz8, Ng8, Ha8, -⟩ := id fq1_0
  have hin8 : ¬ ((1 : Int32) < 0 ∨ cl8.slots.size ≤ ((1 : Int32)).toNatClampNeg) := inb_of Sz8 (by decide)
  have hat8 : cl8.slots[((1 : Int32)).toNatClampNeg]? = some (.ref (ad 1)) := Ha8.at hin8 rfl
  have cf9 := ((own_F_BAD_REQUEST_code W).keep Kp1 nin0)
  obtain ⟨T10, X10, e10, st10⟩ := getF X6 hx hZ hown (host := "") (Or.inl (hw _ (List.mem_of_getElem? (i := 29) rfl))) Via.refl e6 cf9 (g := (mkF m 21 #[.val (.int (2 : Int32)), .val (.ref rv), .val (.int (9 : Int32)), .val (.int (1 : Int32)), .val (.ref (ad 1))] [(.ref (ad 1))])) rfl rfl (hb hby own_d_prog_38_method_5_code_21)
  have ch11 : ∀ t, Steps p.tables e below (T10.setTop (mkF m 24 #[.val (.int (2 : Int32)), .val (.ref rv), .val (.int (9 : Int32)), .val (.int (1 : Int32)), .val (.ref (ad 1))] [(.int (1 : Int32))])) t → Steps p.tables e below (s₁.setTop (entryFrame m #[(.int (2 : Int32))] 5)) t := fun t k => ch7 t (by
      show Steps p.tables e below (T6.setTop (mkF m 24 #[.val (.int (2 : Int32)), .val (.ref rv), .val (.int (9 : Int32)), .val (.int (0 : Int32)), .val (.ref (ad 0))] [(.int (0 : Int32))])) t
      refine XS.iloadN X6.here hx rfl (hb hby own_d_prog_38_method_5_code_24) rfl ?_
      show Steps p.tables e below (T6.setTop (mkF m 25 #[.val (.int (2 : Int32)), .val (.ref rv), .val (.int (9 : Int32)), .val (.int (0 : Int32)), .val (.ref (ad 0))] [(.int (2 : Int32)), (.int (0 : Int32))])) t
      refine XS.icmpYes X6.here hx rfl (pc0 := 25) (pc' := 31) rfl (hb hby own_d_prog_38_method_5_code_25) rfl (feq (by decide : ¬ (0 : Int32) = (2 : Int32))).2 (by decide) (by decide) ?_
      show Steps p.tables e below (T6.setTop (mkF m 31 #[.val (.int (2 : Int32)), .val (.ref rv), .val (.int (9 : Int32)), .val (.int (0 : Int32)), .val (.ref (ad 0))] [])) t
      refine Jvm.Free.XT.iincV X6.here hx rfl (1 : Int32) (hb hby own_d_prog_38_method_5_code_31) (by decide) rfl (l' := #[.val (.int (2 : Int32)), .val (.ref rv), .val (.int (9 : Int32)), .val (.int (1 : Int32)), .val (.ref (ad 0))]) (by rw [show ((0 : Int32) + (1 : Int32)) = (1 : Int32) from by decide]; rfl) ?_
      show Steps p.tables e below (T6.setTop (mkF m 34 #[.val (.int (2 : Int32)), .val (.ref rv), .val (.int (9 : Int32)), .val (.int (1 : Int32)), .val (.ref (ad 0))] [])) t
      refine XS.goto X6.here hx rfl (pc0 := 34) (pc' := 9) rfl (hb hby own_d_prog_38_method_5_code_34) (by decide) (by decide) ?_
      show Steps p.tables e below (T6.setTop (mkF m 9 #[.val (.int (2 : Int32)), .val (.ref rv), .val (.int (9 : Int32)), .val (.int (1 : Int32)), .val (.ref (ad 0))] [])) t
      refine XS.iloadN X6.here hx rfl (hb hby own_d_prog_38_method_5_code_9) rfl ?_
      show Steps p.tables e below (T6.setTop (mkF m 10 #[.val (.int (2 : Int32)), .val (.ref rv), .val (.int (9 : Int32)), .val (.int (1 : Int32)), .val (.ref (ad 0))] [(.int (1 : Int32))])) t
      refine XS.iloadN X6.here hx rfl (hb hby own_d_prog_38_method_5_code_10) rfl ?_
      show Steps p.tables e below (T6.setTop (mkF m 11 #[.val (.int (2 : Int32)), .val (.ref rv), .val (.int (9 : Int32)), .val (.int (1 : Int32)), .val (.ref (ad 0))] [(.int (9 : Int32)), (.int (1 : Int32))])) t
      refine XS.icmpNo X6.here hx rfl (hb hby own_d_prog_38_method_5_code_11) rfl (tlt (by decide : (1 : Int32) < (9 : Int32))).2.1 ?_
      show Steps p.tables e below (T6.setTop (mkF m 14 #[.val (.int (2 : Int32)), .val (.ref rv), .val (.int (9 : Int32)), .val (.int (1 : Int32)), .val (.ref (ad 0))] [])) t
      refine XS.aloadN X6.here hx rfl (hb hby own_d_prog_38_method_5_code_14) rfl rfl ?_
      show Steps p.tables e below (T6.setTop (mkF m 15 #[.val (.int (2 : Int32)), .val (.ref rv), .val (.int (9 : Int32)), .val (.int (1 : Int32)), .val (.ref (ad 0))] [(.ref rv)])) t
      refine XS.iloadN X6.here hx rfl (hb hby own_d_prog_38_method_5_code_15) rfl ?_
      show Steps p.tables e below (T6.setTop (mkF m 16 #[.val (.int (2 : Int32)), .val (.ref rv), .val (.int (9 : Int32)), .val (.int (1 : Int32)), .val (.ref (ad 0))] [(.int (1 : Int32)), (.ref rv)])) t
      refine X6.aaload hx (j := (1 : Int32)) (v := (.ref (ad 1))) (by rw [e6]; exact Ar8.1) (State.isArrayOf_alike hZ.alike Ar8.2.1) rfl Ar8.2.2 hin8 hat8 (g := (mkF m 16 #[.val (.int (2 : Int32)), .val (.ref rv), .val (.int (9 : Int32)), .val (.int (1 : Int32)), .val (.ref (ad 0))] [(.int (1 : Int32)), (.ref rv)])) rfl rfl (hb hby own_d_prog_38_method_5_code_16) _ ?_
      show Steps p.tables e below (T6.setTop (mkF m 17 #[.val (.int (2 : Int32)), .val (.ref rv), .val (.int (9 : Int32)), .val (.int (1 : Int32)), .val (.ref (ad 0))] [(.ref (ad 1))])) t
      refine XS.astore X6.here hx rfl (hb hby own_d_prog_38_method_5_code_17) rfl rfl (l' := #[.val (.int (2 : Int32)), .val (.ref rv), .val (.int (9 : Int32)), .val (.int (1 : Int32)), .val (.ref (ad 1))]) rfl ?_
      show Steps p.tables e below (T6.setTop (mkF m 19 #[.val (.int (2 : Int32)), .val (.ref rv), .val (.int (9 : Int32)), .val (.int (1 : Int32)), .val (.ref (ad 1))] [])) t
      refine XS.aload X6.here hx rfl (hb hby own_d_prog_38_method_5_code_19) rfl rfl ?_
      show Steps p.tables e below (T6.setTop (mkF m 21 #[.val (.int (2 : Int32)), .val (.ref rv), .val (.int (9 : Int32)), .val (.int (1 : Int32)), .val (.ref (ad 1))] [(.ref (ad 1))])) t
      exact st10 t k)
  obtain ⟨cl12, Ar12, -, Sz12, Ng12, Ha12, -⟩ := id fq1_0
  have hin12 : ¬ ((2 : Int32) < 0 ∨ cl12.slots.size ≤ ((2 : Int32)).toNatClampNeg) := inb_of Sz12 (by decide)
  have hat12 : cl12.slots[((2 : Int32)).toNatClampNeg]? = some (.ref (ad 2)) := Ha12.at hin12 rfl
  have cf13 := ((own_F_NOT_FOUND_code W).keep Kp1 nin0)
  obtain ⟨T14, X14, e14, st14⟩ := getF X10 hx hZ hown (host := "") (Or.inl (hw _ (List.mem_of_getElem? (i := 29) rfl))) Via.refl e10 cf13 (g := (mkF m 21 #[.val (.int (2 : Int32)), .val (.ref rv), .val (.int (9 : Int32)), .val (.int (2 : Int32)), .val (.ref (ad 2))] [(.ref (ad 2))])) rfl rfl (hb hby own_d_prog_38_method_5_code_21)
  have ch15 : ∀ t, Steps p.tables e below (T14.setTop (mkF m 24 #[.val (.int (2 : Int32)), .val (.ref rv), .val (.int (9 : Int32)), .val (.int (2 : Int32)), .val (.ref (ad 2))] [(.int (2 : Int32))])) t → Steps p.tables e below (s₁.setTop (entryFrame m #[(.int (2 : Int32))] 5)) t := fun t k => ch11 t (by
      show Steps p.tables e below (T10.setTop (mkF m 24 #[.val (.int (2 : Int32)), .val (.ref rv), .val (.int (9 : Int32)), .val (.int (1 : Int32)), .val (.ref (ad 1))] [(.int (1 : Int32))])) t
      refine XS.iloadN X10.here hx rfl (hb hby own_d_prog_38_method_5_code_24) rfl ?_
      show Steps p.tables e below (T10.setTop (mkF m 25 #[.val (.int (2 : Int32)), .val (.ref rv), .val (.int (9 : Int32)), .val (.int (1 : Int32)), .val (.ref (ad 1))] [(.int (2 : Int32)), (.int (1 : Int32))])) t
      refine XS.icmpYes X10.here hx rfl (pc0 := 25) (pc' := 31) rfl (hb hby own_d_prog_38_method_5_code_25) rfl (feq (by decide : ¬ (1 : Int32) = (2 : Int32))).2 (by decide) (by decide) ?_
      show Steps p.tables e below (T10.setTop (mkF m 31 #[.val (.int (2 : Int32)), .val (.ref rv), .val (.int (9 : Int32)), .val (.int (1 : Int32)), .val (.ref (ad 1))] [])) t
      refine Jvm.Free.XT.iincV X10.here hx rfl (1 : Int32) (hb hby own_d_prog_38_method_5_code_31) (by decide) rfl (l' := #[.val (.int (2 : Int32)), .val (.ref rv), .val (.int (9 : Int32)), .val (.int (2 : Int32)), .val (.ref (ad 1))]) (by rw [show ((1 : Int32) + (1 : Int32)) = (2 : Int32) from by decide]; rfl) ?_
      show Steps p.tables e below (T10.setTop (mkF m 34 #[.val (.int (2 : Int32)), .val (.ref rv), .val (.int (9 : Int32)), .val (.int (2 : Int32)), .val (.ref (ad 1))] [])) t
      refine XS.goto X10.here hx rfl (pc0 := 34) (pc' := 9) rfl (hb hby own_d_prog_38_method_5_code_34) (by decide) (by decide) ?_
      show Steps p.tables e below (T10.setTop (mkF m 9 #[.val (.int (2 : Int32)), .val (.ref rv), .val (.int (9 : Int32)), .val (.int (2 : Int32)), .val (.ref (ad 1))] [])) t
      refine XS.iloadN X10.here hx rfl (hb hby own_d_prog_38_method_5_code_9) rfl ?_
      show Steps p.tables e below (T10.setTop (mkF m 10 #[.val (.int (2 : Int32)), .val (.ref rv), .val (.int (9 : Int32)), .val (.int (2 : Int32)), .val (.ref (ad 1))] [(.int (2 : Int32))])) t
      refine XS.iloadN X10.here hx rfl (hb hby own_d_prog_38_method_5_code_10) rfl ?_
      show Steps p.tables e below (T10.setTop (mkF m 11 #[.val (.int (2 : Int32)), .val (.ref rv), .val (.int (9 : Int32)), .val (.int (2 : Int32)), .val (.ref (ad 1))] [(.int (9 : Int32)), (.int (2 : Int32))])) t
      refine XS.icmpNo X10.here hx rfl (hb hby own_d_prog_38_method_5_code_11) rfl (tlt (by decide : (2 : Int32) < (9 : Int32))).2.1 ?_
      show Steps p.tables e below (T10.setTop (mkF m 14 #[.val (.int (2 : Int32)), .val (.ref rv), .val (.int (9 : Int32)), .val (.int (2 : Int32)), .val (.ref (ad 1))] [])) t
      refine XS.aloadN X10.here hx rfl (hb hby own_d_prog_38_method_5_code_14) rfl rfl ?_
      show Steps p.tables e below (T10.setTop (mkF m 15 #[.val (.int (2 : Int32)), .val (.ref rv), .val (.int (9 : Int32)), .val (.int (2 : Int32)), .val (.ref (ad 1))] [(.ref rv)])) t
      refine XS.iloadN X10.here hx rfl (hb hby own_d_prog_38_method_5_code_15) rfl ?_
      show Steps p.tables e below (T10.setTop (mkF m 16 #[.val (.int (2 : Int32)), .val (.ref rv), .val (.int (9 : Int32)), .val (.int (2 : Int32)), .val (.ref (ad 1))] [(.int (2 : Int32)), (.ref rv)])) t
      refine X10.aaload hx (j := (2 : Int32)) (v := (.ref (ad 2))) (by rw [e10]; exact Ar12.1) (State.isArrayOf_alike hZ.alike Ar12.2.1) rfl Ar12.2.2 hin12 hat12 (g := (mkF m 16 #[.val (.int (2 : Int32)), .val (.ref rv), .val (.int (9 : Int32)), .val (.int (2 : Int32)), .val (.ref (ad 1))] [(.int (2 : Int32)), (.ref rv)])) rfl rfl (hb hby own_d_prog_38_method_5_code_16) _ ?_
      show Steps p.tables e below (T10.setTop (mkF m 17 #[.val (.int (2 : Int32)), .val (.ref rv), .val (.int (9 : Int32)), .val (.int (2 : Int32)), .val (.ref (ad 1))] [(.ref (ad 2))])) t
      refine XS.astore X10.here hx rfl (hb hby own_d_prog_38_method_5_code_17) rfl rfl (l' := #[.val (.int (2 : Int32)), .val (.ref rv), .val (.int (9 : Int32)), .val (.int (2 : Int32)), .val (.ref (ad 2))]) rfl ?_
      show Steps p.tables e below (T10.setTop (mkF m 19 #[.val (.int (2 : Int32)), .val (.ref rv), .val (.int (9 : Int32)), .val (.int (2 : Int32)), .val (.ref (ad 2))] [])) t
      refine XS.aload X10.here hx rfl (hb hby own_d_prog_38_method_5_code_19) rfl rfl ?_
      show Steps p.tables e below (T10.setTop (mkF m 21 #[.val (.int (2 : Int32)), .val (.ref rv), .val (.int (9 : Int32)), .val (.int (2 : Int32)), .val (.ref (ad 2))] [(.ref (ad 2))])) t
      exact st14 t k)
  have ch16 : ∀ t, Steps p.tables e below (T14.setTop (mkF m 30 #[.val (.int (2 : Int32)), .val (.ref rv), .val (.int (9 : Int32)), .val (.int (2 : Int32)), .val (.ref (ad 2))] [(.ref (ad 2))])) t → Steps p.tables e below (s₁.setTop (entryFrame m #[(.int (2 : Int32))] 5)) t := fun t k => ch15 t (by
      show Steps p.tables e below (T14.setTop (mkF m 24 #[.val (.int (2 : Int32)), .val (.ref rv), .val (.int (9 : Int32)), .val (.int (2 : Int32)), .val (.ref (ad 2))] [(.int (2 : Int32))])) t
      refine XS.iloadN X14.here hx rfl (hb hby own_d_prog_38_method_5_code_24) rfl ?_
      show Steps p.tables e below (T14.setTop (mkF m 25 #[.val (.int (2 : Int32)), .val (.ref rv), .val (.int (9 : Int32)), .val (.int (2 : Int32)), .val (.ref (ad 2))] [(.int (2 : Int32)), (.int (2 : Int32))])) t
      refine XS.icmpNo X14.here hx rfl (hb hby own_d_prog_38_method_5_code_25) rfl (teq (by decide : (2 : Int32) = (2 : Int32))).2 ?_
      show Steps p.tables e below (T14.setTop (mkF m 28 #[.val (.int (2 : Int32)), .val (.ref rv), .val (.int (9 : Int32)), .val (.int (2 : Int32)), .val (.ref (ad 2))] [])) t
      refine XS.aload X14.here hx rfl (hb hby own_d_prog_38_method_5_code_28) rfl rfl ?_
      exact k)
  obtain ⟨fs, hr, hrun, hended, hW, hsame⟩ := X14.leave (v := some (.ref (ad 2))) (fun h => by rw [Bd.returns] at h; cases h)
  refine ⟨_, _, ch16 _ ?_, hrun, hended, _, _, rfl, ?_, ⟨_, rfl⟩, hW, hsame.mono (by decide) (by decide)⟩
  · show Steps p.tables e below (T14.setTop (mkF m 30 #[.val (.int (2 : Int32)), .val (.ref rv), .val (.int (9 : Int32)), .val (.int (2 : Int32)), .val (.ref (ad 2))] [(.ref (ad 2))])) _
    jvm_step X14.here [X14.here.top, hx, (hb hby own_d_prog_38_method_5_code_30), X14.method', Bd.returns, Value.isRef, FieldType.isReference]
    first | (intro acts; rw [hr _ acts rfl rfl rfl]) | rw [hr _ _ rfl rfl rfl]
    exact Steps.refl _
  · show QK (some (.ref (ad 2))) h0 n0 _ T14.heap _
    rw [e14]
    exact ⟨rfl, N1, Kp1⟩
theorem own_ef_own_expd_2 (m : MethodId) {x0 : Int32} : entryFrame m #[(.int x0)] 1 = mkF m 0 #[.val (.int x0)] [] := by first | (simp [entryFrame, mkF, argsToLocals, Value.category, maxLocals]; done) | rfl
set_option maxRecDepth 65536 in
set_option maxHeartbeats 40000000 in
theorem own_expd_2 (l : Launch) (Z : State) (a0 : Array Value) (hw : ∀ d ∈ tables_1, d.before a0 Z = true) (ws : List Jvm.Cond) (h0 : Heap) (n0 : Nat) (Z0 : n0 ≤ h0.size) (ad : Nat → Addr) (a__VALUES : Addr) (k__VALUES : ClassId) (W : OwnWd Z h0 ad a__VALUES k__VALUES) :
    MetFree l (⟨"com/example/limpet/limpet/io/StatusFromCodePinLaw", "expected", "(I)Lcom/example/limpet/limpet/io/Status;"⟩ : MethodName) (head1 (Jvm.Cond.code (⟨"com/example/limpet/limpet/io/StatusFromCodePinLaw", "expected", "(I)Lcom/example/limpet/limpet/io/Status;"⟩ : MethodName) method_2_code 1 (some (.object "com/example/limpet/limpet/io/Status")) :: ws) ({ frames := 0, cells := 0, slots := 0, locals := 0 } : Room)) (fun a U => a = #[(.int (2 : Int32))] ∧ Z.Warmed39 U.vm ∧ U.heap = h0) (fun _ _ _ _ _ => True) (fun _ U o U' => ∃ v L, o = .returned v ∧ QV (some (.ref (ad 2))) h0 n0 v U'.heap L ∧ FrameEnd U o U' L ({ frames := 0, cells := 0, slots := 0, locals := 0 } : Room).cells ({ frames := 0, cells := 0, slots := 0, locals := 0 } : Room).slots) := by
  refine MetFree.of_bodySF (plainFor_of_name own_pn_com_example_limpet_limpet_io_StatusFromCodePinLaw) hisR ?_
  intro p e s m args below meth c s₁ Bd hml0 hP hK
  obtain ⟨rfl, hZ, hh⟩ := hP
  have hx := Bd.exec
  have hby := Bd.bytes
  have hml : c.maxLocals = 1 := hml0
  have hown : s.vm.findClass "com/example/limpet/limpet/io/StatusFromCodePinLaw" = some m.cls := findClass_of_methodNamed Bd.named
  have hnm := (name_of_methodNamed Bd.named Bd.method).1
  have X0 : Stand p l e ({ frames := 0, cells := 0, slots := 0, locals := 0 } : Room) s m #[(.int (2 : Int32))] below meth c s₁ [] 0 0 := Stand.of_body Bd
  have e0 : s₁.heap = h0 := by rw [← hh, Bd.state]; rfl
  have N0 := Fr.nil n0
  have pre0 : ∀ t, Steps p.tables e below (s₁.setTop (mkF m 0 #[.val (.int (2 : Int32))] [])) t → Steps p.tables e below (s₁.setTop (entryFrame m #[(.int (2 : Int32))] 1)) t := fun t k => castTop (own_ef_own_expd_2 m) k
  obtain ⟨T1, X1, e1, st1⟩ := getS2 X0 hx hZ hown (host := "") (Or.inl (hw _ (List.mem_of_getElem? (i := 42) rfl))) Via.refl e0 (own_S_NOT_FOUND W) (g := (mkF m 22 #[.val (.int (2 : Int32))] [])) rfl (hb hby own_d_method_2_code_22)
  have ch2 : ∀ t, Steps p.tables e below (T1.setTop (mkF m 25 #[.val (.int (2 : Int32))] [(.ref (ad 2))])) t → Steps p.tables e below (s₁.setTop (entryFrame m #[(.int (2 : Int32))] 1)) t := fun t k => pre0 t (by
      show Steps p.tables e below (s₁.setTop (mkF m 0 #[.val (.int (2 : Int32))] [])) t
      refine XS.iloadN X0.here hx rfl (hb hby own_d_method_2_code_0) rfl ?_
      show Steps p.tables e below (s₁.setTop (mkF m 1 #[.val (.int (2 : Int32))] [(.int (2 : Int32))])) t
      refine XS.ifYes X0.here hx rfl (pc0 := 1) (pc' := 8) rfl (hb hby own_d_method_2_code_1) rfl ((if0 _ _).trans (feq (by decide : ¬ (2 : Int32) = (0 : Int32))).2) (by decide) (by decide) ?_
      show Steps p.tables e below (s₁.setTop (mkF m 8 #[.val (.int (2 : Int32))] [])) t
      refine XS.iloadN X0.here hx rfl (hb hby own_d_method_2_code_8) rfl ?_
      show Steps p.tables e below (s₁.setTop (mkF m 9 #[.val (.int (2 : Int32))] [(.int (2 : Int32))])) t
      refine XS.iconst X0.here hx rfl (hb hby own_d_method_2_code_9) ?_
      show Steps p.tables e below (s₁.setTop (mkF m 10 #[.val (.int (2 : Int32))] [(.int (1 : Int32)), (.int (2 : Int32))])) t
      refine XS.icmpYes X0.here hx rfl (pc0 := 10) (pc' := 17) rfl (hb hby own_d_method_2_code_10) rfl (feq (by decide : ¬ (2 : Int32) = (1 : Int32))).2 (by decide) (by decide) ?_
      show Steps p.tables e below (s₁.setTop (mkF m 17 #[.val (.int (2 : Int32))] [])) t
      refine XS.iloadN X0.here hx rfl (hb hby own_d_method_2_code_17) rfl ?_
      show Steps p.tables e below (s₁.setTop (mkF m 18 #[.val (.int (2 : Int32))] [(.int (2 : Int32))])) t
      refine XS.iconst X0.here hx rfl (hb hby own_d_method_2_code_18) ?_
      show Steps p.tables e below (s₁.setTop (mkF m 19 #[.val (.int (2 : Int32))] [(.int (2 : Int32)), (.int (2 : Int32))])) t
      refine XS.icmpNo X0.here hx rfl (hb hby own_d_method_2_code_19) rfl (teq (by decide : (2 : Int32) = (2 : Int32))).2 ?_
      show Steps p.tables e below (s₁.setTop (mkF m 22 #[.val (.int (2 : Int32))] [])) t
      exact st1 t k)
  obtain ⟨fs, hr, hrun, hended, hW, hsame⟩ := X1.leave (v := some (.ref (ad 2))) (fun h => by rw [Bd.returns] at h; cases h)
  refine ⟨_, _, ch2 _ ?_, hrun, hended, _, _, rfl, ?_, ⟨_, rfl⟩, hW, hsame.mono (by decide) (by decide)⟩
  · show Steps p.tables e below (T1.setTop (mkF m 25 #[.val (.int (2 : Int32))] [(.ref (ad 2))])) _
    jvm_step X1.here [X1.here.top, hx, (hb hby own_d_method_2_code_25), X1.method', Bd.returns, Value.isRef, FieldType.isReference]
    first | (intro acts; rw [hr _ acts rfl rfl rfl]) | rw [hr _ _ rfl rfl rfl]
    exact Steps.refl _
  · show QV (some (.ref (ad 2))) h0 n0 _ T1.heap _
    rw [e1]
    exact ⟨rfl, N0, rfl⟩
theorem own_ef_own_code_2 (m : MethodId) {x0 : Addr} : entryFrame m #[(.ref x0)] 1 = mkF m 0 #[.val (.ref x0)] [] := by first | (simp [entryFrame, mkF, argsToLocals, Value.category, maxLocals]; done) | rfl
set_option maxRecDepth 65536 in
set_option maxHeartbeats 40000000 in
theorem own_code_2 (l : Launch) (Z : State) (a0 : Array Value) (hw : ∀ d ∈ tables_1, d.before a0 Z = true) (ws : List Jvm.Cond) (h0 : Heap) (n0 : Nat) (Z0 : n0 ≤ h0.size) (ad : Nat → Addr) (a__VALUES : Addr) (k__VALUES : ClassId) (W : OwnWd Z h0 ad a__VALUES k__VALUES) :
    MetFree l (⟨"com/example/limpet/limpet/io/Status", "code", "()I"⟩ : MethodName) (head1 (Jvm.Cond.code (⟨"com/example/limpet/limpet/io/Status", "code", "()I"⟩ : MethodName) prog_38_method_4_code 1 (some .int) :: ws) ({ frames := 0, cells := 0, slots := 0, locals := 0 } : Room)) (fun a U => a = #[(.ref (ad 2))] ∧ Z.Warmed39 U.vm ∧ U.heap = h0) (fun _ _ _ _ _ => True) (fun _ U o U' => ∃ v L, o = .returned v ∧ QV (some (.int (2 : Int32))) h0 n0 v U'.heap L ∧ FrameEnd U o U' L ({ frames := 0, cells := 0, slots := 0, locals := 0 } : Room).cells ({ frames := 0, cells := 0, slots := 0, locals := 0 } : Room).slots) := by
  refine MetFree.of_bodySF (plainFor_of_name own_pn_com_example_limpet_limpet_io_Status) hisR ?_
  intro p e s m args below meth c s₁ Bd hml0 hP hK
  obtain ⟨rfl, hZ, hh⟩ := hP
  have hx := Bd.exec
  have hby := Bd.bytes
  have hml : c.maxLocals = 1 := hml0
  have hown : s.vm.findClass "com/example/limpet/limpet/io/Status" = some m.cls := findClass_of_methodNamed Bd.named
  have hnm := (name_of_methodNamed Bd.named Bd.method).1
  have X0 : Stand p l e ({ frames := 0, cells := 0, slots := 0, locals := 0 } : Room) s m #[(.ref (ad 2))] below meth c s₁ [] 0 0 := Stand.of_body Bd
  have e0 : s₁.heap = h0 := by rw [← hh, Bd.state]; rfl
  have N0 := Fr.nil n0
  have pre0 : ∀ t, Steps p.tables e below (s₁.setTop (mkF m 0 #[.val (.ref (ad 2))] [])) t → Steps p.tables e below (s₁.setTop (entryFrame m #[(.ref (ad 2))] 1)) t := fun t k => castTop (own_ef_own_code_2 m) k
  obtain ⟨T1, X1, e1, st1⟩ := getF X0 hx hZ hown (host := "") (Or.inl (hw _ (List.mem_of_getElem? (i := 29) rfl))) Via.refl e0 (own_F_NOT_FOUND_code W) (g := (mkF m 1 #[.val (.ref (ad 2))] [(.ref (ad 2))])) rfl rfl (hb hby own_d_prog_38_method_4_code_1)
  have ch2 : ∀ t, Steps p.tables e below (T1.setTop (mkF m 4 #[.val (.ref (ad 2))] [(.int (2 : Int32))])) t → Steps p.tables e below (s₁.setTop (entryFrame m #[(.ref (ad 2))] 1)) t := fun t k => pre0 t (by
      show Steps p.tables e below (s₁.setTop (mkF m 0 #[.val (.ref (ad 2))] [])) t
      refine XS.aloadN X0.here hx rfl (hb hby own_d_prog_38_method_4_code_0) rfl rfl ?_
      show Steps p.tables e below (s₁.setTop (mkF m 1 #[.val (.ref (ad 2))] [(.ref (ad 2))])) t
      exact st1 t k)
  obtain ⟨fs, hr, hrun, hended, hW, hsame⟩ := X1.leave (v := some (.int (2 : Int32))) (fun h => by rw [Bd.returns] at h; cases h)
  refine ⟨_, _, ch2 _ ?_, hrun, hended, _, _, rfl, ?_, ⟨_, rfl⟩, hW, hsame.mono (by decide) (by decide)⟩
  · show Steps p.tables e below (T1.setTop (mkF m 4 #[.val (.ref (ad 2))] [(.int (2 : Int32))])) _
    exact retI X1 hx Bd.returns (hb hby own_d_prog_38_method_4_code_4) hr
  · show QV (some (.int (2 : Int32))) h0 n0 _ T1.heap _
    rw [e1]
    exact ⟨rfl, N0, rfl⟩
theorem own_ef_own_law_2 (m : MethodId) {x0 : Int32} : entryFrame m #[(.int x0)] maxLocals = mkF m 0 #[.val (.int x0), .unset, .unset, .unset] [] := by first | (simp [entryFrame, mkF, argsToLocals, Value.category, maxLocals]; done) | rfl
set_option maxRecDepth 65536 in
set_option maxHeartbeats 40000000 in
theorem own_law_2 (l : Launch) (Z : State) (a0 : Array Value) (hw : ∀ d ∈ tables_1, d.before a0 Z = true) (ws : List Jvm.Cond) (h0 : Heap) (n0 : Nat) (Z0 : n0 ≤ h0.size) (p1 : Int32) (hk : (p1 &&& (2147483647 : Int32)) % (9 : Int32) = (2 : Int32)) (ad : Nat → Addr) (a__VALUES : Addr) (k__VALUES : ClassId) (W : OwnWd Z h0 ad a__VALUES k__VALUES) :
    MetFree l x (head1 (Jvm.Cond.code x code maxLocals ret :: ws) room_1) (fun a U => a = #[(.int p1)] ∧ Z.Warmed39 U.vm ∧ U.heap = h0) (fun _ _ _ _ _ => True) (fun _ U o U' => ∃ v L, o = .returned v ∧ QN (some (.int (1 : Int32))) n0 v U'.heap L ∧ FrameEnd U o U' L room_1.cells room_1.slots) := by
  refine MetFree.of_bodySF (plainFor_of_name own_pn_com_example_limpet_limpet_io_StatusFromCodePinLaw) hisR ?_
  intro p e s m args below meth c s₁ Bd hml0 hP hK
  obtain ⟨rfl, hZ, hh⟩ := hP
  have hx := Bd.exec
  have hby := Bd.bytes
  have hml : c.maxLocals = 4 := hml0
  have hown : s.vm.findClass "com/example/limpet/limpet/io/StatusFromCodePinLaw" = some m.cls := findClass_of_methodNamed Bd.named
  have hnm := (name_of_methodNamed Bd.named Bd.method).1
  have X0 : Stand p l e room_1 s m #[(.int p1)] below meth c s₁ [] 0 0 := Stand.of_body Bd
  have e0 : s₁.heap = h0 := by rw [← hh, Bd.state]; rfl
  have N0 := Fr.nil n0
  have pre0 : ∀ t, Steps p.tables e below (s₁.setTop (mkF m 0 #[.val (.int p1), .unset, .unset, .unset] [])) t → Steps p.tables e below (s₁.setTop (entryFrame m #[(.int p1)] maxLocals)) t := fun t k => castTop (own_ef_own_law_2 m) k
  obtain ⟨vv1, _, ⟨T1, L1, kk1, nn1⟩, -, X1, ⟨Lc1, hQ1, l1, y1, z1⟩, st1⟩ := Jvm.LawKit.callS X0 hx (y := (⟨"com/example/limpet/limpet/io/Status", "fromCode", "(I)Lcom/example/limpet/limpet/io/Status;"⟩ : MethodName)) hown (mvT hZ (hw _ (List.mem_of_getElem? (i := 1) rfl))) (mvT hZ (hw _ (List.mem_of_getElem? (i := 2) rfl))) (mvT hZ (hw _ (List.mem_of_getElem? (i := 3) rfl))) (mvT hZ (hw _ (List.mem_of_getElem? (i := 4) rfl))) (by decide) (backOf (W := 0) (own_from_2 l Z a0 hw [] h0 n0 (Nat.le_trans Z0 (Keep.refl h0 []).1) ad a__VALUES k__VALUES W) hZ (hw _ (List.mem_of_getElem? (i := 4) rfl)) (hw _ (List.mem_of_getElem? (i := 3) rfl)) (by decide) (by decide)) (g := (mkF m 9 #[.val (.int p1), .val (.int (2 : Int32)), .unset, .unset] [(.int (2 : Int32))])) rfl (by rw [hml]; rfl) (argsL := [(.int (2 : Int32))]) (rest := []) (lenOf own_pd__I_Lcom_example_limpet_limpet_io_Status_ rfl) rfl (by show 2 * 0 + _ ≤ _; exact Nat.le_of_eq rfl) (hb hby at_9) (fun _ _ => ⟨rfl, e0, (by decide : 0 + 1 ≤ _), (by decide : 0 + 9 ≤ _)⟩)
  dsimp only [Pt.U, Pt.locs, Pt.cells, Pt.slots] at X1 l1 y1 z1 st1 hQ1
  subst l1 y1 z1
  obtain ⟨hh1, eh1⟩ : ∃ h, T1.heap = h := ⟨_, rfl⟩
  rw [eh1] at hQ1
  obtain ⟨rfl, Nq1, Kq1⟩ := hQ1
  have N1 := Fr.app N0 Nq1
  have Kp1 := Keep.trans (Keep.refl h0 []) Kq1 all0
  have ch2 : ∀ t, Steps p.tables e below (T1.setTop (mkF m 12 #[.val (.int p1), .val (.int (2 : Int32)), .unset, .unset] [(.ref (ad 2))])) t → Steps p.tables e below (s₁.setTop (entryFrame m #[(.int p1)] maxLocals)) t := fun t k => pre0 t (by
      show Steps p.tables e below (s₁.setTop (mkF m 0 #[.val (.int p1), .unset, .unset, .unset] [])) t
      refine XS.iloadN X0.here hx rfl (hb hby at_0) rfl ?_
      show Steps p.tables e below (s₁.setTop (mkF m 1 #[.val (.int p1), .unset, .unset, .unset] [(.int p1)])) t
      refine X0.ldcInt hx hown (mvT hZ (hw _ (List.mem_of_getElem? (i := 0) rfl))) (g := (mkF m 1 #[.val (.int p1), .unset, .unset, .unset] [(.int p1)])) rfl (hb hby at_1) _ ?_
      show Steps p.tables e below (s₁.setTop (mkF m 3 #[.val (.int p1), .unset, .unset, .unset] [(.int (2147483647 : Int32)), (.int p1)])) t
      refine XS.iand X0.here hx rfl (hb hby at_3) rfl ?_
      show Steps p.tables e below (s₁.setTop (mkF m 4 #[.val (.int p1), .unset, .unset, .unset] [(.int (p1 &&& (2147483647 : Int32)))])) t
      refine XS.bipush X0.here hx rfl (hb hby at_4) ?_
      show Steps p.tables e below (s₁.setTop (mkF m 6 #[.val (.int p1), .unset, .unset, .unset] [(.int (9 : Int32)), (.int (p1 &&& (2147483647 : Int32)))])) t
      refine Jvm.RoadKit.iremM (g := (mkF m 6 #[.val (.int p1), .unset, .unset, .unset] [(.int (9 : Int32)), (.int (p1 &&& (2147483647 : Int32)))])) X0 hx rfl (hb hby at_6) rfl (by decide) ?_
      rw [hk]
      show Steps p.tables e below (s₁.setTop (mkF m 7 #[.val (.int p1), .unset, .unset, .unset] [(.int (2 : Int32))])) t
      refine XS.istoreN X0.here hx rfl (hb hby at_7) rfl (l' := #[.val (.int p1), .val (.int (2 : Int32)), .unset, .unset]) rfl ?_
      show Steps p.tables e below (s₁.setTop (mkF m 8 #[.val (.int p1), .val (.int (2 : Int32)), .unset, .unset] [])) t
      refine XS.iloadN X0.here hx rfl (hb hby at_8) rfl ?_
      show Steps p.tables e below (s₁.setTop (mkF m 9 #[.val (.int p1), .val (.int (2 : Int32)), .unset, .unset] [(.int (2 : Int32))])) t
      exact st1 t k)
  obtain ⟨vv3, _, ⟨T3, L3, kk3, nn3⟩, -, X3, ⟨Lc3, hQ3, l3, y3, z3⟩, st3⟩ := Jvm.LawKit.callS X1 hx (y := (⟨"com/example/limpet/limpet/io/StatusFromCodePinLaw", "expected", "(I)Lcom/example/limpet/limpet/io/Status;"⟩ : MethodName)) hown (mvT hZ (hw _ (List.mem_of_getElem? (i := 31) rfl))) (mvT hZ (hw _ (List.mem_of_getElem? (i := 32) rfl))) (mvT hZ (hw _ (List.mem_of_getElem? (i := 33) rfl))) (mvT hZ (hw _ (List.mem_of_getElem? (i := 34) rfl))) (by decide) (backOf (W := 0) (own_expd_2 l Z a0 hw [] hh1 n0 (Nat.le_trans Z0 Kp1.1) ad a__VALUES k__VALUES (own_Wd_ext W (own_ext_of_keep Kp1 all0))) hZ (hw _ (List.mem_of_getElem? (i := 34) rfl)) (hw _ (List.mem_of_getElem? (i := 33) rfl)) (by decide) (by decide)) (g := (mkF m 14 #[.val (.int p1), .val (.int (2 : Int32)), .val (.ref (ad 2)), .unset] [(.int (2 : Int32))])) rfl (by rw [hml]; rfl) (argsL := [(.int (2 : Int32))]) (rest := []) (lenOf own_pd__I_Lcom_example_limpet_limpet_io_Status_ rfl) rfl (by show 2 * 0 + _ ≤ _; exact Nat.le_of_eq rfl) (hb hby at_14) (fun _ _ => ⟨rfl, eh1, (by decide : 1 + 0 ≤ _), (by decide : 9 + 0 ≤ _)⟩)
  dsimp only [Pt.U, Pt.locs, Pt.cells, Pt.slots] at X3 l3 y3 z3 st3 hQ3
  subst l3 y3 z3
  obtain ⟨rfl, Nq3, e3⟩ := hQ3
  have N3 := Fr.app N1 Nq3
  have ch4 : ∀ t, Steps p.tables e below (T3.setTop (mkF m 17 #[.val (.int p1), .val (.int (2 : Int32)), .val (.ref (ad 2)), .unset] [(.ref (ad 2))])) t → Steps p.tables e below (s₁.setTop (entryFrame m #[(.int p1)] maxLocals)) t := fun t k => ch2 t (by
      show Steps p.tables e below (T1.setTop (mkF m 12 #[.val (.int p1), .val (.int (2 : Int32)), .unset, .unset] [(.ref (ad 2))])) t
      refine XS.astoreN X1.here hx rfl (hb hby at_12) rfl rfl (l' := #[.val (.int p1), .val (.int (2 : Int32)), .val (.ref (ad 2)), .unset]) rfl ?_
      show Steps p.tables e below (T1.setTop (mkF m 13 #[.val (.int p1), .val (.int (2 : Int32)), .val (.ref (ad 2)), .unset] [])) t
      refine XS.iloadN X1.here hx rfl (hb hby at_13) rfl ?_
      show Steps p.tables e below (T1.setTop (mkF m 14 #[.val (.int p1), .val (.int (2 : Int32)), .val (.ref (ad 2)), .unset] [(.int (2 : Int32))])) t
      exact st3 t k)
  have cf6 := (Exa.keep (own_E_NOT_FOUND W) Kp1)
  obtain ⟨cq5, kq5, qa5, qb5, qc5⟩ := isOf hZ e3 cf6
  obtain ⟨vv7, _, ⟨T7, L7, kk7, nn7⟩, -, X7, ⟨Lc7, hQ7, l7, y7, z7⟩, st7⟩ := X3.virtualBack hx (y := (⟨"com/example/limpet/limpet/io/Status", "code", "()I"⟩ : MethodName)) (z := (⟨"com/example/limpet/limpet/io/Status", "code", "()I"⟩ : MethodName)) hown (mvT hZ (hw _ (List.mem_of_getElem? (i := 36) rfl))) (mvT hZ (hw _ (List.mem_of_getElem? (i := 37) rfl))) (notFace_of_selects (args := #[]) (mvT hZ (hw _ (List.mem_of_getElem? (i := 39) rfl)))) (mvT hZ (hw _ (List.mem_of_getElem? (i := 39) rfl))) (mvT hZ (hw _ (List.mem_of_getElem? (i := 38) rfl))) (by decide) (backOf (W := 0) (own_code_2 l Z a0 hw [] hh1 n0 (Nat.le_trans Z0 Kp1.1) ad a__VALUES k__VALUES (own_Wd_ext W (own_ext_of_keep Kp1 all0))) hZ (hw _ (List.mem_of_getElem? (i := 40) rfl)) (hw _ (List.mem_of_getElem? (i := 3) rfl)) (by decide) (by decide)) qa5 qc5 (g := (mkF m 24 #[.val (.int p1), .val (.int (2 : Int32)), .val (.ref (ad 2)), .val (.ref (ad 2))] [(.ref (ad 2))])) rfl (by rw [hml]; rfl) (Steps.refl _) (argsL := []) (rest := []) (lenOf own_pd___I rfl) rfl (by show 2 * 0 + _ ≤ _; exact Nat.le_of_eq rfl) (hb hby at_24) (fun _ _ => ⟨rfl, e3, (by decide : 1 + 0 ≤ _), (by decide : 9 + 0 ≤ _)⟩)
  dsimp only [Pt.U, Pt.locs, Pt.cells, Pt.slots] at X7 l7 y7 z7 st7 hQ7
  subst l7 y7 z7
  obtain ⟨rfl, Nq7, e7⟩ := hQ7
  have N7 := Fr.app N3 Nq7
  have ch8 : ∀ t, Steps p.tables e below (T7.setTop (mkF m 27 #[.val (.int p1), .val (.int (2 : Int32)), .val (.ref (ad 2)), .val (.ref (ad 2))] [(.int (2 : Int32))])) t → Steps p.tables e below (s₁.setTop (entryFrame m #[(.int p1)] maxLocals)) t := fun t k => ch4 t (by
      show Steps p.tables e below (T3.setTop (mkF m 17 #[.val (.int p1), .val (.int (2 : Int32)), .val (.ref (ad 2)), .unset] [(.ref (ad 2))])) t
      refine XS.astoreN X3.here hx rfl (hb hby at_17) rfl rfl (l' := #[.val (.int p1), .val (.int (2 : Int32)), .val (.ref (ad 2)), .val (.ref (ad 2))]) rfl ?_
      show Steps p.tables e below (T3.setTop (mkF m 18 #[.val (.int p1), .val (.int (2 : Int32)), .val (.ref (ad 2)), .val (.ref (ad 2))] [])) t
      refine XS.aloadN X3.here hx rfl (hb hby at_18) rfl rfl ?_
      show Steps p.tables e below (T3.setTop (mkF m 19 #[.val (.int p1), .val (.int (2 : Int32)), .val (.ref (ad 2)), .val (.ref (ad 2))] [(.ref (ad 2))])) t
      refine XS.aloadN X3.here hx rfl (hb hby at_19) rfl rfl ?_
      show Steps p.tables e below (T3.setTop (mkF m 20 #[.val (.int p1), .val (.int (2 : Int32)), .val (.ref (ad 2)), .val (.ref (ad 2))] [(.ref (ad 2)), (.ref (ad 2))])) t
      refine Jvm.RoadKit.acmp (g := (mkF m 20 #[.val (.int p1), .val (.int (2 : Int32)), .val (.ref (ad 2)), .val (.ref (ad 2))] [(.ref (ad 2)), (.ref (ad 2))])) X3 hx rfl rfl rfl (pc0 := 20) (pc' := 23) (same := true) rfl (hb hby at_20) rfl (decide_eq_true rfl) (by decide) (by decide) ?_
      show Steps p.tables e below (T3.setTop (mkF m 23 #[.val (.int p1), .val (.int (2 : Int32)), .val (.ref (ad 2)), .val (.ref (ad 2))] [])) t
      refine XS.aloadN X3.here hx rfl (hb hby at_23) rfl rfl ?_
      show Steps p.tables e below (T3.setTop (mkF m 24 #[.val (.int p1), .val (.int (2 : Int32)), .val (.ref (ad 2)), .val (.ref (ad 2))] [(.ref (ad 2))])) t
      exact st7.trans k)
  have ch9 : ∀ t, Steps p.tables e below (T7.setTop (mkF m 36 #[.val (.int p1), .val (.int (2 : Int32)), .val (.ref (ad 2)), .val (.ref (ad 2))] [(.int (1 : Int32))])) t → Steps p.tables e below (s₁.setTop (entryFrame m #[(.int p1)] maxLocals)) t := fun t k => ch8 t (by
      show Steps p.tables e below (T7.setTop (mkF m 27 #[.val (.int p1), .val (.int (2 : Int32)), .val (.ref (ad 2)), .val (.ref (ad 2))] [(.int (2 : Int32))])) t
      refine XS.iloadN X7.here hx rfl (hb hby at_27) rfl ?_
      show Steps p.tables e below (T7.setTop (mkF m 28 #[.val (.int p1), .val (.int (2 : Int32)), .val (.ref (ad 2)), .val (.ref (ad 2))] [(.int (2 : Int32)), (.int (2 : Int32))])) t
      refine XS.icmpNo X7.here hx rfl (hb hby at_28) rfl (teq (by decide : (2 : Int32) = (2 : Int32))).2 ?_
      show Steps p.tables e below (T7.setTop (mkF m 31 #[.val (.int p1), .val (.int (2 : Int32)), .val (.ref (ad 2)), .val (.ref (ad 2))] [])) t
      refine XS.iconst X7.here hx rfl (hb hby at_31) ?_
      show Steps p.tables e below (T7.setTop (mkF m 32 #[.val (.int p1), .val (.int (2 : Int32)), .val (.ref (ad 2)), .val (.ref (ad 2))] [(.int (1 : Int32))])) t
      refine XS.goto X7.here hx rfl (pc0 := 32) (pc' := 36) rfl (hb hby at_32) (by decide) (by decide) ?_
      exact k)
  obtain ⟨fs, hr, hrun, hended, hW, hsame⟩ := X7.leave (v := some (.int (1 : Int32))) (fun h => by rw [Bd.returns] at h; cases h)
  refine ⟨_, _, ch9 _ ?_, hrun, hended, _, _, rfl, ?_, ⟨_, rfl⟩, hW, hsame.mono (by decide) (by decide)⟩
  · show Steps p.tables e below (T7.setTop (mkF m 36 #[.val (.int p1), .val (.int (2 : Int32)), .val (.ref (ad 2)), .val (.ref (ad 2))] [(.int (1 : Int32))])) _
    exact retN X7 hx (t := .boolean) Bd.returns (by simp) (hb hby at_36) hr
  · show QN (some (.int (1 : Int32))) n0 _ T7.heap _
    rw [e7]
    exact ⟨rfl, N7⟩
theorem own_ef_own_from_3 (m : MethodId) {x0 : Int32} : entryFrame m #[(.int x0)] 5 = mkF m 0 #[.val (.int x0), .unset, .unset, .unset, .unset] [] := by first | (simp [entryFrame, mkF, argsToLocals, Value.category, maxLocals]; done) | rfl
set_option maxRecDepth 65536 in
set_option maxHeartbeats 40000000 in
theorem own_from_3 (l : Launch) (Z : State) (a0 : Array Value) (hw : ∀ d ∈ tables_1, d.before a0 Z = true) (ws : List Jvm.Cond) (h0 : Heap) (n0 : Nat) (Z0 : n0 ≤ h0.size) (ad : Nat → Addr) (a__VALUES : Addr) (k__VALUES : ClassId) (W : OwnWd Z h0 ad a__VALUES k__VALUES) :
    MetFree l (⟨"com/example/limpet/limpet/io/Status", "fromCode", "(I)Lcom/example/limpet/limpet/io/Status;"⟩ : MethodName) (head1 (Jvm.Cond.code (⟨"com/example/limpet/limpet/io/Status", "fromCode", "(I)Lcom/example/limpet/limpet/io/Status;"⟩ : MethodName) prog_38_method_5_code 5 (some (.object "com/example/limpet/limpet/io/Status")) :: ws) ({ frames := 2, cells := 1, slots := 9, locals := 25 } : Room)) (fun a U => a = #[(.int (3 : Int32))] ∧ Z.Warmed39 U.vm ∧ U.heap = h0) (fun _ _ _ _ _ => True) (fun _ U o U' => ∃ v L, o = .returned v ∧ QK (some (.ref (ad 3))) h0 n0 v U'.heap L ∧ FrameEnd U o U' L ({ frames := 2, cells := 1, slots := 9, locals := 25 } : Room).cells ({ frames := 2, cells := 1, slots := 9, locals := 25 } : Room).slots) := by
  refine MetFree.of_bodySF (plainFor_of_name own_pn_com_example_limpet_limpet_io_Status) hisR ?_
  intro p e s m args below meth c s₁ Bd hml0 hP hK
  obtain ⟨rfl, hZ, hh⟩ := hP
  have hx := Bd.exec
  have hby := Bd.bytes
  have hml : c.maxLocals = 5 := hml0
  have hown : s.vm.findClass "com/example/limpet/limpet/io/Status" = some m.cls := findClass_of_methodNamed Bd.named
  have hnm := (name_of_methodNamed Bd.named Bd.method).1
  have X0 : Stand p l e ({ frames := 2, cells := 1, slots := 9, locals := 25 } : Room) s m #[(.int (3 : Int32))] below meth c s₁ [] 0 0 := Stand.of_body Bd
  have e0 : s₁.heap = h0 := by rw [← hh, Bd.state]; rfl
  have N0 := Fr.nil n0
  have pre0 : ∀ t, Steps p.tables e below (s₁.setTop (mkF m 0 #[.val (.int (3 : Int32)), .unset, .unset, .unset, .unset] [])) t → Steps p.tables e below (s₁.setTop (entryFrame m #[(.int (3 : Int32))] 5)) t := fun t k => castTop (own_ef_own_from_3 m) k
  obtain ⟨vv1, _, ⟨T1, L1, kk1, nn1⟩, -, X1, ⟨Lc1, hQ1, l1, y1, z1⟩, st1⟩ := Jvm.LawKit.callS X0 hx (y := (⟨"com/example/limpet/limpet/io/Status", "values", "()[Lcom/example/limpet/limpet/io/Status;"⟩ : MethodName)) hown (mvT hZ (hw _ (List.mem_of_getElem? (i := 5) rfl))) (mvT hZ (hw _ (List.mem_of_getElem? (i := 6) rfl))) (mvT hZ (hw _ (List.mem_of_getElem? (i := 3) rfl))) (mvT hZ (hw _ (List.mem_of_getElem? (i := 7) rfl))) (by decide) (backOf (W := 0) (own_vals l Z a0 hw [] h0 n0 (Nat.le_trans Z0 (Keep.refl h0 []).1) ad a__VALUES k__VALUES W) hZ (hw _ (List.mem_of_getElem? (i := 7) rfl)) (hw _ (List.mem_of_getElem? (i := 3) rfl)) (by decide) (by decide)) (g := (mkF m 0 #[.val (.int (3 : Int32)), .unset, .unset, .unset, .unset] [])) rfl (by rw [hml]; rfl) (argsL := []) (rest := []) (lenOf own_pd____Lcom_example_limpet_limpet_io_Status_ rfl) rfl (by show 2 * 0 + _ ≤ _; exact Nat.le_of_eq rfl) (hb hby own_d_prog_38_method_5_code_0) (fun _ _ => ⟨rfl, e0, (by decide : 0 + 1 ≤ _), (by decide : 0 + 9 ≤ _)⟩)
  dsimp only [Pt.U, Pt.locs, Pt.cells, Pt.slots] at X1 l1 y1 z1 st1 hQ1
  subst l1 y1 z1
  obtain ⟨hh1, eh1⟩ : ∃ h, T1.heap = h := ⟨_, rfl⟩
  rw [eh1] at hQ1
  obtain ⟨rv, rfl, zq1, Nq1, Kq1, fq1_0⟩ := hQ1
  have N1 := Fr.app N0 Nq1
  have ne_ad0_rv : (ad 0) ≠ rv := Nat.ne_of_lt (Nat.lt_of_lt_of_le (own_E_OK W).lt zq1)
  have ne_ad1_rv : (ad 1) ≠ rv := Nat.ne_of_lt (Nat.lt_of_lt_of_le (own_E_BAD_REQUEST W).lt zq1)
  have ne_ad2_rv : (ad 2) ≠ rv := Nat.ne_of_lt (Nat.lt_of_lt_of_le (own_E_NOT_FOUND W).lt zq1)
  have ne_ad3_rv : (ad 3) ≠ rv := Nat.ne_of_lt (Nat.lt_of_lt_of_le (own_E_FAILED W).lt zq1)
  have ne_ad4_rv : (ad 4) ≠ rv := Nat.ne_of_lt (Nat.lt_of_lt_of_le (own_E_UNSUPPORTED_KEY W).lt zq1)
  have ne_ad5_rv : (ad 5) ≠ rv := Nat.ne_of_lt (Nat.lt_of_lt_of_le (own_E_PERMISSION_DENIED W).lt zq1)
  have ne_ad6_rv : (ad 6) ≠ rv := Nat.ne_of_lt (Nat.lt_of_lt_of_le (own_E_GRANT_NOT_FOUND W).lt zq1)
  have ne_ad7_rv : (ad 7) ≠ rv := Nat.ne_of_lt (Nat.lt_of_lt_of_le (own_E_TOO_MANY_KEYS W).lt zq1)
  have ne_ad8_rv : (ad 8) ≠ rv := Nat.ne_of_lt (Nat.lt_of_lt_of_le (own_E_TOO_MANY_GRANTS W).lt zq1)
  have ne_a__VALUES_rv : a__VALUES ≠ rv := Nat.ne_of_lt (Nat.lt_of_lt_of_le (own_V__VALUES W).lt zq1)
  have g_rv : n0 ≤ rv := Nat.le_trans (Nat.le_trans Z0 (Keep.refl h0 []).1) zq1
  have sz_rv : h0.size ≤ rv := Nat.le_trans (Keep.refl h0 []).1 zq1
  have Kp1 := Keep.trans (Keep.refl h0 []) Kq1 all0
  have ch2 : ∀ t, Steps p.tables e below (T1.setTop (mkF m 3 #[.val (.int (3 : Int32)), .unset, .unset, .unset, .unset] [(.ref rv)])) t → Steps p.tables e below (s₁.setTop (entryFrame m #[(.int (3 : Int32))] 5)) t := fun t k => pre0 t (by
      show Steps p.tables e below (s₁.setTop (mkF m 0 #[.val (.int (3 : Int32)), .unset, .unset, .unset, .unset] [])) t
      exact st1 t k)
  obtain ⟨cl3, Ar3, -, Sz3, Ng3, -, -⟩ := id fq1_0
  obtain ⟨cl4, Ar4, -, Sz4, Ng4, Ha4, -⟩ := id fq1_0
  have hin4 : ¬ ((0 : Int32) < 0 ∨ cl4.slots.size ≤ ((0 : Int32)).toNatClampNeg) := inb_of Sz4 (by decide)
  have hat4 : cl4.slots[((0 : Int32)).toNatClampNeg]? = some (.ref (ad 0)) := Ha4.at hin4 rfl
  have cf5 := ((own_F_OK_code W).keep Kp1 nin0)
  obtain ⟨T6, X6, e6, st6⟩ := getF X1 hx hZ hown (host := "") (Or.inl (hw _ (List.mem_of_getElem? (i := 29) rfl))) Via.refl eh1 cf5 (g := (mkF m 21 #[.val (.int (3 : Int32)), .val (.ref rv), .val (.int (9 : Int32)), .val (.int (0 : Int32)), .val (.ref (ad 0))] [(.ref (ad 0))])) rfl rfl (hb hby own_d_prog_38_method_5_code_21)
  have ch7 : ∀ t, Steps p.tables e below (T6.setTop (mkF m 24 #[.val (.int (3 : Int32)), .val (.ref rv), .val (.int (9 : Int32)), .val (.int (0 : Int32)), .val (.ref (ad 0))] [(.int (0 : Int32))])) t → Steps p.tables e below (s₁.setTop (entryFrame m #[(.int (3 : Int32))] 5)) t := fun t k => ch2 t (by
      show Steps p.tables e below (T1.setTop (mkF m 3 #[.val (.int (3 : Int32)), .unset, .unset, .unset, .unset] [(.ref rv)])) t
      refine XS.astoreN X1.here hx rfl (hb hby own_d_prog_38_method_5_code_3) rfl rfl (l' := #[.val (.int (3 : Int32)), .val (.ref rv), .unset, .unset, .unset]) rfl ?_
      show Steps p.tables e below (T1.setTop (mkF m 4 #[.val (.int (3 : Int32)), .val (.ref rv), .unset, .unset, .unset] [])) t
      refine XS.aloadN X1.here hx rfl (hb hby own_d_prog_38_method_5_code_4) rfl rfl ?_
      show Steps p.tables e below (T1.setTop (mkF m 5 #[.val (.int (3 : Int32)), .val (.ref rv), .unset, .unset, .unset] [(.ref rv)])) t
      refine X1.arraylength hx (by rw [eh1]; exact Ar3.1) (State.isArrayOf_alike hZ.alike Ar3.2.1) (g := (mkF m 5 #[.val (.int (3 : Int32)), .val (.ref rv), .unset, .unset, .unset] [(.ref rv)])) rfl rfl (hb hby own_d_prog_38_method_5_code_5) _ ?_
      rw [len_of Sz3 Ng3]
      show Steps p.tables e below (T1.setTop (mkF m 6 #[.val (.int (3 : Int32)), .val (.ref rv), .unset, .unset, .unset] [(.int (9 : Int32))])) t
      refine XS.istoreN X1.here hx rfl (hb hby own_d_prog_38_method_5_code_6) rfl (l' := #[.val (.int (3 : Int32)), .val (.ref rv), .val (.int (9 : Int32)), .unset, .unset]) rfl ?_
      show Steps p.tables e below (T1.setTop (mkF m 7 #[.val (.int (3 : Int32)), .val (.ref rv), .val (.int (9 : Int32)), .unset, .unset] [])) t
      refine XS.iconst X1.here hx rfl (hb hby own_d_prog_38_method_5_code_7) ?_
      show Steps p.tables e below (T1.setTop (mkF m 8 #[.val (.int (3 : Int32)), .val (.ref rv), .val (.int (9 : Int32)), .unset, .unset] [(.int (0 : Int32))])) t
      refine XS.istoreN X1.here hx rfl (hb hby own_d_prog_38_method_5_code_8) rfl (l' := #[.val (.int (3 : Int32)), .val (.ref rv), .val (.int (9 : Int32)), .val (.int (0 : Int32)), .unset]) rfl ?_
      show Steps p.tables e below (T1.setTop (mkF m 9 #[.val (.int (3 : Int32)), .val (.ref rv), .val (.int (9 : Int32)), .val (.int (0 : Int32)), .unset] [])) t
      refine XS.iloadN X1.here hx rfl (hb hby own_d_prog_38_method_5_code_9) rfl ?_
      show Steps p.tables e below (T1.setTop (mkF m 10 #[.val (.int (3 : Int32)), .val (.ref rv), .val (.int (9 : Int32)), .val (.int (0 : Int32)), .unset] [(.int (0 : Int32))])) t
      refine XS.iloadN X1.here hx rfl (hb hby own_d_prog_38_method_5_code_10) rfl ?_
      show Steps p.tables e below (T1.setTop (mkF m 11 #[.val (.int (3 : Int32)), .val (.ref rv), .val (.int (9 : Int32)), .val (.int (0 : Int32)), .unset] [(.int (9 : Int32)), (.int (0 : Int32))])) t
      refine XS.icmpNo X1.here hx rfl (hb hby own_d_prog_38_method_5_code_11) rfl (tlt (by decide : (0 : Int32) < (9 : Int32))).2.1 ?_
      show Steps p.tables e below (T1.setTop (mkF m 14 #[.val (.int (3 : Int32)), .val (.ref rv), .val (.int (9 : Int32)), .val (.int (0 : Int32)), .unset] [])) t
      refine XS.aloadN X1.here hx rfl (hb hby own_d_prog_38_method_5_code_14) rfl rfl ?_
      show Steps p.tables e below (T1.setTop (mkF m 15 #[.val (.int (3 : Int32)), .val (.ref rv), .val (.int (9 : Int32)), .val (.int (0 : Int32)), .unset] [(.ref rv)])) t
      refine XS.iloadN X1.here hx rfl (hb hby own_d_prog_38_method_5_code_15) rfl ?_
      show Steps p.tables e below (T1.setTop (mkF m 16 #[.val (.int (3 : Int32)), .val (.ref rv), .val (.int (9 : Int32)), .val (.int (0 : Int32)), .unset] [(.int (0 : Int32)), (.ref rv)])) t
      refine X1.aaload hx (j := (0 : Int32)) (v := (.ref (ad 0))) (by rw [eh1]; exact Ar4.1) (State.isArrayOf_alike hZ.alike Ar4.2.1) rfl Ar4.2.2 hin4 hat4 (g := (mkF m 16 #[.val (.int (3 : Int32)), .val (.ref rv), .val (.int (9 : Int32)), .val (.int (0 : Int32)), .unset] [(.int (0 : Int32)), (.ref rv)])) rfl rfl (hb hby own_d_prog_38_method_5_code_16) _ ?_
      show Steps p.tables e below (T1.setTop (mkF m 17 #[.val (.int (3 : Int32)), .val (.ref rv), .val (.int (9 : Int32)), .val (.int (0 : Int32)), .unset] [(.ref (ad 0))])) t
      refine XS.astore X1.here hx rfl (hb hby own_d_prog_38_method_5_code_17) rfl rfl (l' := #[.val (.int (3 : Int32)), .val (.ref rv), .val (.int (9 : Int32)), .val (.int (0 : Int32)), .val (.ref (ad 0))]) rfl ?_
      show Steps p.tables e below (T1.setTop (mkF m 19 #[.val (.int (3 : Int32)), .val (.ref rv), .val (.int (9 : Int32)), .val (.int (0 : Int32)), .val (.ref (ad 0))] [])) t
      refine XS.aload X1.here hx rfl (hb hby own_d_prog_38_method_5_code_19) rfl rfl ?_
      show Steps p.tables e below (T1.setTop (mkF m 21 #[.val (.int (3 : Int32)), .val (.ref rv), .val (.int (9 : Int32)), .val (.int (0 : Int32)), .val (.ref (ad 0))] [(.ref (ad 0))])) t
      exact st6 t k)
  obtain ⟨cl8, Ar8, -, Sz8, Ng8, Ha8, -⟩ := id fq1_0
  have hin8 : ¬ ((1 : Int32) < 0 ∨ cl8.slots.size ≤ ((1 : Int32)).toNatClampNeg) := inb_of Sz8 (by decide)
  have hat8 : cl8.slots[((1 : Int32)).toNatClampNeg]? = some (.ref (ad 1)) := Ha8.at hin8 rfl
  have cf9 := ((own_F_BAD_REQUEST_code W).keep Kp1 nin0)
  obtain ⟨T10, X10, e10, st10⟩ := getF X6 hx hZ hown (host := "") (Or.inl (hw _ (List.mem_of_getElem? (i := 29) rfl))) Via.refl e6 cf9 (g := (mkF m 21 #[.val (.int (3 : Int32)), .val (.ref rv), .val (.int (9 : Int32)), .val (.int (1 : Int32)), .val (.ref (ad 1))] [(.ref (ad 1))])) rfl rfl (hb hby own_d_prog_38_method_5_code_21)
  have ch11 : ∀ t, Steps p.tables e below (T10.setTop (mkF m 24 #[.val (.int (3 : Int32)), .val (.ref rv), .val (.int (9 : Int32)), .val (.int (1 : Int32)), .val (.ref (ad 1))] [(.int (1 : Int32))])) t → Steps p.tables e below (s₁.setTop (entryFrame m #[(.int (3 : Int32))] 5)) t := fun t k => ch7 t (by
      show Steps p.tables e below (T6.setTop (mkF m 24 #[.val (.int (3 : Int32)), .val (.ref rv), .val (.int (9 : Int32)), .val (.int (0 : Int32)), .val (.ref (ad 0))] [(.int (0 : Int32))])) t
      refine XS.iloadN X6.here hx rfl (hb hby own_d_prog_38_method_5_code_24) rfl ?_
      show Steps p.tables e below (T6.setTop (mkF m 25 #[.val (.int (3 : Int32)), .val (.ref rv), .val (.int (9 : Int32)), .val (.int (0 : Int32)), .val (.ref (ad 0))] [(.int (3 : Int32)), (.int (0 : Int32))])) t
      refine XS.icmpYes X6.here hx rfl (pc0 := 25) (pc' := 31) rfl (hb hby own_d_prog_38_method_5_code_25) rfl (feq (by decide : ¬ (0 : Int32) = (3 : Int32))).2 (by decide) (by decide) ?_
      show Steps p.tables e below (T6.setTop (mkF m 31 #[.val (.int (3 : Int32)), .val (.ref rv), .val (.int (9 : Int32)), .val (.int (0 : Int32)), .val (.ref (ad 0))] [])) t
      refine Jvm.Free.XT.iincV X6.here hx rfl (1 : Int32) (hb hby own_d_prog_38_method_5_code_31) (by decide) rfl (l' := #[.val (.int (3 : Int32)), .val (.ref rv), .val (.int (9 : Int32)), .val (.int (1 : Int32)), .val (.ref (ad 0))]) (by rw [show ((0 : Int32) + (1 : Int32)) = (1 : Int32) from by decide]; rfl) ?_
      show Steps p.tables e below (T6.setTop (mkF m 34 #[.val (.int (3 : Int32)), .val (.ref rv), .val (.int (9 : Int32)), .val (.int (1 : Int32)), .val (.ref (ad 0))] [])) t
      refine XS.goto X6.here hx rfl (pc0 := 34) (pc' := 9) rfl (hb hby own_d_prog_38_method_5_code_34) (by decide) (by decide) ?_
      show Steps p.tables e below (T6.setTop (mkF m 9 #[.val (.int (3 : Int32)), .val (.ref rv), .val (.int (9 : Int32)), .val (.int (1 : Int32)), .val (.ref (ad 0))] [])) t
      refine XS.iloadN X6.here hx rfl (hb hby own_d_prog_38_method_5_code_9) rfl ?_
      show Steps p.tables e below (T6.setTop (mkF m 10 #[.val (.int (3 : Int32)), .val (.ref rv), .val (.int (9 : Int32)), .val (.int (1 : Int32)), .val (.ref (ad 0))] [(.int (1 : Int32))])) t
      refine XS.iloadN X6.here hx rfl (hb hby own_d_prog_38_method_5_code_10) rfl ?_
      show Steps p.tables e below (T6.setTop (mkF m 11 #[.val (.int (3 : Int32)), .val (.ref rv), .val (.int (9 : Int32)), .val (.int (1 : Int32)), .val (.ref (ad 0))] [(.int (9 : Int32)), (.int (1 : Int32))])) t
      refine XS.icmpNo X6.here hx rfl (hb hby own_d_prog_38_method_5_code_11) rfl (tlt (by decide : (1 : Int32) < (9 : Int32))).2.1 ?_
      show Steps p.tables e below (T6.setTop (mkF m 14 #[.val (.int (3 : Int32)), .val (.ref rv), .val (.int (9 : Int32)), .val (.int (1 : Int32)), .val (.ref (ad 0))] [])) t
      refine XS.aloadN X6.here hx rfl (hb hby own_d_prog_38_method_5_code_14) rfl rfl ?_
      show Steps p.tables e below (T6.setTop (mkF m 15 #[.val (.int (3 : Int32)), .val (.ref rv), .val (.int (9 : Int32)), .val (.int (1 : Int32)), .val (.ref (ad 0))] [(.ref rv)])) t
      refine XS.iloadN X6.here hx rfl (hb hby own_d_prog_38_method_5_code_15) rfl ?_
      show Steps p.tables e below (T6.setTop (mkF m 16 #[.val (.int (3 : Int32)), .val (.ref rv), .val (.int (9 : Int32)), .val (.int (1 : Int32)), .val (.ref (ad 0))] [(.int (1 : Int32)), (.ref rv)])) t
      refine X6.aaload hx (j := (1 : Int32)) (v := (.ref (ad 1))) (by rw [e6]; exact Ar8.1) (State.isArrayOf_alike hZ.alike Ar8.2.1) rfl Ar8.2.2 hin8 hat8 (g := (mkF m 16 #[.val (.int (3 : Int32)), .val (.ref rv), .val (.int (9 : Int32)), .val (.int (1 : Int32)), .val (.ref (ad 0))] [(.int (1 : Int32)), (.ref rv)])) rfl rfl (hb hby own_d_prog_38_method_5_code_16) _ ?_
      show Steps p.tables e below (T6.setTop (mkF m 17 #[.val (.int (3 : Int32)), .val (.ref rv), .val (.int (9 : Int32)), .val (.int (1 : Int32)), .val (.ref (ad 0))] [(.ref (ad 1))])) t
      refine XS.astore X6.here hx rfl (hb hby own_d_prog_38_method_5_code_17) rfl rfl (l' := #[.val (.int (3 : Int32)), .val (.ref rv), .val (.int (9 : Int32)), .val (.int (1 : Int32)), .val (.ref (ad 1))]) rfl ?_
      show Steps p.tables e below (T6.setTop (mkF m 19 #[.val (.int (3 : Int32)), .val (.ref rv), .val (.int (9 : Int32)), .val (.int (1 : Int32)), .val (.ref (ad 1))] [])) t
      refine XS.aload X6.here hx rfl (hb hby own_d_prog_38_method_5_code_19) rfl rfl ?_
      show Steps p.tables e below (T6.setTop (mkF m 21 #[.val (.int (3 : Int32)), .val (.ref rv), .val (.int (9 : Int32)), .val (.int (1 : Int32)), .val (.ref (ad 1))] [(.ref (ad 1))])) t
      exact st10 t k)
  obtain ⟨cl12, Ar12, -, Sz12, Ng12, Ha12, -⟩ := id fq1_0
  have hin12 : ¬ ((2 : Int32) < 0 ∨ cl12.slots.size ≤ ((2 : Int32)).toNatClampNeg) := inb_of Sz12 (by decide)
  have hat12 : cl12.slots[((2 : Int32)).toNatClampNeg]? = some (.ref (ad 2)) := Ha12.at hin12 rfl
  have cf13 := ((own_F_NOT_FOUND_code W).keep Kp1 nin0)
  obtain ⟨T14, X14, e14, st14⟩ := getF X10 hx hZ hown (host := "") (Or.inl (hw _ (List.mem_of_getElem? (i := 29) rfl))) Via.refl e10 cf13 (g := (mkF m 21 #[.val (.int (3 : Int32)), .val (.ref rv), .val (.int (9 : Int32)), .val (.int (2 : Int32)), .val (.ref (ad 2))] [(.ref (ad 2))])) rfl rfl (hb hby own_d_prog_38_method_5_code_21)
  have ch15 : ∀ t, Steps p.tables e below (T14.setTop (mkF m 24 #[.val (.int (3 : Int32)), .val (.ref rv), .val (.int (9 : Int32)), .val (.int (2 : Int32)), .val (.ref (ad 2))] [(.int (2 : Int32))])) t → Steps p.tables e below (s₁.setTop (entryFrame m #[(.int (3 : Int32))] 5)) t := fun t k => ch11 t (by
      show Steps p.tables e below (T10.setTop (mkF m 24 #[.val (.int (3 : Int32)), .val (.ref rv), .val (.int (9 : Int32)), .val (.int (1 : Int32)), .val (.ref (ad 1))] [(.int (1 : Int32))])) t
      refine XS.iloadN X10.here hx rfl (hb hby own_d_prog_38_method_5_code_24) rfl ?_
      show Steps p.tables e below (T10.setTop (mkF m 25 #[.val (.int (3 : Int32)), .val (.ref rv), .val (.int (9 : Int32)), .val (.int (1 : Int32)), .val (.ref (ad 1))] [(.int (3 : Int32)), (.int (1 : Int32))])) t
      refine XS.icmpYes X10.here hx rfl (pc0 := 25) (pc' := 31) rfl (hb hby own_d_prog_38_method_5_code_25) rfl (feq (by decide : ¬ (1 : Int32) = (3 : Int32))).2 (by decide) (by decide) ?_
      show Steps p.tables e below (T10.setTop (mkF m 31 #[.val (.int (3 : Int32)), .val (.ref rv), .val (.int (9 : Int32)), .val (.int (1 : Int32)), .val (.ref (ad 1))] [])) t
      refine Jvm.Free.XT.iincV X10.here hx rfl (1 : Int32) (hb hby own_d_prog_38_method_5_code_31) (by decide) rfl (l' := #[.val (.int (3 : Int32)), .val (.ref rv), .val (.int (9 : Int32)), .val (.int (2 : Int32)), .val (.ref (ad 1))]) (by rw [show ((1 : Int32) + (1 : Int32)) = (2 : Int32) from by decide]; rfl) ?_
      show Steps p.tables e below (T10.setTop (mkF m 34 #[.val (.int (3 : Int32)), .val (.ref rv), .val (.int (9 : Int32)), .val (.int (2 : Int32)), .val (.ref (ad 1))] [])) t
      refine XS.goto X10.here hx rfl (pc0 := 34) (pc' := 9) rfl (hb hby own_d_prog_38_method_5_code_34) (by decide) (by decide) ?_
      show Steps p.tables e below (T10.setTop (mkF m 9 #[.val (.int (3 : Int32)), .val (.ref rv), .val (.int (9 : Int32)), .val (.int (2 : Int32)), .val (.ref (ad 1))] [])) t
      refine XS.iloadN X10.here hx rfl (hb hby own_d_prog_38_method_5_code_9) rfl ?_
      show Steps p.tables e below (T10.setTop (mkF m 10 #[.val (.int (3 : Int32)), .val (.ref rv), .val (.int (9 : Int32)), .val (.int (2 : Int32)), .val (.ref (ad 1))] [(.int (2 : Int32))])) t
      refine XS.iloadN X10.here hx rfl (hb hby own_d_prog_38_method_5_code_10) rfl ?_
      show Steps p.tables e below (T10.setTop (mkF m 11 #[.val (.int (3 : Int32)), .val (.ref rv), .val (.int (9 : Int32)), .val (.int (2 : Int32)), .val (.ref (ad 1))] [(.int (9 : Int32)), (.int (2 : Int32))])) t
      refine XS.icmpNo X10.here hx rfl (hb hby own_d_prog_38_method_5_code_11) rfl (tlt (by decide : (2 : Int32) < (9 : Int32))).2.1 ?_
      show Steps p.tables e below (T10.setTop (mkF m 14 #[.val (.int (3 : Int32)), .val (.ref rv), .val (.int (9 : Int32)), .val (.int (2 : Int32)), .val (.ref (ad 1))] [])) t
      refine XS.aloadN X10.here hx rfl (hb hby own_d_prog_38_method_5_code_14) rfl rfl ?_
      show Steps p.tables e below (T10.setTop (mkF m 15 #[.val (.int (3 : Int32)), .val (.ref rv), .val (.int (9 : Int32)), .val (.int (2 : Int32)), .val (.ref (ad 1))] [(.ref rv)])) t
      refine XS.iloadN X10.here hx rfl (hb hby own_d_prog_38_method_5_code_15) rfl ?_
      show Steps p.tables e below (T10.setTop (mkF m 16 #[.val (.int (3 : Int32)), .val (.ref rv), .val (.int (9 : Int32)), .val (.int (2 : Int32)), .val (.ref (ad 1))] [(.int (2 : Int32)), (.ref rv)])) t
      refine X10.aaload hx (j := (2 : Int32)) (v := (.ref (ad 2))) (by rw [e10]; exact Ar12.1) (State.isArrayOf_alike hZ.alike Ar12.2.1) rfl Ar12.2.2 hin12 hat12 (g := (mkF m 16 #[.val (.int (3 : Int32)), .val (.ref rv), .val (.int (9 : Int32)), .val (.int (2 : Int32)), .val (.ref (ad 1))] [(.int (2 : Int32)), (.ref rv)])) rfl rfl (hb hby own_d_prog_38_method_5_code_16) _ ?_
      show Steps p.tables e below (T10.setTop (mkF m 17 #[.val (.int (3 : Int32)), .val (.ref rv), .val (.int (9 : Int32)), .val (.int (2 : Int32)), .val (.ref (ad 1))] [(.ref (ad 2))])) t
      refine XS.astore X10.here hx rfl (hb hby own_d_prog_38_method_5_code_17) rfl rfl (l' := #[.val (.int (3 : Int32)), .val (.ref rv), .val (.int (9 : Int32)), .val (.int (2 : Int32)), .val (.ref (ad 2))]) rfl ?_
      show Steps p.tables e below (T10.setTop (mkF m 19 #[.val (.int (3 : Int32)), .val (.ref rv), .val (.int (9 : Int32)), .val (.int (2 : Int32)), .val (.ref (ad 2))] [])) t
      refine XS.aload X10.here hx rfl (hb hby own_d_prog_38_method_5_code_19) rfl rfl ?_
      show Steps p.tables e below (T10.setTop (mkF m 21 #[.val (.int (3 : Int32)), .val (.ref rv), .val (.int (9 : Int32)), .val (.int (2 : Int32)), .val (.ref (ad 2))] [(.ref (ad 2))])) t
      exact st14 t k)
  obtain ⟨cl16, Ar16, -, Sz16, Ng16, Ha16, -⟩ := id fq1_0
  have hin16 : ¬ ((3 : Int32) < 0 ∨ cl16.slots.size ≤ ((3 : Int32)).toNatClampNeg) := inb_of Sz16 (by decide)
  have hat16 : cl16.slots[((3 : Int32)).toNatClampNeg]? = some (.ref (ad 3)) := Ha16.at hin16 rfl
  have cf17 := ((own_F_FAILED_code W).keep Kp1 nin0)
  obtain ⟨T18, X18, e18, st18⟩ := getF X14 hx hZ hown (host := "") (Or.inl (hw _ (List.mem_of_getElem? (i := 29) rfl))) Via.refl e14 cf17 (g := (mkF m 21 #[.val (.int (3 : Int32)), .val (.ref rv), .val (.int (9 : Int32)), .val (.int (3 : Int32)), .val (.ref (ad 3))] [(.ref (ad 3))])) rfl rfl (hb hby own_d_prog_38_method_5_code_21)
  have ch19 : ∀ t, Steps p.tables e below (T18.setTop (mkF m 24 #[.val (.int (3 : Int32)), .val (.ref rv), .val (.int (9 : Int32)), .val (.int (3 : Int32)), .val (.ref (ad 3))] [(.int (3 : Int32))])) t → Steps p.tables e below (s₁.setTop (entryFrame m #[(.int (3 : Int32))] 5)) t := fun t k => ch15 t (by
      show Steps p.tables e below (T14.setTop (mkF m 24 #[.val (.int (3 : Int32)), .val (.ref rv), .val (.int (9 : Int32)), .val (.int (2 : Int32)), .val (.ref (ad 2))] [(.int (2 : Int32))])) t
      refine XS.iloadN X14.here hx rfl (hb hby own_d_prog_38_method_5_code_24) rfl ?_
      show Steps p.tables e below (T14.setTop (mkF m 25 #[.val (.int (3 : Int32)), .val (.ref rv), .val (.int (9 : Int32)), .val (.int (2 : Int32)), .val (.ref (ad 2))] [(.int (3 : Int32)), (.int (2 : Int32))])) t
      refine XS.icmpYes X14.here hx rfl (pc0 := 25) (pc' := 31) rfl (hb hby own_d_prog_38_method_5_code_25) rfl (feq (by decide : ¬ (2 : Int32) = (3 : Int32))).2 (by decide) (by decide) ?_
      show Steps p.tables e below (T14.setTop (mkF m 31 #[.val (.int (3 : Int32)), .val (.ref rv), .val (.int (9 : Int32)), .val (.int (2 : Int32)), .val (.ref (ad 2))] [])) t
      refine Jvm.Free.XT.iincV X14.here hx rfl (1 : Int32) (hb hby own_d_prog_38_method_5_code_31) (by decide) rfl (l' := #[.val (.int (3 : Int32)), .val (.ref rv), .val (.int (9 : Int32)), .val (.int (3 : Int32)), .val (.ref (ad 2))]) (by rw [show ((2 : Int32) + (1 : Int32)) = (3 : Int32) from by decide]; rfl) ?_
      show Steps p.tables e below (T14.setTop (mkF m 34 #[.val (.int (3 : Int32)), .val (.ref rv), .val (.int (9 : Int32)), .val (.int (3 : Int32)), .val (.ref (ad 2))] [])) t
      refine XS.goto X14.here hx rfl (pc0 := 34) (pc' := 9) rfl (hb hby own_d_prog_38_method_5_code_34) (by decide) (by decide) ?_
      show Steps p.tables e below (T14.setTop (mkF m 9 #[.val (.int (3 : Int32)), .val (.ref rv), .val (.int (9 : Int32)), .val (.int (3 : Int32)), .val (.ref (ad 2))] [])) t
      refine XS.iloadN X14.here hx rfl (hb hby own_d_prog_38_method_5_code_9) rfl ?_
      show Steps p.tables e below (T14.setTop (mkF m 10 #[.val (.int (3 : Int32)), .val (.ref rv), .val (.int (9 : Int32)), .val (.int (3 : Int32)), .val (.ref (ad 2))] [(.int (3 : Int32))])) t
      refine XS.iloadN X14.here hx rfl (hb hby own_d_prog_38_method_5_code_10) rfl ?_
      show Steps p.tables e below (T14.setTop (mkF m 11 #[.val (.int (3 : Int32)), .val (.ref rv), .val (.int (9 : Int32)), .val (.int (3 : Int32)), .val (.ref (ad 2))] [(.int (9 : Int32)), (.int (3 : Int32))])) t
      refine XS.icmpNo X14.here hx rfl (hb hby own_d_prog_38_method_5_code_11) rfl (tlt (by decide : (3 : Int32) < (9 : Int32))).2.1 ?_
      show Steps p.tables e below (T14.setTop (mkF m 14 #[.val (.int (3 : Int32)), .val (.ref rv), .val (.int (9 : Int32)), .val (.int (3 : Int32)), .val (.ref (ad 2))] [])) t
      refine XS.aloadN X14.here hx rfl (hb hby own_d_prog_38_method_5_code_14) rfl rfl ?_
      show Steps p.tables e below (T14.setTop (mkF m 15 #[.val (.int (3 : Int32)), .val (.ref rv), .val (.int (9 : Int32)), .val (.int (3 : Int32)), .val (.ref (ad 2))] [(.ref rv)])) t
      refine XS.iloadN X14.here hx rfl (hb hby own_d_prog_38_method_5_code_15) rfl ?_
      show Steps p.tables e below (T14.setTop (mkF m 16 #[.val (.int (3 : Int32)), .val (.ref rv), .val (.int (9 : Int32)), .val (.int (3 : Int32)), .val (.ref (ad 2))] [(.int (3 : Int32)), (.ref rv)])) t
      refine X14.aaload hx (j := (3 : Int32)) (v := (.ref (ad 3))) (by rw [e14]; exact Ar16.1) (State.isArrayOf_alike hZ.alike Ar16.2.1) rfl Ar16.2.2 hin16 hat16 (g := (mkF m 16 #[.val (.int (3 : Int32)), .val (.ref rv), .val (.int (9 : Int32)), .val (.int (3 : Int32)), .val (.ref (ad 2))] [(.int (3 : Int32)), (.ref rv)])) rfl rfl (hb hby own_d_prog_38_method_5_code_16) _ ?_
      show Steps p.tables e below (T14.setTop (mkF m 17 #[.val (.int (3 : Int32)), .val (.ref rv), .val (.int (9 : Int32)), .val (.int (3 : Int32)), .val (.ref (ad 2))] [(.ref (ad 3))])) t
      refine XS.astore X14.here hx rfl (hb hby own_d_prog_38_method_5_code_17) rfl rfl (l' := #[.val (.int (3 : Int32)), .val (.ref rv), .val (.int (9 : Int32)), .val (.int (3 : Int32)), .val (.ref (ad 3))]) rfl ?_
      show Steps p.tables e below (T14.setTop (mkF m 19 #[.val (.int (3 : Int32)), .val (.ref rv), .val (.int (9 : Int32)), .val (.int (3 : Int32)), .val (.ref (ad 3))] [])) t
      refine XS.aload X14.here hx rfl (hb hby own_d_prog_38_method_5_code_19) rfl rfl ?_
      show Steps p.tables e below (T14.setTop (mkF m 21 #[.val (.int (3 : Int32)), .val (.ref rv), .val (.int (9 : Int32)), .val (.int (3 : Int32)), .val (.ref (ad 3))] [(.ref (ad 3))])) t
      exact st18 t k)
  have ch20 : ∀ t, Steps p.tables e below (T18.setTop (mkF m 30 #[.val (.int (3 : Int32)), .val (.ref rv), .val (.int (9 : Int32)), .val (.int (3 : Int32)), .val (.ref (ad 3))] [(.ref (ad 3))])) t → Steps p.tables e below (s₁.setTop (entryFrame m #[(.int (3 : Int32))] 5)) t := fun t k => ch19 t (by
      show Steps p.tables e below (T18.setTop (mkF m 24 #[.val (.int (3 : Int32)), .val (.ref rv), .val (.int (9 : Int32)), .val (.int (3 : Int32)), .val (.ref (ad 3))] [(.int (3 : Int32))])) t
      refine XS.iloadN X18.here hx rfl (hb hby own_d_prog_38_method_5_code_24) rfl ?_
      show Steps p.tables e below (T18.setTop (mkF m 25 #[.val (.int (3 : Int32)), .val (.ref rv), .val (.int (9 : Int32)), .val (.int (3 : Int32)), .val (.ref (ad 3))] [(.int (3 : Int32)), (.int (3 : Int32))])) t
      refine XS.icmpNo X18.here hx rfl (hb hby own_d_prog_38_method_5_code_25) rfl (teq (by decide : (3 : Int32) = (3 : Int32))).2 ?_
      show Steps p.tables e below (T18.setTop (mkF m 28 #[.val (.int (3 : Int32)), .val (.ref rv), .val (.int (9 : Int32)), .val (.int (3 : Int32)), .val (.ref (ad 3))] [])) t
      refine XS.aload X18.here hx rfl (hb hby own_d_prog_38_method_5_code_28) rfl rfl ?_
      exact k)
  obtain ⟨fs, hr, hrun, hended, hW, hsame⟩ := X18.leave (v := some (.ref (ad 3))) (fun h => by rw [Bd.returns] at h; cases h)
  refine ⟨_, _, ch20 _ ?_, hrun, hended, _, _, rfl, ?_, ⟨_, rfl⟩, hW, hsame.mono (by decide) (by decide)⟩
  · show Steps p.tables e below (T18.setTop (mkF m 30 #[.val (.int (3 : Int32)), .val (.ref rv), .val (.int (9 : Int32)), .val (.int (3 : Int32)), .val (.ref (ad 3))] [(.ref (ad 3))])) _
    jvm_step X18.here [X18.here.top, hx, (hb hby own_d_prog_38_method_5_code_30), X18.method', Bd.returns, Value.isRef, FieldType.isReference]
    first | (intro acts; rw [hr _ acts rfl rfl rfl]) | rw [hr _ _ rfl rfl rfl]
    exact Steps.refl _
  · show QK (some (.ref (ad 3))) h0 n0 _ T18.heap _
    rw [e18]
    exact ⟨rfl, N1, Kp1⟩
theorem own_ef_own_expd_3 (m : MethodId) {x0 : Int32} : entryFrame m #[(.int x0)] 1 = mkF m 0 #[.val (.int x0)] [] := by first | (simp [entryFrame, mkF, argsToLocals, Value.category, maxLocals]; done) | rfl
set_option maxRecDepth 65536 in
set_option maxHeartbeats 40000000 in
theorem own_expd_3 (l : Launch) (Z : State) (a0 : Array Value) (hw : ∀ d ∈ tables_1, d.before a0 Z = true) (ws : List Jvm.Cond) (h0 : Heap) (n0 : Nat) (Z0 : n0 ≤ h0.size) (ad : Nat → Addr) (a__VALUES : Addr) (k__VALUES : ClassId) (W : OwnWd Z h0 ad a__VALUES k__VALUES) :
    MetFree l (⟨"com/example/limpet/limpet/io/StatusFromCodePinLaw", "expected", "(I)Lcom/example/limpet/limpet/io/Status;"⟩ : MethodName) (head1 (Jvm.Cond.code (⟨"com/example/limpet/limpet/io/StatusFromCodePinLaw", "expected", "(I)Lcom/example/limpet/limpet/io/Status;"⟩ : MethodName) method_2_code 1 (some (.object "com/example/limpet/limpet/io/Status")) :: ws) ({ frames := 0, cells := 0, slots := 0, locals := 0 } : Room)) (fun a U => a = #[(.int (3 : Int32))] ∧ Z.Warmed39 U.vm ∧ U.heap = h0) (fun _ _ _ _ _ => True) (fun _ U o U' => ∃ v L, o = .returned v ∧ QV (some (.ref (ad 3))) h0 n0 v U'.heap L ∧ FrameEnd U o U' L ({ frames := 0, cells := 0, slots := 0, locals := 0 } : Room).cells ({ frames := 0, cells := 0, slots := 0, locals := 0 } : Room).slots) := by
  refine MetFree.of_bodySF (plainFor_of_name own_pn_com_example_limpet_limpet_io_StatusFromCodePinLaw) hisR ?_
  intro p e s m args below meth c s₁ Bd hml0 hP hK
  obtain ⟨rfl, hZ, hh⟩ := hP
  have hx := Bd.exec
  have hby := Bd.bytes
  have hml : c.maxLocals = 1 := hml0
  have hown : s.vm.findClass "com/example/limpet/limpet/io/StatusFromCodePinLaw" = some m.cls := findClass_of_methodNamed Bd.named
  have hnm := (name_of_methodNamed Bd.named Bd.method).1
  have X0 : Stand p l e ({ frames := 0, cells := 0, slots := 0, locals := 0 } : Room) s m #[(.int (3 : Int32))] below meth c s₁ [] 0 0 := Stand.of_body Bd
  have e0 : s₁.heap = h0 := by rw [← hh, Bd.state]; rfl
  have N0 := Fr.nil n0
  have pre0 : ∀ t, Steps p.tables e below (s₁.setTop (mkF m 0 #[.val (.int (3 : Int32))] [])) t → Steps p.tables e below (s₁.setTop (entryFrame m #[(.int (3 : Int32))] 1)) t := fun t k => castTop (own_ef_own_expd_3 m) k
  obtain ⟨T1, X1, e1, st1⟩ := getS2 X0 hx hZ hown (host := "") (Or.inl (hw _ (List.mem_of_getElem? (i := 41) rfl))) Via.refl e0 (own_S_FAILED W) (g := (mkF m 31 #[.val (.int (3 : Int32))] [])) rfl (hb hby own_d_method_2_code_31)
  have ch2 : ∀ t, Steps p.tables e below (T1.setTop (mkF m 34 #[.val (.int (3 : Int32))] [(.ref (ad 3))])) t → Steps p.tables e below (s₁.setTop (entryFrame m #[(.int (3 : Int32))] 1)) t := fun t k => pre0 t (by
      show Steps p.tables e below (s₁.setTop (mkF m 0 #[.val (.int (3 : Int32))] [])) t
      refine XS.iloadN X0.here hx rfl (hb hby own_d_method_2_code_0) rfl ?_
      show Steps p.tables e below (s₁.setTop (mkF m 1 #[.val (.int (3 : Int32))] [(.int (3 : Int32))])) t
      refine XS.ifYes X0.here hx rfl (pc0 := 1) (pc' := 8) rfl (hb hby own_d_method_2_code_1) rfl ((if0 _ _).trans (feq (by decide : ¬ (3 : Int32) = (0 : Int32))).2) (by decide) (by decide) ?_
      show Steps p.tables e below (s₁.setTop (mkF m 8 #[.val (.int (3 : Int32))] [])) t
      refine XS.iloadN X0.here hx rfl (hb hby own_d_method_2_code_8) rfl ?_
      show Steps p.tables e below (s₁.setTop (mkF m 9 #[.val (.int (3 : Int32))] [(.int (3 : Int32))])) t
      refine XS.iconst X0.here hx rfl (hb hby own_d_method_2_code_9) ?_
      show Steps p.tables e below (s₁.setTop (mkF m 10 #[.val (.int (3 : Int32))] [(.int (1 : Int32)), (.int (3 : Int32))])) t
      refine XS.icmpYes X0.here hx rfl (pc0 := 10) (pc' := 17) rfl (hb hby own_d_method_2_code_10) rfl (feq (by decide : ¬ (3 : Int32) = (1 : Int32))).2 (by decide) (by decide) ?_
      show Steps p.tables e below (s₁.setTop (mkF m 17 #[.val (.int (3 : Int32))] [])) t
      refine XS.iloadN X0.here hx rfl (hb hby own_d_method_2_code_17) rfl ?_
      show Steps p.tables e below (s₁.setTop (mkF m 18 #[.val (.int (3 : Int32))] [(.int (3 : Int32))])) t
      refine XS.iconst X0.here hx rfl (hb hby own_d_method_2_code_18) ?_
      show Steps p.tables e below (s₁.setTop (mkF m 19 #[.val (.int (3 : Int32))] [(.int (2 : Int32)), (.int (3 : Int32))])) t
      refine XS.icmpYes X0.here hx rfl (pc0 := 19) (pc' := 26) rfl (hb hby own_d_method_2_code_19) rfl (feq (by decide : ¬ (3 : Int32) = (2 : Int32))).2 (by decide) (by decide) ?_
      show Steps p.tables e below (s₁.setTop (mkF m 26 #[.val (.int (3 : Int32))] [])) t
      refine XS.iloadN X0.here hx rfl (hb hby own_d_method_2_code_26) rfl ?_
      show Steps p.tables e below (s₁.setTop (mkF m 27 #[.val (.int (3 : Int32))] [(.int (3 : Int32))])) t
      refine XS.iconst X0.here hx rfl (hb hby own_d_method_2_code_27) ?_
      show Steps p.tables e below (s₁.setTop (mkF m 28 #[.val (.int (3 : Int32))] [(.int (3 : Int32)), (.int (3 : Int32))])) t
      refine XS.icmpNo X0.here hx rfl (hb hby own_d_method_2_code_28) rfl (teq (by decide : (3 : Int32) = (3 : Int32))).2 ?_
      show Steps p.tables e below (s₁.setTop (mkF m 31 #[.val (.int (3 : Int32))] [])) t
      exact st1 t k)
  obtain ⟨fs, hr, hrun, hended, hW, hsame⟩ := X1.leave (v := some (.ref (ad 3))) (fun h => by rw [Bd.returns] at h; cases h)
  refine ⟨_, _, ch2 _ ?_, hrun, hended, _, _, rfl, ?_, ⟨_, rfl⟩, hW, hsame.mono (by decide) (by decide)⟩
  · show Steps p.tables e below (T1.setTop (mkF m 34 #[.val (.int (3 : Int32))] [(.ref (ad 3))])) _
    jvm_step X1.here [X1.here.top, hx, (hb hby own_d_method_2_code_34), X1.method', Bd.returns, Value.isRef, FieldType.isReference]
    first | (intro acts; rw [hr _ acts rfl rfl rfl]) | rw [hr _ _ rfl rfl rfl]
    exact Steps.refl _
  · show QV (some (.ref (ad 3))) h0 n0 _ T1.heap _
    rw [e1]
    exact ⟨rfl, N0, rfl⟩
theorem own_ef_own_code_3 (m : MethodId) {x0 : Addr} : entryFrame m #[(.ref x0)] 1 = mkF m 0 #[.val (.ref x0)] [] := by first | (simp [entryFrame, mkF, argsToLocals, Value.category, maxLocals]; done) | rfl
set_option maxRecDepth 65536 in
set_option maxHeartbeats 40000000 in
theorem own_code_3 (l : Launch) (Z : State) (a0 : Array Value) (hw : ∀ d ∈ tables_1, d.before a0 Z = true) (ws : List Jvm.Cond) (h0 : Heap) (n0 : Nat) (Z0 : n0 ≤ h0.size) (ad : Nat → Addr) (a__VALUES : Addr) (k__VALUES : ClassId) (W : OwnWd Z h0 ad a__VALUES k__VALUES) :
    MetFree l (⟨"com/example/limpet/limpet/io/Status", "code", "()I"⟩ : MethodName) (head1 (Jvm.Cond.code (⟨"com/example/limpet/limpet/io/Status", "code", "()I"⟩ : MethodName) prog_38_method_4_code 1 (some .int) :: ws) ({ frames := 0, cells := 0, slots := 0, locals := 0 } : Room)) (fun a U => a = #[(.ref (ad 3))] ∧ Z.Warmed39 U.vm ∧ U.heap = h0) (fun _ _ _ _ _ => True) (fun _ U o U' => ∃ v L, o = .returned v ∧ QV (some (.int (3 : Int32))) h0 n0 v U'.heap L ∧ FrameEnd U o U' L ({ frames := 0, cells := 0, slots := 0, locals := 0 } : Room).cells ({ frames := 0, cells := 0, slots := 0, locals := 0 } : Room).slots) := by
  refine MetFree.of_bodySF (plainFor_of_name own_pn_com_example_limpet_limpet_io_Status) hisR ?_
  intro p e s m args below meth c s₁ Bd hml0 hP hK
  obtain ⟨rfl, hZ, hh⟩ := hP
  have hx := Bd.exec
  have hby := Bd.bytes
  have hml : c.maxLocals = 1 := hml0
  have hown : s.vm.findClass "com/example/limpet/limpet/io/Status" = some m.cls := findClass_of_methodNamed Bd.named
  have hnm := (name_of_methodNamed Bd.named Bd.method).1
  have X0 : Stand p l e ({ frames := 0, cells := 0, slots := 0, locals := 0 } : Room) s m #[(.ref (ad 3))] below meth c s₁ [] 0 0 := Stand.of_body Bd
  have e0 : s₁.heap = h0 := by rw [← hh, Bd.state]; rfl
  have N0 := Fr.nil n0
  have pre0 : ∀ t, Steps p.tables e below (s₁.setTop (mkF m 0 #[.val (.ref (ad 3))] [])) t → Steps p.tables e below (s₁.setTop (entryFrame m #[(.ref (ad 3))] 1)) t := fun t k => castTop (own_ef_own_code_3 m) k
  obtain ⟨T1, X1, e1, st1⟩ := getF X0 hx hZ hown (host := "") (Or.inl (hw _ (List.mem_of_getElem? (i := 29) rfl))) Via.refl e0 (own_F_FAILED_code W) (g := (mkF m 1 #[.val (.ref (ad 3))] [(.ref (ad 3))])) rfl rfl (hb hby own_d_prog_38_method_4_code_1)
  have ch2 : ∀ t, Steps p.tables e below (T1.setTop (mkF m 4 #[.val (.ref (ad 3))] [(.int (3 : Int32))])) t → Steps p.tables e below (s₁.setTop (entryFrame m #[(.ref (ad 3))] 1)) t := fun t k => pre0 t (by
      show Steps p.tables e below (s₁.setTop (mkF m 0 #[.val (.ref (ad 3))] [])) t
      refine XS.aloadN X0.here hx rfl (hb hby own_d_prog_38_method_4_code_0) rfl rfl ?_
      show Steps p.tables e below (s₁.setTop (mkF m 1 #[.val (.ref (ad 3))] [(.ref (ad 3))])) t
      exact st1 t k)
  obtain ⟨fs, hr, hrun, hended, hW, hsame⟩ := X1.leave (v := some (.int (3 : Int32))) (fun h => by rw [Bd.returns] at h; cases h)
  refine ⟨_, _, ch2 _ ?_, hrun, hended, _, _, rfl, ?_, ⟨_, rfl⟩, hW, hsame.mono (by decide) (by decide)⟩
  · show Steps p.tables e below (T1.setTop (mkF m 4 #[.val (.ref (ad 3))] [(.int (3 : Int32))])) _
    exact retI X1 hx Bd.returns (hb hby own_d_prog_38_method_4_code_4) hr
  · show QV (some (.int (3 : Int32))) h0 n0 _ T1.heap _
    rw [e1]
    exact ⟨rfl, N0, rfl⟩
theorem own_ef_own_law_3 (m : MethodId) {x0 : Int32} : entryFrame m #[(.int x0)] maxLocals = mkF m 0 #[.val (.int x0), .unset, .unset, .unset] [] := by first | (simp [entryFrame, mkF, argsToLocals, Value.category, maxLocals]; done) | rfl
set_option maxRecDepth 65536 in
set_option maxHeartbeats 40000000 in
theorem own_law_3 (l : Launch) (Z : State) (a0 : Array Value) (hw : ∀ d ∈ tables_1, d.before a0 Z = true) (ws : List Jvm.Cond) (h0 : Heap) (n0 : Nat) (Z0 : n0 ≤ h0.size) (p1 : Int32) (hk : (p1 &&& (2147483647 : Int32)) % (9 : Int32) = (3 : Int32)) (ad : Nat → Addr) (a__VALUES : Addr) (k__VALUES : ClassId) (W : OwnWd Z h0 ad a__VALUES k__VALUES) :
    MetFree l x (head1 (Jvm.Cond.code x code maxLocals ret :: ws) room_1) (fun a U => a = #[(.int p1)] ∧ Z.Warmed39 U.vm ∧ U.heap = h0) (fun _ _ _ _ _ => True) (fun _ U o U' => ∃ v L, o = .returned v ∧ QN (some (.int (1 : Int32))) n0 v U'.heap L ∧ FrameEnd U o U' L room_1.cells room_1.slots) := by
  refine MetFree.of_bodySF (plainFor_of_name own_pn_com_example_limpet_limpet_io_StatusFromCodePinLaw) hisR ?_
  intro p e s m args below meth c s₁ Bd hml0 hP hK
  obtain ⟨rfl, hZ, hh⟩ := hP
  have hx := Bd.exec
  have hby := Bd.bytes
  have hml : c.maxLocals = 4 := hml0
  have hown : s.vm.findClass "com/example/limpet/limpet/io/StatusFromCodePinLaw" = some m.cls := findClass_of_methodNamed Bd.named
  have hnm := (name_of_methodNamed Bd.named Bd.method).1
  have X0 : Stand p l e room_1 s m #[(.int p1)] below meth c s₁ [] 0 0 := Stand.of_body Bd
  have e0 : s₁.heap = h0 := by rw [← hh, Bd.state]; rfl
  have N0 := Fr.nil n0
  have pre0 : ∀ t, Steps p.tables e below (s₁.setTop (mkF m 0 #[.val (.int p1), .unset, .unset, .unset] [])) t → Steps p.tables e below (s₁.setTop (entryFrame m #[(.int p1)] maxLocals)) t := fun t k => castTop (own_ef_own_law_3 m) k
  obtain ⟨vv1, _, ⟨T1, L1, kk1, nn1⟩, -, X1, ⟨Lc1, hQ1, l1, y1, z1⟩, st1⟩ := Jvm.LawKit.callS X0 hx (y := (⟨"com/example/limpet/limpet/io/Status", "fromCode", "(I)Lcom/example/limpet/limpet/io/Status;"⟩ : MethodName)) hown (mvT hZ (hw _ (List.mem_of_getElem? (i := 1) rfl))) (mvT hZ (hw _ (List.mem_of_getElem? (i := 2) rfl))) (mvT hZ (hw _ (List.mem_of_getElem? (i := 3) rfl))) (mvT hZ (hw _ (List.mem_of_getElem? (i := 4) rfl))) (by decide) (backOf (W := 0) (own_from_3 l Z a0 hw [] h0 n0 (Nat.le_trans Z0 (Keep.refl h0 []).1) ad a__VALUES k__VALUES W) hZ (hw _ (List.mem_of_getElem? (i := 4) rfl)) (hw _ (List.mem_of_getElem? (i := 3) rfl)) (by decide) (by decide)) (g := (mkF m 9 #[.val (.int p1), .val (.int (3 : Int32)), .unset, .unset] [(.int (3 : Int32))])) rfl (by rw [hml]; rfl) (argsL := [(.int (3 : Int32))]) (rest := []) (lenOf own_pd__I_Lcom_example_limpet_limpet_io_Status_ rfl) rfl (by show 2 * 0 + _ ≤ _; exact Nat.le_of_eq rfl) (hb hby at_9) (fun _ _ => ⟨rfl, e0, (by decide : 0 + 1 ≤ _), (by decide : 0 + 9 ≤ _)⟩)
  dsimp only [Pt.U, Pt.locs, Pt.cells, Pt.slots] at X1 l1 y1 z1 st1 hQ1
  subst l1 y1 z1
  obtain ⟨hh1, eh1⟩ : ∃ h, T1.heap = h := ⟨_, rfl⟩
  rw [eh1] at hQ1
  obtain ⟨rfl, Nq1, Kq1⟩ := hQ1
  have N1 := Fr.app N0 Nq1
  have Kp1 := Keep.trans (Keep.refl h0 []) Kq1 all0
  have ch2 : ∀ t, Steps p.tables e below (T1.setTop (mkF m 12 #[.val (.int p1), .val (.int (3 : Int32)), .unset, .unset] [(.ref (ad 3))])) t → Steps p.tables e below (s₁.setTop (entryFrame m #[(.int p1)] maxLocals)) t := fun t k => pre0 t (by
      show Steps p.tables e below (s₁.setTop (mkF m 0 #[.val (.int p1), .unset, .unset, .unset] [])) t
      refine XS.iloadN X0.here hx rfl (hb hby at_0) rfl ?_
      show Steps p.tables e below (s₁.setTop (mkF m 1 #[.val (.int p1), .unset, .unset, .unset] [(.int p1)])) t
      refine X0.ldcInt hx hown (mvT hZ (hw _ (List.mem_of_getElem? (i := 0) rfl))) (g := (mkF m 1 #[.val (.int p1), .unset, .unset, .unset] [(.int p1)])) rfl (hb hby at_1) _ ?_
      show Steps p.tables e below (s₁.setTop (mkF m 3 #[.val (.int p1), .unset, .unset, .unset] [(.int (2147483647 : Int32)), (.int p1)])) t
      refine XS.iand X0.here hx rfl (hb hby at_3) rfl ?_
      show Steps p.tables e below (s₁.setTop (mkF m 4 #[.val (.int p1), .unset, .unset, .unset] [(.int (p1 &&& (2147483647 : Int32)))])) t
      refine XS.bipush X0.here hx rfl (hb hby at_4) ?_
      show Steps p.tables e below (s₁.setTop (mkF m 6 #[.val (.int p1), .unset, .unset, .unset] [(.int (9 : Int32)), (.int (p1 &&& (2147483647 : Int32)))])) t
      refine Jvm.RoadKit.iremM (g := (mkF m 6 #[.val (.int p1), .unset, .unset, .unset] [(.int (9 : Int32)), (.int (p1 &&& (2147483647 : Int32)))])) X0 hx rfl (hb hby at_6) rfl (by decide) ?_
      rw [hk]
      show Steps p.tables e below (s₁.setTop (mkF m 7 #[.val (.int p1), .unset, .unset, .unset] [(.int (3 : Int32))])) t
      refine XS.istoreN X0.here hx rfl (hb hby at_7) rfl (l' := #[.val (.int p1), .val (.int (3 : Int32)), .unset, .unset]) rfl ?_
      show Steps p.tables e below (s₁.setTop (mkF m 8 #[.val (.int p1), .val (.int (3 : Int32)), .unset, .unset] [])) t
      refine XS.iloadN X0.here hx rfl (hb hby at_8) rfl ?_
      show Steps p.tables e below (s₁.setTop (mkF m 9 #[.val (.int p1), .val (.int (3 : Int32)), .unset, .unset] [(.int (3 : Int32))])) t
      exact st1 t k)
  obtain ⟨vv3, _, ⟨T3, L3, kk3, nn3⟩, -, X3, ⟨Lc3, hQ3, l3, y3, z3⟩, st3⟩ := Jvm.LawKit.callS X1 hx (y := (⟨"com/example/limpet/limpet/io/StatusFromCodePinLaw", "expected", "(I)Lcom/example/limpet/limpet/io/Status;"⟩ : MethodName)) hown (mvT hZ (hw _ (List.mem_of_getElem? (i := 31) rfl))) (mvT hZ (hw _ (List.mem_of_getElem? (i := 32) rfl))) (mvT hZ (hw _ (List.mem_of_getElem? (i := 33) rfl))) (mvT hZ (hw _ (List.mem_of_getElem? (i := 34) rfl))) (by decide) (backOf (W := 0) (own_expd_3 l Z a0 hw [] hh1 n0 (Nat.le_trans Z0 Kp1.1) ad a__VALUES k__VALUES (own_Wd_ext W (own_ext_of_keep Kp1 all0))) hZ (hw _ (List.mem_of_getElem? (i := 34) rfl)) (hw _ (List.mem_of_getElem? (i := 33) rfl)) (by decide) (by decide)) (g := (mkF m 14 #[.val (.int p1), .val (.int (3 : Int32)), .val (.ref (ad 3)), .unset] [(.int (3 : Int32))])) rfl (by rw [hml]; rfl) (argsL := [(.int (3 : Int32))]) (rest := []) (lenOf own_pd__I_Lcom_example_limpet_limpet_io_Status_ rfl) rfl (by show 2 * 0 + _ ≤ _; exact Nat.le_of_eq rfl) (hb hby at_14) (fun _ _ => ⟨rfl, eh1, (by decide : 1 + 0 ≤ _), (by decide : 9 + 0 ≤ _)⟩)
  dsimp only [Pt.U, Pt.locs, Pt.cells, Pt.slots] at X3 l3 y3 z3 st3 hQ3
  subst l3 y3 z3
  obtain ⟨rfl, Nq3, e3⟩ := hQ3
  have N3 := Fr.app N1 Nq3
  have ch4 : ∀ t, Steps p.tables e below (T3.setTop (mkF m 17 #[.val (.int p1), .val (.int (3 : Int32)), .val (.ref (ad 3)), .unset] [(.ref (ad 3))])) t → Steps p.tables e below (s₁.setTop (entryFrame m #[(.int p1)] maxLocals)) t := fun t k => ch2 t (by
      show Steps p.tables e below (T1.setTop (mkF m 12 #[.val (.int p1), .val (.int (3 : Int32)), .unset, .unset] [(.ref (ad 3))])) t
      refine XS.astoreN X1.here hx rfl (hb hby at_12) rfl rfl (l' := #[.val (.int p1), .val (.int (3 : Int32)), .val (.ref (ad 3)), .unset]) rfl ?_
      show Steps p.tables e below (T1.setTop (mkF m 13 #[.val (.int p1), .val (.int (3 : Int32)), .val (.ref (ad 3)), .unset] [])) t
      refine XS.iloadN X1.here hx rfl (hb hby at_13) rfl ?_
      show Steps p.tables e below (T1.setTop (mkF m 14 #[.val (.int p1), .val (.int (3 : Int32)), .val (.ref (ad 3)), .unset] [(.int (3 : Int32))])) t
      exact st3 t k)
  have cf6 := (Exa.keep (own_E_FAILED W) Kp1)
  obtain ⟨cq5, kq5, qa5, qb5, qc5⟩ := isOf hZ e3 cf6
  obtain ⟨vv7, _, ⟨T7, L7, kk7, nn7⟩, -, X7, ⟨Lc7, hQ7, l7, y7, z7⟩, st7⟩ := X3.virtualBack hx (y := (⟨"com/example/limpet/limpet/io/Status", "code", "()I"⟩ : MethodName)) (z := (⟨"com/example/limpet/limpet/io/Status", "code", "()I"⟩ : MethodName)) hown (mvT hZ (hw _ (List.mem_of_getElem? (i := 36) rfl))) (mvT hZ (hw _ (List.mem_of_getElem? (i := 37) rfl))) (notFace_of_selects (args := #[]) (mvT hZ (hw _ (List.mem_of_getElem? (i := 39) rfl)))) (mvT hZ (hw _ (List.mem_of_getElem? (i := 39) rfl))) (mvT hZ (hw _ (List.mem_of_getElem? (i := 38) rfl))) (by decide) (backOf (W := 0) (own_code_3 l Z a0 hw [] hh1 n0 (Nat.le_trans Z0 Kp1.1) ad a__VALUES k__VALUES (own_Wd_ext W (own_ext_of_keep Kp1 all0))) hZ (hw _ (List.mem_of_getElem? (i := 40) rfl)) (hw _ (List.mem_of_getElem? (i := 3) rfl)) (by decide) (by decide)) qa5 qc5 (g := (mkF m 24 #[.val (.int p1), .val (.int (3 : Int32)), .val (.ref (ad 3)), .val (.ref (ad 3))] [(.ref (ad 3))])) rfl (by rw [hml]; rfl) (Steps.refl _) (argsL := []) (rest := []) (lenOf own_pd___I rfl) rfl (by show 2 * 0 + _ ≤ _; exact Nat.le_of_eq rfl) (hb hby at_24) (fun _ _ => ⟨rfl, e3, (by decide : 1 + 0 ≤ _), (by decide : 9 + 0 ≤ _)⟩)
  dsimp only [Pt.U, Pt.locs, Pt.cells, Pt.slots] at X7 l7 y7 z7 st7 hQ7
  subst l7 y7 z7
  obtain ⟨rfl, Nq7, e7⟩ := hQ7
  have N7 := Fr.app N3 Nq7
  have ch8 : ∀ t, Steps p.tables e below (T7.setTop (mkF m 27 #[.val (.int p1), .val (.int (3 : Int32)), .val (.ref (ad 3)), .val (.ref (ad 3))] [(.int (3 : Int32))])) t → Steps p.tables e below (s₁.setTop (entryFrame m #[(.int p1)] maxLocals)) t := fun t k => ch4 t (by
      show Steps p.tables e below (T3.setTop (mkF m 17 #[.val (.int p1), .val (.int (3 : Int32)), .val (.ref (ad 3)), .unset] [(.ref (ad 3))])) t
      refine XS.astoreN X3.here hx rfl (hb hby at_17) rfl rfl (l' := #[.val (.int p1), .val (.int (3 : Int32)), .val (.ref (ad 3)), .val (.ref (ad 3))]) rfl ?_
      show Steps p.tables e below (T3.setTop (mkF m 18 #[.val (.int p1), .val (.int (3 : Int32)), .val (.ref (ad 3)), .val (.ref (ad 3))] [])) t
      refine XS.aloadN X3.here hx rfl (hb hby at_18) rfl rfl ?_
      show Steps p.tables e below (T3.setTop (mkF m 19 #[.val (.int p1), .val (.int (3 : Int32)), .val (.ref (ad 3)), .val (.ref (ad 3))] [(.ref (ad 3))])) t
      refine XS.aloadN X3.here hx rfl (hb hby at_19) rfl rfl ?_
      show Steps p.tables e below (T3.setTop (mkF m 20 #[.val (.int p1), .val (.int (3 : Int32)), .val (.ref (ad 3)), .val (.ref (ad 3))] [(.ref (ad 3)), (.ref (ad 3))])) t
      refine Jvm.RoadKit.acmp (g := (mkF m 20 #[.val (.int p1), .val (.int (3 : Int32)), .val (.ref (ad 3)), .val (.ref (ad 3))] [(.ref (ad 3)), (.ref (ad 3))])) X3 hx rfl rfl rfl (pc0 := 20) (pc' := 23) (same := true) rfl (hb hby at_20) rfl (decide_eq_true rfl) (by decide) (by decide) ?_
      show Steps p.tables e below (T3.setTop (mkF m 23 #[.val (.int p1), .val (.int (3 : Int32)), .val (.ref (ad 3)), .val (.ref (ad 3))] [])) t
      refine XS.aloadN X3.here hx rfl (hb hby at_23) rfl rfl ?_
      show Steps p.tables e below (T3.setTop (mkF m 24 #[.val (.int p1), .val (.int (3 : Int32)), .val (.ref (ad 3)), .val (.ref (ad 3))] [(.ref (ad 3))])) t
      exact st7.trans k)
  have ch9 : ∀ t, Steps p.tables e below (T7.setTop (mkF m 36 #[.val (.int p1), .val (.int (3 : Int32)), .val (.ref (ad 3)), .val (.ref (ad 3))] [(.int (1 : Int32))])) t → Steps p.tables e below (s₁.setTop (entryFrame m #[(.int p1)] maxLocals)) t := fun t k => ch8 t (by
      show Steps p.tables e below (T7.setTop (mkF m 27 #[.val (.int p1), .val (.int (3 : Int32)), .val (.ref (ad 3)), .val (.ref (ad 3))] [(.int (3 : Int32))])) t
      refine XS.iloadN X7.here hx rfl (hb hby at_27) rfl ?_
      show Steps p.tables e below (T7.setTop (mkF m 28 #[.val (.int p1), .val (.int (3 : Int32)), .val (.ref (ad 3)), .val (.ref (ad 3))] [(.int (3 : Int32)), (.int (3 : Int32))])) t
      refine XS.icmpNo X7.here hx rfl (hb hby at_28) rfl (teq (by decide : (3 : Int32) = (3 : Int32))).2 ?_
      show Steps p.tables e below (T7.setTop (mkF m 31 #[.val (.int p1), .val (.int (3 : Int32)), .val (.ref (ad 3)), .val (.ref (ad 3))] [])) t
      refine XS.iconst X7.here hx rfl (hb hby at_31) ?_
      show Steps p.tables e below (T7.setTop (mkF m 32 #[.val (.int p1), .val (.int (3 : Int32)), .val (.ref (ad 3)), .val (.ref (ad 3))] [(.int (1 : Int32))])) t
      refine XS.goto X7.here hx rfl (pc0 := 32) (pc' := 36) rfl (hb hby at_32) (by decide) (by decide) ?_
      exact k)
  obtain ⟨fs, hr, hrun, hended, hW, hsame⟩ := X7.leave (v := some (.int (1 : Int32))) (fun h => by rw [Bd.returns] at h; cases h)
  refine ⟨_, _, ch9 _ ?_, hrun, hended, _, _, rfl, ?_, ⟨_, rfl⟩, hW, hsame.mono (by decide) (by decide)⟩
  · show Steps p.tables e below (T7.setTop (mkF m 36 #[.val (.int p1), .val (.int (3 : Int32)), .val (.ref (ad 3)), .val (.ref (ad 3))] [(.int (1 : Int32))])) _
    exact retN X7 hx (t := .boolean) Bd.returns (by simp) (hb hby at_36) hr
  · show QN (some (.int (1 : Int32))) n0 _ T7.heap _
    rw [e7]
    exact ⟨rfl, N7⟩
theorem own_ef_own_from_4 (m : MethodId) {x0 : Int32} : entryFrame m #[(.int x0)] 5 = mkF m 0 #[.val (.int x0), .unset, .unset, .unset, .unset] [] := by first | (simp [entryFrame, mkF, argsToLocals, Value.category, maxLocals]; done) | rfl
set_option maxRecDepth 65536 in
set_option maxHeartbeats 40000000 in
theorem own_from_4 (l : Launch) (Z : State) (a0 : Array Value) (hw : ∀ d ∈ tables_1, d.before a0 Z = true) (ws : List Jvm.Cond) (h0 : Heap) (n0 : Nat) (Z0 : n0 ≤ h0.size) (ad : Nat → Addr) (a__VALUES : Addr) (k__VALUES : ClassId) (W : OwnWd Z h0 ad a__VALUES k__VALUES) :
    MetFree l (⟨"com/example/limpet/limpet/io/Status", "fromCode", "(I)Lcom/example/limpet/limpet/io/Status;"⟩ : MethodName) (head1 (Jvm.Cond.code (⟨"com/example/limpet/limpet/io/Status", "fromCode", "(I)Lcom/example/limpet/limpet/io/Status;"⟩ : MethodName) prog_38_method_5_code 5 (some (.object "com/example/limpet/limpet/io/Status")) :: ws) ({ frames := 2, cells := 1, slots := 9, locals := 25 } : Room)) (fun a U => a = #[(.int (4 : Int32))] ∧ Z.Warmed39 U.vm ∧ U.heap = h0) (fun _ _ _ _ _ => True) (fun _ U o U' => ∃ v L, o = .returned v ∧ QK (some (.ref (ad 4))) h0 n0 v U'.heap L ∧ FrameEnd U o U' L ({ frames := 2, cells := 1, slots := 9, locals := 25 } : Room).cells ({ frames := 2, cells := 1, slots := 9, locals := 25 } : Room).slots) := by
  refine MetFree.of_bodySF (plainFor_of_name own_pn_com_example_limpet_limpet_io_Status) hisR ?_
  intro p e s m args below meth c s₁ Bd hml0 hP hK
  obtain ⟨rfl, hZ, hh⟩ := hP
  have hx := Bd.exec
  have hby := Bd.bytes
  have hml : c.maxLocals = 5 := hml0
  have hown : s.vm.findClass "com/example/limpet/limpet/io/Status" = some m.cls := findClass_of_methodNamed Bd.named
  have hnm := (name_of_methodNamed Bd.named Bd.method).1
  have X0 : Stand p l e ({ frames := 2, cells := 1, slots := 9, locals := 25 } : Room) s m #[(.int (4 : Int32))] below meth c s₁ [] 0 0 := Stand.of_body Bd
  have e0 : s₁.heap = h0 := by rw [← hh, Bd.state]; rfl
  have N0 := Fr.nil n0
  have pre0 : ∀ t, Steps p.tables e below (s₁.setTop (mkF m 0 #[.val (.int (4 : Int32)), .unset, .unset, .unset, .unset] [])) t → Steps p.tables e below (s₁.setTop (entryFrame m #[(.int (4 : Int32))] 5)) t := fun t k => castTop (own_ef_own_from_4 m) k
  obtain ⟨vv1, _, ⟨T1, L1, kk1, nn1⟩, -, X1, ⟨Lc1, hQ1, l1, y1, z1⟩, st1⟩ := Jvm.LawKit.callS X0 hx (y := (⟨"com/example/limpet/limpet/io/Status", "values", "()[Lcom/example/limpet/limpet/io/Status;"⟩ : MethodName)) hown (mvT hZ (hw _ (List.mem_of_getElem? (i := 5) rfl))) (mvT hZ (hw _ (List.mem_of_getElem? (i := 6) rfl))) (mvT hZ (hw _ (List.mem_of_getElem? (i := 3) rfl))) (mvT hZ (hw _ (List.mem_of_getElem? (i := 7) rfl))) (by decide) (backOf (W := 0) (own_vals l Z a0 hw [] h0 n0 (Nat.le_trans Z0 (Keep.refl h0 []).1) ad a__VALUES k__VALUES W) hZ (hw _ (List.mem_of_getElem? (i := 7) rfl)) (hw _ (List.mem_of_getElem? (i := 3) rfl)) (by decide) (by decide)) (g := (mkF m 0 #[.val (.int (4 : Int32)), .unset, .unset, .unset, .unset] [])) rfl (by rw [hml]; rfl) (argsL := []) (rest := []) (lenOf own_pd____Lcom_example_limpet_limpet_io_Status_ rfl) rfl (by show 2 * 0 + _ ≤ _; exact Nat.le_of_eq rfl) (hb hby own_d_prog_38_method_5_code_0) (fun _ _ => ⟨rfl, e0, (by decide : 0 + 1 ≤ _), (by decide : 0 + 9 ≤ _)⟩)
  dsimp only [Pt.U, Pt.locs, Pt.cells, Pt.slots] at X1 l1 y1 z1 st1 hQ1
  subst l1 y1 z1
  obtain ⟨hh1, eh1⟩ : ∃ h, T1.heap = h := ⟨_, rfl⟩
  rw [eh1] at hQ1
  obtain ⟨rv, rfl, zq1, Nq1, Kq1, fq1_0⟩ := hQ1
  have N1 := Fr.app N0 Nq1
  have ne_ad0_rv : (ad 0) ≠ rv := Nat.ne_of_lt (Nat.lt_of_lt_of_le (own_E_OK W).lt zq1)
  have ne_ad1_rv : (ad 1) ≠ rv := Nat.ne_of_lt (Nat.lt_of_lt_of_le (own_E_BAD_REQUEST W).lt zq1)
  have ne_ad2_rv : (ad 2) ≠ rv := Nat.ne_of_lt (Nat.lt_of_lt_of_le (own_E_NOT_FOUND W).lt zq1)
  have ne_ad3_rv : (ad 3) ≠ rv := Nat.ne_of_lt (Nat.lt_of_lt_of_le (own_E_FAILED W).lt zq1)
  have ne_ad4_rv : (ad 4) ≠ rv := Nat.ne_of_lt (Nat.lt_of_lt_of_le (own_E_UNSUPPORTED_KEY W).lt zq1)
  have ne_ad5_rv : (ad 5) ≠ rv := Nat.ne_of_lt (Nat.lt_of_lt_of_le (own_E_PERMISSION_DENIED W).lt zq1)
  have ne_ad6_rv : (ad 6) ≠ rv := Nat.ne_of_lt (Nat.lt_of_lt_of_le (own_E_GRANT_NOT_FOUND W).lt zq1)
  have ne_ad7_rv : (ad 7) ≠ rv := Nat.ne_of_lt (Nat.lt_of_lt_of_le (own_E_TOO_MANY_KEYS W).lt zq1)
  have ne_ad8_rv : (ad 8) ≠ rv := Nat.ne_of_lt (Nat.lt_of_lt_of_le (own_E_TOO_MANY_GRANTS W).lt zq1)
  have ne_a__VALUES_rv : a__VALUES ≠ rv := Nat.ne_of_lt (Nat.lt_of_lt_of_le (own_V__VALUES W).lt zq1)
  have g_rv : n0 ≤ rv := Nat.le_trans (Nat.le_trans Z0 (Keep.refl h0 []).1) zq1
  have sz_rv : h0.size ≤ rv := Nat.le_trans (Keep.refl h0 []).1 zq1
  have Kp1 := Keep.trans (Keep.refl h0 []) Kq1 all0
  have ch2 : ∀ t, Steps p.tables e below (T1.setTop (mkF m 3 #[.val (.int (4 : Int32)), .unset, .unset, .unset, .unset] [(.ref rv)])) t → Steps p.tables e below (s₁.setTop (entryFrame m #[(.int (4 : Int32))] 5)) t := fun t k => pre0 t (by
      show Steps p.tables e below (s₁.setTop (mkF m 0 #[.val (.int (4 : Int32)), .unset, .unset, .unset, .unset] [])) t
      exact st1 t k)
  obtain ⟨cl3, Ar3, -, Sz3, Ng3, -, -⟩ := id fq1_0
  obtain ⟨cl4, Ar4, -, Sz4, Ng4, Ha4, -⟩ := id fq1_0
  have hin4 : ¬ ((0 : Int32) < 0 ∨ cl4.slots.size ≤ ((0 : Int32)).toNatClampNeg) := inb_of Sz4 (by decide)
  have hat4 : cl4.slots[((0 : Int32)).toNatClampNeg]? = some (.ref (ad 0)) := Ha4.at hin4 rfl
  have cf5 := ((own_F_OK_code W).keep Kp1 nin0)
  obtain ⟨T6, X6, e6, st6⟩ := getF X1 hx hZ hown (host := "") (Or.inl (hw _ (List.mem_of_getElem? (i := 29) rfl))) Via.refl eh1 cf5 (g := (mkF m 21 #[.val (.int (4 : Int32)), .val (.ref rv), .val (.int (9 : Int32)), .val (.int (0 : Int32)), .val (.ref (ad 0))] [(.ref (ad 0))])) rfl rfl (hb hby own_d_prog_38_method_5_code_21)
  have ch7 : ∀ t, Steps p.tables e below (T6.setTop (mkF m 24 #[.val (.int (4 : Int32)), .val (.ref rv), .val (.int (9 : Int32)), .val (.int (0 : Int32)), .val (.ref (ad 0))] [(.int (0 : Int32))])) t → Steps p.tables e below (s₁.setTop (entryFrame m #[(.int (4 : Int32))] 5)) t := fun t k => ch2 t (by
      show Steps p.tables e below (T1.setTop (mkF m 3 #[.val (.int (4 : Int32)), .unset, .unset, .unset, .unset] [(.ref rv)])) t
      refine XS.astoreN X1.here hx rfl (hb hby own_d_prog_38_method_5_code_3) rfl rfl (l' := #[.val (.int (4 : Int32)), .val (.ref rv), .unset, .unset, .unset]) rfl ?_
      show Steps p.tables e below (T1.setTop (mkF m 4 #[.val (.int (4 : Int32)), .val (.ref rv), .unset, .unset, .unset] [])) t
      refine XS.aloadN X1.here hx rfl (hb hby own_d_prog_38_method_5_code_4) rfl rfl ?_
      show Steps p.tables e below (T1.setTop (mkF m 5 #[.val (.int (4 : Int32)), .val (.ref rv), .unset, .unset, .unset] [(.ref rv)])) t
      refine X1.arraylength hx (by rw [eh1]; exact Ar3.1) (State.isArrayOf_alike hZ.alike Ar3.2.1) (g := (mkF m 5 #[.val (.int (4 : Int32)), .val (.ref rv), .unset, .unset, .unset] [(.ref rv)])) rfl rfl (hb hby own_d_prog_38_method_5_code_5) _ ?_
      rw [len_of Sz3 Ng3]
      show Steps p.tables e below (T1.setTop (mkF m 6 #[.val (.int (4 : Int32)), .val (.ref rv), .unset, .unset, .unset] [(.int (9 : Int32))])) t
      refine XS.istoreN X1.here hx rfl (hb hby own_d_prog_38_method_5_code_6) rfl (l' := #[.val (.int (4 : Int32)), .val (.ref rv), .val (.int (9 : Int32)), .unset, .unset]) rfl ?_
      show Steps p.tables e below (T1.setTop (mkF m 7 #[.val (.int (4 : Int32)), .val (.ref rv), .val (.int (9 : Int32)), .unset, .unset] [])) t
      refine XS.iconst X1.here hx rfl (hb hby own_d_prog_38_method_5_code_7) ?_
      show Steps p.tables e below (T1.setTop (mkF m 8 #[.val (.int (4 : Int32)), .val (.ref rv), .val (.int (9 : Int32)), .unset, .unset] [(.int (0 : Int32))])) t
      refine XS.istoreN X1.here hx rfl (hb hby own_d_prog_38_method_5_code_8) rfl (l' := #[.val (.int (4 : Int32)), .val (.ref rv), .val (.int (9 : Int32)), .val (.int (0 : Int32)), .unset]) rfl ?_
      show Steps p.tables e below (T1.setTop (mkF m 9 #[.val (.int (4 : Int32)), .val (.ref rv), .val (.int (9 : Int32)), .val (.int (0 : Int32)), .unset] [])) t
      refine XS.iloadN X1.here hx rfl (hb hby own_d_prog_38_method_5_code_9) rfl ?_
      show Steps p.tables e below (T1.setTop (mkF m 10 #[.val (.int (4 : Int32)), .val (.ref rv), .val (.int (9 : Int32)), .val (.int (0 : Int32)), .unset] [(.int (0 : Int32))])) t
      refine XS.iloadN X1.here hx rfl (hb hby own_d_prog_38_method_5_code_10) rfl ?_
      show Steps p.tables e below (T1.setTop (mkF m 11 #[.val (.int (4 : Int32)), .val (.ref rv), .val (.int (9 : Int32)), .val (.int (0 : Int32)), .unset] [(.int (9 : Int32)), (.int (0 : Int32))])) t
      refine XS.icmpNo X1.here hx rfl (hb hby own_d_prog_38_method_5_code_11) rfl (tlt (by decide : (0 : Int32) < (9 : Int32))).2.1 ?_
      show Steps p.tables e below (T1.setTop (mkF m 14 #[.val (.int (4 : Int32)), .val (.ref rv), .val (.int (9 : Int32)), .val (.int (0 : Int32)), .unset] [])) t
      refine XS.aloadN X1.here hx rfl (hb hby own_d_prog_38_method_5_code_14) rfl rfl ?_
      show Steps p.tables e below (T1.setTop (mkF m 15 #[.val (.int (4 : Int32)), .val (.ref rv), .val (.int (9 : Int32)), .val (.int (0 : Int32)), .unset] [(.ref rv)])) t
      refine XS.iloadN X1.here hx rfl (hb hby own_d_prog_38_method_5_code_15) rfl ?_
      show Steps p.tables e below (T1.setTop (mkF m 16 #[.val (.int (4 : Int32)), .val (.ref rv), .val (.int (9 : Int32)), .val (.int (0 : Int32)), .unset] [(.int (0 : Int32)), (.ref rv)])) t
      refine X1.aaload hx (j := (0 : Int32)) (v := (.ref (ad 0))) (by rw [eh1]; exact Ar4.1) (State.isArrayOf_alike hZ.alike Ar4.2.1) rfl Ar4.2.2 hin4 hat4 (g := (mkF m 16 #[.val (.int (4 : Int32)), .val (.ref rv), .val (.int (9 : Int32)), .val (.int (0 : Int32)), .unset] [(.int (0 : Int32)), (.ref rv)])) rfl rfl (hb hby own_d_prog_38_method_5_code_16) _ ?_
      show Steps p.tables e below (T1.setTop (mkF m 17 #[.val (.int (4 : Int32)), .val (.ref rv), .val (.int (9 : Int32)), .val (.int (0 : Int32)), .unset] [(.ref (ad 0))])) t
      refine XS.astore X1.here hx rfl (hb hby own_d_prog_38_method_5_code_17) rfl rfl (l' := #[.val (.int (4 : Int32)), .val (.ref rv), .val (.int (9 : Int32)), .val (.int (0 : Int32)), .val (.ref (ad 0))]) rfl ?_
      show Steps p.tables e below (T1.setTop (mkF m 19 #[.val (.int (4 : Int32)), .val (.ref rv), .val (.int (9 : Int32)), .val (.int (0 : Int32)), .val (.ref (ad 0))] [])) t
      refine XS.aload X1.here hx rfl (hb hby own_d_prog_38_method_5_code_19) rfl rfl ?_
      show Steps p.tables e below (T1.setTop (mkF m 21 #[.val (.int (4 : Int32)), .val (.ref rv), .val (.int (9 : Int32)), .val (.int (0 : Int32)), .val (.ref (ad 0))] [(.ref (ad 0))])) t
      exact st6 t k)
  obtain ⟨cl8, Ar8, -, Sz8, Ng8, Ha8, -⟩ := id fq1_0
  have hin8 : ¬ ((1 : Int32) < 0 ∨ cl8.slots.size ≤ ((1 : Int32)).toNatClampNeg) := inb_of Sz8 (by decide)
  have hat8 : cl8.slots[((1 : Int32)).toNatClampNeg]? = some (.ref (ad 1)) := Ha8.at hin8 rfl
  have cf9 := ((own_F_BAD_REQUEST_code W).keep Kp1 nin0)
  obtain ⟨T10, X10, e10, st10⟩ := getF X6 hx hZ hown (host := "") (Or.inl (hw _ (List.mem_of_getElem? (i := 29) rfl))) Via.refl e6 cf9 (g := (mkF m 21 #[.val (.int (4 : Int32)), .val (.ref rv), .val (.int (9 : Int32)), .val (.int (1 : Int32)), .val (.ref (ad 1))] [(.ref (ad 1))])) rfl rfl (hb hby own_d_prog_38_method_5_code_21)
  have ch11 : ∀ t, Steps p.tables e below (T10.setTop (mkF m 24 #[.val (.int (4 : Int32)), .val (.ref rv), .val (.int (9 : Int32)), .val (.int (1 : Int32)), .val (.ref (ad 1))] [(.int (1 : Int32))])) t → Steps p.tables e below (s₁.setTop (entryFrame m #[(.int (4 : Int32))] 5)) t := fun t k => ch7 t (by
      show Steps p.tables e below (T6.setTop (mkF m 24 #[.val (.int (4 : Int32)), .val (.ref rv), .val (.int (9 : Int32)), .val (.int (0 : Int32)), .val (.ref (ad 0))] [(.int (0 : Int32))])) t
      refine XS.iloadN X6.here hx rfl (hb hby own_d_prog_38_method_5_code_24) rfl ?_
      show Steps p.tables e below (T6.setTop (mkF m 25 #[.val (.int (4 : Int32)), .val (.ref rv), .val (.int (9 : Int32)), .val (.int (0 : Int32)), .val (.ref (ad 0))] [(.int (4 : Int32)), (.int (0 : Int32))])) t
      refine XS.icmpYes X6.here hx rfl (pc0 := 25) (pc' := 31) rfl (hb hby own_d_prog_38_method_5_code_25) rfl (feq (by decide : ¬ (0 : Int32) = (4 : Int32))).2 (by decide) (by decide) ?_
      show Steps p.tables e below (T6.setTop (mkF m 31 #[.val (.int (4 : Int32)), .val (.ref rv), .val (.int (9 : Int32)), .val (.int (0 : Int32)), .val (.ref (ad 0))] [])) t
      refine Jvm.Free.XT.iincV X6.here hx rfl (1 : Int32) (hb hby own_d_prog_38_method_5_code_31) (by decide) rfl (l' := #[.val (.int (4 : Int32)), .val (.ref rv), .val (.int (9 : Int32)), .val (.int (1 : Int32)), .val (.ref (ad 0))]) (by rw [show ((0 : Int32) + (1 : Int32)) = (1 : Int32) from by decide]; rfl) ?_
      show Steps p.tables e below (T6.setTop (mkF m 34 #[.val (.int (4 : Int32)), .val (.ref rv), .val (.int (9 : Int32)), .val (.int (1 : Int32)), .val (.ref (ad 0))] [])) t
      refine XS.goto X6.here hx rfl (pc0 := 34) (pc' := 9) rfl (hb hby own_d_prog_38_method_5_code_34) (by decide) (by decide) ?_
      show Steps p.tables e below (T6.setTop (mkF m 9 #[.val (.int (4 : Int32)), .val (.ref rv), .val (.int (9 : Int32)), .val (.int (1 : Int32)), .val (.ref (ad 0))] [])) t
      refine XS.iloadN X6.here hx rfl (hb hby own_d_prog_38_method_5_code_9) rfl ?_
      show Steps p.tables e below (T6.setTop (mkF m 10 #[.val (.int (4 : Int32)), .val (.ref rv), .val (.int (9 : Int32)), .val (.int (1 : Int32)), .val (.ref (ad 0))] [(.int (1 : Int32))])) t
      refine XS.iloadN X6.here hx rfl (hb hby own_d_prog_38_method_5_code_10) rfl ?_
      show Steps p.tables e below (T6.setTop (mkF m 11 #[.val (.int (4 : Int32)), .val (.ref rv), .val (.int (9 : Int32)), .val (.int (1 : Int32)), .val (.ref (ad 0))] [(.int (9 : Int32)), (.int (1 : Int32))])) t
      refine XS.icmpNo X6.here hx rfl (hb hby own_d_prog_38_method_5_code_11) rfl (tlt (by decide : (1 : Int32) < (9 : Int32))).2.1 ?_
      show Steps p.tables e below (T6.setTop (mkF m 14 #[.val (.int (4 : Int32)), .val (.ref rv), .val (.int (9 : Int32)), .val (.int (1 : Int32)), .val (.ref (ad 0))] [])) t
      refine XS.aloadN X6.here hx rfl (hb hby own_d_prog_38_method_5_code_14) rfl rfl ?_
      show Steps p.tables e below (T6.setTop (mkF m 15 #[.val (.int (4 : Int32)), .val (.ref rv), .val (.int (9 : Int32)), .val (.int (1 : Int32)), .val (.ref (ad 0))] [(.ref rv)])) t
      refine XS.iloadN X6.here hx rfl (hb hby own_d_prog_38_method_5_code_15) rfl ?_
      show Steps p.tables e below (T6.setTop (mkF m 16 #[.val (.int (4 : Int32)), .val (.ref rv), .val (.int (9 : Int32)), .val (.int (1 : Int32)), .val (.ref (ad 0))] [(.int (1 : Int32)), (.ref rv)])) t
      refine X6.aaload hx (j := (1 : Int32)) (v := (.ref (ad 1))) (by rw [e6]; exact Ar8.1) (State.isArrayOf_alike hZ.alike Ar8.2.1) rfl Ar8.2.2 hin8 hat8 (g := (mkF m 16 #[.val (.int (4 : Int32)), .val (.ref rv), .val (.int (9 : Int32)), .val (.int (1 : Int32)), .val (.ref (ad 0))] [(.int (1 : Int32)), (.ref rv)])) rfl rfl (hb hby own_d_prog_38_method_5_code_16) _ ?_
      show Steps p.tables e below (T6.setTop (mkF m 17 #[.val (.int (4 : Int32)), .val (.ref rv), .val (.int (9 : Int32)), .val (.int (1 : Int32)), .val (.ref (ad 0))] [(.ref (ad 1))])) t
      refine XS.astore X6.here hx rfl (hb hby own_d_prog_38_method_5_code_17) rfl rfl (l' := #[.val (.int (4 : Int32)), .val (.ref rv), .val (.int (9 : Int32)), .val (.int (1 : Int32)), .val (.ref (ad 1))]) rfl ?_
      show Steps p.tables e below (T6.setTop (mkF m 19 #[.val (.int (4 : Int32)), .val (.ref rv), .val (.int (9 : Int32)), .val (.int (1 : Int32)), .val (.ref (ad 1))] [])) t
      refine XS.aload X6.here hx rfl (hb hby own_d_prog_38_method_5_code_19) rfl rfl ?_
      show Steps p.tables e below (T6.setTop (mkF m 21 #[.val (.int (4 : Int32)), .val (.ref rv), .val (.int (9 : Int32)), .val (.int (1 : Int32)), .val (.ref (ad 1))] [(.ref (ad 1))])) t
      exact st10 t k)
  obtain ⟨cl12, Ar12, -, Sz12, Ng12, Ha12, -⟩ := id fq1_0
  have hin12 : ¬ ((2 : Int32) < 0 ∨ cl12.slots.size ≤ ((2 : Int32)).toNatClampNeg) := inb_of Sz12 (by decide)
  have hat12 : cl12.slots[((2 : Int32)).toNatClampNeg]? = some (.ref (ad 2)) := Ha12.at hin12 rfl
  have cf13 := ((own_F_NOT_FOUND_code W).keep Kp1 nin0)
  obtain ⟨T14, X14, e14, st14⟩ := getF X10 hx hZ hown (host := "") (Or.inl (hw _ (List.mem_of_getElem? (i := 29) rfl))) Via.refl e10 cf13 (g := (mkF m 21 #[.val (.int (4 : Int32)), .val (.ref rv), .val (.int (9 : Int32)), .val (.int (2 : Int32)), .val (.ref (ad 2))] [(.ref (ad 2))])) rfl rfl (hb hby own_d_prog_38_method_5_code_21)
  have ch15 : ∀ t, Steps p.tables e below (T14.setTop (mkF m 24 #[.val (.int (4 : Int32)), .val (.ref rv), .val (.int (9 : Int32)), .val (.int (2 : Int32)), .val (.ref (ad 2))] [(.int (2 : Int32))])) t → Steps p.tables e below (s₁.setTop (entryFrame m #[(.int (4 : Int32))] 5)) t := fun t k => ch11 t (by
      show Steps p.tables e below (T10.setTop (mkF m 24 #[.val (.int (4 : Int32)), .val (.ref rv), .val (.int (9 : Int32)), .val (.int (1 : Int32)), .val (.ref (ad 1))] [(.int (1 : Int32))])) t
      refine XS.iloadN X10.here hx rfl (hb hby own_d_prog_38_method_5_code_24) rfl ?_
      show Steps p.tables e below (T10.setTop (mkF m 25 #[.val (.int (4 : Int32)), .val (.ref rv), .val (.int (9 : Int32)), .val (.int (1 : Int32)), .val (.ref (ad 1))] [(.int (4 : Int32)), (.int (1 : Int32))])) t
      refine XS.icmpYes X10.here hx rfl (pc0 := 25) (pc' := 31) rfl (hb hby own_d_prog_38_method_5_code_25) rfl (feq (by decide : ¬ (1 : Int32) = (4 : Int32))).2 (by decide) (by decide) ?_
      show Steps p.tables e below (T10.setTop (mkF m 31 #[.val (.int (4 : Int32)), .val (.ref rv), .val (.int (9 : Int32)), .val (.int (1 : Int32)), .val (.ref (ad 1))] [])) t
      refine Jvm.Free.XT.iincV X10.here hx rfl (1 : Int32) (hb hby own_d_prog_38_method_5_code_31) (by decide) rfl (l' := #[.val (.int (4 : Int32)), .val (.ref rv), .val (.int (9 : Int32)), .val (.int (2 : Int32)), .val (.ref (ad 1))]) (by rw [show ((1 : Int32) + (1 : Int32)) = (2 : Int32) from by decide]; rfl) ?_
      show Steps p.tables e below (T10.setTop (mkF m 34 #[.val (.int (4 : Int32)), .val (.ref rv), .val (.int (9 : Int32)), .val (.int (2 : Int32)), .val (.ref (ad 1))] [])) t
      refine XS.goto X10.here hx rfl (pc0 := 34) (pc' := 9) rfl (hb hby own_d_prog_38_method_5_code_34) (by decide) (by decide) ?_
      show Steps p.tables e below (T10.setTop (mkF m 9 #[.val (.int (4 : Int32)), .val (.ref rv), .val (.int (9 : Int32)), .val (.int (2 : Int32)), .val (.ref (ad 1))] [])) t
      refine XS.iloadN X10.here hx rfl (hb hby own_d_prog_38_method_5_code_9) rfl ?_
      show Steps p.tables e below (T10.setTop (mkF m 10 #[.val (.int (4 : Int32)), .val (.ref rv), .val (.int (9 : Int32)), .val (.int (2 : Int32)), .val (.ref (ad 1))] [(.int (2 : Int32))])) t
      refine XS.iloadN X10.here hx rfl (hb hby own_d_prog_38_method_5_code_10) rfl ?_
      show Steps p.tables e below (T10.setTop (mkF m 11 #[.val (.int (4 : Int32)), .val (.ref rv), .val (.int (9 : Int32)), .val (.int (2 : Int32)), .val (.ref (ad 1))] [(.int (9 : Int32)), (.int (2 : Int32))])) t
      refine XS.icmpNo X10.here hx rfl (hb hby own_d_prog_38_method_5_code_11) rfl (tlt (by decide : (2 : Int32) < (9 : Int32))).2.1 ?_
      show Steps p.tables e below (T10.setTop (mkF m 14 #[.val (.int (4 : Int32)), .val (.ref rv), .val (.int (9 : Int32)), .val (.int (2 : Int32)), .val (.ref (ad 1))] [])) t
      refine XS.aloadN X10.here hx rfl (hb hby own_d_prog_38_method_5_code_14) rfl rfl ?_
      show Steps p.tables e below (T10.setTop (mkF m 15 #[.val (.int (4 : Int32)), .val (.ref rv), .val (.int (9 : Int32)), .val (.int (2 : Int32)), .val (.ref (ad 1))] [(.ref rv)])) t
      refine XS.iloadN X10.here hx rfl (hb hby own_d_prog_38_method_5_code_15) rfl ?_
      show Steps p.tables e below (T10.setTop (mkF m 16 #[.val (.int (4 : Int32)), .val (.ref rv), .val (.int (9 : Int32)), .val (.int (2 : Int32)), .val (.ref (ad 1))] [(.int (2 : Int32)), (.ref rv)])) t
      refine X10.aaload hx (j := (2 : Int32)) (v := (.ref (ad 2))) (by rw [e10]; exact Ar12.1) (State.isArrayOf_alike hZ.alike Ar12.2.1) rfl Ar12.2.2 hin12 hat12 (g := (mkF m 16 #[.val (.int (4 : Int32)), .val (.ref rv), .val (.int (9 : Int32)), .val (.int (2 : Int32)), .val (.ref (ad 1))] [(.int (2 : Int32)), (.ref rv)])) rfl rfl (hb hby own_d_prog_38_method_5_code_16) _ ?_
      show Steps p.tables e below (T10.setTop (mkF m 17 #[.val (.int (4 : Int32)), .val (.ref rv), .val (.int (9 : Int32)), .val (.int (2 : Int32)), .val (.ref (ad 1))] [(.ref (ad 2))])) t
      refine XS.astore X10.here hx rfl (hb hby own_d_prog_38_method_5_code_17) rfl rfl (l' := #[.val (.int (4 : Int32)), .val (.ref rv), .val (.int (9 : Int32)), .val (.int (2 : Int32)), .val (.ref (ad 2))]) rfl ?_
      show Steps p.tables e below (T10.setTop (mkF m 19 #[.val (.int (4 : Int32)), .val (.ref rv), .val (.int (9 : Int32)), .val (.int (2 : Int32)), .val (.ref (ad 2))] [])) t
      refine XS.aload X10.here hx rfl (hb hby own_d_prog_38_method_5_code_19) rfl rfl ?_
      show Steps p.tables e below (T10.setTop (mkF m 21 #[.val (.int (4 : Int32)), .val (.ref rv), .val (.int (9 : Int32)), .val (.int (2 : Int32)), .val (.ref (ad 2))] [(.ref (ad 2))])) t
      exact st14 t k)
  obtain ⟨cl16, Ar16, -, Sz16, Ng16, Ha16, -⟩ := id fq1_0
  have hin16 : ¬ ((3 : Int32) < 0 ∨ cl16.slots.size ≤ ((3 : Int32)).toNatClampNeg) := inb_of Sz16 (by decide)
  have hat16 : cl16.slots[((3 : Int32)).toNatClampNeg]? = some (.ref (ad 3)) := Ha16.at hin16 rfl
  have cf17 := ((own_F_FAILED_code W).keep Kp1 nin0)
  obtain ⟨T18, X18, e18, st18⟩ := getF X14 hx hZ hown (host := "") (Or.inl (hw _ (List.mem_of_getElem? (i := 29) rfl))) Via.refl e14 cf17 (g := (mkF m 21 #[.val (.int (4 : Int32)), .val (.ref rv), .val (.int (9 : Int32)), .val (.int (3 : Int32)), .val (.ref (ad 3))] [(.ref (ad 3))])) rfl rfl (hb hby own_d_prog_38_method_5_code_21)
  have ch19 : ∀ t, Steps p.tables e below (T18.setTop (mkF m 24 #[.val (.int (4 : Int32)), .val (.ref rv), .val (.int (9 : Int32)), .val (.int (3 : Int32)), .val (.ref (ad 3))] [(.int (3 : Int32))])) t → Steps p.tables e below (s₁.setTop (entryFrame m #[(.int (4 : Int32))] 5)) t := fun t k => ch15 t (by
      show Steps p.tables e below (T14.setTop (mkF m 24 #[.val (.int (4 : Int32)), .val (.ref rv), .val (.int (9 : Int32)), .val (.int (2 : Int32)), .val (.ref (ad 2))] [(.int (2 : Int32))])) t
      refine XS.iloadN X14.here hx rfl (hb hby own_d_prog_38_method_5_code_24) rfl ?_
      show Steps p.tables e below (T14.setTop (mkF m 25 #[.val (.int (4 : Int32)), .val (.ref rv), .val (.int (9 : Int32)), .val (.int (2 : Int32)), .val (.ref (ad 2))] [(.int (4 : Int32)), (.int (2 : Int32))])) t
      refine XS.icmpYes X14.here hx rfl (pc0 := 25) (pc' := 31) rfl (hb hby own_d_prog_38_method_5_code_25) rfl (feq (by decide : ¬ (2 : Int32) = (4 : Int32))).2 (by decide) (by decide) ?_
      show Steps p.tables e below (T14.setTop (mkF m 31 #[.val (.int (4 : Int32)), .val (.ref rv), .val (.int (9 : Int32)), .val (.int (2 : Int32)), .val (.ref (ad 2))] [])) t
      refine Jvm.Free.XT.iincV X14.here hx rfl (1 : Int32) (hb hby own_d_prog_38_method_5_code_31) (by decide) rfl (l' := #[.val (.int (4 : Int32)), .val (.ref rv), .val (.int (9 : Int32)), .val (.int (3 : Int32)), .val (.ref (ad 2))]) (by rw [show ((2 : Int32) + (1 : Int32)) = (3 : Int32) from by decide]; rfl) ?_
      show Steps p.tables e below (T14.setTop (mkF m 34 #[.val (.int (4 : Int32)), .val (.ref rv), .val (.int (9 : Int32)), .val (.int (3 : Int32)), .val (.ref (ad 2))] [])) t
      refine XS.goto X14.here hx rfl (pc0 := 34) (pc' := 9) rfl (hb hby own_d_prog_38_method_5_code_34) (by decide) (by decide) ?_
      show Steps p.tables e below (T14.setTop (mkF m 9 #[.val (.int (4 : Int32)), .val (.ref rv), .val (.int (9 : Int32)), .val (.int (3 : Int32)), .val (.ref (ad 2))] [])) t
      refine XS.iloadN X14.here hx rfl (hb hby own_d_prog_38_method_5_code_9) rfl ?_
      show Steps p.tables e below (T14.setTop (mkF m 10 #[.val (.int (4 : Int32)), .val (.ref rv), .val (.int (9 : Int32)), .val (.int (3 : Int32)), .val (.ref (ad 2))] [(.int (3 : Int32))])) t
      refine XS.iloadN X14.here hx rfl (hb hby own_d_prog_38_method_5_code_10) rfl ?_
      show Steps p.tables e below (T14.setTop (mkF m 11 #[.val (.int (4 : Int32)), .val (.ref rv), .val (.int (9 : Int32)), .val (.int (3 : Int32)), .val (.ref (ad 2))] [(.int (9 : Int32)), (.int (3 : Int32))])) t
      refine XS.icmpNo X14.here hx rfl (hb hby own_d_prog_38_method_5_code_11) rfl (tlt (by decide : (3 : Int32) < (9 : Int32))).2.1 ?_
      show Steps p.tables e below (T14.setTop (mkF m 14 #[.val (.int (4 : Int32)), .val (.ref rv), .val (.int (9 : Int32)), .val (.int (3 : Int32)), .val (.ref (ad 2))] [])) t
      refine XS.aloadN X14.here hx rfl (hb hby own_d_prog_38_method_5_code_14) rfl rfl ?_
      show Steps p.tables e below (T14.setTop (mkF m 15 #[.val (.int (4 : Int32)), .val (.ref rv), .val (.int (9 : Int32)), .val (.int (3 : Int32)), .val (.ref (ad 2))] [(.ref rv)])) t
      refine XS.iloadN X14.here hx rfl (hb hby own_d_prog_38_method_5_code_15) rfl ?_
      show Steps p.tables e below (T14.setTop (mkF m 16 #[.val (.int (4 : Int32)), .val (.ref rv), .val (.int (9 : Int32)), .val (.int (3 : Int32)), .val (.ref (ad 2))] [(.int (3 : Int32)), (.ref rv)])) t
      refine X14.aaload hx (j := (3 : Int32)) (v := (.ref (ad 3))) (by rw [e14]; exact Ar16.1) (State.isArrayOf_alike hZ.alike Ar16.2.1) rfl Ar16.2.2 hin16 hat16 (g := (mkF m 16 #[.val (.int (4 : Int32)), .val (.ref rv), .val (.int (9 : Int32)), .val (.int (3 : Int32)), .val (.ref (ad 2))] [(.int (3 : Int32)), (.ref rv)])) rfl rfl (hb hby own_d_prog_38_method_5_code_16) _ ?_
      show Steps p.tables e below (T14.setTop (mkF m 17 #[.val (.int (4 : Int32)), .val (.ref rv), .val (.int (9 : Int32)), .val (.int (3 : Int32)), .val (.ref (ad 2))] [(.ref (ad 3))])) t
      refine XS.astore X14.here hx rfl (hb hby own_d_prog_38_method_5_code_17) rfl rfl (l' := #[.val (.int (4 : Int32)), .val (.ref rv), .val (.int (9 : Int32)), .val (.int (3 : Int32)), .val (.ref (ad 3))]) rfl ?_
      show Steps p.tables e below (T14.setTop (mkF m 19 #[.val (.int (4 : Int32)), .val (.ref rv), .val (.int (9 : Int32)), .val (.int (3 : Int32)), .val (.ref (ad 3))] [])) t
      refine XS.aload X14.here hx rfl (hb hby own_d_prog_38_method_5_code_19) rfl rfl ?_
      show Steps p.tables e below (T14.setTop (mkF m 21 #[.val (.int (4 : Int32)), .val (.ref rv), .val (.int (9 : Int32)), .val (.int (3 : Int32)), .val (.ref (ad 3))] [(.ref (ad 3))])) t
      exact st18 t k)
  obtain ⟨cl20, Ar20, -, Sz20, Ng20, Ha20, -⟩ := id fq1_0
  have hin20 : ¬ ((4 : Int32) < 0 ∨ cl20.slots.size ≤ ((4 : Int32)).toNatClampNeg) := inb_of Sz20 (by decide)
  have hat20 : cl20.slots[((4 : Int32)).toNatClampNeg]? = some (.ref (ad 4)) := Ha20.at hin20 rfl
  have cf21 := ((own_F_UNSUPPORTED_KEY_code W).keep Kp1 nin0)
  obtain ⟨T22, X22, e22, st22⟩ := getF X18 hx hZ hown (host := "") (Or.inl (hw _ (List.mem_of_getElem? (i := 29) rfl))) Via.refl e18 cf21 (g := (mkF m 21 #[.val (.int (4 : Int32)), .val (.ref rv), .val (.int (9 : Int32)), .val (.int (4 : Int32)), .val (.ref (ad 4))] [(.ref (ad 4))])) rfl rfl (hb hby own_d_prog_38_method_5_code_21)
  have ch23 : ∀ t, Steps p.tables e below (T22.setTop (mkF m 24 #[.val (.int (4 : Int32)), .val (.ref rv), .val (.int (9 : Int32)), .val (.int (4 : Int32)), .val (.ref (ad 4))] [(.int (4 : Int32))])) t → Steps p.tables e below (s₁.setTop (entryFrame m #[(.int (4 : Int32))] 5)) t := fun t k => ch19 t (by
      show Steps p.tables e below (T18.setTop (mkF m 24 #[.val (.int (4 : Int32)), .val (.ref rv), .val (.int (9 : Int32)), .val (.int (3 : Int32)), .val (.ref (ad 3))] [(.int (3 : Int32))])) t
      refine XS.iloadN X18.here hx rfl (hb hby own_d_prog_38_method_5_code_24) rfl ?_
      show Steps p.tables e below (T18.setTop (mkF m 25 #[.val (.int (4 : Int32)), .val (.ref rv), .val (.int (9 : Int32)), .val (.int (3 : Int32)), .val (.ref (ad 3))] [(.int (4 : Int32)), (.int (3 : Int32))])) t
      refine XS.icmpYes X18.here hx rfl (pc0 := 25) (pc' := 31) rfl (hb hby own_d_prog_38_method_5_code_25) rfl (feq (by decide : ¬ (3 : Int32) = (4 : Int32))).2 (by decide) (by decide) ?_
      show Steps p.tables e below (T18.setTop (mkF m 31 #[.val (.int (4 : Int32)), .val (.ref rv), .val (.int (9 : Int32)), .val (.int (3 : Int32)), .val (.ref (ad 3))] [])) t
      refine Jvm.Free.XT.iincV X18.here hx rfl (1 : Int32) (hb hby own_d_prog_38_method_5_code_31) (by decide) rfl (l' := #[.val (.int (4 : Int32)), .val (.ref rv), .val (.int (9 : Int32)), .val (.int (4 : Int32)), .val (.ref (ad 3))]) (by rw [show ((3 : Int32) + (1 : Int32)) = (4 : Int32) from by decide]; rfl) ?_
      show Steps p.tables e below (T18.setTop (mkF m 34 #[.val (.int (4 : Int32)), .val (.ref rv), .val (.int (9 : Int32)), .val (.int (4 : Int32)), .val (.ref (ad 3))] [])) t
      refine XS.goto X18.here hx rfl (pc0 := 34) (pc' := 9) rfl (hb hby own_d_prog_38_method_5_code_34) (by decide) (by decide) ?_
      show Steps p.tables e below (T18.setTop (mkF m 9 #[.val (.int (4 : Int32)), .val (.ref rv), .val (.int (9 : Int32)), .val (.int (4 : Int32)), .val (.ref (ad 3))] [])) t
      refine XS.iloadN X18.here hx rfl (hb hby own_d_prog_38_method_5_code_9) rfl ?_
      show Steps p.tables e below (T18.setTop (mkF m 10 #[.val (.int (4 : Int32)), .val (.ref rv), .val (.int (9 : Int32)), .val (.int (4 : Int32)), .val (.ref (ad 3))] [(.int (4 : Int32))])) t
      refine XS.iloadN X18.here hx rfl (hb hby own_d_prog_38_method_5_code_10) rfl ?_
      show Steps p.tables e below (T18.setTop (mkF m 11 #[.val (.int (4 : Int32)), .val (.ref rv), .val (.int (9 : Int32)), .val (.int (4 : Int32)), .val (.ref (ad 3))] [(.int (9 : Int32)), (.int (4 : Int32))])) t
      refine XS.icmpNo X18.here hx rfl (hb hby own_d_prog_38_method_5_code_11) rfl (tlt (by decide : (4 : Int32) < (9 : Int32))).2.1 ?_
      show Steps p.tables e below (T18.setTop (mkF m 14 #[.val (.int (4 : Int32)), .val (.ref rv), .val (.int (9 : Int32)), .val (.int (4 : Int32)), .val (.ref (ad 3))] [])) t
      refine XS.aloadN X18.here hx rfl (hb hby own_d_prog_38_method_5_code_14) rfl rfl ?_
      show Steps p.tables e below (T18.setTop (mkF m 15 #[.val (.int (4 : Int32)), .val (.ref rv), .val (.int (9 : Int32)), .val (.int (4 : Int32)), .val (.ref (ad 3))] [(.ref rv)])) t
      refine XS.iloadN X18.here hx rfl (hb hby own_d_prog_38_method_5_code_15) rfl ?_
      show Steps p.tables e below (T18.setTop (mkF m 16 #[.val (.int (4 : Int32)), .val (.ref rv), .val (.int (9 : Int32)), .val (.int (4 : Int32)), .val (.ref (ad 3))] [(.int (4 : Int32)), (.ref rv)])) t
      refine X18.aaload hx (j := (4 : Int32)) (v := (.ref (ad 4))) (by rw [e18]; exact Ar20.1) (State.isArrayOf_alike hZ.alike Ar20.2.1) rfl Ar20.2.2 hin20 hat20 (g := (mkF m 16 #[.val (.int (4 : Int32)), .val (.ref rv), .val (.int (9 : Int32)), .val (.int (4 : Int32)), .val (.ref (ad 3))] [(.int (4 : Int32)), (.ref rv)])) rfl rfl (hb hby own_d_prog_38_method_5_code_16) _ ?_
      show Steps p.tables e below (T18.setTop (mkF m 17 #[.val (.int (4 : Int32)), .val (.ref rv), .val (.int (9 : Int32)), .val (.int (4 : Int32)), .val (.ref (ad 3))] [(.ref (ad 4))])) t
      refine XS.astore X18.here hx rfl (hb hby own_d_prog_38_method_5_code_17) rfl rfl (l' := #[.val (.int (4 : Int32)), .val (.ref rv), .val (.int (9 : Int32)), .val (.int (4 : Int32)), .val (.ref (ad 4))]) rfl ?_
      show Steps p.tables e below (T18.setTop (mkF m 19 #[.val (.int (4 : Int32)), .val (.ref rv), .val (.int (9 : Int32)), .val (.int (4 : Int32)), .val (.ref (ad 4))] [])) t
      refine XS.aload X18.here hx rfl (hb hby own_d_prog_38_method_5_code_19) rfl rfl ?_
      show Steps p.tables e below (T18.setTop (mkF m 21 #[.val (.int (4 : Int32)), .val (.ref rv), .val (.int (9 : Int32)), .val (.int (4 : Int32)), .val (.ref (ad 4))] [(.ref (ad 4))])) t
      exact st22 t k)
  have ch24 : ∀ t, Steps p.tables e below (T22.setTop (mkF m 30 #[.val (.int (4 : Int32)), .val (.ref rv), .val (.int (9 : Int32)), .val (.int (4 : Int32)), .val (.ref (ad 4))] [(.ref (ad 4))])) t → Steps p.tables e below (s₁.setTop (entryFrame m #[(.int (4 : Int32))] 5)) t := fun t k => ch23 t (by
      show Steps p.tables e below (T22.setTop (mkF m 24 #[.val (.int (4 : Int32)), .val (.ref rv), .val (.int (9 : Int32)), .val (.int (4 : Int32)), .val (.ref (ad 4))] [(.int (4 : Int32))])) t
      refine XS.iloadN X22.here hx rfl (hb hby own_d_prog_38_method_5_code_24) rfl ?_
      show Steps p.tables e below (T22.setTop (mkF m 25 #[.val (.int (4 : Int32)), .val (.ref rv), .val (.int (9 : Int32)), .val (.int (4 : Int32)), .val (.ref (ad 4))] [(.int (4 : Int32)), (.int (4 : Int32))])) t
      refine XS.icmpNo X22.here hx rfl (hb hby own_d_prog_38_method_5_code_25) rfl (teq (by decide : (4 : Int32) = (4 : Int32))).2 ?_
      show Steps p.tables e below (T22.setTop (mkF m 28 #[.val (.int (4 : Int32)), .val (.ref rv), .val (.int (9 : Int32)), .val (.int (4 : Int32)), .val (.ref (ad 4))] [])) t
      refine XS.aload X22.here hx rfl (hb hby own_d_prog_38_method_5_code_28) rfl rfl ?_
      exact k)
  obtain ⟨fs, hr, hrun, hended, hW, hsame⟩ := X22.leave (v := some (.ref (ad 4))) (fun h => by rw [Bd.returns] at h; cases h)
  refine ⟨_, _, ch24 _ ?_, hrun, hended, _, _, rfl, ?_, ⟨_, rfl⟩, hW, hsame.mono (by decide) (by decide)⟩
  · show Steps p.tables e below (T22.setTop (mkF m 30 #[.val (.int (4 : Int32)), .val (.ref rv), .val (.int (9 : Int32)), .val (.int (4 : Int32)), .val (.ref (ad 4))] [(.ref (ad 4))])) _
    jvm_step X22.here [X22.here.top, hx, (hb hby own_d_prog_38_method_5_code_30), X22.method', Bd.returns, Value.isRef, FieldType.isReference]
    first | (intro acts; rw [hr _ acts rfl rfl rfl]) | rw [hr _ _ rfl rfl rfl]
    exact Steps.refl _
  · show QK (some (.ref (ad 4))) h0 n0 _ T22.heap _
    rw [e22]
    exact ⟨rfl, N1, Kp1⟩
theorem own_ef_own_expd_4 (m : MethodId) {x0 : Int32} : entryFrame m #[(.int x0)] 1 = mkF m 0 #[.val (.int x0)] [] := by first | (simp [entryFrame, mkF, argsToLocals, Value.category, maxLocals]; done) | rfl
set_option maxRecDepth 65536 in
set_option maxHeartbeats 40000000 in
theorem own_expd_4 (l : Launch) (Z : State) (a0 : Array Value) (hw : ∀ d ∈ tables_1, d.before a0 Z = true) (ws : List Jvm.Cond) (h0 : Heap) (n0 : Nat) (Z0 : n0 ≤ h0.size) (ad : Nat → Addr) (a__VALUES : Addr) (k__VALUES : ClassId) (W : OwnWd Z h0 ad a__VALUES k__VALUES) :
    MetFree l (⟨"com/example/limpet/limpet/io/StatusFromCodePinLaw", "expected", "(I)Lcom/example/limpet/limpet/io/Status;"⟩ : MethodName) (head1 (Jvm.Cond.code (⟨"com/example/limpet/limpet/io/StatusFromCodePinLaw", "expected", "(I)Lcom/example/limpet/limpet/io/Status;"⟩ : MethodName) method_2_code 1 (some (.object "com/example/limpet/limpet/io/Status")) :: ws) ({ frames := 0, cells := 0, slots := 0, locals := 0 } : Room)) (fun a U => a = #[(.int (4 : Int32))] ∧ Z.Warmed39 U.vm ∧ U.heap = h0) (fun _ _ _ _ _ => True) (fun _ U o U' => ∃ v L, o = .returned v ∧ QV (some (.ref (ad 4))) h0 n0 v U'.heap L ∧ FrameEnd U o U' L ({ frames := 0, cells := 0, slots := 0, locals := 0 } : Room).cells ({ frames := 0, cells := 0, slots := 0, locals := 0 } : Room).slots) := by
  refine MetFree.of_bodySF (plainFor_of_name own_pn_com_example_limpet_limpet_io_StatusFromCodePinLaw) hisR ?_
  intro p e s m args below meth c s₁ Bd hml0 hP hK
  obtain ⟨rfl, hZ, hh⟩ := hP
  have hx := Bd.exec
  have hby := Bd.bytes
  have hml : c.maxLocals = 1 := hml0
  have hown : s.vm.findClass "com/example/limpet/limpet/io/StatusFromCodePinLaw" = some m.cls := findClass_of_methodNamed Bd.named
  have hnm := (name_of_methodNamed Bd.named Bd.method).1
  have X0 : Stand p l e ({ frames := 0, cells := 0, slots := 0, locals := 0 } : Room) s m #[(.int (4 : Int32))] below meth c s₁ [] 0 0 := Stand.of_body Bd
  have e0 : s₁.heap = h0 := by rw [← hh, Bd.state]; rfl
  have N0 := Fr.nil n0
  have pre0 : ∀ t, Steps p.tables e below (s₁.setTop (mkF m 0 #[.val (.int (4 : Int32))] [])) t → Steps p.tables e below (s₁.setTop (entryFrame m #[(.int (4 : Int32))] 1)) t := fun t k => castTop (own_ef_own_expd_4 m) k
  obtain ⟨T1, X1, e1, st1⟩ := getS2 X0 hx hZ hown (host := "") (Or.inl (hw _ (List.mem_of_getElem? (i := 45) rfl))) Via.refl e0 (own_S_UNSUPPORTED_KEY W) (g := (mkF m 40 #[.val (.int (4 : Int32))] [])) rfl (hb hby own_d_method_2_code_40)
  have ch2 : ∀ t, Steps p.tables e below (T1.setTop (mkF m 43 #[.val (.int (4 : Int32))] [(.ref (ad 4))])) t → Steps p.tables e below (s₁.setTop (entryFrame m #[(.int (4 : Int32))] 1)) t := fun t k => pre0 t (by
      show Steps p.tables e below (s₁.setTop (mkF m 0 #[.val (.int (4 : Int32))] [])) t
      refine XS.iloadN X0.here hx rfl (hb hby own_d_method_2_code_0) rfl ?_
      show Steps p.tables e below (s₁.setTop (mkF m 1 #[.val (.int (4 : Int32))] [(.int (4 : Int32))])) t
      refine XS.ifYes X0.here hx rfl (pc0 := 1) (pc' := 8) rfl (hb hby own_d_method_2_code_1) rfl ((if0 _ _).trans (feq (by decide : ¬ (4 : Int32) = (0 : Int32))).2) (by decide) (by decide) ?_
      show Steps p.tables e below (s₁.setTop (mkF m 8 #[.val (.int (4 : Int32))] [])) t
      refine XS.iloadN X0.here hx rfl (hb hby own_d_method_2_code_8) rfl ?_
      show Steps p.tables e below (s₁.setTop (mkF m 9 #[.val (.int (4 : Int32))] [(.int (4 : Int32))])) t
      refine XS.iconst X0.here hx rfl (hb hby own_d_method_2_code_9) ?_
      show Steps p.tables e below (s₁.setTop (mkF m 10 #[.val (.int (4 : Int32))] [(.int (1 : Int32)), (.int (4 : Int32))])) t
      refine XS.icmpYes X0.here hx rfl (pc0 := 10) (pc' := 17) rfl (hb hby own_d_method_2_code_10) rfl (feq (by decide : ¬ (4 : Int32) = (1 : Int32))).2 (by decide) (by decide) ?_
      show Steps p.tables e below (s₁.setTop (mkF m 17 #[.val (.int (4 : Int32))] [])) t
      refine XS.iloadN X0.here hx rfl (hb hby own_d_method_2_code_17) rfl ?_
      show Steps p.tables e below (s₁.setTop (mkF m 18 #[.val (.int (4 : Int32))] [(.int (4 : Int32))])) t
      refine XS.iconst X0.here hx rfl (hb hby own_d_method_2_code_18) ?_
      show Steps p.tables e below (s₁.setTop (mkF m 19 #[.val (.int (4 : Int32))] [(.int (2 : Int32)), (.int (4 : Int32))])) t
      refine XS.icmpYes X0.here hx rfl (pc0 := 19) (pc' := 26) rfl (hb hby own_d_method_2_code_19) rfl (feq (by decide : ¬ (4 : Int32) = (2 : Int32))).2 (by decide) (by decide) ?_
      show Steps p.tables e below (s₁.setTop (mkF m 26 #[.val (.int (4 : Int32))] [])) t
      refine XS.iloadN X0.here hx rfl (hb hby own_d_method_2_code_26) rfl ?_
      show Steps p.tables e below (s₁.setTop (mkF m 27 #[.val (.int (4 : Int32))] [(.int (4 : Int32))])) t
      refine XS.iconst X0.here hx rfl (hb hby own_d_method_2_code_27) ?_
      show Steps p.tables e below (s₁.setTop (mkF m 28 #[.val (.int (4 : Int32))] [(.int (3 : Int32)), (.int (4 : Int32))])) t
      refine XS.icmpYes X0.here hx rfl (pc0 := 28) (pc' := 35) rfl (hb hby own_d_method_2_code_28) rfl (feq (by decide : ¬ (4 : Int32) = (3 : Int32))).2 (by decide) (by decide) ?_
      show Steps p.tables e below (s₁.setTop (mkF m 35 #[.val (.int (4 : Int32))] [])) t
      refine XS.iloadN X0.here hx rfl (hb hby own_d_method_2_code_35) rfl ?_
      show Steps p.tables e below (s₁.setTop (mkF m 36 #[.val (.int (4 : Int32))] [(.int (4 : Int32))])) t
      refine XS.iconst X0.here hx rfl (hb hby own_d_method_2_code_36) ?_
      show Steps p.tables e below (s₁.setTop (mkF m 37 #[.val (.int (4 : Int32))] [(.int (4 : Int32)), (.int (4 : Int32))])) t
      refine XS.icmpNo X0.here hx rfl (hb hby own_d_method_2_code_37) rfl (teq (by decide : (4 : Int32) = (4 : Int32))).2 ?_
      show Steps p.tables e below (s₁.setTop (mkF m 40 #[.val (.int (4 : Int32))] [])) t
      exact st1 t k)
  obtain ⟨fs, hr, hrun, hended, hW, hsame⟩ := X1.leave (v := some (.ref (ad 4))) (fun h => by rw [Bd.returns] at h; cases h)
  refine ⟨_, _, ch2 _ ?_, hrun, hended, _, _, rfl, ?_, ⟨_, rfl⟩, hW, hsame.mono (by decide) (by decide)⟩
  · show Steps p.tables e below (T1.setTop (mkF m 43 #[.val (.int (4 : Int32))] [(.ref (ad 4))])) _
    jvm_step X1.here [X1.here.top, hx, (hb hby own_d_method_2_code_43), X1.method', Bd.returns, Value.isRef, FieldType.isReference]
    first | (intro acts; rw [hr _ acts rfl rfl rfl]) | rw [hr _ _ rfl rfl rfl]
    exact Steps.refl _
  · show QV (some (.ref (ad 4))) h0 n0 _ T1.heap _
    rw [e1]
    exact ⟨rfl, N0, rfl⟩
theorem own_ef_own_code_4 (m : MethodId) {x0 : Addr} : entryFrame m #[(.ref x0)] 1 = mkF m 0 #[.val (.ref x0)] [] := by first | (simp [entryFrame, mkF, argsToLocals, Value.category, maxLocals]; done) | rfl
set_option maxRecDepth 65536 in
set_option maxHeartbeats 40000000 in
theorem own_code_4 (l : Launch) (Z : State) (a0 : Array Value) (hw : ∀ d ∈ tables_1, d.before a0 Z = true) (ws : List Jvm.Cond) (h0 : Heap) (n0 : Nat) (Z0 : n0 ≤ h0.size) (ad : Nat → Addr) (a__VALUES : Addr) (k__VALUES : ClassId) (W : OwnWd Z h0 ad a__VALUES k__VALUES) :
    MetFree l (⟨"com/example/limpet/limpet/io/Status", "code", "()I"⟩ : MethodName) (head1 (Jvm.Cond.code (⟨"com/example/limpet/limpet/io/Status", "code", "()I"⟩ : MethodName) prog_38_method_4_code 1 (some .int) :: ws) ({ frames := 0, cells := 0, slots := 0, locals := 0 } : Room)) (fun a U => a = #[(.ref (ad 4))] ∧ Z.Warmed39 U.vm ∧ U.heap = h0) (fun _ _ _ _ _ => True) (fun _ U o U' => ∃ v L, o = .returned v ∧ QV (some (.int (4 : Int32))) h0 n0 v U'.heap L ∧ FrameEnd U o U' L ({ frames := 0, cells := 0, slots := 0, locals := 0 } : Room).cells ({ frames := 0, cells := 0, slots := 0, locals := 0 } : Room).slots) := by
  refine MetFree.of_bodySF (plainFor_of_name own_pn_com_example_limpet_limpet_io_Status) hisR ?_
  intro p e s m args below meth c s₁ Bd hml0 hP hK
  obtain ⟨rfl, hZ, hh⟩ := hP
  have hx := Bd.exec
  have hby := Bd.bytes
  have hml : c.maxLocals = 1 := hml0
  have hown : s.vm.findClass "com/example/limpet/limpet/io/Status" = some m.cls := findClass_of_methodNamed Bd.named
  have hnm := (name_of_methodNamed Bd.named Bd.method).1
  have X0 : Stand p l e ({ frames := 0, cells := 0, slots := 0, locals := 0 } : Room) s m #[(.ref (ad 4))] below meth c s₁ [] 0 0 := Stand.of_body Bd
  have e0 : s₁.heap = h0 := by rw [← hh, Bd.state]; rfl
  have N0 := Fr.nil n0
  have pre0 : ∀ t, Steps p.tables e below (s₁.setTop (mkF m 0 #[.val (.ref (ad 4))] [])) t → Steps p.tables e below (s₁.setTop (entryFrame m #[(.ref (ad 4))] 1)) t := fun t k => castTop (own_ef_own_code_4 m) k
  obtain ⟨T1, X1, e1, st1⟩ := getF X0 hx hZ hown (host := "") (Or.inl (hw _ (List.mem_of_getElem? (i := 29) rfl))) Via.refl e0 (own_F_UNSUPPORTED_KEY_code W) (g := (mkF m 1 #[.val (.ref (ad 4))] [(.ref (ad 4))])) rfl rfl (hb hby own_d_prog_38_method_4_code_1)
  have ch2 : ∀ t, Steps p.tables e below (T1.setTop (mkF m 4 #[.val (.ref (ad 4))] [(.int (4 : Int32))])) t → Steps p.tables e below (s₁.setTop (entryFrame m #[(.ref (ad 4))] 1)) t := fun t k => pre0 t (by
      show Steps p.tables e below (s₁.setTop (mkF m 0 #[.val (.ref (ad 4))] [])) t
      refine XS.aloadN X0.here hx rfl (hb hby own_d_prog_38_method_4_code_0) rfl rfl ?_
      show Steps p.tables e below (s₁.setTop (mkF m 1 #[.val (.ref (ad 4))] [(.ref (ad 4))])) t
      exact st1 t k)
  obtain ⟨fs, hr, hrun, hended, hW, hsame⟩ := X1.leave (v := some (.int (4 : Int32))) (fun h => by rw [Bd.returns] at h; cases h)
  refine ⟨_, _, ch2 _ ?_, hrun, hended, _, _, rfl, ?_, ⟨_, rfl⟩, hW, hsame.mono (by decide) (by decide)⟩
  · show Steps p.tables e below (T1.setTop (mkF m 4 #[.val (.ref (ad 4))] [(.int (4 : Int32))])) _
    exact retI X1 hx Bd.returns (hb hby own_d_prog_38_method_4_code_4) hr
  · show QV (some (.int (4 : Int32))) h0 n0 _ T1.heap _
    rw [e1]
    exact ⟨rfl, N0, rfl⟩
theorem own_ef_own_law_4 (m : MethodId) {x0 : Int32} : entryFrame m #[(.int x0)] maxLocals = mkF m 0 #[.val (.int x0), .unset, .unset, .unset] [] := by first | (simp [entryFrame, mkF, argsToLocals, Value.category, maxLocals]; done) | rfl
set_option maxRecDepth 65536 in
set_option maxHeartbeats 40000000 in
theorem own_law_4 (l : Launch) (Z : State) (a0 : Array Value) (hw : ∀ d ∈ tables_1, d.before a0 Z = true) (ws : List Jvm.Cond) (h0 : Heap) (n0 : Nat) (Z0 : n0 ≤ h0.size) (p1 : Int32) (hk : (p1 &&& (2147483647 : Int32)) % (9 : Int32) = (4 : Int32)) (ad : Nat → Addr) (a__VALUES : Addr) (k__VALUES : ClassId) (W : OwnWd Z h0 ad a__VALUES k__VALUES) :
    MetFree l x (head1 (Jvm.Cond.code x code maxLocals ret :: ws) room_1) (fun a U => a = #[(.int p1)] ∧ Z.Warmed39 U.vm ∧ U.heap = h0) (fun _ _ _ _ _ => True) (fun _ U o U' => ∃ v L, o = .returned v ∧ QN (some (.int (1 : Int32))) n0 v U'.heap L ∧ FrameEnd U o U' L room_1.cells room_1.slots) := by
  refine MetFree.of_bodySF (plainFor_of_name own_pn_com_example_limpet_limpet_io_StatusFromCodePinLaw) hisR ?_
  intro p e s m args below meth c s₁ Bd hml0 hP hK
  obtain ⟨rfl, hZ, hh⟩ := hP
  have hx := Bd.exec
  have hby := Bd.bytes
  have hml : c.maxLocals = 4 := hml0
  have hown : s.vm.findClass "com/example/limpet/limpet/io/StatusFromCodePinLaw" = some m.cls := findClass_of_methodNamed Bd.named
  have hnm := (name_of_methodNamed Bd.named Bd.method).1
  have X0 : Stand p l e room_1 s m #[(.int p1)] below meth c s₁ [] 0 0 := Stand.of_body Bd
  have e0 : s₁.heap = h0 := by rw [← hh, Bd.state]; rfl
  have N0 := Fr.nil n0
  have pre0 : ∀ t, Steps p.tables e below (s₁.setTop (mkF m 0 #[.val (.int p1), .unset, .unset, .unset] [])) t → Steps p.tables e below (s₁.setTop (entryFrame m #[(.int p1)] maxLocals)) t := fun t k => castTop (own_ef_own_law_4 m) k
  obtain ⟨vv1, _, ⟨T1, L1, kk1, nn1⟩, -, X1, ⟨Lc1, hQ1, l1, y1, z1⟩, st1⟩ := Jvm.LawKit.callS X0 hx (y := (⟨"com/example/limpet/limpet/io/Status", "fromCode", "(I)Lcom/example/limpet/limpet/io/Status;"⟩ : MethodName)) hown (mvT hZ (hw _ (List.mem_of_getElem? (i := 1) rfl))) (mvT hZ (hw _ (List.mem_of_getElem? (i := 2) rfl))) (mvT hZ (hw _ (List.mem_of_getElem? (i := 3) rfl))) (mvT hZ (hw _ (List.mem_of_getElem? (i := 4) rfl))) (by decide) (backOf (W := 0) (own_from_4 l Z a0 hw [] h0 n0 (Nat.le_trans Z0 (Keep.refl h0 []).1) ad a__VALUES k__VALUES W) hZ (hw _ (List.mem_of_getElem? (i := 4) rfl)) (hw _ (List.mem_of_getElem? (i := 3) rfl)) (by decide) (by decide)) (g := (mkF m 9 #[.val (.int p1), .val (.int (4 : Int32)), .unset, .unset] [(.int (4 : Int32))])) rfl (by rw [hml]; rfl) (argsL := [(.int (4 : Int32))]) (rest := []) (lenOf own_pd__I_Lcom_example_limpet_limpet_io_Status_ rfl) rfl (by show 2 * 0 + _ ≤ _; exact Nat.le_of_eq rfl) (hb hby at_9) (fun _ _ => ⟨rfl, e0, (by decide : 0 + 1 ≤ _), (by decide : 0 + 9 ≤ _)⟩)
  dsimp only [Pt.U, Pt.locs, Pt.cells, Pt.slots] at X1 l1 y1 z1 st1 hQ1
  subst l1 y1 z1
  obtain ⟨hh1, eh1⟩ : ∃ h, T1.heap = h := ⟨_, rfl⟩
  rw [eh1] at hQ1
  obtain ⟨rfl, Nq1, Kq1⟩ := hQ1
  have N1 := Fr.app N0 Nq1
  have Kp1 := Keep.trans (Keep.refl h0 []) Kq1 all0
  have ch2 : ∀ t, Steps p.tables e below (T1.setTop (mkF m 12 #[.val (.int p1), .val (.int (4 : Int32)), .unset, .unset] [(.ref (ad 4))])) t → Steps p.tables e below (s₁.setTop (entryFrame m #[(.int p1)] maxLocals)) t := fun t k => pre0 t (by
      show Steps p.tables e below (s₁.setTop (mkF m 0 #[.val (.int p1), .unset, .unset, .unset] [])) t
      refine XS.iloadN X0.here hx rfl (hb hby at_0) rfl ?_
      show Steps p.tables e below (s₁.setTop (mkF m 1 #[.val (.int p1), .unset, .unset, .unset] [(.int p1)])) t
      refine X0.ldcInt hx hown (mvT hZ (hw _ (List.mem_of_getElem? (i := 0) rfl))) (g := (mkF m 1 #[.val (.int p1), .unset, .unset, .unset] [(.int p1)])) rfl (hb hby at_1) _ ?_
      show Steps p.tables e below (s₁.setTop (mkF m 3 #[.val (.int p1), .unset, .unset, .unset] [(.int (2147483647 : Int32)), (.int p1)])) t
      refine XS.iand X0.here hx rfl (hb hby at_3) rfl ?_
      show Steps p.tables e below (s₁.setTop (mkF m 4 #[.val (.int p1), .unset, .unset, .unset] [(.int (p1 &&& (2147483647 : Int32)))])) t
      refine XS.bipush X0.here hx rfl (hb hby at_4) ?_
      show Steps p.tables e below (s₁.setTop (mkF m 6 #[.val (.int p1), .unset, .unset, .unset] [(.int (9 : Int32)), (.int (p1 &&& (2147483647 : Int32)))])) t
      refine Jvm.RoadKit.iremM (g := (mkF m 6 #[.val (.int p1), .unset, .unset, .unset] [(.int (9 : Int32)), (.int (p1 &&& (2147483647 : Int32)))])) X0 hx rfl (hb hby at_6) rfl (by decide) ?_
      rw [hk]
      show Steps p.tables e below (s₁.setTop (mkF m 7 #[.val (.int p1), .unset, .unset, .unset] [(.int (4 : Int32))])) t
      refine XS.istoreN X0.here hx rfl (hb hby at_7) rfl (l' := #[.val (.int p1), .val (.int (4 : Int32)), .unset, .unset]) rfl ?_
      show Steps p.tables e below (s₁.setTop (mkF m 8 #[.val (.int p1), .val (.int (4 : Int32)), .unset, .unset] [])) t
      refine XS.iloadN X0.here hx rfl (hb hby at_8) rfl ?_
      show Steps p.tables e below (s₁.setTop (mkF m 9 #[.val (.int p1), .val (.int (4 : Int32)), .unset, .unset] [(.int (4 : Int32))])) t
      exact st1 t k)
  obtain ⟨vv3, _, ⟨T3, L3, kk3, nn3⟩, -, X3, ⟨Lc3, hQ3, l3, y3, z3⟩, st3⟩ := Jvm.LawKit.callS X1 hx (y := (⟨"com/example/limpet/limpet/io/StatusFromCodePinLaw", "expected", "(I)Lcom/example/limpet/limpet/io/Status;"⟩ : MethodName)) hown (mvT hZ (hw _ (List.mem_of_getElem? (i := 31) rfl))) (mvT hZ (hw _ (List.mem_of_getElem? (i := 32) rfl))) (mvT hZ (hw _ (List.mem_of_getElem? (i := 33) rfl))) (mvT hZ (hw _ (List.mem_of_getElem? (i := 34) rfl))) (by decide) (backOf (W := 0) (own_expd_4 l Z a0 hw [] hh1 n0 (Nat.le_trans Z0 Kp1.1) ad a__VALUES k__VALUES (own_Wd_ext W (own_ext_of_keep Kp1 all0))) hZ (hw _ (List.mem_of_getElem? (i := 34) rfl)) (hw _ (List.mem_of_getElem? (i := 33) rfl)) (by decide) (by decide)) (g := (mkF m 14 #[.val (.int p1), .val (.int (4 : Int32)), .val (.ref (ad 4)), .unset] [(.int (4 : Int32))])) rfl (by rw [hml]; rfl) (argsL := [(.int (4 : Int32))]) (rest := []) (lenOf own_pd__I_Lcom_example_limpet_limpet_io_Status_ rfl) rfl (by show 2 * 0 + _ ≤ _; exact Nat.le_of_eq rfl) (hb hby at_14) (fun _ _ => ⟨rfl, eh1, (by decide : 1 + 0 ≤ _), (by decide : 9 + 0 ≤ _)⟩)
  dsimp only [Pt.U, Pt.locs, Pt.cells, Pt.slots] at X3 l3 y3 z3 st3 hQ3
  subst l3 y3 z3
  obtain ⟨rfl, Nq3, e3⟩ := hQ3
  have N3 := Fr.app N1 Nq3
  have ch4 : ∀ t, Steps p.tables e below (T3.setTop (mkF m 17 #[.val (.int p1), .val (.int (4 : Int32)), .val (.ref (ad 4)), .unset] [(.ref (ad 4))])) t → Steps p.tables e below (s₁.setTop (entryFrame m #[(.int p1)] maxLocals)) t := fun t k => ch2 t (by
      show Steps p.tables e below (T1.setTop (mkF m 12 #[.val (.int p1), .val (.int (4 : Int32)), .unset, .unset] [(.ref (ad 4))])) t
      refine XS.astoreN X1.here hx rfl (hb hby at_12) rfl rfl (l' := #[.val (.int p1), .val (.int (4 : Int32)), .val (.ref (ad 4)), .unset]) rfl ?_
      show Steps p.tables e below (T1.setTop (mkF m 13 #[.val (.int p1), .val (.int (4 : Int32)), .val (.ref (ad 4)), .unset] [])) t
      refine XS.iloadN X1.here hx rfl (hb hby at_13) rfl ?_
      show Steps p.tables e below (T1.setTop (mkF m 14 #[.val (.int p1), .val (.int (4 : Int32)), .val (.ref (ad 4)), .unset] [(.int (4 : Int32))])) t
      exact st3 t k)
  have cf6 := (Exa.keep (own_E_UNSUPPORTED_KEY W) Kp1)
  obtain ⟨cq5, kq5, qa5, qb5, qc5⟩ := isOf hZ e3 cf6
  obtain ⟨vv7, _, ⟨T7, L7, kk7, nn7⟩, -, X7, ⟨Lc7, hQ7, l7, y7, z7⟩, st7⟩ := X3.virtualBack hx (y := (⟨"com/example/limpet/limpet/io/Status", "code", "()I"⟩ : MethodName)) (z := (⟨"com/example/limpet/limpet/io/Status", "code", "()I"⟩ : MethodName)) hown (mvT hZ (hw _ (List.mem_of_getElem? (i := 36) rfl))) (mvT hZ (hw _ (List.mem_of_getElem? (i := 37) rfl))) (notFace_of_selects (args := #[]) (mvT hZ (hw _ (List.mem_of_getElem? (i := 39) rfl)))) (mvT hZ (hw _ (List.mem_of_getElem? (i := 39) rfl))) (mvT hZ (hw _ (List.mem_of_getElem? (i := 38) rfl))) (by decide) (backOf (W := 0) (own_code_4 l Z a0 hw [] hh1 n0 (Nat.le_trans Z0 Kp1.1) ad a__VALUES k__VALUES (own_Wd_ext W (own_ext_of_keep Kp1 all0))) hZ (hw _ (List.mem_of_getElem? (i := 40) rfl)) (hw _ (List.mem_of_getElem? (i := 3) rfl)) (by decide) (by decide)) qa5 qc5 (g := (mkF m 24 #[.val (.int p1), .val (.int (4 : Int32)), .val (.ref (ad 4)), .val (.ref (ad 4))] [(.ref (ad 4))])) rfl (by rw [hml]; rfl) (Steps.refl _) (argsL := []) (rest := []) (lenOf own_pd___I rfl) rfl (by show 2 * 0 + _ ≤ _; exact Nat.le_of_eq rfl) (hb hby at_24) (fun _ _ => ⟨rfl, e3, (by decide : 1 + 0 ≤ _), (by decide : 9 + 0 ≤ _)⟩)
  dsimp only [Pt.U, Pt.locs, Pt.cells, Pt.slots] at X7 l7 y7 z7 st7 hQ7
  subst l7 y7 z7
  obtain ⟨rfl, Nq7, e7⟩ := hQ7
  have N7 := Fr.app N3 Nq7
  have ch8 : ∀ t, Steps p.tables e below (T7.setTop (mkF m 27 #[.val (.int p1), .val (.int (4 : Int32)), .val (.ref (ad 4)), .val (.ref (ad 4))] [(.int (4 : Int32))])) t → Steps p.tables e below (s₁.setTop (entryFrame m #[(.int p1)] maxLocals)) t := fun t k => ch4 t (by
      show Steps p.tables e below (T3.setTop (mkF m 17 #[.val (.int p1), .val (.int (4 : Int32)), .val (.ref (ad 4)), .unset] [(.ref (ad 4))])) t
      refine XS.astoreN X3.here hx rfl (hb hby at_17) rfl rfl (l' := #[.val (.int p1), .val (.int (4 : Int32)), .val (.ref (ad 4)), .val (.ref (ad 4))]) rfl ?_
      show Steps p.tables e below (T3.setTop (mkF m 18 #[.val (.int p1), .val (.int (4 : Int32)), .val (.ref (ad 4)), .val (.ref (ad 4))] [])) t
      refine XS.aloadN X3.here hx rfl (hb hby at_18) rfl rfl ?_
      show Steps p.tables e below (T3.setTop (mkF m 19 #[.val (.int p1), .val (.int (4 : Int32)), .val (.ref (ad 4)), .val (.ref (ad 4))] [(.ref (ad 4))])) t
      refine XS.aloadN X3.here hx rfl (hb hby at_19) rfl rfl ?_
      show Steps p.tables e below (T3.setTop (mkF m 20 #[.val (.int p1), .val (.int (4 : Int32)), .val (.ref (ad 4)), .val (.ref (ad 4))] [(.ref (ad 4)), (.ref (ad 4))])) t
      refine Jvm.RoadKit.acmp (g := (mkF m 20 #[.val (.int p1), .val (.int (4 : Int32)), .val (.ref (ad 4)), .val (.ref (ad 4))] [(.ref (ad 4)), (.ref (ad 4))])) X3 hx rfl rfl rfl (pc0 := 20) (pc' := 23) (same := true) rfl (hb hby at_20) rfl (decide_eq_true rfl) (by decide) (by decide) ?_
      show Steps p.tables e below (T3.setTop (mkF m 23 #[.val (.int p1), .val (.int (4 : Int32)), .val (.ref (ad 4)), .val (.ref (ad 4))] [])) t
      refine XS.aloadN X3.here hx rfl (hb hby at_23) rfl rfl ?_
      show Steps p.tables e below (T3.setTop (mkF m 24 #[.val (.int p1), .val (.int (4 : Int32)), .val (.ref (ad 4)), .val (.ref (ad 4))] [(.ref (ad 4))])) t
      exact st7.trans k)
  have ch9 : ∀ t, Steps p.tables e below (T7.setTop (mkF m 36 #[.val (.int p1), .val (.int (4 : Int32)), .val (.ref (ad 4)), .val (.ref (ad 4))] [(.int (1 : Int32))])) t → Steps p.tables e below (s₁.setTop (entryFrame m #[(.int p1)] maxLocals)) t := fun t k => ch8 t (by
      show Steps p.tables e below (T7.setTop (mkF m 27 #[.val (.int p1), .val (.int (4 : Int32)), .val (.ref (ad 4)), .val (.ref (ad 4))] [(.int (4 : Int32))])) t
      refine XS.iloadN X7.here hx rfl (hb hby at_27) rfl ?_
      show Steps p.tables e below (T7.setTop (mkF m 28 #[.val (.int p1), .val (.int (4 : Int32)), .val (.ref (ad 4)), .val (.ref (ad 4))] [(.int (4 : Int32)), (.int (4 : Int32))])) t
      refine XS.icmpNo X7.here hx rfl (hb hby at_28) rfl (teq (by decide : (4 : Int32) = (4 : Int32))).2 ?_
      show Steps p.tables e below (T7.setTop (mkF m 31 #[.val (.int p1), .val (.int (4 : Int32)), .val (.ref (ad 4)), .val (.ref (ad 4))] [])) t
      refine XS.iconst X7.here hx rfl (hb hby at_31) ?_
      show Steps p.tables e below (T7.setTop (mkF m 32 #[.val (.int p1), .val (.int (4 : Int32)), .val (.ref (ad 4)), .val (.ref (ad 4))] [(.int (1 : Int32))])) t
      refine XS.goto X7.here hx rfl (pc0 := 32) (pc' := 36) rfl (hb hby at_32) (by decide) (by decide) ?_
      exact k)
  obtain ⟨fs, hr, hrun, hended, hW, hsame⟩ := X7.leave (v := some (.int (1 : Int32))) (fun h => by rw [Bd.returns] at h; cases h)
  refine ⟨_, _, ch9 _ ?_, hrun, hended, _, _, rfl, ?_, ⟨_, rfl⟩, hW, hsame.mono (by decide) (by decide)⟩
  · show Steps p.tables e below (T7.setTop (mkF m 36 #[.val (.int p1), .val (.int (4 : Int32)), .val (.ref (ad 4)), .val (.ref (ad 4))] [(.int (1 : Int32))])) _
    exact retN X7 hx (t := .boolean) Bd.returns (by simp) (hb hby at_36) hr
  · show QN (some (.int (1 : Int32))) n0 _ T7.heap _
    rw [e7]
    exact ⟨rfl, N7⟩
theorem own_ef_own_from_5 (m : MethodId) {x0 : Int32} : entryFrame m #[(.int x0)] 5 = mkF m 0 #[.val (.int x0), .unset, .unset, .unset, .unset] [] := by first | (simp [entryFrame, mkF, argsToLocals, Value.category, maxLocals]; done) | rfl
set_option maxRecDepth 65536 in
set_option maxHeartbeats 40000000 in
theorem own_from_5 (l : Launch) (Z : State) (a0 : Array Value) (hw : ∀ d ∈ tables_1, d.before a0 Z = true) (ws : List Jvm.Cond) (h0 : Heap) (n0 : Nat) (Z0 : n0 ≤ h0.size) (ad : Nat → Addr) (a__VALUES : Addr) (k__VALUES : ClassId) (W : OwnWd Z h0 ad a__VALUES k__VALUES) :
    MetFree l (⟨"com/example/limpet/limpet/io/Status", "fromCode", "(I)Lcom/example/limpet/limpet/io/Status;"⟩ : MethodName) (head1 (Jvm.Cond.code (⟨"com/example/limpet/limpet/io/Status", "fromCode", "(I)Lcom/example/limpet/limpet/io/Status;"⟩ : MethodName) prog_38_method_5_code 5 (some (.object "com/example/limpet/limpet/io/Status")) :: ws) ({ frames := 2, cells := 1, slots := 9, locals := 25 } : Room)) (fun a U => a = #[(.int (5 : Int32))] ∧ Z.Warmed39 U.vm ∧ U.heap = h0) (fun _ _ _ _ _ => True) (fun _ U o U' => ∃ v L, o = .returned v ∧ QK (some (.ref (ad 5))) h0 n0 v U'.heap L ∧ FrameEnd U o U' L ({ frames := 2, cells := 1, slots := 9, locals := 25 } : Room).cells ({ frames := 2, cells := 1, slots := 9, locals := 25 } : Room).slots) := by
  refine MetFree.of_bodySF (plainFor_of_name own_pn_com_example_limpet_limpet_io_Status) hisR ?_
  intro p e s m args below meth c s₁ Bd hml0 hP hK
  obtain ⟨rfl, hZ, hh⟩ := hP
  have hx := Bd.exec
  have hby := Bd.bytes
  have hml : c.maxLocals = 5 := hml0
  have hown : s.vm.findClass "com/example/limpet/limpet/io/Status" = some m.cls := findClass_of_methodNamed Bd.named
  have hnm := (name_of_methodNamed Bd.named Bd.method).1
  have X0 : Stand p l e ({ frames := 2, cells := 1, slots := 9, locals := 25 } : Room) s m #[(.int (5 : Int32))] below meth c s₁ [] 0 0 := Stand.of_body Bd
  have e0 : s₁.heap = h0 := by rw [← hh, Bd.state]; rfl
  have N0 := Fr.nil n0
  have pre0 : ∀ t, Steps p.tables e below (s₁.setTop (mkF m 0 #[.val (.int (5 : Int32)), .unset, .unset, .unset, .unset] [])) t → Steps p.tables e below (s₁.setTop (entryFrame m #[(.int (5 : Int32))] 5)) t := fun t k => castTop (own_ef_own_from_5 m) k
  obtain ⟨vv1, _, ⟨T1, L1, kk1, nn1⟩, -, X1, ⟨Lc1, hQ1, l1, y1, z1⟩, st1⟩ := Jvm.LawKit.callS X0 hx (y := (⟨"com/example/limpet/limpet/io/Status", "values", "()[Lcom/example/limpet/limpet/io/Status;"⟩ : MethodName)) hown (mvT hZ (hw _ (List.mem_of_getElem? (i := 5) rfl))) (mvT hZ (hw _ (List.mem_of_getElem? (i := 6) rfl))) (mvT hZ (hw _ (List.mem_of_getElem? (i := 3) rfl))) (mvT hZ (hw _ (List.mem_of_getElem? (i := 7) rfl))) (by decide) (backOf (W := 0) (own_vals l Z a0 hw [] h0 n0 (Nat.le_trans Z0 (Keep.refl h0 []).1) ad a__VALUES k__VALUES W) hZ (hw _ (List.mem_of_getElem? (i := 7) rfl)) (hw _ (List.mem_of_getElem? (i := 3) rfl)) (by decide) (by decide)) (g := (mkF m 0 #[.val (.int (5 : Int32)), .unset, .unset, .unset, .unset] [])) rfl (by rw [hml]; rfl) (argsL := []) (rest := []) (lenOf own_pd____Lcom_example_limpet_limpet_io_Status_ rfl) rfl (by show 2 * 0 + _ ≤ _; exact Nat.le_of_eq rfl) (hb hby own_d_prog_38_method_5_code_0) (fun _ _ => ⟨rfl, e0, (by decide : 0 + 1 ≤ _), (by decide : 0 + 9 ≤ _)⟩)
  dsimp only [Pt.U, Pt.locs, Pt.cells, Pt.slots] at X1 l1 y1 z1 st1 hQ1
  subst l1 y1 z1
  obtain ⟨hh1, eh1⟩ : ∃ h, T1.heap = h := ⟨_, rfl⟩
  rw [eh1] at hQ1
  obtain ⟨rv, rfl, zq1, Nq1, Kq1, fq1_0⟩ := hQ1
  have N1 := Fr.app N0 Nq1
  have ne_ad0_rv : (ad 0) ≠ rv := Nat.ne_of_lt (Nat.lt_of_lt_of_le (own_E_OK W).lt zq1)
  have ne_ad1_rv : (ad 1) ≠ rv := Nat.ne_of_lt (Nat.lt_of_lt_of_le (own_E_BAD_REQUEST W).lt zq1)
  have ne_ad2_rv : (ad 2) ≠ rv := Nat.ne_of_lt (Nat.lt_of_lt_of_le (own_E_NOT_FOUND W).lt zq1)
  have ne_ad3_rv : (ad 3) ≠ rv := Nat.ne_of_lt (Nat.lt_of_lt_of_le (own_E_FAILED W).lt zq1)
  have ne_ad4_rv : (ad 4) ≠ rv := Nat.ne_of_lt (Nat.lt_of_lt_of_le (own_E_UNSUPPORTED_KEY W).lt zq1)
  have ne_ad5_rv : (ad 5) ≠ rv := Nat.ne_of_lt (Nat.lt_of_lt_of_le (own_E_PERMISSION_DENIED W).lt zq1)
  have ne_ad6_rv : (ad 6) ≠ rv := Nat.ne_of_lt (Nat.lt_of_lt_of_le (own_E_GRANT_NOT_FOUND W).lt zq1)
  have ne_ad7_rv : (ad 7) ≠ rv := Nat.ne_of_lt (Nat.lt_of_lt_of_le (own_E_TOO_MANY_KEYS W).lt zq1)
  have ne_ad8_rv : (ad 8) ≠ rv := Nat.ne_of_lt (Nat.lt_of_lt_of_le (own_E_TOO_MANY_GRANTS W).lt zq1)
  have ne_a__VALUES_rv : a__VALUES ≠ rv := Nat.ne_of_lt (Nat.lt_of_lt_of_le (own_V__VALUES W).lt zq1)
  have g_rv : n0 ≤ rv := Nat.le_trans (Nat.le_trans Z0 (Keep.refl h0 []).1) zq1
  have sz_rv : h0.size ≤ rv := Nat.le_trans (Keep.refl h0 []).1 zq1
  have Kp1 := Keep.trans (Keep.refl h0 []) Kq1 all0
  have ch2 : ∀ t, Steps p.tables e below (T1.setTop (mkF m 3 #[.val (.int (5 : Int32)), .unset, .unset, .unset, .unset] [(.ref rv)])) t → Steps p.tables e below (s₁.setTop (entryFrame m #[(.int (5 : Int32))] 5)) t := fun t k => pre0 t (by
      show Steps p.tables e below (s₁.setTop (mkF m 0 #[.val (.int (5 : Int32)), .unset, .unset, .unset, .unset] [])) t
      exact st1 t k)
  obtain ⟨cl3, Ar3, -, Sz3, Ng3, -, -⟩ := id fq1_0
  obtain ⟨cl4, Ar4, -, Sz4, Ng4, Ha4, -⟩ := id fq1_0
  have hin4 : ¬ ((0 : Int32) < 0 ∨ cl4.slots.size ≤ ((0 : Int32)).toNatClampNeg) := inb_of Sz4 (by decide)
  have hat4 : cl4.slots[((0 : Int32)).toNatClampNeg]? = some (.ref (ad 0)) := Ha4.at hin4 rfl
  have cf5 := ((own_F_OK_code W).keep Kp1 nin0)
  obtain ⟨T6, X6, e6, st6⟩ := getF X1 hx hZ hown (host := "") (Or.inl (hw _ (List.mem_of_getElem? (i := 29) rfl))) Via.refl eh1 cf5 (g := (mkF m 21 #[.val (.int (5 : Int32)), .val (.ref rv), .val (.int (9 : Int32)), .val (.int (0 : Int32)), .val (.ref (ad 0))] [(.ref (ad 0))])) rfl rfl (hb hby own_d_prog_38_method_5_code_21)
  have ch7 : ∀ t, Steps p.tables e below (T6.setTop (mkF m 24 #[.val (.int (5 : Int32)), .val (.ref rv), .val (.int (9 : Int32)), .val (.int (0 : Int32)), .val (.ref (ad 0))] [(.int (0 : Int32))])) t → Steps p.tables e below (s₁.setTop (entryFrame m #[(.int (5 : Int32))] 5)) t := fun t k => ch2 t (by
      show Steps p.tables e below (T1.setTop (mkF m 3 #[.val (.int (5 : Int32)), .unset, .unset, .unset, .unset] [(.ref rv)])) t
      refine XS.astoreN X1.here hx rfl (hb hby own_d_prog_38_method_5_code_3) rfl rfl (l' := #[.val (.int (5 : Int32)), .val (.ref rv), .unset, .unset, .unset]) rfl ?_
      show Steps p.tables e below (T1.setTop (mkF m 4 #[.val (.int (5 : Int32)), .val (.ref rv), .unset, .unset, .unset] [])) t
      refine XS.aloadN X1.here hx rfl (hb hby own_d_prog_38_method_5_code_4) rfl rfl ?_
      show Steps p.tables e below (T1.setTop (mkF m 5 #[.val (.int (5 : Int32)), .val (.ref rv), .unset, .unset, .unset] [(.ref rv)])) t
      refine X1.arraylength hx (by rw [eh1]; exact Ar3.1) (State.isArrayOf_alike hZ.alike Ar3.2.1) (g := (mkF m 5 #[.val (.int (5 : Int32)), .val (.ref rv), .unset, .unset, .unset] [(.ref rv)])) rfl rfl (hb hby own_d_prog_38_method_5_code_5) _ ?_
      rw [len_of Sz3 Ng3]
      show Steps p.tables e below (T1.setTop (mkF m 6 #[.val (.int (5 : Int32)), .val (.ref rv), .unset, .unset, .unset] [(.int (9 : Int32))])) t
      refine XS.istoreN X1.here hx rfl (hb hby own_d_prog_38_method_5_code_6) rfl (l' := #[.val (.int (5 : Int32)), .val (.ref rv), .val (.int (9 : Int32)), .unset, .unset]) rfl ?_
      show Steps p.tables e below (T1.setTop (mkF m 7 #[.val (.int (5 : Int32)), .val (.ref rv), .val (.int (9 : Int32)), .unset, .unset] [])) t
      refine XS.iconst X1.here hx rfl (hb hby own_d_prog_38_method_5_code_7) ?_
      show Steps p.tables e below (T1.setTop (mkF m 8 #[.val (.int (5 : Int32)), .val (.ref rv), .val (.int (9 : Int32)), .unset, .unset] [(.int (0 : Int32))])) t
      refine XS.istoreN X1.here hx rfl (hb hby own_d_prog_38_method_5_code_8) rfl (l' := #[.val (.int (5 : Int32)), .val (.ref rv), .val (.int (9 : Int32)), .val (.int (0 : Int32)), .unset]) rfl ?_
      show Steps p.tables e below (T1.setTop (mkF m 9 #[.val (.int (5 : Int32)), .val (.ref rv), .val (.int (9 : Int32)), .val (.int (0 : Int32)), .unset] [])) t
      refine XS.iloadN X1.here hx rfl (hb hby own_d_prog_38_method_5_code_9) rfl ?_
      show Steps p.tables e below (T1.setTop (mkF m 10 #[.val (.int (5 : Int32)), .val (.ref rv), .val (.int (9 : Int32)), .val (.int (0 : Int32)), .unset] [(.int (0 : Int32))])) t
      refine XS.iloadN X1.here hx rfl (hb hby own_d_prog_38_method_5_code_10) rfl ?_
      show Steps p.tables e below (T1.setTop (mkF m 11 #[.val (.int (5 : Int32)), .val (.ref rv), .val (.int (9 : Int32)), .val (.int (0 : Int32)), .unset] [(.int (9 : Int32)), (.int (0 : Int32))])) t
      refine XS.icmpNo X1.here hx rfl (hb hby own_d_prog_38_method_5_code_11) rfl (tlt (by decide : (0 : Int32) < (9 : Int32))).2.1 ?_
      show Steps p.tables e below (T1.setTop (mkF m 14 #[.val (.int (5 : Int32)), .val (.ref rv), .val (.int (9 : Int32)), .val (.int (0 : Int32)), .unset] [])) t
      refine XS.aloadN X1.here hx rfl (hb hby own_d_prog_38_method_5_code_14) rfl rfl ?_
      show Steps p.tables e below (T1.setTop (mkF m 15 #[.val (.int (5 : Int32)), .val (.ref rv), .val (.int (9 : Int32)), .val (.int (0 : Int32)), .unset] [(.ref rv)])) t
      refine XS.iloadN X1.here hx rfl (hb hby own_d_prog_38_method_5_code_15) rfl ?_
      show Steps p.tables e below (T1.setTop (mkF m 16 #[.val (.int (5 : Int32)), .val (.ref rv), .val (.int (9 : Int32)), .val (.int (0 : Int32)), .unset] [(.int (0 : Int32)), (.ref rv)])) t
      refine X1.aaload hx (j := (0 : Int32)) (v := (.ref (ad 0))) (by rw [eh1]; exact Ar4.1) (State.isArrayOf_alike hZ.alike Ar4.2.1) rfl Ar4.2.2 hin4 hat4 (g := (mkF m 16 #[.val (.int (5 : Int32)), .val (.ref rv), .val (.int (9 : Int32)), .val (.int (0 : Int32)), .unset] [(.int (0 : Int32)), (.ref rv)])) rfl rfl (hb hby own_d_prog_38_method_5_code_16) _ ?_
      show Steps p.tables e below (T1.setTop (mkF m 17 #[.val (.int (5 : Int32)), .val (.ref rv), .val (.int (9 : Int32)), .val (.int (0 : Int32)), .unset] [(.ref (ad 0))])) t
      refine XS.astore X1.here hx rfl (hb hby own_d_prog_38_method_5_code_17) rfl rfl (l' := #[.val (.int (5 : Int32)), .val (.ref rv), .val (.int (9 : Int32)), .val (.int (0 : Int32)), .val (.ref (ad 0))]) rfl ?_
      show Steps p.tables e below (T1.setTop (mkF m 19 #[.val (.int (5 : Int32)), .val (.ref rv), .val (.int (9 : Int32)), .val (.int (0 : Int32)), .val (.ref (ad 0))] [])) t
      refine XS.aload X1.here hx rfl (hb hby own_d_prog_38_method_5_code_19) rfl rfl ?_
      show Steps p.tables e below (T1.setTop (mkF m 21 #[.val (.int (5 : Int32)), .val (.ref rv), .val (.int (9 : Int32)), .val (.int (0 : Int32)), .val (.ref (ad 0))] [(.ref (ad 0))])) t
      exact st6 t k)
  obtain ⟨cl8, Ar8, -, Sz8, Ng8, Ha8, -⟩ := id fq1_0
  have hin8 : ¬ ((1 : Int32) < 0 ∨ cl8.slots.size ≤ ((1 : Int32)).toNatClampNeg) := inb_of Sz8 (by decide)
  have hat8 : cl8.slots[((1 : Int32)).toNatClampNeg]? = some (.ref (ad 1)) := Ha8.at hin8 rfl
  have cf9 := ((own_F_BAD_REQUEST_code W).keep Kp1 nin0)
  obtain ⟨T10, X10, e10, st10⟩ := getF X6 hx hZ hown (host := "") (Or.inl (hw _ (List.mem_of_getElem? (i := 29) rfl))) Via.refl e6 cf9 (g := (mkF m 21 #[.val (.int (5 : Int32)), .val (.ref rv), .val (.int (9 : Int32)), .val (.int (1 : Int32)), .val (.ref (ad 1))] [(.ref (ad 1))])) rfl rfl (hb hby own_d_prog_38_method_5_code_21)
  have ch11 : ∀ t, Steps p.tables e below (T10.setTop (mkF m 24 #[.val (.int (5 : Int32)), .val (.ref rv), .val (.int (9 : Int32)), .val (.int (1 : Int32)), .val (.ref (ad 1))] [(.int (1 : Int32))])) t → Steps p.tables e below (s₁.setTop (entryFrame m #[(.int (5 : Int32))] 5)) t := fun t k => ch7 t (by
      show Steps p.tables e below (T6.setTop (mkF m 24 #[.val (.int (5 : Int32)), .val (.ref rv), .val (.int (9 : Int32)), .val (.int (0 : Int32)), .val (.ref (ad 0))] [(.int (0 : Int32))])) t
      refine XS.iloadN X6.here hx rfl (hb hby own_d_prog_38_method_5_code_24) rfl ?_
      show Steps p.tables e below (T6.setTop (mkF m 25 #[.val (.int (5 : Int32)), .val (.ref rv), .val (.int (9 : Int32)), .val (.int (0 : Int32)), .val (.ref (ad 0))] [(.int (5 : Int32)), (.int (0 : Int32))])) t
      refine XS.icmpYes X6.here hx rfl (pc0 := 25) (pc' := 31) rfl (hb hby own_d_prog_38_method_5_code_25) rfl (feq (by decide : ¬ (0 : Int32) = (5 : Int32))).2 (by decide) (by decide) ?_
      show Steps p.tables e below (T6.setTop (mkF m 31 #[.val (.int (5 : Int32)), .val (.ref rv), .val (.int (9 : Int32)), .val (.int (0 : Int32)), .val (.ref (ad 0))] [])) t
      refine Jvm.Free.XT.iincV X6.here hx rfl (1 : Int32) (hb hby own_d_prog_38_method_5_code_31) (by decide) rfl (l' := #[.val (.int (5 : Int32)), .val (.ref rv), .val (.int (9 : Int32)), .val (.int (1 : Int32)), .val (.ref (ad 0))]) (by rw [show ((0 : Int32) + (1 : Int32)) = (1 : Int32) from by decide]; rfl) ?_
      show Steps p.tables e below (T6.setTop (mkF m 34 #[.val (.int (5 : Int32)), .val (.ref rv), .val (.int (9 : Int32)), .val (.int (1 : Int32)), .val (.ref (ad 0))] [])) t
      refine XS.goto X6.here hx rfl (pc0 := 34) (pc' := 9) rfl (hb hby own_d_prog_38_method_5_code_34) (by decide) (by decide) ?_
      show Steps p.tables e below (T6.setTop (mkF m 9 #[.val (.int (5 : Int32)), .val (.ref rv), .val (.int (9 : Int32)), .val (.int (1 : Int32)), .val (.ref (ad 0))] [])) t
      refine XS.iloadN X6.here hx rfl (hb hby own_d_prog_38_method_5_code_9) rfl ?_
      show Steps p.tables e below (T6.setTop (mkF m 10 #[.val (.int (5 : Int32)), .val (.ref rv), .val (.int (9 : Int32)), .val (.int (1 : Int32)), .val (.ref (ad 0))] [(.int (1 : Int32))])) t
      refine XS.iloadN X6.here hx rfl (hb hby own_d_prog_38_method_5_code_10) rfl ?_
      show Steps p.tables e below (T6.setTop (mkF m 11 #[.val (.int (5 : Int32)), .val (.ref rv), .val (.int (9 : Int32)), .val (.int (1 : Int32)), .val (.ref (ad 0))] [(.int (9 : Int32)), (.int (1 : Int32))])) t
      refine XS.icmpNo X6.here hx rfl (hb hby own_d_prog_38_method_5_code_11) rfl (tlt (by decide : (1 : Int32) < (9 : Int32))).2.1 ?_
      show Steps p.tables e below (T6.setTop (mkF m 14 #[.val (.int (5 : Int32)), .val (.ref rv), .val (.int (9 : Int32)), .val (.int (1 : Int32)), .val (.ref (ad 0))] [])) t
      refine XS.aloadN X6.here hx rfl (hb hby own_d_prog_38_method_5_code_14) rfl rfl ?_
      show Steps p.tables e below (T6.setTop (mkF m 15 #[.val (.int (5 : Int32)), .val (.ref rv), .val (.int (9 : Int32)), .val (.int (1 : Int32)), .val (.ref (ad 0))] [(.ref rv)])) t
      refine XS.iloadN X6.here hx rfl (hb hby own_d_prog_38_method_5_code_15) rfl ?_
      show Steps p.tables e below (T6.setTop (mkF m 16 #[.val (.int (5 : Int32)), .val (.ref rv), .val (.int (9 : Int32)), .val (.int (1 : Int32)), .val (.ref (ad 0))] [(.int (1 : Int32)), (.ref rv)])) t
      refine X6.aaload hx (j := (1 : Int32)) (v := (.ref (ad 1))) (by rw [e6]; exact Ar8.1) (State.isArrayOf_alike hZ.alike Ar8.2.1) rfl Ar8.2.2 hin8 hat8 (g := (mkF m 16 #[.val (.int (5 : Int32)), .val (.ref rv), .val (.int (9 : Int32)), .val (.int (1 : Int32)), .val (.ref (ad 0))] [(.int (1 : Int32)), (.ref rv)])) rfl rfl (hb hby own_d_prog_38_method_5_code_16) _ ?_
      show Steps p.tables e below (T6.setTop (mkF m 17 #[.val (.int (5 : Int32)), .val (.ref rv), .val (.int (9 : Int32)), .val (.int (1 : Int32)), .val (.ref (ad 0))] [(.ref (ad 1))])) t
      refine XS.astore X6.here hx rfl (hb hby own_d_prog_38_method_5_code_17) rfl rfl (l' := #[.val (.int (5 : Int32)), .val (.ref rv), .val (.int (9 : Int32)), .val (.int (1 : Int32)), .val (.ref (ad 1))]) rfl ?_
      show Steps p.tables e below (T6.setTop (mkF m 19 #[.val (.int (5 : Int32)), .val (.ref rv), .val (.int (9 : Int32)), .val (.int (1 : Int32)), .val (.ref (ad 1))] [])) t
      refine XS.aload X6.here hx rfl (hb hby own_d_prog_38_method_5_code_19) rfl rfl ?_
      show Steps p.tables e below (T6.setTop (mkF m 21 #[.val (.int (5 : Int32)), .val (.ref rv), .val (.int (9 : Int32)), .val (.int (1 : Int32)), .val (.ref (ad 1))] [(.ref (ad 1))])) t
      exact st10 t k)
  obtain ⟨cl12, Ar12, -, Sz12, Ng12, Ha12, -⟩ := id fq1_0
  have hin12 : ¬ ((2 : Int32) < 0 ∨ cl12.slots.size ≤ ((2 : Int32)).toNatClampNeg) := inb_of Sz12 (by decide)
  have hat12 : cl12.slots[((2 : Int32)).toNatClampNeg]? = some (.ref (ad 2)) := Ha12.at hin12 rfl
  have cf13 := ((own_F_NOT_FOUND_code W).keep Kp1 nin0)
  obtain ⟨T14, X14, e14, st14⟩ := getF X10 hx hZ hown (host := "") (Or.inl (hw _ (List.mem_of_getElem? (i := 29) rfl))) Via.refl e10 cf13 (g := (mkF m 21 #[.val (.int (5 : Int32)), .val (.ref rv), .val (.int (9 : Int32)), .val (.int (2 : Int32)), .val (.ref (ad 2))] [(.ref (ad 2))])) rfl rfl (hb hby own_d_prog_38_method_5_code_21)
  have ch15 : ∀ t, Steps p.tables e below (T14.setTop (mkF m 24 #[.val (.int (5 : Int32)), .val (.ref rv), .val (.int (9 : Int32)), .val (.int (2 : Int32)), .val (.ref (ad 2))] [(.int (2 : Int32))])) t → Steps p.tables e below (s₁.setTop (entryFrame m #[(.int (5 : Int32))] 5)) t := fun t k => ch11 t (by
      show Steps p.tables e below (T10.setTop (mkF m 24 #[.val (.int (5 : Int32)), .val (.ref rv), .val (.int (9 : Int32)), .val (.int (1 : Int32)), .val (.ref (ad 1))] [(.int (1 : Int32))])) t
      refine XS.iloadN X10.here hx rfl (hb hby own_d_prog_38_method_5_code_24) rfl ?_
      show Steps p.tables e below (T10.setTop (mkF m 25 #[.val (.int (5 : Int32)), .val (.ref rv), .val (.int (9 : Int32)), .val (.int (1 : Int32)), .val (.ref (ad 1))] [(.int (5 : Int32)), (.int (1 : Int32))])) t
      refine XS.icmpYes X10.here hx rfl (pc0 := 25) (pc' := 31) rfl (hb hby own_d_prog_38_method_5_code_25) rfl (feq (by decide : ¬ (1 : Int32) = (5 : Int32))).2 (by decide) (by decide) ?_
      show Steps p.tables e below (T10.setTop (mkF m 31 #[.val (.int (5 : Int32)), .val (.ref rv), .val (.int (9 : Int32)), .val (.int (1 : Int32)), .val (.ref (ad 1))] [])) t
      refine Jvm.Free.XT.iincV X10.here hx rfl (1 : Int32) (hb hby own_d_prog_38_method_5_code_31) (by decide) rfl (l' := #[.val (.int (5 : Int32)), .val (.ref rv), .val (.int (9 : Int32)), .val (.int (2 : Int32)), .val (.ref (ad 1))]) (by rw [show ((1 : Int32) + (1 : Int32)) = (2 : Int32) from by decide]; rfl) ?_
      show Steps p.tables e below (T10.setTop (mkF m 34 #[.val (.int (5 : Int32)), .val (.ref rv), .val (.int (9 : Int32)), .val (.int (2 : Int32)), .val (.ref (ad 1))] [])) t
      refine XS.goto X10.here hx rfl (pc0 := 34) (pc' := 9) rfl (hb hby own_d_prog_38_method_5_code_34) (by decide) (by decide) ?_
      show Steps p.tables e below (T10.setTop (mkF m 9 #[.val (.int (5 : Int32)), .val (.ref rv), .val (.int (9 : Int32)), .val (.int (2 : Int32)), .val (.ref (ad 1))] [])) t
      refine XS.iloadN X10.here hx rfl (hb hby own_d_prog_38_method_5_code_9) rfl ?_
      show Steps p.tables e below (T10.setTop (mkF m 10 #[.val (.int (5 : Int32)), .val (.ref rv), .val (.int (9 : Int32)), .val (.int (2 : Int32)), .val (.ref (ad 1))] [(.int (2 : Int32))])) t
      refine XS.iloadN X10.here hx rfl (hb hby own_d_prog_38_method_5_code_10) rfl ?_
      show Steps p.tables e below (T10.setTop (mkF m 11 #[.val (.int (5 : Int32)), .val (.ref rv), .val (.int (9 : Int32)), .val (.int (2 : Int32)), .val (.ref (ad 1))] [(.int (9 : Int32)), (.int (2 : Int32))])) t
      refine XS.icmpNo X10.here hx rfl (hb hby own_d_prog_38_method_5_code_11) rfl (tlt (by decide : (2 : Int32) < (9 : Int32))).2.1 ?_
      show Steps p.tables e below (T10.setTop (mkF m 14 #[.val (.int (5 : Int32)), .val (.ref rv), .val (.int (9 : Int32)), .val (.int (2 : Int32)), .val (.ref (ad 1))] [])) t
      refine XS.aloadN X10.here hx rfl (hb hby own_d_prog_38_method_5_code_14) rfl rfl ?_
      show Steps p.tables e below (T10.setTop (mkF m 15 #[.val (.int (5 : Int32)), .val (.ref rv), .val (.int (9 : Int32)), .val (.int (2 : Int32)), .val (.ref (ad 1))] [(.ref rv)])) t
      refine XS.iloadN X10.here hx rfl (hb hby own_d_prog_38_method_5_code_15) rfl ?_
      show Steps p.tables e below (T10.setTop (mkF m 16 #[.val (.int (5 : Int32)), .val (.ref rv), .val (.int (9 : Int32)), .val (.int (2 : Int32)), .val (.ref (ad 1))] [(.int (2 : Int32)), (.ref rv)])) t
      refine X10.aaload hx (j := (2 : Int32)) (v := (.ref (ad 2))) (by rw [e10]; exact Ar12.1) (State.isArrayOf_alike hZ.alike Ar12.2.1) rfl Ar12.2.2 hin12 hat12 (g := (mkF m 16 #[.val (.int (5 : Int32)), .val (.ref rv), .val (.int (9 : Int32)), .val (.int (2 : Int32)), .val (.ref (ad 1))] [(.int (2 : Int32)), (.ref rv)])) rfl rfl (hb hby own_d_prog_38_method_5_code_16) _ ?_
      show Steps p.tables e below (T10.setTop (mkF m 17 #[.val (.int (5 : Int32)), .val (.ref rv), .val (.int (9 : Int32)), .val (.int (2 : Int32)), .val (.ref (ad 1))] [(.ref (ad 2))])) t
      refine XS.astore X10.here hx rfl (hb hby own_d_prog_38_method_5_code_17) rfl rfl (l' := #[.val (.int (5 : Int32)), .val (.ref rv), .val (.int (9 : Int32)), .val (.int (2 : Int32)), .val (.ref (ad 2))]) rfl ?_
      show Steps p.tables e below (T10.setTop (mkF m 19 #[.val (.int (5 : Int32)), .val (.ref rv), .val (.int (9 : Int32)), .val (.int (2 : Int32)), .val (.ref (ad 2))] [])) t
      refine XS.aload X10.here hx rfl (hb hby own_d_prog_38_method_5_code_19) rfl rfl ?_
      show Steps p.tables e below (T10.setTop (mkF m 21 #[.val (.int (5 : Int32)), .val (.ref rv), .val (.int (9 : Int32)), .val (.int (2 : Int32)), .val (.ref (ad 2))] [(.ref (ad 2))])) t
      exact st14 t k)
  obtain ⟨cl16, Ar16, -, Sz16, Ng16, Ha16, -⟩ := id fq1_0
  have hin16 : ¬ ((3 : Int32) < 0 ∨ cl16.slots.size ≤ ((3 : Int32)).toNatClampNeg) := inb_of Sz16 (by decide)
  have hat16 : cl16.slots[((3 : Int32)).toNatClampNeg]? = some (.ref (ad 3)) := Ha16.at hin16 rfl
  have cf17 := ((own_F_FAILED_code W).keep Kp1 nin0)
  obtain ⟨T18, X18, e18, st18⟩ := getF X14 hx hZ hown (host := "") (Or.inl (hw _ (List.mem_of_getElem? (i := 29) rfl))) Via.refl e14 cf17 (g := (mkF m 21 #[.val (.int (5 : Int32)), .val (.ref rv), .val (.int (9 : Int32)), .val (.int (3 : Int32)), .val (.ref (ad 3))] [(.ref (ad 3))])) rfl rfl (hb hby own_d_prog_38_method_5_code_21)
  have ch19 : ∀ t, Steps p.tables e below (T18.setTop (mkF m 24 #[.val (.int (5 : Int32)), .val (.ref rv), .val (.int (9 : Int32)), .val (.int (3 : Int32)), .val (.ref (ad 3))] [(.int (3 : Int32))])) t → Steps p.tables e below (s₁.setTop (entryFrame m #[(.int (5 : Int32))] 5)) t := fun t k => ch15 t (by
      show Steps p.tables e below (T14.setTop (mkF m 24 #[.val (.int (5 : Int32)), .val (.ref rv), .val (.int (9 : Int32)), .val (.int (2 : Int32)), .val (.ref (ad 2))] [(.int (2 : Int32))])) t
      refine XS.iloadN X14.here hx rfl (hb hby own_d_prog_38_method_5_code_24) rfl ?_
      show Steps p.tables e below (T14.setTop (mkF m 25 #[.val (.int (5 : Int32)), .val (.ref rv), .val (.int (9 : Int32)), .val (.int (2 : Int32)), .val (.ref (ad 2))] [(.int (5 : Int32)), (.int (2 : Int32))])) t
      refine XS.icmpYes X14.here hx rfl (pc0 := 25) (pc' := 31) rfl (hb hby own_d_prog_38_method_5_code_25) rfl (feq (by decide : ¬ (2 : Int32) = (5 : Int32))).2 (by decide) (by decide) ?_
      show Steps p.tables e below (T14.setTop (mkF m 31 #[.val (.int (5 : Int32)), .val (.ref rv), .val (.int (9 : Int32)), .val (.int (2 : Int32)), .val (.ref (ad 2))] [])) t
      refine Jvm.Free.XT.iincV X14.here hx rfl (1 : Int32) (hb hby own_d_prog_38_method_5_code_31) (by decide) rfl (l' := #[.val (.int (5 : Int32)), .val (.ref rv), .val (.int (9 : Int32)), .val (.int (3 : Int32)), .val (.ref (ad 2))]) (by rw [show ((2 : Int32) + (1 : Int32)) = (3 : Int32) from by decide]; rfl) ?_
      show Steps p.tables e below (T14.setTop (mkF m 34 #[.val (.int (5 : Int32)), .val (.ref rv), .val (.int (9 : Int32)), .val (.int (3 : Int32)), .val (.ref (ad 2))] [])) t
      refine XS.goto X14.here hx rfl (pc0 := 34) (pc' := 9) rfl (hb hby own_d_prog_38_method_5_code_34) (by decide) (by decide) ?_
      show Steps p.tables e below (T14.setTop (mkF m 9 #[.val (.int (5 : Int32)), .val (.ref rv), .val (.int (9 : Int32)), .val (.int (3 : Int32)), .val (.ref (ad 2))] [])) t
      refine XS.iloadN X14.here hx rfl (hb hby own_d_prog_38_method_5_code_9) rfl ?_
      show Steps p.tables e below (T14.setTop (mkF m 10 #[.val (.int (5 : Int32)), .val (.ref rv), .val (.int (9 : Int32)), .val (.int (3 : Int32)), .val (.ref (ad 2))] [(.int (3 : Int32))])) t
      refine XS.iloadN X14.here hx rfl (hb hby own_d_prog_38_method_5_code_10) rfl ?_
      show Steps p.tables e below (T14.setTop (mkF m 11 #[.val (.int (5 : Int32)), .val (.ref rv), .val (.int (9 : Int32)), .val (.int (3 : Int32)), .val (.ref (ad 2))] [(.int (9 : Int32)), (.int (3 : Int32))])) t
      refine XS.icmpNo X14.here hx rfl (hb hby own_d_prog_38_method_5_code_11) rfl (tlt (by decide : (3 : Int32) < (9 : Int32))).2.1 ?_
      show Steps p.tables e below (T14.setTop (mkF m 14 #[.val (.int (5 : Int32)), .val (.ref rv), .val (.int (9 : Int32)), .val (.int (3 : Int32)), .val (.ref (ad 2))] [])) t
      refine XS.aloadN X14.here hx rfl (hb hby own_d_prog_38_method_5_code_14) rfl rfl ?_
      show Steps p.tables e below (T14.setTop (mkF m 15 #[.val (.int (5 : Int32)), .val (.ref rv), .val (.int (9 : Int32)), .val (.int (3 : Int32)), .val (.ref (ad 2))] [(.ref rv)])) t
      refine XS.iloadN X14.here hx rfl (hb hby own_d_prog_38_method_5_code_15) rfl ?_
      show Steps p.tables e below (T14.setTop (mkF m 16 #[.val (.int (5 : Int32)), .val (.ref rv), .val (.int (9 : Int32)), .val (.int (3 : Int32)), .val (.ref (ad 2))] [(.int (3 : Int32)), (.ref rv)])) t
      refine X14.aaload hx (j := (3 : Int32)) (v := (.ref (ad 3))) (by rw [e14]; exact Ar16.1) (State.isArrayOf_alike hZ.alike Ar16.2.1) rfl Ar16.2.2 hin16 hat16 (g := (mkF m 16 #[.val (.int (5 : Int32)), .val (.ref rv), .val (.int (9 : Int32)), .val (.int (3 : Int32)), .val (.ref (ad 2))] [(.int (3 : Int32)), (.ref rv)])) rfl rfl (hb hby own_d_prog_38_method_5_code_16) _ ?_
      show Steps p.tables e below (T14.setTop (mkF m 17 #[.val (.int (5 : Int32)), .val (.ref rv), .val (.int (9 : Int32)), .val (.int (3 : Int32)), .val (.ref (ad 2))] [(.ref (ad 3))])) t
      refine XS.astore X14.here hx rfl (hb hby own_d_prog_38_method_5_code_17) rfl rfl (l' := #[.val (.int (5 : Int32)), .val (.ref rv), .val (.int (9 : Int32)), .val (.int (3 : Int32)), .val (.ref (ad 3))]) rfl ?_
      show Steps p.tables e below (T14.setTop (mkF m 19 #[.val (.int (5 : Int32)), .val (.ref rv), .val (.int (9 : Int32)), .val (.int (3 : Int32)), .val (.ref (ad 3))] [])) t
      refine XS.aload X14.here hx rfl (hb hby own_d_prog_38_method_5_code_19) rfl rfl ?_
      show Steps p.tables e below (T14.setTop (mkF m 21 #[.val (.int (5 : Int32)), .val (.ref rv), .val (.int (9 : Int32)), .val (.int (3 : Int32)), .val (.ref (ad 3))] [(.ref (ad 3))])) t
      exact st18 t k)
  obtain ⟨cl20, Ar20, -, Sz20, Ng20, Ha20, -⟩ := id fq1_0
  have hin20 : ¬ ((4 : Int32) < 0 ∨ cl20.slots.size ≤ ((4 : Int32)).toNatClampNeg) := inb_of Sz20 (by decide)
  have hat20 : cl20.slots[((4 : Int32)).toNatClampNeg]? = some (.ref (ad 4)) := Ha20.at hin20 rfl
  have cf21 := ((own_F_UNSUPPORTED_KEY_code W).keep Kp1 nin0)
  obtain ⟨T22, X22, e22, st22⟩ := getF X18 hx hZ hown (host := "") (Or.inl (hw _ (List.mem_of_getElem? (i := 29) rfl))) Via.refl e18 cf21 (g := (mkF m 21 #[.val (.int (5 : Int32)), .val (.ref rv), .val (.int (9 : Int32)), .val (.int (4 : Int32)), .val (.ref (ad 4))] [(.ref (ad 4))])) rfl rfl (hb hby own_d_prog_38_method_5_code_21)
  have ch23 : ∀ t, Steps p.tables e below (T22.setTop (mkF m 24 #[.val (.int (5 : Int32)), .val (.ref rv), .val (.int (9 : Int32)), .val (.int (4 : Int32)), .val (.ref (ad 4))] [(.int (4 : Int32))])) t → Steps p.tables e below (s₁.setTop (entryFrame m #[(.int (5 : Int32))] 5)) t := fun t k => ch19 t (by
      show Steps p.tables e below (T18.setTop (mkF m 24 #[.val (.int (5 : Int32)), .val (.ref rv), .val (.int (9 : Int32)), .val (.int (3 : Int32)), .val (.ref (ad 3))] [(.int (3 : Int32))])) t
      refine XS.iloadN X18.here hx rfl (hb hby own_d_prog_38_method_5_code_24) rfl ?_
      show Steps p.tables e below (T18.setTop (mkF m 25 #[.val (.int (5 : Int32)), .val (.ref rv), .val (.int (9 : Int32)), .val (.int (3 : Int32)), .val (.ref (ad 3))] [(.int (5 : Int32)), (.int (3 : Int32))])) t
      refine XS.icmpYes X18.here hx rfl (pc0 := 25) (pc' := 31) rfl (hb hby own_d_prog_38_method_5_code_25) rfl (feq (by decide : ¬ (3 : Int32) = (5 : Int32))).2 (by decide) (by decide) ?_
      show Steps p.tables e below (T18.setTop (mkF m 31 #[.val (.int (5 : Int32)), .val (.ref rv), .val (.int (9 : Int32)), .val (.int (3 : Int32)), .val (.ref (ad 3))] [])) t
      refine Jvm.Free.XT.iincV X18.here hx rfl (1 : Int32) (hb hby own_d_prog_38_method_5_code_31) (by decide) rfl (l' := #[.val (.int (5 : Int32)), .val (.ref rv), .val (.int (9 : Int32)), .val (.int (4 : Int32)), .val (.ref (ad 3))]) (by rw [show ((3 : Int32) + (1 : Int32)) = (4 : Int32) from by decide]; rfl) ?_
      show Steps p.tables e below (T18.setTop (mkF m 34 #[.val (.int (5 : Int32)), .val (.ref rv), .val (.int (9 : Int32)), .val (.int (4 : Int32)), .val (.ref (ad 3))] [])) t
      refine XS.goto X18.here hx rfl (pc0 := 34) (pc' := 9) rfl (hb hby own_d_prog_38_method_5_code_34) (by decide) (by decide) ?_
      show Steps p.tables e below (T18.setTop (mkF m 9 #[.val (.int (5 : Int32)), .val (.ref rv), .val (.int (9 : Int32)), .val (.int (4 : Int32)), .val (.ref (ad 3))] [])) t
      refine XS.iloadN X18.here hx rfl (hb hby own_d_prog_38_method_5_code_9) rfl ?_
      show Steps p.tables e below (T18.setTop (mkF m 10 #[.val (.int (5 : Int32)), .val (.ref rv), .val (.int (9 : Int32)), .val (.int (4 : Int32)), .val (.ref (ad 3))] [(.int (4 : Int32))])) t
      refine XS.iloadN X18.here hx rfl (hb hby own_d_prog_38_method_5_code_10) rfl ?_
      show Steps p.tables e below (T18.setTop (mkF m 11 #[.val (.int (5 : Int32)), .val (.ref rv), .val (.int (9 : Int32)), .val (.int (4 : Int32)), .val (.ref (ad 3))] [(.int (9 : Int32)), (.int (4 : Int32))])) t
      refine XS.icmpNo X18.here hx rfl (hb hby own_d_prog_38_method_5_code_11) rfl (tlt (by decide : (4 : Int32) < (9 : Int32))).2.1 ?_
      show Steps p.tables e below (T18.setTop (mkF m 14 #[.val (.int (5 : Int32)), .val (.ref rv), .val (.int (9 : Int32)), .val (.int (4 : Int32)), .val (.ref (ad 3))] [])) t
      refine XS.aloadN X18.here hx rfl (hb hby own_d_prog_38_method_5_code_14) rfl rfl ?_
      show Steps p.tables e below (T18.setTop (mkF m 15 #[.val (.int (5 : Int32)), .val (.ref rv), .val (.int (9 : Int32)), .val (.int (4 : Int32)), .val (.ref (ad 3))] [(.ref rv)])) t
      refine XS.iloadN X18.here hx rfl (hb hby own_d_prog_38_method_5_code_15) rfl ?_
      show Steps p.tables e below (T18.setTop (mkF m 16 #[.val (.int (5 : Int32)), .val (.ref rv), .val (.int (9 : Int32)), .val (.int (4 : Int32)), .val (.ref (ad 3))] [(.int (4 : Int32)), (.ref rv)])) t
      refine X18.aaload hx (j := (4 : Int32)) (v := (.ref (ad 4))) (by rw [e18]; exact Ar20.1) (State.isArrayOf_alike hZ.alike Ar20.2.1) rfl Ar20.2.2 hin20 hat20 (g := (mkF m 16 #[.val (.int (5 : Int32)), .val (.ref rv), .val (.int (9 : Int32)), .val (.int (4 : Int32)), .val (.ref (ad 3))] [(.int (4 : Int32)), (.ref rv)])) rfl rfl (hb hby own_d_prog_38_method_5_code_16) _ ?_
      show Steps p.tables e below (T18.setTop (mkF m 17 #[.val (.int (5 : Int32)), .val (.ref rv), .val (.int (9 : Int32)), .val (.int (4 : Int32)), .val (.ref (ad 3))] [(.ref (ad 4))])) t
      refine XS.astore X18.here hx rfl (hb hby own_d_prog_38_method_5_code_17) rfl rfl (l' := #[.val (.int (5 : Int32)), .val (.ref rv), .val (.int (9 : Int32)), .val (.int (4 : Int32)), .val (.ref (ad 4))]) rfl ?_
      show Steps p.tables e below (T18.setTop (mkF m 19 #[.val (.int (5 : Int32)), .val (.ref rv), .val (.int (9 : Int32)), .val (.int (4 : Int32)), .val (.ref (ad 4))] [])) t
      refine XS.aload X18.here hx rfl (hb hby own_d_prog_38_method_5_code_19) rfl rfl ?_
      show Steps p.tables e below (T18.setTop (mkF m 21 #[.val (.int (5 : Int32)), .val (.ref rv), .val (.int (9 : Int32)), .val (.int (4 : Int32)), .val (.ref (ad 4))] [(.ref (ad 4))])) t
      exact st22 t k)
  obtain ⟨cl24, Ar24, -, Sz24, Ng24, Ha24, -⟩ := id fq1_0
  have hin24 : ¬ ((5 : Int32) < 0 ∨ cl24.slots.size ≤ ((5 : Int32)).toNatClampNeg) := inb_of Sz24 (by decide)
  have hat24 : cl24.slots[((5 : Int32)).toNatClampNeg]? = some (.ref (ad 5)) := Ha24.at hin24 rfl
  have cf25 := ((own_F_PERMISSION_DENIED_code W).keep Kp1 nin0)
  obtain ⟨T26, X26, e26, st26⟩ := getF X22 hx hZ hown (host := "") (Or.inl (hw _ (List.mem_of_getElem? (i := 29) rfl))) Via.refl e22 cf25 (g := (mkF m 21 #[.val (.int (5 : Int32)), .val (.ref rv), .val (.int (9 : Int32)), .val (.int (5 : Int32)), .val (.ref (ad 5))] [(.ref (ad 5))])) rfl rfl (hb hby own_d_prog_38_method_5_code_21)
  have ch27 : ∀ t, Steps p.tables e below (T26.setTop (mkF m 24 #[.val (.int (5 : Int32)), .val (.ref rv), .val (.int (9 : Int32)), .val (.int (5 : Int32)), .val (.ref (ad 5))] [(.int (5 : Int32))])) t → Steps p.tables e below (s₁.setTop (entryFrame m #[(.int (5 : Int32))] 5)) t := fun t k => ch23 t (by
      show Steps p.tables e below (T22.setTop (mkF m 24 #[.val (.int (5 : Int32)), .val (.ref rv), .val (.int (9 : Int32)), .val (.int (4 : Int32)), .val (.ref (ad 4))] [(.int (4 : Int32))])) t
      refine XS.iloadN X22.here hx rfl (hb hby own_d_prog_38_method_5_code_24) rfl ?_
      show Steps p.tables e below (T22.setTop (mkF m 25 #[.val (.int (5 : Int32)), .val (.ref rv), .val (.int (9 : Int32)), .val (.int (4 : Int32)), .val (.ref (ad 4))] [(.int (5 : Int32)), (.int (4 : Int32))])) t
      refine XS.icmpYes X22.here hx rfl (pc0 := 25) (pc' := 31) rfl (hb hby own_d_prog_38_method_5_code_25) rfl (feq (by decide : ¬ (4 : Int32) = (5 : Int32))).2 (by decide) (by decide) ?_
      show Steps p.tables e below (T22.setTop (mkF m 31 #[.val (.int (5 : Int32)), .val (.ref rv), .val (.int (9 : Int32)), .val (.int (4 : Int32)), .val (.ref (ad 4))] [])) t
      refine Jvm.Free.XT.iincV X22.here hx rfl (1 : Int32) (hb hby own_d_prog_38_method_5_code_31) (by decide) rfl (l' := #[.val (.int (5 : Int32)), .val (.ref rv), .val (.int (9 : Int32)), .val (.int (5 : Int32)), .val (.ref (ad 4))]) (by rw [show ((4 : Int32) + (1 : Int32)) = (5 : Int32) from by decide]; rfl) ?_
      show Steps p.tables e below (T22.setTop (mkF m 34 #[.val (.int (5 : Int32)), .val (.ref rv), .val (.int (9 : Int32)), .val (.int (5 : Int32)), .val (.ref (ad 4))] [])) t
      refine XS.goto X22.here hx rfl (pc0 := 34) (pc' := 9) rfl (hb hby own_d_prog_38_method_5_code_34) (by decide) (by decide) ?_
      show Steps p.tables e below (T22.setTop (mkF m 9 #[.val (.int (5 : Int32)), .val (.ref rv), .val (.int (9 : Int32)), .val (.int (5 : Int32)), .val (.ref (ad 4))] [])) t
      refine XS.iloadN X22.here hx rfl (hb hby own_d_prog_38_method_5_code_9) rfl ?_
      show Steps p.tables e below (T22.setTop (mkF m 10 #[.val (.int (5 : Int32)), .val (.ref rv), .val (.int (9 : Int32)), .val (.int (5 : Int32)), .val (.ref (ad 4))] [(.int (5 : Int32))])) t
      refine XS.iloadN X22.here hx rfl (hb hby own_d_prog_38_method_5_code_10) rfl ?_
      show Steps p.tables e below (T22.setTop (mkF m 11 #[.val (.int (5 : Int32)), .val (.ref rv), .val (.int (9 : Int32)), .val (.int (5 : Int32)), .val (.ref (ad 4))] [(.int (9 : Int32)), (.int (5 : Int32))])) t
      refine XS.icmpNo X22.here hx rfl (hb hby own_d_prog_38_method_5_code_11) rfl (tlt (by decide : (5 : Int32) < (9 : Int32))).2.1 ?_
      show Steps p.tables e below (T22.setTop (mkF m 14 #[.val (.int (5 : Int32)), .val (.ref rv), .val (.int (9 : Int32)), .val (.int (5 : Int32)), .val (.ref (ad 4))] [])) t
      refine XS.aloadN X22.here hx rfl (hb hby own_d_prog_38_method_5_code_14) rfl rfl ?_
      show Steps p.tables e below (T22.setTop (mkF m 15 #[.val (.int (5 : Int32)), .val (.ref rv), .val (.int (9 : Int32)), .val (.int (5 : Int32)), .val (.ref (ad 4))] [(.ref rv)])) t
      refine XS.iloadN X22.here hx rfl (hb hby own_d_prog_38_method_5_code_15) rfl ?_
      show Steps p.tables e below (T22.setTop (mkF m 16 #[.val (.int (5 : Int32)), .val (.ref rv), .val (.int (9 : Int32)), .val (.int (5 : Int32)), .val (.ref (ad 4))] [(.int (5 : Int32)), (.ref rv)])) t
      refine X22.aaload hx (j := (5 : Int32)) (v := (.ref (ad 5))) (by rw [e22]; exact Ar24.1) (State.isArrayOf_alike hZ.alike Ar24.2.1) rfl Ar24.2.2 hin24 hat24 (g := (mkF m 16 #[.val (.int (5 : Int32)), .val (.ref rv), .val (.int (9 : Int32)), .val (.int (5 : Int32)), .val (.ref (ad 4))] [(.int (5 : Int32)), (.ref rv)])) rfl rfl (hb hby own_d_prog_38_method_5_code_16) _ ?_
      show Steps p.tables e below (T22.setTop (mkF m 17 #[.val (.int (5 : Int32)), .val (.ref rv), .val (.int (9 : Int32)), .val (.int (5 : Int32)), .val (.ref (ad 4))] [(.ref (ad 5))])) t
      refine XS.astore X22.here hx rfl (hb hby own_d_prog_38_method_5_code_17) rfl rfl (l' := #[.val (.int (5 : Int32)), .val (.ref rv), .val (.int (9 : Int32)), .val (.int (5 : Int32)), .val (.ref (ad 5))]) rfl ?_
      show Steps p.tables e below (T22.setTop (mkF m 19 #[.val (.int (5 : Int32)), .val (.ref rv), .val (.int (9 : Int32)), .val (.int (5 : Int32)), .val (.ref (ad 5))] [])) t
      refine XS.aload X22.here hx rfl (hb hby own_d_prog_38_method_5_code_19) rfl rfl ?_
      show Steps p.tables e below (T22.setTop (mkF m 21 #[.val (.int (5 : Int32)), .val (.ref rv), .val (.int (9 : Int32)), .val (.int (5 : Int32)), .val (.ref (ad 5))] [(.ref (ad 5))])) t
      exact st26 t k)
  have ch28 : ∀ t, Steps p.tables e below (T26.setTop (mkF m 30 #[.val (.int (5 : Int32)), .val (.ref rv), .val (.int (9 : Int32)), .val (.int (5 : Int32)), .val (.ref (ad 5))] [(.ref (ad 5))])) t → Steps p.tables e below (s₁.setTop (entryFrame m #[(.int (5 : Int32))] 5)) t := fun t k => ch27 t (by
      show Steps p.tables e below (T26.setTop (mkF m 24 #[.val (.int (5 : Int32)), .val (.ref rv), .val (.int (9 : Int32)), .val (.int (5 : Int32)), .val (.ref (ad 5))] [(.int (5 : Int32))])) t
      refine XS.iloadN X26.here hx rfl (hb hby own_d_prog_38_method_5_code_24) rfl ?_
      show Steps p.tables e below (T26.setTop (mkF m 25 #[.val (.int (5 : Int32)), .val (.ref rv), .val (.int (9 : Int32)), .val (.int (5 : Int32)), .val (.ref (ad 5))] [(.int (5 : Int32)), (.int (5 : Int32))])) t
      refine XS.icmpNo X26.here hx rfl (hb hby own_d_prog_38_method_5_code_25) rfl (teq (by decide : (5 : Int32) = (5 : Int32))).2 ?_
      show Steps p.tables e below (T26.setTop (mkF m 28 #[.val (.int (5 : Int32)), .val (.ref rv), .val (.int (9 : Int32)), .val (.int (5 : Int32)), .val (.ref (ad 5))] [])) t
      refine XS.aload X26.here hx rfl (hb hby own_d_prog_38_method_5_code_28) rfl rfl ?_
      exact k)
  obtain ⟨fs, hr, hrun, hended, hW, hsame⟩ := X26.leave (v := some (.ref (ad 5))) (fun h => by rw [Bd.returns] at h; cases h)
  refine ⟨_, _, ch28 _ ?_, hrun, hended, _, _, rfl, ?_, ⟨_, rfl⟩, hW, hsame.mono (by decide) (by decide)⟩
  · show Steps p.tables e below (T26.setTop (mkF m 30 #[.val (.int (5 : Int32)), .val (.ref rv), .val (.int (9 : Int32)), .val (.int (5 : Int32)), .val (.ref (ad 5))] [(.ref (ad 5))])) _
    jvm_step X26.here [X26.here.top, hx, (hb hby own_d_prog_38_method_5_code_30), X26.method', Bd.returns, Value.isRef, FieldType.isReference]
    first | (intro acts; rw [hr _ acts rfl rfl rfl]) | rw [hr _ _ rfl rfl rfl]
    exact Steps.refl _
  · show QK (some (.ref (ad 5))) h0 n0 _ T26.heap _
    rw [e26]
    exact ⟨rfl, N1, Kp1⟩
theorem own_ef_own_expd_5 (m : MethodId) {x0 : Int32} : entryFrame m #[(.int x0)] 1 = mkF m 0 #[.val (.int x0)] [] := by first | (simp [entryFrame, mkF, argsToLocals, Value.category, maxLocals]; done) | rfl
set_option maxRecDepth 65536 in
set_option maxHeartbeats 40000000 in
theorem own_expd_5 (l : Launch) (Z : State) (a0 : Array Value) (hw : ∀ d ∈ tables_1, d.before a0 Z = true) (ws : List Jvm.Cond) (h0 : Heap) (n0 : Nat) (Z0 : n0 ≤ h0.size) (ad : Nat → Addr) (a__VALUES : Addr) (k__VALUES : ClassId) (W : OwnWd Z h0 ad a__VALUES k__VALUES) :
    MetFree l (⟨"com/example/limpet/limpet/io/StatusFromCodePinLaw", "expected", "(I)Lcom/example/limpet/limpet/io/Status;"⟩ : MethodName) (head1 (Jvm.Cond.code (⟨"com/example/limpet/limpet/io/StatusFromCodePinLaw", "expected", "(I)Lcom/example/limpet/limpet/io/Status;"⟩ : MethodName) method_2_code 1 (some (.object "com/example/limpet/limpet/io/Status")) :: ws) ({ frames := 0, cells := 0, slots := 0, locals := 0 } : Room)) (fun a U => a = #[(.int (5 : Int32))] ∧ Z.Warmed39 U.vm ∧ U.heap = h0) (fun _ _ _ _ _ => True) (fun _ U o U' => ∃ v L, o = .returned v ∧ QV (some (.ref (ad 5))) h0 n0 v U'.heap L ∧ FrameEnd U o U' L ({ frames := 0, cells := 0, slots := 0, locals := 0 } : Room).cells ({ frames := 0, cells := 0, slots := 0, locals := 0 } : Room).slots) := by
  refine MetFree.of_bodySF (plainFor_of_name own_pn_com_example_limpet_limpet_io_StatusFromCodePinLaw) hisR ?_
  intro p e s m args below meth c s₁ Bd hml0 hP hK
  obtain ⟨rfl, hZ, hh⟩ := hP
  have hx := Bd.exec
  have hby := Bd.bytes
  have hml : c.maxLocals = 1 := hml0
  have hown : s.vm.findClass "com/example/limpet/limpet/io/StatusFromCodePinLaw" = some m.cls := findClass_of_methodNamed Bd.named
  have hnm := (name_of_methodNamed Bd.named Bd.method).1
  have X0 : Stand p l e ({ frames := 0, cells := 0, slots := 0, locals := 0 } : Room) s m #[(.int (5 : Int32))] below meth c s₁ [] 0 0 := Stand.of_body Bd
  have e0 : s₁.heap = h0 := by rw [← hh, Bd.state]; rfl
  have N0 := Fr.nil n0
  have pre0 : ∀ t, Steps p.tables e below (s₁.setTop (mkF m 0 #[.val (.int (5 : Int32))] [])) t → Steps p.tables e below (s₁.setTop (entryFrame m #[(.int (5 : Int32))] 1)) t := fun t k => castTop (own_ef_own_expd_5 m) k
  obtain ⟨T1, X1, e1, st1⟩ := getS2 X0 hx hZ hown (host := "") (Or.inl (hw _ (List.mem_of_getElem? (i := 48) rfl))) Via.refl e0 (own_S_PERMISSION_DENIED W) (g := (mkF m 49 #[.val (.int (5 : Int32))] [])) rfl (hb hby own_d_method_2_code_49)
  have ch2 : ∀ t, Steps p.tables e below (T1.setTop (mkF m 52 #[.val (.int (5 : Int32))] [(.ref (ad 5))])) t → Steps p.tables e below (s₁.setTop (entryFrame m #[(.int (5 : Int32))] 1)) t := fun t k => pre0 t (by
      show Steps p.tables e below (s₁.setTop (mkF m 0 #[.val (.int (5 : Int32))] [])) t
      refine XS.iloadN X0.here hx rfl (hb hby own_d_method_2_code_0) rfl ?_
      show Steps p.tables e below (s₁.setTop (mkF m 1 #[.val (.int (5 : Int32))] [(.int (5 : Int32))])) t
      refine XS.ifYes X0.here hx rfl (pc0 := 1) (pc' := 8) rfl (hb hby own_d_method_2_code_1) rfl ((if0 _ _).trans (feq (by decide : ¬ (5 : Int32) = (0 : Int32))).2) (by decide) (by decide) ?_
      show Steps p.tables e below (s₁.setTop (mkF m 8 #[.val (.int (5 : Int32))] [])) t
      refine XS.iloadN X0.here hx rfl (hb hby own_d_method_2_code_8) rfl ?_
      show Steps p.tables e below (s₁.setTop (mkF m 9 #[.val (.int (5 : Int32))] [(.int (5 : Int32))])) t
      refine XS.iconst X0.here hx rfl (hb hby own_d_method_2_code_9) ?_
      show Steps p.tables e below (s₁.setTop (mkF m 10 #[.val (.int (5 : Int32))] [(.int (1 : Int32)), (.int (5 : Int32))])) t
      refine XS.icmpYes X0.here hx rfl (pc0 := 10) (pc' := 17) rfl (hb hby own_d_method_2_code_10) rfl (feq (by decide : ¬ (5 : Int32) = (1 : Int32))).2 (by decide) (by decide) ?_
      show Steps p.tables e below (s₁.setTop (mkF m 17 #[.val (.int (5 : Int32))] [])) t
      refine XS.iloadN X0.here hx rfl (hb hby own_d_method_2_code_17) rfl ?_
      show Steps p.tables e below (s₁.setTop (mkF m 18 #[.val (.int (5 : Int32))] [(.int (5 : Int32))])) t
      refine XS.iconst X0.here hx rfl (hb hby own_d_method_2_code_18) ?_
      show Steps p.tables e below (s₁.setTop (mkF m 19 #[.val (.int (5 : Int32))] [(.int (2 : Int32)), (.int (5 : Int32))])) t
      refine XS.icmpYes X0.here hx rfl (pc0 := 19) (pc' := 26) rfl (hb hby own_d_method_2_code_19) rfl (feq (by decide : ¬ (5 : Int32) = (2 : Int32))).2 (by decide) (by decide) ?_
      show Steps p.tables e below (s₁.setTop (mkF m 26 #[.val (.int (5 : Int32))] [])) t
      refine XS.iloadN X0.here hx rfl (hb hby own_d_method_2_code_26) rfl ?_
      show Steps p.tables e below (s₁.setTop (mkF m 27 #[.val (.int (5 : Int32))] [(.int (5 : Int32))])) t
      refine XS.iconst X0.here hx rfl (hb hby own_d_method_2_code_27) ?_
      show Steps p.tables e below (s₁.setTop (mkF m 28 #[.val (.int (5 : Int32))] [(.int (3 : Int32)), (.int (5 : Int32))])) t
      refine XS.icmpYes X0.here hx rfl (pc0 := 28) (pc' := 35) rfl (hb hby own_d_method_2_code_28) rfl (feq (by decide : ¬ (5 : Int32) = (3 : Int32))).2 (by decide) (by decide) ?_
      show Steps p.tables e below (s₁.setTop (mkF m 35 #[.val (.int (5 : Int32))] [])) t
      refine XS.iloadN X0.here hx rfl (hb hby own_d_method_2_code_35) rfl ?_
      show Steps p.tables e below (s₁.setTop (mkF m 36 #[.val (.int (5 : Int32))] [(.int (5 : Int32))])) t
      refine XS.iconst X0.here hx rfl (hb hby own_d_method_2_code_36) ?_
      show Steps p.tables e below (s₁.setTop (mkF m 37 #[.val (.int (5 : Int32))] [(.int (4 : Int32)), (.int (5 : Int32))])) t
      refine XS.icmpYes X0.here hx rfl (pc0 := 37) (pc' := 44) rfl (hb hby own_d_method_2_code_37) rfl (feq (by decide : ¬ (5 : Int32) = (4 : Int32))).2 (by decide) (by decide) ?_
      show Steps p.tables e below (s₁.setTop (mkF m 44 #[.val (.int (5 : Int32))] [])) t
      refine XS.iloadN X0.here hx rfl (hb hby own_d_method_2_code_44) rfl ?_
      show Steps p.tables e below (s₁.setTop (mkF m 45 #[.val (.int (5 : Int32))] [(.int (5 : Int32))])) t
      refine XS.iconst X0.here hx rfl (hb hby own_d_method_2_code_45) ?_
      show Steps p.tables e below (s₁.setTop (mkF m 46 #[.val (.int (5 : Int32))] [(.int (5 : Int32)), (.int (5 : Int32))])) t
      refine XS.icmpNo X0.here hx rfl (hb hby own_d_method_2_code_46) rfl (teq (by decide : (5 : Int32) = (5 : Int32))).2 ?_
      show Steps p.tables e below (s₁.setTop (mkF m 49 #[.val (.int (5 : Int32))] [])) t
      exact st1 t k)
  obtain ⟨fs, hr, hrun, hended, hW, hsame⟩ := X1.leave (v := some (.ref (ad 5))) (fun h => by rw [Bd.returns] at h; cases h)
  refine ⟨_, _, ch2 _ ?_, hrun, hended, _, _, rfl, ?_, ⟨_, rfl⟩, hW, hsame.mono (by decide) (by decide)⟩
  · show Steps p.tables e below (T1.setTop (mkF m 52 #[.val (.int (5 : Int32))] [(.ref (ad 5))])) _
    jvm_step X1.here [X1.here.top, hx, (hb hby own_d_method_2_code_52), X1.method', Bd.returns, Value.isRef, FieldType.isReference]
    first | (intro acts; rw [hr _ acts rfl rfl rfl]) | rw [hr _ _ rfl rfl rfl]
    exact Steps.refl _
  · show QV (some (.ref (ad 5))) h0 n0 _ T1.heap _
    rw [e1]
    exact ⟨rfl, N0, rfl⟩
theorem own_ef_own_code_5 (m : MethodId) {x0 : Addr} : entryFrame m #[(.ref x0)] 1 = mkF m 0 #[.val (.ref x0)] [] := by first | (simp [entryFrame, mkF, argsToLocals, Value.category, maxLocals]; done) | rfl
set_option maxRecDepth 65536 in
set_option maxHeartbeats 40000000 in
theorem own_code_5 (l : Launch) (Z : State) (a0 : Array Value) (hw : ∀ d ∈ tables_1, d.before a0 Z = true) (ws : List Jvm.Cond) (h0 : Heap) (n0 : Nat) (Z0 : n0 ≤ h0.size) (ad : Nat → Addr) (a__VALUES : Addr) (k__VALUES : ClassId) (W : OwnWd Z h0 ad a__VALUES k__VALUES) :
    MetFree l (⟨"com/example/limpet/limpet/io/Status", "code", "()I"⟩ : MethodName) (head1 (Jvm.Cond.code (⟨"com/example/limpet/limpet/io/Status", "code", "()I"⟩ : MethodName) prog_38_method_4_code 1 (some .int) :: ws) ({ frames := 0, cells := 0, slots := 0, locals := 0 } : Room)) (fun a U => a = #[(.ref (ad 5))] ∧ Z.Warmed39 U.vm ∧ U.heap = h0) (fun _ _ _ _ _ => True) (fun _ U o U' => ∃ v L, o = .returned v ∧ QV (some (.int (5 : Int32))) h0 n0 v U'.heap L ∧ FrameEnd U o U' L ({ frames := 0, cells := 0, slots := 0, locals := 0 } : Room).cells ({ frames := 0, cells := 0, slots := 0, locals := 0 } : Room).slots) := by
  refine MetFree.of_bodySF (plainFor_of_name own_pn_com_example_limpet_limpet_io_Status) hisR ?_
  intro p e s m args below meth c s₁ Bd hml0 hP hK
  obtain ⟨rfl, hZ, hh⟩ := hP
  have hx := Bd.exec
  have hby := Bd.bytes
  have hml : c.maxLocals = 1 := hml0
  have hown : s.vm.findClass "com/example/limpet/limpet/io/Status" = some m.cls := findClass_of_methodNamed Bd.named
  have hnm := (name_of_methodNamed Bd.named Bd.method).1
  have X0 : Stand p l e ({ frames := 0, cells := 0, slots := 0, locals := 0 } : Room) s m #[(.ref (ad 5))] below meth c s₁ [] 0 0 := Stand.of_body Bd
  have e0 : s₁.heap = h0 := by rw [← hh, Bd.state]; rfl
  have N0 := Fr.nil n0
  have pre0 : ∀ t, Steps p.tables e below (s₁.setTop (mkF m 0 #[.val (.ref (ad 5))] [])) t → Steps p.tables e below (s₁.setTop (entryFrame m #[(.ref (ad 5))] 1)) t := fun t k => castTop (own_ef_own_code_5 m) k
  obtain ⟨T1, X1, e1, st1⟩ := getF X0 hx hZ hown (host := "") (Or.inl (hw _ (List.mem_of_getElem? (i := 29) rfl))) Via.refl e0 (own_F_PERMISSION_DENIED_code W) (g := (mkF m 1 #[.val (.ref (ad 5))] [(.ref (ad 5))])) rfl rfl (hb hby own_d_prog_38_method_4_code_1)
  have ch2 : ∀ t, Steps p.tables e below (T1.setTop (mkF m 4 #[.val (.ref (ad 5))] [(.int (5 : Int32))])) t → Steps p.tables e below (s₁.setTop (entryFrame m #[(.ref (ad 5))] 1)) t := fun t k => pre0 t (by
      show Steps p.tables e below (s₁.setTop (mkF m 0 #[.val (.ref (ad 5))] [])) t
      refine XS.aloadN X0.here hx rfl (hb hby own_d_prog_38_method_4_code_0) rfl rfl ?_
      show Steps p.tables e below (s₁.setTop (mkF m 1 #[.val (.ref (ad 5))] [(.ref (ad 5))])) t
      exact st1 t k)
  obtain ⟨fs, hr, hrun, hended, hW, hsame⟩ := X1.leave (v := some (.int (5 : Int32))) (fun h => by rw [Bd.returns] at h; cases h)
  refine ⟨_, _, ch2 _ ?_, hrun, hended, _, _, rfl, ?_, ⟨_, rfl⟩, hW, hsame.mono (by decide) (by decide)⟩
  · show Steps p.tables e below (T1.setTop (mkF m 4 #[.val (.ref (ad 5))] [(.int (5 : Int32))])) _
    exact retI X1 hx Bd.returns (hb hby own_d_prog_38_method_4_code_4) hr
  · show QV (some (.int (5 : Int32))) h0 n0 _ T1.heap _
    rw [e1]
    exact ⟨rfl, N0, rfl⟩
theorem own_ef_own_law_5 (m : MethodId) {x0 : Int32} : entryFrame m #[(.int x0)] maxLocals = mkF m 0 #[.val (.int x0), .unset, .unset, .unset] [] := by first | (simp [entryFrame, mkF, argsToLocals, Value.category, maxLocals]; done) | rfl
set_option maxRecDepth 65536 in
set_option maxHeartbeats 40000000 in
theorem own_law_5 (l : Launch) (Z : State) (a0 : Array Value) (hw : ∀ d ∈ tables_1, d.before a0 Z = true) (ws : List Jvm.Cond) (h0 : Heap) (n0 : Nat) (Z0 : n0 ≤ h0.size) (p1 : Int32) (hk : (p1 &&& (2147483647 : Int32)) % (9 : Int32) = (5 : Int32)) (ad : Nat → Addr) (a__VALUES : Addr) (k__VALUES : ClassId) (W : OwnWd Z h0 ad a__VALUES k__VALUES) :
    MetFree l x (head1 (Jvm.Cond.code x code maxLocals ret :: ws) room_1) (fun a U => a = #[(.int p1)] ∧ Z.Warmed39 U.vm ∧ U.heap = h0) (fun _ _ _ _ _ => True) (fun _ U o U' => ∃ v L, o = .returned v ∧ QN (some (.int (1 : Int32))) n0 v U'.heap L ∧ FrameEnd U o U' L room_1.cells room_1.slots) := by
  refine MetFree.of_bodySF (plainFor_of_name own_pn_com_example_limpet_limpet_io_StatusFromCodePinLaw) hisR ?_
  intro p e s m args below meth c s₁ Bd hml0 hP hK
  obtain ⟨rfl, hZ, hh⟩ := hP
  have hx := Bd.exec
  have hby := Bd.bytes
  have hml : c.maxLocals = 4 := hml0
  have hown : s.vm.findClass "com/example/limpet/limpet/io/StatusFromCodePinLaw" = some m.cls := findClass_of_methodNamed Bd.named
  have hnm := (name_of_methodNamed Bd.named Bd.method).1
  have X0 : Stand p l e room_1 s m #[(.int p1)] below meth c s₁ [] 0 0 := Stand.of_body Bd
  have e0 : s₁.heap = h0 := by rw [← hh, Bd.state]; rfl
  have N0 := Fr.nil n0
  have pre0 : ∀ t, Steps p.tables e below (s₁.setTop (mkF m 0 #[.val (.int p1), .unset, .unset, .unset] [])) t → Steps p.tables e below (s₁.setTop (entryFrame m #[(.int p1)] maxLocals)) t := fun t k => castTop (own_ef_own_law_5 m) k
  obtain ⟨vv1, _, ⟨T1, L1, kk1, nn1⟩, -, X1, ⟨Lc1, hQ1, l1, y1, z1⟩, st1⟩ := Jvm.LawKit.callS X0 hx (y := (⟨"com/example/limpet/limpet/io/Status", "fromCode", "(I)Lcom/example/limpet/limpet/io/Status;"⟩ : MethodName)) hown (mvT hZ (hw _ (List.mem_of_getElem? (i := 1) rfl))) (mvT hZ (hw _ (List.mem_of_getElem? (i := 2) rfl))) (mvT hZ (hw _ (List.mem_of_getElem? (i := 3) rfl))) (mvT hZ (hw _ (List.mem_of_getElem? (i := 4) rfl))) (by decide) (backOf (W := 0) (own_from_5 l Z a0 hw [] h0 n0 (Nat.le_trans Z0 (Keep.refl h0 []).1) ad a__VALUES k__VALUES W) hZ (hw _ (List.mem_of_getElem? (i := 4) rfl)) (hw _ (List.mem_of_getElem? (i := 3) rfl)) (by decide) (by decide)) (g := (mkF m 9 #[.val (.int p1), .val (.int (5 : Int32)), .unset, .unset] [(.int (5 : Int32))])) rfl (by rw [hml]; rfl) (argsL := [(.int (5 : Int32))]) (rest := []) (lenOf own_pd__I_Lcom_example_limpet_limpet_io_Status_ rfl) rfl (by show 2 * 0 + _ ≤ _; exact Nat.le_of_eq rfl) (hb hby at_9) (fun _ _ => ⟨rfl, e0, (by decide : 0 + 1 ≤ _), (by decide : 0 + 9 ≤ _)⟩)
  dsimp only [Pt.U, Pt.locs, Pt.cells, Pt.slots] at X1 l1 y1 z1 st1 hQ1
  subst l1 y1 z1
  obtain ⟨hh1, eh1⟩ : ∃ h, T1.heap = h := ⟨_, rfl⟩
  rw [eh1] at hQ1
  obtain ⟨rfl, Nq1, Kq1⟩ := hQ1
  have N1 := Fr.app N0 Nq1
  have Kp1 := Keep.trans (Keep.refl h0 []) Kq1 all0
  have ch2 : ∀ t, Steps p.tables e below (T1.setTop (mkF m 12 #[.val (.int p1), .val (.int (5 : Int32)), .unset, .unset] [(.ref (ad 5))])) t → Steps p.tables e below (s₁.setTop (entryFrame m #[(.int p1)] maxLocals)) t := fun t k => pre0 t (by
      show Steps p.tables e below (s₁.setTop (mkF m 0 #[.val (.int p1), .unset, .unset, .unset] [])) t
      refine XS.iloadN X0.here hx rfl (hb hby at_0) rfl ?_
      show Steps p.tables e below (s₁.setTop (mkF m 1 #[.val (.int p1), .unset, .unset, .unset] [(.int p1)])) t
      refine X0.ldcInt hx hown (mvT hZ (hw _ (List.mem_of_getElem? (i := 0) rfl))) (g := (mkF m 1 #[.val (.int p1), .unset, .unset, .unset] [(.int p1)])) rfl (hb hby at_1) _ ?_
      show Steps p.tables e below (s₁.setTop (mkF m 3 #[.val (.int p1), .unset, .unset, .unset] [(.int (2147483647 : Int32)), (.int p1)])) t
      refine XS.iand X0.here hx rfl (hb hby at_3) rfl ?_
      show Steps p.tables e below (s₁.setTop (mkF m 4 #[.val (.int p1), .unset, .unset, .unset] [(.int (p1 &&& (2147483647 : Int32)))])) t
      refine XS.bipush X0.here hx rfl (hb hby at_4) ?_
      show Steps p.tables e below (s₁.setTop (mkF m 6 #[.val (.int p1), .unset, .unset, .unset] [(.int (9 : Int32)), (.int (p1 &&& (2147483647 : Int32)))])) t
      refine Jvm.RoadKit.iremM (g := (mkF m 6 #[.val (.int p1), .unset, .unset, .unset] [(.int (9 : Int32)), (.int (p1 &&& (2147483647 : Int32)))])) X0 hx rfl (hb hby at_6) rfl (by decide) ?_
      rw [hk]
      show Steps p.tables e below (s₁.setTop (mkF m 7 #[.val (.int p1), .unset, .unset, .unset] [(.int (5 : Int32))])) t
      refine XS.istoreN X0.here hx rfl (hb hby at_7) rfl (l' := #[.val (.int p1), .val (.int (5 : Int32)), .unset, .unset]) rfl ?_
      show Steps p.tables e below (s₁.setTop (mkF m 8 #[.val (.int p1), .val (.int (5 : Int32)), .unset, .unset] [])) t
      refine XS.iloadN X0.here hx rfl (hb hby at_8) rfl ?_
      show Steps p.tables e below (s₁.setTop (mkF m 9 #[.val (.int p1), .val (.int (5 : Int32)), .unset, .unset] [(.int (5 : Int32))])) t
      exact st1 t k)
  obtain ⟨vv3, _, ⟨T3, L3, kk3, nn3⟩, -, X3, ⟨Lc3, hQ3, l3, y3, z3⟩, st3⟩ := Jvm.LawKit.callS X1 hx (y := (⟨"com/example/limpet/limpet/io/StatusFromCodePinLaw", "expected", "(I)Lcom/example/limpet/limpet/io/Status;"⟩ : MethodName)) hown (mvT hZ (hw _ (List.mem_of_getElem? (i := 31) rfl))) (mvT hZ (hw _ (List.mem_of_getElem? (i := 32) rfl))) (mvT hZ (hw _ (List.mem_of_getElem? (i := 33) rfl))) (mvT hZ (hw _ (List.mem_of_getElem? (i := 34) rfl))) (by decide) (backOf (W := 0) (own_expd_5 l Z a0 hw [] hh1 n0 (Nat.le_trans Z0 Kp1.1) ad a__VALUES k__VALUES (own_Wd_ext W (own_ext_of_keep Kp1 all0))) hZ (hw _ (List.mem_of_getElem? (i := 34) rfl)) (hw _ (List.mem_of_getElem? (i := 33) rfl)) (by decide) (by decide)) (g := (mkF m 14 #[.val (.int p1), .val (.int (5 : Int32)), .val (.ref (ad 5)), .unset] [(.int (5 : Int32))])) rfl (by rw [hml]; rfl) (argsL := [(.int (5 : Int32))]) (rest := []) (lenOf own_pd__I_Lcom_example_limpet_limpet_io_Status_ rfl) rfl (by show 2 * 0 + _ ≤ _; exact Nat.le_of_eq rfl) (hb hby at_14) (fun _ _ => ⟨rfl, eh1, (by decide : 1 + 0 ≤ _), (by decide : 9 + 0 ≤ _)⟩)
  dsimp only [Pt.U, Pt.locs, Pt.cells, Pt.slots] at X3 l3 y3 z3 st3 hQ3
  subst l3 y3 z3
  obtain ⟨rfl, Nq3, e3⟩ := hQ3
  have N3 := Fr.app N1 Nq3
  have ch4 : ∀ t, Steps p.tables e below (T3.setTop (mkF m 17 #[.val (.int p1), .val (.int (5 : Int32)), .val (.ref (ad 5)), .unset] [(.ref (ad 5))])) t → Steps p.tables e below (s₁.setTop (entryFrame m #[(.int p1)] maxLocals)) t := fun t k => ch2 t (by
      show Steps p.tables e below (T1.setTop (mkF m 12 #[.val (.int p1), .val (.int (5 : Int32)), .unset, .unset] [(.ref (ad 5))])) t
      refine XS.astoreN X1.here hx rfl (hb hby at_12) rfl rfl (l' := #[.val (.int p1), .val (.int (5 : Int32)), .val (.ref (ad 5)), .unset]) rfl ?_
      show Steps p.tables e below (T1.setTop (mkF m 13 #[.val (.int p1), .val (.int (5 : Int32)), .val (.ref (ad 5)), .unset] [])) t
      refine XS.iloadN X1.here hx rfl (hb hby at_13) rfl ?_
      show Steps p.tables e below (T1.setTop (mkF m 14 #[.val (.int p1), .val (.int (5 : Int32)), .val (.ref (ad 5)), .unset] [(.int (5 : Int32))])) t
      exact st3 t k)
  have cf6 := (Exa.keep (own_E_PERMISSION_DENIED W) Kp1)
  obtain ⟨cq5, kq5, qa5, qb5, qc5⟩ := isOf hZ e3 cf6
  obtain ⟨vv7, _, ⟨T7, L7, kk7, nn7⟩, -, X7, ⟨Lc7, hQ7, l7, y7, z7⟩, st7⟩ := X3.virtualBack hx (y := (⟨"com/example/limpet/limpet/io/Status", "code", "()I"⟩ : MethodName)) (z := (⟨"com/example/limpet/limpet/io/Status", "code", "()I"⟩ : MethodName)) hown (mvT hZ (hw _ (List.mem_of_getElem? (i := 36) rfl))) (mvT hZ (hw _ (List.mem_of_getElem? (i := 37) rfl))) (notFace_of_selects (args := #[]) (mvT hZ (hw _ (List.mem_of_getElem? (i := 39) rfl)))) (mvT hZ (hw _ (List.mem_of_getElem? (i := 39) rfl))) (mvT hZ (hw _ (List.mem_of_getElem? (i := 38) rfl))) (by decide) (backOf (W := 0) (own_code_5 l Z a0 hw [] hh1 n0 (Nat.le_trans Z0 Kp1.1) ad a__VALUES k__VALUES (own_Wd_ext W (own_ext_of_keep Kp1 all0))) hZ (hw _ (List.mem_of_getElem? (i := 40) rfl)) (hw _ (List.mem_of_getElem? (i := 3) rfl)) (by decide) (by decide)) qa5 qc5 (g := (mkF m 24 #[.val (.int p1), .val (.int (5 : Int32)), .val (.ref (ad 5)), .val (.ref (ad 5))] [(.ref (ad 5))])) rfl (by rw [hml]; rfl) (Steps.refl _) (argsL := []) (rest := []) (lenOf own_pd___I rfl) rfl (by show 2 * 0 + _ ≤ _; exact Nat.le_of_eq rfl) (hb hby at_24) (fun _ _ => ⟨rfl, e3, (by decide : 1 + 0 ≤ _), (by decide : 9 + 0 ≤ _)⟩)
  dsimp only [Pt.U, Pt.locs, Pt.cells, Pt.slots] at X7 l7 y7 z7 st7 hQ7
  subst l7 y7 z7
  obtain ⟨rfl, Nq7, e7⟩ := hQ7
  have N7 := Fr.app N3 Nq7
  have ch8 : ∀ t, Steps p.tables e below (T7.setTop (mkF m 27 #[.val (.int p1), .val (.int (5 : Int32)), .val (.ref (ad 5)), .val (.ref (ad 5))] [(.int (5 : Int32))])) t → Steps p.tables e below (s₁.setTop (entryFrame m #[(.int p1)] maxLocals)) t := fun t k => ch4 t (by
      show Steps p.tables e below (T3.setTop (mkF m 17 #[.val (.int p1), .val (.int (5 : Int32)), .val (.ref (ad 5)), .unset] [(.ref (ad 5))])) t
      refine XS.astoreN X3.here hx rfl (hb hby at_17) rfl rfl (l' := #[.val (.int p1), .val (.int (5 : Int32)), .val (.ref (ad 5)), .val (.ref (ad 5))]) rfl ?_
      show Steps p.tables e below (T3.setTop (mkF m 18 #[.val (.int p1), .val (.int (5 : Int32)), .val (.ref (ad 5)), .val (.ref (ad 5))] [])) t
      refine XS.aloadN X3.here hx rfl (hb hby at_18) rfl rfl ?_
      show Steps p.tables e below (T3.setTop (mkF m 19 #[.val (.int p1), .val (.int (5 : Int32)), .val (.ref (ad 5)), .val (.ref (ad 5))] [(.ref (ad 5))])) t
      refine XS.aloadN X3.here hx rfl (hb hby at_19) rfl rfl ?_
      show Steps p.tables e below (T3.setTop (mkF m 20 #[.val (.int p1), .val (.int (5 : Int32)), .val (.ref (ad 5)), .val (.ref (ad 5))] [(.ref (ad 5)), (.ref (ad 5))])) t
      refine Jvm.RoadKit.acmp (g := (mkF m 20 #[.val (.int p1), .val (.int (5 : Int32)), .val (.ref (ad 5)), .val (.ref (ad 5))] [(.ref (ad 5)), (.ref (ad 5))])) X3 hx rfl rfl rfl (pc0 := 20) (pc' := 23) (same := true) rfl (hb hby at_20) rfl (decide_eq_true rfl) (by decide) (by decide) ?_
      show Steps p.tables e below (T3.setTop (mkF m 23 #[.val (.int p1), .val (.int (5 : Int32)), .val (.ref (ad 5)), .val (.ref (ad 5))] [])) t
      refine XS.aloadN X3.here hx rfl (hb hby at_23) rfl rfl ?_
      show Steps p.tables e below (T3.setTop (mkF m 24 #[.val (.int p1), .val (.int (5 : Int32)), .val (.ref (ad 5)), .val (.ref (ad 5))] [(.ref (ad 5))])) t
      exact st7.trans k)
  have ch9 : ∀ t, Steps p.tables e below (T7.setTop (mkF m 36 #[.val (.int p1), .val (.int (5 : Int32)), .val (.ref (ad 5)), .val (.ref (ad 5))] [(.int (1 : Int32))])) t → Steps p.tables e below (s₁.setTop (entryFrame m #[(.int p1)] maxLocals)) t := fun t k => ch8 t (by
      show Steps p.tables e below (T7.setTop (mkF m 27 #[.val (.int p1), .val (.int (5 : Int32)), .val (.ref (ad 5)), .val (.ref (ad 5))] [(.int (5 : Int32))])) t
      refine XS.iloadN X7.here hx rfl (hb hby at_27) rfl ?_
      show Steps p.tables e below (T7.setTop (mkF m 28 #[.val (.int p1), .val (.int (5 : Int32)), .val (.ref (ad 5)), .val (.ref (ad 5))] [(.int (5 : Int32)), (.int (5 : Int32))])) t
      refine XS.icmpNo X7.here hx rfl (hb hby at_28) rfl (teq (by decide : (5 : Int32) = (5 : Int32))).2 ?_
      show Steps p.tables e below (T7.setTop (mkF m 31 #[.val (.int p1), .val (.int (5 : Int32)), .val (.ref (ad 5)), .val (.ref (ad 5))] [])) t
      refine XS.iconst X7.here hx rfl (hb hby at_31) ?_
      show Steps p.tables e below (T7.setTop (mkF m 32 #[.val (.int p1), .val (.int (5 : Int32)), .val (.ref (ad 5)), .val (.ref (ad 5))] [(.int (1 : Int32))])) t
      refine XS.goto X7.here hx rfl (pc0 := 32) (pc' := 36) rfl (hb hby at_32) (by decide) (by decide) ?_
      exact k)
  obtain ⟨fs, hr, hrun, hended, hW, hsame⟩ := X7.leave (v := some (.int (1 : Int32))) (fun h => by rw [Bd.returns] at h; cases h)
  refine ⟨_, _, ch9 _ ?_, hrun, hended, _, _, rfl, ?_, ⟨_, rfl⟩, hW, hsame.mono (by decide) (by decide)⟩
  · show Steps p.tables e below (T7.setTop (mkF m 36 #[.val (.int p1), .val (.int (5 : Int32)), .val (.ref (ad 5)), .val (.ref (ad 5))] [(.int (1 : Int32))])) _
    exact retN X7 hx (t := .boolean) Bd.returns (by simp) (hb hby at_36) hr
  · show QN (some (.int (1 : Int32))) n0 _ T7.heap _
    rw [e7]
    exact ⟨rfl, N7⟩
theorem own_ef_own_from_6 (m : MethodId) {x0 : Int32} : entryFrame m #[(.int x0)] 5 = mkF m 0 #[.val (.int x0), .unset, .unset, .unset, .unset] [] := by first | (simp [entryFrame, mkF, argsToLocals, Value.category, maxLocals]; done) | rfl
set_option maxRecDepth 65536 in
set_option maxHeartbeats 40000000 in
theorem own_from_6 (l : Launch) (Z : State) (a0 : Array Value) (hw : ∀ d ∈ tables_1, d.before a0 Z = true) (ws : List Jvm.Cond) (h0 : Heap) (n0 : Nat) (Z0 : n0 ≤ h0.size) (ad : Nat → Addr) (a__VALUES : Addr) (k__VALUES : ClassId) (W : OwnWd Z h0 ad a__VALUES k__VALUES) :
    MetFree l (⟨"com/example/limpet/limpet/io/Status", "fromCode", "(I)Lcom/example/limpet/limpet/io/Status;"⟩ : MethodName) (head1 (Jvm.Cond.code (⟨"com/example/limpet/limpet/io/Status", "fromCode", "(I)Lcom/example/limpet/limpet/io/Status;"⟩ : MethodName) prog_38_method_5_code 5 (some (.object "com/example/limpet/limpet/io/Status")) :: ws) ({ frames := 2, cells := 1, slots := 9, locals := 25 } : Room)) (fun a U => a = #[(.int (6 : Int32))] ∧ Z.Warmed39 U.vm ∧ U.heap = h0) (fun _ _ _ _ _ => True) (fun _ U o U' => ∃ v L, o = .returned v ∧ QK (some (.ref (ad 6))) h0 n0 v U'.heap L ∧ FrameEnd U o U' L ({ frames := 2, cells := 1, slots := 9, locals := 25 } : Room).cells ({ frames := 2, cells := 1, slots := 9, locals := 25 } : Room).slots) := by
  refine MetFree.of_bodySF (plainFor_of_name own_pn_com_example_limpet_limpet_io_Status) hisR ?_
  intro p e s m args below meth c s₁ Bd hml0 hP hK
  obtain ⟨rfl, hZ, hh⟩ := hP
  have hx := Bd.exec
  have hby := Bd.bytes
  have hml : c.maxLocals = 5 := hml0
  have hown : s.vm.findClass "com/example/limpet/limpet/io/Status" = some m.cls := findClass_of_methodNamed Bd.named
  have hnm := (name_of_methodNamed Bd.named Bd.method).1
  have X0 : Stand p l e ({ frames := 2, cells := 1, slots := 9, locals := 25 } : Room) s m #[(.int (6 : Int32))] below meth c s₁ [] 0 0 := Stand.of_body Bd
  have e0 : s₁.heap = h0 := by rw [← hh, Bd.state]; rfl
  have N0 := Fr.nil n0
  have pre0 : ∀ t, Steps p.tables e below (s₁.setTop (mkF m 0 #[.val (.int (6 : Int32)), .unset, .unset, .unset, .unset] [])) t → Steps p.tables e below (s₁.setTop (entryFrame m #[(.int (6 : Int32))] 5)) t := fun t k => castTop (own_ef_own_from_6 m) k
  obtain ⟨vv1, _, ⟨T1, L1, kk1, nn1⟩, -, X1, ⟨Lc1, hQ1, l1, y1, z1⟩, st1⟩ := Jvm.LawKit.callS X0 hx (y := (⟨"com/example/limpet/limpet/io/Status", "values", "()[Lcom/example/limpet/limpet/io/Status;"⟩ : MethodName)) hown (mvT hZ (hw _ (List.mem_of_getElem? (i := 5) rfl))) (mvT hZ (hw _ (List.mem_of_getElem? (i := 6) rfl))) (mvT hZ (hw _ (List.mem_of_getElem? (i := 3) rfl))) (mvT hZ (hw _ (List.mem_of_getElem? (i := 7) rfl))) (by decide) (backOf (W := 0) (own_vals l Z a0 hw [] h0 n0 (Nat.le_trans Z0 (Keep.refl h0 []).1) ad a__VALUES k__VALUES W) hZ (hw _ (List.mem_of_getElem? (i := 7) rfl)) (hw _ (List.mem_of_getElem? (i := 3) rfl)) (by decide) (by decide)) (g := (mkF m 0 #[.val (.int (6 : Int32)), .unset, .unset, .unset, .unset] [])) rfl (by rw [hml]; rfl) (argsL := []) (rest := []) (lenOf own_pd____Lcom_example_limpet_limpet_io_Status_ rfl) rfl (by show 2 * 0 + _ ≤ _; exact Nat.le_of_eq rfl) (hb hby own_d_prog_38_method_5_code_0) (fun _ _ => ⟨rfl, e0, (by decide : 0 + 1 ≤ _), (by decide : 0 + 9 ≤ _)⟩)
  dsimp only [Pt.U, Pt.locs, Pt.cells, Pt.slots] at X1 l1 y1 z1 st1 hQ1
  subst l1 y1 z1
  obtain ⟨hh1, eh1⟩ : ∃ h, T1.heap = h := ⟨_, rfl⟩
  rw [eh1] at hQ1
  obtain ⟨rv, rfl, zq1, Nq1, Kq1, fq1_0⟩ := hQ1
  have N1 := Fr.app N0 Nq1
  have ne_ad0_rv : (ad 0) ≠ rv := Nat.ne_of_lt (Nat.lt_of_lt_of_le (own_E_OK W).lt zq1)
  have ne_ad1_rv : (ad 1) ≠ rv := Nat.ne_of_lt (Nat.lt_of_lt_of_le (own_E_BAD_REQUEST W).lt zq1)
  have ne_ad2_rv : (ad 2) ≠ rv := Nat.ne_of_lt (Nat.lt_of_lt_of_le (own_E_NOT_FOUND W).lt zq1)
  have ne_ad3_rv : (ad 3) ≠ rv := Nat.ne_of_lt (Nat.lt_of_lt_of_le (own_E_FAILED W).lt zq1)
  have ne_ad4_rv : (ad 4) ≠ rv := Nat.ne_of_lt (Nat.lt_of_lt_of_le (own_E_UNSUPPORTED_KEY W).lt zq1)
  have ne_ad5_rv : (ad 5) ≠ rv := Nat.ne_of_lt (Nat.lt_of_lt_of_le (own_E_PERMISSION_DENIED W).lt zq1)
  have ne_ad6_rv : (ad 6) ≠ rv := Nat.ne_of_lt (Nat.lt_of_lt_of_le (own_E_GRANT_NOT_FOUND W).lt zq1)
  have ne_ad7_rv : (ad 7) ≠ rv := Nat.ne_of_lt (Nat.lt_of_lt_of_le (own_E_TOO_MANY_KEYS W).lt zq1)
  have ne_ad8_rv : (ad 8) ≠ rv := Nat.ne_of_lt (Nat.lt_of_lt_of_le (own_E_TOO_MANY_GRANTS W).lt zq1)
  have ne_a__VALUES_rv : a__VALUES ≠ rv := Nat.ne_of_lt (Nat.lt_of_lt_of_le (own_V__VALUES W).lt zq1)
  have g_rv : n0 ≤ rv := Nat.le_trans (Nat.le_trans Z0 (Keep.refl h0 []).1) zq1
  have sz_rv : h0.size ≤ rv := Nat.le_trans (Keep.refl h0 []).1 zq1
  have Kp1 := Keep.trans (Keep.refl h0 []) Kq1 all0
  have ch2 : ∀ t, Steps p.tables e below (T1.setTop (mkF m 3 #[.val (.int (6 : Int32)), .unset, .unset, .unset, .unset] [(.ref rv)])) t → Steps p.tables e below (s₁.setTop (entryFrame m #[(.int (6 : Int32))] 5)) t := fun t k => pre0 t (by
      show Steps p.tables e below (s₁.setTop (mkF m 0 #[.val (.int (6 : Int32)), .unset, .unset, .unset, .unset] [])) t
      exact st1 t k)
  obtain ⟨cl3, Ar3, -, Sz3, Ng3, -, -⟩ := id fq1_0
  obtain ⟨cl4, Ar4, -, Sz4, Ng4, Ha4, -⟩ := id fq1_0
  have hin4 : ¬ ((0 : Int32) < 0 ∨ cl4.slots.size ≤ ((0 : Int32)).toNatClampNeg) := inb_of Sz4 (by decide)
  have hat4 : cl4.slots[((0 : Int32)).toNatClampNeg]? = some (.ref (ad 0)) := Ha4.at hin4 rfl
  have cf5 := ((own_F_OK_code W).keep Kp1 nin0)
  obtain ⟨T6, X6, e6, st6⟩ := getF X1 hx hZ hown (host := "") (Or.inl (hw _ (List.mem_of_getElem? (i := 29) rfl))) Via.refl eh1 cf5 (g := (mkF m 21 #[.val (.int (6 : Int32)), .val (.ref rv), .val (.int (9 : Int32)), .val (.int (0 : Int32)), .val (.ref (ad 0))] [(.ref (ad 0))])) rfl rfl (hb hby own_d_prog_38_method_5_code_21)
  have ch7 : ∀ t, Steps p.tables e below (T6.setTop (mkF m 24 #[.val (.int (6 : Int32)), .val (.ref rv), .val (.int (9 : Int32)), .val (.int (0 : Int32)), .val (.ref (ad 0))] [(.int (0 : Int32))])) t → Steps p.tables e below (s₁.setTop (entryFrame m #[(.int (6 : Int32))] 5)) t := fun t k => ch2 t (by
      show Steps p.tables e below (T1.setTop (mkF m 3 #[.val (.int (6 : Int32)), .unset, .unset, .unset, .unset] [(.ref rv)])) t
      refine XS.astoreN X1.here hx rfl (hb hby own_d_prog_38_method_5_code_3) rfl rfl (l' := #[.val (.int (6 : Int32)), .val (.ref rv), .unset, .unset, .unset]) rfl ?_
      show Steps p.tables e below (T1.setTop (mkF m 4 #[.val (.int (6 : Int32)), .val (.ref rv), .unset, .unset, .unset] [])) t
      refine XS.aloadN X1.here hx rfl (hb hby own_d_prog_38_method_5_code_4) rfl rfl ?_
      show Steps p.tables e below (T1.setTop (mkF m 5 #[.val (.int (6 : Int32)), .val (.ref rv), .unset, .unset, .unset] [(.ref rv)])) t
      refine X1.arraylength hx (by rw [eh1]; exact Ar3.1) (State.isArrayOf_alike hZ.alike Ar3.2.1) (g := (mkF m 5 #[.val (.int (6 : Int32)), .val (.ref rv), .unset, .unset, .unset] [(.ref rv)])) rfl rfl (hb hby own_d_prog_38_method_5_code_5) _ ?_
      rw [len_of Sz3 Ng3]
      show Steps p.tables e below (T1.setTop (mkF m 6 #[.val (.int (6 : Int32)), .val (.ref rv), .unset, .unset, .unset] [(.int (9 : Int32))])) t
      refine XS.istoreN X1.here hx rfl (hb hby own_d_prog_38_method_5_code_6) rfl (l' := #[.val (.int (6 : Int32)), .val (.ref rv), .val (.int (9 : Int32)), .unset, .unset]) rfl ?_
      show Steps p.tables e below (T1.setTop (mkF m 7 #[.val (.int (6 : Int32)), .val (.ref rv), .val (.int (9 : Int32)), .unset, .unset] [])) t
      refine XS.iconst X1.here hx rfl (hb hby own_d_prog_38_method_5_code_7) ?_
      show Steps p.tables e below (T1.setTop (mkF m 8 #[.val (.int (6 : Int32)), .val (.ref rv), .val (.int (9 : Int32)), .unset, .unset] [(.int (0 : Int32))])) t
      refine XS.istoreN X1.here hx rfl (hb hby own_d_prog_38_method_5_code_8) rfl (l' := #[.val (.int (6 : Int32)), .val (.ref rv), .val (.int (9 : Int32)), .val (.int (0 : Int32)), .unset]) rfl ?_
      show Steps p.tables e below (T1.setTop (mkF m 9 #[.val (.int (6 : Int32)), .val (.ref rv), .val (.int (9 : Int32)), .val (.int (0 : Int32)), .unset] [])) t
      refine XS.iloadN X1.here hx rfl (hb hby own_d_prog_38_method_5_code_9) rfl ?_
      show Steps p.tables e below (T1.setTop (mkF m 10 #[.val (.int (6 : Int32)), .val (.ref rv), .val (.int (9 : Int32)), .val (.int (0 : Int32)), .unset] [(.int (0 : Int32))])) t
      refine XS.iloadN X1.here hx rfl (hb hby own_d_prog_38_method_5_code_10) rfl ?_
      show Steps p.tables e below (T1.setTop (mkF m 11 #[.val (.int (6 : Int32)), .val (.ref rv), .val (.int (9 : Int32)), .val (.int (0 : Int32)), .unset] [(.int (9 : Int32)), (.int (0 : Int32))])) t
      refine XS.icmpNo X1.here hx rfl (hb hby own_d_prog_38_method_5_code_11) rfl (tlt (by decide : (0 : Int32) < (9 : Int32))).2.1 ?_
      show Steps p.tables e below (T1.setTop (mkF m 14 #[.val (.int (6 : Int32)), .val (.ref rv), .val (.int (9 : Int32)), .val (.int (0 : Int32)), .unset] [])) t
      refine XS.aloadN X1.here hx rfl (hb hby own_d_prog_38_method_5_code_14) rfl rfl ?_
      show Steps p.tables e below (T1.setTop (mkF m 15 #[.val (.int (6 : Int32)), .val (.ref rv), .val (.int (9 : Int32)), .val (.int (0 : Int32)), .unset] [(.ref rv)])) t
      refine XS.iloadN X1.here hx rfl (hb hby own_d_prog_38_method_5_code_15) rfl ?_
      show Steps p.tables e below (T1.setTop (mkF m 16 #[.val (.int (6 : Int32)), .val (.ref rv), .val (.int (9 : Int32)), .val (.int (0 : Int32)), .unset] [(.int (0 : Int32)), (.ref rv)])) t
      refine X1.aaload hx (j := (0 : Int32)) (v := (.ref (ad 0))) (by rw [eh1]; exact Ar4.1) (State.isArrayOf_alike hZ.alike Ar4.2.1) rfl Ar4.2.2 hin4 hat4 (g := (mkF m 16 #[.val (.int (6 : Int32)), .val (.ref rv), .val (.int (9 : Int32)), .val (.int (0 : Int32)), .unset] [(.int (0 : Int32)), (.ref rv)])) rfl rfl (hb hby own_d_prog_38_method_5_code_16) _ ?_
      show Steps p.tables e below (T1.setTop (mkF m 17 #[.val (.int (6 : Int32)), .val (.ref rv), .val (.int (9 : Int32)), .val (.int (0 : Int32)), .unset] [(.ref (ad 0))])) t
      refine XS.astore X1.here hx rfl (hb hby own_d_prog_38_method_5_code_17) rfl rfl (l' := #[.val (.int (6 : Int32)), .val (.ref rv), .val (.int (9 : Int32)), .val (.int (0 : Int32)), .val (.ref (ad 0))]) rfl ?_
      show Steps p.tables e below (T1.setTop (mkF m 19 #[.val (.int (6 : Int32)), .val (.ref rv), .val (.int (9 : Int32)), .val (.int (0 : Int32)), .val (.ref (ad 0))] [])) t
      refine XS.aload X1.here hx rfl (hb hby own_d_prog_38_method_5_code_19) rfl rfl ?_
      show Steps p.tables e below (T1.setTop (mkF m 21 #[.val (.int (6 : Int32)), .val (.ref rv), .val (.int (9 : Int32)), .val (.int (0 : Int32)), .val (.ref (ad 0))] [(.ref (ad 0))])) t
      exact st6 t k)
  obtain ⟨cl8, Ar8, -, Sz8, Ng8, Ha8, -⟩ := id fq1_0
  have hin8 : ¬ ((1 : Int32) < 0 ∨ cl8.slots.size ≤ ((1 : Int32)).toNatClampNeg) := inb_of Sz8 (by decide)
  have hat8 : cl8.slots[((1 : Int32)).toNatClampNeg]? = some (.ref (ad 1)) := Ha8.at hin8 rfl
  have cf9 := ((own_F_BAD_REQUEST_code W).keep Kp1 nin0)
  obtain ⟨T10, X10, e10, st10⟩ := getF X6 hx hZ hown (host := "") (Or.inl (hw _ (List.mem_of_getElem? (i := 29) rfl))) Via.refl e6 cf9 (g := (mkF m 21 #[.val (.int (6 : Int32)), .val (.ref rv), .val (.int (9 : Int32)), .val (.int (1 : Int32)), .val (.ref (ad 1))] [(.ref (ad 1))])) rfl rfl (hb hby own_d_prog_38_method_5_code_21)
  have ch11 : ∀ t, Steps p.tables e below (T10.setTop (mkF m 24 #[.val (.int (6 : Int32)), .val (.ref rv), .val (.int (9 : Int32)), .val (.int (1 : Int32)), .val (.ref (ad 1))] [(.int (1 : Int32))])) t → Steps p.tables e below (s₁.setTop (entryFrame m #[(.int (6 : Int32))] 5)) t := fun t k => ch7 t (by
      show Steps p.tables e below (T6.setTop (mkF m 24 #[.val (.int (6 : Int32)), .val (.ref rv), .val (.int (9 : Int32)), .val (.int (0 : Int32)), .val (.ref (ad 0))] [(.int (0 : Int32))])) t
      refine XS.iloadN X6.here hx rfl (hb hby own_d_prog_38_method_5_code_24) rfl ?_
      show Steps p.tables e below (T6.setTop (mkF m 25 #[.val (.int (6 : Int32)), .val (.ref rv), .val (.int (9 : Int32)), .val (.int (0 : Int32)), .val (.ref (ad 0))] [(.int (6 : Int32)), (.int (0 : Int32))])) t
      refine XS.icmpYes X6.here hx rfl (pc0 := 25) (pc' := 31) rfl (hb hby own_d_prog_38_method_5_code_25) rfl (feq (by decide : ¬ (0 : Int32) = (6 : Int32))).2 (by decide) (by decide) ?_
      show Steps p.tables e below (T6.setTop (mkF m 31 #[.val (.int (6 : Int32)), .val (.ref rv), .val (.int (9 : Int32)), .val (.int (0 : Int32)), .val (.ref (ad 0))] [])) t
      refine Jvm.Free.XT.iincV X6.here hx rfl (1 : Int32) (hb hby own_d_prog_38_method_5_code_31) (by decide) rfl (l' := #[.val (.int (6 : Int32)), .val (.ref rv), .val (.int (9 : Int32)), .val (.int (1 : Int32)), .val (.ref (ad 0))]) (by rw [show ((0 : Int32) + (1 : Int32)) = (1 : Int32) from by decide]; rfl) ?_
      show Steps p.tables e below (T6.setTop (mkF m 34 #[.val (.int (6 : Int32)), .val (.ref rv), .val (.int (9 : Int32)), .val (.int (1 : Int32)), .val (.ref (ad 0))] [])) t
      refine XS.goto X6.here hx rfl (pc0 := 34) (pc' := 9) rfl (hb hby own_d_prog_38_method_5_code_34) (by decide) (by decide) ?_
      show Steps p.tables e below (T6.setTop (mkF m 9 #[.val (.int (6 : Int32)), .val (.ref rv), .val (.int (9 : Int32)), .val (.int (1 : Int32)), .val (.ref (ad 0))] [])) t
      refine XS.iloadN X6.here hx rfl (hb hby own_d_prog_38_method_5_code_9) rfl ?_
      show Steps p.tables e below (T6.setTop (mkF m 10 #[.val (.int (6 : Int32)), .val (.ref rv), .val (.int (9 : Int32)), .val (.int (1 : Int32)), .val (.ref (ad 0))] [(.int (1 : Int32))])) t
      refine XS.iloadN X6.here hx rfl (hb hby own_d_prog_38_method_5_code_10) rfl ?_
      show Steps p.tables e below (T6.setTop (mkF m 11 #[.val (.int (6 : Int32)), .val (.ref rv), .val (.int (9 : Int32)), .val (.int (1 : Int32)), .val (.ref (ad 0))] [(.int (9 : Int32)), (.int (1 : Int32))])) t
      refine XS.icmpNo X6.here hx rfl (hb hby own_d_prog_38_method_5_code_11) rfl (tlt (by decide : (1 : Int32) < (9 : Int32))).2.1 ?_
      show Steps p.tables e below (T6.setTop (mkF m 14 #[.val (.int (6 : Int32)), .val (.ref rv), .val (.int (9 : Int32)), .val (.int (1 : Int32)), .val (.ref (ad 0))] [])) t
      refine XS.aloadN X6.here hx rfl (hb hby own_d_prog_38_method_5_code_14) rfl rfl ?_
      show Steps p.tables e below (T6.setTop (mkF m 15 #[.val (.int (6 : Int32)), .val (.ref rv), .val (.int (9 : Int32)), .val (.int (1 : Int32)), .val (.ref (ad 0))] [(.ref rv)])) t
      refine XS.iloadN X6.here hx rfl (hb hby own_d_prog_38_method_5_code_15) rfl ?_
      show Steps p.tables e below (T6.setTop (mkF m 16 #[.val (.int (6 : Int32)), .val (.ref rv), .val (.int (9 : Int32)), .val (.int (1 : Int32)), .val (.ref (ad 0))] [(.int (1 : Int32)), (.ref rv)])) t
      refine X6.aaload hx (j := (1 : Int32)) (v := (.ref (ad 1))) (by rw [e6]; exact Ar8.1) (State.isArrayOf_alike hZ.alike Ar8.2.1) rfl Ar8.2.2 hin8 hat8 (g := (mkF m 16 #[.val (.int (6 : Int32)), .val (.ref rv), .val (.int (9 : Int32)), .val (.int (1 : Int32)), .val (.ref (ad 0))] [(.int (1 : Int32)), (.ref rv)])) rfl rfl (hb hby own_d_prog_38_method_5_code_16) _ ?_
      show Steps p.tables e below (T6.setTop (mkF m 17 #[.val (.int (6 : Int32)), .val (.ref rv), .val (.int (9 : Int32)), .val (.int (1 : Int32)), .val (.ref (ad 0))] [(.ref (ad 1))])) t
      refine XS.astore X6.here hx rfl (hb hby own_d_prog_38_method_5_code_17) rfl rfl (l' := #[.val (.int (6 : Int32)), .val (.ref rv), .val (.int (9 : Int32)), .val (.int (1 : Int32)), .val (.ref (ad 1))]) rfl ?_
      show Steps p.tables e below (T6.setTop (mkF m 19 #[.val (.int (6 : Int32)), .val (.ref rv), .val (.int (9 : Int32)), .val (.int (1 : Int32)), .val (.ref (ad 1))] [])) t
      refine XS.aload X6.here hx rfl (hb hby own_d_prog_38_method_5_code_19) rfl rfl ?_
      show Steps p.tables e below (T6.setTop (mkF m 21 #[.val (.int (6 : Int32)), .val (.ref rv), .val (.int (9 : Int32)), .val (.int (1 : Int32)), .val (.ref (ad 1))] [(.ref (ad 1))])) t
      exact st10 t k)
  obtain ⟨cl12, Ar12, -, Sz12, Ng12, Ha12, -⟩ := id fq1_0
  have hin12 : ¬ ((2 : Int32) < 0 ∨ cl12.slots.size ≤ ((2 : Int32)).toNatClampNeg) := inb_of Sz12 (by decide)
  have hat12 : cl12.slots[((2 : Int32)).toNatClampNeg]? = some (.ref (ad 2)) := Ha12.at hin12 rfl
  have cf13 := ((own_F_NOT_FOUND_code W).keep Kp1 nin0)
  obtain ⟨T14, X14, e14, st14⟩ := getF X10 hx hZ hown (host := "") (Or.inl (hw _ (List.mem_of_getElem? (i := 29) rfl))) Via.refl e10 cf13 (g := (mkF m 21 #[.val (.int (6 : Int32)), .val (.ref rv), .val (.int (9 : Int32)), .val (.int (2 : Int32)), .val (.ref (ad 2))] [(.ref (ad 2))])) rfl rfl (hb hby own_d_prog_38_method_5_code_21)
  have ch15 : ∀ t, Steps p.tables e below (T14.setTop (mkF m 24 #[.val (.int (6 : Int32)), .val (.ref rv), .val (.int (9 : Int32)), .val (.int (2 : Int32)), .val (.ref (ad 2))] [(.int (2 : Int32))])) t → Steps p.tables e below (s₁.setTop (entryFrame m #[(.int (6 : Int32))] 5)) t := fun t k => ch11 t (by
      show Steps p.tables e below (T10.setTop (mkF m 24 #[.val (.int (6 : Int32)), .val (.ref rv), .val (.int (9 : Int32)), .val (.int (1 : Int32)), .val (.ref (ad 1))] [(.int (1 : Int32))])) t
      refine XS.iloadN X10.here hx rfl (hb hby own_d_prog_38_method_5_code_24) rfl ?_
      show Steps p.tables e below (T10.setTop (mkF m 25 #[.val (.int (6 : Int32)), .val (.ref rv), .val (.int (9 : Int32)), .val (.int (1 : Int32)), .val (.ref (ad 1))] [(.int (6 : Int32)), (.int (1 : Int32))])) t
      refine XS.icmpYes X10.here hx rfl (pc0 := 25) (pc' := 31) rfl (hb hby own_d_prog_38_method_5_code_25) rfl (feq (by decide : ¬ (1 : Int32) = (6 : Int32))).2 (by decide) (by decide) ?_
      show Steps p.tables e below (T10.setTop (mkF m 31 #[.val (.int (6 : Int32)), .val (.ref rv), .val (.int (9 : Int32)), .val (.int (1 : Int32)), .val (.ref (ad 1))] [])) t
      refine Jvm.Free.XT.iincV X10.here hx rfl (1 : Int32) (hb hby own_d_prog_38_method_5_code_31) (by decide) rfl (l' := #[.val (.int (6 : Int32)), .val (.ref rv), .val (.int (9 : Int32)), .val (.int (2 : Int32)), .val (.ref (ad 1))]) (by rw [show ((1 : Int32) + (1 : Int32)) = (2 : Int32) from by decide]; rfl) ?_
      show Steps p.tables e below (T10.setTop (mkF m 34 #[.val (.int (6 : Int32)), .val (.ref rv), .val (.int (9 : Int32)), .val (.int (2 : Int32)), .val (.ref (ad 1))] [])) t
      refine XS.goto X10.here hx rfl (pc0 := 34) (pc' := 9) rfl (hb hby own_d_prog_38_method_5_code_34) (by decide) (by decide) ?_
      show Steps p.tables e below (T10.setTop (mkF m 9 #[.val (.int (6 : Int32)), .val (.ref rv), .val (.int (9 : Int32)), .val (.int (2 : Int32)), .val (.ref (ad 1))] [])) t
      refine XS.iloadN X10.here hx rfl (hb hby own_d_prog_38_method_5_code_9) rfl ?_
      show Steps p.tables e below (T10.setTop (mkF m 10 #[.val (.int (6 : Int32)), .val (.ref rv), .val (.int (9 : Int32)), .val (.int (2 : Int32)), .val (.ref (ad 1))] [(.int (2 : Int32))])) t
      refine XS.iloadN X10.here hx rfl (hb hby own_d_prog_38_method_5_code_10) rfl ?_
      show Steps p.tables e below (T10.setTop (mkF m 11 #[.val (.int (6 : Int32)), .val (.ref rv), .val (.int (9 : Int32)), .val (.int (2 : Int32)), .val (.ref (ad 1))] [(.int (9 : Int32)), (.int (2 : Int32))])) t
      refine XS.icmpNo X10.here hx rfl (hb hby own_d_prog_38_method_5_code_11) rfl (tlt (by decide : (2 : Int32) < (9 : Int32))).2.1 ?_
      show Steps p.tables e below (T10.setTop (mkF m 14 #[.val (.int (6 : Int32)), .val (.ref rv), .val (.int (9 : Int32)), .val (.int (2 : Int32)), .val (.ref (ad 1))] [])) t
      refine XS.aloadN X10.here hx rfl (hb hby own_d_prog_38_method_5_code_14) rfl rfl ?_
      show Steps p.tables e below (T10.setTop (mkF m 15 #[.val (.int (6 : Int32)), .val (.ref rv), .val (.int (9 : Int32)), .val (.int (2 : Int32)), .val (.ref (ad 1))] [(.ref rv)])) t
      refine XS.iloadN X10.here hx rfl (hb hby own_d_prog_38_method_5_code_15) rfl ?_
      show Steps p.tables e below (T10.setTop (mkF m 16 #[.val (.int (6 : Int32)), .val (.ref rv), .val (.int (9 : Int32)), .val (.int (2 : Int32)), .val (.ref (ad 1))] [(.int (2 : Int32)), (.ref rv)])) t
      refine X10.aaload hx (j := (2 : Int32)) (v := (.ref (ad 2))) (by rw [e10]; exact Ar12.1) (State.isArrayOf_alike hZ.alike Ar12.2.1) rfl Ar12.2.2 hin12 hat12 (g := (mkF m 16 #[.val (.int (6 : Int32)), .val (.ref rv), .val (.int (9 : Int32)), .val (.int (2 : Int32)), .val (.ref (ad 1))] [(.int (2 : Int32)), (.ref rv)])) rfl rfl (hb hby own_d_prog_38_method_5_code_16) _ ?_
      show Steps p.tables e below (T10.setTop (mkF m 17 #[.val (.int (6 : Int32)), .val (.ref rv), .val (.int (9 : Int32)), .val (.int (2 : Int32)), .val (.ref (ad 1))] [(.ref (ad 2))])) t
      refine XS.astore X10.here hx rfl (hb hby own_d_prog_38_method_5_code_17) rfl rfl (l' := #[.val (.int (6 : Int32)), .val (.ref rv), .val (.int (9 : Int32)), .val (.int (2 : Int32)), .val (.ref (ad 2))]) rfl ?_
      show Steps p.tables e below (T10.setTop (mkF m 19 #[.val (.int (6 : Int32)), .val (.ref rv), .val (.int (9 : Int32)), .val (.int (2 : Int32)), .val (.ref (ad 2))] [])) t
      refine XS.aload X10.here hx rfl (hb hby own_d_prog_38_method_5_code_19) rfl rfl ?_
      show Steps p.tables e below (T10.setTop (mkF m 21 #[.val (.int (6 : Int32)), .val (.ref rv), .val (.int (9 : Int32)), .val (.int (2 : Int32)), .val (.ref (ad 2))] [(.ref (ad 2))])) t
      exact st14 t k)
  obtain ⟨cl16, Ar16, -, Sz16, Ng16, Ha16, -⟩ := id fq1_0
  have hin16 : ¬ ((3 : Int32) < 0 ∨ cl16.slots.size ≤ ((3 : Int32)).toNatClampNeg) := inb_of Sz16 (by decide)
  have hat16 : cl16.slots[((3 : Int32)).toNatClampNeg]? = some (.ref (ad 3)) := Ha16.at hin16 rfl
  have cf17 := ((own_F_FAILED_code W).keep Kp1 nin0)
  obtain ⟨T18, X18, e18, st18⟩ := getF X14 hx hZ hown (host := "") (Or.inl (hw _ (List.mem_of_getElem? (i := 29) rfl))) Via.refl e14 cf17 (g := (mkF m 21 #[.val (.int (6 : Int32)), .val (.ref rv), .val (.int (9 : Int32)), .val (.int (3 : Int32)), .val (.ref (ad 3))] [(.ref (ad 3))])) rfl rfl (hb hby own_d_prog_38_method_5_code_21)
  have ch19 : ∀ t, Steps p.tables e below (T18.setTop (mkF m 24 #[.val (.int (6 : Int32)), .val (.ref rv), .val (.int (9 : Int32)), .val (.int (3 : Int32)), .val (.ref (ad 3))] [(.int (3 : Int32))])) t → Steps p.tables e below (s₁.setTop (entryFrame m #[(.int (6 : Int32))] 5)) t := fun t k => ch15 t (by
      show Steps p.tables e below (T14.setTop (mkF m 24 #[.val (.int (6 : Int32)), .val (.ref rv), .val (.int (9 : Int32)), .val (.int (2 : Int32)), .val (.ref (ad 2))] [(.int (2 : Int32))])) t
      refine XS.iloadN X14.here hx rfl (hb hby own_d_prog_38_method_5_code_24) rfl ?_
      show Steps p.tables e below (T14.setTop (mkF m 25 #[.val (.int (6 : Int32)), .val (.ref rv), .val (.int (9 : Int32)), .val (.int (2 : Int32)), .val (.ref (ad 2))] [(.int (6 : Int32)), (.int (2 : Int32))])) t
      refine XS.icmpYes X14.here hx rfl (pc0 := 25) (pc' := 31) rfl (hb hby own_d_prog_38_method_5_code_25) rfl (feq (by decide : ¬ (2 : Int32) = (6 : Int32))).2 (by decide) (by decide) ?_
      show Steps p.tables e below (T14.setTop (mkF m 31 #[.val (.int (6 : Int32)), .val (.ref rv), .val (.int (9 : Int32)), .val (.int (2 : Int32)), .val (.ref (ad 2))] [])) t
      refine Jvm.Free.XT.iincV X14.here hx rfl (1 : Int32) (hb hby own_d_prog_38_method_5_code_31) (by decide) rfl (l' := #[.val (.int (6 : Int32)), .val (.ref rv), .val (.int (9 : Int32)), .val (.int (3 : Int32)), .val (.ref (ad 2))]) (by rw [show ((2 : Int32) + (1 : Int32)) = (3 : Int32) from by decide]; rfl) ?_
      show Steps p.tables e below (T14.setTop (mkF m 34 #[.val (.int (6 : Int32)), .val (.ref rv), .val (.int (9 : Int32)), .val (.int (3 : Int32)), .val (.ref (ad 2))] [])) t
      refine XS.goto X14.here hx rfl (pc0 := 34) (pc' := 9) rfl (hb hby own_d_prog_38_method_5_code_34) (by decide) (by decide) ?_
      show Steps p.tables e below (T14.setTop (mkF m 9 #[.val (.int (6 : Int32)), .val (.ref rv), .val (.int (9 : Int32)), .val (.int (3 : Int32)), .val (.ref (ad 2))] [])) t
      refine XS.iloadN X14.here hx rfl (hb hby own_d_prog_38_method_5_code_9) rfl ?_
      show Steps p.tables e below (T14.setTop (mkF m 10 #[.val (.int (6 : Int32)), .val (.ref rv), .val (.int (9 : Int32)), .val (.int (3 : Int32)), .val (.ref (ad 2))] [(.int (3 : Int32))])) t
      refine XS.iloadN X14.here hx rfl (hb hby own_d_prog_38_method_5_code_10) rfl ?_
      show Steps p.tables e below (T14.setTop (mkF m 11 #[.val (.int (6 : Int32)), .val (.ref rv), .val (.int (9 : Int32)), .val (.int (3 : Int32)), .val (.ref (ad 2))] [(.int (9 : Int32)), (.int (3 : Int32))])) t
      refine XS.icmpNo X14.here hx rfl (hb hby own_d_prog_38_method_5_code_11) rfl (tlt (by decide : (3 : Int32) < (9 : Int32))).2.1 ?_
      show Steps p.tables e below (T14.setTop (mkF m 14 #[.val (.int (6 : Int32)), .val (.ref rv), .val (.int (9 : Int32)), .val (.int (3 : Int32)), .val (.ref (ad 2))] [])) t
      refine XS.aloadN X14.here hx rfl (hb hby own_d_prog_38_method_5_code_14) rfl rfl ?_
      show Steps p.tables e below (T14.setTop (mkF m 15 #[.val (.int (6 : Int32)), .val (.ref rv), .val (.int (9 : Int32)), .val (.int (3 : Int32)), .val (.ref (ad 2))] [(.ref rv)])) t
      refine XS.iloadN X14.here hx rfl (hb hby own_d_prog_38_method_5_code_15) rfl ?_
      show Steps p.tables e below (T14.setTop (mkF m 16 #[.val (.int (6 : Int32)), .val (.ref rv), .val (.int (9 : Int32)), .val (.int (3 : Int32)), .val (.ref (ad 2))] [(.int (3 : Int32)), (.ref rv)])) t
      refine X14.aaload hx (j := (3 : Int32)) (v := (.ref (ad 3))) (by rw [e14]; exact Ar16.1) (State.isArrayOf_alike hZ.alike Ar16.2.1) rfl Ar16.2.2 hin16 hat16 (g := (mkF m 16 #[.val (.int (6 : Int32)), .val (.ref rv), .val (.int (9 : Int32)), .val (.int (3 : Int32)), .val (.ref (ad 2))] [(.int (3 : Int32)), (.ref rv)])) rfl rfl (hb hby own_d_prog_38_method_5_code_16) _ ?_
      show Steps p.tables e below (T14.setTop (mkF m 17 #[.val (.int (6 : Int32)), .val (.ref rv), .val (.int (9 : Int32)), .val (.int (3 : Int32)), .val (.ref (ad 2))] [(.ref (ad 3))])) t
      refine XS.astore X14.here hx rfl (hb hby own_d_prog_38_method_5_code_17) rfl rfl (l' := #[.val (.int (6 : Int32)), .val (.ref rv), .val (.int (9 : Int32)), .val (.int (3 : Int32)), .val (.ref (ad 3))]) rfl ?_
      show Steps p.tables e below (T14.setTop (mkF m 19 #[.val (.int (6 : Int32)), .val (.ref rv), .val (.int (9 : Int32)), .val (.int (3 : Int32)), .val (.ref (ad 3))] [])) t
      refine XS.aload X14.here hx rfl (hb hby own_d_prog_38_method_5_code_19) rfl rfl ?_
      show Steps p.tables e below (T14.setTop (mkF m 21 #[.val (.int (6 : Int32)), .val (.ref rv), .val (.int (9 : Int32)), .val (.int (3 : Int32)), .val (.ref (ad 3))] [(.ref (ad 3))])) t
      exact st18 t k)
  obtain ⟨cl20, Ar20, -, Sz20, Ng20, Ha20, -⟩ := id fq1_0
  have hin20 : ¬ ((4 : Int32) < 0 ∨ cl20.slots.size ≤ ((4 : Int32)).toNatClampNeg) := inb_of Sz20 (by decide)
  have hat20 : cl20.slots[((4 : Int32)).toNatClampNeg]? = some (.ref (ad 4)) := Ha20.at hin20 rfl
  have cf21 := ((own_F_UNSUPPORTED_KEY_code W).keep Kp1 nin0)
  obtain ⟨T22, X22, e22, st22⟩ := getF X18 hx hZ hown (host := "") (Or.inl (hw _ (List.mem_of_getElem? (i := 29) rfl))) Via.refl e18 cf21 (g := (mkF m 21 #[.val (.int (6 : Int32)), .val (.ref rv), .val (.int (9 : Int32)), .val (.int (4 : Int32)), .val (.ref (ad 4))] [(.ref (ad 4))])) rfl rfl (hb hby own_d_prog_38_method_5_code_21)
  have ch23 : ∀ t, Steps p.tables e below (T22.setTop (mkF m 24 #[.val (.int (6 : Int32)), .val (.ref rv), .val (.int (9 : Int32)), .val (.int (4 : Int32)), .val (.ref (ad 4))] [(.int (4 : Int32))])) t → Steps p.tables e below (s₁.setTop (entryFrame m #[(.int (6 : Int32))] 5)) t := fun t k => ch19 t (by
      show Steps p.tables e below (T18.setTop (mkF m 24 #[.val (.int (6 : Int32)), .val (.ref rv), .val (.int (9 : Int32)), .val (.int (3 : Int32)), .val (.ref (ad 3))] [(.int (3 : Int32))])) t
      refine XS.iloadN X18.here hx rfl (hb hby own_d_prog_38_method_5_code_24) rfl ?_
      show Steps p.tables e below (T18.setTop (mkF m 25 #[.val (.int (6 : Int32)), .val (.ref rv), .val (.int (9 : Int32)), .val (.int (3 : Int32)), .val (.ref (ad 3))] [(.int (6 : Int32)), (.int (3 : Int32))])) t
      refine XS.icmpYes X18.here hx rfl (pc0 := 25) (pc' := 31) rfl (hb hby own_d_prog_38_method_5_code_25) rfl (feq (by decide : ¬ (3 : Int32) = (6 : Int32))).2 (by decide) (by decide) ?_
      show Steps p.tables e below (T18.setTop (mkF m 31 #[.val (.int (6 : Int32)), .val (.ref rv), .val (.int (9 : Int32)), .val (.int (3 : Int32)), .val (.ref (ad 3))] [])) t
      refine Jvm.Free.XT.iincV X18.here hx rfl (1 : Int32) (hb hby own_d_prog_38_method_5_code_31) (by decide) rfl (l' := #[.val (.int (6 : Int32)), .val (.ref rv), .val (.int (9 : Int32)), .val (.int (4 : Int32)), .val (.ref (ad 3))]) (by rw [show ((3 : Int32) + (1 : Int32)) = (4 : Int32) from by decide]; rfl) ?_
      show Steps p.tables e below (T18.setTop (mkF m 34 #[.val (.int (6 : Int32)), .val (.ref rv), .val (.int (9 : Int32)), .val (.int (4 : Int32)), .val (.ref (ad 3))] [])) t
      refine XS.goto X18.here hx rfl (pc0 := 34) (pc' := 9) rfl (hb hby own_d_prog_38_method_5_code_34) (by decide) (by decide) ?_
      show Steps p.tables e below (T18.setTop (mkF m 9 #[.val (.int (6 : Int32)), .val (.ref rv), .val (.int (9 : Int32)), .val (.int (4 : Int32)), .val (.ref (ad 3))] [])) t
      refine XS.iloadN X18.here hx rfl (hb hby own_d_prog_38_method_5_code_9) rfl ?_
      show Steps p.tables e below (T18.setTop (mkF m 10 #[.val (.int (6 : Int32)), .val (.ref rv), .val (.int (9 : Int32)), .val (.int (4 : Int32)), .val (.ref (ad 3))] [(.int (4 : Int32))])) t
      refine XS.iloadN X18.here hx rfl (hb hby own_d_prog_38_method_5_code_10) rfl ?_
      show Steps p.tables e below (T18.setTop (mkF m 11 #[.val (.int (6 : Int32)), .val (.ref rv), .val (.int (9 : Int32)), .val (.int (4 : Int32)), .val (.ref (ad 3))] [(.int (9 : Int32)), (.int (4 : Int32))])) t
      refine XS.icmpNo X18.here hx rfl (hb hby own_d_prog_38_method_5_code_11) rfl (tlt (by decide : (4 : Int32) < (9 : Int32))).2.1 ?_
      show Steps p.tables e below (T18.setTop (mkF m 14 #[.val (.int (6 : Int32)), .val (.ref rv), .val (.int (9 : Int32)), .val (.int (4 : Int32)), .val (.ref (ad 3))] [])) t
      refine XS.aloadN X18.here hx rfl (hb hby own_d_prog_38_method_5_code_14) rfl rfl ?_
      show Steps p.tables e below (T18.setTop (mkF m 15 #[.val (.int (6 : Int32)), .val (.ref rv), .val (.int (9 : Int32)), .val (.int (4 : Int32)), .val (.ref (ad 3))] [(.ref rv)])) t
      refine XS.iloadN X18.here hx rfl (hb hby own_d_prog_38_method_5_code_15) rfl ?_
      show Steps p.tables e below (T18.setTop (mkF m 16 #[.val (.int (6 : Int32)), .val (.ref rv), .val (.int (9 : Int32)), .val (.int (4 : Int32)), .val (.ref (ad 3))] [(.int (4 : Int32)), (.ref rv)])) t
      refine X18.aaload hx (j := (4 : Int32)) (v := (.ref (ad 4))) (by rw [e18]; exact Ar20.1) (State.isArrayOf_alike hZ.alike Ar20.2.1) rfl Ar20.2.2 hin20 hat20 (g := (mkF m 16 #[.val (.int (6 : Int32)), .val (.ref rv), .val (.int (9 : Int32)), .val (.int (4 : Int32)), .val (.ref (ad 3))] [(.int (4 : Int32)), (.ref rv)])) rfl rfl (hb hby own_d_prog_38_method_5_code_16) _ ?_
      show Steps p.tables e below (T18.setTop (mkF m 17 #[.val (.int (6 : Int32)), .val (.ref rv), .val (.int (9 : Int32)), .val (.int (4 : Int32)), .val (.ref (ad 3))] [(.ref (ad 4))])) t
      refine XS.astore X18.here hx rfl (hb hby own_d_prog_38_method_5_code_17) rfl rfl (l' := #[.val (.int (6 : Int32)), .val (.ref rv), .val (.int (9 : Int32)), .val (.int (4 : Int32)), .val (.ref (ad 4))]) rfl ?_
      show Steps p.tables e below (T18.setTop (mkF m 19 #[.val (.int (6 : Int32)), .val (.ref rv), .val (.int (9 : Int32)), .val (.int (4 : Int32)), .val (.ref (ad 4))] [])) t
      refine XS.aload X18.here hx rfl (hb hby own_d_prog_38_method_5_code_19) rfl rfl ?_
      show Steps p.tables e below (T18.setTop (mkF m 21 #[.val (.int (6 : Int32)), .val (.ref rv), .val (.int (9 : Int32)), .val (.int (4 : Int32)), .val (.ref (ad 4))] [(.ref (ad 4))])) t
      exact st22 t k)
  obtain ⟨cl24, Ar24, -, Sz24, Ng24, Ha24, -⟩ := id fq1_0
  have hin24 : ¬ ((5 : Int32) < 0 ∨ cl24.slots.size ≤ ((5 : Int32)).toNatClampNeg) := inb_of Sz24 (by decide)
  have hat24 : cl24.slots[((5 : Int32)).toNatClampNeg]? = some (.ref (ad 5)) := Ha24.at hin24 rfl
  have cf25 := ((own_F_PERMISSION_DENIED_code W).keep Kp1 nin0)
  obtain ⟨T26, X26, e26, st26⟩ := getF X22 hx hZ hown (host := "") (Or.inl (hw _ (List.mem_of_getElem? (i := 29) rfl))) Via.refl e22 cf25 (g := (mkF m 21 #[.val (.int (6 : Int32)), .val (.ref rv), .val (.int (9 : Int32)), .val (.int (5 : Int32)), .val (.ref (ad 5))] [(.ref (ad 5))])) rfl rfl (hb hby own_d_prog_38_method_5_code_21)
  have ch27 : ∀ t, Steps p.tables e below (T26.setTop (mkF m 24 #[.val (.int (6 : Int32)), .val (.ref rv), .val (.int (9 : Int32)), .val (.int (5 : Int32)), .val (.ref (ad 5))] [(.int (5 : Int32))])) t → Steps p.tables e below (s₁.setTop (entryFrame m #[(.int (6 : Int32))] 5)) t := fun t k => ch23 t (by
      show Steps p.tables e below (T22.setTop (mkF m 24 #[.val (.int (6 : Int32)), .val (.ref rv), .val (.int (9 : Int32)), .val (.int (4 : Int32)), .val (.ref (ad 4))] [(.int (4 : Int32))])) t
      refine XS.iloadN X22.here hx rfl (hb hby own_d_prog_38_method_5_code_24) rfl ?_
      show Steps p.tables e below (T22.setTop (mkF m 25 #[.val (.int (6 : Int32)), .val (.ref rv), .val (.int (9 : Int32)), .val (.int (4 : Int32)), .val (.ref (ad 4))] [(.int (6 : Int32)), (.int (4 : Int32))])) t
      refine XS.icmpYes X22.here hx rfl (pc0 := 25) (pc' := 31) rfl (hb hby own_d_prog_38_method_5_code_25) rfl (feq (by decide : ¬ (4 : Int32) = (6 : Int32))).2 (by decide) (by decide) ?_
      show Steps p.tables e below (T22.setTop (mkF m 31 #[.val (.int (6 : Int32)), .val (.ref rv), .val (.int (9 : Int32)), .val (.int (4 : Int32)), .val (.ref (ad 4))] [])) t
      refine Jvm.Free.XT.iincV X22.here hx rfl (1 : Int32) (hb hby own_d_prog_38_method_5_code_31) (by decide) rfl (l' := #[.val (.int (6 : Int32)), .val (.ref rv), .val (.int (9 : Int32)), .val (.int (5 : Int32)), .val (.ref (ad 4))]) (by rw [show ((4 : Int32) + (1 : Int32)) = (5 : Int32) from by decide]; rfl) ?_
      show Steps p.tables e below (T22.setTop (mkF m 34 #[.val (.int (6 : Int32)), .val (.ref rv), .val (.int (9 : Int32)), .val (.int (5 : Int32)), .val (.ref (ad 4))] [])) t
      refine XS.goto X22.here hx rfl (pc0 := 34) (pc' := 9) rfl (hb hby own_d_prog_38_method_5_code_34) (by decide) (by decide) ?_
      show Steps p.tables e below (T22.setTop (mkF m 9 #[.val (.int (6 : Int32)), .val (.ref rv), .val (.int (9 : Int32)), .val (.int (5 : Int32)), .val (.ref (ad 4))] [])) t
      refine XS.iloadN X22.here hx rfl (hb hby own_d_prog_38_method_5_code_9) rfl ?_
      show Steps p.tables e below (T22.setTop (mkF m 10 #[.val (.int (6 : Int32)), .val (.ref rv), .val (.int (9 : Int32)), .val (.int (5 : Int32)), .val (.ref (ad 4))] [(.int (5 : Int32))])) t
      refine XS.iloadN X22.here hx rfl (hb hby own_d_prog_38_method_5_code_10) rfl ?_
      show Steps p.tables e below (T22.setTop (mkF m 11 #[.val (.int (6 : Int32)), .val (.ref rv), .val (.int (9 : Int32)), .val (.int (5 : Int32)), .val (.ref (ad 4))] [(.int (9 : Int32)), (.int (5 : Int32))])) t
      refine XS.icmpNo X22.here hx rfl (hb hby own_d_prog_38_method_5_code_11) rfl (tlt (by decide : (5 : Int32) < (9 : Int32))).2.1 ?_
      show Steps p.tables e below (T22.setTop (mkF m 14 #[.val (.int (6 : Int32)), .val (.ref rv), .val (.int (9 : Int32)), .val (.int (5 : Int32)), .val (.ref (ad 4))] [])) t
      refine XS.aloadN X22.here hx rfl (hb hby own_d_prog_38_method_5_code_14) rfl rfl ?_
      show Steps p.tables e below (T22.setTop (mkF m 15 #[.val (.int (6 : Int32)), .val (.ref rv), .val (.int (9 : Int32)), .val (.int (5 : Int32)), .val (.ref (ad 4))] [(.ref rv)])) t
      refine XS.iloadN X22.here hx rfl (hb hby own_d_prog_38_method_5_code_15) rfl ?_
      show Steps p.tables e below (T22.setTop (mkF m 16 #[.val (.int (6 : Int32)), .val (.ref rv), .val (.int (9 : Int32)), .val (.int (5 : Int32)), .val (.ref (ad 4))] [(.int (5 : Int32)), (.ref rv)])) t
      refine X22.aaload hx (j := (5 : Int32)) (v := (.ref (ad 5))) (by rw [e22]; exact Ar24.1) (State.isArrayOf_alike hZ.alike Ar24.2.1) rfl Ar24.2.2 hin24 hat24 (g := (mkF m 16 #[.val (.int (6 : Int32)), .val (.ref rv), .val (.int (9 : Int32)), .val (.int (5 : Int32)), .val (.ref (ad 4))] [(.int (5 : Int32)), (.ref rv)])) rfl rfl (hb hby own_d_prog_38_method_5_code_16) _ ?_
      show Steps p.tables e below (T22.setTop (mkF m 17 #[.val (.int (6 : Int32)), .val (.ref rv), .val (.int (9 : Int32)), .val (.int (5 : Int32)), .val (.ref (ad 4))] [(.ref (ad 5))])) t
      refine XS.astore X22.here hx rfl (hb hby own_d_prog_38_method_5_code_17) rfl rfl (l' := #[.val (.int (6 : Int32)), .val (.ref rv), .val (.int (9 : Int32)), .val (.int (5 : Int32)), .val (.ref (ad 5))]) rfl ?_
      show Steps p.tables e below (T22.setTop (mkF m 19 #[.val (.int (6 : Int32)), .val (.ref rv), .val (.int (9 : Int32)), .val (.int (5 : Int32)), .val (.ref (ad 5))] [])) t
      refine XS.aload X22.here hx rfl (hb hby own_d_prog_38_method_5_code_19) rfl rfl ?_
      show Steps p.tables e below (T22.setTop (mkF m 21 #[.val (.int (6 : Int32)), .val (.ref rv), .val (.int (9 : Int32)), .val (.int (5 : Int32)), .val (.ref (ad 5))] [(.ref (ad 5))])) t
      exact st26 t k)
  obtain ⟨cl28, Ar28, -, Sz28, Ng28, Ha28, -⟩ := id fq1_0
  have hin28 : ¬ ((6 : Int32) < 0 ∨ cl28.slots.size ≤ ((6 : Int32)).toNatClampNeg) := inb_of Sz28 (by decide)
  have hat28 : cl28.slots[((6 : Int32)).toNatClampNeg]? = some (.ref (ad 6)) := Ha28.at hin28 rfl
  have cf29 := ((own_F_GRANT_NOT_FOUND_code W).keep Kp1 nin0)
  obtain ⟨T30, X30, e30, st30⟩ := getF X26 hx hZ hown (host := "") (Or.inl (hw _ (List.mem_of_getElem? (i := 29) rfl))) Via.refl e26 cf29 (g := (mkF m 21 #[.val (.int (6 : Int32)), .val (.ref rv), .val (.int (9 : Int32)), .val (.int (6 : Int32)), .val (.ref (ad 6))] [(.ref (ad 6))])) rfl rfl (hb hby own_d_prog_38_method_5_code_21)
  have ch31 : ∀ t, Steps p.tables e below (T30.setTop (mkF m 24 #[.val (.int (6 : Int32)), .val (.ref rv), .val (.int (9 : Int32)), .val (.int (6 : Int32)), .val (.ref (ad 6))] [(.int (6 : Int32))])) t → Steps p.tables e below (s₁.setTop (entryFrame m #[(.int (6 : Int32))] 5)) t := fun t k => ch27 t (by
      show Steps p.tables e below (T26.setTop (mkF m 24 #[.val (.int (6 : Int32)), .val (.ref rv), .val (.int (9 : Int32)), .val (.int (5 : Int32)), .val (.ref (ad 5))] [(.int (5 : Int32))])) t
      refine XS.iloadN X26.here hx rfl (hb hby own_d_prog_38_method_5_code_24) rfl ?_
      show Steps p.tables e below (T26.setTop (mkF m 25 #[.val (.int (6 : Int32)), .val (.ref rv), .val (.int (9 : Int32)), .val (.int (5 : Int32)), .val (.ref (ad 5))] [(.int (6 : Int32)), (.int (5 : Int32))])) t
      refine XS.icmpYes X26.here hx rfl (pc0 := 25) (pc' := 31) rfl (hb hby own_d_prog_38_method_5_code_25) rfl (feq (by decide : ¬ (5 : Int32) = (6 : Int32))).2 (by decide) (by decide) ?_
      show Steps p.tables e below (T26.setTop (mkF m 31 #[.val (.int (6 : Int32)), .val (.ref rv), .val (.int (9 : Int32)), .val (.int (5 : Int32)), .val (.ref (ad 5))] [])) t
      refine Jvm.Free.XT.iincV X26.here hx rfl (1 : Int32) (hb hby own_d_prog_38_method_5_code_31) (by decide) rfl (l' := #[.val (.int (6 : Int32)), .val (.ref rv), .val (.int (9 : Int32)), .val (.int (6 : Int32)), .val (.ref (ad 5))]) (by rw [show ((5 : Int32) + (1 : Int32)) = (6 : Int32) from by decide]; rfl) ?_
      show Steps p.tables e below (T26.setTop (mkF m 34 #[.val (.int (6 : Int32)), .val (.ref rv), .val (.int (9 : Int32)), .val (.int (6 : Int32)), .val (.ref (ad 5))] [])) t
      refine XS.goto X26.here hx rfl (pc0 := 34) (pc' := 9) rfl (hb hby own_d_prog_38_method_5_code_34) (by decide) (by decide) ?_
      show Steps p.tables e below (T26.setTop (mkF m 9 #[.val (.int (6 : Int32)), .val (.ref rv), .val (.int (9 : Int32)), .val (.int (6 : Int32)), .val (.ref (ad 5))] [])) t
      refine XS.iloadN X26.here hx rfl (hb hby own_d_prog_38_method_5_code_9) rfl ?_
      show Steps p.tables e below (T26.setTop (mkF m 10 #[.val (.int (6 : Int32)), .val (.ref rv), .val (.int (9 : Int32)), .val (.int (6 : Int32)), .val (.ref (ad 5))] [(.int (6 : Int32))])) t
      refine XS.iloadN X26.here hx rfl (hb hby own_d_prog_38_method_5_code_10) rfl ?_
      show Steps p.tables e below (T26.setTop (mkF m 11 #[.val (.int (6 : Int32)), .val (.ref rv), .val (.int (9 : Int32)), .val (.int (6 : Int32)), .val (.ref (ad 5))] [(.int (9 : Int32)), (.int (6 : Int32))])) t
      refine XS.icmpNo X26.here hx rfl (hb hby own_d_prog_38_method_5_code_11) rfl (tlt (by decide : (6 : Int32) < (9 : Int32))).2.1 ?_
      show Steps p.tables e below (T26.setTop (mkF m 14 #[.val (.int (6 : Int32)), .val (.ref rv), .val (.int (9 : Int32)), .val (.int (6 : Int32)), .val (.ref (ad 5))] [])) t
      refine XS.aloadN X26.here hx rfl (hb hby own_d_prog_38_method_5_code_14) rfl rfl ?_
      show Steps p.tables e below (T26.setTop (mkF m 15 #[.val (.int (6 : Int32)), .val (.ref rv), .val (.int (9 : Int32)), .val (.int (6 : Int32)), .val (.ref (ad 5))] [(.ref rv)])) t
      refine XS.iloadN X26.here hx rfl (hb hby own_d_prog_38_method_5_code_15) rfl ?_
      show Steps p.tables e below (T26.setTop (mkF m 16 #[.val (.int (6 : Int32)), .val (.ref rv), .val (.int (9 : Int32)), .val (.int (6 : Int32)), .val (.ref (ad 5))] [(.int (6 : Int32)), (.ref rv)])) t
      refine X26.aaload hx (j := (6 : Int32)) (v := (.ref (ad 6))) (by rw [e26]; exact Ar28.1) (State.isArrayOf_alike hZ.alike Ar28.2.1) rfl Ar28.2.2 hin28 hat28 (g := (mkF m 16 #[.val (.int (6 : Int32)), .val (.ref rv), .val (.int (9 : Int32)), .val (.int (6 : Int32)), .val (.ref (ad 5))] [(.int (6 : Int32)), (.ref rv)])) rfl rfl (hb hby own_d_prog_38_method_5_code_16) _ ?_
      show Steps p.tables e below (T26.setTop (mkF m 17 #[.val (.int (6 : Int32)), .val (.ref rv), .val (.int (9 : Int32)), .val (.int (6 : Int32)), .val (.ref (ad 5))] [(.ref (ad 6))])) t
      refine XS.astore X26.here hx rfl (hb hby own_d_prog_38_method_5_code_17) rfl rfl (l' := #[.val (.int (6 : Int32)), .val (.ref rv), .val (.int (9 : Int32)), .val (.int (6 : Int32)), .val (.ref (ad 6))]) rfl ?_
      show Steps p.tables e below (T26.setTop (mkF m 19 #[.val (.int (6 : Int32)), .val (.ref rv), .val (.int (9 : Int32)), .val (.int (6 : Int32)), .val (.ref (ad 6))] [])) t
      refine XS.aload X26.here hx rfl (hb hby own_d_prog_38_method_5_code_19) rfl rfl ?_
      show Steps p.tables e below (T26.setTop (mkF m 21 #[.val (.int (6 : Int32)), .val (.ref rv), .val (.int (9 : Int32)), .val (.int (6 : Int32)), .val (.ref (ad 6))] [(.ref (ad 6))])) t
      exact st30 t k)
  have ch32 : ∀ t, Steps p.tables e below (T30.setTop (mkF m 30 #[.val (.int (6 : Int32)), .val (.ref rv), .val (.int (9 : Int32)), .val (.int (6 : Int32)), .val (.ref (ad 6))] [(.ref (ad 6))])) t → Steps p.tables e below (s₁.setTop (entryFrame m #[(.int (6 : Int32))] 5)) t := fun t k => ch31 t (by
      show Steps p.tables e below (T30.setTop (mkF m 24 #[.val (.int (6 : Int32)), .val (.ref rv), .val (.int (9 : Int32)), .val (.int (6 : Int32)), .val (.ref (ad 6))] [(.int (6 : Int32))])) t
      refine XS.iloadN X30.here hx rfl (hb hby own_d_prog_38_method_5_code_24) rfl ?_
      show Steps p.tables e below (T30.setTop (mkF m 25 #[.val (.int (6 : Int32)), .val (.ref rv), .val (.int (9 : Int32)), .val (.int (6 : Int32)), .val (.ref (ad 6))] [(.int (6 : Int32)), (.int (6 : Int32))])) t
      refine XS.icmpNo X30.here hx rfl (hb hby own_d_prog_38_method_5_code_25) rfl (teq (by decide : (6 : Int32) = (6 : Int32))).2 ?_
      show Steps p.tables e below (T30.setTop (mkF m 28 #[.val (.int (6 : Int32)), .val (.ref rv), .val (.int (9 : Int32)), .val (.int (6 : Int32)), .val (.ref (ad 6))] [])) t
      refine XS.aload X30.here hx rfl (hb hby own_d_prog_38_method_5_code_28) rfl rfl ?_
      exact k)
  obtain ⟨fs, hr, hrun, hended, hW, hsame⟩ := X30.leave (v := some (.ref (ad 6))) (fun h => by rw [Bd.returns] at h; cases h)
  refine ⟨_, _, ch32 _ ?_, hrun, hended, _, _, rfl, ?_, ⟨_, rfl⟩, hW, hsame.mono (by decide) (by decide)⟩
  · show Steps p.tables e below (T30.setTop (mkF m 30 #[.val (.int (6 : Int32)), .val (.ref rv), .val (.int (9 : Int32)), .val (.int (6 : Int32)), .val (.ref (ad 6))] [(.ref (ad 6))])) _
    jvm_step X30.here [X30.here.top, hx, (hb hby own_d_prog_38_method_5_code_30), X30.method', Bd.returns, Value.isRef, FieldType.isReference]
    first | (intro acts; rw [hr _ acts rfl rfl rfl]) | rw [hr _ _ rfl rfl rfl]
    exact Steps.refl _
  · show QK (some (.ref (ad 6))) h0 n0 _ T30.heap _
    rw [e30]
    exact ⟨rfl, N1, Kp1⟩
theorem own_ef_own_expd_6 (m : MethodId) {x0 : Int32} : entryFrame m #[(.int x0)] 1 = mkF m 0 #[.val (.int x0)] [] := by first | (simp [entryFrame, mkF, argsToLocals, Value.category, maxLocals]; done) | rfl
set_option maxRecDepth 65536 in
set_option maxHeartbeats 40000000 in
theorem own_expd_6 (l : Launch) (Z : State) (a0 : Array Value) (hw : ∀ d ∈ tables_1, d.before a0 Z = true) (ws : List Jvm.Cond) (h0 : Heap) (n0 : Nat) (Z0 : n0 ≤ h0.size) (ad : Nat → Addr) (a__VALUES : Addr) (k__VALUES : ClassId) (W : OwnWd Z h0 ad a__VALUES k__VALUES) :
    MetFree l (⟨"com/example/limpet/limpet/io/StatusFromCodePinLaw", "expected", "(I)Lcom/example/limpet/limpet/io/Status;"⟩ : MethodName) (head1 (Jvm.Cond.code (⟨"com/example/limpet/limpet/io/StatusFromCodePinLaw", "expected", "(I)Lcom/example/limpet/limpet/io/Status;"⟩ : MethodName) method_2_code 1 (some (.object "com/example/limpet/limpet/io/Status")) :: ws) ({ frames := 0, cells := 0, slots := 0, locals := 0 } : Room)) (fun a U => a = #[(.int (6 : Int32))] ∧ Z.Warmed39 U.vm ∧ U.heap = h0) (fun _ _ _ _ _ => True) (fun _ U o U' => ∃ v L, o = .returned v ∧ QV (some (.ref (ad 6))) h0 n0 v U'.heap L ∧ FrameEnd U o U' L ({ frames := 0, cells := 0, slots := 0, locals := 0 } : Room).cells ({ frames := 0, cells := 0, slots := 0, locals := 0 } : Room).slots) := by
  refine MetFree.of_bodySF (plainFor_of_name own_pn_com_example_limpet_limpet_io_StatusFromCodePinLaw) hisR ?_
  intro p e s m args below meth c s₁ Bd hml0 hP hK
  obtain ⟨rfl, hZ, hh⟩ := hP
  have hx := Bd.exec
  have hby := Bd.bytes
  have hml : c.maxLocals = 1 := hml0
  have hown : s.vm.findClass "com/example/limpet/limpet/io/StatusFromCodePinLaw" = some m.cls := findClass_of_methodNamed Bd.named
  have hnm := (name_of_methodNamed Bd.named Bd.method).1
  have X0 : Stand p l e ({ frames := 0, cells := 0, slots := 0, locals := 0 } : Room) s m #[(.int (6 : Int32))] below meth c s₁ [] 0 0 := Stand.of_body Bd
  have e0 : s₁.heap = h0 := by rw [← hh, Bd.state]; rfl
  have N0 := Fr.nil n0
  have pre0 : ∀ t, Steps p.tables e below (s₁.setTop (mkF m 0 #[.val (.int (6 : Int32))] [])) t → Steps p.tables e below (s₁.setTop (entryFrame m #[(.int (6 : Int32))] 1)) t := fun t k => castTop (own_ef_own_expd_6 m) k
  obtain ⟨T1, X1, e1, st1⟩ := getS2 X0 hx hZ hown (host := "") (Or.inl (hw _ (List.mem_of_getElem? (i := 47) rfl))) Via.refl e0 (own_S_GRANT_NOT_FOUND W) (g := (mkF m 59 #[.val (.int (6 : Int32))] [])) rfl (hb hby own_d_method_2_code_59)
  have ch2 : ∀ t, Steps p.tables e below (T1.setTop (mkF m 62 #[.val (.int (6 : Int32))] [(.ref (ad 6))])) t → Steps p.tables e below (s₁.setTop (entryFrame m #[(.int (6 : Int32))] 1)) t := fun t k => pre0 t (by
      show Steps p.tables e below (s₁.setTop (mkF m 0 #[.val (.int (6 : Int32))] [])) t
      refine XS.iloadN X0.here hx rfl (hb hby own_d_method_2_code_0) rfl ?_
      show Steps p.tables e below (s₁.setTop (mkF m 1 #[.val (.int (6 : Int32))] [(.int (6 : Int32))])) t
      refine XS.ifYes X0.here hx rfl (pc0 := 1) (pc' := 8) rfl (hb hby own_d_method_2_code_1) rfl ((if0 _ _).trans (feq (by decide : ¬ (6 : Int32) = (0 : Int32))).2) (by decide) (by decide) ?_
      show Steps p.tables e below (s₁.setTop (mkF m 8 #[.val (.int (6 : Int32))] [])) t
      refine XS.iloadN X0.here hx rfl (hb hby own_d_method_2_code_8) rfl ?_
      show Steps p.tables e below (s₁.setTop (mkF m 9 #[.val (.int (6 : Int32))] [(.int (6 : Int32))])) t
      refine XS.iconst X0.here hx rfl (hb hby own_d_method_2_code_9) ?_
      show Steps p.tables e below (s₁.setTop (mkF m 10 #[.val (.int (6 : Int32))] [(.int (1 : Int32)), (.int (6 : Int32))])) t
      refine XS.icmpYes X0.here hx rfl (pc0 := 10) (pc' := 17) rfl (hb hby own_d_method_2_code_10) rfl (feq (by decide : ¬ (6 : Int32) = (1 : Int32))).2 (by decide) (by decide) ?_
      show Steps p.tables e below (s₁.setTop (mkF m 17 #[.val (.int (6 : Int32))] [])) t
      refine XS.iloadN X0.here hx rfl (hb hby own_d_method_2_code_17) rfl ?_
      show Steps p.tables e below (s₁.setTop (mkF m 18 #[.val (.int (6 : Int32))] [(.int (6 : Int32))])) t
      refine XS.iconst X0.here hx rfl (hb hby own_d_method_2_code_18) ?_
      show Steps p.tables e below (s₁.setTop (mkF m 19 #[.val (.int (6 : Int32))] [(.int (2 : Int32)), (.int (6 : Int32))])) t
      refine XS.icmpYes X0.here hx rfl (pc0 := 19) (pc' := 26) rfl (hb hby own_d_method_2_code_19) rfl (feq (by decide : ¬ (6 : Int32) = (2 : Int32))).2 (by decide) (by decide) ?_
      show Steps p.tables e below (s₁.setTop (mkF m 26 #[.val (.int (6 : Int32))] [])) t
      refine XS.iloadN X0.here hx rfl (hb hby own_d_method_2_code_26) rfl ?_
      show Steps p.tables e below (s₁.setTop (mkF m 27 #[.val (.int (6 : Int32))] [(.int (6 : Int32))])) t
      refine XS.iconst X0.here hx rfl (hb hby own_d_method_2_code_27) ?_
      show Steps p.tables e below (s₁.setTop (mkF m 28 #[.val (.int (6 : Int32))] [(.int (3 : Int32)), (.int (6 : Int32))])) t
      refine XS.icmpYes X0.here hx rfl (pc0 := 28) (pc' := 35) rfl (hb hby own_d_method_2_code_28) rfl (feq (by decide : ¬ (6 : Int32) = (3 : Int32))).2 (by decide) (by decide) ?_
      show Steps p.tables e below (s₁.setTop (mkF m 35 #[.val (.int (6 : Int32))] [])) t
      refine XS.iloadN X0.here hx rfl (hb hby own_d_method_2_code_35) rfl ?_
      show Steps p.tables e below (s₁.setTop (mkF m 36 #[.val (.int (6 : Int32))] [(.int (6 : Int32))])) t
      refine XS.iconst X0.here hx rfl (hb hby own_d_method_2_code_36) ?_
      show Steps p.tables e below (s₁.setTop (mkF m 37 #[.val (.int (6 : Int32))] [(.int (4 : Int32)), (.int (6 : Int32))])) t
      refine XS.icmpYes X0.here hx rfl (pc0 := 37) (pc' := 44) rfl (hb hby own_d_method_2_code_37) rfl (feq (by decide : ¬ (6 : Int32) = (4 : Int32))).2 (by decide) (by decide) ?_
      show Steps p.tables e below (s₁.setTop (mkF m 44 #[.val (.int (6 : Int32))] [])) t
      refine XS.iloadN X0.here hx rfl (hb hby own_d_method_2_code_44) rfl ?_
      show Steps p.tables e below (s₁.setTop (mkF m 45 #[.val (.int (6 : Int32))] [(.int (6 : Int32))])) t
      refine XS.iconst X0.here hx rfl (hb hby own_d_method_2_code_45) ?_
      show Steps p.tables e below (s₁.setTop (mkF m 46 #[.val (.int (6 : Int32))] [(.int (5 : Int32)), (.int (6 : Int32))])) t
      refine XS.icmpYes X0.here hx rfl (pc0 := 46) (pc' := 53) rfl (hb hby own_d_method_2_code_46) rfl (feq (by decide : ¬ (6 : Int32) = (5 : Int32))).2 (by decide) (by decide) ?_
      show Steps p.tables e below (s₁.setTop (mkF m 53 #[.val (.int (6 : Int32))] [])) t
      refine XS.iloadN X0.here hx rfl (hb hby own_d_method_2_code_53) rfl ?_
      show Steps p.tables e below (s₁.setTop (mkF m 54 #[.val (.int (6 : Int32))] [(.int (6 : Int32))])) t
      refine XS.bipush X0.here hx rfl (hb hby own_d_method_2_code_54) ?_
      show Steps p.tables e below (s₁.setTop (mkF m 56 #[.val (.int (6 : Int32))] [(.int (6 : Int32)), (.int (6 : Int32))])) t
      refine XS.icmpNo X0.here hx rfl (hb hby own_d_method_2_code_56) rfl (teq (by decide : (6 : Int32) = (6 : Int32))).2 ?_
      show Steps p.tables e below (s₁.setTop (mkF m 59 #[.val (.int (6 : Int32))] [])) t
      exact st1 t k)
  obtain ⟨fs, hr, hrun, hended, hW, hsame⟩ := X1.leave (v := some (.ref (ad 6))) (fun h => by rw [Bd.returns] at h; cases h)
  refine ⟨_, _, ch2 _ ?_, hrun, hended, _, _, rfl, ?_, ⟨_, rfl⟩, hW, hsame.mono (by decide) (by decide)⟩
  · show Steps p.tables e below (T1.setTop (mkF m 62 #[.val (.int (6 : Int32))] [(.ref (ad 6))])) _
    jvm_step X1.here [X1.here.top, hx, (hb hby own_d_method_2_code_62), X1.method', Bd.returns, Value.isRef, FieldType.isReference]
    first | (intro acts; rw [hr _ acts rfl rfl rfl]) | rw [hr _ _ rfl rfl rfl]
    exact Steps.refl _
  · show QV (some (.ref (ad 6))) h0 n0 _ T1.heap _
    rw [e1]
    exact ⟨rfl, N0, rfl⟩
theorem own_ef_own_code_6 (m : MethodId) {x0 : Addr} : entryFrame m #[(.ref x0)] 1 = mkF m 0 #[.val (.ref x0)] [] := by first | (simp [entryFrame, mkF, argsToLocals, Value.category, maxLocals]; done) | rfl
set_option maxRecDepth 65536 in
set_option maxHeartbeats 40000000 in
theorem own_code_6 (l : Launch) (Z : State) (a0 : Array Value) (hw : ∀ d ∈ tables_1, d.before a0 Z = true) (ws : List Jvm.Cond) (h0 : Heap) (n0 : Nat) (Z0 : n0 ≤ h0.size) (ad : Nat → Addr) (a__VALUES : Addr) (k__VALUES : ClassId) (W : OwnWd Z h0 ad a__VALUES k__VALUES) :
    MetFree l (⟨"com/example/limpet/limpet/io/Status", "code", "()I"⟩ : MethodName) (head1 (Jvm.Cond.code (⟨"com/example/limpet/limpet/io/Status", "code", "()I"⟩ : MethodName) prog_38_method_4_code 1 (some .int) :: ws) ({ frames := 0, cells := 0, slots := 0, locals := 0 } : Room)) (fun a U => a = #[(.ref (ad 6))] ∧ Z.Warmed39 U.vm ∧ U.heap = h0) (fun _ _ _ _ _ => True) (fun _ U o U' => ∃ v L, o = .returned v ∧ QV (some (.int (6 : Int32))) h0 n0 v U'.heap L ∧ FrameEnd U o U' L ({ frames := 0, cells := 0, slots := 0, locals := 0 } : Room).cells ({ frames := 0, cells := 0, slots := 0, locals := 0 } : Room).slots) := by
  refine MetFree.of_bodySF (plainFor_of_name own_pn_com_example_limpet_limpet_io_Status) hisR ?_
  intro p e s m args below meth c s₁ Bd hml0 hP hK
  obtain ⟨rfl, hZ, hh⟩ := hP
  have hx := Bd.exec
  have hby := Bd.bytes
  have hml : c.maxLocals = 1 := hml0
  have hown : s.vm.findClass "com/example/limpet/limpet/io/Status" = some m.cls := findClass_of_methodNamed Bd.named
  have hnm := (name_of_methodNamed Bd.named Bd.method).1
  have X0 : Stand p l e ({ frames := 0, cells := 0, slots := 0, locals := 0 } : Room) s m #[(.ref (ad 6))] below meth c s₁ [] 0 0 := Stand.of_body Bd
  have e0 : s₁.heap = h0 := by rw [← hh, Bd.state]; rfl
  have N0 := Fr.nil n0
  have pre0 : ∀ t, Steps p.tables e below (s₁.setTop (mkF m 0 #[.val (.ref (ad 6))] [])) t → Steps p.tables e below (s₁.setTop (entryFrame m #[(.ref (ad 6))] 1)) t := fun t k => castTop (own_ef_own_code_6 m) k
  obtain ⟨T1, X1, e1, st1⟩ := getF X0 hx hZ hown (host := "") (Or.inl (hw _ (List.mem_of_getElem? (i := 29) rfl))) Via.refl e0 (own_F_GRANT_NOT_FOUND_code W) (g := (mkF m 1 #[.val (.ref (ad 6))] [(.ref (ad 6))])) rfl rfl (hb hby own_d_prog_38_method_4_code_1)
  have ch2 : ∀ t, Steps p.tables e below (T1.setTop (mkF m 4 #[.val (.ref (ad 6))] [(.int (6 : Int32))])) t → Steps p.tables e below (s₁.setTop (entryFrame m #[(.ref (ad 6))] 1)) t := fun t k => pre0 t (by
      show Steps p.tables e below (s₁.setTop (mkF m 0 #[.val (.ref (ad 6))] [])) t
      refine XS.aloadN X0.here hx rfl (hb hby own_d_prog_38_method_4_code_0) rfl rfl ?_
      show Steps p.tables e below (s₁.setTop (mkF m 1 #[.val (.ref (ad 6))] [(.ref (ad 6))])) t
      exact st1 t k)
  obtain ⟨fs, hr, hrun, hended, hW, hsame⟩ := X1.leave (v := some (.int (6 : Int32))) (fun h => by rw [Bd.returns] at h; cases h)
  refine ⟨_, _, ch2 _ ?_, hrun, hended, _, _, rfl, ?_, ⟨_, rfl⟩, hW, hsame.mono (by decide) (by decide)⟩
  · show Steps p.tables e below (T1.setTop (mkF m 4 #[.val (.ref (ad 6))] [(.int (6 : Int32))])) _
    exact retI X1 hx Bd.returns (hb hby own_d_prog_38_method_4_code_4) hr
  · show QV (some (.int (6 : Int32))) h0 n0 _ T1.heap _
    rw [e1]
    exact ⟨rfl, N0, rfl⟩
theorem own_ef_own_law_6 (m : MethodId) {x0 : Int32} : entryFrame m #[(.int x0)] maxLocals = mkF m 0 #[.val (.int x0), .unset, .unset, .unset] [] := by first | (simp [entryFrame, mkF, argsToLocals, Value.category, maxLocals]; done) | rfl
set_option maxRecDepth 65536 in
set_option maxHeartbeats 40000000 in
theorem own_law_6 (l : Launch) (Z : State) (a0 : Array Value) (hw : ∀ d ∈ tables_1, d.before a0 Z = true) (ws : List Jvm.Cond) (h0 : Heap) (n0 : Nat) (Z0 : n0 ≤ h0.size) (p1 : Int32) (hk : (p1 &&& (2147483647 : Int32)) % (9 : Int32) = (6 : Int32)) (ad : Nat → Addr) (a__VALUES : Addr) (k__VALUES : ClassId) (W : OwnWd Z h0 ad a__VALUES k__VALUES) :
    MetFree l x (head1 (Jvm.Cond.code x code maxLocals ret :: ws) room_1) (fun a U => a = #[(.int p1)] ∧ Z.Warmed39 U.vm ∧ U.heap = h0) (fun _ _ _ _ _ => True) (fun _ U o U' => ∃ v L, o = .returned v ∧ QN (some (.int (1 : Int32))) n0 v U'.heap L ∧ FrameEnd U o U' L room_1.cells room_1.slots) := by
  refine MetFree.of_bodySF (plainFor_of_name own_pn_com_example_limpet_limpet_io_StatusFromCodePinLaw) hisR ?_
  intro p e s m args below meth c s₁ Bd hml0 hP hK
  obtain ⟨rfl, hZ, hh⟩ := hP
  have hx := Bd.exec
  have hby := Bd.bytes
  have hml : c.maxLocals = 4 := hml0
  have hown : s.vm.findClass "com/example/limpet/limpet/io/StatusFromCodePinLaw" = some m.cls := findClass_of_methodNamed Bd.named
  have hnm := (name_of_methodNamed Bd.named Bd.method).1
  have X0 : Stand p l e room_1 s m #[(.int p1)] below meth c s₁ [] 0 0 := Stand.of_body Bd
  have e0 : s₁.heap = h0 := by rw [← hh, Bd.state]; rfl
  have N0 := Fr.nil n0
  have pre0 : ∀ t, Steps p.tables e below (s₁.setTop (mkF m 0 #[.val (.int p1), .unset, .unset, .unset] [])) t → Steps p.tables e below (s₁.setTop (entryFrame m #[(.int p1)] maxLocals)) t := fun t k => castTop (own_ef_own_law_6 m) k
  obtain ⟨vv1, _, ⟨T1, L1, kk1, nn1⟩, -, X1, ⟨Lc1, hQ1, l1, y1, z1⟩, st1⟩ := Jvm.LawKit.callS X0 hx (y := (⟨"com/example/limpet/limpet/io/Status", "fromCode", "(I)Lcom/example/limpet/limpet/io/Status;"⟩ : MethodName)) hown (mvT hZ (hw _ (List.mem_of_getElem? (i := 1) rfl))) (mvT hZ (hw _ (List.mem_of_getElem? (i := 2) rfl))) (mvT hZ (hw _ (List.mem_of_getElem? (i := 3) rfl))) (mvT hZ (hw _ (List.mem_of_getElem? (i := 4) rfl))) (by decide) (backOf (W := 0) (own_from_6 l Z a0 hw [] h0 n0 (Nat.le_trans Z0 (Keep.refl h0 []).1) ad a__VALUES k__VALUES W) hZ (hw _ (List.mem_of_getElem? (i := 4) rfl)) (hw _ (List.mem_of_getElem? (i := 3) rfl)) (by decide) (by decide)) (g := (mkF m 9 #[.val (.int p1), .val (.int (6 : Int32)), .unset, .unset] [(.int (6 : Int32))])) rfl (by rw [hml]; rfl) (argsL := [(.int (6 : Int32))]) (rest := []) (lenOf own_pd__I_Lcom_example_limpet_limpet_io_Status_ rfl) rfl (by show 2 * 0 + _ ≤ _; exact Nat.le_of_eq rfl) (hb hby at_9) (fun _ _ => ⟨rfl, e0, (by decide : 0 + 1 ≤ _), (by decide : 0 + 9 ≤ _)⟩)
  dsimp only [Pt.U, Pt.locs, Pt.cells, Pt.slots] at X1 l1 y1 z1 st1 hQ1
  subst l1 y1 z1
  obtain ⟨hh1, eh1⟩ : ∃ h, T1.heap = h := ⟨_, rfl⟩
  rw [eh1] at hQ1
  obtain ⟨rfl, Nq1, Kq1⟩ := hQ1
  have N1 := Fr.app N0 Nq1
  have Kp1 := Keep.trans (Keep.refl h0 []) Kq1 all0
  have ch2 : ∀ t, Steps p.tables e below (T1.setTop (mkF m 12 #[.val (.int p1), .val (.int (6 : Int32)), .unset, .unset] [(.ref (ad 6))])) t → Steps p.tables e below (s₁.setTop (entryFrame m #[(.int p1)] maxLocals)) t := fun t k => pre0 t (by
      show Steps p.tables e below (s₁.setTop (mkF m 0 #[.val (.int p1), .unset, .unset, .unset] [])) t
      refine XS.iloadN X0.here hx rfl (hb hby at_0) rfl ?_
      show Steps p.tables e below (s₁.setTop (mkF m 1 #[.val (.int p1), .unset, .unset, .unset] [(.int p1)])) t
      refine X0.ldcInt hx hown (mvT hZ (hw _ (List.mem_of_getElem? (i := 0) rfl))) (g := (mkF m 1 #[.val (.int p1), .unset, .unset, .unset] [(.int p1)])) rfl (hb hby at_1) _ ?_
      show Steps p.tables e below (s₁.setTop (mkF m 3 #[.val (.int p1), .unset, .unset, .unset] [(.int (2147483647 : Int32)), (.int p1)])) t
      refine XS.iand X0.here hx rfl (hb hby at_3) rfl ?_
      show Steps p.tables e below (s₁.setTop (mkF m 4 #[.val (.int p1), .unset, .unset, .unset] [(.int (p1 &&& (2147483647 : Int32)))])) t
      refine XS.bipush X0.here hx rfl (hb hby at_4) ?_
      show Steps p.tables e below (s₁.setTop (mkF m 6 #[.val (.int p1), .unset, .unset, .unset] [(.int (9 : Int32)), (.int (p1 &&& (2147483647 : Int32)))])) t
      refine Jvm.RoadKit.iremM (g := (mkF m 6 #[.val (.int p1), .unset, .unset, .unset] [(.int (9 : Int32)), (.int (p1 &&& (2147483647 : Int32)))])) X0 hx rfl (hb hby at_6) rfl (by decide) ?_
      rw [hk]
      show Steps p.tables e below (s₁.setTop (mkF m 7 #[.val (.int p1), .unset, .unset, .unset] [(.int (6 : Int32))])) t
      refine XS.istoreN X0.here hx rfl (hb hby at_7) rfl (l' := #[.val (.int p1), .val (.int (6 : Int32)), .unset, .unset]) rfl ?_
      show Steps p.tables e below (s₁.setTop (mkF m 8 #[.val (.int p1), .val (.int (6 : Int32)), .unset, .unset] [])) t
      refine XS.iloadN X0.here hx rfl (hb hby at_8) rfl ?_
      show Steps p.tables e below (s₁.setTop (mkF m 9 #[.val (.int p1), .val (.int (6 : Int32)), .unset, .unset] [(.int (6 : Int32))])) t
      exact st1 t k)
  obtain ⟨vv3, _, ⟨T3, L3, kk3, nn3⟩, -, X3, ⟨Lc3, hQ3, l3, y3, z3⟩, st3⟩ := Jvm.LawKit.callS X1 hx (y := (⟨"com/example/limpet/limpet/io/StatusFromCodePinLaw", "expected", "(I)Lcom/example/limpet/limpet/io/Status;"⟩ : MethodName)) hown (mvT hZ (hw _ (List.mem_of_getElem? (i := 31) rfl))) (mvT hZ (hw _ (List.mem_of_getElem? (i := 32) rfl))) (mvT hZ (hw _ (List.mem_of_getElem? (i := 33) rfl))) (mvT hZ (hw _ (List.mem_of_getElem? (i := 34) rfl))) (by decide) (backOf (W := 0) (own_expd_6 l Z a0 hw [] hh1 n0 (Nat.le_trans Z0 Kp1.1) ad a__VALUES k__VALUES (own_Wd_ext W (own_ext_of_keep Kp1 all0))) hZ (hw _ (List.mem_of_getElem? (i := 34) rfl)) (hw _ (List.mem_of_getElem? (i := 33) rfl)) (by decide) (by decide)) (g := (mkF m 14 #[.val (.int p1), .val (.int (6 : Int32)), .val (.ref (ad 6)), .unset] [(.int (6 : Int32))])) rfl (by rw [hml]; rfl) (argsL := [(.int (6 : Int32))]) (rest := []) (lenOf own_pd__I_Lcom_example_limpet_limpet_io_Status_ rfl) rfl (by show 2 * 0 + _ ≤ _; exact Nat.le_of_eq rfl) (hb hby at_14) (fun _ _ => ⟨rfl, eh1, (by decide : 1 + 0 ≤ _), (by decide : 9 + 0 ≤ _)⟩)
  dsimp only [Pt.U, Pt.locs, Pt.cells, Pt.slots] at X3 l3 y3 z3 st3 hQ3
  subst l3 y3 z3
  obtain ⟨rfl, Nq3, e3⟩ := hQ3
  have N3 := Fr.app N1 Nq3
  have ch4 : ∀ t, Steps p.tables e below (T3.setTop (mkF m 17 #[.val (.int p1), .val (.int (6 : Int32)), .val (.ref (ad 6)), .unset] [(.ref (ad 6))])) t → Steps p.tables e below (s₁.setTop (entryFrame m #[(.int p1)] maxLocals)) t := fun t k => ch2 t (by
      show Steps p.tables e below (T1.setTop (mkF m 12 #[.val (.int p1), .val (.int (6 : Int32)), .unset, .unset] [(.ref (ad 6))])) t
      refine XS.astoreN X1.here hx rfl (hb hby at_12) rfl rfl (l' := #[.val (.int p1), .val (.int (6 : Int32)), .val (.ref (ad 6)), .unset]) rfl ?_
      show Steps p.tables e below (T1.setTop (mkF m 13 #[.val (.int p1), .val (.int (6 : Int32)), .val (.ref (ad 6)), .unset] [])) t
      refine XS.iloadN X1.here hx rfl (hb hby at_13) rfl ?_
      show Steps p.tables e below (T1.setTop (mkF m 14 #[.val (.int p1), .val (.int (6 : Int32)), .val (.ref (ad 6)), .unset] [(.int (6 : Int32))])) t
      exact st3 t k)
  have cf6 := (Exa.keep (own_E_GRANT_NOT_FOUND W) Kp1)
  obtain ⟨cq5, kq5, qa5, qb5, qc5⟩ := isOf hZ e3 cf6
  obtain ⟨vv7, _, ⟨T7, L7, kk7, nn7⟩, -, X7, ⟨Lc7, hQ7, l7, y7, z7⟩, st7⟩ := X3.virtualBack hx (y := (⟨"com/example/limpet/limpet/io/Status", "code", "()I"⟩ : MethodName)) (z := (⟨"com/example/limpet/limpet/io/Status", "code", "()I"⟩ : MethodName)) hown (mvT hZ (hw _ (List.mem_of_getElem? (i := 36) rfl))) (mvT hZ (hw _ (List.mem_of_getElem? (i := 37) rfl))) (notFace_of_selects (args := #[]) (mvT hZ (hw _ (List.mem_of_getElem? (i := 39) rfl)))) (mvT hZ (hw _ (List.mem_of_getElem? (i := 39) rfl))) (mvT hZ (hw _ (List.mem_of_getElem? (i := 38) rfl))) (by decide) (backOf (W := 0) (own_code_6 l Z a0 hw [] hh1 n0 (Nat.le_trans Z0 Kp1.1) ad a__VALUES k__VALUES (own_Wd_ext W (own_ext_of_keep Kp1 all0))) hZ (hw _ (List.mem_of_getElem? (i := 40) rfl)) (hw _ (List.mem_of_getElem? (i := 3) rfl)) (by decide) (by decide)) qa5 qc5 (g := (mkF m 24 #[.val (.int p1), .val (.int (6 : Int32)), .val (.ref (ad 6)), .val (.ref (ad 6))] [(.ref (ad 6))])) rfl (by rw [hml]; rfl) (Steps.refl _) (argsL := []) (rest := []) (lenOf own_pd___I rfl) rfl (by show 2 * 0 + _ ≤ _; exact Nat.le_of_eq rfl) (hb hby at_24) (fun _ _ => ⟨rfl, e3, (by decide : 1 + 0 ≤ _), (by decide : 9 + 0 ≤ _)⟩)
  dsimp only [Pt.U, Pt.locs, Pt.cells, Pt.slots] at X7 l7 y7 z7 st7 hQ7
  subst l7 y7 z7
  obtain ⟨rfl, Nq7, e7⟩ := hQ7
  have N7 := Fr.app N3 Nq7
  have ch8 : ∀ t, Steps p.tables e below (T7.setTop (mkF m 27 #[.val (.int p1), .val (.int (6 : Int32)), .val (.ref (ad 6)), .val (.ref (ad 6))] [(.int (6 : Int32))])) t → Steps p.tables e below (s₁.setTop (entryFrame m #[(.int p1)] maxLocals)) t := fun t k => ch4 t (by
      show Steps p.tables e below (T3.setTop (mkF m 17 #[.val (.int p1), .val (.int (6 : Int32)), .val (.ref (ad 6)), .unset] [(.ref (ad 6))])) t
      refine XS.astoreN X3.here hx rfl (hb hby at_17) rfl rfl (l' := #[.val (.int p1), .val (.int (6 : Int32)), .val (.ref (ad 6)), .val (.ref (ad 6))]) rfl ?_
      show Steps p.tables e below (T3.setTop (mkF m 18 #[.val (.int p1), .val (.int (6 : Int32)), .val (.ref (ad 6)), .val (.ref (ad 6))] [])) t
      refine XS.aloadN X3.here hx rfl (hb hby at_18) rfl rfl ?_
      show Steps p.tables e below (T3.setTop (mkF m 19 #[.val (.int p1), .val (.int (6 : Int32)), .val (.ref (ad 6)), .val (.ref (ad 6))] [(.ref (ad 6))])) t
      refine XS.aloadN X3.here hx rfl (hb hby at_19) rfl rfl ?_
      show Steps p.tables e below (T3.setTop (mkF m 20 #[.val (.int p1), .val (.int (6 : Int32)), .val (.ref (ad 6)), .val (.ref (ad 6))] [(.ref (ad 6)), (.ref (ad 6))])) t
      refine Jvm.RoadKit.acmp (g := (mkF m 20 #[.val (.int p1), .val (.int (6 : Int32)), .val (.ref (ad 6)), .val (.ref (ad 6))] [(.ref (ad 6)), (.ref (ad 6))])) X3 hx rfl rfl rfl (pc0 := 20) (pc' := 23) (same := true) rfl (hb hby at_20) rfl (decide_eq_true rfl) (by decide) (by decide) ?_
      show Steps p.tables e below (T3.setTop (mkF m 23 #[.val (.int p1), .val (.int (6 : Int32)), .val (.ref (ad 6)), .val (.ref (ad 6))] [])) t
      refine XS.aloadN X3.here hx rfl (hb hby at_23) rfl rfl ?_
      show Steps p.tables e below (T3.setTop (mkF m 24 #[.val (.int p1), .val (.int (6 : Int32)), .val (.ref (ad 6)), .val (.ref (ad 6))] [(.ref (ad 6))])) t
      exact st7.trans k)
  have ch9 : ∀ t, Steps p.tables e below (T7.setTop (mkF m 36 #[.val (.int p1), .val (.int (6 : Int32)), .val (.ref (ad 6)), .val (.ref (ad 6))] [(.int (1 : Int32))])) t → Steps p.tables e below (s₁.setTop (entryFrame m #[(.int p1)] maxLocals)) t := fun t k => ch8 t (by
      show Steps p.tables e below (T7.setTop (mkF m 27 #[.val (.int p1), .val (.int (6 : Int32)), .val (.ref (ad 6)), .val (.ref (ad 6))] [(.int (6 : Int32))])) t
      refine XS.iloadN X7.here hx rfl (hb hby at_27) rfl ?_
      show Steps p.tables e below (T7.setTop (mkF m 28 #[.val (.int p1), .val (.int (6 : Int32)), .val (.ref (ad 6)), .val (.ref (ad 6))] [(.int (6 : Int32)), (.int (6 : Int32))])) t
      refine XS.icmpNo X7.here hx rfl (hb hby at_28) rfl (teq (by decide : (6 : Int32) = (6 : Int32))).2 ?_
      show Steps p.tables e below (T7.setTop (mkF m 31 #[.val (.int p1), .val (.int (6 : Int32)), .val (.ref (ad 6)), .val (.ref (ad 6))] [])) t
      refine XS.iconst X7.here hx rfl (hb hby at_31) ?_
      show Steps p.tables e below (T7.setTop (mkF m 32 #[.val (.int p1), .val (.int (6 : Int32)), .val (.ref (ad 6)), .val (.ref (ad 6))] [(.int (1 : Int32))])) t
      refine XS.goto X7.here hx rfl (pc0 := 32) (pc' := 36) rfl (hb hby at_32) (by decide) (by decide) ?_
      exact k)
  obtain ⟨fs, hr, hrun, hended, hW, hsame⟩ := X7.leave (v := some (.int (1 : Int32))) (fun h => by rw [Bd.returns] at h; cases h)
  refine ⟨_, _, ch9 _ ?_, hrun, hended, _, _, rfl, ?_, ⟨_, rfl⟩, hW, hsame.mono (by decide) (by decide)⟩
  · show Steps p.tables e below (T7.setTop (mkF m 36 #[.val (.int p1), .val (.int (6 : Int32)), .val (.ref (ad 6)), .val (.ref (ad 6))] [(.int (1 : Int32))])) _
    exact retN X7 hx (t := .boolean) Bd.returns (by simp) (hb hby at_36) hr
  · show QN (some (.int (1 : Int32))) n0 _ T7.heap _
    rw [e7]
    exact ⟨rfl, N7⟩
theorem own_ef_own_from_7 (m : MethodId) {x0 : Int32} : entryFrame m #[(.int x0)] 5 = mkF m 0 #[.val (.int x0), .unset, .unset, .unset, .unset] [] := by first | (simp [entryFrame, mkF, argsToLocals, Value.category, maxLocals]; done) | rfl
set_option maxRecDepth 65536 in
set_option maxHeartbeats 40000000 in
theorem own_from_7 (l : Launch) (Z : State) (a0 : Array Value) (hw : ∀ d ∈ tables_1, d.before a0 Z = true) (ws : List Jvm.Cond) (h0 : Heap) (n0 : Nat) (Z0 : n0 ≤ h0.size) (ad : Nat → Addr) (a__VALUES : Addr) (k__VALUES : ClassId) (W : OwnWd Z h0 ad a__VALUES k__VALUES) :
    MetFree l (⟨"com/example/limpet/limpet/io/Status", "fromCode", "(I)Lcom/example/limpet/limpet/io/Status;"⟩ : MethodName) (head1 (Jvm.Cond.code (⟨"com/example/limpet/limpet/io/Status", "fromCode", "(I)Lcom/example/limpet/limpet/io/Status;"⟩ : MethodName) prog_38_method_5_code 5 (some (.object "com/example/limpet/limpet/io/Status")) :: ws) ({ frames := 2, cells := 1, slots := 9, locals := 25 } : Room)) (fun a U => a = #[(.int (7 : Int32))] ∧ Z.Warmed39 U.vm ∧ U.heap = h0) (fun _ _ _ _ _ => True) (fun _ U o U' => ∃ v L, o = .returned v ∧ QK (some (.ref (ad 7))) h0 n0 v U'.heap L ∧ FrameEnd U o U' L ({ frames := 2, cells := 1, slots := 9, locals := 25 } : Room).cells ({ frames := 2, cells := 1, slots := 9, locals := 25 } : Room).slots) := by
  refine MetFree.of_bodySF (plainFor_of_name own_pn_com_example_limpet_limpet_io_Status) hisR ?_
  intro p e s m args below meth c s₁ Bd hml0 hP hK
  obtain ⟨rfl, hZ, hh⟩ := hP
  have hx := Bd.exec
  have hby := Bd.bytes
  have hml : c.maxLocals = 5 := hml0
  have hown : s.vm.findClass "com/example/limpet/limpet/io/Status" = some m.cls := findClass_of_methodNamed Bd.named
  have hnm := (name_of_methodNamed Bd.named Bd.method).1
  have X0 : Stand p l e ({ frames := 2, cells := 1, slots := 9, locals := 25 } : Room) s m #[(.int (7 : Int32))] below meth c s₁ [] 0 0 := Stand.of_body Bd
  have e0 : s₁.heap = h0 := by rw [← hh, Bd.state]; rfl
  have N0 := Fr.nil n0
  have pre0 : ∀ t, Steps p.tables e below (s₁.setTop (mkF m 0 #[.val (.int (7 : Int32)), .unset, .unset, .unset, .unset] [])) t → Steps p.tables e below (s₁.setTop (entryFrame m #[(.int (7 : Int32))] 5)) t := fun t k => castTop (own_ef_own_from_7 m) k
  obtain ⟨vv1, _, ⟨T1, L1, kk1, nn1⟩, -, X1, ⟨Lc1, hQ1, l1, y1, z1⟩, st1⟩ := Jvm.LawKit.callS X0 hx (y := (⟨"com/example/limpet/limpet/io/Status", "values", "()[Lcom/example/limpet/limpet/io/Status;"⟩ : MethodName)) hown (mvT hZ (hw _ (List.mem_of_getElem? (i := 5) rfl))) (mvT hZ (hw _ (List.mem_of_getElem? (i := 6) rfl))) (mvT hZ (hw _ (List.mem_of_getElem? (i := 3) rfl))) (mvT hZ (hw _ (List.mem_of_getElem? (i := 7) rfl))) (by decide) (backOf (W := 0) (own_vals l Z a0 hw [] h0 n0 (Nat.le_trans Z0 (Keep.refl h0 []).1) ad a__VALUES k__VALUES W) hZ (hw _ (List.mem_of_getElem? (i := 7) rfl)) (hw _ (List.mem_of_getElem? (i := 3) rfl)) (by decide) (by decide)) (g := (mkF m 0 #[.val (.int (7 : Int32)), .unset, .unset, .unset, .unset] [])) rfl (by rw [hml]; rfl) (argsL := []) (rest := []) (lenOf own_pd____Lcom_example_limpet_limpet_io_Status_ rfl) rfl (by show 2 * 0 + _ ≤ _; exact Nat.le_of_eq rfl) (hb hby own_d_prog_38_method_5_code_0) (fun _ _ => ⟨rfl, e0, (by decide : 0 + 1 ≤ _), (by decide : 0 + 9 ≤ _)⟩)
  dsimp only [Pt.U, Pt.locs, Pt.cells, Pt.slots] at X1 l1 y1 z1 st1 hQ1
  subst l1 y1 z1
  obtain ⟨hh1, eh1⟩ : ∃ h, T1.heap = h := ⟨_, rfl⟩
  rw [eh1] at hQ1
  obtain ⟨rv, rfl, zq1, Nq1, Kq1, fq1_0⟩ := hQ1
  have N1 := Fr.app N0 Nq1
  have ne_ad0_rv : (ad 0) ≠ rv := Nat.ne_of_lt (Nat.lt_of_lt_of_le (own_E_OK W).lt zq1)
  have ne_ad1_rv : (ad 1) ≠ rv := Nat.ne_of_lt (Nat.lt_of_lt_of_le (own_E_BAD_REQUEST W).lt zq1)
  have ne_ad2_rv : (ad 2) ≠ rv := Nat.ne_of_lt (Nat.lt_of_lt_of_le (own_E_NOT_FOUND W).lt zq1)
  have ne_ad3_rv : (ad 3) ≠ rv := Nat.ne_of_lt (Nat.lt_of_lt_of_le (own_E_FAILED W).lt zq1)
  have ne_ad4_rv : (ad 4) ≠ rv := Nat.ne_of_lt (Nat.lt_of_lt_of_le (own_E_UNSUPPORTED_KEY W).lt zq1)
  have ne_ad5_rv : (ad 5) ≠ rv := Nat.ne_of_lt (Nat.lt_of_lt_of_le (own_E_PERMISSION_DENIED W).lt zq1)
  have ne_ad6_rv : (ad 6) ≠ rv := Nat.ne_of_lt (Nat.lt_of_lt_of_le (own_E_GRANT_NOT_FOUND W).lt zq1)
  have ne_ad7_rv : (ad 7) ≠ rv := Nat.ne_of_lt (Nat.lt_of_lt_of_le (own_E_TOO_MANY_KEYS W).lt zq1)
  have ne_ad8_rv : (ad 8) ≠ rv := Nat.ne_of_lt (Nat.lt_of_lt_of_le (own_E_TOO_MANY_GRANTS W).lt zq1)
  have ne_a__VALUES_rv : a__VALUES ≠ rv := Nat.ne_of_lt (Nat.lt_of_lt_of_le (own_V__VALUES W).lt zq1)
  have g_rv : n0 ≤ rv := Nat.le_trans (Nat.le_trans Z0 (Keep.refl h0 []).1) zq1
  have sz_rv : h0.size ≤ rv := Nat.le_trans (Keep.refl h0 []).1 zq1
  have Kp1 := Keep.trans (Keep.refl h0 []) Kq1 all0
  have ch2 : ∀ t, Steps p.tables e below (T1.setTop (mkF m 3 #[.val (.int (7 : Int32)), .unset, .unset, .unset, .unset] [(.ref rv)])) t → Steps p.tables e below (s₁.setTop (entryFrame m #[(.int (7 : Int32))] 5)) t := fun t k => pre0 t (by
      show Steps p.tables e below (s₁.setTop (mkF m 0 #[.val (.int (7 : Int32)), .unset, .unset, .unset, .unset] [])) t
      exact st1 t k)
  obtain ⟨cl3, Ar3, -, Sz3, Ng3, -, -⟩ := id fq1_0
  obtain ⟨cl4, Ar4, -, Sz4, Ng4, Ha4, -⟩ := id fq1_0
  have hin4 : ¬ ((0 : Int32) < 0 ∨ cl4.slots.size ≤ ((0 : Int32)).toNatClampNeg) := inb_of Sz4 (by decide)
  have hat4 : cl4.slots[((0 : Int32)).toNatClampNeg]? = some (.ref (ad 0)) := Ha4.at hin4 rfl
  have cf5 := ((own_F_OK_code W).keep Kp1 nin0)
  obtain ⟨T6, X6, e6, st6⟩ := getF X1 hx hZ hown (host := "") (Or.inl (hw _ (List.mem_of_getElem? (i := 29) rfl))) Via.refl eh1 cf5 (g := (mkF m 21 #[.val (.int (7 : Int32)), .val (.ref rv), .val (.int (9 : Int32)), .val (.int (0 : Int32)), .val (.ref (ad 0))] [(.ref (ad 0))])) rfl rfl (hb hby own_d_prog_38_method_5_code_21)
  have ch7 : ∀ t, Steps p.tables e below (T6.setTop (mkF m 24 #[.val (.int (7 : Int32)), .val (.ref rv), .val (.int (9 : Int32)), .val (.int (0 : Int32)), .val (.ref (ad 0))] [(.int (0 : Int32))])) t → Steps p.tables e below (s₁.setTop (entryFrame m #[(.int (7 : Int32))] 5)) t := fun t k => ch2 t (by
      show Steps p.tables e below (T1.setTop (mkF m 3 #[.val (.int (7 : Int32)), .unset, .unset, .unset, .unset] [(.ref rv)])) t
      refine XS.astoreN X1.here hx rfl (hb hby own_d_prog_38_method_5_code_3) rfl rfl (l' := #[.val (.int (7 : Int32)), .val (.ref rv), .unset, .unset, .unset]) rfl ?_
      show Steps p.tables e below (T1.setTop (mkF m 4 #[.val (.int (7 : Int32)), .val (.ref rv), .unset, .unset, .unset] [])) t
      refine XS.aloadN X1.here hx rfl (hb hby own_d_prog_38_method_5_code_4) rfl rfl ?_
      show Steps p.tables e below (T1.setTop (mkF m 5 #[.val (.int (7 : Int32)), .val (.ref rv), .unset, .unset, .unset] [(.ref rv)])) t
      refine X1.arraylength hx (by rw [eh1]; exact Ar3.1) (State.isArrayOf_alike hZ.alike Ar3.2.1) (g := (mkF m 5 #[.val (.int (7 : Int32)), .val (.ref rv), .unset, .unset, .unset] [(.ref rv)])) rfl rfl (hb hby own_d_prog_38_method_5_code_5) _ ?_
      rw [len_of Sz3 Ng3]
      show Steps p.tables e below (T1.setTop (mkF m 6 #[.val (.int (7 : Int32)), .val (.ref rv), .unset, .unset, .unset] [(.int (9 : Int32))])) t
      refine XS.istoreN X1.here hx rfl (hb hby own_d_prog_38_method_5_code_6) rfl (l' := #[.val (.int (7 : Int32)), .val (.ref rv), .val (.int (9 : Int32)), .unset, .unset]) rfl ?_
      show Steps p.tables e below (T1.setTop (mkF m 7 #[.val (.int (7 : Int32)), .val (.ref rv), .val (.int (9 : Int32)), .unset, .unset] [])) t
      refine XS.iconst X1.here hx rfl (hb hby own_d_prog_38_method_5_code_7) ?_
      show Steps p.tables e below (T1.setTop (mkF m 8 #[.val (.int (7 : Int32)), .val (.ref rv), .val (.int (9 : Int32)), .unset, .unset] [(.int (0 : Int32))])) t
      refine XS.istoreN X1.here hx rfl (hb hby own_d_prog_38_method_5_code_8) rfl (l' := #[.val (.int (7 : Int32)), .val (.ref rv), .val (.int (9 : Int32)), .val (.int (0 : Int32)), .unset]) rfl ?_
      show Steps p.tables e below (T1.setTop (mkF m 9 #[.val (.int (7 : Int32)), .val (.ref rv), .val (.int (9 : Int32)), .val (.int (0 : Int32)), .unset] [])) t
      refine XS.iloadN X1.here hx rfl (hb hby own_d_prog_38_method_5_code_9) rfl ?_
      show Steps p.tables e below (T1.setTop (mkF m 10 #[.val (.int (7 : Int32)), .val (.ref rv), .val (.int (9 : Int32)), .val (.int (0 : Int32)), .unset] [(.int (0 : Int32))])) t
      refine XS.iloadN X1.here hx rfl (hb hby own_d_prog_38_method_5_code_10) rfl ?_
      show Steps p.tables e below (T1.setTop (mkF m 11 #[.val (.int (7 : Int32)), .val (.ref rv), .val (.int (9 : Int32)), .val (.int (0 : Int32)), .unset] [(.int (9 : Int32)), (.int (0 : Int32))])) t
      refine XS.icmpNo X1.here hx rfl (hb hby own_d_prog_38_method_5_code_11) rfl (tlt (by decide : (0 : Int32) < (9 : Int32))).2.1 ?_
      show Steps p.tables e below (T1.setTop (mkF m 14 #[.val (.int (7 : Int32)), .val (.ref rv), .val (.int (9 : Int32)), .val (.int (0 : Int32)), .unset] [])) t
      refine XS.aloadN X1.here hx rfl (hb hby own_d_prog_38_method_5_code_14) rfl rfl ?_
      show Steps p.tables e below (T1.setTop (mkF m 15 #[.val (.int (7 : Int32)), .val (.ref rv), .val (.int (9 : Int32)), .val (.int (0 : Int32)), .unset] [(.ref rv)])) t
      refine XS.iloadN X1.here hx rfl (hb hby own_d_prog_38_method_5_code_15) rfl ?_
      show Steps p.tables e below (T1.setTop (mkF m 16 #[.val (.int (7 : Int32)), .val (.ref rv), .val (.int (9 : Int32)), .val (.int (0 : Int32)), .unset] [(.int (0 : Int32)), (.ref rv)])) t
      refine X1.aaload hx (j := (0 : Int32)) (v := (.ref (ad 0))) (by rw [eh1]; exact Ar4.1) (State.isArrayOf_alike hZ.alike Ar4.2.1) rfl Ar4.2.2 hin4 hat4 (g := (mkF m 16 #[.val (.int (7 : Int32)), .val (.ref rv), .val (.int (9 : Int32)), .val (.int (0 : Int32)), .unset] [(.int (0 : Int32)), (.ref rv)])) rfl rfl (hb hby own_d_prog_38_method_5_code_16) _ ?_
      show Steps p.tables e below (T1.setTop (mkF m 17 #[.val (.int (7 : Int32)), .val (.ref rv), .val (.int (9 : Int32)), .val (.int (0 : Int32)), .unset] [(.ref (ad 0))])) t
      refine XS.astore X1.here hx rfl (hb hby own_d_prog_38_method_5_code_17) rfl rfl (l' := #[.val (.int (7 : Int32)), .val (.ref rv), .val (.int (9 : Int32)), .val (.int (0 : Int32)), .val (.ref (ad 0))]) rfl ?_
      show Steps p.tables e below (T1.setTop (mkF m 19 #[.val (.int (7 : Int32)), .val (.ref rv), .val (.int (9 : Int32)), .val (.int (0 : Int32)), .val (.ref (ad 0))] [])) t
      refine XS.aload X1.here hx rfl (hb hby own_d_prog_38_method_5_code_19) rfl rfl ?_
      show Steps p.tables e below (T1.setTop (mkF m 21 #[.val (.int (7 : Int32)), .val (.ref rv), .val (.int (9 : Int32)), .val (.int (0 : Int32)), .val (.ref (ad 0))] [(.ref (ad 0))])) t
      exact st6 t k)
  obtain ⟨cl8, Ar8, -, Sz8, Ng8, Ha8, -⟩ := id fq1_0
  have hin8 : ¬ ((1 : Int32) < 0 ∨ cl8.slots.size ≤ ((1 : Int32)).toNatClampNeg) := inb_of Sz8 (by decide)
  have hat8 : cl8.slots[((1 : Int32)).toNatClampNeg]? = some (.ref (ad 1)) := Ha8.at hin8 rfl
  have cf9 := ((own_F_BAD_REQUEST_code W).keep Kp1 nin0)
  obtain ⟨T10, X10, e10, st10⟩ := getF X6 hx hZ hown (host := "") (Or.inl (hw _ (List.mem_of_getElem? (i := 29) rfl))) Via.refl e6 cf9 (g := (mkF m 21 #[.val (.int (7 : Int32)), .val (.ref rv), .val (.int (9 : Int32)), .val (.int (1 : Int32)), .val (.ref (ad 1))] [(.ref (ad 1))])) rfl rfl (hb hby own_d_prog_38_method_5_code_21)
  have ch11 : ∀ t, Steps p.tables e below (T10.setTop (mkF m 24 #[.val (.int (7 : Int32)), .val (.ref rv), .val (.int (9 : Int32)), .val (.int (1 : Int32)), .val (.ref (ad 1))] [(.int (1 : Int32))])) t → Steps p.tables e below (s₁.setTop (entryFrame m #[(.int (7 : Int32))] 5)) t := fun t k => ch7 t (by
      show Steps p.tables e below (T6.setTop (mkF m 24 #[.val (.int (7 : Int32)), .val (.ref rv), .val (.int (9 : Int32)), .val (.int (0 : Int32)), .val (.ref (ad 0))] [(.int (0 : Int32))])) t
      refine XS.iloadN X6.here hx rfl (hb hby own_d_prog_38_method_5_code_24) rfl ?_
      show Steps p.tables e below (T6.setTop (mkF m 25 #[.val (.int (7 : Int32)), .val (.ref rv), .val (.int (9 : Int32)), .val (.int (0 : Int32)), .val (.ref (ad 0))] [(.int (7 : Int32)), (.int (0 : Int32))])) t
      refine XS.icmpYes X6.here hx rfl (pc0 := 25) (pc' := 31) rfl (hb hby own_d_prog_38_method_5_code_25) rfl (feq (by decide : ¬ (0 : Int32) = (7 : Int32))).2 (by decide) (by decide) ?_
      show Steps p.tables e below (T6.setTop (mkF m 31 #[.val (.int (7 : Int32)), .val (.ref rv), .val (.int (9 : Int32)), .val (.int (0 : Int32)), .val (.ref (ad 0))] [])) t
      refine Jvm.Free.XT.iincV X6.here hx rfl (1 : Int32) (hb hby own_d_prog_38_method_5_code_31) (by decide) rfl (l' := #[.val (.int (7 : Int32)), .val (.ref rv), .val (.int (9 : Int32)), .val (.int (1 : Int32)), .val (.ref (ad 0))]) (by rw [show ((0 : Int32) + (1 : Int32)) = (1 : Int32) from by decide]; rfl) ?_
      show Steps p.tables e below (T6.setTop (mkF m 34 #[.val (.int (7 : Int32)), .val (.ref rv), .val (.int (9 : Int32)), .val (.int (1 : Int32)), .val (.ref (ad 0))] [])) t
      refine XS.goto X6.here hx rfl (pc0 := 34) (pc' := 9) rfl (hb hby own_d_prog_38_method_5_code_34) (by decide) (by decide) ?_
      show Steps p.tables e below (T6.setTop (mkF m 9 #[.val (.int (7 : Int32)), .val (.ref rv), .val (.int (9 : Int32)), .val (.int (1 : Int32)), .val (.ref (ad 0))] [])) t
      refine XS.iloadN X6.here hx rfl (hb hby own_d_prog_38_method_5_code_9) rfl ?_
      show Steps p.tables e below (T6.setTop (mkF m 10 #[.val (.int (7 : Int32)), .val (.ref rv), .val (.int (9 : Int32)), .val (.int (1 : Int32)), .val (.ref (ad 0))] [(.int (1 : Int32))])) t
      refine XS.iloadN X6.here hx rfl (hb hby own_d_prog_38_method_5_code_10) rfl ?_
      show Steps p.tables e below (T6.setTop (mkF m 11 #[.val (.int (7 : Int32)), .val (.ref rv), .val (.int (9 : Int32)), .val (.int (1 : Int32)), .val (.ref (ad 0))] [(.int (9 : Int32)), (.int (1 : Int32))])) t
      refine XS.icmpNo X6.here hx rfl (hb hby own_d_prog_38_method_5_code_11) rfl (tlt (by decide : (1 : Int32) < (9 : Int32))).2.1 ?_
      show Steps p.tables e below (T6.setTop (mkF m 14 #[.val (.int (7 : Int32)), .val (.ref rv), .val (.int (9 : Int32)), .val (.int (1 : Int32)), .val (.ref (ad 0))] [])) t
      refine XS.aloadN X6.here hx rfl (hb hby own_d_prog_38_method_5_code_14) rfl rfl ?_
      show Steps p.tables e below (T6.setTop (mkF m 15 #[.val (.int (7 : Int32)), .val (.ref rv), .val (.int (9 : Int32)), .val (.int (1 : Int32)), .val (.ref (ad 0))] [(.ref rv)])) t
      refine XS.iloadN X6.here hx rfl (hb hby own_d_prog_38_method_5_code_15) rfl ?_
      show Steps p.tables e below (T6.setTop (mkF m 16 #[.val (.int (7 : Int32)), .val (.ref rv), .val (.int (9 : Int32)), .val (.int (1 : Int32)), .val (.ref (ad 0))] [(.int (1 : Int32)), (.ref rv)])) t
      refine X6.aaload hx (j := (1 : Int32)) (v := (.ref (ad 1))) (by rw [e6]; exact Ar8.1) (State.isArrayOf_alike hZ.alike Ar8.2.1) rfl Ar8.2.2 hin8 hat8 (g := (mkF m 16 #[.val (.int (7 : Int32)), .val (.ref rv), .val (.int (9 : Int32)), .val (.int (1 : Int32)), .val (.ref (ad 0))] [(.int (1 : Int32)), (.ref rv)])) rfl rfl (hb hby own_d_prog_38_method_5_code_16) _ ?_
      show Steps p.tables e below (T6.setTop (mkF m 17 #[.val (.int (7 : Int32)), .val (.ref rv), .val (.int (9 : Int32)), .val (.int (1 : Int32)), .val (.ref (ad 0))] [(.ref (ad 1))])) t
      refine XS.astore X6.here hx rfl (hb hby own_d_prog_38_method_5_code_17) rfl rfl (l' := #[.val (.int (7 : Int32)), .val (.ref rv), .val (.int (9 : Int32)), .val (.int (1 : Int32)), .val (.ref (ad 1))]) rfl ?_
      show Steps p.tables e below (T6.setTop (mkF m 19 #[.val (.int (7 : Int32)), .val (.ref rv), .val (.int (9 : Int32)), .val (.int (1 : Int32)), .val (.ref (ad 1))] [])) t
      refine XS.aload X6.here hx rfl (hb hby own_d_prog_38_method_5_code_19) rfl rfl ?_
      show Steps p.tables e below (T6.setTop (mkF m 21 #[.val (.int (7 : Int32)), .val (.ref rv), .val (.int (9 : Int32)), .val (.int (1 : Int32)), .val (.ref (ad 1))] [(.ref (ad 1))])) t
      exact st10 t k)
  obtain ⟨cl12, Ar12, -, Sz12, Ng12, Ha12, -⟩ := id fq1_0
  have hin12 : ¬ ((2 : Int32) < 0 ∨ cl12.slots.size ≤ ((2 : Int32)).toNatClampNeg) := inb_of Sz12 (by decide)
  have hat12 : cl12.slots[((2 : Int32)).toNatClampNeg]? = some (.ref (ad 2)) := Ha12.at hin12 rfl
  have cf13 := ((own_F_NOT_FOUND_code W).keep Kp1 nin0)
  obtain ⟨T14, X14, e14, st14⟩ := getF X10 hx hZ hown (host := "") (Or.inl (hw _ (List.mem_of_getElem? (i := 29) rfl))) Via.refl e10 cf13 (g := (mkF m 21 #[.val (.int (7 : Int32)), .val (.ref rv), .val (.int (9 : Int32)), .val (.int (2 : Int32)), .val (.ref (ad 2))] [(.ref (ad 2))])) rfl rfl (hb hby own_d_prog_38_method_5_code_21)
  have ch15 : ∀ t, Steps p.tables e below (T14.setTop (mkF m 24 #[.val (.int (7 : Int32)), .val (.ref rv), .val (.int (9 : Int32)), .val (.int (2 : Int32)), .val (.ref (ad 2))] [(.int (2 : Int32))])) t → Steps p.tables e below (s₁.setTop (entryFrame m #[(.int (7 : Int32))] 5)) t := fun t k => ch11 t (by
      show Steps p.tables e below (T10.setTop (mkF m 24 #[.val (.int (7 : Int32)), .val (.ref rv), .val (.int (9 : Int32)), .val (.int (1 : Int32)), .val (.ref (ad 1))] [(.int (1 : Int32))])) t
      refine XS.iloadN X10.here hx rfl (hb hby own_d_prog_38_method_5_code_24) rfl ?_
      show Steps p.tables e below (T10.setTop (mkF m 25 #[.val (.int (7 : Int32)), .val (.ref rv), .val (.int (9 : Int32)), .val (.int (1 : Int32)), .val (.ref (ad 1))] [(.int (7 : Int32)), (.int (1 : Int32))])) t
      refine XS.icmpYes X10.here hx rfl (pc0 := 25) (pc' := 31) rfl (hb hby own_d_prog_38_method_5_code_25) rfl (feq (by decide : ¬ (1 : Int32) = (7 : Int32))).2 (by decide) (by decide) ?_
      show Steps p.tables e below (T10.setTop (mkF m 31 #[.val (.int (7 : Int32)), .val (.ref rv), .val (.int (9 : Int32)), .val (.int (1 : Int32)), .val (.ref (ad 1))] [])) t
      refine Jvm.Free.XT.iincV X10.here hx rfl (1 : Int32) (hb hby own_d_prog_38_method_5_code_31) (by decide) rfl (l' := #[.val (.int (7 : Int32)), .val (.ref rv), .val (.int (9 : Int32)), .val (.int (2 : Int32)), .val (.ref (ad 1))]) (by rw [show ((1 : Int32) + (1 : Int32)) = (2 : Int32) from by decide]; rfl) ?_
      show Steps p.tables e below (T10.setTop (mkF m 34 #[.val (.int (7 : Int32)), .val (.ref rv), .val (.int (9 : Int32)), .val (.int (2 : Int32)), .val (.ref (ad 1))] [])) t
      refine XS.goto X10.here hx rfl (pc0 := 34) (pc' := 9) rfl (hb hby own_d_prog_38_method_5_code_34) (by decide) (by decide) ?_
      show Steps p.tables e below (T10.setTop (mkF m 9 #[.val (.int (7 : Int32)), .val (.ref rv), .val (.int (9 : Int32)), .val (.int (2 : Int32)), .val (.ref (ad 1))] [])) t
      refine XS.iloadN X10.here hx rfl (hb hby own_d_prog_38_method_5_code_9) rfl ?_
      show Steps p.tables e below (T10.setTop (mkF m 10 #[.val (.int (7 : Int32)), .val (.ref rv), .val (.int (9 : Int32)), .val (.int (2 : Int32)), .val (.ref (ad 1))] [(.int (2 : Int32))])) t
      refine XS.iloadN X10.here hx rfl (hb hby own_d_prog_38_method_5_code_10) rfl ?_
      show Steps p.tables e below (T10.setTop (mkF m 11 #[.val (.int (7 : Int32)), .val (.ref rv), .val (.int (9 : Int32)), .val (.int (2 : Int32)), .val (.ref (ad 1))] [(.int (9 : Int32)), (.int (2 : Int32))])) t
      refine XS.icmpNo X10.here hx rfl (hb hby own_d_prog_38_method_5_code_11) rfl (tlt (by decide : (2 : Int32) < (9 : Int32))).2.1 ?_
      show Steps p.tables e below (T10.setTop (mkF m 14 #[.val (.int (7 : Int32)), .val (.ref rv), .val (.int (9 : Int32)), .val (.int (2 : Int32)), .val (.ref (ad 1))] [])) t
      refine XS.aloadN X10.here hx rfl (hb hby own_d_prog_38_method_5_code_14) rfl rfl ?_
      show Steps p.tables e below (T10.setTop (mkF m 15 #[.val (.int (7 : Int32)), .val (.ref rv), .val (.int (9 : Int32)), .val (.int (2 : Int32)), .val (.ref (ad 1))] [(.ref rv)])) t
      refine XS.iloadN X10.here hx rfl (hb hby own_d_prog_38_method_5_code_15) rfl ?_
      show Steps p.tables e below (T10.setTop (mkF m 16 #[.val (.int (7 : Int32)), .val (.ref rv), .val (.int (9 : Int32)), .val (.int (2 : Int32)), .val (.ref (ad 1))] [(.int (2 : Int32)), (.ref rv)])) t
      refine X10.aaload hx (j := (2 : Int32)) (v := (.ref (ad 2))) (by rw [e10]; exact Ar12.1) (State.isArrayOf_alike hZ.alike Ar12.2.1) rfl Ar12.2.2 hin12 hat12 (g := (mkF m 16 #[.val (.int (7 : Int32)), .val (.ref rv), .val (.int (9 : Int32)), .val (.int (2 : Int32)), .val (.ref (ad 1))] [(.int (2 : Int32)), (.ref rv)])) rfl rfl (hb hby own_d_prog_38_method_5_code_16) _ ?_
      show Steps p.tables e below (T10.setTop (mkF m 17 #[.val (.int (7 : Int32)), .val (.ref rv), .val (.int (9 : Int32)), .val (.int (2 : Int32)), .val (.ref (ad 1))] [(.ref (ad 2))])) t
      refine XS.astore X10.here hx rfl (hb hby own_d_prog_38_method_5_code_17) rfl rfl (l' := #[.val (.int (7 : Int32)), .val (.ref rv), .val (.int (9 : Int32)), .val (.int (2 : Int32)), .val (.ref (ad 2))]) rfl ?_
      show Steps p.tables e below (T10.setTop (mkF m 19 #[.val (.int (7 : Int32)), .val (.ref rv), .val (.int (9 : Int32)), .val (.int (2 : Int32)), .val (.ref (ad 2))] [])) t
      refine XS.aload X10.here hx rfl (hb hby own_d_prog_38_method_5_code_19) rfl rfl ?_
      show Steps p.tables e below (T10.setTop (mkF m 21 #[.val (.int (7 : Int32)), .val (.ref rv), .val (.int (9 : Int32)), .val (.int (2 : Int32)), .val (.ref (ad 2))] [(.ref (ad 2))])) t
      exact st14 t k)
  obtain ⟨cl16, Ar16, -, Sz16, Ng16, Ha16, -⟩ := id fq1_0
  have hin16 : ¬ ((3 : Int32) < 0 ∨ cl16.slots.size ≤ ((3 : Int32)).toNatClampNeg) := inb_of Sz16 (by decide)
  have hat16 : cl16.slots[((3 : Int32)).toNatClampNeg]? = some (.ref (ad 3)) := Ha16.at hin16 rfl
  have cf17 := ((own_F_FAILED_code W).keep Kp1 nin0)
  obtain ⟨T18, X18, e18, st18⟩ := getF X14 hx hZ hown (host := "") (Or.inl (hw _ (List.mem_of_getElem? (i := 29) rfl))) Via.refl e14 cf17 (g := (mkF m 21 #[.val (.int (7 : Int32)), .val (.ref rv), .val (.int (9 : Int32)), .val (.int (3 : Int32)), .val (.ref (ad 3))] [(.ref (ad 3))])) rfl rfl (hb hby own_d_prog_38_method_5_code_21)
  have ch19 : ∀ t, Steps p.tables e below (T18.setTop (mkF m 24 #[.val (.int (7 : Int32)), .val (.ref rv), .val (.int (9 : Int32)), .val (.int (3 : Int32)), .val (.ref (ad 3))] [(.int (3 : Int32))])) t → Steps p.tables e below (s₁.setTop (entryFrame m #[(.int (7 : Int32))] 5)) t := fun t k => ch15 t (by
      show Steps p.tables e below (T14.setTop (mkF m 24 #[.val (.int (7 : Int32)), .val (.ref rv), .val (.int (9 : Int32)), .val (.int (2 : Int32)), .val (.ref (ad 2))] [(.int (2 : Int32))])) t
      refine XS.iloadN X14.here hx rfl (hb hby own_d_prog_38_method_5_code_24) rfl ?_
      show Steps p.tables e below (T14.setTop (mkF m 25 #[.val (.int (7 : Int32)), .val (.ref rv), .val (.int (9 : Int32)), .val (.int (2 : Int32)), .val (.ref (ad 2))] [(.int (7 : Int32)), (.int (2 : Int32))])) t
      refine XS.icmpYes X14.here hx rfl (pc0 := 25) (pc' := 31) rfl (hb hby own_d_prog_38_method_5_code_25) rfl (feq (by decide : ¬ (2 : Int32) = (7 : Int32))).2 (by decide) (by decide) ?_
      show Steps p.tables e below (T14.setTop (mkF m 31 #[.val (.int (7 : Int32)), .val (.ref rv), .val (.int (9 : Int32)), .val (.int (2 : Int32)), .val (.ref (ad 2))] [])) t
      refine Jvm.Free.XT.iincV X14.here hx rfl (1 : Int32) (hb hby own_d_prog_38_method_5_code_31) (by decide) rfl (l' := #[.val (.int (7 : Int32)), .val (.ref rv), .val (.int (9 : Int32)), .val (.int (3 : Int32)), .val (.ref (ad 2))]) (by rw [show ((2 : Int32) + (1 : Int32)) = (3 : Int32) from by decide]; rfl) ?_
      show Steps p.tables e below (T14.setTop (mkF m 34 #[.val (.int (7 : Int32)), .val (.ref rv), .val (.int (9 : Int32)), .val (.int (3 : Int32)), .val (.ref (ad 2))] [])) t
      refine XS.goto X14.here hx rfl (pc0 := 34) (pc' := 9) rfl (hb hby own_d_prog_38_method_5_code_34) (by decide) (by decide) ?_
      show Steps p.tables e below (T14.setTop (mkF m 9 #[.val (.int (7 : Int32)), .val (.ref rv), .val (.int (9 : Int32)), .val (.int (3 : Int32)), .val (.ref (ad 2))] [])) t
      refine XS.iloadN X14.here hx rfl (hb hby own_d_prog_38_method_5_code_9) rfl ?_
      show Steps p.tables e below (T14.setTop (mkF m 10 #[.val (.int (7 : Int32)), .val (.ref rv), .val (.int (9 : Int32)), .val (.int (3 : Int32)), .val (.ref (ad 2))] [(.int (3 : Int32))])) t
      refine XS.iloadN X14.here hx rfl (hb hby own_d_prog_38_method_5_code_10) rfl ?_
      show Steps p.tables e below (T14.setTop (mkF m 11 #[.val (.int (7 : Int32)), .val (.ref rv), .val (.int (9 : Int32)), .val (.int (3 : Int32)), .val (.ref (ad 2))] [(.int (9 : Int32)), (.int (3 : Int32))])) t
      refine XS.icmpNo X14.here hx rfl (hb hby own_d_prog_38_method_5_code_11) rfl (tlt (by decide : (3 : Int32) < (9 : Int32))).2.1 ?_
      show Steps p.tables e below (T14.setTop (mkF m 14 #[.val (.int (7 : Int32)), .val (.ref rv), .val (.int (9 : Int32)), .val (.int (3 : Int32)), .val (.ref (ad 2))] [])) t
      refine XS.aloadN X14.here hx rfl (hb hby own_d_prog_38_method_5_code_14) rfl rfl ?_
      show Steps p.tables e below (T14.setTop (mkF m 15 #[.val (.int (7 : Int32)), .val (.ref rv), .val (.int (9 : Int32)), .val (.int (3 : Int32)), .val (.ref (ad 2))] [(.ref rv)])) t
      refine XS.iloadN X14.here hx rfl (hb hby own_d_prog_38_method_5_code_15) rfl ?_
      show Steps p.tables e below (T14.setTop (mkF m 16 #[.val (.int (7 : Int32)), .val (.ref rv), .val (.int (9 : Int32)), .val (.int (3 : Int32)), .val (.ref (ad 2))] [(.int (3 : Int32)), (.ref rv)])) t
      refine X14.aaload hx (j := (3 : Int32)) (v := (.ref (ad 3))) (by rw [e14]; exact Ar16.1) (State.isArrayOf_alike hZ.alike Ar16.2.1) rfl Ar16.2.2 hin16 hat16 (g := (mkF m 16 #[.val (.int (7 : Int32)), .val (.ref rv), .val (.int (9 : Int32)), .val (.int (3 : Int32)), .val (.ref (ad 2))] [(.int (3 : Int32)), (.ref rv)])) rfl rfl (hb hby own_d_prog_38_method_5_code_16) _ ?_
      show Steps p.tables e below (T14.setTop (mkF m 17 #[.val (.int (7 : Int32)), .val (.ref rv), .val (.int (9 : Int32)), .val (.int (3 : Int32)), .val (.ref (ad 2))] [(.ref (ad 3))])) t
      refine XS.astore X14.here hx rfl (hb hby own_d_prog_38_method_5_code_17) rfl rfl (l' := #[.val (.int (7 : Int32)), .val (.ref rv), .val (.int (9 : Int32)), .val (.int (3 : Int32)), .val (.ref (ad 3))]) rfl ?_
      show Steps p.tables e below (T14.setTop (mkF m 19 #[.val (.int (7 : Int32)), .val (.ref rv), .val (.int (9 : Int32)), .val (.int (3 : Int32)), .val (.ref (ad 3))] [])) t
      refine XS.aload X14.here hx rfl (hb hby own_d_prog_38_method_5_code_19) rfl rfl ?_
      show Steps p.tables e below (T14.setTop (mkF m 21 #[.val (.int (7 : Int32)), .val (.ref rv), .val (.int (9 : Int32)), .val (.int (3 : Int32)), .val (.ref (ad 3))] [(.ref (ad 3))])) t
      exact st18 t k)
  obtain ⟨cl20, Ar20, -, Sz20, Ng20, Ha20, -⟩ := id fq1_0
  have hin20 : ¬ ((4 : Int32) < 0 ∨ cl20.slots.size ≤ ((4 : Int32)).toNatClampNeg) := inb_of Sz20 (by decide)
  have hat20 : cl20.slots[((4 : Int32)).toNatClampNeg]? = some (.ref (ad 4)) := Ha20.at hin20 rfl
  have cf21 := ((own_F_UNSUPPORTED_KEY_code W).keep Kp1 nin0)
  obtain ⟨T22, X22, e22, st22⟩ := getF X18 hx hZ hown (host := "") (Or.inl (hw _ (List.mem_of_getElem? (i := 29) rfl))) Via.refl e18 cf21 (g := (mkF m 21 #[.val (.int (7 : Int32)), .val (.ref rv), .val (.int (9 : Int32)), .val (.int (4 : Int32)), .val (.ref (ad 4))] [(.ref (ad 4))])) rfl rfl (hb hby own_d_prog_38_method_5_code_21)
  have ch23 : ∀ t, Steps p.tables e below (T22.setTop (mkF m 24 #[.val (.int (7 : Int32)), .val (.ref rv), .val (.int (9 : Int32)), .val (.int (4 : Int32)), .val (.ref (ad 4))] [(.int (4 : Int32))])) t → Steps p.tables e below (s₁.setTop (entryFrame m #[(.int (7 : Int32))] 5)) t := fun t k => ch19 t (by
      show Steps p.tables e below (T18.setTop (mkF m 24 #[.val (.int (7 : Int32)), .val (.ref rv), .val (.int (9 : Int32)), .val (.int (3 : Int32)), .val (.ref (ad 3))] [(.int (3 : Int32))])) t
      refine XS.iloadN X18.here hx rfl (hb hby own_d_prog_38_method_5_code_24) rfl ?_
      show Steps p.tables e below (T18.setTop (mkF m 25 #[.val (.int (7 : Int32)), .val (.ref rv), .val (.int (9 : Int32)), .val (.int (3 : Int32)), .val (.ref (ad 3))] [(.int (7 : Int32)), (.int (3 : Int32))])) t
      refine XS.icmpYes X18.here hx rfl (pc0 := 25) (pc' := 31) rfl (hb hby own_d_prog_38_method_5_code_25) rfl (feq (by decide : ¬ (3 : Int32) = (7 : Int32))).2 (by decide) (by decide) ?_
      show Steps p.tables e below (T18.setTop (mkF m 31 #[.val (.int (7 : Int32)), .val (.ref rv), .val (.int (9 : Int32)), .val (.int (3 : Int32)), .val (.ref (ad 3))] [])) t
      refine Jvm.Free.XT.iincV X18.here hx rfl (1 : Int32) (hb hby own_d_prog_38_method_5_code_31) (by decide) rfl (l' := #[.val (.int (7 : Int32)), .val (.ref rv), .val (.int (9 : Int32)), .val (.int (4 : Int32)), .val (.ref (ad 3))]) (by rw [show ((3 : Int32) + (1 : Int32)) = (4 : Int32) from by decide]; rfl) ?_
      show Steps p.tables e below (T18.setTop (mkF m 34 #[.val (.int (7 : Int32)), .val (.ref rv), .val (.int (9 : Int32)), .val (.int (4 : Int32)), .val (.ref (ad 3))] [])) t
      refine XS.goto X18.here hx rfl (pc0 := 34) (pc' := 9) rfl (hb hby own_d_prog_38_method_5_code_34) (by decide) (by decide) ?_
      show Steps p.tables e below (T18.setTop (mkF m 9 #[.val (.int (7 : Int32)), .val (.ref rv), .val (.int (9 : Int32)), .val (.int (4 : Int32)), .val (.ref (ad 3))] [])) t
      refine XS.iloadN X18.here hx rfl (hb hby own_d_prog_38_method_5_code_9) rfl ?_
      show Steps p.tables e below (T18.setTop (mkF m 10 #[.val (.int (7 : Int32)), .val (.ref rv), .val (.int (9 : Int32)), .val (.int (4 : Int32)), .val (.ref (ad 3))] [(.int (4 : Int32))])) t
      refine XS.iloadN X18.here hx rfl (hb hby own_d_prog_38_method_5_code_10) rfl ?_
      show Steps p.tables e below (T18.setTop (mkF m 11 #[.val (.int (7 : Int32)), .val (.ref rv), .val (.int (9 : Int32)), .val (.int (4 : Int32)), .val (.ref (ad 3))] [(.int (9 : Int32)), (.int (4 : Int32))])) t
      refine XS.icmpNo X18.here hx rfl (hb hby own_d_prog_38_method_5_code_11) rfl (tlt (by decide : (4 : Int32) < (9 : Int32))).2.1 ?_
      show Steps p.tables e below (T18.setTop (mkF m 14 #[.val (.int (7 : Int32)), .val (.ref rv), .val (.int (9 : Int32)), .val (.int (4 : Int32)), .val (.ref (ad 3))] [])) t
      refine XS.aloadN X18.here hx rfl (hb hby own_d_prog_38_method_5_code_14) rfl rfl ?_
      show Steps p.tables e below (T18.setTop (mkF m 15 #[.val (.int (7 : Int32)), .val (.ref rv), .val (.int (9 : Int32)), .val (.int (4 : Int32)), .val (.ref (ad 3))] [(.ref rv)])) t
      refine XS.iloadN X18.here hx rfl (hb hby own_d_prog_38_method_5_code_15) rfl ?_
      show Steps p.tables e below (T18.setTop (mkF m 16 #[.val (.int (7 : Int32)), .val (.ref rv), .val (.int (9 : Int32)), .val (.int (4 : Int32)), .val (.ref (ad 3))] [(.int (4 : Int32)), (.ref rv)])) t
      refine X18.aaload hx (j := (4 : Int32)) (v := (.ref (ad 4))) (by rw [e18]; exact Ar20.1) (State.isArrayOf_alike hZ.alike Ar20.2.1) rfl Ar20.2.2 hin20 hat20 (g := (mkF m 16 #[.val (.int (7 : Int32)), .val (.ref rv), .val (.int (9 : Int32)), .val (.int (4 : Int32)), .val (.ref (ad 3))] [(.int (4 : Int32)), (.ref rv)])) rfl rfl (hb hby own_d_prog_38_method_5_code_16) _ ?_
      show Steps p.tables e below (T18.setTop (mkF m 17 #[.val (.int (7 : Int32)), .val (.ref rv), .val (.int (9 : Int32)), .val (.int (4 : Int32)), .val (.ref (ad 3))] [(.ref (ad 4))])) t
      refine XS.astore X18.here hx rfl (hb hby own_d_prog_38_method_5_code_17) rfl rfl (l' := #[.val (.int (7 : Int32)), .val (.ref rv), .val (.int (9 : Int32)), .val (.int (4 : Int32)), .val (.ref (ad 4))]) rfl ?_
      show Steps p.tables e below (T18.setTop (mkF m 19 #[.val (.int (7 : Int32)), .val (.ref rv), .val (.int (9 : Int32)), .val (.int (4 : Int32)), .val (.ref (ad 4))] [])) t
      refine XS.aload X18.here hx rfl (hb hby own_d_prog_38_method_5_code_19) rfl rfl ?_
      show Steps p.tables e below (T18.setTop (mkF m 21 #[.val (.int (7 : Int32)), .val (.ref rv), .val (.int (9 : Int32)), .val (.int (4 : Int32)), .val (.ref (ad 4))] [(.ref (ad 4))])) t
      exact st22 t k)
  obtain ⟨cl24, Ar24, -, Sz24, Ng24, Ha24, -⟩ := id fq1_0
  have hin24 : ¬ ((5 : Int32) < 0 ∨ cl24.slots.size ≤ ((5 : Int32)).toNatClampNeg) := inb_of Sz24 (by decide)
  have hat24 : cl24.slots[((5 : Int32)).toNatClampNeg]? = some (.ref (ad 5)) := Ha24.at hin24 rfl
  have cf25 := ((own_F_PERMISSION_DENIED_code W).keep Kp1 nin0)
  obtain ⟨T26, X26, e26, st26⟩ := getF X22 hx hZ hown (host := "") (Or.inl (hw _ (List.mem_of_getElem? (i := 29) rfl))) Via.refl e22 cf25 (g := (mkF m 21 #[.val (.int (7 : Int32)), .val (.ref rv), .val (.int (9 : Int32)), .val (.int (5 : Int32)), .val (.ref (ad 5))] [(.ref (ad 5))])) rfl rfl (hb hby own_d_prog_38_method_5_code_21)
  have ch27 : ∀ t, Steps p.tables e below (T26.setTop (mkF m 24 #[.val (.int (7 : Int32)), .val (.ref rv), .val (.int (9 : Int32)), .val (.int (5 : Int32)), .val (.ref (ad 5))] [(.int (5 : Int32))])) t → Steps p.tables e below (s₁.setTop (entryFrame m #[(.int (7 : Int32))] 5)) t := fun t k => ch23 t (by
      show Steps p.tables e below (T22.setTop (mkF m 24 #[.val (.int (7 : Int32)), .val (.ref rv), .val (.int (9 : Int32)), .val (.int (4 : Int32)), .val (.ref (ad 4))] [(.int (4 : Int32))])) t
      refine XS.iloadN X22.here hx rfl (hb hby own_d_prog_38_method_5_code_24) rfl ?_
      show Steps p.tables e below (T22.setTop (mkF m 25 #[.val (.int (7 : Int32)), .val (.ref rv), .val (.int (9 : Int32)), .val (.int (4 : Int32)), .val (.ref (ad 4))] [(.int (7 : Int32)), (.int (4 : Int32))])) t
      refine XS.icmpYes X22.here hx rfl (pc0 := 25) (pc' := 31) rfl (hb hby own_d_prog_38_method_5_code_25) rfl (feq (by decide : ¬ (4 : Int32) = (7 : Int32))).2 (by decide) (by decide) ?_
      show Steps p.tables e below (T22.setTop (mkF m 31 #[.val (.int (7 : Int32)), .val (.ref rv), .val (.int (9 : Int32)), .val (.int (4 : Int32)), .val (.ref (ad 4))] [])) t
      refine Jvm.Free.XT.iincV X22.here hx rfl (1 : Int32) (hb hby own_d_prog_38_method_5_code_31) (by decide) rfl (l' := #[.val (.int (7 : Int32)), .val (.ref rv), .val (.int (9 : Int32)), .val (.int (5 : Int32)), .val (.ref (ad 4))]) (by rw [show ((4 : Int32) + (1 : Int32)) = (5 : Int32) from by decide]; rfl) ?_
      show Steps p.tables e below (T22.setTop (mkF m 34 #[.val (.int (7 : Int32)), .val (.ref rv), .val (.int (9 : Int32)), .val (.int (5 : Int32)), .val (.ref (ad 4))] [])) t
      refine XS.goto X22.here hx rfl (pc0 := 34) (pc' := 9) rfl (hb hby own_d_prog_38_method_5_code_34) (by decide) (by decide) ?_
      show Steps p.tables e below (T22.setTop (mkF m 9 #[.val (.int (7 : Int32)), .val (.ref rv), .val (.int (9 : Int32)), .val (.int (5 : Int32)), .val (.ref (ad 4))] [])) t
      refine XS.iloadN X22.here hx rfl (hb hby own_d_prog_38_method_5_code_9) rfl ?_
      show Steps p.tables e below (T22.setTop (mkF m 10 #[.val (.int (7 : Int32)), .val (.ref rv), .val (.int (9 : Int32)), .val (.int (5 : Int32)), .val (.ref (ad 4))] [(.int (5 : Int32))])) t
      refine XS.iloadN X22.here hx rfl (hb hby own_d_prog_38_method_5_code_10) rfl ?_
      show Steps p.tables e below (T22.setTop (mkF m 11 #[.val (.int (7 : Int32)), .val (.ref rv), .val (.int (9 : Int32)), .val (.int (5 : Int32)), .val (.ref (ad 4))] [(.int (9 : Int32)), (.int (5 : Int32))])) t
      refine XS.icmpNo X22.here hx rfl (hb hby own_d_prog_38_method_5_code_11) rfl (tlt (by decide : (5 : Int32) < (9 : Int32))).2.1 ?_
      show Steps p.tables e below (T22.setTop (mkF m 14 #[.val (.int (7 : Int32)), .val (.ref rv), .val (.int (9 : Int32)), .val (.int (5 : Int32)), .val (.ref (ad 4))] [])) t
      refine XS.aloadN X22.here hx rfl (hb hby own_d_prog_38_method_5_code_14) rfl rfl ?_
      show Steps p.tables e below (T22.setTop (mkF m 15 #[.val (.int (7 : Int32)), .val (.ref rv), .val (.int (9 : Int32)), .val (.int (5 : Int32)), .val (.ref (ad 4))] [(.ref rv)])) t
      refine XS.iloadN X22.here hx rfl (hb hby own_d_prog_38_method_5_code_15) rfl ?_
      show Steps p.tables e below (T22.setTop (mkF m 16 #[.val (.int (7 : Int32)), .val (.ref rv), .val (.int (9 : Int32)), .val (.int (5 : Int32)), .val (.ref (ad 4))] [(.int (5 : Int32)), (.ref rv)])) t
      refine X22.aaload hx (j := (5 : Int32)) (v := (.ref (ad 5))) (by rw [e22]; exact Ar24.1) (State.isArrayOf_alike hZ.alike Ar24.2.1) rfl Ar24.2.2 hin24 hat24 (g := (mkF m 16 #[.val (.int (7 : Int32)), .val (.ref rv), .val (.int (9 : Int32)), .val (.int (5 : Int32)), .val (.ref (ad 4))] [(.int (5 : Int32)), (.ref rv)])) rfl rfl (hb hby own_d_prog_38_method_5_code_16) _ ?_
      show Steps p.tables e below (T22.setTop (mkF m 17 #[.val (.int (7 : Int32)), .val (.ref rv), .val (.int (9 : Int32)), .val (.int (5 : Int32)), .val (.ref (ad 4))] [(.ref (ad 5))])) t
      refine XS.astore X22.here hx rfl (hb hby own_d_prog_38_method_5_code_17) rfl rfl (l' := #[.val (.int (7 : Int32)), .val (.ref rv), .val (.int (9 : Int32)), .val (.int (5 : Int32)), .val (.ref (ad 5))]) rfl ?_
      show Steps p.tables e below (T22.setTop (mkF m 19 #[.val (.int (7 : Int32)), .val (.ref rv), .val (.int (9 : Int32)), .val (.int (5 : Int32)), .val (.ref (ad 5))] [])) t
      refine XS.aload X22.here hx rfl (hb hby own_d_prog_38_method_5_code_19) rfl rfl ?_
      show Steps p.tables e below (T22.setTop (mkF m 21 #[.val (.int (7 : Int32)), .val (.ref rv), .val (.int (9 : Int32)), .val (.int (5 : Int32)), .val (.ref (ad 5))] [(.ref (ad 5))])) t
      exact st26 t k)
  obtain ⟨cl28, Ar28, -, Sz28, Ng28, Ha28, -⟩ := id fq1_0
  have hin28 : ¬ ((6 : Int32) < 0 ∨ cl28.slots.size ≤ ((6 : Int32)).toNatClampNeg) := inb_of Sz28 (by decide)
  have hat28 : cl28.slots[((6 : Int32)).toNatClampNeg]? = some (.ref (ad 6)) := Ha28.at hin28 rfl
  have cf29 := ((own_F_GRANT_NOT_FOUND_code W).keep Kp1 nin0)
  obtain ⟨T30, X30, e30, st30⟩ := getF X26 hx hZ hown (host := "") (Or.inl (hw _ (List.mem_of_getElem? (i := 29) rfl))) Via.refl e26 cf29 (g := (mkF m 21 #[.val (.int (7 : Int32)), .val (.ref rv), .val (.int (9 : Int32)), .val (.int (6 : Int32)), .val (.ref (ad 6))] [(.ref (ad 6))])) rfl rfl (hb hby own_d_prog_38_method_5_code_21)
  have ch31 : ∀ t, Steps p.tables e below (T30.setTop (mkF m 24 #[.val (.int (7 : Int32)), .val (.ref rv), .val (.int (9 : Int32)), .val (.int (6 : Int32)), .val (.ref (ad 6))] [(.int (6 : Int32))])) t → Steps p.tables e below (s₁.setTop (entryFrame m #[(.int (7 : Int32))] 5)) t := fun t k => ch27 t (by
      show Steps p.tables e below (T26.setTop (mkF m 24 #[.val (.int (7 : Int32)), .val (.ref rv), .val (.int (9 : Int32)), .val (.int (5 : Int32)), .val (.ref (ad 5))] [(.int (5 : Int32))])) t
      refine XS.iloadN X26.here hx rfl (hb hby own_d_prog_38_method_5_code_24) rfl ?_
      show Steps p.tables e below (T26.setTop (mkF m 25 #[.val (.int (7 : Int32)), .val (.ref rv), .val (.int (9 : Int32)), .val (.int (5 : Int32)), .val (.ref (ad 5))] [(.int (7 : Int32)), (.int (5 : Int32))])) t
      refine XS.icmpYes X26.here hx rfl (pc0 := 25) (pc' := 31) rfl (hb hby own_d_prog_38_method_5_code_25) rfl (feq (by decide : ¬ (5 : Int32) = (7 : Int32))).2 (by decide) (by decide) ?_
      show Steps p.tables e below (T26.setTop (mkF m 31 #[.val (.int (7 : Int32)), .val (.ref rv), .val (.int (9 : Int32)), .val (.int (5 : Int32)), .val (.ref (ad 5))] [])) t
      refine Jvm.Free.XT.iincV X26.here hx rfl (1 : Int32) (hb hby own_d_prog_38_method_5_code_31) (by decide) rfl (l' := #[.val (.int (7 : Int32)), .val (.ref rv), .val (.int (9 : Int32)), .val (.int (6 : Int32)), .val (.ref (ad 5))]) (by rw [show ((5 : Int32) + (1 : Int32)) = (6 : Int32) from by decide]; rfl) ?_
      show Steps p.tables e below (T26.setTop (mkF m 34 #[.val (.int (7 : Int32)), .val (.ref rv), .val (.int (9 : Int32)), .val (.int (6 : Int32)), .val (.ref (ad 5))] [])) t
      refine XS.goto X26.here hx rfl (pc0 := 34) (pc' := 9) rfl (hb hby own_d_prog_38_method_5_code_34) (by decide) (by decide) ?_
      show Steps p.tables e below (T26.setTop (mkF m 9 #[.val (.int (7 : Int32)), .val (.ref rv), .val (.int (9 : Int32)), .val (.int (6 : Int32)), .val (.ref (ad 5))] [])) t
      refine XS.iloadN X26.here hx rfl (hb hby own_d_prog_38_method_5_code_9) rfl ?_
      show Steps p.tables e below (T26.setTop (mkF m 10 #[.val (.int (7 : Int32)), .val (.ref rv), .val (.int (9 : Int32)), .val (.int (6 : Int32)), .val (.ref (ad 5))] [(.int (6 : Int32))])) t
      refine XS.iloadN X26.here hx rfl (hb hby own_d_prog_38_method_5_code_10) rfl ?_
      show Steps p.tables e below (T26.setTop (mkF m 11 #[.val (.int (7 : Int32)), .val (.ref rv), .val (.int (9 : Int32)), .val (.int (6 : Int32)), .val (.ref (ad 5))] [(.int (9 : Int32)), (.int (6 : Int32))])) t
      refine XS.icmpNo X26.here hx rfl (hb hby own_d_prog_38_method_5_code_11) rfl (tlt (by decide : (6 : Int32) < (9 : Int32))).2.1 ?_
      show Steps p.tables e below (T26.setTop (mkF m 14 #[.val (.int (7 : Int32)), .val (.ref rv), .val (.int (9 : Int32)), .val (.int (6 : Int32)), .val (.ref (ad 5))] [])) t
      refine XS.aloadN X26.here hx rfl (hb hby own_d_prog_38_method_5_code_14) rfl rfl ?_
      show Steps p.tables e below (T26.setTop (mkF m 15 #[.val (.int (7 : Int32)), .val (.ref rv), .val (.int (9 : Int32)), .val (.int (6 : Int32)), .val (.ref (ad 5))] [(.ref rv)])) t
      refine XS.iloadN X26.here hx rfl (hb hby own_d_prog_38_method_5_code_15) rfl ?_
      show Steps p.tables e below (T26.setTop (mkF m 16 #[.val (.int (7 : Int32)), .val (.ref rv), .val (.int (9 : Int32)), .val (.int (6 : Int32)), .val (.ref (ad 5))] [(.int (6 : Int32)), (.ref rv)])) t
      refine X26.aaload hx (j := (6 : Int32)) (v := (.ref (ad 6))) (by rw [e26]; exact Ar28.1) (State.isArrayOf_alike hZ.alike Ar28.2.1) rfl Ar28.2.2 hin28 hat28 (g := (mkF m 16 #[.val (.int (7 : Int32)), .val (.ref rv), .val (.int (9 : Int32)), .val (.int (6 : Int32)), .val (.ref (ad 5))] [(.int (6 : Int32)), (.ref rv)])) rfl rfl (hb hby own_d_prog_38_method_5_code_16) _ ?_
      show Steps p.tables e below (T26.setTop (mkF m 17 #[.val (.int (7 : Int32)), .val (.ref rv), .val (.int (9 : Int32)), .val (.int (6 : Int32)), .val (.ref (ad 5))] [(.ref (ad 6))])) t
      refine XS.astore X26.here hx rfl (hb hby own_d_prog_38_method_5_code_17) rfl rfl (l' := #[.val (.int (7 : Int32)), .val (.ref rv), .val (.int (9 : Int32)), .val (.int (6 : Int32)), .val (.ref (ad 6))]) rfl ?_
      show Steps p.tables e below (T26.setTop (mkF m 19 #[.val (.int (7 : Int32)), .val (.ref rv), .val (.int (9 : Int32)), .val (.int (6 : Int32)), .val (.ref (ad 6))] [])) t
      refine XS.aload X26.here hx rfl (hb hby own_d_prog_38_method_5_code_19) rfl rfl ?_
      show Steps p.tables e below (T26.setTop (mkF m 21 #[.val (.int (7 : Int32)), .val (.ref rv), .val (.int (9 : Int32)), .val (.int (6 : Int32)), .val (.ref (ad 6))] [(.ref (ad 6))])) t
      exact st30 t k)
  obtain ⟨cl32, Ar32, -, Sz32, Ng32, Ha32, -⟩ := id fq1_0
  have hin32 : ¬ ((7 : Int32) < 0 ∨ cl32.slots.size ≤ ((7 : Int32)).toNatClampNeg) := inb_of Sz32 (by decide)
  have hat32 : cl32.slots[((7 : Int32)).toNatClampNeg]? = some (.ref (ad 7)) := Ha32.at hin32 rfl
  have cf33 := ((own_F_TOO_MANY_KEYS_code W).keep Kp1 nin0)
  obtain ⟨T34, X34, e34, st34⟩ := getF X30 hx hZ hown (host := "") (Or.inl (hw _ (List.mem_of_getElem? (i := 29) rfl))) Via.refl e30 cf33 (g := (mkF m 21 #[.val (.int (7 : Int32)), .val (.ref rv), .val (.int (9 : Int32)), .val (.int (7 : Int32)), .val (.ref (ad 7))] [(.ref (ad 7))])) rfl rfl (hb hby own_d_prog_38_method_5_code_21)
  have ch35 : ∀ t, Steps p.tables e below (T34.setTop (mkF m 24 #[.val (.int (7 : Int32)), .val (.ref rv), .val (.int (9 : Int32)), .val (.int (7 : Int32)), .val (.ref (ad 7))] [(.int (7 : Int32))])) t → Steps p.tables e below (s₁.setTop (entryFrame m #[(.int (7 : Int32))] 5)) t := fun t k => ch31 t (by
      show Steps p.tables e below (T30.setTop (mkF m 24 #[.val (.int (7 : Int32)), .val (.ref rv), .val (.int (9 : Int32)), .val (.int (6 : Int32)), .val (.ref (ad 6))] [(.int (6 : Int32))])) t
      refine XS.iloadN X30.here hx rfl (hb hby own_d_prog_38_method_5_code_24) rfl ?_
      show Steps p.tables e below (T30.setTop (mkF m 25 #[.val (.int (7 : Int32)), .val (.ref rv), .val (.int (9 : Int32)), .val (.int (6 : Int32)), .val (.ref (ad 6))] [(.int (7 : Int32)), (.int (6 : Int32))])) t
      refine XS.icmpYes X30.here hx rfl (pc0 := 25) (pc' := 31) rfl (hb hby own_d_prog_38_method_5_code_25) rfl (feq (by decide : ¬ (6 : Int32) = (7 : Int32))).2 (by decide) (by decide) ?_
      show Steps p.tables e below (T30.setTop (mkF m 31 #[.val (.int (7 : Int32)), .val (.ref rv), .val (.int (9 : Int32)), .val (.int (6 : Int32)), .val (.ref (ad 6))] [])) t
      refine Jvm.Free.XT.iincV X30.here hx rfl (1 : Int32) (hb hby own_d_prog_38_method_5_code_31) (by decide) rfl (l' := #[.val (.int (7 : Int32)), .val (.ref rv), .val (.int (9 : Int32)), .val (.int (7 : Int32)), .val (.ref (ad 6))]) (by rw [show ((6 : Int32) + (1 : Int32)) = (7 : Int32) from by decide]; rfl) ?_
      show Steps p.tables e below (T30.setTop (mkF m 34 #[.val (.int (7 : Int32)), .val (.ref rv), .val (.int (9 : Int32)), .val (.int (7 : Int32)), .val (.ref (ad 6))] [])) t
      refine XS.goto X30.here hx rfl (pc0 := 34) (pc' := 9) rfl (hb hby own_d_prog_38_method_5_code_34) (by decide) (by decide) ?_
      show Steps p.tables e below (T30.setTop (mkF m 9 #[.val (.int (7 : Int32)), .val (.ref rv), .val (.int (9 : Int32)), .val (.int (7 : Int32)), .val (.ref (ad 6))] [])) t
      refine XS.iloadN X30.here hx rfl (hb hby own_d_prog_38_method_5_code_9) rfl ?_
      show Steps p.tables e below (T30.setTop (mkF m 10 #[.val (.int (7 : Int32)), .val (.ref rv), .val (.int (9 : Int32)), .val (.int (7 : Int32)), .val (.ref (ad 6))] [(.int (7 : Int32))])) t
      refine XS.iloadN X30.here hx rfl (hb hby own_d_prog_38_method_5_code_10) rfl ?_
      show Steps p.tables e below (T30.setTop (mkF m 11 #[.val (.int (7 : Int32)), .val (.ref rv), .val (.int (9 : Int32)), .val (.int (7 : Int32)), .val (.ref (ad 6))] [(.int (9 : Int32)), (.int (7 : Int32))])) t
      refine XS.icmpNo X30.here hx rfl (hb hby own_d_prog_38_method_5_code_11) rfl (tlt (by decide : (7 : Int32) < (9 : Int32))).2.1 ?_
      show Steps p.tables e below (T30.setTop (mkF m 14 #[.val (.int (7 : Int32)), .val (.ref rv), .val (.int (9 : Int32)), .val (.int (7 : Int32)), .val (.ref (ad 6))] [])) t
      refine XS.aloadN X30.here hx rfl (hb hby own_d_prog_38_method_5_code_14) rfl rfl ?_
      show Steps p.tables e below (T30.setTop (mkF m 15 #[.val (.int (7 : Int32)), .val (.ref rv), .val (.int (9 : Int32)), .val (.int (7 : Int32)), .val (.ref (ad 6))] [(.ref rv)])) t
      refine XS.iloadN X30.here hx rfl (hb hby own_d_prog_38_method_5_code_15) rfl ?_
      show Steps p.tables e below (T30.setTop (mkF m 16 #[.val (.int (7 : Int32)), .val (.ref rv), .val (.int (9 : Int32)), .val (.int (7 : Int32)), .val (.ref (ad 6))] [(.int (7 : Int32)), (.ref rv)])) t
      refine X30.aaload hx (j := (7 : Int32)) (v := (.ref (ad 7))) (by rw [e30]; exact Ar32.1) (State.isArrayOf_alike hZ.alike Ar32.2.1) rfl Ar32.2.2 hin32 hat32 (g := (mkF m 16 #[.val (.int (7 : Int32)), .val (.ref rv), .val (.int (9 : Int32)), .val (.int (7 : Int32)), .val (.ref (ad 6))] [(.int (7 : Int32)), (.ref rv)])) rfl rfl (hb hby own_d_prog_38_method_5_code_16) _ ?_
      show Steps p.tables e below (T30.setTop (mkF m 17 #[.val (.int (7 : Int32)), .val (.ref rv), .val (.int (9 : Int32)), .val (.int (7 : Int32)), .val (.ref (ad 6))] [(.ref (ad 7))])) t
      refine XS.astore X30.here hx rfl (hb hby own_d_prog_38_method_5_code_17) rfl rfl (l' := #[.val (.int (7 : Int32)), .val (.ref rv), .val (.int (9 : Int32)), .val (.int (7 : Int32)), .val (.ref (ad 7))]) rfl ?_
      show Steps p.tables e below (T30.setTop (mkF m 19 #[.val (.int (7 : Int32)), .val (.ref rv), .val (.int (9 : Int32)), .val (.int (7 : Int32)), .val (.ref (ad 7))] [])) t
      refine XS.aload X30.here hx rfl (hb hby own_d_prog_38_method_5_code_19) rfl rfl ?_
      show Steps p.tables e below (T30.setTop (mkF m 21 #[.val (.int (7 : Int32)), .val (.ref rv), .val (.int (9 : Int32)), .val (.int (7 : Int32)), .val (.ref (ad 7))] [(.ref (ad 7))])) t
      exact st34 t k)
  have ch36 : ∀ t, Steps p.tables e below (T34.setTop (mkF m 30 #[.val (.int (7 : Int32)), .val (.ref rv), .val (.int (9 : Int32)), .val (.int (7 : Int32)), .val (.ref (ad 7))] [(.ref (ad 7))])) t → Steps p.tables e below (s₁.setTop (entryFrame m #[(.int (7 : Int32))] 5)) t := fun t k => ch35 t (by
      show Steps p.tables e below (T34.setTop (mkF m 24 #[.val (.int (7 : Int32)), .val (.ref rv), .val (.int (9 : Int32)), .val (.int (7 : Int32)), .val (.ref (ad 7))] [(.int (7 : Int32))])) t
      refine XS.iloadN X34.here hx rfl (hb hby own_d_prog_38_method_5_code_24) rfl ?_
      show Steps p.tables e below (T34.setTop (mkF m 25 #[.val (.int (7 : Int32)), .val (.ref rv), .val (.int (9 : Int32)), .val (.int (7 : Int32)), .val (.ref (ad 7))] [(.int (7 : Int32)), (.int (7 : Int32))])) t
      refine XS.icmpNo X34.here hx rfl (hb hby own_d_prog_38_method_5_code_25) rfl (teq (by decide : (7 : Int32) = (7 : Int32))).2 ?_
      show Steps p.tables e below (T34.setTop (mkF m 28 #[.val (.int (7 : Int32)), .val (.ref rv), .val (.int (9 : Int32)), .val (.int (7 : Int32)), .val (.ref (ad 7))] [])) t
      refine XS.aload X34.here hx rfl (hb hby own_d_prog_38_method_5_code_28) rfl rfl ?_
      exact k)
  obtain ⟨fs, hr, hrun, hended, hW, hsame⟩ := X34.leave (v := some (.ref (ad 7))) (fun h => by rw [Bd.returns] at h; cases h)
  refine ⟨_, _, ch36 _ ?_, hrun, hended, _, _, rfl, ?_, ⟨_, rfl⟩, hW, hsame.mono (by decide) (by decide)⟩
  · show Steps p.tables e below (T34.setTop (mkF m 30 #[.val (.int (7 : Int32)), .val (.ref rv), .val (.int (9 : Int32)), .val (.int (7 : Int32)), .val (.ref (ad 7))] [(.ref (ad 7))])) _
    jvm_step X34.here [X34.here.top, hx, (hb hby own_d_prog_38_method_5_code_30), X34.method', Bd.returns, Value.isRef, FieldType.isReference]
    first | (intro acts; rw [hr _ acts rfl rfl rfl]) | rw [hr _ _ rfl rfl rfl]
    exact Steps.refl _
  · show QK (some (.ref (ad 7))) h0 n0 _ T34.heap _
    rw [e34]
    exact ⟨rfl, N1, Kp1⟩
theorem own_ef_own_expd_7 (m : MethodId) {x0 : Int32} : entryFrame m #[(.int x0)] 1 = mkF m 0 #[.val (.int x0)] [] := by first | (simp [entryFrame, mkF, argsToLocals, Value.category, maxLocals]; done) | rfl
set_option maxRecDepth 65536 in
set_option maxHeartbeats 40000000 in
theorem own_expd_7 (l : Launch) (Z : State) (a0 : Array Value) (hw : ∀ d ∈ tables_1, d.before a0 Z = true) (ws : List Jvm.Cond) (h0 : Heap) (n0 : Nat) (Z0 : n0 ≤ h0.size) (ad : Nat → Addr) (a__VALUES : Addr) (k__VALUES : ClassId) (W : OwnWd Z h0 ad a__VALUES k__VALUES) :
    MetFree l (⟨"com/example/limpet/limpet/io/StatusFromCodePinLaw", "expected", "(I)Lcom/example/limpet/limpet/io/Status;"⟩ : MethodName) (head1 (Jvm.Cond.code (⟨"com/example/limpet/limpet/io/StatusFromCodePinLaw", "expected", "(I)Lcom/example/limpet/limpet/io/Status;"⟩ : MethodName) method_2_code 1 (some (.object "com/example/limpet/limpet/io/Status")) :: ws) ({ frames := 0, cells := 0, slots := 0, locals := 0 } : Room)) (fun a U => a = #[(.int (7 : Int32))] ∧ Z.Warmed39 U.vm ∧ U.heap = h0) (fun _ _ _ _ _ => True) (fun _ U o U' => ∃ v L, o = .returned v ∧ QV (some (.ref (ad 7))) h0 n0 v U'.heap L ∧ FrameEnd U o U' L ({ frames := 0, cells := 0, slots := 0, locals := 0 } : Room).cells ({ frames := 0, cells := 0, slots := 0, locals := 0 } : Room).slots) := by
  refine MetFree.of_bodySF (plainFor_of_name own_pn_com_example_limpet_limpet_io_StatusFromCodePinLaw) hisR ?_
  intro p e s m args below meth c s₁ Bd hml0 hP hK
  obtain ⟨rfl, hZ, hh⟩ := hP
  have hx := Bd.exec
  have hby := Bd.bytes
  have hml : c.maxLocals = 1 := hml0
  have hown : s.vm.findClass "com/example/limpet/limpet/io/StatusFromCodePinLaw" = some m.cls := findClass_of_methodNamed Bd.named
  have hnm := (name_of_methodNamed Bd.named Bd.method).1
  have X0 : Stand p l e ({ frames := 0, cells := 0, slots := 0, locals := 0 } : Room) s m #[(.int (7 : Int32))] below meth c s₁ [] 0 0 := Stand.of_body Bd
  have e0 : s₁.heap = h0 := by rw [← hh, Bd.state]; rfl
  have N0 := Fr.nil n0
  have pre0 : ∀ t, Steps p.tables e below (s₁.setTop (mkF m 0 #[.val (.int (7 : Int32))] [])) t → Steps p.tables e below (s₁.setTop (entryFrame m #[(.int (7 : Int32))] 1)) t := fun t k => castTop (own_ef_own_expd_7 m) k
  obtain ⟨T1, X1, e1, st1⟩ := getS2 X0 hx hZ hown (host := "") (Or.inl (hw _ (List.mem_of_getElem? (i := 44) rfl))) Via.refl e0 (own_S_TOO_MANY_KEYS W) (g := (mkF m 69 #[.val (.int (7 : Int32))] [])) rfl (hb hby own_d_method_2_code_69)
  have ch2 : ∀ t, Steps p.tables e below (T1.setTop (mkF m 72 #[.val (.int (7 : Int32))] [(.ref (ad 7))])) t → Steps p.tables e below (s₁.setTop (entryFrame m #[(.int (7 : Int32))] 1)) t := fun t k => pre0 t (by
      show Steps p.tables e below (s₁.setTop (mkF m 0 #[.val (.int (7 : Int32))] [])) t
      refine XS.iloadN X0.here hx rfl (hb hby own_d_method_2_code_0) rfl ?_
      show Steps p.tables e below (s₁.setTop (mkF m 1 #[.val (.int (7 : Int32))] [(.int (7 : Int32))])) t
      refine XS.ifYes X0.here hx rfl (pc0 := 1) (pc' := 8) rfl (hb hby own_d_method_2_code_1) rfl ((if0 _ _).trans (feq (by decide : ¬ (7 : Int32) = (0 : Int32))).2) (by decide) (by decide) ?_
      show Steps p.tables e below (s₁.setTop (mkF m 8 #[.val (.int (7 : Int32))] [])) t
      refine XS.iloadN X0.here hx rfl (hb hby own_d_method_2_code_8) rfl ?_
      show Steps p.tables e below (s₁.setTop (mkF m 9 #[.val (.int (7 : Int32))] [(.int (7 : Int32))])) t
      refine XS.iconst X0.here hx rfl (hb hby own_d_method_2_code_9) ?_
      show Steps p.tables e below (s₁.setTop (mkF m 10 #[.val (.int (7 : Int32))] [(.int (1 : Int32)), (.int (7 : Int32))])) t
      refine XS.icmpYes X0.here hx rfl (pc0 := 10) (pc' := 17) rfl (hb hby own_d_method_2_code_10) rfl (feq (by decide : ¬ (7 : Int32) = (1 : Int32))).2 (by decide) (by decide) ?_
      show Steps p.tables e below (s₁.setTop (mkF m 17 #[.val (.int (7 : Int32))] [])) t
      refine XS.iloadN X0.here hx rfl (hb hby own_d_method_2_code_17) rfl ?_
      show Steps p.tables e below (s₁.setTop (mkF m 18 #[.val (.int (7 : Int32))] [(.int (7 : Int32))])) t
      refine XS.iconst X0.here hx rfl (hb hby own_d_method_2_code_18) ?_
      show Steps p.tables e below (s₁.setTop (mkF m 19 #[.val (.int (7 : Int32))] [(.int (2 : Int32)), (.int (7 : Int32))])) t
      refine XS.icmpYes X0.here hx rfl (pc0 := 19) (pc' := 26) rfl (hb hby own_d_method_2_code_19) rfl (feq (by decide : ¬ (7 : Int32) = (2 : Int32))).2 (by decide) (by decide) ?_
      show Steps p.tables e below (s₁.setTop (mkF m 26 #[.val (.int (7 : Int32))] [])) t
      refine XS.iloadN X0.here hx rfl (hb hby own_d_method_2_code_26) rfl ?_
      show Steps p.tables e below (s₁.setTop (mkF m 27 #[.val (.int (7 : Int32))] [(.int (7 : Int32))])) t
      refine XS.iconst X0.here hx rfl (hb hby own_d_method_2_code_27) ?_
      show Steps p.tables e below (s₁.setTop (mkF m 28 #[.val (.int (7 : Int32))] [(.int (3 : Int32)), (.int (7 : Int32))])) t
      refine XS.icmpYes X0.here hx rfl (pc0 := 28) (pc' := 35) rfl (hb hby own_d_method_2_code_28) rfl (feq (by decide : ¬ (7 : Int32) = (3 : Int32))).2 (by decide) (by decide) ?_
      show Steps p.tables e below (s₁.setTop (mkF m 35 #[.val (.int (7 : Int32))] [])) t
      refine XS.iloadN X0.here hx rfl (hb hby own_d_method_2_code_35) rfl ?_
      show Steps p.tables e below (s₁.setTop (mkF m 36 #[.val (.int (7 : Int32))] [(.int (7 : Int32))])) t
      refine XS.iconst X0.here hx rfl (hb hby own_d_method_2_code_36) ?_
      show Steps p.tables e below (s₁.setTop (mkF m 37 #[.val (.int (7 : Int32))] [(.int (4 : Int32)), (.int (7 : Int32))])) t
      refine XS.icmpYes X0.here hx rfl (pc0 := 37) (pc' := 44) rfl (hb hby own_d_method_2_code_37) rfl (feq (by decide : ¬ (7 : Int32) = (4 : Int32))).2 (by decide) (by decide) ?_
      show Steps p.tables e below (s₁.setTop (mkF m 44 #[.val (.int (7 : Int32))] [])) t
      refine XS.iloadN X0.here hx rfl (hb hby own_d_method_2_code_44) rfl ?_
      show Steps p.tables e below (s₁.setTop (mkF m 45 #[.val (.int (7 : Int32))] [(.int (7 : Int32))])) t
      refine XS.iconst X0.here hx rfl (hb hby own_d_method_2_code_45) ?_
      show Steps p.tables e below (s₁.setTop (mkF m 46 #[.val (.int (7 : Int32))] [(.int (5 : Int32)), (.int (7 : Int32))])) t
      refine XS.icmpYes X0.here hx rfl (pc0 := 46) (pc' := 53) rfl (hb hby own_d_method_2_code_46) rfl (feq (by decide : ¬ (7 : Int32) = (5 : Int32))).2 (by decide) (by decide) ?_
      show Steps p.tables e below (s₁.setTop (mkF m 53 #[.val (.int (7 : Int32))] [])) t
      refine XS.iloadN X0.here hx rfl (hb hby own_d_method_2_code_53) rfl ?_
      show Steps p.tables e below (s₁.setTop (mkF m 54 #[.val (.int (7 : Int32))] [(.int (7 : Int32))])) t
      refine XS.bipush X0.here hx rfl (hb hby own_d_method_2_code_54) ?_
      show Steps p.tables e below (s₁.setTop (mkF m 56 #[.val (.int (7 : Int32))] [(.int (6 : Int32)), (.int (7 : Int32))])) t
      refine XS.icmpYes X0.here hx rfl (pc0 := 56) (pc' := 63) rfl (hb hby own_d_method_2_code_56) rfl (feq (by decide : ¬ (7 : Int32) = (6 : Int32))).2 (by decide) (by decide) ?_
      show Steps p.tables e below (s₁.setTop (mkF m 63 #[.val (.int (7 : Int32))] [])) t
      refine XS.iloadN X0.here hx rfl (hb hby own_d_method_2_code_63) rfl ?_
      show Steps p.tables e below (s₁.setTop (mkF m 64 #[.val (.int (7 : Int32))] [(.int (7 : Int32))])) t
      refine XS.bipush X0.here hx rfl (hb hby own_d_method_2_code_64) ?_
      show Steps p.tables e below (s₁.setTop (mkF m 66 #[.val (.int (7 : Int32))] [(.int (7 : Int32)), (.int (7 : Int32))])) t
      refine XS.icmpNo X0.here hx rfl (hb hby own_d_method_2_code_66) rfl (teq (by decide : (7 : Int32) = (7 : Int32))).2 ?_
      show Steps p.tables e below (s₁.setTop (mkF m 69 #[.val (.int (7 : Int32))] [])) t
      exact st1 t k)
  obtain ⟨fs, hr, hrun, hended, hW, hsame⟩ := X1.leave (v := some (.ref (ad 7))) (fun h => by rw [Bd.returns] at h; cases h)
  refine ⟨_, _, ch2 _ ?_, hrun, hended, _, _, rfl, ?_, ⟨_, rfl⟩, hW, hsame.mono (by decide) (by decide)⟩
  · show Steps p.tables e below (T1.setTop (mkF m 72 #[.val (.int (7 : Int32))] [(.ref (ad 7))])) _
    jvm_step X1.here [X1.here.top, hx, (hb hby own_d_method_2_code_72), X1.method', Bd.returns, Value.isRef, FieldType.isReference]
    first | (intro acts; rw [hr _ acts rfl rfl rfl]) | rw [hr _ _ rfl rfl rfl]
    exact Steps.refl _
  · show QV (some (.ref (ad 7))) h0 n0 _ T1.heap _
    rw [e1]
    exact ⟨rfl, N0, rfl⟩
theorem own_ef_own_code_7 (m : MethodId) {x0 : Addr} : entryFrame m #[(.ref x0)] 1 = mkF m 0 #[.val (.ref x0)] [] := by first | (simp [entryFrame, mkF, argsToLocals, Value.category, maxLocals]; done) | rfl
set_option maxRecDepth 65536 in
set_option maxHeartbeats 40000000 in
theorem own_code_7 (l : Launch) (Z : State) (a0 : Array Value) (hw : ∀ d ∈ tables_1, d.before a0 Z = true) (ws : List Jvm.Cond) (h0 : Heap) (n0 : Nat) (Z0 : n0 ≤ h0.size) (ad : Nat → Addr) (a__VALUES : Addr) (k__VALUES : ClassId) (W : OwnWd Z h0 ad a__VALUES k__VALUES) :
    MetFree l (⟨"com/example/limpet/limpet/io/Status", "code", "()I"⟩ : MethodName) (head1 (Jvm.Cond.code (⟨"com/example/limpet/limpet/io/Status", "code", "()I"⟩ : MethodName) prog_38_method_4_code 1 (some .int) :: ws) ({ frames := 0, cells := 0, slots := 0, locals := 0 } : Room)) (fun a U => a = #[(.ref (ad 7))] ∧ Z.Warmed39 U.vm ∧ U.heap = h0) (fun _ _ _ _ _ => True) (fun _ U o U' => ∃ v L, o = .returned v ∧ QV (some (.int (7 : Int32))) h0 n0 v U'.heap L ∧ FrameEnd U o U' L ({ frames := 0, cells := 0, slots := 0, locals := 0 } : Room).cells ({ frames := 0, cells := 0, slots := 0, locals := 0 } : Room).slots) := by
  refine MetFree.of_bodySF (plainFor_of_name own_pn_com_example_limpet_limpet_io_Status) hisR ?_
  intro p e s m args below meth c s₁ Bd hml0 hP hK
  obtain ⟨rfl, hZ, hh⟩ := hP
  have hx := Bd.exec
  have hby := Bd.bytes
  have hml : c.maxLocals = 1 := hml0
  have hown : s.vm.findClass "com/example/limpet/limpet/io/Status" = some m.cls := findClass_of_methodNamed Bd.named
  have hnm := (name_of_methodNamed Bd.named Bd.method).1
  have X0 : Stand p l e ({ frames := 0, cells := 0, slots := 0, locals := 0 } : Room) s m #[(.ref (ad 7))] below meth c s₁ [] 0 0 := Stand.of_body Bd
  have e0 : s₁.heap = h0 := by rw [← hh, Bd.state]; rfl
  have N0 := Fr.nil n0
  have pre0 : ∀ t, Steps p.tables e below (s₁.setTop (mkF m 0 #[.val (.ref (ad 7))] [])) t → Steps p.tables e below (s₁.setTop (entryFrame m #[(.ref (ad 7))] 1)) t := fun t k => castTop (own_ef_own_code_7 m) k
  obtain ⟨T1, X1, e1, st1⟩ := getF X0 hx hZ hown (host := "") (Or.inl (hw _ (List.mem_of_getElem? (i := 29) rfl))) Via.refl e0 (own_F_TOO_MANY_KEYS_code W) (g := (mkF m 1 #[.val (.ref (ad 7))] [(.ref (ad 7))])) rfl rfl (hb hby own_d_prog_38_method_4_code_1)
  have ch2 : ∀ t, Steps p.tables e below (T1.setTop (mkF m 4 #[.val (.ref (ad 7))] [(.int (7 : Int32))])) t → Steps p.tables e below (s₁.setTop (entryFrame m #[(.ref (ad 7))] 1)) t := fun t k => pre0 t (by
      show Steps p.tables e below (s₁.setTop (mkF m 0 #[.val (.ref (ad 7))] [])) t
      refine XS.aloadN X0.here hx rfl (hb hby own_d_prog_38_method_4_code_0) rfl rfl ?_
      show Steps p.tables e below (s₁.setTop (mkF m 1 #[.val (.ref (ad 7))] [(.ref (ad 7))])) t
      exact st1 t k)
  obtain ⟨fs, hr, hrun, hended, hW, hsame⟩ := X1.leave (v := some (.int (7 : Int32))) (fun h => by rw [Bd.returns] at h; cases h)
  refine ⟨_, _, ch2 _ ?_, hrun, hended, _, _, rfl, ?_, ⟨_, rfl⟩, hW, hsame.mono (by decide) (by decide)⟩
  · show Steps p.tables e below (T1.setTop (mkF m 4 #[.val (.ref (ad 7))] [(.int (7 : Int32))])) _
    exact retI X1 hx Bd.returns (hb hby own_d_prog_38_method_4_code_4) hr
  · show QV (some (.int (7 : Int32))) h0 n0 _ T1.heap _
    rw [e1]
    exact ⟨rfl, N0, rfl⟩
theorem own_ef_own_law_7 (m : MethodId) {x0 : Int32} : entryFrame m #[(.int x0)] maxLocals = mkF m 0 #[.val (.int x0), .unset, .unset, .unset] [] := by first | (simp [entryFrame, mkF, argsToLocals, Value.category, maxLocals]; done) | rfl
set_option maxRecDepth 65536 in
set_option maxHeartbeats 40000000 in
theorem own_law_7 (l : Launch) (Z : State) (a0 : Array Value) (hw : ∀ d ∈ tables_1, d.before a0 Z = true) (ws : List Jvm.Cond) (h0 : Heap) (n0 : Nat) (Z0 : n0 ≤ h0.size) (p1 : Int32) (hk : (p1 &&& (2147483647 : Int32)) % (9 : Int32) = (7 : Int32)) (ad : Nat → Addr) (a__VALUES : Addr) (k__VALUES : ClassId) (W : OwnWd Z h0 ad a__VALUES k__VALUES) :
    MetFree l x (head1 (Jvm.Cond.code x code maxLocals ret :: ws) room_1) (fun a U => a = #[(.int p1)] ∧ Z.Warmed39 U.vm ∧ U.heap = h0) (fun _ _ _ _ _ => True) (fun _ U o U' => ∃ v L, o = .returned v ∧ QN (some (.int (1 : Int32))) n0 v U'.heap L ∧ FrameEnd U o U' L room_1.cells room_1.slots) := by
  refine MetFree.of_bodySF (plainFor_of_name own_pn_com_example_limpet_limpet_io_StatusFromCodePinLaw) hisR ?_
  intro p e s m args below meth c s₁ Bd hml0 hP hK
  obtain ⟨rfl, hZ, hh⟩ := hP
  have hx := Bd.exec
  have hby := Bd.bytes
  have hml : c.maxLocals = 4 := hml0
  have hown : s.vm.findClass "com/example/limpet/limpet/io/StatusFromCodePinLaw" = some m.cls := findClass_of_methodNamed Bd.named
  have hnm := (name_of_methodNamed Bd.named Bd.method).1
  have X0 : Stand p l e room_1 s m #[(.int p1)] below meth c s₁ [] 0 0 := Stand.of_body Bd
  have e0 : s₁.heap = h0 := by rw [← hh, Bd.state]; rfl
  have N0 := Fr.nil n0
  have pre0 : ∀ t, Steps p.tables e below (s₁.setTop (mkF m 0 #[.val (.int p1), .unset, .unset, .unset] [])) t → Steps p.tables e below (s₁.setTop (entryFrame m #[(.int p1)] maxLocals)) t := fun t k => castTop (own_ef_own_law_7 m) k
  obtain ⟨vv1, _, ⟨T1, L1, kk1, nn1⟩, -, X1, ⟨Lc1, hQ1, l1, y1, z1⟩, st1⟩ := Jvm.LawKit.callS X0 hx (y := (⟨"com/example/limpet/limpet/io/Status", "fromCode", "(I)Lcom/example/limpet/limpet/io/Status;"⟩ : MethodName)) hown (mvT hZ (hw _ (List.mem_of_getElem? (i := 1) rfl))) (mvT hZ (hw _ (List.mem_of_getElem? (i := 2) rfl))) (mvT hZ (hw _ (List.mem_of_getElem? (i := 3) rfl))) (mvT hZ (hw _ (List.mem_of_getElem? (i := 4) rfl))) (by decide) (backOf (W := 0) (own_from_7 l Z a0 hw [] h0 n0 (Nat.le_trans Z0 (Keep.refl h0 []).1) ad a__VALUES k__VALUES W) hZ (hw _ (List.mem_of_getElem? (i := 4) rfl)) (hw _ (List.mem_of_getElem? (i := 3) rfl)) (by decide) (by decide)) (g := (mkF m 9 #[.val (.int p1), .val (.int (7 : Int32)), .unset, .unset] [(.int (7 : Int32))])) rfl (by rw [hml]; rfl) (argsL := [(.int (7 : Int32))]) (rest := []) (lenOf own_pd__I_Lcom_example_limpet_limpet_io_Status_ rfl) rfl (by show 2 * 0 + _ ≤ _; exact Nat.le_of_eq rfl) (hb hby at_9) (fun _ _ => ⟨rfl, e0, (by decide : 0 + 1 ≤ _), (by decide : 0 + 9 ≤ _)⟩)
  dsimp only [Pt.U, Pt.locs, Pt.cells, Pt.slots] at X1 l1 y1 z1 st1 hQ1
  subst l1 y1 z1
  obtain ⟨hh1, eh1⟩ : ∃ h, T1.heap = h := ⟨_, rfl⟩
  rw [eh1] at hQ1
  obtain ⟨rfl, Nq1, Kq1⟩ := hQ1
  have N1 := Fr.app N0 Nq1
  have Kp1 := Keep.trans (Keep.refl h0 []) Kq1 all0
  have ch2 : ∀ t, Steps p.tables e below (T1.setTop (mkF m 12 #[.val (.int p1), .val (.int (7 : Int32)), .unset, .unset] [(.ref (ad 7))])) t → Steps p.tables e below (s₁.setTop (entryFrame m #[(.int p1)] maxLocals)) t := fun t k => pre0 t (by
      show Steps p.tables e below (s₁.setTop (mkF m 0 #[.val (.int p1), .unset, .unset, .unset] [])) t
      refine XS.iloadN X0.here hx rfl (hb hby at_0) rfl ?_
      show Steps p.tables e below (s₁.setTop (mkF m 1 #[.val (.int p1), .unset, .unset, .unset] [(.int p1)])) t
      refine X0.ldcInt hx hown (mvT hZ (hw _ (List.mem_of_getElem? (i := 0) rfl))) (g := (mkF m 1 #[.val (.int p1), .unset, .unset, .unset] [(.int p1)])) rfl (hb hby at_1) _ ?_
      show Steps p.tables e below (s₁.setTop (mkF m 3 #[.val (.int p1), .unset, .unset, .unset] [(.int (2147483647 : Int32)), (.int p1)])) t
      refine XS.iand X0.here hx rfl (hb hby at_3) rfl ?_
      show Steps p.tables e below (s₁.setTop (mkF m 4 #[.val (.int p1), .unset, .unset, .unset] [(.int (p1 &&& (2147483647 : Int32)))])) t
      refine XS.bipush X0.here hx rfl (hb hby at_4) ?_
      show Steps p.tables e below (s₁.setTop (mkF m 6 #[.val (.int p1), .unset, .unset, .unset] [(.int (9 : Int32)), (.int (p1 &&& (2147483647 : Int32)))])) t
      refine Jvm.RoadKit.iremM (g := (mkF m 6 #[.val (.int p1), .unset, .unset, .unset] [(.int (9 : Int32)), (.int (p1 &&& (2147483647 : Int32)))])) X0 hx rfl (hb hby at_6) rfl (by decide) ?_
      rw [hk]
      show Steps p.tables e below (s₁.setTop (mkF m 7 #[.val (.int p1), .unset, .unset, .unset] [(.int (7 : Int32))])) t
      refine XS.istoreN X0.here hx rfl (hb hby at_7) rfl (l' := #[.val (.int p1), .val (.int (7 : Int32)), .unset, .unset]) rfl ?_
      show Steps p.tables e below (s₁.setTop (mkF m 8 #[.val (.int p1), .val (.int (7 : Int32)), .unset, .unset] [])) t
      refine XS.iloadN X0.here hx rfl (hb hby at_8) rfl ?_
      show Steps p.tables e below (s₁.setTop (mkF m 9 #[.val (.int p1), .val (.int (7 : Int32)), .unset, .unset] [(.int (7 : Int32))])) t
      exact st1 t k)
  obtain ⟨vv3, _, ⟨T3, L3, kk3, nn3⟩, -, X3, ⟨Lc3, hQ3, l3, y3, z3⟩, st3⟩ := Jvm.LawKit.callS X1 hx (y := (⟨"com/example/limpet/limpet/io/StatusFromCodePinLaw", "expected", "(I)Lcom/example/limpet/limpet/io/Status;"⟩ : MethodName)) hown (mvT hZ (hw _ (List.mem_of_getElem? (i := 31) rfl))) (mvT hZ (hw _ (List.mem_of_getElem? (i := 32) rfl))) (mvT hZ (hw _ (List.mem_of_getElem? (i := 33) rfl))) (mvT hZ (hw _ (List.mem_of_getElem? (i := 34) rfl))) (by decide) (backOf (W := 0) (own_expd_7 l Z a0 hw [] hh1 n0 (Nat.le_trans Z0 Kp1.1) ad a__VALUES k__VALUES (own_Wd_ext W (own_ext_of_keep Kp1 all0))) hZ (hw _ (List.mem_of_getElem? (i := 34) rfl)) (hw _ (List.mem_of_getElem? (i := 33) rfl)) (by decide) (by decide)) (g := (mkF m 14 #[.val (.int p1), .val (.int (7 : Int32)), .val (.ref (ad 7)), .unset] [(.int (7 : Int32))])) rfl (by rw [hml]; rfl) (argsL := [(.int (7 : Int32))]) (rest := []) (lenOf own_pd__I_Lcom_example_limpet_limpet_io_Status_ rfl) rfl (by show 2 * 0 + _ ≤ _; exact Nat.le_of_eq rfl) (hb hby at_14) (fun _ _ => ⟨rfl, eh1, (by decide : 1 + 0 ≤ _), (by decide : 9 + 0 ≤ _)⟩)
  dsimp only [Pt.U, Pt.locs, Pt.cells, Pt.slots] at X3 l3 y3 z3 st3 hQ3
  subst l3 y3 z3
  obtain ⟨rfl, Nq3, e3⟩ := hQ3
  have N3 := Fr.app N1 Nq3
  have ch4 : ∀ t, Steps p.tables e below (T3.setTop (mkF m 17 #[.val (.int p1), .val (.int (7 : Int32)), .val (.ref (ad 7)), .unset] [(.ref (ad 7))])) t → Steps p.tables e below (s₁.setTop (entryFrame m #[(.int p1)] maxLocals)) t := fun t k => ch2 t (by
      show Steps p.tables e below (T1.setTop (mkF m 12 #[.val (.int p1), .val (.int (7 : Int32)), .unset, .unset] [(.ref (ad 7))])) t
      refine XS.astoreN X1.here hx rfl (hb hby at_12) rfl rfl (l' := #[.val (.int p1), .val (.int (7 : Int32)), .val (.ref (ad 7)), .unset]) rfl ?_
      show Steps p.tables e below (T1.setTop (mkF m 13 #[.val (.int p1), .val (.int (7 : Int32)), .val (.ref (ad 7)), .unset] [])) t
      refine XS.iloadN X1.here hx rfl (hb hby at_13) rfl ?_
      show Steps p.tables e below (T1.setTop (mkF m 14 #[.val (.int p1), .val (.int (7 : Int32)), .val (.ref (ad 7)), .unset] [(.int (7 : Int32))])) t
      exact st3 t k)
  have cf6 := (Exa.keep (own_E_TOO_MANY_KEYS W) Kp1)
  obtain ⟨cq5, kq5, qa5, qb5, qc5⟩ := isOf hZ e3 cf6
  obtain ⟨vv7, _, ⟨T7, L7, kk7, nn7⟩, -, X7, ⟨Lc7, hQ7, l7, y7, z7⟩, st7⟩ := X3.virtualBack hx (y := (⟨"com/example/limpet/limpet/io/Status", "code", "()I"⟩ : MethodName)) (z := (⟨"com/example/limpet/limpet/io/Status", "code", "()I"⟩ : MethodName)) hown (mvT hZ (hw _ (List.mem_of_getElem? (i := 36) rfl))) (mvT hZ (hw _ (List.mem_of_getElem? (i := 37) rfl))) (notFace_of_selects (args := #[]) (mvT hZ (hw _ (List.mem_of_getElem? (i := 39) rfl)))) (mvT hZ (hw _ (List.mem_of_getElem? (i := 39) rfl))) (mvT hZ (hw _ (List.mem_of_getElem? (i := 38) rfl))) (by decide) (backOf (W := 0) (own_code_7 l Z a0 hw [] hh1 n0 (Nat.le_trans Z0 Kp1.1) ad a__VALUES k__VALUES (own_Wd_ext W (own_ext_of_keep Kp1 all0))) hZ (hw _ (List.mem_of_getElem? (i := 40) rfl)) (hw _ (List.mem_of_getElem? (i := 3) rfl)) (by decide) (by decide)) qa5 qc5 (g := (mkF m 24 #[.val (.int p1), .val (.int (7 : Int32)), .val (.ref (ad 7)), .val (.ref (ad 7))] [(.ref (ad 7))])) rfl (by rw [hml]; rfl) (Steps.refl _) (argsL := []) (rest := []) (lenOf own_pd___I rfl) rfl (by show 2 * 0 + _ ≤ _; exact Nat.le_of_eq rfl) (hb hby at_24) (fun _ _ => ⟨rfl, e3, (by decide : 1 + 0 ≤ _), (by decide : 9 + 0 ≤ _)⟩)
  dsimp only [Pt.U, Pt.locs, Pt.cells, Pt.slots] at X7 l7 y7 z7 st7 hQ7
  subst l7 y7 z7
  obtain ⟨rfl, Nq7, e7⟩ := hQ7
  have N7 := Fr.app N3 Nq7
  have ch8 : ∀ t, Steps p.tables e below (T7.setTop (mkF m 27 #[.val (.int p1), .val (.int (7 : Int32)), .val (.ref (ad 7)), .val (.ref (ad 7))] [(.int (7 : Int32))])) t → Steps p.tables e below (s₁.setTop (entryFrame m #[(.int p1)] maxLocals)) t := fun t k => ch4 t (by
      show Steps p.tables e below (T3.setTop (mkF m 17 #[.val (.int p1), .val (.int (7 : Int32)), .val (.ref (ad 7)), .unset] [(.ref (ad 7))])) t
      refine XS.astoreN X3.here hx rfl (hb hby at_17) rfl rfl (l' := #[.val (.int p1), .val (.int (7 : Int32)), .val (.ref (ad 7)), .val (.ref (ad 7))]) rfl ?_
      show Steps p.tables e below (T3.setTop (mkF m 18 #[.val (.int p1), .val (.int (7 : Int32)), .val (.ref (ad 7)), .val (.ref (ad 7))] [])) t
      refine XS.aloadN X3.here hx rfl (hb hby at_18) rfl rfl ?_
      show Steps p.tables e below (T3.setTop (mkF m 19 #[.val (.int p1), .val (.int (7 : Int32)), .val (.ref (ad 7)), .val (.ref (ad 7))] [(.ref (ad 7))])) t
      refine XS.aloadN X3.here hx rfl (hb hby at_19) rfl rfl ?_
      show Steps p.tables e below (T3.setTop (mkF m 20 #[.val (.int p1), .val (.int (7 : Int32)), .val (.ref (ad 7)), .val (.ref (ad 7))] [(.ref (ad 7)), (.ref (ad 7))])) t
      refine Jvm.RoadKit.acmp (g := (mkF m 20 #[.val (.int p1), .val (.int (7 : Int32)), .val (.ref (ad 7)), .val (.ref (ad 7))] [(.ref (ad 7)), (.ref (ad 7))])) X3 hx rfl rfl rfl (pc0 := 20) (pc' := 23) (same := true) rfl (hb hby at_20) rfl (decide_eq_true rfl) (by decide) (by decide) ?_
      show Steps p.tables e below (T3.setTop (mkF m 23 #[.val (.int p1), .val (.int (7 : Int32)), .val (.ref (ad 7)), .val (.ref (ad 7))] [])) t
      refine XS.aloadN X3.here hx rfl (hb hby at_23) rfl rfl ?_
      show Steps p.tables e below (T3.setTop (mkF m 24 #[.val (.int p1), .val (.int (7 : Int32)), .val (.ref (ad 7)), .val (.ref (ad 7))] [(.ref (ad 7))])) t
      exact st7.trans k)
  have ch9 : ∀ t, Steps p.tables e below (T7.setTop (mkF m 36 #[.val (.int p1), .val (.int (7 : Int32)), .val (.ref (ad 7)), .val (.ref (ad 7))] [(.int (1 : Int32))])) t → Steps p.tables e below (s₁.setTop (entryFrame m #[(.int p1)] maxLocals)) t := fun t k => ch8 t (by
      show Steps p.tables e below (T7.setTop (mkF m 27 #[.val (.int p1), .val (.int (7 : Int32)), .val (.ref (ad 7)), .val (.ref (ad 7))] [(.int (7 : Int32))])) t
      refine XS.iloadN X7.here hx rfl (hb hby at_27) rfl ?_
      show Steps p.tables e below (T7.setTop (mkF m 28 #[.val (.int p1), .val (.int (7 : Int32)), .val (.ref (ad 7)), .val (.ref (ad 7))] [(.int (7 : Int32)), (.int (7 : Int32))])) t
      refine XS.icmpNo X7.here hx rfl (hb hby at_28) rfl (teq (by decide : (7 : Int32) = (7 : Int32))).2 ?_
      show Steps p.tables e below (T7.setTop (mkF m 31 #[.val (.int p1), .val (.int (7 : Int32)), .val (.ref (ad 7)), .val (.ref (ad 7))] [])) t
      refine XS.iconst X7.here hx rfl (hb hby at_31) ?_
      show Steps p.tables e below (T7.setTop (mkF m 32 #[.val (.int p1), .val (.int (7 : Int32)), .val (.ref (ad 7)), .val (.ref (ad 7))] [(.int (1 : Int32))])) t
      refine XS.goto X7.here hx rfl (pc0 := 32) (pc' := 36) rfl (hb hby at_32) (by decide) (by decide) ?_
      exact k)
  obtain ⟨fs, hr, hrun, hended, hW, hsame⟩ := X7.leave (v := some (.int (1 : Int32))) (fun h => by rw [Bd.returns] at h; cases h)
  refine ⟨_, _, ch9 _ ?_, hrun, hended, _, _, rfl, ?_, ⟨_, rfl⟩, hW, hsame.mono (by decide) (by decide)⟩
  · show Steps p.tables e below (T7.setTop (mkF m 36 #[.val (.int p1), .val (.int (7 : Int32)), .val (.ref (ad 7)), .val (.ref (ad 7))] [(.int (1 : Int32))])) _
    exact retN X7 hx (t := .boolean) Bd.returns (by simp) (hb hby at_36) hr
  · show QN (some (.int (1 : Int32))) n0 _ T7.heap _
    rw [e7]
    exact ⟨rfl, N7⟩
theorem own_ef_own_from_8 (m : MethodId) {x0 : Int32} : entryFrame m #[(.int x0)] 5 = mkF m 0 #[.val (.int x0), .unset, .unset, .unset, .unset] [] := by first | (simp [entryFrame, mkF, argsToLocals, Value.category, maxLocals]; done) | rfl
set_option maxRecDepth 65536 in
set_option maxHeartbeats 40000000 in
theorem own_from_8 (l : Launch) (Z : State) (a0 : Array Value) (hw : ∀ d ∈ tables_1, d.before a0 Z = true) (ws : List Jvm.Cond) (h0 : Heap) (n0 : Nat) (Z0 : n0 ≤ h0.size) (ad : Nat → Addr) (a__VALUES : Addr) (k__VALUES : ClassId) (W : OwnWd Z h0 ad a__VALUES k__VALUES) :
    MetFree l (⟨"com/example/limpet/limpet/io/Status", "fromCode", "(I)Lcom/example/limpet/limpet/io/Status;"⟩ : MethodName) (head1 (Jvm.Cond.code (⟨"com/example/limpet/limpet/io/Status", "fromCode", "(I)Lcom/example/limpet/limpet/io/Status;"⟩ : MethodName) prog_38_method_5_code 5 (some (.object "com/example/limpet/limpet/io/Status")) :: ws) ({ frames := 2, cells := 1, slots := 9, locals := 25 } : Room)) (fun a U => a = #[(.int (8 : Int32))] ∧ Z.Warmed39 U.vm ∧ U.heap = h0) (fun _ _ _ _ _ => True) (fun _ U o U' => ∃ v L, o = .returned v ∧ QK (some (.ref (ad 8))) h0 n0 v U'.heap L ∧ FrameEnd U o U' L ({ frames := 2, cells := 1, slots := 9, locals := 25 } : Room).cells ({ frames := 2, cells := 1, slots := 9, locals := 25 } : Room).slots) := by
  refine MetFree.of_bodySF (plainFor_of_name own_pn_com_example_limpet_limpet_io_Status) hisR ?_
  intro p e s m args below meth c s₁ Bd hml0 hP hK
  obtain ⟨rfl, hZ, hh⟩ := hP
  have hx := Bd.exec
  have hby := Bd.bytes
  have hml : c.maxLocals = 5 := hml0
  have hown : s.vm.findClass "com/example/limpet/limpet/io/Status" = some m.cls := findClass_of_methodNamed Bd.named
  have hnm := (name_of_methodNamed Bd.named Bd.method).1
  have X0 : Stand p l e ({ frames := 2, cells := 1, slots := 9, locals := 25 } : Room) s m #[(.int (8 : Int32))] below meth c s₁ [] 0 0 := Stand.of_body Bd
  have e0 : s₁.heap = h0 := by rw [← hh, Bd.state]; rfl
  have N0 := Fr.nil n0
  have pre0 : ∀ t, Steps p.tables e below (s₁.setTop (mkF m 0 #[.val (.int (8 : Int32)), .unset, .unset, .unset, .unset] [])) t → Steps p.tables e below (s₁.setTop (entryFrame m #[(.int (8 : Int32))] 5)) t := fun t k => castTop (own_ef_own_from_8 m) k
  obtain ⟨vv1, _, ⟨T1, L1, kk1, nn1⟩, -, X1, ⟨Lc1, hQ1, l1, y1, z1⟩, st1⟩ := Jvm.LawKit.callS X0 hx (y := (⟨"com/example/limpet/limpet/io/Status", "values", "()[Lcom/example/limpet/limpet/io/Status;"⟩ : MethodName)) hown (mvT hZ (hw _ (List.mem_of_getElem? (i := 5) rfl))) (mvT hZ (hw _ (List.mem_of_getElem? (i := 6) rfl))) (mvT hZ (hw _ (List.mem_of_getElem? (i := 3) rfl))) (mvT hZ (hw _ (List.mem_of_getElem? (i := 7) rfl))) (by decide) (backOf (W := 0) (own_vals l Z a0 hw [] h0 n0 (Nat.le_trans Z0 (Keep.refl h0 []).1) ad a__VALUES k__VALUES W) hZ (hw _ (List.mem_of_getElem? (i := 7) rfl)) (hw _ (List.mem_of_getElem? (i := 3) rfl)) (by decide) (by decide)) (g := (mkF m 0 #[.val (.int (8 : Int32)), .unset, .unset, .unset, .unset] [])) rfl (by rw [hml]; rfl) (argsL := []) (rest := []) (lenOf own_pd____Lcom_example_limpet_limpet_io_Status_ rfl) rfl (by show 2 * 0 + _ ≤ _; exact Nat.le_of_eq rfl) (hb hby own_d_prog_38_method_5_code_0) (fun _ _ => ⟨rfl, e0, (by decide : 0 + 1 ≤ _), (by decide : 0 + 9 ≤ _)⟩)
  dsimp only [Pt.U, Pt.locs, Pt.cells, Pt.slots] at X1 l1 y1 z1 st1 hQ1
  subst l1 y1 z1
  obtain ⟨hh1, eh1⟩ : ∃ h, T1.heap = h := ⟨_, rfl⟩
  rw [eh1] at hQ1
  obtain ⟨rv, rfl, zq1, Nq1, Kq1, fq1_0⟩ := hQ1
  have N1 := Fr.app N0 Nq1
  have ne_ad0_rv : (ad 0) ≠ rv := Nat.ne_of_lt (Nat.lt_of_lt_of_le (own_E_OK W).lt zq1)
  have ne_ad1_rv : (ad 1) ≠ rv := Nat.ne_of_lt (Nat.lt_of_lt_of_le (own_E_BAD_REQUEST W).lt zq1)
  have ne_ad2_rv : (ad 2) ≠ rv := Nat.ne_of_lt (Nat.lt_of_lt_of_le (own_E_NOT_FOUND W).lt zq1)
  have ne_ad3_rv : (ad 3) ≠ rv := Nat.ne_of_lt (Nat.lt_of_lt_of_le (own_E_FAILED W).lt zq1)
  have ne_ad4_rv : (ad 4) ≠ rv := Nat.ne_of_lt (Nat.lt_of_lt_of_le (own_E_UNSUPPORTED_KEY W).lt zq1)
  have ne_ad5_rv : (ad 5) ≠ rv := Nat.ne_of_lt (Nat.lt_of_lt_of_le (own_E_PERMISSION_DENIED W).lt zq1)
  have ne_ad6_rv : (ad 6) ≠ rv := Nat.ne_of_lt (Nat.lt_of_lt_of_le (own_E_GRANT_NOT_FOUND W).lt zq1)
  have ne_ad7_rv : (ad 7) ≠ rv := Nat.ne_of_lt (Nat.lt_of_lt_of_le (own_E_TOO_MANY_KEYS W).lt zq1)
  have ne_ad8_rv : (ad 8) ≠ rv := Nat.ne_of_lt (Nat.lt_of_lt_of_le (own_E_TOO_MANY_GRANTS W).lt zq1)
  have ne_a__VALUES_rv : a__VALUES ≠ rv := Nat.ne_of_lt (Nat.lt_of_lt_of_le (own_V__VALUES W).lt zq1)
  have g_rv : n0 ≤ rv := Nat.le_trans (Nat.le_trans Z0 (Keep.refl h0 []).1) zq1
  have sz_rv : h0.size ≤ rv := Nat.le_trans (Keep.refl h0 []).1 zq1
  have Kp1 := Keep.trans (Keep.refl h0 []) Kq1 all0
  have ch2 : ∀ t, Steps p.tables e below (T1.setTop (mkF m 3 #[.val (.int (8 : Int32)), .unset, .unset, .unset, .unset] [(.ref rv)])) t → Steps p.tables e below (s₁.setTop (entryFrame m #[(.int (8 : Int32))] 5)) t := fun t k => pre0 t (by
      show Steps p.tables e below (s₁.setTop (mkF m 0 #[.val (.int (8 : Int32)), .unset, .unset, .unset, .unset] [])) t
      exact st1 t k)
  obtain ⟨cl3, Ar3, -, Sz3, Ng3, -, -⟩ := id fq1_0
  obtain ⟨cl4, Ar4, -, Sz4, Ng4, Ha4, -⟩ := id fq1_0
  have hin4 : ¬ ((0 : Int32) < 0 ∨ cl4.slots.size ≤ ((0 : Int32)).toNatClampNeg) := inb_of Sz4 (by decide)
  have hat4 : cl4.slots[((0 : Int32)).toNatClampNeg]? = some (.ref (ad 0)) := Ha4.at hin4 rfl
  have cf5 := ((own_F_OK_code W).keep Kp1 nin0)
  obtain ⟨T6, X6, e6, st6⟩ := getF X1 hx hZ hown (host := "") (Or.inl (hw _ (List.mem_of_getElem? (i := 29) rfl))) Via.refl eh1 cf5 (g := (mkF m 21 #[.val (.int (8 : Int32)), .val (.ref rv), .val (.int (9 : Int32)), .val (.int (0 : Int32)), .val (.ref (ad 0))] [(.ref (ad 0))])) rfl rfl (hb hby own_d_prog_38_method_5_code_21)
  have ch7 : ∀ t, Steps p.tables e below (T6.setTop (mkF m 24 #[.val (.int (8 : Int32)), .val (.ref rv), .val (.int (9 : Int32)), .val (.int (0 : Int32)), .val (.ref (ad 0))] [(.int (0 : Int32))])) t → Steps p.tables e below (s₁.setTop (entryFrame m #[(.int (8 : Int32))] 5)) t := fun t k => ch2 t (by
      show Steps p.tables e below (T1.setTop (mkF m 3 #[.val (.int (8 : Int32)), .unset, .unset, .unset, .unset] [(.ref rv)])) t
      refine XS.astoreN X1.here hx rfl (hb hby own_d_prog_38_method_5_code_3) rfl rfl (l' := #[.val (.int (8 : Int32)), .val (.ref rv), .unset, .unset, .unset]) rfl ?_
      show Steps p.tables e below (T1.setTop (mkF m 4 #[.val (.int (8 : Int32)), .val (.ref rv), .unset, .unset, .unset] [])) t
      refine XS.aloadN X1.here hx rfl (hb hby own_d_prog_38_method_5_code_4) rfl rfl ?_
      show Steps p.tables e below (T1.setTop (mkF m 5 #[.val (.int (8 : Int32)), .val (.ref rv), .unset, .unset, .unset] [(.ref rv)])) t
      refine X1.arraylength hx (by rw [eh1]; exact Ar3.1) (State.isArrayOf_alike hZ.alike Ar3.2.1) (g := (mkF m 5 #[.val (.int (8 : Int32)), .val (.ref rv), .unset, .unset, .unset] [(.ref rv)])) rfl rfl (hb hby own_d_prog_38_method_5_code_5) _ ?_
      rw [len_of Sz3 Ng3]
      show Steps p.tables e below (T1.setTop (mkF m 6 #[.val (.int (8 : Int32)), .val (.ref rv), .unset, .unset, .unset] [(.int (9 : Int32))])) t
      refine XS.istoreN X1.here hx rfl (hb hby own_d_prog_38_method_5_code_6) rfl (l' := #[.val (.int (8 : Int32)), .val (.ref rv), .val (.int (9 : Int32)), .unset, .unset]) rfl ?_
      show Steps p.tables e below (T1.setTop (mkF m 7 #[.val (.int (8 : Int32)), .val (.ref rv), .val (.int (9 : Int32)), .unset, .unset] [])) t
      refine XS.iconst X1.here hx rfl (hb hby own_d_prog_38_method_5_code_7) ?_
      show Steps p.tables e below (T1.setTop (mkF m 8 #[.val (.int (8 : Int32)), .val (.ref rv), .val (.int (9 : Int32)), .unset, .unset] [(.int (0 : Int32))])) t
      refine XS.istoreN X1.here hx rfl (hb hby own_d_prog_38_method_5_code_8) rfl (l' := #[.val (.int (8 : Int32)), .val (.ref rv), .val (.int (9 : Int32)), .val (.int (0 : Int32)), .unset]) rfl ?_
      show Steps p.tables e below (T1.setTop (mkF m 9 #[.val (.int (8 : Int32)), .val (.ref rv), .val (.int (9 : Int32)), .val (.int (0 : Int32)), .unset] [])) t
      refine XS.iloadN X1.here hx rfl (hb hby own_d_prog_38_method_5_code_9) rfl ?_
      show Steps p.tables e below (T1.setTop (mkF m 10 #[.val (.int (8 : Int32)), .val (.ref rv), .val (.int (9 : Int32)), .val (.int (0 : Int32)), .unset] [(.int (0 : Int32))])) t
      refine XS.iloadN X1.here hx rfl (hb hby own_d_prog_38_method_5_code_10) rfl ?_
      show Steps p.tables e below (T1.setTop (mkF m 11 #[.val (.int (8 : Int32)), .val (.ref rv), .val (.int (9 : Int32)), .val (.int (0 : Int32)), .unset] [(.int (9 : Int32)), (.int (0 : Int32))])) t
      refine XS.icmpNo X1.here hx rfl (hb hby own_d_prog_38_method_5_code_11) rfl (tlt (by decide : (0 : Int32) < (9 : Int32))).2.1 ?_
      show Steps p.tables e below (T1.setTop (mkF m 14 #[.val (.int (8 : Int32)), .val (.ref rv), .val (.int (9 : Int32)), .val (.int (0 : Int32)), .unset] [])) t
      refine XS.aloadN X1.here hx rfl (hb hby own_d_prog_38_method_5_code_14) rfl rfl ?_
      show Steps p.tables e below (T1.setTop (mkF m 15 #[.val (.int (8 : Int32)), .val (.ref rv), .val (.int (9 : Int32)), .val (.int (0 : Int32)), .unset] [(.ref rv)])) t
      refine XS.iloadN X1.here hx rfl (hb hby own_d_prog_38_method_5_code_15) rfl ?_
      show Steps p.tables e below (T1.setTop (mkF m 16 #[.val (.int (8 : Int32)), .val (.ref rv), .val (.int (9 : Int32)), .val (.int (0 : Int32)), .unset] [(.int (0 : Int32)), (.ref rv)])) t
      refine X1.aaload hx (j := (0 : Int32)) (v := (.ref (ad 0))) (by rw [eh1]; exact Ar4.1) (State.isArrayOf_alike hZ.alike Ar4.2.1) rfl Ar4.2.2 hin4 hat4 (g := (mkF m 16 #[.val (.int (8 : Int32)), .val (.ref rv), .val (.int (9 : Int32)), .val (.int (0 : Int32)), .unset] [(.int (0 : Int32)), (.ref rv)])) rfl rfl (hb hby own_d_prog_38_method_5_code_16) _ ?_
      show Steps p.tables e below (T1.setTop (mkF m 17 #[.val (.int (8 : Int32)), .val (.ref rv), .val (.int (9 : Int32)), .val (.int (0 : Int32)), .unset] [(.ref (ad 0))])) t
      refine XS.astore X1.here hx rfl (hb hby own_d_prog_38_method_5_code_17) rfl rfl (l' := #[.val (.int (8 : Int32)), .val (.ref rv), .val (.int (9 : Int32)), .val (.int (0 : Int32)), .val (.ref (ad 0))]) rfl ?_
      show Steps p.tables e below (T1.setTop (mkF m 19 #[.val (.int (8 : Int32)), .val (.ref rv), .val (.int (9 : Int32)), .val (.int (0 : Int32)), .val (.ref (ad 0))] [])) t
      refine XS.aload X1.here hx rfl (hb hby own_d_prog_38_method_5_code_19) rfl rfl ?_
      show Steps p.tables e below (T1.setTop (mkF m 21 #[.val (.int (8 : Int32)), .val (.ref rv), .val (.int (9 : Int32)), .val (.int (0 : Int32)), .val (.ref (ad 0))] [(.ref (ad 0))])) t
      exact st6 t k)
  obtain ⟨cl8, Ar8, -, Sz8, Ng8, Ha8, -⟩ := id fq1_0
  have hin8 : ¬ ((1 : Int32) < 0 ∨ cl8.slots.size ≤ ((1 : Int32)).toNatClampNeg) := inb_of Sz8 (by decide)
  have hat8 : cl8.slots[((1 : Int32)).toNatClampNeg]? = some (.ref (ad 1)) := Ha8.at hin8 rfl
  have cf9 := ((own_F_BAD_REQUEST_code W).keep Kp1 nin0)
  obtain ⟨T10, X10, e10, st10⟩ := getF X6 hx hZ hown (host := "") (Or.inl (hw _ (List.mem_of_getElem? (i := 29) rfl))) Via.refl e6 cf9 (g := (mkF m 21 #[.val (.int (8 : Int32)), .val (.ref rv), .val (.int (9 : Int32)), .val (.int (1 : Int32)), .val (.ref (ad 1))] [(.ref (ad 1))])) rfl rfl (hb hby own_d_prog_38_method_5_code_21)
  have ch11 : ∀ t, Steps p.tables e below (T10.setTop (mkF m 24 #[.val (.int (8 : Int32)), .val (.ref rv), .val (.int (9 : Int32)), .val (.int (1 : Int32)), .val (.ref (ad 1))] [(.int (1 : Int32))])) t → Steps p.tables e below (s₁.setTop (entryFrame m #[(.int (8 : Int32))] 5)) t := fun t k => ch7 t (by
      show Steps p.tables e below (T6.setTop (mkF m 24 #[.val (.int (8 : Int32)), .val (.ref rv), .val (.int (9 : Int32)), .val (.int (0 : Int32)), .val (.ref (ad 0))] [(.int (0 : Int32))])) t
      refine XS.iloadN X6.here hx rfl (hb hby own_d_prog_38_method_5_code_24) rfl ?_
      show Steps p.tables e below (T6.setTop (mkF m 25 #[.val (.int (8 : Int32)), .val (.ref rv), .val (.int (9 : Int32)), .val (.int (0 : Int32)), .val (.ref (ad 0))] [(.int (8 : Int32)), (.int (0 : Int32))])) t
      refine XS.icmpYes X6.here hx rfl (pc0 := 25) (pc' := 31) rfl (hb hby own_d_prog_38_method_5_code_25) rfl (feq (by decide : ¬ (0 : Int32) = (8 : Int32))).2 (by decide) (by decide) ?_
      show Steps p.tables e below (T6.setTop (mkF m 31 #[.val (.int (8 : Int32)), .val (.ref rv), .val (.int (9 : Int32)), .val (.int (0 : Int32)), .val (.ref (ad 0))] [])) t
      refine Jvm.Free.XT.iincV X6.here hx rfl (1 : Int32) (hb hby own_d_prog_38_method_5_code_31) (by decide) rfl (l' := #[.val (.int (8 : Int32)), .val (.ref rv), .val (.int (9 : Int32)), .val (.int (1 : Int32)), .val (.ref (ad 0))]) (by rw [show ((0 : Int32) + (1 : Int32)) = (1 : Int32) from by decide]; rfl) ?_
      show Steps p.tables e below (T6.setTop (mkF m 34 #[.val (.int (8 : Int32)), .val (.ref rv), .val (.int (9 : Int32)), .val (.int (1 : Int32)), .val (.ref (ad 0))] [])) t
      refine XS.goto X6.here hx rfl (pc0 := 34) (pc' := 9) rfl (hb hby own_d_prog_38_method_5_code_34) (by decide) (by decide) ?_
      show Steps p.tables e below (T6.setTop (mkF m 9 #[.val (.int (8 : Int32)), .val (.ref rv), .val (.int (9 : Int32)), .val (.int (1 : Int32)), .val (.ref (ad 0))] [])) t
      refine XS.iloadN X6.here hx rfl (hb hby own_d_prog_38_method_5_code_9) rfl ?_
      show Steps p.tables e below (T6.setTop (mkF m 10 #[.val (.int (8 : Int32)), .val (.ref rv), .val (.int (9 : Int32)), .val (.int (1 : Int32)), .val (.ref (ad 0))] [(.int (1 : Int32))])) t
      refine XS.iloadN X6.here hx rfl (hb hby own_d_prog_38_method_5_code_10) rfl ?_
      show Steps p.tables e below (T6.setTop (mkF m 11 #[.val (.int (8 : Int32)), .val (.ref rv), .val (.int (9 : Int32)), .val (.int (1 : Int32)), .val (.ref (ad 0))] [(.int (9 : Int32)), (.int (1 : Int32))])) t
      refine XS.icmpNo X6.here hx rfl (hb hby own_d_prog_38_method_5_code_11) rfl (tlt (by decide : (1 : Int32) < (9 : Int32))).2.1 ?_
      show Steps p.tables e below (T6.setTop (mkF m 14 #[.val (.int (8 : Int32)), .val (.ref rv), .val (.int (9 : Int32)), .val (.int (1 : Int32)), .val (.ref (ad 0))] [])) t
      refine XS.aloadN X6.here hx rfl (hb hby own_d_prog_38_method_5_code_14) rfl rfl ?_
      show Steps p.tables e below (T6.setTop (mkF m 15 #[.val (.int (8 : Int32)), .val (.ref rv), .val (.int (9 : Int32)), .val (.int (1 : Int32)), .val (.ref (ad 0))] [(.ref rv)])) t
      refine XS.iloadN X6.here hx rfl (hb hby own_d_prog_38_method_5_code_15) rfl ?_
      show Steps p.tables e below (T6.setTop (mkF m 16 #[.val (.int (8 : Int32)), .val (.ref rv), .val (.int (9 : Int32)), .val (.int (1 : Int32)), .val (.ref (ad 0))] [(.int (1 : Int32)), (.ref rv)])) t
      refine X6.aaload hx (j := (1 : Int32)) (v := (.ref (ad 1))) (by rw [e6]; exact Ar8.1) (State.isArrayOf_alike hZ.alike Ar8.2.1) rfl Ar8.2.2 hin8 hat8 (g := (mkF m 16 #[.val (.int (8 : Int32)), .val (.ref rv), .val (.int (9 : Int32)), .val (.int (1 : Int32)), .val (.ref (ad 0))] [(.int (1 : Int32)), (.ref rv)])) rfl rfl (hb hby own_d_prog_38_method_5_code_16) _ ?_
      show Steps p.tables e below (T6.setTop (mkF m 17 #[.val (.int (8 : Int32)), .val (.ref rv), .val (.int (9 : Int32)), .val (.int (1 : Int32)), .val (.ref (ad 0))] [(.ref (ad 1))])) t
      refine XS.astore X6.here hx rfl (hb hby own_d_prog_38_method_5_code_17) rfl rfl (l' := #[.val (.int (8 : Int32)), .val (.ref rv), .val (.int (9 : Int32)), .val (.int (1 : Int32)), .val (.ref (ad 1))]) rfl ?_
      show Steps p.tables e below (T6.setTop (mkF m 19 #[.val (.int (8 : Int32)), .val (.ref rv), .val (.int (9 : Int32)), .val (.int (1 : Int32)), .val (.ref (ad 1))] [])) t
      refine XS.aload X6.here hx rfl (hb hby own_d_prog_38_method_5_code_19) rfl rfl ?_
      show Steps p.tables e below (T6.setTop (mkF m 21 #[.val (.int (8 : Int32)), .val (.ref rv), .val (.int (9 : Int32)), .val (.int (1 : Int32)), .val (.ref (ad 1))] [(.ref (ad 1))])) t
      exact st10 t k)
  obtain ⟨cl12, Ar12, -, Sz12, Ng12, Ha12, -⟩ := id fq1_0
  have hin12 : ¬ ((2 : Int32) < 0 ∨ cl12.slots.size ≤ ((2 : Int32)).toNatClampNeg) := inb_of Sz12 (by decide)
  have hat12 : cl12.slots[((2 : Int32)).toNatClampNeg]? = some (.ref (ad 2)) := Ha12.at hin12 rfl
  have cf13 := ((own_F_NOT_FOUND_code W).keep Kp1 nin0)
  obtain ⟨T14, X14, e14, st14⟩ := getF X10 hx hZ hown (host := "") (Or.inl (hw _ (List.mem_of_getElem? (i := 29) rfl))) Via.refl e10 cf13 (g := (mkF m 21 #[.val (.int (8 : Int32)), .val (.ref rv), .val (.int (9 : Int32)), .val (.int (2 : Int32)), .val (.ref (ad 2))] [(.ref (ad 2))])) rfl rfl (hb hby own_d_prog_38_method_5_code_21)
  have ch15 : ∀ t, Steps p.tables e below (T14.setTop (mkF m 24 #[.val (.int (8 : Int32)), .val (.ref rv), .val (.int (9 : Int32)), .val (.int (2 : Int32)), .val (.ref (ad 2))] [(.int (2 : Int32))])) t → Steps p.tables e below (s₁.setTop (entryFrame m #[(.int (8 : Int32))] 5)) t := fun t k => ch11 t (by
      show Steps p.tables e below (T10.setTop (mkF m 24 #[.val (.int (8 : Int32)), .val (.ref rv), .val (.int (9 : Int32)), .val (.int (1 : Int32)), .val (.ref (ad 1))] [(.int (1 : Int32))])) t
      refine XS.iloadN X10.here hx rfl (hb hby own_d_prog_38_method_5_code_24) rfl ?_
      show Steps p.tables e below (T10.setTop (mkF m 25 #[.val (.int (8 : Int32)), .val (.ref rv), .val (.int (9 : Int32)), .val (.int (1 : Int32)), .val (.ref (ad 1))] [(.int (8 : Int32)), (.int (1 : Int32))])) t
      refine XS.icmpYes X10.here hx rfl (pc0 := 25) (pc' := 31) rfl (hb hby own_d_prog_38_method_5_code_25) rfl (feq (by decide : ¬ (1 : Int32) = (8 : Int32))).2 (by decide) (by decide) ?_
      show Steps p.tables e below (T10.setTop (mkF m 31 #[.val (.int (8 : Int32)), .val (.ref rv), .val (.int (9 : Int32)), .val (.int (1 : Int32)), .val (.ref (ad 1))] [])) t
      refine Jvm.Free.XT.iincV X10.here hx rfl (1 : Int32) (hb hby own_d_prog_38_method_5_code_31) (by decide) rfl (l' := #[.val (.int (8 : Int32)), .val (.ref rv), .val (.int (9 : Int32)), .val (.int (2 : Int32)), .val (.ref (ad 1))]) (by rw [show ((1 : Int32) + (1 : Int32)) = (2 : Int32) from by decide]; rfl) ?_
      show Steps p.tables e below (T10.setTop (mkF m 34 #[.val (.int (8 : Int32)), .val (.ref rv), .val (.int (9 : Int32)), .val (.int (2 : Int32)), .val (.ref (ad 1))] [])) t
      refine XS.goto X10.here hx rfl (pc0 := 34) (pc' := 9) rfl (hb hby own_d_prog_38_method_5_code_34) (by decide) (by decide) ?_
      show Steps p.tables e below (T10.setTop (mkF m 9 #[.val (.int (8 : Int32)), .val (.ref rv), .val (.int (9 : Int32)), .val (.int (2 : Int32)), .val (.ref (ad 1))] [])) t
      refine XS.iloadN X10.here hx rfl (hb hby own_d_prog_38_method_5_code_9) rfl ?_
      show Steps p.tables e below (T10.setTop (mkF m 10 #[.val (.int (8 : Int32)), .val (.ref rv), .val (.int (9 : Int32)), .val (.int (2 : Int32)), .val (.ref (ad 1))] [(.int (2 : Int32))])) t
      refine XS.iloadN X10.here hx rfl (hb hby own_d_prog_38_method_5_code_10) rfl ?_
      show Steps p.tables e below (T10.setTop (mkF m 11 #[.val (.int (8 : Int32)), .val (.ref rv), .val (.int (9 : Int32)), .val (.int (2 : Int32)), .val (.ref (ad 1))] [(.int (9 : Int32)), (.int (2 : Int32))])) t
      refine XS.icmpNo X10.here hx rfl (hb hby own_d_prog_38_method_5_code_11) rfl (tlt (by decide : (2 : Int32) < (9 : Int32))).2.1 ?_
      show Steps p.tables e below (T10.setTop (mkF m 14 #[.val (.int (8 : Int32)), .val (.ref rv), .val (.int (9 : Int32)), .val (.int (2 : Int32)), .val (.ref (ad 1))] [])) t
      refine XS.aloadN X10.here hx rfl (hb hby own_d_prog_38_method_5_code_14) rfl rfl ?_
      show Steps p.tables e below (T10.setTop (mkF m 15 #[.val (.int (8 : Int32)), .val (.ref rv), .val (.int (9 : Int32)), .val (.int (2 : Int32)), .val (.ref (ad 1))] [(.ref rv)])) t
      refine XS.iloadN X10.here hx rfl (hb hby own_d_prog_38_method_5_code_15) rfl ?_
      show Steps p.tables e below (T10.setTop (mkF m 16 #[.val (.int (8 : Int32)), .val (.ref rv), .val (.int (9 : Int32)), .val (.int (2 : Int32)), .val (.ref (ad 1))] [(.int (2 : Int32)), (.ref rv)])) t
      refine X10.aaload hx (j := (2 : Int32)) (v := (.ref (ad 2))) (by rw [e10]; exact Ar12.1) (State.isArrayOf_alike hZ.alike Ar12.2.1) rfl Ar12.2.2 hin12 hat12 (g := (mkF m 16 #[.val (.int (8 : Int32)), .val (.ref rv), .val (.int (9 : Int32)), .val (.int (2 : Int32)), .val (.ref (ad 1))] [(.int (2 : Int32)), (.ref rv)])) rfl rfl (hb hby own_d_prog_38_method_5_code_16) _ ?_
      show Steps p.tables e below (T10.setTop (mkF m 17 #[.val (.int (8 : Int32)), .val (.ref rv), .val (.int (9 : Int32)), .val (.int (2 : Int32)), .val (.ref (ad 1))] [(.ref (ad 2))])) t
      refine XS.astore X10.here hx rfl (hb hby own_d_prog_38_method_5_code_17) rfl rfl (l' := #[.val (.int (8 : Int32)), .val (.ref rv), .val (.int (9 : Int32)), .val (.int (2 : Int32)), .val (.ref (ad 2))]) rfl ?_
      show Steps p.tables e below (T10.setTop (mkF m 19 #[.val (.int (8 : Int32)), .val (.ref rv), .val (.int (9 : Int32)), .val (.int (2 : Int32)), .val (.ref (ad 2))] [])) t
      refine XS.aload X10.here hx rfl (hb hby own_d_prog_38_method_5_code_19) rfl rfl ?_
      show Steps p.tables e below (T10.setTop (mkF m 21 #[.val (.int (8 : Int32)), .val (.ref rv), .val (.int (9 : Int32)), .val (.int (2 : Int32)), .val (.ref (ad 2))] [(.ref (ad 2))])) t
      exact st14 t k)
  obtain ⟨cl16, Ar16, -, Sz16, Ng16, Ha16, -⟩ := id fq1_0
  have hin16 : ¬ ((3 : Int32) < 0 ∨ cl16.slots.size ≤ ((3 : Int32)).toNatClampNeg) := inb_of Sz16 (by decide)
  have hat16 : cl16.slots[((3 : Int32)).toNatClampNeg]? = some (.ref (ad 3)) := Ha16.at hin16 rfl
  have cf17 := ((own_F_FAILED_code W).keep Kp1 nin0)
  obtain ⟨T18, X18, e18, st18⟩ := getF X14 hx hZ hown (host := "") (Or.inl (hw _ (List.mem_of_getElem? (i := 29) rfl))) Via.refl e14 cf17 (g := (mkF m 21 #[.val (.int (8 : Int32)), .val (.ref rv), .val (.int (9 : Int32)), .val (.int (3 : Int32)), .val (.ref (ad 3))] [(.ref (ad 3))])) rfl rfl (hb hby own_d_prog_38_method_5_code_21)
  have ch19 : ∀ t, Steps p.tables e below (T18.setTop (mkF m 24 #[.val (.int (8 : Int32)), .val (.ref rv), .val (.int (9 : Int32)), .val (.int (3 : Int32)), .val (.ref (ad 3))] [(.int (3 : Int32))])) t → Steps p.tables e below (s₁.setTop (entryFrame m #[(.int (8 : Int32))] 5)) t := fun t k => ch15 t (by
      show Steps p.tables e below (T14.setTop (mkF m 24 #[.val (.int (8 : Int32)), .val (.ref rv), .val (.int (9 : Int32)), .val (.int (2 : Int32)), .val (.ref (ad 2))] [(.int (2 : Int32))])) t
      refine XS.iloadN X14.here hx rfl (hb hby own_d_prog_38_method_5_code_24) rfl ?_
      show Steps p.tables e below (T14.setTop (mkF m 25 #[.val (.int (8 : Int32)), .val (.ref rv), .val (.int (9 : Int32)), .val (.int (2 : Int32)), .val (.ref (ad 2))] [(.int (8 : Int32)), (.int (2 : Int32))])) t
      refine XS.icmpYes X14.here hx rfl (pc0 := 25) (pc' := 31) rfl (hb hby own_d_prog_38_method_5_code_25) rfl (feq (by decide : ¬ (2 : Int32) = (8 : Int32))).2 (by decide) (by decide) ?_
      show Steps p.tables e below (T14.setTop (mkF m 31 #[.val (.int (8 : Int32)), .val (.ref rv), .val (.int (9 : Int32)), .val (.int (2 : Int32)), .val (.ref (ad 2))] [])) t
      refine Jvm.Free.XT.iincV X14.here hx rfl (1 : Int32) (hb hby own_d_prog_38_method_5_code_31) (by decide) rfl (l' := #[.val (.int (8 : Int32)), .val (.ref rv), .val (.int (9 : Int32)), .val (.int (3 : Int32)), .val (.ref (ad 2))]) (by rw [show ((2 : Int32) + (1 : Int32)) = (3 : Int32) from by decide]; rfl) ?_
      show Steps p.tables e below (T14.setTop (mkF m 34 #[.val (.int (8 : Int32)), .val (.ref rv), .val (.int (9 : Int32)), .val (.int (3 : Int32)), .val (.ref (ad 2))] [])) t
      refine XS.goto X14.here hx rfl (pc0 := 34) (pc' := 9) rfl (hb hby own_d_prog_38_method_5_code_34) (by decide) (by decide) ?_
      show Steps p.tables e below (T14.setTop (mkF m 9 #[.val (.int (8 : Int32)), .val (.ref rv), .val (.int (9 : Int32)), .val (.int (3 : Int32)), .val (.ref (ad 2))] [])) t
      refine XS.iloadN X14.here hx rfl (hb hby own_d_prog_38_method_5_code_9) rfl ?_
      show Steps p.tables e below (T14.setTop (mkF m 10 #[.val (.int (8 : Int32)), .val (.ref rv), .val (.int (9 : Int32)), .val (.int (3 : Int32)), .val (.ref (ad 2))] [(.int (3 : Int32))])) t
      refine XS.iloadN X14.here hx rfl (hb hby own_d_prog_38_method_5_code_10) rfl ?_
      show Steps p.tables e below (T14.setTop (mkF m 11 #[.val (.int (8 : Int32)), .val (.ref rv), .val (.int (9 : Int32)), .val (.int (3 : Int32)), .val (.ref (ad 2))] [(.int (9 : Int32)), (.int (3 : Int32))])) t
      refine XS.icmpNo X14.here hx rfl (hb hby own_d_prog_38_method_5_code_11) rfl (tlt (by decide : (3 : Int32) < (9 : Int32))).2.1 ?_
      show Steps p.tables e below (T14.setTop (mkF m 14 #[.val (.int (8 : Int32)), .val (.ref rv), .val (.int (9 : Int32)), .val (.int (3 : Int32)), .val (.ref (ad 2))] [])) t
      refine XS.aloadN X14.here hx rfl (hb hby own_d_prog_38_method_5_code_14) rfl rfl ?_
      show Steps p.tables e below (T14.setTop (mkF m 15 #[.val (.int (8 : Int32)), .val (.ref rv), .val (.int (9 : Int32)), .val (.int (3 : Int32)), .val (.ref (ad 2))] [(.ref rv)])) t
      refine XS.iloadN X14.here hx rfl (hb hby own_d_prog_38_method_5_code_15) rfl ?_
      show Steps p.tables e below (T14.setTop (mkF m 16 #[.val (.int (8 : Int32)), .val (.ref rv), .val (.int (9 : Int32)), .val (.int (3 : Int32)), .val (.ref (ad 2))] [(.int (3 : Int32)), (.ref rv)])) t
      refine X14.aaload hx (j := (3 : Int32)) (v := (.ref (ad 3))) (by rw [e14]; exact Ar16.1) (State.isArrayOf_alike hZ.alike Ar16.2.1) rfl Ar16.2.2 hin16 hat16 (g := (mkF m 16 #[.val (.int (8 : Int32)), .val (.ref rv), .val (.int (9 : Int32)), .val (.int (3 : Int32)), .val (.ref (ad 2))] [(.int (3 : Int32)), (.ref rv)])) rfl rfl (hb hby own_d_prog_38_method_5_code_16) _ ?_
      show Steps p.tables e below (T14.setTop (mkF m 17 #[.val (.int (8 : Int32)), .val (.ref rv), .val (.int (9 : Int32)), .val (.int (3 : Int32)), .val (.ref (ad 2))] [(.ref (ad 3))])) t
      refine XS.astore X14.here hx rfl (hb hby own_d_prog_38_method_5_code_17) rfl rfl (l' := #[.val (.int (8 : Int32)), .val (.ref rv), .val (.int (9 : Int32)), .val (.int (3 : Int32)), .val (.ref (ad 3))]) rfl ?_
      show Steps p.tables e below (T14.setTop (mkF m 19 #[.val (.int (8 : Int32)), .val (.ref rv), .val (.int (9 : Int32)), .val (.int (3 : Int32)), .val (.ref (ad 3))] [])) t
      refine XS.aload X14.here hx rfl (hb hby own_d_prog_38_method_5_code_19) rfl rfl ?_
      show Steps p.tables e below (T14.setTop (mkF m 21 #[.val (.int (8 : Int32)), .val (.ref rv), .val (.int (9 : Int32)), .val (.int (3 : Int32)), .val (.ref (ad 3))] [(.ref (ad 3))])) t
      exact st18 t k)
  obtain ⟨cl20, Ar20, -, Sz20, Ng20, Ha20, -⟩ := id fq1_0
  have hin20 : ¬ ((4 : Int32) < 0 ∨ cl20.slots.size ≤ ((4 : Int32)).toNatClampNeg) := inb_of Sz20 (by decide)
  have hat20 : cl20.slots[((4 : Int32)).toNatClampNeg]? = some (.ref (ad 4)) := Ha20.at hin20 rfl
  have cf21 := ((own_F_UNSUPPORTED_KEY_code W).keep Kp1 nin0)
  obtain ⟨T22, X22, e22, st22⟩ := getF X18 hx hZ hown (host := "") (Or.inl (hw _ (List.mem_of_getElem? (i := 29) rfl))) Via.refl e18 cf21 (g := (mkF m 21 #[.val (.int (8 : Int32)), .val (.ref rv), .val (.int (9 : Int32)), .val (.int (4 : Int32)), .val (.ref (ad 4))] [(.ref (ad 4))])) rfl rfl (hb hby own_d_prog_38_method_5_code_21)
  have ch23 : ∀ t, Steps p.tables e below (T22.setTop (mkF m 24 #[.val (.int (8 : Int32)), .val (.ref rv), .val (.int (9 : Int32)), .val (.int (4 : Int32)), .val (.ref (ad 4))] [(.int (4 : Int32))])) t → Steps p.tables e below (s₁.setTop (entryFrame m #[(.int (8 : Int32))] 5)) t := fun t k => ch19 t (by
      show Steps p.tables e below (T18.setTop (mkF m 24 #[.val (.int (8 : Int32)), .val (.ref rv), .val (.int (9 : Int32)), .val (.int (3 : Int32)), .val (.ref (ad 3))] [(.int (3 : Int32))])) t
      refine XS.iloadN X18.here hx rfl (hb hby own_d_prog_38_method_5_code_24) rfl ?_
      show Steps p.tables e below (T18.setTop (mkF m 25 #[.val (.int (8 : Int32)), .val (.ref rv), .val (.int (9 : Int32)), .val (.int (3 : Int32)), .val (.ref (ad 3))] [(.int (8 : Int32)), (.int (3 : Int32))])) t
      refine XS.icmpYes X18.here hx rfl (pc0 := 25) (pc' := 31) rfl (hb hby own_d_prog_38_method_5_code_25) rfl (feq (by decide : ¬ (3 : Int32) = (8 : Int32))).2 (by decide) (by decide) ?_
      show Steps p.tables e below (T18.setTop (mkF m 31 #[.val (.int (8 : Int32)), .val (.ref rv), .val (.int (9 : Int32)), .val (.int (3 : Int32)), .val (.ref (ad 3))] [])) t
      refine Jvm.Free.XT.iincV X18.here hx rfl (1 : Int32) (hb hby own_d_prog_38_method_5_code_31) (by decide) rfl (l' := #[.val (.int (8 : Int32)), .val (.ref rv), .val (.int (9 : Int32)), .val (.int (4 : Int32)), .val (.ref (ad 3))]) (by rw [show ((3 : Int32) + (1 : Int32)) = (4 : Int32) from by decide]; rfl) ?_
      show Steps p.tables e below (T18.setTop (mkF m 34 #[.val (.int (8 : Int32)), .val (.ref rv), .val (.int (9 : Int32)), .val (.int (4 : Int32)), .val (.ref (ad 3))] [])) t
      refine XS.goto X18.here hx rfl (pc0 := 34) (pc' := 9) rfl (hb hby own_d_prog_38_method_5_code_34) (by decide) (by decide) ?_
      show Steps p.tables e below (T18.setTop (mkF m 9 #[.val (.int (8 : Int32)), .val (.ref rv), .val (.int (9 : Int32)), .val (.int (4 : Int32)), .val (.ref (ad 3))] [])) t
      refine XS.iloadN X18.here hx rfl (hb hby own_d_prog_38_method_5_code_9) rfl ?_
      show Steps p.tables e below (T18.setTop (mkF m 10 #[.val (.int (8 : Int32)), .val (.ref rv), .val (.int (9 : Int32)), .val (.int (4 : Int32)), .val (.ref (ad 3))] [(.int (4 : Int32))])) t
      refine XS.iloadN X18.here hx rfl (hb hby own_d_prog_38_method_5_code_10) rfl ?_
      show Steps p.tables e below (T18.setTop (mkF m 11 #[.val (.int (8 : Int32)), .val (.ref rv), .val (.int (9 : Int32)), .val (.int (4 : Int32)), .val (.ref (ad 3))] [(.int (9 : Int32)), (.int (4 : Int32))])) t
      refine XS.icmpNo X18.here hx rfl (hb hby own_d_prog_38_method_5_code_11) rfl (tlt (by decide : (4 : Int32) < (9 : Int32))).2.1 ?_
      show Steps p.tables e below (T18.setTop (mkF m 14 #[.val (.int (8 : Int32)), .val (.ref rv), .val (.int (9 : Int32)), .val (.int (4 : Int32)), .val (.ref (ad 3))] [])) t
      refine XS.aloadN X18.here hx rfl (hb hby own_d_prog_38_method_5_code_14) rfl rfl ?_
      show Steps p.tables e below (T18.setTop (mkF m 15 #[.val (.int (8 : Int32)), .val (.ref rv), .val (.int (9 : Int32)), .val (.int (4 : Int32)), .val (.ref (ad 3))] [(.ref rv)])) t
      refine XS.iloadN X18.here hx rfl (hb hby own_d_prog_38_method_5_code_15) rfl ?_
      show Steps p.tables e below (T18.setTop (mkF m 16 #[.val (.int (8 : Int32)), .val (.ref rv), .val (.int (9 : Int32)), .val (.int (4 : Int32)), .val (.ref (ad 3))] [(.int (4 : Int32)), (.ref rv)])) t
      refine X18.aaload hx (j := (4 : Int32)) (v := (.ref (ad 4))) (by rw [e18]; exact Ar20.1) (State.isArrayOf_alike hZ.alike Ar20.2.1) rfl Ar20.2.2 hin20 hat20 (g := (mkF m 16 #[.val (.int (8 : Int32)), .val (.ref rv), .val (.int (9 : Int32)), .val (.int (4 : Int32)), .val (.ref (ad 3))] [(.int (4 : Int32)), (.ref rv)])) rfl rfl (hb hby own_d_prog_38_method_5_code_16) _ ?_
      show Steps p.tables e below (T18.setTop (mkF m 17 #[.val (.int (8 : Int32)), .val (.ref rv), .val (.int (9 : Int32)), .val (.int (4 : Int32)), .val (.ref (ad 3))] [(.ref (ad 4))])) t
      refine XS.astore X18.here hx rfl (hb hby own_d_prog_38_method_5_code_17) rfl rfl (l' := #[.val (.int (8 : Int32)), .val (.ref rv), .val (.int (9 : Int32)), .val (.int (4 : Int32)), .val (.ref (ad 4))]) rfl ?_
      show Steps p.tables e below (T18.setTop (mkF m 19 #[.val (.int (8 : Int32)), .val (.ref rv), .val (.int (9 : Int32)), .val (.int (4 : Int32)), .val (.ref (ad 4))] [])) t
      refine XS.aload X18.here hx rfl (hb hby own_d_prog_38_method_5_code_19) rfl rfl ?_
      show Steps p.tables e below (T18.setTop (mkF m 21 #[.val (.int (8 : Int32)), .val (.ref rv), .val (.int (9 : Int32)), .val (.int (4 : Int32)), .val (.ref (ad 4))] [(.ref (ad 4))])) t
      exact st22 t k)
  obtain ⟨cl24, Ar24, -, Sz24, Ng24, Ha24, -⟩ := id fq1_0
  have hin24 : ¬ ((5 : Int32) < 0 ∨ cl24.slots.size ≤ ((5 : Int32)).toNatClampNeg) := inb_of Sz24 (by decide)
  have hat24 : cl24.slots[((5 : Int32)).toNatClampNeg]? = some (.ref (ad 5)) := Ha24.at hin24 rfl
  have cf25 := ((own_F_PERMISSION_DENIED_code W).keep Kp1 nin0)
  obtain ⟨T26, X26, e26, st26⟩ := getF X22 hx hZ hown (host := "") (Or.inl (hw _ (List.mem_of_getElem? (i := 29) rfl))) Via.refl e22 cf25 (g := (mkF m 21 #[.val (.int (8 : Int32)), .val (.ref rv), .val (.int (9 : Int32)), .val (.int (5 : Int32)), .val (.ref (ad 5))] [(.ref (ad 5))])) rfl rfl (hb hby own_d_prog_38_method_5_code_21)
  have ch27 : ∀ t, Steps p.tables e below (T26.setTop (mkF m 24 #[.val (.int (8 : Int32)), .val (.ref rv), .val (.int (9 : Int32)), .val (.int (5 : Int32)), .val (.ref (ad 5))] [(.int (5 : Int32))])) t → Steps p.tables e below (s₁.setTop (entryFrame m #[(.int (8 : Int32))] 5)) t := fun t k => ch23 t (by
      show Steps p.tables e below (T22.setTop (mkF m 24 #[.val (.int (8 : Int32)), .val (.ref rv), .val (.int (9 : Int32)), .val (.int (4 : Int32)), .val (.ref (ad 4))] [(.int (4 : Int32))])) t
      refine XS.iloadN X22.here hx rfl (hb hby own_d_prog_38_method_5_code_24) rfl ?_
      show Steps p.tables e below (T22.setTop (mkF m 25 #[.val (.int (8 : Int32)), .val (.ref rv), .val (.int (9 : Int32)), .val (.int (4 : Int32)), .val (.ref (ad 4))] [(.int (8 : Int32)), (.int (4 : Int32))])) t
      refine XS.icmpYes X22.here hx rfl (pc0 := 25) (pc' := 31) rfl (hb hby own_d_prog_38_method_5_code_25) rfl (feq (by decide : ¬ (4 : Int32) = (8 : Int32))).2 (by decide) (by decide) ?_
      show Steps p.tables e below (T22.setTop (mkF m 31 #[.val (.int (8 : Int32)), .val (.ref rv), .val (.int (9 : Int32)), .val (.int (4 : Int32)), .val (.ref (ad 4))] [])) t
      refine Jvm.Free.XT.iincV X22.here hx rfl (1 : Int32) (hb hby own_d_prog_38_method_5_code_31) (by decide) rfl (l' := #[.val (.int (8 : Int32)), .val (.ref rv), .val (.int (9 : Int32)), .val (.int (5 : Int32)), .val (.ref (ad 4))]) (by rw [show ((4 : Int32) + (1 : Int32)) = (5 : Int32) from by decide]; rfl) ?_
      show Steps p.tables e below (T22.setTop (mkF m 34 #[.val (.int (8 : Int32)), .val (.ref rv), .val (.int (9 : Int32)), .val (.int (5 : Int32)), .val (.ref (ad 4))] [])) t
      refine XS.goto X22.here hx rfl (pc0 := 34) (pc' := 9) rfl (hb hby own_d_prog_38_method_5_code_34) (by decide) (by decide) ?_
      show Steps p.tables e below (T22.setTop (mkF m 9 #[.val (.int (8 : Int32)), .val (.ref rv), .val (.int (9 : Int32)), .val (.int (5 : Int32)), .val (.ref (ad 4))] [])) t
      refine XS.iloadN X22.here hx rfl (hb hby own_d_prog_38_method_5_code_9) rfl ?_
      show Steps p.tables e below (T22.setTop (mkF m 10 #[.val (.int (8 : Int32)), .val (.ref rv), .val (.int (9 : Int32)), .val (.int (5 : Int32)), .val (.ref (ad 4))] [(.int (5 : Int32))])) t
      refine XS.iloadN X22.here hx rfl (hb hby own_d_prog_38_method_5_code_10) rfl ?_
      show Steps p.tables e below (T22.setTop (mkF m 11 #[.val (.int (8 : Int32)), .val (.ref rv), .val (.int (9 : Int32)), .val (.int (5 : Int32)), .val (.ref (ad 4))] [(.int (9 : Int32)), (.int (5 : Int32))])) t
      refine XS.icmpNo X22.here hx rfl (hb hby own_d_prog_38_method_5_code_11) rfl (tlt (by decide : (5 : Int32) < (9 : Int32))).2.1 ?_
      show Steps p.tables e below (T22.setTop (mkF m 14 #[.val (.int (8 : Int32)), .val (.ref rv), .val (.int (9 : Int32)), .val (.int (5 : Int32)), .val (.ref (ad 4))] [])) t
      refine XS.aloadN X22.here hx rfl (hb hby own_d_prog_38_method_5_code_14) rfl rfl ?_
      show Steps p.tables e below (T22.setTop (mkF m 15 #[.val (.int (8 : Int32)), .val (.ref rv), .val (.int (9 : Int32)), .val (.int (5 : Int32)), .val (.ref (ad 4))] [(.ref rv)])) t
      refine XS.iloadN X22.here hx rfl (hb hby own_d_prog_38_method_5_code_15) rfl ?_
      show Steps p.tables e below (T22.setTop (mkF m 16 #[.val (.int (8 : Int32)), .val (.ref rv), .val (.int (9 : Int32)), .val (.int (5 : Int32)), .val (.ref (ad 4))] [(.int (5 : Int32)), (.ref rv)])) t
      refine X22.aaload hx (j := (5 : Int32)) (v := (.ref (ad 5))) (by rw [e22]; exact Ar24.1) (State.isArrayOf_alike hZ.alike Ar24.2.1) rfl Ar24.2.2 hin24 hat24 (g := (mkF m 16 #[.val (.int (8 : Int32)), .val (.ref rv), .val (.int (9 : Int32)), .val (.int (5 : Int32)), .val (.ref (ad 4))] [(.int (5 : Int32)), (.ref rv)])) rfl rfl (hb hby own_d_prog_38_method_5_code_16) _ ?_
      show Steps p.tables e below (T22.setTop (mkF m 17 #[.val (.int (8 : Int32)), .val (.ref rv), .val (.int (9 : Int32)), .val (.int (5 : Int32)), .val (.ref (ad 4))] [(.ref (ad 5))])) t
      refine XS.astore X22.here hx rfl (hb hby own_d_prog_38_method_5_code_17) rfl rfl (l' := #[.val (.int (8 : Int32)), .val (.ref rv), .val (.int (9 : Int32)), .val (.int (5 : Int32)), .val (.ref (ad 5))]) rfl ?_
      show Steps p.tables e below (T22.setTop (mkF m 19 #[.val (.int (8 : Int32)), .val (.ref rv), .val (.int (9 : Int32)), .val (.int (5 : Int32)), .val (.ref (ad 5))] [])) t
      refine XS.aload X22.here hx rfl (hb hby own_d_prog_38_method_5_code_19) rfl rfl ?_
      show Steps p.tables e below (T22.setTop (mkF m 21 #[.val (.int (8 : Int32)), .val (.ref rv), .val (.int (9 : Int32)), .val (.int (5 : Int32)), .val (.ref (ad 5))] [(.ref (ad 5))])) t
      exact st26 t k)
  obtain ⟨cl28, Ar28, -, Sz28, Ng28, Ha28, -⟩ := id fq1_0
  have hin28 : ¬ ((6 : Int32) < 0 ∨ cl28.slots.size ≤ ((6 : Int32)).toNatClampNeg) := inb_of Sz28 (by decide)
  have hat28 : cl28.slots[((6 : Int32)).toNatClampNeg]? = some (.ref (ad 6)) := Ha28.at hin28 rfl
  have cf29 := ((own_F_GRANT_NOT_FOUND_code W).keep Kp1 nin0)
  obtain ⟨T30, X30, e30, st30⟩ := getF X26 hx hZ hown (host := "") (Or.inl (hw _ (List.mem_of_getElem? (i := 29) rfl))) Via.refl e26 cf29 (g := (mkF m 21 #[.val (.int (8 : Int32)), .val (.ref rv), .val (.int (9 : Int32)), .val (.int (6 : Int32)), .val (.ref (ad 6))] [(.ref (ad 6))])) rfl rfl (hb hby own_d_prog_38_method_5_code_21)
  have ch31 : ∀ t, Steps p.tables e below (T30.setTop (mkF m 24 #[.val (.int (8 : Int32)), .val (.ref rv), .val (.int (9 : Int32)), .val (.int (6 : Int32)), .val (.ref (ad 6))] [(.int (6 : Int32))])) t → Steps p.tables e below (s₁.setTop (entryFrame m #[(.int (8 : Int32))] 5)) t := fun t k => ch27 t (by
      show Steps p.tables e below (T26.setTop (mkF m 24 #[.val (.int (8 : Int32)), .val (.ref rv), .val (.int (9 : Int32)), .val (.int (5 : Int32)), .val (.ref (ad 5))] [(.int (5 : Int32))])) t
      refine XS.iloadN X26.here hx rfl (hb hby own_d_prog_38_method_5_code_24) rfl ?_
      show Steps p.tables e below (T26.setTop (mkF m 25 #[.val (.int (8 : Int32)), .val (.ref rv), .val (.int (9 : Int32)), .val (.int (5 : Int32)), .val (.ref (ad 5))] [(.int (8 : Int32)), (.int (5 : Int32))])) t
      refine XS.icmpYes X26.here hx rfl (pc0 := 25) (pc' := 31) rfl (hb hby own_d_prog_38_method_5_code_25) rfl (feq (by decide : ¬ (5 : Int32) = (8 : Int32))).2 (by decide) (by decide) ?_
      show Steps p.tables e below (T26.setTop (mkF m 31 #[.val (.int (8 : Int32)), .val (.ref rv), .val (.int (9 : Int32)), .val (.int (5 : Int32)), .val (.ref (ad 5))] [])) t
      refine Jvm.Free.XT.iincV X26.here hx rfl (1 : Int32) (hb hby own_d_prog_38_method_5_code_31) (by decide) rfl (l' := #[.val (.int (8 : Int32)), .val (.ref rv), .val (.int (9 : Int32)), .val (.int (6 : Int32)), .val (.ref (ad 5))]) (by rw [show ((5 : Int32) + (1 : Int32)) = (6 : Int32) from by decide]; rfl) ?_
      show Steps p.tables e below (T26.setTop (mkF m 34 #[.val (.int (8 : Int32)), .val (.ref rv), .val (.int (9 : Int32)), .val (.int (6 : Int32)), .val (.ref (ad 5))] [])) t
      refine XS.goto X26.here hx rfl (pc0 := 34) (pc' := 9) rfl (hb hby own_d_prog_38_method_5_code_34) (by decide) (by decide) ?_
      show Steps p.tables e below (T26.setTop (mkF m 9 #[.val (.int (8 : Int32)), .val (.ref rv), .val (.int (9 : Int32)), .val (.int (6 : Int32)), .val (.ref (ad 5))] [])) t
      refine XS.iloadN X26.here hx rfl (hb hby own_d_prog_38_method_5_code_9) rfl ?_
      show Steps p.tables e below (T26.setTop (mkF m 10 #[.val (.int (8 : Int32)), .val (.ref rv), .val (.int (9 : Int32)), .val (.int (6 : Int32)), .val (.ref (ad 5))] [(.int (6 : Int32))])) t
      refine XS.iloadN X26.here hx rfl (hb hby own_d_prog_38_method_5_code_10) rfl ?_
      show Steps p.tables e below (T26.setTop (mkF m 11 #[.val (.int (8 : Int32)), .val (.ref rv), .val (.int (9 : Int32)), .val (.int (6 : Int32)), .val (.ref (ad 5))] [(.int (9 : Int32)), (.int (6 : Int32))])) t
      refine XS.icmpNo X26.here hx rfl (hb hby own_d_prog_38_method_5_code_11) rfl (tlt (by decide : (6 : Int32) < (9 : Int32))).2.1 ?_
      show Steps p.tables e below (T26.setTop (mkF m 14 #[.val (.int (8 : Int32)), .val (.ref rv), .val (.int (9 : Int32)), .val (.int (6 : Int32)), .val (.ref (ad 5))] [])) t
      refine XS.aloadN X26.here hx rfl (hb hby own_d_prog_38_method_5_code_14) rfl rfl ?_
      show Steps p.tables e below (T26.setTop (mkF m 15 #[.val (.int (8 : Int32)), .val (.ref rv), .val (.int (9 : Int32)), .val (.int (6 : Int32)), .val (.ref (ad 5))] [(.ref rv)])) t
      refine XS.iloadN X26.here hx rfl (hb hby own_d_prog_38_method_5_code_15) rfl ?_
      show Steps p.tables e below (T26.setTop (mkF m 16 #[.val (.int (8 : Int32)), .val (.ref rv), .val (.int (9 : Int32)), .val (.int (6 : Int32)), .val (.ref (ad 5))] [(.int (6 : Int32)), (.ref rv)])) t
      refine X26.aaload hx (j := (6 : Int32)) (v := (.ref (ad 6))) (by rw [e26]; exact Ar28.1) (State.isArrayOf_alike hZ.alike Ar28.2.1) rfl Ar28.2.2 hin28 hat28 (g := (mkF m 16 #[.val (.int (8 : Int32)), .val (.ref rv), .val (.int (9 : Int32)), .val (.int (6 : Int32)), .val (.ref (ad 5))] [(.int (6 : Int32)), (.ref rv)])) rfl rfl (hb hby own_d_prog_38_method_5_code_16) _ ?_
      show Steps p.tables e below (T26.setTop (mkF m 17 #[.val (.int (8 : Int32)), .val (.ref rv), .val (.int (9 : Int32)), .val (.int (6 : Int32)), .val (.ref (ad 5))] [(.ref (ad 6))])) t
      refine XS.astore X26.here hx rfl (hb hby own_d_prog_38_method_5_code_17) rfl rfl (l' := #[.val (.int (8 : Int32)), .val (.ref rv), .val (.int (9 : Int32)), .val (.int (6 : Int32)), .val (.ref (ad 6))]) rfl ?_
      show Steps p.tables e below (T26.setTop (mkF m 19 #[.val (.int (8 : Int32)), .val (.ref rv), .val (.int (9 : Int32)), .val (.int (6 : Int32)), .val (.ref (ad 6))] [])) t
      refine XS.aload X26.here hx rfl (hb hby own_d_prog_38_method_5_code_19) rfl rfl ?_
      show Steps p.tables e below (T26.setTop (mkF m 21 #[.val (.int (8 : Int32)), .val (.ref rv), .val (.int (9 : Int32)), .val (.int (6 : Int32)), .val (.ref (ad 6))] [(.ref (ad 6))])) t
      exact st30 t k)
  obtain ⟨cl32, Ar32, -, Sz32, Ng32, Ha32, -⟩ := id fq1_0
  have hin32 : ¬ ((7 : Int32) < 0 ∨ cl32.slots.size ≤ ((7 : Int32)).toNatClampNeg) := inb_of Sz32 (by decide)
  have hat32 : cl32.slots[((7 : Int32)).toNatClampNeg]? = some (.ref (ad 7)) := Ha32.at hin32 rfl
  have cf33 := ((own_F_TOO_MANY_KEYS_code W).keep Kp1 nin0)
  obtain ⟨T34, X34, e34, st34⟩ := getF X30 hx hZ hown (host := "") (Or.inl (hw _ (List.mem_of_getElem? (i := 29) rfl))) Via.refl e30 cf33 (g := (mkF m 21 #[.val (.int (8 : Int32)), .val (.ref rv), .val (.int (9 : Int32)), .val (.int (7 : Int32)), .val (.ref (ad 7))] [(.ref (ad 7))])) rfl rfl (hb hby own_d_prog_38_method_5_code_21)
  have ch35 : ∀ t, Steps p.tables e below (T34.setTop (mkF m 24 #[.val (.int (8 : Int32)), .val (.ref rv), .val (.int (9 : Int32)), .val (.int (7 : Int32)), .val (.ref (ad 7))] [(.int (7 : Int32))])) t → Steps p.tables e below (s₁.setTop (entryFrame m #[(.int (8 : Int32))] 5)) t := fun t k => ch31 t (by
      show Steps p.tables e below (T30.setTop (mkF m 24 #[.val (.int (8 : Int32)), .val (.ref rv), .val (.int (9 : Int32)), .val (.int (6 : Int32)), .val (.ref (ad 6))] [(.int (6 : Int32))])) t
      refine XS.iloadN X30.here hx rfl (hb hby own_d_prog_38_method_5_code_24) rfl ?_
      show Steps p.tables e below (T30.setTop (mkF m 25 #[.val (.int (8 : Int32)), .val (.ref rv), .val (.int (9 : Int32)), .val (.int (6 : Int32)), .val (.ref (ad 6))] [(.int (8 : Int32)), (.int (6 : Int32))])) t
      refine XS.icmpYes X30.here hx rfl (pc0 := 25) (pc' := 31) rfl (hb hby own_d_prog_38_method_5_code_25) rfl (feq (by decide : ¬ (6 : Int32) = (8 : Int32))).2 (by decide) (by decide) ?_
      show Steps p.tables e below (T30.setTop (mkF m 31 #[.val (.int (8 : Int32)), .val (.ref rv), .val (.int (9 : Int32)), .val (.int (6 : Int32)), .val (.ref (ad 6))] [])) t
      refine Jvm.Free.XT.iincV X30.here hx rfl (1 : Int32) (hb hby own_d_prog_38_method_5_code_31) (by decide) rfl (l' := #[.val (.int (8 : Int32)), .val (.ref rv), .val (.int (9 : Int32)), .val (.int (7 : Int32)), .val (.ref (ad 6))]) (by rw [show ((6 : Int32) + (1 : Int32)) = (7 : Int32) from by decide]; rfl) ?_
      show Steps p.tables e below (T30.setTop (mkF m 34 #[.val (.int (8 : Int32)), .val (.ref rv), .val (.int (9 : Int32)), .val (.int (7 : Int32)), .val (.ref (ad 6))] [])) t
      refine XS.goto X30.here hx rfl (pc0 := 34) (pc' := 9) rfl (hb hby own_d_prog_38_method_5_code_34) (by decide) (by decide) ?_
      show Steps p.tables e below (T30.setTop (mkF m 9 #[.val (.int (8 : Int32)), .val (.ref rv), .val (.int (9 : Int32)), .val (.int (7 : Int32)), .val (.ref (ad 6))] [])) t
      refine XS.iloadN X30.here hx rfl (hb hby own_d_prog_38_method_5_code_9) rfl ?_
      show Steps p.tables e below (T30.setTop (mkF m 10 #[.val (.int (8 : Int32)), .val (.ref rv), .val (.int (9 : Int32)), .val (.int (7 : Int32)), .val (.ref (ad 6))] [(.int (7 : Int32))])) t
      refine XS.iloadN X30.here hx rfl (hb hby own_d_prog_38_method_5_code_10) rfl ?_
      show Steps p.tables e below (T30.setTop (mkF m 11 #[.val (.int (8 : Int32)), .val (.ref rv), .val (.int (9 : Int32)), .val (.int (7 : Int32)), .val (.ref (ad 6))] [(.int (9 : Int32)), (.int (7 : Int32))])) t
      refine XS.icmpNo X30.here hx rfl (hb hby own_d_prog_38_method_5_code_11) rfl (tlt (by decide : (7 : Int32) < (9 : Int32))).2.1 ?_
      show Steps p.tables e below (T30.setTop (mkF m 14 #[.val (.int (8 : Int32)), .val (.ref rv), .val (.int (9 : Int32)), .val (.int (7 : Int32)), .val (.ref (ad 6))] [])) t
      refine XS.aloadN X30.here hx rfl (hb hby own_d_prog_38_method_5_code_14) rfl rfl ?_
      show Steps p.tables e below (T30.setTop (mkF m 15 #[.val (.int (8 : Int32)), .val (.ref rv), .val (.int (9 : Int32)), .val (.int (7 : Int32)), .val (.ref (ad 6))] [(.ref rv)])) t
      refine XS.iloadN X30.here hx rfl (hb hby own_d_prog_38_method_5_code_15) rfl ?_
      show Steps p.tables e below (T30.setTop (mkF m 16 #[.val (.int (8 : Int32)), .val (.ref rv), .val (.int (9 : Int32)), .val (.int (7 : Int32)), .val (.ref (ad 6))] [(.int (7 : Int32)), (.ref rv)])) t
      refine X30.aaload hx (j := (7 : Int32)) (v := (.ref (ad 7))) (by rw [e30]; exact Ar32.1) (State.isArrayOf_alike hZ.alike Ar32.2.1) rfl Ar32.2.2 hin32 hat32 (g := (mkF m 16 #[.val (.int (8 : Int32)), .val (.ref rv), .val (.int (9 : Int32)), .val (.int (7 : Int32)), .val (.ref (ad 6))] [(.int (7 : Int32)), (.ref rv)])) rfl rfl (hb hby own_d_prog_38_method_5_code_16) _ ?_
      show Steps p.tables e below (T30.setTop (mkF m 17 #[.val (.int (8 : Int32)), .val (.ref rv), .val (.int (9 : Int32)), .val (.int (7 : Int32)), .val (.ref (ad 6))] [(.ref (ad 7))])) t
      refine XS.astore X30.here hx rfl (hb hby own_d_prog_38_method_5_code_17) rfl rfl (l' := #[.val (.int (8 : Int32)), .val (.ref rv), .val (.int (9 : Int32)), .val (.int (7 : Int32)), .val (.ref (ad 7))]) rfl ?_
      show Steps p.tables e below (T30.setTop (mkF m 19 #[.val (.int (8 : Int32)), .val (.ref rv), .val (.int (9 : Int32)), .val (.int (7 : Int32)), .val (.ref (ad 7))] [])) t
      refine XS.aload X30.here hx rfl (hb hby own_d_prog_38_method_5_code_19) rfl rfl ?_
      show Steps p.tables e below (T30.setTop (mkF m 21 #[.val (.int (8 : Int32)), .val (.ref rv), .val (.int (9 : Int32)), .val (.int (7 : Int32)), .val (.ref (ad 7))] [(.ref (ad 7))])) t
      exact st34 t k)
  obtain ⟨cl36, Ar36, -, Sz36, Ng36, Ha36, -⟩ := id fq1_0
  have hin36 : ¬ ((8 : Int32) < 0 ∨ cl36.slots.size ≤ ((8 : Int32)).toNatClampNeg) := inb_of Sz36 (by decide)
  have hat36 : cl36.slots[((8 : Int32)).toNatClampNeg]? = some (.ref (ad 8)) := Ha36.at hin36 rfl
  have cf37 := ((own_F_TOO_MANY_GRANTS_code W).keep Kp1 nin0)
  obtain ⟨T38, X38, e38, st38⟩ := getF X34 hx hZ hown (host := "") (Or.inl (hw _ (List.mem_of_getElem? (i := 29) rfl))) Via.refl e34 cf37 (g := (mkF m 21 #[.val (.int (8 : Int32)), .val (.ref rv), .val (.int (9 : Int32)), .val (.int (8 : Int32)), .val (.ref (ad 8))] [(.ref (ad 8))])) rfl rfl (hb hby own_d_prog_38_method_5_code_21)
  have ch39 : ∀ t, Steps p.tables e below (T38.setTop (mkF m 24 #[.val (.int (8 : Int32)), .val (.ref rv), .val (.int (9 : Int32)), .val (.int (8 : Int32)), .val (.ref (ad 8))] [(.int (8 : Int32))])) t → Steps p.tables e below (s₁.setTop (entryFrame m #[(.int (8 : Int32))] 5)) t := fun t k => ch35 t (by
      show Steps p.tables e below (T34.setTop (mkF m 24 #[.val (.int (8 : Int32)), .val (.ref rv), .val (.int (9 : Int32)), .val (.int (7 : Int32)), .val (.ref (ad 7))] [(.int (7 : Int32))])) t
      refine XS.iloadN X34.here hx rfl (hb hby own_d_prog_38_method_5_code_24) rfl ?_
      show Steps p.tables e below (T34.setTop (mkF m 25 #[.val (.int (8 : Int32)), .val (.ref rv), .val (.int (9 : Int32)), .val (.int (7 : Int32)), .val (.ref (ad 7))] [(.int (8 : Int32)), (.int (7 : Int32))])) t
      refine XS.icmpYes X34.here hx rfl (pc0 := 25) (pc' := 31) rfl (hb hby own_d_prog_38_method_5_code_25) rfl (feq (by decide : ¬ (7 : Int32) = (8 : Int32))).2 (by decide) (by decide) ?_
      show Steps p.tables e below (T34.setTop (mkF m 31 #[.val (.int (8 : Int32)), .val (.ref rv), .val (.int (9 : Int32)), .val (.int (7 : Int32)), .val (.ref (ad 7))] [])) t
      refine Jvm.Free.XT.iincV X34.here hx rfl (1 : Int32) (hb hby own_d_prog_38_method_5_code_31) (by decide) rfl (l' := #[.val (.int (8 : Int32)), .val (.ref rv), .val (.int (9 : Int32)), .val (.int (8 : Int32)), .val (.ref (ad 7))]) (by rw [show ((7 : Int32) + (1 : Int32)) = (8 : Int32) from by decide]; rfl) ?_
      show Steps p.tables e below (T34.setTop (mkF m 34 #[.val (.int (8 : Int32)), .val (.ref rv), .val (.int (9 : Int32)), .val (.int (8 : Int32)), .val (.ref (ad 7))] [])) t
      refine XS.goto X34.here hx rfl (pc0 := 34) (pc' := 9) rfl (hb hby own_d_prog_38_method_5_code_34) (by decide) (by decide) ?_
      show Steps p.tables e below (T34.setTop (mkF m 9 #[.val (.int (8 : Int32)), .val (.ref rv), .val (.int (9 : Int32)), .val (.int (8 : Int32)), .val (.ref (ad 7))] [])) t
      refine XS.iloadN X34.here hx rfl (hb hby own_d_prog_38_method_5_code_9) rfl ?_
      show Steps p.tables e below (T34.setTop (mkF m 10 #[.val (.int (8 : Int32)), .val (.ref rv), .val (.int (9 : Int32)), .val (.int (8 : Int32)), .val (.ref (ad 7))] [(.int (8 : Int32))])) t
      refine XS.iloadN X34.here hx rfl (hb hby own_d_prog_38_method_5_code_10) rfl ?_
      show Steps p.tables e below (T34.setTop (mkF m 11 #[.val (.int (8 : Int32)), .val (.ref rv), .val (.int (9 : Int32)), .val (.int (8 : Int32)), .val (.ref (ad 7))] [(.int (9 : Int32)), (.int (8 : Int32))])) t
      refine XS.icmpNo X34.here hx rfl (hb hby own_d_prog_38_method_5_code_11) rfl (tlt (by decide : (8 : Int32) < (9 : Int32))).2.1 ?_
      show Steps p.tables e below (T34.setTop (mkF m 14 #[.val (.int (8 : Int32)), .val (.ref rv), .val (.int (9 : Int32)), .val (.int (8 : Int32)), .val (.ref (ad 7))] [])) t
      refine XS.aloadN X34.here hx rfl (hb hby own_d_prog_38_method_5_code_14) rfl rfl ?_
      show Steps p.tables e below (T34.setTop (mkF m 15 #[.val (.int (8 : Int32)), .val (.ref rv), .val (.int (9 : Int32)), .val (.int (8 : Int32)), .val (.ref (ad 7))] [(.ref rv)])) t
      refine XS.iloadN X34.here hx rfl (hb hby own_d_prog_38_method_5_code_15) rfl ?_
      show Steps p.tables e below (T34.setTop (mkF m 16 #[.val (.int (8 : Int32)), .val (.ref rv), .val (.int (9 : Int32)), .val (.int (8 : Int32)), .val (.ref (ad 7))] [(.int (8 : Int32)), (.ref rv)])) t
      refine X34.aaload hx (j := (8 : Int32)) (v := (.ref (ad 8))) (by rw [e34]; exact Ar36.1) (State.isArrayOf_alike hZ.alike Ar36.2.1) rfl Ar36.2.2 hin36 hat36 (g := (mkF m 16 #[.val (.int (8 : Int32)), .val (.ref rv), .val (.int (9 : Int32)), .val (.int (8 : Int32)), .val (.ref (ad 7))] [(.int (8 : Int32)), (.ref rv)])) rfl rfl (hb hby own_d_prog_38_method_5_code_16) _ ?_
      show Steps p.tables e below (T34.setTop (mkF m 17 #[.val (.int (8 : Int32)), .val (.ref rv), .val (.int (9 : Int32)), .val (.int (8 : Int32)), .val (.ref (ad 7))] [(.ref (ad 8))])) t
      refine XS.astore X34.here hx rfl (hb hby own_d_prog_38_method_5_code_17) rfl rfl (l' := #[.val (.int (8 : Int32)), .val (.ref rv), .val (.int (9 : Int32)), .val (.int (8 : Int32)), .val (.ref (ad 8))]) rfl ?_
      show Steps p.tables e below (T34.setTop (mkF m 19 #[.val (.int (8 : Int32)), .val (.ref rv), .val (.int (9 : Int32)), .val (.int (8 : Int32)), .val (.ref (ad 8))] [])) t
      refine XS.aload X34.here hx rfl (hb hby own_d_prog_38_method_5_code_19) rfl rfl ?_
      show Steps p.tables e below (T34.setTop (mkF m 21 #[.val (.int (8 : Int32)), .val (.ref rv), .val (.int (9 : Int32)), .val (.int (8 : Int32)), .val (.ref (ad 8))] [(.ref (ad 8))])) t
      exact st38 t k)
  have ch40 : ∀ t, Steps p.tables e below (T38.setTop (mkF m 30 #[.val (.int (8 : Int32)), .val (.ref rv), .val (.int (9 : Int32)), .val (.int (8 : Int32)), .val (.ref (ad 8))] [(.ref (ad 8))])) t → Steps p.tables e below (s₁.setTop (entryFrame m #[(.int (8 : Int32))] 5)) t := fun t k => ch39 t (by
      show Steps p.tables e below (T38.setTop (mkF m 24 #[.val (.int (8 : Int32)), .val (.ref rv), .val (.int (9 : Int32)), .val (.int (8 : Int32)), .val (.ref (ad 8))] [(.int (8 : Int32))])) t
      refine XS.iloadN X38.here hx rfl (hb hby own_d_prog_38_method_5_code_24) rfl ?_
      show Steps p.tables e below (T38.setTop (mkF m 25 #[.val (.int (8 : Int32)), .val (.ref rv), .val (.int (9 : Int32)), .val (.int (8 : Int32)), .val (.ref (ad 8))] [(.int (8 : Int32)), (.int (8 : Int32))])) t
      refine XS.icmpNo X38.here hx rfl (hb hby own_d_prog_38_method_5_code_25) rfl (teq (by decide : (8 : Int32) = (8 : Int32))).2 ?_
      show Steps p.tables e below (T38.setTop (mkF m 28 #[.val (.int (8 : Int32)), .val (.ref rv), .val (.int (9 : Int32)), .val (.int (8 : Int32)), .val (.ref (ad 8))] [])) t
      refine XS.aload X38.here hx rfl (hb hby own_d_prog_38_method_5_code_28) rfl rfl ?_
      exact k)
  obtain ⟨fs, hr, hrun, hended, hW, hsame⟩ := X38.leave (v := some (.ref (ad 8))) (fun h => by rw [Bd.returns] at h; cases h)
  refine ⟨_, _, ch40 _ ?_, hrun, hended, _, _, rfl, ?_, ⟨_, rfl⟩, hW, hsame.mono (by decide) (by decide)⟩
  · show Steps p.tables e below (T38.setTop (mkF m 30 #[.val (.int (8 : Int32)), .val (.ref rv), .val (.int (9 : Int32)), .val (.int (8 : Int32)), .val (.ref (ad 8))] [(.ref (ad 8))])) _
    jvm_step X38.here [X38.here.top, hx, (hb hby own_d_prog_38_method_5_code_30), X38.method', Bd.returns, Value.isRef, FieldType.isReference]
    first | (intro acts; rw [hr _ acts rfl rfl rfl]) | rw [hr _ _ rfl rfl rfl]
    exact Steps.refl _
  · show QK (some (.ref (ad 8))) h0 n0 _ T38.heap _
    rw [e38]
    exact ⟨rfl, N1, Kp1⟩
theorem own_ef_own_expd_8 (m : MethodId) {x0 : Int32} : entryFrame m #[(.int x0)] 1 = mkF m 0 #[.val (.int x0)] [] := by first | (simp [entryFrame, mkF, argsToLocals, Value.category, maxLocals]; done) | rfl
set_option maxRecDepth 65536 in
set_option maxHeartbeats 40000000 in
theorem own_expd_8 (l : Launch) (Z : State) (a0 : Array Value) (hw : ∀ d ∈ tables_1, d.before a0 Z = true) (ws : List Jvm.Cond) (h0 : Heap) (n0 : Nat) (Z0 : n0 ≤ h0.size) (ad : Nat → Addr) (a__VALUES : Addr) (k__VALUES : ClassId) (W : OwnWd Z h0 ad a__VALUES k__VALUES) :
    MetFree l (⟨"com/example/limpet/limpet/io/StatusFromCodePinLaw", "expected", "(I)Lcom/example/limpet/limpet/io/Status;"⟩ : MethodName) (head1 (Jvm.Cond.code (⟨"com/example/limpet/limpet/io/StatusFromCodePinLaw", "expected", "(I)Lcom/example/limpet/limpet/io/Status;"⟩ : MethodName) method_2_code 1 (some (.object "com/example/limpet/limpet/io/Status")) :: ws) ({ frames := 0, cells := 0, slots := 0, locals := 0 } : Room)) (fun a U => a = #[(.int (8 : Int32))] ∧ Z.Warmed39 U.vm ∧ U.heap = h0) (fun _ _ _ _ _ => True) (fun _ U o U' => ∃ v L, o = .returned v ∧ QV (some (.ref (ad 8))) h0 n0 v U'.heap L ∧ FrameEnd U o U' L ({ frames := 0, cells := 0, slots := 0, locals := 0 } : Room).cells ({ frames := 0, cells := 0, slots := 0, locals := 0 } : Room).slots) := by
  refine MetFree.of_bodySF (plainFor_of_name own_pn_com_example_limpet_limpet_io_StatusFromCodePinLaw) hisR ?_
  intro p e s m args below meth c s₁ Bd hml0 hP hK
  obtain ⟨rfl, hZ, hh⟩ := hP
  have hx := Bd.exec
  have hby := Bd.bytes
  have hml : c.maxLocals = 1 := hml0
  have hown : s.vm.findClass "com/example/limpet/limpet/io/StatusFromCodePinLaw" = some m.cls := findClass_of_methodNamed Bd.named
  have hnm := (name_of_methodNamed Bd.named Bd.method).1
  have X0 : Stand p l e ({ frames := 0, cells := 0, slots := 0, locals := 0 } : Room) s m #[(.int (8 : Int32))] below meth c s₁ [] 0 0 := Stand.of_body Bd
  have e0 : s₁.heap = h0 := by rw [← hh, Bd.state]; rfl
  have N0 := Fr.nil n0
  have pre0 : ∀ t, Steps p.tables e below (s₁.setTop (mkF m 0 #[.val (.int (8 : Int32))] [])) t → Steps p.tables e below (s₁.setTop (entryFrame m #[(.int (8 : Int32))] 1)) t := fun t k => castTop (own_ef_own_expd_8 m) k
  obtain ⟨T1, X1, e1, st1⟩ := getS2 X0 hx hZ hown (host := "") (Or.inl (hw _ (List.mem_of_getElem? (i := 46) rfl))) Via.refl e0 (own_S_TOO_MANY_GRANTS W) (g := (mkF m 73 #[.val (.int (8 : Int32))] [])) rfl (hb hby own_d_method_2_code_73)
  have ch2 : ∀ t, Steps p.tables e below (T1.setTop (mkF m 76 #[.val (.int (8 : Int32))] [(.ref (ad 8))])) t → Steps p.tables e below (s₁.setTop (entryFrame m #[(.int (8 : Int32))] 1)) t := fun t k => pre0 t (by
      show Steps p.tables e below (s₁.setTop (mkF m 0 #[.val (.int (8 : Int32))] [])) t
      refine XS.iloadN X0.here hx rfl (hb hby own_d_method_2_code_0) rfl ?_
      show Steps p.tables e below (s₁.setTop (mkF m 1 #[.val (.int (8 : Int32))] [(.int (8 : Int32))])) t
      refine XS.ifYes X0.here hx rfl (pc0 := 1) (pc' := 8) rfl (hb hby own_d_method_2_code_1) rfl ((if0 _ _).trans (feq (by decide : ¬ (8 : Int32) = (0 : Int32))).2) (by decide) (by decide) ?_
      show Steps p.tables e below (s₁.setTop (mkF m 8 #[.val (.int (8 : Int32))] [])) t
      refine XS.iloadN X0.here hx rfl (hb hby own_d_method_2_code_8) rfl ?_
      show Steps p.tables e below (s₁.setTop (mkF m 9 #[.val (.int (8 : Int32))] [(.int (8 : Int32))])) t
      refine XS.iconst X0.here hx rfl (hb hby own_d_method_2_code_9) ?_
      show Steps p.tables e below (s₁.setTop (mkF m 10 #[.val (.int (8 : Int32))] [(.int (1 : Int32)), (.int (8 : Int32))])) t
      refine XS.icmpYes X0.here hx rfl (pc0 := 10) (pc' := 17) rfl (hb hby own_d_method_2_code_10) rfl (feq (by decide : ¬ (8 : Int32) = (1 : Int32))).2 (by decide) (by decide) ?_
      show Steps p.tables e below (s₁.setTop (mkF m 17 #[.val (.int (8 : Int32))] [])) t
      refine XS.iloadN X0.here hx rfl (hb hby own_d_method_2_code_17) rfl ?_
      show Steps p.tables e below (s₁.setTop (mkF m 18 #[.val (.int (8 : Int32))] [(.int (8 : Int32))])) t
      refine XS.iconst X0.here hx rfl (hb hby own_d_method_2_code_18) ?_
      show Steps p.tables e below (s₁.setTop (mkF m 19 #[.val (.int (8 : Int32))] [(.int (2 : Int32)), (.int (8 : Int32))])) t
      refine XS.icmpYes X0.here hx rfl (pc0 := 19) (pc' := 26) rfl (hb hby own_d_method_2_code_19) rfl (feq (by decide : ¬ (8 : Int32) = (2 : Int32))).2 (by decide) (by decide) ?_
      show Steps p.tables e below (s₁.setTop (mkF m 26 #[.val (.int (8 : Int32))] [])) t
      refine XS.iloadN X0.here hx rfl (hb hby own_d_method_2_code_26) rfl ?_
      show Steps p.tables e below (s₁.setTop (mkF m 27 #[.val (.int (8 : Int32))] [(.int (8 : Int32))])) t
      refine XS.iconst X0.here hx rfl (hb hby own_d_method_2_code_27) ?_
      show Steps p.tables e below (s₁.setTop (mkF m 28 #[.val (.int (8 : Int32))] [(.int (3 : Int32)), (.int (8 : Int32))])) t
      refine XS.icmpYes X0.here hx rfl (pc0 := 28) (pc' := 35) rfl (hb hby own_d_method_2_code_28) rfl (feq (by decide : ¬ (8 : Int32) = (3 : Int32))).2 (by decide) (by decide) ?_
      show Steps p.tables e below (s₁.setTop (mkF m 35 #[.val (.int (8 : Int32))] [])) t
      refine XS.iloadN X0.here hx rfl (hb hby own_d_method_2_code_35) rfl ?_
      show Steps p.tables e below (s₁.setTop (mkF m 36 #[.val (.int (8 : Int32))] [(.int (8 : Int32))])) t
      refine XS.iconst X0.here hx rfl (hb hby own_d_method_2_code_36) ?_
      show Steps p.tables e below (s₁.setTop (mkF m 37 #[.val (.int (8 : Int32))] [(.int (4 : Int32)), (.int (8 : Int32))])) t
      refine XS.icmpYes X0.here hx rfl (pc0 := 37) (pc' := 44) rfl (hb hby own_d_method_2_code_37) rfl (feq (by decide : ¬ (8 : Int32) = (4 : Int32))).2 (by decide) (by decide) ?_
      show Steps p.tables e below (s₁.setTop (mkF m 44 #[.val (.int (8 : Int32))] [])) t
      refine XS.iloadN X0.here hx rfl (hb hby own_d_method_2_code_44) rfl ?_
      show Steps p.tables e below (s₁.setTop (mkF m 45 #[.val (.int (8 : Int32))] [(.int (8 : Int32))])) t
      refine XS.iconst X0.here hx rfl (hb hby own_d_method_2_code_45) ?_
      show Steps p.tables e below (s₁.setTop (mkF m 46 #[.val (.int (8 : Int32))] [(.int (5 : Int32)), (.int (8 : Int32))])) t
      refine XS.icmpYes X0.here hx rfl (pc0 := 46) (pc' := 53) rfl (hb hby own_d_method_2_code_46) rfl (feq (by decide : ¬ (8 : Int32) = (5 : Int32))).2 (by decide) (by decide) ?_
      show Steps p.tables e below (s₁.setTop (mkF m 53 #[.val (.int (8 : Int32))] [])) t
      refine XS.iloadN X0.here hx rfl (hb hby own_d_method_2_code_53) rfl ?_
      show Steps p.tables e below (s₁.setTop (mkF m 54 #[.val (.int (8 : Int32))] [(.int (8 : Int32))])) t
      refine XS.bipush X0.here hx rfl (hb hby own_d_method_2_code_54) ?_
      show Steps p.tables e below (s₁.setTop (mkF m 56 #[.val (.int (8 : Int32))] [(.int (6 : Int32)), (.int (8 : Int32))])) t
      refine XS.icmpYes X0.here hx rfl (pc0 := 56) (pc' := 63) rfl (hb hby own_d_method_2_code_56) rfl (feq (by decide : ¬ (8 : Int32) = (6 : Int32))).2 (by decide) (by decide) ?_
      show Steps p.tables e below (s₁.setTop (mkF m 63 #[.val (.int (8 : Int32))] [])) t
      refine XS.iloadN X0.here hx rfl (hb hby own_d_method_2_code_63) rfl ?_
      show Steps p.tables e below (s₁.setTop (mkF m 64 #[.val (.int (8 : Int32))] [(.int (8 : Int32))])) t
      refine XS.bipush X0.here hx rfl (hb hby own_d_method_2_code_64) ?_
      show Steps p.tables e below (s₁.setTop (mkF m 66 #[.val (.int (8 : Int32))] [(.int (7 : Int32)), (.int (8 : Int32))])) t
      refine XS.icmpYes X0.here hx rfl (pc0 := 66) (pc' := 73) rfl (hb hby own_d_method_2_code_66) rfl (feq (by decide : ¬ (8 : Int32) = (7 : Int32))).2 (by decide) (by decide) ?_
      show Steps p.tables e below (s₁.setTop (mkF m 73 #[.val (.int (8 : Int32))] [])) t
      exact st1 t k)
  obtain ⟨fs, hr, hrun, hended, hW, hsame⟩ := X1.leave (v := some (.ref (ad 8))) (fun h => by rw [Bd.returns] at h; cases h)
  refine ⟨_, _, ch2 _ ?_, hrun, hended, _, _, rfl, ?_, ⟨_, rfl⟩, hW, hsame.mono (by decide) (by decide)⟩
  · show Steps p.tables e below (T1.setTop (mkF m 76 #[.val (.int (8 : Int32))] [(.ref (ad 8))])) _
    jvm_step X1.here [X1.here.top, hx, (hb hby own_d_method_2_code_76), X1.method', Bd.returns, Value.isRef, FieldType.isReference]
    first | (intro acts; rw [hr _ acts rfl rfl rfl]) | rw [hr _ _ rfl rfl rfl]
    exact Steps.refl _
  · show QV (some (.ref (ad 8))) h0 n0 _ T1.heap _
    rw [e1]
    exact ⟨rfl, N0, rfl⟩
theorem own_ef_own_code_8 (m : MethodId) {x0 : Addr} : entryFrame m #[(.ref x0)] 1 = mkF m 0 #[.val (.ref x0)] [] := by first | (simp [entryFrame, mkF, argsToLocals, Value.category, maxLocals]; done) | rfl
set_option maxRecDepth 65536 in
set_option maxHeartbeats 40000000 in
theorem own_code_8 (l : Launch) (Z : State) (a0 : Array Value) (hw : ∀ d ∈ tables_1, d.before a0 Z = true) (ws : List Jvm.Cond) (h0 : Heap) (n0 : Nat) (Z0 : n0 ≤ h0.size) (ad : Nat → Addr) (a__VALUES : Addr) (k__VALUES : ClassId) (W : OwnWd Z h0 ad a__VALUES k__VALUES) :
    MetFree l (⟨"com/example/limpet/limpet/io/Status", "code", "()I"⟩ : MethodName) (head1 (Jvm.Cond.code (⟨"com/example/limpet/limpet/io/Status", "code", "()I"⟩ : MethodName) prog_38_method_4_code 1 (some .int) :: ws) ({ frames := 0, cells := 0, slots := 0, locals := 0 } : Room)) (fun a U => a = #[(.ref (ad 8))] ∧ Z.Warmed39 U.vm ∧ U.heap = h0) (fun _ _ _ _ _ => True) (fun _ U o U' => ∃ v L, o = .returned v ∧ QV (some (.int (8 : Int32))) h0 n0 v U'.heap L ∧ FrameEnd U o U' L ({ frames := 0, cells := 0, slots := 0, locals := 0 } : Room).cells ({ frames := 0, cells := 0, slots := 0, locals := 0 } : Room).slots) := by
  refine MetFree.of_bodySF (plainFor_of_name own_pn_com_example_limpet_limpet_io_Status) hisR ?_
  intro p e s m args below meth c s₁ Bd hml0 hP hK
  obtain ⟨rfl, hZ, hh⟩ := hP
  have hx := Bd.exec
  have hby := Bd.bytes
  have hml : c.maxLocals = 1 := hml0
  have hown : s.vm.findClass "com/example/limpet/limpet/io/Status" = some m.cls := findClass_of_methodNamed Bd.named
  have hnm := (name_of_methodNamed Bd.named Bd.method).1
  have X0 : Stand p l e ({ frames := 0, cells := 0, slots := 0, locals := 0 } : Room) s m #[(.ref (ad 8))] below meth c s₁ [] 0 0 := Stand.of_body Bd
  have e0 : s₁.heap = h0 := by rw [← hh, Bd.state]; rfl
  have N0 := Fr.nil n0
  have pre0 : ∀ t, Steps p.tables e below (s₁.setTop (mkF m 0 #[.val (.ref (ad 8))] [])) t → Steps p.tables e below (s₁.setTop (entryFrame m #[(.ref (ad 8))] 1)) t := fun t k => castTop (own_ef_own_code_8 m) k
  obtain ⟨T1, X1, e1, st1⟩ := getF X0 hx hZ hown (host := "") (Or.inl (hw _ (List.mem_of_getElem? (i := 29) rfl))) Via.refl e0 (own_F_TOO_MANY_GRANTS_code W) (g := (mkF m 1 #[.val (.ref (ad 8))] [(.ref (ad 8))])) rfl rfl (hb hby own_d_prog_38_method_4_code_1)
  have ch2 : ∀ t, Steps p.tables e below (T1.setTop (mkF m 4 #[.val (.ref (ad 8))] [(.int (8 : Int32))])) t → Steps p.tables e below (s₁.setTop (entryFrame m #[(.ref (ad 8))] 1)) t := fun t k => pre0 t (by
      show Steps p.tables e below (s₁.setTop (mkF m 0 #[.val (.ref (ad 8))] [])) t
      refine XS.aloadN X0.here hx rfl (hb hby own_d_prog_38_method_4_code_0) rfl rfl ?_
      show Steps p.tables e below (s₁.setTop (mkF m 1 #[.val (.ref (ad 8))] [(.ref (ad 8))])) t
      exact st1 t k)
  obtain ⟨fs, hr, hrun, hended, hW, hsame⟩ := X1.leave (v := some (.int (8 : Int32))) (fun h => by rw [Bd.returns] at h; cases h)
  refine ⟨_, _, ch2 _ ?_, hrun, hended, _, _, rfl, ?_, ⟨_, rfl⟩, hW, hsame.mono (by decide) (by decide)⟩
  · show Steps p.tables e below (T1.setTop (mkF m 4 #[.val (.ref (ad 8))] [(.int (8 : Int32))])) _
    exact retI X1 hx Bd.returns (hb hby own_d_prog_38_method_4_code_4) hr
  · show QV (some (.int (8 : Int32))) h0 n0 _ T1.heap _
    rw [e1]
    exact ⟨rfl, N0, rfl⟩
theorem own_ef_own_law_8 (m : MethodId) {x0 : Int32} : entryFrame m #[(.int x0)] maxLocals = mkF m 0 #[.val (.int x0), .unset, .unset, .unset] [] := by first | (simp [entryFrame, mkF, argsToLocals, Value.category, maxLocals]; done) | rfl
set_option maxRecDepth 65536 in
set_option maxHeartbeats 40000000 in
theorem own_law_8 (l : Launch) (Z : State) (a0 : Array Value) (hw : ∀ d ∈ tables_1, d.before a0 Z = true) (ws : List Jvm.Cond) (h0 : Heap) (n0 : Nat) (Z0 : n0 ≤ h0.size) (p1 : Int32) (hk : (p1 &&& (2147483647 : Int32)) % (9 : Int32) = (8 : Int32)) (ad : Nat → Addr) (a__VALUES : Addr) (k__VALUES : ClassId) (W : OwnWd Z h0 ad a__VALUES k__VALUES) :
    MetFree l x (head1 (Jvm.Cond.code x code maxLocals ret :: ws) room_1) (fun a U => a = #[(.int p1)] ∧ Z.Warmed39 U.vm ∧ U.heap = h0) (fun _ _ _ _ _ => True) (fun _ U o U' => ∃ v L, o = .returned v ∧ QN (some (.int (1 : Int32))) n0 v U'.heap L ∧ FrameEnd U o U' L room_1.cells room_1.slots) := by
  refine MetFree.of_bodySF (plainFor_of_name own_pn_com_example_limpet_limpet_io_StatusFromCodePinLaw) hisR ?_
  intro p e s m args below meth c s₁ Bd hml0 hP hK
  obtain ⟨rfl, hZ, hh⟩ := hP
  have hx := Bd.exec
  have hby := Bd.bytes
  have hml : c.maxLocals = 4 := hml0
  have hown : s.vm.findClass "com/example/limpet/limpet/io/StatusFromCodePinLaw" = some m.cls := findClass_of_methodNamed Bd.named
  have hnm := (name_of_methodNamed Bd.named Bd.method).1
  have X0 : Stand p l e room_1 s m #[(.int p1)] below meth c s₁ [] 0 0 := Stand.of_body Bd
  have e0 : s₁.heap = h0 := by rw [← hh, Bd.state]; rfl
  have N0 := Fr.nil n0
  have pre0 : ∀ t, Steps p.tables e below (s₁.setTop (mkF m 0 #[.val (.int p1), .unset, .unset, .unset] [])) t → Steps p.tables e below (s₁.setTop (entryFrame m #[(.int p1)] maxLocals)) t := fun t k => castTop (own_ef_own_law_8 m) k
  obtain ⟨vv1, _, ⟨T1, L1, kk1, nn1⟩, -, X1, ⟨Lc1, hQ1, l1, y1, z1⟩, st1⟩ := Jvm.LawKit.callS X0 hx (y := (⟨"com/example/limpet/limpet/io/Status", "fromCode", "(I)Lcom/example/limpet/limpet/io/Status;"⟩ : MethodName)) hown (mvT hZ (hw _ (List.mem_of_getElem? (i := 1) rfl))) (mvT hZ (hw _ (List.mem_of_getElem? (i := 2) rfl))) (mvT hZ (hw _ (List.mem_of_getElem? (i := 3) rfl))) (mvT hZ (hw _ (List.mem_of_getElem? (i := 4) rfl))) (by decide) (backOf (W := 0) (own_from_8 l Z a0 hw [] h0 n0 (Nat.le_trans Z0 (Keep.refl h0 []).1) ad a__VALUES k__VALUES W) hZ (hw _ (List.mem_of_getElem? (i := 4) rfl)) (hw _ (List.mem_of_getElem? (i := 3) rfl)) (by decide) (by decide)) (g := (mkF m 9 #[.val (.int p1), .val (.int (8 : Int32)), .unset, .unset] [(.int (8 : Int32))])) rfl (by rw [hml]; rfl) (argsL := [(.int (8 : Int32))]) (rest := []) (lenOf own_pd__I_Lcom_example_limpet_limpet_io_Status_ rfl) rfl (by show 2 * 0 + _ ≤ _; exact Nat.le_of_eq rfl) (hb hby at_9) (fun _ _ => ⟨rfl, e0, (by decide : 0 + 1 ≤ _), (by decide : 0 + 9 ≤ _)⟩)
  dsimp only [Pt.U, Pt.locs, Pt.cells, Pt.slots] at X1 l1 y1 z1 st1 hQ1
  subst l1 y1 z1
  obtain ⟨hh1, eh1⟩ : ∃ h, T1.heap = h := ⟨_, rfl⟩
  rw [eh1] at hQ1
  obtain ⟨rfl, Nq1, Kq1⟩ := hQ1
  have N1 := Fr.app N0 Nq1
  have Kp1 := Keep.trans (Keep.refl h0 []) Kq1 all0
  have ch2 : ∀ t, Steps p.tables e below (T1.setTop (mkF m 12 #[.val (.int p1), .val (.int (8 : Int32)), .unset, .unset] [(.ref (ad 8))])) t → Steps p.tables e below (s₁.setTop (entryFrame m #[(.int p1)] maxLocals)) t := fun t k => pre0 t (by
      show Steps p.tables e below (s₁.setTop (mkF m 0 #[.val (.int p1), .unset, .unset, .unset] [])) t
      refine XS.iloadN X0.here hx rfl (hb hby at_0) rfl ?_
      show Steps p.tables e below (s₁.setTop (mkF m 1 #[.val (.int p1), .unset, .unset, .unset] [(.int p1)])) t
      refine X0.ldcInt hx hown (mvT hZ (hw _ (List.mem_of_getElem? (i := 0) rfl))) (g := (mkF m 1 #[.val (.int p1), .unset, .unset, .unset] [(.int p1)])) rfl (hb hby at_1) _ ?_
      show Steps p.tables e below (s₁.setTop (mkF m 3 #[.val (.int p1), .unset, .unset, .unset] [(.int (2147483647 : Int32)), (.int p1)])) t
      refine XS.iand X0.here hx rfl (hb hby at_3) rfl ?_
      show Steps p.tables e below (s₁.setTop (mkF m 4 #[.val (.int p1), .unset, .unset, .unset] [(.int (p1 &&& (2147483647 : Int32)))])) t
      refine XS.bipush X0.here hx rfl (hb hby at_4) ?_
      show Steps p.tables e below (s₁.setTop (mkF m 6 #[.val (.int p1), .unset, .unset, .unset] [(.int (9 : Int32)), (.int (p1 &&& (2147483647 : Int32)))])) t
      refine Jvm.RoadKit.iremM (g := (mkF m 6 #[.val (.int p1), .unset, .unset, .unset] [(.int (9 : Int32)), (.int (p1 &&& (2147483647 : Int32)))])) X0 hx rfl (hb hby at_6) rfl (by decide) ?_
      rw [hk]
      show Steps p.tables e below (s₁.setTop (mkF m 7 #[.val (.int p1), .unset, .unset, .unset] [(.int (8 : Int32))])) t
      refine XS.istoreN X0.here hx rfl (hb hby at_7) rfl (l' := #[.val (.int p1), .val (.int (8 : Int32)), .unset, .unset]) rfl ?_
      show Steps p.tables e below (s₁.setTop (mkF m 8 #[.val (.int p1), .val (.int (8 : Int32)), .unset, .unset] [])) t
      refine XS.iloadN X0.here hx rfl (hb hby at_8) rfl ?_
      show Steps p.tables e below (s₁.setTop (mkF m 9 #[.val (.int p1), .val (.int (8 : Int32)), .unset, .unset] [(.int (8 : Int32))])) t
      exact st1 t k)
  obtain ⟨vv3, _, ⟨T3, L3, kk3, nn3⟩, -, X3, ⟨Lc3, hQ3, l3, y3, z3⟩, st3⟩ := Jvm.LawKit.callS X1 hx (y := (⟨"com/example/limpet/limpet/io/StatusFromCodePinLaw", "expected", "(I)Lcom/example/limpet/limpet/io/Status;"⟩ : MethodName)) hown (mvT hZ (hw _ (List.mem_of_getElem? (i := 31) rfl))) (mvT hZ (hw _ (List.mem_of_getElem? (i := 32) rfl))) (mvT hZ (hw _ (List.mem_of_getElem? (i := 33) rfl))) (mvT hZ (hw _ (List.mem_of_getElem? (i := 34) rfl))) (by decide) (backOf (W := 0) (own_expd_8 l Z a0 hw [] hh1 n0 (Nat.le_trans Z0 Kp1.1) ad a__VALUES k__VALUES (own_Wd_ext W (own_ext_of_keep Kp1 all0))) hZ (hw _ (List.mem_of_getElem? (i := 34) rfl)) (hw _ (List.mem_of_getElem? (i := 33) rfl)) (by decide) (by decide)) (g := (mkF m 14 #[.val (.int p1), .val (.int (8 : Int32)), .val (.ref (ad 8)), .unset] [(.int (8 : Int32))])) rfl (by rw [hml]; rfl) (argsL := [(.int (8 : Int32))]) (rest := []) (lenOf own_pd__I_Lcom_example_limpet_limpet_io_Status_ rfl) rfl (by show 2 * 0 + _ ≤ _; exact Nat.le_of_eq rfl) (hb hby at_14) (fun _ _ => ⟨rfl, eh1, (by decide : 1 + 0 ≤ _), (by decide : 9 + 0 ≤ _)⟩)
  dsimp only [Pt.U, Pt.locs, Pt.cells, Pt.slots] at X3 l3 y3 z3 st3 hQ3
  subst l3 y3 z3
  obtain ⟨rfl, Nq3, e3⟩ := hQ3
  have N3 := Fr.app N1 Nq3
  have ch4 : ∀ t, Steps p.tables e below (T3.setTop (mkF m 17 #[.val (.int p1), .val (.int (8 : Int32)), .val (.ref (ad 8)), .unset] [(.ref (ad 8))])) t → Steps p.tables e below (s₁.setTop (entryFrame m #[(.int p1)] maxLocals)) t := fun t k => ch2 t (by
      show Steps p.tables e below (T1.setTop (mkF m 12 #[.val (.int p1), .val (.int (8 : Int32)), .unset, .unset] [(.ref (ad 8))])) t
      refine XS.astoreN X1.here hx rfl (hb hby at_12) rfl rfl (l' := #[.val (.int p1), .val (.int (8 : Int32)), .val (.ref (ad 8)), .unset]) rfl ?_
      show Steps p.tables e below (T1.setTop (mkF m 13 #[.val (.int p1), .val (.int (8 : Int32)), .val (.ref (ad 8)), .unset] [])) t
      refine XS.iloadN X1.here hx rfl (hb hby at_13) rfl ?_
      show Steps p.tables e below (T1.setTop (mkF m 14 #[.val (.int p1), .val (.int (8 : Int32)), .val (.ref (ad 8)), .unset] [(.int (8 : Int32))])) t
      exact st3 t k)
  have cf6 := (Exa.keep (own_E_TOO_MANY_GRANTS W) Kp1)
  obtain ⟨cq5, kq5, qa5, qb5, qc5⟩ := isOf hZ e3 cf6
  obtain ⟨vv7, _, ⟨T7, L7, kk7, nn7⟩, -, X7, ⟨Lc7, hQ7, l7, y7, z7⟩, st7⟩ := X3.virtualBack hx (y := (⟨"com/example/limpet/limpet/io/Status", "code", "()I"⟩ : MethodName)) (z := (⟨"com/example/limpet/limpet/io/Status", "code", "()I"⟩ : MethodName)) hown (mvT hZ (hw _ (List.mem_of_getElem? (i := 36) rfl))) (mvT hZ (hw _ (List.mem_of_getElem? (i := 37) rfl))) (notFace_of_selects (args := #[]) (mvT hZ (hw _ (List.mem_of_getElem? (i := 39) rfl)))) (mvT hZ (hw _ (List.mem_of_getElem? (i := 39) rfl))) (mvT hZ (hw _ (List.mem_of_getElem? (i := 38) rfl))) (by decide) (backOf (W := 0) (own_code_8 l Z a0 hw [] hh1 n0 (Nat.le_trans Z0 Kp1.1) ad a__VALUES k__VALUES (own_Wd_ext W (own_ext_of_keep Kp1 all0))) hZ (hw _ (List.mem_of_getElem? (i := 40) rfl)) (hw _ (List.mem_of_getElem? (i := 3) rfl)) (by decide) (by decide)) qa5 qc5 (g := (mkF m 24 #[.val (.int p1), .val (.int (8 : Int32)), .val (.ref (ad 8)), .val (.ref (ad 8))] [(.ref (ad 8))])) rfl (by rw [hml]; rfl) (Steps.refl _) (argsL := []) (rest := []) (lenOf own_pd___I rfl) rfl (by show 2 * 0 + _ ≤ _; exact Nat.le_of_eq rfl) (hb hby at_24) (fun _ _ => ⟨rfl, e3, (by decide : 1 + 0 ≤ _), (by decide : 9 + 0 ≤ _)⟩)
  dsimp only [Pt.U, Pt.locs, Pt.cells, Pt.slots] at X7 l7 y7 z7 st7 hQ7
  subst l7 y7 z7
  obtain ⟨rfl, Nq7, e7⟩ := hQ7
  have N7 := Fr.app N3 Nq7
  have ch8 : ∀ t, Steps p.tables e below (T7.setTop (mkF m 27 #[.val (.int p1), .val (.int (8 : Int32)), .val (.ref (ad 8)), .val (.ref (ad 8))] [(.int (8 : Int32))])) t → Steps p.tables e below (s₁.setTop (entryFrame m #[(.int p1)] maxLocals)) t := fun t k => ch4 t (by
      show Steps p.tables e below (T3.setTop (mkF m 17 #[.val (.int p1), .val (.int (8 : Int32)), .val (.ref (ad 8)), .unset] [(.ref (ad 8))])) t
      refine XS.astoreN X3.here hx rfl (hb hby at_17) rfl rfl (l' := #[.val (.int p1), .val (.int (8 : Int32)), .val (.ref (ad 8)), .val (.ref (ad 8))]) rfl ?_
      show Steps p.tables e below (T3.setTop (mkF m 18 #[.val (.int p1), .val (.int (8 : Int32)), .val (.ref (ad 8)), .val (.ref (ad 8))] [])) t
      refine XS.aloadN X3.here hx rfl (hb hby at_18) rfl rfl ?_
      show Steps p.tables e below (T3.setTop (mkF m 19 #[.val (.int p1), .val (.int (8 : Int32)), .val (.ref (ad 8)), .val (.ref (ad 8))] [(.ref (ad 8))])) t
      refine XS.aloadN X3.here hx rfl (hb hby at_19) rfl rfl ?_
      show Steps p.tables e below (T3.setTop (mkF m 20 #[.val (.int p1), .val (.int (8 : Int32)), .val (.ref (ad 8)), .val (.ref (ad 8))] [(.ref (ad 8)), (.ref (ad 8))])) t
      refine Jvm.RoadKit.acmp (g := (mkF m 20 #[.val (.int p1), .val (.int (8 : Int32)), .val (.ref (ad 8)), .val (.ref (ad 8))] [(.ref (ad 8)), (.ref (ad 8))])) X3 hx rfl rfl rfl (pc0 := 20) (pc' := 23) (same := true) rfl (hb hby at_20) rfl (decide_eq_true rfl) (by decide) (by decide) ?_
      show Steps p.tables e below (T3.setTop (mkF m 23 #[.val (.int p1), .val (.int (8 : Int32)), .val (.ref (ad 8)), .val (.ref (ad 8))] [])) t
      refine XS.aloadN X3.here hx rfl (hb hby at_23) rfl rfl ?_
      show Steps p.tables e below (T3.setTop (mkF m 24 #[.val (.int p1), .val (.int (8 : Int32)), .val (.ref (ad 8)), .val (.ref (ad 8))] [(.ref (ad 8))])) t
      exact st7.trans k)
  have ch9 : ∀ t, Steps p.tables e below (T7.setTop (mkF m 36 #[.val (.int p1), .val (.int (8 : Int32)), .val (.ref (ad 8)), .val (.ref (ad 8))] [(.int (1 : Int32))])) t → Steps p.tables e below (s₁.setTop (entryFrame m #[(.int p1)] maxLocals)) t := fun t k => ch8 t (by
      show Steps p.tables e below (T7.setTop (mkF m 27 #[.val (.int p1), .val (.int (8 : Int32)), .val (.ref (ad 8)), .val (.ref (ad 8))] [(.int (8 : Int32))])) t
      refine XS.iloadN X7.here hx rfl (hb hby at_27) rfl ?_
      show Steps p.tables e below (T7.setTop (mkF m 28 #[.val (.int p1), .val (.int (8 : Int32)), .val (.ref (ad 8)), .val (.ref (ad 8))] [(.int (8 : Int32)), (.int (8 : Int32))])) t
      refine XS.icmpNo X7.here hx rfl (hb hby at_28) rfl (teq (by decide : (8 : Int32) = (8 : Int32))).2 ?_
      show Steps p.tables e below (T7.setTop (mkF m 31 #[.val (.int p1), .val (.int (8 : Int32)), .val (.ref (ad 8)), .val (.ref (ad 8))] [])) t
      refine XS.iconst X7.here hx rfl (hb hby at_31) ?_
      show Steps p.tables e below (T7.setTop (mkF m 32 #[.val (.int p1), .val (.int (8 : Int32)), .val (.ref (ad 8)), .val (.ref (ad 8))] [(.int (1 : Int32))])) t
      refine XS.goto X7.here hx rfl (pc0 := 32) (pc' := 36) rfl (hb hby at_32) (by decide) (by decide) ?_
      exact k)
  obtain ⟨fs, hr, hrun, hended, hW, hsame⟩ := X7.leave (v := some (.int (1 : Int32))) (fun h => by rw [Bd.returns] at h; cases h)
  refine ⟨_, _, ch9 _ ?_, hrun, hended, _, _, rfl, ?_, ⟨_, rfl⟩, hW, hsame.mono (by decide) (by decide)⟩
  · show Steps p.tables e below (T7.setTop (mkF m 36 #[.val (.int p1), .val (.int (8 : Int32)), .val (.ref (ad 8)), .val (.ref (ad 8))] [(.int (1 : Int32))])) _
    exact retN X7 hx (t := .boolean) Bd.returns (by simp) (hb hby at_36) hr
  · show QN (some (.int (1 : Int32))) n0 _ T7.heap _
    rw [e7]
    exact ⟨rfl, N7⟩
set_option maxRecDepth 65536 in
set_option maxHeartbeats 40000000 in
theorem comes_1 {Post : Tables → Env → Array Value → State → Outcome → State → Prop} (hpost : ∀ tb e args s v u, (limb_1_1.after args s (.returned v) u = true ∧ limb_1_2.after args s (.returned v) u = true ∧ True) → FrameEnd s (.returned v) u (Jvm.fieldLocs frame_1_writes args s ++ Jvm.arrayLocs frame_1_arrays args s ++ Jvm.staticLocs frame_1_statics s) 16 128 → Post tb e args s (.returned v) u) :
    ArmFor flags0 classFile x code maxLocals ret World_1 tables_1 room_1 Calls_1 rest_1 Pre_1 Post := by
  intro l hfl _ _ p e ha hc hk s m args below hf hA hF happ hP
  obtain ⟨hcalls, hrest, hpre⟩ := hP
  obtain ⟨-, -, -, hnamed, -, -, -, hat⟩ := (Spec.applies_iff hf).mp happ
  obtain ⟨hg, hn⟩ := and_e (Cond.before_iff.mp (show (Jvm.Cond.and given_1 narrow_1).before args s = true from hpre))
  obtain ⟨gc, hg⟩ := and_e hg
  obtain ⟨w0, rfl⟩ : ∃ w0 : Value, args = #[w0] := by
    have hs : args.size = 1 := by simpa [Cond.value, given_1] using gc
    obtain ⟨L⟩ := args
    match L, hs with
    | [w0], _ => exact ⟨w0, rfl⟩
  have hw := fun d (hd : d ∈ tables_1) => atoms_spec (ws := Jvm.Cond.code x code maxLocals ret :: tables_1) hat d (List.mem_cons_of_mem _ hd)
  have hfit : Fit s := fun {y c} hc i hi => by
    obtain ⟨ha, rfl⟩ := Array.getElem?_eq_some_iff.mp hc
    have q := List.all_eq_true.mp ((Array.all_eq_true_iff_forall_mem.mp hF) _ (Array.getElem_mem ha)) i (List.mem_range.mpr hi)
    simpa [Array.getElem?_eq_getElem hi] using q
  obtain ⟨i0, ei0⟩ := is_v hg
  obtain rfl : w0 = (.int i0) := Option.some.inj ei0
  obtain ⟨hn0, hn⟩ := and_e hn
  obtain ⟨hn1, hn⟩ := and_e hn
  obtain ⟨hn2, hn⟩ := and_e hn
  obtain ⟨hn3, hn⟩ := and_e hn
  obtain ⟨hn4, hn⟩ := and_e hn
  obtain ⟨hn5, hn⟩ := and_e hn
  obtain ⟨hn6, hn⟩ := and_e hn
  obtain ⟨hn7, hn⟩ := and_e hn
  obtain ⟨hn8, hn⟩ := and_e hn
  obtain ⟨hn9, hn⟩ := and_e hn
  obtain ⟨hn10, hn⟩ := and_e hn
  obtain ⟨hn11, hn⟩ := and_e hn
  obtain ⟨hn12, hn⟩ := and_e hn
  obtain ⟨hn13, hn⟩ := and_e hn
  obtain ⟨hn14, hn⟩ := and_e hn
  obtain ⟨hn15, hn⟩ := and_e hn
  obtain ⟨hn16, hn⟩ := and_e hn
  obtain ⟨hn17, hn⟩ := and_e hn
  obtain ⟨hn18, hn⟩ := and_e hn
  obtain ⟨hn19, hn⟩ := and_e hn
  obtain ⟨hn20, hn⟩ := and_e hn
  obtain ⟨hn21, hn⟩ := and_e hn
  obtain ⟨hn22, hn⟩ := and_e hn
  obtain ⟨hn23, hn⟩ := and_e hn
  obtain ⟨hn24, hn⟩ := and_e hn
  obtain ⟨hn25, hn⟩ := and_e hn
  obtain ⟨hn26, hn⟩ := and_e hn
  obtain ⟨hn27, hn⟩ := and_e hn
  obtain ⟨hn28, hn⟩ := and_e hn
  have hn29 := hn
  obtain ⟨a__VALUES, ev__VALUES⟩ := arr_v hn0
  have S__VALUES : Sta s s.heap "com/example/limpet/limpet/io/Status" "$VALUES" "[Lcom/example/limpet/limpet/io/Status;" (.ref a__VALUES) := Sta.start ev__VALUES (Or.inr ⟨(hw _ (List.mem_of_getElem? (i := 3) rfl)), (hw _ (List.mem_of_getElem? (i := 9) rfl))⟩)
  have E__VALUES : Exa s s.heap a__VALUES "[Lcom/example/limpet/limpet/io/Status;" := Exa.start ev__VALUES hn1
  obtain ⟨a_OK, ev_OK⟩ := exa_v hn3
  have S_OK : Sta s s.heap "com/example/limpet/limpet/io/Status" "OK" "Lcom/example/limpet/limpet/io/Status;" (.ref a_OK) := Sta.start ev_OK (Or.inr ⟨(hw _ (List.mem_of_getElem? (i := 3) rfl)), (hw _ (List.mem_of_getElem? (i := 17) rfl))⟩)
  have E_OK : Exa s s.heap a_OK "com/example/limpet/limpet/io/Status" := Exa.start ev_OK hn3
  obtain ⟨a_BAD_REQUEST, ev_BAD_REQUEST⟩ := exa_v hn5
  have S_BAD_REQUEST : Sta s s.heap "com/example/limpet/limpet/io/Status" "BAD_REQUEST" "Lcom/example/limpet/limpet/io/Status;" (.ref a_BAD_REQUEST) := Sta.start ev_BAD_REQUEST (Or.inr ⟨(hw _ (List.mem_of_getElem? (i := 3) rfl)), (hw _ (List.mem_of_getElem? (i := 18) rfl))⟩)
  have E_BAD_REQUEST : Exa s s.heap a_BAD_REQUEST "com/example/limpet/limpet/io/Status" := Exa.start ev_BAD_REQUEST hn5
  obtain ⟨a_NOT_FOUND, ev_NOT_FOUND⟩ := exa_v hn7
  have S_NOT_FOUND : Sta s s.heap "com/example/limpet/limpet/io/Status" "NOT_FOUND" "Lcom/example/limpet/limpet/io/Status;" (.ref a_NOT_FOUND) := Sta.start ev_NOT_FOUND (Or.inr ⟨(hw _ (List.mem_of_getElem? (i := 3) rfl)), (hw _ (List.mem_of_getElem? (i := 19) rfl))⟩)
  have E_NOT_FOUND : Exa s s.heap a_NOT_FOUND "com/example/limpet/limpet/io/Status" := Exa.start ev_NOT_FOUND hn7
  obtain ⟨a_FAILED, ev_FAILED⟩ := exa_v hn9
  have S_FAILED : Sta s s.heap "com/example/limpet/limpet/io/Status" "FAILED" "Lcom/example/limpet/limpet/io/Status;" (.ref a_FAILED) := Sta.start ev_FAILED (Or.inr ⟨(hw _ (List.mem_of_getElem? (i := 3) rfl)), (hw _ (List.mem_of_getElem? (i := 20) rfl))⟩)
  have E_FAILED : Exa s s.heap a_FAILED "com/example/limpet/limpet/io/Status" := Exa.start ev_FAILED hn9
  obtain ⟨a_UNSUPPORTED_KEY, ev_UNSUPPORTED_KEY⟩ := exa_v hn11
  have S_UNSUPPORTED_KEY : Sta s s.heap "com/example/limpet/limpet/io/Status" "UNSUPPORTED_KEY" "Lcom/example/limpet/limpet/io/Status;" (.ref a_UNSUPPORTED_KEY) := Sta.start ev_UNSUPPORTED_KEY (Or.inr ⟨(hw _ (List.mem_of_getElem? (i := 3) rfl)), (hw _ (List.mem_of_getElem? (i := 21) rfl))⟩)
  have E_UNSUPPORTED_KEY : Exa s s.heap a_UNSUPPORTED_KEY "com/example/limpet/limpet/io/Status" := Exa.start ev_UNSUPPORTED_KEY hn11
  obtain ⟨a_PERMISSION_DENIED, ev_PERMISSION_DENIED⟩ := exa_v hn13
  have S_PERMISSION_DENIED : Sta s s.heap "com/example/limpet/limpet/io/Status" "PERMISSION_DENIED" "Lcom/example/limpet/limpet/io/Status;" (.ref a_PERMISSION_DENIED) := Sta.start ev_PERMISSION_DENIED (Or.inr ⟨(hw _ (List.mem_of_getElem? (i := 3) rfl)), (hw _ (List.mem_of_getElem? (i := 22) rfl))⟩)
  have E_PERMISSION_DENIED : Exa s s.heap a_PERMISSION_DENIED "com/example/limpet/limpet/io/Status" := Exa.start ev_PERMISSION_DENIED hn13
  obtain ⟨a_GRANT_NOT_FOUND, ev_GRANT_NOT_FOUND⟩ := exa_v hn15
  have S_GRANT_NOT_FOUND : Sta s s.heap "com/example/limpet/limpet/io/Status" "GRANT_NOT_FOUND" "Lcom/example/limpet/limpet/io/Status;" (.ref a_GRANT_NOT_FOUND) := Sta.start ev_GRANT_NOT_FOUND (Or.inr ⟨(hw _ (List.mem_of_getElem? (i := 3) rfl)), (hw _ (List.mem_of_getElem? (i := 23) rfl))⟩)
  have E_GRANT_NOT_FOUND : Exa s s.heap a_GRANT_NOT_FOUND "com/example/limpet/limpet/io/Status" := Exa.start ev_GRANT_NOT_FOUND hn15
  obtain ⟨a_TOO_MANY_KEYS, ev_TOO_MANY_KEYS⟩ := exa_v hn17
  have S_TOO_MANY_KEYS : Sta s s.heap "com/example/limpet/limpet/io/Status" "TOO_MANY_KEYS" "Lcom/example/limpet/limpet/io/Status;" (.ref a_TOO_MANY_KEYS) := Sta.start ev_TOO_MANY_KEYS (Or.inr ⟨(hw _ (List.mem_of_getElem? (i := 3) rfl)), (hw _ (List.mem_of_getElem? (i := 24) rfl))⟩)
  have E_TOO_MANY_KEYS : Exa s s.heap a_TOO_MANY_KEYS "com/example/limpet/limpet/io/Status" := Exa.start ev_TOO_MANY_KEYS hn17
  obtain ⟨a_TOO_MANY_GRANTS, ev_TOO_MANY_GRANTS⟩ := exa_v hn19
  have S_TOO_MANY_GRANTS : Sta s s.heap "com/example/limpet/limpet/io/Status" "TOO_MANY_GRANTS" "Lcom/example/limpet/limpet/io/Status;" (.ref a_TOO_MANY_GRANTS) := Sta.start ev_TOO_MANY_GRANTS (Or.inr ⟨(hw _ (List.mem_of_getElem? (i := 3) rfl)), (hw _ (List.mem_of_getElem? (i := 25) rfl))⟩)
  have E_TOO_MANY_GRANTS : Exa s s.heap a_TOO_MANY_GRANTS "com/example/limpet/limpet/io/Status" := Exa.start ev_TOO_MANY_GRANTS hn19
  have F_OK_code : Fld s s.heap a_OK "com/example/limpet/limpet/io/Status" "code" "I" (.int (0 : Int32)) := Fld.start ((fld_at ev_OK).symm.trans (own_eqI hn21))
  have F_BAD_REQUEST_code : Fld s s.heap a_BAD_REQUEST "com/example/limpet/limpet/io/Status" "code" "I" (.int (1 : Int32)) := Fld.start ((fld_at ev_BAD_REQUEST).symm.trans (own_eqI hn22))
  have F_NOT_FOUND_code : Fld s s.heap a_NOT_FOUND "com/example/limpet/limpet/io/Status" "code" "I" (.int (2 : Int32)) := Fld.start ((fld_at ev_NOT_FOUND).symm.trans (own_eqI hn23))
  have F_FAILED_code : Fld s s.heap a_FAILED "com/example/limpet/limpet/io/Status" "code" "I" (.int (3 : Int32)) := Fld.start ((fld_at ev_FAILED).symm.trans (own_eqI hn24))
  have F_UNSUPPORTED_KEY_code : Fld s s.heap a_UNSUPPORTED_KEY "com/example/limpet/limpet/io/Status" "code" "I" (.int (4 : Int32)) := Fld.start ((fld_at ev_UNSUPPORTED_KEY).symm.trans (own_eqI hn25))
  have F_PERMISSION_DENIED_code : Fld s s.heap a_PERMISSION_DENIED "com/example/limpet/limpet/io/Status" "code" "I" (.int (5 : Int32)) := Fld.start ((fld_at ev_PERMISSION_DENIED).symm.trans (own_eqI hn26))
  have F_GRANT_NOT_FOUND_code : Fld s s.heap a_GRANT_NOT_FOUND "com/example/limpet/limpet/io/Status" "code" "I" (.int (6 : Int32)) := Fld.start ((fld_at ev_GRANT_NOT_FOUND).symm.trans (own_eqI hn27))
  have F_TOO_MANY_KEYS_code : Fld s s.heap a_TOO_MANY_KEYS "com/example/limpet/limpet/io/Status" "code" "I" (.int (7 : Int32)) := Fld.start ((fld_at ev_TOO_MANY_KEYS).symm.trans (own_eqI hn28))
  have F_TOO_MANY_GRANTS_code : Fld s s.heap a_TOO_MANY_GRANTS "com/example/limpet/limpet/io/Status" "code" "I" (.int (8 : Int32)) := Fld.start ((fld_at ev_TOO_MANY_GRANTS).symm.trans (own_eqI hn29))
  obtain ⟨cl__VALUES, A__VALUES⟩ := Arr.start ev__VALUES hn0
  obtain ⟨ql__VALUES, el__VALUES⟩ := own_len ev__VALUES A__VALUES (own_eqI hn2)
  have V__VALUES : Arv s s.heap a__VALUES cl__VALUES.cls (.object "com/example/limpet/limpet/io/Status") (9 : Int32) [(.ref a_OK), (.ref a_BAD_REQUEST), (.ref a_NOT_FOUND), (.ref a_FAILED), (.ref a_UNSUPPORTED_KEY), (.ref a_PERMISSION_DENIED), (.ref a_GRANT_NOT_FOUND), (.ref a_TOO_MANY_KEYS), (.ref a_TOO_MANY_GRANTS)] .null := Arv.start hfit A__VALUES ql__VALUES el__VALUES (by decide) rfl ⟨own_elem ev__VALUES A__VALUES (own_eqR hn4 ev_OK), own_elem ev__VALUES A__VALUES (own_eqR hn6 ev_BAD_REQUEST), own_elem ev__VALUES A__VALUES (own_eqR hn8 ev_NOT_FOUND), own_elem ev__VALUES A__VALUES (own_eqR hn10 ev_FAILED), own_elem ev__VALUES A__VALUES (own_eqR hn12 ev_UNSUPPORTED_KEY), own_elem ev__VALUES A__VALUES (own_eqR hn14 ev_PERMISSION_DENIED), own_elem ev__VALUES A__VALUES (own_eqR hn16 ev_GRANT_NOT_FOUND), own_elem ev__VALUES A__VALUES (own_eqR hn18 ev_TOO_MANY_KEYS), own_elem ev__VALUES A__VALUES (own_eqR hn20 ev_TOO_MANY_GRANTS), trivial⟩
  have W : OwnWd s s.heap (fun i => [a_OK, a_BAD_REQUEST, a_NOT_FOUND, a_FAILED, a_UNSUPPORTED_KEY, a_PERMISSION_DENIED, a_GRANT_NOT_FOUND, a_TOO_MANY_KEYS, a_TOO_MANY_GRANTS].getD i 0) a__VALUES cl__VALUES.cls := ⟨S_OK, E_OK, F_OK_code, S_BAD_REQUEST, E_BAD_REQUEST, F_BAD_REQUEST_code, S_NOT_FOUND, E_NOT_FOUND, F_NOT_FOUND_code, S_FAILED, E_FAILED, F_FAILED_code, S_UNSUPPORTED_KEY, E_UNSUPPORTED_KEY, F_UNSUPPORTED_KEY_code, S_PERMISSION_DENIED, E_PERMISSION_DENIED, F_PERMISSION_DENIED_code, S_GRANT_NOT_FOUND, E_GRANT_NOT_FOUND, F_GRANT_NOT_FOUND_code, S_TOO_MANY_KEYS, E_TOO_MANY_KEYS, F_TOO_MANY_KEYS_code, S_TOO_MANY_GRANTS, E_TOO_MANY_GRANTS, F_TOO_MANY_GRANTS_code, S__VALUES, V__VALUES, E__VALUES⟩
  have hm_i0 := c_mask i0 (2147483647 : Int32) 31 (by decide) (by decide)
  have hr_i0 := (c_irem (i0 &&& (2147483647 : Int32)) (9 : Int32) 9 (by decide)).1 (by omega)
  have hc8 : ((i0 &&& (2147483647 : Int32)) % (9 : Int32)).toInt = 0 ∨ ((i0 &&& (2147483647 : Int32)) % (9 : Int32)).toInt = 1 ∨ ((i0 &&& (2147483647 : Int32)) % (9 : Int32)).toInt = 2 ∨ ((i0 &&& (2147483647 : Int32)) % (9 : Int32)).toInt = 3 ∨ ((i0 &&& (2147483647 : Int32)) % (9 : Int32)).toInt = 4 ∨ ((i0 &&& (2147483647 : Int32)) % (9 : Int32)).toInt = 5 ∨ ((i0 &&& (2147483647 : Int32)) % (9 : Int32)).toInt = 6 ∨ ((i0 &&& (2147483647 : Int32)) % (9 : Int32)).toInt = 7 ∨ ((i0 &&& (2147483647 : Int32)) % (9 : Int32)).toInt = 8 := by omega
  have H : MetFree l x (head1 (Jvm.Cond.code x code maxLocals ret :: tables_1) room_1) (fun a U => a = #[(.int i0)] ∧ s.Warmed39 U.vm ∧ U.heap = s.heap) (fun _ _ _ _ _ => True) (fun _ U o U' => ∃ v L, o = .returned v ∧ QN (some (.int (1 : Int32))) s.heap.size v U'.heap L ∧ FrameEnd U o U' L room_1.cells room_1.slots) := by
    rcases hc8 with hk | hk | hk | hk | hk | hk | hk | hk | hk
    · exact own_law_0 l s _ hw tables_1 s.heap s.heap.size (Nat.le_refl _)  i0 (Int32.toInt_inj.mp (hk.trans (by decide))) (fun i => [a_OK, a_BAD_REQUEST, a_NOT_FOUND, a_FAILED, a_UNSUPPORTED_KEY, a_PERMISSION_DENIED, a_GRANT_NOT_FOUND, a_TOO_MANY_KEYS, a_TOO_MANY_GRANTS].getD i 0) a__VALUES cl__VALUES.cls W
    · exact own_law_1 l s _ hw tables_1 s.heap s.heap.size (Nat.le_refl _)  i0 (Int32.toInt_inj.mp (hk.trans (by decide))) (fun i => [a_OK, a_BAD_REQUEST, a_NOT_FOUND, a_FAILED, a_UNSUPPORTED_KEY, a_PERMISSION_DENIED, a_GRANT_NOT_FOUND, a_TOO_MANY_KEYS, a_TOO_MANY_GRANTS].getD i 0) a__VALUES cl__VALUES.cls W
    · exact own_law_2 l s _ hw tables_1 s.heap s.heap.size (Nat.le_refl _)  i0 (Int32.toInt_inj.mp (hk.trans (by decide))) (fun i => [a_OK, a_BAD_REQUEST, a_NOT_FOUND, a_FAILED, a_UNSUPPORTED_KEY, a_PERMISSION_DENIED, a_GRANT_NOT_FOUND, a_TOO_MANY_KEYS, a_TOO_MANY_GRANTS].getD i 0) a__VALUES cl__VALUES.cls W
    · exact own_law_3 l s _ hw tables_1 s.heap s.heap.size (Nat.le_refl _)  i0 (Int32.toInt_inj.mp (hk.trans (by decide))) (fun i => [a_OK, a_BAD_REQUEST, a_NOT_FOUND, a_FAILED, a_UNSUPPORTED_KEY, a_PERMISSION_DENIED, a_GRANT_NOT_FOUND, a_TOO_MANY_KEYS, a_TOO_MANY_GRANTS].getD i 0) a__VALUES cl__VALUES.cls W
    · exact own_law_4 l s _ hw tables_1 s.heap s.heap.size (Nat.le_refl _)  i0 (Int32.toInt_inj.mp (hk.trans (by decide))) (fun i => [a_OK, a_BAD_REQUEST, a_NOT_FOUND, a_FAILED, a_UNSUPPORTED_KEY, a_PERMISSION_DENIED, a_GRANT_NOT_FOUND, a_TOO_MANY_KEYS, a_TOO_MANY_GRANTS].getD i 0) a__VALUES cl__VALUES.cls W
    · exact own_law_5 l s _ hw tables_1 s.heap s.heap.size (Nat.le_refl _)  i0 (Int32.toInt_inj.mp (hk.trans (by decide))) (fun i => [a_OK, a_BAD_REQUEST, a_NOT_FOUND, a_FAILED, a_UNSUPPORTED_KEY, a_PERMISSION_DENIED, a_GRANT_NOT_FOUND, a_TOO_MANY_KEYS, a_TOO_MANY_GRANTS].getD i 0) a__VALUES cl__VALUES.cls W
    · exact own_law_6 l s _ hw tables_1 s.heap s.heap.size (Nat.le_refl _)  i0 (Int32.toInt_inj.mp (hk.trans (by decide))) (fun i => [a_OK, a_BAD_REQUEST, a_NOT_FOUND, a_FAILED, a_UNSUPPORTED_KEY, a_PERMISSION_DENIED, a_GRANT_NOT_FOUND, a_TOO_MANY_KEYS, a_TOO_MANY_GRANTS].getD i 0) a__VALUES cl__VALUES.cls W
    · exact own_law_7 l s _ hw tables_1 s.heap s.heap.size (Nat.le_refl _)  i0 (Int32.toInt_inj.mp (hk.trans (by decide))) (fun i => [a_OK, a_BAD_REQUEST, a_NOT_FOUND, a_FAILED, a_UNSUPPORTED_KEY, a_PERMISSION_DENIED, a_GRANT_NOT_FOUND, a_TOO_MANY_KEYS, a_TOO_MANY_GRANTS].getD i 0) a__VALUES cl__VALUES.cls W
    · exact own_law_8 l s _ hw tables_1 s.heap s.heap.size (Nat.le_refl _)  i0 (Int32.toInt_inj.mp (hk.trans (by decide))) (fun i => [a_OK, a_BAD_REQUEST, a_NOT_FOUND, a_FAILED, a_UNSUPPORTED_KEY, a_PERMISSION_DENIED, a_GRANT_NOT_FOUND, a_TOO_MANY_KEYS, a_TOO_MANY_GRANTS].getD i 0) a__VALUES cl__VALUES.cls W
  obtain ⟨n, o, h1, h2, h3, _, L, rfl, ⟨rfl, N⟩, hq⟩ := H p e ha hc hk s m _ below hf ((Spec.applies_iff_loose hf).mp happ).1 ⟨rfl, State.Warmed39.refl s, rfl⟩ trivial
  refine ⟨n, _, h1, h2, h3, hpost _ _ _ _ _ _ ⟨Cond.after_iff.mpr rfl, Cond.after_iff.mpr (eq_i res_at (Term.int_eval (1)) rfl), trivial⟩ ⟨hq.1, hq.2.1, (hq.2.2.sift fun y hy => Or.inr (N y hy)).mono (by decide) (by decide)⟩⟩
theorem main_1_1 : Claimed_1_1 := comes_1 fun _ _ _ _ _ _ h hF => ⟨h.1, hF⟩
theorem main_1_2 : Claimed_1_2 := comes_1 fun _ _ _ _ _ _ h hF => ⟨h.2.1, hF⟩
end Jvm.Pilot.@@N@@
namespace Jvm.Pilot.@@N@@
open Jvm Jvm.ClassFile Sem Op Lib Jvm.Free Jvm.Stand Jvm.Pilot.@@N@@.Jvm.D
/-! MADE BY PROGRAM (witnessworld.py) out of the Statement's table words and the real class files: 13 classes; the members and pool entries that the words name. The judged class is class 1, her method 2. -/
namespace start1
open Jvm.ClassFile
def u (s : String) : CpInfo := .utf8 (stringToUtf16 s)
/-- a pool by its gaps: so many unusable entries, then the entry; so many at the end -/
def gap : Nat → List CpInfo → List CpInfo
  | 0, r => r
  | n + 1, r => .unusable :: gap n r
def poolList (es : List (Nat × CpInfo)) (last : Nat) : List CpInfo := es.foldr (fun e r => gap e.1 (e.2 :: r)) (gap last [])
def pool (es : List (Nat × CpInfo)) (last : Nat) : Array CpInfo := ⟨poolList es last⟩
def fileOf (pool : Array CpInfo) (this : Nat) (attrs : Array Attribute := #[]) (ms : Array MethodInfo := #[]) (fl : Nat := 33) (sup : Nat := 0) (ifs : Array Nat := #[]) (fds : Array FieldInfo := #[]) : ClassFile where
  minorVersion := 0
  majorVersion := 65
  constantPool := pool
  accessFlags := fl
  thisClass := this
  superClass := sup
  interfaces := ifs
  fields := fds
  methods := ms
  attributes := attrs
def plain (name : String) (sup : Option ClassId) : Class where
  name := name
  kind := .ordinary
  loader := none
  accessFlags := 33
  super := sup
  interfaces := #[]
  cf := none
  fields := #[]
  methods := #[]
  instanceTypes := #[]
  staticTypes := #[]
  resolved := #[]
  callSites := []
  init := .initialized
  statics := none
  mirror := none

def pool0 : Array CpInfo := pool [(5, u "<init>"), (0, u "()V"), (1, .class_ 10), (1, u "java/lang/Object"), (85, u "clone"), (0, u "()Ljava/lang/Object;")] 26

def k0m0 : Method := { name := "<init>", desc := "()V", sig := { parameters := [], returnType := none }, accessFlags := 1, code := none }
def k0m1 : Method := { name := "clone", desc := "()Ljava/lang/Object;", sig := { parameters := [], returnType := some (.object "java/lang/Object") }, accessFlags := 260, code := none }
/-- java/lang/Object -/
def k0 : Class := { plain "java/lang/Object" none with
  accessFlags := 33
  interfaces := #[]
  cf := some (fileOf pool0 8 #[] #[{ accessFlags := 1, nameIndex := 5, descriptorIndex := 6, attributes := #[] }, { accessFlags := 260, nameIndex := 96, descriptorIndex := 97, attributes := #[] }] 33 0 #[] #[])
  fields := #[]
  methods := #[k0m0, k0m1]
  instanceTypes := #[]
  staticTypes := #[]
  resolved := Array.replicate 124 none
  statics := none }

def pool1 : Array CpInfo := pool [(2, .class_ 4), (1, u "java/lang/Object"), (0, u "<init>"), (0, u "()V"), (0, .fieldref 8 9), (0, .class_ 10), (0, .nameAndType 11 12), (0, u "com/example/limpet/limpet/io/Status"), (0, u "OK"), (0, u "Lcom/example/limpet/limpet/io/Status;"), (0, .fieldref 8 14), (0, .nameAndType 15 12), (0, u "BAD_REQUEST"), (0, .fieldref 8 17), (0, .nameAndType 18 12), (0, u "NOT_FOUND"), (0, .fieldref 8 20), (0, .nameAndType 21 12), (0, u "FAILED"), (0, .fieldref 8 23), (0, .nameAndType 24 12), (0, u "UNSUPPORTED_KEY"), (0, .fieldref 8 26), (0, .nameAndType 27 12), (0, u "PERMISSION_DENIED"), (0, .fieldref 8 29), (0, .nameAndType 30 12), (0, u "GRANT_NOT_FOUND"), (0, .fieldref 8 32), (0, .nameAndType 33 12), (0, u "TOO_MANY_KEYS"), (0, .fieldref 8 35), (0, .nameAndType 36 12), (0, u "TOO_MANY_GRANTS"), (0, .integer 2147483647), (0, .methodref 8 39), (0, .nameAndType 40 41), (0, u "fromCode"), (0, u "(I)Lcom/example/limpet/limpet/io/Status;"), (0, .methodref 43 44), (0, .class_ 45), (0, .nameAndType 46 41), (0, u "com/example/limpet/limpet/io/StatusFromCodePinLaw"), (0, u "expected"), (0, .methodref 8 48), (0, .nameAndType 49 50), (0, u "code"), (0, u "()I"), (3, u "law"), (0, u "(I)Z")] 2

def k1m0 : Method := { name := "<init>", desc := "()V", sig := { parameters := [], returnType := none }, accessFlags := 2, code := none }
def k1c1 : Code := { maxStack := 2, maxLocals := 1, code := method_2_code, exceptionTable := #[], attributes := #[] }
def k1m1 : Method := { name := "expected", desc := "(I)Lcom/example/limpet/limpet/io/Status;", sig := { parameters := [.int], returnType := some (.object "com/example/limpet/limpet/io/Status") }, accessFlags := 10, code := some k1c1 }
def k1c2 : Code := { maxStack := 2, maxLocals := 4, code := code, exceptionTable := #[], attributes := #[] }
def k1m2 : Method := { name := "law", desc := "(I)Z", sig := { parameters := [.int], returnType := some .boolean }, accessFlags := 9, code := some k1c2 }
/-- com/example/limpet/limpet/io/StatusFromCodePinLaw -/
def k1 : Class := { plain "com/example/limpet/limpet/io/StatusFromCodePinLaw" (some 0) with
  accessFlags := 49
  interfaces := #[]
  cf := some (fileOf pool1 43 #[] #[{ accessFlags := 2, nameIndex := 5, descriptorIndex := 6, attributes := #[] }, { accessFlags := 10, nameIndex := 46, descriptorIndex := 41, attributes := #[] }, { accessFlags := 9, nameIndex := 54, descriptorIndex := 55, attributes := #[] }] 49 2 #[] #[])
  fields := #[]
  methods := #[k1m0, k1m1, k1m2]
  instanceTypes := #[]
  staticTypes := #[]
  resolved := Array.replicate 58 none
  statics := none }

def pool2 : Array CpInfo := pool [(1, .class_ 2), (0, u "java/lang/constant/Constable"), (0, .class_ 4), (0, u "java/lang/Object")] 6

/-- java/lang/constant/Constable -/
def k2 : Class := { plain "java/lang/constant/Constable" (some 0) with
  accessFlags := 1537
  interfaces := #[]
  cf := some (fileOf pool2 1 #[] #[] 1537 3 #[] #[])
  fields := #[]
  methods := #[]
  instanceTypes := #[]
  staticTypes := #[]
  resolved := Array.replicate 11 none
  statics := none }

def pool3 : Array CpInfo := pool [(1, .class_ 2), (0, u "java/lang/Comparable"), (0, .class_ 4), (0, u "java/lang/Object")] 7

/-- java/lang/Comparable -/
def k3 : Class := { plain "java/lang/Comparable" (some 0) with
  accessFlags := 1537
  interfaces := #[]
  cf := some (fileOf pool3 1 #[] #[] 1537 3 #[] #[])
  fields := #[]
  methods := #[]
  instanceTypes := #[]
  staticTypes := #[]
  resolved := Array.replicate 12 none
  statics := none }

def pool4 : Array CpInfo := pool [(1, .class_ 2), (0, u "java/io/Serializable"), (0, .class_ 4), (0, u "java/lang/Object")] 2

/-- java/io/Serializable -/
def k4 : Class := { plain "java/io/Serializable" (some 0) with
  accessFlags := 1537
  interfaces := #[]
  cf := some (fileOf pool4 1 #[] #[] 1537 3 #[] #[])
  fields := #[]
  methods := #[]
  instanceTypes := #[]
  staticTypes := #[]
  resolved := Array.replicate 7 none
  statics := none }

def pool5 : Array CpInfo := pool [(2, .class_ 4), (1, u "java/lang/Enum"), (0, u "name"), (0, u "Ljava/lang/String;"), (2, u "ordinal"), (0, u "I"), (1, .class_ 14), (1, u "java/lang/Object"), (4, u "hash"), (86, .class_ 108), (1, u "java/lang/Enum$EnumDesc"), (2, .class_ 112), (0, u "java/lang/constant/Constable"), (0, .class_ 114), (0, u "java/lang/Comparable"), (0, .class_ 116), (0, u "java/io/Serializable")] 87

/-- java/lang/Enum -/
def k5 : Class := { plain "java/lang/Enum" (some 0) with
  accessFlags := 1057
  interfaces := #[2, 3, 4]
  cf := some (fileOf pool5 2 #[.nestMembers #[106]] #[] 1057 12 #[111, 113, 115] #[{ accessFlags := 18, nameIndex := 5, descriptorIndex := 6, attributes := #[] }, { accessFlags := 18, nameIndex := 9, descriptorIndex := 10, attributes := #[] }, { accessFlags := 2, nameIndex := 19, descriptorIndex := 10, attributes := #[] }])
  fields := #[{ name := "name", type := (.object "java/lang/String"), accessFlags := 18, slot := 0, constantValue := 0 }, { name := "ordinal", type := .int, accessFlags := 18, slot := 1, constantValue := 0 }, { name := "hash", type := .int, accessFlags := 2, slot := 2, constantValue := 0 }]
  methods := #[]
  instanceTypes := #[(.object "java/lang/String"), .int, .int]
  staticTypes := #[]
  resolved := Array.replicate 204 none
  statics := none }

def pool6 : Array CpInfo := pool [(1, .class_ 2), (0, u "com/example/limpet/limpet/io/Status"), (2, u "OK"), (0, u "Lcom/example/limpet/limpet/io/Status;"), (2, u "BAD_REQUEST"), (2, u "NOT_FOUND"), (2, u "FAILED"), (2, u "UNSUPPORTED_KEY"), (2, u "PERMISSION_DENIED"), (2, u "GRANT_NOT_FOUND"), (2, u "TOO_MANY_KEYS"), (2, u "TOO_MANY_GRANTS"), (0, .fieldref 1 32), (0, .nameAndType 33 34), (0, u "$VALUES"), (0, u "[Lcom/example/limpet/limpet/io/Status;"), (0, .methodref 36 37), (0, .class_ 34), (0, .nameAndType 38 39), (0, u "clone"), (0, u "()Ljava/lang/Object;"), (1, .class_ 43), (1, u "java/lang/Enum"), (6, .fieldref 1 51), (0, .nameAndType 52 53), (0, u "code"), (0, u "I"), (0, .methodref 1 55), (0, .nameAndType 56 57), (0, u "values"), (0, u "()[Lcom/example/limpet/limpet/io/Status;"), (30, u "()I"), (0, u "fromCode"), (0, u "(I)Lcom/example/limpet/limpet/io/Status;")] 21

def k6c0 : Code := { maxStack := 1, maxLocals := 0, code := prog_38_method_1_code, exceptionTable := #[], attributes := #[] }
def k6m0 : Method := { name := "values", desc := "()[Lcom/example/limpet/limpet/io/Status;", sig := { parameters := [], returnType := some (.array (.object "com/example/limpet/limpet/io/Status")) }, accessFlags := 9, code := some k6c0 }
def k6c1 : Code := { maxStack := 1, maxLocals := 1, code := prog_38_method_4_code, exceptionTable := #[], attributes := #[] }
def k6m1 : Method := { name := "code", desc := "()I", sig := { parameters := [], returnType := some .int }, accessFlags := 1, code := some k6c1 }
def k6c2 : Code := { maxStack := 3, maxLocals := 5, code := prog_38_method_5_code, exceptionTable := #[], attributes := #[] }
def k6m2 : Method := { name := "fromCode", desc := "(I)Lcom/example/limpet/limpet/io/Status;", sig := { parameters := [.int], returnType := some (.object "com/example/limpet/limpet/io/Status") }, accessFlags := 9, code := some k6c2 }
/-- com/example/limpet/limpet/io/Status -/
def k6 : Class := { plain "com/example/limpet/limpet/io/Status" (some 5) with
  accessFlags := 16433
  interfaces := #[]
  cf := some (fileOf pool6 1 #[] #[{ accessFlags := 9, nameIndex := 56, descriptorIndex := 57, attributes := #[] }, { accessFlags := 1, nameIndex := 52, descriptorIndex := 88, attributes := #[] }, { accessFlags := 9, nameIndex := 89, descriptorIndex := 90, attributes := #[] }] 16433 41 #[] #[{ accessFlags := 16409, nameIndex := 5, descriptorIndex := 6, attributes := #[] }, { accessFlags := 16409, nameIndex := 9, descriptorIndex := 6, attributes := #[] }, { accessFlags := 16409, nameIndex := 12, descriptorIndex := 6, attributes := #[] }, { accessFlags := 16409, nameIndex := 15, descriptorIndex := 6, attributes := #[] }, { accessFlags := 16409, nameIndex := 18, descriptorIndex := 6, attributes := #[] }, { accessFlags := 16409, nameIndex := 21, descriptorIndex := 6, attributes := #[] }, { accessFlags := 16409, nameIndex := 24, descriptorIndex := 6, attributes := #[] }, { accessFlags := 16409, nameIndex := 27, descriptorIndex := 6, attributes := #[] }, { accessFlags := 16409, nameIndex := 30, descriptorIndex := 6, attributes := #[] }, { accessFlags := 18, nameIndex := 52, descriptorIndex := 53, attributes := #[] }, { accessFlags := 4122, nameIndex := 33, descriptorIndex := 34, attributes := #[] }])
  fields := #[{ name := "OK", type := (.object "com/example/limpet/limpet/io/Status"), accessFlags := 16409, slot := 0, constantValue := 0 }, { name := "BAD_REQUEST", type := (.object "com/example/limpet/limpet/io/Status"), accessFlags := 16409, slot := 1, constantValue := 0 }, { name := "NOT_FOUND", type := (.object "com/example/limpet/limpet/io/Status"), accessFlags := 16409, slot := 2, constantValue := 0 }, { name := "FAILED", type := (.object "com/example/limpet/limpet/io/Status"), accessFlags := 16409, slot := 3, constantValue := 0 }, { name := "UNSUPPORTED_KEY", type := (.object "com/example/limpet/limpet/io/Status"), accessFlags := 16409, slot := 4, constantValue := 0 }, { name := "PERMISSION_DENIED", type := (.object "com/example/limpet/limpet/io/Status"), accessFlags := 16409, slot := 5, constantValue := 0 }, { name := "GRANT_NOT_FOUND", type := (.object "com/example/limpet/limpet/io/Status"), accessFlags := 16409, slot := 6, constantValue := 0 }, { name := "TOO_MANY_KEYS", type := (.object "com/example/limpet/limpet/io/Status"), accessFlags := 16409, slot := 7, constantValue := 0 }, { name := "TOO_MANY_GRANTS", type := (.object "com/example/limpet/limpet/io/Status"), accessFlags := 16409, slot := 8, constantValue := 0 }, { name := "code", type := .int, accessFlags := 18, slot := 3, constantValue := 0 }, { name := "$VALUES", type := (.array (.object "com/example/limpet/limpet/io/Status")), accessFlags := 4122, slot := 9, constantValue := 0 }]
  methods := #[k6m0, k6m1, k6m2]
  instanceTypes := #[(.object "java/lang/String"), .int, .int, .int]
  staticTypes := #[(.object "com/example/limpet/limpet/io/Status"), (.object "com/example/limpet/limpet/io/Status"), (.object "com/example/limpet/limpet/io/Status"), (.object "com/example/limpet/limpet/io/Status"), (.object "com/example/limpet/limpet/io/Status"), (.object "com/example/limpet/limpet/io/Status"), (.object "com/example/limpet/limpet/io/Status"), (.object "com/example/limpet/limpet/io/Status"), (.object "com/example/limpet/limpet/io/Status"), (.array (.object "com/example/limpet/limpet/io/Status"))]
  resolved := Array.replicate 112 none
  statics := some 0 }

def pool7 : Array CpInfo := pool [(1, .class_ 2), (0, u "java/lang/Cloneable"), (0, .class_ 4), (0, u "java/lang/Object")] 2

/-- java/lang/Cloneable -/
def k7 : Class := { plain "java/lang/Cloneable" (some 0) with
  accessFlags := 1537
  interfaces := #[]
  cf := some (fileOf pool7 1 #[] #[] 1537 3 #[] #[])
  fields := #[]
  methods := #[]
  instanceTypes := #[]
  staticTypes := #[]
  resolved := Array.replicate 7 none
  statics := none }

/-- the primitive byte -/
def k8 : Class := { plain "byte" none with kind := .primitive 'B', accessFlags := 0x411 }
/-- [B -/
def k9 : Class := { plain "[B" (some 0) with kind := .array 8 .byte, interfaces := #[7, 4], accessFlags := 1041 }

/-- the primitive int -/
def k10 : Class := { plain "int" none with kind := .primitive 'I', accessFlags := 0x411 }
/-- [I -/
def k11 : Class := { plain "[I" (some 0) with kind := .array 10 .int, interfaces := #[7, 4], accessFlags := 1041 }

/-- [Lcom/example/limpet/limpet/io/Status; -/
def k12 : Class := { plain "[Lcom/example/limpet/limpet/io/Status;" (some 0) with kind := .array 6 (.object "com/example/limpet/limpet/io/Status"), interfaces := #[7, 4], accessFlags := 1041 }

def heap : Heap := #[{ cls := 6, slots := #[.ref 2, .ref 3, .ref 4, .ref 5, .ref 6, .ref 7, .ref 8, .ref 9, .ref 10, .ref 1], vm := .statics 6 },
  { cls := 12, slots := #[.ref 2, .ref 3, .ref 4, .ref 5, .ref 6, .ref 7, .ref 8, .ref 9, .ref 10], vm := .none },
  { cls := 6, slots := #[.null, .int 0, .int 0, .int 0], vm := .none },
  { cls := 6, slots := #[.null, .int 0, .int 0, .int 1], vm := .none },
  { cls := 6, slots := #[.null, .int 0, .int 0, .int 2], vm := .none },
  { cls := 6, slots := #[.null, .int 0, .int 0, .int 3], vm := .none },
  { cls := 6, slots := #[.null, .int 0, .int 0, .int 4], vm := .none },
  { cls := 6, slots := #[.null, .int 0, .int 0, .int 5], vm := .none },
  { cls := 6, slots := #[.null, .int 0, .int 0, .int 6], vm := .none },
  { cls := 6, slots := #[.null, .int 0, .int 0, .int 7], vm := .none },
  { cls := 6, slots := #[.null, .int 0, .int 0, .int 8], vm := .none }]
def classes : Array Class := #[k0, k1, k2, k3, k4, k5, k6, k7, k8, k9, k10, k11, k12]
def interned : List (Array UInt16 × Addr) := []
def slotsUsed : Nat := 55
def theMethod : MethodId := ⟨1, 2⟩
def args0 : Array Value := #[.int 4]
def aboutOver (below : List Frame) : State where
  vm := { classes := classes, interned := interned.toArray }
  heap := heap
  slotsUsed := slotsUsed
  threads := #[{ frames := .invoking theMethod args0 :: below }]
def below0 : List Frame := [.native { method := ⟨0, 0⟩, args := #[] }]
def about1 : State := aboutOver below0
def p0 : Program := .bare "" "" ""
def e0 : Env := launch0.env 0 0 0
theorem w_frames : about1.frames = Frame.invoking theMethod args0 :: below0 := rfl
set_option maxRecDepth 65536 in
theorem w_args : argsFit about1.vm theMethod args0 = true := by decide +kernel
set_option maxRecDepth 65536 in
theorem w_heap : heapFits about1 = true := by decide +kernel
set_option maxRecDepth 65536 in
theorem w_runnable : about1.curStatus? = some .runnable := by decide +kernel
set_option maxRecDepth 65536 in
theorem w_alone : about1.alone = true := by decide +kernel
set_option maxRecDepth 65536 in
theorem w_named : about1.methodNamed? x = some theMethod := by decide +kernel
set_option maxRecDepth 65536 in
theorem w_hears : about1.hears theMethod below0 = true := by decide +kernel
set_option maxRecDepth 65536 in
theorem w_ripe : about1.ripe theMethod args0 below0 = true := by decide +kernel
theorem w_running : about1.status = .running := rfl
set_option maxRecDepth 65536 in
theorem w_room : about1.hasRoom e0.platform room_1 = true :=
  launch0.hasRoom_least _ room_1 (by decide +kernel) (by decide +kernel) (by decide +kernel) (by decide +kernel) (by decide +kernel) (by decide +kernel)
theorem allAtoms_all (ts : List Jvm.Cond) (a : Array Jvm.Value) (st : Jvm.State) : (allAtoms ts).before a st = ts.all (fun c => c.before a st) := by
  induction ts with
  | nil => rfl
  | cons c t ih =>
    show (Jvm.Cond.and c (allAtoms t)).before a st = _
    rw [Jvm.Cond.before_and, ih, List.all_cons]
def words1 : List Jvm.Cond := Jvm.Cond.code x code maxLocals ret :: tables_1
/-- a 'code' word, met by the world's own term for the bytes: nothing is compared byte by byte -/
theorem code_word {y : MethodName} {bytes : ByteArray} {mx : Nat} {rt : Option FieldType} {a : Array Value} {s : State} {m : MethodId} {meth : Method} {c : Code} (h1 : s.methodNamed? y = some m) (h2 : s.vm.method? m = some meth) (h3 : meth.code = some c) (h4 : c.code = bytes)
    (h5 : (c.maxLocals == mx && c.exceptionTable.isEmpty && decide (c.maxStack ≤ mostOperands) && decide (meth.sig.returnType = rt) && !meth.locks && decide (parseMethodDescriptor y.desc = some meth.sig)) = true) : (Jvm.Cond.code y bytes mx rt).before a s = true := by
  simp only [Bool.and_eq_true, beq_iff_eq, Bool.not_eq_true', decide_eq_true_eq] at h5
  obtain ⟨⟨⟨⟨⟨g1, g2⟩, g3⟩, g4⟩, g5⟩, g6⟩ := h5
  simp [Cond.before, Cond.holds, Cond.value, h1, h2, h3, h4, g1, g2, g3, g4, g5, g6]
def isCode : Jvm.Cond → Bool
  | .code _ _ _ _ => true
  | _ => false
theorem all_split {L : List Jvm.Cond} {P : Jvm.Cond → Bool} (h1 : L.all (fun c => isCode c || P c) = true) (h2 : ∀ c ∈ L.filter isCode, P c = true) : L.all P = true := by
  refine List.all_eq_true.mpr fun c hc => ?_
  have h := List.all_eq_true.mp h1 c hc
  rcases Bool.eq_false_or_eq_true (isCode c) with hi | hi
  · exact h2 c (List.mem_filter.mpr ⟨hc, hi⟩)
  · simpa [hi] using h
set_option maxRecDepth 65536 in
theorem w_c0 : (Jvm.Cond.code x code maxLocals ret).before args0 about1 = true := code_word (m := ⟨1, 2⟩) (meth := k1m2) (c := k1c2) (by decide +kernel) rfl rfl rfl (by decide +kernel)
set_option maxRecDepth 65536 in
theorem w_c1 : (Jvm.Cond.code ({ cls := "com/example/limpet/limpet/io/Status", name := "fromCode", desc := "(I)Lcom/example/limpet/limpet/io/Status;" } : Jvm.MethodName) prog_38_method_5_code (5 : Nat) (Option.some (Jvm.ClassFile.FieldType.object "com/example/limpet/limpet/io/Status"))).before args0 about1 = true := code_word (m := ⟨6, 2⟩) (meth := k6m2) (c := k6c2) (by decide +kernel) rfl rfl rfl (by decide +kernel)
set_option maxRecDepth 65536 in
theorem w_c2 : (Jvm.Cond.code ({ cls := "com/example/limpet/limpet/io/Status", name := "values", desc := "()[Lcom/example/limpet/limpet/io/Status;" } : Jvm.MethodName) prog_38_method_1_code (0 : Nat) (Option.some (Jvm.ClassFile.FieldType.array (Jvm.ClassFile.FieldType.object "com/example/limpet/limpet/io/Status")))).before args0 about1 = true := code_word (m := ⟨6, 0⟩) (meth := k6m0) (c := k6c0) (by decide +kernel) rfl rfl rfl (by decide +kernel)
set_option maxRecDepth 65536 in
theorem w_c3 : (Jvm.Cond.code ({ cls := "com/example/limpet/limpet/io/StatusFromCodePinLaw", name := "expected", desc := "(I)Lcom/example/limpet/limpet/io/Status;" } : Jvm.MethodName) method_2_code (1 : Nat) (Option.some (Jvm.ClassFile.FieldType.object "com/example/limpet/limpet/io/Status"))).before args0 about1 = true := code_word (m := ⟨1, 1⟩) (meth := k1m1) (c := k1c1) (by decide +kernel) rfl rfl rfl (by decide +kernel)
set_option maxRecDepth 65536 in
theorem w_c4 : (Jvm.Cond.code ({ cls := "com/example/limpet/limpet/io/Status", name := "code", desc := "()I" } : Jvm.MethodName) prog_38_method_4_code (1 : Nat) (Option.some Jvm.ClassFile.FieldType.int)).before args0 about1 = true := code_word (m := ⟨6, 1⟩) (meth := k6m1) (c := k6c1) (by decide +kernel) rfl rfl rfl (by decide +kernel)
def codes1 : List Jvm.Cond := [Jvm.Cond.code x code maxLocals ret, Jvm.Cond.code ({ cls := "com/example/limpet/limpet/io/Status", name := "fromCode", desc := "(I)Lcom/example/limpet/limpet/io/Status;" } : Jvm.MethodName) prog_38_method_5_code (5 : Nat) (Option.some (Jvm.ClassFile.FieldType.object "com/example/limpet/limpet/io/Status")), Jvm.Cond.code ({ cls := "com/example/limpet/limpet/io/Status", name := "values", desc := "()[Lcom/example/limpet/limpet/io/Status;" } : Jvm.MethodName) prog_38_method_1_code (0 : Nat) (Option.some (Jvm.ClassFile.FieldType.array (Jvm.ClassFile.FieldType.object "com/example/limpet/limpet/io/Status"))), Jvm.Cond.code ({ cls := "com/example/limpet/limpet/io/StatusFromCodePinLaw", name := "expected", desc := "(I)Lcom/example/limpet/limpet/io/Status;" } : Jvm.MethodName) method_2_code (1 : Nat) (Option.some (Jvm.ClassFile.FieldType.object "com/example/limpet/limpet/io/Status")), Jvm.Cond.code ({ cls := "com/example/limpet/limpet/io/Status", name := "code", desc := "()I" } : Jvm.MethodName) prog_38_method_4_code (1 : Nat) (Option.some Jvm.ClassFile.FieldType.int)]
set_option maxRecDepth 65536 in
theorem codes_eq : words1.filter isCode = codes1 := rfl
theorem w_codes : ∀ c ∈ words1.filter isCode, c.before args0 about1 = true := by
  rw [codes_eq]
  intro c hc
  simp only [codes1, List.mem_cons, List.not_mem_nil, or_false] at hc
  rcases hc with rfl | rfl | rfl | rfl | rfl
  · exact w_c0
  · exact w_c1
  · exact w_c2
  · exact w_c3
  · exact w_c4
set_option maxRecDepth 65536 in
theorem w_t1 : (words1.take 24).all (fun c => isCode c || c.before args0 about1) = true := by decide +kernel
set_option maxRecDepth 65536 in
theorem w_t2 : ((words1.drop 24).take 24).all (fun c => isCode c || c.before args0 about1) = true := by decide +kernel
set_option maxRecDepth 65536 in
theorem w_t3 : ((words1.drop 24).drop 24).all (fun c => isCode c || c.before args0 about1) = true := by decide +kernel
theorem w_tables : (allAtoms (Jvm.Cond.code x code maxLocals ret :: tables_1)).before args0 about1 = true := by
  rw [allAtoms_all]
  show words1.all (fun c => c.before args0 about1) = true
  refine all_split ?_ w_codes
  rw [← List.take_append_drop 24 words1, List.all_append, w_t1, ← List.take_append_drop 24 (words1.drop 24), List.all_append, w_t2, w_t3]
  rfl
set_option maxRecDepth 65536 in
theorem w_case : (Jvm.Cond.and given_1 narrow_1).before args0 about1 = true := by decide +kernel
theorem w_applies : (headSpec (Jvm.Cond.code x code maxLocals ret :: tables_1) room_1).applies x e0.platform about1 = true :=
  (Spec.applies_iff w_frames).mpr ⟨w_running, w_runnable, w_alone, w_named, w_hears, w_ripe, w_room, w_tables⟩
theorem atStart : AtStart classFile x code maxLocals ret World_1 tables_1 room_1 Calls_1 rest_1 Pre_1 launch0 p0 e0 about1 theMethod args0 below0 :=
  ⟨lists_1, trivial, launch0.admits_env _ _ _, launch0.least_env, fairChoices_fair.cas, fairChoices_fair.clock, w_frames, w_args, w_heap, w_applies, trivial, trivial, w_case⟩
end start1
theorem witness_1 : WitnessClaimed_1 := ⟨start1.p0, start1.e0, start1.about1, start1.theMethod, start1.args0, start1.below0, start1.atStart⟩
end Jvm.Pilot.@@N@@
