import JvmDerived
import JvmDerived.Pilot.@@N@@Statement
import JvmDerived.Pilot.@@N@@Code
set_option linter.unusedVariables false
set_option linter.unusedSimpArgs false
namespace Jvm.RoadKit
open Sem ClassFile Op Lib Jvm.Stand Jvm.Free Jvm.LawKit
section New
variable {p : Program} {l : Launch} {e : Env} {R : Room} {s : State} {m : MethodId} {args : Array Value} {below : List Frame} {meth : Method} {c : Code} {T : State} {locs : List Loc} {cells slots : Nat}
theorem retI (X : Stand p l e R s m args below meth c T locs cells slots) (hx : p.tables.exec = Jvm.exec) {pc : Nat} {Ls : Array Slot} {z : Int32} {rest : List Value} (hret : meth.sig.returnType = some .int) (hd : decode c.code pc = .ok (.ireturn, 1)) {fs : List Frame}
    (hl : ∀ (f : JFrame) (acts : List Action), f.method = m → f.locked = none → f.entered = [] → (doReturn e (T.setTop f) acts (some (.int z))).1 = T.setFrames fs) : Steps p.tables e below (T.setTop (mkF m pc Ls (.int z :: rest))) (T.setFrames fs) := by
  have hm' : T.vm.method? m = some meth := X.method'
  have hn : narrow .int (.int z) = .int z := rfl
  show Steps p.tables e below (T.setTop { method := m, pc := pc, locals := Ls, stack := _ :: rest, locked := none }) _
  jvm_step X.here [X.here.top, hx, hd, hm', hret, hn]
  first | (intro acts; rw [hl _ acts rfl rfl rfl]) | rw [hl _ _ rfl rfl rfl]
  exact Steps.refl _
end New
end Jvm.RoadKit
namespace Jvm.Pilot.@@N@@
open Jvm Jvm.ClassFile Sem Op Lib Jvm.Free Jvm.Stand Jvm.LawKit Jvm.RoadKit Bundle Jvm.Pilot.@@N@@.Jvm.D
def own_ml : Jvm.Cond → String
  | .methodLink c _ _ => c
  | _ => ""
def own_L : String := own_ml (tables_1.getD 20 .tt)
def own_fc : Jvm.Cond → String
  | .fieldLink _ _ c _ _ => c
  | _ => ""
def own_V : String := own_fc (tables_1.getD 2 .tt)
def own_fd : Jvm.Cond → String
  | .fieldLink _ _ _ _ d => d
  | _ => ""
def own_D : String := own_fd (tables_1.getD 2 .tt)
def QV (r : Option Value) (h0 : Heap) (n0 : Nat) (v : Option Value) (h : Heap) (L : List Loc) : Prop := v = r ∧ Fr n0 L ∧ h = h0
def QN (r : Option Value) (n0 : Nat) (v : Option Value) (h : Heap) (L : List Loc) : Prop := v = r ∧ Fr n0 L
section OwnWords
variable {args : Array Value} {first s : State} {o : Option Outcome} {idx : List Nat} {t : Term}
theorem own_eqI {k : Int32} (h : (Jvm.Cond.eq t (.int k)).value args first o s idx = some true) : t.eval args first o idx s = some (.int k) := by
  simp only [Jvm.Cond.value, Term.eval] at h; cases ht : t.eval args first o idx s with | none => simp [ht] at h | some x => cases x <;> simp [ht] at h ⊢; exact h
end OwnWords
theorem own_exa_plain {Z : State} {h : Heap} {a : Addr} {C : String} (F : Exa Z h a C) (c : Cell) (hc : h[a]? = some c) : c.vm.isStatics = false := by
  obtain ⟨cell, k, h1, h2, h3, h4, h5⟩ := F; cases h1.symm.trans hc; exact h4
theorem own_arv_plain {Z : State} {h : Heap} {a : Addr} {k : ClassId} {ty : FieldType} {n : Int32} {vs : List Value} {d : Value} (F : Arv Z h a k ty n vs d) (c : Cell) (hc : h[a]? = some c) : c.vm.isStatics = false := by
  obtain ⟨cell, A, -⟩ := F; cases A.1.symm.trans hc; exact A.plain
theorem own_ext_of_keep {h h' : Heap} {ws : List Addr} (K : Keep h h' ws) (q : ∀ x ∈ ws, h.size ≤ x) : Ext h h' := ⟨K.1, fun a c hc => K.2.1 a c hc fun hm => absurd (Array.getElem?_eq_some_iff.mp hc).1 (Nat.not_lt.mpr (q a hm))⟩
theorem own_fitc {Z : State} {h : Heap} {a : Addr} {c : Cell} {ty : FieldType} {vs : List Value} {d : Value} (A : Arr Z h a c ty) (H : Has c vs d) (G : ∀ i, i < c.slots.size → fits ty (vs.getD i d) = true) : FitC Z c := fun i v hv => by
  obtain ⟨hi, -⟩ := Array.getElem?_eq_some_iff.mp hv
  obtain ⟨hs, k, hk, comp, hkind⟩ := A.2.1
  have e : Z.slotType? c.cls .none i = some ty := by simp [State.slotType?, hk, hkind]
  have ev : v = vs.getD i d := Option.some.inj (hv.symm.trans (H i hi))
  simp only [State.fitsSlot, e]
  rw [ev]; exact G i hi
theorem own_sta_keep {Z : State} {h h' : Heap} {C n d : String} {w : Value} {ws : List Addr} (F : Sta Z h C n d w) (K : Keep h h' ws) (q : ∀ x ∈ ws, ∀ c : Cell, h[x]? = some c → c.vm.isStatics = false) : Sta Z h' C n d w := by
  obtain ⟨cf, i, k, f, st, cell, h1, h2, h3, h4, h5, h6, h7⟩ := F
  exact ⟨cf, i, k, f, st, cell, h1, h2, h3, h4, K.2.1 _ _ h5 (fun hx => by rw [q _ hx _ h5] at h6; cases h6), h6, h7⟩
section OwnWords2
variable {args : Array Value} {s : State} {t u : Term}
theorem own_eqR {a : Addr} (h : (Jvm.Cond.eq t u).value args s none s [] = some true) (hu : u.eval args s none [] s = some (.ref a)) : t.eval args s none [] s = some (.ref a) := by
  simp only [Jvm.Cond.value, hu] at h; cases ht : t.eval args s none [] s with | none => simp [ht] at h | some x => cases x <;> simp [ht] at h ⊢; exact h
theorem own_len {a : Addr} {cl : Cell} {ty : FieldType} {k : Int32} (ev : t.eval args s none [] s = some (.ref a)) (A : Arr s s.heap a cl ty) (h : (Term.length t).eval args s none [] s = some (.int k)) : cl.slots.size < 2 ^ 31 ∧ cl.slots.size.toInt32 = k := by
  have ha := A.fin (Vm.Alike.refl _)
  by_cases hl : cl.slots.size < 2 ^ 31
  · rw [len_f ev ha hl] at h; exact ⟨hl, Value.int.inj (Option.some.inj h)⟩
  · simp [Term.eval, ev, ha, hl] at h
theorem own_elem {a : Addr} {cl : Cell} {ty : FieldType} {k : Int32} {v : Value} (ev : t.eval args s none [] s = some (.ref a)) (A : Arr s s.heap a cl ty) (h : (Term.elem t (.int k)).eval args s none [] s = some v) : cl.slots[k.toNatClampNeg]? = some v := (elem_in h ev (Term.int_eval k) A.1).2
end OwnWords2
def OwnWd (Z : State) (h0 : Heap) (ad : Nat → Addr) : Prop := Sta Z h0 own_V "DISABLED" own_D (.ref (ad 0)) ∧ Exa Z h0 (ad 0) own_V ∧ Fld Z h0 (ad 0) "java/lang/Enum" "ordinal" "I" (.int (0 : Int32)) ∧ Sta Z h0 own_V "NO_MATCH_RESOURCE" own_D (.ref (ad 1)) ∧ Exa Z h0 (ad 1) own_V ∧ Fld Z h0 (ad 1) "java/lang/Enum" "ordinal" "I" (.int (1 : Int32)) ∧ Sta Z h0 own_V "NO_MATCH_ACTION" own_D (.ref (ad 2)) ∧ Exa Z h0 (ad 2) own_V ∧ Fld Z h0 (ad 2) "java/lang/Enum" "ordinal" "I" (.int (2 : Int32)) ∧ Sta Z h0 own_V "NO_MATCH_IDENTITY" own_D (.ref (ad 3)) ∧ Exa Z h0 (ad 3) own_V ∧ Fld Z h0 (ad 3) "java/lang/Enum" "ordinal" "I" (.int (3 : Int32)) ∧ Sta Z h0 own_V "NO_MATCH_CALENDAR" own_D (.ref (ad 4)) ∧ Exa Z h0 (ad 4) own_V ∧ Fld Z h0 (ad 4) "java/lang/Enum" "ordinal" "I" (.int (4 : Int32)) ∧ Sta Z h0 own_V "MATCHED" own_D (.ref (ad 5)) ∧ Exa Z h0 (ad 5) own_V ∧ Fld Z h0 (ad 5) "java/lang/Enum" "ordinal" "I" (.int (5 : Int32)) ∧ Sta Z h0 own_V "RETAINED" own_D (.ref (ad 6)) ∧ Exa Z h0 (ad 6) own_V ∧ Fld Z h0 (ad 6) "java/lang/Enum" "ordinal" "I" (.int (6 : Int32)) ∧ Sta Z h0 own_V "DROPPED_BY_BEST_MATCH" own_D (.ref (ad 7)) ∧ Exa Z h0 (ad 7) own_V ∧ Fld Z h0 (ad 7) "java/lang/Enum" "ordinal" "I" (.int (7 : Int32))
theorem own_S_DISABLED {Z : State} {h0 : Heap} {ad : Nat → Addr} (W : OwnWd Z h0 ad) : Sta Z h0 own_V "DISABLED" own_D (.ref (ad 0)) := W.1
theorem own_E_DISABLED {Z : State} {h0 : Heap} {ad : Nat → Addr} (W : OwnWd Z h0 ad) : Exa Z h0 (ad 0) own_V := W.2.1
theorem own_F_DISABLED_ordinal {Z : State} {h0 : Heap} {ad : Nat → Addr} (W : OwnWd Z h0 ad) : Fld Z h0 (ad 0) "java/lang/Enum" "ordinal" "I" (.int (0 : Int32)) := W.2.2.1
theorem own_S_NO_MATCH_RESOURCE {Z : State} {h0 : Heap} {ad : Nat → Addr} (W : OwnWd Z h0 ad) : Sta Z h0 own_V "NO_MATCH_RESOURCE" own_D (.ref (ad 1)) := W.2.2.2.1
theorem own_E_NO_MATCH_RESOURCE {Z : State} {h0 : Heap} {ad : Nat → Addr} (W : OwnWd Z h0 ad) : Exa Z h0 (ad 1) own_V := W.2.2.2.2.1
theorem own_F_NO_MATCH_RESOURCE_ordinal {Z : State} {h0 : Heap} {ad : Nat → Addr} (W : OwnWd Z h0 ad) : Fld Z h0 (ad 1) "java/lang/Enum" "ordinal" "I" (.int (1 : Int32)) := W.2.2.2.2.2.1
theorem own_S_NO_MATCH_ACTION {Z : State} {h0 : Heap} {ad : Nat → Addr} (W : OwnWd Z h0 ad) : Sta Z h0 own_V "NO_MATCH_ACTION" own_D (.ref (ad 2)) := W.2.2.2.2.2.2.1
theorem own_E_NO_MATCH_ACTION {Z : State} {h0 : Heap} {ad : Nat → Addr} (W : OwnWd Z h0 ad) : Exa Z h0 (ad 2) own_V := W.2.2.2.2.2.2.2.1
theorem own_F_NO_MATCH_ACTION_ordinal {Z : State} {h0 : Heap} {ad : Nat → Addr} (W : OwnWd Z h0 ad) : Fld Z h0 (ad 2) "java/lang/Enum" "ordinal" "I" (.int (2 : Int32)) := W.2.2.2.2.2.2.2.2.1
theorem own_S_NO_MATCH_IDENTITY {Z : State} {h0 : Heap} {ad : Nat → Addr} (W : OwnWd Z h0 ad) : Sta Z h0 own_V "NO_MATCH_IDENTITY" own_D (.ref (ad 3)) := W.2.2.2.2.2.2.2.2.2.1
theorem own_E_NO_MATCH_IDENTITY {Z : State} {h0 : Heap} {ad : Nat → Addr} (W : OwnWd Z h0 ad) : Exa Z h0 (ad 3) own_V := W.2.2.2.2.2.2.2.2.2.2.1
theorem own_F_NO_MATCH_IDENTITY_ordinal {Z : State} {h0 : Heap} {ad : Nat → Addr} (W : OwnWd Z h0 ad) : Fld Z h0 (ad 3) "java/lang/Enum" "ordinal" "I" (.int (3 : Int32)) := W.2.2.2.2.2.2.2.2.2.2.2.1
theorem own_S_NO_MATCH_CALENDAR {Z : State} {h0 : Heap} {ad : Nat → Addr} (W : OwnWd Z h0 ad) : Sta Z h0 own_V "NO_MATCH_CALENDAR" own_D (.ref (ad 4)) := W.2.2.2.2.2.2.2.2.2.2.2.2.1
theorem own_E_NO_MATCH_CALENDAR {Z : State} {h0 : Heap} {ad : Nat → Addr} (W : OwnWd Z h0 ad) : Exa Z h0 (ad 4) own_V := W.2.2.2.2.2.2.2.2.2.2.2.2.2.1
theorem own_F_NO_MATCH_CALENDAR_ordinal {Z : State} {h0 : Heap} {ad : Nat → Addr} (W : OwnWd Z h0 ad) : Fld Z h0 (ad 4) "java/lang/Enum" "ordinal" "I" (.int (4 : Int32)) := W.2.2.2.2.2.2.2.2.2.2.2.2.2.2.1
theorem own_S_MATCHED {Z : State} {h0 : Heap} {ad : Nat → Addr} (W : OwnWd Z h0 ad) : Sta Z h0 own_V "MATCHED" own_D (.ref (ad 5)) := W.2.2.2.2.2.2.2.2.2.2.2.2.2.2.2.1
theorem own_E_MATCHED {Z : State} {h0 : Heap} {ad : Nat → Addr} (W : OwnWd Z h0 ad) : Exa Z h0 (ad 5) own_V := W.2.2.2.2.2.2.2.2.2.2.2.2.2.2.2.2.1
theorem own_F_MATCHED_ordinal {Z : State} {h0 : Heap} {ad : Nat → Addr} (W : OwnWd Z h0 ad) : Fld Z h0 (ad 5) "java/lang/Enum" "ordinal" "I" (.int (5 : Int32)) := W.2.2.2.2.2.2.2.2.2.2.2.2.2.2.2.2.2.1
theorem own_S_RETAINED {Z : State} {h0 : Heap} {ad : Nat → Addr} (W : OwnWd Z h0 ad) : Sta Z h0 own_V "RETAINED" own_D (.ref (ad 6)) := W.2.2.2.2.2.2.2.2.2.2.2.2.2.2.2.2.2.2.1
theorem own_E_RETAINED {Z : State} {h0 : Heap} {ad : Nat → Addr} (W : OwnWd Z h0 ad) : Exa Z h0 (ad 6) own_V := W.2.2.2.2.2.2.2.2.2.2.2.2.2.2.2.2.2.2.2.1
theorem own_F_RETAINED_ordinal {Z : State} {h0 : Heap} {ad : Nat → Addr} (W : OwnWd Z h0 ad) : Fld Z h0 (ad 6) "java/lang/Enum" "ordinal" "I" (.int (6 : Int32)) := W.2.2.2.2.2.2.2.2.2.2.2.2.2.2.2.2.2.2.2.2.1
theorem own_S_DROPPED_BY_BEST_MATCH {Z : State} {h0 : Heap} {ad : Nat → Addr} (W : OwnWd Z h0 ad) : Sta Z h0 own_V "DROPPED_BY_BEST_MATCH" own_D (.ref (ad 7)) := W.2.2.2.2.2.2.2.2.2.2.2.2.2.2.2.2.2.2.2.2.2.1
theorem own_E_DROPPED_BY_BEST_MATCH {Z : State} {h0 : Heap} {ad : Nat → Addr} (W : OwnWd Z h0 ad) : Exa Z h0 (ad 7) own_V := W.2.2.2.2.2.2.2.2.2.2.2.2.2.2.2.2.2.2.2.2.2.2.1
theorem own_F_DROPPED_BY_BEST_MATCH_ordinal {Z : State} {h0 : Heap} {ad : Nat → Addr} (W : OwnWd Z h0 ad) : Fld Z h0 (ad 7) "java/lang/Enum" "ordinal" "I" (.int (7 : Int32)) := W.2.2.2.2.2.2.2.2.2.2.2.2.2.2.2.2.2.2.2.2.2.2.2
theorem own_Wd_ext {Z : State} {h0 : Heap} {ad : Nat → Addr} {h' : Heap} (W : OwnWd Z h0 ad) (E : Ext h0 h') : OwnWd Z h' ad := ⟨(own_S_DISABLED W).ext E, (own_E_DISABLED W).ext E, (own_F_DISABLED_ordinal W).ext E, (own_S_NO_MATCH_RESOURCE W).ext E, (own_E_NO_MATCH_RESOURCE W).ext E, (own_F_NO_MATCH_RESOURCE_ordinal W).ext E, (own_S_NO_MATCH_ACTION W).ext E, (own_E_NO_MATCH_ACTION W).ext E, (own_F_NO_MATCH_ACTION_ordinal W).ext E, (own_S_NO_MATCH_IDENTITY W).ext E, (own_E_NO_MATCH_IDENTITY W).ext E, (own_F_NO_MATCH_IDENTITY_ordinal W).ext E, (own_S_NO_MATCH_CALENDAR W).ext E, (own_E_NO_MATCH_CALENDAR W).ext E, (own_F_NO_MATCH_CALENDAR_ordinal W).ext E, (own_S_MATCHED W).ext E, (own_E_MATCHED W).ext E, (own_F_MATCHED_ordinal W).ext E, (own_S_RETAINED W).ext E, (own_E_RETAINED W).ext E, (own_F_RETAINED_ordinal W).ext E, (own_S_DROPPED_BY_BEST_MATCH W).ext E, (own_E_DROPPED_BY_BEST_MATCH W).ext E, (own_F_DROPPED_BY_BEST_MATCH_ordinal W).ext E⟩
theorem own_d_prog_34_method_6_code_0 : decode prog_34_method_6_code 0 = .ok (.aload_n 0, 1) := by decide +kernel
theorem own_d_prog_34_method_6_code_1 : decode prog_34_method_6_code 1 = .ok (.getstatic 3, 3) := by decide +kernel
theorem own_d_prog_34_method_6_code_4 : decode prog_34_method_6_code 4 = .ok (.if_acmp .eq 24, 3) := by decide +kernel
theorem own_d_prog_34_method_6_code_28 : decode prog_34_method_6_code 28 = .ok (.iconst 1, 1) := by decide +kernel
theorem own_d_prog_34_method_6_code_29 : decode prog_34_method_6_code 29 = .ok (.goto 4, 3) := by decide +kernel
theorem own_d_prog_34_method_6_code_33 : decode prog_34_method_6_code 33 = .ok (.ireturn, 1) := by decide +kernel
theorem own_pn_own_Verdict : plainName own_V = true := by first | (simp [plainName, overriddenIn]; done) | decide +kernel
theorem own_d_prog_34_method_5_code_0 : decode prog_34_method_5_code 0 = .ok (.aload_n 0, 1) := by decide +kernel
theorem own_d_prog_34_method_5_code_1 : decode prog_34_method_5_code 1 = .ok (.getstatic 19, 3) := by decide +kernel
theorem own_d_prog_34_method_5_code_4 : decode prog_34_method_5_code 4 = .ok (.if_acmp .eq 10, 3) := by decide +kernel
theorem own_d_prog_34_method_5_code_7 : decode prog_34_method_5_code 7 = .ok (.aload_n 0, 1) := by decide +kernel
theorem own_d_prog_34_method_5_code_8 : decode prog_34_method_5_code 8 = .ok (.getstatic 22, 3) := by decide +kernel
theorem own_d_prog_34_method_5_code_11 : decode prog_34_method_5_code 11 = .ok (.if_acmp .ne 7, 3) := by decide +kernel
theorem own_d_prog_34_method_5_code_18 : decode prog_34_method_5_code 18 = .ok (.iconst 0, 1) := by decide +kernel
theorem own_d_prog_34_method_5_code_19 : decode prog_34_method_5_code 19 = .ok (.ireturn, 1) := by decide +kernel
theorem own_pd___Z : parseMethodDescriptor "()Z" = some ⟨[], some .boolean⟩ := by decide +kernel
theorem own_pn_own_VerdictMissesEverySubjectPinLaw : plainName own_L = true := by first | (simp [plainName, overriddenIn]; done) | decide +kernel
theorem own_d_prog_34_method_6_code_7 : decode prog_34_method_6_code 7 = .ok (.aload_n 0, 1) := by decide +kernel
theorem own_d_prog_34_method_6_code_8 : decode prog_34_method_6_code 8 = .ok (.getstatic 7, 3) := by decide +kernel
theorem own_d_prog_34_method_6_code_11 : decode prog_34_method_6_code 11 = .ok (.if_acmp .eq 17, 3) := by decide +kernel
theorem own_d_prog_34_method_6_code_14 : decode prog_34_method_6_code 14 = .ok (.aload_n 0, 1) := by decide +kernel
theorem own_d_prog_34_method_6_code_15 : decode prog_34_method_6_code 15 = .ok (.getstatic 10, 3) := by decide +kernel
theorem own_d_prog_34_method_6_code_18 : decode prog_34_method_6_code 18 = .ok (.if_acmp .eq 10, 3) := by decide +kernel
theorem own_d_prog_34_method_6_code_21 : decode prog_34_method_6_code 21 = .ok (.aload_n 0, 1) := by decide +kernel
theorem own_d_prog_34_method_6_code_22 : decode prog_34_method_6_code 22 = .ok (.getstatic 16, 3) := by decide +kernel
theorem own_d_prog_34_method_6_code_25 : decode prog_34_method_6_code 25 = .ok (.if_acmp .ne 7, 3) := by decide +kernel
theorem own_d_prog_34_method_6_code_32 : decode prog_34_method_6_code 32 = .ok (.iconst 0, 1) := by decide +kernel
theorem own_d_prog_34_method_5_code_14 : decode prog_34_method_5_code 14 = .ok (.iconst 1, 1) := by decide +kernel
theorem own_d_prog_34_method_5_code_15 : decode prog_34_method_5_code 15 = .ok (.goto 4, 3) := by decide +kernel
theorem own_ef_own_miss_0 (m : MethodId) {x0 : Addr} : entryFrame m #[(.ref x0)] 1 = mkF m 0 #[.val (.ref x0)] [] := by first | (simp [entryFrame, mkF, argsToLocals, Value.category, maxLocals]; done) | rfl
set_option maxRecDepth 65536 in
set_option maxHeartbeats 40000000 in
theorem own_miss_0 (l : Launch) (Z : State) (a0 : Array Value) (hw : ∀ d ∈ tables_1, d.before a0 Z = true) (ws : List Jvm.Cond) (h0 : Heap) (n0 : Nat) (Z0 : n0 ≤ h0.size) (ad : Nat → Addr) (W : OwnWd Z h0 ad) :
    MetFree l (⟨own_V, "missesEverySubject", "()Z"⟩ : MethodName) (head1 (Jvm.Cond.code (⟨own_V, "missesEverySubject", "()Z"⟩ : MethodName) prog_34_method_6_code 1 (some .boolean) :: ws) ({ frames := 0, cells := 0, slots := 0, locals := 0 } : Room)) (fun a U => a = #[(.ref (ad 0))] ∧ Z.Warmed39 U.vm ∧ U.heap = h0) (fun _ _ _ _ _ => True) (fun _ U o U' => ∃ v L, o = .returned v ∧ QV (some (.int (1 : Int32))) h0 n0 v U'.heap L ∧ FrameEnd U o U' L ({ frames := 0, cells := 0, slots := 0, locals := 0 } : Room).cells ({ frames := 0, cells := 0, slots := 0, locals := 0 } : Room).slots) := by
  refine MetFree.of_bodySF (plainFor_of_name own_pn_own_Verdict) hisR ?_
  intro p e s m args below meth c s₁ Bd hml0 hP hK
  obtain ⟨rfl, hZ, hh⟩ := hP
  have hx := Bd.exec
  have hby := Bd.bytes
  have hml : c.maxLocals = 1 := hml0
  have hown : s.vm.findClass own_V = some m.cls := (findClass_of_methodNamed Bd.named :)
  have hnm := (name_of_methodNamed Bd.named Bd.method).1
  have X0 : Stand p l e ({ frames := 0, cells := 0, slots := 0, locals := 0 } : Room) s m #[(.ref (ad 0))] below meth c s₁ [] 0 0 := Stand.of_body Bd
  have e0 : s₁.heap = h0 := by rw [← hh, Bd.state]; rfl
  have N0 := Fr.nil n0
  have pre0 : ∀ t, Steps p.tables e below (s₁.setTop (mkF m 0 #[.val (.ref (ad 0))] [])) t → Steps p.tables e below (s₁.setTop (entryFrame m #[(.ref (ad 0))] 1)) t := fun t k => castTop (own_ef_own_miss_0 m) k
  obtain ⟨T1, X1, e1, st1⟩ := getS2 X0 hx hZ hown (host := "") (Or.inl (hw _ (List.mem_of_getElem? (i := 25) rfl))) Via.refl e0 (own_S_DISABLED W) (g := (mkF m 1 #[.val (.ref (ad 0))] [(.ref (ad 0))])) rfl (hb hby own_d_prog_34_method_6_code_1)
  have ch2 : ∀ t, Steps p.tables e below (T1.setTop (mkF m 4 #[.val (.ref (ad 0))] [(.ref (ad 0)), (.ref (ad 0))])) t → Steps p.tables e below (s₁.setTop (entryFrame m #[(.ref (ad 0))] 1)) t := fun t k => pre0 t (by
      show Steps p.tables e below (s₁.setTop (mkF m 0 #[.val (.ref (ad 0))] [])) t
      refine XS.aloadN X0.here hx rfl (hb hby own_d_prog_34_method_6_code_0) rfl rfl ?_
      show Steps p.tables e below (s₁.setTop (mkF m 1 #[.val (.ref (ad 0))] [(.ref (ad 0))])) t
      exact st1 t k)
  have ch3 : ∀ t, Steps p.tables e below (T1.setTop (mkF m 33 #[.val (.ref (ad 0))] [(.int (1 : Int32))])) t → Steps p.tables e below (s₁.setTop (entryFrame m #[(.ref (ad 0))] 1)) t := fun t k => ch2 t (by
      show Steps p.tables e below (T1.setTop (mkF m 4 #[.val (.ref (ad 0))] [(.ref (ad 0)), (.ref (ad 0))])) t
      refine Jvm.RoadKit.acmp (g := (mkF m 4 #[.val (.ref (ad 0))] [(.ref (ad 0)), (.ref (ad 0))])) X1 hx rfl rfl rfl (pc0 := 4) (pc' := 28) (same := true) rfl (hb hby own_d_prog_34_method_6_code_4) rfl (decide_eq_true rfl) (by decide) (by decide) ?_
      show Steps p.tables e below (T1.setTop (mkF m 28 #[.val (.ref (ad 0))] [])) t
      refine XS.iconst X1.here hx rfl (hb hby own_d_prog_34_method_6_code_28) ?_
      show Steps p.tables e below (T1.setTop (mkF m 29 #[.val (.ref (ad 0))] [(.int (1 : Int32))])) t
      refine XS.goto X1.here hx rfl (pc0 := 29) (pc' := 33) rfl (hb hby own_d_prog_34_method_6_code_29) (by decide) (by decide) ?_
      exact k)
  obtain ⟨fs, hr, hrun, hended, hW, hsame⟩ := X1.leave (v := some (.int (1 : Int32))) (fun h => by rw [Bd.returns] at h; cases h)
  refine ⟨_, _, ch3 _ ?_, hrun, hended, _, _, rfl, ?_, ⟨_, rfl⟩, hW, hsame.mono (by decide) (by decide)⟩
  · show Steps p.tables e below (T1.setTop (mkF m 33 #[.val (.ref (ad 0))] [(.int (1 : Int32))])) _
    exact retN X1 hx (t := .boolean) Bd.returns (by simp) (hb hby own_d_prog_34_method_6_code_33) hr
  · show QV (some (.int (1 : Int32))) h0 n0 _ T1.heap _
    rw [e1]
    exact ⟨rfl, N0, rfl⟩
theorem own_ef_own_appl_0 (m : MethodId) {x0 : Addr} : entryFrame m #[(.ref x0)] 1 = mkF m 0 #[.val (.ref x0)] [] := by first | (simp [entryFrame, mkF, argsToLocals, Value.category, maxLocals]; done) | rfl
set_option maxRecDepth 65536 in
set_option maxHeartbeats 40000000 in
theorem own_appl_0 (l : Launch) (Z : State) (a0 : Array Value) (hw : ∀ d ∈ tables_1, d.before a0 Z = true) (ws : List Jvm.Cond) (h0 : Heap) (n0 : Nat) (Z0 : n0 ≤ h0.size) (ad : Nat → Addr) (W : OwnWd Z h0 ad) :
    MetFree l (⟨own_V, "applies", "()Z"⟩ : MethodName) (head1 (Jvm.Cond.code (⟨own_V, "applies", "()Z"⟩ : MethodName) prog_34_method_5_code 1 (some .boolean) :: ws) ({ frames := 0, cells := 0, slots := 0, locals := 0 } : Room)) (fun a U => a = #[(.ref (ad 0))] ∧ Z.Warmed39 U.vm ∧ U.heap = h0) (fun _ _ _ _ _ => True) (fun _ U o U' => ∃ v L, o = .returned v ∧ QV (some (.int (0 : Int32))) h0 n0 v U'.heap L ∧ FrameEnd U o U' L ({ frames := 0, cells := 0, slots := 0, locals := 0 } : Room).cells ({ frames := 0, cells := 0, slots := 0, locals := 0 } : Room).slots) := by
  refine MetFree.of_bodySF (plainFor_of_name own_pn_own_Verdict) hisR ?_
  intro p e s m args below meth c s₁ Bd hml0 hP hK
  obtain ⟨rfl, hZ, hh⟩ := hP
  have hx := Bd.exec
  have hby := Bd.bytes
  have hml : c.maxLocals = 1 := hml0
  have hown : s.vm.findClass own_V = some m.cls := (findClass_of_methodNamed Bd.named :)
  have hnm := (name_of_methodNamed Bd.named Bd.method).1
  have X0 : Stand p l e ({ frames := 0, cells := 0, slots := 0, locals := 0 } : Room) s m #[(.ref (ad 0))] below meth c s₁ [] 0 0 := Stand.of_body Bd
  have e0 : s₁.heap = h0 := by rw [← hh, Bd.state]; rfl
  have N0 := Fr.nil n0
  have pre0 : ∀ t, Steps p.tables e below (s₁.setTop (mkF m 0 #[.val (.ref (ad 0))] [])) t → Steps p.tables e below (s₁.setTop (entryFrame m #[(.ref (ad 0))] 1)) t := fun t k => castTop (own_ef_own_appl_0 m) k
  obtain ⟨T1, X1, e1, st1⟩ := getS2 X0 hx hZ hown (host := "") (Or.inl (hw _ (List.mem_of_getElem? (i := 31) rfl))) Via.refl e0 (own_S_MATCHED W) (g := (mkF m 1 #[.val (.ref (ad 0))] [(.ref (ad 0))])) rfl (hb hby own_d_prog_34_method_5_code_1)
  have ch2 : ∀ t, Steps p.tables e below (T1.setTop (mkF m 4 #[.val (.ref (ad 0))] [(.ref (ad 5)), (.ref (ad 0))])) t → Steps p.tables e below (s₁.setTop (entryFrame m #[(.ref (ad 0))] 1)) t := fun t k => pre0 t (by
      show Steps p.tables e below (s₁.setTop (mkF m 0 #[.val (.ref (ad 0))] [])) t
      refine XS.aloadN X0.here hx rfl (hb hby own_d_prog_34_method_5_code_0) rfl rfl ?_
      show Steps p.tables e below (s₁.setTop (mkF m 1 #[.val (.ref (ad 0))] [(.ref (ad 0))])) t
      exact st1 t k)
  obtain ⟨T3, X3, e3, st3⟩ := getS2 X1 hx hZ hown (host := "") (Or.inl (hw _ (List.mem_of_getElem? (i := 32) rfl))) Via.refl e1 (own_S_RETAINED W) (g := (mkF m 8 #[.val (.ref (ad 0))] [(.ref (ad 0))])) rfl (hb hby own_d_prog_34_method_5_code_8)
  have ch4 : ∀ t, Steps p.tables e below (T3.setTop (mkF m 11 #[.val (.ref (ad 0))] [(.ref (ad 6)), (.ref (ad 0))])) t → Steps p.tables e below (s₁.setTop (entryFrame m #[(.ref (ad 0))] 1)) t := fun t k => ch2 t (by
      show Steps p.tables e below (T1.setTop (mkF m 4 #[.val (.ref (ad 0))] [(.ref (ad 5)), (.ref (ad 0))])) t
      refine Jvm.RoadKit.acmp (g := (mkF m 4 #[.val (.ref (ad 0))] [(.ref (ad 5)), (.ref (ad 0))])) X1 hx rfl rfl rfl (pc0 := 4) (pc' := 7) (same := false) rfl (hb hby own_d_prog_34_method_5_code_4) rfl (decide_eq_false fun q => (Fld.ne (own_F_DISABLED_ordinal W) (own_F_MATCHED_ordinal W) (by decide)) (Value.ref.inj q)) (by decide) (by decide) ?_
      show Steps p.tables e below (T1.setTop (mkF m 7 #[.val (.ref (ad 0))] [])) t
      refine XS.aloadN X1.here hx rfl (hb hby own_d_prog_34_method_5_code_7) rfl rfl ?_
      show Steps p.tables e below (T1.setTop (mkF m 8 #[.val (.ref (ad 0))] [(.ref (ad 0))])) t
      exact st3 t k)
  have ch5 : ∀ t, Steps p.tables e below (T3.setTop (mkF m 19 #[.val (.ref (ad 0))] [(.int (0 : Int32))])) t → Steps p.tables e below (s₁.setTop (entryFrame m #[(.ref (ad 0))] 1)) t := fun t k => ch4 t (by
      show Steps p.tables e below (T3.setTop (mkF m 11 #[.val (.ref (ad 0))] [(.ref (ad 6)), (.ref (ad 0))])) t
      refine Jvm.RoadKit.acmp (g := (mkF m 11 #[.val (.ref (ad 0))] [(.ref (ad 6)), (.ref (ad 0))])) X3 hx rfl rfl rfl (pc0 := 11) (pc' := 18) (same := false) rfl (hb hby own_d_prog_34_method_5_code_11) rfl (decide_eq_false fun q => (Fld.ne (own_F_DISABLED_ordinal W) (own_F_RETAINED_ordinal W) (by decide)) (Value.ref.inj q)) (by decide) (by decide) ?_
      show Steps p.tables e below (T3.setTop (mkF m 18 #[.val (.ref (ad 0))] [])) t
      refine XS.iconst X3.here hx rfl (hb hby own_d_prog_34_method_5_code_18) ?_
      exact k)
  obtain ⟨fs, hr, hrun, hended, hW, hsame⟩ := X3.leave (v := some (.int (0 : Int32))) (fun h => by rw [Bd.returns] at h; cases h)
  refine ⟨_, _, ch5 _ ?_, hrun, hended, _, _, rfl, ?_, ⟨_, rfl⟩, hW, hsame.mono (by decide) (by decide)⟩
  · show Steps p.tables e below (T3.setTop (mkF m 19 #[.val (.ref (ad 0))] [(.int (0 : Int32))])) _
    exact retN X3 hx (t := .boolean) Bd.returns (by simp) (hb hby own_d_prog_34_method_5_code_19) hr
  · show QV (some (.int (0 : Int32))) h0 n0 _ T3.heap _
    rw [e3]
    exact ⟨rfl, N0, rfl⟩
theorem own_ef_own_law_0 (m : MethodId) {x0 : Int32} : entryFrame m #[(.int x0)] maxLocals = mkF m 0 #[.val (.int x0), .unset, .unset, .unset, .unset, .unset, .unset, .unset] [] := by first | (simp [entryFrame, mkF, argsToLocals, Value.category, maxLocals]; done) | rfl
set_option maxRecDepth 65536 in
set_option maxHeartbeats 40000000 in
theorem own_law_0 (l : Launch) (Z : State) (a0 : Array Value) (hw : ∀ d ∈ tables_1, d.before a0 Z = true) (ws : List Jvm.Cond) (h0 : Heap) (n0 : Nat) (Z0 : n0 ≤ h0.size) (p1 : Int32) (hk : p1 &&& (7 : Int32) = (0 : Int32)) (ad : Nat → Addr) (W : OwnWd Z h0 ad) :
    MetFree l x (head1 (Jvm.Cond.code x code maxLocals ret :: ws) room_1) (fun a U => a = #[(.int p1)] ∧ Z.Warmed39 U.vm ∧ U.heap = h0) (fun _ _ _ _ _ => True) (fun _ U o U' => ∃ v L, o = .returned v ∧ QN (some (.int (1 : Int32))) n0 v U'.heap L ∧ FrameEnd U o U' L room_1.cells room_1.slots) := by
  refine MetFree.of_bodySF (plainFor_of_name own_pn_own_VerdictMissesEverySubjectPinLaw) hisR ?_
  intro p e s m args below meth c s₁ Bd hml0 hP hK
  obtain ⟨rfl, hZ, hh⟩ := hP
  have hx := Bd.exec
  have hby := Bd.bytes
  have hml : c.maxLocals = 8 := hml0
  have hown : s.vm.findClass own_L = some m.cls := (findClass_of_methodNamed Bd.named :)
  have hnm := (name_of_methodNamed Bd.named Bd.method).1
  have X0 : Stand p l e room_1 s m #[(.int p1)] below meth c s₁ [] 0 0 := Stand.of_body Bd
  have e0 : s₁.heap = h0 := by rw [← hh, Bd.state]; rfl
  have N0 := Fr.nil n0
  have pre0 : ∀ t, Steps p.tables e below (s₁.setTop (mkF m 0 #[.val (.int p1), .unset, .unset, .unset, .unset, .unset, .unset, .unset] [])) t → Steps p.tables e below (s₁.setTop (entryFrame m #[(.int p1)] maxLocals)) t := fun t k => castTop (own_ef_own_law_0 m) k
  obtain ⟨T1, hp1, k1, X1, e1, E1, A1, O1, st1⟩ := newR X0 hx hZ hown (hw _ (List.mem_of_getElem? (i := 0) rfl)) (hw _ (List.mem_of_getElem? (i := 1) rfl)) e0 (g := (mkF m 2 #[.val (.int p1), .unset, .unset, .unset, .unset, .unset, .unset, .unset] [(.int (8 : Int32))])) rfl (hb hby at_2) rfl (by decide) (cap := 8) (by decide) (by decide) (by decide) (by decide)
  obtain ⟨b1, g1⟩ : ∃ z, z = h0.size := ⟨_, rfl⟩
  rw [← g1] at A1 st1
  have ne_ad0_b1 : (ad 0) ≠ b1 := Nat.ne_of_lt (Nat.lt_of_lt_of_le (own_E_DISABLED W).lt (Nat.le_of_eq g1.symm))
  have ne_ad1_b1 : (ad 1) ≠ b1 := Nat.ne_of_lt (Nat.lt_of_lt_of_le (own_E_NO_MATCH_RESOURCE W).lt (Nat.le_of_eq g1.symm))
  have ne_ad2_b1 : (ad 2) ≠ b1 := Nat.ne_of_lt (Nat.lt_of_lt_of_le (own_E_NO_MATCH_ACTION W).lt (Nat.le_of_eq g1.symm))
  have ne_ad3_b1 : (ad 3) ≠ b1 := Nat.ne_of_lt (Nat.lt_of_lt_of_le (own_E_NO_MATCH_IDENTITY W).lt (Nat.le_of_eq g1.symm))
  have ne_ad4_b1 : (ad 4) ≠ b1 := Nat.ne_of_lt (Nat.lt_of_lt_of_le (own_E_NO_MATCH_CALENDAR W).lt (Nat.le_of_eq g1.symm))
  have ne_ad5_b1 : (ad 5) ≠ b1 := Nat.ne_of_lt (Nat.lt_of_lt_of_le (own_E_MATCHED W).lt (Nat.le_of_eq g1.symm))
  have ne_ad6_b1 : (ad 6) ≠ b1 := Nat.ne_of_lt (Nat.lt_of_lt_of_le (own_E_RETAINED W).lt (Nat.le_of_eq g1.symm))
  have ne_ad7_b1 : (ad 7) ≠ b1 := Nat.ne_of_lt (Nat.lt_of_lt_of_le (own_E_DROPPED_BY_BEST_MATCH W).lt (Nat.le_of_eq g1.symm))
  have g_b1 : n0 ≤ b1 := Nat.le_trans (Nat.le_trans Z0 (Keep.refl h0 []).1) (Nat.le_of_eq g1.symm)
  have sz_b1 : h0.size ≤ b1 := Nat.le_trans (Keep.refl h0 []).1 (Nat.le_of_eq g1.symm)
  have Kp1 := Keep.ext (Keep.refl h0 []) E1
  have V1 : Arv Z hp1 b1 k1 (.object own_V) (8 : Int32) [.null, .null, .null, .null, .null, .null, .null, .null] .null := (Arv.new A1 (by decide)).pad (pad_rep [] .null 8)
  have ch2 : ∀ t, Steps p.tables e below (T1.setTop (mkF m 5 #[.val (.int p1), .unset, .unset, .unset, .unset, .unset, .unset, .unset] [(.ref b1)])) t → Steps p.tables e below (s₁.setTop (entryFrame m #[(.int p1)] maxLocals)) t := fun t k => pre0 t (by
      show Steps p.tables e below (s₁.setTop (mkF m 0 #[.val (.int p1), .unset, .unset, .unset, .unset, .unset, .unset, .unset] [])) t
      refine XS.bipush X0.here hx rfl (hb hby at_0) ?_
      show Steps p.tables e below (s₁.setTop (mkF m 2 #[.val (.int p1), .unset, .unset, .unset, .unset, .unset, .unset, .unset] [(.int (8 : Int32))])) t
      exact st1 t k)
  have cf3 := (own_sta_keep (own_S_DISABLED W) Kp1 all0)
  obtain ⟨T4, X4, e4, st4⟩ := getS2 X1 hx hZ hown (host := "") (Or.inl (hw _ (List.mem_of_getElem? (i := 2) rfl))) Via.refl e1 cf3 (g := (mkF m 7 #[.val (.int p1), .unset, .unset, .unset, .unset, .unset, .unset, .unset] [(.int (0 : Int32)), (.ref b1), (.ref b1)])) rfl (hb hby at_7)
  have ch5 : ∀ t, Steps p.tables e below (T4.setTop (mkF m 10 #[.val (.int p1), .unset, .unset, .unset, .unset, .unset, .unset, .unset] [(.ref (ad 0)), (.int (0 : Int32)), (.ref b1), (.ref b1)])) t → Steps p.tables e below (s₁.setTop (entryFrame m #[(.int p1)] maxLocals)) t := fun t k => ch2 t (by
      show Steps p.tables e below (T1.setTop (mkF m 5 #[.val (.int p1), .unset, .unset, .unset, .unset, .unset, .unset, .unset] [(.ref b1)])) t
      refine XS.dup X1.here hx rfl (hb hby at_5) rfl rfl ?_
      show Steps p.tables e below (T1.setTop (mkF m 6 #[.val (.int p1), .unset, .unset, .unset, .unset, .unset, .unset, .unset] [(.ref b1), (.ref b1)])) t
      refine XS.iconst X1.here hx rfl (hb hby at_6) ?_
      show Steps p.tables e below (T1.setTop (mkF m 7 #[.val (.int p1), .unset, .unset, .unset, .unset, .unset, .unset, .unset] [(.int (0 : Int32)), (.ref b1), (.ref b1)])) t
      exact st4 t k)
  obtain ⟨cl6, Ar6, qq6, Sz6, Ng6, Ha6, Ga6⟩ := id V1
  have hin6 : ¬ ((0 : Int32) < 0 ∨ cl6.slots.size ≤ ((0 : Int32)).toNatClampNeg) := inb_of Sz6 (by decide)
  have cf7 := (Exa.keep (own_E_DISABLED W) Kp1)
  obtain ⟨T8, hp8, X8, e8, W8, st8⟩ := stR X4 hx hZ e4 Ar6 (j := (0 : Int32)) hin6 rfl (Sto.ofV Ar6 qq6 O1 (Ins.self cf7)) (g := (mkF m 10 #[.val (.int p1), .unset, .unset, .unset, .unset, .unset, .unset, .unset] [(.ref (ad 0)), (.int (0 : Int32)), (.ref b1), (.ref b1)])) rfl rfl (hb hby at_10)
  have ch9 : ∀ t, Steps p.tables e below (T8.setTop (mkF m 11 #[.val (.int p1), .unset, .unset, .unset, .unset, .unset, .unset, .unset] [(.ref b1)])) t → Steps p.tables e below (s₁.setTop (entryFrame m #[(.int p1)] maxLocals)) t := fun t k => ch5 t (by
      show Steps p.tables e below (T4.setTop (mkF m 10 #[.val (.int p1), .unset, .unset, .unset, .unset, .unset, .unset, .unset] [(.ref (ad 0)), (.int (0 : Int32)), (.ref b1), (.ref b1)])) t
      exact st8 t k)
  have V8 : Arv Z hp8 b1 k1 (.object own_V) (8 : Int32) [(.ref (ad 0)), .null, .null, .null, .null, .null, .null, .null] .null := Arv.set Ar6 qq6 Sz6 Ng6 Ha6 Ga6 rfl W8 0 rfl (Nat.le_of_ble_eq_true rfl)
  have N8 := Fr.snoc X8 N0 g_b1
  have Kp8 := Keep.wr Kp1 W8 (Or.inr sz_b1)
  have cf10 := (own_sta_keep (own_S_NO_MATCH_RESOURCE W) Kp8 all0)
  obtain ⟨T11, X11, e11, st11⟩ := getS2 X8 hx hZ hown (host := "") (Or.inl (hw _ (List.mem_of_getElem? (i := 6) rfl))) Via.refl e8 cf10 (g := (mkF m 13 #[.val (.int p1), .unset, .unset, .unset, .unset, .unset, .unset, .unset] [(.int (1 : Int32)), (.ref b1), (.ref b1)])) rfl (hb hby at_13)
  have ch12 : ∀ t, Steps p.tables e below (T11.setTop (mkF m 16 #[.val (.int p1), .unset, .unset, .unset, .unset, .unset, .unset, .unset] [(.ref (ad 1)), (.int (1 : Int32)), (.ref b1), (.ref b1)])) t → Steps p.tables e below (s₁.setTop (entryFrame m #[(.int p1)] maxLocals)) t := fun t k => ch9 t (by
      show Steps p.tables e below (T8.setTop (mkF m 11 #[.val (.int p1), .unset, .unset, .unset, .unset, .unset, .unset, .unset] [(.ref b1)])) t
      refine XS.dup X8.here hx rfl (hb hby at_11) rfl rfl ?_
      show Steps p.tables e below (T8.setTop (mkF m 12 #[.val (.int p1), .unset, .unset, .unset, .unset, .unset, .unset, .unset] [(.ref b1), (.ref b1)])) t
      refine XS.iconst X8.here hx rfl (hb hby at_12) ?_
      show Steps p.tables e below (T8.setTop (mkF m 13 #[.val (.int p1), .unset, .unset, .unset, .unset, .unset, .unset, .unset] [(.int (1 : Int32)), (.ref b1), (.ref b1)])) t
      exact st11 t k)
  obtain ⟨cl13, Ar13, qq13, Sz13, Ng13, Ha13, Ga13⟩ := id V8
  have hin13 : ¬ ((1 : Int32) < 0 ∨ cl13.slots.size ≤ ((1 : Int32)).toNatClampNeg) := inb_of Sz13 (by decide)
  have cf14 := (Exa.keep (own_E_NO_MATCH_RESOURCE W) Kp8)
  obtain ⟨T15, hp15, X15, e15, W15, st15⟩ := stR X11 hx hZ e11 Ar13 (j := (1 : Int32)) hin13 rfl (Sto.ofV Ar13 qq13 O1 (Ins.self cf14)) (g := (mkF m 16 #[.val (.int p1), .unset, .unset, .unset, .unset, .unset, .unset, .unset] [(.ref (ad 1)), (.int (1 : Int32)), (.ref b1), (.ref b1)])) rfl rfl (hb hby at_16)
  have ch16 : ∀ t, Steps p.tables e below (T15.setTop (mkF m 17 #[.val (.int p1), .unset, .unset, .unset, .unset, .unset, .unset, .unset] [(.ref b1)])) t → Steps p.tables e below (s₁.setTop (entryFrame m #[(.int p1)] maxLocals)) t := fun t k => ch12 t (by
      show Steps p.tables e below (T11.setTop (mkF m 16 #[.val (.int p1), .unset, .unset, .unset, .unset, .unset, .unset, .unset] [(.ref (ad 1)), (.int (1 : Int32)), (.ref b1), (.ref b1)])) t
      exact st15 t k)
  have V15 : Arv Z hp15 b1 k1 (.object own_V) (8 : Int32) [(.ref (ad 0)), (.ref (ad 1)), .null, .null, .null, .null, .null, .null] .null := Arv.set Ar13 qq13 Sz13 Ng13 Ha13 Ga13 rfl W15 1 rfl (Nat.le_of_ble_eq_true rfl)
  have N15 := Fr.snoc X15 N8 g_b1
  have Kp15 := Keep.wr Kp8 W15 (Or.inr sz_b1)
  have cf17 := (own_sta_keep (own_S_NO_MATCH_ACTION W) Kp15 all0)
  obtain ⟨T18, X18, e18, st18⟩ := getS2 X15 hx hZ hown (host := "") (Or.inl (hw _ (List.mem_of_getElem? (i := 8) rfl))) Via.refl e15 cf17 (g := (mkF m 19 #[.val (.int p1), .unset, .unset, .unset, .unset, .unset, .unset, .unset] [(.int (2 : Int32)), (.ref b1), (.ref b1)])) rfl (hb hby at_19)
  have ch19 : ∀ t, Steps p.tables e below (T18.setTop (mkF m 22 #[.val (.int p1), .unset, .unset, .unset, .unset, .unset, .unset, .unset] [(.ref (ad 2)), (.int (2 : Int32)), (.ref b1), (.ref b1)])) t → Steps p.tables e below (s₁.setTop (entryFrame m #[(.int p1)] maxLocals)) t := fun t k => ch16 t (by
      show Steps p.tables e below (T15.setTop (mkF m 17 #[.val (.int p1), .unset, .unset, .unset, .unset, .unset, .unset, .unset] [(.ref b1)])) t
      refine XS.dup X15.here hx rfl (hb hby at_17) rfl rfl ?_
      show Steps p.tables e below (T15.setTop (mkF m 18 #[.val (.int p1), .unset, .unset, .unset, .unset, .unset, .unset, .unset] [(.ref b1), (.ref b1)])) t
      refine XS.iconst X15.here hx rfl (hb hby at_18) ?_
      show Steps p.tables e below (T15.setTop (mkF m 19 #[.val (.int p1), .unset, .unset, .unset, .unset, .unset, .unset, .unset] [(.int (2 : Int32)), (.ref b1), (.ref b1)])) t
      exact st18 t k)
  obtain ⟨cl20, Ar20, qq20, Sz20, Ng20, Ha20, Ga20⟩ := id V15
  have hin20 : ¬ ((2 : Int32) < 0 ∨ cl20.slots.size ≤ ((2 : Int32)).toNatClampNeg) := inb_of Sz20 (by decide)
  have cf21 := (Exa.keep (own_E_NO_MATCH_ACTION W) Kp15)
  obtain ⟨T22, hp22, X22, e22, W22, st22⟩ := stR X18 hx hZ e18 Ar20 (j := (2 : Int32)) hin20 rfl (Sto.ofV Ar20 qq20 O1 (Ins.self cf21)) (g := (mkF m 22 #[.val (.int p1), .unset, .unset, .unset, .unset, .unset, .unset, .unset] [(.ref (ad 2)), (.int (2 : Int32)), (.ref b1), (.ref b1)])) rfl rfl (hb hby at_22)
  have ch23 : ∀ t, Steps p.tables e below (T22.setTop (mkF m 23 #[.val (.int p1), .unset, .unset, .unset, .unset, .unset, .unset, .unset] [(.ref b1)])) t → Steps p.tables e below (s₁.setTop (entryFrame m #[(.int p1)] maxLocals)) t := fun t k => ch19 t (by
      show Steps p.tables e below (T18.setTop (mkF m 22 #[.val (.int p1), .unset, .unset, .unset, .unset, .unset, .unset, .unset] [(.ref (ad 2)), (.int (2 : Int32)), (.ref b1), (.ref b1)])) t
      exact st22 t k)
  have V22 : Arv Z hp22 b1 k1 (.object own_V) (8 : Int32) [(.ref (ad 0)), (.ref (ad 1)), (.ref (ad 2)), .null, .null, .null, .null, .null] .null := Arv.set Ar20 qq20 Sz20 Ng20 Ha20 Ga20 rfl W22 2 rfl (Nat.le_of_ble_eq_true rfl)
  have N22 := Fr.snoc X22 N15 g_b1
  have Kp22 := Keep.wr Kp15 W22 (Or.inr sz_b1)
  have cf24 := (own_sta_keep (own_S_NO_MATCH_IDENTITY W) Kp22 all0)
  obtain ⟨T25, X25, e25, st25⟩ := getS2 X22 hx hZ hown (host := "") (Or.inl (hw _ (List.mem_of_getElem? (i := 10) rfl))) Via.refl e22 cf24 (g := (mkF m 25 #[.val (.int p1), .unset, .unset, .unset, .unset, .unset, .unset, .unset] [(.int (3 : Int32)), (.ref b1), (.ref b1)])) rfl (hb hby at_25)
  have ch26 : ∀ t, Steps p.tables e below (T25.setTop (mkF m 28 #[.val (.int p1), .unset, .unset, .unset, .unset, .unset, .unset, .unset] [(.ref (ad 3)), (.int (3 : Int32)), (.ref b1), (.ref b1)])) t → Steps p.tables e below (s₁.setTop (entryFrame m #[(.int p1)] maxLocals)) t := fun t k => ch23 t (by
      show Steps p.tables e below (T22.setTop (mkF m 23 #[.val (.int p1), .unset, .unset, .unset, .unset, .unset, .unset, .unset] [(.ref b1)])) t
      refine XS.dup X22.here hx rfl (hb hby at_23) rfl rfl ?_
      show Steps p.tables e below (T22.setTop (mkF m 24 #[.val (.int p1), .unset, .unset, .unset, .unset, .unset, .unset, .unset] [(.ref b1), (.ref b1)])) t
      refine XS.iconst X22.here hx rfl (hb hby at_24) ?_
      show Steps p.tables e below (T22.setTop (mkF m 25 #[.val (.int p1), .unset, .unset, .unset, .unset, .unset, .unset, .unset] [(.int (3 : Int32)), (.ref b1), (.ref b1)])) t
      exact st25 t k)
  obtain ⟨cl27, Ar27, qq27, Sz27, Ng27, Ha27, Ga27⟩ := id V22
  have hin27 : ¬ ((3 : Int32) < 0 ∨ cl27.slots.size ≤ ((3 : Int32)).toNatClampNeg) := inb_of Sz27 (by decide)
  have cf28 := (Exa.keep (own_E_NO_MATCH_IDENTITY W) Kp22)
  obtain ⟨T29, hp29, X29, e29, W29, st29⟩ := stR X25 hx hZ e25 Ar27 (j := (3 : Int32)) hin27 rfl (Sto.ofV Ar27 qq27 O1 (Ins.self cf28)) (g := (mkF m 28 #[.val (.int p1), .unset, .unset, .unset, .unset, .unset, .unset, .unset] [(.ref (ad 3)), (.int (3 : Int32)), (.ref b1), (.ref b1)])) rfl rfl (hb hby at_28)
  have ch30 : ∀ t, Steps p.tables e below (T29.setTop (mkF m 29 #[.val (.int p1), .unset, .unset, .unset, .unset, .unset, .unset, .unset] [(.ref b1)])) t → Steps p.tables e below (s₁.setTop (entryFrame m #[(.int p1)] maxLocals)) t := fun t k => ch26 t (by
      show Steps p.tables e below (T25.setTop (mkF m 28 #[.val (.int p1), .unset, .unset, .unset, .unset, .unset, .unset, .unset] [(.ref (ad 3)), (.int (3 : Int32)), (.ref b1), (.ref b1)])) t
      exact st29 t k)
  have V29 : Arv Z hp29 b1 k1 (.object own_V) (8 : Int32) [(.ref (ad 0)), (.ref (ad 1)), (.ref (ad 2)), (.ref (ad 3)), .null, .null, .null, .null] .null := Arv.set Ar27 qq27 Sz27 Ng27 Ha27 Ga27 rfl W29 3 rfl (Nat.le_of_ble_eq_true rfl)
  have N29 := Fr.snoc X29 N22 g_b1
  have Kp29 := Keep.wr Kp22 W29 (Or.inr sz_b1)
  have cf31 := (own_sta_keep (own_S_NO_MATCH_CALENDAR W) Kp29 all0)
  obtain ⟨T32, X32, e32, st32⟩ := getS2 X29 hx hZ hown (host := "") (Or.inl (hw _ (List.mem_of_getElem? (i := 12) rfl))) Via.refl e29 cf31 (g := (mkF m 31 #[.val (.int p1), .unset, .unset, .unset, .unset, .unset, .unset, .unset] [(.int (4 : Int32)), (.ref b1), (.ref b1)])) rfl (hb hby at_31)
  have ch33 : ∀ t, Steps p.tables e below (T32.setTop (mkF m 34 #[.val (.int p1), .unset, .unset, .unset, .unset, .unset, .unset, .unset] [(.ref (ad 4)), (.int (4 : Int32)), (.ref b1), (.ref b1)])) t → Steps p.tables e below (s₁.setTop (entryFrame m #[(.int p1)] maxLocals)) t := fun t k => ch30 t (by
      show Steps p.tables e below (T29.setTop (mkF m 29 #[.val (.int p1), .unset, .unset, .unset, .unset, .unset, .unset, .unset] [(.ref b1)])) t
      refine XS.dup X29.here hx rfl (hb hby at_29) rfl rfl ?_
      show Steps p.tables e below (T29.setTop (mkF m 30 #[.val (.int p1), .unset, .unset, .unset, .unset, .unset, .unset, .unset] [(.ref b1), (.ref b1)])) t
      refine XS.iconst X29.here hx rfl (hb hby at_30) ?_
      show Steps p.tables e below (T29.setTop (mkF m 31 #[.val (.int p1), .unset, .unset, .unset, .unset, .unset, .unset, .unset] [(.int (4 : Int32)), (.ref b1), (.ref b1)])) t
      exact st32 t k)
  obtain ⟨cl34, Ar34, qq34, Sz34, Ng34, Ha34, Ga34⟩ := id V29
  have hin34 : ¬ ((4 : Int32) < 0 ∨ cl34.slots.size ≤ ((4 : Int32)).toNatClampNeg) := inb_of Sz34 (by decide)
  have cf35 := (Exa.keep (own_E_NO_MATCH_CALENDAR W) Kp29)
  obtain ⟨T36, hp36, X36, e36, W36, st36⟩ := stR X32 hx hZ e32 Ar34 (j := (4 : Int32)) hin34 rfl (Sto.ofV Ar34 qq34 O1 (Ins.self cf35)) (g := (mkF m 34 #[.val (.int p1), .unset, .unset, .unset, .unset, .unset, .unset, .unset] [(.ref (ad 4)), (.int (4 : Int32)), (.ref b1), (.ref b1)])) rfl rfl (hb hby at_34)
  have ch37 : ∀ t, Steps p.tables e below (T36.setTop (mkF m 35 #[.val (.int p1), .unset, .unset, .unset, .unset, .unset, .unset, .unset] [(.ref b1)])) t → Steps p.tables e below (s₁.setTop (entryFrame m #[(.int p1)] maxLocals)) t := fun t k => ch33 t (by
      show Steps p.tables e below (T32.setTop (mkF m 34 #[.val (.int p1), .unset, .unset, .unset, .unset, .unset, .unset, .unset] [(.ref (ad 4)), (.int (4 : Int32)), (.ref b1), (.ref b1)])) t
      exact st36 t k)
  have V36 : Arv Z hp36 b1 k1 (.object own_V) (8 : Int32) [(.ref (ad 0)), (.ref (ad 1)), (.ref (ad 2)), (.ref (ad 3)), (.ref (ad 4)), .null, .null, .null] .null := Arv.set Ar34 qq34 Sz34 Ng34 Ha34 Ga34 rfl W36 4 rfl (Nat.le_of_ble_eq_true rfl)
  have N36 := Fr.snoc X36 N29 g_b1
  have Kp36 := Keep.wr Kp29 W36 (Or.inr sz_b1)
  have cf38 := (own_sta_keep (own_S_MATCHED W) Kp36 all0)
  obtain ⟨T39, X39, e39, st39⟩ := getS2 X36 hx hZ hown (host := "") (Or.inl (hw _ (List.mem_of_getElem? (i := 14) rfl))) Via.refl e36 cf38 (g := (mkF m 37 #[.val (.int p1), .unset, .unset, .unset, .unset, .unset, .unset, .unset] [(.int (5 : Int32)), (.ref b1), (.ref b1)])) rfl (hb hby at_37)
  have ch40 : ∀ t, Steps p.tables e below (T39.setTop (mkF m 40 #[.val (.int p1), .unset, .unset, .unset, .unset, .unset, .unset, .unset] [(.ref (ad 5)), (.int (5 : Int32)), (.ref b1), (.ref b1)])) t → Steps p.tables e below (s₁.setTop (entryFrame m #[(.int p1)] maxLocals)) t := fun t k => ch37 t (by
      show Steps p.tables e below (T36.setTop (mkF m 35 #[.val (.int p1), .unset, .unset, .unset, .unset, .unset, .unset, .unset] [(.ref b1)])) t
      refine XS.dup X36.here hx rfl (hb hby at_35) rfl rfl ?_
      show Steps p.tables e below (T36.setTop (mkF m 36 #[.val (.int p1), .unset, .unset, .unset, .unset, .unset, .unset, .unset] [(.ref b1), (.ref b1)])) t
      refine XS.iconst X36.here hx rfl (hb hby at_36) ?_
      show Steps p.tables e below (T36.setTop (mkF m 37 #[.val (.int p1), .unset, .unset, .unset, .unset, .unset, .unset, .unset] [(.int (5 : Int32)), (.ref b1), (.ref b1)])) t
      exact st39 t k)
  obtain ⟨cl41, Ar41, qq41, Sz41, Ng41, Ha41, Ga41⟩ := id V36
  have hin41 : ¬ ((5 : Int32) < 0 ∨ cl41.slots.size ≤ ((5 : Int32)).toNatClampNeg) := inb_of Sz41 (by decide)
  have cf42 := (Exa.keep (own_E_MATCHED W) Kp36)
  obtain ⟨T43, hp43, X43, e43, W43, st43⟩ := stR X39 hx hZ e39 Ar41 (j := (5 : Int32)) hin41 rfl (Sto.ofV Ar41 qq41 O1 (Ins.self cf42)) (g := (mkF m 40 #[.val (.int p1), .unset, .unset, .unset, .unset, .unset, .unset, .unset] [(.ref (ad 5)), (.int (5 : Int32)), (.ref b1), (.ref b1)])) rfl rfl (hb hby at_40)
  have ch44 : ∀ t, Steps p.tables e below (T43.setTop (mkF m 41 #[.val (.int p1), .unset, .unset, .unset, .unset, .unset, .unset, .unset] [(.ref b1)])) t → Steps p.tables e below (s₁.setTop (entryFrame m #[(.int p1)] maxLocals)) t := fun t k => ch40 t (by
      show Steps p.tables e below (T39.setTop (mkF m 40 #[.val (.int p1), .unset, .unset, .unset, .unset, .unset, .unset, .unset] [(.ref (ad 5)), (.int (5 : Int32)), (.ref b1), (.ref b1)])) t
      exact st43 t k)
  have V43 : Arv Z hp43 b1 k1 (.object own_V) (8 : Int32) [(.ref (ad 0)), (.ref (ad 1)), (.ref (ad 2)), (.ref (ad 3)), (.ref (ad 4)), (.ref (ad 5)), .null, .null] .null := Arv.set Ar41 qq41 Sz41 Ng41 Ha41 Ga41 rfl W43 5 rfl (Nat.le_of_ble_eq_true rfl)
  have N43 := Fr.snoc X43 N36 g_b1
  have Kp43 := Keep.wr Kp36 W43 (Or.inr sz_b1)
  have cf45 := (own_sta_keep (own_S_RETAINED W) Kp43 all0)
  obtain ⟨T46, X46, e46, st46⟩ := getS2 X43 hx hZ hown (host := "") (Or.inl (hw _ (List.mem_of_getElem? (i := 16) rfl))) Via.refl e43 cf45 (g := (mkF m 44 #[.val (.int p1), .unset, .unset, .unset, .unset, .unset, .unset, .unset] [(.int (6 : Int32)), (.ref b1), (.ref b1)])) rfl (hb hby at_44)
  have ch47 : ∀ t, Steps p.tables e below (T46.setTop (mkF m 47 #[.val (.int p1), .unset, .unset, .unset, .unset, .unset, .unset, .unset] [(.ref (ad 6)), (.int (6 : Int32)), (.ref b1), (.ref b1)])) t → Steps p.tables e below (s₁.setTop (entryFrame m #[(.int p1)] maxLocals)) t := fun t k => ch44 t (by
      show Steps p.tables e below (T43.setTop (mkF m 41 #[.val (.int p1), .unset, .unset, .unset, .unset, .unset, .unset, .unset] [(.ref b1)])) t
      refine XS.dup X43.here hx rfl (hb hby at_41) rfl rfl ?_
      show Steps p.tables e below (T43.setTop (mkF m 42 #[.val (.int p1), .unset, .unset, .unset, .unset, .unset, .unset, .unset] [(.ref b1), (.ref b1)])) t
      refine XS.bipush X43.here hx rfl (hb hby at_42) ?_
      show Steps p.tables e below (T43.setTop (mkF m 44 #[.val (.int p1), .unset, .unset, .unset, .unset, .unset, .unset, .unset] [(.int (6 : Int32)), (.ref b1), (.ref b1)])) t
      exact st46 t k)
  obtain ⟨cl48, Ar48, qq48, Sz48, Ng48, Ha48, Ga48⟩ := id V43
  have hin48 : ¬ ((6 : Int32) < 0 ∨ cl48.slots.size ≤ ((6 : Int32)).toNatClampNeg) := inb_of Sz48 (by decide)
  have cf49 := (Exa.keep (own_E_RETAINED W) Kp43)
  obtain ⟨T50, hp50, X50, e50, W50, st50⟩ := stR X46 hx hZ e46 Ar48 (j := (6 : Int32)) hin48 rfl (Sto.ofV Ar48 qq48 O1 (Ins.self cf49)) (g := (mkF m 47 #[.val (.int p1), .unset, .unset, .unset, .unset, .unset, .unset, .unset] [(.ref (ad 6)), (.int (6 : Int32)), (.ref b1), (.ref b1)])) rfl rfl (hb hby at_47)
  have ch51 : ∀ t, Steps p.tables e below (T50.setTop (mkF m 48 #[.val (.int p1), .unset, .unset, .unset, .unset, .unset, .unset, .unset] [(.ref b1)])) t → Steps p.tables e below (s₁.setTop (entryFrame m #[(.int p1)] maxLocals)) t := fun t k => ch47 t (by
      show Steps p.tables e below (T46.setTop (mkF m 47 #[.val (.int p1), .unset, .unset, .unset, .unset, .unset, .unset, .unset] [(.ref (ad 6)), (.int (6 : Int32)), (.ref b1), (.ref b1)])) t
      exact st50 t k)
  have V50 : Arv Z hp50 b1 k1 (.object own_V) (8 : Int32) [(.ref (ad 0)), (.ref (ad 1)), (.ref (ad 2)), (.ref (ad 3)), (.ref (ad 4)), (.ref (ad 5)), (.ref (ad 6)), .null] .null := Arv.set Ar48 qq48 Sz48 Ng48 Ha48 Ga48 rfl W50 6 rfl (Nat.le_of_ble_eq_true rfl)
  have N50 := Fr.snoc X50 N43 g_b1
  have Kp50 := Keep.wr Kp43 W50 (Or.inr sz_b1)
  have cf52 := (own_sta_keep (own_S_DROPPED_BY_BEST_MATCH W) Kp50 all0)
  obtain ⟨T53, X53, e53, st53⟩ := getS2 X50 hx hZ hown (host := "") (Or.inl (hw _ (List.mem_of_getElem? (i := 18) rfl))) Via.refl e50 cf52 (g := (mkF m 51 #[.val (.int p1), .unset, .unset, .unset, .unset, .unset, .unset, .unset] [(.int (7 : Int32)), (.ref b1), (.ref b1)])) rfl (hb hby at_51)
  have ch54 : ∀ t, Steps p.tables e below (T53.setTop (mkF m 54 #[.val (.int p1), .unset, .unset, .unset, .unset, .unset, .unset, .unset] [(.ref (ad 7)), (.int (7 : Int32)), (.ref b1), (.ref b1)])) t → Steps p.tables e below (s₁.setTop (entryFrame m #[(.int p1)] maxLocals)) t := fun t k => ch51 t (by
      show Steps p.tables e below (T50.setTop (mkF m 48 #[.val (.int p1), .unset, .unset, .unset, .unset, .unset, .unset, .unset] [(.ref b1)])) t
      refine XS.dup X50.here hx rfl (hb hby at_48) rfl rfl ?_
      show Steps p.tables e below (T50.setTop (mkF m 49 #[.val (.int p1), .unset, .unset, .unset, .unset, .unset, .unset, .unset] [(.ref b1), (.ref b1)])) t
      refine XS.bipush X50.here hx rfl (hb hby at_49) ?_
      show Steps p.tables e below (T50.setTop (mkF m 51 #[.val (.int p1), .unset, .unset, .unset, .unset, .unset, .unset, .unset] [(.int (7 : Int32)), (.ref b1), (.ref b1)])) t
      exact st53 t k)
  obtain ⟨cl55, Ar55, qq55, Sz55, Ng55, Ha55, Ga55⟩ := id V50
  have hin55 : ¬ ((7 : Int32) < 0 ∨ cl55.slots.size ≤ ((7 : Int32)).toNatClampNeg) := inb_of Sz55 (by decide)
  have cf56 := (Exa.keep (own_E_DROPPED_BY_BEST_MATCH W) Kp50)
  obtain ⟨T57, hp57, X57, e57, W57, st57⟩ := stR X53 hx hZ e53 Ar55 (j := (7 : Int32)) hin55 rfl (Sto.ofV Ar55 qq55 O1 (Ins.self cf56)) (g := (mkF m 54 #[.val (.int p1), .unset, .unset, .unset, .unset, .unset, .unset, .unset] [(.ref (ad 7)), (.int (7 : Int32)), (.ref b1), (.ref b1)])) rfl rfl (hb hby at_54)
  have ch58 : ∀ t, Steps p.tables e below (T57.setTop (mkF m 55 #[.val (.int p1), .unset, .unset, .unset, .unset, .unset, .unset, .unset] [(.ref b1)])) t → Steps p.tables e below (s₁.setTop (entryFrame m #[(.int p1)] maxLocals)) t := fun t k => ch54 t (by
      show Steps p.tables e below (T53.setTop (mkF m 54 #[.val (.int p1), .unset, .unset, .unset, .unset, .unset, .unset, .unset] [(.ref (ad 7)), (.int (7 : Int32)), (.ref b1), (.ref b1)])) t
      exact st57 t k)
  have V57 : Arv Z hp57 b1 k1 (.object own_V) (8 : Int32) [(.ref (ad 0)), (.ref (ad 1)), (.ref (ad 2)), (.ref (ad 3)), (.ref (ad 4)), (.ref (ad 5)), (.ref (ad 6)), (.ref (ad 7))] .null := Arv.set Ar55 qq55 Sz55 Ng55 Ha55 Ga55 rfl W57 7 rfl (Nat.le_of_ble_eq_true rfl)
  have N57 := Fr.snoc X57 N50 g_b1
  have Kp57 := Keep.wr Kp50 W57 (Or.inr sz_b1)
  obtain ⟨cl59, Ar59, -, Sz59, Ng59, Ha59, -⟩ := id V57
  have hin59 : ¬ ((0 : Int32) < 0 ∨ cl59.slots.size ≤ ((0 : Int32)).toNatClampNeg) := inb_of Sz59 (by decide)
  have hat59 : cl59.slots[((0 : Int32)).toNatClampNeg]? = some (.ref (ad 0)) := Ha59.at hin59 rfl
  have cf61 := (Exa.wr W57 (Exa.wr W50 (Exa.wr W43 (Exa.wr W36 (Exa.wr W29 (Exa.wr W22 (Exa.wr W15 (Exa.wr W8 cf7))))))))
  obtain ⟨cq60, kq60, qa60, qb60, qc60⟩ := isOf hZ e57 cf61
  obtain ⟨vv62, _, ⟨T62, L62, kk62, nn62⟩, -, X62, ⟨Lc62, hQ62, l62, y62, z62⟩, st62⟩ := X57.virtualBack hx (y := (⟨own_V, "missesEverySubject", "()Z"⟩ : MethodName)) (z := (⟨own_V, "missesEverySubject", "()Z"⟩ : MethodName)) hown (mvT hZ (hw _ (List.mem_of_getElem? (i := 20) rfl))) (mvT hZ (hw _ (List.mem_of_getElem? (i := 21) rfl))) (notFace_of_selects (args := #[]) (mvT hZ (hw _ (List.mem_of_getElem? (i := 23) rfl)))) (mvT hZ (hw _ (List.mem_of_getElem? (i := 23) rfl))) (mvT hZ (hw _ (List.mem_of_getElem? (i := 22) rfl))) (by decide) (backOf (W := 0) (own_miss_0 l Z a0 hw [] hp57 n0 (Nat.le_trans Z0 Kp57.1) ad (own_Wd_ext W (own_ext_of_keep Kp57 all0))) hZ (hw _ (List.mem_of_getElem? (i := 24) rfl)) (hw _ (List.mem_of_getElem? (i := 3) rfl)) (by decide) (by decide)) qa60 qc60 (g := (mkF m 107 #[.val (.int p1), .val (.ref b1), .val (.int (0 : Int32)), .val (.ref (ad 0)), .val (.int (1 : Int32)), .val (.int (0 : Int32)), .val (.int (1 : Int32)), .unset] [(.ref (ad 0))])) rfl (by rw [hml]; rfl) (Steps.refl _) (argsL := []) (rest := []) (lenOf own_pd___Z rfl) rfl (by show 2 * 0 + _ ≤ _; exact Nat.le_of_eq rfl) (hb hby at_107) (fun _ _ => ⟨rfl, e57, (by decide : 1 + 0 ≤ _), (by decide : 8 + 0 ≤ _)⟩)
  dsimp only [Pt.U, Pt.locs, Pt.cells, Pt.slots] at X62 l62 y62 z62 st62 hQ62
  subst l62 y62 z62
  obtain ⟨rfl, Nq62, e62⟩ := hQ62
  have N62 := Fr.app N57 Nq62
  have ch63 : ∀ t, Steps p.tables e below (T62.setTop (mkF m 110 #[.val (.int p1), .val (.ref b1), .val (.int (0 : Int32)), .val (.ref (ad 0)), .val (.int (1 : Int32)), .val (.int (0 : Int32)), .val (.int (1 : Int32)), .unset] [(.int (1 : Int32))])) t → Steps p.tables e below (s₁.setTop (entryFrame m #[(.int p1)] maxLocals)) t := fun t k => ch58 t (by
      show Steps p.tables e below (T57.setTop (mkF m 55 #[.val (.int p1), .unset, .unset, .unset, .unset, .unset, .unset, .unset] [(.ref b1)])) t
      refine XS.astoreN X57.here hx rfl (hb hby at_55) rfl rfl (l' := #[.val (.int p1), .val (.ref b1), .unset, .unset, .unset, .unset, .unset, .unset]) rfl ?_
      show Steps p.tables e below (T57.setTop (mkF m 56 #[.val (.int p1), .val (.ref b1), .unset, .unset, .unset, .unset, .unset, .unset] [])) t
      refine XS.iloadN X57.here hx rfl (hb hby at_56) rfl ?_
      show Steps p.tables e below (T57.setTop (mkF m 57 #[.val (.int p1), .val (.ref b1), .unset, .unset, .unset, .unset, .unset, .unset] [(.int p1)])) t
      refine XS.bipush X57.here hx rfl (hb hby at_57) ?_
      show Steps p.tables e below (T57.setTop (mkF m 59 #[.val (.int p1), .val (.ref b1), .unset, .unset, .unset, .unset, .unset, .unset] [(.int (7 : Int32)), (.int p1)])) t
      refine XS.iand X57.here hx rfl (hb hby at_59) rfl ?_
      rw [hk]
      show Steps p.tables e below (T57.setTop (mkF m 60 #[.val (.int p1), .val (.ref b1), .unset, .unset, .unset, .unset, .unset, .unset] [(.int (0 : Int32))])) t
      refine XS.istoreN X57.here hx rfl (hb hby at_60) rfl (l' := #[.val (.int p1), .val (.ref b1), .val (.int (0 : Int32)), .unset, .unset, .unset, .unset, .unset]) rfl ?_
      show Steps p.tables e below (T57.setTop (mkF m 61 #[.val (.int p1), .val (.ref b1), .val (.int (0 : Int32)), .unset, .unset, .unset, .unset, .unset] [])) t
      refine XS.aloadN X57.here hx rfl (hb hby at_61) rfl rfl ?_
      show Steps p.tables e below (T57.setTop (mkF m 62 #[.val (.int p1), .val (.ref b1), .val (.int (0 : Int32)), .unset, .unset, .unset, .unset, .unset] [(.ref b1)])) t
      refine XS.iloadN X57.here hx rfl (hb hby at_62) rfl ?_
      show Steps p.tables e below (T57.setTop (mkF m 63 #[.val (.int p1), .val (.ref b1), .val (.int (0 : Int32)), .unset, .unset, .unset, .unset, .unset] [(.int (0 : Int32)), (.ref b1)])) t
      refine X57.aaload hx (j := (0 : Int32)) (v := (.ref (ad 0))) (by rw [e57]; exact Ar59.1) (State.isArrayOf_alike hZ.alike Ar59.2.1) rfl Ar59.2.2 hin59 hat59 (g := (mkF m 63 #[.val (.int p1), .val (.ref b1), .val (.int (0 : Int32)), .unset, .unset, .unset, .unset, .unset] [(.int (0 : Int32)), (.ref b1)])) rfl rfl (hb hby at_63) _ ?_
      show Steps p.tables e below (T57.setTop (mkF m 64 #[.val (.int p1), .val (.ref b1), .val (.int (0 : Int32)), .unset, .unset, .unset, .unset, .unset] [(.ref (ad 0))])) t
      refine XS.astoreN X57.here hx rfl (hb hby at_64) rfl rfl (l' := #[.val (.int p1), .val (.ref b1), .val (.int (0 : Int32)), .val (.ref (ad 0)), .unset, .unset, .unset, .unset]) rfl ?_
      show Steps p.tables e below (T57.setTop (mkF m 65 #[.val (.int p1), .val (.ref b1), .val (.int (0 : Int32)), .val (.ref (ad 0)), .unset, .unset, .unset, .unset] [])) t
      refine XS.iloadN X57.here hx rfl (hb hby at_65) rfl ?_
      show Steps p.tables e below (T57.setTop (mkF m 66 #[.val (.int p1), .val (.ref b1), .val (.int (0 : Int32)), .val (.ref (ad 0)), .unset, .unset, .unset, .unset] [(.int (0 : Int32))])) t
      refine XS.iconst X57.here hx rfl (hb hby at_66) ?_
      show Steps p.tables e below (T57.setTop (mkF m 67 #[.val (.int p1), .val (.ref b1), .val (.int (0 : Int32)), .val (.ref (ad 0)), .unset, .unset, .unset, .unset] [(.int (5 : Int32)), (.int (0 : Int32))])) t
      refine XS.icmpNo X57.here hx rfl (hb hby at_67) rfl (tlt (by decide : (0 : Int32) < (5 : Int32))).2.1 ?_
      show Steps p.tables e below (T57.setTop (mkF m 70 #[.val (.int p1), .val (.ref b1), .val (.int (0 : Int32)), .val (.ref (ad 0)), .unset, .unset, .unset, .unset] [])) t
      refine XS.iconst X57.here hx rfl (hb hby at_70) ?_
      show Steps p.tables e below (T57.setTop (mkF m 71 #[.val (.int p1), .val (.ref b1), .val (.int (0 : Int32)), .val (.ref (ad 0)), .unset, .unset, .unset, .unset] [(.int (1 : Int32))])) t
      refine XS.goto X57.here hx rfl (pc0 := 71) (pc' := 75) rfl (hb hby at_71) (by decide) (by decide) ?_
      show Steps p.tables e below (T57.setTop (mkF m 75 #[.val (.int p1), .val (.ref b1), .val (.int (0 : Int32)), .val (.ref (ad 0)), .unset, .unset, .unset, .unset] [(.int (1 : Int32))])) t
      refine XS.istore X57.here hx rfl (hb hby at_75) rfl (l' := #[.val (.int p1), .val (.ref b1), .val (.int (0 : Int32)), .val (.ref (ad 0)), .val (.int (1 : Int32)), .unset, .unset, .unset]) rfl ?_
      show Steps p.tables e below (T57.setTop (mkF m 77 #[.val (.int p1), .val (.ref b1), .val (.int (0 : Int32)), .val (.ref (ad 0)), .val (.int (1 : Int32)), .unset, .unset, .unset] [])) t
      refine XS.iloadN X57.here hx rfl (hb hby at_77) rfl ?_
      show Steps p.tables e below (T57.setTop (mkF m 78 #[.val (.int p1), .val (.ref b1), .val (.int (0 : Int32)), .val (.ref (ad 0)), .val (.int (1 : Int32)), .unset, .unset, .unset] [(.int (0 : Int32))])) t
      refine XS.iconst X57.here hx rfl (hb hby at_78) ?_
      show Steps p.tables e below (T57.setTop (mkF m 79 #[.val (.int p1), .val (.ref b1), .val (.int (0 : Int32)), .val (.ref (ad 0)), .val (.int (1 : Int32)), .unset, .unset, .unset] [(.int (3 : Int32)), (.int (0 : Int32))])) t
      refine XS.icmpYes X57.here hx rfl (pc0 := 79) (pc' := 86) rfl (hb hby at_79) rfl (feq (by decide : ¬ (0 : Int32) = (3 : Int32))).2 (by decide) (by decide) ?_
      show Steps p.tables e below (T57.setTop (mkF m 86 #[.val (.int p1), .val (.ref b1), .val (.int (0 : Int32)), .val (.ref (ad 0)), .val (.int (1 : Int32)), .unset, .unset, .unset] [])) t
      refine XS.iconst X57.here hx rfl (hb hby at_86) ?_
      show Steps p.tables e below (T57.setTop (mkF m 87 #[.val (.int p1), .val (.ref b1), .val (.int (0 : Int32)), .val (.ref (ad 0)), .val (.int (1 : Int32)), .unset, .unset, .unset] [(.int (0 : Int32))])) t
      refine XS.istore X57.here hx rfl (hb hby at_87) rfl (l' := #[.val (.int p1), .val (.ref b1), .val (.int (0 : Int32)), .val (.ref (ad 0)), .val (.int (1 : Int32)), .val (.int (0 : Int32)), .unset, .unset]) rfl ?_
      show Steps p.tables e below (T57.setTop (mkF m 89 #[.val (.int p1), .val (.ref b1), .val (.int (0 : Int32)), .val (.ref (ad 0)), .val (.int (1 : Int32)), .val (.int (0 : Int32)), .unset, .unset] [])) t
      refine XS.iload X57.here hx rfl (hb hby at_89) rfl ?_
      show Steps p.tables e below (T57.setTop (mkF m 91 #[.val (.int p1), .val (.ref b1), .val (.int (0 : Int32)), .val (.ref (ad 0)), .val (.int (1 : Int32)), .val (.int (0 : Int32)), .unset, .unset] [(.int (1 : Int32))])) t
      refine XS.ifNo X57.here hx rfl (hb hby at_91) rfl ((if0 _ _).trans (feq (by decide : ¬ (1 : Int32) = (0 : Int32))).1) ?_
      show Steps p.tables e below (T57.setTop (mkF m 94 #[.val (.int p1), .val (.ref b1), .val (.int (0 : Int32)), .val (.ref (ad 0)), .val (.int (1 : Int32)), .val (.int (0 : Int32)), .unset, .unset] [])) t
      refine XS.iload X57.here hx rfl (hb hby at_94) rfl ?_
      show Steps p.tables e below (T57.setTop (mkF m 96 #[.val (.int p1), .val (.ref b1), .val (.int (0 : Int32)), .val (.ref (ad 0)), .val (.int (1 : Int32)), .val (.int (0 : Int32)), .unset, .unset] [(.int (0 : Int32))])) t
      refine XS.ifNo X57.here hx rfl (hb hby at_96) rfl ((if0 _ _).trans (teq (by decide : (0 : Int32) = (0 : Int32))).2) ?_
      show Steps p.tables e below (T57.setTop (mkF m 99 #[.val (.int p1), .val (.ref b1), .val (.int (0 : Int32)), .val (.ref (ad 0)), .val (.int (1 : Int32)), .val (.int (0 : Int32)), .unset, .unset] [])) t
      refine XS.iconst X57.here hx rfl (hb hby at_99) ?_
      show Steps p.tables e below (T57.setTop (mkF m 100 #[.val (.int p1), .val (.ref b1), .val (.int (0 : Int32)), .val (.ref (ad 0)), .val (.int (1 : Int32)), .val (.int (0 : Int32)), .unset, .unset] [(.int (1 : Int32))])) t
      refine XS.goto X57.here hx rfl (pc0 := 100) (pc' := 104) rfl (hb hby at_100) (by decide) (by decide) ?_
      show Steps p.tables e below (T57.setTop (mkF m 104 #[.val (.int p1), .val (.ref b1), .val (.int (0 : Int32)), .val (.ref (ad 0)), .val (.int (1 : Int32)), .val (.int (0 : Int32)), .unset, .unset] [(.int (1 : Int32))])) t
      refine XS.istore X57.here hx rfl (hb hby at_104) rfl (l' := #[.val (.int p1), .val (.ref b1), .val (.int (0 : Int32)), .val (.ref (ad 0)), .val (.int (1 : Int32)), .val (.int (0 : Int32)), .val (.int (1 : Int32)), .unset]) rfl ?_
      show Steps p.tables e below (T57.setTop (mkF m 106 #[.val (.int p1), .val (.ref b1), .val (.int (0 : Int32)), .val (.ref (ad 0)), .val (.int (1 : Int32)), .val (.int (0 : Int32)), .val (.int (1 : Int32)), .unset] [])) t
      refine XS.aloadN X57.here hx rfl (hb hby at_106) rfl rfl ?_
      show Steps p.tables e below (T57.setTop (mkF m 107 #[.val (.int p1), .val (.ref b1), .val (.int (0 : Int32)), .val (.ref (ad 0)), .val (.int (1 : Int32)), .val (.int (0 : Int32)), .val (.int (1 : Int32)), .unset] [(.ref (ad 0))])) t
      exact st62.trans k)
  obtain ⟨cq64, kq64, qa64, qb64, qc64⟩ := isOf hZ e62 cf61
  obtain ⟨vv65, _, ⟨T65, L65, kk65, nn65⟩, -, X65, ⟨Lc65, hQ65, l65, y65, z65⟩, st65⟩ := X62.virtualBack hx (y := (⟨own_V, "applies", "()Z"⟩ : MethodName)) (z := (⟨own_V, "applies", "()Z"⟩ : MethodName)) hown (mvT hZ (hw _ (List.mem_of_getElem? (i := 26) rfl))) (mvT hZ (hw _ (List.mem_of_getElem? (i := 27) rfl))) (notFace_of_selects (args := #[]) (mvT hZ (hw _ (List.mem_of_getElem? (i := 29) rfl)))) (mvT hZ (hw _ (List.mem_of_getElem? (i := 29) rfl))) (mvT hZ (hw _ (List.mem_of_getElem? (i := 28) rfl))) (by decide) (backOf (W := 0) (own_appl_0 l Z a0 hw [] hp57 n0 (Nat.le_trans Z0 Kp57.1) ad (own_Wd_ext W (own_ext_of_keep Kp57 all0))) hZ (hw _ (List.mem_of_getElem? (i := 30) rfl)) (hw _ (List.mem_of_getElem? (i := 3) rfl)) (by decide) (by decide)) qa64 qc64 (g := (mkF m 127 #[.val (.int p1), .val (.ref b1), .val (.int (0 : Int32)), .val (.ref (ad 0)), .val (.int (1 : Int32)), .val (.int (0 : Int32)), .val (.int (1 : Int32)), .val (.int (1 : Int32))] [(.ref (ad 0))])) rfl (by rw [hml]; rfl) (Steps.refl _) (argsL := []) (rest := []) (lenOf own_pd___Z rfl) rfl (by show 2 * 0 + _ ≤ _; exact Nat.le_of_eq rfl) (hb hby at_127) (fun _ _ => ⟨rfl, e62, (by decide : 1 + 0 ≤ _), (by decide : 8 + 0 ≤ _)⟩)
  dsimp only [Pt.U, Pt.locs, Pt.cells, Pt.slots] at X65 l65 y65 z65 st65 hQ65
  subst l65 y65 z65
  obtain ⟨rfl, Nq65, e65⟩ := hQ65
  have N65 := Fr.app N62 Nq65
  have ch66 : ∀ t, Steps p.tables e below (T65.setTop (mkF m 130 #[.val (.int p1), .val (.ref b1), .val (.int (0 : Int32)), .val (.ref (ad 0)), .val (.int (1 : Int32)), .val (.int (0 : Int32)), .val (.int (1 : Int32)), .val (.int (1 : Int32))] [(.int (0 : Int32))])) t → Steps p.tables e below (s₁.setTop (entryFrame m #[(.int p1)] maxLocals)) t := fun t k => ch63 t (by
      show Steps p.tables e below (T62.setTop (mkF m 110 #[.val (.int p1), .val (.ref b1), .val (.int (0 : Int32)), .val (.ref (ad 0)), .val (.int (1 : Int32)), .val (.int (0 : Int32)), .val (.int (1 : Int32)), .unset] [(.int (1 : Int32))])) t
      refine XS.istore X62.here hx rfl (hb hby at_110) rfl (l' := #[.val (.int p1), .val (.ref b1), .val (.int (0 : Int32)), .val (.ref (ad 0)), .val (.int (1 : Int32)), .val (.int (0 : Int32)), .val (.int (1 : Int32)), .val (.int (1 : Int32))]) rfl ?_
      show Steps p.tables e below (T62.setTop (mkF m 112 #[.val (.int p1), .val (.ref b1), .val (.int (0 : Int32)), .val (.ref (ad 0)), .val (.int (1 : Int32)), .val (.int (0 : Int32)), .val (.int (1 : Int32)), .val (.int (1 : Int32))] [])) t
      refine XS.iload X62.here hx rfl (hb hby at_112) rfl ?_
      show Steps p.tables e below (T62.setTop (mkF m 114 #[.val (.int p1), .val (.ref b1), .val (.int (0 : Int32)), .val (.ref (ad 0)), .val (.int (1 : Int32)), .val (.int (0 : Int32)), .val (.int (1 : Int32)), .val (.int (1 : Int32))] [(.int (1 : Int32))])) t
      refine XS.iload X62.here hx rfl (hb hby at_114) rfl ?_
      show Steps p.tables e below (T62.setTop (mkF m 116 #[.val (.int p1), .val (.ref b1), .val (.int (0 : Int32)), .val (.ref (ad 0)), .val (.int (1 : Int32)), .val (.int (0 : Int32)), .val (.int (1 : Int32)), .val (.int (1 : Int32))] [(.int (1 : Int32)), (.int (1 : Int32))])) t
      refine XS.icmpYes X62.here hx rfl (pc0 := 116) (pc' := 121) rfl (hb hby at_116) rfl (teq (by decide : (1 : Int32) = (1 : Int32))).1 (by decide) (by decide) ?_
      show Steps p.tables e below (T62.setTop (mkF m 121 #[.val (.int p1), .val (.ref b1), .val (.int (0 : Int32)), .val (.ref (ad 0)), .val (.int (1 : Int32)), .val (.int (0 : Int32)), .val (.int (1 : Int32)), .val (.int (1 : Int32))] [])) t
      refine XS.iload X62.here hx rfl (hb hby at_121) rfl ?_
      show Steps p.tables e below (T62.setTop (mkF m 123 #[.val (.int p1), .val (.ref b1), .val (.int (0 : Int32)), .val (.ref (ad 0)), .val (.int (1 : Int32)), .val (.int (0 : Int32)), .val (.int (1 : Int32)), .val (.int (1 : Int32))] [(.int (1 : Int32))])) t
      refine XS.ifNo X62.here hx rfl (hb hby at_123) rfl ((if0 _ _).trans (feq (by decide : ¬ (1 : Int32) = (0 : Int32))).1) ?_
      show Steps p.tables e below (T62.setTop (mkF m 126 #[.val (.int p1), .val (.ref b1), .val (.int (0 : Int32)), .val (.ref (ad 0)), .val (.int (1 : Int32)), .val (.int (0 : Int32)), .val (.int (1 : Int32)), .val (.int (1 : Int32))] [])) t
      refine XS.aloadN X62.here hx rfl (hb hby at_126) rfl rfl ?_
      show Steps p.tables e below (T62.setTop (mkF m 127 #[.val (.int p1), .val (.ref b1), .val (.int (0 : Int32)), .val (.ref (ad 0)), .val (.int (1 : Int32)), .val (.int (0 : Int32)), .val (.int (1 : Int32)), .val (.int (1 : Int32))] [(.ref (ad 0))])) t
      exact st65.trans k)
  have ch67 : ∀ t, Steps p.tables e below (T65.setTop (mkF m 138 #[.val (.int p1), .val (.ref b1), .val (.int (0 : Int32)), .val (.ref (ad 0)), .val (.int (1 : Int32)), .val (.int (0 : Int32)), .val (.int (1 : Int32)), .val (.int (1 : Int32))] [(.int (1 : Int32))])) t → Steps p.tables e below (s₁.setTop (entryFrame m #[(.int p1)] maxLocals)) t := fun t k => ch66 t (by
      show Steps p.tables e below (T65.setTop (mkF m 130 #[.val (.int p1), .val (.ref b1), .val (.int (0 : Int32)), .val (.ref (ad 0)), .val (.int (1 : Int32)), .val (.int (0 : Int32)), .val (.int (1 : Int32)), .val (.int (1 : Int32))] [(.int (0 : Int32))])) t
      refine XS.ifNo X65.here hx rfl (hb hby at_130) rfl ((if0 _ _).trans (teq (by decide : (0 : Int32) = (0 : Int32))).2) ?_
      show Steps p.tables e below (T65.setTop (mkF m 133 #[.val (.int p1), .val (.ref b1), .val (.int (0 : Int32)), .val (.ref (ad 0)), .val (.int (1 : Int32)), .val (.int (0 : Int32)), .val (.int (1 : Int32)), .val (.int (1 : Int32))] [])) t
      refine XS.iconst X65.here hx rfl (hb hby at_133) ?_
      show Steps p.tables e below (T65.setTop (mkF m 134 #[.val (.int p1), .val (.ref b1), .val (.int (0 : Int32)), .val (.ref (ad 0)), .val (.int (1 : Int32)), .val (.int (0 : Int32)), .val (.int (1 : Int32)), .val (.int (1 : Int32))] [(.int (1 : Int32))])) t
      refine XS.goto X65.here hx rfl (pc0 := 134) (pc' := 138) rfl (hb hby at_134) (by decide) (by decide) ?_
      exact k)
  obtain ⟨fs, hr, hrun, hended, hW, hsame⟩ := X65.leave (v := some (.int (1 : Int32))) (fun h => by rw [Bd.returns] at h; cases h)
  refine ⟨_, _, ch67 _ ?_, hrun, hended, _, _, rfl, ?_, ⟨_, rfl⟩, hW, hsame.mono (by decide) (by decide)⟩
  · show Steps p.tables e below (T65.setTop (mkF m 138 #[.val (.int p1), .val (.ref b1), .val (.int (0 : Int32)), .val (.ref (ad 0)), .val (.int (1 : Int32)), .val (.int (0 : Int32)), .val (.int (1 : Int32)), .val (.int (1 : Int32))] [(.int (1 : Int32))])) _
    exact retN X65 hx (t := .boolean) Bd.returns (by simp) (hb hby at_138) hr
  · show QN (some (.int (1 : Int32))) n0 _ T65.heap _
    rw [e65]
    exact ⟨rfl, N65⟩
theorem own_ef_own_miss_1 (m : MethodId) {x0 : Addr} : entryFrame m #[(.ref x0)] 1 = mkF m 0 #[.val (.ref x0)] [] := by first | (simp [entryFrame, mkF, argsToLocals, Value.category, maxLocals]; done) | rfl
set_option maxRecDepth 65536 in
set_option maxHeartbeats 40000000 in
theorem own_miss_1 (l : Launch) (Z : State) (a0 : Array Value) (hw : ∀ d ∈ tables_1, d.before a0 Z = true) (ws : List Jvm.Cond) (h0 : Heap) (n0 : Nat) (Z0 : n0 ≤ h0.size) (ad : Nat → Addr) (W : OwnWd Z h0 ad) :
    MetFree l (⟨own_V, "missesEverySubject", "()Z"⟩ : MethodName) (head1 (Jvm.Cond.code (⟨own_V, "missesEverySubject", "()Z"⟩ : MethodName) prog_34_method_6_code 1 (some .boolean) :: ws) ({ frames := 0, cells := 0, slots := 0, locals := 0 } : Room)) (fun a U => a = #[(.ref (ad 1))] ∧ Z.Warmed39 U.vm ∧ U.heap = h0) (fun _ _ _ _ _ => True) (fun _ U o U' => ∃ v L, o = .returned v ∧ QV (some (.int (1 : Int32))) h0 n0 v U'.heap L ∧ FrameEnd U o U' L ({ frames := 0, cells := 0, slots := 0, locals := 0 } : Room).cells ({ frames := 0, cells := 0, slots := 0, locals := 0 } : Room).slots) := by
  refine MetFree.of_bodySF (plainFor_of_name own_pn_own_Verdict) hisR ?_
  intro p e s m args below meth c s₁ Bd hml0 hP hK
  obtain ⟨rfl, hZ, hh⟩ := hP
  have hx := Bd.exec
  have hby := Bd.bytes
  have hml : c.maxLocals = 1 := hml0
  have hown : s.vm.findClass own_V = some m.cls := (findClass_of_methodNamed Bd.named :)
  have hnm := (name_of_methodNamed Bd.named Bd.method).1
  have X0 : Stand p l e ({ frames := 0, cells := 0, slots := 0, locals := 0 } : Room) s m #[(.ref (ad 1))] below meth c s₁ [] 0 0 := Stand.of_body Bd
  have e0 : s₁.heap = h0 := by rw [← hh, Bd.state]; rfl
  have N0 := Fr.nil n0
  have pre0 : ∀ t, Steps p.tables e below (s₁.setTop (mkF m 0 #[.val (.ref (ad 1))] [])) t → Steps p.tables e below (s₁.setTop (entryFrame m #[(.ref (ad 1))] 1)) t := fun t k => castTop (own_ef_own_miss_1 m) k
  obtain ⟨T1, X1, e1, st1⟩ := getS2 X0 hx hZ hown (host := "") (Or.inl (hw _ (List.mem_of_getElem? (i := 25) rfl))) Via.refl e0 (own_S_DISABLED W) (g := (mkF m 1 #[.val (.ref (ad 1))] [(.ref (ad 1))])) rfl (hb hby own_d_prog_34_method_6_code_1)
  have ch2 : ∀ t, Steps p.tables e below (T1.setTop (mkF m 4 #[.val (.ref (ad 1))] [(.ref (ad 0)), (.ref (ad 1))])) t → Steps p.tables e below (s₁.setTop (entryFrame m #[(.ref (ad 1))] 1)) t := fun t k => pre0 t (by
      show Steps p.tables e below (s₁.setTop (mkF m 0 #[.val (.ref (ad 1))] [])) t
      refine XS.aloadN X0.here hx rfl (hb hby own_d_prog_34_method_6_code_0) rfl rfl ?_
      show Steps p.tables e below (s₁.setTop (mkF m 1 #[.val (.ref (ad 1))] [(.ref (ad 1))])) t
      exact st1 t k)
  obtain ⟨T3, X3, e3, st3⟩ := getS2 X1 hx hZ hown (host := "") (Or.inl (hw _ (List.mem_of_getElem? (i := 33) rfl))) Via.refl e1 (own_S_NO_MATCH_RESOURCE W) (g := (mkF m 8 #[.val (.ref (ad 1))] [(.ref (ad 1))])) rfl (hb hby own_d_prog_34_method_6_code_8)
  have ch4 : ∀ t, Steps p.tables e below (T3.setTop (mkF m 11 #[.val (.ref (ad 1))] [(.ref (ad 1)), (.ref (ad 1))])) t → Steps p.tables e below (s₁.setTop (entryFrame m #[(.ref (ad 1))] 1)) t := fun t k => ch2 t (by
      show Steps p.tables e below (T1.setTop (mkF m 4 #[.val (.ref (ad 1))] [(.ref (ad 0)), (.ref (ad 1))])) t
      refine Jvm.RoadKit.acmp (g := (mkF m 4 #[.val (.ref (ad 1))] [(.ref (ad 0)), (.ref (ad 1))])) X1 hx rfl rfl rfl (pc0 := 4) (pc' := 7) (same := false) rfl (hb hby own_d_prog_34_method_6_code_4) rfl (decide_eq_false fun q => (Fld.ne (own_F_NO_MATCH_RESOURCE_ordinal W) (own_F_DISABLED_ordinal W) (by decide)) (Value.ref.inj q)) (by decide) (by decide) ?_
      show Steps p.tables e below (T1.setTop (mkF m 7 #[.val (.ref (ad 1))] [])) t
      refine XS.aloadN X1.here hx rfl (hb hby own_d_prog_34_method_6_code_7) rfl rfl ?_
      show Steps p.tables e below (T1.setTop (mkF m 8 #[.val (.ref (ad 1))] [(.ref (ad 1))])) t
      exact st3 t k)
  have ch5 : ∀ t, Steps p.tables e below (T3.setTop (mkF m 33 #[.val (.ref (ad 1))] [(.int (1 : Int32))])) t → Steps p.tables e below (s₁.setTop (entryFrame m #[(.ref (ad 1))] 1)) t := fun t k => ch4 t (by
      show Steps p.tables e below (T3.setTop (mkF m 11 #[.val (.ref (ad 1))] [(.ref (ad 1)), (.ref (ad 1))])) t
      refine Jvm.RoadKit.acmp (g := (mkF m 11 #[.val (.ref (ad 1))] [(.ref (ad 1)), (.ref (ad 1))])) X3 hx rfl rfl rfl (pc0 := 11) (pc' := 28) (same := true) rfl (hb hby own_d_prog_34_method_6_code_11) rfl (decide_eq_true rfl) (by decide) (by decide) ?_
      show Steps p.tables e below (T3.setTop (mkF m 28 #[.val (.ref (ad 1))] [])) t
      refine XS.iconst X3.here hx rfl (hb hby own_d_prog_34_method_6_code_28) ?_
      show Steps p.tables e below (T3.setTop (mkF m 29 #[.val (.ref (ad 1))] [(.int (1 : Int32))])) t
      refine XS.goto X3.here hx rfl (pc0 := 29) (pc' := 33) rfl (hb hby own_d_prog_34_method_6_code_29) (by decide) (by decide) ?_
      exact k)
  obtain ⟨fs, hr, hrun, hended, hW, hsame⟩ := X3.leave (v := some (.int (1 : Int32))) (fun h => by rw [Bd.returns] at h; cases h)
  refine ⟨_, _, ch5 _ ?_, hrun, hended, _, _, rfl, ?_, ⟨_, rfl⟩, hW, hsame.mono (by decide) (by decide)⟩
  · show Steps p.tables e below (T3.setTop (mkF m 33 #[.val (.ref (ad 1))] [(.int (1 : Int32))])) _
    exact retN X3 hx (t := .boolean) Bd.returns (by simp) (hb hby own_d_prog_34_method_6_code_33) hr
  · show QV (some (.int (1 : Int32))) h0 n0 _ T3.heap _
    rw [e3]
    exact ⟨rfl, N0, rfl⟩
theorem own_ef_own_appl_1 (m : MethodId) {x0 : Addr} : entryFrame m #[(.ref x0)] 1 = mkF m 0 #[.val (.ref x0)] [] := by first | (simp [entryFrame, mkF, argsToLocals, Value.category, maxLocals]; done) | rfl
set_option maxRecDepth 65536 in
set_option maxHeartbeats 40000000 in
theorem own_appl_1 (l : Launch) (Z : State) (a0 : Array Value) (hw : ∀ d ∈ tables_1, d.before a0 Z = true) (ws : List Jvm.Cond) (h0 : Heap) (n0 : Nat) (Z0 : n0 ≤ h0.size) (ad : Nat → Addr) (W : OwnWd Z h0 ad) :
    MetFree l (⟨own_V, "applies", "()Z"⟩ : MethodName) (head1 (Jvm.Cond.code (⟨own_V, "applies", "()Z"⟩ : MethodName) prog_34_method_5_code 1 (some .boolean) :: ws) ({ frames := 0, cells := 0, slots := 0, locals := 0 } : Room)) (fun a U => a = #[(.ref (ad 1))] ∧ Z.Warmed39 U.vm ∧ U.heap = h0) (fun _ _ _ _ _ => True) (fun _ U o U' => ∃ v L, o = .returned v ∧ QV (some (.int (0 : Int32))) h0 n0 v U'.heap L ∧ FrameEnd U o U' L ({ frames := 0, cells := 0, slots := 0, locals := 0 } : Room).cells ({ frames := 0, cells := 0, slots := 0, locals := 0 } : Room).slots) := by
  refine MetFree.of_bodySF (plainFor_of_name own_pn_own_Verdict) hisR ?_
  intro p e s m args below meth c s₁ Bd hml0 hP hK
  obtain ⟨rfl, hZ, hh⟩ := hP
  have hx := Bd.exec
  have hby := Bd.bytes
  have hml : c.maxLocals = 1 := hml0
  have hown : s.vm.findClass own_V = some m.cls := (findClass_of_methodNamed Bd.named :)
  have hnm := (name_of_methodNamed Bd.named Bd.method).1
  have X0 : Stand p l e ({ frames := 0, cells := 0, slots := 0, locals := 0 } : Room) s m #[(.ref (ad 1))] below meth c s₁ [] 0 0 := Stand.of_body Bd
  have e0 : s₁.heap = h0 := by rw [← hh, Bd.state]; rfl
  have N0 := Fr.nil n0
  have pre0 : ∀ t, Steps p.tables e below (s₁.setTop (mkF m 0 #[.val (.ref (ad 1))] [])) t → Steps p.tables e below (s₁.setTop (entryFrame m #[(.ref (ad 1))] 1)) t := fun t k => castTop (own_ef_own_appl_1 m) k
  obtain ⟨T1, X1, e1, st1⟩ := getS2 X0 hx hZ hown (host := "") (Or.inl (hw _ (List.mem_of_getElem? (i := 31) rfl))) Via.refl e0 (own_S_MATCHED W) (g := (mkF m 1 #[.val (.ref (ad 1))] [(.ref (ad 1))])) rfl (hb hby own_d_prog_34_method_5_code_1)
  have ch2 : ∀ t, Steps p.tables e below (T1.setTop (mkF m 4 #[.val (.ref (ad 1))] [(.ref (ad 5)), (.ref (ad 1))])) t → Steps p.tables e below (s₁.setTop (entryFrame m #[(.ref (ad 1))] 1)) t := fun t k => pre0 t (by
      show Steps p.tables e below (s₁.setTop (mkF m 0 #[.val (.ref (ad 1))] [])) t
      refine XS.aloadN X0.here hx rfl (hb hby own_d_prog_34_method_5_code_0) rfl rfl ?_
      show Steps p.tables e below (s₁.setTop (mkF m 1 #[.val (.ref (ad 1))] [(.ref (ad 1))])) t
      exact st1 t k)
  obtain ⟨T3, X3, e3, st3⟩ := getS2 X1 hx hZ hown (host := "") (Or.inl (hw _ (List.mem_of_getElem? (i := 32) rfl))) Via.refl e1 (own_S_RETAINED W) (g := (mkF m 8 #[.val (.ref (ad 1))] [(.ref (ad 1))])) rfl (hb hby own_d_prog_34_method_5_code_8)
  have ch4 : ∀ t, Steps p.tables e below (T3.setTop (mkF m 11 #[.val (.ref (ad 1))] [(.ref (ad 6)), (.ref (ad 1))])) t → Steps p.tables e below (s₁.setTop (entryFrame m #[(.ref (ad 1))] 1)) t := fun t k => ch2 t (by
      show Steps p.tables e below (T1.setTop (mkF m 4 #[.val (.ref (ad 1))] [(.ref (ad 5)), (.ref (ad 1))])) t
      refine Jvm.RoadKit.acmp (g := (mkF m 4 #[.val (.ref (ad 1))] [(.ref (ad 5)), (.ref (ad 1))])) X1 hx rfl rfl rfl (pc0 := 4) (pc' := 7) (same := false) rfl (hb hby own_d_prog_34_method_5_code_4) rfl (decide_eq_false fun q => (Fld.ne (own_F_NO_MATCH_RESOURCE_ordinal W) (own_F_MATCHED_ordinal W) (by decide)) (Value.ref.inj q)) (by decide) (by decide) ?_
      show Steps p.tables e below (T1.setTop (mkF m 7 #[.val (.ref (ad 1))] [])) t
      refine XS.aloadN X1.here hx rfl (hb hby own_d_prog_34_method_5_code_7) rfl rfl ?_
      show Steps p.tables e below (T1.setTop (mkF m 8 #[.val (.ref (ad 1))] [(.ref (ad 1))])) t
      exact st3 t k)
  have ch5 : ∀ t, Steps p.tables e below (T3.setTop (mkF m 19 #[.val (.ref (ad 1))] [(.int (0 : Int32))])) t → Steps p.tables e below (s₁.setTop (entryFrame m #[(.ref (ad 1))] 1)) t := fun t k => ch4 t (by
      show Steps p.tables e below (T3.setTop (mkF m 11 #[.val (.ref (ad 1))] [(.ref (ad 6)), (.ref (ad 1))])) t
      refine Jvm.RoadKit.acmp (g := (mkF m 11 #[.val (.ref (ad 1))] [(.ref (ad 6)), (.ref (ad 1))])) X3 hx rfl rfl rfl (pc0 := 11) (pc' := 18) (same := false) rfl (hb hby own_d_prog_34_method_5_code_11) rfl (decide_eq_false fun q => (Fld.ne (own_F_NO_MATCH_RESOURCE_ordinal W) (own_F_RETAINED_ordinal W) (by decide)) (Value.ref.inj q)) (by decide) (by decide) ?_
      show Steps p.tables e below (T3.setTop (mkF m 18 #[.val (.ref (ad 1))] [])) t
      refine XS.iconst X3.here hx rfl (hb hby own_d_prog_34_method_5_code_18) ?_
      exact k)
  obtain ⟨fs, hr, hrun, hended, hW, hsame⟩ := X3.leave (v := some (.int (0 : Int32))) (fun h => by rw [Bd.returns] at h; cases h)
  refine ⟨_, _, ch5 _ ?_, hrun, hended, _, _, rfl, ?_, ⟨_, rfl⟩, hW, hsame.mono (by decide) (by decide)⟩
  · show Steps p.tables e below (T3.setTop (mkF m 19 #[.val (.ref (ad 1))] [(.int (0 : Int32))])) _
    exact retN X3 hx (t := .boolean) Bd.returns (by simp) (hb hby own_d_prog_34_method_5_code_19) hr
  · show QV (some (.int (0 : Int32))) h0 n0 _ T3.heap _
    rw [e3]
    exact ⟨rfl, N0, rfl⟩
theorem own_ef_own_law_1 (m : MethodId) {x0 : Int32} : entryFrame m #[(.int x0)] maxLocals = mkF m 0 #[.val (.int x0), .unset, .unset, .unset, .unset, .unset, .unset, .unset] [] := by first | (simp [entryFrame, mkF, argsToLocals, Value.category, maxLocals]; done) | rfl
set_option maxRecDepth 65536 in
set_option maxHeartbeats 40000000 in
theorem own_law_1 (l : Launch) (Z : State) (a0 : Array Value) (hw : ∀ d ∈ tables_1, d.before a0 Z = true) (ws : List Jvm.Cond) (h0 : Heap) (n0 : Nat) (Z0 : n0 ≤ h0.size) (p1 : Int32) (hk : p1 &&& (7 : Int32) = (1 : Int32)) (ad : Nat → Addr) (W : OwnWd Z h0 ad) :
    MetFree l x (head1 (Jvm.Cond.code x code maxLocals ret :: ws) room_1) (fun a U => a = #[(.int p1)] ∧ Z.Warmed39 U.vm ∧ U.heap = h0) (fun _ _ _ _ _ => True) (fun _ U o U' => ∃ v L, o = .returned v ∧ QN (some (.int (1 : Int32))) n0 v U'.heap L ∧ FrameEnd U o U' L room_1.cells room_1.slots) := by
  refine MetFree.of_bodySF (plainFor_of_name own_pn_own_VerdictMissesEverySubjectPinLaw) hisR ?_
  intro p e s m args below meth c s₁ Bd hml0 hP hK
  obtain ⟨rfl, hZ, hh⟩ := hP
  have hx := Bd.exec
  have hby := Bd.bytes
  have hml : c.maxLocals = 8 := hml0
  have hown : s.vm.findClass own_L = some m.cls := (findClass_of_methodNamed Bd.named :)
  have hnm := (name_of_methodNamed Bd.named Bd.method).1
  have X0 : Stand p l e room_1 s m #[(.int p1)] below meth c s₁ [] 0 0 := Stand.of_body Bd
  have e0 : s₁.heap = h0 := by rw [← hh, Bd.state]; rfl
  have N0 := Fr.nil n0
  have pre0 : ∀ t, Steps p.tables e below (s₁.setTop (mkF m 0 #[.val (.int p1), .unset, .unset, .unset, .unset, .unset, .unset, .unset] [])) t → Steps p.tables e below (s₁.setTop (entryFrame m #[(.int p1)] maxLocals)) t := fun t k => castTop (own_ef_own_law_1 m) k
  obtain ⟨T1, hp1, k1, X1, e1, E1, A1, O1, st1⟩ := newR X0 hx hZ hown (hw _ (List.mem_of_getElem? (i := 0) rfl)) (hw _ (List.mem_of_getElem? (i := 1) rfl)) e0 (g := (mkF m 2 #[.val (.int p1), .unset, .unset, .unset, .unset, .unset, .unset, .unset] [(.int (8 : Int32))])) rfl (hb hby at_2) rfl (by decide) (cap := 8) (by decide) (by decide) (by decide) (by decide)
  obtain ⟨b1, g1⟩ : ∃ z, z = h0.size := ⟨_, rfl⟩
  rw [← g1] at A1 st1
  have ne_ad0_b1 : (ad 0) ≠ b1 := Nat.ne_of_lt (Nat.lt_of_lt_of_le (own_E_DISABLED W).lt (Nat.le_of_eq g1.symm))
  have ne_ad1_b1 : (ad 1) ≠ b1 := Nat.ne_of_lt (Nat.lt_of_lt_of_le (own_E_NO_MATCH_RESOURCE W).lt (Nat.le_of_eq g1.symm))
  have ne_ad2_b1 : (ad 2) ≠ b1 := Nat.ne_of_lt (Nat.lt_of_lt_of_le (own_E_NO_MATCH_ACTION W).lt (Nat.le_of_eq g1.symm))
  have ne_ad3_b1 : (ad 3) ≠ b1 := Nat.ne_of_lt (Nat.lt_of_lt_of_le (own_E_NO_MATCH_IDENTITY W).lt (Nat.le_of_eq g1.symm))
  have ne_ad4_b1 : (ad 4) ≠ b1 := Nat.ne_of_lt (Nat.lt_of_lt_of_le (own_E_NO_MATCH_CALENDAR W).lt (Nat.le_of_eq g1.symm))
  have ne_ad5_b1 : (ad 5) ≠ b1 := Nat.ne_of_lt (Nat.lt_of_lt_of_le (own_E_MATCHED W).lt (Nat.le_of_eq g1.symm))
  have ne_ad6_b1 : (ad 6) ≠ b1 := Nat.ne_of_lt (Nat.lt_of_lt_of_le (own_E_RETAINED W).lt (Nat.le_of_eq g1.symm))
  have ne_ad7_b1 : (ad 7) ≠ b1 := Nat.ne_of_lt (Nat.lt_of_lt_of_le (own_E_DROPPED_BY_BEST_MATCH W).lt (Nat.le_of_eq g1.symm))
  have g_b1 : n0 ≤ b1 := Nat.le_trans (Nat.le_trans Z0 (Keep.refl h0 []).1) (Nat.le_of_eq g1.symm)
  have sz_b1 : h0.size ≤ b1 := Nat.le_trans (Keep.refl h0 []).1 (Nat.le_of_eq g1.symm)
  have Kp1 := Keep.ext (Keep.refl h0 []) E1
  have V1 : Arv Z hp1 b1 k1 (.object own_V) (8 : Int32) [.null, .null, .null, .null, .null, .null, .null, .null] .null := (Arv.new A1 (by decide)).pad (pad_rep [] .null 8)
  have ch2 : ∀ t, Steps p.tables e below (T1.setTop (mkF m 5 #[.val (.int p1), .unset, .unset, .unset, .unset, .unset, .unset, .unset] [(.ref b1)])) t → Steps p.tables e below (s₁.setTop (entryFrame m #[(.int p1)] maxLocals)) t := fun t k => pre0 t (by
      show Steps p.tables e below (s₁.setTop (mkF m 0 #[.val (.int p1), .unset, .unset, .unset, .unset, .unset, .unset, .unset] [])) t
      refine XS.bipush X0.here hx rfl (hb hby at_0) ?_
      show Steps p.tables e below (s₁.setTop (mkF m 2 #[.val (.int p1), .unset, .unset, .unset, .unset, .unset, .unset, .unset] [(.int (8 : Int32))])) t
      exact st1 t k)
  have cf3 := (own_sta_keep (own_S_DISABLED W) Kp1 all0)
  obtain ⟨T4, X4, e4, st4⟩ := getS2 X1 hx hZ hown (host := "") (Or.inl (hw _ (List.mem_of_getElem? (i := 2) rfl))) Via.refl e1 cf3 (g := (mkF m 7 #[.val (.int p1), .unset, .unset, .unset, .unset, .unset, .unset, .unset] [(.int (0 : Int32)), (.ref b1), (.ref b1)])) rfl (hb hby at_7)
  have ch5 : ∀ t, Steps p.tables e below (T4.setTop (mkF m 10 #[.val (.int p1), .unset, .unset, .unset, .unset, .unset, .unset, .unset] [(.ref (ad 0)), (.int (0 : Int32)), (.ref b1), (.ref b1)])) t → Steps p.tables e below (s₁.setTop (entryFrame m #[(.int p1)] maxLocals)) t := fun t k => ch2 t (by
      show Steps p.tables e below (T1.setTop (mkF m 5 #[.val (.int p1), .unset, .unset, .unset, .unset, .unset, .unset, .unset] [(.ref b1)])) t
      refine XS.dup X1.here hx rfl (hb hby at_5) rfl rfl ?_
      show Steps p.tables e below (T1.setTop (mkF m 6 #[.val (.int p1), .unset, .unset, .unset, .unset, .unset, .unset, .unset] [(.ref b1), (.ref b1)])) t
      refine XS.iconst X1.here hx rfl (hb hby at_6) ?_
      show Steps p.tables e below (T1.setTop (mkF m 7 #[.val (.int p1), .unset, .unset, .unset, .unset, .unset, .unset, .unset] [(.int (0 : Int32)), (.ref b1), (.ref b1)])) t
      exact st4 t k)
  obtain ⟨cl6, Ar6, qq6, Sz6, Ng6, Ha6, Ga6⟩ := id V1
  have hin6 : ¬ ((0 : Int32) < 0 ∨ cl6.slots.size ≤ ((0 : Int32)).toNatClampNeg) := inb_of Sz6 (by decide)
  have cf7 := (Exa.keep (own_E_DISABLED W) Kp1)
  obtain ⟨T8, hp8, X8, e8, W8, st8⟩ := stR X4 hx hZ e4 Ar6 (j := (0 : Int32)) hin6 rfl (Sto.ofV Ar6 qq6 O1 (Ins.self cf7)) (g := (mkF m 10 #[.val (.int p1), .unset, .unset, .unset, .unset, .unset, .unset, .unset] [(.ref (ad 0)), (.int (0 : Int32)), (.ref b1), (.ref b1)])) rfl rfl (hb hby at_10)
  have ch9 : ∀ t, Steps p.tables e below (T8.setTop (mkF m 11 #[.val (.int p1), .unset, .unset, .unset, .unset, .unset, .unset, .unset] [(.ref b1)])) t → Steps p.tables e below (s₁.setTop (entryFrame m #[(.int p1)] maxLocals)) t := fun t k => ch5 t (by
      show Steps p.tables e below (T4.setTop (mkF m 10 #[.val (.int p1), .unset, .unset, .unset, .unset, .unset, .unset, .unset] [(.ref (ad 0)), (.int (0 : Int32)), (.ref b1), (.ref b1)])) t
      exact st8 t k)
  have V8 : Arv Z hp8 b1 k1 (.object own_V) (8 : Int32) [(.ref (ad 0)), .null, .null, .null, .null, .null, .null, .null] .null := Arv.set Ar6 qq6 Sz6 Ng6 Ha6 Ga6 rfl W8 0 rfl (Nat.le_of_ble_eq_true rfl)
  have N8 := Fr.snoc X8 N0 g_b1
  have Kp8 := Keep.wr Kp1 W8 (Or.inr sz_b1)
  have cf10 := (own_sta_keep (own_S_NO_MATCH_RESOURCE W) Kp8 all0)
  obtain ⟨T11, X11, e11, st11⟩ := getS2 X8 hx hZ hown (host := "") (Or.inl (hw _ (List.mem_of_getElem? (i := 6) rfl))) Via.refl e8 cf10 (g := (mkF m 13 #[.val (.int p1), .unset, .unset, .unset, .unset, .unset, .unset, .unset] [(.int (1 : Int32)), (.ref b1), (.ref b1)])) rfl (hb hby at_13)
  have ch12 : ∀ t, Steps p.tables e below (T11.setTop (mkF m 16 #[.val (.int p1), .unset, .unset, .unset, .unset, .unset, .unset, .unset] [(.ref (ad 1)), (.int (1 : Int32)), (.ref b1), (.ref b1)])) t → Steps p.tables e below (s₁.setTop (entryFrame m #[(.int p1)] maxLocals)) t := fun t k => ch9 t (by
      show Steps p.tables e below (T8.setTop (mkF m 11 #[.val (.int p1), .unset, .unset, .unset, .unset, .unset, .unset, .unset] [(.ref b1)])) t
      refine XS.dup X8.here hx rfl (hb hby at_11) rfl rfl ?_
      show Steps p.tables e below (T8.setTop (mkF m 12 #[.val (.int p1), .unset, .unset, .unset, .unset, .unset, .unset, .unset] [(.ref b1), (.ref b1)])) t
      refine XS.iconst X8.here hx rfl (hb hby at_12) ?_
      show Steps p.tables e below (T8.setTop (mkF m 13 #[.val (.int p1), .unset, .unset, .unset, .unset, .unset, .unset, .unset] [(.int (1 : Int32)), (.ref b1), (.ref b1)])) t
      exact st11 t k)
  obtain ⟨cl13, Ar13, qq13, Sz13, Ng13, Ha13, Ga13⟩ := id V8
  have hin13 : ¬ ((1 : Int32) < 0 ∨ cl13.slots.size ≤ ((1 : Int32)).toNatClampNeg) := inb_of Sz13 (by decide)
  have cf14 := (Exa.keep (own_E_NO_MATCH_RESOURCE W) Kp8)
  obtain ⟨T15, hp15, X15, e15, W15, st15⟩ := stR X11 hx hZ e11 Ar13 (j := (1 : Int32)) hin13 rfl (Sto.ofV Ar13 qq13 O1 (Ins.self cf14)) (g := (mkF m 16 #[.val (.int p1), .unset, .unset, .unset, .unset, .unset, .unset, .unset] [(.ref (ad 1)), (.int (1 : Int32)), (.ref b1), (.ref b1)])) rfl rfl (hb hby at_16)
  have ch16 : ∀ t, Steps p.tables e below (T15.setTop (mkF m 17 #[.val (.int p1), .unset, .unset, .unset, .unset, .unset, .unset, .unset] [(.ref b1)])) t → Steps p.tables e below (s₁.setTop (entryFrame m #[(.int p1)] maxLocals)) t := fun t k => ch12 t (by
      show Steps p.tables e below (T11.setTop (mkF m 16 #[.val (.int p1), .unset, .unset, .unset, .unset, .unset, .unset, .unset] [(.ref (ad 1)), (.int (1 : Int32)), (.ref b1), (.ref b1)])) t
      exact st15 t k)
  have V15 : Arv Z hp15 b1 k1 (.object own_V) (8 : Int32) [(.ref (ad 0)), (.ref (ad 1)), .null, .null, .null, .null, .null, .null] .null := Arv.set Ar13 qq13 Sz13 Ng13 Ha13 Ga13 rfl W15 1 rfl (Nat.le_of_ble_eq_true rfl)
  have N15 := Fr.snoc X15 N8 g_b1
  have Kp15 := Keep.wr Kp8 W15 (Or.inr sz_b1)
  have cf17 := (own_sta_keep (own_S_NO_MATCH_ACTION W) Kp15 all0)
  obtain ⟨T18, X18, e18, st18⟩ := getS2 X15 hx hZ hown (host := "") (Or.inl (hw _ (List.mem_of_getElem? (i := 8) rfl))) Via.refl e15 cf17 (g := (mkF m 19 #[.val (.int p1), .unset, .unset, .unset, .unset, .unset, .unset, .unset] [(.int (2 : Int32)), (.ref b1), (.ref b1)])) rfl (hb hby at_19)
  have ch19 : ∀ t, Steps p.tables e below (T18.setTop (mkF m 22 #[.val (.int p1), .unset, .unset, .unset, .unset, .unset, .unset, .unset] [(.ref (ad 2)), (.int (2 : Int32)), (.ref b1), (.ref b1)])) t → Steps p.tables e below (s₁.setTop (entryFrame m #[(.int p1)] maxLocals)) t := fun t k => ch16 t (by
      show Steps p.tables e below (T15.setTop (mkF m 17 #[.val (.int p1), .unset, .unset, .unset, .unset, .unset, .unset, .unset] [(.ref b1)])) t
      refine XS.dup X15.here hx rfl (hb hby at_17) rfl rfl ?_
      show Steps p.tables e below (T15.setTop (mkF m 18 #[.val (.int p1), .unset, .unset, .unset, .unset, .unset, .unset, .unset] [(.ref b1), (.ref b1)])) t
      refine XS.iconst X15.here hx rfl (hb hby at_18) ?_
      show Steps p.tables e below (T15.setTop (mkF m 19 #[.val (.int p1), .unset, .unset, .unset, .unset, .unset, .unset, .unset] [(.int (2 : Int32)), (.ref b1), (.ref b1)])) t
      exact st18 t k)
  obtain ⟨cl20, Ar20, qq20, Sz20, Ng20, Ha20, Ga20⟩ := id V15
  have hin20 : ¬ ((2 : Int32) < 0 ∨ cl20.slots.size ≤ ((2 : Int32)).toNatClampNeg) := inb_of Sz20 (by decide)
  have cf21 := (Exa.keep (own_E_NO_MATCH_ACTION W) Kp15)
  obtain ⟨T22, hp22, X22, e22, W22, st22⟩ := stR X18 hx hZ e18 Ar20 (j := (2 : Int32)) hin20 rfl (Sto.ofV Ar20 qq20 O1 (Ins.self cf21)) (g := (mkF m 22 #[.val (.int p1), .unset, .unset, .unset, .unset, .unset, .unset, .unset] [(.ref (ad 2)), (.int (2 : Int32)), (.ref b1), (.ref b1)])) rfl rfl (hb hby at_22)
  have ch23 : ∀ t, Steps p.tables e below (T22.setTop (mkF m 23 #[.val (.int p1), .unset, .unset, .unset, .unset, .unset, .unset, .unset] [(.ref b1)])) t → Steps p.tables e below (s₁.setTop (entryFrame m #[(.int p1)] maxLocals)) t := fun t k => ch19 t (by
      show Steps p.tables e below (T18.setTop (mkF m 22 #[.val (.int p1), .unset, .unset, .unset, .unset, .unset, .unset, .unset] [(.ref (ad 2)), (.int (2 : Int32)), (.ref b1), (.ref b1)])) t
      exact st22 t k)
  have V22 : Arv Z hp22 b1 k1 (.object own_V) (8 : Int32) [(.ref (ad 0)), (.ref (ad 1)), (.ref (ad 2)), .null, .null, .null, .null, .null] .null := Arv.set Ar20 qq20 Sz20 Ng20 Ha20 Ga20 rfl W22 2 rfl (Nat.le_of_ble_eq_true rfl)
  have N22 := Fr.snoc X22 N15 g_b1
  have Kp22 := Keep.wr Kp15 W22 (Or.inr sz_b1)
  have cf24 := (own_sta_keep (own_S_NO_MATCH_IDENTITY W) Kp22 all0)
  obtain ⟨T25, X25, e25, st25⟩ := getS2 X22 hx hZ hown (host := "") (Or.inl (hw _ (List.mem_of_getElem? (i := 10) rfl))) Via.refl e22 cf24 (g := (mkF m 25 #[.val (.int p1), .unset, .unset, .unset, .unset, .unset, .unset, .unset] [(.int (3 : Int32)), (.ref b1), (.ref b1)])) rfl (hb hby at_25)
  have ch26 : ∀ t, Steps p.tables e below (T25.setTop (mkF m 28 #[.val (.int p1), .unset, .unset, .unset, .unset, .unset, .unset, .unset] [(.ref (ad 3)), (.int (3 : Int32)), (.ref b1), (.ref b1)])) t → Steps p.tables e below (s₁.setTop (entryFrame m #[(.int p1)] maxLocals)) t := fun t k => ch23 t (by
      show Steps p.tables e below (T22.setTop (mkF m 23 #[.val (.int p1), .unset, .unset, .unset, .unset, .unset, .unset, .unset] [(.ref b1)])) t
      refine XS.dup X22.here hx rfl (hb hby at_23) rfl rfl ?_
      show Steps p.tables e below (T22.setTop (mkF m 24 #[.val (.int p1), .unset, .unset, .unset, .unset, .unset, .unset, .unset] [(.ref b1), (.ref b1)])) t
      refine XS.iconst X22.here hx rfl (hb hby at_24) ?_
      show Steps p.tables e below (T22.setTop (mkF m 25 #[.val (.int p1), .unset, .unset, .unset, .unset, .unset, .unset, .unset] [(.int (3 : Int32)), (.ref b1), (.ref b1)])) t
      exact st25 t k)
  obtain ⟨cl27, Ar27, qq27, Sz27, Ng27, Ha27, Ga27⟩ := id V22
  have hin27 : ¬ ((3 : Int32) < 0 ∨ cl27.slots.size ≤ ((3 : Int32)).toNatClampNeg) := inb_of Sz27 (by decide)
  have cf28 := (Exa.keep (own_E_NO_MATCH_IDENTITY W) Kp22)
  obtain ⟨T29, hp29, X29, e29, W29, st29⟩ := stR X25 hx hZ e25 Ar27 (j := (3 : Int32)) hin27 rfl (Sto.ofV Ar27 qq27 O1 (Ins.self cf28)) (g := (mkF m 28 #[.val (.int p1), .unset, .unset, .unset, .unset, .unset, .unset, .unset] [(.ref (ad 3)), (.int (3 : Int32)), (.ref b1), (.ref b1)])) rfl rfl (hb hby at_28)
  have ch30 : ∀ t, Steps p.tables e below (T29.setTop (mkF m 29 #[.val (.int p1), .unset, .unset, .unset, .unset, .unset, .unset, .unset] [(.ref b1)])) t → Steps p.tables e below (s₁.setTop (entryFrame m #[(.int p1)] maxLocals)) t := fun t k => ch26 t (by
      show Steps p.tables e below (T25.setTop (mkF m 28 #[.val (.int p1), .unset, .unset, .unset, .unset, .unset, .unset, .unset] [(.ref (ad 3)), (.int (3 : Int32)), (.ref b1), (.ref b1)])) t
      exact st29 t k)
  have V29 : Arv Z hp29 b1 k1 (.object own_V) (8 : Int32) [(.ref (ad 0)), (.ref (ad 1)), (.ref (ad 2)), (.ref (ad 3)), .null, .null, .null, .null] .null := Arv.set Ar27 qq27 Sz27 Ng27 Ha27 Ga27 rfl W29 3 rfl (Nat.le_of_ble_eq_true rfl)
  have N29 := Fr.snoc X29 N22 g_b1
  have Kp29 := Keep.wr Kp22 W29 (Or.inr sz_b1)
  have cf31 := (own_sta_keep (own_S_NO_MATCH_CALENDAR W) Kp29 all0)
  obtain ⟨T32, X32, e32, st32⟩ := getS2 X29 hx hZ hown (host := "") (Or.inl (hw _ (List.mem_of_getElem? (i := 12) rfl))) Via.refl e29 cf31 (g := (mkF m 31 #[.val (.int p1), .unset, .unset, .unset, .unset, .unset, .unset, .unset] [(.int (4 : Int32)), (.ref b1), (.ref b1)])) rfl (hb hby at_31)
  have ch33 : ∀ t, Steps p.tables e below (T32.setTop (mkF m 34 #[.val (.int p1), .unset, .unset, .unset, .unset, .unset, .unset, .unset] [(.ref (ad 4)), (.int (4 : Int32)), (.ref b1), (.ref b1)])) t → Steps p.tables e below (s₁.setTop (entryFrame m #[(.int p1)] maxLocals)) t := fun t k => ch30 t (by
      show Steps p.tables e below (T29.setTop (mkF m 29 #[.val (.int p1), .unset, .unset, .unset, .unset, .unset, .unset, .unset] [(.ref b1)])) t
      refine XS.dup X29.here hx rfl (hb hby at_29) rfl rfl ?_
      show Steps p.tables e below (T29.setTop (mkF m 30 #[.val (.int p1), .unset, .unset, .unset, .unset, .unset, .unset, .unset] [(.ref b1), (.ref b1)])) t
      refine XS.iconst X29.here hx rfl (hb hby at_30) ?_
      show Steps p.tables e below (T29.setTop (mkF m 31 #[.val (.int p1), .unset, .unset, .unset, .unset, .unset, .unset, .unset] [(.int (4 : Int32)), (.ref b1), (.ref b1)])) t
      exact st32 t k)
  obtain ⟨cl34, Ar34, qq34, Sz34, Ng34, Ha34, Ga34⟩ := id V29
  have hin34 : ¬ ((4 : Int32) < 0 ∨ cl34.slots.size ≤ ((4 : Int32)).toNatClampNeg) := inb_of Sz34 (by decide)
  have cf35 := (Exa.keep (own_E_NO_MATCH_CALENDAR W) Kp29)
  obtain ⟨T36, hp36, X36, e36, W36, st36⟩ := stR X32 hx hZ e32 Ar34 (j := (4 : Int32)) hin34 rfl (Sto.ofV Ar34 qq34 O1 (Ins.self cf35)) (g := (mkF m 34 #[.val (.int p1), .unset, .unset, .unset, .unset, .unset, .unset, .unset] [(.ref (ad 4)), (.int (4 : Int32)), (.ref b1), (.ref b1)])) rfl rfl (hb hby at_34)
  have ch37 : ∀ t, Steps p.tables e below (T36.setTop (mkF m 35 #[.val (.int p1), .unset, .unset, .unset, .unset, .unset, .unset, .unset] [(.ref b1)])) t → Steps p.tables e below (s₁.setTop (entryFrame m #[(.int p1)] maxLocals)) t := fun t k => ch33 t (by
      show Steps p.tables e below (T32.setTop (mkF m 34 #[.val (.int p1), .unset, .unset, .unset, .unset, .unset, .unset, .unset] [(.ref (ad 4)), (.int (4 : Int32)), (.ref b1), (.ref b1)])) t
      exact st36 t k)
  have V36 : Arv Z hp36 b1 k1 (.object own_V) (8 : Int32) [(.ref (ad 0)), (.ref (ad 1)), (.ref (ad 2)), (.ref (ad 3)), (.ref (ad 4)), .null, .null, .null] .null := Arv.set Ar34 qq34 Sz34 Ng34 Ha34 Ga34 rfl W36 4 rfl (Nat.le_of_ble_eq_true rfl)
  have N36 := Fr.snoc X36 N29 g_b1
  have Kp36 := Keep.wr Kp29 W36 (Or.inr sz_b1)
  have cf38 := (own_sta_keep (own_S_MATCHED W) Kp36 all0)
  obtain ⟨T39, X39, e39, st39⟩ := getS2 X36 hx hZ hown (host := "") (Or.inl (hw _ (List.mem_of_getElem? (i := 14) rfl))) Via.refl e36 cf38 (g := (mkF m 37 #[.val (.int p1), .unset, .unset, .unset, .unset, .unset, .unset, .unset] [(.int (5 : Int32)), (.ref b1), (.ref b1)])) rfl (hb hby at_37)
  have ch40 : ∀ t, Steps p.tables e below (T39.setTop (mkF m 40 #[.val (.int p1), .unset, .unset, .unset, .unset, .unset, .unset, .unset] [(.ref (ad 5)), (.int (5 : Int32)), (.ref b1), (.ref b1)])) t → Steps p.tables e below (s₁.setTop (entryFrame m #[(.int p1)] maxLocals)) t := fun t k => ch37 t (by
      show Steps p.tables e below (T36.setTop (mkF m 35 #[.val (.int p1), .unset, .unset, .unset, .unset, .unset, .unset, .unset] [(.ref b1)])) t
      refine XS.dup X36.here hx rfl (hb hby at_35) rfl rfl ?_
      show Steps p.tables e below (T36.setTop (mkF m 36 #[.val (.int p1), .unset, .unset, .unset, .unset, .unset, .unset, .unset] [(.ref b1), (.ref b1)])) t
      refine XS.iconst X36.here hx rfl (hb hby at_36) ?_
      show Steps p.tables e below (T36.setTop (mkF m 37 #[.val (.int p1), .unset, .unset, .unset, .unset, .unset, .unset, .unset] [(.int (5 : Int32)), (.ref b1), (.ref b1)])) t
      exact st39 t k)
  obtain ⟨cl41, Ar41, qq41, Sz41, Ng41, Ha41, Ga41⟩ := id V36
  have hin41 : ¬ ((5 : Int32) < 0 ∨ cl41.slots.size ≤ ((5 : Int32)).toNatClampNeg) := inb_of Sz41 (by decide)
  have cf42 := (Exa.keep (own_E_MATCHED W) Kp36)
  obtain ⟨T43, hp43, X43, e43, W43, st43⟩ := stR X39 hx hZ e39 Ar41 (j := (5 : Int32)) hin41 rfl (Sto.ofV Ar41 qq41 O1 (Ins.self cf42)) (g := (mkF m 40 #[.val (.int p1), .unset, .unset, .unset, .unset, .unset, .unset, .unset] [(.ref (ad 5)), (.int (5 : Int32)), (.ref b1), (.ref b1)])) rfl rfl (hb hby at_40)
  have ch44 : ∀ t, Steps p.tables e below (T43.setTop (mkF m 41 #[.val (.int p1), .unset, .unset, .unset, .unset, .unset, .unset, .unset] [(.ref b1)])) t → Steps p.tables e below (s₁.setTop (entryFrame m #[(.int p1)] maxLocals)) t := fun t k => ch40 t (by
      show Steps p.tables e below (T39.setTop (mkF m 40 #[.val (.int p1), .unset, .unset, .unset, .unset, .unset, .unset, .unset] [(.ref (ad 5)), (.int (5 : Int32)), (.ref b1), (.ref b1)])) t
      exact st43 t k)
  have V43 : Arv Z hp43 b1 k1 (.object own_V) (8 : Int32) [(.ref (ad 0)), (.ref (ad 1)), (.ref (ad 2)), (.ref (ad 3)), (.ref (ad 4)), (.ref (ad 5)), .null, .null] .null := Arv.set Ar41 qq41 Sz41 Ng41 Ha41 Ga41 rfl W43 5 rfl (Nat.le_of_ble_eq_true rfl)
  have N43 := Fr.snoc X43 N36 g_b1
  have Kp43 := Keep.wr Kp36 W43 (Or.inr sz_b1)
  have cf45 := (own_sta_keep (own_S_RETAINED W) Kp43 all0)
  obtain ⟨T46, X46, e46, st46⟩ := getS2 X43 hx hZ hown (host := "") (Or.inl (hw _ (List.mem_of_getElem? (i := 16) rfl))) Via.refl e43 cf45 (g := (mkF m 44 #[.val (.int p1), .unset, .unset, .unset, .unset, .unset, .unset, .unset] [(.int (6 : Int32)), (.ref b1), (.ref b1)])) rfl (hb hby at_44)
  have ch47 : ∀ t, Steps p.tables e below (T46.setTop (mkF m 47 #[.val (.int p1), .unset, .unset, .unset, .unset, .unset, .unset, .unset] [(.ref (ad 6)), (.int (6 : Int32)), (.ref b1), (.ref b1)])) t → Steps p.tables e below (s₁.setTop (entryFrame m #[(.int p1)] maxLocals)) t := fun t k => ch44 t (by
      show Steps p.tables e below (T43.setTop (mkF m 41 #[.val (.int p1), .unset, .unset, .unset, .unset, .unset, .unset, .unset] [(.ref b1)])) t
      refine XS.dup X43.here hx rfl (hb hby at_41) rfl rfl ?_
      show Steps p.tables e below (T43.setTop (mkF m 42 #[.val (.int p1), .unset, .unset, .unset, .unset, .unset, .unset, .unset] [(.ref b1), (.ref b1)])) t
      refine XS.bipush X43.here hx rfl (hb hby at_42) ?_
      show Steps p.tables e below (T43.setTop (mkF m 44 #[.val (.int p1), .unset, .unset, .unset, .unset, .unset, .unset, .unset] [(.int (6 : Int32)), (.ref b1), (.ref b1)])) t
      exact st46 t k)
  obtain ⟨cl48, Ar48, qq48, Sz48, Ng48, Ha48, Ga48⟩ := id V43
  have hin48 : ¬ ((6 : Int32) < 0 ∨ cl48.slots.size ≤ ((6 : Int32)).toNatClampNeg) := inb_of Sz48 (by decide)
  have cf49 := (Exa.keep (own_E_RETAINED W) Kp43)
  obtain ⟨T50, hp50, X50, e50, W50, st50⟩ := stR X46 hx hZ e46 Ar48 (j := (6 : Int32)) hin48 rfl (Sto.ofV Ar48 qq48 O1 (Ins.self cf49)) (g := (mkF m 47 #[.val (.int p1), .unset, .unset, .unset, .unset, .unset, .unset, .unset] [(.ref (ad 6)), (.int (6 : Int32)), (.ref b1), (.ref b1)])) rfl rfl (hb hby at_47)
  have ch51 : ∀ t, Steps p.tables e below (T50.setTop (mkF m 48 #[.val (.int p1), .unset, .unset, .unset, .unset, .unset, .unset, .unset] [(.ref b1)])) t → Steps p.tables e below (s₁.setTop (entryFrame m #[(.int p1)] maxLocals)) t := fun t k => ch47 t (by
      show Steps p.tables e below (T46.setTop (mkF m 47 #[.val (.int p1), .unset, .unset, .unset, .unset, .unset, .unset, .unset] [(.ref (ad 6)), (.int (6 : Int32)), (.ref b1), (.ref b1)])) t
      exact st50 t k)
  have V50 : Arv Z hp50 b1 k1 (.object own_V) (8 : Int32) [(.ref (ad 0)), (.ref (ad 1)), (.ref (ad 2)), (.ref (ad 3)), (.ref (ad 4)), (.ref (ad 5)), (.ref (ad 6)), .null] .null := Arv.set Ar48 qq48 Sz48 Ng48 Ha48 Ga48 rfl W50 6 rfl (Nat.le_of_ble_eq_true rfl)
  have N50 := Fr.snoc X50 N43 g_b1
  have Kp50 := Keep.wr Kp43 W50 (Or.inr sz_b1)
  have cf52 := (own_sta_keep (own_S_DROPPED_BY_BEST_MATCH W) Kp50 all0)
  obtain ⟨T53, X53, e53, st53⟩ := getS2 X50 hx hZ hown (host := "") (Or.inl (hw _ (List.mem_of_getElem? (i := 18) rfl))) Via.refl e50 cf52 (g := (mkF m 51 #[.val (.int p1), .unset, .unset, .unset, .unset, .unset, .unset, .unset] [(.int (7 : Int32)), (.ref b1), (.ref b1)])) rfl (hb hby at_51)
  have ch54 : ∀ t, Steps p.tables e below (T53.setTop (mkF m 54 #[.val (.int p1), .unset, .unset, .unset, .unset, .unset, .unset, .unset] [(.ref (ad 7)), (.int (7 : Int32)), (.ref b1), (.ref b1)])) t → Steps p.tables e below (s₁.setTop (entryFrame m #[(.int p1)] maxLocals)) t := fun t k => ch51 t (by
      show Steps p.tables e below (T50.setTop (mkF m 48 #[.val (.int p1), .unset, .unset, .unset, .unset, .unset, .unset, .unset] [(.ref b1)])) t
      refine XS.dup X50.here hx rfl (hb hby at_48) rfl rfl ?_
      show Steps p.tables e below (T50.setTop (mkF m 49 #[.val (.int p1), .unset, .unset, .unset, .unset, .unset, .unset, .unset] [(.ref b1), (.ref b1)])) t
      refine XS.bipush X50.here hx rfl (hb hby at_49) ?_
      show Steps p.tables e below (T50.setTop (mkF m 51 #[.val (.int p1), .unset, .unset, .unset, .unset, .unset, .unset, .unset] [(.int (7 : Int32)), (.ref b1), (.ref b1)])) t
      exact st53 t k)
  obtain ⟨cl55, Ar55, qq55, Sz55, Ng55, Ha55, Ga55⟩ := id V50
  have hin55 : ¬ ((7 : Int32) < 0 ∨ cl55.slots.size ≤ ((7 : Int32)).toNatClampNeg) := inb_of Sz55 (by decide)
  have cf56 := (Exa.keep (own_E_DROPPED_BY_BEST_MATCH W) Kp50)
  obtain ⟨T57, hp57, X57, e57, W57, st57⟩ := stR X53 hx hZ e53 Ar55 (j := (7 : Int32)) hin55 rfl (Sto.ofV Ar55 qq55 O1 (Ins.self cf56)) (g := (mkF m 54 #[.val (.int p1), .unset, .unset, .unset, .unset, .unset, .unset, .unset] [(.ref (ad 7)), (.int (7 : Int32)), (.ref b1), (.ref b1)])) rfl rfl (hb hby at_54)
  have ch58 : ∀ t, Steps p.tables e below (T57.setTop (mkF m 55 #[.val (.int p1), .unset, .unset, .unset, .unset, .unset, .unset, .unset] [(.ref b1)])) t → Steps p.tables e below (s₁.setTop (entryFrame m #[(.int p1)] maxLocals)) t := fun t k => ch54 t (by
      show Steps p.tables e below (T53.setTop (mkF m 54 #[.val (.int p1), .unset, .unset, .unset, .unset, .unset, .unset, .unset] [(.ref (ad 7)), (.int (7 : Int32)), (.ref b1), (.ref b1)])) t
      exact st57 t k)
  have V57 : Arv Z hp57 b1 k1 (.object own_V) (8 : Int32) [(.ref (ad 0)), (.ref (ad 1)), (.ref (ad 2)), (.ref (ad 3)), (.ref (ad 4)), (.ref (ad 5)), (.ref (ad 6)), (.ref (ad 7))] .null := Arv.set Ar55 qq55 Sz55 Ng55 Ha55 Ga55 rfl W57 7 rfl (Nat.le_of_ble_eq_true rfl)
  have N57 := Fr.snoc X57 N50 g_b1
  have Kp57 := Keep.wr Kp50 W57 (Or.inr sz_b1)
  obtain ⟨cl59, Ar59, -, Sz59, Ng59, Ha59, -⟩ := id V57
  have hin59 : ¬ ((1 : Int32) < 0 ∨ cl59.slots.size ≤ ((1 : Int32)).toNatClampNeg) := inb_of Sz59 (by decide)
  have hat59 : cl59.slots[((1 : Int32)).toNatClampNeg]? = some (.ref (ad 1)) := Ha59.at hin59 rfl
  have cf61 := (Exa.wr W57 (Exa.wr W50 (Exa.wr W43 (Exa.wr W36 (Exa.wr W29 (Exa.wr W22 (Exa.wr W15 cf14)))))))
  obtain ⟨cq60, kq60, qa60, qb60, qc60⟩ := isOf hZ e57 cf61
  obtain ⟨vv62, _, ⟨T62, L62, kk62, nn62⟩, -, X62, ⟨Lc62, hQ62, l62, y62, z62⟩, st62⟩ := X57.virtualBack hx (y := (⟨own_V, "missesEverySubject", "()Z"⟩ : MethodName)) (z := (⟨own_V, "missesEverySubject", "()Z"⟩ : MethodName)) hown (mvT hZ (hw _ (List.mem_of_getElem? (i := 20) rfl))) (mvT hZ (hw _ (List.mem_of_getElem? (i := 21) rfl))) (notFace_of_selects (args := #[]) (mvT hZ (hw _ (List.mem_of_getElem? (i := 23) rfl)))) (mvT hZ (hw _ (List.mem_of_getElem? (i := 23) rfl))) (mvT hZ (hw _ (List.mem_of_getElem? (i := 22) rfl))) (by decide) (backOf (W := 0) (own_miss_1 l Z a0 hw [] hp57 n0 (Nat.le_trans Z0 Kp57.1) ad (own_Wd_ext W (own_ext_of_keep Kp57 all0))) hZ (hw _ (List.mem_of_getElem? (i := 24) rfl)) (hw _ (List.mem_of_getElem? (i := 3) rfl)) (by decide) (by decide)) qa60 qc60 (g := (mkF m 107 #[.val (.int p1), .val (.ref b1), .val (.int (1 : Int32)), .val (.ref (ad 1)), .val (.int (1 : Int32)), .val (.int (0 : Int32)), .val (.int (1 : Int32)), .unset] [(.ref (ad 1))])) rfl (by rw [hml]; rfl) (Steps.refl _) (argsL := []) (rest := []) (lenOf own_pd___Z rfl) rfl (by show 2 * 0 + _ ≤ _; exact Nat.le_of_eq rfl) (hb hby at_107) (fun _ _ => ⟨rfl, e57, (by decide : 1 + 0 ≤ _), (by decide : 8 + 0 ≤ _)⟩)
  dsimp only [Pt.U, Pt.locs, Pt.cells, Pt.slots] at X62 l62 y62 z62 st62 hQ62
  subst l62 y62 z62
  obtain ⟨rfl, Nq62, e62⟩ := hQ62
  have N62 := Fr.app N57 Nq62
  have ch63 : ∀ t, Steps p.tables e below (T62.setTop (mkF m 110 #[.val (.int p1), .val (.ref b1), .val (.int (1 : Int32)), .val (.ref (ad 1)), .val (.int (1 : Int32)), .val (.int (0 : Int32)), .val (.int (1 : Int32)), .unset] [(.int (1 : Int32))])) t → Steps p.tables e below (s₁.setTop (entryFrame m #[(.int p1)] maxLocals)) t := fun t k => ch58 t (by
      show Steps p.tables e below (T57.setTop (mkF m 55 #[.val (.int p1), .unset, .unset, .unset, .unset, .unset, .unset, .unset] [(.ref b1)])) t
      refine XS.astoreN X57.here hx rfl (hb hby at_55) rfl rfl (l' := #[.val (.int p1), .val (.ref b1), .unset, .unset, .unset, .unset, .unset, .unset]) rfl ?_
      show Steps p.tables e below (T57.setTop (mkF m 56 #[.val (.int p1), .val (.ref b1), .unset, .unset, .unset, .unset, .unset, .unset] [])) t
      refine XS.iloadN X57.here hx rfl (hb hby at_56) rfl ?_
      show Steps p.tables e below (T57.setTop (mkF m 57 #[.val (.int p1), .val (.ref b1), .unset, .unset, .unset, .unset, .unset, .unset] [(.int p1)])) t
      refine XS.bipush X57.here hx rfl (hb hby at_57) ?_
      show Steps p.tables e below (T57.setTop (mkF m 59 #[.val (.int p1), .val (.ref b1), .unset, .unset, .unset, .unset, .unset, .unset] [(.int (7 : Int32)), (.int p1)])) t
      refine XS.iand X57.here hx rfl (hb hby at_59) rfl ?_
      rw [hk]
      show Steps p.tables e below (T57.setTop (mkF m 60 #[.val (.int p1), .val (.ref b1), .unset, .unset, .unset, .unset, .unset, .unset] [(.int (1 : Int32))])) t
      refine XS.istoreN X57.here hx rfl (hb hby at_60) rfl (l' := #[.val (.int p1), .val (.ref b1), .val (.int (1 : Int32)), .unset, .unset, .unset, .unset, .unset]) rfl ?_
      show Steps p.tables e below (T57.setTop (mkF m 61 #[.val (.int p1), .val (.ref b1), .val (.int (1 : Int32)), .unset, .unset, .unset, .unset, .unset] [])) t
      refine XS.aloadN X57.here hx rfl (hb hby at_61) rfl rfl ?_
      show Steps p.tables e below (T57.setTop (mkF m 62 #[.val (.int p1), .val (.ref b1), .val (.int (1 : Int32)), .unset, .unset, .unset, .unset, .unset] [(.ref b1)])) t
      refine XS.iloadN X57.here hx rfl (hb hby at_62) rfl ?_
      show Steps p.tables e below (T57.setTop (mkF m 63 #[.val (.int p1), .val (.ref b1), .val (.int (1 : Int32)), .unset, .unset, .unset, .unset, .unset] [(.int (1 : Int32)), (.ref b1)])) t
      refine X57.aaload hx (j := (1 : Int32)) (v := (.ref (ad 1))) (by rw [e57]; exact Ar59.1) (State.isArrayOf_alike hZ.alike Ar59.2.1) rfl Ar59.2.2 hin59 hat59 (g := (mkF m 63 #[.val (.int p1), .val (.ref b1), .val (.int (1 : Int32)), .unset, .unset, .unset, .unset, .unset] [(.int (1 : Int32)), (.ref b1)])) rfl rfl (hb hby at_63) _ ?_
      show Steps p.tables e below (T57.setTop (mkF m 64 #[.val (.int p1), .val (.ref b1), .val (.int (1 : Int32)), .unset, .unset, .unset, .unset, .unset] [(.ref (ad 1))])) t
      refine XS.astoreN X57.here hx rfl (hb hby at_64) rfl rfl (l' := #[.val (.int p1), .val (.ref b1), .val (.int (1 : Int32)), .val (.ref (ad 1)), .unset, .unset, .unset, .unset]) rfl ?_
      show Steps p.tables e below (T57.setTop (mkF m 65 #[.val (.int p1), .val (.ref b1), .val (.int (1 : Int32)), .val (.ref (ad 1)), .unset, .unset, .unset, .unset] [])) t
      refine XS.iloadN X57.here hx rfl (hb hby at_65) rfl ?_
      show Steps p.tables e below (T57.setTop (mkF m 66 #[.val (.int p1), .val (.ref b1), .val (.int (1 : Int32)), .val (.ref (ad 1)), .unset, .unset, .unset, .unset] [(.int (1 : Int32))])) t
      refine XS.iconst X57.here hx rfl (hb hby at_66) ?_
      show Steps p.tables e below (T57.setTop (mkF m 67 #[.val (.int p1), .val (.ref b1), .val (.int (1 : Int32)), .val (.ref (ad 1)), .unset, .unset, .unset, .unset] [(.int (5 : Int32)), (.int (1 : Int32))])) t
      refine XS.icmpNo X57.here hx rfl (hb hby at_67) rfl (tlt (by decide : (1 : Int32) < (5 : Int32))).2.1 ?_
      show Steps p.tables e below (T57.setTop (mkF m 70 #[.val (.int p1), .val (.ref b1), .val (.int (1 : Int32)), .val (.ref (ad 1)), .unset, .unset, .unset, .unset] [])) t
      refine XS.iconst X57.here hx rfl (hb hby at_70) ?_
      show Steps p.tables e below (T57.setTop (mkF m 71 #[.val (.int p1), .val (.ref b1), .val (.int (1 : Int32)), .val (.ref (ad 1)), .unset, .unset, .unset, .unset] [(.int (1 : Int32))])) t
      refine XS.goto X57.here hx rfl (pc0 := 71) (pc' := 75) rfl (hb hby at_71) (by decide) (by decide) ?_
      show Steps p.tables e below (T57.setTop (mkF m 75 #[.val (.int p1), .val (.ref b1), .val (.int (1 : Int32)), .val (.ref (ad 1)), .unset, .unset, .unset, .unset] [(.int (1 : Int32))])) t
      refine XS.istore X57.here hx rfl (hb hby at_75) rfl (l' := #[.val (.int p1), .val (.ref b1), .val (.int (1 : Int32)), .val (.ref (ad 1)), .val (.int (1 : Int32)), .unset, .unset, .unset]) rfl ?_
      show Steps p.tables e below (T57.setTop (mkF m 77 #[.val (.int p1), .val (.ref b1), .val (.int (1 : Int32)), .val (.ref (ad 1)), .val (.int (1 : Int32)), .unset, .unset, .unset] [])) t
      refine XS.iloadN X57.here hx rfl (hb hby at_77) rfl ?_
      show Steps p.tables e below (T57.setTop (mkF m 78 #[.val (.int p1), .val (.ref b1), .val (.int (1 : Int32)), .val (.ref (ad 1)), .val (.int (1 : Int32)), .unset, .unset, .unset] [(.int (1 : Int32))])) t
      refine XS.iconst X57.here hx rfl (hb hby at_78) ?_
      show Steps p.tables e below (T57.setTop (mkF m 79 #[.val (.int p1), .val (.ref b1), .val (.int (1 : Int32)), .val (.ref (ad 1)), .val (.int (1 : Int32)), .unset, .unset, .unset] [(.int (3 : Int32)), (.int (1 : Int32))])) t
      refine XS.icmpYes X57.here hx rfl (pc0 := 79) (pc' := 86) rfl (hb hby at_79) rfl (feq (by decide : ¬ (1 : Int32) = (3 : Int32))).2 (by decide) (by decide) ?_
      show Steps p.tables e below (T57.setTop (mkF m 86 #[.val (.int p1), .val (.ref b1), .val (.int (1 : Int32)), .val (.ref (ad 1)), .val (.int (1 : Int32)), .unset, .unset, .unset] [])) t
      refine XS.iconst X57.here hx rfl (hb hby at_86) ?_
      show Steps p.tables e below (T57.setTop (mkF m 87 #[.val (.int p1), .val (.ref b1), .val (.int (1 : Int32)), .val (.ref (ad 1)), .val (.int (1 : Int32)), .unset, .unset, .unset] [(.int (0 : Int32))])) t
      refine XS.istore X57.here hx rfl (hb hby at_87) rfl (l' := #[.val (.int p1), .val (.ref b1), .val (.int (1 : Int32)), .val (.ref (ad 1)), .val (.int (1 : Int32)), .val (.int (0 : Int32)), .unset, .unset]) rfl ?_
      show Steps p.tables e below (T57.setTop (mkF m 89 #[.val (.int p1), .val (.ref b1), .val (.int (1 : Int32)), .val (.ref (ad 1)), .val (.int (1 : Int32)), .val (.int (0 : Int32)), .unset, .unset] [])) t
      refine XS.iload X57.here hx rfl (hb hby at_89) rfl ?_
      show Steps p.tables e below (T57.setTop (mkF m 91 #[.val (.int p1), .val (.ref b1), .val (.int (1 : Int32)), .val (.ref (ad 1)), .val (.int (1 : Int32)), .val (.int (0 : Int32)), .unset, .unset] [(.int (1 : Int32))])) t
      refine XS.ifNo X57.here hx rfl (hb hby at_91) rfl ((if0 _ _).trans (feq (by decide : ¬ (1 : Int32) = (0 : Int32))).1) ?_
      show Steps p.tables e below (T57.setTop (mkF m 94 #[.val (.int p1), .val (.ref b1), .val (.int (1 : Int32)), .val (.ref (ad 1)), .val (.int (1 : Int32)), .val (.int (0 : Int32)), .unset, .unset] [])) t
      refine XS.iload X57.here hx rfl (hb hby at_94) rfl ?_
      show Steps p.tables e below (T57.setTop (mkF m 96 #[.val (.int p1), .val (.ref b1), .val (.int (1 : Int32)), .val (.ref (ad 1)), .val (.int (1 : Int32)), .val (.int (0 : Int32)), .unset, .unset] [(.int (0 : Int32))])) t
      refine XS.ifNo X57.here hx rfl (hb hby at_96) rfl ((if0 _ _).trans (teq (by decide : (0 : Int32) = (0 : Int32))).2) ?_
      show Steps p.tables e below (T57.setTop (mkF m 99 #[.val (.int p1), .val (.ref b1), .val (.int (1 : Int32)), .val (.ref (ad 1)), .val (.int (1 : Int32)), .val (.int (0 : Int32)), .unset, .unset] [])) t
      refine XS.iconst X57.here hx rfl (hb hby at_99) ?_
      show Steps p.tables e below (T57.setTop (mkF m 100 #[.val (.int p1), .val (.ref b1), .val (.int (1 : Int32)), .val (.ref (ad 1)), .val (.int (1 : Int32)), .val (.int (0 : Int32)), .unset, .unset] [(.int (1 : Int32))])) t
      refine XS.goto X57.here hx rfl (pc0 := 100) (pc' := 104) rfl (hb hby at_100) (by decide) (by decide) ?_
      show Steps p.tables e below (T57.setTop (mkF m 104 #[.val (.int p1), .val (.ref b1), .val (.int (1 : Int32)), .val (.ref (ad 1)), .val (.int (1 : Int32)), .val (.int (0 : Int32)), .unset, .unset] [(.int (1 : Int32))])) t
      refine XS.istore X57.here hx rfl (hb hby at_104) rfl (l' := #[.val (.int p1), .val (.ref b1), .val (.int (1 : Int32)), .val (.ref (ad 1)), .val (.int (1 : Int32)), .val (.int (0 : Int32)), .val (.int (1 : Int32)), .unset]) rfl ?_
      show Steps p.tables e below (T57.setTop (mkF m 106 #[.val (.int p1), .val (.ref b1), .val (.int (1 : Int32)), .val (.ref (ad 1)), .val (.int (1 : Int32)), .val (.int (0 : Int32)), .val (.int (1 : Int32)), .unset] [])) t
      refine XS.aloadN X57.here hx rfl (hb hby at_106) rfl rfl ?_
      show Steps p.tables e below (T57.setTop (mkF m 107 #[.val (.int p1), .val (.ref b1), .val (.int (1 : Int32)), .val (.ref (ad 1)), .val (.int (1 : Int32)), .val (.int (0 : Int32)), .val (.int (1 : Int32)), .unset] [(.ref (ad 1))])) t
      exact st62.trans k)
  obtain ⟨cq64, kq64, qa64, qb64, qc64⟩ := isOf hZ e62 cf61
  obtain ⟨vv65, _, ⟨T65, L65, kk65, nn65⟩, -, X65, ⟨Lc65, hQ65, l65, y65, z65⟩, st65⟩ := X62.virtualBack hx (y := (⟨own_V, "applies", "()Z"⟩ : MethodName)) (z := (⟨own_V, "applies", "()Z"⟩ : MethodName)) hown (mvT hZ (hw _ (List.mem_of_getElem? (i := 26) rfl))) (mvT hZ (hw _ (List.mem_of_getElem? (i := 27) rfl))) (notFace_of_selects (args := #[]) (mvT hZ (hw _ (List.mem_of_getElem? (i := 29) rfl)))) (mvT hZ (hw _ (List.mem_of_getElem? (i := 29) rfl))) (mvT hZ (hw _ (List.mem_of_getElem? (i := 28) rfl))) (by decide) (backOf (W := 0) (own_appl_1 l Z a0 hw [] hp57 n0 (Nat.le_trans Z0 Kp57.1) ad (own_Wd_ext W (own_ext_of_keep Kp57 all0))) hZ (hw _ (List.mem_of_getElem? (i := 30) rfl)) (hw _ (List.mem_of_getElem? (i := 3) rfl)) (by decide) (by decide)) qa64 qc64 (g := (mkF m 127 #[.val (.int p1), .val (.ref b1), .val (.int (1 : Int32)), .val (.ref (ad 1)), .val (.int (1 : Int32)), .val (.int (0 : Int32)), .val (.int (1 : Int32)), .val (.int (1 : Int32))] [(.ref (ad 1))])) rfl (by rw [hml]; rfl) (Steps.refl _) (argsL := []) (rest := []) (lenOf own_pd___Z rfl) rfl (by show 2 * 0 + _ ≤ _; exact Nat.le_of_eq rfl) (hb hby at_127) (fun _ _ => ⟨rfl, e62, (by decide : 1 + 0 ≤ _), (by decide : 8 + 0 ≤ _)⟩)
  dsimp only [Pt.U, Pt.locs, Pt.cells, Pt.slots] at X65 l65 y65 z65 st65 hQ65
  subst l65 y65 z65
  obtain ⟨rfl, Nq65, e65⟩ := hQ65
  have N65 := Fr.app N62 Nq65
  have ch66 : ∀ t, Steps p.tables e below (T65.setTop (mkF m 130 #[.val (.int p1), .val (.ref b1), .val (.int (1 : Int32)), .val (.ref (ad 1)), .val (.int (1 : Int32)), .val (.int (0 : Int32)), .val (.int (1 : Int32)), .val (.int (1 : Int32))] [(.int (0 : Int32))])) t → Steps p.tables e below (s₁.setTop (entryFrame m #[(.int p1)] maxLocals)) t := fun t k => ch63 t (by
      show Steps p.tables e below (T62.setTop (mkF m 110 #[.val (.int p1), .val (.ref b1), .val (.int (1 : Int32)), .val (.ref (ad 1)), .val (.int (1 : Int32)), .val (.int (0 : Int32)), .val (.int (1 : Int32)), .unset] [(.int (1 : Int32))])) t
      refine XS.istore X62.here hx rfl (hb hby at_110) rfl (l' := #[.val (.int p1), .val (.ref b1), .val (.int (1 : Int32)), .val (.ref (ad 1)), .val (.int (1 : Int32)), .val (.int (0 : Int32)), .val (.int (1 : Int32)), .val (.int (1 : Int32))]) rfl ?_
      show Steps p.tables e below (T62.setTop (mkF m 112 #[.val (.int p1), .val (.ref b1), .val (.int (1 : Int32)), .val (.ref (ad 1)), .val (.int (1 : Int32)), .val (.int (0 : Int32)), .val (.int (1 : Int32)), .val (.int (1 : Int32))] [])) t
      refine XS.iload X62.here hx rfl (hb hby at_112) rfl ?_
      show Steps p.tables e below (T62.setTop (mkF m 114 #[.val (.int p1), .val (.ref b1), .val (.int (1 : Int32)), .val (.ref (ad 1)), .val (.int (1 : Int32)), .val (.int (0 : Int32)), .val (.int (1 : Int32)), .val (.int (1 : Int32))] [(.int (1 : Int32))])) t
      refine XS.iload X62.here hx rfl (hb hby at_114) rfl ?_
      show Steps p.tables e below (T62.setTop (mkF m 116 #[.val (.int p1), .val (.ref b1), .val (.int (1 : Int32)), .val (.ref (ad 1)), .val (.int (1 : Int32)), .val (.int (0 : Int32)), .val (.int (1 : Int32)), .val (.int (1 : Int32))] [(.int (1 : Int32)), (.int (1 : Int32))])) t
      refine XS.icmpYes X62.here hx rfl (pc0 := 116) (pc' := 121) rfl (hb hby at_116) rfl (teq (by decide : (1 : Int32) = (1 : Int32))).1 (by decide) (by decide) ?_
      show Steps p.tables e below (T62.setTop (mkF m 121 #[.val (.int p1), .val (.ref b1), .val (.int (1 : Int32)), .val (.ref (ad 1)), .val (.int (1 : Int32)), .val (.int (0 : Int32)), .val (.int (1 : Int32)), .val (.int (1 : Int32))] [])) t
      refine XS.iload X62.here hx rfl (hb hby at_121) rfl ?_
      show Steps p.tables e below (T62.setTop (mkF m 123 #[.val (.int p1), .val (.ref b1), .val (.int (1 : Int32)), .val (.ref (ad 1)), .val (.int (1 : Int32)), .val (.int (0 : Int32)), .val (.int (1 : Int32)), .val (.int (1 : Int32))] [(.int (1 : Int32))])) t
      refine XS.ifNo X62.here hx rfl (hb hby at_123) rfl ((if0 _ _).trans (feq (by decide : ¬ (1 : Int32) = (0 : Int32))).1) ?_
      show Steps p.tables e below (T62.setTop (mkF m 126 #[.val (.int p1), .val (.ref b1), .val (.int (1 : Int32)), .val (.ref (ad 1)), .val (.int (1 : Int32)), .val (.int (0 : Int32)), .val (.int (1 : Int32)), .val (.int (1 : Int32))] [])) t
      refine XS.aloadN X62.here hx rfl (hb hby at_126) rfl rfl ?_
      show Steps p.tables e below (T62.setTop (mkF m 127 #[.val (.int p1), .val (.ref b1), .val (.int (1 : Int32)), .val (.ref (ad 1)), .val (.int (1 : Int32)), .val (.int (0 : Int32)), .val (.int (1 : Int32)), .val (.int (1 : Int32))] [(.ref (ad 1))])) t
      exact st65.trans k)
  have ch67 : ∀ t, Steps p.tables e below (T65.setTop (mkF m 138 #[.val (.int p1), .val (.ref b1), .val (.int (1 : Int32)), .val (.ref (ad 1)), .val (.int (1 : Int32)), .val (.int (0 : Int32)), .val (.int (1 : Int32)), .val (.int (1 : Int32))] [(.int (1 : Int32))])) t → Steps p.tables e below (s₁.setTop (entryFrame m #[(.int p1)] maxLocals)) t := fun t k => ch66 t (by
      show Steps p.tables e below (T65.setTop (mkF m 130 #[.val (.int p1), .val (.ref b1), .val (.int (1 : Int32)), .val (.ref (ad 1)), .val (.int (1 : Int32)), .val (.int (0 : Int32)), .val (.int (1 : Int32)), .val (.int (1 : Int32))] [(.int (0 : Int32))])) t
      refine XS.ifNo X65.here hx rfl (hb hby at_130) rfl ((if0 _ _).trans (teq (by decide : (0 : Int32) = (0 : Int32))).2) ?_
      show Steps p.tables e below (T65.setTop (mkF m 133 #[.val (.int p1), .val (.ref b1), .val (.int (1 : Int32)), .val (.ref (ad 1)), .val (.int (1 : Int32)), .val (.int (0 : Int32)), .val (.int (1 : Int32)), .val (.int (1 : Int32))] [])) t
      refine XS.iconst X65.here hx rfl (hb hby at_133) ?_
      show Steps p.tables e below (T65.setTop (mkF m 134 #[.val (.int p1), .val (.ref b1), .val (.int (1 : Int32)), .val (.ref (ad 1)), .val (.int (1 : Int32)), .val (.int (0 : Int32)), .val (.int (1 : Int32)), .val (.int (1 : Int32))] [(.int (1 : Int32))])) t
      refine XS.goto X65.here hx rfl (pc0 := 134) (pc' := 138) rfl (hb hby at_134) (by decide) (by decide) ?_
      exact k)
  obtain ⟨fs, hr, hrun, hended, hW, hsame⟩ := X65.leave (v := some (.int (1 : Int32))) (fun h => by rw [Bd.returns] at h; cases h)
  refine ⟨_, _, ch67 _ ?_, hrun, hended, _, _, rfl, ?_, ⟨_, rfl⟩, hW, hsame.mono (by decide) (by decide)⟩
  · show Steps p.tables e below (T65.setTop (mkF m 138 #[.val (.int p1), .val (.ref b1), .val (.int (1 : Int32)), .val (.ref (ad 1)), .val (.int (1 : Int32)), .val (.int (0 : Int32)), .val (.int (1 : Int32)), .val (.int (1 : Int32))] [(.int (1 : Int32))])) _
    exact retN X65 hx (t := .boolean) Bd.returns (by simp) (hb hby at_138) hr
  · show QN (some (.int (1 : Int32))) n0 _ T65.heap _
    rw [e65]
    exact ⟨rfl, N65⟩
theorem own_ef_own_miss_2 (m : MethodId) {x0 : Addr} : entryFrame m #[(.ref x0)] 1 = mkF m 0 #[.val (.ref x0)] [] := by first | (simp [entryFrame, mkF, argsToLocals, Value.category, maxLocals]; done) | rfl
set_option maxRecDepth 65536 in
set_option maxHeartbeats 40000000 in
theorem own_miss_2 (l : Launch) (Z : State) (a0 : Array Value) (hw : ∀ d ∈ tables_1, d.before a0 Z = true) (ws : List Jvm.Cond) (h0 : Heap) (n0 : Nat) (Z0 : n0 ≤ h0.size) (ad : Nat → Addr) (W : OwnWd Z h0 ad) :
    MetFree l (⟨own_V, "missesEverySubject", "()Z"⟩ : MethodName) (head1 (Jvm.Cond.code (⟨own_V, "missesEverySubject", "()Z"⟩ : MethodName) prog_34_method_6_code 1 (some .boolean) :: ws) ({ frames := 0, cells := 0, slots := 0, locals := 0 } : Room)) (fun a U => a = #[(.ref (ad 2))] ∧ Z.Warmed39 U.vm ∧ U.heap = h0) (fun _ _ _ _ _ => True) (fun _ U o U' => ∃ v L, o = .returned v ∧ QV (some (.int (1 : Int32))) h0 n0 v U'.heap L ∧ FrameEnd U o U' L ({ frames := 0, cells := 0, slots := 0, locals := 0 } : Room).cells ({ frames := 0, cells := 0, slots := 0, locals := 0 } : Room).slots) := by
  refine MetFree.of_bodySF (plainFor_of_name own_pn_own_Verdict) hisR ?_
  intro p e s m args below meth c s₁ Bd hml0 hP hK
  obtain ⟨rfl, hZ, hh⟩ := hP
  have hx := Bd.exec
  have hby := Bd.bytes
  have hml : c.maxLocals = 1 := hml0
  have hown : s.vm.findClass own_V = some m.cls := (findClass_of_methodNamed Bd.named :)
  have hnm := (name_of_methodNamed Bd.named Bd.method).1
  have X0 : Stand p l e ({ frames := 0, cells := 0, slots := 0, locals := 0 } : Room) s m #[(.ref (ad 2))] below meth c s₁ [] 0 0 := Stand.of_body Bd
  have e0 : s₁.heap = h0 := by rw [← hh, Bd.state]; rfl
  have N0 := Fr.nil n0
  have pre0 : ∀ t, Steps p.tables e below (s₁.setTop (mkF m 0 #[.val (.ref (ad 2))] [])) t → Steps p.tables e below (s₁.setTop (entryFrame m #[(.ref (ad 2))] 1)) t := fun t k => castTop (own_ef_own_miss_2 m) k
  obtain ⟨T1, X1, e1, st1⟩ := getS2 X0 hx hZ hown (host := "") (Or.inl (hw _ (List.mem_of_getElem? (i := 25) rfl))) Via.refl e0 (own_S_DISABLED W) (g := (mkF m 1 #[.val (.ref (ad 2))] [(.ref (ad 2))])) rfl (hb hby own_d_prog_34_method_6_code_1)
  have ch2 : ∀ t, Steps p.tables e below (T1.setTop (mkF m 4 #[.val (.ref (ad 2))] [(.ref (ad 0)), (.ref (ad 2))])) t → Steps p.tables e below (s₁.setTop (entryFrame m #[(.ref (ad 2))] 1)) t := fun t k => pre0 t (by
      show Steps p.tables e below (s₁.setTop (mkF m 0 #[.val (.ref (ad 2))] [])) t
      refine XS.aloadN X0.here hx rfl (hb hby own_d_prog_34_method_6_code_0) rfl rfl ?_
      show Steps p.tables e below (s₁.setTop (mkF m 1 #[.val (.ref (ad 2))] [(.ref (ad 2))])) t
      exact st1 t k)
  obtain ⟨T3, X3, e3, st3⟩ := getS2 X1 hx hZ hown (host := "") (Or.inl (hw _ (List.mem_of_getElem? (i := 33) rfl))) Via.refl e1 (own_S_NO_MATCH_RESOURCE W) (g := (mkF m 8 #[.val (.ref (ad 2))] [(.ref (ad 2))])) rfl (hb hby own_d_prog_34_method_6_code_8)
  have ch4 : ∀ t, Steps p.tables e below (T3.setTop (mkF m 11 #[.val (.ref (ad 2))] [(.ref (ad 1)), (.ref (ad 2))])) t → Steps p.tables e below (s₁.setTop (entryFrame m #[(.ref (ad 2))] 1)) t := fun t k => ch2 t (by
      show Steps p.tables e below (T1.setTop (mkF m 4 #[.val (.ref (ad 2))] [(.ref (ad 0)), (.ref (ad 2))])) t
      refine Jvm.RoadKit.acmp (g := (mkF m 4 #[.val (.ref (ad 2))] [(.ref (ad 0)), (.ref (ad 2))])) X1 hx rfl rfl rfl (pc0 := 4) (pc' := 7) (same := false) rfl (hb hby own_d_prog_34_method_6_code_4) rfl (decide_eq_false fun q => (Fld.ne (own_F_NO_MATCH_ACTION_ordinal W) (own_F_DISABLED_ordinal W) (by decide)) (Value.ref.inj q)) (by decide) (by decide) ?_
      show Steps p.tables e below (T1.setTop (mkF m 7 #[.val (.ref (ad 2))] [])) t
      refine XS.aloadN X1.here hx rfl (hb hby own_d_prog_34_method_6_code_7) rfl rfl ?_
      show Steps p.tables e below (T1.setTop (mkF m 8 #[.val (.ref (ad 2))] [(.ref (ad 2))])) t
      exact st3 t k)
  obtain ⟨T5, X5, e5, st5⟩ := getS2 X3 hx hZ hown (host := "") (Or.inl (hw _ (List.mem_of_getElem? (i := 34) rfl))) Via.refl e3 (own_S_NO_MATCH_ACTION W) (g := (mkF m 15 #[.val (.ref (ad 2))] [(.ref (ad 2))])) rfl (hb hby own_d_prog_34_method_6_code_15)
  have ch6 : ∀ t, Steps p.tables e below (T5.setTop (mkF m 18 #[.val (.ref (ad 2))] [(.ref (ad 2)), (.ref (ad 2))])) t → Steps p.tables e below (s₁.setTop (entryFrame m #[(.ref (ad 2))] 1)) t := fun t k => ch4 t (by
      show Steps p.tables e below (T3.setTop (mkF m 11 #[.val (.ref (ad 2))] [(.ref (ad 1)), (.ref (ad 2))])) t
      refine Jvm.RoadKit.acmp (g := (mkF m 11 #[.val (.ref (ad 2))] [(.ref (ad 1)), (.ref (ad 2))])) X3 hx rfl rfl rfl (pc0 := 11) (pc' := 14) (same := false) rfl (hb hby own_d_prog_34_method_6_code_11) rfl (decide_eq_false fun q => (Fld.ne (own_F_NO_MATCH_ACTION_ordinal W) (own_F_NO_MATCH_RESOURCE_ordinal W) (by decide)) (Value.ref.inj q)) (by decide) (by decide) ?_
      show Steps p.tables e below (T3.setTop (mkF m 14 #[.val (.ref (ad 2))] [])) t
      refine XS.aloadN X3.here hx rfl (hb hby own_d_prog_34_method_6_code_14) rfl rfl ?_
      show Steps p.tables e below (T3.setTop (mkF m 15 #[.val (.ref (ad 2))] [(.ref (ad 2))])) t
      exact st5 t k)
  have ch7 : ∀ t, Steps p.tables e below (T5.setTop (mkF m 33 #[.val (.ref (ad 2))] [(.int (1 : Int32))])) t → Steps p.tables e below (s₁.setTop (entryFrame m #[(.ref (ad 2))] 1)) t := fun t k => ch6 t (by
      show Steps p.tables e below (T5.setTop (mkF m 18 #[.val (.ref (ad 2))] [(.ref (ad 2)), (.ref (ad 2))])) t
      refine Jvm.RoadKit.acmp (g := (mkF m 18 #[.val (.ref (ad 2))] [(.ref (ad 2)), (.ref (ad 2))])) X5 hx rfl rfl rfl (pc0 := 18) (pc' := 28) (same := true) rfl (hb hby own_d_prog_34_method_6_code_18) rfl (decide_eq_true rfl) (by decide) (by decide) ?_
      show Steps p.tables e below (T5.setTop (mkF m 28 #[.val (.ref (ad 2))] [])) t
      refine XS.iconst X5.here hx rfl (hb hby own_d_prog_34_method_6_code_28) ?_
      show Steps p.tables e below (T5.setTop (mkF m 29 #[.val (.ref (ad 2))] [(.int (1 : Int32))])) t
      refine XS.goto X5.here hx rfl (pc0 := 29) (pc' := 33) rfl (hb hby own_d_prog_34_method_6_code_29) (by decide) (by decide) ?_
      exact k)
  obtain ⟨fs, hr, hrun, hended, hW, hsame⟩ := X5.leave (v := some (.int (1 : Int32))) (fun h => by rw [Bd.returns] at h; cases h)
  refine ⟨_, _, ch7 _ ?_, hrun, hended, _, _, rfl, ?_, ⟨_, rfl⟩, hW, hsame.mono (by decide) (by decide)⟩
  · show Steps p.tables e below (T5.setTop (mkF m 33 #[.val (.ref (ad 2))] [(.int (1 : Int32))])) _
    exact retN X5 hx (t := .boolean) Bd.returns (by simp) (hb hby own_d_prog_34_method_6_code_33) hr
  · show QV (some (.int (1 : Int32))) h0 n0 _ T5.heap _
    rw [e5]
    exact ⟨rfl, N0, rfl⟩
theorem own_ef_own_appl_2 (m : MethodId) {x0 : Addr} : entryFrame m #[(.ref x0)] 1 = mkF m 0 #[.val (.ref x0)] [] := by first | (simp [entryFrame, mkF, argsToLocals, Value.category, maxLocals]; done) | rfl
set_option maxRecDepth 65536 in
set_option maxHeartbeats 40000000 in
theorem own_appl_2 (l : Launch) (Z : State) (a0 : Array Value) (hw : ∀ d ∈ tables_1, d.before a0 Z = true) (ws : List Jvm.Cond) (h0 : Heap) (n0 : Nat) (Z0 : n0 ≤ h0.size) (ad : Nat → Addr) (W : OwnWd Z h0 ad) :
    MetFree l (⟨own_V, "applies", "()Z"⟩ : MethodName) (head1 (Jvm.Cond.code (⟨own_V, "applies", "()Z"⟩ : MethodName) prog_34_method_5_code 1 (some .boolean) :: ws) ({ frames := 0, cells := 0, slots := 0, locals := 0 } : Room)) (fun a U => a = #[(.ref (ad 2))] ∧ Z.Warmed39 U.vm ∧ U.heap = h0) (fun _ _ _ _ _ => True) (fun _ U o U' => ∃ v L, o = .returned v ∧ QV (some (.int (0 : Int32))) h0 n0 v U'.heap L ∧ FrameEnd U o U' L ({ frames := 0, cells := 0, slots := 0, locals := 0 } : Room).cells ({ frames := 0, cells := 0, slots := 0, locals := 0 } : Room).slots) := by
  refine MetFree.of_bodySF (plainFor_of_name own_pn_own_Verdict) hisR ?_
  intro p e s m args below meth c s₁ Bd hml0 hP hK
  obtain ⟨rfl, hZ, hh⟩ := hP
  have hx := Bd.exec
  have hby := Bd.bytes
  have hml : c.maxLocals = 1 := hml0
  have hown : s.vm.findClass own_V = some m.cls := (findClass_of_methodNamed Bd.named :)
  have hnm := (name_of_methodNamed Bd.named Bd.method).1
  have X0 : Stand p l e ({ frames := 0, cells := 0, slots := 0, locals := 0 } : Room) s m #[(.ref (ad 2))] below meth c s₁ [] 0 0 := Stand.of_body Bd
  have e0 : s₁.heap = h0 := by rw [← hh, Bd.state]; rfl
  have N0 := Fr.nil n0
  have pre0 : ∀ t, Steps p.tables e below (s₁.setTop (mkF m 0 #[.val (.ref (ad 2))] [])) t → Steps p.tables e below (s₁.setTop (entryFrame m #[(.ref (ad 2))] 1)) t := fun t k => castTop (own_ef_own_appl_2 m) k
  obtain ⟨T1, X1, e1, st1⟩ := getS2 X0 hx hZ hown (host := "") (Or.inl (hw _ (List.mem_of_getElem? (i := 31) rfl))) Via.refl e0 (own_S_MATCHED W) (g := (mkF m 1 #[.val (.ref (ad 2))] [(.ref (ad 2))])) rfl (hb hby own_d_prog_34_method_5_code_1)
  have ch2 : ∀ t, Steps p.tables e below (T1.setTop (mkF m 4 #[.val (.ref (ad 2))] [(.ref (ad 5)), (.ref (ad 2))])) t → Steps p.tables e below (s₁.setTop (entryFrame m #[(.ref (ad 2))] 1)) t := fun t k => pre0 t (by
      show Steps p.tables e below (s₁.setTop (mkF m 0 #[.val (.ref (ad 2))] [])) t
      refine XS.aloadN X0.here hx rfl (hb hby own_d_prog_34_method_5_code_0) rfl rfl ?_
      show Steps p.tables e below (s₁.setTop (mkF m 1 #[.val (.ref (ad 2))] [(.ref (ad 2))])) t
      exact st1 t k)
  obtain ⟨T3, X3, e3, st3⟩ := getS2 X1 hx hZ hown (host := "") (Or.inl (hw _ (List.mem_of_getElem? (i := 32) rfl))) Via.refl e1 (own_S_RETAINED W) (g := (mkF m 8 #[.val (.ref (ad 2))] [(.ref (ad 2))])) rfl (hb hby own_d_prog_34_method_5_code_8)
  have ch4 : ∀ t, Steps p.tables e below (T3.setTop (mkF m 11 #[.val (.ref (ad 2))] [(.ref (ad 6)), (.ref (ad 2))])) t → Steps p.tables e below (s₁.setTop (entryFrame m #[(.ref (ad 2))] 1)) t := fun t k => ch2 t (by
      show Steps p.tables e below (T1.setTop (mkF m 4 #[.val (.ref (ad 2))] [(.ref (ad 5)), (.ref (ad 2))])) t
      refine Jvm.RoadKit.acmp (g := (mkF m 4 #[.val (.ref (ad 2))] [(.ref (ad 5)), (.ref (ad 2))])) X1 hx rfl rfl rfl (pc0 := 4) (pc' := 7) (same := false) rfl (hb hby own_d_prog_34_method_5_code_4) rfl (decide_eq_false fun q => (Fld.ne (own_F_NO_MATCH_ACTION_ordinal W) (own_F_MATCHED_ordinal W) (by decide)) (Value.ref.inj q)) (by decide) (by decide) ?_
      show Steps p.tables e below (T1.setTop (mkF m 7 #[.val (.ref (ad 2))] [])) t
      refine XS.aloadN X1.here hx rfl (hb hby own_d_prog_34_method_5_code_7) rfl rfl ?_
      show Steps p.tables e below (T1.setTop (mkF m 8 #[.val (.ref (ad 2))] [(.ref (ad 2))])) t
      exact st3 t k)
  have ch5 : ∀ t, Steps p.tables e below (T3.setTop (mkF m 19 #[.val (.ref (ad 2))] [(.int (0 : Int32))])) t → Steps p.tables e below (s₁.setTop (entryFrame m #[(.ref (ad 2))] 1)) t := fun t k => ch4 t (by
      show Steps p.tables e below (T3.setTop (mkF m 11 #[.val (.ref (ad 2))] [(.ref (ad 6)), (.ref (ad 2))])) t
      refine Jvm.RoadKit.acmp (g := (mkF m 11 #[.val (.ref (ad 2))] [(.ref (ad 6)), (.ref (ad 2))])) X3 hx rfl rfl rfl (pc0 := 11) (pc' := 18) (same := false) rfl (hb hby own_d_prog_34_method_5_code_11) rfl (decide_eq_false fun q => (Fld.ne (own_F_NO_MATCH_ACTION_ordinal W) (own_F_RETAINED_ordinal W) (by decide)) (Value.ref.inj q)) (by decide) (by decide) ?_
      show Steps p.tables e below (T3.setTop (mkF m 18 #[.val (.ref (ad 2))] [])) t
      refine XS.iconst X3.here hx rfl (hb hby own_d_prog_34_method_5_code_18) ?_
      exact k)
  obtain ⟨fs, hr, hrun, hended, hW, hsame⟩ := X3.leave (v := some (.int (0 : Int32))) (fun h => by rw [Bd.returns] at h; cases h)
  refine ⟨_, _, ch5 _ ?_, hrun, hended, _, _, rfl, ?_, ⟨_, rfl⟩, hW, hsame.mono (by decide) (by decide)⟩
  · show Steps p.tables e below (T3.setTop (mkF m 19 #[.val (.ref (ad 2))] [(.int (0 : Int32))])) _
    exact retN X3 hx (t := .boolean) Bd.returns (by simp) (hb hby own_d_prog_34_method_5_code_19) hr
  · show QV (some (.int (0 : Int32))) h0 n0 _ T3.heap _
    rw [e3]
    exact ⟨rfl, N0, rfl⟩
theorem own_ef_own_law_2 (m : MethodId) {x0 : Int32} : entryFrame m #[(.int x0)] maxLocals = mkF m 0 #[.val (.int x0), .unset, .unset, .unset, .unset, .unset, .unset, .unset] [] := by first | (simp [entryFrame, mkF, argsToLocals, Value.category, maxLocals]; done) | rfl
set_option maxRecDepth 65536 in
set_option maxHeartbeats 40000000 in
theorem own_law_2 (l : Launch) (Z : State) (a0 : Array Value) (hw : ∀ d ∈ tables_1, d.before a0 Z = true) (ws : List Jvm.Cond) (h0 : Heap) (n0 : Nat) (Z0 : n0 ≤ h0.size) (p1 : Int32) (hk : p1 &&& (7 : Int32) = (2 : Int32)) (ad : Nat → Addr) (W : OwnWd Z h0 ad) :
    MetFree l x (head1 (Jvm.Cond.code x code maxLocals ret :: ws) room_1) (fun a U => a = #[(.int p1)] ∧ Z.Warmed39 U.vm ∧ U.heap = h0) (fun _ _ _ _ _ => True) (fun _ U o U' => ∃ v L, o = .returned v ∧ QN (some (.int (1 : Int32))) n0 v U'.heap L ∧ FrameEnd U o U' L room_1.cells room_1.slots) := by
  refine MetFree.of_bodySF (plainFor_of_name own_pn_own_VerdictMissesEverySubjectPinLaw) hisR ?_
  intro p e s m args below meth c s₁ Bd hml0 hP hK
  obtain ⟨rfl, hZ, hh⟩ := hP
  have hx := Bd.exec
  have hby := Bd.bytes
  have hml : c.maxLocals = 8 := hml0
  have hown : s.vm.findClass own_L = some m.cls := (findClass_of_methodNamed Bd.named :)
  have hnm := (name_of_methodNamed Bd.named Bd.method).1
  have X0 : Stand p l e room_1 s m #[(.int p1)] below meth c s₁ [] 0 0 := Stand.of_body Bd
  have e0 : s₁.heap = h0 := by rw [← hh, Bd.state]; rfl
  have N0 := Fr.nil n0
  have pre0 : ∀ t, Steps p.tables e below (s₁.setTop (mkF m 0 #[.val (.int p1), .unset, .unset, .unset, .unset, .unset, .unset, .unset] [])) t → Steps p.tables e below (s₁.setTop (entryFrame m #[(.int p1)] maxLocals)) t := fun t k => castTop (own_ef_own_law_2 m) k
  obtain ⟨T1, hp1, k1, X1, e1, E1, A1, O1, st1⟩ := newR X0 hx hZ hown (hw _ (List.mem_of_getElem? (i := 0) rfl)) (hw _ (List.mem_of_getElem? (i := 1) rfl)) e0 (g := (mkF m 2 #[.val (.int p1), .unset, .unset, .unset, .unset, .unset, .unset, .unset] [(.int (8 : Int32))])) rfl (hb hby at_2) rfl (by decide) (cap := 8) (by decide) (by decide) (by decide) (by decide)
  obtain ⟨b1, g1⟩ : ∃ z, z = h0.size := ⟨_, rfl⟩
  rw [← g1] at A1 st1
  have ne_ad0_b1 : (ad 0) ≠ b1 := Nat.ne_of_lt (Nat.lt_of_lt_of_le (own_E_DISABLED W).lt (Nat.le_of_eq g1.symm))
  have ne_ad1_b1 : (ad 1) ≠ b1 := Nat.ne_of_lt (Nat.lt_of_lt_of_le (own_E_NO_MATCH_RESOURCE W).lt (Nat.le_of_eq g1.symm))
  have ne_ad2_b1 : (ad 2) ≠ b1 := Nat.ne_of_lt (Nat.lt_of_lt_of_le (own_E_NO_MATCH_ACTION W).lt (Nat.le_of_eq g1.symm))
  have ne_ad3_b1 : (ad 3) ≠ b1 := Nat.ne_of_lt (Nat.lt_of_lt_of_le (own_E_NO_MATCH_IDENTITY W).lt (Nat.le_of_eq g1.symm))
  have ne_ad4_b1 : (ad 4) ≠ b1 := Nat.ne_of_lt (Nat.lt_of_lt_of_le (own_E_NO_MATCH_CALENDAR W).lt (Nat.le_of_eq g1.symm))
  have ne_ad5_b1 : (ad 5) ≠ b1 := Nat.ne_of_lt (Nat.lt_of_lt_of_le (own_E_MATCHED W).lt (Nat.le_of_eq g1.symm))
  have ne_ad6_b1 : (ad 6) ≠ b1 := Nat.ne_of_lt (Nat.lt_of_lt_of_le (own_E_RETAINED W).lt (Nat.le_of_eq g1.symm))
  have ne_ad7_b1 : (ad 7) ≠ b1 := Nat.ne_of_lt (Nat.lt_of_lt_of_le (own_E_DROPPED_BY_BEST_MATCH W).lt (Nat.le_of_eq g1.symm))
  have g_b1 : n0 ≤ b1 := Nat.le_trans (Nat.le_trans Z0 (Keep.refl h0 []).1) (Nat.le_of_eq g1.symm)
  have sz_b1 : h0.size ≤ b1 := Nat.le_trans (Keep.refl h0 []).1 (Nat.le_of_eq g1.symm)
  have Kp1 := Keep.ext (Keep.refl h0 []) E1
  have V1 : Arv Z hp1 b1 k1 (.object own_V) (8 : Int32) [.null, .null, .null, .null, .null, .null, .null, .null] .null := (Arv.new A1 (by decide)).pad (pad_rep [] .null 8)
  have ch2 : ∀ t, Steps p.tables e below (T1.setTop (mkF m 5 #[.val (.int p1), .unset, .unset, .unset, .unset, .unset, .unset, .unset] [(.ref b1)])) t → Steps p.tables e below (s₁.setTop (entryFrame m #[(.int p1)] maxLocals)) t := fun t k => pre0 t (by
      show Steps p.tables e below (s₁.setTop (mkF m 0 #[.val (.int p1), .unset, .unset, .unset, .unset, .unset, .unset, .unset] [])) t
      refine XS.bipush X0.here hx rfl (hb hby at_0) ?_
      show Steps p.tables e below (s₁.setTop (mkF m 2 #[.val (.int p1), .unset, .unset, .unset, .unset, .unset, .unset, .unset] [(.int (8 : Int32))])) t
      exact st1 t k)
  have cf3 := (own_sta_keep (own_S_DISABLED W) Kp1 all0)
  obtain ⟨T4, X4, e4, st4⟩ := getS2 X1 hx hZ hown (host := "") (Or.inl (hw _ (List.mem_of_getElem? (i := 2) rfl))) Via.refl e1 cf3 (g := (mkF m 7 #[.val (.int p1), .unset, .unset, .unset, .unset, .unset, .unset, .unset] [(.int (0 : Int32)), (.ref b1), (.ref b1)])) rfl (hb hby at_7)
  have ch5 : ∀ t, Steps p.tables e below (T4.setTop (mkF m 10 #[.val (.int p1), .unset, .unset, .unset, .unset, .unset, .unset, .unset] [(.ref (ad 0)), (.int (0 : Int32)), (.ref b1), (.ref b1)])) t → Steps p.tables e below (s₁.setTop (entryFrame m #[(.int p1)] maxLocals)) t := fun t k => ch2 t (by
      show Steps p.tables e below (T1.setTop (mkF m 5 #[.val (.int p1), .unset, .unset, .unset, .unset, .unset, .unset, .unset] [(.ref b1)])) t
      refine XS.dup X1.here hx rfl (hb hby at_5) rfl rfl ?_
      show Steps p.tables e below (T1.setTop (mkF m 6 #[.val (.int p1), .unset, .unset, .unset, .unset, .unset, .unset, .unset] [(.ref b1), (.ref b1)])) t
      refine XS.iconst X1.here hx rfl (hb hby at_6) ?_
      show Steps p.tables e below (T1.setTop (mkF m 7 #[.val (.int p1), .unset, .unset, .unset, .unset, .unset, .unset, .unset] [(.int (0 : Int32)), (.ref b1), (.ref b1)])) t
      exact st4 t k)
  obtain ⟨cl6, Ar6, qq6, Sz6, Ng6, Ha6, Ga6⟩ := id V1
  have hin6 : ¬ ((0 : Int32) < 0 ∨ cl6.slots.size ≤ ((0 : Int32)).toNatClampNeg) := inb_of Sz6 (by decide)
  have cf7 := (Exa.keep (own_E_DISABLED W) Kp1)
  obtain ⟨T8, hp8, X8, e8, W8, st8⟩ := stR X4 hx hZ e4 Ar6 (j := (0 : Int32)) hin6 rfl (Sto.ofV Ar6 qq6 O1 (Ins.self cf7)) (g := (mkF m 10 #[.val (.int p1), .unset, .unset, .unset, .unset, .unset, .unset, .unset] [(.ref (ad 0)), (.int (0 : Int32)), (.ref b1), (.ref b1)])) rfl rfl (hb hby at_10)
  have ch9 : ∀ t, Steps p.tables e below (T8.setTop (mkF m 11 #[.val (.int p1), .unset, .unset, .unset, .unset, .unset, .unset, .unset] [(.ref b1)])) t → Steps p.tables e below (s₁.setTop (entryFrame m #[(.int p1)] maxLocals)) t := fun t k => ch5 t (by
      show Steps p.tables e below (T4.setTop (mkF m 10 #[.val (.int p1), .unset, .unset, .unset, .unset, .unset, .unset, .unset] [(.ref (ad 0)), (.int (0 : Int32)), (.ref b1), (.ref b1)])) t
      exact st8 t k)
  have V8 : Arv Z hp8 b1 k1 (.object own_V) (8 : Int32) [(.ref (ad 0)), .null, .null, .null, .null, .null, .null, .null] .null := Arv.set Ar6 qq6 Sz6 Ng6 Ha6 Ga6 rfl W8 0 rfl (Nat.le_of_ble_eq_true rfl)
  have N8 := Fr.snoc X8 N0 g_b1
  have Kp8 := Keep.wr Kp1 W8 (Or.inr sz_b1)
  have cf10 := (own_sta_keep (own_S_NO_MATCH_RESOURCE W) Kp8 all0)
  obtain ⟨T11, X11, e11, st11⟩ := getS2 X8 hx hZ hown (host := "") (Or.inl (hw _ (List.mem_of_getElem? (i := 6) rfl))) Via.refl e8 cf10 (g := (mkF m 13 #[.val (.int p1), .unset, .unset, .unset, .unset, .unset, .unset, .unset] [(.int (1 : Int32)), (.ref b1), (.ref b1)])) rfl (hb hby at_13)
  have ch12 : ∀ t, Steps p.tables e below (T11.setTop (mkF m 16 #[.val (.int p1), .unset, .unset, .unset, .unset, .unset, .unset, .unset] [(.ref (ad 1)), (.int (1 : Int32)), (.ref b1), (.ref b1)])) t → Steps p.tables e below (s₁.setTop (entryFrame m #[(.int p1)] maxLocals)) t := fun t k => ch9 t (by
      show Steps p.tables e below (T8.setTop (mkF m 11 #[.val (.int p1), .unset, .unset, .unset, .unset, .unset, .unset, .unset] [(.ref b1)])) t
      refine XS.dup X8.here hx rfl (hb hby at_11) rfl rfl ?_
      show Steps p.tables e below (T8.setTop (mkF m 12 #[.val (.int p1), .unset, .unset, .unset, .unset, .unset, .unset, .unset] [(.ref b1), (.ref b1)])) t
      refine XS.iconst X8.here hx rfl (hb hby at_12) ?_
      show Steps p.tables e below (T8.setTop (mkF m 13 #[.val (.int p1), .unset, .unset, .unset, .unset, .unset, .unset, .unset] [(.int (1 : Int32)), (.ref b1), (.ref b1)])) t
      exact st11 t k)
  obtain ⟨cl13, Ar13, qq13, Sz13, Ng13, Ha13, Ga13⟩ := id V8
  have hin13 : ¬ ((1 : Int32) < 0 ∨ cl13.slots.size ≤ ((1 : Int32)).toNatClampNeg) := inb_of Sz13 (by decide)
  have cf14 := (Exa.keep (own_E_NO_MATCH_RESOURCE W) Kp8)
  obtain ⟨T15, hp15, X15, e15, W15, st15⟩ := stR X11 hx hZ e11 Ar13 (j := (1 : Int32)) hin13 rfl (Sto.ofV Ar13 qq13 O1 (Ins.self cf14)) (g := (mkF m 16 #[.val (.int p1), .unset, .unset, .unset, .unset, .unset, .unset, .unset] [(.ref (ad 1)), (.int (1 : Int32)), (.ref b1), (.ref b1)])) rfl rfl (hb hby at_16)
  have ch16 : ∀ t, Steps p.tables e below (T15.setTop (mkF m 17 #[.val (.int p1), .unset, .unset, .unset, .unset, .unset, .unset, .unset] [(.ref b1)])) t → Steps p.tables e below (s₁.setTop (entryFrame m #[(.int p1)] maxLocals)) t := fun t k => ch12 t (by
      show Steps p.tables e below (T11.setTop (mkF m 16 #[.val (.int p1), .unset, .unset, .unset, .unset, .unset, .unset, .unset] [(.ref (ad 1)), (.int (1 : Int32)), (.ref b1), (.ref b1)])) t
      exact st15 t k)
  have V15 : Arv Z hp15 b1 k1 (.object own_V) (8 : Int32) [(.ref (ad 0)), (.ref (ad 1)), .null, .null, .null, .null, .null, .null] .null := Arv.set Ar13 qq13 Sz13 Ng13 Ha13 Ga13 rfl W15 1 rfl (Nat.le_of_ble_eq_true rfl)
  have N15 := Fr.snoc X15 N8 g_b1
  have Kp15 := Keep.wr Kp8 W15 (Or.inr sz_b1)
  have cf17 := (own_sta_keep (own_S_NO_MATCH_ACTION W) Kp15 all0)
  obtain ⟨T18, X18, e18, st18⟩ := getS2 X15 hx hZ hown (host := "") (Or.inl (hw _ (List.mem_of_getElem? (i := 8) rfl))) Via.refl e15 cf17 (g := (mkF m 19 #[.val (.int p1), .unset, .unset, .unset, .unset, .unset, .unset, .unset] [(.int (2 : Int32)), (.ref b1), (.ref b1)])) rfl (hb hby at_19)
  have ch19 : ∀ t, Steps p.tables e below (T18.setTop (mkF m 22 #[.val (.int p1), .unset, .unset, .unset, .unset, .unset, .unset, .unset] [(.ref (ad 2)), (.int (2 : Int32)), (.ref b1), (.ref b1)])) t → Steps p.tables e below (s₁.setTop (entryFrame m #[(.int p1)] maxLocals)) t := fun t k => ch16 t (by
      show Steps p.tables e below (T15.setTop (mkF m 17 #[.val (.int p1), .unset, .unset, .unset, .unset, .unset, .unset, .unset] [(.ref b1)])) t
      refine XS.dup X15.here hx rfl (hb hby at_17) rfl rfl ?_
      show Steps p.tables e below (T15.setTop (mkF m 18 #[.val (.int p1), .unset, .unset, .unset, .unset, .unset, .unset, .unset] [(.ref b1), (.ref b1)])) t
      refine XS.iconst X15.here hx rfl (hb hby at_18) ?_
      show Steps p.tables e below (T15.setTop (mkF m 19 #[.val (.int p1), .unset, .unset, .unset, .unset, .unset, .unset, .unset] [(.int (2 : Int32)), (.ref b1), (.ref b1)])) t
      exact st18 t k)
  obtain ⟨cl20, Ar20, qq20, Sz20, Ng20, Ha20, Ga20⟩ := id V15
  have hin20 : ¬ ((2 : Int32) < 0 ∨ cl20.slots.size ≤ ((2 : Int32)).toNatClampNeg) := inb_of Sz20 (by decide)
  have cf21 := (Exa.keep (own_E_NO_MATCH_ACTION W) Kp15)
  obtain ⟨T22, hp22, X22, e22, W22, st22⟩ := stR X18 hx hZ e18 Ar20 (j := (2 : Int32)) hin20 rfl (Sto.ofV Ar20 qq20 O1 (Ins.self cf21)) (g := (mkF m 22 #[.val (.int p1), .unset, .unset, .unset, .unset, .unset, .unset, .unset] [(.ref (ad 2)), (.int (2 : Int32)), (.ref b1), (.ref b1)])) rfl rfl (hb hby at_22)
  have ch23 : ∀ t, Steps p.tables e below (T22.setTop (mkF m 23 #[.val (.int p1), .unset, .unset, .unset, .unset, .unset, .unset, .unset] [(.ref b1)])) t → Steps p.tables e below (s₁.setTop (entryFrame m #[(.int p1)] maxLocals)) t := fun t k => ch19 t (by
      show Steps p.tables e below (T18.setTop (mkF m 22 #[.val (.int p1), .unset, .unset, .unset, .unset, .unset, .unset, .unset] [(.ref (ad 2)), (.int (2 : Int32)), (.ref b1), (.ref b1)])) t
      exact st22 t k)
  have V22 : Arv Z hp22 b1 k1 (.object own_V) (8 : Int32) [(.ref (ad 0)), (.ref (ad 1)), (.ref (ad 2)), .null, .null, .null, .null, .null] .null := Arv.set Ar20 qq20 Sz20 Ng20 Ha20 Ga20 rfl W22 2 rfl (Nat.le_of_ble_eq_true rfl)
  have N22 := Fr.snoc X22 N15 g_b1
  have Kp22 := Keep.wr Kp15 W22 (Or.inr sz_b1)
  have cf24 := (own_sta_keep (own_S_NO_MATCH_IDENTITY W) Kp22 all0)
  obtain ⟨T25, X25, e25, st25⟩ := getS2 X22 hx hZ hown (host := "") (Or.inl (hw _ (List.mem_of_getElem? (i := 10) rfl))) Via.refl e22 cf24 (g := (mkF m 25 #[.val (.int p1), .unset, .unset, .unset, .unset, .unset, .unset, .unset] [(.int (3 : Int32)), (.ref b1), (.ref b1)])) rfl (hb hby at_25)
  have ch26 : ∀ t, Steps p.tables e below (T25.setTop (mkF m 28 #[.val (.int p1), .unset, .unset, .unset, .unset, .unset, .unset, .unset] [(.ref (ad 3)), (.int (3 : Int32)), (.ref b1), (.ref b1)])) t → Steps p.tables e below (s₁.setTop (entryFrame m #[(.int p1)] maxLocals)) t := fun t k => ch23 t (by
      show Steps p.tables e below (T22.setTop (mkF m 23 #[.val (.int p1), .unset, .unset, .unset, .unset, .unset, .unset, .unset] [(.ref b1)])) t
      refine XS.dup X22.here hx rfl (hb hby at_23) rfl rfl ?_
      show Steps p.tables e below (T22.setTop (mkF m 24 #[.val (.int p1), .unset, .unset, .unset, .unset, .unset, .unset, .unset] [(.ref b1), (.ref b1)])) t
      refine XS.iconst X22.here hx rfl (hb hby at_24) ?_
      show Steps p.tables e below (T22.setTop (mkF m 25 #[.val (.int p1), .unset, .unset, .unset, .unset, .unset, .unset, .unset] [(.int (3 : Int32)), (.ref b1), (.ref b1)])) t
      exact st25 t k)
  obtain ⟨cl27, Ar27, qq27, Sz27, Ng27, Ha27, Ga27⟩ := id V22
  have hin27 : ¬ ((3 : Int32) < 0 ∨ cl27.slots.size ≤ ((3 : Int32)).toNatClampNeg) := inb_of Sz27 (by decide)
  have cf28 := (Exa.keep (own_E_NO_MATCH_IDENTITY W) Kp22)
  obtain ⟨T29, hp29, X29, e29, W29, st29⟩ := stR X25 hx hZ e25 Ar27 (j := (3 : Int32)) hin27 rfl (Sto.ofV Ar27 qq27 O1 (Ins.self cf28)) (g := (mkF m 28 #[.val (.int p1), .unset, .unset, .unset, .unset, .unset, .unset, .unset] [(.ref (ad 3)), (.int (3 : Int32)), (.ref b1), (.ref b1)])) rfl rfl (hb hby at_28)
  have ch30 : ∀ t, Steps p.tables e below (T29.setTop (mkF m 29 #[.val (.int p1), .unset, .unset, .unset, .unset, .unset, .unset, .unset] [(.ref b1)])) t → Steps p.tables e below (s₁.setTop (entryFrame m #[(.int p1)] maxLocals)) t := fun t k => ch26 t (by
      show Steps p.tables e below (T25.setTop (mkF m 28 #[.val (.int p1), .unset, .unset, .unset, .unset, .unset, .unset, .unset] [(.ref (ad 3)), (.int (3 : Int32)), (.ref b1), (.ref b1)])) t
      exact st29 t k)
  have V29 : Arv Z hp29 b1 k1 (.object own_V) (8 : Int32) [(.ref (ad 0)), (.ref (ad 1)), (.ref (ad 2)), (.ref (ad 3)), .null, .null, .null, .null] .null := Arv.set Ar27 qq27 Sz27 Ng27 Ha27 Ga27 rfl W29 3 rfl (Nat.le_of_ble_eq_true rfl)
  have N29 := Fr.snoc X29 N22 g_b1
  have Kp29 := Keep.wr Kp22 W29 (Or.inr sz_b1)
  have cf31 := (own_sta_keep (own_S_NO_MATCH_CALENDAR W) Kp29 all0)
  obtain ⟨T32, X32, e32, st32⟩ := getS2 X29 hx hZ hown (host := "") (Or.inl (hw _ (List.mem_of_getElem? (i := 12) rfl))) Via.refl e29 cf31 (g := (mkF m 31 #[.val (.int p1), .unset, .unset, .unset, .unset, .unset, .unset, .unset] [(.int (4 : Int32)), (.ref b1), (.ref b1)])) rfl (hb hby at_31)
  have ch33 : ∀ t, Steps p.tables e below (T32.setTop (mkF m 34 #[.val (.int p1), .unset, .unset, .unset, .unset, .unset, .unset, .unset] [(.ref (ad 4)), (.int (4 : Int32)), (.ref b1), (.ref b1)])) t → Steps p.tables e below (s₁.setTop (entryFrame m #[(.int p1)] maxLocals)) t := fun t k => ch30 t (by
      show Steps p.tables e below (T29.setTop (mkF m 29 #[.val (.int p1), .unset, .unset, .unset, .unset, .unset, .unset, .unset] [(.ref b1)])) t
      refine XS.dup X29.here hx rfl (hb hby at_29) rfl rfl ?_
      show Steps p.tables e below (T29.setTop (mkF m 30 #[.val (.int p1), .unset, .unset, .unset, .unset, .unset, .unset, .unset] [(.ref b1), (.ref b1)])) t
      refine XS.iconst X29.here hx rfl (hb hby at_30) ?_
      show Steps p.tables e below (T29.setTop (mkF m 31 #[.val (.int p1), .unset, .unset, .unset, .unset, .unset, .unset, .unset] [(.int (4 : Int32)), (.ref b1), (.ref b1)])) t
      exact st32 t k)
  obtain ⟨cl34, Ar34, qq34, Sz34, Ng34, Ha34, Ga34⟩ := id V29
  have hin34 : ¬ ((4 : Int32) < 0 ∨ cl34.slots.size ≤ ((4 : Int32)).toNatClampNeg) := inb_of Sz34 (by decide)
  have cf35 := (Exa.keep (own_E_NO_MATCH_CALENDAR W) Kp29)
  obtain ⟨T36, hp36, X36, e36, W36, st36⟩ := stR X32 hx hZ e32 Ar34 (j := (4 : Int32)) hin34 rfl (Sto.ofV Ar34 qq34 O1 (Ins.self cf35)) (g := (mkF m 34 #[.val (.int p1), .unset, .unset, .unset, .unset, .unset, .unset, .unset] [(.ref (ad 4)), (.int (4 : Int32)), (.ref b1), (.ref b1)])) rfl rfl (hb hby at_34)
  have ch37 : ∀ t, Steps p.tables e below (T36.setTop (mkF m 35 #[.val (.int p1), .unset, .unset, .unset, .unset, .unset, .unset, .unset] [(.ref b1)])) t → Steps p.tables e below (s₁.setTop (entryFrame m #[(.int p1)] maxLocals)) t := fun t k => ch33 t (by
      show Steps p.tables e below (T32.setTop (mkF m 34 #[.val (.int p1), .unset, .unset, .unset, .unset, .unset, .unset, .unset] [(.ref (ad 4)), (.int (4 : Int32)), (.ref b1), (.ref b1)])) t
      exact st36 t k)
  have V36 : Arv Z hp36 b1 k1 (.object own_V) (8 : Int32) [(.ref (ad 0)), (.ref (ad 1)), (.ref (ad 2)), (.ref (ad 3)), (.ref (ad 4)), .null, .null, .null] .null := Arv.set Ar34 qq34 Sz34 Ng34 Ha34 Ga34 rfl W36 4 rfl (Nat.le_of_ble_eq_true rfl)
  have N36 := Fr.snoc X36 N29 g_b1
  have Kp36 := Keep.wr Kp29 W36 (Or.inr sz_b1)
  have cf38 := (own_sta_keep (own_S_MATCHED W) Kp36 all0)
  obtain ⟨T39, X39, e39, st39⟩ := getS2 X36 hx hZ hown (host := "") (Or.inl (hw _ (List.mem_of_getElem? (i := 14) rfl))) Via.refl e36 cf38 (g := (mkF m 37 #[.val (.int p1), .unset, .unset, .unset, .unset, .unset, .unset, .unset] [(.int (5 : Int32)), (.ref b1), (.ref b1)])) rfl (hb hby at_37)
  have ch40 : ∀ t, Steps p.tables e below (T39.setTop (mkF m 40 #[.val (.int p1), .unset, .unset, .unset, .unset, .unset, .unset, .unset] [(.ref (ad 5)), (.int (5 : Int32)), (.ref b1), (.ref b1)])) t → Steps p.tables e below (s₁.setTop (entryFrame m #[(.int p1)] maxLocals)) t := fun t k => ch37 t (by
      show Steps p.tables e below (T36.setTop (mkF m 35 #[.val (.int p1), .unset, .unset, .unset, .unset, .unset, .unset, .unset] [(.ref b1)])) t
      refine XS.dup X36.here hx rfl (hb hby at_35) rfl rfl ?_
      show Steps p.tables e below (T36.setTop (mkF m 36 #[.val (.int p1), .unset, .unset, .unset, .unset, .unset, .unset, .unset] [(.ref b1), (.ref b1)])) t
      refine XS.iconst X36.here hx rfl (hb hby at_36) ?_
      show Steps p.tables e below (T36.setTop (mkF m 37 #[.val (.int p1), .unset, .unset, .unset, .unset, .unset, .unset, .unset] [(.int (5 : Int32)), (.ref b1), (.ref b1)])) t
      exact st39 t k)
  obtain ⟨cl41, Ar41, qq41, Sz41, Ng41, Ha41, Ga41⟩ := id V36
  have hin41 : ¬ ((5 : Int32) < 0 ∨ cl41.slots.size ≤ ((5 : Int32)).toNatClampNeg) := inb_of Sz41 (by decide)
  have cf42 := (Exa.keep (own_E_MATCHED W) Kp36)
  obtain ⟨T43, hp43, X43, e43, W43, st43⟩ := stR X39 hx hZ e39 Ar41 (j := (5 : Int32)) hin41 rfl (Sto.ofV Ar41 qq41 O1 (Ins.self cf42)) (g := (mkF m 40 #[.val (.int p1), .unset, .unset, .unset, .unset, .unset, .unset, .unset] [(.ref (ad 5)), (.int (5 : Int32)), (.ref b1), (.ref b1)])) rfl rfl (hb hby at_40)
  have ch44 : ∀ t, Steps p.tables e below (T43.setTop (mkF m 41 #[.val (.int p1), .unset, .unset, .unset, .unset, .unset, .unset, .unset] [(.ref b1)])) t → Steps p.tables e below (s₁.setTop (entryFrame m #[(.int p1)] maxLocals)) t := fun t k => ch40 t (by
      show Steps p.tables e below (T39.setTop (mkF m 40 #[.val (.int p1), .unset, .unset, .unset, .unset, .unset, .unset, .unset] [(.ref (ad 5)), (.int (5 : Int32)), (.ref b1), (.ref b1)])) t
      exact st43 t k)
  have V43 : Arv Z hp43 b1 k1 (.object own_V) (8 : Int32) [(.ref (ad 0)), (.ref (ad 1)), (.ref (ad 2)), (.ref (ad 3)), (.ref (ad 4)), (.ref (ad 5)), .null, .null] .null := Arv.set Ar41 qq41 Sz41 Ng41 Ha41 Ga41 rfl W43 5 rfl (Nat.le_of_ble_eq_true rfl)
  have N43 := Fr.snoc X43 N36 g_b1
  have Kp43 := Keep.wr Kp36 W43 (Or.inr sz_b1)
  have cf45 := (own_sta_keep (own_S_RETAINED W) Kp43 all0)
  obtain ⟨T46, X46, e46, st46⟩ := getS2 X43 hx hZ hown (host := "") (Or.inl (hw _ (List.mem_of_getElem? (i := 16) rfl))) Via.refl e43 cf45 (g := (mkF m 44 #[.val (.int p1), .unset, .unset, .unset, .unset, .unset, .unset, .unset] [(.int (6 : Int32)), (.ref b1), (.ref b1)])) rfl (hb hby at_44)
  have ch47 : ∀ t, Steps p.tables e below (T46.setTop (mkF m 47 #[.val (.int p1), .unset, .unset, .unset, .unset, .unset, .unset, .unset] [(.ref (ad 6)), (.int (6 : Int32)), (.ref b1), (.ref b1)])) t → Steps p.tables e below (s₁.setTop (entryFrame m #[(.int p1)] maxLocals)) t := fun t k => ch44 t (by
      show Steps p.tables e below (T43.setTop (mkF m 41 #[.val (.int p1), .unset, .unset, .unset, .unset, .unset, .unset, .unset] [(.ref b1)])) t
      refine XS.dup X43.here hx rfl (hb hby at_41) rfl rfl ?_
      show Steps p.tables e below (T43.setTop (mkF m 42 #[.val (.int p1), .unset, .unset, .unset, .unset, .unset, .unset, .unset] [(.ref b1), (.ref b1)])) t
      refine XS.bipush X43.here hx rfl (hb hby at_42) ?_
      show Steps p.tables e below (T43.setTop (mkF m 44 #[.val (.int p1), .unset, .unset, .unset, .unset, .unset, .unset, .unset] [(.int (6 : Int32)), (.ref b1), (.ref b1)])) t
      exact st46 t k)
  obtain ⟨cl48, Ar48, qq48, Sz48, Ng48, Ha48, Ga48⟩ := id V43
  have hin48 : ¬ ((6 : Int32) < 0 ∨ cl48.slots.size ≤ ((6 : Int32)).toNatClampNeg) := inb_of Sz48 (by decide)
  have cf49 := (Exa.keep (own_E_RETAINED W) Kp43)
  obtain ⟨T50, hp50, X50, e50, W50, st50⟩ := stR X46 hx hZ e46 Ar48 (j := (6 : Int32)) hin48 rfl (Sto.ofV Ar48 qq48 O1 (Ins.self cf49)) (g := (mkF m 47 #[.val (.int p1), .unset, .unset, .unset, .unset, .unset, .unset, .unset] [(.ref (ad 6)), (.int (6 : Int32)), (.ref b1), (.ref b1)])) rfl rfl (hb hby at_47)
  have ch51 : ∀ t, Steps p.tables e below (T50.setTop (mkF m 48 #[.val (.int p1), .unset, .unset, .unset, .unset, .unset, .unset, .unset] [(.ref b1)])) t → Steps p.tables e below (s₁.setTop (entryFrame m #[(.int p1)] maxLocals)) t := fun t k => ch47 t (by
      show Steps p.tables e below (T46.setTop (mkF m 47 #[.val (.int p1), .unset, .unset, .unset, .unset, .unset, .unset, .unset] [(.ref (ad 6)), (.int (6 : Int32)), (.ref b1), (.ref b1)])) t
      exact st50 t k)
  have V50 : Arv Z hp50 b1 k1 (.object own_V) (8 : Int32) [(.ref (ad 0)), (.ref (ad 1)), (.ref (ad 2)), (.ref (ad 3)), (.ref (ad 4)), (.ref (ad 5)), (.ref (ad 6)), .null] .null := Arv.set Ar48 qq48 Sz48 Ng48 Ha48 Ga48 rfl W50 6 rfl (Nat.le_of_ble_eq_true rfl)
  have N50 := Fr.snoc X50 N43 g_b1
  have Kp50 := Keep.wr Kp43 W50 (Or.inr sz_b1)
  have cf52 := (own_sta_keep (own_S_DROPPED_BY_BEST_MATCH W) Kp50 all0)
  obtain ⟨T53, X53, e53, st53⟩ := getS2 X50 hx hZ hown (host := "") (Or.inl (hw _ (List.mem_of_getElem? (i := 18) rfl))) Via.refl e50 cf52 (g := (mkF m 51 #[.val (.int p1), .unset, .unset, .unset, .unset, .unset, .unset, .unset] [(.int (7 : Int32)), (.ref b1), (.ref b1)])) rfl (hb hby at_51)
  have ch54 : ∀ t, Steps p.tables e below (T53.setTop (mkF m 54 #[.val (.int p1), .unset, .unset, .unset, .unset, .unset, .unset, .unset] [(.ref (ad 7)), (.int (7 : Int32)), (.ref b1), (.ref b1)])) t → Steps p.tables e below (s₁.setTop (entryFrame m #[(.int p1)] maxLocals)) t := fun t k => ch51 t (by
      show Steps p.tables e below (T50.setTop (mkF m 48 #[.val (.int p1), .unset, .unset, .unset, .unset, .unset, .unset, .unset] [(.ref b1)])) t
      refine XS.dup X50.here hx rfl (hb hby at_48) rfl rfl ?_
      show Steps p.tables e below (T50.setTop (mkF m 49 #[.val (.int p1), .unset, .unset, .unset, .unset, .unset, .unset, .unset] [(.ref b1), (.ref b1)])) t
      refine XS.bipush X50.here hx rfl (hb hby at_49) ?_
      show Steps p.tables e below (T50.setTop (mkF m 51 #[.val (.int p1), .unset, .unset, .unset, .unset, .unset, .unset, .unset] [(.int (7 : Int32)), (.ref b1), (.ref b1)])) t
      exact st53 t k)
  obtain ⟨cl55, Ar55, qq55, Sz55, Ng55, Ha55, Ga55⟩ := id V50
  have hin55 : ¬ ((7 : Int32) < 0 ∨ cl55.slots.size ≤ ((7 : Int32)).toNatClampNeg) := inb_of Sz55 (by decide)
  have cf56 := (Exa.keep (own_E_DROPPED_BY_BEST_MATCH W) Kp50)
  obtain ⟨T57, hp57, X57, e57, W57, st57⟩ := stR X53 hx hZ e53 Ar55 (j := (7 : Int32)) hin55 rfl (Sto.ofV Ar55 qq55 O1 (Ins.self cf56)) (g := (mkF m 54 #[.val (.int p1), .unset, .unset, .unset, .unset, .unset, .unset, .unset] [(.ref (ad 7)), (.int (7 : Int32)), (.ref b1), (.ref b1)])) rfl rfl (hb hby at_54)
  have ch58 : ∀ t, Steps p.tables e below (T57.setTop (mkF m 55 #[.val (.int p1), .unset, .unset, .unset, .unset, .unset, .unset, .unset] [(.ref b1)])) t → Steps p.tables e below (s₁.setTop (entryFrame m #[(.int p1)] maxLocals)) t := fun t k => ch54 t (by
      show Steps p.tables e below (T53.setTop (mkF m 54 #[.val (.int p1), .unset, .unset, .unset, .unset, .unset, .unset, .unset] [(.ref (ad 7)), (.int (7 : Int32)), (.ref b1), (.ref b1)])) t
      exact st57 t k)
  have V57 : Arv Z hp57 b1 k1 (.object own_V) (8 : Int32) [(.ref (ad 0)), (.ref (ad 1)), (.ref (ad 2)), (.ref (ad 3)), (.ref (ad 4)), (.ref (ad 5)), (.ref (ad 6)), (.ref (ad 7))] .null := Arv.set Ar55 qq55 Sz55 Ng55 Ha55 Ga55 rfl W57 7 rfl (Nat.le_of_ble_eq_true rfl)
  have N57 := Fr.snoc X57 N50 g_b1
  have Kp57 := Keep.wr Kp50 W57 (Or.inr sz_b1)
  obtain ⟨cl59, Ar59, -, Sz59, Ng59, Ha59, -⟩ := id V57
  have hin59 : ¬ ((2 : Int32) < 0 ∨ cl59.slots.size ≤ ((2 : Int32)).toNatClampNeg) := inb_of Sz59 (by decide)
  have hat59 : cl59.slots[((2 : Int32)).toNatClampNeg]? = some (.ref (ad 2)) := Ha59.at hin59 rfl
  have cf61 := (Exa.wr W57 (Exa.wr W50 (Exa.wr W43 (Exa.wr W36 (Exa.wr W29 (Exa.wr W22 cf21))))))
  obtain ⟨cq60, kq60, qa60, qb60, qc60⟩ := isOf hZ e57 cf61
  obtain ⟨vv62, _, ⟨T62, L62, kk62, nn62⟩, -, X62, ⟨Lc62, hQ62, l62, y62, z62⟩, st62⟩ := X57.virtualBack hx (y := (⟨own_V, "missesEverySubject", "()Z"⟩ : MethodName)) (z := (⟨own_V, "missesEverySubject", "()Z"⟩ : MethodName)) hown (mvT hZ (hw _ (List.mem_of_getElem? (i := 20) rfl))) (mvT hZ (hw _ (List.mem_of_getElem? (i := 21) rfl))) (notFace_of_selects (args := #[]) (mvT hZ (hw _ (List.mem_of_getElem? (i := 23) rfl)))) (mvT hZ (hw _ (List.mem_of_getElem? (i := 23) rfl))) (mvT hZ (hw _ (List.mem_of_getElem? (i := 22) rfl))) (by decide) (backOf (W := 0) (own_miss_2 l Z a0 hw [] hp57 n0 (Nat.le_trans Z0 Kp57.1) ad (own_Wd_ext W (own_ext_of_keep Kp57 all0))) hZ (hw _ (List.mem_of_getElem? (i := 24) rfl)) (hw _ (List.mem_of_getElem? (i := 3) rfl)) (by decide) (by decide)) qa60 qc60 (g := (mkF m 107 #[.val (.int p1), .val (.ref b1), .val (.int (2 : Int32)), .val (.ref (ad 2)), .val (.int (1 : Int32)), .val (.int (0 : Int32)), .val (.int (1 : Int32)), .unset] [(.ref (ad 2))])) rfl (by rw [hml]; rfl) (Steps.refl _) (argsL := []) (rest := []) (lenOf own_pd___Z rfl) rfl (by show 2 * 0 + _ ≤ _; exact Nat.le_of_eq rfl) (hb hby at_107) (fun _ _ => ⟨rfl, e57, (by decide : 1 + 0 ≤ _), (by decide : 8 + 0 ≤ _)⟩)
  dsimp only [Pt.U, Pt.locs, Pt.cells, Pt.slots] at X62 l62 y62 z62 st62 hQ62
  subst l62 y62 z62
  obtain ⟨rfl, Nq62, e62⟩ := hQ62
  have N62 := Fr.app N57 Nq62
  have ch63 : ∀ t, Steps p.tables e below (T62.setTop (mkF m 110 #[.val (.int p1), .val (.ref b1), .val (.int (2 : Int32)), .val (.ref (ad 2)), .val (.int (1 : Int32)), .val (.int (0 : Int32)), .val (.int (1 : Int32)), .unset] [(.int (1 : Int32))])) t → Steps p.tables e below (s₁.setTop (entryFrame m #[(.int p1)] maxLocals)) t := fun t k => ch58 t (by
      show Steps p.tables e below (T57.setTop (mkF m 55 #[.val (.int p1), .unset, .unset, .unset, .unset, .unset, .unset, .unset] [(.ref b1)])) t
      refine XS.astoreN X57.here hx rfl (hb hby at_55) rfl rfl (l' := #[.val (.int p1), .val (.ref b1), .unset, .unset, .unset, .unset, .unset, .unset]) rfl ?_
      show Steps p.tables e below (T57.setTop (mkF m 56 #[.val (.int p1), .val (.ref b1), .unset, .unset, .unset, .unset, .unset, .unset] [])) t
      refine XS.iloadN X57.here hx rfl (hb hby at_56) rfl ?_
      show Steps p.tables e below (T57.setTop (mkF m 57 #[.val (.int p1), .val (.ref b1), .unset, .unset, .unset, .unset, .unset, .unset] [(.int p1)])) t
      refine XS.bipush X57.here hx rfl (hb hby at_57) ?_
      show Steps p.tables e below (T57.setTop (mkF m 59 #[.val (.int p1), .val (.ref b1), .unset, .unset, .unset, .unset, .unset, .unset] [(.int (7 : Int32)), (.int p1)])) t
      refine XS.iand X57.here hx rfl (hb hby at_59) rfl ?_
      rw [hk]
      show Steps p.tables e below (T57.setTop (mkF m 60 #[.val (.int p1), .val (.ref b1), .unset, .unset, .unset, .unset, .unset, .unset] [(.int (2 : Int32))])) t
      refine XS.istoreN X57.here hx rfl (hb hby at_60) rfl (l' := #[.val (.int p1), .val (.ref b1), .val (.int (2 : Int32)), .unset, .unset, .unset, .unset, .unset]) rfl ?_
      show Steps p.tables e below (T57.setTop (mkF m 61 #[.val (.int p1), .val (.ref b1), .val (.int (2 : Int32)), .unset, .unset, .unset, .unset, .unset] [])) t
      refine XS.aloadN X57.here hx rfl (hb hby at_61) rfl rfl ?_
      show Steps p.tables e below (T57.setTop (mkF m 62 #[.val (.int p1), .val (.ref b1), .val (.int (2 : Int32)), .unset, .unset, .unset, .unset, .unset] [(.ref b1)])) t
      refine XS.iloadN X57.here hx rfl (hb hby at_62) rfl ?_
      show Steps p.tables e below (T57.setTop (mkF m 63 #[.val (.int p1), .val (.ref b1), .val (.int (2 : Int32)), .unset, .unset, .unset, .unset, .unset] [(.int (2 : Int32)), (.ref b1)])) t
      refine X57.aaload hx (j := (2 : Int32)) (v := (.ref (ad 2))) (by rw [e57]; exact Ar59.1) (State.isArrayOf_alike hZ.alike Ar59.2.1) rfl Ar59.2.2 hin59 hat59 (g := (mkF m 63 #[.val (.int p1), .val (.ref b1), .val (.int (2 : Int32)), .unset, .unset, .unset, .unset, .unset] [(.int (2 : Int32)), (.ref b1)])) rfl rfl (hb hby at_63) _ ?_
      show Steps p.tables e below (T57.setTop (mkF m 64 #[.val (.int p1), .val (.ref b1), .val (.int (2 : Int32)), .unset, .unset, .unset, .unset, .unset] [(.ref (ad 2))])) t
      refine XS.astoreN X57.here hx rfl (hb hby at_64) rfl rfl (l' := #[.val (.int p1), .val (.ref b1), .val (.int (2 : Int32)), .val (.ref (ad 2)), .unset, .unset, .unset, .unset]) rfl ?_
      show Steps p.tables e below (T57.setTop (mkF m 65 #[.val (.int p1), .val (.ref b1), .val (.int (2 : Int32)), .val (.ref (ad 2)), .unset, .unset, .unset, .unset] [])) t
      refine XS.iloadN X57.here hx rfl (hb hby at_65) rfl ?_
      show Steps p.tables e below (T57.setTop (mkF m 66 #[.val (.int p1), .val (.ref b1), .val (.int (2 : Int32)), .val (.ref (ad 2)), .unset, .unset, .unset, .unset] [(.int (2 : Int32))])) t
      refine XS.iconst X57.here hx rfl (hb hby at_66) ?_
      show Steps p.tables e below (T57.setTop (mkF m 67 #[.val (.int p1), .val (.ref b1), .val (.int (2 : Int32)), .val (.ref (ad 2)), .unset, .unset, .unset, .unset] [(.int (5 : Int32)), (.int (2 : Int32))])) t
      refine XS.icmpNo X57.here hx rfl (hb hby at_67) rfl (tlt (by decide : (2 : Int32) < (5 : Int32))).2.1 ?_
      show Steps p.tables e below (T57.setTop (mkF m 70 #[.val (.int p1), .val (.ref b1), .val (.int (2 : Int32)), .val (.ref (ad 2)), .unset, .unset, .unset, .unset] [])) t
      refine XS.iconst X57.here hx rfl (hb hby at_70) ?_
      show Steps p.tables e below (T57.setTop (mkF m 71 #[.val (.int p1), .val (.ref b1), .val (.int (2 : Int32)), .val (.ref (ad 2)), .unset, .unset, .unset, .unset] [(.int (1 : Int32))])) t
      refine XS.goto X57.here hx rfl (pc0 := 71) (pc' := 75) rfl (hb hby at_71) (by decide) (by decide) ?_
      show Steps p.tables e below (T57.setTop (mkF m 75 #[.val (.int p1), .val (.ref b1), .val (.int (2 : Int32)), .val (.ref (ad 2)), .unset, .unset, .unset, .unset] [(.int (1 : Int32))])) t
      refine XS.istore X57.here hx rfl (hb hby at_75) rfl (l' := #[.val (.int p1), .val (.ref b1), .val (.int (2 : Int32)), .val (.ref (ad 2)), .val (.int (1 : Int32)), .unset, .unset, .unset]) rfl ?_
      show Steps p.tables e below (T57.setTop (mkF m 77 #[.val (.int p1), .val (.ref b1), .val (.int (2 : Int32)), .val (.ref (ad 2)), .val (.int (1 : Int32)), .unset, .unset, .unset] [])) t
      refine XS.iloadN X57.here hx rfl (hb hby at_77) rfl ?_
      show Steps p.tables e below (T57.setTop (mkF m 78 #[.val (.int p1), .val (.ref b1), .val (.int (2 : Int32)), .val (.ref (ad 2)), .val (.int (1 : Int32)), .unset, .unset, .unset] [(.int (2 : Int32))])) t
      refine XS.iconst X57.here hx rfl (hb hby at_78) ?_
      show Steps p.tables e below (T57.setTop (mkF m 79 #[.val (.int p1), .val (.ref b1), .val (.int (2 : Int32)), .val (.ref (ad 2)), .val (.int (1 : Int32)), .unset, .unset, .unset] [(.int (3 : Int32)), (.int (2 : Int32))])) t
      refine XS.icmpYes X57.here hx rfl (pc0 := 79) (pc' := 86) rfl (hb hby at_79) rfl (feq (by decide : ¬ (2 : Int32) = (3 : Int32))).2 (by decide) (by decide) ?_
      show Steps p.tables e below (T57.setTop (mkF m 86 #[.val (.int p1), .val (.ref b1), .val (.int (2 : Int32)), .val (.ref (ad 2)), .val (.int (1 : Int32)), .unset, .unset, .unset] [])) t
      refine XS.iconst X57.here hx rfl (hb hby at_86) ?_
      show Steps p.tables e below (T57.setTop (mkF m 87 #[.val (.int p1), .val (.ref b1), .val (.int (2 : Int32)), .val (.ref (ad 2)), .val (.int (1 : Int32)), .unset, .unset, .unset] [(.int (0 : Int32))])) t
      refine XS.istore X57.here hx rfl (hb hby at_87) rfl (l' := #[.val (.int p1), .val (.ref b1), .val (.int (2 : Int32)), .val (.ref (ad 2)), .val (.int (1 : Int32)), .val (.int (0 : Int32)), .unset, .unset]) rfl ?_
      show Steps p.tables e below (T57.setTop (mkF m 89 #[.val (.int p1), .val (.ref b1), .val (.int (2 : Int32)), .val (.ref (ad 2)), .val (.int (1 : Int32)), .val (.int (0 : Int32)), .unset, .unset] [])) t
      refine XS.iload X57.here hx rfl (hb hby at_89) rfl ?_
      show Steps p.tables e below (T57.setTop (mkF m 91 #[.val (.int p1), .val (.ref b1), .val (.int (2 : Int32)), .val (.ref (ad 2)), .val (.int (1 : Int32)), .val (.int (0 : Int32)), .unset, .unset] [(.int (1 : Int32))])) t
      refine XS.ifNo X57.here hx rfl (hb hby at_91) rfl ((if0 _ _).trans (feq (by decide : ¬ (1 : Int32) = (0 : Int32))).1) ?_
      show Steps p.tables e below (T57.setTop (mkF m 94 #[.val (.int p1), .val (.ref b1), .val (.int (2 : Int32)), .val (.ref (ad 2)), .val (.int (1 : Int32)), .val (.int (0 : Int32)), .unset, .unset] [])) t
      refine XS.iload X57.here hx rfl (hb hby at_94) rfl ?_
      show Steps p.tables e below (T57.setTop (mkF m 96 #[.val (.int p1), .val (.ref b1), .val (.int (2 : Int32)), .val (.ref (ad 2)), .val (.int (1 : Int32)), .val (.int (0 : Int32)), .unset, .unset] [(.int (0 : Int32))])) t
      refine XS.ifNo X57.here hx rfl (hb hby at_96) rfl ((if0 _ _).trans (teq (by decide : (0 : Int32) = (0 : Int32))).2) ?_
      show Steps p.tables e below (T57.setTop (mkF m 99 #[.val (.int p1), .val (.ref b1), .val (.int (2 : Int32)), .val (.ref (ad 2)), .val (.int (1 : Int32)), .val (.int (0 : Int32)), .unset, .unset] [])) t
      refine XS.iconst X57.here hx rfl (hb hby at_99) ?_
      show Steps p.tables e below (T57.setTop (mkF m 100 #[.val (.int p1), .val (.ref b1), .val (.int (2 : Int32)), .val (.ref (ad 2)), .val (.int (1 : Int32)), .val (.int (0 : Int32)), .unset, .unset] [(.int (1 : Int32))])) t
      refine XS.goto X57.here hx rfl (pc0 := 100) (pc' := 104) rfl (hb hby at_100) (by decide) (by decide) ?_
      show Steps p.tables e below (T57.setTop (mkF m 104 #[.val (.int p1), .val (.ref b1), .val (.int (2 : Int32)), .val (.ref (ad 2)), .val (.int (1 : Int32)), .val (.int (0 : Int32)), .unset, .unset] [(.int (1 : Int32))])) t
      refine XS.istore X57.here hx rfl (hb hby at_104) rfl (l' := #[.val (.int p1), .val (.ref b1), .val (.int (2 : Int32)), .val (.ref (ad 2)), .val (.int (1 : Int32)), .val (.int (0 : Int32)), .val (.int (1 : Int32)), .unset]) rfl ?_
      show Steps p.tables e below (T57.setTop (mkF m 106 #[.val (.int p1), .val (.ref b1), .val (.int (2 : Int32)), .val (.ref (ad 2)), .val (.int (1 : Int32)), .val (.int (0 : Int32)), .val (.int (1 : Int32)), .unset] [])) t
      refine XS.aloadN X57.here hx rfl (hb hby at_106) rfl rfl ?_
      show Steps p.tables e below (T57.setTop (mkF m 107 #[.val (.int p1), .val (.ref b1), .val (.int (2 : Int32)), .val (.ref (ad 2)), .val (.int (1 : Int32)), .val (.int (0 : Int32)), .val (.int (1 : Int32)), .unset] [(.ref (ad 2))])) t
      exact st62.trans k)
  obtain ⟨cq64, kq64, qa64, qb64, qc64⟩ := isOf hZ e62 cf61
  obtain ⟨vv65, _, ⟨T65, L65, kk65, nn65⟩, -, X65, ⟨Lc65, hQ65, l65, y65, z65⟩, st65⟩ := X62.virtualBack hx (y := (⟨own_V, "applies", "()Z"⟩ : MethodName)) (z := (⟨own_V, "applies", "()Z"⟩ : MethodName)) hown (mvT hZ (hw _ (List.mem_of_getElem? (i := 26) rfl))) (mvT hZ (hw _ (List.mem_of_getElem? (i := 27) rfl))) (notFace_of_selects (args := #[]) (mvT hZ (hw _ (List.mem_of_getElem? (i := 29) rfl)))) (mvT hZ (hw _ (List.mem_of_getElem? (i := 29) rfl))) (mvT hZ (hw _ (List.mem_of_getElem? (i := 28) rfl))) (by decide) (backOf (W := 0) (own_appl_2 l Z a0 hw [] hp57 n0 (Nat.le_trans Z0 Kp57.1) ad (own_Wd_ext W (own_ext_of_keep Kp57 all0))) hZ (hw _ (List.mem_of_getElem? (i := 30) rfl)) (hw _ (List.mem_of_getElem? (i := 3) rfl)) (by decide) (by decide)) qa64 qc64 (g := (mkF m 127 #[.val (.int p1), .val (.ref b1), .val (.int (2 : Int32)), .val (.ref (ad 2)), .val (.int (1 : Int32)), .val (.int (0 : Int32)), .val (.int (1 : Int32)), .val (.int (1 : Int32))] [(.ref (ad 2))])) rfl (by rw [hml]; rfl) (Steps.refl _) (argsL := []) (rest := []) (lenOf own_pd___Z rfl) rfl (by show 2 * 0 + _ ≤ _; exact Nat.le_of_eq rfl) (hb hby at_127) (fun _ _ => ⟨rfl, e62, (by decide : 1 + 0 ≤ _), (by decide : 8 + 0 ≤ _)⟩)
  dsimp only [Pt.U, Pt.locs, Pt.cells, Pt.slots] at X65 l65 y65 z65 st65 hQ65
  subst l65 y65 z65
  obtain ⟨rfl, Nq65, e65⟩ := hQ65
  have N65 := Fr.app N62 Nq65
  have ch66 : ∀ t, Steps p.tables e below (T65.setTop (mkF m 130 #[.val (.int p1), .val (.ref b1), .val (.int (2 : Int32)), .val (.ref (ad 2)), .val (.int (1 : Int32)), .val (.int (0 : Int32)), .val (.int (1 : Int32)), .val (.int (1 : Int32))] [(.int (0 : Int32))])) t → Steps p.tables e below (s₁.setTop (entryFrame m #[(.int p1)] maxLocals)) t := fun t k => ch63 t (by
      show Steps p.tables e below (T62.setTop (mkF m 110 #[.val (.int p1), .val (.ref b1), .val (.int (2 : Int32)), .val (.ref (ad 2)), .val (.int (1 : Int32)), .val (.int (0 : Int32)), .val (.int (1 : Int32)), .unset] [(.int (1 : Int32))])) t
      refine XS.istore X62.here hx rfl (hb hby at_110) rfl (l' := #[.val (.int p1), .val (.ref b1), .val (.int (2 : Int32)), .val (.ref (ad 2)), .val (.int (1 : Int32)), .val (.int (0 : Int32)), .val (.int (1 : Int32)), .val (.int (1 : Int32))]) rfl ?_
      show Steps p.tables e below (T62.setTop (mkF m 112 #[.val (.int p1), .val (.ref b1), .val (.int (2 : Int32)), .val (.ref (ad 2)), .val (.int (1 : Int32)), .val (.int (0 : Int32)), .val (.int (1 : Int32)), .val (.int (1 : Int32))] [])) t
      refine XS.iload X62.here hx rfl (hb hby at_112) rfl ?_
      show Steps p.tables e below (T62.setTop (mkF m 114 #[.val (.int p1), .val (.ref b1), .val (.int (2 : Int32)), .val (.ref (ad 2)), .val (.int (1 : Int32)), .val (.int (0 : Int32)), .val (.int (1 : Int32)), .val (.int (1 : Int32))] [(.int (1 : Int32))])) t
      refine XS.iload X62.here hx rfl (hb hby at_114) rfl ?_
      show Steps p.tables e below (T62.setTop (mkF m 116 #[.val (.int p1), .val (.ref b1), .val (.int (2 : Int32)), .val (.ref (ad 2)), .val (.int (1 : Int32)), .val (.int (0 : Int32)), .val (.int (1 : Int32)), .val (.int (1 : Int32))] [(.int (1 : Int32)), (.int (1 : Int32))])) t
      refine XS.icmpYes X62.here hx rfl (pc0 := 116) (pc' := 121) rfl (hb hby at_116) rfl (teq (by decide : (1 : Int32) = (1 : Int32))).1 (by decide) (by decide) ?_
      show Steps p.tables e below (T62.setTop (mkF m 121 #[.val (.int p1), .val (.ref b1), .val (.int (2 : Int32)), .val (.ref (ad 2)), .val (.int (1 : Int32)), .val (.int (0 : Int32)), .val (.int (1 : Int32)), .val (.int (1 : Int32))] [])) t
      refine XS.iload X62.here hx rfl (hb hby at_121) rfl ?_
      show Steps p.tables e below (T62.setTop (mkF m 123 #[.val (.int p1), .val (.ref b1), .val (.int (2 : Int32)), .val (.ref (ad 2)), .val (.int (1 : Int32)), .val (.int (0 : Int32)), .val (.int (1 : Int32)), .val (.int (1 : Int32))] [(.int (1 : Int32))])) t
      refine XS.ifNo X62.here hx rfl (hb hby at_123) rfl ((if0 _ _).trans (feq (by decide : ¬ (1 : Int32) = (0 : Int32))).1) ?_
      show Steps p.tables e below (T62.setTop (mkF m 126 #[.val (.int p1), .val (.ref b1), .val (.int (2 : Int32)), .val (.ref (ad 2)), .val (.int (1 : Int32)), .val (.int (0 : Int32)), .val (.int (1 : Int32)), .val (.int (1 : Int32))] [])) t
      refine XS.aloadN X62.here hx rfl (hb hby at_126) rfl rfl ?_
      show Steps p.tables e below (T62.setTop (mkF m 127 #[.val (.int p1), .val (.ref b1), .val (.int (2 : Int32)), .val (.ref (ad 2)), .val (.int (1 : Int32)), .val (.int (0 : Int32)), .val (.int (1 : Int32)), .val (.int (1 : Int32))] [(.ref (ad 2))])) t
      exact st65.trans k)
  have ch67 : ∀ t, Steps p.tables e below (T65.setTop (mkF m 138 #[.val (.int p1), .val (.ref b1), .val (.int (2 : Int32)), .val (.ref (ad 2)), .val (.int (1 : Int32)), .val (.int (0 : Int32)), .val (.int (1 : Int32)), .val (.int (1 : Int32))] [(.int (1 : Int32))])) t → Steps p.tables e below (s₁.setTop (entryFrame m #[(.int p1)] maxLocals)) t := fun t k => ch66 t (by
      show Steps p.tables e below (T65.setTop (mkF m 130 #[.val (.int p1), .val (.ref b1), .val (.int (2 : Int32)), .val (.ref (ad 2)), .val (.int (1 : Int32)), .val (.int (0 : Int32)), .val (.int (1 : Int32)), .val (.int (1 : Int32))] [(.int (0 : Int32))])) t
      refine XS.ifNo X65.here hx rfl (hb hby at_130) rfl ((if0 _ _).trans (teq (by decide : (0 : Int32) = (0 : Int32))).2) ?_
      show Steps p.tables e below (T65.setTop (mkF m 133 #[.val (.int p1), .val (.ref b1), .val (.int (2 : Int32)), .val (.ref (ad 2)), .val (.int (1 : Int32)), .val (.int (0 : Int32)), .val (.int (1 : Int32)), .val (.int (1 : Int32))] [])) t
      refine XS.iconst X65.here hx rfl (hb hby at_133) ?_
      show Steps p.tables e below (T65.setTop (mkF m 134 #[.val (.int p1), .val (.ref b1), .val (.int (2 : Int32)), .val (.ref (ad 2)), .val (.int (1 : Int32)), .val (.int (0 : Int32)), .val (.int (1 : Int32)), .val (.int (1 : Int32))] [(.int (1 : Int32))])) t
      refine XS.goto X65.here hx rfl (pc0 := 134) (pc' := 138) rfl (hb hby at_134) (by decide) (by decide) ?_
      exact k)
  obtain ⟨fs, hr, hrun, hended, hW, hsame⟩ := X65.leave (v := some (.int (1 : Int32))) (fun h => by rw [Bd.returns] at h; cases h)
  refine ⟨_, _, ch67 _ ?_, hrun, hended, _, _, rfl, ?_, ⟨_, rfl⟩, hW, hsame.mono (by decide) (by decide)⟩
  · show Steps p.tables e below (T65.setTop (mkF m 138 #[.val (.int p1), .val (.ref b1), .val (.int (2 : Int32)), .val (.ref (ad 2)), .val (.int (1 : Int32)), .val (.int (0 : Int32)), .val (.int (1 : Int32)), .val (.int (1 : Int32))] [(.int (1 : Int32))])) _
    exact retN X65 hx (t := .boolean) Bd.returns (by simp) (hb hby at_138) hr
  · show QN (some (.int (1 : Int32))) n0 _ T65.heap _
    rw [e65]
    exact ⟨rfl, N65⟩
theorem own_ef_own_miss_3 (m : MethodId) {x0 : Addr} : entryFrame m #[(.ref x0)] 1 = mkF m 0 #[.val (.ref x0)] [] := by first | (simp [entryFrame, mkF, argsToLocals, Value.category, maxLocals]; done) | rfl
set_option maxRecDepth 65536 in
set_option maxHeartbeats 40000000 in
theorem own_miss_3 (l : Launch) (Z : State) (a0 : Array Value) (hw : ∀ d ∈ tables_1, d.before a0 Z = true) (ws : List Jvm.Cond) (h0 : Heap) (n0 : Nat) (Z0 : n0 ≤ h0.size) (ad : Nat → Addr) (W : OwnWd Z h0 ad) :
    MetFree l (⟨own_V, "missesEverySubject", "()Z"⟩ : MethodName) (head1 (Jvm.Cond.code (⟨own_V, "missesEverySubject", "()Z"⟩ : MethodName) prog_34_method_6_code 1 (some .boolean) :: ws) ({ frames := 0, cells := 0, slots := 0, locals := 0 } : Room)) (fun a U => a = #[(.ref (ad 3))] ∧ Z.Warmed39 U.vm ∧ U.heap = h0) (fun _ _ _ _ _ => True) (fun _ U o U' => ∃ v L, o = .returned v ∧ QV (some (.int (0 : Int32))) h0 n0 v U'.heap L ∧ FrameEnd U o U' L ({ frames := 0, cells := 0, slots := 0, locals := 0 } : Room).cells ({ frames := 0, cells := 0, slots := 0, locals := 0 } : Room).slots) := by
  refine MetFree.of_bodySF (plainFor_of_name own_pn_own_Verdict) hisR ?_
  intro p e s m args below meth c s₁ Bd hml0 hP hK
  obtain ⟨rfl, hZ, hh⟩ := hP
  have hx := Bd.exec
  have hby := Bd.bytes
  have hml : c.maxLocals = 1 := hml0
  have hown : s.vm.findClass own_V = some m.cls := (findClass_of_methodNamed Bd.named :)
  have hnm := (name_of_methodNamed Bd.named Bd.method).1
  have X0 : Stand p l e ({ frames := 0, cells := 0, slots := 0, locals := 0 } : Room) s m #[(.ref (ad 3))] below meth c s₁ [] 0 0 := Stand.of_body Bd
  have e0 : s₁.heap = h0 := by rw [← hh, Bd.state]; rfl
  have N0 := Fr.nil n0
  have pre0 : ∀ t, Steps p.tables e below (s₁.setTop (mkF m 0 #[.val (.ref (ad 3))] [])) t → Steps p.tables e below (s₁.setTop (entryFrame m #[(.ref (ad 3))] 1)) t := fun t k => castTop (own_ef_own_miss_3 m) k
  obtain ⟨T1, X1, e1, st1⟩ := getS2 X0 hx hZ hown (host := "") (Or.inl (hw _ (List.mem_of_getElem? (i := 25) rfl))) Via.refl e0 (own_S_DISABLED W) (g := (mkF m 1 #[.val (.ref (ad 3))] [(.ref (ad 3))])) rfl (hb hby own_d_prog_34_method_6_code_1)
  have ch2 : ∀ t, Steps p.tables e below (T1.setTop (mkF m 4 #[.val (.ref (ad 3))] [(.ref (ad 0)), (.ref (ad 3))])) t → Steps p.tables e below (s₁.setTop (entryFrame m #[(.ref (ad 3))] 1)) t := fun t k => pre0 t (by
      show Steps p.tables e below (s₁.setTop (mkF m 0 #[.val (.ref (ad 3))] [])) t
      refine XS.aloadN X0.here hx rfl (hb hby own_d_prog_34_method_6_code_0) rfl rfl ?_
      show Steps p.tables e below (s₁.setTop (mkF m 1 #[.val (.ref (ad 3))] [(.ref (ad 3))])) t
      exact st1 t k)
  obtain ⟨T3, X3, e3, st3⟩ := getS2 X1 hx hZ hown (host := "") (Or.inl (hw _ (List.mem_of_getElem? (i := 33) rfl))) Via.refl e1 (own_S_NO_MATCH_RESOURCE W) (g := (mkF m 8 #[.val (.ref (ad 3))] [(.ref (ad 3))])) rfl (hb hby own_d_prog_34_method_6_code_8)
  have ch4 : ∀ t, Steps p.tables e below (T3.setTop (mkF m 11 #[.val (.ref (ad 3))] [(.ref (ad 1)), (.ref (ad 3))])) t → Steps p.tables e below (s₁.setTop (entryFrame m #[(.ref (ad 3))] 1)) t := fun t k => ch2 t (by
      show Steps p.tables e below (T1.setTop (mkF m 4 #[.val (.ref (ad 3))] [(.ref (ad 0)), (.ref (ad 3))])) t
      refine Jvm.RoadKit.acmp (g := (mkF m 4 #[.val (.ref (ad 3))] [(.ref (ad 0)), (.ref (ad 3))])) X1 hx rfl rfl rfl (pc0 := 4) (pc' := 7) (same := false) rfl (hb hby own_d_prog_34_method_6_code_4) rfl (decide_eq_false fun q => (Fld.ne (own_F_NO_MATCH_IDENTITY_ordinal W) (own_F_DISABLED_ordinal W) (by decide)) (Value.ref.inj q)) (by decide) (by decide) ?_
      show Steps p.tables e below (T1.setTop (mkF m 7 #[.val (.ref (ad 3))] [])) t
      refine XS.aloadN X1.here hx rfl (hb hby own_d_prog_34_method_6_code_7) rfl rfl ?_
      show Steps p.tables e below (T1.setTop (mkF m 8 #[.val (.ref (ad 3))] [(.ref (ad 3))])) t
      exact st3 t k)
  obtain ⟨T5, X5, e5, st5⟩ := getS2 X3 hx hZ hown (host := "") (Or.inl (hw _ (List.mem_of_getElem? (i := 34) rfl))) Via.refl e3 (own_S_NO_MATCH_ACTION W) (g := (mkF m 15 #[.val (.ref (ad 3))] [(.ref (ad 3))])) rfl (hb hby own_d_prog_34_method_6_code_15)
  have ch6 : ∀ t, Steps p.tables e below (T5.setTop (mkF m 18 #[.val (.ref (ad 3))] [(.ref (ad 2)), (.ref (ad 3))])) t → Steps p.tables e below (s₁.setTop (entryFrame m #[(.ref (ad 3))] 1)) t := fun t k => ch4 t (by
      show Steps p.tables e below (T3.setTop (mkF m 11 #[.val (.ref (ad 3))] [(.ref (ad 1)), (.ref (ad 3))])) t
      refine Jvm.RoadKit.acmp (g := (mkF m 11 #[.val (.ref (ad 3))] [(.ref (ad 1)), (.ref (ad 3))])) X3 hx rfl rfl rfl (pc0 := 11) (pc' := 14) (same := false) rfl (hb hby own_d_prog_34_method_6_code_11) rfl (decide_eq_false fun q => (Fld.ne (own_F_NO_MATCH_IDENTITY_ordinal W) (own_F_NO_MATCH_RESOURCE_ordinal W) (by decide)) (Value.ref.inj q)) (by decide) (by decide) ?_
      show Steps p.tables e below (T3.setTop (mkF m 14 #[.val (.ref (ad 3))] [])) t
      refine XS.aloadN X3.here hx rfl (hb hby own_d_prog_34_method_6_code_14) rfl rfl ?_
      show Steps p.tables e below (T3.setTop (mkF m 15 #[.val (.ref (ad 3))] [(.ref (ad 3))])) t
      exact st5 t k)
  obtain ⟨T7, X7, e7, st7⟩ := getS2 X5 hx hZ hown (host := "") (Or.inl (hw _ (List.mem_of_getElem? (i := 35) rfl))) Via.refl e5 (own_S_NO_MATCH_CALENDAR W) (g := (mkF m 22 #[.val (.ref (ad 3))] [(.ref (ad 3))])) rfl (hb hby own_d_prog_34_method_6_code_22)
  have ch8 : ∀ t, Steps p.tables e below (T7.setTop (mkF m 25 #[.val (.ref (ad 3))] [(.ref (ad 4)), (.ref (ad 3))])) t → Steps p.tables e below (s₁.setTop (entryFrame m #[(.ref (ad 3))] 1)) t := fun t k => ch6 t (by
      show Steps p.tables e below (T5.setTop (mkF m 18 #[.val (.ref (ad 3))] [(.ref (ad 2)), (.ref (ad 3))])) t
      refine Jvm.RoadKit.acmp (g := (mkF m 18 #[.val (.ref (ad 3))] [(.ref (ad 2)), (.ref (ad 3))])) X5 hx rfl rfl rfl (pc0 := 18) (pc' := 21) (same := false) rfl (hb hby own_d_prog_34_method_6_code_18) rfl (decide_eq_false fun q => (Fld.ne (own_F_NO_MATCH_IDENTITY_ordinal W) (own_F_NO_MATCH_ACTION_ordinal W) (by decide)) (Value.ref.inj q)) (by decide) (by decide) ?_
      show Steps p.tables e below (T5.setTop (mkF m 21 #[.val (.ref (ad 3))] [])) t
      refine XS.aloadN X5.here hx rfl (hb hby own_d_prog_34_method_6_code_21) rfl rfl ?_
      show Steps p.tables e below (T5.setTop (mkF m 22 #[.val (.ref (ad 3))] [(.ref (ad 3))])) t
      exact st7 t k)
  have ch9 : ∀ t, Steps p.tables e below (T7.setTop (mkF m 33 #[.val (.ref (ad 3))] [(.int (0 : Int32))])) t → Steps p.tables e below (s₁.setTop (entryFrame m #[(.ref (ad 3))] 1)) t := fun t k => ch8 t (by
      show Steps p.tables e below (T7.setTop (mkF m 25 #[.val (.ref (ad 3))] [(.ref (ad 4)), (.ref (ad 3))])) t
      refine Jvm.RoadKit.acmp (g := (mkF m 25 #[.val (.ref (ad 3))] [(.ref (ad 4)), (.ref (ad 3))])) X7 hx rfl rfl rfl (pc0 := 25) (pc' := 32) (same := false) rfl (hb hby own_d_prog_34_method_6_code_25) rfl (decide_eq_false fun q => (Fld.ne (own_F_NO_MATCH_IDENTITY_ordinal W) (own_F_NO_MATCH_CALENDAR_ordinal W) (by decide)) (Value.ref.inj q)) (by decide) (by decide) ?_
      show Steps p.tables e below (T7.setTop (mkF m 32 #[.val (.ref (ad 3))] [])) t
      refine XS.iconst X7.here hx rfl (hb hby own_d_prog_34_method_6_code_32) ?_
      exact k)
  obtain ⟨fs, hr, hrun, hended, hW, hsame⟩ := X7.leave (v := some (.int (0 : Int32))) (fun h => by rw [Bd.returns] at h; cases h)
  refine ⟨_, _, ch9 _ ?_, hrun, hended, _, _, rfl, ?_, ⟨_, rfl⟩, hW, hsame.mono (by decide) (by decide)⟩
  · show Steps p.tables e below (T7.setTop (mkF m 33 #[.val (.ref (ad 3))] [(.int (0 : Int32))])) _
    exact retN X7 hx (t := .boolean) Bd.returns (by simp) (hb hby own_d_prog_34_method_6_code_33) hr
  · show QV (some (.int (0 : Int32))) h0 n0 _ T7.heap _
    rw [e7]
    exact ⟨rfl, N0, rfl⟩
theorem own_ef_own_appl_3 (m : MethodId) {x0 : Addr} : entryFrame m #[(.ref x0)] 1 = mkF m 0 #[.val (.ref x0)] [] := by first | (simp [entryFrame, mkF, argsToLocals, Value.category, maxLocals]; done) | rfl
set_option maxRecDepth 65536 in
set_option maxHeartbeats 40000000 in
theorem own_appl_3 (l : Launch) (Z : State) (a0 : Array Value) (hw : ∀ d ∈ tables_1, d.before a0 Z = true) (ws : List Jvm.Cond) (h0 : Heap) (n0 : Nat) (Z0 : n0 ≤ h0.size) (ad : Nat → Addr) (W : OwnWd Z h0 ad) :
    MetFree l (⟨own_V, "applies", "()Z"⟩ : MethodName) (head1 (Jvm.Cond.code (⟨own_V, "applies", "()Z"⟩ : MethodName) prog_34_method_5_code 1 (some .boolean) :: ws) ({ frames := 0, cells := 0, slots := 0, locals := 0 } : Room)) (fun a U => a = #[(.ref (ad 3))] ∧ Z.Warmed39 U.vm ∧ U.heap = h0) (fun _ _ _ _ _ => True) (fun _ U o U' => ∃ v L, o = .returned v ∧ QV (some (.int (0 : Int32))) h0 n0 v U'.heap L ∧ FrameEnd U o U' L ({ frames := 0, cells := 0, slots := 0, locals := 0 } : Room).cells ({ frames := 0, cells := 0, slots := 0, locals := 0 } : Room).slots) := by
  refine MetFree.of_bodySF (plainFor_of_name own_pn_own_Verdict) hisR ?_
  intro p e s m args below meth c s₁ Bd hml0 hP hK
  obtain ⟨rfl, hZ, hh⟩ := hP
  have hx := Bd.exec
  have hby := Bd.bytes
  have hml : c.maxLocals = 1 := hml0
  have hown : s.vm.findClass own_V = some m.cls := (findClass_of_methodNamed Bd.named :)
  have hnm := (name_of_methodNamed Bd.named Bd.method).1
  have X0 : Stand p l e ({ frames := 0, cells := 0, slots := 0, locals := 0 } : Room) s m #[(.ref (ad 3))] below meth c s₁ [] 0 0 := Stand.of_body Bd
  have e0 : s₁.heap = h0 := by rw [← hh, Bd.state]; rfl
  have N0 := Fr.nil n0
  have pre0 : ∀ t, Steps p.tables e below (s₁.setTop (mkF m 0 #[.val (.ref (ad 3))] [])) t → Steps p.tables e below (s₁.setTop (entryFrame m #[(.ref (ad 3))] 1)) t := fun t k => castTop (own_ef_own_appl_3 m) k
  obtain ⟨T1, X1, e1, st1⟩ := getS2 X0 hx hZ hown (host := "") (Or.inl (hw _ (List.mem_of_getElem? (i := 31) rfl))) Via.refl e0 (own_S_MATCHED W) (g := (mkF m 1 #[.val (.ref (ad 3))] [(.ref (ad 3))])) rfl (hb hby own_d_prog_34_method_5_code_1)
  have ch2 : ∀ t, Steps p.tables e below (T1.setTop (mkF m 4 #[.val (.ref (ad 3))] [(.ref (ad 5)), (.ref (ad 3))])) t → Steps p.tables e below (s₁.setTop (entryFrame m #[(.ref (ad 3))] 1)) t := fun t k => pre0 t (by
      show Steps p.tables e below (s₁.setTop (mkF m 0 #[.val (.ref (ad 3))] [])) t
      refine XS.aloadN X0.here hx rfl (hb hby own_d_prog_34_method_5_code_0) rfl rfl ?_
      show Steps p.tables e below (s₁.setTop (mkF m 1 #[.val (.ref (ad 3))] [(.ref (ad 3))])) t
      exact st1 t k)
  obtain ⟨T3, X3, e3, st3⟩ := getS2 X1 hx hZ hown (host := "") (Or.inl (hw _ (List.mem_of_getElem? (i := 32) rfl))) Via.refl e1 (own_S_RETAINED W) (g := (mkF m 8 #[.val (.ref (ad 3))] [(.ref (ad 3))])) rfl (hb hby own_d_prog_34_method_5_code_8)
  have ch4 : ∀ t, Steps p.tables e below (T3.setTop (mkF m 11 #[.val (.ref (ad 3))] [(.ref (ad 6)), (.ref (ad 3))])) t → Steps p.tables e below (s₁.setTop (entryFrame m #[(.ref (ad 3))] 1)) t := fun t k => ch2 t (by
      show Steps p.tables e below (T1.setTop (mkF m 4 #[.val (.ref (ad 3))] [(.ref (ad 5)), (.ref (ad 3))])) t
      refine Jvm.RoadKit.acmp (g := (mkF m 4 #[.val (.ref (ad 3))] [(.ref (ad 5)), (.ref (ad 3))])) X1 hx rfl rfl rfl (pc0 := 4) (pc' := 7) (same := false) rfl (hb hby own_d_prog_34_method_5_code_4) rfl (decide_eq_false fun q => (Fld.ne (own_F_NO_MATCH_IDENTITY_ordinal W) (own_F_MATCHED_ordinal W) (by decide)) (Value.ref.inj q)) (by decide) (by decide) ?_
      show Steps p.tables e below (T1.setTop (mkF m 7 #[.val (.ref (ad 3))] [])) t
      refine XS.aloadN X1.here hx rfl (hb hby own_d_prog_34_method_5_code_7) rfl rfl ?_
      show Steps p.tables e below (T1.setTop (mkF m 8 #[.val (.ref (ad 3))] [(.ref (ad 3))])) t
      exact st3 t k)
  have ch5 : ∀ t, Steps p.tables e below (T3.setTop (mkF m 19 #[.val (.ref (ad 3))] [(.int (0 : Int32))])) t → Steps p.tables e below (s₁.setTop (entryFrame m #[(.ref (ad 3))] 1)) t := fun t k => ch4 t (by
      show Steps p.tables e below (T3.setTop (mkF m 11 #[.val (.ref (ad 3))] [(.ref (ad 6)), (.ref (ad 3))])) t
      refine Jvm.RoadKit.acmp (g := (mkF m 11 #[.val (.ref (ad 3))] [(.ref (ad 6)), (.ref (ad 3))])) X3 hx rfl rfl rfl (pc0 := 11) (pc' := 18) (same := false) rfl (hb hby own_d_prog_34_method_5_code_11) rfl (decide_eq_false fun q => (Fld.ne (own_F_NO_MATCH_IDENTITY_ordinal W) (own_F_RETAINED_ordinal W) (by decide)) (Value.ref.inj q)) (by decide) (by decide) ?_
      show Steps p.tables e below (T3.setTop (mkF m 18 #[.val (.ref (ad 3))] [])) t
      refine XS.iconst X3.here hx rfl (hb hby own_d_prog_34_method_5_code_18) ?_
      exact k)
  obtain ⟨fs, hr, hrun, hended, hW, hsame⟩ := X3.leave (v := some (.int (0 : Int32))) (fun h => by rw [Bd.returns] at h; cases h)
  refine ⟨_, _, ch5 _ ?_, hrun, hended, _, _, rfl, ?_, ⟨_, rfl⟩, hW, hsame.mono (by decide) (by decide)⟩
  · show Steps p.tables e below (T3.setTop (mkF m 19 #[.val (.ref (ad 3))] [(.int (0 : Int32))])) _
    exact retN X3 hx (t := .boolean) Bd.returns (by simp) (hb hby own_d_prog_34_method_5_code_19) hr
  · show QV (some (.int (0 : Int32))) h0 n0 _ T3.heap _
    rw [e3]
    exact ⟨rfl, N0, rfl⟩
theorem own_ef_own_law_3 (m : MethodId) {x0 : Int32} : entryFrame m #[(.int x0)] maxLocals = mkF m 0 #[.val (.int x0), .unset, .unset, .unset, .unset, .unset, .unset, .unset] [] := by first | (simp [entryFrame, mkF, argsToLocals, Value.category, maxLocals]; done) | rfl
set_option maxRecDepth 65536 in
set_option maxHeartbeats 40000000 in
theorem own_law_3 (l : Launch) (Z : State) (a0 : Array Value) (hw : ∀ d ∈ tables_1, d.before a0 Z = true) (ws : List Jvm.Cond) (h0 : Heap) (n0 : Nat) (Z0 : n0 ≤ h0.size) (p1 : Int32) (hk : p1 &&& (7 : Int32) = (3 : Int32)) (ad : Nat → Addr) (W : OwnWd Z h0 ad) :
    MetFree l x (head1 (Jvm.Cond.code x code maxLocals ret :: ws) room_1) (fun a U => a = #[(.int p1)] ∧ Z.Warmed39 U.vm ∧ U.heap = h0) (fun _ _ _ _ _ => True) (fun _ U o U' => ∃ v L, o = .returned v ∧ QN (some (.int (1 : Int32))) n0 v U'.heap L ∧ FrameEnd U o U' L room_1.cells room_1.slots) := by
  refine MetFree.of_bodySF (plainFor_of_name own_pn_own_VerdictMissesEverySubjectPinLaw) hisR ?_
  intro p e s m args below meth c s₁ Bd hml0 hP hK
  obtain ⟨rfl, hZ, hh⟩ := hP
  have hx := Bd.exec
  have hby := Bd.bytes
  have hml : c.maxLocals = 8 := hml0
  have hown : s.vm.findClass own_L = some m.cls := (findClass_of_methodNamed Bd.named :)
  have hnm := (name_of_methodNamed Bd.named Bd.method).1
  have X0 : Stand p l e room_1 s m #[(.int p1)] below meth c s₁ [] 0 0 := Stand.of_body Bd
  have e0 : s₁.heap = h0 := by rw [← hh, Bd.state]; rfl
  have N0 := Fr.nil n0
  have pre0 : ∀ t, Steps p.tables e below (s₁.setTop (mkF m 0 #[.val (.int p1), .unset, .unset, .unset, .unset, .unset, .unset, .unset] [])) t → Steps p.tables e below (s₁.setTop (entryFrame m #[(.int p1)] maxLocals)) t := fun t k => castTop (own_ef_own_law_3 m) k
  obtain ⟨T1, hp1, k1, X1, e1, E1, A1, O1, st1⟩ := newR X0 hx hZ hown (hw _ (List.mem_of_getElem? (i := 0) rfl)) (hw _ (List.mem_of_getElem? (i := 1) rfl)) e0 (g := (mkF m 2 #[.val (.int p1), .unset, .unset, .unset, .unset, .unset, .unset, .unset] [(.int (8 : Int32))])) rfl (hb hby at_2) rfl (by decide) (cap := 8) (by decide) (by decide) (by decide) (by decide)
  obtain ⟨b1, g1⟩ : ∃ z, z = h0.size := ⟨_, rfl⟩
  rw [← g1] at A1 st1
  have ne_ad0_b1 : (ad 0) ≠ b1 := Nat.ne_of_lt (Nat.lt_of_lt_of_le (own_E_DISABLED W).lt (Nat.le_of_eq g1.symm))
  have ne_ad1_b1 : (ad 1) ≠ b1 := Nat.ne_of_lt (Nat.lt_of_lt_of_le (own_E_NO_MATCH_RESOURCE W).lt (Nat.le_of_eq g1.symm))
  have ne_ad2_b1 : (ad 2) ≠ b1 := Nat.ne_of_lt (Nat.lt_of_lt_of_le (own_E_NO_MATCH_ACTION W).lt (Nat.le_of_eq g1.symm))
  have ne_ad3_b1 : (ad 3) ≠ b1 := Nat.ne_of_lt (Nat.lt_of_lt_of_le (own_E_NO_MATCH_IDENTITY W).lt (Nat.le_of_eq g1.symm))
  have ne_ad4_b1 : (ad 4) ≠ b1 := Nat.ne_of_lt (Nat.lt_of_lt_of_le (own_E_NO_MATCH_CALENDAR W).lt (Nat.le_of_eq g1.symm))
  have ne_ad5_b1 : (ad 5) ≠ b1 := Nat.ne_of_lt (Nat.lt_of_lt_of_le (own_E_MATCHED W).lt (Nat.le_of_eq g1.symm))
  have ne_ad6_b1 : (ad 6) ≠ b1 := Nat.ne_of_lt (Nat.lt_of_lt_of_le (own_E_RETAINED W).lt (Nat.le_of_eq g1.symm))
  have ne_ad7_b1 : (ad 7) ≠ b1 := Nat.ne_of_lt (Nat.lt_of_lt_of_le (own_E_DROPPED_BY_BEST_MATCH W).lt (Nat.le_of_eq g1.symm))
  have g_b1 : n0 ≤ b1 := Nat.le_trans (Nat.le_trans Z0 (Keep.refl h0 []).1) (Nat.le_of_eq g1.symm)
  have sz_b1 : h0.size ≤ b1 := Nat.le_trans (Keep.refl h0 []).1 (Nat.le_of_eq g1.symm)
  have Kp1 := Keep.ext (Keep.refl h0 []) E1
  have V1 : Arv Z hp1 b1 k1 (.object own_V) (8 : Int32) [.null, .null, .null, .null, .null, .null, .null, .null] .null := (Arv.new A1 (by decide)).pad (pad_rep [] .null 8)
  have ch2 : ∀ t, Steps p.tables e below (T1.setTop (mkF m 5 #[.val (.int p1), .unset, .unset, .unset, .unset, .unset, .unset, .unset] [(.ref b1)])) t → Steps p.tables e below (s₁.setTop (entryFrame m #[(.int p1)] maxLocals)) t := fun t k => pre0 t (by
      show Steps p.tables e below (s₁.setTop (mkF m 0 #[.val (.int p1), .unset, .unset, .unset, .unset, .unset, .unset, .unset] [])) t
      refine XS.bipush X0.here hx rfl (hb hby at_0) ?_
      show Steps p.tables e below (s₁.setTop (mkF m 2 #[.val (.int p1), .unset, .unset, .unset, .unset, .unset, .unset, .unset] [(.int (8 : Int32))])) t
      exact st1 t k)
  have cf3 := (own_sta_keep (own_S_DISABLED W) Kp1 all0)
  obtain ⟨T4, X4, e4, st4⟩ := getS2 X1 hx hZ hown (host := "") (Or.inl (hw _ (List.mem_of_getElem? (i := 2) rfl))) Via.refl e1 cf3 (g := (mkF m 7 #[.val (.int p1), .unset, .unset, .unset, .unset, .unset, .unset, .unset] [(.int (0 : Int32)), (.ref b1), (.ref b1)])) rfl (hb hby at_7)
  have ch5 : ∀ t, Steps p.tables e below (T4.setTop (mkF m 10 #[.val (.int p1), .unset, .unset, .unset, .unset, .unset, .unset, .unset] [(.ref (ad 0)), (.int (0 : Int32)), (.ref b1), (.ref b1)])) t → Steps p.tables e below (s₁.setTop (entryFrame m #[(.int p1)] maxLocals)) t := fun t k => ch2 t (by
      show Steps p.tables e below (T1.setTop (mkF m 5 #[.val (.int p1), .unset, .unset, .unset, .unset, .unset, .unset, .unset] [(.ref b1)])) t
      refine XS.dup X1.here hx rfl (hb hby at_5) rfl rfl ?_
      show Steps p.tables e below (T1.setTop (mkF m 6 #[.val (.int p1), .unset, .unset, .unset, .unset, .unset, .unset, .unset] [(.ref b1), (.ref b1)])) t
      refine XS.iconst X1.here hx rfl (hb hby at_6) ?_
      show Steps p.tables e below (T1.setTop (mkF m 7 #[.val (.int p1), .unset, .unset, .unset, .unset, .unset, .unset, .unset] [(.int (0 : Int32)), (.ref b1), (.ref b1)])) t
      exact st4 t k)
  obtain ⟨cl6, Ar6, qq6, Sz6, Ng6, Ha6, Ga6⟩ := id V1
  have hin6 : ¬ ((0 : Int32) < 0 ∨ cl6.slots.size ≤ ((0 : Int32)).toNatClampNeg) := inb_of Sz6 (by decide)
  have cf7 := (Exa.keep (own_E_DISABLED W) Kp1)
  obtain ⟨T8, hp8, X8, e8, W8, st8⟩ := stR X4 hx hZ e4 Ar6 (j := (0 : Int32)) hin6 rfl (Sto.ofV Ar6 qq6 O1 (Ins.self cf7)) (g := (mkF m 10 #[.val (.int p1), .unset, .unset, .unset, .unset, .unset, .unset, .unset] [(.ref (ad 0)), (.int (0 : Int32)), (.ref b1), (.ref b1)])) rfl rfl (hb hby at_10)
  have ch9 : ∀ t, Steps p.tables e below (T8.setTop (mkF m 11 #[.val (.int p1), .unset, .unset, .unset, .unset, .unset, .unset, .unset] [(.ref b1)])) t → Steps p.tables e below (s₁.setTop (entryFrame m #[(.int p1)] maxLocals)) t := fun t k => ch5 t (by
      show Steps p.tables e below (T4.setTop (mkF m 10 #[.val (.int p1), .unset, .unset, .unset, .unset, .unset, .unset, .unset] [(.ref (ad 0)), (.int (0 : Int32)), (.ref b1), (.ref b1)])) t
      exact st8 t k)
  have V8 : Arv Z hp8 b1 k1 (.object own_V) (8 : Int32) [(.ref (ad 0)), .null, .null, .null, .null, .null, .null, .null] .null := Arv.set Ar6 qq6 Sz6 Ng6 Ha6 Ga6 rfl W8 0 rfl (Nat.le_of_ble_eq_true rfl)
  have N8 := Fr.snoc X8 N0 g_b1
  have Kp8 := Keep.wr Kp1 W8 (Or.inr sz_b1)
  have cf10 := (own_sta_keep (own_S_NO_MATCH_RESOURCE W) Kp8 all0)
  obtain ⟨T11, X11, e11, st11⟩ := getS2 X8 hx hZ hown (host := "") (Or.inl (hw _ (List.mem_of_getElem? (i := 6) rfl))) Via.refl e8 cf10 (g := (mkF m 13 #[.val (.int p1), .unset, .unset, .unset, .unset, .unset, .unset, .unset] [(.int (1 : Int32)), (.ref b1), (.ref b1)])) rfl (hb hby at_13)
  have ch12 : ∀ t, Steps p.tables e below (T11.setTop (mkF m 16 #[.val (.int p1), .unset, .unset, .unset, .unset, .unset, .unset, .unset] [(.ref (ad 1)), (.int (1 : Int32)), (.ref b1), (.ref b1)])) t → Steps p.tables e below (s₁.setTop (entryFrame m #[(.int p1)] maxLocals)) t := fun t k => ch9 t (by
      show Steps p.tables e below (T8.setTop (mkF m 11 #[.val (.int p1), .unset, .unset, .unset, .unset, .unset, .unset, .unset] [(.ref b1)])) t
      refine XS.dup X8.here hx rfl (hb hby at_11) rfl rfl ?_
      show Steps p.tables e below (T8.setTop (mkF m 12 #[.val (.int p1), .unset, .unset, .unset, .unset, .unset, .unset, .unset] [(.ref b1), (.ref b1)])) t
      refine XS.iconst X8.here hx rfl (hb hby at_12) ?_
      show Steps p.tables e below (T8.setTop (mkF m 13 #[.val (.int p1), .unset, .unset, .unset, .unset, .unset, .unset, .unset] [(.int (1 : Int32)), (.ref b1), (.ref b1)])) t
      exact st11 t k)
  obtain ⟨cl13, Ar13, qq13, Sz13, Ng13, Ha13, Ga13⟩ := id V8
  have hin13 : ¬ ((1 : Int32) < 0 ∨ cl13.slots.size ≤ ((1 : Int32)).toNatClampNeg) := inb_of Sz13 (by decide)
  have cf14 := (Exa.keep (own_E_NO_MATCH_RESOURCE W) Kp8)
  obtain ⟨T15, hp15, X15, e15, W15, st15⟩ := stR X11 hx hZ e11 Ar13 (j := (1 : Int32)) hin13 rfl (Sto.ofV Ar13 qq13 O1 (Ins.self cf14)) (g := (mkF m 16 #[.val (.int p1), .unset, .unset, .unset, .unset, .unset, .unset, .unset] [(.ref (ad 1)), (.int (1 : Int32)), (.ref b1), (.ref b1)])) rfl rfl (hb hby at_16)
  have ch16 : ∀ t, Steps p.tables e below (T15.setTop (mkF m 17 #[.val (.int p1), .unset, .unset, .unset, .unset, .unset, .unset, .unset] [(.ref b1)])) t → Steps p.tables e below (s₁.setTop (entryFrame m #[(.int p1)] maxLocals)) t := fun t k => ch12 t (by
      show Steps p.tables e below (T11.setTop (mkF m 16 #[.val (.int p1), .unset, .unset, .unset, .unset, .unset, .unset, .unset] [(.ref (ad 1)), (.int (1 : Int32)), (.ref b1), (.ref b1)])) t
      exact st15 t k)
  have V15 : Arv Z hp15 b1 k1 (.object own_V) (8 : Int32) [(.ref (ad 0)), (.ref (ad 1)), .null, .null, .null, .null, .null, .null] .null := Arv.set Ar13 qq13 Sz13 Ng13 Ha13 Ga13 rfl W15 1 rfl (Nat.le_of_ble_eq_true rfl)
  have N15 := Fr.snoc X15 N8 g_b1
  have Kp15 := Keep.wr Kp8 W15 (Or.inr sz_b1)
  have cf17 := (own_sta_keep (own_S_NO_MATCH_ACTION W) Kp15 all0)
  obtain ⟨T18, X18, e18, st18⟩ := getS2 X15 hx hZ hown (host := "") (Or.inl (hw _ (List.mem_of_getElem? (i := 8) rfl))) Via.refl e15 cf17 (g := (mkF m 19 #[.val (.int p1), .unset, .unset, .unset, .unset, .unset, .unset, .unset] [(.int (2 : Int32)), (.ref b1), (.ref b1)])) rfl (hb hby at_19)
  have ch19 : ∀ t, Steps p.tables e below (T18.setTop (mkF m 22 #[.val (.int p1), .unset, .unset, .unset, .unset, .unset, .unset, .unset] [(.ref (ad 2)), (.int (2 : Int32)), (.ref b1), (.ref b1)])) t → Steps p.tables e below (s₁.setTop (entryFrame m #[(.int p1)] maxLocals)) t := fun t k => ch16 t (by
      show Steps p.tables e below (T15.setTop (mkF m 17 #[.val (.int p1), .unset, .unset, .unset, .unset, .unset, .unset, .unset] [(.ref b1)])) t
      refine XS.dup X15.here hx rfl (hb hby at_17) rfl rfl ?_
      show Steps p.tables e below (T15.setTop (mkF m 18 #[.val (.int p1), .unset, .unset, .unset, .unset, .unset, .unset, .unset] [(.ref b1), (.ref b1)])) t
      refine XS.iconst X15.here hx rfl (hb hby at_18) ?_
      show Steps p.tables e below (T15.setTop (mkF m 19 #[.val (.int p1), .unset, .unset, .unset, .unset, .unset, .unset, .unset] [(.int (2 : Int32)), (.ref b1), (.ref b1)])) t
      exact st18 t k)
  obtain ⟨cl20, Ar20, qq20, Sz20, Ng20, Ha20, Ga20⟩ := id V15
  have hin20 : ¬ ((2 : Int32) < 0 ∨ cl20.slots.size ≤ ((2 : Int32)).toNatClampNeg) := inb_of Sz20 (by decide)
  have cf21 := (Exa.keep (own_E_NO_MATCH_ACTION W) Kp15)
  obtain ⟨T22, hp22, X22, e22, W22, st22⟩ := stR X18 hx hZ e18 Ar20 (j := (2 : Int32)) hin20 rfl (Sto.ofV Ar20 qq20 O1 (Ins.self cf21)) (g := (mkF m 22 #[.val (.int p1), .unset, .unset, .unset, .unset, .unset, .unset, .unset] [(.ref (ad 2)), (.int (2 : Int32)), (.ref b1), (.ref b1)])) rfl rfl (hb hby at_22)
  have ch23 : ∀ t, Steps p.tables e below (T22.setTop (mkF m 23 #[.val (.int p1), .unset, .unset, .unset, .unset, .unset, .unset, .unset] [(.ref b1)])) t → Steps p.tables e below (s₁.setTop (entryFrame m #[(.int p1)] maxLocals)) t := fun t k => ch19 t (by
      show Steps p.tables e below (T18.setTop (mkF m 22 #[.val (.int p1), .unset, .unset, .unset, .unset, .unset, .unset, .unset] [(.ref (ad 2)), (.int (2 : Int32)), (.ref b1), (.ref b1)])) t
      exact st22 t k)
  have V22 : Arv Z hp22 b1 k1 (.object own_V) (8 : Int32) [(.ref (ad 0)), (.ref (ad 1)), (.ref (ad 2)), .null, .null, .null, .null, .null] .null := Arv.set Ar20 qq20 Sz20 Ng20 Ha20 Ga20 rfl W22 2 rfl (Nat.le_of_ble_eq_true rfl)
  have N22 := Fr.snoc X22 N15 g_b1
  have Kp22 := Keep.wr Kp15 W22 (Or.inr sz_b1)
  have cf24 := (own_sta_keep (own_S_NO_MATCH_IDENTITY W) Kp22 all0)
  obtain ⟨T25, X25, e25, st25⟩ := getS2 X22 hx hZ hown (host := "") (Or.inl (hw _ (List.mem_of_getElem? (i := 10) rfl))) Via.refl e22 cf24 (g := (mkF m 25 #[.val (.int p1), .unset, .unset, .unset, .unset, .unset, .unset, .unset] [(.int (3 : Int32)), (.ref b1), (.ref b1)])) rfl (hb hby at_25)
  have ch26 : ∀ t, Steps p.tables e below (T25.setTop (mkF m 28 #[.val (.int p1), .unset, .unset, .unset, .unset, .unset, .unset, .unset] [(.ref (ad 3)), (.int (3 : Int32)), (.ref b1), (.ref b1)])) t → Steps p.tables e below (s₁.setTop (entryFrame m #[(.int p1)] maxLocals)) t := fun t k => ch23 t (by
      show Steps p.tables e below (T22.setTop (mkF m 23 #[.val (.int p1), .unset, .unset, .unset, .unset, .unset, .unset, .unset] [(.ref b1)])) t
      refine XS.dup X22.here hx rfl (hb hby at_23) rfl rfl ?_
      show Steps p.tables e below (T22.setTop (mkF m 24 #[.val (.int p1), .unset, .unset, .unset, .unset, .unset, .unset, .unset] [(.ref b1), (.ref b1)])) t
      refine XS.iconst X22.here hx rfl (hb hby at_24) ?_
      show Steps p.tables e below (T22.setTop (mkF m 25 #[.val (.int p1), .unset, .unset, .unset, .unset, .unset, .unset, .unset] [(.int (3 : Int32)), (.ref b1), (.ref b1)])) t
      exact st25 t k)
  obtain ⟨cl27, Ar27, qq27, Sz27, Ng27, Ha27, Ga27⟩ := id V22
  have hin27 : ¬ ((3 : Int32) < 0 ∨ cl27.slots.size ≤ ((3 : Int32)).toNatClampNeg) := inb_of Sz27 (by decide)
  have cf28 := (Exa.keep (own_E_NO_MATCH_IDENTITY W) Kp22)
  obtain ⟨T29, hp29, X29, e29, W29, st29⟩ := stR X25 hx hZ e25 Ar27 (j := (3 : Int32)) hin27 rfl (Sto.ofV Ar27 qq27 O1 (Ins.self cf28)) (g := (mkF m 28 #[.val (.int p1), .unset, .unset, .unset, .unset, .unset, .unset, .unset] [(.ref (ad 3)), (.int (3 : Int32)), (.ref b1), (.ref b1)])) rfl rfl (hb hby at_28)
  have ch30 : ∀ t, Steps p.tables e below (T29.setTop (mkF m 29 #[.val (.int p1), .unset, .unset, .unset, .unset, .unset, .unset, .unset] [(.ref b1)])) t → Steps p.tables e below (s₁.setTop (entryFrame m #[(.int p1)] maxLocals)) t := fun t k => ch26 t (by
      show Steps p.tables e below (T25.setTop (mkF m 28 #[.val (.int p1), .unset, .unset, .unset, .unset, .unset, .unset, .unset] [(.ref (ad 3)), (.int (3 : Int32)), (.ref b1), (.ref b1)])) t
      exact st29 t k)
  have V29 : Arv Z hp29 b1 k1 (.object own_V) (8 : Int32) [(.ref (ad 0)), (.ref (ad 1)), (.ref (ad 2)), (.ref (ad 3)), .null, .null, .null, .null] .null := Arv.set Ar27 qq27 Sz27 Ng27 Ha27 Ga27 rfl W29 3 rfl (Nat.le_of_ble_eq_true rfl)
  have N29 := Fr.snoc X29 N22 g_b1
  have Kp29 := Keep.wr Kp22 W29 (Or.inr sz_b1)
  have cf31 := (own_sta_keep (own_S_NO_MATCH_CALENDAR W) Kp29 all0)
  obtain ⟨T32, X32, e32, st32⟩ := getS2 X29 hx hZ hown (host := "") (Or.inl (hw _ (List.mem_of_getElem? (i := 12) rfl))) Via.refl e29 cf31 (g := (mkF m 31 #[.val (.int p1), .unset, .unset, .unset, .unset, .unset, .unset, .unset] [(.int (4 : Int32)), (.ref b1), (.ref b1)])) rfl (hb hby at_31)
  have ch33 : ∀ t, Steps p.tables e below (T32.setTop (mkF m 34 #[.val (.int p1), .unset, .unset, .unset, .unset, .unset, .unset, .unset] [(.ref (ad 4)), (.int (4 : Int32)), (.ref b1), (.ref b1)])) t → Steps p.tables e below (s₁.setTop (entryFrame m #[(.int p1)] maxLocals)) t := fun t k => ch30 t (by
      show Steps p.tables e below (T29.setTop (mkF m 29 #[.val (.int p1), .unset, .unset, .unset, .unset, .unset, .unset, .unset] [(.ref b1)])) t
      refine XS.dup X29.here hx rfl (hb hby at_29) rfl rfl ?_
      show Steps p.tables e below (T29.setTop (mkF m 30 #[.val (.int p1), .unset, .unset, .unset, .unset, .unset, .unset, .unset] [(.ref b1), (.ref b1)])) t
      refine XS.iconst X29.here hx rfl (hb hby at_30) ?_
      show Steps p.tables e below (T29.setTop (mkF m 31 #[.val (.int p1), .unset, .unset, .unset, .unset, .unset, .unset, .unset] [(.int (4 : Int32)), (.ref b1), (.ref b1)])) t
      exact st32 t k)
  obtain ⟨cl34, Ar34, qq34, Sz34, Ng34, Ha34, Ga34⟩ := id V29
  have hin34 : ¬ ((4 : Int32) < 0 ∨ cl34.slots.size ≤ ((4 : Int32)).toNatClampNeg) := inb_of Sz34 (by decide)
  have cf35 := (Exa.keep (own_E_NO_MATCH_CALENDAR W) Kp29)
  obtain ⟨T36, hp36, X36, e36, W36, st36⟩ := stR X32 hx hZ e32 Ar34 (j := (4 : Int32)) hin34 rfl (Sto.ofV Ar34 qq34 O1 (Ins.self cf35)) (g := (mkF m 34 #[.val (.int p1), .unset, .unset, .unset, .unset, .unset, .unset, .unset] [(.ref (ad 4)), (.int (4 : Int32)), (.ref b1), (.ref b1)])) rfl rfl (hb hby at_34)
  have ch37 : ∀ t, Steps p.tables e below (T36.setTop (mkF m 35 #[.val (.int p1), .unset, .unset, .unset, .unset, .unset, .unset, .unset] [(.ref b1)])) t → Steps p.tables e below (s₁.setTop (entryFrame m #[(.int p1)] maxLocals)) t := fun t k => ch33 t (by
      show Steps p.tables e below (T32.setTop (mkF m 34 #[.val (.int p1), .unset, .unset, .unset, .unset, .unset, .unset, .unset] [(.ref (ad 4)), (.int (4 : Int32)), (.ref b1), (.ref b1)])) t
      exact st36 t k)
  have V36 : Arv Z hp36 b1 k1 (.object own_V) (8 : Int32) [(.ref (ad 0)), (.ref (ad 1)), (.ref (ad 2)), (.ref (ad 3)), (.ref (ad 4)), .null, .null, .null] .null := Arv.set Ar34 qq34 Sz34 Ng34 Ha34 Ga34 rfl W36 4 rfl (Nat.le_of_ble_eq_true rfl)
  have N36 := Fr.snoc X36 N29 g_b1
  have Kp36 := Keep.wr Kp29 W36 (Or.inr sz_b1)
  have cf38 := (own_sta_keep (own_S_MATCHED W) Kp36 all0)
  obtain ⟨T39, X39, e39, st39⟩ := getS2 X36 hx hZ hown (host := "") (Or.inl (hw _ (List.mem_of_getElem? (i := 14) rfl))) Via.refl e36 cf38 (g := (mkF m 37 #[.val (.int p1), .unset, .unset, .unset, .unset, .unset, .unset, .unset] [(.int (5 : Int32)), (.ref b1), (.ref b1)])) rfl (hb hby at_37)
  have ch40 : ∀ t, Steps p.tables e below (T39.setTop (mkF m 40 #[.val (.int p1), .unset, .unset, .unset, .unset, .unset, .unset, .unset] [(.ref (ad 5)), (.int (5 : Int32)), (.ref b1), (.ref b1)])) t → Steps p.tables e below (s₁.setTop (entryFrame m #[(.int p1)] maxLocals)) t := fun t k => ch37 t (by
      show Steps p.tables e below (T36.setTop (mkF m 35 #[.val (.int p1), .unset, .unset, .unset, .unset, .unset, .unset, .unset] [(.ref b1)])) t
      refine XS.dup X36.here hx rfl (hb hby at_35) rfl rfl ?_
      show Steps p.tables e below (T36.setTop (mkF m 36 #[.val (.int p1), .unset, .unset, .unset, .unset, .unset, .unset, .unset] [(.ref b1), (.ref b1)])) t
      refine XS.iconst X36.here hx rfl (hb hby at_36) ?_
      show Steps p.tables e below (T36.setTop (mkF m 37 #[.val (.int p1), .unset, .unset, .unset, .unset, .unset, .unset, .unset] [(.int (5 : Int32)), (.ref b1), (.ref b1)])) t
      exact st39 t k)
  obtain ⟨cl41, Ar41, qq41, Sz41, Ng41, Ha41, Ga41⟩ := id V36
  have hin41 : ¬ ((5 : Int32) < 0 ∨ cl41.slots.size ≤ ((5 : Int32)).toNatClampNeg) := inb_of Sz41 (by decide)
  have cf42 := (Exa.keep (own_E_MATCHED W) Kp36)
  obtain ⟨T43, hp43, X43, e43, W43, st43⟩ := stR X39 hx hZ e39 Ar41 (j := (5 : Int32)) hin41 rfl (Sto.ofV Ar41 qq41 O1 (Ins.self cf42)) (g := (mkF m 40 #[.val (.int p1), .unset, .unset, .unset, .unset, .unset, .unset, .unset] [(.ref (ad 5)), (.int (5 : Int32)), (.ref b1), (.ref b1)])) rfl rfl (hb hby at_40)
  have ch44 : ∀ t, Steps p.tables e below (T43.setTop (mkF m 41 #[.val (.int p1), .unset, .unset, .unset, .unset, .unset, .unset, .unset] [(.ref b1)])) t → Steps p.tables e below (s₁.setTop (entryFrame m #[(.int p1)] maxLocals)) t := fun t k => ch40 t (by
      show Steps p.tables e below (T39.setTop (mkF m 40 #[.val (.int p1), .unset, .unset, .unset, .unset, .unset, .unset, .unset] [(.ref (ad 5)), (.int (5 : Int32)), (.ref b1), (.ref b1)])) t
      exact st43 t k)
  have V43 : Arv Z hp43 b1 k1 (.object own_V) (8 : Int32) [(.ref (ad 0)), (.ref (ad 1)), (.ref (ad 2)), (.ref (ad 3)), (.ref (ad 4)), (.ref (ad 5)), .null, .null] .null := Arv.set Ar41 qq41 Sz41 Ng41 Ha41 Ga41 rfl W43 5 rfl (Nat.le_of_ble_eq_true rfl)
  have N43 := Fr.snoc X43 N36 g_b1
  have Kp43 := Keep.wr Kp36 W43 (Or.inr sz_b1)
  have cf45 := (own_sta_keep (own_S_RETAINED W) Kp43 all0)
  obtain ⟨T46, X46, e46, st46⟩ := getS2 X43 hx hZ hown (host := "") (Or.inl (hw _ (List.mem_of_getElem? (i := 16) rfl))) Via.refl e43 cf45 (g := (mkF m 44 #[.val (.int p1), .unset, .unset, .unset, .unset, .unset, .unset, .unset] [(.int (6 : Int32)), (.ref b1), (.ref b1)])) rfl (hb hby at_44)
  have ch47 : ∀ t, Steps p.tables e below (T46.setTop (mkF m 47 #[.val (.int p1), .unset, .unset, .unset, .unset, .unset, .unset, .unset] [(.ref (ad 6)), (.int (6 : Int32)), (.ref b1), (.ref b1)])) t → Steps p.tables e below (s₁.setTop (entryFrame m #[(.int p1)] maxLocals)) t := fun t k => ch44 t (by
      show Steps p.tables e below (T43.setTop (mkF m 41 #[.val (.int p1), .unset, .unset, .unset, .unset, .unset, .unset, .unset] [(.ref b1)])) t
      refine XS.dup X43.here hx rfl (hb hby at_41) rfl rfl ?_
      show Steps p.tables e below (T43.setTop (mkF m 42 #[.val (.int p1), .unset, .unset, .unset, .unset, .unset, .unset, .unset] [(.ref b1), (.ref b1)])) t
      refine XS.bipush X43.here hx rfl (hb hby at_42) ?_
      show Steps p.tables e below (T43.setTop (mkF m 44 #[.val (.int p1), .unset, .unset, .unset, .unset, .unset, .unset, .unset] [(.int (6 : Int32)), (.ref b1), (.ref b1)])) t
      exact st46 t k)
  obtain ⟨cl48, Ar48, qq48, Sz48, Ng48, Ha48, Ga48⟩ := id V43
  have hin48 : ¬ ((6 : Int32) < 0 ∨ cl48.slots.size ≤ ((6 : Int32)).toNatClampNeg) := inb_of Sz48 (by decide)
  have cf49 := (Exa.keep (own_E_RETAINED W) Kp43)
  obtain ⟨T50, hp50, X50, e50, W50, st50⟩ := stR X46 hx hZ e46 Ar48 (j := (6 : Int32)) hin48 rfl (Sto.ofV Ar48 qq48 O1 (Ins.self cf49)) (g := (mkF m 47 #[.val (.int p1), .unset, .unset, .unset, .unset, .unset, .unset, .unset] [(.ref (ad 6)), (.int (6 : Int32)), (.ref b1), (.ref b1)])) rfl rfl (hb hby at_47)
  have ch51 : ∀ t, Steps p.tables e below (T50.setTop (mkF m 48 #[.val (.int p1), .unset, .unset, .unset, .unset, .unset, .unset, .unset] [(.ref b1)])) t → Steps p.tables e below (s₁.setTop (entryFrame m #[(.int p1)] maxLocals)) t := fun t k => ch47 t (by
      show Steps p.tables e below (T46.setTop (mkF m 47 #[.val (.int p1), .unset, .unset, .unset, .unset, .unset, .unset, .unset] [(.ref (ad 6)), (.int (6 : Int32)), (.ref b1), (.ref b1)])) t
      exact st50 t k)
  have V50 : Arv Z hp50 b1 k1 (.object own_V) (8 : Int32) [(.ref (ad 0)), (.ref (ad 1)), (.ref (ad 2)), (.ref (ad 3)), (.ref (ad 4)), (.ref (ad 5)), (.ref (ad 6)), .null] .null := Arv.set Ar48 qq48 Sz48 Ng48 Ha48 Ga48 rfl W50 6 rfl (Nat.le_of_ble_eq_true rfl)
  have N50 := Fr.snoc X50 N43 g_b1
  have Kp50 := Keep.wr Kp43 W50 (Or.inr sz_b1)
  have cf52 := (own_sta_keep (own_S_DROPPED_BY_BEST_MATCH W) Kp50 all0)
  obtain ⟨T53, X53, e53, st53⟩ := getS2 X50 hx hZ hown (host := "") (Or.inl (hw _ (List.mem_of_getElem? (i := 18) rfl))) Via.refl e50 cf52 (g := (mkF m 51 #[.val (.int p1), .unset, .unset, .unset, .unset, .unset, .unset, .unset] [(.int (7 : Int32)), (.ref b1), (.ref b1)])) rfl (hb hby at_51)
  have ch54 : ∀ t, Steps p.tables e below (T53.setTop (mkF m 54 #[.val (.int p1), .unset, .unset, .unset, .unset, .unset, .unset, .unset] [(.ref (ad 7)), (.int (7 : Int32)), (.ref b1), (.ref b1)])) t → Steps p.tables e below (s₁.setTop (entryFrame m #[(.int p1)] maxLocals)) t := fun t k => ch51 t (by
      show Steps p.tables e below (T50.setTop (mkF m 48 #[.val (.int p1), .unset, .unset, .unset, .unset, .unset, .unset, .unset] [(.ref b1)])) t
      refine XS.dup X50.here hx rfl (hb hby at_48) rfl rfl ?_
      show Steps p.tables e below (T50.setTop (mkF m 49 #[.val (.int p1), .unset, .unset, .unset, .unset, .unset, .unset, .unset] [(.ref b1), (.ref b1)])) t
      refine XS.bipush X50.here hx rfl (hb hby at_49) ?_
      show Steps p.tables e below (T50.setTop (mkF m 51 #[.val (.int p1), .unset, .unset, .unset, .unset, .unset, .unset, .unset] [(.int (7 : Int32)), (.ref b1), (.ref b1)])) t
      exact st53 t k)
  obtain ⟨cl55, Ar55, qq55, Sz55, Ng55, Ha55, Ga55⟩ := id V50
  have hin55 : ¬ ((7 : Int32) < 0 ∨ cl55.slots.size ≤ ((7 : Int32)).toNatClampNeg) := inb_of Sz55 (by decide)
  have cf56 := (Exa.keep (own_E_DROPPED_BY_BEST_MATCH W) Kp50)
  obtain ⟨T57, hp57, X57, e57, W57, st57⟩ := stR X53 hx hZ e53 Ar55 (j := (7 : Int32)) hin55 rfl (Sto.ofV Ar55 qq55 O1 (Ins.self cf56)) (g := (mkF m 54 #[.val (.int p1), .unset, .unset, .unset, .unset, .unset, .unset, .unset] [(.ref (ad 7)), (.int (7 : Int32)), (.ref b1), (.ref b1)])) rfl rfl (hb hby at_54)
  have ch58 : ∀ t, Steps p.tables e below (T57.setTop (mkF m 55 #[.val (.int p1), .unset, .unset, .unset, .unset, .unset, .unset, .unset] [(.ref b1)])) t → Steps p.tables e below (s₁.setTop (entryFrame m #[(.int p1)] maxLocals)) t := fun t k => ch54 t (by
      show Steps p.tables e below (T53.setTop (mkF m 54 #[.val (.int p1), .unset, .unset, .unset, .unset, .unset, .unset, .unset] [(.ref (ad 7)), (.int (7 : Int32)), (.ref b1), (.ref b1)])) t
      exact st57 t k)
  have V57 : Arv Z hp57 b1 k1 (.object own_V) (8 : Int32) [(.ref (ad 0)), (.ref (ad 1)), (.ref (ad 2)), (.ref (ad 3)), (.ref (ad 4)), (.ref (ad 5)), (.ref (ad 6)), (.ref (ad 7))] .null := Arv.set Ar55 qq55 Sz55 Ng55 Ha55 Ga55 rfl W57 7 rfl (Nat.le_of_ble_eq_true rfl)
  have N57 := Fr.snoc X57 N50 g_b1
  have Kp57 := Keep.wr Kp50 W57 (Or.inr sz_b1)
  obtain ⟨cl59, Ar59, -, Sz59, Ng59, Ha59, -⟩ := id V57
  have hin59 : ¬ ((3 : Int32) < 0 ∨ cl59.slots.size ≤ ((3 : Int32)).toNatClampNeg) := inb_of Sz59 (by decide)
  have hat59 : cl59.slots[((3 : Int32)).toNatClampNeg]? = some (.ref (ad 3)) := Ha59.at hin59 rfl
  have cf61 := (Exa.wr W57 (Exa.wr W50 (Exa.wr W43 (Exa.wr W36 (Exa.wr W29 cf28)))))
  obtain ⟨cq60, kq60, qa60, qb60, qc60⟩ := isOf hZ e57 cf61
  obtain ⟨vv62, _, ⟨T62, L62, kk62, nn62⟩, -, X62, ⟨Lc62, hQ62, l62, y62, z62⟩, st62⟩ := X57.virtualBack hx (y := (⟨own_V, "missesEverySubject", "()Z"⟩ : MethodName)) (z := (⟨own_V, "missesEverySubject", "()Z"⟩ : MethodName)) hown (mvT hZ (hw _ (List.mem_of_getElem? (i := 20) rfl))) (mvT hZ (hw _ (List.mem_of_getElem? (i := 21) rfl))) (notFace_of_selects (args := #[]) (mvT hZ (hw _ (List.mem_of_getElem? (i := 23) rfl)))) (mvT hZ (hw _ (List.mem_of_getElem? (i := 23) rfl))) (mvT hZ (hw _ (List.mem_of_getElem? (i := 22) rfl))) (by decide) (backOf (W := 0) (own_miss_3 l Z a0 hw [] hp57 n0 (Nat.le_trans Z0 Kp57.1) ad (own_Wd_ext W (own_ext_of_keep Kp57 all0))) hZ (hw _ (List.mem_of_getElem? (i := 24) rfl)) (hw _ (List.mem_of_getElem? (i := 3) rfl)) (by decide) (by decide)) qa60 qc60 (g := (mkF m 107 #[.val (.int p1), .val (.ref b1), .val (.int (3 : Int32)), .val (.ref (ad 3)), .val (.int (1 : Int32)), .val (.int (1 : Int32)), .val (.int (0 : Int32)), .unset] [(.ref (ad 3))])) rfl (by rw [hml]; rfl) (Steps.refl _) (argsL := []) (rest := []) (lenOf own_pd___Z rfl) rfl (by show 2 * 0 + _ ≤ _; exact Nat.le_of_eq rfl) (hb hby at_107) (fun _ _ => ⟨rfl, e57, (by decide : 1 + 0 ≤ _), (by decide : 8 + 0 ≤ _)⟩)
  dsimp only [Pt.U, Pt.locs, Pt.cells, Pt.slots] at X62 l62 y62 z62 st62 hQ62
  subst l62 y62 z62
  obtain ⟨rfl, Nq62, e62⟩ := hQ62
  have N62 := Fr.app N57 Nq62
  have ch63 : ∀ t, Steps p.tables e below (T62.setTop (mkF m 110 #[.val (.int p1), .val (.ref b1), .val (.int (3 : Int32)), .val (.ref (ad 3)), .val (.int (1 : Int32)), .val (.int (1 : Int32)), .val (.int (0 : Int32)), .unset] [(.int (0 : Int32))])) t → Steps p.tables e below (s₁.setTop (entryFrame m #[(.int p1)] maxLocals)) t := fun t k => ch58 t (by
      show Steps p.tables e below (T57.setTop (mkF m 55 #[.val (.int p1), .unset, .unset, .unset, .unset, .unset, .unset, .unset] [(.ref b1)])) t
      refine XS.astoreN X57.here hx rfl (hb hby at_55) rfl rfl (l' := #[.val (.int p1), .val (.ref b1), .unset, .unset, .unset, .unset, .unset, .unset]) rfl ?_
      show Steps p.tables e below (T57.setTop (mkF m 56 #[.val (.int p1), .val (.ref b1), .unset, .unset, .unset, .unset, .unset, .unset] [])) t
      refine XS.iloadN X57.here hx rfl (hb hby at_56) rfl ?_
      show Steps p.tables e below (T57.setTop (mkF m 57 #[.val (.int p1), .val (.ref b1), .unset, .unset, .unset, .unset, .unset, .unset] [(.int p1)])) t
      refine XS.bipush X57.here hx rfl (hb hby at_57) ?_
      show Steps p.tables e below (T57.setTop (mkF m 59 #[.val (.int p1), .val (.ref b1), .unset, .unset, .unset, .unset, .unset, .unset] [(.int (7 : Int32)), (.int p1)])) t
      refine XS.iand X57.here hx rfl (hb hby at_59) rfl ?_
      rw [hk]
      show Steps p.tables e below (T57.setTop (mkF m 60 #[.val (.int p1), .val (.ref b1), .unset, .unset, .unset, .unset, .unset, .unset] [(.int (3 : Int32))])) t
      refine XS.istoreN X57.here hx rfl (hb hby at_60) rfl (l' := #[.val (.int p1), .val (.ref b1), .val (.int (3 : Int32)), .unset, .unset, .unset, .unset, .unset]) rfl ?_
      show Steps p.tables e below (T57.setTop (mkF m 61 #[.val (.int p1), .val (.ref b1), .val (.int (3 : Int32)), .unset, .unset, .unset, .unset, .unset] [])) t
      refine XS.aloadN X57.here hx rfl (hb hby at_61) rfl rfl ?_
      show Steps p.tables e below (T57.setTop (mkF m 62 #[.val (.int p1), .val (.ref b1), .val (.int (3 : Int32)), .unset, .unset, .unset, .unset, .unset] [(.ref b1)])) t
      refine XS.iloadN X57.here hx rfl (hb hby at_62) rfl ?_
      show Steps p.tables e below (T57.setTop (mkF m 63 #[.val (.int p1), .val (.ref b1), .val (.int (3 : Int32)), .unset, .unset, .unset, .unset, .unset] [(.int (3 : Int32)), (.ref b1)])) t
      refine X57.aaload hx (j := (3 : Int32)) (v := (.ref (ad 3))) (by rw [e57]; exact Ar59.1) (State.isArrayOf_alike hZ.alike Ar59.2.1) rfl Ar59.2.2 hin59 hat59 (g := (mkF m 63 #[.val (.int p1), .val (.ref b1), .val (.int (3 : Int32)), .unset, .unset, .unset, .unset, .unset] [(.int (3 : Int32)), (.ref b1)])) rfl rfl (hb hby at_63) _ ?_
      show Steps p.tables e below (T57.setTop (mkF m 64 #[.val (.int p1), .val (.ref b1), .val (.int (3 : Int32)), .unset, .unset, .unset, .unset, .unset] [(.ref (ad 3))])) t
      refine XS.astoreN X57.here hx rfl (hb hby at_64) rfl rfl (l' := #[.val (.int p1), .val (.ref b1), .val (.int (3 : Int32)), .val (.ref (ad 3)), .unset, .unset, .unset, .unset]) rfl ?_
      show Steps p.tables e below (T57.setTop (mkF m 65 #[.val (.int p1), .val (.ref b1), .val (.int (3 : Int32)), .val (.ref (ad 3)), .unset, .unset, .unset, .unset] [])) t
      refine XS.iloadN X57.here hx rfl (hb hby at_65) rfl ?_
      show Steps p.tables e below (T57.setTop (mkF m 66 #[.val (.int p1), .val (.ref b1), .val (.int (3 : Int32)), .val (.ref (ad 3)), .unset, .unset, .unset, .unset] [(.int (3 : Int32))])) t
      refine XS.iconst X57.here hx rfl (hb hby at_66) ?_
      show Steps p.tables e below (T57.setTop (mkF m 67 #[.val (.int p1), .val (.ref b1), .val (.int (3 : Int32)), .val (.ref (ad 3)), .unset, .unset, .unset, .unset] [(.int (5 : Int32)), (.int (3 : Int32))])) t
      refine XS.icmpNo X57.here hx rfl (hb hby at_67) rfl (tlt (by decide : (3 : Int32) < (5 : Int32))).2.1 ?_
      show Steps p.tables e below (T57.setTop (mkF m 70 #[.val (.int p1), .val (.ref b1), .val (.int (3 : Int32)), .val (.ref (ad 3)), .unset, .unset, .unset, .unset] [])) t
      refine XS.iconst X57.here hx rfl (hb hby at_70) ?_
      show Steps p.tables e below (T57.setTop (mkF m 71 #[.val (.int p1), .val (.ref b1), .val (.int (3 : Int32)), .val (.ref (ad 3)), .unset, .unset, .unset, .unset] [(.int (1 : Int32))])) t
      refine XS.goto X57.here hx rfl (pc0 := 71) (pc' := 75) rfl (hb hby at_71) (by decide) (by decide) ?_
      show Steps p.tables e below (T57.setTop (mkF m 75 #[.val (.int p1), .val (.ref b1), .val (.int (3 : Int32)), .val (.ref (ad 3)), .unset, .unset, .unset, .unset] [(.int (1 : Int32))])) t
      refine XS.istore X57.here hx rfl (hb hby at_75) rfl (l' := #[.val (.int p1), .val (.ref b1), .val (.int (3 : Int32)), .val (.ref (ad 3)), .val (.int (1 : Int32)), .unset, .unset, .unset]) rfl ?_
      show Steps p.tables e below (T57.setTop (mkF m 77 #[.val (.int p1), .val (.ref b1), .val (.int (3 : Int32)), .val (.ref (ad 3)), .val (.int (1 : Int32)), .unset, .unset, .unset] [])) t
      refine XS.iloadN X57.here hx rfl (hb hby at_77) rfl ?_
      show Steps p.tables e below (T57.setTop (mkF m 78 #[.val (.int p1), .val (.ref b1), .val (.int (3 : Int32)), .val (.ref (ad 3)), .val (.int (1 : Int32)), .unset, .unset, .unset] [(.int (3 : Int32))])) t
      refine XS.iconst X57.here hx rfl (hb hby at_78) ?_
      show Steps p.tables e below (T57.setTop (mkF m 79 #[.val (.int p1), .val (.ref b1), .val (.int (3 : Int32)), .val (.ref (ad 3)), .val (.int (1 : Int32)), .unset, .unset, .unset] [(.int (3 : Int32)), (.int (3 : Int32))])) t
      refine XS.icmpNo X57.here hx rfl (hb hby at_79) rfl (teq (by decide : (3 : Int32) = (3 : Int32))).2 ?_
      show Steps p.tables e below (T57.setTop (mkF m 82 #[.val (.int p1), .val (.ref b1), .val (.int (3 : Int32)), .val (.ref (ad 3)), .val (.int (1 : Int32)), .unset, .unset, .unset] [])) t
      refine XS.iconst X57.here hx rfl (hb hby at_82) ?_
      show Steps p.tables e below (T57.setTop (mkF m 83 #[.val (.int p1), .val (.ref b1), .val (.int (3 : Int32)), .val (.ref (ad 3)), .val (.int (1 : Int32)), .unset, .unset, .unset] [(.int (1 : Int32))])) t
      refine XS.goto X57.here hx rfl (pc0 := 83) (pc' := 87) rfl (hb hby at_83) (by decide) (by decide) ?_
      show Steps p.tables e below (T57.setTop (mkF m 87 #[.val (.int p1), .val (.ref b1), .val (.int (3 : Int32)), .val (.ref (ad 3)), .val (.int (1 : Int32)), .unset, .unset, .unset] [(.int (1 : Int32))])) t
      refine XS.istore X57.here hx rfl (hb hby at_87) rfl (l' := #[.val (.int p1), .val (.ref b1), .val (.int (3 : Int32)), .val (.ref (ad 3)), .val (.int (1 : Int32)), .val (.int (1 : Int32)), .unset, .unset]) rfl ?_
      show Steps p.tables e below (T57.setTop (mkF m 89 #[.val (.int p1), .val (.ref b1), .val (.int (3 : Int32)), .val (.ref (ad 3)), .val (.int (1 : Int32)), .val (.int (1 : Int32)), .unset, .unset] [])) t
      refine XS.iload X57.here hx rfl (hb hby at_89) rfl ?_
      show Steps p.tables e below (T57.setTop (mkF m 91 #[.val (.int p1), .val (.ref b1), .val (.int (3 : Int32)), .val (.ref (ad 3)), .val (.int (1 : Int32)), .val (.int (1 : Int32)), .unset, .unset] [(.int (1 : Int32))])) t
      refine XS.ifNo X57.here hx rfl (hb hby at_91) rfl ((if0 _ _).trans (feq (by decide : ¬ (1 : Int32) = (0 : Int32))).1) ?_
      show Steps p.tables e below (T57.setTop (mkF m 94 #[.val (.int p1), .val (.ref b1), .val (.int (3 : Int32)), .val (.ref (ad 3)), .val (.int (1 : Int32)), .val (.int (1 : Int32)), .unset, .unset] [])) t
      refine XS.iload X57.here hx rfl (hb hby at_94) rfl ?_
      show Steps p.tables e below (T57.setTop (mkF m 96 #[.val (.int p1), .val (.ref b1), .val (.int (3 : Int32)), .val (.ref (ad 3)), .val (.int (1 : Int32)), .val (.int (1 : Int32)), .unset, .unset] [(.int (1 : Int32))])) t
      refine XS.ifYes X57.here hx rfl (pc0 := 96) (pc' := 103) rfl (hb hby at_96) rfl ((if0 _ _).trans (feq (by decide : ¬ (1 : Int32) = (0 : Int32))).2) (by decide) (by decide) ?_
      show Steps p.tables e below (T57.setTop (mkF m 103 #[.val (.int p1), .val (.ref b1), .val (.int (3 : Int32)), .val (.ref (ad 3)), .val (.int (1 : Int32)), .val (.int (1 : Int32)), .unset, .unset] [])) t
      refine XS.iconst X57.here hx rfl (hb hby at_103) ?_
      show Steps p.tables e below (T57.setTop (mkF m 104 #[.val (.int p1), .val (.ref b1), .val (.int (3 : Int32)), .val (.ref (ad 3)), .val (.int (1 : Int32)), .val (.int (1 : Int32)), .unset, .unset] [(.int (0 : Int32))])) t
      refine XS.istore X57.here hx rfl (hb hby at_104) rfl (l' := #[.val (.int p1), .val (.ref b1), .val (.int (3 : Int32)), .val (.ref (ad 3)), .val (.int (1 : Int32)), .val (.int (1 : Int32)), .val (.int (0 : Int32)), .unset]) rfl ?_
      show Steps p.tables e below (T57.setTop (mkF m 106 #[.val (.int p1), .val (.ref b1), .val (.int (3 : Int32)), .val (.ref (ad 3)), .val (.int (1 : Int32)), .val (.int (1 : Int32)), .val (.int (0 : Int32)), .unset] [])) t
      refine XS.aloadN X57.here hx rfl (hb hby at_106) rfl rfl ?_
      show Steps p.tables e below (T57.setTop (mkF m 107 #[.val (.int p1), .val (.ref b1), .val (.int (3 : Int32)), .val (.ref (ad 3)), .val (.int (1 : Int32)), .val (.int (1 : Int32)), .val (.int (0 : Int32)), .unset] [(.ref (ad 3))])) t
      exact st62.trans k)
  have ch64 : ∀ t, Steps p.tables e below (T62.setTop (mkF m 138 #[.val (.int p1), .val (.ref b1), .val (.int (3 : Int32)), .val (.ref (ad 3)), .val (.int (1 : Int32)), .val (.int (1 : Int32)), .val (.int (0 : Int32)), .val (.int (0 : Int32))] [(.int (1 : Int32))])) t → Steps p.tables e below (s₁.setTop (entryFrame m #[(.int p1)] maxLocals)) t := fun t k => ch63 t (by
      show Steps p.tables e below (T62.setTop (mkF m 110 #[.val (.int p1), .val (.ref b1), .val (.int (3 : Int32)), .val (.ref (ad 3)), .val (.int (1 : Int32)), .val (.int (1 : Int32)), .val (.int (0 : Int32)), .unset] [(.int (0 : Int32))])) t
      refine XS.istore X62.here hx rfl (hb hby at_110) rfl (l' := #[.val (.int p1), .val (.ref b1), .val (.int (3 : Int32)), .val (.ref (ad 3)), .val (.int (1 : Int32)), .val (.int (1 : Int32)), .val (.int (0 : Int32)), .val (.int (0 : Int32))]) rfl ?_
      show Steps p.tables e below (T62.setTop (mkF m 112 #[.val (.int p1), .val (.ref b1), .val (.int (3 : Int32)), .val (.ref (ad 3)), .val (.int (1 : Int32)), .val (.int (1 : Int32)), .val (.int (0 : Int32)), .val (.int (0 : Int32))] [])) t
      refine XS.iload X62.here hx rfl (hb hby at_112) rfl ?_
      show Steps p.tables e below (T62.setTop (mkF m 114 #[.val (.int p1), .val (.ref b1), .val (.int (3 : Int32)), .val (.ref (ad 3)), .val (.int (1 : Int32)), .val (.int (1 : Int32)), .val (.int (0 : Int32)), .val (.int (0 : Int32))] [(.int (0 : Int32))])) t
      refine XS.iload X62.here hx rfl (hb hby at_114) rfl ?_
      show Steps p.tables e below (T62.setTop (mkF m 116 #[.val (.int p1), .val (.ref b1), .val (.int (3 : Int32)), .val (.ref (ad 3)), .val (.int (1 : Int32)), .val (.int (1 : Int32)), .val (.int (0 : Int32)), .val (.int (0 : Int32))] [(.int (0 : Int32)), (.int (0 : Int32))])) t
      refine XS.icmpYes X62.here hx rfl (pc0 := 116) (pc' := 121) rfl (hb hby at_116) rfl (teq (by decide : (0 : Int32) = (0 : Int32))).1 (by decide) (by decide) ?_
      show Steps p.tables e below (T62.setTop (mkF m 121 #[.val (.int p1), .val (.ref b1), .val (.int (3 : Int32)), .val (.ref (ad 3)), .val (.int (1 : Int32)), .val (.int (1 : Int32)), .val (.int (0 : Int32)), .val (.int (0 : Int32))] [])) t
      refine XS.iload X62.here hx rfl (hb hby at_121) rfl ?_
      show Steps p.tables e below (T62.setTop (mkF m 123 #[.val (.int p1), .val (.ref b1), .val (.int (3 : Int32)), .val (.ref (ad 3)), .val (.int (1 : Int32)), .val (.int (1 : Int32)), .val (.int (0 : Int32)), .val (.int (0 : Int32))] [(.int (0 : Int32))])) t
      refine XS.ifYes X62.here hx rfl (pc0 := 123) (pc' := 133) rfl (hb hby at_123) rfl ((if0 _ _).trans (teq (by decide : (0 : Int32) = (0 : Int32))).1) (by decide) (by decide) ?_
      show Steps p.tables e below (T62.setTop (mkF m 133 #[.val (.int p1), .val (.ref b1), .val (.int (3 : Int32)), .val (.ref (ad 3)), .val (.int (1 : Int32)), .val (.int (1 : Int32)), .val (.int (0 : Int32)), .val (.int (0 : Int32))] [])) t
      refine XS.iconst X62.here hx rfl (hb hby at_133) ?_
      show Steps p.tables e below (T62.setTop (mkF m 134 #[.val (.int p1), .val (.ref b1), .val (.int (3 : Int32)), .val (.ref (ad 3)), .val (.int (1 : Int32)), .val (.int (1 : Int32)), .val (.int (0 : Int32)), .val (.int (0 : Int32))] [(.int (1 : Int32))])) t
      refine XS.goto X62.here hx rfl (pc0 := 134) (pc' := 138) rfl (hb hby at_134) (by decide) (by decide) ?_
      exact k)
  obtain ⟨fs, hr, hrun, hended, hW, hsame⟩ := X62.leave (v := some (.int (1 : Int32))) (fun h => by rw [Bd.returns] at h; cases h)
  refine ⟨_, _, ch64 _ ?_, hrun, hended, _, _, rfl, ?_, ⟨_, rfl⟩, hW, hsame.mono (by decide) (by decide)⟩
  · show Steps p.tables e below (T62.setTop (mkF m 138 #[.val (.int p1), .val (.ref b1), .val (.int (3 : Int32)), .val (.ref (ad 3)), .val (.int (1 : Int32)), .val (.int (1 : Int32)), .val (.int (0 : Int32)), .val (.int (0 : Int32))] [(.int (1 : Int32))])) _
    exact retN X62 hx (t := .boolean) Bd.returns (by simp) (hb hby at_138) hr
  · show QN (some (.int (1 : Int32))) n0 _ T62.heap _
    rw [e62]
    exact ⟨rfl, N62⟩
theorem own_ef_own_miss_4 (m : MethodId) {x0 : Addr} : entryFrame m #[(.ref x0)] 1 = mkF m 0 #[.val (.ref x0)] [] := by first | (simp [entryFrame, mkF, argsToLocals, Value.category, maxLocals]; done) | rfl
set_option maxRecDepth 65536 in
set_option maxHeartbeats 40000000 in
theorem own_miss_4 (l : Launch) (Z : State) (a0 : Array Value) (hw : ∀ d ∈ tables_1, d.before a0 Z = true) (ws : List Jvm.Cond) (h0 : Heap) (n0 : Nat) (Z0 : n0 ≤ h0.size) (ad : Nat → Addr) (W : OwnWd Z h0 ad) :
    MetFree l (⟨own_V, "missesEverySubject", "()Z"⟩ : MethodName) (head1 (Jvm.Cond.code (⟨own_V, "missesEverySubject", "()Z"⟩ : MethodName) prog_34_method_6_code 1 (some .boolean) :: ws) ({ frames := 0, cells := 0, slots := 0, locals := 0 } : Room)) (fun a U => a = #[(.ref (ad 4))] ∧ Z.Warmed39 U.vm ∧ U.heap = h0) (fun _ _ _ _ _ => True) (fun _ U o U' => ∃ v L, o = .returned v ∧ QV (some (.int (1 : Int32))) h0 n0 v U'.heap L ∧ FrameEnd U o U' L ({ frames := 0, cells := 0, slots := 0, locals := 0 } : Room).cells ({ frames := 0, cells := 0, slots := 0, locals := 0 } : Room).slots) := by
  refine MetFree.of_bodySF (plainFor_of_name own_pn_own_Verdict) hisR ?_
  intro p e s m args below meth c s₁ Bd hml0 hP hK
  obtain ⟨rfl, hZ, hh⟩ := hP
  have hx := Bd.exec
  have hby := Bd.bytes
  have hml : c.maxLocals = 1 := hml0
  have hown : s.vm.findClass own_V = some m.cls := (findClass_of_methodNamed Bd.named :)
  have hnm := (name_of_methodNamed Bd.named Bd.method).1
  have X0 : Stand p l e ({ frames := 0, cells := 0, slots := 0, locals := 0 } : Room) s m #[(.ref (ad 4))] below meth c s₁ [] 0 0 := Stand.of_body Bd
  have e0 : s₁.heap = h0 := by rw [← hh, Bd.state]; rfl
  have N0 := Fr.nil n0
  have pre0 : ∀ t, Steps p.tables e below (s₁.setTop (mkF m 0 #[.val (.ref (ad 4))] [])) t → Steps p.tables e below (s₁.setTop (entryFrame m #[(.ref (ad 4))] 1)) t := fun t k => castTop (own_ef_own_miss_4 m) k
  obtain ⟨T1, X1, e1, st1⟩ := getS2 X0 hx hZ hown (host := "") (Or.inl (hw _ (List.mem_of_getElem? (i := 25) rfl))) Via.refl e0 (own_S_DISABLED W) (g := (mkF m 1 #[.val (.ref (ad 4))] [(.ref (ad 4))])) rfl (hb hby own_d_prog_34_method_6_code_1)
  have ch2 : ∀ t, Steps p.tables e below (T1.setTop (mkF m 4 #[.val (.ref (ad 4))] [(.ref (ad 0)), (.ref (ad 4))])) t → Steps p.tables e below (s₁.setTop (entryFrame m #[(.ref (ad 4))] 1)) t := fun t k => pre0 t (by
      show Steps p.tables e below (s₁.setTop (mkF m 0 #[.val (.ref (ad 4))] [])) t
      refine XS.aloadN X0.here hx rfl (hb hby own_d_prog_34_method_6_code_0) rfl rfl ?_
      show Steps p.tables e below (s₁.setTop (mkF m 1 #[.val (.ref (ad 4))] [(.ref (ad 4))])) t
      exact st1 t k)
  obtain ⟨T3, X3, e3, st3⟩ := getS2 X1 hx hZ hown (host := "") (Or.inl (hw _ (List.mem_of_getElem? (i := 33) rfl))) Via.refl e1 (own_S_NO_MATCH_RESOURCE W) (g := (mkF m 8 #[.val (.ref (ad 4))] [(.ref (ad 4))])) rfl (hb hby own_d_prog_34_method_6_code_8)
  have ch4 : ∀ t, Steps p.tables e below (T3.setTop (mkF m 11 #[.val (.ref (ad 4))] [(.ref (ad 1)), (.ref (ad 4))])) t → Steps p.tables e below (s₁.setTop (entryFrame m #[(.ref (ad 4))] 1)) t := fun t k => ch2 t (by
      show Steps p.tables e below (T1.setTop (mkF m 4 #[.val (.ref (ad 4))] [(.ref (ad 0)), (.ref (ad 4))])) t
      refine Jvm.RoadKit.acmp (g := (mkF m 4 #[.val (.ref (ad 4))] [(.ref (ad 0)), (.ref (ad 4))])) X1 hx rfl rfl rfl (pc0 := 4) (pc' := 7) (same := false) rfl (hb hby own_d_prog_34_method_6_code_4) rfl (decide_eq_false fun q => (Fld.ne (own_F_NO_MATCH_CALENDAR_ordinal W) (own_F_DISABLED_ordinal W) (by decide)) (Value.ref.inj q)) (by decide) (by decide) ?_
      show Steps p.tables e below (T1.setTop (mkF m 7 #[.val (.ref (ad 4))] [])) t
      refine XS.aloadN X1.here hx rfl (hb hby own_d_prog_34_method_6_code_7) rfl rfl ?_
      show Steps p.tables e below (T1.setTop (mkF m 8 #[.val (.ref (ad 4))] [(.ref (ad 4))])) t
      exact st3 t k)
  obtain ⟨T5, X5, e5, st5⟩ := getS2 X3 hx hZ hown (host := "") (Or.inl (hw _ (List.mem_of_getElem? (i := 34) rfl))) Via.refl e3 (own_S_NO_MATCH_ACTION W) (g := (mkF m 15 #[.val (.ref (ad 4))] [(.ref (ad 4))])) rfl (hb hby own_d_prog_34_method_6_code_15)
  have ch6 : ∀ t, Steps p.tables e below (T5.setTop (mkF m 18 #[.val (.ref (ad 4))] [(.ref (ad 2)), (.ref (ad 4))])) t → Steps p.tables e below (s₁.setTop (entryFrame m #[(.ref (ad 4))] 1)) t := fun t k => ch4 t (by
      show Steps p.tables e below (T3.setTop (mkF m 11 #[.val (.ref (ad 4))] [(.ref (ad 1)), (.ref (ad 4))])) t
      refine Jvm.RoadKit.acmp (g := (mkF m 11 #[.val (.ref (ad 4))] [(.ref (ad 1)), (.ref (ad 4))])) X3 hx rfl rfl rfl (pc0 := 11) (pc' := 14) (same := false) rfl (hb hby own_d_prog_34_method_6_code_11) rfl (decide_eq_false fun q => (Fld.ne (own_F_NO_MATCH_CALENDAR_ordinal W) (own_F_NO_MATCH_RESOURCE_ordinal W) (by decide)) (Value.ref.inj q)) (by decide) (by decide) ?_
      show Steps p.tables e below (T3.setTop (mkF m 14 #[.val (.ref (ad 4))] [])) t
      refine XS.aloadN X3.here hx rfl (hb hby own_d_prog_34_method_6_code_14) rfl rfl ?_
      show Steps p.tables e below (T3.setTop (mkF m 15 #[.val (.ref (ad 4))] [(.ref (ad 4))])) t
      exact st5 t k)
  obtain ⟨T7, X7, e7, st7⟩ := getS2 X5 hx hZ hown (host := "") (Or.inl (hw _ (List.mem_of_getElem? (i := 35) rfl))) Via.refl e5 (own_S_NO_MATCH_CALENDAR W) (g := (mkF m 22 #[.val (.ref (ad 4))] [(.ref (ad 4))])) rfl (hb hby own_d_prog_34_method_6_code_22)
  have ch8 : ∀ t, Steps p.tables e below (T7.setTop (mkF m 25 #[.val (.ref (ad 4))] [(.ref (ad 4)), (.ref (ad 4))])) t → Steps p.tables e below (s₁.setTop (entryFrame m #[(.ref (ad 4))] 1)) t := fun t k => ch6 t (by
      show Steps p.tables e below (T5.setTop (mkF m 18 #[.val (.ref (ad 4))] [(.ref (ad 2)), (.ref (ad 4))])) t
      refine Jvm.RoadKit.acmp (g := (mkF m 18 #[.val (.ref (ad 4))] [(.ref (ad 2)), (.ref (ad 4))])) X5 hx rfl rfl rfl (pc0 := 18) (pc' := 21) (same := false) rfl (hb hby own_d_prog_34_method_6_code_18) rfl (decide_eq_false fun q => (Fld.ne (own_F_NO_MATCH_CALENDAR_ordinal W) (own_F_NO_MATCH_ACTION_ordinal W) (by decide)) (Value.ref.inj q)) (by decide) (by decide) ?_
      show Steps p.tables e below (T5.setTop (mkF m 21 #[.val (.ref (ad 4))] [])) t
      refine XS.aloadN X5.here hx rfl (hb hby own_d_prog_34_method_6_code_21) rfl rfl ?_
      show Steps p.tables e below (T5.setTop (mkF m 22 #[.val (.ref (ad 4))] [(.ref (ad 4))])) t
      exact st7 t k)
  have ch9 : ∀ t, Steps p.tables e below (T7.setTop (mkF m 33 #[.val (.ref (ad 4))] [(.int (1 : Int32))])) t → Steps p.tables e below (s₁.setTop (entryFrame m #[(.ref (ad 4))] 1)) t := fun t k => ch8 t (by
      show Steps p.tables e below (T7.setTop (mkF m 25 #[.val (.ref (ad 4))] [(.ref (ad 4)), (.ref (ad 4))])) t
      refine Jvm.RoadKit.acmp (g := (mkF m 25 #[.val (.ref (ad 4))] [(.ref (ad 4)), (.ref (ad 4))])) X7 hx rfl rfl rfl (pc0 := 25) (pc' := 28) (same := true) rfl (hb hby own_d_prog_34_method_6_code_25) rfl (decide_eq_true rfl) (by decide) (by decide) ?_
      show Steps p.tables e below (T7.setTop (mkF m 28 #[.val (.ref (ad 4))] [])) t
      refine XS.iconst X7.here hx rfl (hb hby own_d_prog_34_method_6_code_28) ?_
      show Steps p.tables e below (T7.setTop (mkF m 29 #[.val (.ref (ad 4))] [(.int (1 : Int32))])) t
      refine XS.goto X7.here hx rfl (pc0 := 29) (pc' := 33) rfl (hb hby own_d_prog_34_method_6_code_29) (by decide) (by decide) ?_
      exact k)
  obtain ⟨fs, hr, hrun, hended, hW, hsame⟩ := X7.leave (v := some (.int (1 : Int32))) (fun h => by rw [Bd.returns] at h; cases h)
  refine ⟨_, _, ch9 _ ?_, hrun, hended, _, _, rfl, ?_, ⟨_, rfl⟩, hW, hsame.mono (by decide) (by decide)⟩
  · show Steps p.tables e below (T7.setTop (mkF m 33 #[.val (.ref (ad 4))] [(.int (1 : Int32))])) _
    exact retN X7 hx (t := .boolean) Bd.returns (by simp) (hb hby own_d_prog_34_method_6_code_33) hr
  · show QV (some (.int (1 : Int32))) h0 n0 _ T7.heap _
    rw [e7]
    exact ⟨rfl, N0, rfl⟩
theorem own_ef_own_appl_4 (m : MethodId) {x0 : Addr} : entryFrame m #[(.ref x0)] 1 = mkF m 0 #[.val (.ref x0)] [] := by first | (simp [entryFrame, mkF, argsToLocals, Value.category, maxLocals]; done) | rfl
set_option maxRecDepth 65536 in
set_option maxHeartbeats 40000000 in
theorem own_appl_4 (l : Launch) (Z : State) (a0 : Array Value) (hw : ∀ d ∈ tables_1, d.before a0 Z = true) (ws : List Jvm.Cond) (h0 : Heap) (n0 : Nat) (Z0 : n0 ≤ h0.size) (ad : Nat → Addr) (W : OwnWd Z h0 ad) :
    MetFree l (⟨own_V, "applies", "()Z"⟩ : MethodName) (head1 (Jvm.Cond.code (⟨own_V, "applies", "()Z"⟩ : MethodName) prog_34_method_5_code 1 (some .boolean) :: ws) ({ frames := 0, cells := 0, slots := 0, locals := 0 } : Room)) (fun a U => a = #[(.ref (ad 4))] ∧ Z.Warmed39 U.vm ∧ U.heap = h0) (fun _ _ _ _ _ => True) (fun _ U o U' => ∃ v L, o = .returned v ∧ QV (some (.int (0 : Int32))) h0 n0 v U'.heap L ∧ FrameEnd U o U' L ({ frames := 0, cells := 0, slots := 0, locals := 0 } : Room).cells ({ frames := 0, cells := 0, slots := 0, locals := 0 } : Room).slots) := by
  refine MetFree.of_bodySF (plainFor_of_name own_pn_own_Verdict) hisR ?_
  intro p e s m args below meth c s₁ Bd hml0 hP hK
  obtain ⟨rfl, hZ, hh⟩ := hP
  have hx := Bd.exec
  have hby := Bd.bytes
  have hml : c.maxLocals = 1 := hml0
  have hown : s.vm.findClass own_V = some m.cls := (findClass_of_methodNamed Bd.named :)
  have hnm := (name_of_methodNamed Bd.named Bd.method).1
  have X0 : Stand p l e ({ frames := 0, cells := 0, slots := 0, locals := 0 } : Room) s m #[(.ref (ad 4))] below meth c s₁ [] 0 0 := Stand.of_body Bd
  have e0 : s₁.heap = h0 := by rw [← hh, Bd.state]; rfl
  have N0 := Fr.nil n0
  have pre0 : ∀ t, Steps p.tables e below (s₁.setTop (mkF m 0 #[.val (.ref (ad 4))] [])) t → Steps p.tables e below (s₁.setTop (entryFrame m #[(.ref (ad 4))] 1)) t := fun t k => castTop (own_ef_own_appl_4 m) k
  obtain ⟨T1, X1, e1, st1⟩ := getS2 X0 hx hZ hown (host := "") (Or.inl (hw _ (List.mem_of_getElem? (i := 31) rfl))) Via.refl e0 (own_S_MATCHED W) (g := (mkF m 1 #[.val (.ref (ad 4))] [(.ref (ad 4))])) rfl (hb hby own_d_prog_34_method_5_code_1)
  have ch2 : ∀ t, Steps p.tables e below (T1.setTop (mkF m 4 #[.val (.ref (ad 4))] [(.ref (ad 5)), (.ref (ad 4))])) t → Steps p.tables e below (s₁.setTop (entryFrame m #[(.ref (ad 4))] 1)) t := fun t k => pre0 t (by
      show Steps p.tables e below (s₁.setTop (mkF m 0 #[.val (.ref (ad 4))] [])) t
      refine XS.aloadN X0.here hx rfl (hb hby own_d_prog_34_method_5_code_0) rfl rfl ?_
      show Steps p.tables e below (s₁.setTop (mkF m 1 #[.val (.ref (ad 4))] [(.ref (ad 4))])) t
      exact st1 t k)
  obtain ⟨T3, X3, e3, st3⟩ := getS2 X1 hx hZ hown (host := "") (Or.inl (hw _ (List.mem_of_getElem? (i := 32) rfl))) Via.refl e1 (own_S_RETAINED W) (g := (mkF m 8 #[.val (.ref (ad 4))] [(.ref (ad 4))])) rfl (hb hby own_d_prog_34_method_5_code_8)
  have ch4 : ∀ t, Steps p.tables e below (T3.setTop (mkF m 11 #[.val (.ref (ad 4))] [(.ref (ad 6)), (.ref (ad 4))])) t → Steps p.tables e below (s₁.setTop (entryFrame m #[(.ref (ad 4))] 1)) t := fun t k => ch2 t (by
      show Steps p.tables e below (T1.setTop (mkF m 4 #[.val (.ref (ad 4))] [(.ref (ad 5)), (.ref (ad 4))])) t
      refine Jvm.RoadKit.acmp (g := (mkF m 4 #[.val (.ref (ad 4))] [(.ref (ad 5)), (.ref (ad 4))])) X1 hx rfl rfl rfl (pc0 := 4) (pc' := 7) (same := false) rfl (hb hby own_d_prog_34_method_5_code_4) rfl (decide_eq_false fun q => (Fld.ne (own_F_NO_MATCH_CALENDAR_ordinal W) (own_F_MATCHED_ordinal W) (by decide)) (Value.ref.inj q)) (by decide) (by decide) ?_
      show Steps p.tables e below (T1.setTop (mkF m 7 #[.val (.ref (ad 4))] [])) t
      refine XS.aloadN X1.here hx rfl (hb hby own_d_prog_34_method_5_code_7) rfl rfl ?_
      show Steps p.tables e below (T1.setTop (mkF m 8 #[.val (.ref (ad 4))] [(.ref (ad 4))])) t
      exact st3 t k)
  have ch5 : ∀ t, Steps p.tables e below (T3.setTop (mkF m 19 #[.val (.ref (ad 4))] [(.int (0 : Int32))])) t → Steps p.tables e below (s₁.setTop (entryFrame m #[(.ref (ad 4))] 1)) t := fun t k => ch4 t (by
      show Steps p.tables e below (T3.setTop (mkF m 11 #[.val (.ref (ad 4))] [(.ref (ad 6)), (.ref (ad 4))])) t
      refine Jvm.RoadKit.acmp (g := (mkF m 11 #[.val (.ref (ad 4))] [(.ref (ad 6)), (.ref (ad 4))])) X3 hx rfl rfl rfl (pc0 := 11) (pc' := 18) (same := false) rfl (hb hby own_d_prog_34_method_5_code_11) rfl (decide_eq_false fun q => (Fld.ne (own_F_NO_MATCH_CALENDAR_ordinal W) (own_F_RETAINED_ordinal W) (by decide)) (Value.ref.inj q)) (by decide) (by decide) ?_
      show Steps p.tables e below (T3.setTop (mkF m 18 #[.val (.ref (ad 4))] [])) t
      refine XS.iconst X3.here hx rfl (hb hby own_d_prog_34_method_5_code_18) ?_
      exact k)
  obtain ⟨fs, hr, hrun, hended, hW, hsame⟩ := X3.leave (v := some (.int (0 : Int32))) (fun h => by rw [Bd.returns] at h; cases h)
  refine ⟨_, _, ch5 _ ?_, hrun, hended, _, _, rfl, ?_, ⟨_, rfl⟩, hW, hsame.mono (by decide) (by decide)⟩
  · show Steps p.tables e below (T3.setTop (mkF m 19 #[.val (.ref (ad 4))] [(.int (0 : Int32))])) _
    exact retN X3 hx (t := .boolean) Bd.returns (by simp) (hb hby own_d_prog_34_method_5_code_19) hr
  · show QV (some (.int (0 : Int32))) h0 n0 _ T3.heap _
    rw [e3]
    exact ⟨rfl, N0, rfl⟩
theorem own_ef_own_law_4 (m : MethodId) {x0 : Int32} : entryFrame m #[(.int x0)] maxLocals = mkF m 0 #[.val (.int x0), .unset, .unset, .unset, .unset, .unset, .unset, .unset] [] := by first | (simp [entryFrame, mkF, argsToLocals, Value.category, maxLocals]; done) | rfl
set_option maxRecDepth 65536 in
set_option maxHeartbeats 40000000 in
theorem own_law_4 (l : Launch) (Z : State) (a0 : Array Value) (hw : ∀ d ∈ tables_1, d.before a0 Z = true) (ws : List Jvm.Cond) (h0 : Heap) (n0 : Nat) (Z0 : n0 ≤ h0.size) (p1 : Int32) (hk : p1 &&& (7 : Int32) = (4 : Int32)) (ad : Nat → Addr) (W : OwnWd Z h0 ad) :
    MetFree l x (head1 (Jvm.Cond.code x code maxLocals ret :: ws) room_1) (fun a U => a = #[(.int p1)] ∧ Z.Warmed39 U.vm ∧ U.heap = h0) (fun _ _ _ _ _ => True) (fun _ U o U' => ∃ v L, o = .returned v ∧ QN (some (.int (1 : Int32))) n0 v U'.heap L ∧ FrameEnd U o U' L room_1.cells room_1.slots) := by
  refine MetFree.of_bodySF (plainFor_of_name own_pn_own_VerdictMissesEverySubjectPinLaw) hisR ?_
  intro p e s m args below meth c s₁ Bd hml0 hP hK
  obtain ⟨rfl, hZ, hh⟩ := hP
  have hx := Bd.exec
  have hby := Bd.bytes
  have hml : c.maxLocals = 8 := hml0
  have hown : s.vm.findClass own_L = some m.cls := (findClass_of_methodNamed Bd.named :)
  have hnm := (name_of_methodNamed Bd.named Bd.method).1
  have X0 : Stand p l e room_1 s m #[(.int p1)] below meth c s₁ [] 0 0 := Stand.of_body Bd
  have e0 : s₁.heap = h0 := by rw [← hh, Bd.state]; rfl
  have N0 := Fr.nil n0
  have pre0 : ∀ t, Steps p.tables e below (s₁.setTop (mkF m 0 #[.val (.int p1), .unset, .unset, .unset, .unset, .unset, .unset, .unset] [])) t → Steps p.tables e below (s₁.setTop (entryFrame m #[(.int p1)] maxLocals)) t := fun t k => castTop (own_ef_own_law_4 m) k
  obtain ⟨T1, hp1, k1, X1, e1, E1, A1, O1, st1⟩ := newR X0 hx hZ hown (hw _ (List.mem_of_getElem? (i := 0) rfl)) (hw _ (List.mem_of_getElem? (i := 1) rfl)) e0 (g := (mkF m 2 #[.val (.int p1), .unset, .unset, .unset, .unset, .unset, .unset, .unset] [(.int (8 : Int32))])) rfl (hb hby at_2) rfl (by decide) (cap := 8) (by decide) (by decide) (by decide) (by decide)
  obtain ⟨b1, g1⟩ : ∃ z, z = h0.size := ⟨_, rfl⟩
  rw [← g1] at A1 st1
  have ne_ad0_b1 : (ad 0) ≠ b1 := Nat.ne_of_lt (Nat.lt_of_lt_of_le (own_E_DISABLED W).lt (Nat.le_of_eq g1.symm))
  have ne_ad1_b1 : (ad 1) ≠ b1 := Nat.ne_of_lt (Nat.lt_of_lt_of_le (own_E_NO_MATCH_RESOURCE W).lt (Nat.le_of_eq g1.symm))
  have ne_ad2_b1 : (ad 2) ≠ b1 := Nat.ne_of_lt (Nat.lt_of_lt_of_le (own_E_NO_MATCH_ACTION W).lt (Nat.le_of_eq g1.symm))
  have ne_ad3_b1 : (ad 3) ≠ b1 := Nat.ne_of_lt (Nat.lt_of_lt_of_le (own_E_NO_MATCH_IDENTITY W).lt (Nat.le_of_eq g1.symm))
  have ne_ad4_b1 : (ad 4) ≠ b1 := Nat.ne_of_lt (Nat.lt_of_lt_of_le (own_E_NO_MATCH_CALENDAR W).lt (Nat.le_of_eq g1.symm))
  have ne_ad5_b1 : (ad 5) ≠ b1 := Nat.ne_of_lt (Nat.lt_of_lt_of_le (own_E_MATCHED W).lt (Nat.le_of_eq g1.symm))
  have ne_ad6_b1 : (ad 6) ≠ b1 := Nat.ne_of_lt (Nat.lt_of_lt_of_le (own_E_RETAINED W).lt (Nat.le_of_eq g1.symm))
  have ne_ad7_b1 : (ad 7) ≠ b1 := Nat.ne_of_lt (Nat.lt_of_lt_of_le (own_E_DROPPED_BY_BEST_MATCH W).lt (Nat.le_of_eq g1.symm))
  have g_b1 : n0 ≤ b1 := Nat.le_trans (Nat.le_trans Z0 (Keep.refl h0 []).1) (Nat.le_of_eq g1.symm)
  have sz_b1 : h0.size ≤ b1 := Nat.le_trans (Keep.refl h0 []).1 (Nat.le_of_eq g1.symm)
  have Kp1 := Keep.ext (Keep.refl h0 []) E1
  have V1 : Arv Z hp1 b1 k1 (.object own_V) (8 : Int32) [.null, .null, .null, .null, .null, .null, .null, .null] .null := (Arv.new A1 (by decide)).pad (pad_rep [] .null 8)
  have ch2 : ∀ t, Steps p.tables e below (T1.setTop (mkF m 5 #[.val (.int p1), .unset, .unset, .unset, .unset, .unset, .unset, .unset] [(.ref b1)])) t → Steps p.tables e below (s₁.setTop (entryFrame m #[(.int p1)] maxLocals)) t := fun t k => pre0 t (by
      show Steps p.tables e below (s₁.setTop (mkF m 0 #[.val (.int p1), .unset, .unset, .unset, .unset, .unset, .unset, .unset] [])) t
      refine XS.bipush X0.here hx rfl (hb hby at_0) ?_
      show Steps p.tables e below (s₁.setTop (mkF m 2 #[.val (.int p1), .unset, .unset, .unset, .unset, .unset, .unset, .unset] [(.int (8 : Int32))])) t
      exact st1 t k)
  have cf3 := (own_sta_keep (own_S_DISABLED W) Kp1 all0)
  obtain ⟨T4, X4, e4, st4⟩ := getS2 X1 hx hZ hown (host := "") (Or.inl (hw _ (List.mem_of_getElem? (i := 2) rfl))) Via.refl e1 cf3 (g := (mkF m 7 #[.val (.int p1), .unset, .unset, .unset, .unset, .unset, .unset, .unset] [(.int (0 : Int32)), (.ref b1), (.ref b1)])) rfl (hb hby at_7)
  have ch5 : ∀ t, Steps p.tables e below (T4.setTop (mkF m 10 #[.val (.int p1), .unset, .unset, .unset, .unset, .unset, .unset, .unset] [(.ref (ad 0)), (.int (0 : Int32)), (.ref b1), (.ref b1)])) t → Steps p.tables e below (s₁.setTop (entryFrame m #[(.int p1)] maxLocals)) t := fun t k => ch2 t (by
      show Steps p.tables e below (T1.setTop (mkF m 5 #[.val (.int p1), .unset, .unset, .unset, .unset, .unset, .unset, .unset] [(.ref b1)])) t
      refine XS.dup X1.here hx rfl (hb hby at_5) rfl rfl ?_
      show Steps p.tables e below (T1.setTop (mkF m 6 #[.val (.int p1), .unset, .unset, .unset, .unset, .unset, .unset, .unset] [(.ref b1), (.ref b1)])) t
      refine XS.iconst X1.here hx rfl (hb hby at_6) ?_
      show Steps p.tables e below (T1.setTop (mkF m 7 #[.val (.int p1), .unset, .unset, .unset, .unset, .unset, .unset, .unset] [(.int (0 : Int32)), (.ref b1), (.ref b1)])) t
      exact st4 t k)
  obtain ⟨cl6, Ar6, qq6, Sz6, Ng6, Ha6, Ga6⟩ := id V1
  have hin6 : ¬ ((0 : Int32) < 0 ∨ cl6.slots.size ≤ ((0 : Int32)).toNatClampNeg) := inb_of Sz6 (by decide)
  have cf7 := (Exa.keep (own_E_DISABLED W) Kp1)
  obtain ⟨T8, hp8, X8, e8, W8, st8⟩ := stR X4 hx hZ e4 Ar6 (j := (0 : Int32)) hin6 rfl (Sto.ofV Ar6 qq6 O1 (Ins.self cf7)) (g := (mkF m 10 #[.val (.int p1), .unset, .unset, .unset, .unset, .unset, .unset, .unset] [(.ref (ad 0)), (.int (0 : Int32)), (.ref b1), (.ref b1)])) rfl rfl (hb hby at_10)
  have ch9 : ∀ t, Steps p.tables e below (T8.setTop (mkF m 11 #[.val (.int p1), .unset, .unset, .unset, .unset, .unset, .unset, .unset] [(.ref b1)])) t → Steps p.tables e below (s₁.setTop (entryFrame m #[(.int p1)] maxLocals)) t := fun t k => ch5 t (by
      show Steps p.tables e below (T4.setTop (mkF m 10 #[.val (.int p1), .unset, .unset, .unset, .unset, .unset, .unset, .unset] [(.ref (ad 0)), (.int (0 : Int32)), (.ref b1), (.ref b1)])) t
      exact st8 t k)
  have V8 : Arv Z hp8 b1 k1 (.object own_V) (8 : Int32) [(.ref (ad 0)), .null, .null, .null, .null, .null, .null, .null] .null := Arv.set Ar6 qq6 Sz6 Ng6 Ha6 Ga6 rfl W8 0 rfl (Nat.le_of_ble_eq_true rfl)
  have N8 := Fr.snoc X8 N0 g_b1
  have Kp8 := Keep.wr Kp1 W8 (Or.inr sz_b1)
  have cf10 := (own_sta_keep (own_S_NO_MATCH_RESOURCE W) Kp8 all0)
  obtain ⟨T11, X11, e11, st11⟩ := getS2 X8 hx hZ hown (host := "") (Or.inl (hw _ (List.mem_of_getElem? (i := 6) rfl))) Via.refl e8 cf10 (g := (mkF m 13 #[.val (.int p1), .unset, .unset, .unset, .unset, .unset, .unset, .unset] [(.int (1 : Int32)), (.ref b1), (.ref b1)])) rfl (hb hby at_13)
  have ch12 : ∀ t, Steps p.tables e below (T11.setTop (mkF m 16 #[.val (.int p1), .unset, .unset, .unset, .unset, .unset, .unset, .unset] [(.ref (ad 1)), (.int (1 : Int32)), (.ref b1), (.ref b1)])) t → Steps p.tables e below (s₁.setTop (entryFrame m #[(.int p1)] maxLocals)) t := fun t k => ch9 t (by
      show Steps p.tables e below (T8.setTop (mkF m 11 #[.val (.int p1), .unset, .unset, .unset, .unset, .unset, .unset, .unset] [(.ref b1)])) t
      refine XS.dup X8.here hx rfl (hb hby at_11) rfl rfl ?_
      show Steps p.tables e below (T8.setTop (mkF m 12 #[.val (.int p1), .unset, .unset, .unset, .unset, .unset, .unset, .unset] [(.ref b1), (.ref b1)])) t
      refine XS.iconst X8.here hx rfl (hb hby at_12) ?_
      show Steps p.tables e below (T8.setTop (mkF m 13 #[.val (.int p1), .unset, .unset, .unset, .unset, .unset, .unset, .unset] [(.int (1 : Int32)), (.ref b1), (.ref b1)])) t
      exact st11 t k)
  obtain ⟨cl13, Ar13, qq13, Sz13, Ng13, Ha13, Ga13⟩ := id V8
  have hin13 : ¬ ((1 : Int32) < 0 ∨ cl13.slots.size ≤ ((1 : Int32)).toNatClampNeg) := inb_of Sz13 (by decide)
  have cf14 := (Exa.keep (own_E_NO_MATCH_RESOURCE W) Kp8)
  obtain ⟨T15, hp15, X15, e15, W15, st15⟩ := stR X11 hx hZ e11 Ar13 (j := (1 : Int32)) hin13 rfl (Sto.ofV Ar13 qq13 O1 (Ins.self cf14)) (g := (mkF m 16 #[.val (.int p1), .unset, .unset, .unset, .unset, .unset, .unset, .unset] [(.ref (ad 1)), (.int (1 : Int32)), (.ref b1), (.ref b1)])) rfl rfl (hb hby at_16)
  have ch16 : ∀ t, Steps p.tables e below (T15.setTop (mkF m 17 #[.val (.int p1), .unset, .unset, .unset, .unset, .unset, .unset, .unset] [(.ref b1)])) t → Steps p.tables e below (s₁.setTop (entryFrame m #[(.int p1)] maxLocals)) t := fun t k => ch12 t (by
      show Steps p.tables e below (T11.setTop (mkF m 16 #[.val (.int p1), .unset, .unset, .unset, .unset, .unset, .unset, .unset] [(.ref (ad 1)), (.int (1 : Int32)), (.ref b1), (.ref b1)])) t
      exact st15 t k)
  have V15 : Arv Z hp15 b1 k1 (.object own_V) (8 : Int32) [(.ref (ad 0)), (.ref (ad 1)), .null, .null, .null, .null, .null, .null] .null := Arv.set Ar13 qq13 Sz13 Ng13 Ha13 Ga13 rfl W15 1 rfl (Nat.le_of_ble_eq_true rfl)
  have N15 := Fr.snoc X15 N8 g_b1
  have Kp15 := Keep.wr Kp8 W15 (Or.inr sz_b1)
  have cf17 := (own_sta_keep (own_S_NO_MATCH_ACTION W) Kp15 all0)
  obtain ⟨T18, X18, e18, st18⟩ := getS2 X15 hx hZ hown (host := "") (Or.inl (hw _ (List.mem_of_getElem? (i := 8) rfl))) Via.refl e15 cf17 (g := (mkF m 19 #[.val (.int p1), .unset, .unset, .unset, .unset, .unset, .unset, .unset] [(.int (2 : Int32)), (.ref b1), (.ref b1)])) rfl (hb hby at_19)
  have ch19 : ∀ t, Steps p.tables e below (T18.setTop (mkF m 22 #[.val (.int p1), .unset, .unset, .unset, .unset, .unset, .unset, .unset] [(.ref (ad 2)), (.int (2 : Int32)), (.ref b1), (.ref b1)])) t → Steps p.tables e below (s₁.setTop (entryFrame m #[(.int p1)] maxLocals)) t := fun t k => ch16 t (by
      show Steps p.tables e below (T15.setTop (mkF m 17 #[.val (.int p1), .unset, .unset, .unset, .unset, .unset, .unset, .unset] [(.ref b1)])) t
      refine XS.dup X15.here hx rfl (hb hby at_17) rfl rfl ?_
      show Steps p.tables e below (T15.setTop (mkF m 18 #[.val (.int p1), .unset, .unset, .unset, .unset, .unset, .unset, .unset] [(.ref b1), (.ref b1)])) t
      refine XS.iconst X15.here hx rfl (hb hby at_18) ?_
      show Steps p.tables e below (T15.setTop (mkF m 19 #[.val (.int p1), .unset, .unset, .unset, .unset, .unset, .unset, .unset] [(.int (2 : Int32)), (.ref b1), (.ref b1)])) t
      exact st18 t k)
  obtain ⟨cl20, Ar20, qq20, Sz20, Ng20, Ha20, Ga20⟩ := id V15
  have hin20 : ¬ ((2 : Int32) < 0 ∨ cl20.slots.size ≤ ((2 : Int32)).toNatClampNeg) := inb_of Sz20 (by decide)
  have cf21 := (Exa.keep (own_E_NO_MATCH_ACTION W) Kp15)
  obtain ⟨T22, hp22, X22, e22, W22, st22⟩ := stR X18 hx hZ e18 Ar20 (j := (2 : Int32)) hin20 rfl (Sto.ofV Ar20 qq20 O1 (Ins.self cf21)) (g := (mkF m 22 #[.val (.int p1), .unset, .unset, .unset, .unset, .unset, .unset, .unset] [(.ref (ad 2)), (.int (2 : Int32)), (.ref b1), (.ref b1)])) rfl rfl (hb hby at_22)
  have ch23 : ∀ t, Steps p.tables e below (T22.setTop (mkF m 23 #[.val (.int p1), .unset, .unset, .unset, .unset, .unset, .unset, .unset] [(.ref b1)])) t → Steps p.tables e below (s₁.setTop (entryFrame m #[(.int p1)] maxLocals)) t := fun t k => ch19 t (by
      show Steps p.tables e below (T18.setTop (mkF m 22 #[.val (.int p1), .unset, .unset, .unset, .unset, .unset, .unset, .unset] [(.ref (ad 2)), (.int (2 : Int32)), (.ref b1), (.ref b1)])) t
      exact st22 t k)
  have V22 : Arv Z hp22 b1 k1 (.object own_V) (8 : Int32) [(.ref (ad 0)), (.ref (ad 1)), (.ref (ad 2)), .null, .null, .null, .null, .null] .null := Arv.set Ar20 qq20 Sz20 Ng20 Ha20 Ga20 rfl W22 2 rfl (Nat.le_of_ble_eq_true rfl)
  have N22 := Fr.snoc X22 N15 g_b1
  have Kp22 := Keep.wr Kp15 W22 (Or.inr sz_b1)
  have cf24 := (own_sta_keep (own_S_NO_MATCH_IDENTITY W) Kp22 all0)
  obtain ⟨T25, X25, e25, st25⟩ := getS2 X22 hx hZ hown (host := "") (Or.inl (hw _ (List.mem_of_getElem? (i := 10) rfl))) Via.refl e22 cf24 (g := (mkF m 25 #[.val (.int p1), .unset, .unset, .unset, .unset, .unset, .unset, .unset] [(.int (3 : Int32)), (.ref b1), (.ref b1)])) rfl (hb hby at_25)
  have ch26 : ∀ t, Steps p.tables e below (T25.setTop (mkF m 28 #[.val (.int p1), .unset, .unset, .unset, .unset, .unset, .unset, .unset] [(.ref (ad 3)), (.int (3 : Int32)), (.ref b1), (.ref b1)])) t → Steps p.tables e below (s₁.setTop (entryFrame m #[(.int p1)] maxLocals)) t := fun t k => ch23 t (by
      show Steps p.tables e below (T22.setTop (mkF m 23 #[.val (.int p1), .unset, .unset, .unset, .unset, .unset, .unset, .unset] [(.ref b1)])) t
      refine XS.dup X22.here hx rfl (hb hby at_23) rfl rfl ?_
      show Steps p.tables e below (T22.setTop (mkF m 24 #[.val (.int p1), .unset, .unset, .unset, .unset, .unset, .unset, .unset] [(.ref b1), (.ref b1)])) t
      refine XS.iconst X22.here hx rfl (hb hby at_24) ?_
      show Steps p.tables e below (T22.setTop (mkF m 25 #[.val (.int p1), .unset, .unset, .unset, .unset, .unset, .unset, .unset] [(.int (3 : Int32)), (.ref b1), (.ref b1)])) t
      exact st25 t k)
  obtain ⟨cl27, Ar27, qq27, Sz27, Ng27, Ha27, Ga27⟩ := id V22
  have hin27 : ¬ ((3 : Int32) < 0 ∨ cl27.slots.size ≤ ((3 : Int32)).toNatClampNeg) := inb_of Sz27 (by decide)
  have cf28 := (Exa.keep (own_E_NO_MATCH_IDENTITY W) Kp22)
  obtain ⟨T29, hp29, X29, e29, W29, st29⟩ := stR X25 hx hZ e25 Ar27 (j := (3 : Int32)) hin27 rfl (Sto.ofV Ar27 qq27 O1 (Ins.self cf28)) (g := (mkF m 28 #[.val (.int p1), .unset, .unset, .unset, .unset, .unset, .unset, .unset] [(.ref (ad 3)), (.int (3 : Int32)), (.ref b1), (.ref b1)])) rfl rfl (hb hby at_28)
  have ch30 : ∀ t, Steps p.tables e below (T29.setTop (mkF m 29 #[.val (.int p1), .unset, .unset, .unset, .unset, .unset, .unset, .unset] [(.ref b1)])) t → Steps p.tables e below (s₁.setTop (entryFrame m #[(.int p1)] maxLocals)) t := fun t k => ch26 t (by
      show Steps p.tables e below (T25.setTop (mkF m 28 #[.val (.int p1), .unset, .unset, .unset, .unset, .unset, .unset, .unset] [(.ref (ad 3)), (.int (3 : Int32)), (.ref b1), (.ref b1)])) t
      exact st29 t k)
  have V29 : Arv Z hp29 b1 k1 (.object own_V) (8 : Int32) [(.ref (ad 0)), (.ref (ad 1)), (.ref (ad 2)), (.ref (ad 3)), .null, .null, .null, .null] .null := Arv.set Ar27 qq27 Sz27 Ng27 Ha27 Ga27 rfl W29 3 rfl (Nat.le_of_ble_eq_true rfl)
  have N29 := Fr.snoc X29 N22 g_b1
  have Kp29 := Keep.wr Kp22 W29 (Or.inr sz_b1)
  have cf31 := (own_sta_keep (own_S_NO_MATCH_CALENDAR W) Kp29 all0)
  obtain ⟨T32, X32, e32, st32⟩ := getS2 X29 hx hZ hown (host := "") (Or.inl (hw _ (List.mem_of_getElem? (i := 12) rfl))) Via.refl e29 cf31 (g := (mkF m 31 #[.val (.int p1), .unset, .unset, .unset, .unset, .unset, .unset, .unset] [(.int (4 : Int32)), (.ref b1), (.ref b1)])) rfl (hb hby at_31)
  have ch33 : ∀ t, Steps p.tables e below (T32.setTop (mkF m 34 #[.val (.int p1), .unset, .unset, .unset, .unset, .unset, .unset, .unset] [(.ref (ad 4)), (.int (4 : Int32)), (.ref b1), (.ref b1)])) t → Steps p.tables e below (s₁.setTop (entryFrame m #[(.int p1)] maxLocals)) t := fun t k => ch30 t (by
      show Steps p.tables e below (T29.setTop (mkF m 29 #[.val (.int p1), .unset, .unset, .unset, .unset, .unset, .unset, .unset] [(.ref b1)])) t
      refine XS.dup X29.here hx rfl (hb hby at_29) rfl rfl ?_
      show Steps p.tables e below (T29.setTop (mkF m 30 #[.val (.int p1), .unset, .unset, .unset, .unset, .unset, .unset, .unset] [(.ref b1), (.ref b1)])) t
      refine XS.iconst X29.here hx rfl (hb hby at_30) ?_
      show Steps p.tables e below (T29.setTop (mkF m 31 #[.val (.int p1), .unset, .unset, .unset, .unset, .unset, .unset, .unset] [(.int (4 : Int32)), (.ref b1), (.ref b1)])) t
      exact st32 t k)
  obtain ⟨cl34, Ar34, qq34, Sz34, Ng34, Ha34, Ga34⟩ := id V29
  have hin34 : ¬ ((4 : Int32) < 0 ∨ cl34.slots.size ≤ ((4 : Int32)).toNatClampNeg) := inb_of Sz34 (by decide)
  have cf35 := (Exa.keep (own_E_NO_MATCH_CALENDAR W) Kp29)
  obtain ⟨T36, hp36, X36, e36, W36, st36⟩ := stR X32 hx hZ e32 Ar34 (j := (4 : Int32)) hin34 rfl (Sto.ofV Ar34 qq34 O1 (Ins.self cf35)) (g := (mkF m 34 #[.val (.int p1), .unset, .unset, .unset, .unset, .unset, .unset, .unset] [(.ref (ad 4)), (.int (4 : Int32)), (.ref b1), (.ref b1)])) rfl rfl (hb hby at_34)
  have ch37 : ∀ t, Steps p.tables e below (T36.setTop (mkF m 35 #[.val (.int p1), .unset, .unset, .unset, .unset, .unset, .unset, .unset] [(.ref b1)])) t → Steps p.tables e below (s₁.setTop (entryFrame m #[(.int p1)] maxLocals)) t := fun t k => ch33 t (by
      show Steps p.tables e below (T32.setTop (mkF m 34 #[.val (.int p1), .unset, .unset, .unset, .unset, .unset, .unset, .unset] [(.ref (ad 4)), (.int (4 : Int32)), (.ref b1), (.ref b1)])) t
      exact st36 t k)
  have V36 : Arv Z hp36 b1 k1 (.object own_V) (8 : Int32) [(.ref (ad 0)), (.ref (ad 1)), (.ref (ad 2)), (.ref (ad 3)), (.ref (ad 4)), .null, .null, .null] .null := Arv.set Ar34 qq34 Sz34 Ng34 Ha34 Ga34 rfl W36 4 rfl (Nat.le_of_ble_eq_true rfl)
  have N36 := Fr.snoc X36 N29 g_b1
  have Kp36 := Keep.wr Kp29 W36 (Or.inr sz_b1)
  have cf38 := (own_sta_keep (own_S_MATCHED W) Kp36 all0)
  obtain ⟨T39, X39, e39, st39⟩ := getS2 X36 hx hZ hown (host := "") (Or.inl (hw _ (List.mem_of_getElem? (i := 14) rfl))) Via.refl e36 cf38 (g := (mkF m 37 #[.val (.int p1), .unset, .unset, .unset, .unset, .unset, .unset, .unset] [(.int (5 : Int32)), (.ref b1), (.ref b1)])) rfl (hb hby at_37)
  have ch40 : ∀ t, Steps p.tables e below (T39.setTop (mkF m 40 #[.val (.int p1), .unset, .unset, .unset, .unset, .unset, .unset, .unset] [(.ref (ad 5)), (.int (5 : Int32)), (.ref b1), (.ref b1)])) t → Steps p.tables e below (s₁.setTop (entryFrame m #[(.int p1)] maxLocals)) t := fun t k => ch37 t (by
      show Steps p.tables e below (T36.setTop (mkF m 35 #[.val (.int p1), .unset, .unset, .unset, .unset, .unset, .unset, .unset] [(.ref b1)])) t
      refine XS.dup X36.here hx rfl (hb hby at_35) rfl rfl ?_
      show Steps p.tables e below (T36.setTop (mkF m 36 #[.val (.int p1), .unset, .unset, .unset, .unset, .unset, .unset, .unset] [(.ref b1), (.ref b1)])) t
      refine XS.iconst X36.here hx rfl (hb hby at_36) ?_
      show Steps p.tables e below (T36.setTop (mkF m 37 #[.val (.int p1), .unset, .unset, .unset, .unset, .unset, .unset, .unset] [(.int (5 : Int32)), (.ref b1), (.ref b1)])) t
      exact st39 t k)
  obtain ⟨cl41, Ar41, qq41, Sz41, Ng41, Ha41, Ga41⟩ := id V36
  have hin41 : ¬ ((5 : Int32) < 0 ∨ cl41.slots.size ≤ ((5 : Int32)).toNatClampNeg) := inb_of Sz41 (by decide)
  have cf42 := (Exa.keep (own_E_MATCHED W) Kp36)
  obtain ⟨T43, hp43, X43, e43, W43, st43⟩ := stR X39 hx hZ e39 Ar41 (j := (5 : Int32)) hin41 rfl (Sto.ofV Ar41 qq41 O1 (Ins.self cf42)) (g := (mkF m 40 #[.val (.int p1), .unset, .unset, .unset, .unset, .unset, .unset, .unset] [(.ref (ad 5)), (.int (5 : Int32)), (.ref b1), (.ref b1)])) rfl rfl (hb hby at_40)
  have ch44 : ∀ t, Steps p.tables e below (T43.setTop (mkF m 41 #[.val (.int p1), .unset, .unset, .unset, .unset, .unset, .unset, .unset] [(.ref b1)])) t → Steps p.tables e below (s₁.setTop (entryFrame m #[(.int p1)] maxLocals)) t := fun t k => ch40 t (by
      show Steps p.tables e below (T39.setTop (mkF m 40 #[.val (.int p1), .unset, .unset, .unset, .unset, .unset, .unset, .unset] [(.ref (ad 5)), (.int (5 : Int32)), (.ref b1), (.ref b1)])) t
      exact st43 t k)
  have V43 : Arv Z hp43 b1 k1 (.object own_V) (8 : Int32) [(.ref (ad 0)), (.ref (ad 1)), (.ref (ad 2)), (.ref (ad 3)), (.ref (ad 4)), (.ref (ad 5)), .null, .null] .null := Arv.set Ar41 qq41 Sz41 Ng41 Ha41 Ga41 rfl W43 5 rfl (Nat.le_of_ble_eq_true rfl)
  have N43 := Fr.snoc X43 N36 g_b1
  have Kp43 := Keep.wr Kp36 W43 (Or.inr sz_b1)
  have cf45 := (own_sta_keep (own_S_RETAINED W) Kp43 all0)
  obtain ⟨T46, X46, e46, st46⟩ := getS2 X43 hx hZ hown (host := "") (Or.inl (hw _ (List.mem_of_getElem? (i := 16) rfl))) Via.refl e43 cf45 (g := (mkF m 44 #[.val (.int p1), .unset, .unset, .unset, .unset, .unset, .unset, .unset] [(.int (6 : Int32)), (.ref b1), (.ref b1)])) rfl (hb hby at_44)
  have ch47 : ∀ t, Steps p.tables e below (T46.setTop (mkF m 47 #[.val (.int p1), .unset, .unset, .unset, .unset, .unset, .unset, .unset] [(.ref (ad 6)), (.int (6 : Int32)), (.ref b1), (.ref b1)])) t → Steps p.tables e below (s₁.setTop (entryFrame m #[(.int p1)] maxLocals)) t := fun t k => ch44 t (by
      show Steps p.tables e below (T43.setTop (mkF m 41 #[.val (.int p1), .unset, .unset, .unset, .unset, .unset, .unset, .unset] [(.ref b1)])) t
      refine XS.dup X43.here hx rfl (hb hby at_41) rfl rfl ?_
      show Steps p.tables e below (T43.setTop (mkF m 42 #[.val (.int p1), .unset, .unset, .unset, .unset, .unset, .unset, .unset] [(.ref b1), (.ref b1)])) t
      refine XS.bipush X43.here hx rfl (hb hby at_42) ?_
      show Steps p.tables e below (T43.setTop (mkF m 44 #[.val (.int p1), .unset, .unset, .unset, .unset, .unset, .unset, .unset] [(.int (6 : Int32)), (.ref b1), (.ref b1)])) t
      exact st46 t k)
  obtain ⟨cl48, Ar48, qq48, Sz48, Ng48, Ha48, Ga48⟩ := id V43
  have hin48 : ¬ ((6 : Int32) < 0 ∨ cl48.slots.size ≤ ((6 : Int32)).toNatClampNeg) := inb_of Sz48 (by decide)
  have cf49 := (Exa.keep (own_E_RETAINED W) Kp43)
  obtain ⟨T50, hp50, X50, e50, W50, st50⟩ := stR X46 hx hZ e46 Ar48 (j := (6 : Int32)) hin48 rfl (Sto.ofV Ar48 qq48 O1 (Ins.self cf49)) (g := (mkF m 47 #[.val (.int p1), .unset, .unset, .unset, .unset, .unset, .unset, .unset] [(.ref (ad 6)), (.int (6 : Int32)), (.ref b1), (.ref b1)])) rfl rfl (hb hby at_47)
  have ch51 : ∀ t, Steps p.tables e below (T50.setTop (mkF m 48 #[.val (.int p1), .unset, .unset, .unset, .unset, .unset, .unset, .unset] [(.ref b1)])) t → Steps p.tables e below (s₁.setTop (entryFrame m #[(.int p1)] maxLocals)) t := fun t k => ch47 t (by
      show Steps p.tables e below (T46.setTop (mkF m 47 #[.val (.int p1), .unset, .unset, .unset, .unset, .unset, .unset, .unset] [(.ref (ad 6)), (.int (6 : Int32)), (.ref b1), (.ref b1)])) t
      exact st50 t k)
  have V50 : Arv Z hp50 b1 k1 (.object own_V) (8 : Int32) [(.ref (ad 0)), (.ref (ad 1)), (.ref (ad 2)), (.ref (ad 3)), (.ref (ad 4)), (.ref (ad 5)), (.ref (ad 6)), .null] .null := Arv.set Ar48 qq48 Sz48 Ng48 Ha48 Ga48 rfl W50 6 rfl (Nat.le_of_ble_eq_true rfl)
  have N50 := Fr.snoc X50 N43 g_b1
  have Kp50 := Keep.wr Kp43 W50 (Or.inr sz_b1)
  have cf52 := (own_sta_keep (own_S_DROPPED_BY_BEST_MATCH W) Kp50 all0)
  obtain ⟨T53, X53, e53, st53⟩ := getS2 X50 hx hZ hown (host := "") (Or.inl (hw _ (List.mem_of_getElem? (i := 18) rfl))) Via.refl e50 cf52 (g := (mkF m 51 #[.val (.int p1), .unset, .unset, .unset, .unset, .unset, .unset, .unset] [(.int (7 : Int32)), (.ref b1), (.ref b1)])) rfl (hb hby at_51)
  have ch54 : ∀ t, Steps p.tables e below (T53.setTop (mkF m 54 #[.val (.int p1), .unset, .unset, .unset, .unset, .unset, .unset, .unset] [(.ref (ad 7)), (.int (7 : Int32)), (.ref b1), (.ref b1)])) t → Steps p.tables e below (s₁.setTop (entryFrame m #[(.int p1)] maxLocals)) t := fun t k => ch51 t (by
      show Steps p.tables e below (T50.setTop (mkF m 48 #[.val (.int p1), .unset, .unset, .unset, .unset, .unset, .unset, .unset] [(.ref b1)])) t
      refine XS.dup X50.here hx rfl (hb hby at_48) rfl rfl ?_
      show Steps p.tables e below (T50.setTop (mkF m 49 #[.val (.int p1), .unset, .unset, .unset, .unset, .unset, .unset, .unset] [(.ref b1), (.ref b1)])) t
      refine XS.bipush X50.here hx rfl (hb hby at_49) ?_
      show Steps p.tables e below (T50.setTop (mkF m 51 #[.val (.int p1), .unset, .unset, .unset, .unset, .unset, .unset, .unset] [(.int (7 : Int32)), (.ref b1), (.ref b1)])) t
      exact st53 t k)
  obtain ⟨cl55, Ar55, qq55, Sz55, Ng55, Ha55, Ga55⟩ := id V50
  have hin55 : ¬ ((7 : Int32) < 0 ∨ cl55.slots.size ≤ ((7 : Int32)).toNatClampNeg) := inb_of Sz55 (by decide)
  have cf56 := (Exa.keep (own_E_DROPPED_BY_BEST_MATCH W) Kp50)
  obtain ⟨T57, hp57, X57, e57, W57, st57⟩ := stR X53 hx hZ e53 Ar55 (j := (7 : Int32)) hin55 rfl (Sto.ofV Ar55 qq55 O1 (Ins.self cf56)) (g := (mkF m 54 #[.val (.int p1), .unset, .unset, .unset, .unset, .unset, .unset, .unset] [(.ref (ad 7)), (.int (7 : Int32)), (.ref b1), (.ref b1)])) rfl rfl (hb hby at_54)
  have ch58 : ∀ t, Steps p.tables e below (T57.setTop (mkF m 55 #[.val (.int p1), .unset, .unset, .unset, .unset, .unset, .unset, .unset] [(.ref b1)])) t → Steps p.tables e below (s₁.setTop (entryFrame m #[(.int p1)] maxLocals)) t := fun t k => ch54 t (by
      show Steps p.tables e below (T53.setTop (mkF m 54 #[.val (.int p1), .unset, .unset, .unset, .unset, .unset, .unset, .unset] [(.ref (ad 7)), (.int (7 : Int32)), (.ref b1), (.ref b1)])) t
      exact st57 t k)
  have V57 : Arv Z hp57 b1 k1 (.object own_V) (8 : Int32) [(.ref (ad 0)), (.ref (ad 1)), (.ref (ad 2)), (.ref (ad 3)), (.ref (ad 4)), (.ref (ad 5)), (.ref (ad 6)), (.ref (ad 7))] .null := Arv.set Ar55 qq55 Sz55 Ng55 Ha55 Ga55 rfl W57 7 rfl (Nat.le_of_ble_eq_true rfl)
  have N57 := Fr.snoc X57 N50 g_b1
  have Kp57 := Keep.wr Kp50 W57 (Or.inr sz_b1)
  obtain ⟨cl59, Ar59, -, Sz59, Ng59, Ha59, -⟩ := id V57
  have hin59 : ¬ ((4 : Int32) < 0 ∨ cl59.slots.size ≤ ((4 : Int32)).toNatClampNeg) := inb_of Sz59 (by decide)
  have hat59 : cl59.slots[((4 : Int32)).toNatClampNeg]? = some (.ref (ad 4)) := Ha59.at hin59 rfl
  have cf61 := (Exa.wr W57 (Exa.wr W50 (Exa.wr W43 (Exa.wr W36 cf35))))
  obtain ⟨cq60, kq60, qa60, qb60, qc60⟩ := isOf hZ e57 cf61
  obtain ⟨vv62, _, ⟨T62, L62, kk62, nn62⟩, -, X62, ⟨Lc62, hQ62, l62, y62, z62⟩, st62⟩ := X57.virtualBack hx (y := (⟨own_V, "missesEverySubject", "()Z"⟩ : MethodName)) (z := (⟨own_V, "missesEverySubject", "()Z"⟩ : MethodName)) hown (mvT hZ (hw _ (List.mem_of_getElem? (i := 20) rfl))) (mvT hZ (hw _ (List.mem_of_getElem? (i := 21) rfl))) (notFace_of_selects (args := #[]) (mvT hZ (hw _ (List.mem_of_getElem? (i := 23) rfl)))) (mvT hZ (hw _ (List.mem_of_getElem? (i := 23) rfl))) (mvT hZ (hw _ (List.mem_of_getElem? (i := 22) rfl))) (by decide) (backOf (W := 0) (own_miss_4 l Z a0 hw [] hp57 n0 (Nat.le_trans Z0 Kp57.1) ad (own_Wd_ext W (own_ext_of_keep Kp57 all0))) hZ (hw _ (List.mem_of_getElem? (i := 24) rfl)) (hw _ (List.mem_of_getElem? (i := 3) rfl)) (by decide) (by decide)) qa60 qc60 (g := (mkF m 107 #[.val (.int p1), .val (.ref b1), .val (.int (4 : Int32)), .val (.ref (ad 4)), .val (.int (1 : Int32)), .val (.int (0 : Int32)), .val (.int (1 : Int32)), .unset] [(.ref (ad 4))])) rfl (by rw [hml]; rfl) (Steps.refl _) (argsL := []) (rest := []) (lenOf own_pd___Z rfl) rfl (by show 2 * 0 + _ ≤ _; exact Nat.le_of_eq rfl) (hb hby at_107) (fun _ _ => ⟨rfl, e57, (by decide : 1 + 0 ≤ _), (by decide : 8 + 0 ≤ _)⟩)
  dsimp only [Pt.U, Pt.locs, Pt.cells, Pt.slots] at X62 l62 y62 z62 st62 hQ62
  subst l62 y62 z62
  obtain ⟨rfl, Nq62, e62⟩ := hQ62
  have N62 := Fr.app N57 Nq62
  have ch63 : ∀ t, Steps p.tables e below (T62.setTop (mkF m 110 #[.val (.int p1), .val (.ref b1), .val (.int (4 : Int32)), .val (.ref (ad 4)), .val (.int (1 : Int32)), .val (.int (0 : Int32)), .val (.int (1 : Int32)), .unset] [(.int (1 : Int32))])) t → Steps p.tables e below (s₁.setTop (entryFrame m #[(.int p1)] maxLocals)) t := fun t k => ch58 t (by
      show Steps p.tables e below (T57.setTop (mkF m 55 #[.val (.int p1), .unset, .unset, .unset, .unset, .unset, .unset, .unset] [(.ref b1)])) t
      refine XS.astoreN X57.here hx rfl (hb hby at_55) rfl rfl (l' := #[.val (.int p1), .val (.ref b1), .unset, .unset, .unset, .unset, .unset, .unset]) rfl ?_
      show Steps p.tables e below (T57.setTop (mkF m 56 #[.val (.int p1), .val (.ref b1), .unset, .unset, .unset, .unset, .unset, .unset] [])) t
      refine XS.iloadN X57.here hx rfl (hb hby at_56) rfl ?_
      show Steps p.tables e below (T57.setTop (mkF m 57 #[.val (.int p1), .val (.ref b1), .unset, .unset, .unset, .unset, .unset, .unset] [(.int p1)])) t
      refine XS.bipush X57.here hx rfl (hb hby at_57) ?_
      show Steps p.tables e below (T57.setTop (mkF m 59 #[.val (.int p1), .val (.ref b1), .unset, .unset, .unset, .unset, .unset, .unset] [(.int (7 : Int32)), (.int p1)])) t
      refine XS.iand X57.here hx rfl (hb hby at_59) rfl ?_
      rw [hk]
      show Steps p.tables e below (T57.setTop (mkF m 60 #[.val (.int p1), .val (.ref b1), .unset, .unset, .unset, .unset, .unset, .unset] [(.int (4 : Int32))])) t
      refine XS.istoreN X57.here hx rfl (hb hby at_60) rfl (l' := #[.val (.int p1), .val (.ref b1), .val (.int (4 : Int32)), .unset, .unset, .unset, .unset, .unset]) rfl ?_
      show Steps p.tables e below (T57.setTop (mkF m 61 #[.val (.int p1), .val (.ref b1), .val (.int (4 : Int32)), .unset, .unset, .unset, .unset, .unset] [])) t
      refine XS.aloadN X57.here hx rfl (hb hby at_61) rfl rfl ?_
      show Steps p.tables e below (T57.setTop (mkF m 62 #[.val (.int p1), .val (.ref b1), .val (.int (4 : Int32)), .unset, .unset, .unset, .unset, .unset] [(.ref b1)])) t
      refine XS.iloadN X57.here hx rfl (hb hby at_62) rfl ?_
      show Steps p.tables e below (T57.setTop (mkF m 63 #[.val (.int p1), .val (.ref b1), .val (.int (4 : Int32)), .unset, .unset, .unset, .unset, .unset] [(.int (4 : Int32)), (.ref b1)])) t
      refine X57.aaload hx (j := (4 : Int32)) (v := (.ref (ad 4))) (by rw [e57]; exact Ar59.1) (State.isArrayOf_alike hZ.alike Ar59.2.1) rfl Ar59.2.2 hin59 hat59 (g := (mkF m 63 #[.val (.int p1), .val (.ref b1), .val (.int (4 : Int32)), .unset, .unset, .unset, .unset, .unset] [(.int (4 : Int32)), (.ref b1)])) rfl rfl (hb hby at_63) _ ?_
      show Steps p.tables e below (T57.setTop (mkF m 64 #[.val (.int p1), .val (.ref b1), .val (.int (4 : Int32)), .unset, .unset, .unset, .unset, .unset] [(.ref (ad 4))])) t
      refine XS.astoreN X57.here hx rfl (hb hby at_64) rfl rfl (l' := #[.val (.int p1), .val (.ref b1), .val (.int (4 : Int32)), .val (.ref (ad 4)), .unset, .unset, .unset, .unset]) rfl ?_
      show Steps p.tables e below (T57.setTop (mkF m 65 #[.val (.int p1), .val (.ref b1), .val (.int (4 : Int32)), .val (.ref (ad 4)), .unset, .unset, .unset, .unset] [])) t
      refine XS.iloadN X57.here hx rfl (hb hby at_65) rfl ?_
      show Steps p.tables e below (T57.setTop (mkF m 66 #[.val (.int p1), .val (.ref b1), .val (.int (4 : Int32)), .val (.ref (ad 4)), .unset, .unset, .unset, .unset] [(.int (4 : Int32))])) t
      refine XS.iconst X57.here hx rfl (hb hby at_66) ?_
      show Steps p.tables e below (T57.setTop (mkF m 67 #[.val (.int p1), .val (.ref b1), .val (.int (4 : Int32)), .val (.ref (ad 4)), .unset, .unset, .unset, .unset] [(.int (5 : Int32)), (.int (4 : Int32))])) t
      refine XS.icmpNo X57.here hx rfl (hb hby at_67) rfl (tlt (by decide : (4 : Int32) < (5 : Int32))).2.1 ?_
      show Steps p.tables e below (T57.setTop (mkF m 70 #[.val (.int p1), .val (.ref b1), .val (.int (4 : Int32)), .val (.ref (ad 4)), .unset, .unset, .unset, .unset] [])) t
      refine XS.iconst X57.here hx rfl (hb hby at_70) ?_
      show Steps p.tables e below (T57.setTop (mkF m 71 #[.val (.int p1), .val (.ref b1), .val (.int (4 : Int32)), .val (.ref (ad 4)), .unset, .unset, .unset, .unset] [(.int (1 : Int32))])) t
      refine XS.goto X57.here hx rfl (pc0 := 71) (pc' := 75) rfl (hb hby at_71) (by decide) (by decide) ?_
      show Steps p.tables e below (T57.setTop (mkF m 75 #[.val (.int p1), .val (.ref b1), .val (.int (4 : Int32)), .val (.ref (ad 4)), .unset, .unset, .unset, .unset] [(.int (1 : Int32))])) t
      refine XS.istore X57.here hx rfl (hb hby at_75) rfl (l' := #[.val (.int p1), .val (.ref b1), .val (.int (4 : Int32)), .val (.ref (ad 4)), .val (.int (1 : Int32)), .unset, .unset, .unset]) rfl ?_
      show Steps p.tables e below (T57.setTop (mkF m 77 #[.val (.int p1), .val (.ref b1), .val (.int (4 : Int32)), .val (.ref (ad 4)), .val (.int (1 : Int32)), .unset, .unset, .unset] [])) t
      refine XS.iloadN X57.here hx rfl (hb hby at_77) rfl ?_
      show Steps p.tables e below (T57.setTop (mkF m 78 #[.val (.int p1), .val (.ref b1), .val (.int (4 : Int32)), .val (.ref (ad 4)), .val (.int (1 : Int32)), .unset, .unset, .unset] [(.int (4 : Int32))])) t
      refine XS.iconst X57.here hx rfl (hb hby at_78) ?_
      show Steps p.tables e below (T57.setTop (mkF m 79 #[.val (.int p1), .val (.ref b1), .val (.int (4 : Int32)), .val (.ref (ad 4)), .val (.int (1 : Int32)), .unset, .unset, .unset] [(.int (3 : Int32)), (.int (4 : Int32))])) t
      refine XS.icmpYes X57.here hx rfl (pc0 := 79) (pc' := 86) rfl (hb hby at_79) rfl (feq (by decide : ¬ (4 : Int32) = (3 : Int32))).2 (by decide) (by decide) ?_
      show Steps p.tables e below (T57.setTop (mkF m 86 #[.val (.int p1), .val (.ref b1), .val (.int (4 : Int32)), .val (.ref (ad 4)), .val (.int (1 : Int32)), .unset, .unset, .unset] [])) t
      refine XS.iconst X57.here hx rfl (hb hby at_86) ?_
      show Steps p.tables e below (T57.setTop (mkF m 87 #[.val (.int p1), .val (.ref b1), .val (.int (4 : Int32)), .val (.ref (ad 4)), .val (.int (1 : Int32)), .unset, .unset, .unset] [(.int (0 : Int32))])) t
      refine XS.istore X57.here hx rfl (hb hby at_87) rfl (l' := #[.val (.int p1), .val (.ref b1), .val (.int (4 : Int32)), .val (.ref (ad 4)), .val (.int (1 : Int32)), .val (.int (0 : Int32)), .unset, .unset]) rfl ?_
      show Steps p.tables e below (T57.setTop (mkF m 89 #[.val (.int p1), .val (.ref b1), .val (.int (4 : Int32)), .val (.ref (ad 4)), .val (.int (1 : Int32)), .val (.int (0 : Int32)), .unset, .unset] [])) t
      refine XS.iload X57.here hx rfl (hb hby at_89) rfl ?_
      show Steps p.tables e below (T57.setTop (mkF m 91 #[.val (.int p1), .val (.ref b1), .val (.int (4 : Int32)), .val (.ref (ad 4)), .val (.int (1 : Int32)), .val (.int (0 : Int32)), .unset, .unset] [(.int (1 : Int32))])) t
      refine XS.ifNo X57.here hx rfl (hb hby at_91) rfl ((if0 _ _).trans (feq (by decide : ¬ (1 : Int32) = (0 : Int32))).1) ?_
      show Steps p.tables e below (T57.setTop (mkF m 94 #[.val (.int p1), .val (.ref b1), .val (.int (4 : Int32)), .val (.ref (ad 4)), .val (.int (1 : Int32)), .val (.int (0 : Int32)), .unset, .unset] [])) t
      refine XS.iload X57.here hx rfl (hb hby at_94) rfl ?_
      show Steps p.tables e below (T57.setTop (mkF m 96 #[.val (.int p1), .val (.ref b1), .val (.int (4 : Int32)), .val (.ref (ad 4)), .val (.int (1 : Int32)), .val (.int (0 : Int32)), .unset, .unset] [(.int (0 : Int32))])) t
      refine XS.ifNo X57.here hx rfl (hb hby at_96) rfl ((if0 _ _).trans (teq (by decide : (0 : Int32) = (0 : Int32))).2) ?_
      show Steps p.tables e below (T57.setTop (mkF m 99 #[.val (.int p1), .val (.ref b1), .val (.int (4 : Int32)), .val (.ref (ad 4)), .val (.int (1 : Int32)), .val (.int (0 : Int32)), .unset, .unset] [])) t
      refine XS.iconst X57.here hx rfl (hb hby at_99) ?_
      show Steps p.tables e below (T57.setTop (mkF m 100 #[.val (.int p1), .val (.ref b1), .val (.int (4 : Int32)), .val (.ref (ad 4)), .val (.int (1 : Int32)), .val (.int (0 : Int32)), .unset, .unset] [(.int (1 : Int32))])) t
      refine XS.goto X57.here hx rfl (pc0 := 100) (pc' := 104) rfl (hb hby at_100) (by decide) (by decide) ?_
      show Steps p.tables e below (T57.setTop (mkF m 104 #[.val (.int p1), .val (.ref b1), .val (.int (4 : Int32)), .val (.ref (ad 4)), .val (.int (1 : Int32)), .val (.int (0 : Int32)), .unset, .unset] [(.int (1 : Int32))])) t
      refine XS.istore X57.here hx rfl (hb hby at_104) rfl (l' := #[.val (.int p1), .val (.ref b1), .val (.int (4 : Int32)), .val (.ref (ad 4)), .val (.int (1 : Int32)), .val (.int (0 : Int32)), .val (.int (1 : Int32)), .unset]) rfl ?_
      show Steps p.tables e below (T57.setTop (mkF m 106 #[.val (.int p1), .val (.ref b1), .val (.int (4 : Int32)), .val (.ref (ad 4)), .val (.int (1 : Int32)), .val (.int (0 : Int32)), .val (.int (1 : Int32)), .unset] [])) t
      refine XS.aloadN X57.here hx rfl (hb hby at_106) rfl rfl ?_
      show Steps p.tables e below (T57.setTop (mkF m 107 #[.val (.int p1), .val (.ref b1), .val (.int (4 : Int32)), .val (.ref (ad 4)), .val (.int (1 : Int32)), .val (.int (0 : Int32)), .val (.int (1 : Int32)), .unset] [(.ref (ad 4))])) t
      exact st62.trans k)
  obtain ⟨cq64, kq64, qa64, qb64, qc64⟩ := isOf hZ e62 cf61
  obtain ⟨vv65, _, ⟨T65, L65, kk65, nn65⟩, -, X65, ⟨Lc65, hQ65, l65, y65, z65⟩, st65⟩ := X62.virtualBack hx (y := (⟨own_V, "applies", "()Z"⟩ : MethodName)) (z := (⟨own_V, "applies", "()Z"⟩ : MethodName)) hown (mvT hZ (hw _ (List.mem_of_getElem? (i := 26) rfl))) (mvT hZ (hw _ (List.mem_of_getElem? (i := 27) rfl))) (notFace_of_selects (args := #[]) (mvT hZ (hw _ (List.mem_of_getElem? (i := 29) rfl)))) (mvT hZ (hw _ (List.mem_of_getElem? (i := 29) rfl))) (mvT hZ (hw _ (List.mem_of_getElem? (i := 28) rfl))) (by decide) (backOf (W := 0) (own_appl_4 l Z a0 hw [] hp57 n0 (Nat.le_trans Z0 Kp57.1) ad (own_Wd_ext W (own_ext_of_keep Kp57 all0))) hZ (hw _ (List.mem_of_getElem? (i := 30) rfl)) (hw _ (List.mem_of_getElem? (i := 3) rfl)) (by decide) (by decide)) qa64 qc64 (g := (mkF m 127 #[.val (.int p1), .val (.ref b1), .val (.int (4 : Int32)), .val (.ref (ad 4)), .val (.int (1 : Int32)), .val (.int (0 : Int32)), .val (.int (1 : Int32)), .val (.int (1 : Int32))] [(.ref (ad 4))])) rfl (by rw [hml]; rfl) (Steps.refl _) (argsL := []) (rest := []) (lenOf own_pd___Z rfl) rfl (by show 2 * 0 + _ ≤ _; exact Nat.le_of_eq rfl) (hb hby at_127) (fun _ _ => ⟨rfl, e62, (by decide : 1 + 0 ≤ _), (by decide : 8 + 0 ≤ _)⟩)
  dsimp only [Pt.U, Pt.locs, Pt.cells, Pt.slots] at X65 l65 y65 z65 st65 hQ65
  subst l65 y65 z65
  obtain ⟨rfl, Nq65, e65⟩ := hQ65
  have N65 := Fr.app N62 Nq65
  have ch66 : ∀ t, Steps p.tables e below (T65.setTop (mkF m 130 #[.val (.int p1), .val (.ref b1), .val (.int (4 : Int32)), .val (.ref (ad 4)), .val (.int (1 : Int32)), .val (.int (0 : Int32)), .val (.int (1 : Int32)), .val (.int (1 : Int32))] [(.int (0 : Int32))])) t → Steps p.tables e below (s₁.setTop (entryFrame m #[(.int p1)] maxLocals)) t := fun t k => ch63 t (by
      show Steps p.tables e below (T62.setTop (mkF m 110 #[.val (.int p1), .val (.ref b1), .val (.int (4 : Int32)), .val (.ref (ad 4)), .val (.int (1 : Int32)), .val (.int (0 : Int32)), .val (.int (1 : Int32)), .unset] [(.int (1 : Int32))])) t
      refine XS.istore X62.here hx rfl (hb hby at_110) rfl (l' := #[.val (.int p1), .val (.ref b1), .val (.int (4 : Int32)), .val (.ref (ad 4)), .val (.int (1 : Int32)), .val (.int (0 : Int32)), .val (.int (1 : Int32)), .val (.int (1 : Int32))]) rfl ?_
      show Steps p.tables e below (T62.setTop (mkF m 112 #[.val (.int p1), .val (.ref b1), .val (.int (4 : Int32)), .val (.ref (ad 4)), .val (.int (1 : Int32)), .val (.int (0 : Int32)), .val (.int (1 : Int32)), .val (.int (1 : Int32))] [])) t
      refine XS.iload X62.here hx rfl (hb hby at_112) rfl ?_
      show Steps p.tables e below (T62.setTop (mkF m 114 #[.val (.int p1), .val (.ref b1), .val (.int (4 : Int32)), .val (.ref (ad 4)), .val (.int (1 : Int32)), .val (.int (0 : Int32)), .val (.int (1 : Int32)), .val (.int (1 : Int32))] [(.int (1 : Int32))])) t
      refine XS.iload X62.here hx rfl (hb hby at_114) rfl ?_
      show Steps p.tables e below (T62.setTop (mkF m 116 #[.val (.int p1), .val (.ref b1), .val (.int (4 : Int32)), .val (.ref (ad 4)), .val (.int (1 : Int32)), .val (.int (0 : Int32)), .val (.int (1 : Int32)), .val (.int (1 : Int32))] [(.int (1 : Int32)), (.int (1 : Int32))])) t
      refine XS.icmpYes X62.here hx rfl (pc0 := 116) (pc' := 121) rfl (hb hby at_116) rfl (teq (by decide : (1 : Int32) = (1 : Int32))).1 (by decide) (by decide) ?_
      show Steps p.tables e below (T62.setTop (mkF m 121 #[.val (.int p1), .val (.ref b1), .val (.int (4 : Int32)), .val (.ref (ad 4)), .val (.int (1 : Int32)), .val (.int (0 : Int32)), .val (.int (1 : Int32)), .val (.int (1 : Int32))] [])) t
      refine XS.iload X62.here hx rfl (hb hby at_121) rfl ?_
      show Steps p.tables e below (T62.setTop (mkF m 123 #[.val (.int p1), .val (.ref b1), .val (.int (4 : Int32)), .val (.ref (ad 4)), .val (.int (1 : Int32)), .val (.int (0 : Int32)), .val (.int (1 : Int32)), .val (.int (1 : Int32))] [(.int (1 : Int32))])) t
      refine XS.ifNo X62.here hx rfl (hb hby at_123) rfl ((if0 _ _).trans (feq (by decide : ¬ (1 : Int32) = (0 : Int32))).1) ?_
      show Steps p.tables e below (T62.setTop (mkF m 126 #[.val (.int p1), .val (.ref b1), .val (.int (4 : Int32)), .val (.ref (ad 4)), .val (.int (1 : Int32)), .val (.int (0 : Int32)), .val (.int (1 : Int32)), .val (.int (1 : Int32))] [])) t
      refine XS.aloadN X62.here hx rfl (hb hby at_126) rfl rfl ?_
      show Steps p.tables e below (T62.setTop (mkF m 127 #[.val (.int p1), .val (.ref b1), .val (.int (4 : Int32)), .val (.ref (ad 4)), .val (.int (1 : Int32)), .val (.int (0 : Int32)), .val (.int (1 : Int32)), .val (.int (1 : Int32))] [(.ref (ad 4))])) t
      exact st65.trans k)
  have ch67 : ∀ t, Steps p.tables e below (T65.setTop (mkF m 138 #[.val (.int p1), .val (.ref b1), .val (.int (4 : Int32)), .val (.ref (ad 4)), .val (.int (1 : Int32)), .val (.int (0 : Int32)), .val (.int (1 : Int32)), .val (.int (1 : Int32))] [(.int (1 : Int32))])) t → Steps p.tables e below (s₁.setTop (entryFrame m #[(.int p1)] maxLocals)) t := fun t k => ch66 t (by
      show Steps p.tables e below (T65.setTop (mkF m 130 #[.val (.int p1), .val (.ref b1), .val (.int (4 : Int32)), .val (.ref (ad 4)), .val (.int (1 : Int32)), .val (.int (0 : Int32)), .val (.int (1 : Int32)), .val (.int (1 : Int32))] [(.int (0 : Int32))])) t
      refine XS.ifNo X65.here hx rfl (hb hby at_130) rfl ((if0 _ _).trans (teq (by decide : (0 : Int32) = (0 : Int32))).2) ?_
      show Steps p.tables e below (T65.setTop (mkF m 133 #[.val (.int p1), .val (.ref b1), .val (.int (4 : Int32)), .val (.ref (ad 4)), .val (.int (1 : Int32)), .val (.int (0 : Int32)), .val (.int (1 : Int32)), .val (.int (1 : Int32))] [])) t
      refine XS.iconst X65.here hx rfl (hb hby at_133) ?_
      show Steps p.tables e below (T65.setTop (mkF m 134 #[.val (.int p1), .val (.ref b1), .val (.int (4 : Int32)), .val (.ref (ad 4)), .val (.int (1 : Int32)), .val (.int (0 : Int32)), .val (.int (1 : Int32)), .val (.int (1 : Int32))] [(.int (1 : Int32))])) t
      refine XS.goto X65.here hx rfl (pc0 := 134) (pc' := 138) rfl (hb hby at_134) (by decide) (by decide) ?_
      exact k)
  obtain ⟨fs, hr, hrun, hended, hW, hsame⟩ := X65.leave (v := some (.int (1 : Int32))) (fun h => by rw [Bd.returns] at h; cases h)
  refine ⟨_, _, ch67 _ ?_, hrun, hended, _, _, rfl, ?_, ⟨_, rfl⟩, hW, hsame.mono (by decide) (by decide)⟩
  · show Steps p.tables e below (T65.setTop (mkF m 138 #[.val (.int p1), .val (.ref b1), .val (.int (4 : Int32)), .val (.ref (ad 4)), .val (.int (1 : Int32)), .val (.int (0 : Int32)), .val (.int (1 : Int32)), .val (.int (1 : Int32))] [(.int (1 : Int32))])) _
    exact retN X65 hx (t := .boolean) Bd.returns (by simp) (hb hby at_138) hr
  · show QN (some (.int (1 : Int32))) n0 _ T65.heap _
    rw [e65]
    exact ⟨rfl, N65⟩
theorem own_ef_own_miss_5 (m : MethodId) {x0 : Addr} : entryFrame m #[(.ref x0)] 1 = mkF m 0 #[.val (.ref x0)] [] := by first | (simp [entryFrame, mkF, argsToLocals, Value.category, maxLocals]; done) | rfl
set_option maxRecDepth 65536 in
set_option maxHeartbeats 40000000 in
theorem own_miss_5 (l : Launch) (Z : State) (a0 : Array Value) (hw : ∀ d ∈ tables_1, d.before a0 Z = true) (ws : List Jvm.Cond) (h0 : Heap) (n0 : Nat) (Z0 : n0 ≤ h0.size) (ad : Nat → Addr) (W : OwnWd Z h0 ad) :
    MetFree l (⟨own_V, "missesEverySubject", "()Z"⟩ : MethodName) (head1 (Jvm.Cond.code (⟨own_V, "missesEverySubject", "()Z"⟩ : MethodName) prog_34_method_6_code 1 (some .boolean) :: ws) ({ frames := 0, cells := 0, slots := 0, locals := 0 } : Room)) (fun a U => a = #[(.ref (ad 5))] ∧ Z.Warmed39 U.vm ∧ U.heap = h0) (fun _ _ _ _ _ => True) (fun _ U o U' => ∃ v L, o = .returned v ∧ QV (some (.int (0 : Int32))) h0 n0 v U'.heap L ∧ FrameEnd U o U' L ({ frames := 0, cells := 0, slots := 0, locals := 0 } : Room).cells ({ frames := 0, cells := 0, slots := 0, locals := 0 } : Room).slots) := by
  refine MetFree.of_bodySF (plainFor_of_name own_pn_own_Verdict) hisR ?_
  intro p e s m args below meth c s₁ Bd hml0 hP hK
  obtain ⟨rfl, hZ, hh⟩ := hP
  have hx := Bd.exec
  have hby := Bd.bytes
  have hml : c.maxLocals = 1 := hml0
  have hown : s.vm.findClass own_V = some m.cls := (findClass_of_methodNamed Bd.named :)
  have hnm := (name_of_methodNamed Bd.named Bd.method).1
  have X0 : Stand p l e ({ frames := 0, cells := 0, slots := 0, locals := 0 } : Room) s m #[(.ref (ad 5))] below meth c s₁ [] 0 0 := Stand.of_body Bd
  have e0 : s₁.heap = h0 := by rw [← hh, Bd.state]; rfl
  have N0 := Fr.nil n0
  have pre0 : ∀ t, Steps p.tables e below (s₁.setTop (mkF m 0 #[.val (.ref (ad 5))] [])) t → Steps p.tables e below (s₁.setTop (entryFrame m #[(.ref (ad 5))] 1)) t := fun t k => castTop (own_ef_own_miss_5 m) k
  obtain ⟨T1, X1, e1, st1⟩ := getS2 X0 hx hZ hown (host := "") (Or.inl (hw _ (List.mem_of_getElem? (i := 25) rfl))) Via.refl e0 (own_S_DISABLED W) (g := (mkF m 1 #[.val (.ref (ad 5))] [(.ref (ad 5))])) rfl (hb hby own_d_prog_34_method_6_code_1)
  have ch2 : ∀ t, Steps p.tables e below (T1.setTop (mkF m 4 #[.val (.ref (ad 5))] [(.ref (ad 0)), (.ref (ad 5))])) t → Steps p.tables e below (s₁.setTop (entryFrame m #[(.ref (ad 5))] 1)) t := fun t k => pre0 t (by
      show Steps p.tables e below (s₁.setTop (mkF m 0 #[.val (.ref (ad 5))] [])) t
      refine XS.aloadN X0.here hx rfl (hb hby own_d_prog_34_method_6_code_0) rfl rfl ?_
      show Steps p.tables e below (s₁.setTop (mkF m 1 #[.val (.ref (ad 5))] [(.ref (ad 5))])) t
      exact st1 t k)
  obtain ⟨T3, X3, e3, st3⟩ := getS2 X1 hx hZ hown (host := "") (Or.inl (hw _ (List.mem_of_getElem? (i := 33) rfl))) Via.refl e1 (own_S_NO_MATCH_RESOURCE W) (g := (mkF m 8 #[.val (.ref (ad 5))] [(.ref (ad 5))])) rfl (hb hby own_d_prog_34_method_6_code_8)
  have ch4 : ∀ t, Steps p.tables e below (T3.setTop (mkF m 11 #[.val (.ref (ad 5))] [(.ref (ad 1)), (.ref (ad 5))])) t → Steps p.tables e below (s₁.setTop (entryFrame m #[(.ref (ad 5))] 1)) t := fun t k => ch2 t (by
      show Steps p.tables e below (T1.setTop (mkF m 4 #[.val (.ref (ad 5))] [(.ref (ad 0)), (.ref (ad 5))])) t
      refine Jvm.RoadKit.acmp (g := (mkF m 4 #[.val (.ref (ad 5))] [(.ref (ad 0)), (.ref (ad 5))])) X1 hx rfl rfl rfl (pc0 := 4) (pc' := 7) (same := false) rfl (hb hby own_d_prog_34_method_6_code_4) rfl (decide_eq_false fun q => (Fld.ne (own_F_MATCHED_ordinal W) (own_F_DISABLED_ordinal W) (by decide)) (Value.ref.inj q)) (by decide) (by decide) ?_
      show Steps p.tables e below (T1.setTop (mkF m 7 #[.val (.ref (ad 5))] [])) t
      refine XS.aloadN X1.here hx rfl (hb hby own_d_prog_34_method_6_code_7) rfl rfl ?_
      show Steps p.tables e below (T1.setTop (mkF m 8 #[.val (.ref (ad 5))] [(.ref (ad 5))])) t
      exact st3 t k)
  obtain ⟨T5, X5, e5, st5⟩ := getS2 X3 hx hZ hown (host := "") (Or.inl (hw _ (List.mem_of_getElem? (i := 34) rfl))) Via.refl e3 (own_S_NO_MATCH_ACTION W) (g := (mkF m 15 #[.val (.ref (ad 5))] [(.ref (ad 5))])) rfl (hb hby own_d_prog_34_method_6_code_15)
  have ch6 : ∀ t, Steps p.tables e below (T5.setTop (mkF m 18 #[.val (.ref (ad 5))] [(.ref (ad 2)), (.ref (ad 5))])) t → Steps p.tables e below (s₁.setTop (entryFrame m #[(.ref (ad 5))] 1)) t := fun t k => ch4 t (by
      show Steps p.tables e below (T3.setTop (mkF m 11 #[.val (.ref (ad 5))] [(.ref (ad 1)), (.ref (ad 5))])) t
      refine Jvm.RoadKit.acmp (g := (mkF m 11 #[.val (.ref (ad 5))] [(.ref (ad 1)), (.ref (ad 5))])) X3 hx rfl rfl rfl (pc0 := 11) (pc' := 14) (same := false) rfl (hb hby own_d_prog_34_method_6_code_11) rfl (decide_eq_false fun q => (Fld.ne (own_F_MATCHED_ordinal W) (own_F_NO_MATCH_RESOURCE_ordinal W) (by decide)) (Value.ref.inj q)) (by decide) (by decide) ?_
      show Steps p.tables e below (T3.setTop (mkF m 14 #[.val (.ref (ad 5))] [])) t
      refine XS.aloadN X3.here hx rfl (hb hby own_d_prog_34_method_6_code_14) rfl rfl ?_
      show Steps p.tables e below (T3.setTop (mkF m 15 #[.val (.ref (ad 5))] [(.ref (ad 5))])) t
      exact st5 t k)
  obtain ⟨T7, X7, e7, st7⟩ := getS2 X5 hx hZ hown (host := "") (Or.inl (hw _ (List.mem_of_getElem? (i := 35) rfl))) Via.refl e5 (own_S_NO_MATCH_CALENDAR W) (g := (mkF m 22 #[.val (.ref (ad 5))] [(.ref (ad 5))])) rfl (hb hby own_d_prog_34_method_6_code_22)
  have ch8 : ∀ t, Steps p.tables e below (T7.setTop (mkF m 25 #[.val (.ref (ad 5))] [(.ref (ad 4)), (.ref (ad 5))])) t → Steps p.tables e below (s₁.setTop (entryFrame m #[(.ref (ad 5))] 1)) t := fun t k => ch6 t (by
      show Steps p.tables e below (T5.setTop (mkF m 18 #[.val (.ref (ad 5))] [(.ref (ad 2)), (.ref (ad 5))])) t
      refine Jvm.RoadKit.acmp (g := (mkF m 18 #[.val (.ref (ad 5))] [(.ref (ad 2)), (.ref (ad 5))])) X5 hx rfl rfl rfl (pc0 := 18) (pc' := 21) (same := false) rfl (hb hby own_d_prog_34_method_6_code_18) rfl (decide_eq_false fun q => (Fld.ne (own_F_MATCHED_ordinal W) (own_F_NO_MATCH_ACTION_ordinal W) (by decide)) (Value.ref.inj q)) (by decide) (by decide) ?_
      show Steps p.tables e below (T5.setTop (mkF m 21 #[.val (.ref (ad 5))] [])) t
      refine XS.aloadN X5.here hx rfl (hb hby own_d_prog_34_method_6_code_21) rfl rfl ?_
      show Steps p.tables e below (T5.setTop (mkF m 22 #[.val (.ref (ad 5))] [(.ref (ad 5))])) t
      exact st7 t k)
  have ch9 : ∀ t, Steps p.tables e below (T7.setTop (mkF m 33 #[.val (.ref (ad 5))] [(.int (0 : Int32))])) t → Steps p.tables e below (s₁.setTop (entryFrame m #[(.ref (ad 5))] 1)) t := fun t k => ch8 t (by
      show Steps p.tables e below (T7.setTop (mkF m 25 #[.val (.ref (ad 5))] [(.ref (ad 4)), (.ref (ad 5))])) t
      refine Jvm.RoadKit.acmp (g := (mkF m 25 #[.val (.ref (ad 5))] [(.ref (ad 4)), (.ref (ad 5))])) X7 hx rfl rfl rfl (pc0 := 25) (pc' := 32) (same := false) rfl (hb hby own_d_prog_34_method_6_code_25) rfl (decide_eq_false fun q => (Fld.ne (own_F_MATCHED_ordinal W) (own_F_NO_MATCH_CALENDAR_ordinal W) (by decide)) (Value.ref.inj q)) (by decide) (by decide) ?_
      show Steps p.tables e below (T7.setTop (mkF m 32 #[.val (.ref (ad 5))] [])) t
      refine XS.iconst X7.here hx rfl (hb hby own_d_prog_34_method_6_code_32) ?_
      exact k)
  obtain ⟨fs, hr, hrun, hended, hW, hsame⟩ := X7.leave (v := some (.int (0 : Int32))) (fun h => by rw [Bd.returns] at h; cases h)
  refine ⟨_, _, ch9 _ ?_, hrun, hended, _, _, rfl, ?_, ⟨_, rfl⟩, hW, hsame.mono (by decide) (by decide)⟩
  · show Steps p.tables e below (T7.setTop (mkF m 33 #[.val (.ref (ad 5))] [(.int (0 : Int32))])) _
    exact retN X7 hx (t := .boolean) Bd.returns (by simp) (hb hby own_d_prog_34_method_6_code_33) hr
  · show QV (some (.int (0 : Int32))) h0 n0 _ T7.heap _
    rw [e7]
    exact ⟨rfl, N0, rfl⟩
theorem own_ef_own_appl_5 (m : MethodId) {x0 : Addr} : entryFrame m #[(.ref x0)] 1 = mkF m 0 #[.val (.ref x0)] [] := by first | (simp [entryFrame, mkF, argsToLocals, Value.category, maxLocals]; done) | rfl
set_option maxRecDepth 65536 in
set_option maxHeartbeats 40000000 in
theorem own_appl_5 (l : Launch) (Z : State) (a0 : Array Value) (hw : ∀ d ∈ tables_1, d.before a0 Z = true) (ws : List Jvm.Cond) (h0 : Heap) (n0 : Nat) (Z0 : n0 ≤ h0.size) (ad : Nat → Addr) (W : OwnWd Z h0 ad) :
    MetFree l (⟨own_V, "applies", "()Z"⟩ : MethodName) (head1 (Jvm.Cond.code (⟨own_V, "applies", "()Z"⟩ : MethodName) prog_34_method_5_code 1 (some .boolean) :: ws) ({ frames := 0, cells := 0, slots := 0, locals := 0 } : Room)) (fun a U => a = #[(.ref (ad 5))] ∧ Z.Warmed39 U.vm ∧ U.heap = h0) (fun _ _ _ _ _ => True) (fun _ U o U' => ∃ v L, o = .returned v ∧ QV (some (.int (1 : Int32))) h0 n0 v U'.heap L ∧ FrameEnd U o U' L ({ frames := 0, cells := 0, slots := 0, locals := 0 } : Room).cells ({ frames := 0, cells := 0, slots := 0, locals := 0 } : Room).slots) := by
  refine MetFree.of_bodySF (plainFor_of_name own_pn_own_Verdict) hisR ?_
  intro p e s m args below meth c s₁ Bd hml0 hP hK
  obtain ⟨rfl, hZ, hh⟩ := hP
  have hx := Bd.exec
  have hby := Bd.bytes
  have hml : c.maxLocals = 1 := hml0
  have hown : s.vm.findClass own_V = some m.cls := (findClass_of_methodNamed Bd.named :)
  have hnm := (name_of_methodNamed Bd.named Bd.method).1
  have X0 : Stand p l e ({ frames := 0, cells := 0, slots := 0, locals := 0 } : Room) s m #[(.ref (ad 5))] below meth c s₁ [] 0 0 := Stand.of_body Bd
  have e0 : s₁.heap = h0 := by rw [← hh, Bd.state]; rfl
  have N0 := Fr.nil n0
  have pre0 : ∀ t, Steps p.tables e below (s₁.setTop (mkF m 0 #[.val (.ref (ad 5))] [])) t → Steps p.tables e below (s₁.setTop (entryFrame m #[(.ref (ad 5))] 1)) t := fun t k => castTop (own_ef_own_appl_5 m) k
  obtain ⟨T1, X1, e1, st1⟩ := getS2 X0 hx hZ hown (host := "") (Or.inl (hw _ (List.mem_of_getElem? (i := 31) rfl))) Via.refl e0 (own_S_MATCHED W) (g := (mkF m 1 #[.val (.ref (ad 5))] [(.ref (ad 5))])) rfl (hb hby own_d_prog_34_method_5_code_1)
  have ch2 : ∀ t, Steps p.tables e below (T1.setTop (mkF m 4 #[.val (.ref (ad 5))] [(.ref (ad 5)), (.ref (ad 5))])) t → Steps p.tables e below (s₁.setTop (entryFrame m #[(.ref (ad 5))] 1)) t := fun t k => pre0 t (by
      show Steps p.tables e below (s₁.setTop (mkF m 0 #[.val (.ref (ad 5))] [])) t
      refine XS.aloadN X0.here hx rfl (hb hby own_d_prog_34_method_5_code_0) rfl rfl ?_
      show Steps p.tables e below (s₁.setTop (mkF m 1 #[.val (.ref (ad 5))] [(.ref (ad 5))])) t
      exact st1 t k)
  have ch3 : ∀ t, Steps p.tables e below (T1.setTop (mkF m 19 #[.val (.ref (ad 5))] [(.int (1 : Int32))])) t → Steps p.tables e below (s₁.setTop (entryFrame m #[(.ref (ad 5))] 1)) t := fun t k => ch2 t (by
      show Steps p.tables e below (T1.setTop (mkF m 4 #[.val (.ref (ad 5))] [(.ref (ad 5)), (.ref (ad 5))])) t
      refine Jvm.RoadKit.acmp (g := (mkF m 4 #[.val (.ref (ad 5))] [(.ref (ad 5)), (.ref (ad 5))])) X1 hx rfl rfl rfl (pc0 := 4) (pc' := 14) (same := true) rfl (hb hby own_d_prog_34_method_5_code_4) rfl (decide_eq_true rfl) (by decide) (by decide) ?_
      show Steps p.tables e below (T1.setTop (mkF m 14 #[.val (.ref (ad 5))] [])) t
      refine XS.iconst X1.here hx rfl (hb hby own_d_prog_34_method_5_code_14) ?_
      show Steps p.tables e below (T1.setTop (mkF m 15 #[.val (.ref (ad 5))] [(.int (1 : Int32))])) t
      refine XS.goto X1.here hx rfl (pc0 := 15) (pc' := 19) rfl (hb hby own_d_prog_34_method_5_code_15) (by decide) (by decide) ?_
      exact k)
  obtain ⟨fs, hr, hrun, hended, hW, hsame⟩ := X1.leave (v := some (.int (1 : Int32))) (fun h => by rw [Bd.returns] at h; cases h)
  refine ⟨_, _, ch3 _ ?_, hrun, hended, _, _, rfl, ?_, ⟨_, rfl⟩, hW, hsame.mono (by decide) (by decide)⟩
  · show Steps p.tables e below (T1.setTop (mkF m 19 #[.val (.ref (ad 5))] [(.int (1 : Int32))])) _
    exact retN X1 hx (t := .boolean) Bd.returns (by simp) (hb hby own_d_prog_34_method_5_code_19) hr
  · show QV (some (.int (1 : Int32))) h0 n0 _ T1.heap _
    rw [e1]
    exact ⟨rfl, N0, rfl⟩
theorem own_ef_own_law_5 (m : MethodId) {x0 : Int32} : entryFrame m #[(.int x0)] maxLocals = mkF m 0 #[.val (.int x0), .unset, .unset, .unset, .unset, .unset, .unset, .unset] [] := by first | (simp [entryFrame, mkF, argsToLocals, Value.category, maxLocals]; done) | rfl
set_option maxRecDepth 65536 in
set_option maxHeartbeats 40000000 in
theorem own_law_5 (l : Launch) (Z : State) (a0 : Array Value) (hw : ∀ d ∈ tables_1, d.before a0 Z = true) (ws : List Jvm.Cond) (h0 : Heap) (n0 : Nat) (Z0 : n0 ≤ h0.size) (p1 : Int32) (hk : p1 &&& (7 : Int32) = (5 : Int32)) (ad : Nat → Addr) (W : OwnWd Z h0 ad) :
    MetFree l x (head1 (Jvm.Cond.code x code maxLocals ret :: ws) room_1) (fun a U => a = #[(.int p1)] ∧ Z.Warmed39 U.vm ∧ U.heap = h0) (fun _ _ _ _ _ => True) (fun _ U o U' => ∃ v L, o = .returned v ∧ QN (some (.int (1 : Int32))) n0 v U'.heap L ∧ FrameEnd U o U' L room_1.cells room_1.slots) := by
  refine MetFree.of_bodySF (plainFor_of_name own_pn_own_VerdictMissesEverySubjectPinLaw) hisR ?_
  intro p e s m args below meth c s₁ Bd hml0 hP hK
  obtain ⟨rfl, hZ, hh⟩ := hP
  have hx := Bd.exec
  have hby := Bd.bytes
  have hml : c.maxLocals = 8 := hml0
  have hown : s.vm.findClass own_L = some m.cls := (findClass_of_methodNamed Bd.named :)
  have hnm := (name_of_methodNamed Bd.named Bd.method).1
  have X0 : Stand p l e room_1 s m #[(.int p1)] below meth c s₁ [] 0 0 := Stand.of_body Bd
  have e0 : s₁.heap = h0 := by rw [← hh, Bd.state]; rfl
  have N0 := Fr.nil n0
  have pre0 : ∀ t, Steps p.tables e below (s₁.setTop (mkF m 0 #[.val (.int p1), .unset, .unset, .unset, .unset, .unset, .unset, .unset] [])) t → Steps p.tables e below (s₁.setTop (entryFrame m #[(.int p1)] maxLocals)) t := fun t k => castTop (own_ef_own_law_5 m) k
  obtain ⟨T1, hp1, k1, X1, e1, E1, A1, O1, st1⟩ := newR X0 hx hZ hown (hw _ (List.mem_of_getElem? (i := 0) rfl)) (hw _ (List.mem_of_getElem? (i := 1) rfl)) e0 (g := (mkF m 2 #[.val (.int p1), .unset, .unset, .unset, .unset, .unset, .unset, .unset] [(.int (8 : Int32))])) rfl (hb hby at_2) rfl (by decide) (cap := 8) (by decide) (by decide) (by decide) (by decide)
  obtain ⟨b1, g1⟩ : ∃ z, z = h0.size := ⟨_, rfl⟩
  rw [← g1] at A1 st1
  have ne_ad0_b1 : (ad 0) ≠ b1 := Nat.ne_of_lt (Nat.lt_of_lt_of_le (own_E_DISABLED W).lt (Nat.le_of_eq g1.symm))
  have ne_ad1_b1 : (ad 1) ≠ b1 := Nat.ne_of_lt (Nat.lt_of_lt_of_le (own_E_NO_MATCH_RESOURCE W).lt (Nat.le_of_eq g1.symm))
  have ne_ad2_b1 : (ad 2) ≠ b1 := Nat.ne_of_lt (Nat.lt_of_lt_of_le (own_E_NO_MATCH_ACTION W).lt (Nat.le_of_eq g1.symm))
  have ne_ad3_b1 : (ad 3) ≠ b1 := Nat.ne_of_lt (Nat.lt_of_lt_of_le (own_E_NO_MATCH_IDENTITY W).lt (Nat.le_of_eq g1.symm))
  have ne_ad4_b1 : (ad 4) ≠ b1 := Nat.ne_of_lt (Nat.lt_of_lt_of_le (own_E_NO_MATCH_CALENDAR W).lt (Nat.le_of_eq g1.symm))
  have ne_ad5_b1 : (ad 5) ≠ b1 := Nat.ne_of_lt (Nat.lt_of_lt_of_le (own_E_MATCHED W).lt (Nat.le_of_eq g1.symm))
  have ne_ad6_b1 : (ad 6) ≠ b1 := Nat.ne_of_lt (Nat.lt_of_lt_of_le (own_E_RETAINED W).lt (Nat.le_of_eq g1.symm))
  have ne_ad7_b1 : (ad 7) ≠ b1 := Nat.ne_of_lt (Nat.lt_of_lt_of_le (own_E_DROPPED_BY_BEST_MATCH W).lt (Nat.le_of_eq g1.symm))
  have g_b1 : n0 ≤ b1 := Nat.le_trans (Nat.le_trans Z0 (Keep.refl h0 []).1) (Nat.le_of_eq g1.symm)
  have sz_b1 : h0.size ≤ b1 := Nat.le_trans (Keep.refl h0 []).1 (Nat.le_of_eq g1.symm)
  have Kp1 := Keep.ext (Keep.refl h0 []) E1
  have V1 : Arv Z hp1 b1 k1 (.object own_V) (8 : Int32) [.null, .null, .null, .null, .null, .null, .null, .null] .null := (Arv.new A1 (by decide)).pad (pad_rep [] .null 8)
  have ch2 : ∀ t, Steps p.tables e below (T1.setTop (mkF m 5 #[.val (.int p1), .unset, .unset, .unset, .unset, .unset, .unset, .unset] [(.ref b1)])) t → Steps p.tables e below (s₁.setTop (entryFrame m #[(.int p1)] maxLocals)) t := fun t k => pre0 t (by
      show Steps p.tables e below (s₁.setTop (mkF m 0 #[.val (.int p1), .unset, .unset, .unset, .unset, .unset, .unset, .unset] [])) t
      refine XS.bipush X0.here hx rfl (hb hby at_0) ?_
      show Steps p.tables e below (s₁.setTop (mkF m 2 #[.val (.int p1), .unset, .unset, .unset, .unset, .unset, .unset, .unset] [(.int (8 : Int32))])) t
      exact st1 t k)
  have cf3 := (own_sta_keep (own_S_DISABLED W) Kp1 all0)
  obtain ⟨T4, X4, e4, st4⟩ := getS2 X1 hx hZ hown (host := "") (Or.inl (hw _ (List.mem_of_getElem? (i := 2) rfl))) Via.refl e1 cf3 (g := (mkF m 7 #[.val (.int p1), .unset, .unset, .unset, .unset, .unset, .unset, .unset] [(.int (0 : Int32)), (.ref b1), (.ref b1)])) rfl (hb hby at_7)
  have ch5 : ∀ t, Steps p.tables e below (T4.setTop (mkF m 10 #[.val (.int p1), .unset, .unset, .unset, .unset, .unset, .unset, .unset] [(.ref (ad 0)), (.int (0 : Int32)), (.ref b1), (.ref b1)])) t → Steps p.tables e below (s₁.setTop (entryFrame m #[(.int p1)] maxLocals)) t := fun t k => ch2 t (by
      show Steps p.tables e below (T1.setTop (mkF m 5 #[.val (.int p1), .unset, .unset, .unset, .unset, .unset, .unset, .unset] [(.ref b1)])) t
      refine XS.dup X1.here hx rfl (hb hby at_5) rfl rfl ?_
      show Steps p.tables e below (T1.setTop (mkF m 6 #[.val (.int p1), .unset, .unset, .unset, .unset, .unset, .unset, .unset] [(.ref b1), (.ref b1)])) t
      refine XS.iconst X1.here hx rfl (hb hby at_6) ?_
      show Steps p.tables e below (T1.setTop (mkF m 7 #[.val (.int p1), .unset, .unset, .unset, .unset, .unset, .unset, .unset] [(.int (0 : Int32)), (.ref b1), (.ref b1)])) t
      exact st4 t k)
  obtain ⟨cl6, Ar6, qq6, Sz6, Ng6, Ha6, Ga6⟩ := id V1
  have hin6 : ¬ ((0 : Int32) < 0 ∨ cl6.slots.size ≤ ((0 : Int32)).toNatClampNeg) := inb_of Sz6 (by decide)
  have cf7 := (Exa.keep (own_E_DISABLED W) Kp1)
  obtain ⟨T8, hp8, X8, e8, W8, st8⟩ := stR X4 hx hZ e4 Ar6 (j := (0 : Int32)) hin6 rfl (Sto.ofV Ar6 qq6 O1 (Ins.self cf7)) (g := (mkF m 10 #[.val (.int p1), .unset, .unset, .unset, .unset, .unset, .unset, .unset] [(.ref (ad 0)), (.int (0 : Int32)), (.ref b1), (.ref b1)])) rfl rfl (hb hby at_10)
  have ch9 : ∀ t, Steps p.tables e below (T8.setTop (mkF m 11 #[.val (.int p1), .unset, .unset, .unset, .unset, .unset, .unset, .unset] [(.ref b1)])) t → Steps p.tables e below (s₁.setTop (entryFrame m #[(.int p1)] maxLocals)) t := fun t k => ch5 t (by
      show Steps p.tables e below (T4.setTop (mkF m 10 #[.val (.int p1), .unset, .unset, .unset, .unset, .unset, .unset, .unset] [(.ref (ad 0)), (.int (0 : Int32)), (.ref b1), (.ref b1)])) t
      exact st8 t k)
  have V8 : Arv Z hp8 b1 k1 (.object own_V) (8 : Int32) [(.ref (ad 0)), .null, .null, .null, .null, .null, .null, .null] .null := Arv.set Ar6 qq6 Sz6 Ng6 Ha6 Ga6 rfl W8 0 rfl (Nat.le_of_ble_eq_true rfl)
  have N8 := Fr.snoc X8 N0 g_b1
  have Kp8 := Keep.wr Kp1 W8 (Or.inr sz_b1)
  have cf10 := (own_sta_keep (own_S_NO_MATCH_RESOURCE W) Kp8 all0)
  obtain ⟨T11, X11, e11, st11⟩ := getS2 X8 hx hZ hown (host := "") (Or.inl (hw _ (List.mem_of_getElem? (i := 6) rfl))) Via.refl e8 cf10 (g := (mkF m 13 #[.val (.int p1), .unset, .unset, .unset, .unset, .unset, .unset, .unset] [(.int (1 : Int32)), (.ref b1), (.ref b1)])) rfl (hb hby at_13)
  have ch12 : ∀ t, Steps p.tables e below (T11.setTop (mkF m 16 #[.val (.int p1), .unset, .unset, .unset, .unset, .unset, .unset, .unset] [(.ref (ad 1)), (.int (1 : Int32)), (.ref b1), (.ref b1)])) t → Steps p.tables e below (s₁.setTop (entryFrame m #[(.int p1)] maxLocals)) t := fun t k => ch9 t (by
      show Steps p.tables e below (T8.setTop (mkF m 11 #[.val (.int p1), .unset, .unset, .unset, .unset, .unset, .unset, .unset] [(.ref b1)])) t
      refine XS.dup X8.here hx rfl (hb hby at_11) rfl rfl ?_
      show Steps p.tables e below (T8.setTop (mkF m 12 #[.val (.int p1), .unset, .unset, .unset, .unset, .unset, .unset, .unset] [(.ref b1), (.ref b1)])) t
      refine XS.iconst X8.here hx rfl (hb hby at_12) ?_
      show Steps p.tables e below (T8.setTop (mkF m 13 #[.val (.int p1), .unset, .unset, .unset, .unset, .unset, .unset, .unset] [(.int (1 : Int32)), (.ref b1), (.ref b1)])) t
      exact st11 t k)
  obtain ⟨cl13, Ar13, qq13, Sz13, Ng13, Ha13, Ga13⟩ := id V8
  have hin13 : ¬ ((1 : Int32) < 0 ∨ cl13.slots.size ≤ ((1 : Int32)).toNatClampNeg) := inb_of Sz13 (by decide)
  have cf14 := (Exa.keep (own_E_NO_MATCH_RESOURCE W) Kp8)
  obtain ⟨T15, hp15, X15, e15, W15, st15⟩ := stR X11 hx hZ e11 Ar13 (j := (1 : Int32)) hin13 rfl (Sto.ofV Ar13 qq13 O1 (Ins.self cf14)) (g := (mkF m 16 #[.val (.int p1), .unset, .unset, .unset, .unset, .unset, .unset, .unset] [(.ref (ad 1)), (.int (1 : Int32)), (.ref b1), (.ref b1)])) rfl rfl (hb hby at_16)
  have ch16 : ∀ t, Steps p.tables e below (T15.setTop (mkF m 17 #[.val (.int p1), .unset, .unset, .unset, .unset, .unset, .unset, .unset] [(.ref b1)])) t → Steps p.tables e below (s₁.setTop (entryFrame m #[(.int p1)] maxLocals)) t := fun t k => ch12 t (by
      show Steps p.tables e below (T11.setTop (mkF m 16 #[.val (.int p1), .unset, .unset, .unset, .unset, .unset, .unset, .unset] [(.ref (ad 1)), (.int (1 : Int32)), (.ref b1), (.ref b1)])) t
      exact st15 t k)
  have V15 : Arv Z hp15 b1 k1 (.object own_V) (8 : Int32) [(.ref (ad 0)), (.ref (ad 1)), .null, .null, .null, .null, .null, .null] .null := Arv.set Ar13 qq13 Sz13 Ng13 Ha13 Ga13 rfl W15 1 rfl (Nat.le_of_ble_eq_true rfl)
  have N15 := Fr.snoc X15 N8 g_b1
  have Kp15 := Keep.wr Kp8 W15 (Or.inr sz_b1)
  have cf17 := (own_sta_keep (own_S_NO_MATCH_ACTION W) Kp15 all0)
  obtain ⟨T18, X18, e18, st18⟩ := getS2 X15 hx hZ hown (host := "") (Or.inl (hw _ (List.mem_of_getElem? (i := 8) rfl))) Via.refl e15 cf17 (g := (mkF m 19 #[.val (.int p1), .unset, .unset, .unset, .unset, .unset, .unset, .unset] [(.int (2 : Int32)), (.ref b1), (.ref b1)])) rfl (hb hby at_19)
  have ch19 : ∀ t, Steps p.tables e below (T18.setTop (mkF m 22 #[.val (.int p1), .unset, .unset, .unset, .unset, .unset, .unset, .unset] [(.ref (ad 2)), (.int (2 : Int32)), (.ref b1), (.ref b1)])) t → Steps p.tables e below (s₁.setTop (entryFrame m #[(.int p1)] maxLocals)) t := fun t k => ch16 t (by
      show Steps p.tables e below (T15.setTop (mkF m 17 #[.val (.int p1), .unset, .unset, .unset, .unset, .unset, .unset, .unset] [(.ref b1)])) t
      refine XS.dup X15.here hx rfl (hb hby at_17) rfl rfl ?_
      show Steps p.tables e below (T15.setTop (mkF m 18 #[.val (.int p1), .unset, .unset, .unset, .unset, .unset, .unset, .unset] [(.ref b1), (.ref b1)])) t
      refine XS.iconst X15.here hx rfl (hb hby at_18) ?_
      show Steps p.tables e below (T15.setTop (mkF m 19 #[.val (.int p1), .unset, .unset, .unset, .unset, .unset, .unset, .unset] [(.int (2 : Int32)), (.ref b1), (.ref b1)])) t
      exact st18 t k)
  obtain ⟨cl20, Ar20, qq20, Sz20, Ng20, Ha20, Ga20⟩ := id V15
  have hin20 : ¬ ((2 : Int32) < 0 ∨ cl20.slots.size ≤ ((2 : Int32)).toNatClampNeg) := inb_of Sz20 (by decide)
  have cf21 := (Exa.keep (own_E_NO_MATCH_ACTION W) Kp15)
  obtain ⟨T22, hp22, X22, e22, W22, st22⟩ := stR X18 hx hZ e18 Ar20 (j := (2 : Int32)) hin20 rfl (Sto.ofV Ar20 qq20 O1 (Ins.self cf21)) (g := (mkF m 22 #[.val (.int p1), .unset, .unset, .unset, .unset, .unset, .unset, .unset] [(.ref (ad 2)), (.int (2 : Int32)), (.ref b1), (.ref b1)])) rfl rfl (hb hby at_22)
  have ch23 : ∀ t, Steps p.tables e below (T22.setTop (mkF m 23 #[.val (.int p1), .unset, .unset, .unset, .unset, .unset, .unset, .unset] [(.ref b1)])) t → Steps p.tables e below (s₁.setTop (entryFrame m #[(.int p1)] maxLocals)) t := fun t k => ch19 t (by
      show Steps p.tables e below (T18.setTop (mkF m 22 #[.val (.int p1), .unset, .unset, .unset, .unset, .unset, .unset, .unset] [(.ref (ad 2)), (.int (2 : Int32)), (.ref b1), (.ref b1)])) t
      exact st22 t k)
  have V22 : Arv Z hp22 b1 k1 (.object own_V) (8 : Int32) [(.ref (ad 0)), (.ref (ad 1)), (.ref (ad 2)), .null, .null, .null, .null, .null] .null := Arv.set Ar20 qq20 Sz20 Ng20 Ha20 Ga20 rfl W22 2 rfl (Nat.le_of_ble_eq_true rfl)
  have N22 := Fr.snoc X22 N15 g_b1
  have Kp22 := Keep.wr Kp15 W22 (Or.inr sz_b1)
  have cf24 := (own_sta_keep (own_S_NO_MATCH_IDENTITY W) Kp22 all0)
  obtain ⟨T25, X25, e25, st25⟩ := getS2 X22 hx hZ hown (host := "") (Or.inl (hw _ (List.mem_of_getElem? (i := 10) rfl))) Via.refl e22 cf24 (g := (mkF m 25 #[.val (.int p1), .unset, .unset, .unset, .unset, .unset, .unset, .unset] [(.int (3 : Int32)), (.ref b1), (.ref b1)])) rfl (hb hby at_25)
  have ch26 : ∀ t, Steps p.tables e below (T25.setTop (mkF m 28 #[.val (.int p1), .unset, .unset, .unset, .unset, .unset, .unset, .unset] [(.ref (ad 3)), (.int (3 : Int32)), (.ref b1), (.ref b1)])) t → Steps p.tables e below (s₁.setTop (entryFrame m #[(.int p1)] maxLocals)) t := fun t k => ch23 t (by
      show Steps p.tables e below (T22.setTop (mkF m 23 #[.val (.int p1), .unset, .unset, .unset, .unset, .unset, .unset, .unset] [(.ref b1)])) t
      refine XS.dup X22.here hx rfl (hb hby at_23) rfl rfl ?_
      show Steps p.tables e below (T22.setTop (mkF m 24 #[.val (.int p1), .unset, .unset, .unset, .unset, .unset, .unset, .unset] [(.ref b1), (.ref b1)])) t
      refine XS.iconst X22.here hx rfl (hb hby at_24) ?_
      show Steps p.tables e below (T22.setTop (mkF m 25 #[.val (.int p1), .unset, .unset, .unset, .unset, .unset, .unset, .unset] [(.int (3 : Int32)), (.ref b1), (.ref b1)])) t
      exact st25 t k)
  obtain ⟨cl27, Ar27, qq27, Sz27, Ng27, Ha27, Ga27⟩ := id V22
  have hin27 : ¬ ((3 : Int32) < 0 ∨ cl27.slots.size ≤ ((3 : Int32)).toNatClampNeg) := inb_of Sz27 (by decide)
  have cf28 := (Exa.keep (own_E_NO_MATCH_IDENTITY W) Kp22)
  obtain ⟨T29, hp29, X29, e29, W29, st29⟩ := stR X25 hx hZ e25 Ar27 (j := (3 : Int32)) hin27 rfl (Sto.ofV Ar27 qq27 O1 (Ins.self cf28)) (g := (mkF m 28 #[.val (.int p1), .unset, .unset, .unset, .unset, .unset, .unset, .unset] [(.ref (ad 3)), (.int (3 : Int32)), (.ref b1), (.ref b1)])) rfl rfl (hb hby at_28)
  have ch30 : ∀ t, Steps p.tables e below (T29.setTop (mkF m 29 #[.val (.int p1), .unset, .unset, .unset, .unset, .unset, .unset, .unset] [(.ref b1)])) t → Steps p.tables e below (s₁.setTop (entryFrame m #[(.int p1)] maxLocals)) t := fun t k => ch26 t (by
      show Steps p.tables e below (T25.setTop (mkF m 28 #[.val (.int p1), .unset, .unset, .unset, .unset, .unset, .unset, .unset] [(.ref (ad 3)), (.int (3 : Int32)), (.ref b1), (.ref b1)])) t
      exact st29 t k)
  have V29 : Arv Z hp29 b1 k1 (.object own_V) (8 : Int32) [(.ref (ad 0)), (.ref (ad 1)), (.ref (ad 2)), (.ref (ad 3)), .null, .null, .null, .null] .null := Arv.set Ar27 qq27 Sz27 Ng27 Ha27 Ga27 rfl W29 3 rfl (Nat.le_of_ble_eq_true rfl)
  have N29 := Fr.snoc X29 N22 g_b1
  have Kp29 := Keep.wr Kp22 W29 (Or.inr sz_b1)
  have cf31 := (own_sta_keep (own_S_NO_MATCH_CALENDAR W) Kp29 all0)
  obtain ⟨T32, X32, e32, st32⟩ := getS2 X29 hx hZ hown (host := "") (Or.inl (hw _ (List.mem_of_getElem? (i := 12) rfl))) Via.refl e29 cf31 (g := (mkF m 31 #[.val (.int p1), .unset, .unset, .unset, .unset, .unset, .unset, .unset] [(.int (4 : Int32)), (.ref b1), (.ref b1)])) rfl (hb hby at_31)
  have ch33 : ∀ t, Steps p.tables e below (T32.setTop (mkF m 34 #[.val (.int p1), .unset, .unset, .unset, .unset, .unset, .unset, .unset] [(.ref (ad 4)), (.int (4 : Int32)), (.ref b1), (.ref b1)])) t → Steps p.tables e below (s₁.setTop (entryFrame m #[(.int p1)] maxLocals)) t := fun t k => ch30 t (by
      show Steps p.tables e below (T29.setTop (mkF m 29 #[.val (.int p1), .unset, .unset, .unset, .unset, .unset, .unset, .unset] [(.ref b1)])) t
      refine XS.dup X29.here hx rfl (hb hby at_29) rfl rfl ?_
      show Steps p.tables e below (T29.setTop (mkF m 30 #[.val (.int p1), .unset, .unset, .unset, .unset, .unset, .unset, .unset] [(.ref b1), (.ref b1)])) t
      refine XS.iconst X29.here hx rfl (hb hby at_30) ?_
      show Steps p.tables e below (T29.setTop (mkF m 31 #[.val (.int p1), .unset, .unset, .unset, .unset, .unset, .unset, .unset] [(.int (4 : Int32)), (.ref b1), (.ref b1)])) t
      exact st32 t k)
  obtain ⟨cl34, Ar34, qq34, Sz34, Ng34, Ha34, Ga34⟩ := id V29
  have hin34 : ¬ ((4 : Int32) < 0 ∨ cl34.slots.size ≤ ((4 : Int32)).toNatClampNeg) := inb_of Sz34 (by decide)
  have cf35 := (Exa.keep (own_E_NO_MATCH_CALENDAR W) Kp29)
  obtain ⟨T36, hp36, X36, e36, W36, st36⟩ := stR X32 hx hZ e32 Ar34 (j := (4 : Int32)) hin34 rfl (Sto.ofV Ar34 qq34 O1 (Ins.self cf35)) (g := (mkF m 34 #[.val (.int p1), .unset, .unset, .unset, .unset, .unset, .unset, .unset] [(.ref (ad 4)), (.int (4 : Int32)), (.ref b1), (.ref b1)])) rfl rfl (hb hby at_34)
  have ch37 : ∀ t, Steps p.tables e below (T36.setTop (mkF m 35 #[.val (.int p1), .unset, .unset, .unset, .unset, .unset, .unset, .unset] [(.ref b1)])) t → Steps p.tables e below (s₁.setTop (entryFrame m #[(.int p1)] maxLocals)) t := fun t k => ch33 t (by
      show Steps p.tables e below (T32.setTop (mkF m 34 #[.val (.int p1), .unset, .unset, .unset, .unset, .unset, .unset, .unset] [(.ref (ad 4)), (.int (4 : Int32)), (.ref b1), (.ref b1)])) t
      exact st36 t k)
  have V36 : Arv Z hp36 b1 k1 (.object own_V) (8 : Int32) [(.ref (ad 0)), (.ref (ad 1)), (.ref (ad 2)), (.ref (ad 3)), (.ref (ad 4)), .null, .null, .null] .null := Arv.set Ar34 qq34 Sz34 Ng34 Ha34 Ga34 rfl W36 4 rfl (Nat.le_of_ble_eq_true rfl)
  have N36 := Fr.snoc X36 N29 g_b1
  have Kp36 := Keep.wr Kp29 W36 (Or.inr sz_b1)
  have cf38 := (own_sta_keep (own_S_MATCHED W) Kp36 all0)
  obtain ⟨T39, X39, e39, st39⟩ := getS2 X36 hx hZ hown (host := "") (Or.inl (hw _ (List.mem_of_getElem? (i := 14) rfl))) Via.refl e36 cf38 (g := (mkF m 37 #[.val (.int p1), .unset, .unset, .unset, .unset, .unset, .unset, .unset] [(.int (5 : Int32)), (.ref b1), (.ref b1)])) rfl (hb hby at_37)
  have ch40 : ∀ t, Steps p.tables e below (T39.setTop (mkF m 40 #[.val (.int p1), .unset, .unset, .unset, .unset, .unset, .unset, .unset] [(.ref (ad 5)), (.int (5 : Int32)), (.ref b1), (.ref b1)])) t → Steps p.tables e below (s₁.setTop (entryFrame m #[(.int p1)] maxLocals)) t := fun t k => ch37 t (by
      show Steps p.tables e below (T36.setTop (mkF m 35 #[.val (.int p1), .unset, .unset, .unset, .unset, .unset, .unset, .unset] [(.ref b1)])) t
      refine XS.dup X36.here hx rfl (hb hby at_35) rfl rfl ?_
      show Steps p.tables e below (T36.setTop (mkF m 36 #[.val (.int p1), .unset, .unset, .unset, .unset, .unset, .unset, .unset] [(.ref b1), (.ref b1)])) t
      refine XS.iconst X36.here hx rfl (hb hby at_36) ?_
      show Steps p.tables e below (T36.setTop (mkF m 37 #[.val (.int p1), .unset, .unset, .unset, .unset, .unset, .unset, .unset] [(.int (5 : Int32)), (.ref b1), (.ref b1)])) t
      exact st39 t k)
  obtain ⟨cl41, Ar41, qq41, Sz41, Ng41, Ha41, Ga41⟩ := id V36
  have hin41 : ¬ ((5 : Int32) < 0 ∨ cl41.slots.size ≤ ((5 : Int32)).toNatClampNeg) := inb_of Sz41 (by decide)
  have cf42 := (Exa.keep (own_E_MATCHED W) Kp36)
  obtain ⟨T43, hp43, X43, e43, W43, st43⟩ := stR X39 hx hZ e39 Ar41 (j := (5 : Int32)) hin41 rfl (Sto.ofV Ar41 qq41 O1 (Ins.self cf42)) (g := (mkF m 40 #[.val (.int p1), .unset, .unset, .unset, .unset, .unset, .unset, .unset] [(.ref (ad 5)), (.int (5 : Int32)), (.ref b1), (.ref b1)])) rfl rfl (hb hby at_40)
  have ch44 : ∀ t, Steps p.tables e below (T43.setTop (mkF m 41 #[.val (.int p1), .unset, .unset, .unset, .unset, .unset, .unset, .unset] [(.ref b1)])) t → Steps p.tables e below (s₁.setTop (entryFrame m #[(.int p1)] maxLocals)) t := fun t k => ch40 t (by
      show Steps p.tables e below (T39.setTop (mkF m 40 #[.val (.int p1), .unset, .unset, .unset, .unset, .unset, .unset, .unset] [(.ref (ad 5)), (.int (5 : Int32)), (.ref b1), (.ref b1)])) t
      exact st43 t k)
  have V43 : Arv Z hp43 b1 k1 (.object own_V) (8 : Int32) [(.ref (ad 0)), (.ref (ad 1)), (.ref (ad 2)), (.ref (ad 3)), (.ref (ad 4)), (.ref (ad 5)), .null, .null] .null := Arv.set Ar41 qq41 Sz41 Ng41 Ha41 Ga41 rfl W43 5 rfl (Nat.le_of_ble_eq_true rfl)
  have N43 := Fr.snoc X43 N36 g_b1
  have Kp43 := Keep.wr Kp36 W43 (Or.inr sz_b1)
  have cf45 := (own_sta_keep (own_S_RETAINED W) Kp43 all0)
  obtain ⟨T46, X46, e46, st46⟩ := getS2 X43 hx hZ hown (host := "") (Or.inl (hw _ (List.mem_of_getElem? (i := 16) rfl))) Via.refl e43 cf45 (g := (mkF m 44 #[.val (.int p1), .unset, .unset, .unset, .unset, .unset, .unset, .unset] [(.int (6 : Int32)), (.ref b1), (.ref b1)])) rfl (hb hby at_44)
  have ch47 : ∀ t, Steps p.tables e below (T46.setTop (mkF m 47 #[.val (.int p1), .unset, .unset, .unset, .unset, .unset, .unset, .unset] [(.ref (ad 6)), (.int (6 : Int32)), (.ref b1), (.ref b1)])) t → Steps p.tables e below (s₁.setTop (entryFrame m #[(.int p1)] maxLocals)) t := fun t k => ch44 t (by
      show Steps p.tables e below (T43.setTop (mkF m 41 #[.val (.int p1), .unset, .unset, .unset, .unset, .unset, .unset, .unset] [(.ref b1)])) t
      refine XS.dup X43.here hx rfl (hb hby at_41) rfl rfl ?_
      show Steps p.tables e below (T43.setTop (mkF m 42 #[.val (.int p1), .unset, .unset, .unset, .unset, .unset, .unset, .unset] [(.ref b1), (.ref b1)])) t
      refine XS.bipush X43.here hx rfl (hb hby at_42) ?_
      show Steps p.tables e below (T43.setTop (mkF m 44 #[.val (.int p1), .unset, .unset, .unset, .unset, .unset, .unset, .unset] [(.int (6 : Int32)), (.ref b1), (.ref b1)])) t
      exact st46 t k)
  obtain ⟨cl48, Ar48, qq48, Sz48, Ng48, Ha48, Ga48⟩ := id V43
  have hin48 : ¬ ((6 : Int32) < 0 ∨ cl48.slots.size ≤ ((6 : Int32)).toNatClampNeg) := inb_of Sz48 (by decide)
  have cf49 := (Exa.keep (own_E_RETAINED W) Kp43)
  obtain ⟨T50, hp50, X50, e50, W50, st50⟩ := stR X46 hx hZ e46 Ar48 (j := (6 : Int32)) hin48 rfl (Sto.ofV Ar48 qq48 O1 (Ins.self cf49)) (g := (mkF m 47 #[.val (.int p1), .unset, .unset, .unset, .unset, .unset, .unset, .unset] [(.ref (ad 6)), (.int (6 : Int32)), (.ref b1), (.ref b1)])) rfl rfl (hb hby at_47)
  have ch51 : ∀ t, Steps p.tables e below (T50.setTop (mkF m 48 #[.val (.int p1), .unset, .unset, .unset, .unset, .unset, .unset, .unset] [(.ref b1)])) t → Steps p.tables e below (s₁.setTop (entryFrame m #[(.int p1)] maxLocals)) t := fun t k => ch47 t (by
      show Steps p.tables e below (T46.setTop (mkF m 47 #[.val (.int p1), .unset, .unset, .unset, .unset, .unset, .unset, .unset] [(.ref (ad 6)), (.int (6 : Int32)), (.ref b1), (.ref b1)])) t
      exact st50 t k)
  have V50 : Arv Z hp50 b1 k1 (.object own_V) (8 : Int32) [(.ref (ad 0)), (.ref (ad 1)), (.ref (ad 2)), (.ref (ad 3)), (.ref (ad 4)), (.ref (ad 5)), (.ref (ad 6)), .null] .null := Arv.set Ar48 qq48 Sz48 Ng48 Ha48 Ga48 rfl W50 6 rfl (Nat.le_of_ble_eq_true rfl)
  have N50 := Fr.snoc X50 N43 g_b1
  have Kp50 := Keep.wr Kp43 W50 (Or.inr sz_b1)
  have cf52 := (own_sta_keep (own_S_DROPPED_BY_BEST_MATCH W) Kp50 all0)
  obtain ⟨T53, X53, e53, st53⟩ := getS2 X50 hx hZ hown (host := "") (Or.inl (hw _ (List.mem_of_getElem? (i := 18) rfl))) Via.refl e50 cf52 (g := (mkF m 51 #[.val (.int p1), .unset, .unset, .unset, .unset, .unset, .unset, .unset] [(.int (7 : Int32)), (.ref b1), (.ref b1)])) rfl (hb hby at_51)
  have ch54 : ∀ t, Steps p.tables e below (T53.setTop (mkF m 54 #[.val (.int p1), .unset, .unset, .unset, .unset, .unset, .unset, .unset] [(.ref (ad 7)), (.int (7 : Int32)), (.ref b1), (.ref b1)])) t → Steps p.tables e below (s₁.setTop (entryFrame m #[(.int p1)] maxLocals)) t := fun t k => ch51 t (by
      show Steps p.tables e below (T50.setTop (mkF m 48 #[.val (.int p1), .unset, .unset, .unset, .unset, .unset, .unset, .unset] [(.ref b1)])) t
      refine XS.dup X50.here hx rfl (hb hby at_48) rfl rfl ?_
      show Steps p.tables e below (T50.setTop (mkF m 49 #[.val (.int p1), .unset, .unset, .unset, .unset, .unset, .unset, .unset] [(.ref b1), (.ref b1)])) t
      refine XS.bipush X50.here hx rfl (hb hby at_49) ?_
      show Steps p.tables e below (T50.setTop (mkF m 51 #[.val (.int p1), .unset, .unset, .unset, .unset, .unset, .unset, .unset] [(.int (7 : Int32)), (.ref b1), (.ref b1)])) t
      exact st53 t k)
  obtain ⟨cl55, Ar55, qq55, Sz55, Ng55, Ha55, Ga55⟩ := id V50
  have hin55 : ¬ ((7 : Int32) < 0 ∨ cl55.slots.size ≤ ((7 : Int32)).toNatClampNeg) := inb_of Sz55 (by decide)
  have cf56 := (Exa.keep (own_E_DROPPED_BY_BEST_MATCH W) Kp50)
  obtain ⟨T57, hp57, X57, e57, W57, st57⟩ := stR X53 hx hZ e53 Ar55 (j := (7 : Int32)) hin55 rfl (Sto.ofV Ar55 qq55 O1 (Ins.self cf56)) (g := (mkF m 54 #[.val (.int p1), .unset, .unset, .unset, .unset, .unset, .unset, .unset] [(.ref (ad 7)), (.int (7 : Int32)), (.ref b1), (.ref b1)])) rfl rfl (hb hby at_54)
  have ch58 : ∀ t, Steps p.tables e below (T57.setTop (mkF m 55 #[.val (.int p1), .unset, .unset, .unset, .unset, .unset, .unset, .unset] [(.ref b1)])) t → Steps p.tables e below (s₁.setTop (entryFrame m #[(.int p1)] maxLocals)) t := fun t k => ch54 t (by
      show Steps p.tables e below (T53.setTop (mkF m 54 #[.val (.int p1), .unset, .unset, .unset, .unset, .unset, .unset, .unset] [(.ref (ad 7)), (.int (7 : Int32)), (.ref b1), (.ref b1)])) t
      exact st57 t k)
  have V57 : Arv Z hp57 b1 k1 (.object own_V) (8 : Int32) [(.ref (ad 0)), (.ref (ad 1)), (.ref (ad 2)), (.ref (ad 3)), (.ref (ad 4)), (.ref (ad 5)), (.ref (ad 6)), (.ref (ad 7))] .null := Arv.set Ar55 qq55 Sz55 Ng55 Ha55 Ga55 rfl W57 7 rfl (Nat.le_of_ble_eq_true rfl)
  have N57 := Fr.snoc X57 N50 g_b1
  have Kp57 := Keep.wr Kp50 W57 (Or.inr sz_b1)
  obtain ⟨cl59, Ar59, -, Sz59, Ng59, Ha59, -⟩ := id V57
  have hin59 : ¬ ((5 : Int32) < 0 ∨ cl59.slots.size ≤ ((5 : Int32)).toNatClampNeg) := inb_of Sz59 (by decide)
  have hat59 : cl59.slots[((5 : Int32)).toNatClampNeg]? = some (.ref (ad 5)) := Ha59.at hin59 rfl
  have cf61 := (Exa.wr W57 (Exa.wr W50 (Exa.wr W43 cf42)))
  obtain ⟨cq60, kq60, qa60, qb60, qc60⟩ := isOf hZ e57 cf61
  obtain ⟨vv62, _, ⟨T62, L62, kk62, nn62⟩, -, X62, ⟨Lc62, hQ62, l62, y62, z62⟩, st62⟩ := X57.virtualBack hx (y := (⟨own_V, "missesEverySubject", "()Z"⟩ : MethodName)) (z := (⟨own_V, "missesEverySubject", "()Z"⟩ : MethodName)) hown (mvT hZ (hw _ (List.mem_of_getElem? (i := 20) rfl))) (mvT hZ (hw _ (List.mem_of_getElem? (i := 21) rfl))) (notFace_of_selects (args := #[]) (mvT hZ (hw _ (List.mem_of_getElem? (i := 23) rfl)))) (mvT hZ (hw _ (List.mem_of_getElem? (i := 23) rfl))) (mvT hZ (hw _ (List.mem_of_getElem? (i := 22) rfl))) (by decide) (backOf (W := 0) (own_miss_5 l Z a0 hw [] hp57 n0 (Nat.le_trans Z0 Kp57.1) ad (own_Wd_ext W (own_ext_of_keep Kp57 all0))) hZ (hw _ (List.mem_of_getElem? (i := 24) rfl)) (hw _ (List.mem_of_getElem? (i := 3) rfl)) (by decide) (by decide)) qa60 qc60 (g := (mkF m 107 #[.val (.int p1), .val (.ref b1), .val (.int (5 : Int32)), .val (.ref (ad 5)), .val (.int (0 : Int32)), .val (.int (0 : Int32)), .val (.int (0 : Int32)), .unset] [(.ref (ad 5))])) rfl (by rw [hml]; rfl) (Steps.refl _) (argsL := []) (rest := []) (lenOf own_pd___Z rfl) rfl (by show 2 * 0 + _ ≤ _; exact Nat.le_of_eq rfl) (hb hby at_107) (fun _ _ => ⟨rfl, e57, (by decide : 1 + 0 ≤ _), (by decide : 8 + 0 ≤ _)⟩)
  dsimp only [Pt.U, Pt.locs, Pt.cells, Pt.slots] at X62 l62 y62 z62 st62 hQ62
  subst l62 y62 z62
  obtain ⟨rfl, Nq62, e62⟩ := hQ62
  have N62 := Fr.app N57 Nq62
  have ch63 : ∀ t, Steps p.tables e below (T62.setTop (mkF m 110 #[.val (.int p1), .val (.ref b1), .val (.int (5 : Int32)), .val (.ref (ad 5)), .val (.int (0 : Int32)), .val (.int (0 : Int32)), .val (.int (0 : Int32)), .unset] [(.int (0 : Int32))])) t → Steps p.tables e below (s₁.setTop (entryFrame m #[(.int p1)] maxLocals)) t := fun t k => ch58 t (by
      show Steps p.tables e below (T57.setTop (mkF m 55 #[.val (.int p1), .unset, .unset, .unset, .unset, .unset, .unset, .unset] [(.ref b1)])) t
      refine XS.astoreN X57.here hx rfl (hb hby at_55) rfl rfl (l' := #[.val (.int p1), .val (.ref b1), .unset, .unset, .unset, .unset, .unset, .unset]) rfl ?_
      show Steps p.tables e below (T57.setTop (mkF m 56 #[.val (.int p1), .val (.ref b1), .unset, .unset, .unset, .unset, .unset, .unset] [])) t
      refine XS.iloadN X57.here hx rfl (hb hby at_56) rfl ?_
      show Steps p.tables e below (T57.setTop (mkF m 57 #[.val (.int p1), .val (.ref b1), .unset, .unset, .unset, .unset, .unset, .unset] [(.int p1)])) t
      refine XS.bipush X57.here hx rfl (hb hby at_57) ?_
      show Steps p.tables e below (T57.setTop (mkF m 59 #[.val (.int p1), .val (.ref b1), .unset, .unset, .unset, .unset, .unset, .unset] [(.int (7 : Int32)), (.int p1)])) t
      refine XS.iand X57.here hx rfl (hb hby at_59) rfl ?_
      rw [hk]
      show Steps p.tables e below (T57.setTop (mkF m 60 #[.val (.int p1), .val (.ref b1), .unset, .unset, .unset, .unset, .unset, .unset] [(.int (5 : Int32))])) t
      refine XS.istoreN X57.here hx rfl (hb hby at_60) rfl (l' := #[.val (.int p1), .val (.ref b1), .val (.int (5 : Int32)), .unset, .unset, .unset, .unset, .unset]) rfl ?_
      show Steps p.tables e below (T57.setTop (mkF m 61 #[.val (.int p1), .val (.ref b1), .val (.int (5 : Int32)), .unset, .unset, .unset, .unset, .unset] [])) t
      refine XS.aloadN X57.here hx rfl (hb hby at_61) rfl rfl ?_
      show Steps p.tables e below (T57.setTop (mkF m 62 #[.val (.int p1), .val (.ref b1), .val (.int (5 : Int32)), .unset, .unset, .unset, .unset, .unset] [(.ref b1)])) t
      refine XS.iloadN X57.here hx rfl (hb hby at_62) rfl ?_
      show Steps p.tables e below (T57.setTop (mkF m 63 #[.val (.int p1), .val (.ref b1), .val (.int (5 : Int32)), .unset, .unset, .unset, .unset, .unset] [(.int (5 : Int32)), (.ref b1)])) t
      refine X57.aaload hx (j := (5 : Int32)) (v := (.ref (ad 5))) (by rw [e57]; exact Ar59.1) (State.isArrayOf_alike hZ.alike Ar59.2.1) rfl Ar59.2.2 hin59 hat59 (g := (mkF m 63 #[.val (.int p1), .val (.ref b1), .val (.int (5 : Int32)), .unset, .unset, .unset, .unset, .unset] [(.int (5 : Int32)), (.ref b1)])) rfl rfl (hb hby at_63) _ ?_
      show Steps p.tables e below (T57.setTop (mkF m 64 #[.val (.int p1), .val (.ref b1), .val (.int (5 : Int32)), .unset, .unset, .unset, .unset, .unset] [(.ref (ad 5))])) t
      refine XS.astoreN X57.here hx rfl (hb hby at_64) rfl rfl (l' := #[.val (.int p1), .val (.ref b1), .val (.int (5 : Int32)), .val (.ref (ad 5)), .unset, .unset, .unset, .unset]) rfl ?_
      show Steps p.tables e below (T57.setTop (mkF m 65 #[.val (.int p1), .val (.ref b1), .val (.int (5 : Int32)), .val (.ref (ad 5)), .unset, .unset, .unset, .unset] [])) t
      refine XS.iloadN X57.here hx rfl (hb hby at_65) rfl ?_
      show Steps p.tables e below (T57.setTop (mkF m 66 #[.val (.int p1), .val (.ref b1), .val (.int (5 : Int32)), .val (.ref (ad 5)), .unset, .unset, .unset, .unset] [(.int (5 : Int32))])) t
      refine XS.iconst X57.here hx rfl (hb hby at_66) ?_
      show Steps p.tables e below (T57.setTop (mkF m 67 #[.val (.int p1), .val (.ref b1), .val (.int (5 : Int32)), .val (.ref (ad 5)), .unset, .unset, .unset, .unset] [(.int (5 : Int32)), (.int (5 : Int32))])) t
      refine XS.icmpYes X57.here hx rfl (pc0 := 67) (pc' := 74) rfl (hb hby at_67) rfl (flt (by decide : ¬ (5 : Int32) < (5 : Int32))).2.1 (by decide) (by decide) ?_
      show Steps p.tables e below (T57.setTop (mkF m 74 #[.val (.int p1), .val (.ref b1), .val (.int (5 : Int32)), .val (.ref (ad 5)), .unset, .unset, .unset, .unset] [])) t
      refine XS.iconst X57.here hx rfl (hb hby at_74) ?_
      show Steps p.tables e below (T57.setTop (mkF m 75 #[.val (.int p1), .val (.ref b1), .val (.int (5 : Int32)), .val (.ref (ad 5)), .unset, .unset, .unset, .unset] [(.int (0 : Int32))])) t
      refine XS.istore X57.here hx rfl (hb hby at_75) rfl (l' := #[.val (.int p1), .val (.ref b1), .val (.int (5 : Int32)), .val (.ref (ad 5)), .val (.int (0 : Int32)), .unset, .unset, .unset]) rfl ?_
      show Steps p.tables e below (T57.setTop (mkF m 77 #[.val (.int p1), .val (.ref b1), .val (.int (5 : Int32)), .val (.ref (ad 5)), .val (.int (0 : Int32)), .unset, .unset, .unset] [])) t
      refine XS.iloadN X57.here hx rfl (hb hby at_77) rfl ?_
      show Steps p.tables e below (T57.setTop (mkF m 78 #[.val (.int p1), .val (.ref b1), .val (.int (5 : Int32)), .val (.ref (ad 5)), .val (.int (0 : Int32)), .unset, .unset, .unset] [(.int (5 : Int32))])) t
      refine XS.iconst X57.here hx rfl (hb hby at_78) ?_
      show Steps p.tables e below (T57.setTop (mkF m 79 #[.val (.int p1), .val (.ref b1), .val (.int (5 : Int32)), .val (.ref (ad 5)), .val (.int (0 : Int32)), .unset, .unset, .unset] [(.int (3 : Int32)), (.int (5 : Int32))])) t
      refine XS.icmpYes X57.here hx rfl (pc0 := 79) (pc' := 86) rfl (hb hby at_79) rfl (feq (by decide : ¬ (5 : Int32) = (3 : Int32))).2 (by decide) (by decide) ?_
      show Steps p.tables e below (T57.setTop (mkF m 86 #[.val (.int p1), .val (.ref b1), .val (.int (5 : Int32)), .val (.ref (ad 5)), .val (.int (0 : Int32)), .unset, .unset, .unset] [])) t
      refine XS.iconst X57.here hx rfl (hb hby at_86) ?_
      show Steps p.tables e below (T57.setTop (mkF m 87 #[.val (.int p1), .val (.ref b1), .val (.int (5 : Int32)), .val (.ref (ad 5)), .val (.int (0 : Int32)), .unset, .unset, .unset] [(.int (0 : Int32))])) t
      refine XS.istore X57.here hx rfl (hb hby at_87) rfl (l' := #[.val (.int p1), .val (.ref b1), .val (.int (5 : Int32)), .val (.ref (ad 5)), .val (.int (0 : Int32)), .val (.int (0 : Int32)), .unset, .unset]) rfl ?_
      show Steps p.tables e below (T57.setTop (mkF m 89 #[.val (.int p1), .val (.ref b1), .val (.int (5 : Int32)), .val (.ref (ad 5)), .val (.int (0 : Int32)), .val (.int (0 : Int32)), .unset, .unset] [])) t
      refine XS.iload X57.here hx rfl (hb hby at_89) rfl ?_
      show Steps p.tables e below (T57.setTop (mkF m 91 #[.val (.int p1), .val (.ref b1), .val (.int (5 : Int32)), .val (.ref (ad 5)), .val (.int (0 : Int32)), .val (.int (0 : Int32)), .unset, .unset] [(.int (0 : Int32))])) t
      refine XS.ifYes X57.here hx rfl (pc0 := 91) (pc' := 103) rfl (hb hby at_91) rfl ((if0 _ _).trans (teq (by decide : (0 : Int32) = (0 : Int32))).1) (by decide) (by decide) ?_
      show Steps p.tables e below (T57.setTop (mkF m 103 #[.val (.int p1), .val (.ref b1), .val (.int (5 : Int32)), .val (.ref (ad 5)), .val (.int (0 : Int32)), .val (.int (0 : Int32)), .unset, .unset] [])) t
      refine XS.iconst X57.here hx rfl (hb hby at_103) ?_
      show Steps p.tables e below (T57.setTop (mkF m 104 #[.val (.int p1), .val (.ref b1), .val (.int (5 : Int32)), .val (.ref (ad 5)), .val (.int (0 : Int32)), .val (.int (0 : Int32)), .unset, .unset] [(.int (0 : Int32))])) t
      refine XS.istore X57.here hx rfl (hb hby at_104) rfl (l' := #[.val (.int p1), .val (.ref b1), .val (.int (5 : Int32)), .val (.ref (ad 5)), .val (.int (0 : Int32)), .val (.int (0 : Int32)), .val (.int (0 : Int32)), .unset]) rfl ?_
      show Steps p.tables e below (T57.setTop (mkF m 106 #[.val (.int p1), .val (.ref b1), .val (.int (5 : Int32)), .val (.ref (ad 5)), .val (.int (0 : Int32)), .val (.int (0 : Int32)), .val (.int (0 : Int32)), .unset] [])) t
      refine XS.aloadN X57.here hx rfl (hb hby at_106) rfl rfl ?_
      show Steps p.tables e below (T57.setTop (mkF m 107 #[.val (.int p1), .val (.ref b1), .val (.int (5 : Int32)), .val (.ref (ad 5)), .val (.int (0 : Int32)), .val (.int (0 : Int32)), .val (.int (0 : Int32)), .unset] [(.ref (ad 5))])) t
      exact st62.trans k)
  have ch64 : ∀ t, Steps p.tables e below (T62.setTop (mkF m 138 #[.val (.int p1), .val (.ref b1), .val (.int (5 : Int32)), .val (.ref (ad 5)), .val (.int (0 : Int32)), .val (.int (0 : Int32)), .val (.int (0 : Int32)), .val (.int (0 : Int32))] [(.int (1 : Int32))])) t → Steps p.tables e below (s₁.setTop (entryFrame m #[(.int p1)] maxLocals)) t := fun t k => ch63 t (by
      show Steps p.tables e below (T62.setTop (mkF m 110 #[.val (.int p1), .val (.ref b1), .val (.int (5 : Int32)), .val (.ref (ad 5)), .val (.int (0 : Int32)), .val (.int (0 : Int32)), .val (.int (0 : Int32)), .unset] [(.int (0 : Int32))])) t
      refine XS.istore X62.here hx rfl (hb hby at_110) rfl (l' := #[.val (.int p1), .val (.ref b1), .val (.int (5 : Int32)), .val (.ref (ad 5)), .val (.int (0 : Int32)), .val (.int (0 : Int32)), .val (.int (0 : Int32)), .val (.int (0 : Int32))]) rfl ?_
      show Steps p.tables e below (T62.setTop (mkF m 112 #[.val (.int p1), .val (.ref b1), .val (.int (5 : Int32)), .val (.ref (ad 5)), .val (.int (0 : Int32)), .val (.int (0 : Int32)), .val (.int (0 : Int32)), .val (.int (0 : Int32))] [])) t
      refine XS.iload X62.here hx rfl (hb hby at_112) rfl ?_
      show Steps p.tables e below (T62.setTop (mkF m 114 #[.val (.int p1), .val (.ref b1), .val (.int (5 : Int32)), .val (.ref (ad 5)), .val (.int (0 : Int32)), .val (.int (0 : Int32)), .val (.int (0 : Int32)), .val (.int (0 : Int32))] [(.int (0 : Int32))])) t
      refine XS.iload X62.here hx rfl (hb hby at_114) rfl ?_
      show Steps p.tables e below (T62.setTop (mkF m 116 #[.val (.int p1), .val (.ref b1), .val (.int (5 : Int32)), .val (.ref (ad 5)), .val (.int (0 : Int32)), .val (.int (0 : Int32)), .val (.int (0 : Int32)), .val (.int (0 : Int32))] [(.int (0 : Int32)), (.int (0 : Int32))])) t
      refine XS.icmpYes X62.here hx rfl (pc0 := 116) (pc' := 121) rfl (hb hby at_116) rfl (teq (by decide : (0 : Int32) = (0 : Int32))).1 (by decide) (by decide) ?_
      show Steps p.tables e below (T62.setTop (mkF m 121 #[.val (.int p1), .val (.ref b1), .val (.int (5 : Int32)), .val (.ref (ad 5)), .val (.int (0 : Int32)), .val (.int (0 : Int32)), .val (.int (0 : Int32)), .val (.int (0 : Int32))] [])) t
      refine XS.iload X62.here hx rfl (hb hby at_121) rfl ?_
      show Steps p.tables e below (T62.setTop (mkF m 123 #[.val (.int p1), .val (.ref b1), .val (.int (5 : Int32)), .val (.ref (ad 5)), .val (.int (0 : Int32)), .val (.int (0 : Int32)), .val (.int (0 : Int32)), .val (.int (0 : Int32))] [(.int (0 : Int32))])) t
      refine XS.ifYes X62.here hx rfl (pc0 := 123) (pc' := 133) rfl (hb hby at_123) rfl ((if0 _ _).trans (teq (by decide : (0 : Int32) = (0 : Int32))).1) (by decide) (by decide) ?_
      show Steps p.tables e below (T62.setTop (mkF m 133 #[.val (.int p1), .val (.ref b1), .val (.int (5 : Int32)), .val (.ref (ad 5)), .val (.int (0 : Int32)), .val (.int (0 : Int32)), .val (.int (0 : Int32)), .val (.int (0 : Int32))] [])) t
      refine XS.iconst X62.here hx rfl (hb hby at_133) ?_
      show Steps p.tables e below (T62.setTop (mkF m 134 #[.val (.int p1), .val (.ref b1), .val (.int (5 : Int32)), .val (.ref (ad 5)), .val (.int (0 : Int32)), .val (.int (0 : Int32)), .val (.int (0 : Int32)), .val (.int (0 : Int32))] [(.int (1 : Int32))])) t
      refine XS.goto X62.here hx rfl (pc0 := 134) (pc' := 138) rfl (hb hby at_134) (by decide) (by decide) ?_
      exact k)
  obtain ⟨fs, hr, hrun, hended, hW, hsame⟩ := X62.leave (v := some (.int (1 : Int32))) (fun h => by rw [Bd.returns] at h; cases h)
  refine ⟨_, _, ch64 _ ?_, hrun, hended, _, _, rfl, ?_, ⟨_, rfl⟩, hW, hsame.mono (by decide) (by decide)⟩
  · show Steps p.tables e below (T62.setTop (mkF m 138 #[.val (.int p1), .val (.ref b1), .val (.int (5 : Int32)), .val (.ref (ad 5)), .val (.int (0 : Int32)), .val (.int (0 : Int32)), .val (.int (0 : Int32)), .val (.int (0 : Int32))] [(.int (1 : Int32))])) _
    exact retN X62 hx (t := .boolean) Bd.returns (by simp) (hb hby at_138) hr
  · show QN (some (.int (1 : Int32))) n0 _ T62.heap _
    rw [e62]
    exact ⟨rfl, N62⟩
theorem own_ef_own_miss_6 (m : MethodId) {x0 : Addr} : entryFrame m #[(.ref x0)] 1 = mkF m 0 #[.val (.ref x0)] [] := by first | (simp [entryFrame, mkF, argsToLocals, Value.category, maxLocals]; done) | rfl
set_option maxRecDepth 65536 in
set_option maxHeartbeats 40000000 in
theorem own_miss_6 (l : Launch) (Z : State) (a0 : Array Value) (hw : ∀ d ∈ tables_1, d.before a0 Z = true) (ws : List Jvm.Cond) (h0 : Heap) (n0 : Nat) (Z0 : n0 ≤ h0.size) (ad : Nat → Addr) (W : OwnWd Z h0 ad) :
    MetFree l (⟨own_V, "missesEverySubject", "()Z"⟩ : MethodName) (head1 (Jvm.Cond.code (⟨own_V, "missesEverySubject", "()Z"⟩ : MethodName) prog_34_method_6_code 1 (some .boolean) :: ws) ({ frames := 0, cells := 0, slots := 0, locals := 0 } : Room)) (fun a U => a = #[(.ref (ad 6))] ∧ Z.Warmed39 U.vm ∧ U.heap = h0) (fun _ _ _ _ _ => True) (fun _ U o U' => ∃ v L, o = .returned v ∧ QV (some (.int (0 : Int32))) h0 n0 v U'.heap L ∧ FrameEnd U o U' L ({ frames := 0, cells := 0, slots := 0, locals := 0 } : Room).cells ({ frames := 0, cells := 0, slots := 0, locals := 0 } : Room).slots) := by
  refine MetFree.of_bodySF (plainFor_of_name own_pn_own_Verdict) hisR ?_
  intro p e s m args below meth c s₁ Bd hml0 hP hK
  obtain ⟨rfl, hZ, hh⟩ := hP
  have hx := Bd.exec
  have hby := Bd.bytes
  have hml : c.maxLocals = 1 := hml0
  have hown : s.vm.findClass own_V = some m.cls := (findClass_of_methodNamed Bd.named :)
  have hnm := (name_of_methodNamed Bd.named Bd.method).1
  have X0 : Stand p l e ({ frames := 0, cells := 0, slots := 0, locals := 0 } : Room) s m #[(.ref (ad 6))] below meth c s₁ [] 0 0 := Stand.of_body Bd
  have e0 : s₁.heap = h0 := by rw [← hh, Bd.state]; rfl
  have N0 := Fr.nil n0
  have pre0 : ∀ t, Steps p.tables e below (s₁.setTop (mkF m 0 #[.val (.ref (ad 6))] [])) t → Steps p.tables e below (s₁.setTop (entryFrame m #[(.ref (ad 6))] 1)) t := fun t k => castTop (own_ef_own_miss_6 m) k
  obtain ⟨T1, X1, e1, st1⟩ := getS2 X0 hx hZ hown (host := "") (Or.inl (hw _ (List.mem_of_getElem? (i := 25) rfl))) Via.refl e0 (own_S_DISABLED W) (g := (mkF m 1 #[.val (.ref (ad 6))] [(.ref (ad 6))])) rfl (hb hby own_d_prog_34_method_6_code_1)
  have ch2 : ∀ t, Steps p.tables e below (T1.setTop (mkF m 4 #[.val (.ref (ad 6))] [(.ref (ad 0)), (.ref (ad 6))])) t → Steps p.tables e below (s₁.setTop (entryFrame m #[(.ref (ad 6))] 1)) t := fun t k => pre0 t (by
      show Steps p.tables e below (s₁.setTop (mkF m 0 #[.val (.ref (ad 6))] [])) t
      refine XS.aloadN X0.here hx rfl (hb hby own_d_prog_34_method_6_code_0) rfl rfl ?_
      show Steps p.tables e below (s₁.setTop (mkF m 1 #[.val (.ref (ad 6))] [(.ref (ad 6))])) t
      exact st1 t k)
  obtain ⟨T3, X3, e3, st3⟩ := getS2 X1 hx hZ hown (host := "") (Or.inl (hw _ (List.mem_of_getElem? (i := 33) rfl))) Via.refl e1 (own_S_NO_MATCH_RESOURCE W) (g := (mkF m 8 #[.val (.ref (ad 6))] [(.ref (ad 6))])) rfl (hb hby own_d_prog_34_method_6_code_8)
  have ch4 : ∀ t, Steps p.tables e below (T3.setTop (mkF m 11 #[.val (.ref (ad 6))] [(.ref (ad 1)), (.ref (ad 6))])) t → Steps p.tables e below (s₁.setTop (entryFrame m #[(.ref (ad 6))] 1)) t := fun t k => ch2 t (by
      show Steps p.tables e below (T1.setTop (mkF m 4 #[.val (.ref (ad 6))] [(.ref (ad 0)), (.ref (ad 6))])) t
      refine Jvm.RoadKit.acmp (g := (mkF m 4 #[.val (.ref (ad 6))] [(.ref (ad 0)), (.ref (ad 6))])) X1 hx rfl rfl rfl (pc0 := 4) (pc' := 7) (same := false) rfl (hb hby own_d_prog_34_method_6_code_4) rfl (decide_eq_false fun q => (Fld.ne (own_F_RETAINED_ordinal W) (own_F_DISABLED_ordinal W) (by decide)) (Value.ref.inj q)) (by decide) (by decide) ?_
      show Steps p.tables e below (T1.setTop (mkF m 7 #[.val (.ref (ad 6))] [])) t
      refine XS.aloadN X1.here hx rfl (hb hby own_d_prog_34_method_6_code_7) rfl rfl ?_
      show Steps p.tables e below (T1.setTop (mkF m 8 #[.val (.ref (ad 6))] [(.ref (ad 6))])) t
      exact st3 t k)
  obtain ⟨T5, X5, e5, st5⟩ := getS2 X3 hx hZ hown (host := "") (Or.inl (hw _ (List.mem_of_getElem? (i := 34) rfl))) Via.refl e3 (own_S_NO_MATCH_ACTION W) (g := (mkF m 15 #[.val (.ref (ad 6))] [(.ref (ad 6))])) rfl (hb hby own_d_prog_34_method_6_code_15)
  have ch6 : ∀ t, Steps p.tables e below (T5.setTop (mkF m 18 #[.val (.ref (ad 6))] [(.ref (ad 2)), (.ref (ad 6))])) t → Steps p.tables e below (s₁.setTop (entryFrame m #[(.ref (ad 6))] 1)) t := fun t k => ch4 t (by
      show Steps p.tables e below (T3.setTop (mkF m 11 #[.val (.ref (ad 6))] [(.ref (ad 1)), (.ref (ad 6))])) t
      refine Jvm.RoadKit.acmp (g := (mkF m 11 #[.val (.ref (ad 6))] [(.ref (ad 1)), (.ref (ad 6))])) X3 hx rfl rfl rfl (pc0 := 11) (pc' := 14) (same := false) rfl (hb hby own_d_prog_34_method_6_code_11) rfl (decide_eq_false fun q => (Fld.ne (own_F_RETAINED_ordinal W) (own_F_NO_MATCH_RESOURCE_ordinal W) (by decide)) (Value.ref.inj q)) (by decide) (by decide) ?_
      show Steps p.tables e below (T3.setTop (mkF m 14 #[.val (.ref (ad 6))] [])) t
      refine XS.aloadN X3.here hx rfl (hb hby own_d_prog_34_method_6_code_14) rfl rfl ?_
      show Steps p.tables e below (T3.setTop (mkF m 15 #[.val (.ref (ad 6))] [(.ref (ad 6))])) t
      exact st5 t k)
  obtain ⟨T7, X7, e7, st7⟩ := getS2 X5 hx hZ hown (host := "") (Or.inl (hw _ (List.mem_of_getElem? (i := 35) rfl))) Via.refl e5 (own_S_NO_MATCH_CALENDAR W) (g := (mkF m 22 #[.val (.ref (ad 6))] [(.ref (ad 6))])) rfl (hb hby own_d_prog_34_method_6_code_22)
  have ch8 : ∀ t, Steps p.tables e below (T7.setTop (mkF m 25 #[.val (.ref (ad 6))] [(.ref (ad 4)), (.ref (ad 6))])) t → Steps p.tables e below (s₁.setTop (entryFrame m #[(.ref (ad 6))] 1)) t := fun t k => ch6 t (by
      show Steps p.tables e below (T5.setTop (mkF m 18 #[.val (.ref (ad 6))] [(.ref (ad 2)), (.ref (ad 6))])) t
      refine Jvm.RoadKit.acmp (g := (mkF m 18 #[.val (.ref (ad 6))] [(.ref (ad 2)), (.ref (ad 6))])) X5 hx rfl rfl rfl (pc0 := 18) (pc' := 21) (same := false) rfl (hb hby own_d_prog_34_method_6_code_18) rfl (decide_eq_false fun q => (Fld.ne (own_F_RETAINED_ordinal W) (own_F_NO_MATCH_ACTION_ordinal W) (by decide)) (Value.ref.inj q)) (by decide) (by decide) ?_
      show Steps p.tables e below (T5.setTop (mkF m 21 #[.val (.ref (ad 6))] [])) t
      refine XS.aloadN X5.here hx rfl (hb hby own_d_prog_34_method_6_code_21) rfl rfl ?_
      show Steps p.tables e below (T5.setTop (mkF m 22 #[.val (.ref (ad 6))] [(.ref (ad 6))])) t
      exact st7 t k)
  have ch9 : ∀ t, Steps p.tables e below (T7.setTop (mkF m 33 #[.val (.ref (ad 6))] [(.int (0 : Int32))])) t → Steps p.tables e below (s₁.setTop (entryFrame m #[(.ref (ad 6))] 1)) t := fun t k => ch8 t (by
      show Steps p.tables e below (T7.setTop (mkF m 25 #[.val (.ref (ad 6))] [(.ref (ad 4)), (.ref (ad 6))])) t
      refine Jvm.RoadKit.acmp (g := (mkF m 25 #[.val (.ref (ad 6))] [(.ref (ad 4)), (.ref (ad 6))])) X7 hx rfl rfl rfl (pc0 := 25) (pc' := 32) (same := false) rfl (hb hby own_d_prog_34_method_6_code_25) rfl (decide_eq_false fun q => (Fld.ne (own_F_RETAINED_ordinal W) (own_F_NO_MATCH_CALENDAR_ordinal W) (by decide)) (Value.ref.inj q)) (by decide) (by decide) ?_
      show Steps p.tables e below (T7.setTop (mkF m 32 #[.val (.ref (ad 6))] [])) t
      refine XS.iconst X7.here hx rfl (hb hby own_d_prog_34_method_6_code_32) ?_
      exact k)
  obtain ⟨fs, hr, hrun, hended, hW, hsame⟩ := X7.leave (v := some (.int (0 : Int32))) (fun h => by rw [Bd.returns] at h; cases h)
  refine ⟨_, _, ch9 _ ?_, hrun, hended, _, _, rfl, ?_, ⟨_, rfl⟩, hW, hsame.mono (by decide) (by decide)⟩
  · show Steps p.tables e below (T7.setTop (mkF m 33 #[.val (.ref (ad 6))] [(.int (0 : Int32))])) _
    exact retN X7 hx (t := .boolean) Bd.returns (by simp) (hb hby own_d_prog_34_method_6_code_33) hr
  · show QV (some (.int (0 : Int32))) h0 n0 _ T7.heap _
    rw [e7]
    exact ⟨rfl, N0, rfl⟩
theorem own_ef_own_appl_6 (m : MethodId) {x0 : Addr} : entryFrame m #[(.ref x0)] 1 = mkF m 0 #[.val (.ref x0)] [] := by first | (simp [entryFrame, mkF, argsToLocals, Value.category, maxLocals]; done) | rfl
set_option maxRecDepth 65536 in
set_option maxHeartbeats 40000000 in
theorem own_appl_6 (l : Launch) (Z : State) (a0 : Array Value) (hw : ∀ d ∈ tables_1, d.before a0 Z = true) (ws : List Jvm.Cond) (h0 : Heap) (n0 : Nat) (Z0 : n0 ≤ h0.size) (ad : Nat → Addr) (W : OwnWd Z h0 ad) :
    MetFree l (⟨own_V, "applies", "()Z"⟩ : MethodName) (head1 (Jvm.Cond.code (⟨own_V, "applies", "()Z"⟩ : MethodName) prog_34_method_5_code 1 (some .boolean) :: ws) ({ frames := 0, cells := 0, slots := 0, locals := 0 } : Room)) (fun a U => a = #[(.ref (ad 6))] ∧ Z.Warmed39 U.vm ∧ U.heap = h0) (fun _ _ _ _ _ => True) (fun _ U o U' => ∃ v L, o = .returned v ∧ QV (some (.int (1 : Int32))) h0 n0 v U'.heap L ∧ FrameEnd U o U' L ({ frames := 0, cells := 0, slots := 0, locals := 0 } : Room).cells ({ frames := 0, cells := 0, slots := 0, locals := 0 } : Room).slots) := by
  refine MetFree.of_bodySF (plainFor_of_name own_pn_own_Verdict) hisR ?_
  intro p e s m args below meth c s₁ Bd hml0 hP hK
  obtain ⟨rfl, hZ, hh⟩ := hP
  have hx := Bd.exec
  have hby := Bd.bytes
  have hml : c.maxLocals = 1 := hml0
  have hown : s.vm.findClass own_V = some m.cls := (findClass_of_methodNamed Bd.named :)
  have hnm := (name_of_methodNamed Bd.named Bd.method).1
  have X0 : Stand p l e ({ frames := 0, cells := 0, slots := 0, locals := 0 } : Room) s m #[(.ref (ad 6))] below meth c s₁ [] 0 0 := Stand.of_body Bd
  have e0 : s₁.heap = h0 := by rw [← hh, Bd.state]; rfl
  have N0 := Fr.nil n0
  have pre0 : ∀ t, Steps p.tables e below (s₁.setTop (mkF m 0 #[.val (.ref (ad 6))] [])) t → Steps p.tables e below (s₁.setTop (entryFrame m #[(.ref (ad 6))] 1)) t := fun t k => castTop (own_ef_own_appl_6 m) k
  obtain ⟨T1, X1, e1, st1⟩ := getS2 X0 hx hZ hown (host := "") (Or.inl (hw _ (List.mem_of_getElem? (i := 31) rfl))) Via.refl e0 (own_S_MATCHED W) (g := (mkF m 1 #[.val (.ref (ad 6))] [(.ref (ad 6))])) rfl (hb hby own_d_prog_34_method_5_code_1)
  have ch2 : ∀ t, Steps p.tables e below (T1.setTop (mkF m 4 #[.val (.ref (ad 6))] [(.ref (ad 5)), (.ref (ad 6))])) t → Steps p.tables e below (s₁.setTop (entryFrame m #[(.ref (ad 6))] 1)) t := fun t k => pre0 t (by
      show Steps p.tables e below (s₁.setTop (mkF m 0 #[.val (.ref (ad 6))] [])) t
      refine XS.aloadN X0.here hx rfl (hb hby own_d_prog_34_method_5_code_0) rfl rfl ?_
      show Steps p.tables e below (s₁.setTop (mkF m 1 #[.val (.ref (ad 6))] [(.ref (ad 6))])) t
      exact st1 t k)
  obtain ⟨T3, X3, e3, st3⟩ := getS2 X1 hx hZ hown (host := "") (Or.inl (hw _ (List.mem_of_getElem? (i := 32) rfl))) Via.refl e1 (own_S_RETAINED W) (g := (mkF m 8 #[.val (.ref (ad 6))] [(.ref (ad 6))])) rfl (hb hby own_d_prog_34_method_5_code_8)
  have ch4 : ∀ t, Steps p.tables e below (T3.setTop (mkF m 11 #[.val (.ref (ad 6))] [(.ref (ad 6)), (.ref (ad 6))])) t → Steps p.tables e below (s₁.setTop (entryFrame m #[(.ref (ad 6))] 1)) t := fun t k => ch2 t (by
      show Steps p.tables e below (T1.setTop (mkF m 4 #[.val (.ref (ad 6))] [(.ref (ad 5)), (.ref (ad 6))])) t
      refine Jvm.RoadKit.acmp (g := (mkF m 4 #[.val (.ref (ad 6))] [(.ref (ad 5)), (.ref (ad 6))])) X1 hx rfl rfl rfl (pc0 := 4) (pc' := 7) (same := false) rfl (hb hby own_d_prog_34_method_5_code_4) rfl (decide_eq_false fun q => (Fld.ne (own_F_RETAINED_ordinal W) (own_F_MATCHED_ordinal W) (by decide)) (Value.ref.inj q)) (by decide) (by decide) ?_
      show Steps p.tables e below (T1.setTop (mkF m 7 #[.val (.ref (ad 6))] [])) t
      refine XS.aloadN X1.here hx rfl (hb hby own_d_prog_34_method_5_code_7) rfl rfl ?_
      show Steps p.tables e below (T1.setTop (mkF m 8 #[.val (.ref (ad 6))] [(.ref (ad 6))])) t
      exact st3 t k)
  have ch5 : ∀ t, Steps p.tables e below (T3.setTop (mkF m 19 #[.val (.ref (ad 6))] [(.int (1 : Int32))])) t → Steps p.tables e below (s₁.setTop (entryFrame m #[(.ref (ad 6))] 1)) t := fun t k => ch4 t (by
      show Steps p.tables e below (T3.setTop (mkF m 11 #[.val (.ref (ad 6))] [(.ref (ad 6)), (.ref (ad 6))])) t
      refine Jvm.RoadKit.acmp (g := (mkF m 11 #[.val (.ref (ad 6))] [(.ref (ad 6)), (.ref (ad 6))])) X3 hx rfl rfl rfl (pc0 := 11) (pc' := 14) (same := true) rfl (hb hby own_d_prog_34_method_5_code_11) rfl (decide_eq_true rfl) (by decide) (by decide) ?_
      show Steps p.tables e below (T3.setTop (mkF m 14 #[.val (.ref (ad 6))] [])) t
      refine XS.iconst X3.here hx rfl (hb hby own_d_prog_34_method_5_code_14) ?_
      show Steps p.tables e below (T3.setTop (mkF m 15 #[.val (.ref (ad 6))] [(.int (1 : Int32))])) t
      refine XS.goto X3.here hx rfl (pc0 := 15) (pc' := 19) rfl (hb hby own_d_prog_34_method_5_code_15) (by decide) (by decide) ?_
      exact k)
  obtain ⟨fs, hr, hrun, hended, hW, hsame⟩ := X3.leave (v := some (.int (1 : Int32))) (fun h => by rw [Bd.returns] at h; cases h)
  refine ⟨_, _, ch5 _ ?_, hrun, hended, _, _, rfl, ?_, ⟨_, rfl⟩, hW, hsame.mono (by decide) (by decide)⟩
  · show Steps p.tables e below (T3.setTop (mkF m 19 #[.val (.ref (ad 6))] [(.int (1 : Int32))])) _
    exact retN X3 hx (t := .boolean) Bd.returns (by simp) (hb hby own_d_prog_34_method_5_code_19) hr
  · show QV (some (.int (1 : Int32))) h0 n0 _ T3.heap _
    rw [e3]
    exact ⟨rfl, N0, rfl⟩
theorem own_ef_own_law_6 (m : MethodId) {x0 : Int32} : entryFrame m #[(.int x0)] maxLocals = mkF m 0 #[.val (.int x0), .unset, .unset, .unset, .unset, .unset, .unset, .unset] [] := by first | (simp [entryFrame, mkF, argsToLocals, Value.category, maxLocals]; done) | rfl
set_option maxRecDepth 65536 in
set_option maxHeartbeats 40000000 in
theorem own_law_6 (l : Launch) (Z : State) (a0 : Array Value) (hw : ∀ d ∈ tables_1, d.before a0 Z = true) (ws : List Jvm.Cond) (h0 : Heap) (n0 : Nat) (Z0 : n0 ≤ h0.size) (p1 : Int32) (hk : p1 &&& (7 : Int32) = (6 : Int32)) (ad : Nat → Addr) (W : OwnWd Z h0 ad) :
    MetFree l x (head1 (Jvm.Cond.code x code maxLocals ret :: ws) room_1) (fun a U => a = #[(.int p1)] ∧ Z.Warmed39 U.vm ∧ U.heap = h0) (fun _ _ _ _ _ => True) (fun _ U o U' => ∃ v L, o = .returned v ∧ QN (some (.int (1 : Int32))) n0 v U'.heap L ∧ FrameEnd U o U' L room_1.cells room_1.slots) := by
  refine MetFree.of_bodySF (plainFor_of_name own_pn_own_VerdictMissesEverySubjectPinLaw) hisR ?_
  intro p e s m args below meth c s₁ Bd hml0 hP hK
  obtain ⟨rfl, hZ, hh⟩ := hP
  have hx := Bd.exec
  have hby := Bd.bytes
  have hml : c.maxLocals = 8 := hml0
  have hown : s.vm.findClass own_L = some m.cls := (findClass_of_methodNamed Bd.named :)
  have hnm := (name_of_methodNamed Bd.named Bd.method).1
  have X0 : Stand p l e room_1 s m #[(.int p1)] below meth c s₁ [] 0 0 := Stand.of_body Bd
  have e0 : s₁.heap = h0 := by rw [← hh, Bd.state]; rfl
  have N0 := Fr.nil n0
  have pre0 : ∀ t, Steps p.tables e below (s₁.setTop (mkF m 0 #[.val (.int p1), .unset, .unset, .unset, .unset, .unset, .unset, .unset] [])) t → Steps p.tables e below (s₁.setTop (entryFrame m #[(.int p1)] maxLocals)) t := fun t k => castTop (own_ef_own_law_6 m) k
  obtain ⟨T1, hp1, k1, X1, e1, E1, A1, O1, st1⟩ := newR X0 hx hZ hown (hw _ (List.mem_of_getElem? (i := 0) rfl)) (hw _ (List.mem_of_getElem? (i := 1) rfl)) e0 (g := (mkF m 2 #[.val (.int p1), .unset, .unset, .unset, .unset, .unset, .unset, .unset] [(.int (8 : Int32))])) rfl (hb hby at_2) rfl (by decide) (cap := 8) (by decide) (by decide) (by decide) (by decide)
  obtain ⟨b1, g1⟩ : ∃ z, z = h0.size := ⟨_, rfl⟩
  rw [← g1] at A1 st1
  have ne_ad0_b1 : (ad 0) ≠ b1 := Nat.ne_of_lt (Nat.lt_of_lt_of_le (own_E_DISABLED W).lt (Nat.le_of_eq g1.symm))
  have ne_ad1_b1 : (ad 1) ≠ b1 := Nat.ne_of_lt (Nat.lt_of_lt_of_le (own_E_NO_MATCH_RESOURCE W).lt (Nat.le_of_eq g1.symm))
  have ne_ad2_b1 : (ad 2) ≠ b1 := Nat.ne_of_lt (Nat.lt_of_lt_of_le (own_E_NO_MATCH_ACTION W).lt (Nat.le_of_eq g1.symm))
  have ne_ad3_b1 : (ad 3) ≠ b1 := Nat.ne_of_lt (Nat.lt_of_lt_of_le (own_E_NO_MATCH_IDENTITY W).lt (Nat.le_of_eq g1.symm))
  have ne_ad4_b1 : (ad 4) ≠ b1 := Nat.ne_of_lt (Nat.lt_of_lt_of_le (own_E_NO_MATCH_CALENDAR W).lt (Nat.le_of_eq g1.symm))
  have ne_ad5_b1 : (ad 5) ≠ b1 := Nat.ne_of_lt (Nat.lt_of_lt_of_le (own_E_MATCHED W).lt (Nat.le_of_eq g1.symm))
  have ne_ad6_b1 : (ad 6) ≠ b1 := Nat.ne_of_lt (Nat.lt_of_lt_of_le (own_E_RETAINED W).lt (Nat.le_of_eq g1.symm))
  have ne_ad7_b1 : (ad 7) ≠ b1 := Nat.ne_of_lt (Nat.lt_of_lt_of_le (own_E_DROPPED_BY_BEST_MATCH W).lt (Nat.le_of_eq g1.symm))
  have g_b1 : n0 ≤ b1 := Nat.le_trans (Nat.le_trans Z0 (Keep.refl h0 []).1) (Nat.le_of_eq g1.symm)
  have sz_b1 : h0.size ≤ b1 := Nat.le_trans (Keep.refl h0 []).1 (Nat.le_of_eq g1.symm)
  have Kp1 := Keep.ext (Keep.refl h0 []) E1
  have V1 : Arv Z hp1 b1 k1 (.object own_V) (8 : Int32) [.null, .null, .null, .null, .null, .null, .null, .null] .null := (Arv.new A1 (by decide)).pad (pad_rep [] .null 8)
  have ch2 : ∀ t, Steps p.tables e below (T1.setTop (mkF m 5 #[.val (.int p1), .unset, .unset, .unset, .unset, .unset, .unset, .unset] [(.ref b1)])) t → Steps p.tables e below (s₁.setTop (entryFrame m #[(.int p1)] maxLocals)) t := fun t k => pre0 t (by
      show Steps p.tables e below (s₁.setTop (mkF m 0 #[.val (.int p1), .unset, .unset, .unset, .unset, .unset, .unset, .unset] [])) t
      refine XS.bipush X0.here hx rfl (hb hby at_0) ?_
      show Steps p.tables e below (s₁.setTop (mkF m 2 #[.val (.int p1), .unset, .unset, .unset, .unset, .unset, .unset, .unset] [(.int (8 : Int32))])) t
      exact st1 t k)
  have cf3 := (own_sta_keep (own_S_DISABLED W) Kp1 all0)
  obtain ⟨T4, X4, e4, st4⟩ := getS2 X1 hx hZ hown (host := "") (Or.inl (hw _ (List.mem_of_getElem? (i := 2) rfl))) Via.refl e1 cf3 (g := (mkF m 7 #[.val (.int p1), .unset, .unset, .unset, .unset, .unset, .unset, .unset] [(.int (0 : Int32)), (.ref b1), (.ref b1)])) rfl (hb hby at_7)
  have ch5 : ∀ t, Steps p.tables e below (T4.setTop (mkF m 10 #[.val (.int p1), .unset, .unset, .unset, .unset, .unset, .unset, .unset] [(.ref (ad 0)), (.int (0 : Int32)), (.ref b1), (.ref b1)])) t → Steps p.tables e below (s₁.setTop (entryFrame m #[(.int p1)] maxLocals)) t := fun t k => ch2 t (by
      show Steps p.tables e below (T1.setTop (mkF m 5 #[.val (.int p1), .unset, .unset, .unset, .unset, .unset, .unset, .unset] [(.ref b1)])) t
      refine XS.dup X1.here hx rfl (hb hby at_5) rfl rfl ?_
      show Steps p.tables e below (T1.setTop (mkF m 6 #[.val (.int p1), .unset, .unset, .unset, .unset, .unset, .unset, .unset] [(.ref b1), (.ref b1)])) t
      refine XS.iconst X1.here hx rfl (hb hby at_6) ?_
      show Steps p.tables e below (T1.setTop (mkF m 7 #[.val (.int p1), .unset, .unset, .unset, .unset, .unset, .unset, .unset] [(.int (0 : Int32)), (.ref b1), (.ref b1)])) t
      exact st4 t k)
  obtain ⟨cl6, Ar6, qq6, Sz6, Ng6, Ha6, Ga6⟩ := id V1
  have hin6 : ¬ ((0 : Int32) < 0 ∨ cl6.slots.size ≤ ((0 : Int32)).toNatClampNeg) := inb_of Sz6 (by decide)
  have cf7 := (Exa.keep (own_E_DISABLED W) Kp1)
  obtain ⟨T8, hp8, X8, e8, W8, st8⟩ := stR X4 hx hZ e4 Ar6 (j := (0 : Int32)) hin6 rfl (Sto.ofV Ar6 qq6 O1 (Ins.self cf7)) (g := (mkF m 10 #[.val (.int p1), .unset, .unset, .unset, .unset, .unset, .unset, .unset] [(.ref (ad 0)), (.int (0 : Int32)), (.ref b1), (.ref b1)])) rfl rfl (hb hby at_10)
  have ch9 : ∀ t, Steps p.tables e below (T8.setTop (mkF m 11 #[.val (.int p1), .unset, .unset, .unset, .unset, .unset, .unset, .unset] [(.ref b1)])) t → Steps p.tables e below (s₁.setTop (entryFrame m #[(.int p1)] maxLocals)) t := fun t k => ch5 t (by
      show Steps p.tables e below (T4.setTop (mkF m 10 #[.val (.int p1), .unset, .unset, .unset, .unset, .unset, .unset, .unset] [(.ref (ad 0)), (.int (0 : Int32)), (.ref b1), (.ref b1)])) t
      exact st8 t k)
  have V8 : Arv Z hp8 b1 k1 (.object own_V) (8 : Int32) [(.ref (ad 0)), .null, .null, .null, .null, .null, .null, .null] .null := Arv.set Ar6 qq6 Sz6 Ng6 Ha6 Ga6 rfl W8 0 rfl (Nat.le_of_ble_eq_true rfl)
  have N8 := Fr.snoc X8 N0 g_b1
  have Kp8 := Keep.wr Kp1 W8 (Or.inr sz_b1)
  have cf10 := (own_sta_keep (own_S_NO_MATCH_RESOURCE W) Kp8 all0)
  obtain ⟨T11, X11, e11, st11⟩ := getS2 X8 hx hZ hown (host := "") (Or.inl (hw _ (List.mem_of_getElem? (i := 6) rfl))) Via.refl e8 cf10 (g := (mkF m 13 #[.val (.int p1), .unset, .unset, .unset, .unset, .unset, .unset, .unset] [(.int (1 : Int32)), (.ref b1), (.ref b1)])) rfl (hb hby at_13)
  have ch12 : ∀ t, Steps p.tables e below (T11.setTop (mkF m 16 #[.val (.int p1), .unset, .unset, .unset, .unset, .unset, .unset, .unset] [(.ref (ad 1)), (.int (1 : Int32)), (.ref b1), (.ref b1)])) t → Steps p.tables e below (s₁.setTop (entryFrame m #[(.int p1)] maxLocals)) t := fun t k => ch9 t (by
      show Steps p.tables e below (T8.setTop (mkF m 11 #[.val (.int p1), .unset, .unset, .unset, .unset, .unset, .unset, .unset] [(.ref b1)])) t
      refine XS.dup X8.here hx rfl (hb hby at_11) rfl rfl ?_
      show Steps p.tables e below (T8.setTop (mkF m 12 #[.val (.int p1), .unset, .unset, .unset, .unset, .unset, .unset, .unset] [(.ref b1), (.ref b1)])) t
      refine XS.iconst X8.here hx rfl (hb hby at_12) ?_
      show Steps p.tables e below (T8.setTop (mkF m 13 #[.val (.int p1), .unset, .unset, .unset, .unset, .unset, .unset, .unset] [(.int (1 : Int32)), (.ref b1), (.ref b1)])) t
      exact st11 t k)
  obtain ⟨cl13, Ar13, qq13, Sz13, Ng13, Ha13, Ga13⟩ := id V8
  have hin13 : ¬ ((1 : Int32) < 0 ∨ cl13.slots.size ≤ ((1 : Int32)).toNatClampNeg) := inb_of Sz13 (by decide)
  have cf14 := (Exa.keep (own_E_NO_MATCH_RESOURCE W) Kp8)
  obtain ⟨T15, hp15, X15, e15, W15, st15⟩ := stR X11 hx hZ e11 Ar13 (j := (1 : Int32)) hin13 rfl (Sto.ofV Ar13 qq13 O1 (Ins.self cf14)) (g := (mkF m 16 #[.val (.int p1), .unset, .unset, .unset, .unset, .unset, .unset, .unset] [(.ref (ad 1)), (.int (1 : Int32)), (.ref b1), (.ref b1)])) rfl rfl (hb hby at_16)
  have ch16 : ∀ t, Steps p.tables e below (T15.setTop (mkF m 17 #[.val (.int p1), .unset, .unset, .unset, .unset, .unset, .unset, .unset] [(.ref b1)])) t → Steps p.tables e below (s₁.setTop (entryFrame m #[(.int p1)] maxLocals)) t := fun t k => ch12 t (by
      show Steps p.tables e below (T11.setTop (mkF m 16 #[.val (.int p1), .unset, .unset, .unset, .unset, .unset, .unset, .unset] [(.ref (ad 1)), (.int (1 : Int32)), (.ref b1), (.ref b1)])) t
      exact st15 t k)
  have V15 : Arv Z hp15 b1 k1 (.object own_V) (8 : Int32) [(.ref (ad 0)), (.ref (ad 1)), .null, .null, .null, .null, .null, .null] .null := Arv.set Ar13 qq13 Sz13 Ng13 Ha13 Ga13 rfl W15 1 rfl (Nat.le_of_ble_eq_true rfl)
  have N15 := Fr.snoc X15 N8 g_b1
  have Kp15 := Keep.wr Kp8 W15 (Or.inr sz_b1)
  have cf17 := (own_sta_keep (own_S_NO_MATCH_ACTION W) Kp15 all0)
  obtain ⟨T18, X18, e18, st18⟩ := getS2 X15 hx hZ hown (host := "") (Or.inl (hw _ (List.mem_of_getElem? (i := 8) rfl))) Via.refl e15 cf17 (g := (mkF m 19 #[.val (.int p1), .unset, .unset, .unset, .unset, .unset, .unset, .unset] [(.int (2 : Int32)), (.ref b1), (.ref b1)])) rfl (hb hby at_19)
  have ch19 : ∀ t, Steps p.tables e below (T18.setTop (mkF m 22 #[.val (.int p1), .unset, .unset, .unset, .unset, .unset, .unset, .unset] [(.ref (ad 2)), (.int (2 : Int32)), (.ref b1), (.ref b1)])) t → Steps p.tables e below (s₁.setTop (entryFrame m #[(.int p1)] maxLocals)) t := fun t k => ch16 t (by
      show Steps p.tables e below (T15.setTop (mkF m 17 #[.val (.int p1), .unset, .unset, .unset, .unset, .unset, .unset, .unset] [(.ref b1)])) t
      refine XS.dup X15.here hx rfl (hb hby at_17) rfl rfl ?_
      show Steps p.tables e below (T15.setTop (mkF m 18 #[.val (.int p1), .unset, .unset, .unset, .unset, .unset, .unset, .unset] [(.ref b1), (.ref b1)])) t
      refine XS.iconst X15.here hx rfl (hb hby at_18) ?_
      show Steps p.tables e below (T15.setTop (mkF m 19 #[.val (.int p1), .unset, .unset, .unset, .unset, .unset, .unset, .unset] [(.int (2 : Int32)), (.ref b1), (.ref b1)])) t
      exact st18 t k)
  obtain ⟨cl20, Ar20, qq20, Sz20, Ng20, Ha20, Ga20⟩ := id V15
  have hin20 : ¬ ((2 : Int32) < 0 ∨ cl20.slots.size ≤ ((2 : Int32)).toNatClampNeg) := inb_of Sz20 (by decide)
  have cf21 := (Exa.keep (own_E_NO_MATCH_ACTION W) Kp15)
  obtain ⟨T22, hp22, X22, e22, W22, st22⟩ := stR X18 hx hZ e18 Ar20 (j := (2 : Int32)) hin20 rfl (Sto.ofV Ar20 qq20 O1 (Ins.self cf21)) (g := (mkF m 22 #[.val (.int p1), .unset, .unset, .unset, .unset, .unset, .unset, .unset] [(.ref (ad 2)), (.int (2 : Int32)), (.ref b1), (.ref b1)])) rfl rfl (hb hby at_22)
  have ch23 : ∀ t, Steps p.tables e below (T22.setTop (mkF m 23 #[.val (.int p1), .unset, .unset, .unset, .unset, .unset, .unset, .unset] [(.ref b1)])) t → Steps p.tables e below (s₁.setTop (entryFrame m #[(.int p1)] maxLocals)) t := fun t k => ch19 t (by
      show Steps p.tables e below (T18.setTop (mkF m 22 #[.val (.int p1), .unset, .unset, .unset, .unset, .unset, .unset, .unset] [(.ref (ad 2)), (.int (2 : Int32)), (.ref b1), (.ref b1)])) t
      exact st22 t k)
  have V22 : Arv Z hp22 b1 k1 (.object own_V) (8 : Int32) [(.ref (ad 0)), (.ref (ad 1)), (.ref (ad 2)), .null, .null, .null, .null, .null] .null := Arv.set Ar20 qq20 Sz20 Ng20 Ha20 Ga20 rfl W22 2 rfl (Nat.le_of_ble_eq_true rfl)
  have N22 := Fr.snoc X22 N15 g_b1
  have Kp22 := Keep.wr Kp15 W22 (Or.inr sz_b1)
  have cf24 := (own_sta_keep (own_S_NO_MATCH_IDENTITY W) Kp22 all0)
  obtain ⟨T25, X25, e25, st25⟩ := getS2 X22 hx hZ hown (host := "") (Or.inl (hw _ (List.mem_of_getElem? (i := 10) rfl))) Via.refl e22 cf24 (g := (mkF m 25 #[.val (.int p1), .unset, .unset, .unset, .unset, .unset, .unset, .unset] [(.int (3 : Int32)), (.ref b1), (.ref b1)])) rfl (hb hby at_25)
  have ch26 : ∀ t, Steps p.tables e below (T25.setTop (mkF m 28 #[.val (.int p1), .unset, .unset, .unset, .unset, .unset, .unset, .unset] [(.ref (ad 3)), (.int (3 : Int32)), (.ref b1), (.ref b1)])) t → Steps p.tables e below (s₁.setTop (entryFrame m #[(.int p1)] maxLocals)) t := fun t k => ch23 t (by
      show Steps p.tables e below (T22.setTop (mkF m 23 #[.val (.int p1), .unset, .unset, .unset, .unset, .unset, .unset, .unset] [(.ref b1)])) t
      refine XS.dup X22.here hx rfl (hb hby at_23) rfl rfl ?_
      show Steps p.tables e below (T22.setTop (mkF m 24 #[.val (.int p1), .unset, .unset, .unset, .unset, .unset, .unset, .unset] [(.ref b1), (.ref b1)])) t
      refine XS.iconst X22.here hx rfl (hb hby at_24) ?_
      show Steps p.tables e below (T22.setTop (mkF m 25 #[.val (.int p1), .unset, .unset, .unset, .unset, .unset, .unset, .unset] [(.int (3 : Int32)), (.ref b1), (.ref b1)])) t
      exact st25 t k)
  obtain ⟨cl27, Ar27, qq27, Sz27, Ng27, Ha27, Ga27⟩ := id V22
  have hin27 : ¬ ((3 : Int32) < 0 ∨ cl27.slots.size ≤ ((3 : Int32)).toNatClampNeg) := inb_of Sz27 (by decide)
  have cf28 := (Exa.keep (own_E_NO_MATCH_IDENTITY W) Kp22)
  obtain ⟨T29, hp29, X29, e29, W29, st29⟩ := stR X25 hx hZ e25 Ar27 (j := (3 : Int32)) hin27 rfl (Sto.ofV Ar27 qq27 O1 (Ins.self cf28)) (g := (mkF m 28 #[.val (.int p1), .unset, .unset, .unset, .unset, .unset, .unset, .unset] [(.ref (ad 3)), (.int (3 : Int32)), (.ref b1), (.ref b1)])) rfl rfl (hb hby at_28)
  have ch30 : ∀ t, Steps p.tables e below (T29.setTop (mkF m 29 #[.val (.int p1), .unset, .unset, .unset, .unset, .unset, .unset, .unset] [(.ref b1)])) t → Steps p.tables e below (s₁.setTop (entryFrame m #[(.int p1)] maxLocals)) t := fun t k => ch26 t (by
      show Steps p.tables e below (T25.setTop (mkF m 28 #[.val (.int p1), .unset, .unset, .unset, .unset, .unset, .unset, .unset] [(.ref (ad 3)), (.int (3 : Int32)), (.ref b1), (.ref b1)])) t
      exact st29 t k)
  have V29 : Arv Z hp29 b1 k1 (.object own_V) (8 : Int32) [(.ref (ad 0)), (.ref (ad 1)), (.ref (ad 2)), (.ref (ad 3)), .null, .null, .null, .null] .null := Arv.set Ar27 qq27 Sz27 Ng27 Ha27 Ga27 rfl W29 3 rfl (Nat.le_of_ble_eq_true rfl)
  have N29 := Fr.snoc X29 N22 g_b1
  have Kp29 := Keep.wr Kp22 W29 (Or.inr sz_b1)
  have cf31 := (own_sta_keep (own_S_NO_MATCH_CALENDAR W) Kp29 all0)
  obtain ⟨T32, X32, e32, st32⟩ := getS2 X29 hx hZ hown (host := "") (Or.inl (hw _ (List.mem_of_getElem? (i := 12) rfl))) Via.refl e29 cf31 (g := (mkF m 31 #[.val (.int p1), .unset, .unset, .unset, .unset, .unset, .unset, .unset] [(.int (4 : Int32)), (.ref b1), (.ref b1)])) rfl (hb hby at_31)
  have ch33 : ∀ t, Steps p.tables e below (T32.setTop (mkF m 34 #[.val (.int p1), .unset, .unset, .unset, .unset, .unset, .unset, .unset] [(.ref (ad 4)), (.int (4 : Int32)), (.ref b1), (.ref b1)])) t → Steps p.tables e below (s₁.setTop (entryFrame m #[(.int p1)] maxLocals)) t := fun t k => ch30 t (by
      show Steps p.tables e below (T29.setTop (mkF m 29 #[.val (.int p1), .unset, .unset, .unset, .unset, .unset, .unset, .unset] [(.ref b1)])) t
      refine XS.dup X29.here hx rfl (hb hby at_29) rfl rfl ?_
      show Steps p.tables e below (T29.setTop (mkF m 30 #[.val (.int p1), .unset, .unset, .unset, .unset, .unset, .unset, .unset] [(.ref b1), (.ref b1)])) t
      refine XS.iconst X29.here hx rfl (hb hby at_30) ?_
      show Steps p.tables e below (T29.setTop (mkF m 31 #[.val (.int p1), .unset, .unset, .unset, .unset, .unset, .unset, .unset] [(.int (4 : Int32)), (.ref b1), (.ref b1)])) t
      exact st32 t k)
  obtain ⟨cl34, Ar34, qq34, Sz34, Ng34, Ha34, Ga34⟩ := id V29
  have hin34 : ¬ ((4 : Int32) < 0 ∨ cl34.slots.size ≤ ((4 : Int32)).toNatClampNeg) := inb_of Sz34 (by decide)
  have cf35 := (Exa.keep (own_E_NO_MATCH_CALENDAR W) Kp29)
  obtain ⟨T36, hp36, X36, e36, W36, st36⟩ := stR X32 hx hZ e32 Ar34 (j := (4 : Int32)) hin34 rfl (Sto.ofV Ar34 qq34 O1 (Ins.self cf35)) (g := (mkF m 34 #[.val (.int p1), .unset, .unset, .unset, .unset, .unset, .unset, .unset] [(.ref (ad 4)), (.int (4 : Int32)), (.ref b1), (.ref b1)])) rfl rfl (hb hby at_34)
  have ch37 : ∀ t, Steps p.tables e below (T36.setTop (mkF m 35 #[.val (.int p1), .unset, .unset, .unset, .unset, .unset, .unset, .unset] [(.ref b1)])) t → Steps p.tables e below (s₁.setTop (entryFrame m #[(.int p1)] maxLocals)) t := fun t k => ch33 t (by
      show Steps p.tables e below (T32.setTop (mkF m 34 #[.val (.int p1), .unset, .unset, .unset, .unset, .unset, .unset, .unset] [(.ref (ad 4)), (.int (4 : Int32)), (.ref b1), (.ref b1)])) t
      exact st36 t k)
  have V36 : Arv Z hp36 b1 k1 (.object own_V) (8 : Int32) [(.ref (ad 0)), (.ref (ad 1)), (.ref (ad 2)), (.ref (ad 3)), (.ref (ad 4)), .null, .null, .null] .null := Arv.set Ar34 qq34 Sz34 Ng34 Ha34 Ga34 rfl W36 4 rfl (Nat.le_of_ble_eq_true rfl)
  have N36 := Fr.snoc X36 N29 g_b1
  have Kp36 := Keep.wr Kp29 W36 (Or.inr sz_b1)
  have cf38 := (own_sta_keep (own_S_MATCHED W) Kp36 all0)
  obtain ⟨T39, X39, e39, st39⟩ := getS2 X36 hx hZ hown (host := "") (Or.inl (hw _ (List.mem_of_getElem? (i := 14) rfl))) Via.refl e36 cf38 (g := (mkF m 37 #[.val (.int p1), .unset, .unset, .unset, .unset, .unset, .unset, .unset] [(.int (5 : Int32)), (.ref b1), (.ref b1)])) rfl (hb hby at_37)
  have ch40 : ∀ t, Steps p.tables e below (T39.setTop (mkF m 40 #[.val (.int p1), .unset, .unset, .unset, .unset, .unset, .unset, .unset] [(.ref (ad 5)), (.int (5 : Int32)), (.ref b1), (.ref b1)])) t → Steps p.tables e below (s₁.setTop (entryFrame m #[(.int p1)] maxLocals)) t := fun t k => ch37 t (by
      show Steps p.tables e below (T36.setTop (mkF m 35 #[.val (.int p1), .unset, .unset, .unset, .unset, .unset, .unset, .unset] [(.ref b1)])) t
      refine XS.dup X36.here hx rfl (hb hby at_35) rfl rfl ?_
      show Steps p.tables e below (T36.setTop (mkF m 36 #[.val (.int p1), .unset, .unset, .unset, .unset, .unset, .unset, .unset] [(.ref b1), (.ref b1)])) t
      refine XS.iconst X36.here hx rfl (hb hby at_36) ?_
      show Steps p.tables e below (T36.setTop (mkF m 37 #[.val (.int p1), .unset, .unset, .unset, .unset, .unset, .unset, .unset] [(.int (5 : Int32)), (.ref b1), (.ref b1)])) t
      exact st39 t k)
  obtain ⟨cl41, Ar41, qq41, Sz41, Ng41, Ha41, Ga41⟩ := id V36
  have hin41 : ¬ ((5 : Int32) < 0 ∨ cl41.slots.size ≤ ((5 : Int32)).toNatClampNeg) := inb_of Sz41 (by decide)
  have cf42 := (Exa.keep (own_E_MATCHED W) Kp36)
  obtain ⟨T43, hp43, X43, e43, W43, st43⟩ := stR X39 hx hZ e39 Ar41 (j := (5 : Int32)) hin41 rfl (Sto.ofV Ar41 qq41 O1 (Ins.self cf42)) (g := (mkF m 40 #[.val (.int p1), .unset, .unset, .unset, .unset, .unset, .unset, .unset] [(.ref (ad 5)), (.int (5 : Int32)), (.ref b1), (.ref b1)])) rfl rfl (hb hby at_40)
  have ch44 : ∀ t, Steps p.tables e below (T43.setTop (mkF m 41 #[.val (.int p1), .unset, .unset, .unset, .unset, .unset, .unset, .unset] [(.ref b1)])) t → Steps p.tables e below (s₁.setTop (entryFrame m #[(.int p1)] maxLocals)) t := fun t k => ch40 t (by
      show Steps p.tables e below (T39.setTop (mkF m 40 #[.val (.int p1), .unset, .unset, .unset, .unset, .unset, .unset, .unset] [(.ref (ad 5)), (.int (5 : Int32)), (.ref b1), (.ref b1)])) t
      exact st43 t k)
  have V43 : Arv Z hp43 b1 k1 (.object own_V) (8 : Int32) [(.ref (ad 0)), (.ref (ad 1)), (.ref (ad 2)), (.ref (ad 3)), (.ref (ad 4)), (.ref (ad 5)), .null, .null] .null := Arv.set Ar41 qq41 Sz41 Ng41 Ha41 Ga41 rfl W43 5 rfl (Nat.le_of_ble_eq_true rfl)
  have N43 := Fr.snoc X43 N36 g_b1
  have Kp43 := Keep.wr Kp36 W43 (Or.inr sz_b1)
  have cf45 := (own_sta_keep (own_S_RETAINED W) Kp43 all0)
  obtain ⟨T46, X46, e46, st46⟩ := getS2 X43 hx hZ hown (host := "") (Or.inl (hw _ (List.mem_of_getElem? (i := 16) rfl))) Via.refl e43 cf45 (g := (mkF m 44 #[.val (.int p1), .unset, .unset, .unset, .unset, .unset, .unset, .unset] [(.int (6 : Int32)), (.ref b1), (.ref b1)])) rfl (hb hby at_44)
  have ch47 : ∀ t, Steps p.tables e below (T46.setTop (mkF m 47 #[.val (.int p1), .unset, .unset, .unset, .unset, .unset, .unset, .unset] [(.ref (ad 6)), (.int (6 : Int32)), (.ref b1), (.ref b1)])) t → Steps p.tables e below (s₁.setTop (entryFrame m #[(.int p1)] maxLocals)) t := fun t k => ch44 t (by
      show Steps p.tables e below (T43.setTop (mkF m 41 #[.val (.int p1), .unset, .unset, .unset, .unset, .unset, .unset, .unset] [(.ref b1)])) t
      refine XS.dup X43.here hx rfl (hb hby at_41) rfl rfl ?_
      show Steps p.tables e below (T43.setTop (mkF m 42 #[.val (.int p1), .unset, .unset, .unset, .unset, .unset, .unset, .unset] [(.ref b1), (.ref b1)])) t
      refine XS.bipush X43.here hx rfl (hb hby at_42) ?_
      show Steps p.tables e below (T43.setTop (mkF m 44 #[.val (.int p1), .unset, .unset, .unset, .unset, .unset, .unset, .unset] [(.int (6 : Int32)), (.ref b1), (.ref b1)])) t
      exact st46 t k)
  obtain ⟨cl48, Ar48, qq48, Sz48, Ng48, Ha48, Ga48⟩ := id V43
  have hin48 : ¬ ((6 : Int32) < 0 ∨ cl48.slots.size ≤ ((6 : Int32)).toNatClampNeg) := inb_of Sz48 (by decide)
  have cf49 := (Exa.keep (own_E_RETAINED W) Kp43)
  obtain ⟨T50, hp50, X50, e50, W50, st50⟩ := stR X46 hx hZ e46 Ar48 (j := (6 : Int32)) hin48 rfl (Sto.ofV Ar48 qq48 O1 (Ins.self cf49)) (g := (mkF m 47 #[.val (.int p1), .unset, .unset, .unset, .unset, .unset, .unset, .unset] [(.ref (ad 6)), (.int (6 : Int32)), (.ref b1), (.ref b1)])) rfl rfl (hb hby at_47)
  have ch51 : ∀ t, Steps p.tables e below (T50.setTop (mkF m 48 #[.val (.int p1), .unset, .unset, .unset, .unset, .unset, .unset, .unset] [(.ref b1)])) t → Steps p.tables e below (s₁.setTop (entryFrame m #[(.int p1)] maxLocals)) t := fun t k => ch47 t (by
      show Steps p.tables e below (T46.setTop (mkF m 47 #[.val (.int p1), .unset, .unset, .unset, .unset, .unset, .unset, .unset] [(.ref (ad 6)), (.int (6 : Int32)), (.ref b1), (.ref b1)])) t
      exact st50 t k)
  have V50 : Arv Z hp50 b1 k1 (.object own_V) (8 : Int32) [(.ref (ad 0)), (.ref (ad 1)), (.ref (ad 2)), (.ref (ad 3)), (.ref (ad 4)), (.ref (ad 5)), (.ref (ad 6)), .null] .null := Arv.set Ar48 qq48 Sz48 Ng48 Ha48 Ga48 rfl W50 6 rfl (Nat.le_of_ble_eq_true rfl)
  have N50 := Fr.snoc X50 N43 g_b1
  have Kp50 := Keep.wr Kp43 W50 (Or.inr sz_b1)
  have cf52 := (own_sta_keep (own_S_DROPPED_BY_BEST_MATCH W) Kp50 all0)
  obtain ⟨T53, X53, e53, st53⟩ := getS2 X50 hx hZ hown (host := "") (Or.inl (hw _ (List.mem_of_getElem? (i := 18) rfl))) Via.refl e50 cf52 (g := (mkF m 51 #[.val (.int p1), .unset, .unset, .unset, .unset, .unset, .unset, .unset] [(.int (7 : Int32)), (.ref b1), (.ref b1)])) rfl (hb hby at_51)
  have ch54 : ∀ t, Steps p.tables e below (T53.setTop (mkF m 54 #[.val (.int p1), .unset, .unset, .unset, .unset, .unset, .unset, .unset] [(.ref (ad 7)), (.int (7 : Int32)), (.ref b1), (.ref b1)])) t → Steps p.tables e below (s₁.setTop (entryFrame m #[(.int p1)] maxLocals)) t := fun t k => ch51 t (by
      show Steps p.tables e below (T50.setTop (mkF m 48 #[.val (.int p1), .unset, .unset, .unset, .unset, .unset, .unset, .unset] [(.ref b1)])) t
      refine XS.dup X50.here hx rfl (hb hby at_48) rfl rfl ?_
      show Steps p.tables e below (T50.setTop (mkF m 49 #[.val (.int p1), .unset, .unset, .unset, .unset, .unset, .unset, .unset] [(.ref b1), (.ref b1)])) t
      refine XS.bipush X50.here hx rfl (hb hby at_49) ?_
      show Steps p.tables e below (T50.setTop (mkF m 51 #[.val (.int p1), .unset, .unset, .unset, .unset, .unset, .unset, .unset] [(.int (7 : Int32)), (.ref b1), (.ref b1)])) t
      exact st53 t k)
  obtain ⟨cl55, Ar55, qq55, Sz55, Ng55, Ha55, Ga55⟩ := id V50
  have hin55 : ¬ ((7 : Int32) < 0 ∨ cl55.slots.size ≤ ((7 : Int32)).toNatClampNeg) := inb_of Sz55 (by decide)
  have cf56 := (Exa.keep (own_E_DROPPED_BY_BEST_MATCH W) Kp50)
  obtain ⟨T57, hp57, X57, e57, W57, st57⟩ := stR X53 hx hZ e53 Ar55 (j := (7 : Int32)) hin55 rfl (Sto.ofV Ar55 qq55 O1 (Ins.self cf56)) (g := (mkF m 54 #[.val (.int p1), .unset, .unset, .unset, .unset, .unset, .unset, .unset] [(.ref (ad 7)), (.int (7 : Int32)), (.ref b1), (.ref b1)])) rfl rfl (hb hby at_54)
  have ch58 : ∀ t, Steps p.tables e below (T57.setTop (mkF m 55 #[.val (.int p1), .unset, .unset, .unset, .unset, .unset, .unset, .unset] [(.ref b1)])) t → Steps p.tables e below (s₁.setTop (entryFrame m #[(.int p1)] maxLocals)) t := fun t k => ch54 t (by
      show Steps p.tables e below (T53.setTop (mkF m 54 #[.val (.int p1), .unset, .unset, .unset, .unset, .unset, .unset, .unset] [(.ref (ad 7)), (.int (7 : Int32)), (.ref b1), (.ref b1)])) t
      exact st57 t k)
  have V57 : Arv Z hp57 b1 k1 (.object own_V) (8 : Int32) [(.ref (ad 0)), (.ref (ad 1)), (.ref (ad 2)), (.ref (ad 3)), (.ref (ad 4)), (.ref (ad 5)), (.ref (ad 6)), (.ref (ad 7))] .null := Arv.set Ar55 qq55 Sz55 Ng55 Ha55 Ga55 rfl W57 7 rfl (Nat.le_of_ble_eq_true rfl)
  have N57 := Fr.snoc X57 N50 g_b1
  have Kp57 := Keep.wr Kp50 W57 (Or.inr sz_b1)
  obtain ⟨cl59, Ar59, -, Sz59, Ng59, Ha59, -⟩ := id V57
  have hin59 : ¬ ((6 : Int32) < 0 ∨ cl59.slots.size ≤ ((6 : Int32)).toNatClampNeg) := inb_of Sz59 (by decide)
  have hat59 : cl59.slots[((6 : Int32)).toNatClampNeg]? = some (.ref (ad 6)) := Ha59.at hin59 rfl
  have cf61 := (Exa.wr W57 (Exa.wr W50 cf49))
  obtain ⟨cq60, kq60, qa60, qb60, qc60⟩ := isOf hZ e57 cf61
  obtain ⟨vv62, _, ⟨T62, L62, kk62, nn62⟩, -, X62, ⟨Lc62, hQ62, l62, y62, z62⟩, st62⟩ := X57.virtualBack hx (y := (⟨own_V, "missesEverySubject", "()Z"⟩ : MethodName)) (z := (⟨own_V, "missesEverySubject", "()Z"⟩ : MethodName)) hown (mvT hZ (hw _ (List.mem_of_getElem? (i := 20) rfl))) (mvT hZ (hw _ (List.mem_of_getElem? (i := 21) rfl))) (notFace_of_selects (args := #[]) (mvT hZ (hw _ (List.mem_of_getElem? (i := 23) rfl)))) (mvT hZ (hw _ (List.mem_of_getElem? (i := 23) rfl))) (mvT hZ (hw _ (List.mem_of_getElem? (i := 22) rfl))) (by decide) (backOf (W := 0) (own_miss_6 l Z a0 hw [] hp57 n0 (Nat.le_trans Z0 Kp57.1) ad (own_Wd_ext W (own_ext_of_keep Kp57 all0))) hZ (hw _ (List.mem_of_getElem? (i := 24) rfl)) (hw _ (List.mem_of_getElem? (i := 3) rfl)) (by decide) (by decide)) qa60 qc60 (g := (mkF m 107 #[.val (.int p1), .val (.ref b1), .val (.int (6 : Int32)), .val (.ref (ad 6)), .val (.int (0 : Int32)), .val (.int (0 : Int32)), .val (.int (0 : Int32)), .unset] [(.ref (ad 6))])) rfl (by rw [hml]; rfl) (Steps.refl _) (argsL := []) (rest := []) (lenOf own_pd___Z rfl) rfl (by show 2 * 0 + _ ≤ _; exact Nat.le_of_eq rfl) (hb hby at_107) (fun _ _ => ⟨rfl, e57, (by decide : 1 + 0 ≤ _), (by decide : 8 + 0 ≤ _)⟩)
  dsimp only [Pt.U, Pt.locs, Pt.cells, Pt.slots] at X62 l62 y62 z62 st62 hQ62
  subst l62 y62 z62
  obtain ⟨rfl, Nq62, e62⟩ := hQ62
  have N62 := Fr.app N57 Nq62
  have ch63 : ∀ t, Steps p.tables e below (T62.setTop (mkF m 110 #[.val (.int p1), .val (.ref b1), .val (.int (6 : Int32)), .val (.ref (ad 6)), .val (.int (0 : Int32)), .val (.int (0 : Int32)), .val (.int (0 : Int32)), .unset] [(.int (0 : Int32))])) t → Steps p.tables e below (s₁.setTop (entryFrame m #[(.int p1)] maxLocals)) t := fun t k => ch58 t (by
      show Steps p.tables e below (T57.setTop (mkF m 55 #[.val (.int p1), .unset, .unset, .unset, .unset, .unset, .unset, .unset] [(.ref b1)])) t
      refine XS.astoreN X57.here hx rfl (hb hby at_55) rfl rfl (l' := #[.val (.int p1), .val (.ref b1), .unset, .unset, .unset, .unset, .unset, .unset]) rfl ?_
      show Steps p.tables e below (T57.setTop (mkF m 56 #[.val (.int p1), .val (.ref b1), .unset, .unset, .unset, .unset, .unset, .unset] [])) t
      refine XS.iloadN X57.here hx rfl (hb hby at_56) rfl ?_
      show Steps p.tables e below (T57.setTop (mkF m 57 #[.val (.int p1), .val (.ref b1), .unset, .unset, .unset, .unset, .unset, .unset] [(.int p1)])) t
      refine XS.bipush X57.here hx rfl (hb hby at_57) ?_
      show Steps p.tables e below (T57.setTop (mkF m 59 #[.val (.int p1), .val (.ref b1), .unset, .unset, .unset, .unset, .unset, .unset] [(.int (7 : Int32)), (.int p1)])) t
      refine XS.iand X57.here hx rfl (hb hby at_59) rfl ?_
      rw [hk]
      show Steps p.tables e below (T57.setTop (mkF m 60 #[.val (.int p1), .val (.ref b1), .unset, .unset, .unset, .unset, .unset, .unset] [(.int (6 : Int32))])) t
      refine XS.istoreN X57.here hx rfl (hb hby at_60) rfl (l' := #[.val (.int p1), .val (.ref b1), .val (.int (6 : Int32)), .unset, .unset, .unset, .unset, .unset]) rfl ?_
      show Steps p.tables e below (T57.setTop (mkF m 61 #[.val (.int p1), .val (.ref b1), .val (.int (6 : Int32)), .unset, .unset, .unset, .unset, .unset] [])) t
      refine XS.aloadN X57.here hx rfl (hb hby at_61) rfl rfl ?_
      show Steps p.tables e below (T57.setTop (mkF m 62 #[.val (.int p1), .val (.ref b1), .val (.int (6 : Int32)), .unset, .unset, .unset, .unset, .unset] [(.ref b1)])) t
      refine XS.iloadN X57.here hx rfl (hb hby at_62) rfl ?_
      show Steps p.tables e below (T57.setTop (mkF m 63 #[.val (.int p1), .val (.ref b1), .val (.int (6 : Int32)), .unset, .unset, .unset, .unset, .unset] [(.int (6 : Int32)), (.ref b1)])) t
      refine X57.aaload hx (j := (6 : Int32)) (v := (.ref (ad 6))) (by rw [e57]; exact Ar59.1) (State.isArrayOf_alike hZ.alike Ar59.2.1) rfl Ar59.2.2 hin59 hat59 (g := (mkF m 63 #[.val (.int p1), .val (.ref b1), .val (.int (6 : Int32)), .unset, .unset, .unset, .unset, .unset] [(.int (6 : Int32)), (.ref b1)])) rfl rfl (hb hby at_63) _ ?_
      show Steps p.tables e below (T57.setTop (mkF m 64 #[.val (.int p1), .val (.ref b1), .val (.int (6 : Int32)), .unset, .unset, .unset, .unset, .unset] [(.ref (ad 6))])) t
      refine XS.astoreN X57.here hx rfl (hb hby at_64) rfl rfl (l' := #[.val (.int p1), .val (.ref b1), .val (.int (6 : Int32)), .val (.ref (ad 6)), .unset, .unset, .unset, .unset]) rfl ?_
      show Steps p.tables e below (T57.setTop (mkF m 65 #[.val (.int p1), .val (.ref b1), .val (.int (6 : Int32)), .val (.ref (ad 6)), .unset, .unset, .unset, .unset] [])) t
      refine XS.iloadN X57.here hx rfl (hb hby at_65) rfl ?_
      show Steps p.tables e below (T57.setTop (mkF m 66 #[.val (.int p1), .val (.ref b1), .val (.int (6 : Int32)), .val (.ref (ad 6)), .unset, .unset, .unset, .unset] [(.int (6 : Int32))])) t
      refine XS.iconst X57.here hx rfl (hb hby at_66) ?_
      show Steps p.tables e below (T57.setTop (mkF m 67 #[.val (.int p1), .val (.ref b1), .val (.int (6 : Int32)), .val (.ref (ad 6)), .unset, .unset, .unset, .unset] [(.int (5 : Int32)), (.int (6 : Int32))])) t
      refine XS.icmpYes X57.here hx rfl (pc0 := 67) (pc' := 74) rfl (hb hby at_67) rfl (flt (by decide : ¬ (6 : Int32) < (5 : Int32))).2.1 (by decide) (by decide) ?_
      show Steps p.tables e below (T57.setTop (mkF m 74 #[.val (.int p1), .val (.ref b1), .val (.int (6 : Int32)), .val (.ref (ad 6)), .unset, .unset, .unset, .unset] [])) t
      refine XS.iconst X57.here hx rfl (hb hby at_74) ?_
      show Steps p.tables e below (T57.setTop (mkF m 75 #[.val (.int p1), .val (.ref b1), .val (.int (6 : Int32)), .val (.ref (ad 6)), .unset, .unset, .unset, .unset] [(.int (0 : Int32))])) t
      refine XS.istore X57.here hx rfl (hb hby at_75) rfl (l' := #[.val (.int p1), .val (.ref b1), .val (.int (6 : Int32)), .val (.ref (ad 6)), .val (.int (0 : Int32)), .unset, .unset, .unset]) rfl ?_
      show Steps p.tables e below (T57.setTop (mkF m 77 #[.val (.int p1), .val (.ref b1), .val (.int (6 : Int32)), .val (.ref (ad 6)), .val (.int (0 : Int32)), .unset, .unset, .unset] [])) t
      refine XS.iloadN X57.here hx rfl (hb hby at_77) rfl ?_
      show Steps p.tables e below (T57.setTop (mkF m 78 #[.val (.int p1), .val (.ref b1), .val (.int (6 : Int32)), .val (.ref (ad 6)), .val (.int (0 : Int32)), .unset, .unset, .unset] [(.int (6 : Int32))])) t
      refine XS.iconst X57.here hx rfl (hb hby at_78) ?_
      show Steps p.tables e below (T57.setTop (mkF m 79 #[.val (.int p1), .val (.ref b1), .val (.int (6 : Int32)), .val (.ref (ad 6)), .val (.int (0 : Int32)), .unset, .unset, .unset] [(.int (3 : Int32)), (.int (6 : Int32))])) t
      refine XS.icmpYes X57.here hx rfl (pc0 := 79) (pc' := 86) rfl (hb hby at_79) rfl (feq (by decide : ¬ (6 : Int32) = (3 : Int32))).2 (by decide) (by decide) ?_
      show Steps p.tables e below (T57.setTop (mkF m 86 #[.val (.int p1), .val (.ref b1), .val (.int (6 : Int32)), .val (.ref (ad 6)), .val (.int (0 : Int32)), .unset, .unset, .unset] [])) t
      refine XS.iconst X57.here hx rfl (hb hby at_86) ?_
      show Steps p.tables e below (T57.setTop (mkF m 87 #[.val (.int p1), .val (.ref b1), .val (.int (6 : Int32)), .val (.ref (ad 6)), .val (.int (0 : Int32)), .unset, .unset, .unset] [(.int (0 : Int32))])) t
      refine XS.istore X57.here hx rfl (hb hby at_87) rfl (l' := #[.val (.int p1), .val (.ref b1), .val (.int (6 : Int32)), .val (.ref (ad 6)), .val (.int (0 : Int32)), .val (.int (0 : Int32)), .unset, .unset]) rfl ?_
      show Steps p.tables e below (T57.setTop (mkF m 89 #[.val (.int p1), .val (.ref b1), .val (.int (6 : Int32)), .val (.ref (ad 6)), .val (.int (0 : Int32)), .val (.int (0 : Int32)), .unset, .unset] [])) t
      refine XS.iload X57.here hx rfl (hb hby at_89) rfl ?_
      show Steps p.tables e below (T57.setTop (mkF m 91 #[.val (.int p1), .val (.ref b1), .val (.int (6 : Int32)), .val (.ref (ad 6)), .val (.int (0 : Int32)), .val (.int (0 : Int32)), .unset, .unset] [(.int (0 : Int32))])) t
      refine XS.ifYes X57.here hx rfl (pc0 := 91) (pc' := 103) rfl (hb hby at_91) rfl ((if0 _ _).trans (teq (by decide : (0 : Int32) = (0 : Int32))).1) (by decide) (by decide) ?_
      show Steps p.tables e below (T57.setTop (mkF m 103 #[.val (.int p1), .val (.ref b1), .val (.int (6 : Int32)), .val (.ref (ad 6)), .val (.int (0 : Int32)), .val (.int (0 : Int32)), .unset, .unset] [])) t
      refine XS.iconst X57.here hx rfl (hb hby at_103) ?_
      show Steps p.tables e below (T57.setTop (mkF m 104 #[.val (.int p1), .val (.ref b1), .val (.int (6 : Int32)), .val (.ref (ad 6)), .val (.int (0 : Int32)), .val (.int (0 : Int32)), .unset, .unset] [(.int (0 : Int32))])) t
      refine XS.istore X57.here hx rfl (hb hby at_104) rfl (l' := #[.val (.int p1), .val (.ref b1), .val (.int (6 : Int32)), .val (.ref (ad 6)), .val (.int (0 : Int32)), .val (.int (0 : Int32)), .val (.int (0 : Int32)), .unset]) rfl ?_
      show Steps p.tables e below (T57.setTop (mkF m 106 #[.val (.int p1), .val (.ref b1), .val (.int (6 : Int32)), .val (.ref (ad 6)), .val (.int (0 : Int32)), .val (.int (0 : Int32)), .val (.int (0 : Int32)), .unset] [])) t
      refine XS.aloadN X57.here hx rfl (hb hby at_106) rfl rfl ?_
      show Steps p.tables e below (T57.setTop (mkF m 107 #[.val (.int p1), .val (.ref b1), .val (.int (6 : Int32)), .val (.ref (ad 6)), .val (.int (0 : Int32)), .val (.int (0 : Int32)), .val (.int (0 : Int32)), .unset] [(.ref (ad 6))])) t
      exact st62.trans k)
  have ch64 : ∀ t, Steps p.tables e below (T62.setTop (mkF m 138 #[.val (.int p1), .val (.ref b1), .val (.int (6 : Int32)), .val (.ref (ad 6)), .val (.int (0 : Int32)), .val (.int (0 : Int32)), .val (.int (0 : Int32)), .val (.int (0 : Int32))] [(.int (1 : Int32))])) t → Steps p.tables e below (s₁.setTop (entryFrame m #[(.int p1)] maxLocals)) t := fun t k => ch63 t (by
      show Steps p.tables e below (T62.setTop (mkF m 110 #[.val (.int p1), .val (.ref b1), .val (.int (6 : Int32)), .val (.ref (ad 6)), .val (.int (0 : Int32)), .val (.int (0 : Int32)), .val (.int (0 : Int32)), .unset] [(.int (0 : Int32))])) t
      refine XS.istore X62.here hx rfl (hb hby at_110) rfl (l' := #[.val (.int p1), .val (.ref b1), .val (.int (6 : Int32)), .val (.ref (ad 6)), .val (.int (0 : Int32)), .val (.int (0 : Int32)), .val (.int (0 : Int32)), .val (.int (0 : Int32))]) rfl ?_
      show Steps p.tables e below (T62.setTop (mkF m 112 #[.val (.int p1), .val (.ref b1), .val (.int (6 : Int32)), .val (.ref (ad 6)), .val (.int (0 : Int32)), .val (.int (0 : Int32)), .val (.int (0 : Int32)), .val (.int (0 : Int32))] [])) t
      refine XS.iload X62.here hx rfl (hb hby at_112) rfl ?_
      show Steps p.tables e below (T62.setTop (mkF m 114 #[.val (.int p1), .val (.ref b1), .val (.int (6 : Int32)), .val (.ref (ad 6)), .val (.int (0 : Int32)), .val (.int (0 : Int32)), .val (.int (0 : Int32)), .val (.int (0 : Int32))] [(.int (0 : Int32))])) t
      refine XS.iload X62.here hx rfl (hb hby at_114) rfl ?_
      show Steps p.tables e below (T62.setTop (mkF m 116 #[.val (.int p1), .val (.ref b1), .val (.int (6 : Int32)), .val (.ref (ad 6)), .val (.int (0 : Int32)), .val (.int (0 : Int32)), .val (.int (0 : Int32)), .val (.int (0 : Int32))] [(.int (0 : Int32)), (.int (0 : Int32))])) t
      refine XS.icmpYes X62.here hx rfl (pc0 := 116) (pc' := 121) rfl (hb hby at_116) rfl (teq (by decide : (0 : Int32) = (0 : Int32))).1 (by decide) (by decide) ?_
      show Steps p.tables e below (T62.setTop (mkF m 121 #[.val (.int p1), .val (.ref b1), .val (.int (6 : Int32)), .val (.ref (ad 6)), .val (.int (0 : Int32)), .val (.int (0 : Int32)), .val (.int (0 : Int32)), .val (.int (0 : Int32))] [])) t
      refine XS.iload X62.here hx rfl (hb hby at_121) rfl ?_
      show Steps p.tables e below (T62.setTop (mkF m 123 #[.val (.int p1), .val (.ref b1), .val (.int (6 : Int32)), .val (.ref (ad 6)), .val (.int (0 : Int32)), .val (.int (0 : Int32)), .val (.int (0 : Int32)), .val (.int (0 : Int32))] [(.int (0 : Int32))])) t
      refine XS.ifYes X62.here hx rfl (pc0 := 123) (pc' := 133) rfl (hb hby at_123) rfl ((if0 _ _).trans (teq (by decide : (0 : Int32) = (0 : Int32))).1) (by decide) (by decide) ?_
      show Steps p.tables e below (T62.setTop (mkF m 133 #[.val (.int p1), .val (.ref b1), .val (.int (6 : Int32)), .val (.ref (ad 6)), .val (.int (0 : Int32)), .val (.int (0 : Int32)), .val (.int (0 : Int32)), .val (.int (0 : Int32))] [])) t
      refine XS.iconst X62.here hx rfl (hb hby at_133) ?_
      show Steps p.tables e below (T62.setTop (mkF m 134 #[.val (.int p1), .val (.ref b1), .val (.int (6 : Int32)), .val (.ref (ad 6)), .val (.int (0 : Int32)), .val (.int (0 : Int32)), .val (.int (0 : Int32)), .val (.int (0 : Int32))] [(.int (1 : Int32))])) t
      refine XS.goto X62.here hx rfl (pc0 := 134) (pc' := 138) rfl (hb hby at_134) (by decide) (by decide) ?_
      exact k)
  obtain ⟨fs, hr, hrun, hended, hW, hsame⟩ := X62.leave (v := some (.int (1 : Int32))) (fun h => by rw [Bd.returns] at h; cases h)
  refine ⟨_, _, ch64 _ ?_, hrun, hended, _, _, rfl, ?_, ⟨_, rfl⟩, hW, hsame.mono (by decide) (by decide)⟩
  · show Steps p.tables e below (T62.setTop (mkF m 138 #[.val (.int p1), .val (.ref b1), .val (.int (6 : Int32)), .val (.ref (ad 6)), .val (.int (0 : Int32)), .val (.int (0 : Int32)), .val (.int (0 : Int32)), .val (.int (0 : Int32))] [(.int (1 : Int32))])) _
    exact retN X62 hx (t := .boolean) Bd.returns (by simp) (hb hby at_138) hr
  · show QN (some (.int (1 : Int32))) n0 _ T62.heap _
    rw [e62]
    exact ⟨rfl, N62⟩
theorem own_ef_own_miss_7 (m : MethodId) {x0 : Addr} : entryFrame m #[(.ref x0)] 1 = mkF m 0 #[.val (.ref x0)] [] := by first | (simp [entryFrame, mkF, argsToLocals, Value.category, maxLocals]; done) | rfl
set_option maxRecDepth 65536 in
set_option maxHeartbeats 40000000 in
theorem own_miss_7 (l : Launch) (Z : State) (a0 : Array Value) (hw : ∀ d ∈ tables_1, d.before a0 Z = true) (ws : List Jvm.Cond) (h0 : Heap) (n0 : Nat) (Z0 : n0 ≤ h0.size) (ad : Nat → Addr) (W : OwnWd Z h0 ad) :
    MetFree l (⟨own_V, "missesEverySubject", "()Z"⟩ : MethodName) (head1 (Jvm.Cond.code (⟨own_V, "missesEverySubject", "()Z"⟩ : MethodName) prog_34_method_6_code 1 (some .boolean) :: ws) ({ frames := 0, cells := 0, slots := 0, locals := 0 } : Room)) (fun a U => a = #[(.ref (ad 7))] ∧ Z.Warmed39 U.vm ∧ U.heap = h0) (fun _ _ _ _ _ => True) (fun _ U o U' => ∃ v L, o = .returned v ∧ QV (some (.int (0 : Int32))) h0 n0 v U'.heap L ∧ FrameEnd U o U' L ({ frames := 0, cells := 0, slots := 0, locals := 0 } : Room).cells ({ frames := 0, cells := 0, slots := 0, locals := 0 } : Room).slots) := by
  refine MetFree.of_bodySF (plainFor_of_name own_pn_own_Verdict) hisR ?_
  intro p e s m args below meth c s₁ Bd hml0 hP hK
  obtain ⟨rfl, hZ, hh⟩ := hP
  have hx := Bd.exec
  have hby := Bd.bytes
  have hml : c.maxLocals = 1 := hml0
  have hown : s.vm.findClass own_V = some m.cls := (findClass_of_methodNamed Bd.named :)
  have hnm := (name_of_methodNamed Bd.named Bd.method).1
  have X0 : Stand p l e ({ frames := 0, cells := 0, slots := 0, locals := 0 } : Room) s m #[(.ref (ad 7))] below meth c s₁ [] 0 0 := Stand.of_body Bd
  have e0 : s₁.heap = h0 := by rw [← hh, Bd.state]; rfl
  have N0 := Fr.nil n0
  have pre0 : ∀ t, Steps p.tables e below (s₁.setTop (mkF m 0 #[.val (.ref (ad 7))] [])) t → Steps p.tables e below (s₁.setTop (entryFrame m #[(.ref (ad 7))] 1)) t := fun t k => castTop (own_ef_own_miss_7 m) k
  obtain ⟨T1, X1, e1, st1⟩ := getS2 X0 hx hZ hown (host := "") (Or.inl (hw _ (List.mem_of_getElem? (i := 25) rfl))) Via.refl e0 (own_S_DISABLED W) (g := (mkF m 1 #[.val (.ref (ad 7))] [(.ref (ad 7))])) rfl (hb hby own_d_prog_34_method_6_code_1)
  have ch2 : ∀ t, Steps p.tables e below (T1.setTop (mkF m 4 #[.val (.ref (ad 7))] [(.ref (ad 0)), (.ref (ad 7))])) t → Steps p.tables e below (s₁.setTop (entryFrame m #[(.ref (ad 7))] 1)) t := fun t k => pre0 t (by
      show Steps p.tables e below (s₁.setTop (mkF m 0 #[.val (.ref (ad 7))] [])) t
      refine XS.aloadN X0.here hx rfl (hb hby own_d_prog_34_method_6_code_0) rfl rfl ?_
      show Steps p.tables e below (s₁.setTop (mkF m 1 #[.val (.ref (ad 7))] [(.ref (ad 7))])) t
      exact st1 t k)
  obtain ⟨T3, X3, e3, st3⟩ := getS2 X1 hx hZ hown (host := "") (Or.inl (hw _ (List.mem_of_getElem? (i := 33) rfl))) Via.refl e1 (own_S_NO_MATCH_RESOURCE W) (g := (mkF m 8 #[.val (.ref (ad 7))] [(.ref (ad 7))])) rfl (hb hby own_d_prog_34_method_6_code_8)
  have ch4 : ∀ t, Steps p.tables e below (T3.setTop (mkF m 11 #[.val (.ref (ad 7))] [(.ref (ad 1)), (.ref (ad 7))])) t → Steps p.tables e below (s₁.setTop (entryFrame m #[(.ref (ad 7))] 1)) t := fun t k => ch2 t (by
      show Steps p.tables e below (T1.setTop (mkF m 4 #[.val (.ref (ad 7))] [(.ref (ad 0)), (.ref (ad 7))])) t
      refine Jvm.RoadKit.acmp (g := (mkF m 4 #[.val (.ref (ad 7))] [(.ref (ad 0)), (.ref (ad 7))])) X1 hx rfl rfl rfl (pc0 := 4) (pc' := 7) (same := false) rfl (hb hby own_d_prog_34_method_6_code_4) rfl (decide_eq_false fun q => (Fld.ne (own_F_DROPPED_BY_BEST_MATCH_ordinal W) (own_F_DISABLED_ordinal W) (by decide)) (Value.ref.inj q)) (by decide) (by decide) ?_
      show Steps p.tables e below (T1.setTop (mkF m 7 #[.val (.ref (ad 7))] [])) t
      refine XS.aloadN X1.here hx rfl (hb hby own_d_prog_34_method_6_code_7) rfl rfl ?_
      show Steps p.tables e below (T1.setTop (mkF m 8 #[.val (.ref (ad 7))] [(.ref (ad 7))])) t
      exact st3 t k)
  obtain ⟨T5, X5, e5, st5⟩ := getS2 X3 hx hZ hown (host := "") (Or.inl (hw _ (List.mem_of_getElem? (i := 34) rfl))) Via.refl e3 (own_S_NO_MATCH_ACTION W) (g := (mkF m 15 #[.val (.ref (ad 7))] [(.ref (ad 7))])) rfl (hb hby own_d_prog_34_method_6_code_15)
  have ch6 : ∀ t, Steps p.tables e below (T5.setTop (mkF m 18 #[.val (.ref (ad 7))] [(.ref (ad 2)), (.ref (ad 7))])) t → Steps p.tables e below (s₁.setTop (entryFrame m #[(.ref (ad 7))] 1)) t := fun t k => ch4 t (by
      show Steps p.tables e below (T3.setTop (mkF m 11 #[.val (.ref (ad 7))] [(.ref (ad 1)), (.ref (ad 7))])) t
      refine Jvm.RoadKit.acmp (g := (mkF m 11 #[.val (.ref (ad 7))] [(.ref (ad 1)), (.ref (ad 7))])) X3 hx rfl rfl rfl (pc0 := 11) (pc' := 14) (same := false) rfl (hb hby own_d_prog_34_method_6_code_11) rfl (decide_eq_false fun q => (Fld.ne (own_F_DROPPED_BY_BEST_MATCH_ordinal W) (own_F_NO_MATCH_RESOURCE_ordinal W) (by decide)) (Value.ref.inj q)) (by decide) (by decide) ?_
      show Steps p.tables e below (T3.setTop (mkF m 14 #[.val (.ref (ad 7))] [])) t
      refine XS.aloadN X3.here hx rfl (hb hby own_d_prog_34_method_6_code_14) rfl rfl ?_
      show Steps p.tables e below (T3.setTop (mkF m 15 #[.val (.ref (ad 7))] [(.ref (ad 7))])) t
      exact st5 t k)
  obtain ⟨T7, X7, e7, st7⟩ := getS2 X5 hx hZ hown (host := "") (Or.inl (hw _ (List.mem_of_getElem? (i := 35) rfl))) Via.refl e5 (own_S_NO_MATCH_CALENDAR W) (g := (mkF m 22 #[.val (.ref (ad 7))] [(.ref (ad 7))])) rfl (hb hby own_d_prog_34_method_6_code_22)
  have ch8 : ∀ t, Steps p.tables e below (T7.setTop (mkF m 25 #[.val (.ref (ad 7))] [(.ref (ad 4)), (.ref (ad 7))])) t → Steps p.tables e below (s₁.setTop (entryFrame m #[(.ref (ad 7))] 1)) t := fun t k => ch6 t (by
      show Steps p.tables e below (T5.setTop (mkF m 18 #[.val (.ref (ad 7))] [(.ref (ad 2)), (.ref (ad 7))])) t
      refine Jvm.RoadKit.acmp (g := (mkF m 18 #[.val (.ref (ad 7))] [(.ref (ad 2)), (.ref (ad 7))])) X5 hx rfl rfl rfl (pc0 := 18) (pc' := 21) (same := false) rfl (hb hby own_d_prog_34_method_6_code_18) rfl (decide_eq_false fun q => (Fld.ne (own_F_DROPPED_BY_BEST_MATCH_ordinal W) (own_F_NO_MATCH_ACTION_ordinal W) (by decide)) (Value.ref.inj q)) (by decide) (by decide) ?_
      show Steps p.tables e below (T5.setTop (mkF m 21 #[.val (.ref (ad 7))] [])) t
      refine XS.aloadN X5.here hx rfl (hb hby own_d_prog_34_method_6_code_21) rfl rfl ?_
      show Steps p.tables e below (T5.setTop (mkF m 22 #[.val (.ref (ad 7))] [(.ref (ad 7))])) t
      exact st7 t k)
  have ch9 : ∀ t, Steps p.tables e below (T7.setTop (mkF m 33 #[.val (.ref (ad 7))] [(.int (0 : Int32))])) t → Steps p.tables e below (s₁.setTop (entryFrame m #[(.ref (ad 7))] 1)) t := fun t k => ch8 t (by
      show Steps p.tables e below (T7.setTop (mkF m 25 #[.val (.ref (ad 7))] [(.ref (ad 4)), (.ref (ad 7))])) t
      refine Jvm.RoadKit.acmp (g := (mkF m 25 #[.val (.ref (ad 7))] [(.ref (ad 4)), (.ref (ad 7))])) X7 hx rfl rfl rfl (pc0 := 25) (pc' := 32) (same := false) rfl (hb hby own_d_prog_34_method_6_code_25) rfl (decide_eq_false fun q => (Fld.ne (own_F_DROPPED_BY_BEST_MATCH_ordinal W) (own_F_NO_MATCH_CALENDAR_ordinal W) (by decide)) (Value.ref.inj q)) (by decide) (by decide) ?_
      show Steps p.tables e below (T7.setTop (mkF m 32 #[.val (.ref (ad 7))] [])) t
      refine XS.iconst X7.here hx rfl (hb hby own_d_prog_34_method_6_code_32) ?_
      exact k)
  obtain ⟨fs, hr, hrun, hended, hW, hsame⟩ := X7.leave (v := some (.int (0 : Int32))) (fun h => by rw [Bd.returns] at h; cases h)
  refine ⟨_, _, ch9 _ ?_, hrun, hended, _, _, rfl, ?_, ⟨_, rfl⟩, hW, hsame.mono (by decide) (by decide)⟩
  · show Steps p.tables e below (T7.setTop (mkF m 33 #[.val (.ref (ad 7))] [(.int (0 : Int32))])) _
    exact retN X7 hx (t := .boolean) Bd.returns (by simp) (hb hby own_d_prog_34_method_6_code_33) hr
  · show QV (some (.int (0 : Int32))) h0 n0 _ T7.heap _
    rw [e7]
    exact ⟨rfl, N0, rfl⟩
theorem own_ef_own_appl_7 (m : MethodId) {x0 : Addr} : entryFrame m #[(.ref x0)] 1 = mkF m 0 #[.val (.ref x0)] [] := by first | (simp [entryFrame, mkF, argsToLocals, Value.category, maxLocals]; done) | rfl
set_option maxRecDepth 65536 in
set_option maxHeartbeats 40000000 in
theorem own_appl_7 (l : Launch) (Z : State) (a0 : Array Value) (hw : ∀ d ∈ tables_1, d.before a0 Z = true) (ws : List Jvm.Cond) (h0 : Heap) (n0 : Nat) (Z0 : n0 ≤ h0.size) (ad : Nat → Addr) (W : OwnWd Z h0 ad) :
    MetFree l (⟨own_V, "applies", "()Z"⟩ : MethodName) (head1 (Jvm.Cond.code (⟨own_V, "applies", "()Z"⟩ : MethodName) prog_34_method_5_code 1 (some .boolean) :: ws) ({ frames := 0, cells := 0, slots := 0, locals := 0 } : Room)) (fun a U => a = #[(.ref (ad 7))] ∧ Z.Warmed39 U.vm ∧ U.heap = h0) (fun _ _ _ _ _ => True) (fun _ U o U' => ∃ v L, o = .returned v ∧ QV (some (.int (0 : Int32))) h0 n0 v U'.heap L ∧ FrameEnd U o U' L ({ frames := 0, cells := 0, slots := 0, locals := 0 } : Room).cells ({ frames := 0, cells := 0, slots := 0, locals := 0 } : Room).slots) := by
  refine MetFree.of_bodySF (plainFor_of_name own_pn_own_Verdict) hisR ?_
  intro p e s m args below meth c s₁ Bd hml0 hP hK
  obtain ⟨rfl, hZ, hh⟩ := hP
  have hx := Bd.exec
  have hby := Bd.bytes
  have hml : c.maxLocals = 1 := hml0
  have hown : s.vm.findClass own_V = some m.cls := (findClass_of_methodNamed Bd.named :)
  have hnm := (name_of_methodNamed Bd.named Bd.method).1
  have X0 : Stand p l e ({ frames := 0, cells := 0, slots := 0, locals := 0 } : Room) s m #[(.ref (ad 7))] below meth c s₁ [] 0 0 := Stand.of_body Bd
  have e0 : s₁.heap = h0 := by rw [← hh, Bd.state]; rfl
  have N0 := Fr.nil n0
  have pre0 : ∀ t, Steps p.tables e below (s₁.setTop (mkF m 0 #[.val (.ref (ad 7))] [])) t → Steps p.tables e below (s₁.setTop (entryFrame m #[(.ref (ad 7))] 1)) t := fun t k => castTop (own_ef_own_appl_7 m) k
  obtain ⟨T1, X1, e1, st1⟩ := getS2 X0 hx hZ hown (host := "") (Or.inl (hw _ (List.mem_of_getElem? (i := 31) rfl))) Via.refl e0 (own_S_MATCHED W) (g := (mkF m 1 #[.val (.ref (ad 7))] [(.ref (ad 7))])) rfl (hb hby own_d_prog_34_method_5_code_1)
  have ch2 : ∀ t, Steps p.tables e below (T1.setTop (mkF m 4 #[.val (.ref (ad 7))] [(.ref (ad 5)), (.ref (ad 7))])) t → Steps p.tables e below (s₁.setTop (entryFrame m #[(.ref (ad 7))] 1)) t := fun t k => pre0 t (by
      show Steps p.tables e below (s₁.setTop (mkF m 0 #[.val (.ref (ad 7))] [])) t
      refine XS.aloadN X0.here hx rfl (hb hby own_d_prog_34_method_5_code_0) rfl rfl ?_
      show Steps p.tables e below (s₁.setTop (mkF m 1 #[.val (.ref (ad 7))] [(.ref (ad 7))])) t
      exact st1 t k)
  obtain ⟨T3, X3, e3, st3⟩ := getS2 X1 hx hZ hown (host := "") (Or.inl (hw _ (List.mem_of_getElem? (i := 32) rfl))) Via.refl e1 (own_S_RETAINED W) (g := (mkF m 8 #[.val (.ref (ad 7))] [(.ref (ad 7))])) rfl (hb hby own_d_prog_34_method_5_code_8)
  have ch4 : ∀ t, Steps p.tables e below (T3.setTop (mkF m 11 #[.val (.ref (ad 7))] [(.ref (ad 6)), (.ref (ad 7))])) t → Steps p.tables e below (s₁.setTop (entryFrame m #[(.ref (ad 7))] 1)) t := fun t k => ch2 t (by
      show Steps p.tables e below (T1.setTop (mkF m 4 #[.val (.ref (ad 7))] [(.ref (ad 5)), (.ref (ad 7))])) t
      refine Jvm.RoadKit.acmp (g := (mkF m 4 #[.val (.ref (ad 7))] [(.ref (ad 5)), (.ref (ad 7))])) X1 hx rfl rfl rfl (pc0 := 4) (pc' := 7) (same := false) rfl (hb hby own_d_prog_34_method_5_code_4) rfl (decide_eq_false fun q => (Fld.ne (own_F_DROPPED_BY_BEST_MATCH_ordinal W) (own_F_MATCHED_ordinal W) (by decide)) (Value.ref.inj q)) (by decide) (by decide) ?_
      show Steps p.tables e below (T1.setTop (mkF m 7 #[.val (.ref (ad 7))] [])) t
      refine XS.aloadN X1.here hx rfl (hb hby own_d_prog_34_method_5_code_7) rfl rfl ?_
      show Steps p.tables e below (T1.setTop (mkF m 8 #[.val (.ref (ad 7))] [(.ref (ad 7))])) t
      exact st3 t k)
  have ch5 : ∀ t, Steps p.tables e below (T3.setTop (mkF m 19 #[.val (.ref (ad 7))] [(.int (0 : Int32))])) t → Steps p.tables e below (s₁.setTop (entryFrame m #[(.ref (ad 7))] 1)) t := fun t k => ch4 t (by
      show Steps p.tables e below (T3.setTop (mkF m 11 #[.val (.ref (ad 7))] [(.ref (ad 6)), (.ref (ad 7))])) t
      refine Jvm.RoadKit.acmp (g := (mkF m 11 #[.val (.ref (ad 7))] [(.ref (ad 6)), (.ref (ad 7))])) X3 hx rfl rfl rfl (pc0 := 11) (pc' := 18) (same := false) rfl (hb hby own_d_prog_34_method_5_code_11) rfl (decide_eq_false fun q => (Fld.ne (own_F_DROPPED_BY_BEST_MATCH_ordinal W) (own_F_RETAINED_ordinal W) (by decide)) (Value.ref.inj q)) (by decide) (by decide) ?_
      show Steps p.tables e below (T3.setTop (mkF m 18 #[.val (.ref (ad 7))] [])) t
      refine XS.iconst X3.here hx rfl (hb hby own_d_prog_34_method_5_code_18) ?_
      exact k)
  obtain ⟨fs, hr, hrun, hended, hW, hsame⟩ := X3.leave (v := some (.int (0 : Int32))) (fun h => by rw [Bd.returns] at h; cases h)
  refine ⟨_, _, ch5 _ ?_, hrun, hended, _, _, rfl, ?_, ⟨_, rfl⟩, hW, hsame.mono (by decide) (by decide)⟩
  · show Steps p.tables e below (T3.setTop (mkF m 19 #[.val (.ref (ad 7))] [(.int (0 : Int32))])) _
    exact retN X3 hx (t := .boolean) Bd.returns (by simp) (hb hby own_d_prog_34_method_5_code_19) hr
  · show QV (some (.int (0 : Int32))) h0 n0 _ T3.heap _
    rw [e3]
    exact ⟨rfl, N0, rfl⟩
theorem own_ef_own_law_7 (m : MethodId) {x0 : Int32} : entryFrame m #[(.int x0)] maxLocals = mkF m 0 #[.val (.int x0), .unset, .unset, .unset, .unset, .unset, .unset, .unset] [] := by first | (simp [entryFrame, mkF, argsToLocals, Value.category, maxLocals]; done) | rfl
set_option maxRecDepth 65536 in
set_option maxHeartbeats 40000000 in
theorem own_law_7 (l : Launch) (Z : State) (a0 : Array Value) (hw : ∀ d ∈ tables_1, d.before a0 Z = true) (ws : List Jvm.Cond) (h0 : Heap) (n0 : Nat) (Z0 : n0 ≤ h0.size) (p1 : Int32) (hk : p1 &&& (7 : Int32) = (7 : Int32)) (ad : Nat → Addr) (W : OwnWd Z h0 ad) :
    MetFree l x (head1 (Jvm.Cond.code x code maxLocals ret :: ws) room_1) (fun a U => a = #[(.int p1)] ∧ Z.Warmed39 U.vm ∧ U.heap = h0) (fun _ _ _ _ _ => True) (fun _ U o U' => ∃ v L, o = .returned v ∧ QN (some (.int (1 : Int32))) n0 v U'.heap L ∧ FrameEnd U o U' L room_1.cells room_1.slots) := by
  refine MetFree.of_bodySF (plainFor_of_name own_pn_own_VerdictMissesEverySubjectPinLaw) hisR ?_
  intro p e s m args below meth c s₁ Bd hml0 hP hK
  obtain ⟨rfl, hZ, hh⟩ := hP
  have hx := Bd.exec
  have hby := Bd.bytes
  have hml : c.maxLocals = 8 := hml0
  have hown : s.vm.findClass own_L = some m.cls := (findClass_of_methodNamed Bd.named :)
  have hnm := (name_of_methodNamed Bd.named Bd.method).1
  have X0 : Stand p l e room_1 s m #[(.int p1)] below meth c s₁ [] 0 0 := Stand.of_body Bd
  have e0 : s₁.heap = h0 := by rw [← hh, Bd.state]; rfl
  have N0 := Fr.nil n0
  have pre0 : ∀ t, Steps p.tables e below (s₁.setTop (mkF m 0 #[.val (.int p1), .unset, .unset, .unset, .unset, .unset, .unset, .unset] [])) t → Steps p.tables e below (s₁.setTop (entryFrame m #[(.int p1)] maxLocals)) t := fun t k => castTop (own_ef_own_law_7 m) k
  obtain ⟨T1, hp1, k1, X1, e1, E1, A1, O1, st1⟩ := newR X0 hx hZ hown (hw _ (List.mem_of_getElem? (i := 0) rfl)) (hw _ (List.mem_of_getElem? (i := 1) rfl)) e0 (g := (mkF m 2 #[.val (.int p1), .unset, .unset, .unset, .unset, .unset, .unset, .unset] [(.int (8 : Int32))])) rfl (hb hby at_2) rfl (by decide) (cap := 8) (by decide) (by decide) (by decide) (by decide)
  obtain ⟨b1, g1⟩ : ∃ z, z = h0.size := ⟨_, rfl⟩
  rw [← g1] at A1 st1
  have ne_ad0_b1 : (ad 0) ≠ b1 := Nat.ne_of_lt (Nat.lt_of_lt_of_le (own_E_DISABLED W).lt (Nat.le_of_eq g1.symm))
  have ne_ad1_b1 : (ad 1) ≠ b1 := Nat.ne_of_lt (Nat.lt_of_lt_of_le (own_E_NO_MATCH_RESOURCE W).lt (Nat.le_of_eq g1.symm))
  have ne_ad2_b1 : (ad 2) ≠ b1 := Nat.ne_of_lt (Nat.lt_of_lt_of_le (own_E_NO_MATCH_ACTION W).lt (Nat.le_of_eq g1.symm))
  have ne_ad3_b1 : (ad 3) ≠ b1 := Nat.ne_of_lt (Nat.lt_of_lt_of_le (own_E_NO_MATCH_IDENTITY W).lt (Nat.le_of_eq g1.symm))
  have ne_ad4_b1 : (ad 4) ≠ b1 := Nat.ne_of_lt (Nat.lt_of_lt_of_le (own_E_NO_MATCH_CALENDAR W).lt (Nat.le_of_eq g1.symm))
  have ne_ad5_b1 : (ad 5) ≠ b1 := Nat.ne_of_lt (Nat.lt_of_lt_of_le (own_E_MATCHED W).lt (Nat.le_of_eq g1.symm))
  have ne_ad6_b1 : (ad 6) ≠ b1 := Nat.ne_of_lt (Nat.lt_of_lt_of_le (own_E_RETAINED W).lt (Nat.le_of_eq g1.symm))
  have ne_ad7_b1 : (ad 7) ≠ b1 := Nat.ne_of_lt (Nat.lt_of_lt_of_le (own_E_DROPPED_BY_BEST_MATCH W).lt (Nat.le_of_eq g1.symm))
  have g_b1 : n0 ≤ b1 := Nat.le_trans (Nat.le_trans Z0 (Keep.refl h0 []).1) (Nat.le_of_eq g1.symm)
  have sz_b1 : h0.size ≤ b1 := Nat.le_trans (Keep.refl h0 []).1 (Nat.le_of_eq g1.symm)
  have Kp1 := Keep.ext (Keep.refl h0 []) E1
  have V1 : Arv Z hp1 b1 k1 (.object own_V) (8 : Int32) [.null, .null, .null, .null, .null, .null, .null, .null] .null := (Arv.new A1 (by decide)).pad (pad_rep [] .null 8)
  have ch2 : ∀ t, Steps p.tables e below (T1.setTop (mkF m 5 #[.val (.int p1), .unset, .unset, .unset, .unset, .unset, .unset, .unset] [(.ref b1)])) t → Steps p.tables e below (s₁.setTop (entryFrame m #[(.int p1)] maxLocals)) t := fun t k => pre0 t (by
      show Steps p.tables e below (s₁.setTop (mkF m 0 #[.val (.int p1), .unset, .unset, .unset, .unset, .unset, .unset, .unset] [])) t
      refine XS.bipush X0.here hx rfl (hb hby at_0) ?_
      show Steps p.tables e below (s₁.setTop (mkF m 2 #[.val (.int p1), .unset, .unset, .unset, .unset, .unset, .unset, .unset] [(.int (8 : Int32))])) t
      exact st1 t k)
  have cf3 := (own_sta_keep (own_S_DISABLED W) Kp1 all0)
  obtain ⟨T4, X4, e4, st4⟩ := getS2 X1 hx hZ hown (host := "") (Or.inl (hw _ (List.mem_of_getElem? (i := 2) rfl))) Via.refl e1 cf3 (g := (mkF m 7 #[.val (.int p1), .unset, .unset, .unset, .unset, .unset, .unset, .unset] [(.int (0 : Int32)), (.ref b1), (.ref b1)])) rfl (hb hby at_7)
  have ch5 : ∀ t, Steps p.tables e below (T4.setTop (mkF m 10 #[.val (.int p1), .unset, .unset, .unset, .unset, .unset, .unset, .unset] [(.ref (ad 0)), (.int (0 : Int32)), (.ref b1), (.ref b1)])) t → Steps p.tables e below (s₁.setTop (entryFrame m #[(.int p1)] maxLocals)) t := fun t k => ch2 t (by
      show Steps p.tables e below (T1.setTop (mkF m 5 #[.val (.int p1), .unset, .unset, .unset, .unset, .unset, .unset, .unset] [(.ref b1)])) t
      refine XS.dup X1.here hx rfl (hb hby at_5) rfl rfl ?_
      show Steps p.tables e below (T1.setTop (mkF m 6 #[.val (.int p1), .unset, .unset, .unset, .unset, .unset, .unset, .unset] [(.ref b1), (.ref b1)])) t
      refine XS.iconst X1.here hx rfl (hb hby at_6) ?_
      show Steps p.tables e below (T1.setTop (mkF m 7 #[.val (.int p1), .unset, .unset, .unset, .unset, .unset, .unset, .unset] [(.int (0 : Int32)), (.ref b1), (.ref b1)])) t
      exact st4 t k)
  obtain ⟨cl6, Ar6, qq6, Sz6, Ng6, Ha6, Ga6⟩ := id V1
  have hin6 : ¬ ((0 : Int32) < 0 ∨ cl6.slots.size ≤ ((0 : Int32)).toNatClampNeg) := inb_of Sz6 (by decide)
  have cf7 := (Exa.keep (own_E_DISABLED W) Kp1)
  obtain ⟨T8, hp8, X8, e8, W8, st8⟩ := stR X4 hx hZ e4 Ar6 (j := (0 : Int32)) hin6 rfl (Sto.ofV Ar6 qq6 O1 (Ins.self cf7)) (g := (mkF m 10 #[.val (.int p1), .unset, .unset, .unset, .unset, .unset, .unset, .unset] [(.ref (ad 0)), (.int (0 : Int32)), (.ref b1), (.ref b1)])) rfl rfl (hb hby at_10)
  have ch9 : ∀ t, Steps p.tables e below (T8.setTop (mkF m 11 #[.val (.int p1), .unset, .unset, .unset, .unset, .unset, .unset, .unset] [(.ref b1)])) t → Steps p.tables e below (s₁.setTop (entryFrame m #[(.int p1)] maxLocals)) t := fun t k => ch5 t (by
      show Steps p.tables e below (T4.setTop (mkF m 10 #[.val (.int p1), .unset, .unset, .unset, .unset, .unset, .unset, .unset] [(.ref (ad 0)), (.int (0 : Int32)), (.ref b1), (.ref b1)])) t
      exact st8 t k)
  have V8 : Arv Z hp8 b1 k1 (.object own_V) (8 : Int32) [(.ref (ad 0)), .null, .null, .null, .null, .null, .null, .null] .null := Arv.set Ar6 qq6 Sz6 Ng6 Ha6 Ga6 rfl W8 0 rfl (Nat.le_of_ble_eq_true rfl)
  have N8 := Fr.snoc X8 N0 g_b1
  have Kp8 := Keep.wr Kp1 W8 (Or.inr sz_b1)
  have cf10 := (own_sta_keep (own_S_NO_MATCH_RESOURCE W) Kp8 all0)
  obtain ⟨T11, X11, e11, st11⟩ := getS2 X8 hx hZ hown (host := "") (Or.inl (hw _ (List.mem_of_getElem? (i := 6) rfl))) Via.refl e8 cf10 (g := (mkF m 13 #[.val (.int p1), .unset, .unset, .unset, .unset, .unset, .unset, .unset] [(.int (1 : Int32)), (.ref b1), (.ref b1)])) rfl (hb hby at_13)
  have ch12 : ∀ t, Steps p.tables e below (T11.setTop (mkF m 16 #[.val (.int p1), .unset, .unset, .unset, .unset, .unset, .unset, .unset] [(.ref (ad 1)), (.int (1 : Int32)), (.ref b1), (.ref b1)])) t → Steps p.tables e below (s₁.setTop (entryFrame m #[(.int p1)] maxLocals)) t := fun t k => ch9 t (by
      show Steps p.tables e below (T8.setTop (mkF m 11 #[.val (.int p1), .unset, .unset, .unset, .unset, .unset, .unset, .unset] [(.ref b1)])) t
      refine XS.dup X8.here hx rfl (hb hby at_11) rfl rfl ?_
      show Steps p.tables e below (T8.setTop (mkF m 12 #[.val (.int p1), .unset, .unset, .unset, .unset, .unset, .unset, .unset] [(.ref b1), (.ref b1)])) t
      refine XS.iconst X8.here hx rfl (hb hby at_12) ?_
      show Steps p.tables e below (T8.setTop (mkF m 13 #[.val (.int p1), .unset, .unset, .unset, .unset, .unset, .unset, .unset] [(.int (1 : Int32)), (.ref b1), (.ref b1)])) t
      exact st11 t k)
  obtain ⟨cl13, Ar13, qq13, Sz13, Ng13, Ha13, Ga13⟩ := id V8
  have hin13 : ¬ ((1 : Int32) < 0 ∨ cl13.slots.size ≤ ((1 : Int32)).toNatClampNeg) := inb_of Sz13 (by decide)
  have cf14 := (Exa.keep (own_E_NO_MATCH_RESOURCE W) Kp8)
  obtain ⟨T15, hp15, X15, e15, W15, st15⟩ := stR X11 hx hZ e11 Ar13 (j := (1 : Int32)) hin13 rfl (Sto.ofV Ar13 qq13 O1 (Ins.self cf14)) (g := (mkF m 16 #[.val (.int p1), .unset, .unset, .unset, .unset, .unset, .unset, .unset] [(.ref (ad 1)), (.int (1 : Int32)), (.ref b1), (.ref b1)])) rfl rfl (hb hby at_16)
  have ch16 : ∀ t, Steps p.tables e below (T15.setTop (mkF m 17 #[.val (.int p1), .unset, .unset, .unset, .unset, .unset, .unset, .unset] [(.ref b1)])) t → Steps p.tables e below (s₁.setTop (entryFrame m #[(.int p1)] maxLocals)) t := fun t k => ch12 t (by
      show Steps p.tables e below (T11.setTop (mkF m 16 #[.val (.int p1), .unset, .unset, .unset, .unset, .unset, .unset, .unset] [(.ref (ad 1)), (.int (1 : Int32)), (.ref b1), (.ref b1)])) t
      exact st15 t k)
  have V15 : Arv Z hp15 b1 k1 (.object own_V) (8 : Int32) [(.ref (ad 0)), (.ref (ad 1)), .null, .null, .null, .null, .null, .null] .null := Arv.set Ar13 qq13 Sz13 Ng13 Ha13 Ga13 rfl W15 1 rfl (Nat.le_of_ble_eq_true rfl)
  have N15 := Fr.snoc X15 N8 g_b1
  have Kp15 := Keep.wr Kp8 W15 (Or.inr sz_b1)
  have cf17 := (own_sta_keep (own_S_NO_MATCH_ACTION W) Kp15 all0)
  obtain ⟨T18, X18, e18, st18⟩ := getS2 X15 hx hZ hown (host := "") (Or.inl (hw _ (List.mem_of_getElem? (i := 8) rfl))) Via.refl e15 cf17 (g := (mkF m 19 #[.val (.int p1), .unset, .unset, .unset, .unset, .unset, .unset, .unset] [(.int (2 : Int32)), (.ref b1), (.ref b1)])) rfl (hb hby at_19)
  have ch19 : ∀ t, Steps p.tables e below (T18.setTop (mkF m 22 #[.val (.int p1), .unset, .unset, .unset, .unset, .unset, .unset, .unset] [(.ref (ad 2)), (.int (2 : Int32)), (.ref b1), (.ref b1)])) t → Steps p.tables e below (s₁.setTop (entryFrame m #[(.int p1)] maxLocals)) t := fun t k => ch16 t (by
      show Steps p.tables e below (T15.setTop (mkF m 17 #[.val (.int p1), .unset, .unset, .unset, .unset, .unset, .unset, .unset] [(.ref b1)])) t
      refine XS.dup X15.here hx rfl (hb hby at_17) rfl rfl ?_
      show Steps p.tables e below (T15.setTop (mkF m 18 #[.val (.int p1), .unset, .unset, .unset, .unset, .unset, .unset, .unset] [(.ref b1), (.ref b1)])) t
      refine XS.iconst X15.here hx rfl (hb hby at_18) ?_
      show Steps p.tables e below (T15.setTop (mkF m 19 #[.val (.int p1), .unset, .unset, .unset, .unset, .unset, .unset, .unset] [(.int (2 : Int32)), (.ref b1), (.ref b1)])) t
      exact st18 t k)
  obtain ⟨cl20, Ar20, qq20, Sz20, Ng20, Ha20, Ga20⟩ := id V15
  have hin20 : ¬ ((2 : Int32) < 0 ∨ cl20.slots.size ≤ ((2 : Int32)).toNatClampNeg) := inb_of Sz20 (by decide)
  have cf21 := (Exa.keep (own_E_NO_MATCH_ACTION W) Kp15)
  obtain ⟨T22, hp22, X22, e22, W22, st22⟩ := stR X18 hx hZ e18 Ar20 (j := (2 : Int32)) hin20 rfl (Sto.ofV Ar20 qq20 O1 (Ins.self cf21)) (g := (mkF m 22 #[.val (.int p1), .unset, .unset, .unset, .unset, .unset, .unset, .unset] [(.ref (ad 2)), (.int (2 : Int32)), (.ref b1), (.ref b1)])) rfl rfl (hb hby at_22)
  have ch23 : ∀ t, Steps p.tables e below (T22.setTop (mkF m 23 #[.val (.int p1), .unset, .unset, .unset, .unset, .unset, .unset, .unset] [(.ref b1)])) t → Steps p.tables e below (s₁.setTop (entryFrame m #[(.int p1)] maxLocals)) t := fun t k => ch19 t (by
      show Steps p.tables e below (T18.setTop (mkF m 22 #[.val (.int p1), .unset, .unset, .unset, .unset, .unset, .unset, .unset] [(.ref (ad 2)), (.int (2 : Int32)), (.ref b1), (.ref b1)])) t
      exact st22 t k)
  have V22 : Arv Z hp22 b1 k1 (.object own_V) (8 : Int32) [(.ref (ad 0)), (.ref (ad 1)), (.ref (ad 2)), .null, .null, .null, .null, .null] .null := Arv.set Ar20 qq20 Sz20 Ng20 Ha20 Ga20 rfl W22 2 rfl (Nat.le_of_ble_eq_true rfl)
  have N22 := Fr.snoc X22 N15 g_b1
  have Kp22 := Keep.wr Kp15 W22 (Or.inr sz_b1)
  have cf24 := (own_sta_keep (own_S_NO_MATCH_IDENTITY W) Kp22 all0)
  obtain ⟨T25, X25, e25, st25⟩ := getS2 X22 hx hZ hown (host := "") (Or.inl (hw _ (List.mem_of_getElem? (i := 10) rfl))) Via.refl e22 cf24 (g := (mkF m 25 #[.val (.int p1), .unset, .unset, .unset, .unset, .unset, .unset, .unset] [(.int (3 : Int32)), (.ref b1), (.ref b1)])) rfl (hb hby at_25)
  have ch26 : ∀ t, Steps p.tables e below (T25.setTop (mkF m 28 #[.val (.int p1), .unset, .unset, .unset, .unset, .unset, .unset, .unset] [(.ref (ad 3)), (.int (3 : Int32)), (.ref b1), (.ref b1)])) t → Steps p.tables e below (s₁.setTop (entryFrame m #[(.int p1)] maxLocals)) t := fun t k => ch23 t (by
      show Steps p.tables e below (T22.setTop (mkF m 23 #[.val (.int p1), .unset, .unset, .unset, .unset, .unset, .unset, .unset] [(.ref b1)])) t
      refine XS.dup X22.here hx rfl (hb hby at_23) rfl rfl ?_
      show Steps p.tables e below (T22.setTop (mkF m 24 #[.val (.int p1), .unset, .unset, .unset, .unset, .unset, .unset, .unset] [(.ref b1), (.ref b1)])) t
      refine XS.iconst X22.here hx rfl (hb hby at_24) ?_
      show Steps p.tables e below (T22.setTop (mkF m 25 #[.val (.int p1), .unset, .unset, .unset, .unset, .unset, .unset, .unset] [(.int (3 : Int32)), (.ref b1), (.ref b1)])) t
      exact st25 t k)
  obtain ⟨cl27, Ar27, qq27, Sz27, Ng27, Ha27, Ga27⟩ := id V22
  have hin27 : ¬ ((3 : Int32) < 0 ∨ cl27.slots.size ≤ ((3 : Int32)).toNatClampNeg) := inb_of Sz27 (by decide)
  have cf28 := (Exa.keep (own_E_NO_MATCH_IDENTITY W) Kp22)
  obtain ⟨T29, hp29, X29, e29, W29, st29⟩ := stR X25 hx hZ e25 Ar27 (j := (3 : Int32)) hin27 rfl (Sto.ofV Ar27 qq27 O1 (Ins.self cf28)) (g := (mkF m 28 #[.val (.int p1), .unset, .unset, .unset, .unset, .unset, .unset, .unset] [(.ref (ad 3)), (.int (3 : Int32)), (.ref b1), (.ref b1)])) rfl rfl (hb hby at_28)
  have ch30 : ∀ t, Steps p.tables e below (T29.setTop (mkF m 29 #[.val (.int p1), .unset, .unset, .unset, .unset, .unset, .unset, .unset] [(.ref b1)])) t → Steps p.tables e below (s₁.setTop (entryFrame m #[(.int p1)] maxLocals)) t := fun t k => ch26 t (by
      show Steps p.tables e below (T25.setTop (mkF m 28 #[.val (.int p1), .unset, .unset, .unset, .unset, .unset, .unset, .unset] [(.ref (ad 3)), (.int (3 : Int32)), (.ref b1), (.ref b1)])) t
      exact st29 t k)
  have V29 : Arv Z hp29 b1 k1 (.object own_V) (8 : Int32) [(.ref (ad 0)), (.ref (ad 1)), (.ref (ad 2)), (.ref (ad 3)), .null, .null, .null, .null] .null := Arv.set Ar27 qq27 Sz27 Ng27 Ha27 Ga27 rfl W29 3 rfl (Nat.le_of_ble_eq_true rfl)
  have N29 := Fr.snoc X29 N22 g_b1
  have Kp29 := Keep.wr Kp22 W29 (Or.inr sz_b1)
  have cf31 := (own_sta_keep (own_S_NO_MATCH_CALENDAR W) Kp29 all0)
  obtain ⟨T32, X32, e32, st32⟩ := getS2 X29 hx hZ hown (host := "") (Or.inl (hw _ (List.mem_of_getElem? (i := 12) rfl))) Via.refl e29 cf31 (g := (mkF m 31 #[.val (.int p1), .unset, .unset, .unset, .unset, .unset, .unset, .unset] [(.int (4 : Int32)), (.ref b1), (.ref b1)])) rfl (hb hby at_31)
  have ch33 : ∀ t, Steps p.tables e below (T32.setTop (mkF m 34 #[.val (.int p1), .unset, .unset, .unset, .unset, .unset, .unset, .unset] [(.ref (ad 4)), (.int (4 : Int32)), (.ref b1), (.ref b1)])) t → Steps p.tables e below (s₁.setTop (entryFrame m #[(.int p1)] maxLocals)) t := fun t k => ch30 t (by
      show Steps p.tables e below (T29.setTop (mkF m 29 #[.val (.int p1), .unset, .unset, .unset, .unset, .unset, .unset, .unset] [(.ref b1)])) t
      refine XS.dup X29.here hx rfl (hb hby at_29) rfl rfl ?_
      show Steps p.tables e below (T29.setTop (mkF m 30 #[.val (.int p1), .unset, .unset, .unset, .unset, .unset, .unset, .unset] [(.ref b1), (.ref b1)])) t
      refine XS.iconst X29.here hx rfl (hb hby at_30) ?_
      show Steps p.tables e below (T29.setTop (mkF m 31 #[.val (.int p1), .unset, .unset, .unset, .unset, .unset, .unset, .unset] [(.int (4 : Int32)), (.ref b1), (.ref b1)])) t
      exact st32 t k)
  obtain ⟨cl34, Ar34, qq34, Sz34, Ng34, Ha34, Ga34⟩ := id V29
  have hin34 : ¬ ((4 : Int32) < 0 ∨ cl34.slots.size ≤ ((4 : Int32)).toNatClampNeg) := inb_of Sz34 (by decide)
  have cf35 := (Exa.keep (own_E_NO_MATCH_CALENDAR W) Kp29)
  obtain ⟨T36, hp36, X36, e36, W36, st36⟩ := stR X32 hx hZ e32 Ar34 (j := (4 : Int32)) hin34 rfl (Sto.ofV Ar34 qq34 O1 (Ins.self cf35)) (g := (mkF m 34 #[.val (.int p1), .unset, .unset, .unset, .unset, .unset, .unset, .unset] [(.ref (ad 4)), (.int (4 : Int32)), (.ref b1), (.ref b1)])) rfl rfl (hb hby at_34)
  have ch37 : ∀ t, Steps p.tables e below (T36.setTop (mkF m 35 #[.val (.int p1), .unset, .unset, .unset, .unset, .unset, .unset, .unset] [(.ref b1)])) t → Steps p.tables e below (s₁.setTop (entryFrame m #[(.int p1)] maxLocals)) t := fun t k => ch33 t (by
      show Steps p.tables e below (T32.setTop (mkF m 34 #[.val (.int p1), .unset, .unset, .unset, .unset, .unset, .unset, .unset] [(.ref (ad 4)), (.int (4 : Int32)), (.ref b1), (.ref b1)])) t
      exact st36 t k)
  have V36 : Arv Z hp36 b1 k1 (.object own_V) (8 : Int32) [(.ref (ad 0)), (.ref (ad 1)), (.ref (ad 2)), (.ref (ad 3)), (.ref (ad 4)), .null, .null, .null] .null := Arv.set Ar34 qq34 Sz34 Ng34 Ha34 Ga34 rfl W36 4 rfl (Nat.le_of_ble_eq_true rfl)
  have N36 := Fr.snoc X36 N29 g_b1
  have Kp36 := Keep.wr Kp29 W36 (Or.inr sz_b1)
  have cf38 := (own_sta_keep (own_S_MATCHED W) Kp36 all0)
  obtain ⟨T39, X39, e39, st39⟩ := getS2 X36 hx hZ hown (host := "") (Or.inl (hw _ (List.mem_of_getElem? (i := 14) rfl))) Via.refl e36 cf38 (g := (mkF m 37 #[.val (.int p1), .unset, .unset, .unset, .unset, .unset, .unset, .unset] [(.int (5 : Int32)), (.ref b1), (.ref b1)])) rfl (hb hby at_37)
  have ch40 : ∀ t, Steps p.tables e below (T39.setTop (mkF m 40 #[.val (.int p1), .unset, .unset, .unset, .unset, .unset, .unset, .unset] [(.ref (ad 5)), (.int (5 : Int32)), (.ref b1), (.ref b1)])) t → Steps p.tables e below (s₁.setTop (entryFrame m #[(.int p1)] maxLocals)) t := fun t k => ch37 t (by
      show Steps p.tables e below (T36.setTop (mkF m 35 #[.val (.int p1), .unset, .unset, .unset, .unset, .unset, .unset, .unset] [(.ref b1)])) t
      refine XS.dup X36.here hx rfl (hb hby at_35) rfl rfl ?_
      show Steps p.tables e below (T36.setTop (mkF m 36 #[.val (.int p1), .unset, .unset, .unset, .unset, .unset, .unset, .unset] [(.ref b1), (.ref b1)])) t
      refine XS.iconst X36.here hx rfl (hb hby at_36) ?_
      show Steps p.tables e below (T36.setTop (mkF m 37 #[.val (.int p1), .unset, .unset, .unset, .unset, .unset, .unset, .unset] [(.int (5 : Int32)), (.ref b1), (.ref b1)])) t
      exact st39 t k)
  obtain ⟨cl41, Ar41, qq41, Sz41, Ng41, Ha41, Ga41⟩ := id V36
  have hin41 : ¬ ((5 : Int32) < 0 ∨ cl41.slots.size ≤ ((5 : Int32)).toNatClampNeg) := inb_of Sz41 (by decide)
  have cf42 := (Exa.keep (own_E_MATCHED W) Kp36)
  obtain ⟨T43, hp43, X43, e43, W43, st43⟩ := stR X39 hx hZ e39 Ar41 (j := (5 : Int32)) hin41 rfl (Sto.ofV Ar41 qq41 O1 (Ins.self cf42)) (g := (mkF m 40 #[.val (.int p1), .unset, .unset, .unset, .unset, .unset, .unset, .unset] [(.ref (ad 5)), (.int (5 : Int32)), (.ref b1), (.ref b1)])) rfl rfl (hb hby at_40)
  have ch44 : ∀ t, Steps p.tables e below (T43.setTop (mkF m 41 #[.val (.int p1), .unset, .unset, .unset, .unset, .unset, .unset, .unset] [(.ref b1)])) t → Steps p.tables e below (s₁.setTop (entryFrame m #[(.int p1)] maxLocals)) t := fun t k => ch40 t (by
      show Steps p.tables e below (T39.setTop (mkF m 40 #[.val (.int p1), .unset, .unset, .unset, .unset, .unset, .unset, .unset] [(.ref (ad 5)), (.int (5 : Int32)), (.ref b1), (.ref b1)])) t
      exact st43 t k)
  have V43 : Arv Z hp43 b1 k1 (.object own_V) (8 : Int32) [(.ref (ad 0)), (.ref (ad 1)), (.ref (ad 2)), (.ref (ad 3)), (.ref (ad 4)), (.ref (ad 5)), .null, .null] .null := Arv.set Ar41 qq41 Sz41 Ng41 Ha41 Ga41 rfl W43 5 rfl (Nat.le_of_ble_eq_true rfl)
  have N43 := Fr.snoc X43 N36 g_b1
  have Kp43 := Keep.wr Kp36 W43 (Or.inr sz_b1)
  have cf45 := (own_sta_keep (own_S_RETAINED W) Kp43 all0)
  obtain ⟨T46, X46, e46, st46⟩ := getS2 X43 hx hZ hown (host := "") (Or.inl (hw _ (List.mem_of_getElem? (i := 16) rfl))) Via.refl e43 cf45 (g := (mkF m 44 #[.val (.int p1), .unset, .unset, .unset, .unset, .unset, .unset, .unset] [(.int (6 : Int32)), (.ref b1), (.ref b1)])) rfl (hb hby at_44)
  have ch47 : ∀ t, Steps p.tables e below (T46.setTop (mkF m 47 #[.val (.int p1), .unset, .unset, .unset, .unset, .unset, .unset, .unset] [(.ref (ad 6)), (.int (6 : Int32)), (.ref b1), (.ref b1)])) t → Steps p.tables e below (s₁.setTop (entryFrame m #[(.int p1)] maxLocals)) t := fun t k => ch44 t (by
      show Steps p.tables e below (T43.setTop (mkF m 41 #[.val (.int p1), .unset, .unset, .unset, .unset, .unset, .unset, .unset] [(.ref b1)])) t
      refine XS.dup X43.here hx rfl (hb hby at_41) rfl rfl ?_
      show Steps p.tables e below (T43.setTop (mkF m 42 #[.val (.int p1), .unset, .unset, .unset, .unset, .unset, .unset, .unset] [(.ref b1), (.ref b1)])) t
      refine XS.bipush X43.here hx rfl (hb hby at_42) ?_
      show Steps p.tables e below (T43.setTop (mkF m 44 #[.val (.int p1), .unset, .unset, .unset, .unset, .unset, .unset, .unset] [(.int (6 : Int32)), (.ref b1), (.ref b1)])) t
      exact st46 t k)
  obtain ⟨cl48, Ar48, qq48, Sz48, Ng48, Ha48, Ga48⟩ := id V43
  have hin48 : ¬ ((6 : Int32) < 0 ∨ cl48.slots.size ≤ ((6 : Int32)).toNatClampNeg) := inb_of Sz48 (by decide)
  have cf49 := (Exa.keep (own_E_RETAINED W) Kp43)
  obtain ⟨T50, hp50, X50, e50, W50, st50⟩ := stR X46 hx hZ e46 Ar48 (j := (6 : Int32)) hin48 rfl (Sto.ofV Ar48 qq48 O1 (Ins.self cf49)) (g := (mkF m 47 #[.val (.int p1), .unset, .unset, .unset, .unset, .unset, .unset, .unset] [(.ref (ad 6)), (.int (6 : Int32)), (.ref b1), (.ref b1)])) rfl rfl (hb hby at_47)
  have ch51 : ∀ t, Steps p.tables e below (T50.setTop (mkF m 48 #[.val (.int p1), .unset, .unset, .unset, .unset, .unset, .unset, .unset] [(.ref b1)])) t → Steps p.tables e below (s₁.setTop (entryFrame m #[(.int p1)] maxLocals)) t := fun t k => ch47 t (by
      show Steps p.tables e below (T46.setTop (mkF m 47 #[.val (.int p1), .unset, .unset, .unset, .unset, .unset, .unset, .unset] [(.ref (ad 6)), (.int (6 : Int32)), (.ref b1), (.ref b1)])) t
      exact st50 t k)
  have V50 : Arv Z hp50 b1 k1 (.object own_V) (8 : Int32) [(.ref (ad 0)), (.ref (ad 1)), (.ref (ad 2)), (.ref (ad 3)), (.ref (ad 4)), (.ref (ad 5)), (.ref (ad 6)), .null] .null := Arv.set Ar48 qq48 Sz48 Ng48 Ha48 Ga48 rfl W50 6 rfl (Nat.le_of_ble_eq_true rfl)
  have N50 := Fr.snoc X50 N43 g_b1
  have Kp50 := Keep.wr Kp43 W50 (Or.inr sz_b1)
  have cf52 := (own_sta_keep (own_S_DROPPED_BY_BEST_MATCH W) Kp50 all0)
  obtain ⟨T53, X53, e53, st53⟩ := getS2 X50 hx hZ hown (host := "") (Or.inl (hw _ (List.mem_of_getElem? (i := 18) rfl))) Via.refl e50 cf52 (g := (mkF m 51 #[.val (.int p1), .unset, .unset, .unset, .unset, .unset, .unset, .unset] [(.int (7 : Int32)), (.ref b1), (.ref b1)])) rfl (hb hby at_51)
  have ch54 : ∀ t, Steps p.tables e below (T53.setTop (mkF m 54 #[.val (.int p1), .unset, .unset, .unset, .unset, .unset, .unset, .unset] [(.ref (ad 7)), (.int (7 : Int32)), (.ref b1), (.ref b1)])) t → Steps p.tables e below (s₁.setTop (entryFrame m #[(.int p1)] maxLocals)) t := fun t k => ch51 t (by
      show Steps p.tables e below (T50.setTop (mkF m 48 #[.val (.int p1), .unset, .unset, .unset, .unset, .unset, .unset, .unset] [(.ref b1)])) t
      refine XS.dup X50.here hx rfl (hb hby at_48) rfl rfl ?_
      show Steps p.tables e below (T50.setTop (mkF m 49 #[.val (.int p1), .unset, .unset, .unset, .unset, .unset, .unset, .unset] [(.ref b1), (.ref b1)])) t
      refine XS.bipush X50.here hx rfl (hb hby at_49) ?_
      show Steps p.tables e below (T50.setTop (mkF m 51 #[.val (.int p1), .unset, .unset, .unset, .unset, .unset, .unset, .unset] [(.int (7 : Int32)), (.ref b1), (.ref b1)])) t
      exact st53 t k)
  obtain ⟨cl55, Ar55, qq55, Sz55, Ng55, Ha55, Ga55⟩ := id V50
  have hin55 : ¬ ((7 : Int32) < 0 ∨ cl55.slots.size ≤ ((7 : Int32)).toNatClampNeg) := inb_of Sz55 (by decide)
  have cf56 := (Exa.keep (own_E_DROPPED_BY_BEST_MATCH W) Kp50)
  obtain ⟨T57, hp57, X57, e57, W57, st57⟩ := stR X53 hx hZ e53 Ar55 (j := (7 : Int32)) hin55 rfl (Sto.ofV Ar55 qq55 O1 (Ins.self cf56)) (g := (mkF m 54 #[.val (.int p1), .unset, .unset, .unset, .unset, .unset, .unset, .unset] [(.ref (ad 7)), (.int (7 : Int32)), (.ref b1), (.ref b1)])) rfl rfl (hb hby at_54)
  have ch58 : ∀ t, Steps p.tables e below (T57.setTop (mkF m 55 #[.val (.int p1), .unset, .unset, .unset, .unset, .unset, .unset, .unset] [(.ref b1)])) t → Steps p.tables e below (s₁.setTop (entryFrame m #[(.int p1)] maxLocals)) t := fun t k => ch54 t (by
      show Steps p.tables e below (T53.setTop (mkF m 54 #[.val (.int p1), .unset, .unset, .unset, .unset, .unset, .unset, .unset] [(.ref (ad 7)), (.int (7 : Int32)), (.ref b1), (.ref b1)])) t
      exact st57 t k)
  have V57 : Arv Z hp57 b1 k1 (.object own_V) (8 : Int32) [(.ref (ad 0)), (.ref (ad 1)), (.ref (ad 2)), (.ref (ad 3)), (.ref (ad 4)), (.ref (ad 5)), (.ref (ad 6)), (.ref (ad 7))] .null := Arv.set Ar55 qq55 Sz55 Ng55 Ha55 Ga55 rfl W57 7 rfl (Nat.le_of_ble_eq_true rfl)
  have N57 := Fr.snoc X57 N50 g_b1
  have Kp57 := Keep.wr Kp50 W57 (Or.inr sz_b1)
  obtain ⟨cl59, Ar59, -, Sz59, Ng59, Ha59, -⟩ := id V57
  have hin59 : ¬ ((7 : Int32) < 0 ∨ cl59.slots.size ≤ ((7 : Int32)).toNatClampNeg) := inb_of Sz59 (by decide)
  have hat59 : cl59.slots[((7 : Int32)).toNatClampNeg]? = some (.ref (ad 7)) := Ha59.at hin59 rfl
  have cf61 := (Exa.wr W57 cf56)
  obtain ⟨cq60, kq60, qa60, qb60, qc60⟩ := isOf hZ e57 cf61
  obtain ⟨vv62, _, ⟨T62, L62, kk62, nn62⟩, -, X62, ⟨Lc62, hQ62, l62, y62, z62⟩, st62⟩ := X57.virtualBack hx (y := (⟨own_V, "missesEverySubject", "()Z"⟩ : MethodName)) (z := (⟨own_V, "missesEverySubject", "()Z"⟩ : MethodName)) hown (mvT hZ (hw _ (List.mem_of_getElem? (i := 20) rfl))) (mvT hZ (hw _ (List.mem_of_getElem? (i := 21) rfl))) (notFace_of_selects (args := #[]) (mvT hZ (hw _ (List.mem_of_getElem? (i := 23) rfl)))) (mvT hZ (hw _ (List.mem_of_getElem? (i := 23) rfl))) (mvT hZ (hw _ (List.mem_of_getElem? (i := 22) rfl))) (by decide) (backOf (W := 0) (own_miss_7 l Z a0 hw [] hp57 n0 (Nat.le_trans Z0 Kp57.1) ad (own_Wd_ext W (own_ext_of_keep Kp57 all0))) hZ (hw _ (List.mem_of_getElem? (i := 24) rfl)) (hw _ (List.mem_of_getElem? (i := 3) rfl)) (by decide) (by decide)) qa60 qc60 (g := (mkF m 107 #[.val (.int p1), .val (.ref b1), .val (.int (7 : Int32)), .val (.ref (ad 7)), .val (.int (0 : Int32)), .val (.int (0 : Int32)), .val (.int (0 : Int32)), .unset] [(.ref (ad 7))])) rfl (by rw [hml]; rfl) (Steps.refl _) (argsL := []) (rest := []) (lenOf own_pd___Z rfl) rfl (by show 2 * 0 + _ ≤ _; exact Nat.le_of_eq rfl) (hb hby at_107) (fun _ _ => ⟨rfl, e57, (by decide : 1 + 0 ≤ _), (by decide : 8 + 0 ≤ _)⟩)
  dsimp only [Pt.U, Pt.locs, Pt.cells, Pt.slots] at X62 l62 y62 z62 st62 hQ62
  subst l62 y62 z62
  obtain ⟨rfl, Nq62, e62⟩ := hQ62
  have N62 := Fr.app N57 Nq62
  have ch63 : ∀ t, Steps p.tables e below (T62.setTop (mkF m 110 #[.val (.int p1), .val (.ref b1), .val (.int (7 : Int32)), .val (.ref (ad 7)), .val (.int (0 : Int32)), .val (.int (0 : Int32)), .val (.int (0 : Int32)), .unset] [(.int (0 : Int32))])) t → Steps p.tables e below (s₁.setTop (entryFrame m #[(.int p1)] maxLocals)) t := fun t k => ch58 t (by
      show Steps p.tables e below (T57.setTop (mkF m 55 #[.val (.int p1), .unset, .unset, .unset, .unset, .unset, .unset, .unset] [(.ref b1)])) t
      refine XS.astoreN X57.here hx rfl (hb hby at_55) rfl rfl (l' := #[.val (.int p1), .val (.ref b1), .unset, .unset, .unset, .unset, .unset, .unset]) rfl ?_
      show Steps p.tables e below (T57.setTop (mkF m 56 #[.val (.int p1), .val (.ref b1), .unset, .unset, .unset, .unset, .unset, .unset] [])) t
      refine XS.iloadN X57.here hx rfl (hb hby at_56) rfl ?_
      show Steps p.tables e below (T57.setTop (mkF m 57 #[.val (.int p1), .val (.ref b1), .unset, .unset, .unset, .unset, .unset, .unset] [(.int p1)])) t
      refine XS.bipush X57.here hx rfl (hb hby at_57) ?_
      show Steps p.tables e below (T57.setTop (mkF m 59 #[.val (.int p1), .val (.ref b1), .unset, .unset, .unset, .unset, .unset, .unset] [(.int (7 : Int32)), (.int p1)])) t
      refine XS.iand X57.here hx rfl (hb hby at_59) rfl ?_
      rw [hk]
      show Steps p.tables e below (T57.setTop (mkF m 60 #[.val (.int p1), .val (.ref b1), .unset, .unset, .unset, .unset, .unset, .unset] [(.int (7 : Int32))])) t
      refine XS.istoreN X57.here hx rfl (hb hby at_60) rfl (l' := #[.val (.int p1), .val (.ref b1), .val (.int (7 : Int32)), .unset, .unset, .unset, .unset, .unset]) rfl ?_
      show Steps p.tables e below (T57.setTop (mkF m 61 #[.val (.int p1), .val (.ref b1), .val (.int (7 : Int32)), .unset, .unset, .unset, .unset, .unset] [])) t
      refine XS.aloadN X57.here hx rfl (hb hby at_61) rfl rfl ?_
      show Steps p.tables e below (T57.setTop (mkF m 62 #[.val (.int p1), .val (.ref b1), .val (.int (7 : Int32)), .unset, .unset, .unset, .unset, .unset] [(.ref b1)])) t
      refine XS.iloadN X57.here hx rfl (hb hby at_62) rfl ?_
      show Steps p.tables e below (T57.setTop (mkF m 63 #[.val (.int p1), .val (.ref b1), .val (.int (7 : Int32)), .unset, .unset, .unset, .unset, .unset] [(.int (7 : Int32)), (.ref b1)])) t
      refine X57.aaload hx (j := (7 : Int32)) (v := (.ref (ad 7))) (by rw [e57]; exact Ar59.1) (State.isArrayOf_alike hZ.alike Ar59.2.1) rfl Ar59.2.2 hin59 hat59 (g := (mkF m 63 #[.val (.int p1), .val (.ref b1), .val (.int (7 : Int32)), .unset, .unset, .unset, .unset, .unset] [(.int (7 : Int32)), (.ref b1)])) rfl rfl (hb hby at_63) _ ?_
      show Steps p.tables e below (T57.setTop (mkF m 64 #[.val (.int p1), .val (.ref b1), .val (.int (7 : Int32)), .unset, .unset, .unset, .unset, .unset] [(.ref (ad 7))])) t
      refine XS.astoreN X57.here hx rfl (hb hby at_64) rfl rfl (l' := #[.val (.int p1), .val (.ref b1), .val (.int (7 : Int32)), .val (.ref (ad 7)), .unset, .unset, .unset, .unset]) rfl ?_
      show Steps p.tables e below (T57.setTop (mkF m 65 #[.val (.int p1), .val (.ref b1), .val (.int (7 : Int32)), .val (.ref (ad 7)), .unset, .unset, .unset, .unset] [])) t
      refine XS.iloadN X57.here hx rfl (hb hby at_65) rfl ?_
      show Steps p.tables e below (T57.setTop (mkF m 66 #[.val (.int p1), .val (.ref b1), .val (.int (7 : Int32)), .val (.ref (ad 7)), .unset, .unset, .unset, .unset] [(.int (7 : Int32))])) t
      refine XS.iconst X57.here hx rfl (hb hby at_66) ?_
      show Steps p.tables e below (T57.setTop (mkF m 67 #[.val (.int p1), .val (.ref b1), .val (.int (7 : Int32)), .val (.ref (ad 7)), .unset, .unset, .unset, .unset] [(.int (5 : Int32)), (.int (7 : Int32))])) t
      refine XS.icmpYes X57.here hx rfl (pc0 := 67) (pc' := 74) rfl (hb hby at_67) rfl (flt (by decide : ¬ (7 : Int32) < (5 : Int32))).2.1 (by decide) (by decide) ?_
      show Steps p.tables e below (T57.setTop (mkF m 74 #[.val (.int p1), .val (.ref b1), .val (.int (7 : Int32)), .val (.ref (ad 7)), .unset, .unset, .unset, .unset] [])) t
      refine XS.iconst X57.here hx rfl (hb hby at_74) ?_
      show Steps p.tables e below (T57.setTop (mkF m 75 #[.val (.int p1), .val (.ref b1), .val (.int (7 : Int32)), .val (.ref (ad 7)), .unset, .unset, .unset, .unset] [(.int (0 : Int32))])) t
      refine XS.istore X57.here hx rfl (hb hby at_75) rfl (l' := #[.val (.int p1), .val (.ref b1), .val (.int (7 : Int32)), .val (.ref (ad 7)), .val (.int (0 : Int32)), .unset, .unset, .unset]) rfl ?_
      show Steps p.tables e below (T57.setTop (mkF m 77 #[.val (.int p1), .val (.ref b1), .val (.int (7 : Int32)), .val (.ref (ad 7)), .val (.int (0 : Int32)), .unset, .unset, .unset] [])) t
      refine XS.iloadN X57.here hx rfl (hb hby at_77) rfl ?_
      show Steps p.tables e below (T57.setTop (mkF m 78 #[.val (.int p1), .val (.ref b1), .val (.int (7 : Int32)), .val (.ref (ad 7)), .val (.int (0 : Int32)), .unset, .unset, .unset] [(.int (7 : Int32))])) t
      refine XS.iconst X57.here hx rfl (hb hby at_78) ?_
      show Steps p.tables e below (T57.setTop (mkF m 79 #[.val (.int p1), .val (.ref b1), .val (.int (7 : Int32)), .val (.ref (ad 7)), .val (.int (0 : Int32)), .unset, .unset, .unset] [(.int (3 : Int32)), (.int (7 : Int32))])) t
      refine XS.icmpYes X57.here hx rfl (pc0 := 79) (pc' := 86) rfl (hb hby at_79) rfl (feq (by decide : ¬ (7 : Int32) = (3 : Int32))).2 (by decide) (by decide) ?_
      show Steps p.tables e below (T57.setTop (mkF m 86 #[.val (.int p1), .val (.ref b1), .val (.int (7 : Int32)), .val (.ref (ad 7)), .val (.int (0 : Int32)), .unset, .unset, .unset] [])) t
      refine XS.iconst X57.here hx rfl (hb hby at_86) ?_
      show Steps p.tables e below (T57.setTop (mkF m 87 #[.val (.int p1), .val (.ref b1), .val (.int (7 : Int32)), .val (.ref (ad 7)), .val (.int (0 : Int32)), .unset, .unset, .unset] [(.int (0 : Int32))])) t
      refine XS.istore X57.here hx rfl (hb hby at_87) rfl (l' := #[.val (.int p1), .val (.ref b1), .val (.int (7 : Int32)), .val (.ref (ad 7)), .val (.int (0 : Int32)), .val (.int (0 : Int32)), .unset, .unset]) rfl ?_
      show Steps p.tables e below (T57.setTop (mkF m 89 #[.val (.int p1), .val (.ref b1), .val (.int (7 : Int32)), .val (.ref (ad 7)), .val (.int (0 : Int32)), .val (.int (0 : Int32)), .unset, .unset] [])) t
      refine XS.iload X57.here hx rfl (hb hby at_89) rfl ?_
      show Steps p.tables e below (T57.setTop (mkF m 91 #[.val (.int p1), .val (.ref b1), .val (.int (7 : Int32)), .val (.ref (ad 7)), .val (.int (0 : Int32)), .val (.int (0 : Int32)), .unset, .unset] [(.int (0 : Int32))])) t
      refine XS.ifYes X57.here hx rfl (pc0 := 91) (pc' := 103) rfl (hb hby at_91) rfl ((if0 _ _).trans (teq (by decide : (0 : Int32) = (0 : Int32))).1) (by decide) (by decide) ?_
      show Steps p.tables e below (T57.setTop (mkF m 103 #[.val (.int p1), .val (.ref b1), .val (.int (7 : Int32)), .val (.ref (ad 7)), .val (.int (0 : Int32)), .val (.int (0 : Int32)), .unset, .unset] [])) t
      refine XS.iconst X57.here hx rfl (hb hby at_103) ?_
      show Steps p.tables e below (T57.setTop (mkF m 104 #[.val (.int p1), .val (.ref b1), .val (.int (7 : Int32)), .val (.ref (ad 7)), .val (.int (0 : Int32)), .val (.int (0 : Int32)), .unset, .unset] [(.int (0 : Int32))])) t
      refine XS.istore X57.here hx rfl (hb hby at_104) rfl (l' := #[.val (.int p1), .val (.ref b1), .val (.int (7 : Int32)), .val (.ref (ad 7)), .val (.int (0 : Int32)), .val (.int (0 : Int32)), .val (.int (0 : Int32)), .unset]) rfl ?_
      show Steps p.tables e below (T57.setTop (mkF m 106 #[.val (.int p1), .val (.ref b1), .val (.int (7 : Int32)), .val (.ref (ad 7)), .val (.int (0 : Int32)), .val (.int (0 : Int32)), .val (.int (0 : Int32)), .unset] [])) t
      refine XS.aloadN X57.here hx rfl (hb hby at_106) rfl rfl ?_
      show Steps p.tables e below (T57.setTop (mkF m 107 #[.val (.int p1), .val (.ref b1), .val (.int (7 : Int32)), .val (.ref (ad 7)), .val (.int (0 : Int32)), .val (.int (0 : Int32)), .val (.int (0 : Int32)), .unset] [(.ref (ad 7))])) t
      exact st62.trans k)
  have ch64 : ∀ t, Steps p.tables e below (T62.setTop (mkF m 138 #[.val (.int p1), .val (.ref b1), .val (.int (7 : Int32)), .val (.ref (ad 7)), .val (.int (0 : Int32)), .val (.int (0 : Int32)), .val (.int (0 : Int32)), .val (.int (0 : Int32))] [(.int (1 : Int32))])) t → Steps p.tables e below (s₁.setTop (entryFrame m #[(.int p1)] maxLocals)) t := fun t k => ch63 t (by
      show Steps p.tables e below (T62.setTop (mkF m 110 #[.val (.int p1), .val (.ref b1), .val (.int (7 : Int32)), .val (.ref (ad 7)), .val (.int (0 : Int32)), .val (.int (0 : Int32)), .val (.int (0 : Int32)), .unset] [(.int (0 : Int32))])) t
      refine XS.istore X62.here hx rfl (hb hby at_110) rfl (l' := #[.val (.int p1), .val (.ref b1), .val (.int (7 : Int32)), .val (.ref (ad 7)), .val (.int (0 : Int32)), .val (.int (0 : Int32)), .val (.int (0 : Int32)), .val (.int (0 : Int32))]) rfl ?_
      show Steps p.tables e below (T62.setTop (mkF m 112 #[.val (.int p1), .val (.ref b1), .val (.int (7 : Int32)), .val (.ref (ad 7)), .val (.int (0 : Int32)), .val (.int (0 : Int32)), .val (.int (0 : Int32)), .val (.int (0 : Int32))] [])) t
      refine XS.iload X62.here hx rfl (hb hby at_112) rfl ?_
      show Steps p.tables e below (T62.setTop (mkF m 114 #[.val (.int p1), .val (.ref b1), .val (.int (7 : Int32)), .val (.ref (ad 7)), .val (.int (0 : Int32)), .val (.int (0 : Int32)), .val (.int (0 : Int32)), .val (.int (0 : Int32))] [(.int (0 : Int32))])) t
      refine XS.iload X62.here hx rfl (hb hby at_114) rfl ?_
      show Steps p.tables e below (T62.setTop (mkF m 116 #[.val (.int p1), .val (.ref b1), .val (.int (7 : Int32)), .val (.ref (ad 7)), .val (.int (0 : Int32)), .val (.int (0 : Int32)), .val (.int (0 : Int32)), .val (.int (0 : Int32))] [(.int (0 : Int32)), (.int (0 : Int32))])) t
      refine XS.icmpYes X62.here hx rfl (pc0 := 116) (pc' := 121) rfl (hb hby at_116) rfl (teq (by decide : (0 : Int32) = (0 : Int32))).1 (by decide) (by decide) ?_
      show Steps p.tables e below (T62.setTop (mkF m 121 #[.val (.int p1), .val (.ref b1), .val (.int (7 : Int32)), .val (.ref (ad 7)), .val (.int (0 : Int32)), .val (.int (0 : Int32)), .val (.int (0 : Int32)), .val (.int (0 : Int32))] [])) t
      refine XS.iload X62.here hx rfl (hb hby at_121) rfl ?_
      show Steps p.tables e below (T62.setTop (mkF m 123 #[.val (.int p1), .val (.ref b1), .val (.int (7 : Int32)), .val (.ref (ad 7)), .val (.int (0 : Int32)), .val (.int (0 : Int32)), .val (.int (0 : Int32)), .val (.int (0 : Int32))] [(.int (0 : Int32))])) t
      refine XS.ifYes X62.here hx rfl (pc0 := 123) (pc' := 133) rfl (hb hby at_123) rfl ((if0 _ _).trans (teq (by decide : (0 : Int32) = (0 : Int32))).1) (by decide) (by decide) ?_
      show Steps p.tables e below (T62.setTop (mkF m 133 #[.val (.int p1), .val (.ref b1), .val (.int (7 : Int32)), .val (.ref (ad 7)), .val (.int (0 : Int32)), .val (.int (0 : Int32)), .val (.int (0 : Int32)), .val (.int (0 : Int32))] [])) t
      refine XS.iconst X62.here hx rfl (hb hby at_133) ?_
      show Steps p.tables e below (T62.setTop (mkF m 134 #[.val (.int p1), .val (.ref b1), .val (.int (7 : Int32)), .val (.ref (ad 7)), .val (.int (0 : Int32)), .val (.int (0 : Int32)), .val (.int (0 : Int32)), .val (.int (0 : Int32))] [(.int (1 : Int32))])) t
      refine XS.goto X62.here hx rfl (pc0 := 134) (pc' := 138) rfl (hb hby at_134) (by decide) (by decide) ?_
      exact k)
  obtain ⟨fs, hr, hrun, hended, hW, hsame⟩ := X62.leave (v := some (.int (1 : Int32))) (fun h => by rw [Bd.returns] at h; cases h)
  refine ⟨_, _, ch64 _ ?_, hrun, hended, _, _, rfl, ?_, ⟨_, rfl⟩, hW, hsame.mono (by decide) (by decide)⟩
  · show Steps p.tables e below (T62.setTop (mkF m 138 #[.val (.int p1), .val (.ref b1), .val (.int (7 : Int32)), .val (.ref (ad 7)), .val (.int (0 : Int32)), .val (.int (0 : Int32)), .val (.int (0 : Int32)), .val (.int (0 : Int32))] [(.int (1 : Int32))])) _
    exact retN X62 hx (t := .boolean) Bd.returns (by simp) (hb hby at_138) hr
  · show QN (some (.int (1 : Int32))) n0 _ T62.heap _
    rw [e62]
    exact ⟨rfl, N62⟩
set_option maxRecDepth 65536 in
set_option maxHeartbeats 40000000 in
theorem comes_1 {Post : Tables → Env → Array Value → State → Outcome → State → Prop} (hpost : ∀ tb e args s v u, (limb_1_1.after args s (.returned v) u = true ∧ limb_1_2.after args s (.returned v) u = true ∧ True) → FrameEnd s (.returned v) u (Jvm.fieldLocs frame_1_writes args s ++ Jvm.arrayLocs frame_1_arrays args s ++ Jvm.staticLocs frame_1_statics s) 16 128 → Post tb e args s (.returned v) u) :
    ArmFor flags0 classFile x code maxLocals ret World_1 tables_1 room_1 Calls_1 rest_1 Pre_1 Post := by
  intro l hfl _ _ p e ha hc hk s m args below hf hA hF happ hP
  obtain ⟨hcalls, hrest, hpre⟩ := hP
  obtain ⟨-, -, -, hnamed, -, -, -, hat⟩ := (Spec.applies_iff hf).mp happ
  obtain ⟨hg, hn⟩ := and_e (Cond.before_iff.mp (show (Jvm.Cond.and given_1 narrow_1).before args s = true from hpre))
  obtain ⟨gc, hg⟩ := and_e hg
  obtain ⟨w0, rfl⟩ : ∃ w0 : Value, args = #[w0] := by
    have hs : args.size = 1 := by simpa [Cond.value, given_1] using gc
    obtain ⟨L⟩ := args
    match L, hs with
    | [w0], _ => exact ⟨w0, rfl⟩
  have hw := fun d (hd : d ∈ tables_1) => atoms_spec (ws := Jvm.Cond.code x code maxLocals ret :: tables_1) hat d (List.mem_cons_of_mem _ hd)
  have hfit : Fit s := fun {y c} hc i hi => by
    obtain ⟨ha, rfl⟩ := Array.getElem?_eq_some_iff.mp hc
    have q := List.all_eq_true.mp ((Array.all_eq_true_iff_forall_mem.mp hF) _ (Array.getElem_mem ha)) i (List.mem_range.mpr hi)
    simpa [Array.getElem?_eq_getElem hi] using q
  obtain ⟨i0, ei0⟩ := is_v hg
  obtain rfl : w0 = (.int i0) := Option.some.inj ei0
  obtain ⟨hn0, hn⟩ := and_e hn
  obtain ⟨hn1, hn⟩ := and_e hn
  obtain ⟨hn2, hn⟩ := and_e hn
  obtain ⟨hn3, hn⟩ := and_e hn
  obtain ⟨hn4, hn⟩ := and_e hn
  obtain ⟨hn5, hn⟩ := and_e hn
  obtain ⟨hn6, hn⟩ := and_e hn
  obtain ⟨hn7, hn⟩ := and_e hn
  obtain ⟨hn8, hn⟩ := and_e hn
  obtain ⟨hn9, hn⟩ := and_e hn
  obtain ⟨hn10, hn⟩ := and_e hn
  obtain ⟨hn11, hn⟩ := and_e hn
  obtain ⟨hn12, hn⟩ := and_e hn
  obtain ⟨hn13, hn⟩ := and_e hn
  obtain ⟨hn14, hn⟩ := and_e hn
  have hn15 := hn
  obtain ⟨a_DISABLED, ev_DISABLED⟩ := exa_v hn0
  have S_DISABLED : Sta s s.heap own_V "DISABLED" own_D (.ref a_DISABLED) := Sta.start ev_DISABLED (Or.inr ⟨(hw _ (List.mem_of_getElem? (i := 3) rfl)), (hw _ (List.mem_of_getElem? (i := 4) rfl))⟩)
  have E_DISABLED : Exa s s.heap a_DISABLED own_V := Exa.start ev_DISABLED hn0
  obtain ⟨a_NO_MATCH_RESOURCE, ev_NO_MATCH_RESOURCE⟩ := exa_v hn1
  have S_NO_MATCH_RESOURCE : Sta s s.heap own_V "NO_MATCH_RESOURCE" own_D (.ref a_NO_MATCH_RESOURCE) := Sta.start ev_NO_MATCH_RESOURCE (Or.inr ⟨(hw _ (List.mem_of_getElem? (i := 3) rfl)), (hw _ (List.mem_of_getElem? (i := 7) rfl))⟩)
  have E_NO_MATCH_RESOURCE : Exa s s.heap a_NO_MATCH_RESOURCE own_V := Exa.start ev_NO_MATCH_RESOURCE hn1
  obtain ⟨a_NO_MATCH_ACTION, ev_NO_MATCH_ACTION⟩ := exa_v hn2
  have S_NO_MATCH_ACTION : Sta s s.heap own_V "NO_MATCH_ACTION" own_D (.ref a_NO_MATCH_ACTION) := Sta.start ev_NO_MATCH_ACTION (Or.inr ⟨(hw _ (List.mem_of_getElem? (i := 3) rfl)), (hw _ (List.mem_of_getElem? (i := 9) rfl))⟩)
  have E_NO_MATCH_ACTION : Exa s s.heap a_NO_MATCH_ACTION own_V := Exa.start ev_NO_MATCH_ACTION hn2
  obtain ⟨a_NO_MATCH_IDENTITY, ev_NO_MATCH_IDENTITY⟩ := exa_v hn3
  have S_NO_MATCH_IDENTITY : Sta s s.heap own_V "NO_MATCH_IDENTITY" own_D (.ref a_NO_MATCH_IDENTITY) := Sta.start ev_NO_MATCH_IDENTITY (Or.inr ⟨(hw _ (List.mem_of_getElem? (i := 3) rfl)), (hw _ (List.mem_of_getElem? (i := 11) rfl))⟩)
  have E_NO_MATCH_IDENTITY : Exa s s.heap a_NO_MATCH_IDENTITY own_V := Exa.start ev_NO_MATCH_IDENTITY hn3
  obtain ⟨a_NO_MATCH_CALENDAR, ev_NO_MATCH_CALENDAR⟩ := exa_v hn4
  have S_NO_MATCH_CALENDAR : Sta s s.heap own_V "NO_MATCH_CALENDAR" own_D (.ref a_NO_MATCH_CALENDAR) := Sta.start ev_NO_MATCH_CALENDAR (Or.inr ⟨(hw _ (List.mem_of_getElem? (i := 3) rfl)), (hw _ (List.mem_of_getElem? (i := 13) rfl))⟩)
  have E_NO_MATCH_CALENDAR : Exa s s.heap a_NO_MATCH_CALENDAR own_V := Exa.start ev_NO_MATCH_CALENDAR hn4
  obtain ⟨a_MATCHED, ev_MATCHED⟩ := exa_v hn5
  have S_MATCHED : Sta s s.heap own_V "MATCHED" own_D (.ref a_MATCHED) := Sta.start ev_MATCHED (Or.inr ⟨(hw _ (List.mem_of_getElem? (i := 3) rfl)), (hw _ (List.mem_of_getElem? (i := 15) rfl))⟩)
  have E_MATCHED : Exa s s.heap a_MATCHED own_V := Exa.start ev_MATCHED hn5
  obtain ⟨a_RETAINED, ev_RETAINED⟩ := exa_v hn6
  have S_RETAINED : Sta s s.heap own_V "RETAINED" own_D (.ref a_RETAINED) := Sta.start ev_RETAINED (Or.inr ⟨(hw _ (List.mem_of_getElem? (i := 3) rfl)), (hw _ (List.mem_of_getElem? (i := 17) rfl))⟩)
  have E_RETAINED : Exa s s.heap a_RETAINED own_V := Exa.start ev_RETAINED hn6
  obtain ⟨a_DROPPED_BY_BEST_MATCH, ev_DROPPED_BY_BEST_MATCH⟩ := exa_v hn7
  have S_DROPPED_BY_BEST_MATCH : Sta s s.heap own_V "DROPPED_BY_BEST_MATCH" own_D (.ref a_DROPPED_BY_BEST_MATCH) := Sta.start ev_DROPPED_BY_BEST_MATCH (Or.inr ⟨(hw _ (List.mem_of_getElem? (i := 3) rfl)), (hw _ (List.mem_of_getElem? (i := 19) rfl))⟩)
  have E_DROPPED_BY_BEST_MATCH : Exa s s.heap a_DROPPED_BY_BEST_MATCH own_V := Exa.start ev_DROPPED_BY_BEST_MATCH hn7
  have F_DISABLED_ordinal : Fld s s.heap a_DISABLED "java/lang/Enum" "ordinal" "I" (.int (0 : Int32)) := Fld.start ((fld_at ev_DISABLED).symm.trans (own_eqI hn8))
  have F_MATCHED_ordinal : Fld s s.heap a_MATCHED "java/lang/Enum" "ordinal" "I" (.int (5 : Int32)) := Fld.start ((fld_at ev_MATCHED).symm.trans (own_eqI hn9))
  have F_RETAINED_ordinal : Fld s s.heap a_RETAINED "java/lang/Enum" "ordinal" "I" (.int (6 : Int32)) := Fld.start ((fld_at ev_RETAINED).symm.trans (own_eqI hn10))
  have F_NO_MATCH_IDENTITY_ordinal : Fld s s.heap a_NO_MATCH_IDENTITY "java/lang/Enum" "ordinal" "I" (.int (3 : Int32)) := Fld.start ((fld_at ev_NO_MATCH_IDENTITY).symm.trans (own_eqI hn11))
  have F_NO_MATCH_RESOURCE_ordinal : Fld s s.heap a_NO_MATCH_RESOURCE "java/lang/Enum" "ordinal" "I" (.int (1 : Int32)) := Fld.start ((fld_at ev_NO_MATCH_RESOURCE).symm.trans (own_eqI hn12))
  have F_NO_MATCH_ACTION_ordinal : Fld s s.heap a_NO_MATCH_ACTION "java/lang/Enum" "ordinal" "I" (.int (2 : Int32)) := Fld.start ((fld_at ev_NO_MATCH_ACTION).symm.trans (own_eqI hn13))
  have F_NO_MATCH_CALENDAR_ordinal : Fld s s.heap a_NO_MATCH_CALENDAR "java/lang/Enum" "ordinal" "I" (.int (4 : Int32)) := Fld.start ((fld_at ev_NO_MATCH_CALENDAR).symm.trans (own_eqI hn14))
  have F_DROPPED_BY_BEST_MATCH_ordinal : Fld s s.heap a_DROPPED_BY_BEST_MATCH "java/lang/Enum" "ordinal" "I" (.int (7 : Int32)) := Fld.start ((fld_at ev_DROPPED_BY_BEST_MATCH).symm.trans (own_eqI hn15))
  have W : OwnWd s s.heap (fun i => [a_DISABLED, a_NO_MATCH_RESOURCE, a_NO_MATCH_ACTION, a_NO_MATCH_IDENTITY, a_NO_MATCH_CALENDAR, a_MATCHED, a_RETAINED, a_DROPPED_BY_BEST_MATCH].getD i 0) := ⟨S_DISABLED, E_DISABLED, F_DISABLED_ordinal, S_NO_MATCH_RESOURCE, E_NO_MATCH_RESOURCE, F_NO_MATCH_RESOURCE_ordinal, S_NO_MATCH_ACTION, E_NO_MATCH_ACTION, F_NO_MATCH_ACTION_ordinal, S_NO_MATCH_IDENTITY, E_NO_MATCH_IDENTITY, F_NO_MATCH_IDENTITY_ordinal, S_NO_MATCH_CALENDAR, E_NO_MATCH_CALENDAR, F_NO_MATCH_CALENDAR_ordinal, S_MATCHED, E_MATCHED, F_MATCHED_ordinal, S_RETAINED, E_RETAINED, F_RETAINED_ordinal, S_DROPPED_BY_BEST_MATCH, E_DROPPED_BY_BEST_MATCH, F_DROPPED_BY_BEST_MATCH_ordinal⟩
  have hm_i0 := c_mask i0 (7 : Int32) 3 (by decide) (by decide)
  have hc8 : (i0 &&& (7 : Int32)).toInt = 0 ∨ (i0 &&& (7 : Int32)).toInt = 1 ∨ (i0 &&& (7 : Int32)).toInt = 2 ∨ (i0 &&& (7 : Int32)).toInt = 3 ∨ (i0 &&& (7 : Int32)).toInt = 4 ∨ (i0 &&& (7 : Int32)).toInt = 5 ∨ (i0 &&& (7 : Int32)).toInt = 6 ∨ (i0 &&& (7 : Int32)).toInt = 7 := by omega
  have H : MetFree l x (head1 (Jvm.Cond.code x code maxLocals ret :: tables_1) room_1) (fun a U => a = #[(.int i0)] ∧ s.Warmed39 U.vm ∧ U.heap = s.heap) (fun _ _ _ _ _ => True) (fun _ U o U' => ∃ v L, o = .returned v ∧ QN (some (.int (1 : Int32))) s.heap.size v U'.heap L ∧ FrameEnd U o U' L room_1.cells room_1.slots) := by
    rcases hc8 with hk | hk | hk | hk | hk | hk | hk | hk
    · exact own_law_0 l s _ hw tables_1 s.heap s.heap.size (Nat.le_refl _)  i0 (Int32.toInt_inj.mp (hk.trans (by decide))) (fun i => [a_DISABLED, a_NO_MATCH_RESOURCE, a_NO_MATCH_ACTION, a_NO_MATCH_IDENTITY, a_NO_MATCH_CALENDAR, a_MATCHED, a_RETAINED, a_DROPPED_BY_BEST_MATCH].getD i 0) W
    · exact own_law_1 l s _ hw tables_1 s.heap s.heap.size (Nat.le_refl _)  i0 (Int32.toInt_inj.mp (hk.trans (by decide))) (fun i => [a_DISABLED, a_NO_MATCH_RESOURCE, a_NO_MATCH_ACTION, a_NO_MATCH_IDENTITY, a_NO_MATCH_CALENDAR, a_MATCHED, a_RETAINED, a_DROPPED_BY_BEST_MATCH].getD i 0) W
    · exact own_law_2 l s _ hw tables_1 s.heap s.heap.size (Nat.le_refl _)  i0 (Int32.toInt_inj.mp (hk.trans (by decide))) (fun i => [a_DISABLED, a_NO_MATCH_RESOURCE, a_NO_MATCH_ACTION, a_NO_MATCH_IDENTITY, a_NO_MATCH_CALENDAR, a_MATCHED, a_RETAINED, a_DROPPED_BY_BEST_MATCH].getD i 0) W
    · exact own_law_3 l s _ hw tables_1 s.heap s.heap.size (Nat.le_refl _)  i0 (Int32.toInt_inj.mp (hk.trans (by decide))) (fun i => [a_DISABLED, a_NO_MATCH_RESOURCE, a_NO_MATCH_ACTION, a_NO_MATCH_IDENTITY, a_NO_MATCH_CALENDAR, a_MATCHED, a_RETAINED, a_DROPPED_BY_BEST_MATCH].getD i 0) W
    · exact own_law_4 l s _ hw tables_1 s.heap s.heap.size (Nat.le_refl _)  i0 (Int32.toInt_inj.mp (hk.trans (by decide))) (fun i => [a_DISABLED, a_NO_MATCH_RESOURCE, a_NO_MATCH_ACTION, a_NO_MATCH_IDENTITY, a_NO_MATCH_CALENDAR, a_MATCHED, a_RETAINED, a_DROPPED_BY_BEST_MATCH].getD i 0) W
    · exact own_law_5 l s _ hw tables_1 s.heap s.heap.size (Nat.le_refl _)  i0 (Int32.toInt_inj.mp (hk.trans (by decide))) (fun i => [a_DISABLED, a_NO_MATCH_RESOURCE, a_NO_MATCH_ACTION, a_NO_MATCH_IDENTITY, a_NO_MATCH_CALENDAR, a_MATCHED, a_RETAINED, a_DROPPED_BY_BEST_MATCH].getD i 0) W
    · exact own_law_6 l s _ hw tables_1 s.heap s.heap.size (Nat.le_refl _)  i0 (Int32.toInt_inj.mp (hk.trans (by decide))) (fun i => [a_DISABLED, a_NO_MATCH_RESOURCE, a_NO_MATCH_ACTION, a_NO_MATCH_IDENTITY, a_NO_MATCH_CALENDAR, a_MATCHED, a_RETAINED, a_DROPPED_BY_BEST_MATCH].getD i 0) W
    · exact own_law_7 l s _ hw tables_1 s.heap s.heap.size (Nat.le_refl _)  i0 (Int32.toInt_inj.mp (hk.trans (by decide))) (fun i => [a_DISABLED, a_NO_MATCH_RESOURCE, a_NO_MATCH_ACTION, a_NO_MATCH_IDENTITY, a_NO_MATCH_CALENDAR, a_MATCHED, a_RETAINED, a_DROPPED_BY_BEST_MATCH].getD i 0) W
  obtain ⟨n, o, h1, h2, h3, _, L, rfl, ⟨rfl, N⟩, hq⟩ := H p e ha hc hk s m _ below hf ((Spec.applies_iff_loose hf).mp happ).1 ⟨rfl, State.Warmed39.refl s, rfl⟩ trivial
  refine ⟨n, _, h1, h2, h3, hpost _ _ _ _ _ _ ⟨Cond.after_iff.mpr rfl, Cond.after_iff.mpr (eq_i res_at (Term.int_eval (1)) rfl), trivial⟩ ⟨hq.1, hq.2.1, (hq.2.2.sift fun y hy => Or.inr (N y hy)).mono (by decide) (by decide)⟩⟩
theorem main_1_1 : Claimed_1_1 := comes_1 fun _ _ _ _ _ _ h hF => ⟨h.1, hF⟩
theorem main_1_2 : Claimed_1_2 := comes_1 fun _ _ _ _ _ _ h hF => ⟨h.2.1, hF⟩
end Jvm.Pilot.@@N@@
namespace Jvm.Pilot.@@N@@
open Jvm Jvm.ClassFile Sem Op Lib Jvm.Free Jvm.Stand Jvm.Pilot.@@N@@.Jvm.D
/-! MADE BY PROGRAM (witnessworld.py) out of the Statement's table words and the real class files: 13 classes; the members and pool entries that the words name. The judged class is class 1, her method 1. -/
namespace start1
open Jvm.ClassFile
def u (s : String) : CpInfo := .utf8 (stringToUtf16 s)
/-- a pool by its gaps: so many unusable entries, then the entry; so many at the end -/
def gap : Nat → List CpInfo → List CpInfo
  | 0, r => r
  | n + 1, r => .unusable :: gap n r
def poolList (es : List (Nat × CpInfo)) (last : Nat) : List CpInfo := es.foldr (fun e r => gap e.1 (e.2 :: r)) (gap last [])
def pool (es : List (Nat × CpInfo)) (last : Nat) : Array CpInfo := ⟨poolList es last⟩
def fileOf (pool : Array CpInfo) (this : Nat) (attrs : Array Attribute := #[]) (ms : Array MethodInfo := #[]) (fl : Nat := 33) (sup : Nat := 0) (ifs : Array Nat := #[]) (fds : Array FieldInfo := #[]) : ClassFile where
  minorVersion := 0
  majorVersion := 65
  constantPool := pool
  accessFlags := fl
  thisClass := this
  superClass := sup
  interfaces := ifs
  fields := fds
  methods := ms
  attributes := attrs
def plain (name : String) (sup : Option ClassId) : Class where
  name := name
  kind := .ordinary
  loader := none
  accessFlags := 33
  super := sup
  interfaces := #[]
  cf := none
  fields := #[]
  methods := #[]
  instanceTypes := #[]
  staticTypes := #[]
  resolved := #[]
  callSites := []
  init := .initialized
  statics := none
  mirror := none

def pool0 : Array CpInfo := pool [(5, u "<init>"), (0, u "()V"), (1, .class_ 10), (1, u "java/lang/Object")] 113

def k0m0 : Method := { name := "<init>", desc := "()V", sig := { parameters := [], returnType := none }, accessFlags := 1, code := none }
/-- java/lang/Object -/
def k0 : Class := { plain "java/lang/Object" none with
  accessFlags := 33
  interfaces := #[]
  cf := some (fileOf pool0 8 #[] #[{ accessFlags := 1, nameIndex := 5, descriptorIndex := 6, attributes := #[] }] 33 0 #[] #[])
  fields := #[]
  methods := #[k0m0]
  instanceTypes := #[]
  staticTypes := #[]
  resolved := Array.replicate 124 none
  statics := none }

def pool1 : Array CpInfo := pool [(2, .class_ 4), (1, u "java/lang/Object"), (0, u "<init>"), (0, u "()V"), (0, .class_ 8), (0, u own_V), (0, .fieldref 7 10), (0, .nameAndType 11 12), (0, u "DISABLED"), (0, u own_D), (0, .fieldref 7 14), (0, .nameAndType 15 12), (0, u "NO_MATCH_RESOURCE"), (0, .fieldref 7 17), (0, .nameAndType 18 12), (0, u "NO_MATCH_ACTION"), (0, .fieldref 7 20), (0, .nameAndType 21 12), (0, u "NO_MATCH_IDENTITY"), (0, .fieldref 7 23), (0, .nameAndType 24 12), (0, u "NO_MATCH_CALENDAR"), (0, .fieldref 7 26), (0, .nameAndType 27 12), (0, u "MATCHED"), (0, .fieldref 7 29), (0, .nameAndType 30 12), (0, u "RETAINED"), (0, .fieldref 7 32), (0, .nameAndType 33 12), (0, u "DROPPED_BY_BEST_MATCH"), (0, .methodref 7 35), (0, .nameAndType 36 37), (0, u "missesEverySubject"), (0, u "()Z"), (0, .methodref 7 39), (0, .nameAndType 40 37), (0, u "applies"), (0, .class_ 42), (0, u own_L), (2, u "law"), (0, u "(I)Z")] 5

def k1m0 : Method := { name := "<init>", desc := "()V", sig := { parameters := [], returnType := none }, accessFlags := 1, code := none }
def k1c1 : Code := { maxStack := 4, maxLocals := 8, code := code, exceptionTable := #[], attributes := #[] }
def k1m1 : Method := { name := "law", desc := "(I)Z", sig := { parameters := [.int], returnType := some .boolean }, accessFlags := 9, code := some k1c1 }
/-- VerdictMissesEverySubjectPinLaw -/
def k1 : Class := { plain own_L (some 0) with
  accessFlags := 49
  interfaces := #[]
  cf := some (fileOf pool1 41 #[] #[{ accessFlags := 1, nameIndex := 5, descriptorIndex := 6, attributes := #[] }, { accessFlags := 9, nameIndex := 45, descriptorIndex := 46, attributes := #[] }] 49 2 #[] #[])
  fields := #[]
  methods := #[k1m0, k1m1]
  instanceTypes := #[]
  staticTypes := #[]
  resolved := Array.replicate 52 none
  statics := none }

def pool2 : Array CpInfo := pool [(1, .class_ 2), (0, u "java/lang/constant/Constable"), (0, .class_ 4), (0, u "java/lang/Object")] 6

/-- java/lang/constant/Constable -/
def k2 : Class := { plain "java/lang/constant/Constable" (some 0) with
  accessFlags := 1537
  interfaces := #[]
  cf := some (fileOf pool2 1 #[] #[] 1537 3 #[] #[])
  fields := #[]
  methods := #[]
  instanceTypes := #[]
  staticTypes := #[]
  resolved := Array.replicate 11 none
  statics := none }

def pool3 : Array CpInfo := pool [(1, .class_ 2), (0, u "java/lang/Comparable"), (0, .class_ 4), (0, u "java/lang/Object")] 7

/-- java/lang/Comparable -/
def k3 : Class := { plain "java/lang/Comparable" (some 0) with
  accessFlags := 1537
  interfaces := #[]
  cf := some (fileOf pool3 1 #[] #[] 1537 3 #[] #[])
  fields := #[]
  methods := #[]
  instanceTypes := #[]
  staticTypes := #[]
  resolved := Array.replicate 12 none
  statics := none }

def pool4 : Array CpInfo := pool [(1, .class_ 2), (0, u "java/io/Serializable"), (0, .class_ 4), (0, u "java/lang/Object")] 2

/-- java/io/Serializable -/
def k4 : Class := { plain "java/io/Serializable" (some 0) with
  accessFlags := 1537
  interfaces := #[]
  cf := some (fileOf pool4 1 #[] #[] 1537 3 #[] #[])
  fields := #[]
  methods := #[]
  instanceTypes := #[]
  staticTypes := #[]
  resolved := Array.replicate 7 none
  statics := none }

def pool5 : Array CpInfo := pool [(2, .class_ 4), (1, u "java/lang/Enum"), (0, u "name"), (0, u "Ljava/lang/String;"), (2, u "ordinal"), (0, u "I"), (1, .class_ 14), (1, u "java/lang/Object"), (4, u "hash"), (86, .class_ 108), (1, u "java/lang/Enum$EnumDesc"), (2, .class_ 112), (0, u "java/lang/constant/Constable"), (0, .class_ 114), (0, u "java/lang/Comparable"), (0, .class_ 116), (0, u "java/io/Serializable")] 87

/-- java/lang/Enum -/
def k5 : Class := { plain "java/lang/Enum" (some 0) with
  accessFlags := 1057
  interfaces := #[2, 3, 4]
  cf := some (fileOf pool5 2 #[.nestMembers #[106]] #[] 1057 12 #[111, 113, 115] #[{ accessFlags := 18, nameIndex := 5, descriptorIndex := 6, attributes := #[] }, { accessFlags := 18, nameIndex := 9, descriptorIndex := 10, attributes := #[] }, { accessFlags := 2, nameIndex := 19, descriptorIndex := 10, attributes := #[] }])
  fields := #[{ name := "name", type := (.object "java/lang/String"), accessFlags := 18, slot := 0, constantValue := 0 }, { name := "ordinal", type := .int, accessFlags := 18, slot := 1, constantValue := 0 }, { name := "hash", type := .int, accessFlags := 2, slot := 2, constantValue := 0 }]
  methods := #[]
  instanceTypes := #[(.object "java/lang/String"), .int, .int]
  staticTypes := #[]
  resolved := Array.replicate 204 none
  statics := none }

def pool6 : Array CpInfo := pool [(1, .class_ 2), (0, u own_V), (0, .fieldref 1 4), (0, .nameAndType 5 6), (0, u "DISABLED"), (0, u own_D), (0, .fieldref 1 8), (0, .nameAndType 9 6), (0, u "NO_MATCH_RESOURCE"), (0, .fieldref 1 11), (0, .nameAndType 12 6), (0, u "NO_MATCH_ACTION"), (2, u "NO_MATCH_IDENTITY"), (0, .fieldref 1 17), (0, .nameAndType 18 6), (0, u "NO_MATCH_CALENDAR"), (0, .fieldref 1 20), (0, .nameAndType 21 6), (0, u "MATCHED"), (0, .fieldref 1 23), (0, .nameAndType 24 6), (0, u "RETAINED"), (2, u "DROPPED_BY_BEST_MATCH"), (2, u "$VALUES"), (0, u ("[" ++ own_D)), (6, .class_ 40), (1, u "java/lang/Enum"), (8, u "text"), (0, u "Ljava/lang/String;"), (39, u "applies"), (0, u "()Z"), (1, u "missesEverySubject")] 5

def k6c0 : Code := { maxStack := 2, maxLocals := 1, code := prog_34_method_5_code, exceptionTable := #[], attributes := #[] }
def k6m0 : Method := { name := "applies", desc := "()Z", sig := { parameters := [], returnType := some .boolean }, accessFlags := 1, code := some k6c0 }
def k6c1 : Code := { maxStack := 2, maxLocals := 1, code := prog_34_method_6_code, exceptionTable := #[], attributes := #[] }
def k6m1 : Method := { name := "missesEverySubject", desc := "()Z", sig := { parameters := [], returnType := some .boolean }, accessFlags := 0, code := some k6c1 }
/-- Verdict -/
def k6 : Class := { plain own_V (some 5) with
  accessFlags := 16433
  interfaces := #[]
  cf := some (fileOf pool6 1 #[] #[{ accessFlags := 1, nameIndex := 90, descriptorIndex := 91, attributes := #[] }, { accessFlags := 0, nameIndex := 93, descriptorIndex := 91, attributes := #[] }] 16433 38 #[] #[{ accessFlags := 16409, nameIndex := 5, descriptorIndex := 6, attributes := #[] }, { accessFlags := 16409, nameIndex := 9, descriptorIndex := 6, attributes := #[] }, { accessFlags := 16409, nameIndex := 12, descriptorIndex := 6, attributes := #[] }, { accessFlags := 16409, nameIndex := 15, descriptorIndex := 6, attributes := #[] }, { accessFlags := 16409, nameIndex := 18, descriptorIndex := 6, attributes := #[] }, { accessFlags := 16409, nameIndex := 21, descriptorIndex := 6, attributes := #[] }, { accessFlags := 16409, nameIndex := 24, descriptorIndex := 6, attributes := #[] }, { accessFlags := 16409, nameIndex := 27, descriptorIndex := 6, attributes := #[] }, { accessFlags := 18, nameIndex := 49, descriptorIndex := 50, attributes := #[] }, { accessFlags := 4122, nameIndex := 30, descriptorIndex := 31, attributes := #[] }])
  fields := #[{ name := "DISABLED", type := (.object own_V), accessFlags := 16409, slot := 0, constantValue := 0 }, { name := "NO_MATCH_RESOURCE", type := (.object own_V), accessFlags := 16409, slot := 1, constantValue := 0 }, { name := "NO_MATCH_ACTION", type := (.object own_V), accessFlags := 16409, slot := 2, constantValue := 0 }, { name := "NO_MATCH_IDENTITY", type := (.object own_V), accessFlags := 16409, slot := 3, constantValue := 0 }, { name := "NO_MATCH_CALENDAR", type := (.object own_V), accessFlags := 16409, slot := 4, constantValue := 0 }, { name := "MATCHED", type := (.object own_V), accessFlags := 16409, slot := 5, constantValue := 0 }, { name := "RETAINED", type := (.object own_V), accessFlags := 16409, slot := 6, constantValue := 0 }, { name := "DROPPED_BY_BEST_MATCH", type := (.object own_V), accessFlags := 16409, slot := 7, constantValue := 0 }, { name := "text", type := (.object "java/lang/String"), accessFlags := 18, slot := 3, constantValue := 0 }, { name := "$VALUES", type := (.array (.object own_V)), accessFlags := 4122, slot := 8, constantValue := 0 }]
  methods := #[k6m0, k6m1]
  instanceTypes := #[(.object "java/lang/String"), .int, .int, (.object "java/lang/String")]
  staticTypes := #[(.object own_V), (.object own_V), (.object own_V), (.object own_V), (.object own_V), (.object own_V), (.object own_V), (.object own_V), (.array (.object own_V))]
  resolved := Array.replicate 99 none
  statics := some 0 }

def pool7 : Array CpInfo := pool [(1, u "java/lang/Cloneable"), (0, .class_ 1), (0, u "java/lang/Object"), (0, .class_ 3)] 3

/-- java/lang/Cloneable -/
def k7 : Class := { plain "java/lang/Cloneable" (some 0) with
  accessFlags := 1537
  interfaces := #[]
  cf := some (fileOf pool7 2 #[] #[] 1537 4 #[] #[])
  fields := #[]
  methods := #[]
  instanceTypes := #[]
  staticTypes := #[]
  resolved := Array.replicate 8 none
  statics := none }

/-- the primitive byte -/
def k8 : Class := { plain "byte" none with kind := .primitive 'B', accessFlags := 0x411 }
/-- [B -/
def k9 : Class := { plain "[B" (some 0) with kind := .array 8 .byte, interfaces := #[7, 4], accessFlags := 1041 }

/-- the primitive int -/
def k10 : Class := { plain "int" none with kind := .primitive 'I', accessFlags := 0x411 }
/-- [I -/
def k11 : Class := { plain "[I" (some 0) with kind := .array 10 .int, interfaces := #[7, 4], accessFlags := 1041 }

/-- [LVerdict; -/
def k12 : Class := { plain ("[" ++ own_D) (some 0) with kind := .array 6 (.object own_V), interfaces := #[7, 4], accessFlags := 1041 }

def heap : Heap := #[{ cls := 6, slots := #[.ref 1, .ref 2, .ref 3, .ref 4, .ref 5, .ref 6, .ref 7, .ref 8, .null], vm := .statics 6 },
  { cls := 6, slots := #[.null, .int 0, .int 0, .null], vm := .none },
  { cls := 6, slots := #[.null, .int 1, .int 0, .null], vm := .none },
  { cls := 6, slots := #[.null, .int 2, .int 0, .null], vm := .none },
  { cls := 6, slots := #[.null, .int 3, .int 0, .null], vm := .none },
  { cls := 6, slots := #[.null, .int 4, .int 0, .null], vm := .none },
  { cls := 6, slots := #[.null, .int 5, .int 0, .null], vm := .none },
  { cls := 6, slots := #[.null, .int 6, .int 0, .null], vm := .none },
  { cls := 6, slots := #[.null, .int 7, .int 0, .null], vm := .none }]
def classes : Array Class := #[k0, k1, k2, k3, k4, k5, k6, k7, k8, k9, k10, k11, k12]
def interned : List (Array UInt16 × Addr) := []
def slotsUsed : Nat := 41
def theMethod : MethodId := ⟨1, 1⟩
def args0 : Array Value := #[.int 3]
def aboutOver (below : List Frame) : State where
  vm := { classes := classes, interned := interned.toArray }
  heap := heap
  slotsUsed := slotsUsed
  threads := #[{ frames := .invoking theMethod args0 :: below }]
def below0 : List Frame := [.native { method := ⟨0, 0⟩, args := #[] }]
def about1 : State := aboutOver below0
def p0 : Program := .bare "" "" ""
def e0 : Env := launch0.env 0 0 0
theorem w_frames : about1.frames = Frame.invoking theMethod args0 :: below0 := rfl
set_option maxRecDepth 65536 in
theorem w_args : argsFit about1.vm theMethod args0 = true := by decide +kernel
set_option maxRecDepth 65536 in
theorem w_heap : heapFits about1 = true := by decide +kernel
set_option maxRecDepth 65536 in
theorem w_runnable : about1.curStatus? = some .runnable := by decide +kernel
set_option maxRecDepth 65536 in
theorem w_alone : about1.alone = true := by decide +kernel
set_option maxRecDepth 65536 in
theorem w_named : about1.methodNamed? x = some theMethod := by decide +kernel
set_option maxRecDepth 65536 in
theorem w_hears : about1.hears theMethod below0 = true := by decide +kernel
set_option maxRecDepth 65536 in
theorem w_ripe : about1.ripe theMethod args0 below0 = true := by decide +kernel
theorem w_running : about1.status = .running := rfl
set_option maxRecDepth 65536 in
theorem w_room : about1.hasRoom e0.platform room_1 = true :=
  launch0.hasRoom_least _ room_1 (by decide +kernel) (by decide +kernel) (by decide +kernel) (by decide +kernel) (by decide +kernel) (by decide +kernel)
theorem allAtoms_all (ts : List Jvm.Cond) (a : Array Jvm.Value) (st : Jvm.State) : (allAtoms ts).before a st = ts.all (fun c => c.before a st) := by
  induction ts with
  | nil => rfl
  | cons c t ih =>
    show (Jvm.Cond.and c (allAtoms t)).before a st = _
    rw [Jvm.Cond.before_and, ih, List.all_cons]
def words1 : List Jvm.Cond := Jvm.Cond.code x code maxLocals ret :: tables_1
/-- a 'code' word, met by the world's own term for the bytes: nothing is compared byte by byte -/
theorem code_word {y : MethodName} {bytes : ByteArray} {mx : Nat} {rt : Option FieldType} {a : Array Value} {s : State} {m : MethodId} {meth : Method} {c : Code} (h1 : s.methodNamed? y = some m) (h2 : s.vm.method? m = some meth) (h3 : meth.code = some c) (h4 : c.code = bytes)
    (h5 : (c.maxLocals == mx && c.exceptionTable.isEmpty && decide (c.maxStack ≤ mostOperands) && decide (meth.sig.returnType = rt) && !meth.locks && decide (parseMethodDescriptor y.desc = some meth.sig)) = true) : (Jvm.Cond.code y bytes mx rt).before a s = true := by
  simp only [Bool.and_eq_true, beq_iff_eq, Bool.not_eq_true', decide_eq_true_eq] at h5
  obtain ⟨⟨⟨⟨⟨g1, g2⟩, g3⟩, g4⟩, g5⟩, g6⟩ := h5
  simp [Cond.before, Cond.holds, Cond.value, h1, h2, h3, h4, g1, g2, g3, g4, g5, g6]
def isCode : Jvm.Cond → Bool
  | .code _ _ _ _ => true
  | _ => false
theorem all_split {L : List Jvm.Cond} {P : Jvm.Cond → Bool} (h1 : L.all (fun c => isCode c || P c) = true) (h2 : ∀ c ∈ L.filter isCode, P c = true) : L.all P = true := by
  refine List.all_eq_true.mpr fun c hc => ?_
  have h := List.all_eq_true.mp h1 c hc
  rcases Bool.eq_false_or_eq_true (isCode c) with hi | hi
  · exact h2 c (List.mem_filter.mpr ⟨hc, hi⟩)
  · simpa [hi] using h
set_option maxRecDepth 65536 in
theorem w_c0 : (Jvm.Cond.code x code maxLocals ret).before args0 about1 = true := code_word (m := ⟨1, 1⟩) (meth := k1m1) (c := k1c1) (by decide +kernel) rfl rfl rfl (by decide +kernel)
set_option maxRecDepth 65536 in
theorem w_c1 : (Jvm.Cond.code ({ cls := own_V, name := "missesEverySubject", desc := "()Z" } : Jvm.MethodName) prog_34_method_6_code (1 : Nat) (Option.some Jvm.ClassFile.FieldType.boolean)).before args0 about1 = true := code_word (m := ⟨6, 1⟩) (meth := k6m1) (c := k6c1) (by decide +kernel) rfl rfl rfl (by decide +kernel)
set_option maxRecDepth 65536 in
theorem w_c2 : (Jvm.Cond.code ({ cls := own_V, name := "applies", desc := "()Z" } : Jvm.MethodName) prog_34_method_5_code (1 : Nat) (Option.some Jvm.ClassFile.FieldType.boolean)).before args0 about1 = true := code_word (m := ⟨6, 0⟩) (meth := k6m0) (c := k6c0) (by decide +kernel) rfl rfl rfl (by decide +kernel)
def codes1 : List Jvm.Cond := [Jvm.Cond.code x code maxLocals ret, Jvm.Cond.code ({ cls := own_V, name := "missesEverySubject", desc := "()Z" } : Jvm.MethodName) prog_34_method_6_code (1 : Nat) (Option.some Jvm.ClassFile.FieldType.boolean), Jvm.Cond.code ({ cls := own_V, name := "applies", desc := "()Z" } : Jvm.MethodName) prog_34_method_5_code (1 : Nat) (Option.some Jvm.ClassFile.FieldType.boolean)]
set_option maxRecDepth 65536 in
theorem codes_eq : words1.filter isCode = codes1 := rfl
theorem w_codes : ∀ c ∈ words1.filter isCode, c.before args0 about1 = true := by
  rw [codes_eq]
  intro c hc
  simp only [codes1, List.mem_cons, List.not_mem_nil, or_false] at hc
  rcases hc with rfl | rfl | rfl
  · exact w_c0
  · exact w_c1
  · exact w_c2
set_option maxRecDepth 65536 in
theorem w_t1 : (words1.take 24).all (fun c => isCode c || c.before args0 about1) = true := by decide +kernel
set_option maxRecDepth 65536 in
theorem w_t2 : (words1.drop 24).all (fun c => isCode c || c.before args0 about1) = true := by decide +kernel
theorem w_tables : (allAtoms (Jvm.Cond.code x code maxLocals ret :: tables_1)).before args0 about1 = true := by
  rw [allAtoms_all]
  show words1.all (fun c => c.before args0 about1) = true
  refine all_split ?_ w_codes
  rw [← List.take_append_drop 24 words1, List.all_append, w_t1, w_t2]
  rfl
set_option maxRecDepth 65536 in
theorem w_case : (Jvm.Cond.and given_1 narrow_1).before args0 about1 = true := by decide +kernel
theorem w_applies : (headSpec (Jvm.Cond.code x code maxLocals ret :: tables_1) room_1).applies x e0.platform about1 = true :=
  (Spec.applies_iff w_frames).mpr ⟨w_running, w_runnable, w_alone, w_named, w_hears, w_ripe, w_room, w_tables⟩
theorem atStart : AtStart classFile x code maxLocals ret World_1 tables_1 room_1 Calls_1 rest_1 Pre_1 launch0 p0 e0 about1 theMethod args0 below0 :=
  ⟨lists_1, trivial, launch0.admits_env _ _ _, launch0.least_env, fairChoices_fair.cas, fairChoices_fair.clock, w_frames, w_args, w_heap, w_applies, trivial, trivial, w_case⟩
end start1
theorem witness_1 : WitnessClaimed_1 := ⟨start1.p0, start1.e0, start1.about1, start1.theMethod, start1.args0, start1.below0, start1.atStart⟩
end Jvm.Pilot.@@N@@
