import JvmDerived
import JvmDerived.Pilot.@@N@@Statement
import JvmDerived.Pilot.@@N@@Code
set_option linter.unusedVariables false
set_option linter.unusedSimpArgs false
namespace Jvm.RoadKit
open Sem ClassFile Op Lib Jvm.Stand Jvm.Free Jvm.LawKit
section New
variable {p : Program} {l : Launch} {e : Env} {R : Room} {s : State} {m : MethodId} {args : Array Value} {below : List Frame} {meth : Method} {c : Code} {T : State} {locs : List Loc} {cells slots : Nat}
theorem retI (X : Stand p l e R s m args below meth c T locs cells slots) (hx : p.tables.exec = Jvm.exec) {pc : Nat} {Ls : Array Slot} {z : Int32} {rest : List Value} (hret : meth.sig.returnType = some .int) (hd : decode c.code pc = .ok (.ireturn, 1)) {fs : List Frame}
    (hl : ∀ (f : JFrame) (acts : List Action), f.method = m → f.locked = none → f.entered = [] → (doReturn e (T.setTop f) acts (some (.int z))).1 = T.setFrames fs) : Steps p.tables e below (T.setTop (mkF m pc Ls (.int z :: rest))) (T.setFrames fs) := by
  have hm' : T.vm.method? m = some meth := X.method'
  have hn : narrow .int (.int z) = .int z := rfl
  show Steps p.tables e below (T.setTop { method := m, pc := pc, locals := Ls, stack := _ :: rest, locked := none }) _
  jvm_step X.here [X.here.top, hx, hd, hm', hret, hn]
  first | (intro acts; rw [hl _ acts rfl rfl rfl]) | rw [hl _ _ rfl rfl rfl]
  exact Steps.refl _
end New
end Jvm.RoadKit
namespace Jvm.Pilot.@@N@@
open Jvm Jvm.ClassFile Sem Op Lib Jvm.Free Jvm.Stand Jvm.LawKit Jvm.RoadKit Bundle Jvm.Pilot.@@N@@.Jvm.D
def QV (r : Option Value) (h0 : Heap) (n0 : Nat) (v : Option Value) (h : Heap) (L : List Loc) : Prop := v = r ∧ Fr n0 L ∧ h = h0
def QN (r : Option Value) (n0 : Nat) (v : Option Value) (h : Heap) (L : List Loc) : Prop := v = r ∧ Fr n0 L
section OwnWords
variable {args : Array Value} {first s : State} {o : Option Outcome} {idx : List Nat} {t : Term}
theorem own_eqI {k : Int32} (h : (Jvm.Cond.eq t (.int k)).value args first o s idx = some true) : t.eval args first o idx s = some (.int k) := by
  simp only [Jvm.Cond.value, Term.eval] at h; cases ht : t.eval args first o idx s with | none => simp [ht] at h | some x => cases x <;> simp [ht] at h ⊢; exact h
end OwnWords
theorem own_exa_plain {Z : State} {h : Heap} {a : Addr} {C : String} (F : Exa Z h a C) (c : Cell) (hc : h[a]? = some c) : c.vm.isStatics = false := by
  obtain ⟨cell, k, h1, h2, h3, h4, h5⟩ := F; cases h1.symm.trans hc; exact h4
theorem own_arv_plain {Z : State} {h : Heap} {a : Addr} {k : ClassId} {ty : FieldType} {n : Int32} {vs : List Value} {d : Value} (F : Arv Z h a k ty n vs d) (c : Cell) (hc : h[a]? = some c) : c.vm.isStatics = false := by
  obtain ⟨cell, A, -⟩ := F; cases A.1.symm.trans hc; exact A.plain
theorem own_ext_of_keep {h h' : Heap} {ws : List Addr} (K : Keep h h' ws) (q : ∀ x ∈ ws, h.size ≤ x) : Ext h h' := ⟨K.1, fun a c hc => K.2.1 a c hc fun hm => absurd (Array.getElem?_eq_some_iff.mp hc).1 (Nat.not_lt.mpr (q a hm))⟩
theorem own_fitc {Z : State} {h : Heap} {a : Addr} {c : Cell} {ty : FieldType} {vs : List Value} {d : Value} (A : Arr Z h a c ty) (H : Has c vs d) (G : ∀ i, i < c.slots.size → fits ty (vs.getD i d) = true) : FitC Z c := fun i v hv => by
  obtain ⟨hi, -⟩ := Array.getElem?_eq_some_iff.mp hv
  obtain ⟨hs, k, hk, comp, hkind⟩ := A.2.1
  have e : Z.slotType? c.cls .none i = some ty := by simp [State.slotType?, hk, hkind]
  have ev : v = vs.getD i d := Option.some.inj (hv.symm.trans (H i hi))
  simp only [State.fitsSlot, e]
  rw [ev]; exact G i hi
theorem own_sta_keep {Z : State} {h h' : Heap} {C n d : String} {w : Value} {ws : List Addr} (F : Sta Z h C n d w) (K : Keep h h' ws) (q : ∀ x ∈ ws, ∀ c : Cell, h[x]? = some c → c.vm.isStatics = false) : Sta Z h' C n d w := by
  obtain ⟨cf, i, k, f, st, cell, h1, h2, h3, h4, h5, h6, h7⟩ := F
  exact ⟨cf, i, k, f, st, cell, h1, h2, h3, h4, K.2.1 _ _ h5 (fun hx => by rw [q _ hx _ h5] at h6; cases h6), h6, h7⟩
section OwnWords2
variable {args : Array Value} {s : State} {t u : Term}
theorem own_eqR {a : Addr} (h : (Jvm.Cond.eq t u).value args s none s [] = some true) (hu : u.eval args s none [] s = some (.ref a)) : t.eval args s none [] s = some (.ref a) := by
  simp only [Jvm.Cond.value, hu] at h; cases ht : t.eval args s none [] s with | none => simp [ht] at h | some x => cases x <;> simp [ht] at h ⊢; exact h
theorem own_len {a : Addr} {cl : Cell} {ty : FieldType} {k : Int32} (ev : t.eval args s none [] s = some (.ref a)) (A : Arr s s.heap a cl ty) (h : (Term.length t).eval args s none [] s = some (.int k)) : cl.slots.size < 2 ^ 31 ∧ cl.slots.size.toInt32 = k := by
  have ha := A.fin (Vm.Alike.refl _)
  by_cases hl : cl.slots.size < 2 ^ 31
  · rw [len_f ev ha hl] at h; exact ⟨hl, Value.int.inj (Option.some.inj h)⟩
  · simp [Term.eval, ev, ha, hl] at h
theorem own_elem {a : Addr} {cl : Cell} {ty : FieldType} {k : Int32} {v : Value} (ev : t.eval args s none [] s = some (.ref a)) (A : Arr s s.heap a cl ty) (h : (Term.elem t (.int k)).eval args s none [] s = some v) : cl.slots[k.toNatClampNeg]? = some v := (elem_in h ev (Term.int_eval k) A.1).2
end OwnWords2
def OwnWd (Z : State) (h0 : Heap) (ad : Nat → Addr) (a_EMPTY : Addr) (k_EMPTY : ClassId) : Prop := Sta Z h0 "com/example/limpet/limpet/io/Status" "OK" "Lcom/example/limpet/limpet/io/Status;" (.ref (ad 0)) ∧ Exa Z h0 (ad 0) "com/example/limpet/limpet/io/Status" ∧ Sta Z h0 "com/example/limpet/limpet/io/Status" "FAILED" "Lcom/example/limpet/limpet/io/Status;" (.ref (ad 1)) ∧ Exa Z h0 (ad 1) "com/example/limpet/limpet/io/Status" ∧ Sta Z h0 "com/example/limpet/limpet/io/Status" "NOT_FOUND" "Lcom/example/limpet/limpet/io/Status;" (.ref (ad 2)) ∧ Exa Z h0 (ad 2) "com/example/limpet/limpet/io/Status" ∧ Sta Z h0 "com/example/limpet/limpet/io/Status" "BAD_REQUEST" "Lcom/example/limpet/limpet/io/Status;" (.ref (ad 3)) ∧ Exa Z h0 (ad 3) "com/example/limpet/limpet/io/Status" ∧ Sta Z h0 "com/example/limpet/limpet/io/Status" "TOO_MANY_KEYS" "Lcom/example/limpet/limpet/io/Status;" (.ref (ad 4)) ∧ Exa Z h0 (ad 4) "com/example/limpet/limpet/io/Status" ∧ Sta Z h0 "com/example/limpet/limpet/io/Status" "UNSUPPORTED_KEY" "Lcom/example/limpet/limpet/io/Status;" (.ref (ad 5)) ∧ Exa Z h0 (ad 5) "com/example/limpet/limpet/io/Status" ∧ Sta Z h0 "com/example/limpet/limpet/io/Status" "TOO_MANY_GRANTS" "Lcom/example/limpet/limpet/io/Status;" (.ref (ad 6)) ∧ Exa Z h0 (ad 6) "com/example/limpet/limpet/io/Status" ∧ Sta Z h0 "com/example/limpet/limpet/io/Status" "GRANT_NOT_FOUND" "Lcom/example/limpet/limpet/io/Status;" (.ref (ad 7)) ∧ Exa Z h0 (ad 7) "com/example/limpet/limpet/io/Status" ∧ Sta Z h0 "com/example/limpet/limpet/io/Status" "PERMISSION_DENIED" "Lcom/example/limpet/limpet/io/Status;" (.ref (ad 8)) ∧ Exa Z h0 (ad 8) "com/example/limpet/limpet/io/Status" ∧ Sta Z h0 "com/example/limpet/limpet/io/Response" "EMPTY" "[B" (.ref a_EMPTY) ∧ Arv Z h0 a_EMPTY k_EMPTY .byte (0 : Int32) [] (.int (0 : Int32))
theorem own_S_OK {Z : State} {h0 : Heap} {ad : Nat → Addr} {a_EMPTY : Addr} {k_EMPTY : ClassId} (W : OwnWd Z h0 ad a_EMPTY k_EMPTY) : Sta Z h0 "com/example/limpet/limpet/io/Status" "OK" "Lcom/example/limpet/limpet/io/Status;" (.ref (ad 0)) := W.1
theorem own_E_OK {Z : State} {h0 : Heap} {ad : Nat → Addr} {a_EMPTY : Addr} {k_EMPTY : ClassId} (W : OwnWd Z h0 ad a_EMPTY k_EMPTY) : Exa Z h0 (ad 0) "com/example/limpet/limpet/io/Status" := W.2.1
theorem own_S_FAILED {Z : State} {h0 : Heap} {ad : Nat → Addr} {a_EMPTY : Addr} {k_EMPTY : ClassId} (W : OwnWd Z h0 ad a_EMPTY k_EMPTY) : Sta Z h0 "com/example/limpet/limpet/io/Status" "FAILED" "Lcom/example/limpet/limpet/io/Status;" (.ref (ad 1)) := W.2.2.1
theorem own_E_FAILED {Z : State} {h0 : Heap} {ad : Nat → Addr} {a_EMPTY : Addr} {k_EMPTY : ClassId} (W : OwnWd Z h0 ad a_EMPTY k_EMPTY) : Exa Z h0 (ad 1) "com/example/limpet/limpet/io/Status" := W.2.2.2.1
theorem own_S_NOT_FOUND {Z : State} {h0 : Heap} {ad : Nat → Addr} {a_EMPTY : Addr} {k_EMPTY : ClassId} (W : OwnWd Z h0 ad a_EMPTY k_EMPTY) : Sta Z h0 "com/example/limpet/limpet/io/Status" "NOT_FOUND" "Lcom/example/limpet/limpet/io/Status;" (.ref (ad 2)) := W.2.2.2.2.1
theorem own_E_NOT_FOUND {Z : State} {h0 : Heap} {ad : Nat → Addr} {a_EMPTY : Addr} {k_EMPTY : ClassId} (W : OwnWd Z h0 ad a_EMPTY k_EMPTY) : Exa Z h0 (ad 2) "com/example/limpet/limpet/io/Status" := W.2.2.2.2.2.1
theorem own_S_BAD_REQUEST {Z : State} {h0 : Heap} {ad : Nat → Addr} {a_EMPTY : Addr} {k_EMPTY : ClassId} (W : OwnWd Z h0 ad a_EMPTY k_EMPTY) : Sta Z h0 "com/example/limpet/limpet/io/Status" "BAD_REQUEST" "Lcom/example/limpet/limpet/io/Status;" (.ref (ad 3)) := W.2.2.2.2.2.2.1
theorem own_E_BAD_REQUEST {Z : State} {h0 : Heap} {ad : Nat → Addr} {a_EMPTY : Addr} {k_EMPTY : ClassId} (W : OwnWd Z h0 ad a_EMPTY k_EMPTY) : Exa Z h0 (ad 3) "com/example/limpet/limpet/io/Status" := W.2.2.2.2.2.2.2.1
theorem own_S_TOO_MANY_KEYS {Z : State} {h0 : Heap} {ad : Nat → Addr} {a_EMPTY : Addr} {k_EMPTY : ClassId} (W : OwnWd Z h0 ad a_EMPTY k_EMPTY) : Sta Z h0 "com/example/limpet/limpet/io/Status" "TOO_MANY_KEYS" "Lcom/example/limpet/limpet/io/Status;" (.ref (ad 4)) := W.2.2.2.2.2.2.2.2.1
theorem own_E_TOO_MANY_KEYS {Z : State} {h0 : Heap} {ad : Nat → Addr} {a_EMPTY : Addr} {k_EMPTY : ClassId} (W : OwnWd Z h0 ad a_EMPTY k_EMPTY) : Exa Z h0 (ad 4) "com/example/limpet/limpet/io/Status" := W.2.2.2.2.2.2.2.2.2.1
theorem own_S_UNSUPPORTED_KEY {Z : State} {h0 : Heap} {ad : Nat → Addr} {a_EMPTY : Addr} {k_EMPTY : ClassId} (W : OwnWd Z h0 ad a_EMPTY k_EMPTY) : Sta Z h0 "com/example/limpet/limpet/io/Status" "UNSUPPORTED_KEY" "Lcom/example/limpet/limpet/io/Status;" (.ref (ad 5)) := W.2.2.2.2.2.2.2.2.2.2.1
theorem own_E_UNSUPPORTED_KEY {Z : State} {h0 : Heap} {ad : Nat → Addr} {a_EMPTY : Addr} {k_EMPTY : ClassId} (W : OwnWd Z h0 ad a_EMPTY k_EMPTY) : Exa Z h0 (ad 5) "com/example/limpet/limpet/io/Status" := W.2.2.2.2.2.2.2.2.2.2.2.1
theorem own_S_TOO_MANY_GRANTS {Z : State} {h0 : Heap} {ad : Nat → Addr} {a_EMPTY : Addr} {k_EMPTY : ClassId} (W : OwnWd Z h0 ad a_EMPTY k_EMPTY) : Sta Z h0 "com/example/limpet/limpet/io/Status" "TOO_MANY_GRANTS" "Lcom/example/limpet/limpet/io/Status;" (.ref (ad 6)) := W.2.2.2.2.2.2.2.2.2.2.2.2.1
theorem own_E_TOO_MANY_GRANTS {Z : State} {h0 : Heap} {ad : Nat → Addr} {a_EMPTY : Addr} {k_EMPTY : ClassId} (W : OwnWd Z h0 ad a_EMPTY k_EMPTY) : Exa Z h0 (ad 6) "com/example/limpet/limpet/io/Status" := W.2.2.2.2.2.2.2.2.2.2.2.2.2.1
theorem own_S_GRANT_NOT_FOUND {Z : State} {h0 : Heap} {ad : Nat → Addr} {a_EMPTY : Addr} {k_EMPTY : ClassId} (W : OwnWd Z h0 ad a_EMPTY k_EMPTY) : Sta Z h0 "com/example/limpet/limpet/io/Status" "GRANT_NOT_FOUND" "Lcom/example/limpet/limpet/io/Status;" (.ref (ad 7)) := W.2.2.2.2.2.2.2.2.2.2.2.2.2.2.1
theorem own_E_GRANT_NOT_FOUND {Z : State} {h0 : Heap} {ad : Nat → Addr} {a_EMPTY : Addr} {k_EMPTY : ClassId} (W : OwnWd Z h0 ad a_EMPTY k_EMPTY) : Exa Z h0 (ad 7) "com/example/limpet/limpet/io/Status" := W.2.2.2.2.2.2.2.2.2.2.2.2.2.2.2.1
theorem own_S_PERMISSION_DENIED {Z : State} {h0 : Heap} {ad : Nat → Addr} {a_EMPTY : Addr} {k_EMPTY : ClassId} (W : OwnWd Z h0 ad a_EMPTY k_EMPTY) : Sta Z h0 "com/example/limpet/limpet/io/Status" "PERMISSION_DENIED" "Lcom/example/limpet/limpet/io/Status;" (.ref (ad 8)) := W.2.2.2.2.2.2.2.2.2.2.2.2.2.2.2.2.1
theorem own_E_PERMISSION_DENIED {Z : State} {h0 : Heap} {ad : Nat → Addr} {a_EMPTY : Addr} {k_EMPTY : ClassId} (W : OwnWd Z h0 ad a_EMPTY k_EMPTY) : Exa Z h0 (ad 8) "com/example/limpet/limpet/io/Status" := W.2.2.2.2.2.2.2.2.2.2.2.2.2.2.2.2.2.1
theorem own_S_EMPTY {Z : State} {h0 : Heap} {ad : Nat → Addr} {a_EMPTY : Addr} {k_EMPTY : ClassId} (W : OwnWd Z h0 ad a_EMPTY k_EMPTY) : Sta Z h0 "com/example/limpet/limpet/io/Response" "EMPTY" "[B" (.ref a_EMPTY) := W.2.2.2.2.2.2.2.2.2.2.2.2.2.2.2.2.2.2.1
theorem own_V_EMPTY {Z : State} {h0 : Heap} {ad : Nat → Addr} {a_EMPTY : Addr} {k_EMPTY : ClassId} (W : OwnWd Z h0 ad a_EMPTY k_EMPTY) : Arv Z h0 a_EMPTY k_EMPTY .byte (0 : Int32) [] (.int (0 : Int32)) := W.2.2.2.2.2.2.2.2.2.2.2.2.2.2.2.2.2.2.2
theorem own_Wd_ext {Z : State} {h0 : Heap} {ad : Nat → Addr} {a_EMPTY : Addr} {k_EMPTY : ClassId} {h' : Heap} (W : OwnWd Z h0 ad a_EMPTY k_EMPTY) (E : Ext h0 h') : OwnWd Z h' ad a_EMPTY k_EMPTY := ⟨(own_S_OK W).ext E, (own_E_OK W).ext E, (own_S_FAILED W).ext E, (own_E_FAILED W).ext E, (own_S_NOT_FOUND W).ext E, (own_E_NOT_FOUND W).ext E, (own_S_BAD_REQUEST W).ext E, (own_E_BAD_REQUEST W).ext E, (own_S_TOO_MANY_KEYS W).ext E, (own_E_TOO_MANY_KEYS W).ext E, (own_S_UNSUPPORTED_KEY W).ext E, (own_E_UNSUPPORTED_KEY W).ext E, (own_S_TOO_MANY_GRANTS W).ext E, (own_E_TOO_MANY_GRANTS W).ext E, (own_S_GRANT_NOT_FOUND W).ext E, (own_E_GRANT_NOT_FOUND W).ext E, (own_S_PERMISSION_DENIED W).ext E, (own_E_PERMISSION_DENIED W).ext E, (own_S_EMPTY W).ext E, (own_V_EMPTY W).ext E⟩
theorem own_d_jdk_30_method_1_code_0 : decode jdk_30_method_1_code 0 = .ok (.aload_n 0, 1) := by decide +kernel
theorem own_d_jdk_30_method_1_code_1 : decode jdk_30_method_1_code 1 = .ok (.invokespecial 1, 3) := by decide +kernel
theorem own_d_jdk_30_method_1_code_4 : decode jdk_30_method_1_code 4 = .ok (.return_, 1) := by decide +kernel
theorem own_pn_java_lang_Record : plainName "java/lang/Record" = true := by first | (simp [plainName, overriddenIn]; done) | decide +kernel
theorem own_d_prog_34_method_1_code_0 : decode prog_34_method_1_code 0 = .ok (.aload_n 0, 1) := by decide +kernel
theorem own_d_prog_34_method_1_code_1 : decode prog_34_method_1_code 1 = .ok (.invokespecial 1, 3) := by decide +kernel
theorem own_pd___V : parseMethodDescriptor "()V" = some ⟨[], none⟩ := by decide +kernel
theorem own_d_prog_34_method_1_code_4 : decode prog_34_method_1_code 4 = .ok (.aload_n 0, 1) := by decide +kernel
theorem own_d_prog_34_method_1_code_5 : decode prog_34_method_1_code 5 = .ok (.aload_n 1, 1) := by decide +kernel
theorem own_d_prog_34_method_1_code_6 : decode prog_34_method_1_code 6 = .ok (.putfield 7, 3) := by decide +kernel
theorem own_d_prog_34_method_1_code_9 : decode prog_34_method_1_code 9 = .ok (.aload_n 0, 1) := by decide +kernel
theorem own_d_prog_34_method_1_code_10 : decode prog_34_method_1_code 10 = .ok (.aload_n 2, 1) := by decide +kernel
theorem own_d_prog_34_method_1_code_11 : decode prog_34_method_1_code 11 = .ok (.putfield 13, 3) := by decide +kernel
theorem own_d_prog_34_method_1_code_14 : decode prog_34_method_1_code 14 = .ok (.return_, 1) := by decide +kernel
theorem own_pn_com_example_limpet_limpet_io_Response : plainName "com/example/limpet/limpet/io/Response" = true := by first | (simp [plainName, overriddenIn]; done) | decide +kernel
theorem own_d_prog_34_method_2_code_0 : decode prog_34_method_2_code 0 = .ok (.new 8, 3) := by decide +kernel
theorem own_d_prog_34_method_2_code_3 : decode prog_34_method_2_code 3 = .ok (.dup, 1) := by decide +kernel
theorem own_d_prog_34_method_2_code_4 : decode prog_34_method_2_code 4 = .ok (.aload_n 0, 1) := by decide +kernel
theorem own_d_prog_34_method_2_code_5 : decode prog_34_method_2_code 5 = .ok (.getstatic 17, 3) := by decide +kernel
theorem own_d_prog_34_method_2_code_8 : decode prog_34_method_2_code 8 = .ok (.invokespecial 20, 3) := by decide +kernel
theorem own_pd__Lcom_example_limpet_limpet_io_Status__B_V : parseMethodDescriptor "(Lcom/example/limpet/limpet/io/Status;[B)V" = some ⟨[(.object "com/example/limpet/limpet/io/Status"), (.array .byte)], none⟩ := by decide +kernel
theorem own_d_prog_34_method_2_code_11 : decode prog_34_method_2_code 11 = .ok (.areturn, 1) := by decide +kernel
theorem own_d_prog_34_method_14_code_0 : decode prog_34_method_14_code 0 = .ok (.aload_n 0, 1) := by decide +kernel
theorem own_d_prog_34_method_14_code_1 : decode prog_34_method_14_code 1 = .ok (.getfield 13, 3) := by decide +kernel
theorem own_d_prog_34_method_14_code_4 : decode prog_34_method_14_code 4 = .ok (.areturn, 1) := by decide +kernel
theorem own_d_prog_34_method_13_code_0 : decode prog_34_method_13_code 0 = .ok (.aload_n 0, 1) := by decide +kernel
theorem own_d_prog_34_method_13_code_1 : decode prog_34_method_13_code 1 = .ok (.getfield 7, 3) := by decide +kernel
theorem own_d_prog_34_method_13_code_4 : decode prog_34_method_13_code 4 = .ok (.areturn, 1) := by decide +kernel
theorem own_d_method_2_code_0 : decode method_2_code 0 = .ok (.iload_n 0, 1) := by decide +kernel
theorem own_d_method_2_code_1 : decode method_2_code 1 = .ok (.ifCond .ne 7, 3) := by decide +kernel
theorem own_d_method_2_code_4 : decode method_2_code 4 = .ok (.getstatic 7, 3) := by decide +kernel
theorem own_d_method_2_code_7 : decode method_2_code 7 = .ok (.areturn, 1) := by decide +kernel
theorem own_pn_com_example_limpet_limpet_io_ResponseOfPinLaw : plainName "com/example/limpet/limpet/io/ResponseOfPinLaw" = true := by first | (simp [plainName, overriddenIn]; done) | decide +kernel
theorem own_pd__I_Lcom_example_limpet_limpet_io_Status_ : parseMethodDescriptor "(I)Lcom/example/limpet/limpet/io/Status;" = some ⟨[.int], some (.object "com/example/limpet/limpet/io/Status")⟩ := by decide +kernel
theorem own_pd__Lcom_example_limpet_limpet_io_Status__Lcom_example_limpet_limpet_io_Response_ : parseMethodDescriptor "(Lcom/example/limpet/limpet/io/Status;)Lcom/example/limpet/limpet/io/Response;" = some ⟨[(.object "com/example/limpet/limpet/io/Status")], some (.object "com/example/limpet/limpet/io/Response")⟩ := by decide +kernel
theorem own_pd____B : parseMethodDescriptor "()[B" = some ⟨[], some (.array .byte)⟩ := by decide +kernel
theorem own_pd___Lcom_example_limpet_limpet_io_Status_ : parseMethodDescriptor "()Lcom/example/limpet/limpet/io/Status;" = some ⟨[], some (.object "com/example/limpet/limpet/io/Status")⟩ := by decide +kernel
theorem own_d_method_2_code_8 : decode method_2_code 8 = .ok (.iload_n 0, 1) := by decide +kernel
theorem own_d_method_2_code_9 : decode method_2_code 9 = .ok (.iconst 1, 1) := by decide +kernel
theorem own_d_method_2_code_10 : decode method_2_code 10 = .ok (.if_icmp .ne 7, 3) := by decide +kernel
theorem own_d_method_2_code_13 : decode method_2_code 13 = .ok (.getstatic 13, 3) := by decide +kernel
theorem own_d_method_2_code_16 : decode method_2_code 16 = .ok (.areturn, 1) := by decide +kernel
theorem own_d_method_2_code_17 : decode method_2_code 17 = .ok (.iload_n 0, 1) := by decide +kernel
theorem own_d_method_2_code_18 : decode method_2_code 18 = .ok (.iconst 2, 1) := by decide +kernel
theorem own_d_method_2_code_19 : decode method_2_code 19 = .ok (.if_icmp .ne 7, 3) := by decide +kernel
theorem own_d_method_2_code_22 : decode method_2_code 22 = .ok (.getstatic 16, 3) := by decide +kernel
theorem own_d_method_2_code_25 : decode method_2_code 25 = .ok (.areturn, 1) := by decide +kernel
theorem own_d_method_2_code_26 : decode method_2_code 26 = .ok (.iload_n 0, 1) := by decide +kernel
theorem own_d_method_2_code_27 : decode method_2_code 27 = .ok (.iconst 3, 1) := by decide +kernel
theorem own_d_method_2_code_28 : decode method_2_code 28 = .ok (.if_icmp .ne 7, 3) := by decide +kernel
theorem own_d_method_2_code_31 : decode method_2_code 31 = .ok (.getstatic 19, 3) := by decide +kernel
theorem own_d_method_2_code_34 : decode method_2_code 34 = .ok (.areturn, 1) := by decide +kernel
theorem own_d_method_2_code_35 : decode method_2_code 35 = .ok (.iload_n 0, 1) := by decide +kernel
theorem own_d_method_2_code_36 : decode method_2_code 36 = .ok (.iconst 4, 1) := by decide +kernel
theorem own_d_method_2_code_37 : decode method_2_code 37 = .ok (.if_icmp .ne 7, 3) := by decide +kernel
theorem own_d_method_2_code_40 : decode method_2_code 40 = .ok (.getstatic 22, 3) := by decide +kernel
theorem own_d_method_2_code_43 : decode method_2_code 43 = .ok (.areturn, 1) := by decide +kernel
theorem own_d_method_2_code_44 : decode method_2_code 44 = .ok (.iload_n 0, 1) := by decide +kernel
theorem own_d_method_2_code_45 : decode method_2_code 45 = .ok (.iconst 5, 1) := by decide +kernel
theorem own_d_method_2_code_46 : decode method_2_code 46 = .ok (.if_icmp .ne 7, 3) := by decide +kernel
theorem own_d_method_2_code_49 : decode method_2_code 49 = .ok (.getstatic 25, 3) := by decide +kernel
theorem own_d_method_2_code_52 : decode method_2_code 52 = .ok (.areturn, 1) := by decide +kernel
theorem own_d_method_2_code_53 : decode method_2_code 53 = .ok (.iload_n 0, 1) := by decide +kernel
theorem own_d_method_2_code_54 : decode method_2_code 54 = .ok (.bipush 6, 2) := by decide +kernel
theorem own_d_method_2_code_56 : decode method_2_code 56 = .ok (.if_icmp .ne 7, 3) := by decide +kernel
theorem own_d_method_2_code_59 : decode method_2_code 59 = .ok (.getstatic 28, 3) := by decide +kernel
theorem own_d_method_2_code_62 : decode method_2_code 62 = .ok (.areturn, 1) := by decide +kernel
theorem own_d_method_2_code_63 : decode method_2_code 63 = .ok (.iload_n 0, 1) := by decide +kernel
theorem own_d_method_2_code_64 : decode method_2_code 64 = .ok (.bipush 7, 2) := by decide +kernel
theorem own_d_method_2_code_66 : decode method_2_code 66 = .ok (.if_icmp .ne 7, 3) := by decide +kernel
theorem own_d_method_2_code_69 : decode method_2_code 69 = .ok (.getstatic 31, 3) := by decide +kernel
theorem own_d_method_2_code_72 : decode method_2_code 72 = .ok (.areturn, 1) := by decide +kernel
theorem own_d_method_2_code_73 : decode method_2_code 73 = .ok (.getstatic 34, 3) := by decide +kernel
theorem own_d_method_2_code_76 : decode method_2_code 76 = .ok (.areturn, 1) := by decide +kernel
def QRi (Z : State) (b w q : Addr) (h0 : Heap) (n0 : Nat) (v : Option Value) (h : Heap) (L : List Loc) : Prop := v = none ∧ Fr n0 L ∧ Keep h0 h [b] ∧ Exa Z h b "com/example/limpet/limpet/io/Response" ∧ Fld Z h b "com/example/limpet/limpet/io/Response" "status" "Lcom/example/limpet/limpet/io/Status;" (.ref w) ∧ Fld Z h b "com/example/limpet/limpet/io/Response" "payload" "[B" (.ref q)
def QRo (Z : State) (w q : Addr) (h0 : Heap) (n0 : Nat) (v : Option Value) (h : Heap) (L : List Loc) : Prop := ∃ b, v = some (.ref b) ∧ h0.size ≤ b ∧ Fr n0 L ∧ Keep h0 h [] ∧ Exa Z h b "com/example/limpet/limpet/io/Response" ∧ Fld Z h b "com/example/limpet/limpet/io/Response" "status" "Lcom/example/limpet/limpet/io/Status;" (.ref w) ∧ Fld Z h b "com/example/limpet/limpet/io/Response" "payload" "[B" (.ref q)
theorem own_ef_own_rec (m : MethodId) {x0 : Addr} : entryFrame m #[(.ref x0)] 1 = mkF m 0 #[.val (.ref x0)] [] := by first | (simp [entryFrame, mkF, argsToLocals, Value.category, maxLocals]; done) | rfl
set_option maxRecDepth 65536 in
set_option maxHeartbeats 40000000 in
theorem own_rec (l : Launch) (Z : State) (a0 : Array Value) (hw : ∀ d ∈ tables_1, d.before a0 Z = true) (ws : List Jvm.Cond) (h0 : Heap) (n0 : Nat) (Z0 : n0 ≤ h0.size) (b : Addr) :
    MetFree l (⟨"java/lang/Record", "<init>", "()V"⟩ : MethodName) (head1 (Jvm.Cond.code (⟨"java/lang/Record", "<init>", "()V"⟩ : MethodName) jdk_30_method_1_code 1 none :: ws) ({ frames := 1, cells := 0, slots := 0, locals := 12 } : Room)) (fun a U => a = #[(.ref b)] ∧ Z.Warmed39 U.vm ∧ U.heap = h0) (fun _ _ _ _ _ => True) (fun _ U o U' => ∃ v L, o = .returned v ∧ QV none h0 n0 v U'.heap L ∧ FrameEnd U o U' L ({ frames := 1, cells := 0, slots := 0, locals := 12 } : Room).cells ({ frames := 1, cells := 0, slots := 0, locals := 12 } : Room).slots) := by
  refine MetFree.of_bodySF (plainFor_of_name own_pn_java_lang_Record) hisR ?_
  intro p e s m args below meth c s₁ Bd hml0 hP hK
  obtain ⟨rfl, hZ, hh⟩ := hP
  have hx := Bd.exec
  have hby := Bd.bytes
  have hml : c.maxLocals = 1 := hml0
  have hown : s.vm.findClass "java/lang/Record" = some m.cls := findClass_of_methodNamed Bd.named
  have hnm := (name_of_methodNamed Bd.named Bd.method).1
  have X0 : Stand p l e ({ frames := 1, cells := 0, slots := 0, locals := 12 } : Room) s m #[(.ref b)] below meth c s₁ [] 0 0 := Stand.of_body Bd
  have e0 : s₁.heap = h0 := by rw [← hh, Bd.state]; rfl
  have N0 := Fr.nil n0
  have pre0 : ∀ t, Steps p.tables e below (s₁.setTop (mkF m 0 #[.val (.ref b)] [])) t → Steps p.tables e below (s₁.setTop (entryFrame m #[(.ref b)] 1)) t := fun t k => castTop (own_ef_own_rec m) k
  obtain ⟨T1, X1, e1, st1⟩ := initO X0 hx hZ hown (hw _ (List.mem_of_getElem? (i := 24) rfl)) (hw _ (List.mem_of_getElem? (i := 25) rfl)) (hw _ (List.mem_of_getElem? (i := 26) rfl)) e0 (g := (mkF m 1 #[.val (.ref b)] [(.ref b)])) rfl (by rw [hml]; rfl) rfl (hb hby own_d_jdk_30_method_1_code_1) (by decide) (W := 0) (by show 2 * 0 + _ ≤ _; exact Nat.le_of_eq rfl) (by decide)
  have ch2 : ∀ t, Steps p.tables e below (T1.setTop (mkF m 4 #[.val (.ref b)] [])) t → Steps p.tables e below (s₁.setTop (entryFrame m #[(.ref b)] 1)) t := fun t k => pre0 t (by
      show Steps p.tables e below (s₁.setTop (mkF m 0 #[.val (.ref b)] [])) t
      refine XS.aloadN X0.here hx rfl (hb hby own_d_jdk_30_method_1_code_0) rfl rfl ?_
      show Steps p.tables e below (s₁.setTop (mkF m 1 #[.val (.ref b)] [(.ref b)])) t
      exact st1 t k)
  obtain ⟨fs, hr, hrun, hended, hW, hsame⟩ := X1.leave (v := none) (fun _ => rfl)
  refine ⟨_, _, ch2 _ ?_, hrun, hended, _, _, rfl, ?_, ⟨_, rfl⟩, hW, hsame.mono (by decide) (by decide)⟩
  · show Steps p.tables e below (T1.setTop (mkF m 4 #[.val (.ref b)] [])) _
    exact X1.returnOut hx Bd.returns (hb hby own_d_jdk_30_method_1_code_4) hr
  · show QV none h0 n0 _ T1.heap _
    rw [e1]
    exact ⟨rfl, N0, rfl⟩
theorem own_ef_own_ini (m : MethodId) {x0 : Addr} {x1 : Addr} {x2 : Addr} : entryFrame m #[(.ref x0), (.ref x1), (.ref x2)] 3 = mkF m 0 #[.val (.ref x0), .val (.ref x1), .val (.ref x2)] [] := by first | (simp [entryFrame, mkF, argsToLocals, Value.category, maxLocals]; done) | rfl
set_option maxRecDepth 65536 in
set_option maxHeartbeats 40000000 in
theorem own_ini (l : Launch) (Z : State) (a0 : Array Value) (hw : ∀ d ∈ tables_1, d.before a0 Z = true) (ws : List Jvm.Cond) (h0 : Heap) (n0 : Nat) (Z0 : n0 ≤ h0.size) (b w q : Addr) (E : Exa Z h0 b "com/example/limpet/limpet/io/Response") (F1 : Fld Z h0 b "com/example/limpet/limpet/io/Response" "status" "Lcom/example/limpet/limpet/io/Status;" .null) (F2 : Fld Z h0 b "com/example/limpet/limpet/io/Response" "payload" "[B" .null) (g : n0 ≤ b) :
    MetFree l (⟨"com/example/limpet/limpet/io/Response", "<init>", "(Lcom/example/limpet/limpet/io/Status;[B)V"⟩ : MethodName) (head1 (Jvm.Cond.code (⟨"com/example/limpet/limpet/io/Response", "<init>", "(Lcom/example/limpet/limpet/io/Status;[B)V"⟩ : MethodName) prog_34_method_1_code 3 none :: ws) ({ frames := 2, cells := 0, slots := 0, locals := 24 } : Room)) (fun a U => a = #[(.ref b), (.ref w), (.ref q)] ∧ Z.Warmed39 U.vm ∧ U.heap = h0) (fun _ _ _ _ _ => True) (fun _ U o U' => ∃ v L, o = .returned v ∧ QRi Z b w q h0 n0 v U'.heap L ∧ FrameEnd U o U' L ({ frames := 2, cells := 0, slots := 0, locals := 24 } : Room).cells ({ frames := 2, cells := 0, slots := 0, locals := 24 } : Room).slots) := by
  refine MetFree.of_bodySF (plainFor_of_name own_pn_com_example_limpet_limpet_io_Response) hisR ?_
  intro p e s m args below meth c s₁ Bd hml0 hP hK
  obtain ⟨rfl, hZ, hh⟩ := hP
  have hx := Bd.exec
  have hby := Bd.bytes
  have hml : c.maxLocals = 3 := hml0
  have hown : s.vm.findClass "com/example/limpet/limpet/io/Response" = some m.cls := findClass_of_methodNamed Bd.named
  have hnm := (name_of_methodNamed Bd.named Bd.method).1
  have X0 : Stand p l e ({ frames := 2, cells := 0, slots := 0, locals := 24 } : Room) s m #[(.ref b), (.ref w), (.ref q)] below meth c s₁ [] 0 0 := Stand.of_body Bd
  have e0 : s₁.heap = h0 := by rw [← hh, Bd.state]; rfl
  have N0 := Fr.nil n0
  have pre0 : ∀ t, Steps p.tables e below (s₁.setTop (mkF m 0 #[.val (.ref b), .val (.ref w), .val (.ref q)] [])) t → Steps p.tables e below (s₁.setTop (entryFrame m #[(.ref b), (.ref w), (.ref q)] 3)) t := fun t k => castTop (own_ef_own_ini m) k
  obtain ⟨vv1, _, ⟨T1, L1, kk1, nn1⟩, -, X1, ⟨Lc1, hQ1, l1, y1, z1⟩, st1⟩ := X0.specialBack hx (y := (⟨"java/lang/Record", "<init>", "()V"⟩ : MethodName)) rfl hown (mvT hZ (hw _ (List.mem_of_getElem? (i := 19) rfl))) (mvT hZ (hw _ (List.mem_of_getElem? (i := 20) rfl))) (mvT hZ (hw _ (List.mem_of_getElem? (i := 23) rfl))) (by decide) (backOf (W := 0) (own_rec l Z a0 hw [] h0 n0 Z0 b) hZ (hw _ (List.mem_of_getElem? (i := 23) rfl)) (hw _ (List.mem_of_getElem? (i := 22) rfl)) (by decide) (by decide)) (g := (mkF m 1 #[.val (.ref b), .val (.ref w), .val (.ref q)] [(.ref b)])) rfl (by rw [hml]; rfl) (Steps.refl _) (a := b) (argsL := []) (rest := []) (lenOf own_pd___V rfl) rfl (by show 2 * 0 + _ ≤ _; exact Nat.le_of_eq rfl) (hb hby own_d_prog_34_method_1_code_1) (fun _ _ => ⟨rfl, e0, (by decide : 0 + 0 ≤ _), (by decide : 0 + 0 ≤ _)⟩)
  dsimp only [Pt.U, Pt.locs, Pt.cells, Pt.slots] at X1 l1 y1 z1 st1 hQ1
  subst l1 y1 z1
  obtain ⟨rfl, Nq1, e1⟩ := hQ1
  have N1 := Fr.app N0 Nq1
  have ch2 : ∀ t, Steps p.tables e below (T1.setTop (mkF m 4 #[.val (.ref b), .val (.ref w), .val (.ref q)] [])) t → Steps p.tables e below (s₁.setTop (entryFrame m #[(.ref b), (.ref w), (.ref q)] 3)) t := fun t k => pre0 t (by
      show Steps p.tables e below (s₁.setTop (mkF m 0 #[.val (.ref b), .val (.ref w), .val (.ref q)] [])) t
      refine XS.aloadN X0.here hx rfl (hb hby own_d_prog_34_method_1_code_0) rfl rfl ?_
      show Steps p.tables e below (s₁.setTop (mkF m 1 #[.val (.ref b), .val (.ref w), .val (.ref q)] [(.ref b)])) t
      exact st1.trans k)
  obtain ⟨T3, hp3, X3, e3, W3, st3⟩ := putF X1 hx hZ hown (host := "") (Or.inl (hw _ (List.mem_of_getElem? (i := 27) rfl))) Via.refl e1 F1 E (Or.inr ⟨(hw _ (List.mem_of_getElem? (i := 28) rfl)), rfl, hnm⟩) (hw _ (List.mem_of_getElem? (i := 13) rfl)) (ty := (.object "com/example/limpet/limpet/io/Status")) (by decide) rfl rfl (g := (mkF m 6 #[.val (.ref b), .val (.ref w), .val (.ref q)] [(.ref w), (.ref b)])) rfl rfl (hb hby own_d_prog_34_method_1_code_6)
  have ch4 : ∀ t, Steps p.tables e below (T3.setTop (mkF m 9 #[.val (.ref b), .val (.ref w), .val (.ref q)] [])) t → Steps p.tables e below (s₁.setTop (entryFrame m #[(.ref b), (.ref w), (.ref q)] 3)) t := fun t k => ch2 t (by
      show Steps p.tables e below (T1.setTop (mkF m 4 #[.val (.ref b), .val (.ref w), .val (.ref q)] [])) t
      refine XS.aloadN X1.here hx rfl (hb hby own_d_prog_34_method_1_code_4) rfl rfl ?_
      show Steps p.tables e below (T1.setTop (mkF m 5 #[.val (.ref b), .val (.ref w), .val (.ref q)] [(.ref b)])) t
      refine XS.aloadN X1.here hx rfl (hb hby own_d_prog_34_method_1_code_5) rfl rfl ?_
      show Steps p.tables e below (T1.setTop (mkF m 6 #[.val (.ref b), .val (.ref w), .val (.ref q)] [(.ref w), (.ref b)])) t
      exact st3 t k)
  have Fw3 := Fld.same W3 F1
  have N3 := Fr.snoc X3 N1 g
  have Kp3 := Keep.wr (Keep.refl h0 [b]) W3 (Or.inl (List.mem_of_getElem? (i := 0) rfl))
  have cf5 := (Fld.other W3 F2 (Or.inr (slot_ne (Or.inr (hw _ (List.mem_of_getElem? (i := 30) rfl))) (Or.inr (hw _ (List.mem_of_getElem? (i := 28) rfl))) (by decide) (t := (.array .byte)) (t' := (.object "com/example/limpet/limpet/io/Status")) (by decide) (by decide))))
  have cf6 := (Exa.wr W3 E)
  obtain ⟨T7, hp7, X7, e7, W7, st7⟩ := putF X3 hx hZ hown (host := "") (Or.inl (hw _ (List.mem_of_getElem? (i := 29) rfl))) Via.refl e3 cf5 cf6 (Or.inr ⟨(hw _ (List.mem_of_getElem? (i := 30) rfl)), rfl, hnm⟩) (hw _ (List.mem_of_getElem? (i := 13) rfl)) (ty := (.array .byte)) (by decide) rfl rfl (g := (mkF m 11 #[.val (.ref b), .val (.ref w), .val (.ref q)] [(.ref q), (.ref b)])) rfl rfl (hb hby own_d_prog_34_method_1_code_11)
  have ch8 : ∀ t, Steps p.tables e below (T7.setTop (mkF m 14 #[.val (.ref b), .val (.ref w), .val (.ref q)] [])) t → Steps p.tables e below (s₁.setTop (entryFrame m #[(.ref b), (.ref w), (.ref q)] 3)) t := fun t k => ch4 t (by
      show Steps p.tables e below (T3.setTop (mkF m 9 #[.val (.ref b), .val (.ref w), .val (.ref q)] [])) t
      refine XS.aloadN X3.here hx rfl (hb hby own_d_prog_34_method_1_code_9) rfl rfl ?_
      show Steps p.tables e below (T3.setTop (mkF m 10 #[.val (.ref b), .val (.ref w), .val (.ref q)] [(.ref b)])) t
      refine XS.aloadN X3.here hx rfl (hb hby own_d_prog_34_method_1_code_10) rfl rfl ?_
      show Steps p.tables e below (T3.setTop (mkF m 11 #[.val (.ref b), .val (.ref w), .val (.ref q)] [(.ref q), (.ref b)])) t
      exact st7 t k)
  have Fw7 := Fld.same W7 cf5
  have N7 := Fr.snoc X7 N3 g
  have Kp7 := Keep.wr Kp3 W7 (Or.inl (List.mem_of_getElem? (i := 0) rfl))
  have cf9 := (Exa.wr W7 cf6)
  have cf10 := (Fld.other W7 Fw3 (Or.inr (slot_ne (Or.inr (hw _ (List.mem_of_getElem? (i := 28) rfl))) (Or.inr (hw _ (List.mem_of_getElem? (i := 30) rfl))) (by decide) (t := (.object "com/example/limpet/limpet/io/Status")) (t' := (.array .byte)) (by decide) (by decide))))
  obtain ⟨fs, hr, hrun, hended, hW, hsame⟩ := X7.leave (v := none) (fun _ => rfl)
  refine ⟨_, _, ch8 _ ?_, hrun, hended, _, _, rfl, ?_, ⟨_, rfl⟩, hW, hsame.mono (by decide) (by decide)⟩
  · show Steps p.tables e below (T7.setTop (mkF m 14 #[.val (.ref b), .val (.ref w), .val (.ref q)] [])) _
    exact X7.returnOut hx Bd.returns (hb hby own_d_prog_34_method_1_code_14) hr
  · show QRi Z b w q h0 n0 _ T7.heap _
    rw [e7]
    exact ⟨rfl, N7, Kp7, cf9, cf10, Fw7⟩
theorem own_ef_own_of (m : MethodId) {x0 : Addr} : entryFrame m #[(.ref x0)] 1 = mkF m 0 #[.val (.ref x0)] [] := by first | (simp [entryFrame, mkF, argsToLocals, Value.category, maxLocals]; done) | rfl
set_option maxRecDepth 65536 in
set_option maxHeartbeats 40000000 in
theorem own_of (l : Launch) (Z : State) (a0 : Array Value) (hw : ∀ d ∈ tables_1, d.before a0 Z = true) (ws : List Jvm.Cond) (h0 : Heap) (n0 : Nat) (Z0 : n0 ≤ h0.size) (w : Addr) (ad : Nat → Addr) (a_EMPTY : Addr) (k_EMPTY : ClassId) (W : OwnWd Z h0 ad a_EMPTY k_EMPTY) :
    MetFree l (⟨"com/example/limpet/limpet/io/Response", "of", "(Lcom/example/limpet/limpet/io/Status;)Lcom/example/limpet/limpet/io/Response;"⟩ : MethodName) (head1 (Jvm.Cond.code (⟨"com/example/limpet/limpet/io/Response", "of", "(Lcom/example/limpet/limpet/io/Status;)Lcom/example/limpet/limpet/io/Response;"⟩ : MethodName) prog_34_method_2_code 1 (some (.object "com/example/limpet/limpet/io/Response")) :: ws) ({ frames := 3, cells := 1, slots := 2, locals := 39 } : Room)) (fun a U => a = #[(.ref w)] ∧ Z.Warmed39 U.vm ∧ U.heap = h0) (fun _ _ _ _ _ => True) (fun _ U o U' => ∃ v L, o = .returned v ∧ QRo Z w a_EMPTY h0 n0 v U'.heap L ∧ FrameEnd U o U' L ({ frames := 3, cells := 1, slots := 2, locals := 39 } : Room).cells ({ frames := 3, cells := 1, slots := 2, locals := 39 } : Room).slots) := by
  refine MetFree.of_bodySF (plainFor_of_name own_pn_com_example_limpet_limpet_io_Response) hisR ?_
  intro p e s m args below meth c s₁ Bd hml0 hP hK
  obtain ⟨rfl, hZ, hh⟩ := hP
  have hx := Bd.exec
  have hby := Bd.bytes
  have hml : c.maxLocals = 1 := hml0
  have hown : s.vm.findClass "com/example/limpet/limpet/io/Response" = some m.cls := findClass_of_methodNamed Bd.named
  have hnm := (name_of_methodNamed Bd.named Bd.method).1
  have X0 : Stand p l e ({ frames := 3, cells := 1, slots := 2, locals := 39 } : Room) s m #[(.ref w)] below meth c s₁ [] 0 0 := Stand.of_body Bd
  have e0 : s₁.heap = h0 := by rw [← hh, Bd.state]; rfl
  have N0 := Fr.nil n0
  have pre0 : ∀ t, Steps p.tables e below (s₁.setTop (mkF m 0 #[.val (.ref w)] [])) t → Steps p.tables e below (s₁.setTop (entryFrame m #[(.ref w)] 1)) t := fun t k => castTop (own_ef_own_of m) k
  obtain ⟨T1, hp1, X1, e1, E1, A1, D1, -, st1⟩ := newO X0 hx hZ hown (hw _ (List.mem_of_getElem? (i := 12) rfl)) (hw _ (List.mem_of_getElem? (i := 13) rfl)) (hw _ (List.mem_of_getElem? (i := 10) rfl)) e0 (g := (mkF m 0 #[.val (.ref w)] [])) rfl (hb hby own_d_prog_34_method_2_code_0) (by decide) (by decide)
  obtain ⟨b1, g1⟩ : ∃ z, z = h0.size := ⟨_, rfl⟩
  rw [← g1] at A1 D1 st1
  have ne_ad0_b1 : (ad 0) ≠ b1 := Nat.ne_of_lt (Nat.lt_of_lt_of_le (own_E_OK W).lt (Nat.le_of_eq g1.symm))
  have ne_ad1_b1 : (ad 1) ≠ b1 := Nat.ne_of_lt (Nat.lt_of_lt_of_le (own_E_FAILED W).lt (Nat.le_of_eq g1.symm))
  have ne_ad2_b1 : (ad 2) ≠ b1 := Nat.ne_of_lt (Nat.lt_of_lt_of_le (own_E_NOT_FOUND W).lt (Nat.le_of_eq g1.symm))
  have ne_ad3_b1 : (ad 3) ≠ b1 := Nat.ne_of_lt (Nat.lt_of_lt_of_le (own_E_BAD_REQUEST W).lt (Nat.le_of_eq g1.symm))
  have ne_ad4_b1 : (ad 4) ≠ b1 := Nat.ne_of_lt (Nat.lt_of_lt_of_le (own_E_TOO_MANY_KEYS W).lt (Nat.le_of_eq g1.symm))
  have ne_ad5_b1 : (ad 5) ≠ b1 := Nat.ne_of_lt (Nat.lt_of_lt_of_le (own_E_UNSUPPORTED_KEY W).lt (Nat.le_of_eq g1.symm))
  have ne_ad6_b1 : (ad 6) ≠ b1 := Nat.ne_of_lt (Nat.lt_of_lt_of_le (own_E_TOO_MANY_GRANTS W).lt (Nat.le_of_eq g1.symm))
  have ne_ad7_b1 : (ad 7) ≠ b1 := Nat.ne_of_lt (Nat.lt_of_lt_of_le (own_E_GRANT_NOT_FOUND W).lt (Nat.le_of_eq g1.symm))
  have ne_ad8_b1 : (ad 8) ≠ b1 := Nat.ne_of_lt (Nat.lt_of_lt_of_le (own_E_PERMISSION_DENIED W).lt (Nat.le_of_eq g1.symm))
  have ne_a_EMPTY_b1 : a_EMPTY ≠ b1 := Nat.ne_of_lt (Nat.lt_of_lt_of_le (own_V_EMPTY W).lt (Nat.le_of_eq g1.symm))
  have g_b1 : n0 ≤ b1 := Nat.le_trans (Nat.le_trans Z0 (Keep.refl h0 []).1) (Nat.le_of_eq g1.symm)
  have sz_b1 : h0.size ≤ b1 := Nat.le_trans (Keep.refl h0 []).1 (Nat.le_of_eq g1.symm)
  have Kp1 := Keep.ext (Keep.refl h0 []) E1
  have F1_28 : Fld Z hp1 b1 "com/example/limpet/limpet/io/Response" "status" "Lcom/example/limpet/limpet/io/Status;" .null := D1 (Or.inr (hw _ (List.mem_of_getElem? (i := 28) rfl))) (ty := (.object "com/example/limpet/limpet/io/Status")) (by decide)
  have F1_30 : Fld Z hp1 b1 "com/example/limpet/limpet/io/Response" "payload" "[B" .null := D1 (Or.inr (hw _ (List.mem_of_getElem? (i := 30) rfl))) (ty := (.array .byte)) (by decide)
  have ch2 : ∀ t, Steps p.tables e below (T1.setTop (mkF m 3 #[.val (.ref w)] [(.ref b1)])) t → Steps p.tables e below (s₁.setTop (entryFrame m #[(.ref w)] 1)) t := fun t k => pre0 t (by
      show Steps p.tables e below (s₁.setTop (mkF m 0 #[.val (.ref w)] [])) t
      exact st1 t k)
  have cf3 := (own_sta_keep (own_S_EMPTY W) Kp1 all0)
  obtain ⟨T4, X4, e4, st4⟩ := getS2 X1 hx hZ hown (host := "") (Or.inl (hw _ (List.mem_of_getElem? (i := 14) rfl))) Via.refl e1 cf3 (g := (mkF m 5 #[.val (.ref w)] [(.ref w), (.ref b1), (.ref b1)])) rfl (hb hby own_d_prog_34_method_2_code_5)
  have ch5 : ∀ t, Steps p.tables e below (T4.setTop (mkF m 8 #[.val (.ref w)] [(.ref a_EMPTY), (.ref w), (.ref b1), (.ref b1)])) t → Steps p.tables e below (s₁.setTop (entryFrame m #[(.ref w)] 1)) t := fun t k => ch2 t (by
      show Steps p.tables e below (T1.setTop (mkF m 3 #[.val (.ref w)] [(.ref b1)])) t
      refine XS.dup X1.here hx rfl (hb hby own_d_prog_34_method_2_code_3) rfl rfl ?_
      show Steps p.tables e below (T1.setTop (mkF m 4 #[.val (.ref w)] [(.ref b1), (.ref b1)])) t
      refine XS.aloadN X1.here hx rfl (hb hby own_d_prog_34_method_2_code_4) rfl rfl ?_
      show Steps p.tables e below (T1.setTop (mkF m 5 #[.val (.ref w)] [(.ref w), (.ref b1), (.ref b1)])) t
      exact st4 t k)
  obtain ⟨vv6, _, ⟨T6, L6, kk6, nn6⟩, -, X6, ⟨Lc6, hQ6, l6, y6, z6⟩, st6⟩ := X4.specialBack hx (y := (⟨"com/example/limpet/limpet/io/Response", "<init>", "(Lcom/example/limpet/limpet/io/Status;[B)V"⟩ : MethodName)) rfl hown (mvT hZ (hw _ (List.mem_of_getElem? (i := 16) rfl))) (mvT hZ (hw _ (List.mem_of_getElem? (i := 17) rfl))) (mvT hZ (hw _ (List.mem_of_getElem? (i := 18) rfl))) (by decide) (backOf (W := 1) (own_ini l Z a0 hw [] hp1 n0 (Nat.le_trans Z0 Kp1.1) b1 w a_EMPTY A1 F1_28 F1_30 g_b1) hZ (hw _ (List.mem_of_getElem? (i := 18) rfl)) (hw _ (List.mem_of_getElem? (i := 10) rfl)) (by decide) (by decide)) (g := (mkF m 8 #[.val (.ref w)] [(.ref a_EMPTY), (.ref w), (.ref b1), (.ref b1)])) rfl (by rw [hml]; rfl) (Steps.refl _) (a := b1) (argsL := [(.ref w), (.ref a_EMPTY)]) (rest := [(.ref b1)]) (lenOf own_pd__Lcom_example_limpet_limpet_io_Status__B_V rfl) rfl (by show 2 * 0 + _ ≤ _; exact Nat.le_of_eq rfl) (hb hby own_d_prog_34_method_2_code_8) (fun _ _ => ⟨rfl, e4, (by decide : 1 + 0 ≤ _), (by decide : 2 + 0 ≤ _)⟩)
  dsimp only [Pt.U, Pt.locs, Pt.cells, Pt.slots] at X6 l6 y6 z6 st6 hQ6
  subst l6 y6 z6
  obtain ⟨hh6, eh6⟩ : ∃ h, T6.heap = h := ⟨_, rfl⟩
  rw [eh6] at hQ6
  obtain ⟨rfl, Nq6, Kq6, fq6_0, fq6_1, fq6_2⟩ := hQ6
  have N6 := Fr.app N0 Nq6
  have Kp6 := Keep.trans Kp1 Kq6 (allS (Or.inr sz_b1) all0)
  have ch7 : ∀ t, Steps p.tables e below (T6.setTop (mkF m 11 #[.val (.ref w)] [(.ref b1)])) t → Steps p.tables e below (s₁.setTop (entryFrame m #[(.ref w)] 1)) t := fun t k => ch5 t (by
      show Steps p.tables e below (T4.setTop (mkF m 8 #[.val (.ref w)] [(.ref a_EMPTY), (.ref w), (.ref b1), (.ref b1)])) t
      exact st6.trans k)
  obtain ⟨fs, hr, hrun, hended, hW, hsame⟩ := X6.leave (v := some (.ref b1)) (fun h => by rw [Bd.returns] at h; cases h)
  refine ⟨_, _, ch7 _ ?_, hrun, hended, _, _, rfl, ?_, ⟨_, rfl⟩, hW, hsame.mono (by decide) (by decide)⟩
  · show Steps p.tables e below (T6.setTop (mkF m 11 #[.val (.ref w)] [(.ref b1)])) _
    jvm_step X6.here [X6.here.top, hx, (hb hby own_d_prog_34_method_2_code_11), X6.method', Bd.returns, Value.isRef, FieldType.isReference]
    first | (intro acts; rw [hr _ acts rfl rfl rfl]) | rw [hr _ _ rfl rfl rfl]
    exact Steps.refl _
  · show QRo Z w a_EMPTY h0 n0 _ T6.heap _
    rw [eh6]
    exact ⟨_, rfl, sz_b1, N6, Kp6, fq6_0, fq6_1, fq6_2⟩
theorem own_ef_own_pay (m : MethodId) {x0 : Addr} : entryFrame m #[(.ref x0)] 1 = mkF m 0 #[.val (.ref x0)] [] := by first | (simp [entryFrame, mkF, argsToLocals, Value.category, maxLocals]; done) | rfl
set_option maxRecDepth 65536 in
set_option maxHeartbeats 40000000 in
theorem own_pay (l : Launch) (Z : State) (a0 : Array Value) (hw : ∀ d ∈ tables_1, d.before a0 Z = true) (ws : List Jvm.Cond) (h0 : Heap) (n0 : Nat) (Z0 : n0 ≤ h0.size) (b q : Addr) (F2 : Fld Z h0 b "com/example/limpet/limpet/io/Response" "payload" "[B" (.ref q)) :
    MetFree l (⟨"com/example/limpet/limpet/io/Response", "payload", "()[B"⟩ : MethodName) (head1 (Jvm.Cond.code (⟨"com/example/limpet/limpet/io/Response", "payload", "()[B"⟩ : MethodName) prog_34_method_14_code 1 (some (.array .byte)) :: ws) ({ frames := 0, cells := 0, slots := 0, locals := 0 } : Room)) (fun a U => a = #[(.ref b)] ∧ Z.Warmed39 U.vm ∧ U.heap = h0) (fun _ _ _ _ _ => True) (fun _ U o U' => ∃ v L, o = .returned v ∧ QV (some (.ref q)) h0 n0 v U'.heap L ∧ FrameEnd U o U' L ({ frames := 0, cells := 0, slots := 0, locals := 0 } : Room).cells ({ frames := 0, cells := 0, slots := 0, locals := 0 } : Room).slots) := by
  refine MetFree.of_bodySF (plainFor_of_name own_pn_com_example_limpet_limpet_io_Response) hisR ?_
  intro p e s m args below meth c s₁ Bd hml0 hP hK
  obtain ⟨rfl, hZ, hh⟩ := hP
  have hx := Bd.exec
  have hby := Bd.bytes
  have hml : c.maxLocals = 1 := hml0
  have hown : s.vm.findClass "com/example/limpet/limpet/io/Response" = some m.cls := findClass_of_methodNamed Bd.named
  have hnm := (name_of_methodNamed Bd.named Bd.method).1
  have X0 : Stand p l e ({ frames := 0, cells := 0, slots := 0, locals := 0 } : Room) s m #[(.ref b)] below meth c s₁ [] 0 0 := Stand.of_body Bd
  have e0 : s₁.heap = h0 := by rw [← hh, Bd.state]; rfl
  have N0 := Fr.nil n0
  have pre0 : ∀ t, Steps p.tables e below (s₁.setTop (mkF m 0 #[.val (.ref b)] [])) t → Steps p.tables e below (s₁.setTop (entryFrame m #[(.ref b)] 1)) t := fun t k => castTop (own_ef_own_pay m) k
  obtain ⟨T1, X1, e1, st1⟩ := getF X0 hx hZ hown (host := "") (Or.inl (hw _ (List.mem_of_getElem? (i := 29) rfl))) Via.refl e0 F2 (g := (mkF m 1 #[.val (.ref b)] [(.ref b)])) rfl rfl (hb hby own_d_prog_34_method_14_code_1)
  have ch2 : ∀ t, Steps p.tables e below (T1.setTop (mkF m 4 #[.val (.ref b)] [(.ref q)])) t → Steps p.tables e below (s₁.setTop (entryFrame m #[(.ref b)] 1)) t := fun t k => pre0 t (by
      show Steps p.tables e below (s₁.setTop (mkF m 0 #[.val (.ref b)] [])) t
      refine XS.aloadN X0.here hx rfl (hb hby own_d_prog_34_method_14_code_0) rfl rfl ?_
      show Steps p.tables e below (s₁.setTop (mkF m 1 #[.val (.ref b)] [(.ref b)])) t
      exact st1 t k)
  obtain ⟨fs, hr, hrun, hended, hW, hsame⟩ := X1.leave (v := some (.ref q)) (fun h => by rw [Bd.returns] at h; cases h)
  refine ⟨_, _, ch2 _ ?_, hrun, hended, _, _, rfl, ?_, ⟨_, rfl⟩, hW, hsame.mono (by decide) (by decide)⟩
  · show Steps p.tables e below (T1.setTop (mkF m 4 #[.val (.ref b)] [(.ref q)])) _
    jvm_step X1.here [X1.here.top, hx, (hb hby own_d_prog_34_method_14_code_4), X1.method', Bd.returns, Value.isRef, FieldType.isReference]
    first | (intro acts; rw [hr _ acts rfl rfl rfl]) | rw [hr _ _ rfl rfl rfl]
    exact Steps.refl _
  · show QV (some (.ref q)) h0 n0 _ T1.heap _
    rw [e1]
    exact ⟨rfl, N0, rfl⟩
theorem own_ef_own_sta (m : MethodId) {x0 : Addr} : entryFrame m #[(.ref x0)] 1 = mkF m 0 #[.val (.ref x0)] [] := by first | (simp [entryFrame, mkF, argsToLocals, Value.category, maxLocals]; done) | rfl
set_option maxRecDepth 65536 in
set_option maxHeartbeats 40000000 in
theorem own_sta (l : Launch) (Z : State) (a0 : Array Value) (hw : ∀ d ∈ tables_1, d.before a0 Z = true) (ws : List Jvm.Cond) (h0 : Heap) (n0 : Nat) (Z0 : n0 ≤ h0.size) (b w : Addr) (F1 : Fld Z h0 b "com/example/limpet/limpet/io/Response" "status" "Lcom/example/limpet/limpet/io/Status;" (.ref w)) :
    MetFree l (⟨"com/example/limpet/limpet/io/Response", "status", "()Lcom/example/limpet/limpet/io/Status;"⟩ : MethodName) (head1 (Jvm.Cond.code (⟨"com/example/limpet/limpet/io/Response", "status", "()Lcom/example/limpet/limpet/io/Status;"⟩ : MethodName) prog_34_method_13_code 1 (some (.object "com/example/limpet/limpet/io/Status")) :: ws) ({ frames := 0, cells := 0, slots := 0, locals := 0 } : Room)) (fun a U => a = #[(.ref b)] ∧ Z.Warmed39 U.vm ∧ U.heap = h0) (fun _ _ _ _ _ => True) (fun _ U o U' => ∃ v L, o = .returned v ∧ QV (some (.ref w)) h0 n0 v U'.heap L ∧ FrameEnd U o U' L ({ frames := 0, cells := 0, slots := 0, locals := 0 } : Room).cells ({ frames := 0, cells := 0, slots := 0, locals := 0 } : Room).slots) := by
  refine MetFree.of_bodySF (plainFor_of_name own_pn_com_example_limpet_limpet_io_Response) hisR ?_
  intro p e s m args below meth c s₁ Bd hml0 hP hK
  obtain ⟨rfl, hZ, hh⟩ := hP
  have hx := Bd.exec
  have hby := Bd.bytes
  have hml : c.maxLocals = 1 := hml0
  have hown : s.vm.findClass "com/example/limpet/limpet/io/Response" = some m.cls := findClass_of_methodNamed Bd.named
  have hnm := (name_of_methodNamed Bd.named Bd.method).1
  have X0 : Stand p l e ({ frames := 0, cells := 0, slots := 0, locals := 0 } : Room) s m #[(.ref b)] below meth c s₁ [] 0 0 := Stand.of_body Bd
  have e0 : s₁.heap = h0 := by rw [← hh, Bd.state]; rfl
  have N0 := Fr.nil n0
  have pre0 : ∀ t, Steps p.tables e below (s₁.setTop (mkF m 0 #[.val (.ref b)] [])) t → Steps p.tables e below (s₁.setTop (entryFrame m #[(.ref b)] 1)) t := fun t k => castTop (own_ef_own_sta m) k
  obtain ⟨T1, X1, e1, st1⟩ := getF X0 hx hZ hown (host := "") (Or.inl (hw _ (List.mem_of_getElem? (i := 27) rfl))) Via.refl e0 F1 (g := (mkF m 1 #[.val (.ref b)] [(.ref b)])) rfl rfl (hb hby own_d_prog_34_method_13_code_1)
  have ch2 : ∀ t, Steps p.tables e below (T1.setTop (mkF m 4 #[.val (.ref b)] [(.ref w)])) t → Steps p.tables e below (s₁.setTop (entryFrame m #[(.ref b)] 1)) t := fun t k => pre0 t (by
      show Steps p.tables e below (s₁.setTop (mkF m 0 #[.val (.ref b)] [])) t
      refine XS.aloadN X0.here hx rfl (hb hby own_d_prog_34_method_13_code_0) rfl rfl ?_
      show Steps p.tables e below (s₁.setTop (mkF m 1 #[.val (.ref b)] [(.ref b)])) t
      exact st1 t k)
  obtain ⟨fs, hr, hrun, hended, hW, hsame⟩ := X1.leave (v := some (.ref w)) (fun h => by rw [Bd.returns] at h; cases h)
  refine ⟨_, _, ch2 _ ?_, hrun, hended, _, _, rfl, ?_, ⟨_, rfl⟩, hW, hsame.mono (by decide) (by decide)⟩
  · show Steps p.tables e below (T1.setTop (mkF m 4 #[.val (.ref b)] [(.ref w)])) _
    jvm_step X1.here [X1.here.top, hx, (hb hby own_d_prog_34_method_13_code_4), X1.method', Bd.returns, Value.isRef, FieldType.isReference]
    first | (intro acts; rw [hr _ acts rfl rfl rfl]) | rw [hr _ _ rfl rfl rfl]
    exact Steps.refl _
  · show QV (some (.ref w)) h0 n0 _ T1.heap _
    rw [e1]
    exact ⟨rfl, N0, rfl⟩
theorem own_ef_own_pick_0 (m : MethodId) {x0 : Int32} : entryFrame m #[(.int x0)] 1 = mkF m 0 #[.val (.int x0)] [] := by first | (simp [entryFrame, mkF, argsToLocals, Value.category, maxLocals]; done) | rfl
set_option maxRecDepth 65536 in
set_option maxHeartbeats 40000000 in
theorem own_pick_0 (l : Launch) (Z : State) (a0 : Array Value) (hw : ∀ d ∈ tables_1, d.before a0 Z = true) (ws : List Jvm.Cond) (h0 : Heap) (n0 : Nat) (Z0 : n0 ≤ h0.size) (ad : Nat → Addr) (a_EMPTY : Addr) (k_EMPTY : ClassId) (W : OwnWd Z h0 ad a_EMPTY k_EMPTY) :
    MetFree l (⟨"com/example/limpet/limpet/io/ResponseOfPinLaw", "pick", "(I)Lcom/example/limpet/limpet/io/Status;"⟩ : MethodName) (head1 (Jvm.Cond.code (⟨"com/example/limpet/limpet/io/ResponseOfPinLaw", "pick", "(I)Lcom/example/limpet/limpet/io/Status;"⟩ : MethodName) method_2_code 1 (some (.object "com/example/limpet/limpet/io/Status")) :: ws) ({ frames := 0, cells := 0, slots := 0, locals := 0 } : Room)) (fun a U => a = #[(.int (0 : Int32))] ∧ Z.Warmed39 U.vm ∧ U.heap = h0) (fun _ _ _ _ _ => True) (fun _ U o U' => ∃ v L, o = .returned v ∧ QV (some (.ref (ad 0))) h0 n0 v U'.heap L ∧ FrameEnd U o U' L ({ frames := 0, cells := 0, slots := 0, locals := 0 } : Room).cells ({ frames := 0, cells := 0, slots := 0, locals := 0 } : Room).slots) := by
  refine MetFree.of_bodySF (plainFor_of_name own_pn_com_example_limpet_limpet_io_ResponseOfPinLaw) hisR ?_
  intro p e s m args below meth c s₁ Bd hml0 hP hK
  obtain ⟨rfl, hZ, hh⟩ := hP
  have hx := Bd.exec
  have hby := Bd.bytes
  have hml : c.maxLocals = 1 := hml0
  have hown : s.vm.findClass "com/example/limpet/limpet/io/ResponseOfPinLaw" = some m.cls := findClass_of_methodNamed Bd.named
  have hnm := (name_of_methodNamed Bd.named Bd.method).1
  have X0 : Stand p l e ({ frames := 0, cells := 0, slots := 0, locals := 0 } : Room) s m #[(.int (0 : Int32))] below meth c s₁ [] 0 0 := Stand.of_body Bd
  have e0 : s₁.heap = h0 := by rw [← hh, Bd.state]; rfl
  have N0 := Fr.nil n0
  have pre0 : ∀ t, Steps p.tables e below (s₁.setTop (mkF m 0 #[.val (.int (0 : Int32))] [])) t → Steps p.tables e below (s₁.setTop (entryFrame m #[(.int (0 : Int32))] 1)) t := fun t k => castTop (own_ef_own_pick_0 m) k
  obtain ⟨T1, X1, e1, st1⟩ := getS2 X0 hx hZ hown (host := "") (Or.inl (hw _ (List.mem_of_getElem? (i := 5) rfl))) Via.refl e0 (own_S_OK W) (g := (mkF m 4 #[.val (.int (0 : Int32))] [])) rfl (hb hby own_d_method_2_code_4)
  have ch2 : ∀ t, Steps p.tables e below (T1.setTop (mkF m 7 #[.val (.int (0 : Int32))] [(.ref (ad 0))])) t → Steps p.tables e below (s₁.setTop (entryFrame m #[(.int (0 : Int32))] 1)) t := fun t k => pre0 t (by
      show Steps p.tables e below (s₁.setTop (mkF m 0 #[.val (.int (0 : Int32))] [])) t
      refine XS.iloadN X0.here hx rfl (hb hby own_d_method_2_code_0) rfl ?_
      show Steps p.tables e below (s₁.setTop (mkF m 1 #[.val (.int (0 : Int32))] [(.int (0 : Int32))])) t
      refine XS.ifNo X0.here hx rfl (hb hby own_d_method_2_code_1) rfl ((if0 _ _).trans (teq (by decide : (0 : Int32) = (0 : Int32))).2) ?_
      show Steps p.tables e below (s₁.setTop (mkF m 4 #[.val (.int (0 : Int32))] [])) t
      exact st1 t k)
  obtain ⟨fs, hr, hrun, hended, hW, hsame⟩ := X1.leave (v := some (.ref (ad 0))) (fun h => by rw [Bd.returns] at h; cases h)
  refine ⟨_, _, ch2 _ ?_, hrun, hended, _, _, rfl, ?_, ⟨_, rfl⟩, hW, hsame.mono (by decide) (by decide)⟩
  · show Steps p.tables e below (T1.setTop (mkF m 7 #[.val (.int (0 : Int32))] [(.ref (ad 0))])) _
    jvm_step X1.here [X1.here.top, hx, (hb hby own_d_method_2_code_7), X1.method', Bd.returns, Value.isRef, FieldType.isReference]
    first | (intro acts; rw [hr _ acts rfl rfl rfl]) | rw [hr _ _ rfl rfl rfl]
    exact Steps.refl _
  · show QV (some (.ref (ad 0))) h0 n0 _ T1.heap _
    rw [e1]
    exact ⟨rfl, N0, rfl⟩
theorem own_ef_own_law_0 (m : MethodId) {x0 : Int32} : entryFrame m #[(.int x0)] maxLocals = mkF m 0 #[.val (.int x0), .unset, .unset, .unset, .unset] [] := by first | (simp [entryFrame, mkF, argsToLocals, Value.category, maxLocals]; done) | rfl
set_option maxRecDepth 65536 in
set_option maxHeartbeats 40000000 in
theorem own_law_0 (l : Launch) (Z : State) (a0 : Array Value) (hw : ∀ d ∈ tables_1, d.before a0 Z = true) (ws : List Jvm.Cond) (h0 : Heap) (n0 : Nat) (Z0 : n0 ≤ h0.size) (p1 : Int32) (hk : (p1 &&& (2147483647 : Int32)) % (9 : Int32) = (0 : Int32)) (ad : Nat → Addr) (a_EMPTY : Addr) (k_EMPTY : ClassId) (W : OwnWd Z h0 ad a_EMPTY k_EMPTY) :
    MetFree l x (head1 (Jvm.Cond.code x code maxLocals ret :: ws) room_1) (fun a U => a = #[(.int p1)] ∧ Z.Warmed39 U.vm ∧ U.heap = h0) (fun _ _ _ _ _ => True) (fun _ U o U' => ∃ v L, o = .returned v ∧ QN (some (.int (1 : Int32))) n0 v U'.heap L ∧ FrameEnd U o U' L room_1.cells room_1.slots) := by
  refine MetFree.of_bodySF (plainFor_of_name own_pn_com_example_limpet_limpet_io_ResponseOfPinLaw) hisR ?_
  intro p e s m args below meth c s₁ Bd hml0 hP hK
  obtain ⟨rfl, hZ, hh⟩ := hP
  have hx := Bd.exec
  have hby := Bd.bytes
  have hml : c.maxLocals = 5 := hml0
  have hown : s.vm.findClass "com/example/limpet/limpet/io/ResponseOfPinLaw" = some m.cls := findClass_of_methodNamed Bd.named
  have hnm := (name_of_methodNamed Bd.named Bd.method).1
  have X0 : Stand p l e room_1 s m #[(.int p1)] below meth c s₁ [] 0 0 := Stand.of_body Bd
  have e0 : s₁.heap = h0 := by rw [← hh, Bd.state]; rfl
  have N0 := Fr.nil n0
  have pre0 : ∀ t, Steps p.tables e below (s₁.setTop (mkF m 0 #[.val (.int p1), .unset, .unset, .unset, .unset] [])) t → Steps p.tables e below (s₁.setTop (entryFrame m #[(.int p1)] maxLocals)) t := fun t k => castTop (own_ef_own_law_0 m) k
  obtain ⟨vv1, _, ⟨T1, L1, kk1, nn1⟩, -, X1, ⟨Lc1, hQ1, l1, y1, z1⟩, st1⟩ := Jvm.LawKit.callS X0 hx (y := (⟨"com/example/limpet/limpet/io/ResponseOfPinLaw", "pick", "(I)Lcom/example/limpet/limpet/io/Status;"⟩ : MethodName)) hown (mvT hZ (hw _ (List.mem_of_getElem? (i := 1) rfl))) (mvT hZ (hw _ (List.mem_of_getElem? (i := 2) rfl))) (mvT hZ (hw _ (List.mem_of_getElem? (i := 3) rfl))) (mvT hZ (hw _ (List.mem_of_getElem? (i := 4) rfl))) (by decide) (backOf (W := 0) (own_pick_0 l Z a0 hw [] h0 n0 Z0 ad a_EMPTY k_EMPTY W) hZ (hw _ (List.mem_of_getElem? (i := 4) rfl)) (hw _ (List.mem_of_getElem? (i := 3) rfl)) (by decide) (by decide)) (g := (mkF m 9 #[.val (.int p1), .val (.int (0 : Int32)), .unset, .unset, .unset] [(.int (0 : Int32))])) rfl (by rw [hml]; rfl) (argsL := [(.int (0 : Int32))]) (rest := []) (lenOf own_pd__I_Lcom_example_limpet_limpet_io_Status_ rfl) rfl (by show 2 * 0 + _ ≤ _; exact Nat.le_of_eq rfl) (hb hby at_9) (fun _ _ => ⟨rfl, e0, (by decide : 0 + 0 ≤ _), (by decide : 0 + 0 ≤ _)⟩)
  dsimp only [Pt.U, Pt.locs, Pt.cells, Pt.slots] at X1 l1 y1 z1 st1 hQ1
  subst l1 y1 z1
  obtain ⟨rfl, Nq1, e1⟩ := hQ1
  have N1 := Fr.app N0 Nq1
  have ch2 : ∀ t, Steps p.tables e below (T1.setTop (mkF m 12 #[.val (.int p1), .val (.int (0 : Int32)), .unset, .unset, .unset] [(.ref (ad 0))])) t → Steps p.tables e below (s₁.setTop (entryFrame m #[(.int p1)] maxLocals)) t := fun t k => pre0 t (by
      show Steps p.tables e below (s₁.setTop (mkF m 0 #[.val (.int p1), .unset, .unset, .unset, .unset] [])) t
      refine XS.iloadN X0.here hx rfl (hb hby at_0) rfl ?_
      show Steps p.tables e below (s₁.setTop (mkF m 1 #[.val (.int p1), .unset, .unset, .unset, .unset] [(.int p1)])) t
      refine X0.ldcInt hx hown (mvT hZ (hw _ (List.mem_of_getElem? (i := 0) rfl))) (g := (mkF m 1 #[.val (.int p1), .unset, .unset, .unset, .unset] [(.int p1)])) rfl (hb hby at_1) _ ?_
      show Steps p.tables e below (s₁.setTop (mkF m 3 #[.val (.int p1), .unset, .unset, .unset, .unset] [(.int (2147483647 : Int32)), (.int p1)])) t
      refine XS.iand X0.here hx rfl (hb hby at_3) rfl ?_
      show Steps p.tables e below (s₁.setTop (mkF m 4 #[.val (.int p1), .unset, .unset, .unset, .unset] [(.int (p1 &&& (2147483647 : Int32)))])) t
      refine XS.bipush X0.here hx rfl (hb hby at_4) ?_
      show Steps p.tables e below (s₁.setTop (mkF m 6 #[.val (.int p1), .unset, .unset, .unset, .unset] [(.int (9 : Int32)), (.int (p1 &&& (2147483647 : Int32)))])) t
      refine Jvm.RoadKit.iremM (g := (mkF m 6 #[.val (.int p1), .unset, .unset, .unset, .unset] [(.int (9 : Int32)), (.int (p1 &&& (2147483647 : Int32)))])) X0 hx rfl (hb hby at_6) rfl (by decide) ?_
      rw [hk]
      show Steps p.tables e below (s₁.setTop (mkF m 7 #[.val (.int p1), .unset, .unset, .unset, .unset] [(.int (0 : Int32))])) t
      refine XS.istoreN X0.here hx rfl (hb hby at_7) rfl (l' := #[.val (.int p1), .val (.int (0 : Int32)), .unset, .unset, .unset]) rfl ?_
      show Steps p.tables e below (s₁.setTop (mkF m 8 #[.val (.int p1), .val (.int (0 : Int32)), .unset, .unset, .unset] [])) t
      refine XS.iloadN X0.here hx rfl (hb hby at_8) rfl ?_
      show Steps p.tables e below (s₁.setTop (mkF m 9 #[.val (.int p1), .val (.int (0 : Int32)), .unset, .unset, .unset] [(.int (0 : Int32))])) t
      exact st1 t k)
  obtain ⟨vv3, _, ⟨T3, L3, kk3, nn3⟩, -, X3, ⟨Lc3, hQ3, l3, y3, z3⟩, st3⟩ := Jvm.LawKit.callS X1 hx (y := (⟨"com/example/limpet/limpet/io/Response", "of", "(Lcom/example/limpet/limpet/io/Status;)Lcom/example/limpet/limpet/io/Response;"⟩ : MethodName)) hown (mvT hZ (hw _ (List.mem_of_getElem? (i := 8) rfl))) (mvT hZ (hw _ (List.mem_of_getElem? (i := 9) rfl))) (mvT hZ (hw _ (List.mem_of_getElem? (i := 10) rfl))) (mvT hZ (hw _ (List.mem_of_getElem? (i := 11) rfl))) (by decide) (backOf (W := 0) (own_of l Z a0 hw [] h0 n0 (Nat.le_trans Z0 (Keep.refl h0 []).1) (ad 0) ad a_EMPTY k_EMPTY W) hZ (hw _ (List.mem_of_getElem? (i := 11) rfl)) (hw _ (List.mem_of_getElem? (i := 10) rfl)) (by decide) (by decide)) (g := (mkF m 14 #[.val (.int p1), .val (.int (0 : Int32)), .val (.ref (ad 0)), .unset, .unset] [(.ref (ad 0))])) rfl (by rw [hml]; rfl) (argsL := [(.ref (ad 0))]) (rest := []) (lenOf own_pd__Lcom_example_limpet_limpet_io_Status__Lcom_example_limpet_limpet_io_Response_ rfl) rfl (by show 2 * 0 + _ ≤ _; exact Nat.le_of_eq rfl) (hb hby at_14) (fun _ _ => ⟨rfl, e1, (by decide : 0 + 1 ≤ _), (by decide : 0 + 2 ≤ _)⟩)
  dsimp only [Pt.U, Pt.locs, Pt.cells, Pt.slots] at X3 l3 y3 z3 st3 hQ3
  subst l3 y3 z3
  obtain ⟨hh3, eh3⟩ : ∃ h, T3.heap = h := ⟨_, rfl⟩
  rw [eh3] at hQ3
  obtain ⟨rb, rfl, zq3, Nq3, Kq3, fq3_0, fq3_1, fq3_2⟩ := hQ3
  have N3 := Fr.app N1 Nq3
  have ne_ad0_rb : (ad 0) ≠ rb := Nat.ne_of_lt (Nat.lt_of_lt_of_le (own_E_OK W).lt zq3)
  have ne_ad1_rb : (ad 1) ≠ rb := Nat.ne_of_lt (Nat.lt_of_lt_of_le (own_E_FAILED W).lt zq3)
  have ne_ad2_rb : (ad 2) ≠ rb := Nat.ne_of_lt (Nat.lt_of_lt_of_le (own_E_NOT_FOUND W).lt zq3)
  have ne_ad3_rb : (ad 3) ≠ rb := Nat.ne_of_lt (Nat.lt_of_lt_of_le (own_E_BAD_REQUEST W).lt zq3)
  have ne_ad4_rb : (ad 4) ≠ rb := Nat.ne_of_lt (Nat.lt_of_lt_of_le (own_E_TOO_MANY_KEYS W).lt zq3)
  have ne_ad5_rb : (ad 5) ≠ rb := Nat.ne_of_lt (Nat.lt_of_lt_of_le (own_E_UNSUPPORTED_KEY W).lt zq3)
  have ne_ad6_rb : (ad 6) ≠ rb := Nat.ne_of_lt (Nat.lt_of_lt_of_le (own_E_TOO_MANY_GRANTS W).lt zq3)
  have ne_ad7_rb : (ad 7) ≠ rb := Nat.ne_of_lt (Nat.lt_of_lt_of_le (own_E_GRANT_NOT_FOUND W).lt zq3)
  have ne_ad8_rb : (ad 8) ≠ rb := Nat.ne_of_lt (Nat.lt_of_lt_of_le (own_E_PERMISSION_DENIED W).lt zq3)
  have ne_a_EMPTY_rb : a_EMPTY ≠ rb := Nat.ne_of_lt (Nat.lt_of_lt_of_le (own_V_EMPTY W).lt zq3)
  have g_rb : n0 ≤ rb := Nat.le_trans (Nat.le_trans Z0 (Keep.refl h0 []).1) zq3
  have sz_rb : h0.size ≤ rb := Nat.le_trans (Keep.refl h0 []).1 zq3
  have Kp3 := Keep.trans (Keep.refl h0 []) Kq3 all0
  have ch4 : ∀ t, Steps p.tables e below (T3.setTop (mkF m 17 #[.val (.int p1), .val (.int (0 : Int32)), .val (.ref (ad 0)), .unset, .unset] [(.ref rb)])) t → Steps p.tables e below (s₁.setTop (entryFrame m #[(.int p1)] maxLocals)) t := fun t k => ch2 t (by
      show Steps p.tables e below (T1.setTop (mkF m 12 #[.val (.int p1), .val (.int (0 : Int32)), .unset, .unset, .unset] [(.ref (ad 0))])) t
      refine XS.astoreN X1.here hx rfl (hb hby at_12) rfl rfl (l' := #[.val (.int p1), .val (.int (0 : Int32)), .val (.ref (ad 0)), .unset, .unset]) rfl ?_
      show Steps p.tables e below (T1.setTop (mkF m 13 #[.val (.int p1), .val (.int (0 : Int32)), .val (.ref (ad 0)), .unset, .unset] [])) t
      refine XS.aloadN X1.here hx rfl (hb hby at_13) rfl rfl ?_
      show Steps p.tables e below (T1.setTop (mkF m 14 #[.val (.int p1), .val (.int (0 : Int32)), .val (.ref (ad 0)), .unset, .unset] [(.ref (ad 0))])) t
      exact st3 t k)
  obtain ⟨cq5, kq5, qa5, qb5, qc5⟩ := isOf hZ eh3 fq3_0
  obtain ⟨vv6, _, ⟨T6, L6, kk6, nn6⟩, -, X6, ⟨Lc6, hQ6, l6, y6, z6⟩, st6⟩ := X3.virtualBack hx (y := (⟨"com/example/limpet/limpet/io/Response", "payload", "()[B"⟩ : MethodName)) (z := (⟨"com/example/limpet/limpet/io/Response", "payload", "()[B"⟩ : MethodName)) hown (mvT hZ (hw _ (List.mem_of_getElem? (i := 31) rfl))) (mvT hZ (hw _ (List.mem_of_getElem? (i := 32) rfl))) (notFace_of_selects (args := #[]) (mvT hZ (hw _ (List.mem_of_getElem? (i := 34) rfl)))) (mvT hZ (hw _ (List.mem_of_getElem? (i := 34) rfl))) (mvT hZ (hw _ (List.mem_of_getElem? (i := 33) rfl))) (by decide) (backOf (W := 0) (own_pay l Z a0 hw [] hh3 n0 (Nat.le_trans Z0 Kp3.1) rb a_EMPTY fq3_2) hZ (hw _ (List.mem_of_getElem? (i := 35) rfl)) (hw _ (List.mem_of_getElem? (i := 10) rfl)) (by decide) (by decide)) qa5 qc5 (g := (mkF m 19 #[.val (.int p1), .val (.int (0 : Int32)), .val (.ref (ad 0)), .val (.ref rb), .unset] [(.ref rb)])) rfl (by rw [hml]; rfl) (Steps.refl _) (argsL := []) (rest := []) (lenOf own_pd____B rfl) rfl (by show 2 * 0 + _ ≤ _; exact Nat.le_of_eq rfl) (hb hby at_19) (fun _ _ => ⟨rfl, eh3, (by decide : 1 + 0 ≤ _), (by decide : 2 + 0 ≤ _)⟩)
  dsimp only [Pt.U, Pt.locs, Pt.cells, Pt.slots] at X6 l6 y6 z6 st6 hQ6
  subst l6 y6 z6
  obtain ⟨rfl, Nq6, e6⟩ := hQ6
  have N6 := Fr.app N3 Nq6
  have ch7 : ∀ t, Steps p.tables e below (T6.setTop (mkF m 22 #[.val (.int p1), .val (.int (0 : Int32)), .val (.ref (ad 0)), .val (.ref rb), .unset] [(.ref a_EMPTY)])) t → Steps p.tables e below (s₁.setTop (entryFrame m #[(.int p1)] maxLocals)) t := fun t k => ch4 t (by
      show Steps p.tables e below (T3.setTop (mkF m 17 #[.val (.int p1), .val (.int (0 : Int32)), .val (.ref (ad 0)), .unset, .unset] [(.ref rb)])) t
      refine XS.astoreN X3.here hx rfl (hb hby at_17) rfl rfl (l' := #[.val (.int p1), .val (.int (0 : Int32)), .val (.ref (ad 0)), .val (.ref rb), .unset]) rfl ?_
      show Steps p.tables e below (T3.setTop (mkF m 18 #[.val (.int p1), .val (.int (0 : Int32)), .val (.ref (ad 0)), .val (.ref rb), .unset] [])) t
      refine XS.aloadN X3.here hx rfl (hb hby at_18) rfl rfl ?_
      show Steps p.tables e below (T3.setTop (mkF m 19 #[.val (.int p1), .val (.int (0 : Int32)), .val (.ref (ad 0)), .val (.ref rb), .unset] [(.ref rb)])) t
      exact st6.trans k)
  obtain ⟨cq8, kq8, qa8, qb8, qc8⟩ := isOf hZ e6 fq3_0
  obtain ⟨vv9, _, ⟨T9, L9, kk9, nn9⟩, -, X9, ⟨Lc9, hQ9, l9, y9, z9⟩, st9⟩ := X6.virtualBack hx (y := (⟨"com/example/limpet/limpet/io/Response", "status", "()Lcom/example/limpet/limpet/io/Status;"⟩ : MethodName)) (z := (⟨"com/example/limpet/limpet/io/Response", "status", "()Lcom/example/limpet/limpet/io/Status;"⟩ : MethodName)) hown (mvT hZ (hw _ (List.mem_of_getElem? (i := 36) rfl))) (mvT hZ (hw _ (List.mem_of_getElem? (i := 37) rfl))) (notFace_of_selects (args := #[]) (mvT hZ (hw _ (List.mem_of_getElem? (i := 39) rfl)))) (mvT hZ (hw _ (List.mem_of_getElem? (i := 39) rfl))) (mvT hZ (hw _ (List.mem_of_getElem? (i := 38) rfl))) (by decide) (backOf (W := 0) (own_sta l Z a0 hw [] hh3 n0 (Nat.le_trans Z0 Kp3.1) rb (ad 0) fq3_1) hZ (hw _ (List.mem_of_getElem? (i := 40) rfl)) (hw _ (List.mem_of_getElem? (i := 10) rfl)) (by decide) (by decide)) qa8 qc8 (g := (mkF m 25 #[.val (.int p1), .val (.int (0 : Int32)), .val (.ref (ad 0)), .val (.ref rb), .val (.ref a_EMPTY)] [(.ref rb)])) rfl (by rw [hml]; rfl) (Steps.refl _) (argsL := []) (rest := []) (lenOf own_pd___Lcom_example_limpet_limpet_io_Status_ rfl) rfl (by show 2 * 0 + _ ≤ _; exact Nat.le_of_eq rfl) (hb hby at_25) (fun _ _ => ⟨rfl, e6, (by decide : 1 + 0 ≤ _), (by decide : 2 + 0 ≤ _)⟩)
  dsimp only [Pt.U, Pt.locs, Pt.cells, Pt.slots] at X9 l9 y9 z9 st9 hQ9
  subst l9 y9 z9
  obtain ⟨rfl, Nq9, e9⟩ := hQ9
  have N9 := Fr.app N6 Nq9
  have ch10 : ∀ t, Steps p.tables e below (T9.setTop (mkF m 28 #[.val (.int p1), .val (.int (0 : Int32)), .val (.ref (ad 0)), .val (.ref rb), .val (.ref a_EMPTY)] [(.ref (ad 0))])) t → Steps p.tables e below (s₁.setTop (entryFrame m #[(.int p1)] maxLocals)) t := fun t k => ch7 t (by
      show Steps p.tables e below (T6.setTop (mkF m 22 #[.val (.int p1), .val (.int (0 : Int32)), .val (.ref (ad 0)), .val (.ref rb), .unset] [(.ref a_EMPTY)])) t
      refine XS.astore X6.here hx rfl (hb hby at_22) rfl rfl (l' := #[.val (.int p1), .val (.int (0 : Int32)), .val (.ref (ad 0)), .val (.ref rb), .val (.ref a_EMPTY)]) rfl ?_
      show Steps p.tables e below (T6.setTop (mkF m 24 #[.val (.int p1), .val (.int (0 : Int32)), .val (.ref (ad 0)), .val (.ref rb), .val (.ref a_EMPTY)] [])) t
      refine XS.aloadN X6.here hx rfl (hb hby at_24) rfl rfl ?_
      show Steps p.tables e below (T6.setTop (mkF m 25 #[.val (.int p1), .val (.int (0 : Int32)), .val (.ref (ad 0)), .val (.ref rb), .val (.ref a_EMPTY)] [(.ref rb)])) t
      exact st9.trans k)
  have cf11 := ((own_V_EMPTY W).keep Kp3 nin0)
  obtain ⟨cl12, Ar12, -, Sz12, Ng12, -, -⟩ := cf11
  have ch13 : ∀ t, Steps p.tables e below (T9.setTop (mkF m 48 #[.val (.int p1), .val (.int (0 : Int32)), .val (.ref (ad 0)), .val (.ref rb), .val (.ref a_EMPTY)] [(.int (1 : Int32))])) t → Steps p.tables e below (s₁.setTop (entryFrame m #[(.int p1)] maxLocals)) t := fun t k => ch10 t (by
      show Steps p.tables e below (T9.setTop (mkF m 28 #[.val (.int p1), .val (.int (0 : Int32)), .val (.ref (ad 0)), .val (.ref rb), .val (.ref a_EMPTY)] [(.ref (ad 0))])) t
      refine XS.aloadN X9.here hx rfl (hb hby at_28) rfl rfl ?_
      show Steps p.tables e below (T9.setTop (mkF m 29 #[.val (.int p1), .val (.int (0 : Int32)), .val (.ref (ad 0)), .val (.ref rb), .val (.ref a_EMPTY)] [(.ref (ad 0)), (.ref (ad 0))])) t
      refine Jvm.RoadKit.acmp (g := (mkF m 29 #[.val (.int p1), .val (.int (0 : Int32)), .val (.ref (ad 0)), .val (.ref rb), .val (.ref a_EMPTY)] [(.ref (ad 0)), (.ref (ad 0))])) X9 hx rfl rfl rfl (pc0 := 29) (pc' := 32) (same := true) rfl (hb hby at_29) rfl (decide_eq_true rfl) (by decide) (by decide) ?_
      show Steps p.tables e below (T9.setTop (mkF m 32 #[.val (.int p1), .val (.int (0 : Int32)), .val (.ref (ad 0)), .val (.ref rb), .val (.ref a_EMPTY)] [])) t
      refine XS.aload X9.here hx rfl (hb hby at_32) rfl rfl ?_
      show Steps p.tables e below (T9.setTop (mkF m 34 #[.val (.int p1), .val (.int (0 : Int32)), .val (.ref (ad 0)), .val (.ref rb), .val (.ref a_EMPTY)] [(.ref a_EMPTY)])) t
      refine XS.ifnullNo X9.here hx rfl (hb hby at_34) rfl ?_
      show Steps p.tables e below (T9.setTop (mkF m 37 #[.val (.int p1), .val (.int (0 : Int32)), .val (.ref (ad 0)), .val (.ref rb), .val (.ref a_EMPTY)] [])) t
      refine XS.aload X9.here hx rfl (hb hby at_37) rfl rfl ?_
      show Steps p.tables e below (T9.setTop (mkF m 39 #[.val (.int p1), .val (.int (0 : Int32)), .val (.ref (ad 0)), .val (.ref rb), .val (.ref a_EMPTY)] [(.ref a_EMPTY)])) t
      refine X9.arraylength hx (by rw [e9]; exact Ar12.1) (State.isArrayOf_alike hZ.alike Ar12.2.1) (g := (mkF m 39 #[.val (.int p1), .val (.int (0 : Int32)), .val (.ref (ad 0)), .val (.ref rb), .val (.ref a_EMPTY)] [(.ref a_EMPTY)])) rfl rfl (hb hby at_39) _ ?_
      rw [len_of Sz12 Ng12]
      show Steps p.tables e below (T9.setTop (mkF m 40 #[.val (.int p1), .val (.int (0 : Int32)), .val (.ref (ad 0)), .val (.ref rb), .val (.ref a_EMPTY)] [(.int (0 : Int32))])) t
      refine XS.ifNo X9.here hx rfl (hb hby at_40) rfl ((if0 _ _).trans (teq (by decide : (0 : Int32) = (0 : Int32))).2) ?_
      show Steps p.tables e below (T9.setTop (mkF m 43 #[.val (.int p1), .val (.int (0 : Int32)), .val (.ref (ad 0)), .val (.ref rb), .val (.ref a_EMPTY)] [])) t
      refine XS.iconst X9.here hx rfl (hb hby at_43) ?_
      show Steps p.tables e below (T9.setTop (mkF m 44 #[.val (.int p1), .val (.int (0 : Int32)), .val (.ref (ad 0)), .val (.ref rb), .val (.ref a_EMPTY)] [(.int (1 : Int32))])) t
      refine XS.goto X9.here hx rfl (pc0 := 44) (pc' := 48) rfl (hb hby at_44) (by decide) (by decide) ?_
      exact k)
  obtain ⟨fs, hr, hrun, hended, hW, hsame⟩ := X9.leave (v := some (.int (1 : Int32))) (fun h => by rw [Bd.returns] at h; cases h)
  refine ⟨_, _, ch13 _ ?_, hrun, hended, _, _, rfl, ?_, ⟨_, rfl⟩, hW, hsame.mono (by decide) (by decide)⟩
  · show Steps p.tables e below (T9.setTop (mkF m 48 #[.val (.int p1), .val (.int (0 : Int32)), .val (.ref (ad 0)), .val (.ref rb), .val (.ref a_EMPTY)] [(.int (1 : Int32))])) _
    exact retN X9 hx (t := .boolean) Bd.returns (by simp) (hb hby at_48) hr
  · show QN (some (.int (1 : Int32))) n0 _ T9.heap _
    rw [e9]
    exact ⟨rfl, N9⟩
theorem own_ef_own_pick_1 (m : MethodId) {x0 : Int32} : entryFrame m #[(.int x0)] 1 = mkF m 0 #[.val (.int x0)] [] := by first | (simp [entryFrame, mkF, argsToLocals, Value.category, maxLocals]; done) | rfl
set_option maxRecDepth 65536 in
set_option maxHeartbeats 40000000 in
theorem own_pick_1 (l : Launch) (Z : State) (a0 : Array Value) (hw : ∀ d ∈ tables_1, d.before a0 Z = true) (ws : List Jvm.Cond) (h0 : Heap) (n0 : Nat) (Z0 : n0 ≤ h0.size) (ad : Nat → Addr) (a_EMPTY : Addr) (k_EMPTY : ClassId) (W : OwnWd Z h0 ad a_EMPTY k_EMPTY) :
    MetFree l (⟨"com/example/limpet/limpet/io/ResponseOfPinLaw", "pick", "(I)Lcom/example/limpet/limpet/io/Status;"⟩ : MethodName) (head1 (Jvm.Cond.code (⟨"com/example/limpet/limpet/io/ResponseOfPinLaw", "pick", "(I)Lcom/example/limpet/limpet/io/Status;"⟩ : MethodName) method_2_code 1 (some (.object "com/example/limpet/limpet/io/Status")) :: ws) ({ frames := 0, cells := 0, slots := 0, locals := 0 } : Room)) (fun a U => a = #[(.int (1 : Int32))] ∧ Z.Warmed39 U.vm ∧ U.heap = h0) (fun _ _ _ _ _ => True) (fun _ U o U' => ∃ v L, o = .returned v ∧ QV (some (.ref (ad 3))) h0 n0 v U'.heap L ∧ FrameEnd U o U' L ({ frames := 0, cells := 0, slots := 0, locals := 0 } : Room).cells ({ frames := 0, cells := 0, slots := 0, locals := 0 } : Room).slots) := by
  refine MetFree.of_bodySF (plainFor_of_name own_pn_com_example_limpet_limpet_io_ResponseOfPinLaw) hisR ?_
  intro p e s m args below meth c s₁ Bd hml0 hP hK
  obtain ⟨rfl, hZ, hh⟩ := hP
  have hx := Bd.exec
  have hby := Bd.bytes
  have hml : c.maxLocals = 1 := hml0
  have hown : s.vm.findClass "com/example/limpet/limpet/io/ResponseOfPinLaw" = some m.cls := findClass_of_methodNamed Bd.named
  have hnm := (name_of_methodNamed Bd.named Bd.method).1
  have X0 : Stand p l e ({ frames := 0, cells := 0, slots := 0, locals := 0 } : Room) s m #[(.int (1 : Int32))] below meth c s₁ [] 0 0 := Stand.of_body Bd
  have e0 : s₁.heap = h0 := by rw [← hh, Bd.state]; rfl
  have N0 := Fr.nil n0
  have pre0 : ∀ t, Steps p.tables e below (s₁.setTop (mkF m 0 #[.val (.int (1 : Int32))] [])) t → Steps p.tables e below (s₁.setTop (entryFrame m #[(.int (1 : Int32))] 1)) t := fun t k => castTop (own_ef_own_pick_1 m) k
  obtain ⟨T1, X1, e1, st1⟩ := getS2 X0 hx hZ hown (host := "") (Or.inl (hw _ (List.mem_of_getElem? (i := 45) rfl))) Via.refl e0 (own_S_BAD_REQUEST W) (g := (mkF m 13 #[.val (.int (1 : Int32))] [])) rfl (hb hby own_d_method_2_code_13)
  have ch2 : ∀ t, Steps p.tables e below (T1.setTop (mkF m 16 #[.val (.int (1 : Int32))] [(.ref (ad 3))])) t → Steps p.tables e below (s₁.setTop (entryFrame m #[(.int (1 : Int32))] 1)) t := fun t k => pre0 t (by
      show Steps p.tables e below (s₁.setTop (mkF m 0 #[.val (.int (1 : Int32))] [])) t
      refine XS.iloadN X0.here hx rfl (hb hby own_d_method_2_code_0) rfl ?_
      show Steps p.tables e below (s₁.setTop (mkF m 1 #[.val (.int (1 : Int32))] [(.int (1 : Int32))])) t
      refine XS.ifYes X0.here hx rfl (pc0 := 1) (pc' := 8) rfl (hb hby own_d_method_2_code_1) rfl ((if0 _ _).trans (feq (by decide : ¬ (1 : Int32) = (0 : Int32))).2) (by decide) (by decide) ?_
      show Steps p.tables e below (s₁.setTop (mkF m 8 #[.val (.int (1 : Int32))] [])) t
      refine XS.iloadN X0.here hx rfl (hb hby own_d_method_2_code_8) rfl ?_
      show Steps p.tables e below (s₁.setTop (mkF m 9 #[.val (.int (1 : Int32))] [(.int (1 : Int32))])) t
      refine XS.iconst X0.here hx rfl (hb hby own_d_method_2_code_9) ?_
      show Steps p.tables e below (s₁.setTop (mkF m 10 #[.val (.int (1 : Int32))] [(.int (1 : Int32)), (.int (1 : Int32))])) t
      refine XS.icmpNo X0.here hx rfl (hb hby own_d_method_2_code_10) rfl (teq (by decide : (1 : Int32) = (1 : Int32))).2 ?_
      show Steps p.tables e below (s₁.setTop (mkF m 13 #[.val (.int (1 : Int32))] [])) t
      exact st1 t k)
  obtain ⟨fs, hr, hrun, hended, hW, hsame⟩ := X1.leave (v := some (.ref (ad 3))) (fun h => by rw [Bd.returns] at h; cases h)
  refine ⟨_, _, ch2 _ ?_, hrun, hended, _, _, rfl, ?_, ⟨_, rfl⟩, hW, hsame.mono (by decide) (by decide)⟩
  · show Steps p.tables e below (T1.setTop (mkF m 16 #[.val (.int (1 : Int32))] [(.ref (ad 3))])) _
    jvm_step X1.here [X1.here.top, hx, (hb hby own_d_method_2_code_16), X1.method', Bd.returns, Value.isRef, FieldType.isReference]
    first | (intro acts; rw [hr _ acts rfl rfl rfl]) | rw [hr _ _ rfl rfl rfl]
    exact Steps.refl _
  · show QV (some (.ref (ad 3))) h0 n0 _ T1.heap _
    rw [e1]
    exact ⟨rfl, N0, rfl⟩
theorem own_ef_own_law_1 (m : MethodId) {x0 : Int32} : entryFrame m #[(.int x0)] maxLocals = mkF m 0 #[.val (.int x0), .unset, .unset, .unset, .unset] [] := by first | (simp [entryFrame, mkF, argsToLocals, Value.category, maxLocals]; done) | rfl
set_option maxRecDepth 65536 in
set_option maxHeartbeats 40000000 in
theorem own_law_1 (l : Launch) (Z : State) (a0 : Array Value) (hw : ∀ d ∈ tables_1, d.before a0 Z = true) (ws : List Jvm.Cond) (h0 : Heap) (n0 : Nat) (Z0 : n0 ≤ h0.size) (p1 : Int32) (hk : (p1 &&& (2147483647 : Int32)) % (9 : Int32) = (1 : Int32)) (ad : Nat → Addr) (a_EMPTY : Addr) (k_EMPTY : ClassId) (W : OwnWd Z h0 ad a_EMPTY k_EMPTY) :
    MetFree l x (head1 (Jvm.Cond.code x code maxLocals ret :: ws) room_1) (fun a U => a = #[(.int p1)] ∧ Z.Warmed39 U.vm ∧ U.heap = h0) (fun _ _ _ _ _ => True) (fun _ U o U' => ∃ v L, o = .returned v ∧ QN (some (.int (1 : Int32))) n0 v U'.heap L ∧ FrameEnd U o U' L room_1.cells room_1.slots) := by
  refine MetFree.of_bodySF (plainFor_of_name own_pn_com_example_limpet_limpet_io_ResponseOfPinLaw) hisR ?_
  intro p e s m args below meth c s₁ Bd hml0 hP hK
  obtain ⟨rfl, hZ, hh⟩ := hP
  have hx := Bd.exec
  have hby := Bd.bytes
  have hml : c.maxLocals = 5 := hml0
  have hown : s.vm.findClass "com/example/limpet/limpet/io/ResponseOfPinLaw" = some m.cls := findClass_of_methodNamed Bd.named
  have hnm := (name_of_methodNamed Bd.named Bd.method).1
  have X0 : Stand p l e room_1 s m #[(.int p1)] below meth c s₁ [] 0 0 := Stand.of_body Bd
  have e0 : s₁.heap = h0 := by rw [← hh, Bd.state]; rfl
  have N0 := Fr.nil n0
  have pre0 : ∀ t, Steps p.tables e below (s₁.setTop (mkF m 0 #[.val (.int p1), .unset, .unset, .unset, .unset] [])) t → Steps p.tables e below (s₁.setTop (entryFrame m #[(.int p1)] maxLocals)) t := fun t k => castTop (own_ef_own_law_1 m) k
  obtain ⟨vv1, _, ⟨T1, L1, kk1, nn1⟩, -, X1, ⟨Lc1, hQ1, l1, y1, z1⟩, st1⟩ := Jvm.LawKit.callS X0 hx (y := (⟨"com/example/limpet/limpet/io/ResponseOfPinLaw", "pick", "(I)Lcom/example/limpet/limpet/io/Status;"⟩ : MethodName)) hown (mvT hZ (hw _ (List.mem_of_getElem? (i := 1) rfl))) (mvT hZ (hw _ (List.mem_of_getElem? (i := 2) rfl))) (mvT hZ (hw _ (List.mem_of_getElem? (i := 3) rfl))) (mvT hZ (hw _ (List.mem_of_getElem? (i := 4) rfl))) (by decide) (backOf (W := 0) (own_pick_1 l Z a0 hw [] h0 n0 Z0 ad a_EMPTY k_EMPTY W) hZ (hw _ (List.mem_of_getElem? (i := 4) rfl)) (hw _ (List.mem_of_getElem? (i := 3) rfl)) (by decide) (by decide)) (g := (mkF m 9 #[.val (.int p1), .val (.int (1 : Int32)), .unset, .unset, .unset] [(.int (1 : Int32))])) rfl (by rw [hml]; rfl) (argsL := [(.int (1 : Int32))]) (rest := []) (lenOf own_pd__I_Lcom_example_limpet_limpet_io_Status_ rfl) rfl (by show 2 * 0 + _ ≤ _; exact Nat.le_of_eq rfl) (hb hby at_9) (fun _ _ => ⟨rfl, e0, (by decide : 0 + 0 ≤ _), (by decide : 0 + 0 ≤ _)⟩)
  dsimp only [Pt.U, Pt.locs, Pt.cells, Pt.slots] at X1 l1 y1 z1 st1 hQ1
  subst l1 y1 z1
  obtain ⟨rfl, Nq1, e1⟩ := hQ1
  have N1 := Fr.app N0 Nq1
  have ch2 : ∀ t, Steps p.tables e below (T1.setTop (mkF m 12 #[.val (.int p1), .val (.int (1 : Int32)), .unset, .unset, .unset] [(.ref (ad 3))])) t → Steps p.tables e below (s₁.setTop (entryFrame m #[(.int p1)] maxLocals)) t := fun t k => pre0 t (by
      show Steps p.tables e below (s₁.setTop (mkF m 0 #[.val (.int p1), .unset, .unset, .unset, .unset] [])) t
      refine XS.iloadN X0.here hx rfl (hb hby at_0) rfl ?_
      show Steps p.tables e below (s₁.setTop (mkF m 1 #[.val (.int p1), .unset, .unset, .unset, .unset] [(.int p1)])) t
      refine X0.ldcInt hx hown (mvT hZ (hw _ (List.mem_of_getElem? (i := 0) rfl))) (g := (mkF m 1 #[.val (.int p1), .unset, .unset, .unset, .unset] [(.int p1)])) rfl (hb hby at_1) _ ?_
      show Steps p.tables e below (s₁.setTop (mkF m 3 #[.val (.int p1), .unset, .unset, .unset, .unset] [(.int (2147483647 : Int32)), (.int p1)])) t
      refine XS.iand X0.here hx rfl (hb hby at_3) rfl ?_
      show Steps p.tables e below (s₁.setTop (mkF m 4 #[.val (.int p1), .unset, .unset, .unset, .unset] [(.int (p1 &&& (2147483647 : Int32)))])) t
      refine XS.bipush X0.here hx rfl (hb hby at_4) ?_
      show Steps p.tables e below (s₁.setTop (mkF m 6 #[.val (.int p1), .unset, .unset, .unset, .unset] [(.int (9 : Int32)), (.int (p1 &&& (2147483647 : Int32)))])) t
      refine Jvm.RoadKit.iremM (g := (mkF m 6 #[.val (.int p1), .unset, .unset, .unset, .unset] [(.int (9 : Int32)), (.int (p1 &&& (2147483647 : Int32)))])) X0 hx rfl (hb hby at_6) rfl (by decide) ?_
      rw [hk]
      show Steps p.tables e below (s₁.setTop (mkF m 7 #[.val (.int p1), .unset, .unset, .unset, .unset] [(.int (1 : Int32))])) t
      refine XS.istoreN X0.here hx rfl (hb hby at_7) rfl (l' := #[.val (.int p1), .val (.int (1 : Int32)), .unset, .unset, .unset]) rfl ?_
      show Steps p.tables e below (s₁.setTop (mkF m 8 #[.val (.int p1), .val (.int (1 : Int32)), .unset, .unset, .unset] [])) t
      refine XS.iloadN X0.here hx rfl (hb hby at_8) rfl ?_
      show Steps p.tables e below (s₁.setTop (mkF m 9 #[.val (.int p1), .val (.int (1 : Int32)), .unset, .unset, .unset] [(.int (1 : Int32))])) t
      exact st1 t k)
  obtain ⟨vv3, _, ⟨T3, L3, kk3, nn3⟩, -, X3, ⟨Lc3, hQ3, l3, y3, z3⟩, st3⟩ := Jvm.LawKit.callS X1 hx (y := (⟨"com/example/limpet/limpet/io/Response", "of", "(Lcom/example/limpet/limpet/io/Status;)Lcom/example/limpet/limpet/io/Response;"⟩ : MethodName)) hown (mvT hZ (hw _ (List.mem_of_getElem? (i := 8) rfl))) (mvT hZ (hw _ (List.mem_of_getElem? (i := 9) rfl))) (mvT hZ (hw _ (List.mem_of_getElem? (i := 10) rfl))) (mvT hZ (hw _ (List.mem_of_getElem? (i := 11) rfl))) (by decide) (backOf (W := 0) (own_of l Z a0 hw [] h0 n0 (Nat.le_trans Z0 (Keep.refl h0 []).1) (ad 3) ad a_EMPTY k_EMPTY W) hZ (hw _ (List.mem_of_getElem? (i := 11) rfl)) (hw _ (List.mem_of_getElem? (i := 10) rfl)) (by decide) (by decide)) (g := (mkF m 14 #[.val (.int p1), .val (.int (1 : Int32)), .val (.ref (ad 3)), .unset, .unset] [(.ref (ad 3))])) rfl (by rw [hml]; rfl) (argsL := [(.ref (ad 3))]) (rest := []) (lenOf own_pd__Lcom_example_limpet_limpet_io_Status__Lcom_example_limpet_limpet_io_Response_ rfl) rfl (by show 2 * 0 + _ ≤ _; exact Nat.le_of_eq rfl) (hb hby at_14) (fun _ _ => ⟨rfl, e1, (by decide : 0 + 1 ≤ _), (by decide : 0 + 2 ≤ _)⟩)
  dsimp only [Pt.U, Pt.locs, Pt.cells, Pt.slots] at X3 l3 y3 z3 st3 hQ3
  subst l3 y3 z3
  obtain ⟨hh3, eh3⟩ : ∃ h, T3.heap = h := ⟨_, rfl⟩
  rw [eh3] at hQ3
  obtain ⟨rb, rfl, zq3, Nq3, Kq3, fq3_0, fq3_1, fq3_2⟩ := hQ3
  have N3 := Fr.app N1 Nq3
  have ne_ad0_rb : (ad 0) ≠ rb := Nat.ne_of_lt (Nat.lt_of_lt_of_le (own_E_OK W).lt zq3)
  have ne_ad1_rb : (ad 1) ≠ rb := Nat.ne_of_lt (Nat.lt_of_lt_of_le (own_E_FAILED W).lt zq3)
  have ne_ad2_rb : (ad 2) ≠ rb := Nat.ne_of_lt (Nat.lt_of_lt_of_le (own_E_NOT_FOUND W).lt zq3)
  have ne_ad3_rb : (ad 3) ≠ rb := Nat.ne_of_lt (Nat.lt_of_lt_of_le (own_E_BAD_REQUEST W).lt zq3)
  have ne_ad4_rb : (ad 4) ≠ rb := Nat.ne_of_lt (Nat.lt_of_lt_of_le (own_E_TOO_MANY_KEYS W).lt zq3)
  have ne_ad5_rb : (ad 5) ≠ rb := Nat.ne_of_lt (Nat.lt_of_lt_of_le (own_E_UNSUPPORTED_KEY W).lt zq3)
  have ne_ad6_rb : (ad 6) ≠ rb := Nat.ne_of_lt (Nat.lt_of_lt_of_le (own_E_TOO_MANY_GRANTS W).lt zq3)
  have ne_ad7_rb : (ad 7) ≠ rb := Nat.ne_of_lt (Nat.lt_of_lt_of_le (own_E_GRANT_NOT_FOUND W).lt zq3)
  have ne_ad8_rb : (ad 8) ≠ rb := Nat.ne_of_lt (Nat.lt_of_lt_of_le (own_E_PERMISSION_DENIED W).lt zq3)
  have ne_a_EMPTY_rb : a_EMPTY ≠ rb := Nat.ne_of_lt (Nat.lt_of_lt_of_le (own_V_EMPTY W).lt zq3)
  have g_rb : n0 ≤ rb := Nat.le_trans (Nat.le_trans Z0 (Keep.refl h0 []).1) zq3
  have sz_rb : h0.size ≤ rb := Nat.le_trans (Keep.refl h0 []).1 zq3
  have Kp3 := Keep.trans (Keep.refl h0 []) Kq3 all0
  have ch4 : ∀ t, Steps p.tables e below (T3.setTop (mkF m 17 #[.val (.int p1), .val (.int (1 : Int32)), .val (.ref (ad 3)), .unset, .unset] [(.ref rb)])) t → Steps p.tables e below (s₁.setTop (entryFrame m #[(.int p1)] maxLocals)) t := fun t k => ch2 t (by
      show Steps p.tables e below (T1.setTop (mkF m 12 #[.val (.int p1), .val (.int (1 : Int32)), .unset, .unset, .unset] [(.ref (ad 3))])) t
      refine XS.astoreN X1.here hx rfl (hb hby at_12) rfl rfl (l' := #[.val (.int p1), .val (.int (1 : Int32)), .val (.ref (ad 3)), .unset, .unset]) rfl ?_
      show Steps p.tables e below (T1.setTop (mkF m 13 #[.val (.int p1), .val (.int (1 : Int32)), .val (.ref (ad 3)), .unset, .unset] [])) t
      refine XS.aloadN X1.here hx rfl (hb hby at_13) rfl rfl ?_
      show Steps p.tables e below (T1.setTop (mkF m 14 #[.val (.int p1), .val (.int (1 : Int32)), .val (.ref (ad 3)), .unset, .unset] [(.ref (ad 3))])) t
      exact st3 t k)
  obtain ⟨cq5, kq5, qa5, qb5, qc5⟩ := isOf hZ eh3 fq3_0
  obtain ⟨vv6, _, ⟨T6, L6, kk6, nn6⟩, -, X6, ⟨Lc6, hQ6, l6, y6, z6⟩, st6⟩ := X3.virtualBack hx (y := (⟨"com/example/limpet/limpet/io/Response", "payload", "()[B"⟩ : MethodName)) (z := (⟨"com/example/limpet/limpet/io/Response", "payload", "()[B"⟩ : MethodName)) hown (mvT hZ (hw _ (List.mem_of_getElem? (i := 31) rfl))) (mvT hZ (hw _ (List.mem_of_getElem? (i := 32) rfl))) (notFace_of_selects (args := #[]) (mvT hZ (hw _ (List.mem_of_getElem? (i := 34) rfl)))) (mvT hZ (hw _ (List.mem_of_getElem? (i := 34) rfl))) (mvT hZ (hw _ (List.mem_of_getElem? (i := 33) rfl))) (by decide) (backOf (W := 0) (own_pay l Z a0 hw [] hh3 n0 (Nat.le_trans Z0 Kp3.1) rb a_EMPTY fq3_2) hZ (hw _ (List.mem_of_getElem? (i := 35) rfl)) (hw _ (List.mem_of_getElem? (i := 10) rfl)) (by decide) (by decide)) qa5 qc5 (g := (mkF m 19 #[.val (.int p1), .val (.int (1 : Int32)), .val (.ref (ad 3)), .val (.ref rb), .unset] [(.ref rb)])) rfl (by rw [hml]; rfl) (Steps.refl _) (argsL := []) (rest := []) (lenOf own_pd____B rfl) rfl (by show 2 * 0 + _ ≤ _; exact Nat.le_of_eq rfl) (hb hby at_19) (fun _ _ => ⟨rfl, eh3, (by decide : 1 + 0 ≤ _), (by decide : 2 + 0 ≤ _)⟩)
  dsimp only [Pt.U, Pt.locs, Pt.cells, Pt.slots] at X6 l6 y6 z6 st6 hQ6
  subst l6 y6 z6
  obtain ⟨rfl, Nq6, e6⟩ := hQ6
  have N6 := Fr.app N3 Nq6
  have ch7 : ∀ t, Steps p.tables e below (T6.setTop (mkF m 22 #[.val (.int p1), .val (.int (1 : Int32)), .val (.ref (ad 3)), .val (.ref rb), .unset] [(.ref a_EMPTY)])) t → Steps p.tables e below (s₁.setTop (entryFrame m #[(.int p1)] maxLocals)) t := fun t k => ch4 t (by
      show Steps p.tables e below (T3.setTop (mkF m 17 #[.val (.int p1), .val (.int (1 : Int32)), .val (.ref (ad 3)), .unset, .unset] [(.ref rb)])) t
      refine XS.astoreN X3.here hx rfl (hb hby at_17) rfl rfl (l' := #[.val (.int p1), .val (.int (1 : Int32)), .val (.ref (ad 3)), .val (.ref rb), .unset]) rfl ?_
      show Steps p.tables e below (T3.setTop (mkF m 18 #[.val (.int p1), .val (.int (1 : Int32)), .val (.ref (ad 3)), .val (.ref rb), .unset] [])) t
      refine XS.aloadN X3.here hx rfl (hb hby at_18) rfl rfl ?_
      show Steps p.tables e below (T3.setTop (mkF m 19 #[.val (.int p1), .val (.int (1 : Int32)), .val (.ref (ad 3)), .val (.ref rb), .unset] [(.ref rb)])) t
      exact st6.trans k)
  obtain ⟨cq8, kq8, qa8, qb8, qc8⟩ := isOf hZ e6 fq3_0
  obtain ⟨vv9, _, ⟨T9, L9, kk9, nn9⟩, -, X9, ⟨Lc9, hQ9, l9, y9, z9⟩, st9⟩ := X6.virtualBack hx (y := (⟨"com/example/limpet/limpet/io/Response", "status", "()Lcom/example/limpet/limpet/io/Status;"⟩ : MethodName)) (z := (⟨"com/example/limpet/limpet/io/Response", "status", "()Lcom/example/limpet/limpet/io/Status;"⟩ : MethodName)) hown (mvT hZ (hw _ (List.mem_of_getElem? (i := 36) rfl))) (mvT hZ (hw _ (List.mem_of_getElem? (i := 37) rfl))) (notFace_of_selects (args := #[]) (mvT hZ (hw _ (List.mem_of_getElem? (i := 39) rfl)))) (mvT hZ (hw _ (List.mem_of_getElem? (i := 39) rfl))) (mvT hZ (hw _ (List.mem_of_getElem? (i := 38) rfl))) (by decide) (backOf (W := 0) (own_sta l Z a0 hw [] hh3 n0 (Nat.le_trans Z0 Kp3.1) rb (ad 3) fq3_1) hZ (hw _ (List.mem_of_getElem? (i := 40) rfl)) (hw _ (List.mem_of_getElem? (i := 10) rfl)) (by decide) (by decide)) qa8 qc8 (g := (mkF m 25 #[.val (.int p1), .val (.int (1 : Int32)), .val (.ref (ad 3)), .val (.ref rb), .val (.ref a_EMPTY)] [(.ref rb)])) rfl (by rw [hml]; rfl) (Steps.refl _) (argsL := []) (rest := []) (lenOf own_pd___Lcom_example_limpet_limpet_io_Status_ rfl) rfl (by show 2 * 0 + _ ≤ _; exact Nat.le_of_eq rfl) (hb hby at_25) (fun _ _ => ⟨rfl, e6, (by decide : 1 + 0 ≤ _), (by decide : 2 + 0 ≤ _)⟩)
  dsimp only [Pt.U, Pt.locs, Pt.cells, Pt.slots] at X9 l9 y9 z9 st9 hQ9
  subst l9 y9 z9
  obtain ⟨rfl, Nq9, e9⟩ := hQ9
  have N9 := Fr.app N6 Nq9
  have ch10 : ∀ t, Steps p.tables e below (T9.setTop (mkF m 28 #[.val (.int p1), .val (.int (1 : Int32)), .val (.ref (ad 3)), .val (.ref rb), .val (.ref a_EMPTY)] [(.ref (ad 3))])) t → Steps p.tables e below (s₁.setTop (entryFrame m #[(.int p1)] maxLocals)) t := fun t k => ch7 t (by
      show Steps p.tables e below (T6.setTop (mkF m 22 #[.val (.int p1), .val (.int (1 : Int32)), .val (.ref (ad 3)), .val (.ref rb), .unset] [(.ref a_EMPTY)])) t
      refine XS.astore X6.here hx rfl (hb hby at_22) rfl rfl (l' := #[.val (.int p1), .val (.int (1 : Int32)), .val (.ref (ad 3)), .val (.ref rb), .val (.ref a_EMPTY)]) rfl ?_
      show Steps p.tables e below (T6.setTop (mkF m 24 #[.val (.int p1), .val (.int (1 : Int32)), .val (.ref (ad 3)), .val (.ref rb), .val (.ref a_EMPTY)] [])) t
      refine XS.aloadN X6.here hx rfl (hb hby at_24) rfl rfl ?_
      show Steps p.tables e below (T6.setTop (mkF m 25 #[.val (.int p1), .val (.int (1 : Int32)), .val (.ref (ad 3)), .val (.ref rb), .val (.ref a_EMPTY)] [(.ref rb)])) t
      exact st9.trans k)
  have cf11 := ((own_V_EMPTY W).keep Kp3 nin0)
  obtain ⟨cl12, Ar12, -, Sz12, Ng12, -, -⟩ := cf11
  have ch13 : ∀ t, Steps p.tables e below (T9.setTop (mkF m 48 #[.val (.int p1), .val (.int (1 : Int32)), .val (.ref (ad 3)), .val (.ref rb), .val (.ref a_EMPTY)] [(.int (1 : Int32))])) t → Steps p.tables e below (s₁.setTop (entryFrame m #[(.int p1)] maxLocals)) t := fun t k => ch10 t (by
      show Steps p.tables e below (T9.setTop (mkF m 28 #[.val (.int p1), .val (.int (1 : Int32)), .val (.ref (ad 3)), .val (.ref rb), .val (.ref a_EMPTY)] [(.ref (ad 3))])) t
      refine XS.aloadN X9.here hx rfl (hb hby at_28) rfl rfl ?_
      show Steps p.tables e below (T9.setTop (mkF m 29 #[.val (.int p1), .val (.int (1 : Int32)), .val (.ref (ad 3)), .val (.ref rb), .val (.ref a_EMPTY)] [(.ref (ad 3)), (.ref (ad 3))])) t
      refine Jvm.RoadKit.acmp (g := (mkF m 29 #[.val (.int p1), .val (.int (1 : Int32)), .val (.ref (ad 3)), .val (.ref rb), .val (.ref a_EMPTY)] [(.ref (ad 3)), (.ref (ad 3))])) X9 hx rfl rfl rfl (pc0 := 29) (pc' := 32) (same := true) rfl (hb hby at_29) rfl (decide_eq_true rfl) (by decide) (by decide) ?_
      show Steps p.tables e below (T9.setTop (mkF m 32 #[.val (.int p1), .val (.int (1 : Int32)), .val (.ref (ad 3)), .val (.ref rb), .val (.ref a_EMPTY)] [])) t
      refine XS.aload X9.here hx rfl (hb hby at_32) rfl rfl ?_
      show Steps p.tables e below (T9.setTop (mkF m 34 #[.val (.int p1), .val (.int (1 : Int32)), .val (.ref (ad 3)), .val (.ref rb), .val (.ref a_EMPTY)] [(.ref a_EMPTY)])) t
      refine XS.ifnullNo X9.here hx rfl (hb hby at_34) rfl ?_
      show Steps p.tables e below (T9.setTop (mkF m 37 #[.val (.int p1), .val (.int (1 : Int32)), .val (.ref (ad 3)), .val (.ref rb), .val (.ref a_EMPTY)] [])) t
      refine XS.aload X9.here hx rfl (hb hby at_37) rfl rfl ?_
      show Steps p.tables e below (T9.setTop (mkF m 39 #[.val (.int p1), .val (.int (1 : Int32)), .val (.ref (ad 3)), .val (.ref rb), .val (.ref a_EMPTY)] [(.ref a_EMPTY)])) t
      refine X9.arraylength hx (by rw [e9]; exact Ar12.1) (State.isArrayOf_alike hZ.alike Ar12.2.1) (g := (mkF m 39 #[.val (.int p1), .val (.int (1 : Int32)), .val (.ref (ad 3)), .val (.ref rb), .val (.ref a_EMPTY)] [(.ref a_EMPTY)])) rfl rfl (hb hby at_39) _ ?_
      rw [len_of Sz12 Ng12]
      show Steps p.tables e below (T9.setTop (mkF m 40 #[.val (.int p1), .val (.int (1 : Int32)), .val (.ref (ad 3)), .val (.ref rb), .val (.ref a_EMPTY)] [(.int (0 : Int32))])) t
      refine XS.ifNo X9.here hx rfl (hb hby at_40) rfl ((if0 _ _).trans (teq (by decide : (0 : Int32) = (0 : Int32))).2) ?_
      show Steps p.tables e below (T9.setTop (mkF m 43 #[.val (.int p1), .val (.int (1 : Int32)), .val (.ref (ad 3)), .val (.ref rb), .val (.ref a_EMPTY)] [])) t
      refine XS.iconst X9.here hx rfl (hb hby at_43) ?_
      show Steps p.tables e below (T9.setTop (mkF m 44 #[.val (.int p1), .val (.int (1 : Int32)), .val (.ref (ad 3)), .val (.ref rb), .val (.ref a_EMPTY)] [(.int (1 : Int32))])) t
      refine XS.goto X9.here hx rfl (pc0 := 44) (pc' := 48) rfl (hb hby at_44) (by decide) (by decide) ?_
      exact k)
  obtain ⟨fs, hr, hrun, hended, hW, hsame⟩ := X9.leave (v := some (.int (1 : Int32))) (fun h => by rw [Bd.returns] at h; cases h)
  refine ⟨_, _, ch13 _ ?_, hrun, hended, _, _, rfl, ?_, ⟨_, rfl⟩, hW, hsame.mono (by decide) (by decide)⟩
  · show Steps p.tables e below (T9.setTop (mkF m 48 #[.val (.int p1), .val (.int (1 : Int32)), .val (.ref (ad 3)), .val (.ref rb), .val (.ref a_EMPTY)] [(.int (1 : Int32))])) _
    exact retN X9 hx (t := .boolean) Bd.returns (by simp) (hb hby at_48) hr
  · show QN (some (.int (1 : Int32))) n0 _ T9.heap _
    rw [e9]
    exact ⟨rfl, N9⟩
theorem own_ef_own_pick_2 (m : MethodId) {x0 : Int32} : entryFrame m #[(.int x0)] 1 = mkF m 0 #[.val (.int x0)] [] := by first | (simp [entryFrame, mkF, argsToLocals, Value.category, maxLocals]; done) | rfl
set_option maxRecDepth 65536 in
set_option maxHeartbeats 40000000 in
theorem own_pick_2 (l : Launch) (Z : State) (a0 : Array Value) (hw : ∀ d ∈ tables_1, d.before a0 Z = true) (ws : List Jvm.Cond) (h0 : Heap) (n0 : Nat) (Z0 : n0 ≤ h0.size) (ad : Nat → Addr) (a_EMPTY : Addr) (k_EMPTY : ClassId) (W : OwnWd Z h0 ad a_EMPTY k_EMPTY) :
    MetFree l (⟨"com/example/limpet/limpet/io/ResponseOfPinLaw", "pick", "(I)Lcom/example/limpet/limpet/io/Status;"⟩ : MethodName) (head1 (Jvm.Cond.code (⟨"com/example/limpet/limpet/io/ResponseOfPinLaw", "pick", "(I)Lcom/example/limpet/limpet/io/Status;"⟩ : MethodName) method_2_code 1 (some (.object "com/example/limpet/limpet/io/Status")) :: ws) ({ frames := 0, cells := 0, slots := 0, locals := 0 } : Room)) (fun a U => a = #[(.int (2 : Int32))] ∧ Z.Warmed39 U.vm ∧ U.heap = h0) (fun _ _ _ _ _ => True) (fun _ U o U' => ∃ v L, o = .returned v ∧ QV (some (.ref (ad 2))) h0 n0 v U'.heap L ∧ FrameEnd U o U' L ({ frames := 0, cells := 0, slots := 0, locals := 0 } : Room).cells ({ frames := 0, cells := 0, slots := 0, locals := 0 } : Room).slots) := by
  refine MetFree.of_bodySF (plainFor_of_name own_pn_com_example_limpet_limpet_io_ResponseOfPinLaw) hisR ?_
  intro p e s m args below meth c s₁ Bd hml0 hP hK
  obtain ⟨rfl, hZ, hh⟩ := hP
  have hx := Bd.exec
  have hby := Bd.bytes
  have hml : c.maxLocals = 1 := hml0
  have hown : s.vm.findClass "com/example/limpet/limpet/io/ResponseOfPinLaw" = some m.cls := findClass_of_methodNamed Bd.named
  have hnm := (name_of_methodNamed Bd.named Bd.method).1
  have X0 : Stand p l e ({ frames := 0, cells := 0, slots := 0, locals := 0 } : Room) s m #[(.int (2 : Int32))] below meth c s₁ [] 0 0 := Stand.of_body Bd
  have e0 : s₁.heap = h0 := by rw [← hh, Bd.state]; rfl
  have N0 := Fr.nil n0
  have pre0 : ∀ t, Steps p.tables e below (s₁.setTop (mkF m 0 #[.val (.int (2 : Int32))] [])) t → Steps p.tables e below (s₁.setTop (entryFrame m #[(.int (2 : Int32))] 1)) t := fun t k => castTop (own_ef_own_pick_2 m) k
  obtain ⟨T1, X1, e1, st1⟩ := getS2 X0 hx hZ hown (host := "") (Or.inl (hw _ (List.mem_of_getElem? (i := 43) rfl))) Via.refl e0 (own_S_NOT_FOUND W) (g := (mkF m 22 #[.val (.int (2 : Int32))] [])) rfl (hb hby own_d_method_2_code_22)
  have ch2 : ∀ t, Steps p.tables e below (T1.setTop (mkF m 25 #[.val (.int (2 : Int32))] [(.ref (ad 2))])) t → Steps p.tables e below (s₁.setTop (entryFrame m #[(.int (2 : Int32))] 1)) t := fun t k => pre0 t (by
      show Steps p.tables e below (s₁.setTop (mkF m 0 #[.val (.int (2 : Int32))] [])) t
      refine XS.iloadN X0.here hx rfl (hb hby own_d_method_2_code_0) rfl ?_
      show Steps p.tables e below (s₁.setTop (mkF m 1 #[.val (.int (2 : Int32))] [(.int (2 : Int32))])) t
      refine XS.ifYes X0.here hx rfl (pc0 := 1) (pc' := 8) rfl (hb hby own_d_method_2_code_1) rfl ((if0 _ _).trans (feq (by decide : ¬ (2 : Int32) = (0 : Int32))).2) (by decide) (by decide) ?_
      show Steps p.tables e below (s₁.setTop (mkF m 8 #[.val (.int (2 : Int32))] [])) t
      refine XS.iloadN X0.here hx rfl (hb hby own_d_method_2_code_8) rfl ?_
      show Steps p.tables e below (s₁.setTop (mkF m 9 #[.val (.int (2 : Int32))] [(.int (2 : Int32))])) t
      refine XS.iconst X0.here hx rfl (hb hby own_d_method_2_code_9) ?_
      show Steps p.tables e below (s₁.setTop (mkF m 10 #[.val (.int (2 : Int32))] [(.int (1 : Int32)), (.int (2 : Int32))])) t
      refine XS.icmpYes X0.here hx rfl (pc0 := 10) (pc' := 17) rfl (hb hby own_d_method_2_code_10) rfl (feq (by decide : ¬ (2 : Int32) = (1 : Int32))).2 (by decide) (by decide) ?_
      show Steps p.tables e below (s₁.setTop (mkF m 17 #[.val (.int (2 : Int32))] [])) t
      refine XS.iloadN X0.here hx rfl (hb hby own_d_method_2_code_17) rfl ?_
      show Steps p.tables e below (s₁.setTop (mkF m 18 #[.val (.int (2 : Int32))] [(.int (2 : Int32))])) t
      refine XS.iconst X0.here hx rfl (hb hby own_d_method_2_code_18) ?_
      show Steps p.tables e below (s₁.setTop (mkF m 19 #[.val (.int (2 : Int32))] [(.int (2 : Int32)), (.int (2 : Int32))])) t
      refine XS.icmpNo X0.here hx rfl (hb hby own_d_method_2_code_19) rfl (teq (by decide : (2 : Int32) = (2 : Int32))).2 ?_
      show Steps p.tables e below (s₁.setTop (mkF m 22 #[.val (.int (2 : Int32))] [])) t
      exact st1 t k)
  obtain ⟨fs, hr, hrun, hended, hW, hsame⟩ := X1.leave (v := some (.ref (ad 2))) (fun h => by rw [Bd.returns] at h; cases h)
  refine ⟨_, _, ch2 _ ?_, hrun, hended, _, _, rfl, ?_, ⟨_, rfl⟩, hW, hsame.mono (by decide) (by decide)⟩
  · show Steps p.tables e below (T1.setTop (mkF m 25 #[.val (.int (2 : Int32))] [(.ref (ad 2))])) _
    jvm_step X1.here [X1.here.top, hx, (hb hby own_d_method_2_code_25), X1.method', Bd.returns, Value.isRef, FieldType.isReference]
    first | (intro acts; rw [hr _ acts rfl rfl rfl]) | rw [hr _ _ rfl rfl rfl]
    exact Steps.refl _
  · show QV (some (.ref (ad 2))) h0 n0 _ T1.heap _
    rw [e1]
    exact ⟨rfl, N0, rfl⟩
theorem own_ef_own_law_2 (m : MethodId) {x0 : Int32} : entryFrame m #[(.int x0)] maxLocals = mkF m 0 #[.val (.int x0), .unset, .unset, .unset, .unset] [] := by first | (simp [entryFrame, mkF, argsToLocals, Value.category, maxLocals]; done) | rfl
set_option maxRecDepth 65536 in
set_option maxHeartbeats 40000000 in
theorem own_law_2 (l : Launch) (Z : State) (a0 : Array Value) (hw : ∀ d ∈ tables_1, d.before a0 Z = true) (ws : List Jvm.Cond) (h0 : Heap) (n0 : Nat) (Z0 : n0 ≤ h0.size) (p1 : Int32) (hk : (p1 &&& (2147483647 : Int32)) % (9 : Int32) = (2 : Int32)) (ad : Nat → Addr) (a_EMPTY : Addr) (k_EMPTY : ClassId) (W : OwnWd Z h0 ad a_EMPTY k_EMPTY) :
    MetFree l x (head1 (Jvm.Cond.code x code maxLocals ret :: ws) room_1) (fun a U => a = #[(.int p1)] ∧ Z.Warmed39 U.vm ∧ U.heap = h0) (fun _ _ _ _ _ => True) (fun _ U o U' => ∃ v L, o = .returned v ∧ QN (some (.int (1 : Int32))) n0 v U'.heap L ∧ FrameEnd U o U' L room_1.cells room_1.slots) := by
  refine MetFree.of_bodySF (plainFor_of_name own_pn_com_example_limpet_limpet_io_ResponseOfPinLaw) hisR ?_
  intro p e s m args below meth c s₁ Bd hml0 hP hK
  obtain ⟨rfl, hZ, hh⟩ := hP
  have hx := Bd.exec
  have hby := Bd.bytes
  have hml : c.maxLocals = 5 := hml0
  have hown : s.vm.findClass "com/example/limpet/limpet/io/ResponseOfPinLaw" = some m.cls := findClass_of_methodNamed Bd.named
  have hnm := (name_of_methodNamed Bd.named Bd.method).1
  have X0 : Stand p l e room_1 s m #[(.int p1)] below meth c s₁ [] 0 0 := Stand.of_body Bd
  have e0 : s₁.heap = h0 := by rw [← hh, Bd.state]; rfl
  have N0 := Fr.nil n0
  have pre0 : ∀ t, Steps p.tables e below (s₁.setTop (mkF m 0 #[.val (.int p1), .unset, .unset, .unset, .unset] [])) t → Steps p.tables e below (s₁.setTop (entryFrame m #[(.int p1)] maxLocals)) t := fun t k => castTop (own_ef_own_law_2 m) k
  obtain ⟨vv1, _, ⟨T1, L1, kk1, nn1⟩, -, X1, ⟨Lc1, hQ1, l1, y1, z1⟩, st1⟩ := Jvm.LawKit.callS X0 hx (y := (⟨"com/example/limpet/limpet/io/ResponseOfPinLaw", "pick", "(I)Lcom/example/limpet/limpet/io/Status;"⟩ : MethodName)) hown (mvT hZ (hw _ (List.mem_of_getElem? (i := 1) rfl))) (mvT hZ (hw _ (List.mem_of_getElem? (i := 2) rfl))) (mvT hZ (hw _ (List.mem_of_getElem? (i := 3) rfl))) (mvT hZ (hw _ (List.mem_of_getElem? (i := 4) rfl))) (by decide) (backOf (W := 0) (own_pick_2 l Z a0 hw [] h0 n0 Z0 ad a_EMPTY k_EMPTY W) hZ (hw _ (List.mem_of_getElem? (i := 4) rfl)) (hw _ (List.mem_of_getElem? (i := 3) rfl)) (by decide) (by decide)) (g := (mkF m 9 #[.val (.int p1), .val (.int (2 : Int32)), .unset, .unset, .unset] [(.int (2 : Int32))])) rfl (by rw [hml]; rfl) (argsL := [(.int (2 : Int32))]) (rest := []) (lenOf own_pd__I_Lcom_example_limpet_limpet_io_Status_ rfl) rfl (by show 2 * 0 + _ ≤ _; exact Nat.le_of_eq rfl) (hb hby at_9) (fun _ _ => ⟨rfl, e0, (by decide : 0 + 0 ≤ _), (by decide : 0 + 0 ≤ _)⟩)
  dsimp only [Pt.U, Pt.locs, Pt.cells, Pt.slots] at X1 l1 y1 z1 st1 hQ1
  subst l1 y1 z1
  obtain ⟨rfl, Nq1, e1⟩ := hQ1
  have N1 := Fr.app N0 Nq1
  have ch2 : ∀ t, Steps p.tables e below (T1.setTop (mkF m 12 #[.val (.int p1), .val (.int (2 : Int32)), .unset, .unset, .unset] [(.ref (ad 2))])) t → Steps p.tables e below (s₁.setTop (entryFrame m #[(.int p1)] maxLocals)) t := fun t k => pre0 t (by
      show Steps p.tables e below (s₁.setTop (mkF m 0 #[.val (.int p1), .unset, .unset, .unset, .unset] [])) t
      refine XS.iloadN X0.here hx rfl (hb hby at_0) rfl ?_
      show Steps p.tables e below (s₁.setTop (mkF m 1 #[.val (.int p1), .unset, .unset, .unset, .unset] [(.int p1)])) t
      refine X0.ldcInt hx hown (mvT hZ (hw _ (List.mem_of_getElem? (i := 0) rfl))) (g := (mkF m 1 #[.val (.int p1), .unset, .unset, .unset, .unset] [(.int p1)])) rfl (hb hby at_1) _ ?_
      show Steps p.tables e below (s₁.setTop (mkF m 3 #[.val (.int p1), .unset, .unset, .unset, .unset] [(.int (2147483647 : Int32)), (.int p1)])) t
      refine XS.iand X0.here hx rfl (hb hby at_3) rfl ?_
      show Steps p.tables e below (s₁.setTop (mkF m 4 #[.val (.int p1), .unset, .unset, .unset, .unset] [(.int (p1 &&& (2147483647 : Int32)))])) t
      refine XS.bipush X0.here hx rfl (hb hby at_4) ?_
      show Steps p.tables e below (s₁.setTop (mkF m 6 #[.val (.int p1), .unset, .unset, .unset, .unset] [(.int (9 : Int32)), (.int (p1 &&& (2147483647 : Int32)))])) t
      refine Jvm.RoadKit.iremM (g := (mkF m 6 #[.val (.int p1), .unset, .unset, .unset, .unset] [(.int (9 : Int32)), (.int (p1 &&& (2147483647 : Int32)))])) X0 hx rfl (hb hby at_6) rfl (by decide) ?_
      rw [hk]
      show Steps p.tables e below (s₁.setTop (mkF m 7 #[.val (.int p1), .unset, .unset, .unset, .unset] [(.int (2 : Int32))])) t
      refine XS.istoreN X0.here hx rfl (hb hby at_7) rfl (l' := #[.val (.int p1), .val (.int (2 : Int32)), .unset, .unset, .unset]) rfl ?_
      show Steps p.tables e below (s₁.setTop (mkF m 8 #[.val (.int p1), .val (.int (2 : Int32)), .unset, .unset, .unset] [])) t
      refine XS.iloadN X0.here hx rfl (hb hby at_8) rfl ?_
      show Steps p.tables e below (s₁.setTop (mkF m 9 #[.val (.int p1), .val (.int (2 : Int32)), .unset, .unset, .unset] [(.int (2 : Int32))])) t
      exact st1 t k)
  obtain ⟨vv3, _, ⟨T3, L3, kk3, nn3⟩, -, X3, ⟨Lc3, hQ3, l3, y3, z3⟩, st3⟩ := Jvm.LawKit.callS X1 hx (y := (⟨"com/example/limpet/limpet/io/Response", "of", "(Lcom/example/limpet/limpet/io/Status;)Lcom/example/limpet/limpet/io/Response;"⟩ : MethodName)) hown (mvT hZ (hw _ (List.mem_of_getElem? (i := 8) rfl))) (mvT hZ (hw _ (List.mem_of_getElem? (i := 9) rfl))) (mvT hZ (hw _ (List.mem_of_getElem? (i := 10) rfl))) (mvT hZ (hw _ (List.mem_of_getElem? (i := 11) rfl))) (by decide) (backOf (W := 0) (own_of l Z a0 hw [] h0 n0 (Nat.le_trans Z0 (Keep.refl h0 []).1) (ad 2) ad a_EMPTY k_EMPTY W) hZ (hw _ (List.mem_of_getElem? (i := 11) rfl)) (hw _ (List.mem_of_getElem? (i := 10) rfl)) (by decide) (by decide)) (g := (mkF m 14 #[.val (.int p1), .val (.int (2 : Int32)), .val (.ref (ad 2)), .unset, .unset] [(.ref (ad 2))])) rfl (by rw [hml]; rfl) (argsL := [(.ref (ad 2))]) (rest := []) (lenOf own_pd__Lcom_example_limpet_limpet_io_Status__Lcom_example_limpet_limpet_io_Response_ rfl) rfl (by show 2 * 0 + _ ≤ _; exact Nat.le_of_eq rfl) (hb hby at_14) (fun _ _ => ⟨rfl, e1, (by decide : 0 + 1 ≤ _), (by decide : 0 + 2 ≤ _)⟩)
  dsimp only [Pt.U, Pt.locs, Pt.cells, Pt.slots] at X3 l3 y3 z3 st3 hQ3
  subst l3 y3 z3
  obtain ⟨hh3, eh3⟩ : ∃ h, T3.heap = h := ⟨_, rfl⟩
  rw [eh3] at hQ3
  obtain ⟨rb, rfl, zq3, Nq3, Kq3, fq3_0, fq3_1, fq3_2⟩ := hQ3
  have N3 := Fr.app N1 Nq3
  have ne_ad0_rb : (ad 0) ≠ rb := Nat.ne_of_lt (Nat.lt_of_lt_of_le (own_E_OK W).lt zq3)
  have ne_ad1_rb : (ad 1) ≠ rb := Nat.ne_of_lt (Nat.lt_of_lt_of_le (own_E_FAILED W).lt zq3)
  have ne_ad2_rb : (ad 2) ≠ rb := Nat.ne_of_lt (Nat.lt_of_lt_of_le (own_E_NOT_FOUND W).lt zq3)
  have ne_ad3_rb : (ad 3) ≠ rb := Nat.ne_of_lt (Nat.lt_of_lt_of_le (own_E_BAD_REQUEST W).lt zq3)
  have ne_ad4_rb : (ad 4) ≠ rb := Nat.ne_of_lt (Nat.lt_of_lt_of_le (own_E_TOO_MANY_KEYS W).lt zq3)
  have ne_ad5_rb : (ad 5) ≠ rb := Nat.ne_of_lt (Nat.lt_of_lt_of_le (own_E_UNSUPPORTED_KEY W).lt zq3)
  have ne_ad6_rb : (ad 6) ≠ rb := Nat.ne_of_lt (Nat.lt_of_lt_of_le (own_E_TOO_MANY_GRANTS W).lt zq3)
  have ne_ad7_rb : (ad 7) ≠ rb := Nat.ne_of_lt (Nat.lt_of_lt_of_le (own_E_GRANT_NOT_FOUND W).lt zq3)
  have ne_ad8_rb : (ad 8) ≠ rb := Nat.ne_of_lt (Nat.lt_of_lt_of_le (own_E_PERMISSION_DENIED W).lt zq3)
  have ne_a_EMPTY_rb : a_EMPTY ≠ rb := Nat.ne_of_lt (Nat.lt_of_lt_of_le (own_V_EMPTY W).lt zq3)
  have g_rb : n0 ≤ rb := Nat.le_trans (Nat.le_trans Z0 (Keep.refl h0 []).1) zq3
  have sz_rb : h0.size ≤ rb := Nat.le_trans (Keep.refl h0 []).1 zq3
  have Kp3 := Keep.trans (Keep.refl h0 []) Kq3 all0
  have ch4 : ∀ t, Steps p.tables e below (T3.setTop (mkF m 17 #[.val (.int p1), .val (.int (2 : Int32)), .val (.ref (ad 2)), .unset, .unset] [(.ref rb)])) t → Steps p.tables e below (s₁.setTop (entryFrame m #[(.int p1)] maxLocals)) t := fun t k => ch2 t (by
      show Steps p.tables e below (T1.setTop (mkF m 12 #[.val (.int p1), .val (.int (2 : Int32)), .unset, .unset, .unset] [(.ref (ad 2))])) t
      refine XS.astoreN X1.here hx rfl (hb hby at_12) rfl rfl (l' := #[.val (.int p1), .val (.int (2 : Int32)), .val (.ref (ad 2)), .unset, .unset]) rfl ?_
      show Steps p.tables e below (T1.setTop (mkF m 13 #[.val (.int p1), .val (.int (2 : Int32)), .val (.ref (ad 2)), .unset, .unset] [])) t
      refine XS.aloadN X1.here hx rfl (hb hby at_13) rfl rfl ?_
      show Steps p.tables e below (T1.setTop (mkF m 14 #[.val (.int p1), .val (.int (2 : Int32)), .val (.ref (ad 2)), .unset, .unset] [(.ref (ad 2))])) t
      exact st3 t k)
  obtain ⟨cq5, kq5, qa5, qb5, qc5⟩ := isOf hZ eh3 fq3_0
  obtain ⟨vv6, _, ⟨T6, L6, kk6, nn6⟩, -, X6, ⟨Lc6, hQ6, l6, y6, z6⟩, st6⟩ := X3.virtualBack hx (y := (⟨"com/example/limpet/limpet/io/Response", "payload", "()[B"⟩ : MethodName)) (z := (⟨"com/example/limpet/limpet/io/Response", "payload", "()[B"⟩ : MethodName)) hown (mvT hZ (hw _ (List.mem_of_getElem? (i := 31) rfl))) (mvT hZ (hw _ (List.mem_of_getElem? (i := 32) rfl))) (notFace_of_selects (args := #[]) (mvT hZ (hw _ (List.mem_of_getElem? (i := 34) rfl)))) (mvT hZ (hw _ (List.mem_of_getElem? (i := 34) rfl))) (mvT hZ (hw _ (List.mem_of_getElem? (i := 33) rfl))) (by decide) (backOf (W := 0) (own_pay l Z a0 hw [] hh3 n0 (Nat.le_trans Z0 Kp3.1) rb a_EMPTY fq3_2) hZ (hw _ (List.mem_of_getElem? (i := 35) rfl)) (hw _ (List.mem_of_getElem? (i := 10) rfl)) (by decide) (by decide)) qa5 qc5 (g := (mkF m 19 #[.val (.int p1), .val (.int (2 : Int32)), .val (.ref (ad 2)), .val (.ref rb), .unset] [(.ref rb)])) rfl (by rw [hml]; rfl) (Steps.refl _) (argsL := []) (rest := []) (lenOf own_pd____B rfl) rfl (by show 2 * 0 + _ ≤ _; exact Nat.le_of_eq rfl) (hb hby at_19) (fun _ _ => ⟨rfl, eh3, (by decide : 1 + 0 ≤ _), (by decide : 2 + 0 ≤ _)⟩)
  dsimp only [Pt.U, Pt.locs, Pt.cells, Pt.slots] at X6 l6 y6 z6 st6 hQ6
  subst l6 y6 z6
  obtain ⟨rfl, Nq6, e6⟩ := hQ6
  have N6 := Fr.app N3 Nq6
  have ch7 : ∀ t, Steps p.tables e below (T6.setTop (mkF m 22 #[.val (.int p1), .val (.int (2 : Int32)), .val (.ref (ad 2)), .val (.ref rb), .unset] [(.ref a_EMPTY)])) t → Steps p.tables e below (s₁.setTop (entryFrame m #[(.int p1)] maxLocals)) t := fun t k => ch4 t (by
      show Steps p.tables e below (T3.setTop (mkF m 17 #[.val (.int p1), .val (.int (2 : Int32)), .val (.ref (ad 2)), .unset, .unset] [(.ref rb)])) t
      refine XS.astoreN X3.here hx rfl (hb hby at_17) rfl rfl (l' := #[.val (.int p1), .val (.int (2 : Int32)), .val (.ref (ad 2)), .val (.ref rb), .unset]) rfl ?_
      show Steps p.tables e below (T3.setTop (mkF m 18 #[.val (.int p1), .val (.int (2 : Int32)), .val (.ref (ad 2)), .val (.ref rb), .unset] [])) t
      refine XS.aloadN X3.here hx rfl (hb hby at_18) rfl rfl ?_
      show Steps p.tables e below (T3.setTop (mkF m 19 #[.val (.int p1), .val (.int (2 : Int32)), .val (.ref (ad 2)), .val (.ref rb), .unset] [(.ref rb)])) t
      exact st6.trans k)
  obtain ⟨cq8, kq8, qa8, qb8, qc8⟩ := isOf hZ e6 fq3_0
  obtain ⟨vv9, _, ⟨T9, L9, kk9, nn9⟩, -, X9, ⟨Lc9, hQ9, l9, y9, z9⟩, st9⟩ := X6.virtualBack hx (y := (⟨"com/example/limpet/limpet/io/Response", "status", "()Lcom/example/limpet/limpet/io/Status;"⟩ : MethodName)) (z := (⟨"com/example/limpet/limpet/io/Response", "status", "()Lcom/example/limpet/limpet/io/Status;"⟩ : MethodName)) hown (mvT hZ (hw _ (List.mem_of_getElem? (i := 36) rfl))) (mvT hZ (hw _ (List.mem_of_getElem? (i := 37) rfl))) (notFace_of_selects (args := #[]) (mvT hZ (hw _ (List.mem_of_getElem? (i := 39) rfl)))) (mvT hZ (hw _ (List.mem_of_getElem? (i := 39) rfl))) (mvT hZ (hw _ (List.mem_of_getElem? (i := 38) rfl))) (by decide) (backOf (W := 0) (own_sta l Z a0 hw [] hh3 n0 (Nat.le_trans Z0 Kp3.1) rb (ad 2) fq3_1) hZ (hw _ (List.mem_of_getElem? (i := 40) rfl)) (hw _ (List.mem_of_getElem? (i := 10) rfl)) (by decide) (by decide)) qa8 qc8 (g := (mkF m 25 #[.val (.int p1), .val (.int (2 : Int32)), .val (.ref (ad 2)), .val (.ref rb), .val (.ref a_EMPTY)] [(.ref rb)])) rfl (by rw [hml]; rfl) (Steps.refl _) (argsL := []) (rest := []) (lenOf own_pd___Lcom_example_limpet_limpet_io_Status_ rfl) rfl (by show 2 * 0 + _ ≤ _; exact Nat.le_of_eq rfl) (hb hby at_25) (fun _ _ => ⟨rfl, e6, (by decide : 1 + 0 ≤ _), (by decide : 2 + 0 ≤ _)⟩)
  dsimp only [Pt.U, Pt.locs, Pt.cells, Pt.slots] at X9 l9 y9 z9 st9 hQ9
  subst l9 y9 z9
  obtain ⟨rfl, Nq9, e9⟩ := hQ9
  have N9 := Fr.app N6 Nq9
  have ch10 : ∀ t, Steps p.tables e below (T9.setTop (mkF m 28 #[.val (.int p1), .val (.int (2 : Int32)), .val (.ref (ad 2)), .val (.ref rb), .val (.ref a_EMPTY)] [(.ref (ad 2))])) t → Steps p.tables e below (s₁.setTop (entryFrame m #[(.int p1)] maxLocals)) t := fun t k => ch7 t (by
      show Steps p.tables e below (T6.setTop (mkF m 22 #[.val (.int p1), .val (.int (2 : Int32)), .val (.ref (ad 2)), .val (.ref rb), .unset] [(.ref a_EMPTY)])) t
      refine XS.astore X6.here hx rfl (hb hby at_22) rfl rfl (l' := #[.val (.int p1), .val (.int (2 : Int32)), .val (.ref (ad 2)), .val (.ref rb), .val (.ref a_EMPTY)]) rfl ?_
      show Steps p.tables e below (T6.setTop (mkF m 24 #[.val (.int p1), .val (.int (2 : Int32)), .val (.ref (ad 2)), .val (.ref rb), .val (.ref a_EMPTY)] [])) t
      refine XS.aloadN X6.here hx rfl (hb hby at_24) rfl rfl ?_
      show Steps p.tables e below (T6.setTop (mkF m 25 #[.val (.int p1), .val (.int (2 : Int32)), .val (.ref (ad 2)), .val (.ref rb), .val (.ref a_EMPTY)] [(.ref rb)])) t
      exact st9.trans k)
  have cf11 := ((own_V_EMPTY W).keep Kp3 nin0)
  obtain ⟨cl12, Ar12, -, Sz12, Ng12, -, -⟩ := cf11
  have ch13 : ∀ t, Steps p.tables e below (T9.setTop (mkF m 48 #[.val (.int p1), .val (.int (2 : Int32)), .val (.ref (ad 2)), .val (.ref rb), .val (.ref a_EMPTY)] [(.int (1 : Int32))])) t → Steps p.tables e below (s₁.setTop (entryFrame m #[(.int p1)] maxLocals)) t := fun t k => ch10 t (by
      show Steps p.tables e below (T9.setTop (mkF m 28 #[.val (.int p1), .val (.int (2 : Int32)), .val (.ref (ad 2)), .val (.ref rb), .val (.ref a_EMPTY)] [(.ref (ad 2))])) t
      refine XS.aloadN X9.here hx rfl (hb hby at_28) rfl rfl ?_
      show Steps p.tables e below (T9.setTop (mkF m 29 #[.val (.int p1), .val (.int (2 : Int32)), .val (.ref (ad 2)), .val (.ref rb), .val (.ref a_EMPTY)] [(.ref (ad 2)), (.ref (ad 2))])) t
      refine Jvm.RoadKit.acmp (g := (mkF m 29 #[.val (.int p1), .val (.int (2 : Int32)), .val (.ref (ad 2)), .val (.ref rb), .val (.ref a_EMPTY)] [(.ref (ad 2)), (.ref (ad 2))])) X9 hx rfl rfl rfl (pc0 := 29) (pc' := 32) (same := true) rfl (hb hby at_29) rfl (decide_eq_true rfl) (by decide) (by decide) ?_
      show Steps p.tables e below (T9.setTop (mkF m 32 #[.val (.int p1), .val (.int (2 : Int32)), .val (.ref (ad 2)), .val (.ref rb), .val (.ref a_EMPTY)] [])) t
      refine XS.aload X9.here hx rfl (hb hby at_32) rfl rfl ?_
      show Steps p.tables e below (T9.setTop (mkF m 34 #[.val (.int p1), .val (.int (2 : Int32)), .val (.ref (ad 2)), .val (.ref rb), .val (.ref a_EMPTY)] [(.ref a_EMPTY)])) t
      refine XS.ifnullNo X9.here hx rfl (hb hby at_34) rfl ?_
      show Steps p.tables e below (T9.setTop (mkF m 37 #[.val (.int p1), .val (.int (2 : Int32)), .val (.ref (ad 2)), .val (.ref rb), .val (.ref a_EMPTY)] [])) t
      refine XS.aload X9.here hx rfl (hb hby at_37) rfl rfl ?_
      show Steps p.tables e below (T9.setTop (mkF m 39 #[.val (.int p1), .val (.int (2 : Int32)), .val (.ref (ad 2)), .val (.ref rb), .val (.ref a_EMPTY)] [(.ref a_EMPTY)])) t
      refine X9.arraylength hx (by rw [e9]; exact Ar12.1) (State.isArrayOf_alike hZ.alike Ar12.2.1) (g := (mkF m 39 #[.val (.int p1), .val (.int (2 : Int32)), .val (.ref (ad 2)), .val (.ref rb), .val (.ref a_EMPTY)] [(.ref a_EMPTY)])) rfl rfl (hb hby at_39) _ ?_
      rw [len_of Sz12 Ng12]
      show Steps p.tables e below (T9.setTop (mkF m 40 #[.val (.int p1), .val (.int (2 : Int32)), .val (.ref (ad 2)), .val (.ref rb), .val (.ref a_EMPTY)] [(.int (0 : Int32))])) t
      refine XS.ifNo X9.here hx rfl (hb hby at_40) rfl ((if0 _ _).trans (teq (by decide : (0 : Int32) = (0 : Int32))).2) ?_
      show Steps p.tables e below (T9.setTop (mkF m 43 #[.val (.int p1), .val (.int (2 : Int32)), .val (.ref (ad 2)), .val (.ref rb), .val (.ref a_EMPTY)] [])) t
      refine XS.iconst X9.here hx rfl (hb hby at_43) ?_
      show Steps p.tables e below (T9.setTop (mkF m 44 #[.val (.int p1), .val (.int (2 : Int32)), .val (.ref (ad 2)), .val (.ref rb), .val (.ref a_EMPTY)] [(.int (1 : Int32))])) t
      refine XS.goto X9.here hx rfl (pc0 := 44) (pc' := 48) rfl (hb hby at_44) (by decide) (by decide) ?_
      exact k)
  obtain ⟨fs, hr, hrun, hended, hW, hsame⟩ := X9.leave (v := some (.int (1 : Int32))) (fun h => by rw [Bd.returns] at h; cases h)
  refine ⟨_, _, ch13 _ ?_, hrun, hended, _, _, rfl, ?_, ⟨_, rfl⟩, hW, hsame.mono (by decide) (by decide)⟩
  · show Steps p.tables e below (T9.setTop (mkF m 48 #[.val (.int p1), .val (.int (2 : Int32)), .val (.ref (ad 2)), .val (.ref rb), .val (.ref a_EMPTY)] [(.int (1 : Int32))])) _
    exact retN X9 hx (t := .boolean) Bd.returns (by simp) (hb hby at_48) hr
  · show QN (some (.int (1 : Int32))) n0 _ T9.heap _
    rw [e9]
    exact ⟨rfl, N9⟩
theorem own_ef_own_pick_3 (m : MethodId) {x0 : Int32} : entryFrame m #[(.int x0)] 1 = mkF m 0 #[.val (.int x0)] [] := by first | (simp [entryFrame, mkF, argsToLocals, Value.category, maxLocals]; done) | rfl
set_option maxRecDepth 65536 in
set_option maxHeartbeats 40000000 in
theorem own_pick_3 (l : Launch) (Z : State) (a0 : Array Value) (hw : ∀ d ∈ tables_1, d.before a0 Z = true) (ws : List Jvm.Cond) (h0 : Heap) (n0 : Nat) (Z0 : n0 ≤ h0.size) (ad : Nat → Addr) (a_EMPTY : Addr) (k_EMPTY : ClassId) (W : OwnWd Z h0 ad a_EMPTY k_EMPTY) :
    MetFree l (⟨"com/example/limpet/limpet/io/ResponseOfPinLaw", "pick", "(I)Lcom/example/limpet/limpet/io/Status;"⟩ : MethodName) (head1 (Jvm.Cond.code (⟨"com/example/limpet/limpet/io/ResponseOfPinLaw", "pick", "(I)Lcom/example/limpet/limpet/io/Status;"⟩ : MethodName) method_2_code 1 (some (.object "com/example/limpet/limpet/io/Status")) :: ws) ({ frames := 0, cells := 0, slots := 0, locals := 0 } : Room)) (fun a U => a = #[(.int (3 : Int32))] ∧ Z.Warmed39 U.vm ∧ U.heap = h0) (fun _ _ _ _ _ => True) (fun _ U o U' => ∃ v L, o = .returned v ∧ QV (some (.ref (ad 1))) h0 n0 v U'.heap L ∧ FrameEnd U o U' L ({ frames := 0, cells := 0, slots := 0, locals := 0 } : Room).cells ({ frames := 0, cells := 0, slots := 0, locals := 0 } : Room).slots) := by
  refine MetFree.of_bodySF (plainFor_of_name own_pn_com_example_limpet_limpet_io_ResponseOfPinLaw) hisR ?_
  intro p e s m args below meth c s₁ Bd hml0 hP hK
  obtain ⟨rfl, hZ, hh⟩ := hP
  have hx := Bd.exec
  have hby := Bd.bytes
  have hml : c.maxLocals = 1 := hml0
  have hown : s.vm.findClass "com/example/limpet/limpet/io/ResponseOfPinLaw" = some m.cls := findClass_of_methodNamed Bd.named
  have hnm := (name_of_methodNamed Bd.named Bd.method).1
  have X0 : Stand p l e ({ frames := 0, cells := 0, slots := 0, locals := 0 } : Room) s m #[(.int (3 : Int32))] below meth c s₁ [] 0 0 := Stand.of_body Bd
  have e0 : s₁.heap = h0 := by rw [← hh, Bd.state]; rfl
  have N0 := Fr.nil n0
  have pre0 : ∀ t, Steps p.tables e below (s₁.setTop (mkF m 0 #[.val (.int (3 : Int32))] [])) t → Steps p.tables e below (s₁.setTop (entryFrame m #[(.int (3 : Int32))] 1)) t := fun t k => castTop (own_ef_own_pick_3 m) k
  obtain ⟨T1, X1, e1, st1⟩ := getS2 X0 hx hZ hown (host := "") (Or.inl (hw _ (List.mem_of_getElem? (i := 41) rfl))) Via.refl e0 (own_S_FAILED W) (g := (mkF m 31 #[.val (.int (3 : Int32))] [])) rfl (hb hby own_d_method_2_code_31)
  have ch2 : ∀ t, Steps p.tables e below (T1.setTop (mkF m 34 #[.val (.int (3 : Int32))] [(.ref (ad 1))])) t → Steps p.tables e below (s₁.setTop (entryFrame m #[(.int (3 : Int32))] 1)) t := fun t k => pre0 t (by
      show Steps p.tables e below (s₁.setTop (mkF m 0 #[.val (.int (3 : Int32))] [])) t
      refine XS.iloadN X0.here hx rfl (hb hby own_d_method_2_code_0) rfl ?_
      show Steps p.tables e below (s₁.setTop (mkF m 1 #[.val (.int (3 : Int32))] [(.int (3 : Int32))])) t
      refine XS.ifYes X0.here hx rfl (pc0 := 1) (pc' := 8) rfl (hb hby own_d_method_2_code_1) rfl ((if0 _ _).trans (feq (by decide : ¬ (3 : Int32) = (0 : Int32))).2) (by decide) (by decide) ?_
      show Steps p.tables e below (s₁.setTop (mkF m 8 #[.val (.int (3 : Int32))] [])) t
      refine XS.iloadN X0.here hx rfl (hb hby own_d_method_2_code_8) rfl ?_
      show Steps p.tables e below (s₁.setTop (mkF m 9 #[.val (.int (3 : Int32))] [(.int (3 : Int32))])) t
      refine XS.iconst X0.here hx rfl (hb hby own_d_method_2_code_9) ?_
      show Steps p.tables e below (s₁.setTop (mkF m 10 #[.val (.int (3 : Int32))] [(.int (1 : Int32)), (.int (3 : Int32))])) t
      refine XS.icmpYes X0.here hx rfl (pc0 := 10) (pc' := 17) rfl (hb hby own_d_method_2_code_10) rfl (feq (by decide : ¬ (3 : Int32) = (1 : Int32))).2 (by decide) (by decide) ?_
      show Steps p.tables e below (s₁.setTop (mkF m 17 #[.val (.int (3 : Int32))] [])) t
      refine XS.iloadN X0.here hx rfl (hb hby own_d_method_2_code_17) rfl ?_
      show Steps p.tables e below (s₁.setTop (mkF m 18 #[.val (.int (3 : Int32))] [(.int (3 : Int32))])) t
      refine XS.iconst X0.here hx rfl (hb hby own_d_method_2_code_18) ?_
      show Steps p.tables e below (s₁.setTop (mkF m 19 #[.val (.int (3 : Int32))] [(.int (2 : Int32)), (.int (3 : Int32))])) t
      refine XS.icmpYes X0.here hx rfl (pc0 := 19) (pc' := 26) rfl (hb hby own_d_method_2_code_19) rfl (feq (by decide : ¬ (3 : Int32) = (2 : Int32))).2 (by decide) (by decide) ?_
      show Steps p.tables e below (s₁.setTop (mkF m 26 #[.val (.int (3 : Int32))] [])) t
      refine XS.iloadN X0.here hx rfl (hb hby own_d_method_2_code_26) rfl ?_
      show Steps p.tables e below (s₁.setTop (mkF m 27 #[.val (.int (3 : Int32))] [(.int (3 : Int32))])) t
      refine XS.iconst X0.here hx rfl (hb hby own_d_method_2_code_27) ?_
      show Steps p.tables e below (s₁.setTop (mkF m 28 #[.val (.int (3 : Int32))] [(.int (3 : Int32)), (.int (3 : Int32))])) t
      refine XS.icmpNo X0.here hx rfl (hb hby own_d_method_2_code_28) rfl (teq (by decide : (3 : Int32) = (3 : Int32))).2 ?_
      show Steps p.tables e below (s₁.setTop (mkF m 31 #[.val (.int (3 : Int32))] [])) t
      exact st1 t k)
  obtain ⟨fs, hr, hrun, hended, hW, hsame⟩ := X1.leave (v := some (.ref (ad 1))) (fun h => by rw [Bd.returns] at h; cases h)
  refine ⟨_, _, ch2 _ ?_, hrun, hended, _, _, rfl, ?_, ⟨_, rfl⟩, hW, hsame.mono (by decide) (by decide)⟩
  · show Steps p.tables e below (T1.setTop (mkF m 34 #[.val (.int (3 : Int32))] [(.ref (ad 1))])) _
    jvm_step X1.here [X1.here.top, hx, (hb hby own_d_method_2_code_34), X1.method', Bd.returns, Value.isRef, FieldType.isReference]
    first | (intro acts; rw [hr _ acts rfl rfl rfl]) | rw [hr _ _ rfl rfl rfl]
    exact Steps.refl _
  · show QV (some (.ref (ad 1))) h0 n0 _ T1.heap _
    rw [e1]
    exact ⟨rfl, N0, rfl⟩
theorem own_ef_own_law_3 (m : MethodId) {x0 : Int32} : entryFrame m #[(.int x0)] maxLocals = mkF m 0 #[.val (.int x0), .unset, .unset, .unset, .unset] [] := by first | (simp [entryFrame, mkF, argsToLocals, Value.category, maxLocals]; done) | rfl
set_option maxRecDepth 65536 in
set_option maxHeartbeats 40000000 in
theorem own_law_3 (l : Launch) (Z : State) (a0 : Array Value) (hw : ∀ d ∈ tables_1, d.before a0 Z = true) (ws : List Jvm.Cond) (h0 : Heap) (n0 : Nat) (Z0 : n0 ≤ h0.size) (p1 : Int32) (hk : (p1 &&& (2147483647 : Int32)) % (9 : Int32) = (3 : Int32)) (ad : Nat → Addr) (a_EMPTY : Addr) (k_EMPTY : ClassId) (W : OwnWd Z h0 ad a_EMPTY k_EMPTY) :
    MetFree l x (head1 (Jvm.Cond.code x code maxLocals ret :: ws) room_1) (fun a U => a = #[(.int p1)] ∧ Z.Warmed39 U.vm ∧ U.heap = h0) (fun _ _ _ _ _ => True) (fun _ U o U' => ∃ v L, o = .returned v ∧ QN (some (.int (1 : Int32))) n0 v U'.heap L ∧ FrameEnd U o U' L room_1.cells room_1.slots) := by
  refine MetFree.of_bodySF (plainFor_of_name own_pn_com_example_limpet_limpet_io_ResponseOfPinLaw) hisR ?_
  intro p e s m args below meth c s₁ Bd hml0 hP hK
  obtain ⟨rfl, hZ, hh⟩ := hP
  have hx := Bd.exec
  have hby := Bd.bytes
  have hml : c.maxLocals = 5 := hml0
  have hown : s.vm.findClass "com/example/limpet/limpet/io/ResponseOfPinLaw" = some m.cls := findClass_of_methodNamed Bd.named
  have hnm := (name_of_methodNamed Bd.named Bd.method).1
  have X0 : Stand p l e room_1 s m #[(.int p1)] below meth c s₁ [] 0 0 := Stand.of_body Bd
  have e0 : s₁.heap = h0 := by rw [← hh, Bd.state]; rfl
  have N0 := Fr.nil n0
  have pre0 : ∀ t, Steps p.tables e below (s₁.setTop (mkF m 0 #[.val (.int p1), .unset, .unset, .unset, .unset] [])) t → Steps p.tables e below (s₁.setTop (entryFrame m #[(.int p1)] maxLocals)) t := fun t k => castTop (own_ef_own_law_3 m) k
  obtain ⟨vv1, _, ⟨T1, L1, kk1, nn1⟩, -, X1, ⟨Lc1, hQ1, l1, y1, z1⟩, st1⟩ := Jvm.LawKit.callS X0 hx (y := (⟨"com/example/limpet/limpet/io/ResponseOfPinLaw", "pick", "(I)Lcom/example/limpet/limpet/io/Status;"⟩ : MethodName)) hown (mvT hZ (hw _ (List.mem_of_getElem? (i := 1) rfl))) (mvT hZ (hw _ (List.mem_of_getElem? (i := 2) rfl))) (mvT hZ (hw _ (List.mem_of_getElem? (i := 3) rfl))) (mvT hZ (hw _ (List.mem_of_getElem? (i := 4) rfl))) (by decide) (backOf (W := 0) (own_pick_3 l Z a0 hw [] h0 n0 Z0 ad a_EMPTY k_EMPTY W) hZ (hw _ (List.mem_of_getElem? (i := 4) rfl)) (hw _ (List.mem_of_getElem? (i := 3) rfl)) (by decide) (by decide)) (g := (mkF m 9 #[.val (.int p1), .val (.int (3 : Int32)), .unset, .unset, .unset] [(.int (3 : Int32))])) rfl (by rw [hml]; rfl) (argsL := [(.int (3 : Int32))]) (rest := []) (lenOf own_pd__I_Lcom_example_limpet_limpet_io_Status_ rfl) rfl (by show 2 * 0 + _ ≤ _; exact Nat.le_of_eq rfl) (hb hby at_9) (fun _ _ => ⟨rfl, e0, (by decide : 0 + 0 ≤ _), (by decide : 0 + 0 ≤ _)⟩)
  dsimp only [Pt.U, Pt.locs, Pt.cells, Pt.slots] at X1 l1 y1 z1 st1 hQ1
  subst l1 y1 z1
  obtain ⟨rfl, Nq1, e1⟩ := hQ1
  have N1 := Fr.app N0 Nq1
  have ch2 : ∀ t, Steps p.tables e below (T1.setTop (mkF m 12 #[.val (.int p1), .val (.int (3 : Int32)), .unset, .unset, .unset] [(.ref (ad 1))])) t → Steps p.tables e below (s₁.setTop (entryFrame m #[(.int p1)] maxLocals)) t := fun t k => pre0 t (by
      show Steps p.tables e below (s₁.setTop (mkF m 0 #[.val (.int p1), .unset, .unset, .unset, .unset] [])) t
      refine XS.iloadN X0.here hx rfl (hb hby at_0) rfl ?_
      show Steps p.tables e below (s₁.setTop (mkF m 1 #[.val (.int p1), .unset, .unset, .unset, .unset] [(.int p1)])) t
      refine X0.ldcInt hx hown (mvT hZ (hw _ (List.mem_of_getElem? (i := 0) rfl))) (g := (mkF m 1 #[.val (.int p1), .unset, .unset, .unset, .unset] [(.int p1)])) rfl (hb hby at_1) _ ?_
      show Steps p.tables e below (s₁.setTop (mkF m 3 #[.val (.int p1), .unset, .unset, .unset, .unset] [(.int (2147483647 : Int32)), (.int p1)])) t
      refine XS.iand X0.here hx rfl (hb hby at_3) rfl ?_
      show Steps p.tables e below (s₁.setTop (mkF m 4 #[.val (.int p1), .unset, .unset, .unset, .unset] [(.int (p1 &&& (2147483647 : Int32)))])) t
      refine XS.bipush X0.here hx rfl (hb hby at_4) ?_
      show Steps p.tables e below (s₁.setTop (mkF m 6 #[.val (.int p1), .unset, .unset, .unset, .unset] [(.int (9 : Int32)), (.int (p1 &&& (2147483647 : Int32)))])) t
      refine Jvm.RoadKit.iremM (g := (mkF m 6 #[.val (.int p1), .unset, .unset, .unset, .unset] [(.int (9 : Int32)), (.int (p1 &&& (2147483647 : Int32)))])) X0 hx rfl (hb hby at_6) rfl (by decide) ?_
      rw [hk]
      show Steps p.tables e below (s₁.setTop (mkF m 7 #[.val (.int p1), .unset, .unset, .unset, .unset] [(.int (3 : Int32))])) t
      refine XS.istoreN X0.here hx rfl (hb hby at_7) rfl (l' := #[.val (.int p1), .val (.int (3 : Int32)), .unset, .unset, .unset]) rfl ?_
      show Steps p.tables e below (s₁.setTop (mkF m 8 #[.val (.int p1), .val (.int (3 : Int32)), .unset, .unset, .unset] [])) t
      refine XS.iloadN X0.here hx rfl (hb hby at_8) rfl ?_
      show Steps p.tables e below (s₁.setTop (mkF m 9 #[.val (.int p1), .val (.int (3 : Int32)), .unset, .unset, .unset] [(.int (3 : Int32))])) t
      exact st1 t k)
  obtain ⟨vv3, _, ⟨T3, L3, kk3, nn3⟩, -, X3, ⟨Lc3, hQ3, l3, y3, z3⟩, st3⟩ := Jvm.LawKit.callS X1 hx (y := (⟨"com/example/limpet/limpet/io/Response", "of", "(Lcom/example/limpet/limpet/io/Status;)Lcom/example/limpet/limpet/io/Response;"⟩ : MethodName)) hown (mvT hZ (hw _ (List.mem_of_getElem? (i := 8) rfl))) (mvT hZ (hw _ (List.mem_of_getElem? (i := 9) rfl))) (mvT hZ (hw _ (List.mem_of_getElem? (i := 10) rfl))) (mvT hZ (hw _ (List.mem_of_getElem? (i := 11) rfl))) (by decide) (backOf (W := 0) (own_of l Z a0 hw [] h0 n0 (Nat.le_trans Z0 (Keep.refl h0 []).1) (ad 1) ad a_EMPTY k_EMPTY W) hZ (hw _ (List.mem_of_getElem? (i := 11) rfl)) (hw _ (List.mem_of_getElem? (i := 10) rfl)) (by decide) (by decide)) (g := (mkF m 14 #[.val (.int p1), .val (.int (3 : Int32)), .val (.ref (ad 1)), .unset, .unset] [(.ref (ad 1))])) rfl (by rw [hml]; rfl) (argsL := [(.ref (ad 1))]) (rest := []) (lenOf own_pd__Lcom_example_limpet_limpet_io_Status__Lcom_example_limpet_limpet_io_Response_ rfl) rfl (by show 2 * 0 + _ ≤ _; exact Nat.le_of_eq rfl) (hb hby at_14) (fun _ _ => ⟨rfl, e1, (by decide : 0 + 1 ≤ _), (by decide : 0 + 2 ≤ _)⟩)
  dsimp only [Pt.U, Pt.locs, Pt.cells, Pt.slots] at X3 l3 y3 z3 st3 hQ3
  subst l3 y3 z3
  obtain ⟨hh3, eh3⟩ : ∃ h, T3.heap = h := ⟨_, rfl⟩
  rw [eh3] at hQ3
  obtain ⟨rb, rfl, zq3, Nq3, Kq3, fq3_0, fq3_1, fq3_2⟩ := hQ3
  have N3 := Fr.app N1 Nq3
  have ne_ad0_rb : (ad 0) ≠ rb := Nat.ne_of_lt (Nat.lt_of_lt_of_le (own_E_OK W).lt zq3)
  have ne_ad1_rb : (ad 1) ≠ rb := Nat.ne_of_lt (Nat.lt_of_lt_of_le (own_E_FAILED W).lt zq3)
  have ne_ad2_rb : (ad 2) ≠ rb := Nat.ne_of_lt (Nat.lt_of_lt_of_le (own_E_NOT_FOUND W).lt zq3)
  have ne_ad3_rb : (ad 3) ≠ rb := Nat.ne_of_lt (Nat.lt_of_lt_of_le (own_E_BAD_REQUEST W).lt zq3)
  have ne_ad4_rb : (ad 4) ≠ rb := Nat.ne_of_lt (Nat.lt_of_lt_of_le (own_E_TOO_MANY_KEYS W).lt zq3)
  have ne_ad5_rb : (ad 5) ≠ rb := Nat.ne_of_lt (Nat.lt_of_lt_of_le (own_E_UNSUPPORTED_KEY W).lt zq3)
  have ne_ad6_rb : (ad 6) ≠ rb := Nat.ne_of_lt (Nat.lt_of_lt_of_le (own_E_TOO_MANY_GRANTS W).lt zq3)
  have ne_ad7_rb : (ad 7) ≠ rb := Nat.ne_of_lt (Nat.lt_of_lt_of_le (own_E_GRANT_NOT_FOUND W).lt zq3)
  have ne_ad8_rb : (ad 8) ≠ rb := Nat.ne_of_lt (Nat.lt_of_lt_of_le (own_E_PERMISSION_DENIED W).lt zq3)
  have ne_a_EMPTY_rb : a_EMPTY ≠ rb := Nat.ne_of_lt (Nat.lt_of_lt_of_le (own_V_EMPTY W).lt zq3)
  have g_rb : n0 ≤ rb := Nat.le_trans (Nat.le_trans Z0 (Keep.refl h0 []).1) zq3
  have sz_rb : h0.size ≤ rb := Nat.le_trans (Keep.refl h0 []).1 zq3
  have Kp3 := Keep.trans (Keep.refl h0 []) Kq3 all0
  have ch4 : ∀ t, Steps p.tables e below (T3.setTop (mkF m 17 #[.val (.int p1), .val (.int (3 : Int32)), .val (.ref (ad 1)), .unset, .unset] [(.ref rb)])) t → Steps p.tables e below (s₁.setTop (entryFrame m #[(.int p1)] maxLocals)) t := fun t k => ch2 t (by
      show Steps p.tables e below (T1.setTop (mkF m 12 #[.val (.int p1), .val (.int (3 : Int32)), .unset, .unset, .unset] [(.ref (ad 1))])) t
      refine XS.astoreN X1.here hx rfl (hb hby at_12) rfl rfl (l' := #[.val (.int p1), .val (.int (3 : Int32)), .val (.ref (ad 1)), .unset, .unset]) rfl ?_
      show Steps p.tables e below (T1.setTop (mkF m 13 #[.val (.int p1), .val (.int (3 : Int32)), .val (.ref (ad 1)), .unset, .unset] [])) t
      refine XS.aloadN X1.here hx rfl (hb hby at_13) rfl rfl ?_
      show Steps p.tables e below (T1.setTop (mkF m 14 #[.val (.int p1), .val (.int (3 : Int32)), .val (.ref (ad 1)), .unset, .unset] [(.ref (ad 1))])) t
      exact st3 t k)
  obtain ⟨cq5, kq5, qa5, qb5, qc5⟩ := isOf hZ eh3 fq3_0
  obtain ⟨vv6, _, ⟨T6, L6, kk6, nn6⟩, -, X6, ⟨Lc6, hQ6, l6, y6, z6⟩, st6⟩ := X3.virtualBack hx (y := (⟨"com/example/limpet/limpet/io/Response", "payload", "()[B"⟩ : MethodName)) (z := (⟨"com/example/limpet/limpet/io/Response", "payload", "()[B"⟩ : MethodName)) hown (mvT hZ (hw _ (List.mem_of_getElem? (i := 31) rfl))) (mvT hZ (hw _ (List.mem_of_getElem? (i := 32) rfl))) (notFace_of_selects (args := #[]) (mvT hZ (hw _ (List.mem_of_getElem? (i := 34) rfl)))) (mvT hZ (hw _ (List.mem_of_getElem? (i := 34) rfl))) (mvT hZ (hw _ (List.mem_of_getElem? (i := 33) rfl))) (by decide) (backOf (W := 0) (own_pay l Z a0 hw [] hh3 n0 (Nat.le_trans Z0 Kp3.1) rb a_EMPTY fq3_2) hZ (hw _ (List.mem_of_getElem? (i := 35) rfl)) (hw _ (List.mem_of_getElem? (i := 10) rfl)) (by decide) (by decide)) qa5 qc5 (g := (mkF m 19 #[.val (.int p1), .val (.int (3 : Int32)), .val (.ref (ad 1)), .val (.ref rb), .unset] [(.ref rb)])) rfl (by rw [hml]; rfl) (Steps.refl _) (argsL := []) (rest := []) (lenOf own_pd____B rfl) rfl (by show 2 * 0 + _ ≤ _; exact Nat.le_of_eq rfl) (hb hby at_19) (fun _ _ => ⟨rfl, eh3, (by decide : 1 + 0 ≤ _), (by decide : 2 + 0 ≤ _)⟩)
  dsimp only [Pt.U, Pt.locs, Pt.cells, Pt.slots] at X6 l6 y6 z6 st6 hQ6
  subst l6 y6 z6
  obtain ⟨rfl, Nq6, e6⟩ := hQ6
  have N6 := Fr.app N3 Nq6
  have ch7 : ∀ t, Steps p.tables e below (T6.setTop (mkF m 22 #[.val (.int p1), .val (.int (3 : Int32)), .val (.ref (ad 1)), .val (.ref rb), .unset] [(.ref a_EMPTY)])) t → Steps p.tables e below (s₁.setTop (entryFrame m #[(.int p1)] maxLocals)) t := fun t k => ch4 t (by
      show Steps p.tables e below (T3.setTop (mkF m 17 #[.val (.int p1), .val (.int (3 : Int32)), .val (.ref (ad 1)), .unset, .unset] [(.ref rb)])) t
      refine XS.astoreN X3.here hx rfl (hb hby at_17) rfl rfl (l' := #[.val (.int p1), .val (.int (3 : Int32)), .val (.ref (ad 1)), .val (.ref rb), .unset]) rfl ?_
      show Steps p.tables e below (T3.setTop (mkF m 18 #[.val (.int p1), .val (.int (3 : Int32)), .val (.ref (ad 1)), .val (.ref rb), .unset] [])) t
      refine XS.aloadN X3.here hx rfl (hb hby at_18) rfl rfl ?_
      show Steps p.tables e below (T3.setTop (mkF m 19 #[.val (.int p1), .val (.int (3 : Int32)), .val (.ref (ad 1)), .val (.ref rb), .unset] [(.ref rb)])) t
      exact st6.trans k)
  obtain ⟨cq8, kq8, qa8, qb8, qc8⟩ := isOf hZ e6 fq3_0
  obtain ⟨vv9, _, ⟨T9, L9, kk9, nn9⟩, -, X9, ⟨Lc9, hQ9, l9, y9, z9⟩, st9⟩ := X6.virtualBack hx (y := (⟨"com/example/limpet/limpet/io/Response", "status", "()Lcom/example/limpet/limpet/io/Status;"⟩ : MethodName)) (z := (⟨"com/example/limpet/limpet/io/Response", "status", "()Lcom/example/limpet/limpet/io/Status;"⟩ : MethodName)) hown (mvT hZ (hw _ (List.mem_of_getElem? (i := 36) rfl))) (mvT hZ (hw _ (List.mem_of_getElem? (i := 37) rfl))) (notFace_of_selects (args := #[]) (mvT hZ (hw _ (List.mem_of_getElem? (i := 39) rfl)))) (mvT hZ (hw _ (List.mem_of_getElem? (i := 39) rfl))) (mvT hZ (hw _ (List.mem_of_getElem? (i := 38) rfl))) (by decide) (backOf (W := 0) (own_sta l Z a0 hw [] hh3 n0 (Nat.le_trans Z0 Kp3.1) rb (ad 1) fq3_1) hZ (hw _ (List.mem_of_getElem? (i := 40) rfl)) (hw _ (List.mem_of_getElem? (i := 10) rfl)) (by decide) (by decide)) qa8 qc8 (g := (mkF m 25 #[.val (.int p1), .val (.int (3 : Int32)), .val (.ref (ad 1)), .val (.ref rb), .val (.ref a_EMPTY)] [(.ref rb)])) rfl (by rw [hml]; rfl) (Steps.refl _) (argsL := []) (rest := []) (lenOf own_pd___Lcom_example_limpet_limpet_io_Status_ rfl) rfl (by show 2 * 0 + _ ≤ _; exact Nat.le_of_eq rfl) (hb hby at_25) (fun _ _ => ⟨rfl, e6, (by decide : 1 + 0 ≤ _), (by decide : 2 + 0 ≤ _)⟩)
  dsimp only [Pt.U, Pt.locs, Pt.cells, Pt.slots] at X9 l9 y9 z9 st9 hQ9
  subst l9 y9 z9
  obtain ⟨rfl, Nq9, e9⟩ := hQ9
  have N9 := Fr.app N6 Nq9
  have ch10 : ∀ t, Steps p.tables e below (T9.setTop (mkF m 28 #[.val (.int p1), .val (.int (3 : Int32)), .val (.ref (ad 1)), .val (.ref rb), .val (.ref a_EMPTY)] [(.ref (ad 1))])) t → Steps p.tables e below (s₁.setTop (entryFrame m #[(.int p1)] maxLocals)) t := fun t k => ch7 t (by
      show Steps p.tables e below (T6.setTop (mkF m 22 #[.val (.int p1), .val (.int (3 : Int32)), .val (.ref (ad 1)), .val (.ref rb), .unset] [(.ref a_EMPTY)])) t
      refine XS.astore X6.here hx rfl (hb hby at_22) rfl rfl (l' := #[.val (.int p1), .val (.int (3 : Int32)), .val (.ref (ad 1)), .val (.ref rb), .val (.ref a_EMPTY)]) rfl ?_
      show Steps p.tables e below (T6.setTop (mkF m 24 #[.val (.int p1), .val (.int (3 : Int32)), .val (.ref (ad 1)), .val (.ref rb), .val (.ref a_EMPTY)] [])) t
      refine XS.aloadN X6.here hx rfl (hb hby at_24) rfl rfl ?_
      show Steps p.tables e below (T6.setTop (mkF m 25 #[.val (.int p1), .val (.int (3 : Int32)), .val (.ref (ad 1)), .val (.ref rb), .val (.ref a_EMPTY)] [(.ref rb)])) t
      exact st9.trans k)
  have cf11 := ((own_V_EMPTY W).keep Kp3 nin0)
  obtain ⟨cl12, Ar12, -, Sz12, Ng12, -, -⟩ := cf11
  have ch13 : ∀ t, Steps p.tables e below (T9.setTop (mkF m 48 #[.val (.int p1), .val (.int (3 : Int32)), .val (.ref (ad 1)), .val (.ref rb), .val (.ref a_EMPTY)] [(.int (1 : Int32))])) t → Steps p.tables e below (s₁.setTop (entryFrame m #[(.int p1)] maxLocals)) t := fun t k => ch10 t (by
      show Steps p.tables e below (T9.setTop (mkF m 28 #[.val (.int p1), .val (.int (3 : Int32)), .val (.ref (ad 1)), .val (.ref rb), .val (.ref a_EMPTY)] [(.ref (ad 1))])) t
      refine XS.aloadN X9.here hx rfl (hb hby at_28) rfl rfl ?_
      show Steps p.tables e below (T9.setTop (mkF m 29 #[.val (.int p1), .val (.int (3 : Int32)), .val (.ref (ad 1)), .val (.ref rb), .val (.ref a_EMPTY)] [(.ref (ad 1)), (.ref (ad 1))])) t
      refine Jvm.RoadKit.acmp (g := (mkF m 29 #[.val (.int p1), .val (.int (3 : Int32)), .val (.ref (ad 1)), .val (.ref rb), .val (.ref a_EMPTY)] [(.ref (ad 1)), (.ref (ad 1))])) X9 hx rfl rfl rfl (pc0 := 29) (pc' := 32) (same := true) rfl (hb hby at_29) rfl (decide_eq_true rfl) (by decide) (by decide) ?_
      show Steps p.tables e below (T9.setTop (mkF m 32 #[.val (.int p1), .val (.int (3 : Int32)), .val (.ref (ad 1)), .val (.ref rb), .val (.ref a_EMPTY)] [])) t
      refine XS.aload X9.here hx rfl (hb hby at_32) rfl rfl ?_
      show Steps p.tables e below (T9.setTop (mkF m 34 #[.val (.int p1), .val (.int (3 : Int32)), .val (.ref (ad 1)), .val (.ref rb), .val (.ref a_EMPTY)] [(.ref a_EMPTY)])) t
      refine XS.ifnullNo X9.here hx rfl (hb hby at_34) rfl ?_
      show Steps p.tables e below (T9.setTop (mkF m 37 #[.val (.int p1), .val (.int (3 : Int32)), .val (.ref (ad 1)), .val (.ref rb), .val (.ref a_EMPTY)] [])) t
      refine XS.aload X9.here hx rfl (hb hby at_37) rfl rfl ?_
      show Steps p.tables e below (T9.setTop (mkF m 39 #[.val (.int p1), .val (.int (3 : Int32)), .val (.ref (ad 1)), .val (.ref rb), .val (.ref a_EMPTY)] [(.ref a_EMPTY)])) t
      refine X9.arraylength hx (by rw [e9]; exact Ar12.1) (State.isArrayOf_alike hZ.alike Ar12.2.1) (g := (mkF m 39 #[.val (.int p1), .val (.int (3 : Int32)), .val (.ref (ad 1)), .val (.ref rb), .val (.ref a_EMPTY)] [(.ref a_EMPTY)])) rfl rfl (hb hby at_39) _ ?_
      rw [len_of Sz12 Ng12]
      show Steps p.tables e below (T9.setTop (mkF m 40 #[.val (.int p1), .val (.int (3 : Int32)), .val (.ref (ad 1)), .val (.ref rb), .val (.ref a_EMPTY)] [(.int (0 : Int32))])) t
      refine XS.ifNo X9.here hx rfl (hb hby at_40) rfl ((if0 _ _).trans (teq (by decide : (0 : Int32) = (0 : Int32))).2) ?_
      show Steps p.tables e below (T9.setTop (mkF m 43 #[.val (.int p1), .val (.int (3 : Int32)), .val (.ref (ad 1)), .val (.ref rb), .val (.ref a_EMPTY)] [])) t
      refine XS.iconst X9.here hx rfl (hb hby at_43) ?_
      show Steps p.tables e below (T9.setTop (mkF m 44 #[.val (.int p1), .val (.int (3 : Int32)), .val (.ref (ad 1)), .val (.ref rb), .val (.ref a_EMPTY)] [(.int (1 : Int32))])) t
      refine XS.goto X9.here hx rfl (pc0 := 44) (pc' := 48) rfl (hb hby at_44) (by decide) (by decide) ?_
      exact k)
  obtain ⟨fs, hr, hrun, hended, hW, hsame⟩ := X9.leave (v := some (.int (1 : Int32))) (fun h => by rw [Bd.returns] at h; cases h)
  refine ⟨_, _, ch13 _ ?_, hrun, hended, _, _, rfl, ?_, ⟨_, rfl⟩, hW, hsame.mono (by decide) (by decide)⟩
  · show Steps p.tables e below (T9.setTop (mkF m 48 #[.val (.int p1), .val (.int (3 : Int32)), .val (.ref (ad 1)), .val (.ref rb), .val (.ref a_EMPTY)] [(.int (1 : Int32))])) _
    exact retN X9 hx (t := .boolean) Bd.returns (by simp) (hb hby at_48) hr
  · show QN (some (.int (1 : Int32))) n0 _ T9.heap _
    rw [e9]
    exact ⟨rfl, N9⟩
theorem own_ef_own_pick_4 (m : MethodId) {x0 : Int32} : entryFrame m #[(.int x0)] 1 = mkF m 0 #[.val (.int x0)] [] := by first | (simp [entryFrame, mkF, argsToLocals, Value.category, maxLocals]; done) | rfl
set_option maxRecDepth 65536 in
set_option maxHeartbeats 40000000 in
theorem own_pick_4 (l : Launch) (Z : State) (a0 : Array Value) (hw : ∀ d ∈ tables_1, d.before a0 Z = true) (ws : List Jvm.Cond) (h0 : Heap) (n0 : Nat) (Z0 : n0 ≤ h0.size) (ad : Nat → Addr) (a_EMPTY : Addr) (k_EMPTY : ClassId) (W : OwnWd Z h0 ad a_EMPTY k_EMPTY) :
    MetFree l (⟨"com/example/limpet/limpet/io/ResponseOfPinLaw", "pick", "(I)Lcom/example/limpet/limpet/io/Status;"⟩ : MethodName) (head1 (Jvm.Cond.code (⟨"com/example/limpet/limpet/io/ResponseOfPinLaw", "pick", "(I)Lcom/example/limpet/limpet/io/Status;"⟩ : MethodName) method_2_code 1 (some (.object "com/example/limpet/limpet/io/Status")) :: ws) ({ frames := 0, cells := 0, slots := 0, locals := 0 } : Room)) (fun a U => a = #[(.int (4 : Int32))] ∧ Z.Warmed39 U.vm ∧ U.heap = h0) (fun _ _ _ _ _ => True) (fun _ U o U' => ∃ v L, o = .returned v ∧ QV (some (.ref (ad 5))) h0 n0 v U'.heap L ∧ FrameEnd U o U' L ({ frames := 0, cells := 0, slots := 0, locals := 0 } : Room).cells ({ frames := 0, cells := 0, slots := 0, locals := 0 } : Room).slots) := by
  refine MetFree.of_bodySF (plainFor_of_name own_pn_com_example_limpet_limpet_io_ResponseOfPinLaw) hisR ?_
  intro p e s m args below meth c s₁ Bd hml0 hP hK
  obtain ⟨rfl, hZ, hh⟩ := hP
  have hx := Bd.exec
  have hby := Bd.bytes
  have hml : c.maxLocals = 1 := hml0
  have hown : s.vm.findClass "com/example/limpet/limpet/io/ResponseOfPinLaw" = some m.cls := findClass_of_methodNamed Bd.named
  have hnm := (name_of_methodNamed Bd.named Bd.method).1
  have X0 : Stand p l e ({ frames := 0, cells := 0, slots := 0, locals := 0 } : Room) s m #[(.int (4 : Int32))] below meth c s₁ [] 0 0 := Stand.of_body Bd
  have e0 : s₁.heap = h0 := by rw [← hh, Bd.state]; rfl
  have N0 := Fr.nil n0
  have pre0 : ∀ t, Steps p.tables e below (s₁.setTop (mkF m 0 #[.val (.int (4 : Int32))] [])) t → Steps p.tables e below (s₁.setTop (entryFrame m #[(.int (4 : Int32))] 1)) t := fun t k => castTop (own_ef_own_pick_4 m) k
  obtain ⟨T1, X1, e1, st1⟩ := getS2 X0 hx hZ hown (host := "") (Or.inl (hw _ (List.mem_of_getElem? (i := 49) rfl))) Via.refl e0 (own_S_UNSUPPORTED_KEY W) (g := (mkF m 40 #[.val (.int (4 : Int32))] [])) rfl (hb hby own_d_method_2_code_40)
  have ch2 : ∀ t, Steps p.tables e below (T1.setTop (mkF m 43 #[.val (.int (4 : Int32))] [(.ref (ad 5))])) t → Steps p.tables e below (s₁.setTop (entryFrame m #[(.int (4 : Int32))] 1)) t := fun t k => pre0 t (by
      show Steps p.tables e below (s₁.setTop (mkF m 0 #[.val (.int (4 : Int32))] [])) t
      refine XS.iloadN X0.here hx rfl (hb hby own_d_method_2_code_0) rfl ?_
      show Steps p.tables e below (s₁.setTop (mkF m 1 #[.val (.int (4 : Int32))] [(.int (4 : Int32))])) t
      refine XS.ifYes X0.here hx rfl (pc0 := 1) (pc' := 8) rfl (hb hby own_d_method_2_code_1) rfl ((if0 _ _).trans (feq (by decide : ¬ (4 : Int32) = (0 : Int32))).2) (by decide) (by decide) ?_
      show Steps p.tables e below (s₁.setTop (mkF m 8 #[.val (.int (4 : Int32))] [])) t
      refine XS.iloadN X0.here hx rfl (hb hby own_d_method_2_code_8) rfl ?_
      show Steps p.tables e below (s₁.setTop (mkF m 9 #[.val (.int (4 : Int32))] [(.int (4 : Int32))])) t
      refine XS.iconst X0.here hx rfl (hb hby own_d_method_2_code_9) ?_
      show Steps p.tables e below (s₁.setTop (mkF m 10 #[.val (.int (4 : Int32))] [(.int (1 : Int32)), (.int (4 : Int32))])) t
      refine XS.icmpYes X0.here hx rfl (pc0 := 10) (pc' := 17) rfl (hb hby own_d_method_2_code_10) rfl (feq (by decide : ¬ (4 : Int32) = (1 : Int32))).2 (by decide) (by decide) ?_
      show Steps p.tables e below (s₁.setTop (mkF m 17 #[.val (.int (4 : Int32))] [])) t
      refine XS.iloadN X0.here hx rfl (hb hby own_d_method_2_code_17) rfl ?_
      show Steps p.tables e below (s₁.setTop (mkF m 18 #[.val (.int (4 : Int32))] [(.int (4 : Int32))])) t
      refine XS.iconst X0.here hx rfl (hb hby own_d_method_2_code_18) ?_
      show Steps p.tables e below (s₁.setTop (mkF m 19 #[.val (.int (4 : Int32))] [(.int (2 : Int32)), (.int (4 : Int32))])) t
      refine XS.icmpYes X0.here hx rfl (pc0 := 19) (pc' := 26) rfl (hb hby own_d_method_2_code_19) rfl (feq (by decide : ¬ (4 : Int32) = (2 : Int32))).2 (by decide) (by decide) ?_
      show Steps p.tables e below (s₁.setTop (mkF m 26 #[.val (.int (4 : Int32))] [])) t
      refine XS.iloadN X0.here hx rfl (hb hby own_d_method_2_code_26) rfl ?_
      show Steps p.tables e below (s₁.setTop (mkF m 27 #[.val (.int (4 : Int32))] [(.int (4 : Int32))])) t
      refine XS.iconst X0.here hx rfl (hb hby own_d_method_2_code_27) ?_
      show Steps p.tables e below (s₁.setTop (mkF m 28 #[.val (.int (4 : Int32))] [(.int (3 : Int32)), (.int (4 : Int32))])) t
      refine XS.icmpYes X0.here hx rfl (pc0 := 28) (pc' := 35) rfl (hb hby own_d_method_2_code_28) rfl (feq (by decide : ¬ (4 : Int32) = (3 : Int32))).2 (by decide) (by decide) ?_
      show Steps p.tables e below (s₁.setTop (mkF m 35 #[.val (.int (4 : Int32))] [])) t
      refine XS.iloadN X0.here hx rfl (hb hby own_d_method_2_code_35) rfl ?_
      show Steps p.tables e below (s₁.setTop (mkF m 36 #[.val (.int (4 : Int32))] [(.int (4 : Int32))])) t
      refine XS.iconst X0.here hx rfl (hb hby own_d_method_2_code_36) ?_
      show Steps p.tables e below (s₁.setTop (mkF m 37 #[.val (.int (4 : Int32))] [(.int (4 : Int32)), (.int (4 : Int32))])) t
      refine XS.icmpNo X0.here hx rfl (hb hby own_d_method_2_code_37) rfl (teq (by decide : (4 : Int32) = (4 : Int32))).2 ?_
      show Steps p.tables e below (s₁.setTop (mkF m 40 #[.val (.int (4 : Int32))] [])) t
      exact st1 t k)
  obtain ⟨fs, hr, hrun, hended, hW, hsame⟩ := X1.leave (v := some (.ref (ad 5))) (fun h => by rw [Bd.returns] at h; cases h)
  refine ⟨_, _, ch2 _ ?_, hrun, hended, _, _, rfl, ?_, ⟨_, rfl⟩, hW, hsame.mono (by decide) (by decide)⟩
  · show Steps p.tables e below (T1.setTop (mkF m 43 #[.val (.int (4 : Int32))] [(.ref (ad 5))])) _
    jvm_step X1.here [X1.here.top, hx, (hb hby own_d_method_2_code_43), X1.method', Bd.returns, Value.isRef, FieldType.isReference]
    first | (intro acts; rw [hr _ acts rfl rfl rfl]) | rw [hr _ _ rfl rfl rfl]
    exact Steps.refl _
  · show QV (some (.ref (ad 5))) h0 n0 _ T1.heap _
    rw [e1]
    exact ⟨rfl, N0, rfl⟩
theorem own_ef_own_law_4 (m : MethodId) {x0 : Int32} : entryFrame m #[(.int x0)] maxLocals = mkF m 0 #[.val (.int x0), .unset, .unset, .unset, .unset] [] := by first | (simp [entryFrame, mkF, argsToLocals, Value.category, maxLocals]; done) | rfl
set_option maxRecDepth 65536 in
set_option maxHeartbeats 40000000 in
theorem own_law_4 (l : Launch) (Z : State) (a0 : Array Value) (hw : ∀ d ∈ tables_1, d.before a0 Z = true) (ws : List Jvm.Cond) (h0 : Heap) (n0 : Nat) (Z0 : n0 ≤ h0.size) (p1 : Int32) (hk : (p1 &&& (2147483647 : Int32)) % (9 : Int32) = (4 : Int32)) (ad : Nat → Addr) (a_EMPTY : Addr) (k_EMPTY : ClassId) (W : OwnWd Z h0 ad a_EMPTY k_EMPTY) :
    MetFree l x (head1 (Jvm.Cond.code x code maxLocals ret :: ws) room_1) (fun a U => a = #[(.int p1)] ∧ Z.Warmed39 U.vm ∧ U.heap = h0) (fun _ _ _ _ _ => True) (fun _ U o U' => ∃ v L, o = .returned v ∧ QN (some (.int (1 : Int32))) n0 v U'.heap L ∧ FrameEnd U o U' L room_1.cells room_1.slots) := by
  refine MetFree.of_bodySF (plainFor_of_name own_pn_com_example_limpet_limpet_io_ResponseOfPinLaw) hisR ?_
  intro p e s m args below meth c s₁ Bd hml0 hP hK
  obtain ⟨rfl, hZ, hh⟩ := hP
  have hx := Bd.exec
  have hby := Bd.bytes
  have hml : c.maxLocals = 5 := hml0
  have hown : s.vm.findClass "com/example/limpet/limpet/io/ResponseOfPinLaw" = some m.cls := findClass_of_methodNamed Bd.named
  have hnm := (name_of_methodNamed Bd.named Bd.method).1
  have X0 : Stand p l e room_1 s m #[(.int p1)] below meth c s₁ [] 0 0 := Stand.of_body Bd
  have e0 : s₁.heap = h0 := by rw [← hh, Bd.state]; rfl
  have N0 := Fr.nil n0
  have pre0 : ∀ t, Steps p.tables e below (s₁.setTop (mkF m 0 #[.val (.int p1), .unset, .unset, .unset, .unset] [])) t → Steps p.tables e below (s₁.setTop (entryFrame m #[(.int p1)] maxLocals)) t := fun t k => castTop (own_ef_own_law_4 m) k
  obtain ⟨vv1, _, ⟨T1, L1, kk1, nn1⟩, -, X1, ⟨Lc1, hQ1, l1, y1, z1⟩, st1⟩ := Jvm.LawKit.callS X0 hx (y := (⟨"com/example/limpet/limpet/io/ResponseOfPinLaw", "pick", "(I)Lcom/example/limpet/limpet/io/Status;"⟩ : MethodName)) hown (mvT hZ (hw _ (List.mem_of_getElem? (i := 1) rfl))) (mvT hZ (hw _ (List.mem_of_getElem? (i := 2) rfl))) (mvT hZ (hw _ (List.mem_of_getElem? (i := 3) rfl))) (mvT hZ (hw _ (List.mem_of_getElem? (i := 4) rfl))) (by decide) (backOf (W := 0) (own_pick_4 l Z a0 hw [] h0 n0 Z0 ad a_EMPTY k_EMPTY W) hZ (hw _ (List.mem_of_getElem? (i := 4) rfl)) (hw _ (List.mem_of_getElem? (i := 3) rfl)) (by decide) (by decide)) (g := (mkF m 9 #[.val (.int p1), .val (.int (4 : Int32)), .unset, .unset, .unset] [(.int (4 : Int32))])) rfl (by rw [hml]; rfl) (argsL := [(.int (4 : Int32))]) (rest := []) (lenOf own_pd__I_Lcom_example_limpet_limpet_io_Status_ rfl) rfl (by show 2 * 0 + _ ≤ _; exact Nat.le_of_eq rfl) (hb hby at_9) (fun _ _ => ⟨rfl, e0, (by decide : 0 + 0 ≤ _), (by decide : 0 + 0 ≤ _)⟩)
  dsimp only [Pt.U, Pt.locs, Pt.cells, Pt.slots] at X1 l1 y1 z1 st1 hQ1
  subst l1 y1 z1
  obtain ⟨rfl, Nq1, e1⟩ := hQ1
  have N1 := Fr.app N0 Nq1
  have ch2 : ∀ t, Steps p.tables e below (T1.setTop (mkF m 12 #[.val (.int p1), .val (.int (4 : Int32)), .unset, .unset, .unset] [(.ref (ad 5))])) t → Steps p.tables e below (s₁.setTop (entryFrame m #[(.int p1)] maxLocals)) t := fun t k => pre0 t (by
      show Steps p.tables e below (s₁.setTop (mkF m 0 #[.val (.int p1), .unset, .unset, .unset, .unset] [])) t
      refine XS.iloadN X0.here hx rfl (hb hby at_0) rfl ?_
      show Steps p.tables e below (s₁.setTop (mkF m 1 #[.val (.int p1), .unset, .unset, .unset, .unset] [(.int p1)])) t
      refine X0.ldcInt hx hown (mvT hZ (hw _ (List.mem_of_getElem? (i := 0) rfl))) (g := (mkF m 1 #[.val (.int p1), .unset, .unset, .unset, .unset] [(.int p1)])) rfl (hb hby at_1) _ ?_
      show Steps p.tables e below (s₁.setTop (mkF m 3 #[.val (.int p1), .unset, .unset, .unset, .unset] [(.int (2147483647 : Int32)), (.int p1)])) t
      refine XS.iand X0.here hx rfl (hb hby at_3) rfl ?_
      show Steps p.tables e below (s₁.setTop (mkF m 4 #[.val (.int p1), .unset, .unset, .unset, .unset] [(.int (p1 &&& (2147483647 : Int32)))])) t
      refine XS.bipush X0.here hx rfl (hb hby at_4) ?_
      show Steps p.tables e below (s₁.setTop (mkF m 6 #[.val (.int p1), .unset, .unset, .unset, .unset] [(.int (9 : Int32)), (.int (p1 &&& (2147483647 : Int32)))])) t
      refine Jvm.RoadKit.iremM (g := (mkF m 6 #[.val (.int p1), .unset, .unset, .unset, .unset] [(.int (9 : Int32)), (.int (p1 &&& (2147483647 : Int32)))])) X0 hx rfl (hb hby at_6) rfl (by decide) ?_
      rw [hk]
      show Steps p.tables e below (s₁.setTop (mkF m 7 #[.val (.int p1), .unset, .unset, .unset, .unset] [(.int (4 : Int32))])) t
      refine XS.istoreN X0.here hx rfl (hb hby at_7) rfl (l' := #[.val (.int p1), .val (.int (4 : Int32)), .unset, .unset, .unset]) rfl ?_
      show Steps p.tables e below (s₁.setTop (mkF m 8 #[.val (.int p1), .val (.int (4 : Int32)), .unset, .unset, .unset] [])) t
      refine XS.iloadN X0.here hx rfl (hb hby at_8) rfl ?_
      show Steps p.tables e below (s₁.setTop (mkF m 9 #[.val (.int p1), .val (.int (4 : Int32)), .unset, .unset, .unset] [(.int (4 : Int32))])) t
      exact st1 t k)
  obtain ⟨vv3, _, ⟨T3, L3, kk3, nn3⟩, -, X3, ⟨Lc3, hQ3, l3, y3, z3⟩, st3⟩ := Jvm.LawKit.callS X1 hx (y := (⟨"com/example/limpet/limpet/io/Response", "of", "(Lcom/example/limpet/limpet/io/Status;)Lcom/example/limpet/limpet/io/Response;"⟩ : MethodName)) hown (mvT hZ (hw _ (List.mem_of_getElem? (i := 8) rfl))) (mvT hZ (hw _ (List.mem_of_getElem? (i := 9) rfl))) (mvT hZ (hw _ (List.mem_of_getElem? (i := 10) rfl))) (mvT hZ (hw _ (List.mem_of_getElem? (i := 11) rfl))) (by decide) (backOf (W := 0) (own_of l Z a0 hw [] h0 n0 (Nat.le_trans Z0 (Keep.refl h0 []).1) (ad 5) ad a_EMPTY k_EMPTY W) hZ (hw _ (List.mem_of_getElem? (i := 11) rfl)) (hw _ (List.mem_of_getElem? (i := 10) rfl)) (by decide) (by decide)) (g := (mkF m 14 #[.val (.int p1), .val (.int (4 : Int32)), .val (.ref (ad 5)), .unset, .unset] [(.ref (ad 5))])) rfl (by rw [hml]; rfl) (argsL := [(.ref (ad 5))]) (rest := []) (lenOf own_pd__Lcom_example_limpet_limpet_io_Status__Lcom_example_limpet_limpet_io_Response_ rfl) rfl (by show 2 * 0 + _ ≤ _; exact Nat.le_of_eq rfl) (hb hby at_14) (fun _ _ => ⟨rfl, e1, (by decide : 0 + 1 ≤ _), (by decide : 0 + 2 ≤ _)⟩)
  dsimp only [Pt.U, Pt.locs, Pt.cells, Pt.slots] at X3 l3 y3 z3 st3 hQ3
  subst l3 y3 z3
  obtain ⟨hh3, eh3⟩ : ∃ h, T3.heap = h := ⟨_, rfl⟩
  rw [eh3] at hQ3
  obtain ⟨rb, rfl, zq3, Nq3, Kq3, fq3_0, fq3_1, fq3_2⟩ := hQ3
  have N3 := Fr.app N1 Nq3
  have ne_ad0_rb : (ad 0) ≠ rb := Nat.ne_of_lt (Nat.lt_of_lt_of_le (own_E_OK W).lt zq3)
  have ne_ad1_rb : (ad 1) ≠ rb := Nat.ne_of_lt (Nat.lt_of_lt_of_le (own_E_FAILED W).lt zq3)
  have ne_ad2_rb : (ad 2) ≠ rb := Nat.ne_of_lt (Nat.lt_of_lt_of_le (own_E_NOT_FOUND W).lt zq3)
  have ne_ad3_rb : (ad 3) ≠ rb := Nat.ne_of_lt (Nat.lt_of_lt_of_le (own_E_BAD_REQUEST W).lt zq3)
  have ne_ad4_rb : (ad 4) ≠ rb := Nat.ne_of_lt (Nat.lt_of_lt_of_le (own_E_TOO_MANY_KEYS W).lt zq3)
  have ne_ad5_rb : (ad 5) ≠ rb := Nat.ne_of_lt (Nat.lt_of_lt_of_le (own_E_UNSUPPORTED_KEY W).lt zq3)
  have ne_ad6_rb : (ad 6) ≠ rb := Nat.ne_of_lt (Nat.lt_of_lt_of_le (own_E_TOO_MANY_GRANTS W).lt zq3)
  have ne_ad7_rb : (ad 7) ≠ rb := Nat.ne_of_lt (Nat.lt_of_lt_of_le (own_E_GRANT_NOT_FOUND W).lt zq3)
  have ne_ad8_rb : (ad 8) ≠ rb := Nat.ne_of_lt (Nat.lt_of_lt_of_le (own_E_PERMISSION_DENIED W).lt zq3)
  have ne_a_EMPTY_rb : a_EMPTY ≠ rb := Nat.ne_of_lt (Nat.lt_of_lt_of_le (own_V_EMPTY W).lt zq3)
  have g_rb : n0 ≤ rb := Nat.le_trans (Nat.le_trans Z0 (Keep.refl h0 []).1) zq3
  have sz_rb : h0.size ≤ rb := Nat.le_trans (Keep.refl h0 []).1 zq3
  have Kp3 := Keep.trans (Keep.refl h0 []) Kq3 all0
  have ch4 : ∀ t, Steps p.tables e below (T3.setTop (mkF m 17 #[.val (.int p1), .val (.int (4 : Int32)), .val (.ref (ad 5)), .unset, .unset] [(.ref rb)])) t → Steps p.tables e below (s₁.setTop (entryFrame m #[(.int p1)] maxLocals)) t := fun t k => ch2 t (by
      show Steps p.tables e below (T1.setTop (mkF m 12 #[.val (.int p1), .val (.int (4 : Int32)), .unset, .unset, .unset] [(.ref (ad 5))])) t
      refine XS.astoreN X1.here hx rfl (hb hby at_12) rfl rfl (l' := #[.val (.int p1), .val (.int (4 : Int32)), .val (.ref (ad 5)), .unset, .unset]) rfl ?_
      show Steps p.tables e below (T1.setTop (mkF m 13 #[.val (.int p1), .val (.int (4 : Int32)), .val (.ref (ad 5)), .unset, .unset] [])) t
      refine XS.aloadN X1.here hx rfl (hb hby at_13) rfl rfl ?_
      show Steps p.tables e below (T1.setTop (mkF m 14 #[.val (.int p1), .val (.int (4 : Int32)), .val (.ref (ad 5)), .unset, .unset] [(.ref (ad 5))])) t
      exact st3 t k)
  obtain ⟨cq5, kq5, qa5, qb5, qc5⟩ := isOf hZ eh3 fq3_0
  obtain ⟨vv6, _, ⟨T6, L6, kk6, nn6⟩, -, X6, ⟨Lc6, hQ6, l6, y6, z6⟩, st6⟩ := X3.virtualBack hx (y := (⟨"com/example/limpet/limpet/io/Response", "payload", "()[B"⟩ : MethodName)) (z := (⟨"com/example/limpet/limpet/io/Response", "payload", "()[B"⟩ : MethodName)) hown (mvT hZ (hw _ (List.mem_of_getElem? (i := 31) rfl))) (mvT hZ (hw _ (List.mem_of_getElem? (i := 32) rfl))) (notFace_of_selects (args := #[]) (mvT hZ (hw _ (List.mem_of_getElem? (i := 34) rfl)))) (mvT hZ (hw _ (List.mem_of_getElem? (i := 34) rfl))) (mvT hZ (hw _ (List.mem_of_getElem? (i := 33) rfl))) (by decide) (backOf (W := 0) (own_pay l Z a0 hw [] hh3 n0 (Nat.le_trans Z0 Kp3.1) rb a_EMPTY fq3_2) hZ (hw _ (List.mem_of_getElem? (i := 35) rfl)) (hw _ (List.mem_of_getElem? (i := 10) rfl)) (by decide) (by decide)) qa5 qc5 (g := (mkF m 19 #[.val (.int p1), .val (.int (4 : Int32)), .val (.ref (ad 5)), .val (.ref rb), .unset] [(.ref rb)])) rfl (by rw [hml]; rfl) (Steps.refl _) (argsL := []) (rest := []) (lenOf own_pd____B rfl) rfl (by show 2 * 0 + _ ≤ _; exact Nat.le_of_eq rfl) (hb hby at_19) (fun _ _ => ⟨rfl, eh3, (by decide : 1 + 0 ≤ _), (by decide : 2 + 0 ≤ _)⟩)
  dsimp only [Pt.U, Pt.locs, Pt.cells, Pt.slots] at X6 l6 y6 z6 st6 hQ6
  subst l6 y6 z6
  obtain ⟨rfl, Nq6, e6⟩ := hQ6
  have N6 := Fr.app N3 Nq6
  have ch7 : ∀ t, Steps p.tables e below (T6.setTop (mkF m 22 #[.val (.int p1), .val (.int (4 : Int32)), .val (.ref (ad 5)), .val (.ref rb), .unset] [(.ref a_EMPTY)])) t → Steps p.tables e below (s₁.setTop (entryFrame m #[(.int p1)] maxLocals)) t := fun t k => ch4 t (by
      show Steps p.tables e below (T3.setTop (mkF m 17 #[.val (.int p1), .val (.int (4 : Int32)), .val (.ref (ad 5)), .unset, .unset] [(.ref rb)])) t
      refine XS.astoreN X3.here hx rfl (hb hby at_17) rfl rfl (l' := #[.val (.int p1), .val (.int (4 : Int32)), .val (.ref (ad 5)), .val (.ref rb), .unset]) rfl ?_
      show Steps p.tables e below (T3.setTop (mkF m 18 #[.val (.int p1), .val (.int (4 : Int32)), .val (.ref (ad 5)), .val (.ref rb), .unset] [])) t
      refine XS.aloadN X3.here hx rfl (hb hby at_18) rfl rfl ?_
      show Steps p.tables e below (T3.setTop (mkF m 19 #[.val (.int p1), .val (.int (4 : Int32)), .val (.ref (ad 5)), .val (.ref rb), .unset] [(.ref rb)])) t
      exact st6.trans k)
  obtain ⟨cq8, kq8, qa8, qb8, qc8⟩ := isOf hZ e6 fq3_0
  obtain ⟨vv9, _, ⟨T9, L9, kk9, nn9⟩, -, X9, ⟨Lc9, hQ9, l9, y9, z9⟩, st9⟩ := X6.virtualBack hx (y := (⟨"com/example/limpet/limpet/io/Response", "status", "()Lcom/example/limpet/limpet/io/Status;"⟩ : MethodName)) (z := (⟨"com/example/limpet/limpet/io/Response", "status", "()Lcom/example/limpet/limpet/io/Status;"⟩ : MethodName)) hown (mvT hZ (hw _ (List.mem_of_getElem? (i := 36) rfl))) (mvT hZ (hw _ (List.mem_of_getElem? (i := 37) rfl))) (notFace_of_selects (args := #[]) (mvT hZ (hw _ (List.mem_of_getElem? (i := 39) rfl)))) (mvT hZ (hw _ (List.mem_of_getElem? (i := 39) rfl))) (mvT hZ (hw _ (List.mem_of_getElem? (i := 38) rfl))) (by decide) (backOf (W := 0) (own_sta l Z a0 hw [] hh3 n0 (Nat.le_trans Z0 Kp3.1) rb (ad 5) fq3_1) hZ (hw _ (List.mem_of_getElem? (i := 40) rfl)) (hw _ (List.mem_of_getElem? (i := 10) rfl)) (by decide) (by decide)) qa8 qc8 (g := (mkF m 25 #[.val (.int p1), .val (.int (4 : Int32)), .val (.ref (ad 5)), .val (.ref rb), .val (.ref a_EMPTY)] [(.ref rb)])) rfl (by rw [hml]; rfl) (Steps.refl _) (argsL := []) (rest := []) (lenOf own_pd___Lcom_example_limpet_limpet_io_Status_ rfl) rfl (by show 2 * 0 + _ ≤ _; exact Nat.le_of_eq rfl) (hb hby at_25) (fun _ _ => ⟨rfl, e6, (by decide : 1 + 0 ≤ _), (by decide : 2 + 0 ≤ _)⟩)
  dsimp only [Pt.U, Pt.locs, Pt.cells, Pt.slots] at X9 l9 y9 z9 st9 hQ9
  subst l9 y9 z9
  obtain ⟨rfl, Nq9, e9⟩ := hQ9
  have N9 := Fr.app N6 Nq9
  have ch10 : ∀ t, Steps p.tables e below (T9.setTop (mkF m 28 #[.val (.int p1), .val (.int (4 : Int32)), .val (.ref (ad 5)), .val (.ref rb), .val (.ref a_EMPTY)] [(.ref (ad 5))])) t → Steps p.tables e below (s₁.setTop (entryFrame m #[(.int p1)] maxLocals)) t := fun t k => ch7 t (by
      show Steps p.tables e below (T6.setTop (mkF m 22 #[.val (.int p1), .val (.int (4 : Int32)), .val (.ref (ad 5)), .val (.ref rb), .unset] [(.ref a_EMPTY)])) t
      refine XS.astore X6.here hx rfl (hb hby at_22) rfl rfl (l' := #[.val (.int p1), .val (.int (4 : Int32)), .val (.ref (ad 5)), .val (.ref rb), .val (.ref a_EMPTY)]) rfl ?_
      show Steps p.tables e below (T6.setTop (mkF m 24 #[.val (.int p1), .val (.int (4 : Int32)), .val (.ref (ad 5)), .val (.ref rb), .val (.ref a_EMPTY)] [])) t
      refine XS.aloadN X6.here hx rfl (hb hby at_24) rfl rfl ?_
      show Steps p.tables e below (T6.setTop (mkF m 25 #[.val (.int p1), .val (.int (4 : Int32)), .val (.ref (ad 5)), .val (.ref rb), .val (.ref a_EMPTY)] [(.ref rb)])) t
      exact st9.trans k)
  have cf11 := ((own_V_EMPTY W).keep Kp3 nin0)
  obtain ⟨cl12, Ar12, -, Sz12, Ng12, -, -⟩ := cf11
  have ch13 : ∀ t, Steps p.tables e below (T9.setTop (mkF m 48 #[.val (.int p1), .val (.int (4 : Int32)), .val (.ref (ad 5)), .val (.ref rb), .val (.ref a_EMPTY)] [(.int (1 : Int32))])) t → Steps p.tables e below (s₁.setTop (entryFrame m #[(.int p1)] maxLocals)) t := fun t k => ch10 t (by
      show Steps p.tables e below (T9.setTop (mkF m 28 #[.val (.int p1), .val (.int (4 : Int32)), .val (.ref (ad 5)), .val (.ref rb), .val (.ref a_EMPTY)] [(.ref (ad 5))])) t
      refine XS.aloadN X9.here hx rfl (hb hby at_28) rfl rfl ?_
      show Steps p.tables e below (T9.setTop (mkF m 29 #[.val (.int p1), .val (.int (4 : Int32)), .val (.ref (ad 5)), .val (.ref rb), .val (.ref a_EMPTY)] [(.ref (ad 5)), (.ref (ad 5))])) t
      refine Jvm.RoadKit.acmp (g := (mkF m 29 #[.val (.int p1), .val (.int (4 : Int32)), .val (.ref (ad 5)), .val (.ref rb), .val (.ref a_EMPTY)] [(.ref (ad 5)), (.ref (ad 5))])) X9 hx rfl rfl rfl (pc0 := 29) (pc' := 32) (same := true) rfl (hb hby at_29) rfl (decide_eq_true rfl) (by decide) (by decide) ?_
      show Steps p.tables e below (T9.setTop (mkF m 32 #[.val (.int p1), .val (.int (4 : Int32)), .val (.ref (ad 5)), .val (.ref rb), .val (.ref a_EMPTY)] [])) t
      refine XS.aload X9.here hx rfl (hb hby at_32) rfl rfl ?_
      show Steps p.tables e below (T9.setTop (mkF m 34 #[.val (.int p1), .val (.int (4 : Int32)), .val (.ref (ad 5)), .val (.ref rb), .val (.ref a_EMPTY)] [(.ref a_EMPTY)])) t
      refine XS.ifnullNo X9.here hx rfl (hb hby at_34) rfl ?_
      show Steps p.tables e below (T9.setTop (mkF m 37 #[.val (.int p1), .val (.int (4 : Int32)), .val (.ref (ad 5)), .val (.ref rb), .val (.ref a_EMPTY)] [])) t
      refine XS.aload X9.here hx rfl (hb hby at_37) rfl rfl ?_
      show Steps p.tables e below (T9.setTop (mkF m 39 #[.val (.int p1), .val (.int (4 : Int32)), .val (.ref (ad 5)), .val (.ref rb), .val (.ref a_EMPTY)] [(.ref a_EMPTY)])) t
      refine X9.arraylength hx (by rw [e9]; exact Ar12.1) (State.isArrayOf_alike hZ.alike Ar12.2.1) (g := (mkF m 39 #[.val (.int p1), .val (.int (4 : Int32)), .val (.ref (ad 5)), .val (.ref rb), .val (.ref a_EMPTY)] [(.ref a_EMPTY)])) rfl rfl (hb hby at_39) _ ?_
      rw [len_of Sz12 Ng12]
      show Steps p.tables e below (T9.setTop (mkF m 40 #[.val (.int p1), .val (.int (4 : Int32)), .val (.ref (ad 5)), .val (.ref rb), .val (.ref a_EMPTY)] [(.int (0 : Int32))])) t
      refine XS.ifNo X9.here hx rfl (hb hby at_40) rfl ((if0 _ _).trans (teq (by decide : (0 : Int32) = (0 : Int32))).2) ?_
      show Steps p.tables e below (T9.setTop (mkF m 43 #[.val (.int p1), .val (.int (4 : Int32)), .val (.ref (ad 5)), .val (.ref rb), .val (.ref a_EMPTY)] [])) t
      refine XS.iconst X9.here hx rfl (hb hby at_43) ?_
      show Steps p.tables e below (T9.setTop (mkF m 44 #[.val (.int p1), .val (.int (4 : Int32)), .val (.ref (ad 5)), .val (.ref rb), .val (.ref a_EMPTY)] [(.int (1 : Int32))])) t
      refine XS.goto X9.here hx rfl (pc0 := 44) (pc' := 48) rfl (hb hby at_44) (by decide) (by decide) ?_
      exact k)
  obtain ⟨fs, hr, hrun, hended, hW, hsame⟩ := X9.leave (v := some (.int (1 : Int32))) (fun h => by rw [Bd.returns] at h; cases h)
  refine ⟨_, _, ch13 _ ?_, hrun, hended, _, _, rfl, ?_, ⟨_, rfl⟩, hW, hsame.mono (by decide) (by decide)⟩
  · show Steps p.tables e below (T9.setTop (mkF m 48 #[.val (.int p1), .val (.int (4 : Int32)), .val (.ref (ad 5)), .val (.ref rb), .val (.ref a_EMPTY)] [(.int (1 : Int32))])) _
    exact retN X9 hx (t := .boolean) Bd.returns (by simp) (hb hby at_48) hr
  · show QN (some (.int (1 : Int32))) n0 _ T9.heap _
    rw [e9]
    exact ⟨rfl, N9⟩
theorem own_ef_own_pick_5 (m : MethodId) {x0 : Int32} : entryFrame m #[(.int x0)] 1 = mkF m 0 #[.val (.int x0)] [] := by first | (simp [entryFrame, mkF, argsToLocals, Value.category, maxLocals]; done) | rfl
set_option maxRecDepth 65536 in
set_option maxHeartbeats 40000000 in
theorem own_pick_5 (l : Launch) (Z : State) (a0 : Array Value) (hw : ∀ d ∈ tables_1, d.before a0 Z = true) (ws : List Jvm.Cond) (h0 : Heap) (n0 : Nat) (Z0 : n0 ≤ h0.size) (ad : Nat → Addr) (a_EMPTY : Addr) (k_EMPTY : ClassId) (W : OwnWd Z h0 ad a_EMPTY k_EMPTY) :
    MetFree l (⟨"com/example/limpet/limpet/io/ResponseOfPinLaw", "pick", "(I)Lcom/example/limpet/limpet/io/Status;"⟩ : MethodName) (head1 (Jvm.Cond.code (⟨"com/example/limpet/limpet/io/ResponseOfPinLaw", "pick", "(I)Lcom/example/limpet/limpet/io/Status;"⟩ : MethodName) method_2_code 1 (some (.object "com/example/limpet/limpet/io/Status")) :: ws) ({ frames := 0, cells := 0, slots := 0, locals := 0 } : Room)) (fun a U => a = #[(.int (5 : Int32))] ∧ Z.Warmed39 U.vm ∧ U.heap = h0) (fun _ _ _ _ _ => True) (fun _ U o U' => ∃ v L, o = .returned v ∧ QV (some (.ref (ad 8))) h0 n0 v U'.heap L ∧ FrameEnd U o U' L ({ frames := 0, cells := 0, slots := 0, locals := 0 } : Room).cells ({ frames := 0, cells := 0, slots := 0, locals := 0 } : Room).slots) := by
  refine MetFree.of_bodySF (plainFor_of_name own_pn_com_example_limpet_limpet_io_ResponseOfPinLaw) hisR ?_
  intro p e s m args below meth c s₁ Bd hml0 hP hK
  obtain ⟨rfl, hZ, hh⟩ := hP
  have hx := Bd.exec
  have hby := Bd.bytes
  have hml : c.maxLocals = 1 := hml0
  have hown : s.vm.findClass "com/example/limpet/limpet/io/ResponseOfPinLaw" = some m.cls := findClass_of_methodNamed Bd.named
  have hnm := (name_of_methodNamed Bd.named Bd.method).1
  have X0 : Stand p l e ({ frames := 0, cells := 0, slots := 0, locals := 0 } : Room) s m #[(.int (5 : Int32))] below meth c s₁ [] 0 0 := Stand.of_body Bd
  have e0 : s₁.heap = h0 := by rw [← hh, Bd.state]; rfl
  have N0 := Fr.nil n0
  have pre0 : ∀ t, Steps p.tables e below (s₁.setTop (mkF m 0 #[.val (.int (5 : Int32))] [])) t → Steps p.tables e below (s₁.setTop (entryFrame m #[(.int (5 : Int32))] 1)) t := fun t k => castTop (own_ef_own_pick_5 m) k
  obtain ⟨T1, X1, e1, st1⟩ := getS2 X0 hx hZ hown (host := "") (Or.inl (hw _ (List.mem_of_getElem? (i := 55) rfl))) Via.refl e0 (own_S_PERMISSION_DENIED W) (g := (mkF m 49 #[.val (.int (5 : Int32))] [])) rfl (hb hby own_d_method_2_code_49)
  have ch2 : ∀ t, Steps p.tables e below (T1.setTop (mkF m 52 #[.val (.int (5 : Int32))] [(.ref (ad 8))])) t → Steps p.tables e below (s₁.setTop (entryFrame m #[(.int (5 : Int32))] 1)) t := fun t k => pre0 t (by
      show Steps p.tables e below (s₁.setTop (mkF m 0 #[.val (.int (5 : Int32))] [])) t
      refine XS.iloadN X0.here hx rfl (hb hby own_d_method_2_code_0) rfl ?_
      show Steps p.tables e below (s₁.setTop (mkF m 1 #[.val (.int (5 : Int32))] [(.int (5 : Int32))])) t
      refine XS.ifYes X0.here hx rfl (pc0 := 1) (pc' := 8) rfl (hb hby own_d_method_2_code_1) rfl ((if0 _ _).trans (feq (by decide : ¬ (5 : Int32) = (0 : Int32))).2) (by decide) (by decide) ?_
      show Steps p.tables e below (s₁.setTop (mkF m 8 #[.val (.int (5 : Int32))] [])) t
      refine XS.iloadN X0.here hx rfl (hb hby own_d_method_2_code_8) rfl ?_
      show Steps p.tables e below (s₁.setTop (mkF m 9 #[.val (.int (5 : Int32))] [(.int (5 : Int32))])) t
      refine XS.iconst X0.here hx rfl (hb hby own_d_method_2_code_9) ?_
      show Steps p.tables e below (s₁.setTop (mkF m 10 #[.val (.int (5 : Int32))] [(.int (1 : Int32)), (.int (5 : Int32))])) t
      refine XS.icmpYes X0.here hx rfl (pc0 := 10) (pc' := 17) rfl (hb hby own_d_method_2_code_10) rfl (feq (by decide : ¬ (5 : Int32) = (1 : Int32))).2 (by decide) (by decide) ?_
      show Steps p.tables e below (s₁.setTop (mkF m 17 #[.val (.int (5 : Int32))] [])) t
      refine XS.iloadN X0.here hx rfl (hb hby own_d_method_2_code_17) rfl ?_
      show Steps p.tables e below (s₁.setTop (mkF m 18 #[.val (.int (5 : Int32))] [(.int (5 : Int32))])) t
      refine XS.iconst X0.here hx rfl (hb hby own_d_method_2_code_18) ?_
      show Steps p.tables e below (s₁.setTop (mkF m 19 #[.val (.int (5 : Int32))] [(.int (2 : Int32)), (.int (5 : Int32))])) t
      refine XS.icmpYes X0.here hx rfl (pc0 := 19) (pc' := 26) rfl (hb hby own_d_method_2_code_19) rfl (feq (by decide : ¬ (5 : Int32) = (2 : Int32))).2 (by decide) (by decide) ?_
      show Steps p.tables e below (s₁.setTop (mkF m 26 #[.val (.int (5 : Int32))] [])) t
      refine XS.iloadN X0.here hx rfl (hb hby own_d_method_2_code_26) rfl ?_
      show Steps p.tables e below (s₁.setTop (mkF m 27 #[.val (.int (5 : Int32))] [(.int (5 : Int32))])) t
      refine XS.iconst X0.here hx rfl (hb hby own_d_method_2_code_27) ?_
      show Steps p.tables e below (s₁.setTop (mkF m 28 #[.val (.int (5 : Int32))] [(.int (3 : Int32)), (.int (5 : Int32))])) t
      refine XS.icmpYes X0.here hx rfl (pc0 := 28) (pc' := 35) rfl (hb hby own_d_method_2_code_28) rfl (feq (by decide : ¬ (5 : Int32) = (3 : Int32))).2 (by decide) (by decide) ?_
      show Steps p.tables e below (s₁.setTop (mkF m 35 #[.val (.int (5 : Int32))] [])) t
      refine XS.iloadN X0.here hx rfl (hb hby own_d_method_2_code_35) rfl ?_
      show Steps p.tables e below (s₁.setTop (mkF m 36 #[.val (.int (5 : Int32))] [(.int (5 : Int32))])) t
      refine XS.iconst X0.here hx rfl (hb hby own_d_method_2_code_36) ?_
      show Steps p.tables e below (s₁.setTop (mkF m 37 #[.val (.int (5 : Int32))] [(.int (4 : Int32)), (.int (5 : Int32))])) t
      refine XS.icmpYes X0.here hx rfl (pc0 := 37) (pc' := 44) rfl (hb hby own_d_method_2_code_37) rfl (feq (by decide : ¬ (5 : Int32) = (4 : Int32))).2 (by decide) (by decide) ?_
      show Steps p.tables e below (s₁.setTop (mkF m 44 #[.val (.int (5 : Int32))] [])) t
      refine XS.iloadN X0.here hx rfl (hb hby own_d_method_2_code_44) rfl ?_
      show Steps p.tables e below (s₁.setTop (mkF m 45 #[.val (.int (5 : Int32))] [(.int (5 : Int32))])) t
      refine XS.iconst X0.here hx rfl (hb hby own_d_method_2_code_45) ?_
      show Steps p.tables e below (s₁.setTop (mkF m 46 #[.val (.int (5 : Int32))] [(.int (5 : Int32)), (.int (5 : Int32))])) t
      refine XS.icmpNo X0.here hx rfl (hb hby own_d_method_2_code_46) rfl (teq (by decide : (5 : Int32) = (5 : Int32))).2 ?_
      show Steps p.tables e below (s₁.setTop (mkF m 49 #[.val (.int (5 : Int32))] [])) t
      exact st1 t k)
  obtain ⟨fs, hr, hrun, hended, hW, hsame⟩ := X1.leave (v := some (.ref (ad 8))) (fun h => by rw [Bd.returns] at h; cases h)
  refine ⟨_, _, ch2 _ ?_, hrun, hended, _, _, rfl, ?_, ⟨_, rfl⟩, hW, hsame.mono (by decide) (by decide)⟩
  · show Steps p.tables e below (T1.setTop (mkF m 52 #[.val (.int (5 : Int32))] [(.ref (ad 8))])) _
    jvm_step X1.here [X1.here.top, hx, (hb hby own_d_method_2_code_52), X1.method', Bd.returns, Value.isRef, FieldType.isReference]
    first | (intro acts; rw [hr _ acts rfl rfl rfl]) | rw [hr _ _ rfl rfl rfl]
    exact Steps.refl _
  · show QV (some (.ref (ad 8))) h0 n0 _ T1.heap _
    rw [e1]
    exact ⟨rfl, N0, rfl⟩
theorem own_ef_own_law_5 (m : MethodId) {x0 : Int32} : entryFrame m #[(.int x0)] maxLocals = mkF m 0 #[.val (.int x0), .unset, .unset, .unset, .unset] [] := by first | (simp [entryFrame, mkF, argsToLocals, Value.category, maxLocals]; done) | rfl
set_option maxRecDepth 65536 in
set_option maxHeartbeats 40000000 in
theorem own_law_5 (l : Launch) (Z : State) (a0 : Array Value) (hw : ∀ d ∈ tables_1, d.before a0 Z = true) (ws : List Jvm.Cond) (h0 : Heap) (n0 : Nat) (Z0 : n0 ≤ h0.size) (p1 : Int32) (hk : (p1 &&& (2147483647 : Int32)) % (9 : Int32) = (5 : Int32)) (ad : Nat → Addr) (a_EMPTY : Addr) (k_EMPTY : ClassId) (W : OwnWd Z h0 ad a_EMPTY k_EMPTY) :
    MetFree l x (head1 (Jvm.Cond.code x code maxLocals ret :: ws) room_1) (fun a U => a = #[(.int p1)] ∧ Z.Warmed39 U.vm ∧ U.heap = h0) (fun _ _ _ _ _ => True) (fun _ U o U' => ∃ v L, o = .returned v ∧ QN (some (.int (1 : Int32))) n0 v U'.heap L ∧ FrameEnd U o U' L room_1.cells room_1.slots) := by
  refine MetFree.of_bodySF (plainFor_of_name own_pn_com_example_limpet_limpet_io_ResponseOfPinLaw) hisR ?_
  intro p e s m args below meth c s₁ Bd hml0 hP hK
  obtain ⟨rfl, hZ, hh⟩ := hP
  have hx := Bd.exec
  have hby := Bd.bytes
  have hml : c.maxLocals = 5 := hml0
  have hown : s.vm.findClass "com/example/limpet/limpet/io/ResponseOfPinLaw" = some m.cls := findClass_of_methodNamed Bd.named
  have hnm := (name_of_methodNamed Bd.named Bd.method).1
  have X0 : Stand p l e room_1 s m #[(.int p1)] below meth c s₁ [] 0 0 := Stand.of_body Bd
  have e0 : s₁.heap = h0 := by rw [← hh, Bd.state]; rfl
  have N0 := Fr.nil n0
  have pre0 : ∀ t, Steps p.tables e below (s₁.setTop (mkF m 0 #[.val (.int p1), .unset, .unset, .unset, .unset] [])) t → Steps p.tables e below (s₁.setTop (entryFrame m #[(.int p1)] maxLocals)) t := fun t k => castTop (own_ef_own_law_5 m) k
  obtain ⟨vv1, _, ⟨T1, L1, kk1, nn1⟩, -, X1, ⟨Lc1, hQ1, l1, y1, z1⟩, st1⟩ := Jvm.LawKit.callS X0 hx (y := (⟨"com/example/limpet/limpet/io/ResponseOfPinLaw", "pick", "(I)Lcom/example/limpet/limpet/io/Status;"⟩ : MethodName)) hown (mvT hZ (hw _ (List.mem_of_getElem? (i := 1) rfl))) (mvT hZ (hw _ (List.mem_of_getElem? (i := 2) rfl))) (mvT hZ (hw _ (List.mem_of_getElem? (i := 3) rfl))) (mvT hZ (hw _ (List.mem_of_getElem? (i := 4) rfl))) (by decide) (backOf (W := 0) (own_pick_5 l Z a0 hw [] h0 n0 Z0 ad a_EMPTY k_EMPTY W) hZ (hw _ (List.mem_of_getElem? (i := 4) rfl)) (hw _ (List.mem_of_getElem? (i := 3) rfl)) (by decide) (by decide)) (g := (mkF m 9 #[.val (.int p1), .val (.int (5 : Int32)), .unset, .unset, .unset] [(.int (5 : Int32))])) rfl (by rw [hml]; rfl) (argsL := [(.int (5 : Int32))]) (rest := []) (lenOf own_pd__I_Lcom_example_limpet_limpet_io_Status_ rfl) rfl (by show 2 * 0 + _ ≤ _; exact Nat.le_of_eq rfl) (hb hby at_9) (fun _ _ => ⟨rfl, e0, (by decide : 0 + 0 ≤ _), (by decide : 0 + 0 ≤ _)⟩)
  dsimp only [Pt.U, Pt.locs, Pt.cells, Pt.slots] at X1 l1 y1 z1 st1 hQ1
  subst l1 y1 z1
  obtain ⟨rfl, Nq1, e1⟩ := hQ1
  have N1 := Fr.app N0 Nq1
  have ch2 : ∀ t, Steps p.tables e below (T1.setTop (mkF m 12 #[.val (.int p1), .val (.int (5 : Int32)), .unset, .unset, .unset] [(.ref (ad 8))])) t → Steps p.tables e below (s₁.setTop (entryFrame m #[(.int p1)] maxLocals)) t := fun t k => pre0 t (by
      show Steps p.tables e below (s₁.setTop (mkF m 0 #[.val (.int p1), .unset, .unset, .unset, .unset] [])) t
      refine XS.iloadN X0.here hx rfl (hb hby at_0) rfl ?_
      show Steps p.tables e below (s₁.setTop (mkF m 1 #[.val (.int p1), .unset, .unset, .unset, .unset] [(.int p1)])) t
      refine X0.ldcInt hx hown (mvT hZ (hw _ (List.mem_of_getElem? (i := 0) rfl))) (g := (mkF m 1 #[.val (.int p1), .unset, .unset, .unset, .unset] [(.int p1)])) rfl (hb hby at_1) _ ?_
      show Steps p.tables e below (s₁.setTop (mkF m 3 #[.val (.int p1), .unset, .unset, .unset, .unset] [(.int (2147483647 : Int32)), (.int p1)])) t
      refine XS.iand X0.here hx rfl (hb hby at_3) rfl ?_
      show Steps p.tables e below (s₁.setTop (mkF m 4 #[.val (.int p1), .unset, .unset, .unset, .unset] [(.int (p1 &&& (2147483647 : Int32)))])) t
      refine XS.bipush X0.here hx rfl (hb hby at_4) ?_
      show Steps p.tables e below (s₁.setTop (mkF m 6 #[.val (.int p1), .unset, .unset, .unset, .unset] [(.int (9 : Int32)), (.int (p1 &&& (2147483647 : Int32)))])) t
      refine Jvm.RoadKit.iremM (g := (mkF m 6 #[.val (.int p1), .unset, .unset, .unset, .unset] [(.int (9 : Int32)), (.int (p1 &&& (2147483647 : Int32)))])) X0 hx rfl (hb hby at_6) rfl (by decide) ?_
      rw [hk]
      show Steps p.tables e below (s₁.setTop (mkF m 7 #[.val (.int p1), .unset, .unset, .unset, .unset] [(.int (5 : Int32))])) t
      refine XS.istoreN X0.here hx rfl (hb hby at_7) rfl (l' := #[.val (.int p1), .val (.int (5 : Int32)), .unset, .unset, .unset]) rfl ?_
      show Steps p.tables e below (s₁.setTop (mkF m 8 #[.val (.int p1), .val (.int (5 : Int32)), .unset, .unset, .unset] [])) t
      refine XS.iloadN X0.here hx rfl (hb hby at_8) rfl ?_
      show Steps p.tables e below (s₁.setTop (mkF m 9 #[.val (.int p1), .val (.int (5 : Int32)), .unset, .unset, .unset] [(.int (5 : Int32))])) t
      exact st1 t k)
  obtain ⟨vv3, _, ⟨T3, L3, kk3, nn3⟩, -, X3, ⟨Lc3, hQ3, l3, y3, z3⟩, st3⟩ := Jvm.LawKit.callS X1 hx (y := (⟨"com/example/limpet/limpet/io/Response", "of", "(Lcom/example/limpet/limpet/io/Status;)Lcom/example/limpet/limpet/io/Response;"⟩ : MethodName)) hown (mvT hZ (hw _ (List.mem_of_getElem? (i := 8) rfl))) (mvT hZ (hw _ (List.mem_of_getElem? (i := 9) rfl))) (mvT hZ (hw _ (List.mem_of_getElem? (i := 10) rfl))) (mvT hZ (hw _ (List.mem_of_getElem? (i := 11) rfl))) (by decide) (backOf (W := 0) (own_of l Z a0 hw [] h0 n0 (Nat.le_trans Z0 (Keep.refl h0 []).1) (ad 8) ad a_EMPTY k_EMPTY W) hZ (hw _ (List.mem_of_getElem? (i := 11) rfl)) (hw _ (List.mem_of_getElem? (i := 10) rfl)) (by decide) (by decide)) (g := (mkF m 14 #[.val (.int p1), .val (.int (5 : Int32)), .val (.ref (ad 8)), .unset, .unset] [(.ref (ad 8))])) rfl (by rw [hml]; rfl) (argsL := [(.ref (ad 8))]) (rest := []) (lenOf own_pd__Lcom_example_limpet_limpet_io_Status__Lcom_example_limpet_limpet_io_Response_ rfl) rfl (by show 2 * 0 + _ ≤ _; exact Nat.le_of_eq rfl) (hb hby at_14) (fun _ _ => ⟨rfl, e1, (by decide : 0 + 1 ≤ _), (by decide : 0 + 2 ≤ _)⟩)
  dsimp only [Pt.U, Pt.locs, Pt.cells, Pt.slots] at X3 l3 y3 z3 st3 hQ3
  subst l3 y3 z3
  obtain ⟨hh3, eh3⟩ : ∃ h, T3.heap = h := ⟨_, rfl⟩
  rw [eh3] at hQ3
  obtain ⟨rb, rfl, zq3, Nq3, Kq3, fq3_0, fq3_1, fq3_2⟩ := hQ3
  have N3 := Fr.app N1 Nq3
  have ne_ad0_rb : (ad 0) ≠ rb := Nat.ne_of_lt (Nat.lt_of_lt_of_le (own_E_OK W).lt zq3)
  have ne_ad1_rb : (ad 1) ≠ rb := Nat.ne_of_lt (Nat.lt_of_lt_of_le (own_E_FAILED W).lt zq3)
  have ne_ad2_rb : (ad 2) ≠ rb := Nat.ne_of_lt (Nat.lt_of_lt_of_le (own_E_NOT_FOUND W).lt zq3)
  have ne_ad3_rb : (ad 3) ≠ rb := Nat.ne_of_lt (Nat.lt_of_lt_of_le (own_E_BAD_REQUEST W).lt zq3)
  have ne_ad4_rb : (ad 4) ≠ rb := Nat.ne_of_lt (Nat.lt_of_lt_of_le (own_E_TOO_MANY_KEYS W).lt zq3)
  have ne_ad5_rb : (ad 5) ≠ rb := Nat.ne_of_lt (Nat.lt_of_lt_of_le (own_E_UNSUPPORTED_KEY W).lt zq3)
  have ne_ad6_rb : (ad 6) ≠ rb := Nat.ne_of_lt (Nat.lt_of_lt_of_le (own_E_TOO_MANY_GRANTS W).lt zq3)
  have ne_ad7_rb : (ad 7) ≠ rb := Nat.ne_of_lt (Nat.lt_of_lt_of_le (own_E_GRANT_NOT_FOUND W).lt zq3)
  have ne_ad8_rb : (ad 8) ≠ rb := Nat.ne_of_lt (Nat.lt_of_lt_of_le (own_E_PERMISSION_DENIED W).lt zq3)
  have ne_a_EMPTY_rb : a_EMPTY ≠ rb := Nat.ne_of_lt (Nat.lt_of_lt_of_le (own_V_EMPTY W).lt zq3)
  have g_rb : n0 ≤ rb := Nat.le_trans (Nat.le_trans Z0 (Keep.refl h0 []).1) zq3
  have sz_rb : h0.size ≤ rb := Nat.le_trans (Keep.refl h0 []).1 zq3
  have Kp3 := Keep.trans (Keep.refl h0 []) Kq3 all0
  have ch4 : ∀ t, Steps p.tables e below (T3.setTop (mkF m 17 #[.val (.int p1), .val (.int (5 : Int32)), .val (.ref (ad 8)), .unset, .unset] [(.ref rb)])) t → Steps p.tables e below (s₁.setTop (entryFrame m #[(.int p1)] maxLocals)) t := fun t k => ch2 t (by
      show Steps p.tables e below (T1.setTop (mkF m 12 #[.val (.int p1), .val (.int (5 : Int32)), .unset, .unset, .unset] [(.ref (ad 8))])) t
      refine XS.astoreN X1.here hx rfl (hb hby at_12) rfl rfl (l' := #[.val (.int p1), .val (.int (5 : Int32)), .val (.ref (ad 8)), .unset, .unset]) rfl ?_
      show Steps p.tables e below (T1.setTop (mkF m 13 #[.val (.int p1), .val (.int (5 : Int32)), .val (.ref (ad 8)), .unset, .unset] [])) t
      refine XS.aloadN X1.here hx rfl (hb hby at_13) rfl rfl ?_
      show Steps p.tables e below (T1.setTop (mkF m 14 #[.val (.int p1), .val (.int (5 : Int32)), .val (.ref (ad 8)), .unset, .unset] [(.ref (ad 8))])) t
      exact st3 t k)
  obtain ⟨cq5, kq5, qa5, qb5, qc5⟩ := isOf hZ eh3 fq3_0
  obtain ⟨vv6, _, ⟨T6, L6, kk6, nn6⟩, -, X6, ⟨Lc6, hQ6, l6, y6, z6⟩, st6⟩ := X3.virtualBack hx (y := (⟨"com/example/limpet/limpet/io/Response", "payload", "()[B"⟩ : MethodName)) (z := (⟨"com/example/limpet/limpet/io/Response", "payload", "()[B"⟩ : MethodName)) hown (mvT hZ (hw _ (List.mem_of_getElem? (i := 31) rfl))) (mvT hZ (hw _ (List.mem_of_getElem? (i := 32) rfl))) (notFace_of_selects (args := #[]) (mvT hZ (hw _ (List.mem_of_getElem? (i := 34) rfl)))) (mvT hZ (hw _ (List.mem_of_getElem? (i := 34) rfl))) (mvT hZ (hw _ (List.mem_of_getElem? (i := 33) rfl))) (by decide) (backOf (W := 0) (own_pay l Z a0 hw [] hh3 n0 (Nat.le_trans Z0 Kp3.1) rb a_EMPTY fq3_2) hZ (hw _ (List.mem_of_getElem? (i := 35) rfl)) (hw _ (List.mem_of_getElem? (i := 10) rfl)) (by decide) (by decide)) qa5 qc5 (g := (mkF m 19 #[.val (.int p1), .val (.int (5 : Int32)), .val (.ref (ad 8)), .val (.ref rb), .unset] [(.ref rb)])) rfl (by rw [hml]; rfl) (Steps.refl _) (argsL := []) (rest := []) (lenOf own_pd____B rfl) rfl (by show 2 * 0 + _ ≤ _; exact Nat.le_of_eq rfl) (hb hby at_19) (fun _ _ => ⟨rfl, eh3, (by decide : 1 + 0 ≤ _), (by decide : 2 + 0 ≤ _)⟩)
  dsimp only [Pt.U, Pt.locs, Pt.cells, Pt.slots] at X6 l6 y6 z6 st6 hQ6
  subst l6 y6 z6
  obtain ⟨rfl, Nq6, e6⟩ := hQ6
  have N6 := Fr.app N3 Nq6
  have ch7 : ∀ t, Steps p.tables e below (T6.setTop (mkF m 22 #[.val (.int p1), .val (.int (5 : Int32)), .val (.ref (ad 8)), .val (.ref rb), .unset] [(.ref a_EMPTY)])) t → Steps p.tables e below (s₁.setTop (entryFrame m #[(.int p1)] maxLocals)) t := fun t k => ch4 t (by
      show Steps p.tables e below (T3.setTop (mkF m 17 #[.val (.int p1), .val (.int (5 : Int32)), .val (.ref (ad 8)), .unset, .unset] [(.ref rb)])) t
      refine XS.astoreN X3.here hx rfl (hb hby at_17) rfl rfl (l' := #[.val (.int p1), .val (.int (5 : Int32)), .val (.ref (ad 8)), .val (.ref rb), .unset]) rfl ?_
      show Steps p.tables e below (T3.setTop (mkF m 18 #[.val (.int p1), .val (.int (5 : Int32)), .val (.ref (ad 8)), .val (.ref rb), .unset] [])) t
      refine XS.aloadN X3.here hx rfl (hb hby at_18) rfl rfl ?_
      show Steps p.tables e below (T3.setTop (mkF m 19 #[.val (.int p1), .val (.int (5 : Int32)), .val (.ref (ad 8)), .val (.ref rb), .unset] [(.ref rb)])) t
      exact st6.trans k)
  obtain ⟨cq8, kq8, qa8, qb8, qc8⟩ := isOf hZ e6 fq3_0
  obtain ⟨vv9, _, ⟨T9, L9, kk9, nn9⟩, -, X9, ⟨Lc9, hQ9, l9, y9, z9⟩, st9⟩ := X6.virtualBack hx (y := (⟨"com/example/limpet/limpet/io/Response", "status", "()Lcom/example/limpet/limpet/io/Status;"⟩ : MethodName)) (z := (⟨"com/example/limpet/limpet/io/Response", "status", "()Lcom/example/limpet/limpet/io/Status;"⟩ : MethodName)) hown (mvT hZ (hw _ (List.mem_of_getElem? (i := 36) rfl))) (mvT hZ (hw _ (List.mem_of_getElem? (i := 37) rfl))) (notFace_of_selects (args := #[]) (mvT hZ (hw _ (List.mem_of_getElem? (i := 39) rfl)))) (mvT hZ (hw _ (List.mem_of_getElem? (i := 39) rfl))) (mvT hZ (hw _ (List.mem_of_getElem? (i := 38) rfl))) (by decide) (backOf (W := 0) (own_sta l Z a0 hw [] hh3 n0 (Nat.le_trans Z0 Kp3.1) rb (ad 8) fq3_1) hZ (hw _ (List.mem_of_getElem? (i := 40) rfl)) (hw _ (List.mem_of_getElem? (i := 10) rfl)) (by decide) (by decide)) qa8 qc8 (g := (mkF m 25 #[.val (.int p1), .val (.int (5 : Int32)), .val (.ref (ad 8)), .val (.ref rb), .val (.ref a_EMPTY)] [(.ref rb)])) rfl (by rw [hml]; rfl) (Steps.refl _) (argsL := []) (rest := []) (lenOf own_pd___Lcom_example_limpet_limpet_io_Status_ rfl) rfl (by show 2 * 0 + _ ≤ _; exact Nat.le_of_eq rfl) (hb hby at_25) (fun _ _ => ⟨rfl, e6, (by decide : 1 + 0 ≤ _), (by decide : 2 + 0 ≤ _)⟩)
  dsimp only [Pt.U, Pt.locs, Pt.cells, Pt.slots] at X9 l9 y9 z9 st9 hQ9
  subst l9 y9 z9
  obtain ⟨rfl, Nq9, e9⟩ := hQ9
  have N9 := Fr.app N6 Nq9
  have ch10 : ∀ t, Steps p.tables e below (T9.setTop (mkF m 28 #[.val (.int p1), .val (.int (5 : Int32)), .val (.ref (ad 8)), .val (.ref rb), .val (.ref a_EMPTY)] [(.ref (ad 8))])) t → Steps p.tables e below (s₁.setTop (entryFrame m #[(.int p1)] maxLocals)) t := fun t k => ch7 t (by
      show Steps p.tables e below (T6.setTop (mkF m 22 #[.val (.int p1), .val (.int (5 : Int32)), .val (.ref (ad 8)), .val (.ref rb), .unset] [(.ref a_EMPTY)])) t
      refine XS.astore X6.here hx rfl (hb hby at_22) rfl rfl (l' := #[.val (.int p1), .val (.int (5 : Int32)), .val (.ref (ad 8)), .val (.ref rb), .val (.ref a_EMPTY)]) rfl ?_
      show Steps p.tables e below (T6.setTop (mkF m 24 #[.val (.int p1), .val (.int (5 : Int32)), .val (.ref (ad 8)), .val (.ref rb), .val (.ref a_EMPTY)] [])) t
      refine XS.aloadN X6.here hx rfl (hb hby at_24) rfl rfl ?_
      show Steps p.tables e below (T6.setTop (mkF m 25 #[.val (.int p1), .val (.int (5 : Int32)), .val (.ref (ad 8)), .val (.ref rb), .val (.ref a_EMPTY)] [(.ref rb)])) t
      exact st9.trans k)
  have cf11 := ((own_V_EMPTY W).keep Kp3 nin0)
  obtain ⟨cl12, Ar12, -, Sz12, Ng12, -, -⟩ := cf11
  have ch13 : ∀ t, Steps p.tables e below (T9.setTop (mkF m 48 #[.val (.int p1), .val (.int (5 : Int32)), .val (.ref (ad 8)), .val (.ref rb), .val (.ref a_EMPTY)] [(.int (1 : Int32))])) t → Steps p.tables e below (s₁.setTop (entryFrame m #[(.int p1)] maxLocals)) t := fun t k => ch10 t (by
      show Steps p.tables e below (T9.setTop (mkF m 28 #[.val (.int p1), .val (.int (5 : Int32)), .val (.ref (ad 8)), .val (.ref rb), .val (.ref a_EMPTY)] [(.ref (ad 8))])) t
      refine XS.aloadN X9.here hx rfl (hb hby at_28) rfl rfl ?_
      show Steps p.tables e below (T9.setTop (mkF m 29 #[.val (.int p1), .val (.int (5 : Int32)), .val (.ref (ad 8)), .val (.ref rb), .val (.ref a_EMPTY)] [(.ref (ad 8)), (.ref (ad 8))])) t
      refine Jvm.RoadKit.acmp (g := (mkF m 29 #[.val (.int p1), .val (.int (5 : Int32)), .val (.ref (ad 8)), .val (.ref rb), .val (.ref a_EMPTY)] [(.ref (ad 8)), (.ref (ad 8))])) X9 hx rfl rfl rfl (pc0 := 29) (pc' := 32) (same := true) rfl (hb hby at_29) rfl (decide_eq_true rfl) (by decide) (by decide) ?_
      show Steps p.tables e below (T9.setTop (mkF m 32 #[.val (.int p1), .val (.int (5 : Int32)), .val (.ref (ad 8)), .val (.ref rb), .val (.ref a_EMPTY)] [])) t
      refine XS.aload X9.here hx rfl (hb hby at_32) rfl rfl ?_
      show Steps p.tables e below (T9.setTop (mkF m 34 #[.val (.int p1), .val (.int (5 : Int32)), .val (.ref (ad 8)), .val (.ref rb), .val (.ref a_EMPTY)] [(.ref a_EMPTY)])) t
      refine XS.ifnullNo X9.here hx rfl (hb hby at_34) rfl ?_
      show Steps p.tables e below (T9.setTop (mkF m 37 #[.val (.int p1), .val (.int (5 : Int32)), .val (.ref (ad 8)), .val (.ref rb), .val (.ref a_EMPTY)] [])) t
      refine XS.aload X9.here hx rfl (hb hby at_37) rfl rfl ?_
      show Steps p.tables e below (T9.setTop (mkF m 39 #[.val (.int p1), .val (.int (5 : Int32)), .val (.ref (ad 8)), .val (.ref rb), .val (.ref a_EMPTY)] [(.ref a_EMPTY)])) t
      refine X9.arraylength hx (by rw [e9]; exact Ar12.1) (State.isArrayOf_alike hZ.alike Ar12.2.1) (g := (mkF m 39 #[.val (.int p1), .val (.int (5 : Int32)), .val (.ref (ad 8)), .val (.ref rb), .val (.ref a_EMPTY)] [(.ref a_EMPTY)])) rfl rfl (hb hby at_39) _ ?_
      rw [len_of Sz12 Ng12]
      show Steps p.tables e below (T9.setTop (mkF m 40 #[.val (.int p1), .val (.int (5 : Int32)), .val (.ref (ad 8)), .val (.ref rb), .val (.ref a_EMPTY)] [(.int (0 : Int32))])) t
      refine XS.ifNo X9.here hx rfl (hb hby at_40) rfl ((if0 _ _).trans (teq (by decide : (0 : Int32) = (0 : Int32))).2) ?_
      show Steps p.tables e below (T9.setTop (mkF m 43 #[.val (.int p1), .val (.int (5 : Int32)), .val (.ref (ad 8)), .val (.ref rb), .val (.ref a_EMPTY)] [])) t
      refine XS.iconst X9.here hx rfl (hb hby at_43) ?_
      show Steps p.tables e below (T9.setTop (mkF m 44 #[.val (.int p1), .val (.int (5 : Int32)), .val (.ref (ad 8)), .val (.ref rb), .val (.ref a_EMPTY)] [(.int (1 : Int32))])) t
      refine XS.goto X9.here hx rfl (pc0 := 44) (pc' := 48) rfl (hb hby at_44) (by decide) (by decide) ?_
      exact k)
  obtain ⟨fs, hr, hrun, hended, hW, hsame⟩ := X9.leave (v := some (.int (1 : Int32))) (fun h => by rw [Bd.returns] at h; cases h)
  refine ⟨_, _, ch13 _ ?_, hrun, hended, _, _, rfl, ?_, ⟨_, rfl⟩, hW, hsame.mono (by decide) (by decide)⟩
  · show Steps p.tables e below (T9.setTop (mkF m 48 #[.val (.int p1), .val (.int (5 : Int32)), .val (.ref (ad 8)), .val (.ref rb), .val (.ref a_EMPTY)] [(.int (1 : Int32))])) _
    exact retN X9 hx (t := .boolean) Bd.returns (by simp) (hb hby at_48) hr
  · show QN (some (.int (1 : Int32))) n0 _ T9.heap _
    rw [e9]
    exact ⟨rfl, N9⟩
theorem own_ef_own_pick_6 (m : MethodId) {x0 : Int32} : entryFrame m #[(.int x0)] 1 = mkF m 0 #[.val (.int x0)] [] := by first | (simp [entryFrame, mkF, argsToLocals, Value.category, maxLocals]; done) | rfl
set_option maxRecDepth 65536 in
set_option maxHeartbeats 40000000 in
theorem own_pick_6 (l : Launch) (Z : State) (a0 : Array Value) (hw : ∀ d ∈ tables_1, d.before a0 Z = true) (ws : List Jvm.Cond) (h0 : Heap) (n0 : Nat) (Z0 : n0 ≤ h0.size) (ad : Nat → Addr) (a_EMPTY : Addr) (k_EMPTY : ClassId) (W : OwnWd Z h0 ad a_EMPTY k_EMPTY) :
    MetFree l (⟨"com/example/limpet/limpet/io/ResponseOfPinLaw", "pick", "(I)Lcom/example/limpet/limpet/io/Status;"⟩ : MethodName) (head1 (Jvm.Cond.code (⟨"com/example/limpet/limpet/io/ResponseOfPinLaw", "pick", "(I)Lcom/example/limpet/limpet/io/Status;"⟩ : MethodName) method_2_code 1 (some (.object "com/example/limpet/limpet/io/Status")) :: ws) ({ frames := 0, cells := 0, slots := 0, locals := 0 } : Room)) (fun a U => a = #[(.int (6 : Int32))] ∧ Z.Warmed39 U.vm ∧ U.heap = h0) (fun _ _ _ _ _ => True) (fun _ U o U' => ∃ v L, o = .returned v ∧ QV (some (.ref (ad 7))) h0 n0 v U'.heap L ∧ FrameEnd U o U' L ({ frames := 0, cells := 0, slots := 0, locals := 0 } : Room).cells ({ frames := 0, cells := 0, slots := 0, locals := 0 } : Room).slots) := by
  refine MetFree.of_bodySF (plainFor_of_name own_pn_com_example_limpet_limpet_io_ResponseOfPinLaw) hisR ?_
  intro p e s m args below meth c s₁ Bd hml0 hP hK
  obtain ⟨rfl, hZ, hh⟩ := hP
  have hx := Bd.exec
  have hby := Bd.bytes
  have hml : c.maxLocals = 1 := hml0
  have hown : s.vm.findClass "com/example/limpet/limpet/io/ResponseOfPinLaw" = some m.cls := findClass_of_methodNamed Bd.named
  have hnm := (name_of_methodNamed Bd.named Bd.method).1
  have X0 : Stand p l e ({ frames := 0, cells := 0, slots := 0, locals := 0 } : Room) s m #[(.int (6 : Int32))] below meth c s₁ [] 0 0 := Stand.of_body Bd
  have e0 : s₁.heap = h0 := by rw [← hh, Bd.state]; rfl
  have N0 := Fr.nil n0
  have pre0 : ∀ t, Steps p.tables e below (s₁.setTop (mkF m 0 #[.val (.int (6 : Int32))] [])) t → Steps p.tables e below (s₁.setTop (entryFrame m #[(.int (6 : Int32))] 1)) t := fun t k => castTop (own_ef_own_pick_6 m) k
  obtain ⟨T1, X1, e1, st1⟩ := getS2 X0 hx hZ hown (host := "") (Or.inl (hw _ (List.mem_of_getElem? (i := 53) rfl))) Via.refl e0 (own_S_GRANT_NOT_FOUND W) (g := (mkF m 59 #[.val (.int (6 : Int32))] [])) rfl (hb hby own_d_method_2_code_59)
  have ch2 : ∀ t, Steps p.tables e below (T1.setTop (mkF m 62 #[.val (.int (6 : Int32))] [(.ref (ad 7))])) t → Steps p.tables e below (s₁.setTop (entryFrame m #[(.int (6 : Int32))] 1)) t := fun t k => pre0 t (by
      show Steps p.tables e below (s₁.setTop (mkF m 0 #[.val (.int (6 : Int32))] [])) t
      refine XS.iloadN X0.here hx rfl (hb hby own_d_method_2_code_0) rfl ?_
      show Steps p.tables e below (s₁.setTop (mkF m 1 #[.val (.int (6 : Int32))] [(.int (6 : Int32))])) t
      refine XS.ifYes X0.here hx rfl (pc0 := 1) (pc' := 8) rfl (hb hby own_d_method_2_code_1) rfl ((if0 _ _).trans (feq (by decide : ¬ (6 : Int32) = (0 : Int32))).2) (by decide) (by decide) ?_
      show Steps p.tables e below (s₁.setTop (mkF m 8 #[.val (.int (6 : Int32))] [])) t
      refine XS.iloadN X0.here hx rfl (hb hby own_d_method_2_code_8) rfl ?_
      show Steps p.tables e below (s₁.setTop (mkF m 9 #[.val (.int (6 : Int32))] [(.int (6 : Int32))])) t
      refine XS.iconst X0.here hx rfl (hb hby own_d_method_2_code_9) ?_
      show Steps p.tables e below (s₁.setTop (mkF m 10 #[.val (.int (6 : Int32))] [(.int (1 : Int32)), (.int (6 : Int32))])) t
      refine XS.icmpYes X0.here hx rfl (pc0 := 10) (pc' := 17) rfl (hb hby own_d_method_2_code_10) rfl (feq (by decide : ¬ (6 : Int32) = (1 : Int32))).2 (by decide) (by decide) ?_
      show Steps p.tables e below (s₁.setTop (mkF m 17 #[.val (.int (6 : Int32))] [])) t
      refine XS.iloadN X0.here hx rfl (hb hby own_d_method_2_code_17) rfl ?_
      show Steps p.tables e below (s₁.setTop (mkF m 18 #[.val (.int (6 : Int32))] [(.int (6 : Int32))])) t
      refine XS.iconst X0.here hx rfl (hb hby own_d_method_2_code_18) ?_
      show Steps p.tables e below (s₁.setTop (mkF m 19 #[.val (.int (6 : Int32))] [(.int (2 : Int32)), (.int (6 : Int32))])) t
      refine XS.icmpYes X0.here hx rfl (pc0 := 19) (pc' := 26) rfl (hb hby own_d_method_2_code_19) rfl (feq (by decide : ¬ (6 : Int32) = (2 : Int32))).2 (by decide) (by decide) ?_
      show Steps p.tables e below (s₁.setTop (mkF m 26 #[.val (.int (6 : Int32))] [])) t
      refine XS.iloadN X0.here hx rfl (hb hby own_d_method_2_code_26) rfl ?_
      show Steps p.tables e below (s₁.setTop (mkF m 27 #[.val (.int (6 : Int32))] [(.int (6 : Int32))])) t
      refine XS.iconst X0.here hx rfl (hb hby own_d_method_2_code_27) ?_
      show Steps p.tables e below (s₁.setTop (mkF m 28 #[.val (.int (6 : Int32))] [(.int (3 : Int32)), (.int (6 : Int32))])) t
      refine XS.icmpYes X0.here hx rfl (pc0 := 28) (pc' := 35) rfl (hb hby own_d_method_2_code_28) rfl (feq (by decide : ¬ (6 : Int32) = (3 : Int32))).2 (by decide) (by decide) ?_
      show Steps p.tables e below (s₁.setTop (mkF m 35 #[.val (.int (6 : Int32))] [])) t
      refine XS.iloadN X0.here hx rfl (hb hby own_d_method_2_code_35) rfl ?_
      show Steps p.tables e below (s₁.setTop (mkF m 36 #[.val (.int (6 : Int32))] [(.int (6 : Int32))])) t
      refine XS.iconst X0.here hx rfl (hb hby own_d_method_2_code_36) ?_
      show Steps p.tables e below (s₁.setTop (mkF m 37 #[.val (.int (6 : Int32))] [(.int (4 : Int32)), (.int (6 : Int32))])) t
      refine XS.icmpYes X0.here hx rfl (pc0 := 37) (pc' := 44) rfl (hb hby own_d_method_2_code_37) rfl (feq (by decide : ¬ (6 : Int32) = (4 : Int32))).2 (by decide) (by decide) ?_
      show Steps p.tables e below (s₁.setTop (mkF m 44 #[.val (.int (6 : Int32))] [])) t
      refine XS.iloadN X0.here hx rfl (hb hby own_d_method_2_code_44) rfl ?_
      show Steps p.tables e below (s₁.setTop (mkF m 45 #[.val (.int (6 : Int32))] [(.int (6 : Int32))])) t
      refine XS.iconst X0.here hx rfl (hb hby own_d_method_2_code_45) ?_
      show Steps p.tables e below (s₁.setTop (mkF m 46 #[.val (.int (6 : Int32))] [(.int (5 : Int32)), (.int (6 : Int32))])) t
      refine XS.icmpYes X0.here hx rfl (pc0 := 46) (pc' := 53) rfl (hb hby own_d_method_2_code_46) rfl (feq (by decide : ¬ (6 : Int32) = (5 : Int32))).2 (by decide) (by decide) ?_
      show Steps p.tables e below (s₁.setTop (mkF m 53 #[.val (.int (6 : Int32))] [])) t
      refine XS.iloadN X0.here hx rfl (hb hby own_d_method_2_code_53) rfl ?_
      show Steps p.tables e below (s₁.setTop (mkF m 54 #[.val (.int (6 : Int32))] [(.int (6 : Int32))])) t
      refine XS.bipush X0.here hx rfl (hb hby own_d_method_2_code_54) ?_
      show Steps p.tables e below (s₁.setTop (mkF m 56 #[.val (.int (6 : Int32))] [(.int (6 : Int32)), (.int (6 : Int32))])) t
      refine XS.icmpNo X0.here hx rfl (hb hby own_d_method_2_code_56) rfl (teq (by decide : (6 : Int32) = (6 : Int32))).2 ?_
      show Steps p.tables e below (s₁.setTop (mkF m 59 #[.val (.int (6 : Int32))] [])) t
      exact st1 t k)
  obtain ⟨fs, hr, hrun, hended, hW, hsame⟩ := X1.leave (v := some (.ref (ad 7))) (fun h => by rw [Bd.returns] at h; cases h)
  refine ⟨_, _, ch2 _ ?_, hrun, hended, _, _, rfl, ?_, ⟨_, rfl⟩, hW, hsame.mono (by decide) (by decide)⟩
  · show Steps p.tables e below (T1.setTop (mkF m 62 #[.val (.int (6 : Int32))] [(.ref (ad 7))])) _
    jvm_step X1.here [X1.here.top, hx, (hb hby own_d_method_2_code_62), X1.method', Bd.returns, Value.isRef, FieldType.isReference]
    first | (intro acts; rw [hr _ acts rfl rfl rfl]) | rw [hr _ _ rfl rfl rfl]
    exact Steps.refl _
  · show QV (some (.ref (ad 7))) h0 n0 _ T1.heap _
    rw [e1]
    exact ⟨rfl, N0, rfl⟩
theorem own_ef_own_law_6 (m : MethodId) {x0 : Int32} : entryFrame m #[(.int x0)] maxLocals = mkF m 0 #[.val (.int x0), .unset, .unset, .unset, .unset] [] := by first | (simp [entryFrame, mkF, argsToLocals, Value.category, maxLocals]; done) | rfl
set_option maxRecDepth 65536 in
set_option maxHeartbeats 40000000 in
theorem own_law_6 (l : Launch) (Z : State) (a0 : Array Value) (hw : ∀ d ∈ tables_1, d.before a0 Z = true) (ws : List Jvm.Cond) (h0 : Heap) (n0 : Nat) (Z0 : n0 ≤ h0.size) (p1 : Int32) (hk : (p1 &&& (2147483647 : Int32)) % (9 : Int32) = (6 : Int32)) (ad : Nat → Addr) (a_EMPTY : Addr) (k_EMPTY : ClassId) (W : OwnWd Z h0 ad a_EMPTY k_EMPTY) :
    MetFree l x (head1 (Jvm.Cond.code x code maxLocals ret :: ws) room_1) (fun a U => a = #[(.int p1)] ∧ Z.Warmed39 U.vm ∧ U.heap = h0) (fun _ _ _ _ _ => True) (fun _ U o U' => ∃ v L, o = .returned v ∧ QN (some (.int (1 : Int32))) n0 v U'.heap L ∧ FrameEnd U o U' L room_1.cells room_1.slots) := by
  refine MetFree.of_bodySF (plainFor_of_name own_pn_com_example_limpet_limpet_io_ResponseOfPinLaw) hisR ?_
  intro p e s m args below meth c s₁ Bd hml0 hP hK
  obtain ⟨rfl, hZ, hh⟩ := hP
  have hx := Bd.exec
  have hby := Bd.bytes
  have hml : c.maxLocals = 5 := hml0
  have hown : s.vm.findClass "com/example/limpet/limpet/io/ResponseOfPinLaw" = some m.cls := findClass_of_methodNamed Bd.named
  have hnm := (name_of_methodNamed Bd.named Bd.method).1
  have X0 : Stand p l e room_1 s m #[(.int p1)] below meth c s₁ [] 0 0 := Stand.of_body Bd
  have e0 : s₁.heap = h0 := by rw [← hh, Bd.state]; rfl
  have N0 := Fr.nil n0
  have pre0 : ∀ t, Steps p.tables e below (s₁.setTop (mkF m 0 #[.val (.int p1), .unset, .unset, .unset, .unset] [])) t → Steps p.tables e below (s₁.setTop (entryFrame m #[(.int p1)] maxLocals)) t := fun t k => castTop (own_ef_own_law_6 m) k
  obtain ⟨vv1, _, ⟨T1, L1, kk1, nn1⟩, -, X1, ⟨Lc1, hQ1, l1, y1, z1⟩, st1⟩ := Jvm.LawKit.callS X0 hx (y := (⟨"com/example/limpet/limpet/io/ResponseOfPinLaw", "pick", "(I)Lcom/example/limpet/limpet/io/Status;"⟩ : MethodName)) hown (mvT hZ (hw _ (List.mem_of_getElem? (i := 1) rfl))) (mvT hZ (hw _ (List.mem_of_getElem? (i := 2) rfl))) (mvT hZ (hw _ (List.mem_of_getElem? (i := 3) rfl))) (mvT hZ (hw _ (List.mem_of_getElem? (i := 4) rfl))) (by decide) (backOf (W := 0) (own_pick_6 l Z a0 hw [] h0 n0 Z0 ad a_EMPTY k_EMPTY W) hZ (hw _ (List.mem_of_getElem? (i := 4) rfl)) (hw _ (List.mem_of_getElem? (i := 3) rfl)) (by decide) (by decide)) (g := (mkF m 9 #[.val (.int p1), .val (.int (6 : Int32)), .unset, .unset, .unset] [(.int (6 : Int32))])) rfl (by rw [hml]; rfl) (argsL := [(.int (6 : Int32))]) (rest := []) (lenOf own_pd__I_Lcom_example_limpet_limpet_io_Status_ rfl) rfl (by show 2 * 0 + _ ≤ _; exact Nat.le_of_eq rfl) (hb hby at_9) (fun _ _ => ⟨rfl, e0, (by decide : 0 + 0 ≤ _), (by decide : 0 + 0 ≤ _)⟩)
  dsimp only [Pt.U, Pt.locs, Pt.cells, Pt.slots] at X1 l1 y1 z1 st1 hQ1
  subst l1 y1 z1
  obtain ⟨rfl, Nq1, e1⟩ := hQ1
  have N1 := Fr.app N0 Nq1
  have ch2 : ∀ t, Steps p.tables e below (T1.setTop (mkF m 12 #[.val (.int p1), .val (.int (6 : Int32)), .unset, .unset, .unset] [(.ref (ad 7))])) t → Steps p.tables e below (s₁.setTop (entryFrame m #[(.int p1)] maxLocals)) t := fun t k => pre0 t (by
      show Steps p.tables e below (s₁.setTop (mkF m 0 #[.val (.int p1), .unset, .unset, .unset, .unset] [])) t
      refine XS.iloadN X0.here hx rfl (hb hby at_0) rfl ?_
      show Steps p.tables e below (s₁.setTop (mkF m 1 #[.val (.int p1), .unset, .unset, .unset, .unset] [(.int p1)])) t
      refine X0.ldcInt hx hown (mvT hZ (hw _ (List.mem_of_getElem? (i := 0) rfl))) (g := (mkF m 1 #[.val (.int p1), .unset, .unset, .unset, .unset] [(.int p1)])) rfl (hb hby at_1) _ ?_
      show Steps p.tables e below (s₁.setTop (mkF m 3 #[.val (.int p1), .unset, .unset, .unset, .unset] [(.int (2147483647 : Int32)), (.int p1)])) t
      refine XS.iand X0.here hx rfl (hb hby at_3) rfl ?_
      show Steps p.tables e below (s₁.setTop (mkF m 4 #[.val (.int p1), .unset, .unset, .unset, .unset] [(.int (p1 &&& (2147483647 : Int32)))])) t
      refine XS.bipush X0.here hx rfl (hb hby at_4) ?_
      show Steps p.tables e below (s₁.setTop (mkF m 6 #[.val (.int p1), .unset, .unset, .unset, .unset] [(.int (9 : Int32)), (.int (p1 &&& (2147483647 : Int32)))])) t
      refine Jvm.RoadKit.iremM (g := (mkF m 6 #[.val (.int p1), .unset, .unset, .unset, .unset] [(.int (9 : Int32)), (.int (p1 &&& (2147483647 : Int32)))])) X0 hx rfl (hb hby at_6) rfl (by decide) ?_
      rw [hk]
      show Steps p.tables e below (s₁.setTop (mkF m 7 #[.val (.int p1), .unset, .unset, .unset, .unset] [(.int (6 : Int32))])) t
      refine XS.istoreN X0.here hx rfl (hb hby at_7) rfl (l' := #[.val (.int p1), .val (.int (6 : Int32)), .unset, .unset, .unset]) rfl ?_
      show Steps p.tables e below (s₁.setTop (mkF m 8 #[.val (.int p1), .val (.int (6 : Int32)), .unset, .unset, .unset] [])) t
      refine XS.iloadN X0.here hx rfl (hb hby at_8) rfl ?_
      show Steps p.tables e below (s₁.setTop (mkF m 9 #[.val (.int p1), .val (.int (6 : Int32)), .unset, .unset, .unset] [(.int (6 : Int32))])) t
      exact st1 t k)
  obtain ⟨vv3, _, ⟨T3, L3, kk3, nn3⟩, -, X3, ⟨Lc3, hQ3, l3, y3, z3⟩, st3⟩ := Jvm.LawKit.callS X1 hx (y := (⟨"com/example/limpet/limpet/io/Response", "of", "(Lcom/example/limpet/limpet/io/Status;)Lcom/example/limpet/limpet/io/Response;"⟩ : MethodName)) hown (mvT hZ (hw _ (List.mem_of_getElem? (i := 8) rfl))) (mvT hZ (hw _ (List.mem_of_getElem? (i := 9) rfl))) (mvT hZ (hw _ (List.mem_of_getElem? (i := 10) rfl))) (mvT hZ (hw _ (List.mem_of_getElem? (i := 11) rfl))) (by decide) (backOf (W := 0) (own_of l Z a0 hw [] h0 n0 (Nat.le_trans Z0 (Keep.refl h0 []).1) (ad 7) ad a_EMPTY k_EMPTY W) hZ (hw _ (List.mem_of_getElem? (i := 11) rfl)) (hw _ (List.mem_of_getElem? (i := 10) rfl)) (by decide) (by decide)) (g := (mkF m 14 #[.val (.int p1), .val (.int (6 : Int32)), .val (.ref (ad 7)), .unset, .unset] [(.ref (ad 7))])) rfl (by rw [hml]; rfl) (argsL := [(.ref (ad 7))]) (rest := []) (lenOf own_pd__Lcom_example_limpet_limpet_io_Status__Lcom_example_limpet_limpet_io_Response_ rfl) rfl (by show 2 * 0 + _ ≤ _; exact Nat.le_of_eq rfl) (hb hby at_14) (fun _ _ => ⟨rfl, e1, (by decide : 0 + 1 ≤ _), (by decide : 0 + 2 ≤ _)⟩)
  dsimp only [Pt.U, Pt.locs, Pt.cells, Pt.slots] at X3 l3 y3 z3 st3 hQ3
  subst l3 y3 z3
  obtain ⟨hh3, eh3⟩ : ∃ h, T3.heap = h := ⟨_, rfl⟩
  rw [eh3] at hQ3
  obtain ⟨rb, rfl, zq3, Nq3, Kq3, fq3_0, fq3_1, fq3_2⟩ := hQ3
  have N3 := Fr.app N1 Nq3
  have ne_ad0_rb : (ad 0) ≠ rb := Nat.ne_of_lt (Nat.lt_of_lt_of_le (own_E_OK W).lt zq3)
  have ne_ad1_rb : (ad 1) ≠ rb := Nat.ne_of_lt (Nat.lt_of_lt_of_le (own_E_FAILED W).lt zq3)
  have ne_ad2_rb : (ad 2) ≠ rb := Nat.ne_of_lt (Nat.lt_of_lt_of_le (own_E_NOT_FOUND W).lt zq3)
  have ne_ad3_rb : (ad 3) ≠ rb := Nat.ne_of_lt (Nat.lt_of_lt_of_le (own_E_BAD_REQUEST W).lt zq3)
  have ne_ad4_rb : (ad 4) ≠ rb := Nat.ne_of_lt (Nat.lt_of_lt_of_le (own_E_TOO_MANY_KEYS W).lt zq3)
  have ne_ad5_rb : (ad 5) ≠ rb := Nat.ne_of_lt (Nat.lt_of_lt_of_le (own_E_UNSUPPORTED_KEY W).lt zq3)
  have ne_ad6_rb : (ad 6) ≠ rb := Nat.ne_of_lt (Nat.lt_of_lt_of_le (own_E_TOO_MANY_GRANTS W).lt zq3)
  have ne_ad7_rb : (ad 7) ≠ rb := Nat.ne_of_lt (Nat.lt_of_lt_of_le (own_E_GRANT_NOT_FOUND W).lt zq3)
  have ne_ad8_rb : (ad 8) ≠ rb := Nat.ne_of_lt (Nat.lt_of_lt_of_le (own_E_PERMISSION_DENIED W).lt zq3)
  have ne_a_EMPTY_rb : a_EMPTY ≠ rb := Nat.ne_of_lt (Nat.lt_of_lt_of_le (own_V_EMPTY W).lt zq3)
  have g_rb : n0 ≤ rb := Nat.le_trans (Nat.le_trans Z0 (Keep.refl h0 []).1) zq3
  have sz_rb : h0.size ≤ rb := Nat.le_trans (Keep.refl h0 []).1 zq3
  have Kp3 := Keep.trans (Keep.refl h0 []) Kq3 all0
  have ch4 : ∀ t, Steps p.tables e below (T3.setTop (mkF m 17 #[.val (.int p1), .val (.int (6 : Int32)), .val (.ref (ad 7)), .unset, .unset] [(.ref rb)])) t → Steps p.tables e below (s₁.setTop (entryFrame m #[(.int p1)] maxLocals)) t := fun t k => ch2 t (by
      show Steps p.tables e below (T1.setTop (mkF m 12 #[.val (.int p1), .val (.int (6 : Int32)), .unset, .unset, .unset] [(.ref (ad 7))])) t
      refine XS.astoreN X1.here hx rfl (hb hby at_12) rfl rfl (l' := #[.val (.int p1), .val (.int (6 : Int32)), .val (.ref (ad 7)), .unset, .unset]) rfl ?_
      show Steps p.tables e below (T1.setTop (mkF m 13 #[.val (.int p1), .val (.int (6 : Int32)), .val (.ref (ad 7)), .unset, .unset] [])) t
      refine XS.aloadN X1.here hx rfl (hb hby at_13) rfl rfl ?_
      show Steps p.tables e below (T1.setTop (mkF m 14 #[.val (.int p1), .val (.int (6 : Int32)), .val (.ref (ad 7)), .unset, .unset] [(.ref (ad 7))])) t
      exact st3 t k)
  obtain ⟨cq5, kq5, qa5, qb5, qc5⟩ := isOf hZ eh3 fq3_0
  obtain ⟨vv6, _, ⟨T6, L6, kk6, nn6⟩, -, X6, ⟨Lc6, hQ6, l6, y6, z6⟩, st6⟩ := X3.virtualBack hx (y := (⟨"com/example/limpet/limpet/io/Response", "payload", "()[B"⟩ : MethodName)) (z := (⟨"com/example/limpet/limpet/io/Response", "payload", "()[B"⟩ : MethodName)) hown (mvT hZ (hw _ (List.mem_of_getElem? (i := 31) rfl))) (mvT hZ (hw _ (List.mem_of_getElem? (i := 32) rfl))) (notFace_of_selects (args := #[]) (mvT hZ (hw _ (List.mem_of_getElem? (i := 34) rfl)))) (mvT hZ (hw _ (List.mem_of_getElem? (i := 34) rfl))) (mvT hZ (hw _ (List.mem_of_getElem? (i := 33) rfl))) (by decide) (backOf (W := 0) (own_pay l Z a0 hw [] hh3 n0 (Nat.le_trans Z0 Kp3.1) rb a_EMPTY fq3_2) hZ (hw _ (List.mem_of_getElem? (i := 35) rfl)) (hw _ (List.mem_of_getElem? (i := 10) rfl)) (by decide) (by decide)) qa5 qc5 (g := (mkF m 19 #[.val (.int p1), .val (.int (6 : Int32)), .val (.ref (ad 7)), .val (.ref rb), .unset] [(.ref rb)])) rfl (by rw [hml]; rfl) (Steps.refl _) (argsL := []) (rest := []) (lenOf own_pd____B rfl) rfl (by show 2 * 0 + _ ≤ _; exact Nat.le_of_eq rfl) (hb hby at_19) (fun _ _ => ⟨rfl, eh3, (by decide : 1 + 0 ≤ _), (by decide : 2 + 0 ≤ _)⟩)
  dsimp only [Pt.U, Pt.locs, Pt.cells, Pt.slots] at X6 l6 y6 z6 st6 hQ6
  subst l6 y6 z6
  obtain ⟨rfl, Nq6, e6⟩ := hQ6
  have N6 := Fr.app N3 Nq6
  have ch7 : ∀ t, Steps p.tables e below (T6.setTop (mkF m 22 #[.val (.int p1), .val (.int (6 : Int32)), .val (.ref (ad 7)), .val (.ref rb), .unset] [(.ref a_EMPTY)])) t → Steps p.tables e below (s₁.setTop (entryFrame m #[(.int p1)] maxLocals)) t := fun t k => ch4 t (by
      show Steps p.tables e below (T3.setTop (mkF m 17 #[.val (.int p1), .val (.int (6 : Int32)), .val (.ref (ad 7)), .unset, .unset] [(.ref rb)])) t
      refine XS.astoreN X3.here hx rfl (hb hby at_17) rfl rfl (l' := #[.val (.int p1), .val (.int (6 : Int32)), .val (.ref (ad 7)), .val (.ref rb), .unset]) rfl ?_
      show Steps p.tables e below (T3.setTop (mkF m 18 #[.val (.int p1), .val (.int (6 : Int32)), .val (.ref (ad 7)), .val (.ref rb), .unset] [])) t
      refine XS.aloadN X3.here hx rfl (hb hby at_18) rfl rfl ?_
      show Steps p.tables e below (T3.setTop (mkF m 19 #[.val (.int p1), .val (.int (6 : Int32)), .val (.ref (ad 7)), .val (.ref rb), .unset] [(.ref rb)])) t
      exact st6.trans k)
  obtain ⟨cq8, kq8, qa8, qb8, qc8⟩ := isOf hZ e6 fq3_0
  obtain ⟨vv9, _, ⟨T9, L9, kk9, nn9⟩, -, X9, ⟨Lc9, hQ9, l9, y9, z9⟩, st9⟩ := X6.virtualBack hx (y := (⟨"com/example/limpet/limpet/io/Response", "status", "()Lcom/example/limpet/limpet/io/Status;"⟩ : MethodName)) (z := (⟨"com/example/limpet/limpet/io/Response", "status", "()Lcom/example/limpet/limpet/io/Status;"⟩ : MethodName)) hown (mvT hZ (hw _ (List.mem_of_getElem? (i := 36) rfl))) (mvT hZ (hw _ (List.mem_of_getElem? (i := 37) rfl))) (notFace_of_selects (args := #[]) (mvT hZ (hw _ (List.mem_of_getElem? (i := 39) rfl)))) (mvT hZ (hw _ (List.mem_of_getElem? (i := 39) rfl))) (mvT hZ (hw _ (List.mem_of_getElem? (i := 38) rfl))) (by decide) (backOf (W := 0) (own_sta l Z a0 hw [] hh3 n0 (Nat.le_trans Z0 Kp3.1) rb (ad 7) fq3_1) hZ (hw _ (List.mem_of_getElem? (i := 40) rfl)) (hw _ (List.mem_of_getElem? (i := 10) rfl)) (by decide) (by decide)) qa8 qc8 (g := (mkF m 25 #[.val (.int p1), .val (.int (6 : Int32)), .val (.ref (ad 7)), .val (.ref rb), .val (.ref a_EMPTY)] [(.ref rb)])) rfl (by rw [hml]; rfl) (Steps.refl _) (argsL := []) (rest := []) (lenOf own_pd___Lcom_example_limpet_limpet_io_Status_ rfl) rfl (by show 2 * 0 + _ ≤ _; exact Nat.le_of_eq rfl) (hb hby at_25) (fun _ _ => ⟨rfl, e6, (by decide : 1 + 0 ≤ _), (by decide : 2 + 0 ≤ _)⟩)
  dsimp only [Pt.U, Pt.locs, Pt.cells, Pt.slots] at X9 l9 y9 z9 st9 hQ9
  subst l9 y9 z9
  obtain ⟨rfl, Nq9, e9⟩ := hQ9
  have N9 := Fr.app N6 Nq9
  have ch10 : ∀ t, Steps p.tables e below (T9.setTop (mkF m 28 #[.val (.int p1), .val (.int (6 : Int32)), .val (.ref (ad 7)), .val (.ref rb), .val (.ref a_EMPTY)] [(.ref (ad 7))])) t → Steps p.tables e below (s₁.setTop (entryFrame m #[(.int p1)] maxLocals)) t := fun t k => ch7 t (by
      show Steps p.tables e below (T6.setTop (mkF m 22 #[.val (.int p1), .val (.int (6 : Int32)), .val (.ref (ad 7)), .val (.ref rb), .unset] [(.ref a_EMPTY)])) t
      refine XS.astore X6.here hx rfl (hb hby at_22) rfl rfl (l' := #[.val (.int p1), .val (.int (6 : Int32)), .val (.ref (ad 7)), .val (.ref rb), .val (.ref a_EMPTY)]) rfl ?_
      show Steps p.tables e below (T6.setTop (mkF m 24 #[.val (.int p1), .val (.int (6 : Int32)), .val (.ref (ad 7)), .val (.ref rb), .val (.ref a_EMPTY)] [])) t
      refine XS.aloadN X6.here hx rfl (hb hby at_24) rfl rfl ?_
      show Steps p.tables e below (T6.setTop (mkF m 25 #[.val (.int p1), .val (.int (6 : Int32)), .val (.ref (ad 7)), .val (.ref rb), .val (.ref a_EMPTY)] [(.ref rb)])) t
      exact st9.trans k)
  have cf11 := ((own_V_EMPTY W).keep Kp3 nin0)
  obtain ⟨cl12, Ar12, -, Sz12, Ng12, -, -⟩ := cf11
  have ch13 : ∀ t, Steps p.tables e below (T9.setTop (mkF m 48 #[.val (.int p1), .val (.int (6 : Int32)), .val (.ref (ad 7)), .val (.ref rb), .val (.ref a_EMPTY)] [(.int (1 : Int32))])) t → Steps p.tables e below (s₁.setTop (entryFrame m #[(.int p1)] maxLocals)) t := fun t k => ch10 t (by
      show Steps p.tables e below (T9.setTop (mkF m 28 #[.val (.int p1), .val (.int (6 : Int32)), .val (.ref (ad 7)), .val (.ref rb), .val (.ref a_EMPTY)] [(.ref (ad 7))])) t
      refine XS.aloadN X9.here hx rfl (hb hby at_28) rfl rfl ?_
      show Steps p.tables e below (T9.setTop (mkF m 29 #[.val (.int p1), .val (.int (6 : Int32)), .val (.ref (ad 7)), .val (.ref rb), .val (.ref a_EMPTY)] [(.ref (ad 7)), (.ref (ad 7))])) t
      refine Jvm.RoadKit.acmp (g := (mkF m 29 #[.val (.int p1), .val (.int (6 : Int32)), .val (.ref (ad 7)), .val (.ref rb), .val (.ref a_EMPTY)] [(.ref (ad 7)), (.ref (ad 7))])) X9 hx rfl rfl rfl (pc0 := 29) (pc' := 32) (same := true) rfl (hb hby at_29) rfl (decide_eq_true rfl) (by decide) (by decide) ?_
      show Steps p.tables e below (T9.setTop (mkF m 32 #[.val (.int p1), .val (.int (6 : Int32)), .val (.ref (ad 7)), .val (.ref rb), .val (.ref a_EMPTY)] [])) t
      refine XS.aload X9.here hx rfl (hb hby at_32) rfl rfl ?_
      show Steps p.tables e below (T9.setTop (mkF m 34 #[.val (.int p1), .val (.int (6 : Int32)), .val (.ref (ad 7)), .val (.ref rb), .val (.ref a_EMPTY)] [(.ref a_EMPTY)])) t
      refine XS.ifnullNo X9.here hx rfl (hb hby at_34) rfl ?_
      show Steps p.tables e below (T9.setTop (mkF m 37 #[.val (.int p1), .val (.int (6 : Int32)), .val (.ref (ad 7)), .val (.ref rb), .val (.ref a_EMPTY)] [])) t
      refine XS.aload X9.here hx rfl (hb hby at_37) rfl rfl ?_
      show Steps p.tables e below (T9.setTop (mkF m 39 #[.val (.int p1), .val (.int (6 : Int32)), .val (.ref (ad 7)), .val (.ref rb), .val (.ref a_EMPTY)] [(.ref a_EMPTY)])) t
      refine X9.arraylength hx (by rw [e9]; exact Ar12.1) (State.isArrayOf_alike hZ.alike Ar12.2.1) (g := (mkF m 39 #[.val (.int p1), .val (.int (6 : Int32)), .val (.ref (ad 7)), .val (.ref rb), .val (.ref a_EMPTY)] [(.ref a_EMPTY)])) rfl rfl (hb hby at_39) _ ?_
      rw [len_of Sz12 Ng12]
      show Steps p.tables e below (T9.setTop (mkF m 40 #[.val (.int p1), .val (.int (6 : Int32)), .val (.ref (ad 7)), .val (.ref rb), .val (.ref a_EMPTY)] [(.int (0 : Int32))])) t
      refine XS.ifNo X9.here hx rfl (hb hby at_40) rfl ((if0 _ _).trans (teq (by decide : (0 : Int32) = (0 : Int32))).2) ?_
      show Steps p.tables e below (T9.setTop (mkF m 43 #[.val (.int p1), .val (.int (6 : Int32)), .val (.ref (ad 7)), .val (.ref rb), .val (.ref a_EMPTY)] [])) t
      refine XS.iconst X9.here hx rfl (hb hby at_43) ?_
      show Steps p.tables e below (T9.setTop (mkF m 44 #[.val (.int p1), .val (.int (6 : Int32)), .val (.ref (ad 7)), .val (.ref rb), .val (.ref a_EMPTY)] [(.int (1 : Int32))])) t
      refine XS.goto X9.here hx rfl (pc0 := 44) (pc' := 48) rfl (hb hby at_44) (by decide) (by decide) ?_
      exact k)
  obtain ⟨fs, hr, hrun, hended, hW, hsame⟩ := X9.leave (v := some (.int (1 : Int32))) (fun h => by rw [Bd.returns] at h; cases h)
  refine ⟨_, _, ch13 _ ?_, hrun, hended, _, _, rfl, ?_, ⟨_, rfl⟩, hW, hsame.mono (by decide) (by decide)⟩
  · show Steps p.tables e below (T9.setTop (mkF m 48 #[.val (.int p1), .val (.int (6 : Int32)), .val (.ref (ad 7)), .val (.ref rb), .val (.ref a_EMPTY)] [(.int (1 : Int32))])) _
    exact retN X9 hx (t := .boolean) Bd.returns (by simp) (hb hby at_48) hr
  · show QN (some (.int (1 : Int32))) n0 _ T9.heap _
    rw [e9]
    exact ⟨rfl, N9⟩
theorem own_ef_own_pick_7 (m : MethodId) {x0 : Int32} : entryFrame m #[(.int x0)] 1 = mkF m 0 #[.val (.int x0)] [] := by first | (simp [entryFrame, mkF, argsToLocals, Value.category, maxLocals]; done) | rfl
set_option maxRecDepth 65536 in
set_option maxHeartbeats 40000000 in
theorem own_pick_7 (l : Launch) (Z : State) (a0 : Array Value) (hw : ∀ d ∈ tables_1, d.before a0 Z = true) (ws : List Jvm.Cond) (h0 : Heap) (n0 : Nat) (Z0 : n0 ≤ h0.size) (ad : Nat → Addr) (a_EMPTY : Addr) (k_EMPTY : ClassId) (W : OwnWd Z h0 ad a_EMPTY k_EMPTY) :
    MetFree l (⟨"com/example/limpet/limpet/io/ResponseOfPinLaw", "pick", "(I)Lcom/example/limpet/limpet/io/Status;"⟩ : MethodName) (head1 (Jvm.Cond.code (⟨"com/example/limpet/limpet/io/ResponseOfPinLaw", "pick", "(I)Lcom/example/limpet/limpet/io/Status;"⟩ : MethodName) method_2_code 1 (some (.object "com/example/limpet/limpet/io/Status")) :: ws) ({ frames := 0, cells := 0, slots := 0, locals := 0 } : Room)) (fun a U => a = #[(.int (7 : Int32))] ∧ Z.Warmed39 U.vm ∧ U.heap = h0) (fun _ _ _ _ _ => True) (fun _ U o U' => ∃ v L, o = .returned v ∧ QV (some (.ref (ad 4))) h0 n0 v U'.heap L ∧ FrameEnd U o U' L ({ frames := 0, cells := 0, slots := 0, locals := 0 } : Room).cells ({ frames := 0, cells := 0, slots := 0, locals := 0 } : Room).slots) := by
  refine MetFree.of_bodySF (plainFor_of_name own_pn_com_example_limpet_limpet_io_ResponseOfPinLaw) hisR ?_
  intro p e s m args below meth c s₁ Bd hml0 hP hK
  obtain ⟨rfl, hZ, hh⟩ := hP
  have hx := Bd.exec
  have hby := Bd.bytes
  have hml : c.maxLocals = 1 := hml0
  have hown : s.vm.findClass "com/example/limpet/limpet/io/ResponseOfPinLaw" = some m.cls := findClass_of_methodNamed Bd.named
  have hnm := (name_of_methodNamed Bd.named Bd.method).1
  have X0 : Stand p l e ({ frames := 0, cells := 0, slots := 0, locals := 0 } : Room) s m #[(.int (7 : Int32))] below meth c s₁ [] 0 0 := Stand.of_body Bd
  have e0 : s₁.heap = h0 := by rw [← hh, Bd.state]; rfl
  have N0 := Fr.nil n0
  have pre0 : ∀ t, Steps p.tables e below (s₁.setTop (mkF m 0 #[.val (.int (7 : Int32))] [])) t → Steps p.tables e below (s₁.setTop (entryFrame m #[(.int (7 : Int32))] 1)) t := fun t k => castTop (own_ef_own_pick_7 m) k
  obtain ⟨T1, X1, e1, st1⟩ := getS2 X0 hx hZ hown (host := "") (Or.inl (hw _ (List.mem_of_getElem? (i := 47) rfl))) Via.refl e0 (own_S_TOO_MANY_KEYS W) (g := (mkF m 69 #[.val (.int (7 : Int32))] [])) rfl (hb hby own_d_method_2_code_69)
  have ch2 : ∀ t, Steps p.tables e below (T1.setTop (mkF m 72 #[.val (.int (7 : Int32))] [(.ref (ad 4))])) t → Steps p.tables e below (s₁.setTop (entryFrame m #[(.int (7 : Int32))] 1)) t := fun t k => pre0 t (by
      show Steps p.tables e below (s₁.setTop (mkF m 0 #[.val (.int (7 : Int32))] [])) t
      refine XS.iloadN X0.here hx rfl (hb hby own_d_method_2_code_0) rfl ?_
      show Steps p.tables e below (s₁.setTop (mkF m 1 #[.val (.int (7 : Int32))] [(.int (7 : Int32))])) t
      refine XS.ifYes X0.here hx rfl (pc0 := 1) (pc' := 8) rfl (hb hby own_d_method_2_code_1) rfl ((if0 _ _).trans (feq (by decide : ¬ (7 : Int32) = (0 : Int32))).2) (by decide) (by decide) ?_
      show Steps p.tables e below (s₁.setTop (mkF m 8 #[.val (.int (7 : Int32))] [])) t
      refine XS.iloadN X0.here hx rfl (hb hby own_d_method_2_code_8) rfl ?_
      show Steps p.tables e below (s₁.setTop (mkF m 9 #[.val (.int (7 : Int32))] [(.int (7 : Int32))])) t
      refine XS.iconst X0.here hx rfl (hb hby own_d_method_2_code_9) ?_
      show Steps p.tables e below (s₁.setTop (mkF m 10 #[.val (.int (7 : Int32))] [(.int (1 : Int32)), (.int (7 : Int32))])) t
      refine XS.icmpYes X0.here hx rfl (pc0 := 10) (pc' := 17) rfl (hb hby own_d_method_2_code_10) rfl (feq (by decide : ¬ (7 : Int32) = (1 : Int32))).2 (by decide) (by decide) ?_
      show Steps p.tables e below (s₁.setTop (mkF m 17 #[.val (.int (7 : Int32))] [])) t
      refine XS.iloadN X0.here hx rfl (hb hby own_d_method_2_code_17) rfl ?_
      show Steps p.tables e below (s₁.setTop (mkF m 18 #[.val (.int (7 : Int32))] [(.int (7 : Int32))])) t
      refine XS.iconst X0.here hx rfl (hb hby own_d_method_2_code_18) ?_
      show Steps p.tables e below (s₁.setTop (mkF m 19 #[.val (.int (7 : Int32))] [(.int (2 : Int32)), (.int (7 : Int32))])) t
      refine XS.icmpYes X0.here hx rfl (pc0 := 19) (pc' := 26) rfl (hb hby own_d_method_2_code_19) rfl (feq (by decide : ¬ (7 : Int32) = (2 : Int32))).2 (by decide) (by decide) ?_
      show Steps p.tables e below (s₁.setTop (mkF m 26 #[.val (.int (7 : Int32))] [])) t
      refine XS.iloadN X0.here hx rfl (hb hby own_d_method_2_code_26) rfl ?_
      show Steps p.tables e below (s₁.setTop (mkF m 27 #[.val (.int (7 : Int32))] [(.int (7 : Int32))])) t
      refine XS.iconst X0.here hx rfl (hb hby own_d_method_2_code_27) ?_
      show Steps p.tables e below (s₁.setTop (mkF m 28 #[.val (.int (7 : Int32))] [(.int (3 : Int32)), (.int (7 : Int32))])) t
      refine XS.icmpYes X0.here hx rfl (pc0 := 28) (pc' := 35) rfl (hb hby own_d_method_2_code_28) rfl (feq (by decide : ¬ (7 : Int32) = (3 : Int32))).2 (by decide) (by decide) ?_
      show Steps p.tables e below (s₁.setTop (mkF m 35 #[.val (.int (7 : Int32))] [])) t
      refine XS.iloadN X0.here hx rfl (hb hby own_d_method_2_code_35) rfl ?_
      show Steps p.tables e below (s₁.setTop (mkF m 36 #[.val (.int (7 : Int32))] [(.int (7 : Int32))])) t
      refine XS.iconst X0.here hx rfl (hb hby own_d_method_2_code_36) ?_
      show Steps p.tables e below (s₁.setTop (mkF m 37 #[.val (.int (7 : Int32))] [(.int (4 : Int32)), (.int (7 : Int32))])) t
      refine XS.icmpYes X0.here hx rfl (pc0 := 37) (pc' := 44) rfl (hb hby own_d_method_2_code_37) rfl (feq (by decide : ¬ (7 : Int32) = (4 : Int32))).2 (by decide) (by decide) ?_
      show Steps p.tables e below (s₁.setTop (mkF m 44 #[.val (.int (7 : Int32))] [])) t
      refine XS.iloadN X0.here hx rfl (hb hby own_d_method_2_code_44) rfl ?_
      show Steps p.tables e below (s₁.setTop (mkF m 45 #[.val (.int (7 : Int32))] [(.int (7 : Int32))])) t
      refine XS.iconst X0.here hx rfl (hb hby own_d_method_2_code_45) ?_
      show Steps p.tables e below (s₁.setTop (mkF m 46 #[.val (.int (7 : Int32))] [(.int (5 : Int32)), (.int (7 : Int32))])) t
      refine XS.icmpYes X0.here hx rfl (pc0 := 46) (pc' := 53) rfl (hb hby own_d_method_2_code_46) rfl (feq (by decide : ¬ (7 : Int32) = (5 : Int32))).2 (by decide) (by decide) ?_
      show Steps p.tables e below (s₁.setTop (mkF m 53 #[.val (.int (7 : Int32))] [])) t
      refine XS.iloadN X0.here hx rfl (hb hby own_d_method_2_code_53) rfl ?_
      show Steps p.tables e below (s₁.setTop (mkF m 54 #[.val (.int (7 : Int32))] [(.int (7 : Int32))])) t
      refine XS.bipush X0.here hx rfl (hb hby own_d_method_2_code_54) ?_
      show Steps p.tables e below (s₁.setTop (mkF m 56 #[.val (.int (7 : Int32))] [(.int (6 : Int32)), (.int (7 : Int32))])) t
      refine XS.icmpYes X0.here hx rfl (pc0 := 56) (pc' := 63) rfl (hb hby own_d_method_2_code_56) rfl (feq (by decide : ¬ (7 : Int32) = (6 : Int32))).2 (by decide) (by decide) ?_
      show Steps p.tables e below (s₁.setTop (mkF m 63 #[.val (.int (7 : Int32))] [])) t
      refine XS.iloadN X0.here hx rfl (hb hby own_d_method_2_code_63) rfl ?_
      show Steps p.tables e below (s₁.setTop (mkF m 64 #[.val (.int (7 : Int32))] [(.int (7 : Int32))])) t
      refine XS.bipush X0.here hx rfl (hb hby own_d_method_2_code_64) ?_
      show Steps p.tables e below (s₁.setTop (mkF m 66 #[.val (.int (7 : Int32))] [(.int (7 : Int32)), (.int (7 : Int32))])) t
      refine XS.icmpNo X0.here hx rfl (hb hby own_d_method_2_code_66) rfl (teq (by decide : (7 : Int32) = (7 : Int32))).2 ?_
      show Steps p.tables e below (s₁.setTop (mkF m 69 #[.val (.int (7 : Int32))] [])) t
      exact st1 t k)
  obtain ⟨fs, hr, hrun, hended, hW, hsame⟩ := X1.leave (v := some (.ref (ad 4))) (fun h => by rw [Bd.returns] at h; cases h)
  refine ⟨_, _, ch2 _ ?_, hrun, hended, _, _, rfl, ?_, ⟨_, rfl⟩, hW, hsame.mono (by decide) (by decide)⟩
  · show Steps p.tables e below (T1.setTop (mkF m 72 #[.val (.int (7 : Int32))] [(.ref (ad 4))])) _
    jvm_step X1.here [X1.here.top, hx, (hb hby own_d_method_2_code_72), X1.method', Bd.returns, Value.isRef, FieldType.isReference]
    first | (intro acts; rw [hr _ acts rfl rfl rfl]) | rw [hr _ _ rfl rfl rfl]
    exact Steps.refl _
  · show QV (some (.ref (ad 4))) h0 n0 _ T1.heap _
    rw [e1]
    exact ⟨rfl, N0, rfl⟩
theorem own_ef_own_law_7 (m : MethodId) {x0 : Int32} : entryFrame m #[(.int x0)] maxLocals = mkF m 0 #[.val (.int x0), .unset, .unset, .unset, .unset] [] := by first | (simp [entryFrame, mkF, argsToLocals, Value.category, maxLocals]; done) | rfl
set_option maxRecDepth 65536 in
set_option maxHeartbeats 40000000 in
theorem own_law_7 (l : Launch) (Z : State) (a0 : Array Value) (hw : ∀ d ∈ tables_1, d.before a0 Z = true) (ws : List Jvm.Cond) (h0 : Heap) (n0 : Nat) (Z0 : n0 ≤ h0.size) (p1 : Int32) (hk : (p1 &&& (2147483647 : Int32)) % (9 : Int32) = (7 : Int32)) (ad : Nat → Addr) (a_EMPTY : Addr) (k_EMPTY : ClassId) (W : OwnWd Z h0 ad a_EMPTY k_EMPTY) :
    MetFree l x (head1 (Jvm.Cond.code x code maxLocals ret :: ws) room_1) (fun a U => a = #[(.int p1)] ∧ Z.Warmed39 U.vm ∧ U.heap = h0) (fun _ _ _ _ _ => True) (fun _ U o U' => ∃ v L, o = .returned v ∧ QN (some (.int (1 : Int32))) n0 v U'.heap L ∧ FrameEnd U o U' L room_1.cells room_1.slots) := by
  refine MetFree.of_bodySF (plainFor_of_name own_pn_com_example_limpet_limpet_io_ResponseOfPinLaw) hisR ?_
  intro p e s m args below meth c s₁ Bd hml0 hP hK
  obtain ⟨rfl, hZ, hh⟩ := hP
  have hx := Bd.exec
  have hby := Bd.bytes
  have hml : c.maxLocals = 5 := hml0
  have hown : s.vm.findClass "com/example/limpet/limpet/io/ResponseOfPinLaw" = some m.cls := findClass_of_methodNamed Bd.named
  have hnm := (name_of_methodNamed Bd.named Bd.method).1
  have X0 : Stand p l e room_1 s m #[(.int p1)] below meth c s₁ [] 0 0 := Stand.of_body Bd
  have e0 : s₁.heap = h0 := by rw [← hh, Bd.state]; rfl
  have N0 := Fr.nil n0
  have pre0 : ∀ t, Steps p.tables e below (s₁.setTop (mkF m 0 #[.val (.int p1), .unset, .unset, .unset, .unset] [])) t → Steps p.tables e below (s₁.setTop (entryFrame m #[(.int p1)] maxLocals)) t := fun t k => castTop (own_ef_own_law_7 m) k
  obtain ⟨vv1, _, ⟨T1, L1, kk1, nn1⟩, -, X1, ⟨Lc1, hQ1, l1, y1, z1⟩, st1⟩ := Jvm.LawKit.callS X0 hx (y := (⟨"com/example/limpet/limpet/io/ResponseOfPinLaw", "pick", "(I)Lcom/example/limpet/limpet/io/Status;"⟩ : MethodName)) hown (mvT hZ (hw _ (List.mem_of_getElem? (i := 1) rfl))) (mvT hZ (hw _ (List.mem_of_getElem? (i := 2) rfl))) (mvT hZ (hw _ (List.mem_of_getElem? (i := 3) rfl))) (mvT hZ (hw _ (List.mem_of_getElem? (i := 4) rfl))) (by decide) (backOf (W := 0) (own_pick_7 l Z a0 hw [] h0 n0 Z0 ad a_EMPTY k_EMPTY W) hZ (hw _ (List.mem_of_getElem? (i := 4) rfl)) (hw _ (List.mem_of_getElem? (i := 3) rfl)) (by decide) (by decide)) (g := (mkF m 9 #[.val (.int p1), .val (.int (7 : Int32)), .unset, .unset, .unset] [(.int (7 : Int32))])) rfl (by rw [hml]; rfl) (argsL := [(.int (7 : Int32))]) (rest := []) (lenOf own_pd__I_Lcom_example_limpet_limpet_io_Status_ rfl) rfl (by show 2 * 0 + _ ≤ _; exact Nat.le_of_eq rfl) (hb hby at_9) (fun _ _ => ⟨rfl, e0, (by decide : 0 + 0 ≤ _), (by decide : 0 + 0 ≤ _)⟩)
  dsimp only [Pt.U, Pt.locs, Pt.cells, Pt.slots] at X1 l1 y1 z1 st1 hQ1
  subst l1 y1 z1
  obtain ⟨rfl, Nq1, e1⟩ := hQ1
  have N1 := Fr.app N0 Nq1
  have ch2 : ∀ t, Steps p.tables e below (T1.setTop (mkF m 12 #[.val (.int p1), .val (.int (7 : Int32)), .unset, .unset, .unset] [(.ref (ad 4))])) t → Steps p.tables e below (s₁.setTop (entryFrame m #[(.int p1)] maxLocals)) t := fun t k => pre0 t (by
      show Steps p.tables e below (s₁.setTop (mkF m 0 #[.val (.int p1), .unset, .unset, .unset, .unset] [])) t
      refine XS.iloadN X0.here hx rfl (hb hby at_0) rfl ?_
      show Steps p.tables e below (s₁.setTop (mkF m 1 #[.val (.int p1), .unset, .unset, .unset, .unset] [(.int p1)])) t
      refine X0.ldcInt hx hown (mvT hZ (hw _ (List.mem_of_getElem? (i := 0) rfl))) (g := (mkF m 1 #[.val (.int p1), .unset, .unset, .unset, .unset] [(.int p1)])) rfl (hb hby at_1) _ ?_
      show Steps p.tables e below (s₁.setTop (mkF m 3 #[.val (.int p1), .unset, .unset, .unset, .unset] [(.int (2147483647 : Int32)), (.int p1)])) t
      refine XS.iand X0.here hx rfl (hb hby at_3) rfl ?_
      show Steps p.tables e below (s₁.setTop (mkF m 4 #[.val (.int p1), .unset, .unset, .unset, .unset] [(.int (p1 &&& (2147483647 : Int32)))])) t
      refine XS.bipush X0.here hx rfl (hb hby at_4) ?_
      show Steps p.tables e below (s₁.setTop (mkF m 6 #[.val (.int p1), .unset, .unset, .unset, .unset] [(.int (9 : Int32)), (.int (p1 &&& (2147483647 : Int32)))])) t
      refine Jvm.RoadKit.iremM (g := (mkF m 6 #[.val (.int p1), .unset, .unset, .unset, .unset] [(.int (9 : Int32)), (.int (p1 &&& (2147483647 : Int32)))])) X0 hx rfl (hb hby at_6) rfl (by decide) ?_
      rw [hk]
      show Steps p.tables e below (s₁.setTop (mkF m 7 #[.val (.int p1), .unset, .unset, .unset, .unset] [(.int (7 : Int32))])) t
      refine XS.istoreN X0.here hx rfl (hb hby at_7) rfl (l' := #[.val (.int p1), .val (.int (7 : Int32)), .unset, .unset, .unset]) rfl ?_
      show Steps p.tables e below (s₁.setTop (mkF m 8 #[.val (.int p1), .val (.int (7 : Int32)), .unset, .unset, .unset] [])) t
      refine XS.iloadN X0.here hx rfl (hb hby at_8) rfl ?_
      show Steps p.tables e below (s₁.setTop (mkF m 9 #[.val (.int p1), .val (.int (7 : Int32)), .unset, .unset, .unset] [(.int (7 : Int32))])) t
      exact st1 t k)
  obtain ⟨vv3, _, ⟨T3, L3, kk3, nn3⟩, -, X3, ⟨Lc3, hQ3, l3, y3, z3⟩, st3⟩ := Jvm.LawKit.callS X1 hx (y := (⟨"com/example/limpet/limpet/io/Response", "of", "(Lcom/example/limpet/limpet/io/Status;)Lcom/example/limpet/limpet/io/Response;"⟩ : MethodName)) hown (mvT hZ (hw _ (List.mem_of_getElem? (i := 8) rfl))) (mvT hZ (hw _ (List.mem_of_getElem? (i := 9) rfl))) (mvT hZ (hw _ (List.mem_of_getElem? (i := 10) rfl))) (mvT hZ (hw _ (List.mem_of_getElem? (i := 11) rfl))) (by decide) (backOf (W := 0) (own_of l Z a0 hw [] h0 n0 (Nat.le_trans Z0 (Keep.refl h0 []).1) (ad 4) ad a_EMPTY k_EMPTY W) hZ (hw _ (List.mem_of_getElem? (i := 11) rfl)) (hw _ (List.mem_of_getElem? (i := 10) rfl)) (by decide) (by decide)) (g := (mkF m 14 #[.val (.int p1), .val (.int (7 : Int32)), .val (.ref (ad 4)), .unset, .unset] [(.ref (ad 4))])) rfl (by rw [hml]; rfl) (argsL := [(.ref (ad 4))]) (rest := []) (lenOf own_pd__Lcom_example_limpet_limpet_io_Status__Lcom_example_limpet_limpet_io_Response_ rfl) rfl (by show 2 * 0 + _ ≤ _; exact Nat.le_of_eq rfl) (hb hby at_14) (fun _ _ => ⟨rfl, e1, (by decide : 0 + 1 ≤ _), (by decide : 0 + 2 ≤ _)⟩)
  dsimp only [Pt.U, Pt.locs, Pt.cells, Pt.slots] at X3 l3 y3 z3 st3 hQ3
  subst l3 y3 z3
  obtain ⟨hh3, eh3⟩ : ∃ h, T3.heap = h := ⟨_, rfl⟩
  rw [eh3] at hQ3
  obtain ⟨rb, rfl, zq3, Nq3, Kq3, fq3_0, fq3_1, fq3_2⟩ := hQ3
  have N3 := Fr.app N1 Nq3
  have ne_ad0_rb : (ad 0) ≠ rb := Nat.ne_of_lt (Nat.lt_of_lt_of_le (own_E_OK W).lt zq3)
  have ne_ad1_rb : (ad 1) ≠ rb := Nat.ne_of_lt (Nat.lt_of_lt_of_le (own_E_FAILED W).lt zq3)
  have ne_ad2_rb : (ad 2) ≠ rb := Nat.ne_of_lt (Nat.lt_of_lt_of_le (own_E_NOT_FOUND W).lt zq3)
  have ne_ad3_rb : (ad 3) ≠ rb := Nat.ne_of_lt (Nat.lt_of_lt_of_le (own_E_BAD_REQUEST W).lt zq3)
  have ne_ad4_rb : (ad 4) ≠ rb := Nat.ne_of_lt (Nat.lt_of_lt_of_le (own_E_TOO_MANY_KEYS W).lt zq3)
  have ne_ad5_rb : (ad 5) ≠ rb := Nat.ne_of_lt (Nat.lt_of_lt_of_le (own_E_UNSUPPORTED_KEY W).lt zq3)
  have ne_ad6_rb : (ad 6) ≠ rb := Nat.ne_of_lt (Nat.lt_of_lt_of_le (own_E_TOO_MANY_GRANTS W).lt zq3)
  have ne_ad7_rb : (ad 7) ≠ rb := Nat.ne_of_lt (Nat.lt_of_lt_of_le (own_E_GRANT_NOT_FOUND W).lt zq3)
  have ne_ad8_rb : (ad 8) ≠ rb := Nat.ne_of_lt (Nat.lt_of_lt_of_le (own_E_PERMISSION_DENIED W).lt zq3)
  have ne_a_EMPTY_rb : a_EMPTY ≠ rb := Nat.ne_of_lt (Nat.lt_of_lt_of_le (own_V_EMPTY W).lt zq3)
  have g_rb : n0 ≤ rb := Nat.le_trans (Nat.le_trans Z0 (Keep.refl h0 []).1) zq3
  have sz_rb : h0.size ≤ rb := Nat.le_trans (Keep.refl h0 []).1 zq3
  have Kp3 := Keep.trans (Keep.refl h0 []) Kq3 all0
  have ch4 : ∀ t, Steps p.tables e below (T3.setTop (mkF m 17 #[.val (.int p1), .val (.int (7 : Int32)), .val (.ref (ad 4)), .unset, .unset] [(.ref rb)])) t → Steps p.tables e below (s₁.setTop (entryFrame m #[(.int p1)] maxLocals)) t := fun t k => ch2 t (by
      show Steps p.tables e below (T1.setTop (mkF m 12 #[.val (.int p1), .val (.int (7 : Int32)), .unset, .unset, .unset] [(.ref (ad 4))])) t
      refine XS.astoreN X1.here hx rfl (hb hby at_12) rfl rfl (l' := #[.val (.int p1), .val (.int (7 : Int32)), .val (.ref (ad 4)), .unset, .unset]) rfl ?_
      show Steps p.tables e below (T1.setTop (mkF m 13 #[.val (.int p1), .val (.int (7 : Int32)), .val (.ref (ad 4)), .unset, .unset] [])) t
      refine XS.aloadN X1.here hx rfl (hb hby at_13) rfl rfl ?_
      show Steps p.tables e below (T1.setTop (mkF m 14 #[.val (.int p1), .val (.int (7 : Int32)), .val (.ref (ad 4)), .unset, .unset] [(.ref (ad 4))])) t
      exact st3 t k)
  obtain ⟨cq5, kq5, qa5, qb5, qc5⟩ := isOf hZ eh3 fq3_0
  obtain ⟨vv6, _, ⟨T6, L6, kk6, nn6⟩, -, X6, ⟨Lc6, hQ6, l6, y6, z6⟩, st6⟩ := X3.virtualBack hx (y := (⟨"com/example/limpet/limpet/io/Response", "payload", "()[B"⟩ : MethodName)) (z := (⟨"com/example/limpet/limpet/io/Response", "payload", "()[B"⟩ : MethodName)) hown (mvT hZ (hw _ (List.mem_of_getElem? (i := 31) rfl))) (mvT hZ (hw _ (List.mem_of_getElem? (i := 32) rfl))) (notFace_of_selects (args := #[]) (mvT hZ (hw _ (List.mem_of_getElem? (i := 34) rfl)))) (mvT hZ (hw _ (List.mem_of_getElem? (i := 34) rfl))) (mvT hZ (hw _ (List.mem_of_getElem? (i := 33) rfl))) (by decide) (backOf (W := 0) (own_pay l Z a0 hw [] hh3 n0 (Nat.le_trans Z0 Kp3.1) rb a_EMPTY fq3_2) hZ (hw _ (List.mem_of_getElem? (i := 35) rfl)) (hw _ (List.mem_of_getElem? (i := 10) rfl)) (by decide) (by decide)) qa5 qc5 (g := (mkF m 19 #[.val (.int p1), .val (.int (7 : Int32)), .val (.ref (ad 4)), .val (.ref rb), .unset] [(.ref rb)])) rfl (by rw [hml]; rfl) (Steps.refl _) (argsL := []) (rest := []) (lenOf own_pd____B rfl) rfl (by show 2 * 0 + _ ≤ _; exact Nat.le_of_eq rfl) (hb hby at_19) (fun _ _ => ⟨rfl, eh3, (by decide : 1 + 0 ≤ _), (by decide : 2 + 0 ≤ _)⟩)
  dsimp only [Pt.U, Pt.locs, Pt.cells, Pt.slots] at X6 l6 y6 z6 st6 hQ6
  subst l6 y6 z6
  obtain ⟨rfl, Nq6, e6⟩ := hQ6
  have N6 := Fr.app N3 Nq6
  have ch7 : ∀ t, Steps p.tables e below (T6.setTop (mkF m 22 #[.val (.int p1), .val (.int (7 : Int32)), .val (.ref (ad 4)), .val (.ref rb), .unset] [(.ref a_EMPTY)])) t → Steps p.tables e below (s₁.setTop (entryFrame m #[(.int p1)] maxLocals)) t := fun t k => ch4 t (by
      show Steps p.tables e below (T3.setTop (mkF m 17 #[.val (.int p1), .val (.int (7 : Int32)), .val (.ref (ad 4)), .unset, .unset] [(.ref rb)])) t
      refine XS.astoreN X3.here hx rfl (hb hby at_17) rfl rfl (l' := #[.val (.int p1), .val (.int (7 : Int32)), .val (.ref (ad 4)), .val (.ref rb), .unset]) rfl ?_
      show Steps p.tables e below (T3.setTop (mkF m 18 #[.val (.int p1), .val (.int (7 : Int32)), .val (.ref (ad 4)), .val (.ref rb), .unset] [])) t
      refine XS.aloadN X3.here hx rfl (hb hby at_18) rfl rfl ?_
      show Steps p.tables e below (T3.setTop (mkF m 19 #[.val (.int p1), .val (.int (7 : Int32)), .val (.ref (ad 4)), .val (.ref rb), .unset] [(.ref rb)])) t
      exact st6.trans k)
  obtain ⟨cq8, kq8, qa8, qb8, qc8⟩ := isOf hZ e6 fq3_0
  obtain ⟨vv9, _, ⟨T9, L9, kk9, nn9⟩, -, X9, ⟨Lc9, hQ9, l9, y9, z9⟩, st9⟩ := X6.virtualBack hx (y := (⟨"com/example/limpet/limpet/io/Response", "status", "()Lcom/example/limpet/limpet/io/Status;"⟩ : MethodName)) (z := (⟨"com/example/limpet/limpet/io/Response", "status", "()Lcom/example/limpet/limpet/io/Status;"⟩ : MethodName)) hown (mvT hZ (hw _ (List.mem_of_getElem? (i := 36) rfl))) (mvT hZ (hw _ (List.mem_of_getElem? (i := 37) rfl))) (notFace_of_selects (args := #[]) (mvT hZ (hw _ (List.mem_of_getElem? (i := 39) rfl)))) (mvT hZ (hw _ (List.mem_of_getElem? (i := 39) rfl))) (mvT hZ (hw _ (List.mem_of_getElem? (i := 38) rfl))) (by decide) (backOf (W := 0) (own_sta l Z a0 hw [] hh3 n0 (Nat.le_trans Z0 Kp3.1) rb (ad 4) fq3_1) hZ (hw _ (List.mem_of_getElem? (i := 40) rfl)) (hw _ (List.mem_of_getElem? (i := 10) rfl)) (by decide) (by decide)) qa8 qc8 (g := (mkF m 25 #[.val (.int p1), .val (.int (7 : Int32)), .val (.ref (ad 4)), .val (.ref rb), .val (.ref a_EMPTY)] [(.ref rb)])) rfl (by rw [hml]; rfl) (Steps.refl _) (argsL := []) (rest := []) (lenOf own_pd___Lcom_example_limpet_limpet_io_Status_ rfl) rfl (by show 2 * 0 + _ ≤ _; exact Nat.le_of_eq rfl) (hb hby at_25) (fun _ _ => ⟨rfl, e6, (by decide : 1 + 0 ≤ _), (by decide : 2 + 0 ≤ _)⟩)
  dsimp only [Pt.U, Pt.locs, Pt.cells, Pt.slots] at X9 l9 y9 z9 st9 hQ9
  subst l9 y9 z9
  obtain ⟨rfl, Nq9, e9⟩ := hQ9
  have N9 := Fr.app N6 Nq9
  have ch10 : ∀ t, Steps p.tables e below (T9.setTop (mkF m 28 #[.val (.int p1), .val (.int (7 : Int32)), .val (.ref (ad 4)), .val (.ref rb), .val (.ref a_EMPTY)] [(.ref (ad 4))])) t → Steps p.tables e below (s₁.setTop (entryFrame m #[(.int p1)] maxLocals)) t := fun t k => ch7 t (by
      show Steps p.tables e below (T6.setTop (mkF m 22 #[.val (.int p1), .val (.int (7 : Int32)), .val (.ref (ad 4)), .val (.ref rb), .unset] [(.ref a_EMPTY)])) t
      refine XS.astore X6.here hx rfl (hb hby at_22) rfl rfl (l' := #[.val (.int p1), .val (.int (7 : Int32)), .val (.ref (ad 4)), .val (.ref rb), .val (.ref a_EMPTY)]) rfl ?_
      show Steps p.tables e below (T6.setTop (mkF m 24 #[.val (.int p1), .val (.int (7 : Int32)), .val (.ref (ad 4)), .val (.ref rb), .val (.ref a_EMPTY)] [])) t
      refine XS.aloadN X6.here hx rfl (hb hby at_24) rfl rfl ?_
      show Steps p.tables e below (T6.setTop (mkF m 25 #[.val (.int p1), .val (.int (7 : Int32)), .val (.ref (ad 4)), .val (.ref rb), .val (.ref a_EMPTY)] [(.ref rb)])) t
      exact st9.trans k)
  have cf11 := ((own_V_EMPTY W).keep Kp3 nin0)
  obtain ⟨cl12, Ar12, -, Sz12, Ng12, -, -⟩ := cf11
  have ch13 : ∀ t, Steps p.tables e below (T9.setTop (mkF m 48 #[.val (.int p1), .val (.int (7 : Int32)), .val (.ref (ad 4)), .val (.ref rb), .val (.ref a_EMPTY)] [(.int (1 : Int32))])) t → Steps p.tables e below (s₁.setTop (entryFrame m #[(.int p1)] maxLocals)) t := fun t k => ch10 t (by
      show Steps p.tables e below (T9.setTop (mkF m 28 #[.val (.int p1), .val (.int (7 : Int32)), .val (.ref (ad 4)), .val (.ref rb), .val (.ref a_EMPTY)] [(.ref (ad 4))])) t
      refine XS.aloadN X9.here hx rfl (hb hby at_28) rfl rfl ?_
      show Steps p.tables e below (T9.setTop (mkF m 29 #[.val (.int p1), .val (.int (7 : Int32)), .val (.ref (ad 4)), .val (.ref rb), .val (.ref a_EMPTY)] [(.ref (ad 4)), (.ref (ad 4))])) t
      refine Jvm.RoadKit.acmp (g := (mkF m 29 #[.val (.int p1), .val (.int (7 : Int32)), .val (.ref (ad 4)), .val (.ref rb), .val (.ref a_EMPTY)] [(.ref (ad 4)), (.ref (ad 4))])) X9 hx rfl rfl rfl (pc0 := 29) (pc' := 32) (same := true) rfl (hb hby at_29) rfl (decide_eq_true rfl) (by decide) (by decide) ?_
      show Steps p.tables e below (T9.setTop (mkF m 32 #[.val (.int p1), .val (.int (7 : Int32)), .val (.ref (ad 4)), .val (.ref rb), .val (.ref a_EMPTY)] [])) t
      refine XS.aload X9.here hx rfl (hb hby at_32) rfl rfl ?_
      show Steps p.tables e below (T9.setTop (mkF m 34 #[.val (.int p1), .val (.int (7 : Int32)), .val (.ref (ad 4)), .val (.ref rb), .val (.ref a_EMPTY)] [(.ref a_EMPTY)])) t
      refine XS.ifnullNo X9.here hx rfl (hb hby at_34) rfl ?_
      show Steps p.tables e below (T9.setTop (mkF m 37 #[.val (.int p1), .val (.int (7 : Int32)), .val (.ref (ad 4)), .val (.ref rb), .val (.ref a_EMPTY)] [])) t
      refine XS.aload X9.here hx rfl (hb hby at_37) rfl rfl ?_
      show Steps p.tables e below (T9.setTop (mkF m 39 #[.val (.int p1), .val (.int (7 : Int32)), .val (.ref (ad 4)), .val (.ref rb), .val (.ref a_EMPTY)] [(.ref a_EMPTY)])) t
      refine X9.arraylength hx (by rw [e9]; exact Ar12.1) (State.isArrayOf_alike hZ.alike Ar12.2.1) (g := (mkF m 39 #[.val (.int p1), .val (.int (7 : Int32)), .val (.ref (ad 4)), .val (.ref rb), .val (.ref a_EMPTY)] [(.ref a_EMPTY)])) rfl rfl (hb hby at_39) _ ?_
      rw [len_of Sz12 Ng12]
      show Steps p.tables e below (T9.setTop (mkF m 40 #[.val (.int p1), .val (.int (7 : Int32)), .val (.ref (ad 4)), .val (.ref rb), .val (.ref a_EMPTY)] [(.int (0 : Int32))])) t
      refine XS.ifNo X9.here hx rfl (hb hby at_40) rfl ((if0 _ _).trans (teq (by decide : (0 : Int32) = (0 : Int32))).2) ?_
      show Steps p.tables e below (T9.setTop (mkF m 43 #[.val (.int p1), .val (.int (7 : Int32)), .val (.ref (ad 4)), .val (.ref rb), .val (.ref a_EMPTY)] [])) t
      refine XS.iconst X9.here hx rfl (hb hby at_43) ?_
      show Steps p.tables e below (T9.setTop (mkF m 44 #[.val (.int p1), .val (.int (7 : Int32)), .val (.ref (ad 4)), .val (.ref rb), .val (.ref a_EMPTY)] [(.int (1 : Int32))])) t
      refine XS.goto X9.here hx rfl (pc0 := 44) (pc' := 48) rfl (hb hby at_44) (by decide) (by decide) ?_
      exact k)
  obtain ⟨fs, hr, hrun, hended, hW, hsame⟩ := X9.leave (v := some (.int (1 : Int32))) (fun h => by rw [Bd.returns] at h; cases h)
  refine ⟨_, _, ch13 _ ?_, hrun, hended, _, _, rfl, ?_, ⟨_, rfl⟩, hW, hsame.mono (by decide) (by decide)⟩
  · show Steps p.tables e below (T9.setTop (mkF m 48 #[.val (.int p1), .val (.int (7 : Int32)), .val (.ref (ad 4)), .val (.ref rb), .val (.ref a_EMPTY)] [(.int (1 : Int32))])) _
    exact retN X9 hx (t := .boolean) Bd.returns (by simp) (hb hby at_48) hr
  · show QN (some (.int (1 : Int32))) n0 _ T9.heap _
    rw [e9]
    exact ⟨rfl, N9⟩
theorem own_ef_own_pick_8 (m : MethodId) {x0 : Int32} : entryFrame m #[(.int x0)] 1 = mkF m 0 #[.val (.int x0)] [] := by first | (simp [entryFrame, mkF, argsToLocals, Value.category, maxLocals]; done) | rfl
set_option maxRecDepth 65536 in
set_option maxHeartbeats 40000000 in
theorem own_pick_8 (l : Launch) (Z : State) (a0 : Array Value) (hw : ∀ d ∈ tables_1, d.before a0 Z = true) (ws : List Jvm.Cond) (h0 : Heap) (n0 : Nat) (Z0 : n0 ≤ h0.size) (ad : Nat → Addr) (a_EMPTY : Addr) (k_EMPTY : ClassId) (W : OwnWd Z h0 ad a_EMPTY k_EMPTY) :
    MetFree l (⟨"com/example/limpet/limpet/io/ResponseOfPinLaw", "pick", "(I)Lcom/example/limpet/limpet/io/Status;"⟩ : MethodName) (head1 (Jvm.Cond.code (⟨"com/example/limpet/limpet/io/ResponseOfPinLaw", "pick", "(I)Lcom/example/limpet/limpet/io/Status;"⟩ : MethodName) method_2_code 1 (some (.object "com/example/limpet/limpet/io/Status")) :: ws) ({ frames := 0, cells := 0, slots := 0, locals := 0 } : Room)) (fun a U => a = #[(.int (8 : Int32))] ∧ Z.Warmed39 U.vm ∧ U.heap = h0) (fun _ _ _ _ _ => True) (fun _ U o U' => ∃ v L, o = .returned v ∧ QV (some (.ref (ad 6))) h0 n0 v U'.heap L ∧ FrameEnd U o U' L ({ frames := 0, cells := 0, slots := 0, locals := 0 } : Room).cells ({ frames := 0, cells := 0, slots := 0, locals := 0 } : Room).slots) := by
  refine MetFree.of_bodySF (plainFor_of_name own_pn_com_example_limpet_limpet_io_ResponseOfPinLaw) hisR ?_
  intro p e s m args below meth c s₁ Bd hml0 hP hK
  obtain ⟨rfl, hZ, hh⟩ := hP
  have hx := Bd.exec
  have hby := Bd.bytes
  have hml : c.maxLocals = 1 := hml0
  have hown : s.vm.findClass "com/example/limpet/limpet/io/ResponseOfPinLaw" = some m.cls := findClass_of_methodNamed Bd.named
  have hnm := (name_of_methodNamed Bd.named Bd.method).1
  have X0 : Stand p l e ({ frames := 0, cells := 0, slots := 0, locals := 0 } : Room) s m #[(.int (8 : Int32))] below meth c s₁ [] 0 0 := Stand.of_body Bd
  have e0 : s₁.heap = h0 := by rw [← hh, Bd.state]; rfl
  have N0 := Fr.nil n0
  have pre0 : ∀ t, Steps p.tables e below (s₁.setTop (mkF m 0 #[.val (.int (8 : Int32))] [])) t → Steps p.tables e below (s₁.setTop (entryFrame m #[(.int (8 : Int32))] 1)) t := fun t k => castTop (own_ef_own_pick_8 m) k
  obtain ⟨T1, X1, e1, st1⟩ := getS2 X0 hx hZ hown (host := "") (Or.inl (hw _ (List.mem_of_getElem? (i := 51) rfl))) Via.refl e0 (own_S_TOO_MANY_GRANTS W) (g := (mkF m 73 #[.val (.int (8 : Int32))] [])) rfl (hb hby own_d_method_2_code_73)
  have ch2 : ∀ t, Steps p.tables e below (T1.setTop (mkF m 76 #[.val (.int (8 : Int32))] [(.ref (ad 6))])) t → Steps p.tables e below (s₁.setTop (entryFrame m #[(.int (8 : Int32))] 1)) t := fun t k => pre0 t (by
      show Steps p.tables e below (s₁.setTop (mkF m 0 #[.val (.int (8 : Int32))] [])) t
      refine XS.iloadN X0.here hx rfl (hb hby own_d_method_2_code_0) rfl ?_
      show Steps p.tables e below (s₁.setTop (mkF m 1 #[.val (.int (8 : Int32))] [(.int (8 : Int32))])) t
      refine XS.ifYes X0.here hx rfl (pc0 := 1) (pc' := 8) rfl (hb hby own_d_method_2_code_1) rfl ((if0 _ _).trans (feq (by decide : ¬ (8 : Int32) = (0 : Int32))).2) (by decide) (by decide) ?_
      show Steps p.tables e below (s₁.setTop (mkF m 8 #[.val (.int (8 : Int32))] [])) t
      refine XS.iloadN X0.here hx rfl (hb hby own_d_method_2_code_8) rfl ?_
      show Steps p.tables e below (s₁.setTop (mkF m 9 #[.val (.int (8 : Int32))] [(.int (8 : Int32))])) t
      refine XS.iconst X0.here hx rfl (hb hby own_d_method_2_code_9) ?_
      show Steps p.tables e below (s₁.setTop (mkF m 10 #[.val (.int (8 : Int32))] [(.int (1 : Int32)), (.int (8 : Int32))])) t
      refine XS.icmpYes X0.here hx rfl (pc0 := 10) (pc' := 17) rfl (hb hby own_d_method_2_code_10) rfl (feq (by decide : ¬ (8 : Int32) = (1 : Int32))).2 (by decide) (by decide) ?_
      show Steps p.tables e below (s₁.setTop (mkF m 17 #[.val (.int (8 : Int32))] [])) t
      refine XS.iloadN X0.here hx rfl (hb hby own_d_method_2_code_17) rfl ?_
      show Steps p.tables e below (s₁.setTop (mkF m 18 #[.val (.int (8 : Int32))] [(.int (8 : Int32))])) t
      refine XS.iconst X0.here hx rfl (hb hby own_d_method_2_code_18) ?_
      show Steps p.tables e below (s₁.setTop (mkF m 19 #[.val (.int (8 : Int32))] [(.int (2 : Int32)), (.int (8 : Int32))])) t
      refine XS.icmpYes X0.here hx rfl (pc0 := 19) (pc' := 26) rfl (hb hby own_d_method_2_code_19) rfl (feq (by decide : ¬ (8 : Int32) = (2 : Int32))).2 (by decide) (by decide) ?_
      show Steps p.tables e below (s₁.setTop (mkF m 26 #[.val (.int (8 : Int32))] [])) t
      refine XS.iloadN X0.here hx rfl (hb hby own_d_method_2_code_26) rfl ?_
      show Steps p.tables e below (s₁.setTop (mkF m 27 #[.val (.int (8 : Int32))] [(.int (8 : Int32))])) t
      refine XS.iconst X0.here hx rfl (hb hby own_d_method_2_code_27) ?_
      show Steps p.tables e below (s₁.setTop (mkF m 28 #[.val (.int (8 : Int32))] [(.int (3 : Int32)), (.int (8 : Int32))])) t
      refine XS.icmpYes X0.here hx rfl (pc0 := 28) (pc' := 35) rfl (hb hby own_d_method_2_code_28) rfl (feq (by decide : ¬ (8 : Int32) = (3 : Int32))).2 (by decide) (by decide) ?_
      show Steps p.tables e below (s₁.setTop (mkF m 35 #[.val (.int (8 : Int32))] [])) t
      refine XS.iloadN X0.here hx rfl (hb hby own_d_method_2_code_35) rfl ?_
      show Steps p.tables e below (s₁.setTop (mkF m 36 #[.val (.int (8 : Int32))] [(.int (8 : Int32))])) t
      refine XS.iconst X0.here hx rfl (hb hby own_d_method_2_code_36) ?_
      show Steps p.tables e below (s₁.setTop (mkF m 37 #[.val (.int (8 : Int32))] [(.int (4 : Int32)), (.int (8 : Int32))])) t
      refine XS.icmpYes X0.here hx rfl (pc0 := 37) (pc' := 44) rfl (hb hby own_d_method_2_code_37) rfl (feq (by decide : ¬ (8 : Int32) = (4 : Int32))).2 (by decide) (by decide) ?_
      show Steps p.tables e below (s₁.setTop (mkF m 44 #[.val (.int (8 : Int32))] [])) t
      refine XS.iloadN X0.here hx rfl (hb hby own_d_method_2_code_44) rfl ?_
      show Steps p.tables e below (s₁.setTop (mkF m 45 #[.val (.int (8 : Int32))] [(.int (8 : Int32))])) t
      refine XS.iconst X0.here hx rfl (hb hby own_d_method_2_code_45) ?_
      show Steps p.tables e below (s₁.setTop (mkF m 46 #[.val (.int (8 : Int32))] [(.int (5 : Int32)), (.int (8 : Int32))])) t
      refine XS.icmpYes X0.here hx rfl (pc0 := 46) (pc' := 53) rfl (hb hby own_d_method_2_code_46) rfl (feq (by decide : ¬ (8 : Int32) = (5 : Int32))).2 (by decide) (by decide) ?_
      show Steps p.tables e below (s₁.setTop (mkF m 53 #[.val (.int (8 : Int32))] [])) t
      refine XS.iloadN X0.here hx rfl (hb hby own_d_method_2_code_53) rfl ?_
      show Steps p.tables e below (s₁.setTop (mkF m 54 #[.val (.int (8 : Int32))] [(.int (8 : Int32))])) t
      refine XS.bipush X0.here hx rfl (hb hby own_d_method_2_code_54) ?_
      show Steps p.tables e below (s₁.setTop (mkF m 56 #[.val (.int (8 : Int32))] [(.int (6 : Int32)), (.int (8 : Int32))])) t
      refine XS.icmpYes X0.here hx rfl (pc0 := 56) (pc' := 63) rfl (hb hby own_d_method_2_code_56) rfl (feq (by decide : ¬ (8 : Int32) = (6 : Int32))).2 (by decide) (by decide) ?_
      show Steps p.tables e below (s₁.setTop (mkF m 63 #[.val (.int (8 : Int32))] [])) t
      refine XS.iloadN X0.here hx rfl (hb hby own_d_method_2_code_63) rfl ?_
      show Steps p.tables e below (s₁.setTop (mkF m 64 #[.val (.int (8 : Int32))] [(.int (8 : Int32))])) t
      refine XS.bipush X0.here hx rfl (hb hby own_d_method_2_code_64) ?_
      show Steps p.tables e below (s₁.setTop (mkF m 66 #[.val (.int (8 : Int32))] [(.int (7 : Int32)), (.int (8 : Int32))])) t
      refine XS.icmpYes X0.here hx rfl (pc0 := 66) (pc' := 73) rfl (hb hby own_d_method_2_code_66) rfl (feq (by decide : ¬ (8 : Int32) = (7 : Int32))).2 (by decide) (by decide) ?_
      show Steps p.tables e below (s₁.setTop (mkF m 73 #[.val (.int (8 : Int32))] [])) t
      exact st1 t k)
  obtain ⟨fs, hr, hrun, hended, hW, hsame⟩ := X1.leave (v := some (.ref (ad 6))) (fun h => by rw [Bd.returns] at h; cases h)
  refine ⟨_, _, ch2 _ ?_, hrun, hended, _, _, rfl, ?_, ⟨_, rfl⟩, hW, hsame.mono (by decide) (by decide)⟩
  · show Steps p.tables e below (T1.setTop (mkF m 76 #[.val (.int (8 : Int32))] [(.ref (ad 6))])) _
    jvm_step X1.here [X1.here.top, hx, (hb hby own_d_method_2_code_76), X1.method', Bd.returns, Value.isRef, FieldType.isReference]
    first | (intro acts; rw [hr _ acts rfl rfl rfl]) | rw [hr _ _ rfl rfl rfl]
    exact Steps.refl _
  · show QV (some (.ref (ad 6))) h0 n0 _ T1.heap _
    rw [e1]
    exact ⟨rfl, N0, rfl⟩
theorem own_ef_own_law_8 (m : MethodId) {x0 : Int32} : entryFrame m #[(.int x0)] maxLocals = mkF m 0 #[.val (.int x0), .unset, .unset, .unset, .unset] [] := by first | (simp [entryFrame, mkF, argsToLocals, Value.category, maxLocals]; done) | rfl
set_option maxRecDepth 65536 in
set_option maxHeartbeats 40000000 in
theorem own_law_8 (l : Launch) (Z : State) (a0 : Array Value) (hw : ∀ d ∈ tables_1, d.before a0 Z = true) (ws : List Jvm.Cond) (h0 : Heap) (n0 : Nat) (Z0 : n0 ≤ h0.size) (p1 : Int32) (hk : (p1 &&& (2147483647 : Int32)) % (9 : Int32) = (8 : Int32)) (ad : Nat → Addr) (a_EMPTY : Addr) (k_EMPTY : ClassId) (W : OwnWd Z h0 ad a_EMPTY k_EMPTY) :
    MetFree l x (head1 (Jvm.Cond.code x code maxLocals ret :: ws) room_1) (fun a U => a = #[(.int p1)] ∧ Z.Warmed39 U.vm ∧ U.heap = h0) (fun _ _ _ _ _ => True) (fun _ U o U' => ∃ v L, o = .returned v ∧ QN (some (.int (1 : Int32))) n0 v U'.heap L ∧ FrameEnd U o U' L room_1.cells room_1.slots) := by
  refine MetFree.of_bodySF (plainFor_of_name own_pn_com_example_limpet_limpet_io_ResponseOfPinLaw) hisR ?_
  intro p e s m args below meth c s₁ Bd hml0 hP hK
  obtain ⟨rfl, hZ, hh⟩ := hP
  have hx := Bd.exec
  have hby := Bd.bytes
  have hml : c.maxLocals = 5 := hml0
  have hown : s.vm.findClass "com/example/limpet/limpet/io/ResponseOfPinLaw" = some m.cls := findClass_of_methodNamed Bd.named
  have hnm := (name_of_methodNamed Bd.named Bd.method).1
  have X0 : Stand p l e room_1 s m #[(.int p1)] below meth c s₁ [] 0 0 := Stand.of_body Bd
  have e0 : s₁.heap = h0 := by rw [← hh, Bd.state]; rfl
  have N0 := Fr.nil n0
  have pre0 : ∀ t, Steps p.tables e below (s₁.setTop (mkF m 0 #[.val (.int p1), .unset, .unset, .unset, .unset] [])) t → Steps p.tables e below (s₁.setTop (entryFrame m #[(.int p1)] maxLocals)) t := fun t k => castTop (own_ef_own_law_8 m) k
  obtain ⟨vv1, _, ⟨T1, L1, kk1, nn1⟩, -, X1, ⟨Lc1, hQ1, l1, y1, z1⟩, st1⟩ := Jvm.LawKit.callS X0 hx (y := (⟨"com/example/limpet/limpet/io/ResponseOfPinLaw", "pick", "(I)Lcom/example/limpet/limpet/io/Status;"⟩ : MethodName)) hown (mvT hZ (hw _ (List.mem_of_getElem? (i := 1) rfl))) (mvT hZ (hw _ (List.mem_of_getElem? (i := 2) rfl))) (mvT hZ (hw _ (List.mem_of_getElem? (i := 3) rfl))) (mvT hZ (hw _ (List.mem_of_getElem? (i := 4) rfl))) (by decide) (backOf (W := 0) (own_pick_8 l Z a0 hw [] h0 n0 Z0 ad a_EMPTY k_EMPTY W) hZ (hw _ (List.mem_of_getElem? (i := 4) rfl)) (hw _ (List.mem_of_getElem? (i := 3) rfl)) (by decide) (by decide)) (g := (mkF m 9 #[.val (.int p1), .val (.int (8 : Int32)), .unset, .unset, .unset] [(.int (8 : Int32))])) rfl (by rw [hml]; rfl) (argsL := [(.int (8 : Int32))]) (rest := []) (lenOf own_pd__I_Lcom_example_limpet_limpet_io_Status_ rfl) rfl (by show 2 * 0 + _ ≤ _; exact Nat.le_of_eq rfl) (hb hby at_9) (fun _ _ => ⟨rfl, e0, (by decide : 0 + 0 ≤ _), (by decide : 0 + 0 ≤ _)⟩)
  dsimp only [Pt.U, Pt.locs, Pt.cells, Pt.slots] at X1 l1 y1 z1 st1 hQ1
  subst l1 y1 z1
  obtain ⟨rfl, Nq1, e1⟩ := hQ1
  have N1 := Fr.app N0 Nq1
  have ch2 : ∀ t, Steps p.tables e below (T1.setTop (mkF m 12 #[.val (.int p1), .val (.int (8 : Int32)), .unset, .unset, .unset] [(.ref (ad 6))])) t → Steps p.tables e below (s₁.setTop (entryFrame m #[(.int p1)] maxLocals)) t := fun t k => pre0 t (by
      show Steps p.tables e below (s₁.setTop (mkF m 0 #[.val (.int p1), .unset, .unset, .unset, .unset] [])) t
      refine XS.iloadN X0.here hx rfl (hb hby at_0) rfl ?_
      show Steps p.tables e below (s₁.setTop (mkF m 1 #[.val (.int p1), .unset, .unset, .unset, .unset] [(.int p1)])) t
      refine X0.ldcInt hx hown (mvT hZ (hw _ (List.mem_of_getElem? (i := 0) rfl))) (g := (mkF m 1 #[.val (.int p1), .unset, .unset, .unset, .unset] [(.int p1)])) rfl (hb hby at_1) _ ?_
      show Steps p.tables e below (s₁.setTop (mkF m 3 #[.val (.int p1), .unset, .unset, .unset, .unset] [(.int (2147483647 : Int32)), (.int p1)])) t
      refine XS.iand X0.here hx rfl (hb hby at_3) rfl ?_
      show Steps p.tables e below (s₁.setTop (mkF m 4 #[.val (.int p1), .unset, .unset, .unset, .unset] [(.int (p1 &&& (2147483647 : Int32)))])) t
      refine XS.bipush X0.here hx rfl (hb hby at_4) ?_
      show Steps p.tables e below (s₁.setTop (mkF m 6 #[.val (.int p1), .unset, .unset, .unset, .unset] [(.int (9 : Int32)), (.int (p1 &&& (2147483647 : Int32)))])) t
      refine Jvm.RoadKit.iremM (g := (mkF m 6 #[.val (.int p1), .unset, .unset, .unset, .unset] [(.int (9 : Int32)), (.int (p1 &&& (2147483647 : Int32)))])) X0 hx rfl (hb hby at_6) rfl (by decide) ?_
      rw [hk]
      show Steps p.tables e below (s₁.setTop (mkF m 7 #[.val (.int p1), .unset, .unset, .unset, .unset] [(.int (8 : Int32))])) t
      refine XS.istoreN X0.here hx rfl (hb hby at_7) rfl (l' := #[.val (.int p1), .val (.int (8 : Int32)), .unset, .unset, .unset]) rfl ?_
      show Steps p.tables e below (s₁.setTop (mkF m 8 #[.val (.int p1), .val (.int (8 : Int32)), .unset, .unset, .unset] [])) t
      refine XS.iloadN X0.here hx rfl (hb hby at_8) rfl ?_
      show Steps p.tables e below (s₁.setTop (mkF m 9 #[.val (.int p1), .val (.int (8 : Int32)), .unset, .unset, .unset] [(.int (8 : Int32))])) t
      exact st1 t k)
  obtain ⟨vv3, _, ⟨T3, L3, kk3, nn3⟩, -, X3, ⟨Lc3, hQ3, l3, y3, z3⟩, st3⟩ := Jvm.LawKit.callS X1 hx (y := (⟨"com/example/limpet/limpet/io/Response", "of", "(Lcom/example/limpet/limpet/io/Status;)Lcom/example/limpet/limpet/io/Response;"⟩ : MethodName)) hown (mvT hZ (hw _ (List.mem_of_getElem? (i := 8) rfl))) (mvT hZ (hw _ (List.mem_of_getElem? (i := 9) rfl))) (mvT hZ (hw _ (List.mem_of_getElem? (i := 10) rfl))) (mvT hZ (hw _ (List.mem_of_getElem? (i := 11) rfl))) (by decide) (backOf (W := 0) (own_of l Z a0 hw [] h0 n0 (Nat.le_trans Z0 (Keep.refl h0 []).1) (ad 6) ad a_EMPTY k_EMPTY W) hZ (hw _ (List.mem_of_getElem? (i := 11) rfl)) (hw _ (List.mem_of_getElem? (i := 10) rfl)) (by decide) (by decide)) (g := (mkF m 14 #[.val (.int p1), .val (.int (8 : Int32)), .val (.ref (ad 6)), .unset, .unset] [(.ref (ad 6))])) rfl (by rw [hml]; rfl) (argsL := [(.ref (ad 6))]) (rest := []) (lenOf own_pd__Lcom_example_limpet_limpet_io_Status__Lcom_example_limpet_limpet_io_Response_ rfl) rfl (by show 2 * 0 + _ ≤ _; exact Nat.le_of_eq rfl) (hb hby at_14) (fun _ _ => ⟨rfl, e1, (by decide : 0 + 1 ≤ _), (by decide : 0 + 2 ≤ _)⟩)
  dsimp only [Pt.U, Pt.locs, Pt.cells, Pt.slots] at X3 l3 y3 z3 st3 hQ3
  subst l3 y3 z3
  obtain ⟨hh3, eh3⟩ : ∃ h, T3.heap = h := ⟨_, rfl⟩
  rw [eh3] at hQ3
  obtain ⟨rb, rfl, zq3, Nq3, Kq3, fq3_0, fq3_1, fq3_2⟩ := hQ3
  have N3 := Fr.app N1 Nq3
  have ne_ad0_rb : (ad 0) ≠ rb := Nat.ne_of_lt (Nat.lt_of_lt_of_le (own_E_OK W).lt zq3)
  have ne_ad1_rb : (ad 1) ≠ rb := Nat.ne_of_lt (Nat.lt_of_lt_of_le (own_E_FAILED W).lt zq3)
  have ne_ad2_rb : (ad 2) ≠ rb := Nat.ne_of_lt (Nat.lt_of_lt_of_le (own_E_NOT_FOUND W).lt zq3)
  have ne_ad3_rb : (ad 3) ≠ rb := Nat.ne_of_lt (Nat.lt_of_lt_of_le (own_E_BAD_REQUEST W).lt zq3)
  have ne_ad4_rb : (ad 4) ≠ rb := Nat.ne_of_lt (Nat.lt_of_lt_of_le (own_E_TOO_MANY_KEYS W).lt zq3)
  have ne_ad5_rb : (ad 5) ≠ rb := Nat.ne_of_lt (Nat.lt_of_lt_of_le (own_E_UNSUPPORTED_KEY W).lt zq3)
  have ne_ad6_rb : (ad 6) ≠ rb := Nat.ne_of_lt (Nat.lt_of_lt_of_le (own_E_TOO_MANY_GRANTS W).lt zq3)
  have ne_ad7_rb : (ad 7) ≠ rb := Nat.ne_of_lt (Nat.lt_of_lt_of_le (own_E_GRANT_NOT_FOUND W).lt zq3)
  have ne_ad8_rb : (ad 8) ≠ rb := Nat.ne_of_lt (Nat.lt_of_lt_of_le (own_E_PERMISSION_DENIED W).lt zq3)
  have ne_a_EMPTY_rb : a_EMPTY ≠ rb := Nat.ne_of_lt (Nat.lt_of_lt_of_le (own_V_EMPTY W).lt zq3)
  have g_rb : n0 ≤ rb := Nat.le_trans (Nat.le_trans Z0 (Keep.refl h0 []).1) zq3
  have sz_rb : h0.size ≤ rb := Nat.le_trans (Keep.refl h0 []).1 zq3
  have Kp3 := Keep.trans (Keep.refl h0 []) Kq3 all0
  have ch4 : ∀ t, Steps p.tables e below (T3.setTop (mkF m 17 #[.val (.int p1), .val (.int (8 : Int32)), .val (.ref (ad 6)), .unset, .unset] [(.ref rb)])) t → Steps p.tables e below (s₁.setTop (entryFrame m #[(.int p1)] maxLocals)) t := fun t k => ch2 t (by
      show Steps p.tables e below (T1.setTop (mkF m 12 #[.val (.int p1), .val (.int (8 : Int32)), .unset, .unset, .unset] [(.ref (ad 6))])) t
      refine XS.astoreN X1.here hx rfl (hb hby at_12) rfl rfl (l' := #[.val (.int p1), .val (.int (8 : Int32)), .val (.ref (ad 6)), .unset, .unset]) rfl ?_
      show Steps p.tables e below (T1.setTop (mkF m 13 #[.val (.int p1), .val (.int (8 : Int32)), .val (.ref (ad 6)), .unset, .unset] [])) t
      refine XS.aloadN X1.here hx rfl (hb hby at_13) rfl rfl ?_
      show Steps p.tables e below (T1.setTop (mkF m 14 #[.val (.int p1), .val (.int (8 : Int32)), .val (.ref (ad 6)), .unset, .unset] [(.ref (ad 6))])) t
      exact st3 t k)
  obtain ⟨cq5, kq5, qa5, qb5, qc5⟩ := isOf hZ eh3 fq3_0
  obtain ⟨vv6, _, ⟨T6, L6, kk6, nn6⟩, -, X6, ⟨Lc6, hQ6, l6, y6, z6⟩, st6⟩ := X3.virtualBack hx (y := (⟨"com/example/limpet/limpet/io/Response", "payload", "()[B"⟩ : MethodName)) (z := (⟨"com/example/limpet/limpet/io/Response", "payload", "()[B"⟩ : MethodName)) hown (mvT hZ (hw _ (List.mem_of_getElem? (i := 31) rfl))) (mvT hZ (hw _ (List.mem_of_getElem? (i := 32) rfl))) (notFace_of_selects (args := #[]) (mvT hZ (hw _ (List.mem_of_getElem? (i := 34) rfl)))) (mvT hZ (hw _ (List.mem_of_getElem? (i := 34) rfl))) (mvT hZ (hw _ (List.mem_of_getElem? (i := 33) rfl))) (by decide) (backOf (W := 0) (own_pay l Z a0 hw [] hh3 n0 (Nat.le_trans Z0 Kp3.1) rb a_EMPTY fq3_2) hZ (hw _ (List.mem_of_getElem? (i := 35) rfl)) (hw _ (List.mem_of_getElem? (i := 10) rfl)) (by decide) (by decide)) qa5 qc5 (g := (mkF m 19 #[.val (.int p1), .val (.int (8 : Int32)), .val (.ref (ad 6)), .val (.ref rb), .unset] [(.ref rb)])) rfl (by rw [hml]; rfl) (Steps.refl _) (argsL := []) (rest := []) (lenOf own_pd____B rfl) rfl (by show 2 * 0 + _ ≤ _; exact Nat.le_of_eq rfl) (hb hby at_19) (fun _ _ => ⟨rfl, eh3, (by decide : 1 + 0 ≤ _), (by decide : 2 + 0 ≤ _)⟩)
  dsimp only [Pt.U, Pt.locs, Pt.cells, Pt.slots] at X6 l6 y6 z6 st6 hQ6
  subst l6 y6 z6
  obtain ⟨rfl, Nq6, e6⟩ := hQ6
  have N6 := Fr.app N3 Nq6
  have ch7 : ∀ t, Steps p.tables e below (T6.setTop (mkF m 22 #[.val (.int p1), .val (.int (8 : Int32)), .val (.ref (ad 6)), .val (.ref rb), .unset] [(.ref a_EMPTY)])) t → Steps p.tables e below (s₁.setTop (entryFrame m #[(.int p1)] maxLocals)) t := fun t k => ch4 t (by
      show Steps p.tables e below (T3.setTop (mkF m 17 #[.val (.int p1), .val (.int (8 : Int32)), .val (.ref (ad 6)), .unset, .unset] [(.ref rb)])) t
      refine XS.astoreN X3.here hx rfl (hb hby at_17) rfl rfl (l' := #[.val (.int p1), .val (.int (8 : Int32)), .val (.ref (ad 6)), .val (.ref rb), .unset]) rfl ?_
      show Steps p.tables e below (T3.setTop (mkF m 18 #[.val (.int p1), .val (.int (8 : Int32)), .val (.ref (ad 6)), .val (.ref rb), .unset] [])) t
      refine XS.aloadN X3.here hx rfl (hb hby at_18) rfl rfl ?_
      show Steps p.tables e below (T3.setTop (mkF m 19 #[.val (.int p1), .val (.int (8 : Int32)), .val (.ref (ad 6)), .val (.ref rb), .unset] [(.ref rb)])) t
      exact st6.trans k)
  obtain ⟨cq8, kq8, qa8, qb8, qc8⟩ := isOf hZ e6 fq3_0
  obtain ⟨vv9, _, ⟨T9, L9, kk9, nn9⟩, -, X9, ⟨Lc9, hQ9, l9, y9, z9⟩, st9⟩ := X6.virtualBack hx (y := (⟨"com/example/limpet/limpet/io/Response", "status", "()Lcom/example/limpet/limpet/io/Status;"⟩ : MethodName)) (z := (⟨"com/example/limpet/limpet/io/Response", "status", "()Lcom/example/limpet/limpet/io/Status;"⟩ : MethodName)) hown (mvT hZ (hw _ (List.mem_of_getElem? (i := 36) rfl))) (mvT hZ (hw _ (List.mem_of_getElem? (i := 37) rfl))) (notFace_of_selects (args := #[]) (mvT hZ (hw _ (List.mem_of_getElem? (i := 39) rfl)))) (mvT hZ (hw _ (List.mem_of_getElem? (i := 39) rfl))) (mvT hZ (hw _ (List.mem_of_getElem? (i := 38) rfl))) (by decide) (backOf (W := 0) (own_sta l Z a0 hw [] hh3 n0 (Nat.le_trans Z0 Kp3.1) rb (ad 6) fq3_1) hZ (hw _ (List.mem_of_getElem? (i := 40) rfl)) (hw _ (List.mem_of_getElem? (i := 10) rfl)) (by decide) (by decide)) qa8 qc8 (g := (mkF m 25 #[.val (.int p1), .val (.int (8 : Int32)), .val (.ref (ad 6)), .val (.ref rb), .val (.ref a_EMPTY)] [(.ref rb)])) rfl (by rw [hml]; rfl) (Steps.refl _) (argsL := []) (rest := []) (lenOf own_pd___Lcom_example_limpet_limpet_io_Status_ rfl) rfl (by show 2 * 0 + _ ≤ _; exact Nat.le_of_eq rfl) (hb hby at_25) (fun _ _ => ⟨rfl, e6, (by decide : 1 + 0 ≤ _), (by decide : 2 + 0 ≤ _)⟩)
  dsimp only [Pt.U, Pt.locs, Pt.cells, Pt.slots] at X9 l9 y9 z9 st9 hQ9
  subst l9 y9 z9
  obtain ⟨rfl, Nq9, e9⟩ := hQ9
  have N9 := Fr.app N6 Nq9
  have ch10 : ∀ t, Steps p.tables e below (T9.setTop (mkF m 28 #[.val (.int p1), .val (.int (8 : Int32)), .val (.ref (ad 6)), .val (.ref rb), .val (.ref a_EMPTY)] [(.ref (ad 6))])) t → Steps p.tables e below (s₁.setTop (entryFrame m #[(.int p1)] maxLocals)) t := fun t k => ch7 t (by
      show Steps p.tables e below (T6.setTop (mkF m 22 #[.val (.int p1), .val (.int (8 : Int32)), .val (.ref (ad 6)), .val (.ref rb), .unset] [(.ref a_EMPTY)])) t
      refine XS.astore X6.here hx rfl (hb hby at_22) rfl rfl (l' := #[.val (.int p1), .val (.int (8 : Int32)), .val (.ref (ad 6)), .val (.ref rb), .val (.ref a_EMPTY)]) rfl ?_
      show Steps p.tables e below (T6.setTop (mkF m 24 #[.val (.int p1), .val (.int (8 : Int32)), .val (.ref (ad 6)), .val (.ref rb), .val (.ref a_EMPTY)] [])) t
      refine XS.aloadN X6.here hx rfl (hb hby at_24) rfl rfl ?_
      show Steps p.tables e below (T6.setTop (mkF m 25 #[.val (.int p1), .val (.int (8 : Int32)), .val (.ref (ad 6)), .val (.ref rb), .val (.ref a_EMPTY)] [(.ref rb)])) t
      exact st9.trans k)
  have cf11 := ((own_V_EMPTY W).keep Kp3 nin0)
  obtain ⟨cl12, Ar12, -, Sz12, Ng12, -, -⟩ := cf11
  have ch13 : ∀ t, Steps p.tables e below (T9.setTop (mkF m 48 #[.val (.int p1), .val (.int (8 : Int32)), .val (.ref (ad 6)), .val (.ref rb), .val (.ref a_EMPTY)] [(.int (1 : Int32))])) t → Steps p.tables e below (s₁.setTop (entryFrame m #[(.int p1)] maxLocals)) t := fun t k => ch10 t (by
      show Steps p.tables e below (T9.setTop (mkF m 28 #[.val (.int p1), .val (.int (8 : Int32)), .val (.ref (ad 6)), .val (.ref rb), .val (.ref a_EMPTY)] [(.ref (ad 6))])) t
      refine XS.aloadN X9.here hx rfl (hb hby at_28) rfl rfl ?_
      show Steps p.tables e below (T9.setTop (mkF m 29 #[.val (.int p1), .val (.int (8 : Int32)), .val (.ref (ad 6)), .val (.ref rb), .val (.ref a_EMPTY)] [(.ref (ad 6)), (.ref (ad 6))])) t
      refine Jvm.RoadKit.acmp (g := (mkF m 29 #[.val (.int p1), .val (.int (8 : Int32)), .val (.ref (ad 6)), .val (.ref rb), .val (.ref a_EMPTY)] [(.ref (ad 6)), (.ref (ad 6))])) X9 hx rfl rfl rfl (pc0 := 29) (pc' := 32) (same := true) rfl (hb hby at_29) rfl (decide_eq_true rfl) (by decide) (by decide) ?_
      show Steps p.tables e below (T9.setTop (mkF m 32 #[.val (.int p1), .val (.int (8 : Int32)), .val (.ref (ad 6)), .val (.ref rb), .val (.ref a_EMPTY)] [])) t
      refine XS.aload X9.here hx rfl (hb hby at_32) rfl rfl ?_
      show Steps p.tables e below (T9.setTop (mkF m 34 #[.val (.int p1), .val (.int (8 : Int32)), .val (.ref (ad 6)), .val (.ref rb), .val (.ref a_EMPTY)] [(.ref a_EMPTY)])) t
      refine XS.ifnullNo X9.here hx rfl (hb hby at_34) rfl ?_
      show Steps p.tables e below (T9.setTop (mkF m 37 #[.val (.int p1), .val (.int (8 : Int32)), .val (.ref (ad 6)), .val (.ref rb), .val (.ref a_EMPTY)] [])) t
      refine XS.aload X9.here hx rfl (hb hby at_37) rfl rfl ?_
      show Steps p.tables e below (T9.setTop (mkF m 39 #[.val (.int p1), .val (.int (8 : Int32)), .val (.ref (ad 6)), .val (.ref rb), .val (.ref a_EMPTY)] [(.ref a_EMPTY)])) t
      refine X9.arraylength hx (by rw [e9]; exact Ar12.1) (State.isArrayOf_alike hZ.alike Ar12.2.1) (g := (mkF m 39 #[.val (.int p1), .val (.int (8 : Int32)), .val (.ref (ad 6)), .val (.ref rb), .val (.ref a_EMPTY)] [(.ref a_EMPTY)])) rfl rfl (hb hby at_39) _ ?_
      rw [len_of Sz12 Ng12]
      show Steps p.tables e below (T9.setTop (mkF m 40 #[.val (.int p1), .val (.int (8 : Int32)), .val (.ref (ad 6)), .val (.ref rb), .val (.ref a_EMPTY)] [(.int (0 : Int32))])) t
      refine XS.ifNo X9.here hx rfl (hb hby at_40) rfl ((if0 _ _).trans (teq (by decide : (0 : Int32) = (0 : Int32))).2) ?_
      show Steps p.tables e below (T9.setTop (mkF m 43 #[.val (.int p1), .val (.int (8 : Int32)), .val (.ref (ad 6)), .val (.ref rb), .val (.ref a_EMPTY)] [])) t
      refine XS.iconst X9.here hx rfl (hb hby at_43) ?_
      show Steps p.tables e below (T9.setTop (mkF m 44 #[.val (.int p1), .val (.int (8 : Int32)), .val (.ref (ad 6)), .val (.ref rb), .val (.ref a_EMPTY)] [(.int (1 : Int32))])) t
      refine XS.goto X9.here hx rfl (pc0 := 44) (pc' := 48) rfl (hb hby at_44) (by decide) (by decide) ?_
      exact k)
  obtain ⟨fs, hr, hrun, hended, hW, hsame⟩ := X9.leave (v := some (.int (1 : Int32))) (fun h => by rw [Bd.returns] at h; cases h)
  refine ⟨_, _, ch13 _ ?_, hrun, hended, _, _, rfl, ?_, ⟨_, rfl⟩, hW, hsame.mono (by decide) (by decide)⟩
  · show Steps p.tables e below (T9.setTop (mkF m 48 #[.val (.int p1), .val (.int (8 : Int32)), .val (.ref (ad 6)), .val (.ref rb), .val (.ref a_EMPTY)] [(.int (1 : Int32))])) _
    exact retN X9 hx (t := .boolean) Bd.returns (by simp) (hb hby at_48) hr
  · show QN (some (.int (1 : Int32))) n0 _ T9.heap _
    rw [e9]
    exact ⟨rfl, N9⟩
set_option maxRecDepth 65536 in
set_option maxHeartbeats 40000000 in
theorem comes_1 {Post : Tables → Env → Array Value → State → Outcome → State → Prop} (hpost : ∀ tb e args s v u, (limb_1_1.after args s (.returned v) u = true ∧ limb_1_2.after args s (.returned v) u = true ∧ True) → FrameEnd s (.returned v) u (Jvm.fieldLocs frame_1_writes args s ++ Jvm.arrayLocs frame_1_arrays args s ++ Jvm.staticLocs frame_1_statics s) 16 128 → Post tb e args s (.returned v) u) :
    ArmFor flags0 classFile x code maxLocals ret World_1 tables_1 room_1 Calls_1 rest_1 Pre_1 Post := by
  intro l hfl _ _ p e ha hc hk s m args below hf hA hF happ hP
  obtain ⟨hcalls, hrest, hpre⟩ := hP
  obtain ⟨-, -, -, hnamed, -, -, -, hat⟩ := (Spec.applies_iff hf).mp happ
  obtain ⟨hg, hn⟩ := and_e (Cond.before_iff.mp (show (Jvm.Cond.and given_1 narrow_1).before args s = true from hpre))
  obtain ⟨gc, hg⟩ := and_e hg
  obtain ⟨w0, rfl⟩ : ∃ w0 : Value, args = #[w0] := by
    have hs : args.size = 1 := by simpa [Cond.value, given_1] using gc
    obtain ⟨L⟩ := args
    match L, hs with
    | [w0], _ => exact ⟨w0, rfl⟩
  have hw := fun d (hd : d ∈ tables_1) => atoms_spec (ws := Jvm.Cond.code x code maxLocals ret :: tables_1) hat d (List.mem_cons_of_mem _ hd)
  have hfit : Fit s := fun {y c} hc i hi => by
    obtain ⟨ha, rfl⟩ := Array.getElem?_eq_some_iff.mp hc
    have q := List.all_eq_true.mp ((Array.all_eq_true_iff_forall_mem.mp hF) _ (Array.getElem_mem ha)) i (List.mem_range.mpr hi)
    simpa [Array.getElem?_eq_getElem hi] using q
  obtain ⟨i0, ei0⟩ := is_v hg
  obtain rfl : w0 = (.int i0) := Option.some.inj ei0
  obtain ⟨hn0, hn⟩ := and_e hn
  obtain ⟨hn1, hn⟩ := and_e hn
  obtain ⟨hn2, hn⟩ := and_e hn
  obtain ⟨hn3, hn⟩ := and_e hn
  obtain ⟨hn4, hn⟩ := and_e hn
  obtain ⟨hn5, hn⟩ := and_e hn
  obtain ⟨hn6, hn⟩ := and_e hn
  obtain ⟨hn7, hn⟩ := and_e hn
  obtain ⟨hn8, hn⟩ := and_e hn
  obtain ⟨hn9, hn⟩ := and_e hn
  have hn10 := hn
  obtain ⟨a_OK, ev_OK⟩ := exa_v hn0
  have S_OK : Sta s s.heap "com/example/limpet/limpet/io/Status" "OK" "Lcom/example/limpet/limpet/io/Status;" (.ref a_OK) := Sta.start ev_OK (Or.inr ⟨(hw _ (List.mem_of_getElem? (i := 6) rfl)), (hw _ (List.mem_of_getElem? (i := 7) rfl))⟩)
  have E_OK : Exa s s.heap a_OK "com/example/limpet/limpet/io/Status" := Exa.start ev_OK hn0
  obtain ⟨a_EMPTY, ev_EMPTY⟩ := arr_v hn1
  have S_EMPTY : Sta s s.heap "com/example/limpet/limpet/io/Response" "EMPTY" "[B" (.ref a_EMPTY) := Sta.start ev_EMPTY (Or.inr ⟨(hw _ (List.mem_of_getElem? (i := 10) rfl)), (hw _ (List.mem_of_getElem? (i := 15) rfl))⟩)
  obtain ⟨a_FAILED, ev_FAILED⟩ := exa_v hn3
  have S_FAILED : Sta s s.heap "com/example/limpet/limpet/io/Status" "FAILED" "Lcom/example/limpet/limpet/io/Status;" (.ref a_FAILED) := Sta.start ev_FAILED (Or.inr ⟨(hw _ (List.mem_of_getElem? (i := 6) rfl)), (hw _ (List.mem_of_getElem? (i := 42) rfl))⟩)
  have E_FAILED : Exa s s.heap a_FAILED "com/example/limpet/limpet/io/Status" := Exa.start ev_FAILED hn3
  obtain ⟨a_NOT_FOUND, ev_NOT_FOUND⟩ := exa_v hn4
  have S_NOT_FOUND : Sta s s.heap "com/example/limpet/limpet/io/Status" "NOT_FOUND" "Lcom/example/limpet/limpet/io/Status;" (.ref a_NOT_FOUND) := Sta.start ev_NOT_FOUND (Or.inr ⟨(hw _ (List.mem_of_getElem? (i := 6) rfl)), (hw _ (List.mem_of_getElem? (i := 44) rfl))⟩)
  have E_NOT_FOUND : Exa s s.heap a_NOT_FOUND "com/example/limpet/limpet/io/Status" := Exa.start ev_NOT_FOUND hn4
  obtain ⟨a_BAD_REQUEST, ev_BAD_REQUEST⟩ := exa_v hn5
  have S_BAD_REQUEST : Sta s s.heap "com/example/limpet/limpet/io/Status" "BAD_REQUEST" "Lcom/example/limpet/limpet/io/Status;" (.ref a_BAD_REQUEST) := Sta.start ev_BAD_REQUEST (Or.inr ⟨(hw _ (List.mem_of_getElem? (i := 6) rfl)), (hw _ (List.mem_of_getElem? (i := 46) rfl))⟩)
  have E_BAD_REQUEST : Exa s s.heap a_BAD_REQUEST "com/example/limpet/limpet/io/Status" := Exa.start ev_BAD_REQUEST hn5
  obtain ⟨a_TOO_MANY_KEYS, ev_TOO_MANY_KEYS⟩ := exa_v hn6
  have S_TOO_MANY_KEYS : Sta s s.heap "com/example/limpet/limpet/io/Status" "TOO_MANY_KEYS" "Lcom/example/limpet/limpet/io/Status;" (.ref a_TOO_MANY_KEYS) := Sta.start ev_TOO_MANY_KEYS (Or.inr ⟨(hw _ (List.mem_of_getElem? (i := 6) rfl)), (hw _ (List.mem_of_getElem? (i := 48) rfl))⟩)
  have E_TOO_MANY_KEYS : Exa s s.heap a_TOO_MANY_KEYS "com/example/limpet/limpet/io/Status" := Exa.start ev_TOO_MANY_KEYS hn6
  obtain ⟨a_UNSUPPORTED_KEY, ev_UNSUPPORTED_KEY⟩ := exa_v hn7
  have S_UNSUPPORTED_KEY : Sta s s.heap "com/example/limpet/limpet/io/Status" "UNSUPPORTED_KEY" "Lcom/example/limpet/limpet/io/Status;" (.ref a_UNSUPPORTED_KEY) := Sta.start ev_UNSUPPORTED_KEY (Or.inr ⟨(hw _ (List.mem_of_getElem? (i := 6) rfl)), (hw _ (List.mem_of_getElem? (i := 50) rfl))⟩)
  have E_UNSUPPORTED_KEY : Exa s s.heap a_UNSUPPORTED_KEY "com/example/limpet/limpet/io/Status" := Exa.start ev_UNSUPPORTED_KEY hn7
  obtain ⟨a_TOO_MANY_GRANTS, ev_TOO_MANY_GRANTS⟩ := exa_v hn8
  have S_TOO_MANY_GRANTS : Sta s s.heap "com/example/limpet/limpet/io/Status" "TOO_MANY_GRANTS" "Lcom/example/limpet/limpet/io/Status;" (.ref a_TOO_MANY_GRANTS) := Sta.start ev_TOO_MANY_GRANTS (Or.inr ⟨(hw _ (List.mem_of_getElem? (i := 6) rfl)), (hw _ (List.mem_of_getElem? (i := 52) rfl))⟩)
  have E_TOO_MANY_GRANTS : Exa s s.heap a_TOO_MANY_GRANTS "com/example/limpet/limpet/io/Status" := Exa.start ev_TOO_MANY_GRANTS hn8
  obtain ⟨a_GRANT_NOT_FOUND, ev_GRANT_NOT_FOUND⟩ := exa_v hn9
  have S_GRANT_NOT_FOUND : Sta s s.heap "com/example/limpet/limpet/io/Status" "GRANT_NOT_FOUND" "Lcom/example/limpet/limpet/io/Status;" (.ref a_GRANT_NOT_FOUND) := Sta.start ev_GRANT_NOT_FOUND (Or.inr ⟨(hw _ (List.mem_of_getElem? (i := 6) rfl)), (hw _ (List.mem_of_getElem? (i := 54) rfl))⟩)
  have E_GRANT_NOT_FOUND : Exa s s.heap a_GRANT_NOT_FOUND "com/example/limpet/limpet/io/Status" := Exa.start ev_GRANT_NOT_FOUND hn9
  obtain ⟨a_PERMISSION_DENIED, ev_PERMISSION_DENIED⟩ := exa_v hn10
  have S_PERMISSION_DENIED : Sta s s.heap "com/example/limpet/limpet/io/Status" "PERMISSION_DENIED" "Lcom/example/limpet/limpet/io/Status;" (.ref a_PERMISSION_DENIED) := Sta.start ev_PERMISSION_DENIED (Or.inr ⟨(hw _ (List.mem_of_getElem? (i := 6) rfl)), (hw _ (List.mem_of_getElem? (i := 56) rfl))⟩)
  have E_PERMISSION_DENIED : Exa s s.heap a_PERMISSION_DENIED "com/example/limpet/limpet/io/Status" := Exa.start ev_PERMISSION_DENIED hn10
  obtain ⟨cl_EMPTY, A_EMPTY⟩ := Arr.start ev_EMPTY hn1
  obtain ⟨ql_EMPTY, el_EMPTY⟩ := own_len ev_EMPTY A_EMPTY (own_eqI hn2)
  have V_EMPTY : Arv s s.heap a_EMPTY cl_EMPTY.cls .byte (0 : Int32) [] (.int (0 : Int32)) := Arv.start hfit A_EMPTY ql_EMPTY el_EMPTY (by decide) rfl trivial
  have W : OwnWd s s.heap (fun i => [a_OK, a_FAILED, a_NOT_FOUND, a_BAD_REQUEST, a_TOO_MANY_KEYS, a_UNSUPPORTED_KEY, a_TOO_MANY_GRANTS, a_GRANT_NOT_FOUND, a_PERMISSION_DENIED].getD i 0) a_EMPTY cl_EMPTY.cls := ⟨S_OK, E_OK, S_FAILED, E_FAILED, S_NOT_FOUND, E_NOT_FOUND, S_BAD_REQUEST, E_BAD_REQUEST, S_TOO_MANY_KEYS, E_TOO_MANY_KEYS, S_UNSUPPORTED_KEY, E_UNSUPPORTED_KEY, S_TOO_MANY_GRANTS, E_TOO_MANY_GRANTS, S_GRANT_NOT_FOUND, E_GRANT_NOT_FOUND, S_PERMISSION_DENIED, E_PERMISSION_DENIED, S_EMPTY, V_EMPTY⟩
  have hm_i0 := c_mask i0 (2147483647 : Int32) 31 (by decide) (by decide)
  have hr_i0 := (c_irem (i0 &&& (2147483647 : Int32)) (9 : Int32) 9 (by decide)).1 (by omega)
  have hc8 : ((i0 &&& (2147483647 : Int32)) % (9 : Int32)).toInt = 0 ∨ ((i0 &&& (2147483647 : Int32)) % (9 : Int32)).toInt = 1 ∨ ((i0 &&& (2147483647 : Int32)) % (9 : Int32)).toInt = 2 ∨ ((i0 &&& (2147483647 : Int32)) % (9 : Int32)).toInt = 3 ∨ ((i0 &&& (2147483647 : Int32)) % (9 : Int32)).toInt = 4 ∨ ((i0 &&& (2147483647 : Int32)) % (9 : Int32)).toInt = 5 ∨ ((i0 &&& (2147483647 : Int32)) % (9 : Int32)).toInt = 6 ∨ ((i0 &&& (2147483647 : Int32)) % (9 : Int32)).toInt = 7 ∨ ((i0 &&& (2147483647 : Int32)) % (9 : Int32)).toInt = 8 := by omega
  have H : MetFree l x (head1 (Jvm.Cond.code x code maxLocals ret :: tables_1) room_1) (fun a U => a = #[(.int i0)] ∧ s.Warmed39 U.vm ∧ U.heap = s.heap) (fun _ _ _ _ _ => True) (fun _ U o U' => ∃ v L, o = .returned v ∧ QN (some (.int (1 : Int32))) s.heap.size v U'.heap L ∧ FrameEnd U o U' L room_1.cells room_1.slots) := by
    rcases hc8 with hk | hk | hk | hk | hk | hk | hk | hk | hk
    · exact own_law_0 l s _ hw tables_1 s.heap s.heap.size (Nat.le_refl _)  i0 (Int32.toInt_inj.mp (hk.trans (by decide))) (fun i => [a_OK, a_FAILED, a_NOT_FOUND, a_BAD_REQUEST, a_TOO_MANY_KEYS, a_UNSUPPORTED_KEY, a_TOO_MANY_GRANTS, a_GRANT_NOT_FOUND, a_PERMISSION_DENIED].getD i 0) a_EMPTY cl_EMPTY.cls W
    · exact own_law_1 l s _ hw tables_1 s.heap s.heap.size (Nat.le_refl _)  i0 (Int32.toInt_inj.mp (hk.trans (by decide))) (fun i => [a_OK, a_FAILED, a_NOT_FOUND, a_BAD_REQUEST, a_TOO_MANY_KEYS, a_UNSUPPORTED_KEY, a_TOO_MANY_GRANTS, a_GRANT_NOT_FOUND, a_PERMISSION_DENIED].getD i 0) a_EMPTY cl_EMPTY.cls W
    · exact own_law_2 l s _ hw tables_1 s.heap s.heap.size (Nat.le_refl _)  i0 (Int32.toInt_inj.mp (hk.trans (by decide))) (fun i => [a_OK, a_FAILED, a_NOT_FOUND, a_BAD_REQUEST, a_TOO_MANY_KEYS, a_UNSUPPORTED_KEY, a_TOO_MANY_GRANTS, a_GRANT_NOT_FOUND, a_PERMISSION_DENIED].getD i 0) a_EMPTY cl_EMPTY.cls W
    · exact own_law_3 l s _ hw tables_1 s.heap s.heap.size (Nat.le_refl _)  i0 (Int32.toInt_inj.mp (hk.trans (by decide))) (fun i => [a_OK, a_FAILED, a_NOT_FOUND, a_BAD_REQUEST, a_TOO_MANY_KEYS, a_UNSUPPORTED_KEY, a_TOO_MANY_GRANTS, a_GRANT_NOT_FOUND, a_PERMISSION_DENIED].getD i 0) a_EMPTY cl_EMPTY.cls W
    · exact own_law_4 l s _ hw tables_1 s.heap s.heap.size (Nat.le_refl _)  i0 (Int32.toInt_inj.mp (hk.trans (by decide))) (fun i => [a_OK, a_FAILED, a_NOT_FOUND, a_BAD_REQUEST, a_TOO_MANY_KEYS, a_UNSUPPORTED_KEY, a_TOO_MANY_GRANTS, a_GRANT_NOT_FOUND, a_PERMISSION_DENIED].getD i 0) a_EMPTY cl_EMPTY.cls W
    · exact own_law_5 l s _ hw tables_1 s.heap s.heap.size (Nat.le_refl _)  i0 (Int32.toInt_inj.mp (hk.trans (by decide))) (fun i => [a_OK, a_FAILED, a_NOT_FOUND, a_BAD_REQUEST, a_TOO_MANY_KEYS, a_UNSUPPORTED_KEY, a_TOO_MANY_GRANTS, a_GRANT_NOT_FOUND, a_PERMISSION_DENIED].getD i 0) a_EMPTY cl_EMPTY.cls W
    · exact own_law_6 l s _ hw tables_1 s.heap s.heap.size (Nat.le_refl _)  i0 (Int32.toInt_inj.mp (hk.trans (by decide))) (fun i => [a_OK, a_FAILED, a_NOT_FOUND, a_BAD_REQUEST, a_TOO_MANY_KEYS, a_UNSUPPORTED_KEY, a_TOO_MANY_GRANTS, a_GRANT_NOT_FOUND, a_PERMISSION_DENIED].getD i 0) a_EMPTY cl_EMPTY.cls W
    · exact own_law_7 l s _ hw tables_1 s.heap s.heap.size (Nat.le_refl _)  i0 (Int32.toInt_inj.mp (hk.trans (by decide))) (fun i => [a_OK, a_FAILED, a_NOT_FOUND, a_BAD_REQUEST, a_TOO_MANY_KEYS, a_UNSUPPORTED_KEY, a_TOO_MANY_GRANTS, a_GRANT_NOT_FOUND, a_PERMISSION_DENIED].getD i 0) a_EMPTY cl_EMPTY.cls W
    · exact own_law_8 l s _ hw tables_1 s.heap s.heap.size (Nat.le_refl _)  i0 (Int32.toInt_inj.mp (hk.trans (by decide))) (fun i => [a_OK, a_FAILED, a_NOT_FOUND, a_BAD_REQUEST, a_TOO_MANY_KEYS, a_UNSUPPORTED_KEY, a_TOO_MANY_GRANTS, a_GRANT_NOT_FOUND, a_PERMISSION_DENIED].getD i 0) a_EMPTY cl_EMPTY.cls W
  obtain ⟨n, o, h1, h2, h3, _, L, rfl, ⟨rfl, N⟩, hq⟩ := H p e ha hc hk s m _ below hf ((Spec.applies_iff_loose hf).mp happ).1 ⟨rfl, State.Warmed39.refl s, rfl⟩ trivial
  refine ⟨n, _, h1, h2, h3, hpost _ _ _ _ _ _ ⟨Cond.after_iff.mpr rfl, Cond.after_iff.mpr (eq_i res_at (Term.int_eval (1)) rfl), trivial⟩ ⟨hq.1, hq.2.1, (hq.2.2.sift fun y hy => Or.inr (N y hy)).mono (by decide) (by decide)⟩⟩
theorem main_1_1 : Claimed_1_1 := comes_1 fun _ _ _ _ _ _ h hF => ⟨h.1, hF⟩
theorem main_1_2 : Claimed_1_2 := comes_1 fun _ _ _ _ _ _ h hF => ⟨h.2.1, hF⟩
end Jvm.Pilot.@@N@@
namespace Jvm.Pilot.@@N@@
open Jvm Jvm.ClassFile Sem Op Lib Jvm.Free Jvm.Stand Jvm.Pilot.@@N@@.Jvm.D
/-! MADE BY PROGRAM (witnessworld.py) out of the Statement's table words and the real class files: 12 classes; the members and pool entries that the words name. The judged class is class 1, her method 2. -/
namespace start1
open Jvm.ClassFile
def u (s : String) : CpInfo := .utf8 (stringToUtf16 s)
/-- a pool by its gaps: so many unusable entries, then the entry; so many at the end -/
def gap : Nat → List CpInfo → List CpInfo
  | 0, r => r
  | n + 1, r => .unusable :: gap n r
def poolList (es : List (Nat × CpInfo)) (last : Nat) : List CpInfo := es.foldr (fun e r => gap e.1 (e.2 :: r)) (gap last [])
def pool (es : List (Nat × CpInfo)) (last : Nat) : Array CpInfo := ⟨poolList es last⟩
def fileOf (pool : Array CpInfo) (this : Nat) (attrs : Array Attribute := #[]) (ms : Array MethodInfo := #[]) (fl : Nat := 33) (sup : Nat := 0) (ifs : Array Nat := #[]) (fds : Array FieldInfo := #[]) : ClassFile where
  minorVersion := 0
  majorVersion := 65
  constantPool := pool
  accessFlags := fl
  thisClass := this
  superClass := sup
  interfaces := ifs
  fields := fds
  methods := ms
  attributes := attrs
def plain (name : String) (sup : Option ClassId) : Class where
  name := name
  kind := .ordinary
  loader := none
  accessFlags := 33
  super := sup
  interfaces := #[]
  cf := none
  fields := #[]
  methods := #[]
  instanceTypes := #[]
  staticTypes := #[]
  resolved := #[]
  callSites := []
  init := .initialized
  statics := none
  mirror := none

def pool0 : Array CpInfo := pool [(5, u "<init>"), (0, u "()V"), (1, .class_ 10), (1, u "java/lang/Object")] 113

def k0c0 : Code := { maxStack := 0, maxLocals := 1, code := object_method_1_code, exceptionTable := #[], attributes := #[] }
def k0m0 : Method := { name := "<init>", desc := "()V", sig := { parameters := [], returnType := none }, accessFlags := 1, code := some k0c0 }
/-- java/lang/Object -/
def k0 : Class := { plain "java/lang/Object" none with
  accessFlags := 33
  interfaces := #[]
  cf := some (fileOf pool0 8 #[] #[{ accessFlags := 1, nameIndex := 5, descriptorIndex := 6, attributes := #[] }] 33 0 #[] #[])
  fields := #[]
  methods := #[k0m0]
  instanceTypes := #[]
  staticTypes := #[]
  resolved := Array.replicate 124 none
  statics := none }

def pool1 : Array CpInfo := pool [(2, .class_ 4), (1, u "java/lang/Object"), (0, u "<init>"), (0, u "()V"), (0, .fieldref 8 9), (0, .class_ 10), (0, .nameAndType 11 12), (0, u "com/example/limpet/limpet/io/Status"), (0, u "OK"), (0, u "Lcom/example/limpet/limpet/io/Status;"), (0, .fieldref 8 14), (0, .nameAndType 15 12), (0, u "BAD_REQUEST"), (0, .fieldref 8 17), (0, .nameAndType 18 12), (0, u "NOT_FOUND"), (0, .fieldref 8 20), (0, .nameAndType 21 12), (0, u "FAILED"), (0, .fieldref 8 23), (0, .nameAndType 24 12), (0, u "UNSUPPORTED_KEY"), (0, .fieldref 8 26), (0, .nameAndType 27 12), (0, u "PERMISSION_DENIED"), (0, .fieldref 8 29), (0, .nameAndType 30 12), (0, u "GRANT_NOT_FOUND"), (0, .fieldref 8 32), (0, .nameAndType 33 12), (0, u "TOO_MANY_KEYS"), (0, .fieldref 8 35), (0, .nameAndType 36 12), (0, u "TOO_MANY_GRANTS"), (0, .integer 2147483647), (0, .methodref 39 40), (0, .class_ 41), (0, .nameAndType 42 43), (0, u "com/example/limpet/limpet/io/ResponseOfPinLaw"), (0, u "pick"), (0, u "(I)Lcom/example/limpet/limpet/io/Status;"), (0, .methodref 45 46), (0, .class_ 47), (0, .nameAndType 48 49), (0, u "com/example/limpet/limpet/io/Response"), (0, u "of"), (0, u "(Lcom/example/limpet/limpet/io/Status;)Lcom/example/limpet/limpet/io/Response;"), (0, .methodref 45 51), (0, .nameAndType 52 53), (0, u "payload"), (0, u "()[B"), (0, .methodref 45 55), (0, .nameAndType 56 57), (0, u "status"), (0, u "()Lcom/example/limpet/limpet/io/Status;"), (3, u "law"), (0, u "(I)Z")] 4

def k1m0 : Method := { name := "<init>", desc := "()V", sig := { parameters := [], returnType := none }, accessFlags := 1, code := none }
def k1c1 : Code := { maxStack := 2, maxLocals := 1, code := method_2_code, exceptionTable := #[], attributes := #[] }
def k1m1 : Method := { name := "pick", desc := "(I)Lcom/example/limpet/limpet/io/Status;", sig := { parameters := [.int], returnType := some (.object "com/example/limpet/limpet/io/Status") }, accessFlags := 10, code := some k1c1 }
def k1c2 : Code := { maxStack := 2, maxLocals := 5, code := code, exceptionTable := #[], attributes := #[] }
def k1m2 : Method := { name := "law", desc := "(I)Z", sig := { parameters := [.int], returnType := some .boolean }, accessFlags := 9, code := some k1c2 }
/-- com/example/limpet/limpet/io/ResponseOfPinLaw -/
def k1 : Class := { plain "com/example/limpet/limpet/io/ResponseOfPinLaw" (some 0) with
  accessFlags := 49
  interfaces := #[]
  cf := some (fileOf pool1 39 #[] #[{ accessFlags := 1, nameIndex := 5, descriptorIndex := 6, attributes := #[] }, { accessFlags := 10, nameIndex := 42, descriptorIndex := 43, attributes := #[] }, { accessFlags := 9, nameIndex := 61, descriptorIndex := 62, attributes := #[] }] 49 2 #[] #[])
  fields := #[]
  methods := #[k1m0, k1m1, k1m2]
  instanceTypes := #[]
  staticTypes := #[]
  resolved := Array.replicate 67 none
  statics := none }

def pool2 : Array CpInfo := pool [(1, .class_ 2), (0, u "java/lang/constant/Constable"), (0, .class_ 4), (0, u "java/lang/Object")] 6

/-- java/lang/constant/Constable -/
def k2 : Class := { plain "java/lang/constant/Constable" (some 0) with
  accessFlags := 1537
  interfaces := #[]
  cf := some (fileOf pool2 1 #[] #[] 1537 3 #[] #[])
  fields := #[]
  methods := #[]
  instanceTypes := #[]
  staticTypes := #[]
  resolved := Array.replicate 11 none
  statics := none }

def pool3 : Array CpInfo := pool [(1, .class_ 2), (0, u "java/lang/Comparable"), (0, .class_ 4), (0, u "java/lang/Object")] 7

/-- java/lang/Comparable -/
def k3 : Class := { plain "java/lang/Comparable" (some 0) with
  accessFlags := 1537
  interfaces := #[]
  cf := some (fileOf pool3 1 #[] #[] 1537 3 #[] #[])
  fields := #[]
  methods := #[]
  instanceTypes := #[]
  staticTypes := #[]
  resolved := Array.replicate 12 none
  statics := none }

def pool4 : Array CpInfo := pool [(1, .class_ 2), (0, u "java/io/Serializable"), (0, .class_ 4), (0, u "java/lang/Object")] 2

/-- java/io/Serializable -/
def k4 : Class := { plain "java/io/Serializable" (some 0) with
  accessFlags := 1537
  interfaces := #[]
  cf := some (fileOf pool4 1 #[] #[] 1537 3 #[] #[])
  fields := #[]
  methods := #[]
  instanceTypes := #[]
  staticTypes := #[]
  resolved := Array.replicate 7 none
  statics := none }

def pool5 : Array CpInfo := pool [(2, .class_ 4), (1, u "java/lang/Enum"), (0, u "name"), (0, u "Ljava/lang/String;"), (2, u "ordinal"), (0, u "I"), (1, .class_ 14), (1, u "java/lang/Object"), (4, u "hash"), (86, .class_ 108), (1, u "java/lang/Enum$EnumDesc"), (2, .class_ 112), (0, u "java/lang/constant/Constable"), (0, .class_ 114), (0, u "java/lang/Comparable"), (0, .class_ 116), (0, u "java/io/Serializable")] 87

/-- java/lang/Enum -/
def k5 : Class := { plain "java/lang/Enum" (some 0) with
  accessFlags := 1057
  interfaces := #[2, 3, 4]
  cf := some (fileOf pool5 2 #[.nestMembers #[106]] #[] 1057 12 #[111, 113, 115] #[{ accessFlags := 18, nameIndex := 5, descriptorIndex := 6, attributes := #[] }, { accessFlags := 18, nameIndex := 9, descriptorIndex := 10, attributes := #[] }, { accessFlags := 2, nameIndex := 19, descriptorIndex := 10, attributes := #[] }])
  fields := #[{ name := "name", type := (.object "java/lang/String"), accessFlags := 18, slot := 0, constantValue := 0 }, { name := "ordinal", type := .int, accessFlags := 18, slot := 1, constantValue := 0 }, { name := "hash", type := .int, accessFlags := 2, slot := 2, constantValue := 0 }]
  methods := #[]
  instanceTypes := #[(.object "java/lang/String"), .int, .int]
  staticTypes := #[]
  resolved := Array.replicate 204 none
  statics := none }

def pool6 : Array CpInfo := pool [(1, .class_ 2), (0, u "com/example/limpet/limpet/io/Status"), (2, u "OK"), (0, u "Lcom/example/limpet/limpet/io/Status;"), (2, u "BAD_REQUEST"), (2, u "NOT_FOUND"), (2, u "FAILED"), (2, u "UNSUPPORTED_KEY"), (2, u "PERMISSION_DENIED"), (2, u "GRANT_NOT_FOUND"), (2, u "TOO_MANY_KEYS"), (2, u "TOO_MANY_GRANTS"), (2, u "$VALUES"), (0, u "[Lcom/example/limpet/limpet/io/Status;"), (6, .class_ 43), (1, u "java/lang/Enum"), (8, u "code"), (0, u "I")] 58

/-- com/example/limpet/limpet/io/Status -/
def k6 : Class := { plain "com/example/limpet/limpet/io/Status" (some 5) with
  accessFlags := 16433
  interfaces := #[]
  cf := some (fileOf pool6 1 #[] #[] 16433 41 #[] #[{ accessFlags := 16409, nameIndex := 5, descriptorIndex := 6, attributes := #[] }, { accessFlags := 16409, nameIndex := 9, descriptorIndex := 6, attributes := #[] }, { accessFlags := 16409, nameIndex := 12, descriptorIndex := 6, attributes := #[] }, { accessFlags := 16409, nameIndex := 15, descriptorIndex := 6, attributes := #[] }, { accessFlags := 16409, nameIndex := 18, descriptorIndex := 6, attributes := #[] }, { accessFlags := 16409, nameIndex := 21, descriptorIndex := 6, attributes := #[] }, { accessFlags := 16409, nameIndex := 24, descriptorIndex := 6, attributes := #[] }, { accessFlags := 16409, nameIndex := 27, descriptorIndex := 6, attributes := #[] }, { accessFlags := 16409, nameIndex := 30, descriptorIndex := 6, attributes := #[] }, { accessFlags := 18, nameIndex := 52, descriptorIndex := 53, attributes := #[] }, { accessFlags := 4122, nameIndex := 33, descriptorIndex := 34, attributes := #[] }])
  fields := #[{ name := "OK", type := (.object "com/example/limpet/limpet/io/Status"), accessFlags := 16409, slot := 0, constantValue := 0 }, { name := "BAD_REQUEST", type := (.object "com/example/limpet/limpet/io/Status"), accessFlags := 16409, slot := 1, constantValue := 0 }, { name := "NOT_FOUND", type := (.object "com/example/limpet/limpet/io/Status"), accessFlags := 16409, slot := 2, constantValue := 0 }, { name := "FAILED", type := (.object "com/example/limpet/limpet/io/Status"), accessFlags := 16409, slot := 3, constantValue := 0 }, { name := "UNSUPPORTED_KEY", type := (.object "com/example/limpet/limpet/io/Status"), accessFlags := 16409, slot := 4, constantValue := 0 }, { name := "PERMISSION_DENIED", type := (.object "com/example/limpet/limpet/io/Status"), accessFlags := 16409, slot := 5, constantValue := 0 }, { name := "GRANT_NOT_FOUND", type := (.object "com/example/limpet/limpet/io/Status"), accessFlags := 16409, slot := 6, constantValue := 0 }, { name := "TOO_MANY_KEYS", type := (.object "com/example/limpet/limpet/io/Status"), accessFlags := 16409, slot := 7, constantValue := 0 }, { name := "TOO_MANY_GRANTS", type := (.object "com/example/limpet/limpet/io/Status"), accessFlags := 16409, slot := 8, constantValue := 0 }, { name := "code", type := .int, accessFlags := 18, slot := 3, constantValue := 0 }, { name := "$VALUES", type := (.array (.object "com/example/limpet/limpet/io/Status")), accessFlags := 4122, slot := 9, constantValue := 0 }]
  methods := #[]
  instanceTypes := #[(.object "java/lang/String"), .int, .int, .int]
  staticTypes := #[(.object "com/example/limpet/limpet/io/Status"), (.object "com/example/limpet/limpet/io/Status"), (.object "com/example/limpet/limpet/io/Status"), (.object "com/example/limpet/limpet/io/Status"), (.object "com/example/limpet/limpet/io/Status"), (.object "com/example/limpet/limpet/io/Status"), (.object "com/example/limpet/limpet/io/Status"), (.object "com/example/limpet/limpet/io/Status"), (.object "com/example/limpet/limpet/io/Status"), (.array (.object "com/example/limpet/limpet/io/Status"))]
  resolved := Array.replicate 112 none
  statics := some 0 }

def pool7 : Array CpInfo := pool [(1, .methodref 2 3), (0, .class_ 4), (0, .nameAndType 5 6), (0, u "java/lang/Object"), (0, u "<init>"), (0, u "()V"), (0, .class_ 8), (0, u "java/lang/Record")] 13

def k7c0 : Code := { maxStack := 1, maxLocals := 1, code := jdk_30_method_1_code, exceptionTable := #[], attributes := #[] }
def k7m0 : Method := { name := "<init>", desc := "()V", sig := { parameters := [], returnType := none }, accessFlags := 4, code := some k7c0 }
/-- java/lang/Record -/
def k7 : Class := { plain "java/lang/Record" (some 0) with
  accessFlags := 1057
  interfaces := #[]
  cf := some (fileOf pool7 7 #[] #[{ accessFlags := 4, nameIndex := 5, descriptorIndex := 6, attributes := #[] }] 1057 2 #[] #[])
  fields := #[]
  methods := #[k7m0]
  instanceTypes := #[]
  staticTypes := #[]
  resolved := Array.replicate 22 none
  statics := none }

def pool8 : Array CpInfo := pool [(1, .methodref 2 3), (0, .class_ 4), (0, .nameAndType 5 6), (0, u "java/lang/Record"), (0, u "<init>"), (0, u "()V"), (0, .fieldref 8 9), (0, .class_ 10), (0, .nameAndType 11 12), (0, u "com/example/limpet/limpet/io/Response"), (0, u "status"), (0, u "Lcom/example/limpet/limpet/io/Status;"), (0, .fieldref 8 14), (0, .nameAndType 15 16), (0, u "payload"), (0, u "[B"), (0, .fieldref 8 18), (0, .nameAndType 19 16), (0, u "EMPTY"), (0, .methodref 8 21), (0, .nameAndType 5 22), (0, u "(Lcom/example/limpet/limpet/io/Status;[B)V"), (20, u "()[B"), (152, u "of"), (0, u "(Lcom/example/limpet/limpet/io/Status;)Lcom/example/limpet/limpet/io/Response;"), (14, u "()Lcom/example/limpet/limpet/io/Status;")] 54

def k8c0 : Code := { maxStack := 2, maxLocals := 3, code := prog_34_method_1_code, exceptionTable := #[], attributes := #[] }
def k8m0 : Method := { name := "<init>", desc := "(Lcom/example/limpet/limpet/io/Status;[B)V", sig := { parameters := [(.object "com/example/limpet/limpet/io/Status"), (.array .byte)], returnType := none }, accessFlags := 1, code := some k8c0 }
def k8c1 : Code := { maxStack := 4, maxLocals := 1, code := prog_34_method_2_code, exceptionTable := #[], attributes := #[] }
def k8m1 : Method := { name := "of", desc := "(Lcom/example/limpet/limpet/io/Status;)Lcom/example/limpet/limpet/io/Response;", sig := { parameters := [(.object "com/example/limpet/limpet/io/Status")], returnType := some (.object "com/example/limpet/limpet/io/Response") }, accessFlags := 9, code := some k8c1 }
def k8c2 : Code := { maxStack := 1, maxLocals := 1, code := prog_34_method_13_code, exceptionTable := #[], attributes := #[] }
def k8m2 : Method := { name := "status", desc := "()Lcom/example/limpet/limpet/io/Status;", sig := { parameters := [], returnType := some (.object "com/example/limpet/limpet/io/Status") }, accessFlags := 1, code := some k8c2 }
def k8c3 : Code := { maxStack := 1, maxLocals := 1, code := prog_34_method_14_code, exceptionTable := #[], attributes := #[] }
def k8m3 : Method := { name := "payload", desc := "()[B", sig := { parameters := [], returnType := some (.array .byte) }, accessFlags := 1, code := some k8c3 }
/-- com/example/limpet/limpet/io/Response -/
def k8 : Class := { plain "com/example/limpet/limpet/io/Response" (some 7) with
  accessFlags := 49
  interfaces := #[]
  cf := some (fileOf pool8 8 #[] #[{ accessFlags := 1, nameIndex := 5, descriptorIndex := 22, attributes := #[] }, { accessFlags := 9, nameIndex := 196, descriptorIndex := 197, attributes := #[] }, { accessFlags := 1, nameIndex := 11, descriptorIndex := 212, attributes := #[] }, { accessFlags := 1, nameIndex := 15, descriptorIndex := 43, attributes := #[] }] 49 2 #[] #[{ accessFlags := 18, nameIndex := 11, descriptorIndex := 12, attributes := #[] }, { accessFlags := 18, nameIndex := 15, descriptorIndex := 16, attributes := #[] }, { accessFlags := 26, nameIndex := 19, descriptorIndex := 16, attributes := #[] }])
  fields := #[{ name := "status", type := (.object "com/example/limpet/limpet/io/Status"), accessFlags := 18, slot := 0, constantValue := 0 }, { name := "payload", type := (.array .byte), accessFlags := 18, slot := 1, constantValue := 0 }, { name := "EMPTY", type := (.array .byte), accessFlags := 26, slot := 0, constantValue := 0 }]
  methods := #[k8m0, k8m1, k8m2, k8m3]
  instanceTypes := #[(.object "com/example/limpet/limpet/io/Status"), (.array .byte)]
  staticTypes := #[(.array .byte)]
  resolved := Array.replicate 267 none
  statics := some 1 }

def pool9 : Array CpInfo := pool [(1, u "java/lang/Cloneable"), (0, .class_ 1), (0, u "java/lang/Object"), (0, .class_ 3)] 3

/-- java/lang/Cloneable -/
def k9 : Class := { plain "java/lang/Cloneable" (some 0) with
  accessFlags := 1537
  interfaces := #[]
  cf := some (fileOf pool9 2 #[] #[] 1537 4 #[] #[])
  fields := #[]
  methods := #[]
  instanceTypes := #[]
  staticTypes := #[]
  resolved := Array.replicate 8 none
  statics := none }

/-- the primitive byte -/
def k10 : Class := { plain "byte" none with kind := .primitive 'B', accessFlags := 0x411 }
/-- [B -/
def k11 : Class := { plain "[B" (some 0) with kind := .array 10 .byte, interfaces := #[9, 4], accessFlags := 1041 }

def heap : Heap := #[{ cls := 6, slots := #[.ref 2, .ref 5, .ref 4, .ref 3, .ref 7, .ref 10, .ref 9, .ref 6, .ref 8, .null], vm := .statics 6 },
  { cls := 8, slots := #[.ref 11], vm := .statics 8 },
  { cls := 6, slots := #[.null, .int 0, .int 0, .int 0], vm := .none },
  { cls := 6, slots := #[.null, .int 0, .int 0, .int 0], vm := .none },
  { cls := 6, slots := #[.null, .int 0, .int 0, .int 0], vm := .none },
  { cls := 6, slots := #[.null, .int 0, .int 0, .int 0], vm := .none },
  { cls := 6, slots := #[.null, .int 0, .int 0, .int 0], vm := .none },
  { cls := 6, slots := #[.null, .int 0, .int 0, .int 0], vm := .none },
  { cls := 6, slots := #[.null, .int 0, .int 0, .int 0], vm := .none },
  { cls := 6, slots := #[.null, .int 0, .int 0, .int 0], vm := .none },
  { cls := 6, slots := #[.null, .int 0, .int 0, .int 0], vm := .none },
  { cls := 11, slots := #[], vm := .none }]
def classes : Array Class := #[k0, k1, k2, k3, k4, k5, k6, k7, k8, k9, k10, k11]
def interned : List (Array UInt16 × Addr) := []
def slotsUsed : Nat := 47
def theMethod : MethodId := ⟨1, 2⟩
def args0 : Array Value := #[.int 3]
def aboutOver (below : List Frame) : State where
  vm := { classes := classes, interned := interned.toArray }
  heap := heap
  slotsUsed := slotsUsed
  threads := #[{ frames := .invoking theMethod args0 :: below }]
def below0 : List Frame := [.native { method := ⟨0, 0⟩, args := #[] }]
def about1 : State := aboutOver below0
def p0 : Program := .bare "" "" ""
def e0 : Env := launch0.env 0 0 0
theorem w_frames : about1.frames = Frame.invoking theMethod args0 :: below0 := rfl
set_option maxRecDepth 65536 in
theorem w_args : argsFit about1.vm theMethod args0 = true := by decide +kernel
set_option maxRecDepth 65536 in
theorem w_heap : heapFits about1 = true := by decide +kernel
set_option maxRecDepth 65536 in
theorem w_runnable : about1.curStatus? = some .runnable := by decide +kernel
set_option maxRecDepth 65536 in
theorem w_alone : about1.alone = true := by decide +kernel
set_option maxRecDepth 65536 in
theorem w_named : about1.methodNamed? x = some theMethod := by decide +kernel
set_option maxRecDepth 65536 in
theorem w_hears : about1.hears theMethod below0 = true := by decide +kernel
set_option maxRecDepth 65536 in
theorem w_ripe : about1.ripe theMethod args0 below0 = true := by decide +kernel
theorem w_running : about1.status = .running := rfl
set_option maxRecDepth 65536 in
theorem w_room : about1.hasRoom e0.platform room_1 = true :=
  launch0.hasRoom_least _ room_1 (by decide +kernel) (by decide +kernel) (by decide +kernel) (by decide +kernel) (by decide +kernel) (by decide +kernel)
theorem allAtoms_all (ts : List Jvm.Cond) (a : Array Jvm.Value) (st : Jvm.State) : (allAtoms ts).before a st = ts.all (fun c => c.before a st) := by
  induction ts with
  | nil => rfl
  | cons c t ih =>
    show (Jvm.Cond.and c (allAtoms t)).before a st = _
    rw [Jvm.Cond.before_and, ih, List.all_cons]
def words1 : List Jvm.Cond := Jvm.Cond.code x code maxLocals ret :: tables_1
/-- a 'code' word, met by the world's own term for the bytes: nothing is compared byte by byte -/
theorem code_word {y : MethodName} {bytes : ByteArray} {mx : Nat} {rt : Option FieldType} {a : Array Value} {s : State} {m : MethodId} {meth : Method} {c : Code} (h1 : s.methodNamed? y = some m) (h2 : s.vm.method? m = some meth) (h3 : meth.code = some c) (h4 : c.code = bytes)
    (h5 : (c.maxLocals == mx && c.exceptionTable.isEmpty && decide (c.maxStack ≤ mostOperands) && decide (meth.sig.returnType = rt) && !meth.locks && decide (parseMethodDescriptor y.desc = some meth.sig)) = true) : (Jvm.Cond.code y bytes mx rt).before a s = true := by
  simp only [Bool.and_eq_true, beq_iff_eq, Bool.not_eq_true', decide_eq_true_eq] at h5
  obtain ⟨⟨⟨⟨⟨g1, g2⟩, g3⟩, g4⟩, g5⟩, g6⟩ := h5
  simp [Cond.before, Cond.holds, Cond.value, h1, h2, h3, h4, g1, g2, g3, g4, g5, g6]
def isCode : Jvm.Cond → Bool
  | .code _ _ _ _ => true
  | _ => false
theorem all_split {L : List Jvm.Cond} {P : Jvm.Cond → Bool} (h1 : L.all (fun c => isCode c || P c) = true) (h2 : ∀ c ∈ L.filter isCode, P c = true) : L.all P = true := by
  refine List.all_eq_true.mpr fun c hc => ?_
  have h := List.all_eq_true.mp h1 c hc
  rcases Bool.eq_false_or_eq_true (isCode c) with hi | hi
  · exact h2 c (List.mem_filter.mpr ⟨hc, hi⟩)
  · simpa [hi] using h
set_option maxRecDepth 65536 in
theorem w_c0 : (Jvm.Cond.code x code maxLocals ret).before args0 about1 = true := code_word (m := ⟨1, 2⟩) (meth := k1m2) (c := k1c2) (by decide +kernel) rfl rfl rfl (by decide +kernel)
set_option maxRecDepth 65536 in
theorem w_c1 : (Jvm.Cond.code ({ cls := "com/example/limpet/limpet/io/ResponseOfPinLaw", name := "pick", desc := "(I)Lcom/example/limpet/limpet/io/Status;" } : Jvm.MethodName) method_2_code (1 : Nat) (Option.some (Jvm.ClassFile.FieldType.object "com/example/limpet/limpet/io/Status"))).before args0 about1 = true := code_word (m := ⟨1, 1⟩) (meth := k1m1) (c := k1c1) (by decide +kernel) rfl rfl rfl (by decide +kernel)
set_option maxRecDepth 65536 in
theorem w_c2 : (Jvm.Cond.code ({ cls := "com/example/limpet/limpet/io/Response", name := "of", desc := "(Lcom/example/limpet/limpet/io/Status;)Lcom/example/limpet/limpet/io/Response;" } : Jvm.MethodName) prog_34_method_2_code (1 : Nat) (Option.some (Jvm.ClassFile.FieldType.object "com/example/limpet/limpet/io/Response"))).before args0 about1 = true := code_word (m := ⟨8, 1⟩) (meth := k8m1) (c := k8c1) (by decide +kernel) rfl rfl rfl (by decide +kernel)
set_option maxRecDepth 65536 in
theorem w_c3 : (Jvm.Cond.code ({ cls := "com/example/limpet/limpet/io/Response", name := "<init>", desc := "(Lcom/example/limpet/limpet/io/Status;[B)V" } : Jvm.MethodName) prog_34_method_1_code (3 : Nat) (Option.none : Option Jvm.ClassFile.FieldType)).before args0 about1 = true := code_word (m := ⟨8, 0⟩) (meth := k8m0) (c := k8c0) (by decide +kernel) rfl rfl rfl (by decide +kernel)
set_option maxRecDepth 65536 in
theorem w_c4 : (Jvm.Cond.code ({ cls := "java/lang/Record", name := "<init>", desc := "()V" } : Jvm.MethodName) jdk_30_method_1_code (1 : Nat) (Option.none : Option Jvm.ClassFile.FieldType)).before args0 about1 = true := code_word (m := ⟨7, 0⟩) (meth := k7m0) (c := k7c0) (by decide +kernel) rfl rfl rfl (by decide +kernel)
set_option maxRecDepth 65536 in
theorem w_c5 : (Jvm.Cond.code ({ cls := "java/lang/Object", name := "<init>", desc := "()V" } : Jvm.MethodName) object_method_1_code (1 : Nat) (Option.none : Option Jvm.ClassFile.FieldType)).before args0 about1 = true := code_word (m := ⟨0, 0⟩) (meth := k0m0) (c := k0c0) (by decide +kernel) rfl rfl rfl (by decide +kernel)
set_option maxRecDepth 65536 in
theorem w_c6 : (Jvm.Cond.code ({ cls := "com/example/limpet/limpet/io/Response", name := "payload", desc := "()[B" } : Jvm.MethodName) prog_34_method_14_code (1 : Nat) (Option.some (Jvm.ClassFile.FieldType.array Jvm.ClassFile.FieldType.byte))).before args0 about1 = true := code_word (m := ⟨8, 3⟩) (meth := k8m3) (c := k8c3) (by decide +kernel) rfl rfl rfl (by decide +kernel)
set_option maxRecDepth 65536 in
theorem w_c7 : (Jvm.Cond.code ({ cls := "com/example/limpet/limpet/io/Response", name := "status", desc := "()Lcom/example/limpet/limpet/io/Status;" } : Jvm.MethodName) prog_34_method_13_code (1 : Nat) (Option.some (Jvm.ClassFile.FieldType.object "com/example/limpet/limpet/io/Status"))).before args0 about1 = true := code_word (m := ⟨8, 2⟩) (meth := k8m2) (c := k8c2) (by decide +kernel) rfl rfl rfl (by decide +kernel)
def codes1 : List Jvm.Cond := [Jvm.Cond.code x code maxLocals ret, Jvm.Cond.code ({ cls := "com/example/limpet/limpet/io/ResponseOfPinLaw", name := "pick", desc := "(I)Lcom/example/limpet/limpet/io/Status;" } : Jvm.MethodName) method_2_code (1 : Nat) (Option.some (Jvm.ClassFile.FieldType.object "com/example/limpet/limpet/io/Status")), Jvm.Cond.code ({ cls := "com/example/limpet/limpet/io/Response", name := "of", desc := "(Lcom/example/limpet/limpet/io/Status;)Lcom/example/limpet/limpet/io/Response;" } : Jvm.MethodName) prog_34_method_2_code (1 : Nat) (Option.some (Jvm.ClassFile.FieldType.object "com/example/limpet/limpet/io/Response")), Jvm.Cond.code ({ cls := "com/example/limpet/limpet/io/Response", name := "<init>", desc := "(Lcom/example/limpet/limpet/io/Status;[B)V" } : Jvm.MethodName) prog_34_method_1_code (3 : Nat) (Option.none : Option Jvm.ClassFile.FieldType), Jvm.Cond.code ({ cls := "java/lang/Record", name := "<init>", desc := "()V" } : Jvm.MethodName) jdk_30_method_1_code (1 : Nat) (Option.none : Option Jvm.ClassFile.FieldType), Jvm.Cond.code ({ cls := "java/lang/Object", name := "<init>", desc := "()V" } : Jvm.MethodName) object_method_1_code (1 : Nat) (Option.none : Option Jvm.ClassFile.FieldType), Jvm.Cond.code ({ cls := "com/example/limpet/limpet/io/Response", name := "payload", desc := "()[B" } : Jvm.MethodName) prog_34_method_14_code (1 : Nat) (Option.some (Jvm.ClassFile.FieldType.array Jvm.ClassFile.FieldType.byte)), Jvm.Cond.code ({ cls := "com/example/limpet/limpet/io/Response", name := "status", desc := "()Lcom/example/limpet/limpet/io/Status;" } : Jvm.MethodName) prog_34_method_13_code (1 : Nat) (Option.some (Jvm.ClassFile.FieldType.object "com/example/limpet/limpet/io/Status"))]
set_option maxRecDepth 65536 in
theorem codes_eq : words1.filter isCode = codes1 := rfl
theorem w_codes : ∀ c ∈ words1.filter isCode, c.before args0 about1 = true := by
  rw [codes_eq]
  intro c hc
  simp only [codes1, List.mem_cons, List.not_mem_nil, or_false] at hc
  rcases hc with rfl | rfl | rfl | rfl | rfl | rfl | rfl | rfl
  · exact w_c0
  · exact w_c1
  · exact w_c2
  · exact w_c3
  · exact w_c4
  · exact w_c5
  · exact w_c6
  · exact w_c7
set_option maxRecDepth 65536 in
theorem w_t1 : (words1.take 24).all (fun c => isCode c || c.before args0 about1) = true := by decide +kernel
set_option maxRecDepth 65536 in
theorem w_t2 : ((words1.drop 24).take 24).all (fun c => isCode c || c.before args0 about1) = true := by decide +kernel
set_option maxRecDepth 65536 in
theorem w_t3 : ((words1.drop 24).drop 24).all (fun c => isCode c || c.before args0 about1) = true := by decide +kernel
theorem w_tables : (allAtoms (Jvm.Cond.code x code maxLocals ret :: tables_1)).before args0 about1 = true := by
  rw [allAtoms_all]
  show words1.all (fun c => c.before args0 about1) = true
  refine all_split ?_ w_codes
  rw [← List.take_append_drop 24 words1, List.all_append, w_t1, ← List.take_append_drop 24 (words1.drop 24), List.all_append, w_t2, w_t3]
  rfl
set_option maxRecDepth 65536 in
theorem w_case : (Jvm.Cond.and given_1 narrow_1).before args0 about1 = true := by decide +kernel
theorem w_applies : (headSpec (Jvm.Cond.code x code maxLocals ret :: tables_1) room_1).applies x e0.platform about1 = true :=
  (Spec.applies_iff w_frames).mpr ⟨w_running, w_runnable, w_alone, w_named, w_hears, w_ripe, w_room, w_tables⟩
theorem atStart : AtStart classFile x code maxLocals ret World_1 tables_1 room_1 Calls_1 rest_1 Pre_1 launch0 p0 e0 about1 theMethod args0 below0 :=
  ⟨lists_1, trivial, launch0.admits_env _ _ _, launch0.least_env, fairChoices_fair.cas, fairChoices_fair.clock, w_frames, w_args, w_heap, w_applies, trivial, trivial, w_case⟩
end start1
theorem witness_1 : WitnessClaimed_1 := ⟨start1.p0, start1.e0, start1.about1, start1.theMethod, start1.args0, start1.below0, start1.atStart⟩
end Jvm.Pilot.@@N@@
