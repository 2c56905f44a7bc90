import JvmDerived
import JvmDerived.Pilot.@@N@@Statement
import JvmDerived.Pilot.@@N@@Code
set_option linter.unusedVariables false
set_option linter.unusedSimpArgs false
namespace Jvm.RoadKit
open Sem ClassFile Op Lib Jvm.Stand Jvm.Free Jvm.LawKit
section New
variable {p : Program} {l : Launch} {e : Env} {R : Room} {s : State} {m : MethodId} {args : Array Value} {below : List Frame} {meth : Method} {c : Code} {T : State} {locs : List Loc} {cells slots : Nat}
theorem retI (X : Stand p l e R s m args below meth c T locs cells slots) (hx : p.tables.exec = Jvm.exec) {pc : Nat} {Ls : Array Slot} {z : Int32} {rest : List Value} (hret : meth.sig.returnType = some .int) (hd : decode c.code pc = .ok (.ireturn, 1)) {fs : List Frame}
    (hl : ∀ (f : JFrame) (acts : List Action), f.method = m → f.locked = none → f.entered = [] → (doReturn e (T.setTop f) acts (some (.int z))).1 = T.setFrames fs) : Steps p.tables e below (T.setTop (mkF m pc Ls (.int z :: rest))) (T.setFrames fs) := by
  have hm' : T.vm.method? m = some meth := X.method'
  have hn : narrow .int (.int z) = .int z := rfl
  show Steps p.tables e below (T.setTop { method := m, pc := pc, locals := Ls, stack := _ :: rest, locked := none }) _
  jvm_step X.here [X.here.top, hx, hd, hm', hret, hn]
  first | (intro acts; rw [hl _ acts rfl rfl rfl]) | rw [hl _ _ rfl rfl rfl]
  exact Steps.refl _
end New
end Jvm.RoadKit
namespace Jvm.Pilot.@@N@@
open Jvm Jvm.ClassFile Sem Op Lib Jvm.Free Jvm.Stand Jvm.LawKit Jvm.RoadKit Bundle Jvm.Pilot.@@N@@.Jvm.D
def QV (r : Option Value) (h0 : Heap) (n0 : Nat) (v : Option Value) (h : Heap) (L : List Loc) : Prop := v = r ∧ Fr n0 L ∧ h = h0
def QN (r : Option Value) (n0 : Nat) (v : Option Value) (h : Heap) (L : List Loc) : Prop := v = r ∧ Fr n0 L
section OwnWords
variable {args : Array Value} {first s : State} {o : Option Outcome} {idx : List Nat} {t : Term}
theorem own_eqI {k : Int32} (h : (Jvm.Cond.eq t (.int k)).value args first o s idx = some true) : t.eval args first o idx s = some (.int k) := by
  simp only [Jvm.Cond.value, Term.eval] at h; cases ht : t.eval args first o idx s with | none => simp [ht] at h | some x => cases x <;> simp [ht] at h ⊢; exact h
end OwnWords
theorem own_exa_plain {Z : State} {h : Heap} {a : Addr} {C : String} (F : Exa Z h a C) (c : Cell) (hc : h[a]? = some c) : c.vm.isStatics = false := by
  obtain ⟨cell, k, h1, h2, h3, h4, h5⟩ := F; cases h1.symm.trans hc; exact h4
theorem own_arv_plain {Z : State} {h : Heap} {a : Addr} {k : ClassId} {ty : FieldType} {n : Int32} {vs : List Value} {d : Value} (F : Arv Z h a k ty n vs d) (c : Cell) (hc : h[a]? = some c) : c.vm.isStatics = false := by
  obtain ⟨cell, A, -⟩ := F; cases A.1.symm.trans hc; exact A.plain
theorem own_ext_of_keep {h h' : Heap} {ws : List Addr} (K : Keep h h' ws) (q : ∀ x ∈ ws, h.size ≤ x) : Ext h h' := ⟨K.1, fun a c hc => K.2.1 a c hc fun hm => absurd (Array.getElem?_eq_some_iff.mp hc).1 (Nat.not_lt.mpr (q a hm))⟩
theorem own_fitc {Z : State} {h : Heap} {a : Addr} {c : Cell} {ty : FieldType} {vs : List Value} {d : Value} (A : Arr Z h a c ty) (H : Has c vs d) (G : ∀ i, i < c.slots.size → fits ty (vs.getD i d) = true) : FitC Z c := fun i v hv => by
  obtain ⟨hi, -⟩ := Array.getElem?_eq_some_iff.mp hv
  obtain ⟨hs, k, hk, comp, hkind⟩ := A.2.1
  have e : Z.slotType? c.cls .none i = some ty := by simp [State.slotType?, hk, hkind]
  have ev : v = vs.getD i d := Option.some.inj (hv.symm.trans (H i hi))
  simp only [State.fitsSlot, e]
  rw [ev]; exact G i hi
theorem own_sta_keep {Z : State} {h h' : Heap} {C n d : String} {w : Value} {ws : List Addr} (F : Sta Z h C n d w) (K : Keep h h' ws) (q : ∀ x ∈ ws, ∀ c : Cell, h[x]? = some c → c.vm.isStatics = false) : Sta Z h' C n d w := by
  obtain ⟨cf, i, k, f, st, cell, h1, h2, h3, h4, h5, h6, h7⟩ := F
  exact ⟨cf, i, k, f, st, cell, h1, h2, h3, h4, K.2.1 _ _ h5 (fun hx => by rw [q _ hx _ h5] at h6; cases h6), h6, h7⟩
section OwnWords2
variable {args : Array Value} {s : State} {t u : Term}
theorem own_eqR {a : Addr} (h : (Jvm.Cond.eq t u).value args s none s [] = some true) (hu : u.eval args s none [] s = some (.ref a)) : t.eval args s none [] s = some (.ref a) := by
  simp only [Jvm.Cond.value, hu] at h; cases ht : t.eval args s none [] s with | none => simp [ht] at h | some x => cases x <;> simp [ht] at h ⊢; exact h
theorem own_len {a : Addr} {cl : Cell} {ty : FieldType} {k : Int32} (ev : t.eval args s none [] s = some (.ref a)) (A : Arr s s.heap a cl ty) (h : (Term.length t).eval args s none [] s = some (.int k)) : cl.slots.size < 2 ^ 31 ∧ cl.slots.size.toInt32 = k := by
  have ha := A.fin (Vm.Alike.refl _)
  by_cases hl : cl.slots.size < 2 ^ 31
  · rw [len_f ev ha hl] at h; exact ⟨hl, Value.int.inj (Option.some.inj h)⟩
  · simp [Term.eval, ev, ha, hl] at h
theorem own_elem {a : Addr} {cl : Cell} {ty : FieldType} {k : Int32} {v : Value} (ev : t.eval args s none [] s = some (.ref a)) (A : Arr s s.heap a cl ty) (h : (Term.elem t (.int k)).eval args s none [] s = some v) : cl.slots[k.toNatClampNeg]? = some v := (elem_in h ev (Term.int_eval k) A.1).2
end OwnWords2
def OwnWd (Z : State) (h0 : Heap) (ad : Nat → Addr) : Prop := Sta Z h0 "com/example/nokkel/nokkel/core/LockMode" "READ" "Lcom/example/nokkel/nokkel/core/LockMode;" (.ref (ad 0)) ∧ Exa Z h0 (ad 0) "com/example/nokkel/nokkel/core/LockMode" ∧ Fld Z h0 (ad 0) "java/lang/Enum" "ordinal" "I" (.int (0 : Int32)) ∧ Sta Z h0 "com/example/nokkel/nokkel/core/LockMode" "WRITE" "Lcom/example/nokkel/nokkel/core/LockMode;" (.ref (ad 1)) ∧ Exa Z h0 (ad 1) "com/example/nokkel/nokkel/core/LockMode" ∧ Fld Z h0 (ad 1) "java/lang/Enum" "ordinal" "I" (.int (1 : Int32))
theorem own_S_READ {Z : State} {h0 : Heap} {ad : Nat → Addr} (W : OwnWd Z h0 ad) : Sta Z h0 "com/example/nokkel/nokkel/core/LockMode" "READ" "Lcom/example/nokkel/nokkel/core/LockMode;" (.ref (ad 0)) := W.1
theorem own_E_READ {Z : State} {h0 : Heap} {ad : Nat → Addr} (W : OwnWd Z h0 ad) : Exa Z h0 (ad 0) "com/example/nokkel/nokkel/core/LockMode" := W.2.1
theorem own_F_READ_ordinal {Z : State} {h0 : Heap} {ad : Nat → Addr} (W : OwnWd Z h0 ad) : Fld Z h0 (ad 0) "java/lang/Enum" "ordinal" "I" (.int (0 : Int32)) := W.2.2.1
theorem own_S_WRITE {Z : State} {h0 : Heap} {ad : Nat → Addr} (W : OwnWd Z h0 ad) : Sta Z h0 "com/example/nokkel/nokkel/core/LockMode" "WRITE" "Lcom/example/nokkel/nokkel/core/LockMode;" (.ref (ad 1)) := W.2.2.2.1
theorem own_E_WRITE {Z : State} {h0 : Heap} {ad : Nat → Addr} (W : OwnWd Z h0 ad) : Exa Z h0 (ad 1) "com/example/nokkel/nokkel/core/LockMode" := W.2.2.2.2.1
theorem own_F_WRITE_ordinal {Z : State} {h0 : Heap} {ad : Nat → Addr} (W : OwnWd Z h0 ad) : Fld Z h0 (ad 1) "java/lang/Enum" "ordinal" "I" (.int (1 : Int32)) := W.2.2.2.2.2
theorem own_Wd_ext {Z : State} {h0 : Heap} {ad : Nat → Addr} {h' : Heap} (W : OwnWd Z h0 ad) (E : Ext h0 h') : OwnWd Z h' ad := ⟨(own_S_READ W).ext E, (own_E_READ W).ext E, (own_F_READ_ordinal W).ext E, (own_S_WRITE W).ext E, (own_E_WRITE W).ext E, (own_F_WRITE_ordinal W).ext E⟩
theorem own_d_method_2_code_0 : decode method_2_code 0 = .ok (.iload_n 0, 1) := by decide +kernel
theorem own_d_method_2_code_1 : decode method_2_code 1 = .ok (.iconst 1, 1) := by decide +kernel
theorem own_d_method_2_code_2 : decode method_2_code 2 = .ok (.iand, 1) := by decide +kernel
theorem own_d_method_2_code_3 : decode method_2_code 3 = .ok (.ifCond .eq 7, 3) := by decide +kernel
theorem own_d_method_2_code_10 : decode method_2_code 10 = .ok (.getstatic 13, 3) := by decide +kernel
theorem own_d_method_2_code_13 : decode method_2_code 13 = .ok (.areturn, 1) := by decide +kernel
theorem own_pn_com_example_nokkel_nokkel_core_LockModeConflictsWithPinLaw : plainName "com/example/nokkel/nokkel/core/LockModeConflictsWithPinLaw" = true := by first | (simp [plainName, overriddenIn]; done) | decide +kernel
theorem own_d_method_2_code_6 : decode method_2_code 6 = .ok (.getstatic 7, 3) := by decide +kernel
theorem own_d_method_2_code_9 : decode method_2_code 9 = .ok (.areturn, 1) := by decide +kernel
theorem own_d_prog_20_method_4_code_0 : decode prog_20_method_4_code 0 = .ok (.aload_n 0, 1) := by decide +kernel
theorem own_d_prog_20_method_4_code_1 : decode prog_20_method_4_code 1 = .ok (.getstatic 7, 3) := by decide +kernel
theorem own_d_prog_20_method_4_code_4 : decode prog_20_method_4_code 4 = .ok (.if_acmp .eq 10, 3) := by decide +kernel
theorem own_d_prog_20_method_4_code_7 : decode prog_20_method_4_code 7 = .ok (.aload_n 1, 1) := by decide +kernel
theorem own_d_prog_20_method_4_code_8 : decode prog_20_method_4_code 8 = .ok (.getstatic 7, 3) := by decide +kernel
theorem own_d_prog_20_method_4_code_11 : decode prog_20_method_4_code 11 = .ok (.if_acmp .ne 7, 3) := by decide +kernel
theorem own_d_prog_20_method_4_code_18 : decode prog_20_method_4_code 18 = .ok (.iconst 0, 1) := by decide +kernel
theorem own_d_prog_20_method_4_code_19 : decode prog_20_method_4_code 19 = .ok (.ireturn, 1) := by decide +kernel
theorem own_pn_com_example_nokkel_nokkel_core_LockMode : plainName "com/example/nokkel/nokkel/core/LockMode" = true := by first | (simp [plainName, overriddenIn]; done) | decide +kernel
theorem own_d_prog_20_method_4_code_14 : decode prog_20_method_4_code 14 = .ok (.iconst 1, 1) := by decide +kernel
theorem own_d_prog_20_method_4_code_15 : decode prog_20_method_4_code 15 = .ok (.goto 4, 3) := by decide +kernel
theorem own_pd__I_Lcom_example_nokkel_nokkel_core_LockMode_ : parseMethodDescriptor "(I)Lcom/example/nokkel/nokkel/core/LockMode;" = some ⟨[.int], some (.object "com/example/nokkel/nokkel/core/LockMode")⟩ := by decide +kernel
theorem own_pd__Lcom_example_nokkel_nokkel_core_LockMode__Z : parseMethodDescriptor "(Lcom/example/nokkel/nokkel/core/LockMode;)Z" = some ⟨[(.object "com/example/nokkel/nokkel/core/LockMode")], some .boolean⟩ := by decide +kernel
theorem own_ef_own_mode_0 (m : MethodId) {x0 : Int32} : entryFrame m #[(.int x0)] 1 = mkF m 0 #[.val (.int x0)] [] := by first | (simp [entryFrame, mkF, argsToLocals, Value.category, maxLocals]; done) | rfl
set_option maxRecDepth 65536 in
set_option maxHeartbeats 40000000 in
theorem own_mode_0 (l : Launch) (Z : State) (a0 : Array Value) (hw : ∀ d ∈ tables_1, d.before a0 Z = true) (ws : List Jvm.Cond) (h0 : Heap) (n0 : Nat) (Z0 : n0 ≤ h0.size) (p1 : Int32) (hk : p1 &&& (1 : Int32) = (0 : Int32)) (ad : Nat → Addr) (W : OwnWd Z h0 ad) :
    MetFree l (⟨"com/example/nokkel/nokkel/core/LockModeConflictsWithPinLaw", "mode", "(I)Lcom/example/nokkel/nokkel/core/LockMode;"⟩ : MethodName) (head1 (Jvm.Cond.code (⟨"com/example/nokkel/nokkel/core/LockModeConflictsWithPinLaw", "mode", "(I)Lcom/example/nokkel/nokkel/core/LockMode;"⟩ : MethodName) method_2_code 1 (some (.object "com/example/nokkel/nokkel/core/LockMode")) :: ws) ({ frames := 0, cells := 0, slots := 0, locals := 0 } : Room)) (fun a U => a = #[(.int p1)] ∧ Z.Warmed39 U.vm ∧ U.heap = h0) (fun _ _ _ _ _ => True) (fun _ U o U' => ∃ v L, o = .returned v ∧ QV (some (.ref (ad 0))) h0 n0 v U'.heap L ∧ FrameEnd U o U' L ({ frames := 0, cells := 0, slots := 0, locals := 0 } : Room).cells ({ frames := 0, cells := 0, slots := 0, locals := 0 } : Room).slots) := by
  refine MetFree.of_bodySF (plainFor_of_name own_pn_com_example_nokkel_nokkel_core_LockModeConflictsWithPinLaw) hisR ?_
  intro p e s m args below meth c s₁ Bd hml0 hP hK
  obtain ⟨rfl, hZ, hh⟩ := hP
  have hx := Bd.exec
  have hby := Bd.bytes
  have hml : c.maxLocals = 1 := hml0
  have hown : s.vm.findClass "com/example/nokkel/nokkel/core/LockModeConflictsWithPinLaw" = some m.cls := findClass_of_methodNamed Bd.named
  have hnm := (name_of_methodNamed Bd.named Bd.method).1
  have X0 : Stand p l e ({ frames := 0, cells := 0, slots := 0, locals := 0 } : Room) s m #[(.int p1)] below meth c s₁ [] 0 0 := Stand.of_body Bd
  have e0 : s₁.heap = h0 := by rw [← hh, Bd.state]; rfl
  have N0 := Fr.nil n0
  have pre0 : ∀ t, Steps p.tables e below (s₁.setTop (mkF m 0 #[.val (.int p1)] [])) t → Steps p.tables e below (s₁.setTop (entryFrame m #[(.int p1)] 1)) t := fun t k => castTop (own_ef_own_mode_0 m) k
  obtain ⟨T1, X1, e1, st1⟩ := getS2 X0 hx hZ hown (host := "") (Or.inl (hw _ (List.mem_of_getElem? (i := 4) rfl))) Via.refl e0 (own_S_READ W) (g := (mkF m 10 #[.val (.int p1)] [])) rfl (hb hby own_d_method_2_code_10)
  have ch2 : ∀ t, Steps p.tables e below (T1.setTop (mkF m 13 #[.val (.int p1)] [(.ref (ad 0))])) t → Steps p.tables e below (s₁.setTop (entryFrame m #[(.int p1)] 1)) t := fun t k => pre0 t (by
      show Steps p.tables e below (s₁.setTop (mkF m 0 #[.val (.int p1)] [])) t
      refine XS.iloadN X0.here hx rfl (hb hby own_d_method_2_code_0) rfl ?_
      show Steps p.tables e below (s₁.setTop (mkF m 1 #[.val (.int p1)] [(.int p1)])) t
      refine XS.iconst X0.here hx rfl (hb hby own_d_method_2_code_1) ?_
      show Steps p.tables e below (s₁.setTop (mkF m 2 #[.val (.int p1)] [(.int (1 : Int32)), (.int p1)])) t
      refine XS.iand X0.here hx rfl (hb hby own_d_method_2_code_2) rfl ?_
      rw [hk]
      show Steps p.tables e below (s₁.setTop (mkF m 3 #[.val (.int p1)] [(.int (0 : Int32))])) t
      refine XS.ifYes X0.here hx rfl (pc0 := 3) (pc' := 10) rfl (hb hby own_d_method_2_code_3) rfl ((if0 _ _).trans (teq (by decide : (0 : Int32) = (0 : Int32))).1) (by decide) (by decide) ?_
      show Steps p.tables e below (s₁.setTop (mkF m 10 #[.val (.int p1)] [])) t
      exact st1 t k)
  obtain ⟨fs, hr, hrun, hended, hW, hsame⟩ := X1.leave (v := some (.ref (ad 0))) (fun h => by rw [Bd.returns] at h; cases h)
  refine ⟨_, _, ch2 _ ?_, hrun, hended, _, _, rfl, ?_, ⟨_, rfl⟩, hW, hsame.mono (by decide) (by decide)⟩
  · show Steps p.tables e below (T1.setTop (mkF m 13 #[.val (.int p1)] [(.ref (ad 0))])) _
    jvm_step X1.here [X1.here.top, hx, (hb hby own_d_method_2_code_13), X1.method', Bd.returns, Value.isRef, FieldType.isReference]
    first | (intro acts; rw [hr _ acts rfl rfl rfl]) | rw [hr _ _ rfl rfl rfl]
    exact Steps.refl _
  · show QV (some (.ref (ad 0))) h0 n0 _ T1.heap _
    rw [e1]
    exact ⟨rfl, N0, rfl⟩
theorem own_ef_own_mode_1 (m : MethodId) {x0 : Int32} : entryFrame m #[(.int x0)] 1 = mkF m 0 #[.val (.int x0)] [] := by first | (simp [entryFrame, mkF, argsToLocals, Value.category, maxLocals]; done) | rfl
set_option maxRecDepth 65536 in
set_option maxHeartbeats 40000000 in
theorem own_mode_1 (l : Launch) (Z : State) (a0 : Array Value) (hw : ∀ d ∈ tables_1, d.before a0 Z = true) (ws : List Jvm.Cond) (h0 : Heap) (n0 : Nat) (Z0 : n0 ≤ h0.size) (p1 : Int32) (hk : p1 &&& (1 : Int32) = (1 : Int32)) (ad : Nat → Addr) (W : OwnWd Z h0 ad) :
    MetFree l (⟨"com/example/nokkel/nokkel/core/LockModeConflictsWithPinLaw", "mode", "(I)Lcom/example/nokkel/nokkel/core/LockMode;"⟩ : MethodName) (head1 (Jvm.Cond.code (⟨"com/example/nokkel/nokkel/core/LockModeConflictsWithPinLaw", "mode", "(I)Lcom/example/nokkel/nokkel/core/LockMode;"⟩ : MethodName) method_2_code 1 (some (.object "com/example/nokkel/nokkel/core/LockMode")) :: ws) ({ frames := 0, cells := 0, slots := 0, locals := 0 } : Room)) (fun a U => a = #[(.int p1)] ∧ Z.Warmed39 U.vm ∧ U.heap = h0) (fun _ _ _ _ _ => True) (fun _ U o U' => ∃ v L, o = .returned v ∧ QV (some (.ref (ad 1))) h0 n0 v U'.heap L ∧ FrameEnd U o U' L ({ frames := 0, cells := 0, slots := 0, locals := 0 } : Room).cells ({ frames := 0, cells := 0, slots := 0, locals := 0 } : Room).slots) := by
  refine MetFree.of_bodySF (plainFor_of_name own_pn_com_example_nokkel_nokkel_core_LockModeConflictsWithPinLaw) hisR ?_
  intro p e s m args below meth c s₁ Bd hml0 hP hK
  obtain ⟨rfl, hZ, hh⟩ := hP
  have hx := Bd.exec
  have hby := Bd.bytes
  have hml : c.maxLocals = 1 := hml0
  have hown : s.vm.findClass "com/example/nokkel/nokkel/core/LockModeConflictsWithPinLaw" = some m.cls := findClass_of_methodNamed Bd.named
  have hnm := (name_of_methodNamed Bd.named Bd.method).1
  have X0 : Stand p l e ({ frames := 0, cells := 0, slots := 0, locals := 0 } : Room) s m #[(.int p1)] below meth c s₁ [] 0 0 := Stand.of_body Bd
  have e0 : s₁.heap = h0 := by rw [← hh, Bd.state]; rfl
  have N0 := Fr.nil n0
  have pre0 : ∀ t, Steps p.tables e below (s₁.setTop (mkF m 0 #[.val (.int p1)] [])) t → Steps p.tables e below (s₁.setTop (entryFrame m #[(.int p1)] 1)) t := fun t k => castTop (own_ef_own_mode_1 m) k
  obtain ⟨T1, X1, e1, st1⟩ := getS2 X0 hx hZ hown (host := "") (Or.inl (hw _ (List.mem_of_getElem? (i := 7) rfl))) Via.refl e0 (own_S_WRITE W) (g := (mkF m 6 #[.val (.int p1)] [])) rfl (hb hby own_d_method_2_code_6)
  have ch2 : ∀ t, Steps p.tables e below (T1.setTop (mkF m 9 #[.val (.int p1)] [(.ref (ad 1))])) t → Steps p.tables e below (s₁.setTop (entryFrame m #[(.int p1)] 1)) t := fun t k => pre0 t (by
      show Steps p.tables e below (s₁.setTop (mkF m 0 #[.val (.int p1)] [])) t
      refine XS.iloadN X0.here hx rfl (hb hby own_d_method_2_code_0) rfl ?_
      show Steps p.tables e below (s₁.setTop (mkF m 1 #[.val (.int p1)] [(.int p1)])) t
      refine XS.iconst X0.here hx rfl (hb hby own_d_method_2_code_1) ?_
      show Steps p.tables e below (s₁.setTop (mkF m 2 #[.val (.int p1)] [(.int (1 : Int32)), (.int p1)])) t
      refine XS.iand X0.here hx rfl (hb hby own_d_method_2_code_2) rfl ?_
      rw [hk]
      show Steps p.tables e below (s₁.setTop (mkF m 3 #[.val (.int p1)] [(.int (1 : Int32))])) t
      refine XS.ifNo X0.here hx rfl (hb hby own_d_method_2_code_3) rfl ((if0 _ _).trans (feq (by decide : ¬ (1 : Int32) = (0 : Int32))).1) ?_
      show Steps p.tables e below (s₁.setTop (mkF m 6 #[.val (.int p1)] [])) t
      exact st1 t k)
  obtain ⟨fs, hr, hrun, hended, hW, hsame⟩ := X1.leave (v := some (.ref (ad 1))) (fun h => by rw [Bd.returns] at h; cases h)
  refine ⟨_, _, ch2 _ ?_, hrun, hended, _, _, rfl, ?_, ⟨_, rfl⟩, hW, hsame.mono (by decide) (by decide)⟩
  · show Steps p.tables e below (T1.setTop (mkF m 9 #[.val (.int p1)] [(.ref (ad 1))])) _
    jvm_step X1.here [X1.here.top, hx, (hb hby own_d_method_2_code_9), X1.method', Bd.returns, Value.isRef, FieldType.isReference]
    first | (intro acts; rw [hr _ acts rfl rfl rfl]) | rw [hr _ _ rfl rfl rfl]
    exact Steps.refl _
  · show QV (some (.ref (ad 1))) h0 n0 _ T1.heap _
    rw [e1]
    exact ⟨rfl, N0, rfl⟩
theorem own_ef_own_conf_00 (m : MethodId) {x0 : Addr} {x1 : Addr} : entryFrame m #[(.ref x0), (.ref x1)] 2 = mkF m 0 #[.val (.ref x0), .val (.ref x1)] [] := by first | (simp [entryFrame, mkF, argsToLocals, Value.category, maxLocals]; done) | rfl
set_option maxRecDepth 65536 in
set_option maxHeartbeats 40000000 in
theorem own_conf_00 (l : Launch) (Z : State) (a0 : Array Value) (hw : ∀ d ∈ tables_1, d.before a0 Z = true) (ws : List Jvm.Cond) (h0 : Heap) (n0 : Nat) (Z0 : n0 ≤ h0.size) (ad : Nat → Addr) (W : OwnWd Z h0 ad) :
    MetFree l (⟨"com/example/nokkel/nokkel/core/LockMode", "conflictsWith", "(Lcom/example/nokkel/nokkel/core/LockMode;)Z"⟩ : MethodName) (head1 (Jvm.Cond.code (⟨"com/example/nokkel/nokkel/core/LockMode", "conflictsWith", "(Lcom/example/nokkel/nokkel/core/LockMode;)Z"⟩ : MethodName) prog_20_method_4_code 2 (some .boolean) :: ws) ({ frames := 0, cells := 0, slots := 0, locals := 0 } : Room)) (fun a U => a = #[(.ref (ad 0)), (.ref (ad 0))] ∧ Z.Warmed39 U.vm ∧ U.heap = h0) (fun _ _ _ _ _ => True) (fun _ U o U' => ∃ v L, o = .returned v ∧ QV (some (.int (0 : Int32))) h0 n0 v U'.heap L ∧ FrameEnd U o U' L ({ frames := 0, cells := 0, slots := 0, locals := 0 } : Room).cells ({ frames := 0, cells := 0, slots := 0, locals := 0 } : Room).slots) := by
  refine MetFree.of_bodySF (plainFor_of_name own_pn_com_example_nokkel_nokkel_core_LockMode) hisR ?_
  intro p e s m args below meth c s₁ Bd hml0 hP hK
  obtain ⟨rfl, hZ, hh⟩ := hP
  have hx := Bd.exec
  have hby := Bd.bytes
  have hml : c.maxLocals = 2 := hml0
  have hown : s.vm.findClass "com/example/nokkel/nokkel/core/LockMode" = some m.cls := findClass_of_methodNamed Bd.named
  have hnm := (name_of_methodNamed Bd.named Bd.method).1
  have X0 : Stand p l e ({ frames := 0, cells := 0, slots := 0, locals := 0 } : Room) s m #[(.ref (ad 0)), (.ref (ad 0))] below meth c s₁ [] 0 0 := Stand.of_body Bd
  have e0 : s₁.heap = h0 := by rw [← hh, Bd.state]; rfl
  have N0 := Fr.nil n0
  have pre0 : ∀ t, Steps p.tables e below (s₁.setTop (mkF m 0 #[.val (.ref (ad 0)), .val (.ref (ad 0))] [])) t → Steps p.tables e below (s₁.setTop (entryFrame m #[(.ref (ad 0)), (.ref (ad 0))] 2)) t := fun t k => castTop (own_ef_own_conf_00 m) k
  obtain ⟨T1, X1, e1, st1⟩ := getS2 X0 hx hZ hown (host := "") (Or.inl (hw _ (List.mem_of_getElem? (i := 14) rfl))) Via.refl e0 (own_S_WRITE W) (g := (mkF m 1 #[.val (.ref (ad 0)), .val (.ref (ad 0))] [(.ref (ad 0))])) rfl (hb hby own_d_prog_20_method_4_code_1)
  have ch2 : ∀ t, Steps p.tables e below (T1.setTop (mkF m 4 #[.val (.ref (ad 0)), .val (.ref (ad 0))] [(.ref (ad 1)), (.ref (ad 0))])) t → Steps p.tables e below (s₁.setTop (entryFrame m #[(.ref (ad 0)), (.ref (ad 0))] 2)) t := fun t k => pre0 t (by
      show Steps p.tables e below (s₁.setTop (mkF m 0 #[.val (.ref (ad 0)), .val (.ref (ad 0))] [])) t
      refine XS.aloadN X0.here hx rfl (hb hby own_d_prog_20_method_4_code_0) rfl rfl ?_
      show Steps p.tables e below (s₁.setTop (mkF m 1 #[.val (.ref (ad 0)), .val (.ref (ad 0))] [(.ref (ad 0))])) t
      exact st1 t k)
  obtain ⟨T3, X3, e3, st3⟩ := getS2 X1 hx hZ hown (host := "") (Or.inl (hw _ (List.mem_of_getElem? (i := 14) rfl))) Via.refl e1 (own_S_WRITE W) (g := (mkF m 8 #[.val (.ref (ad 0)), .val (.ref (ad 0))] [(.ref (ad 0))])) rfl (hb hby own_d_prog_20_method_4_code_8)
  have ch4 : ∀ t, Steps p.tables e below (T3.setTop (mkF m 11 #[.val (.ref (ad 0)), .val (.ref (ad 0))] [(.ref (ad 1)), (.ref (ad 0))])) t → Steps p.tables e below (s₁.setTop (entryFrame m #[(.ref (ad 0)), (.ref (ad 0))] 2)) t := fun t k => ch2 t (by
      show Steps p.tables e below (T1.setTop (mkF m 4 #[.val (.ref (ad 0)), .val (.ref (ad 0))] [(.ref (ad 1)), (.ref (ad 0))])) t
      refine Jvm.RoadKit.acmp (g := (mkF m 4 #[.val (.ref (ad 0)), .val (.ref (ad 0))] [(.ref (ad 1)), (.ref (ad 0))])) X1 hx rfl rfl rfl (pc0 := 4) (pc' := 7) (same := false) rfl (hb hby own_d_prog_20_method_4_code_4) rfl (decide_eq_false fun q => (Fld.ne (own_F_READ_ordinal W) (own_F_WRITE_ordinal W) (by decide)) (Value.ref.inj q)) (by decide) (by decide) ?_
      show Steps p.tables e below (T1.setTop (mkF m 7 #[.val (.ref (ad 0)), .val (.ref (ad 0))] [])) t
      refine XS.aloadN X1.here hx rfl (hb hby own_d_prog_20_method_4_code_7) rfl rfl ?_
      show Steps p.tables e below (T1.setTop (mkF m 8 #[.val (.ref (ad 0)), .val (.ref (ad 0))] [(.ref (ad 0))])) t
      exact st3 t k)
  have ch5 : ∀ t, Steps p.tables e below (T3.setTop (mkF m 19 #[.val (.ref (ad 0)), .val (.ref (ad 0))] [(.int (0 : Int32))])) t → Steps p.tables e below (s₁.setTop (entryFrame m #[(.ref (ad 0)), (.ref (ad 0))] 2)) t := fun t k => ch4 t (by
      show Steps p.tables e below (T3.setTop (mkF m 11 #[.val (.ref (ad 0)), .val (.ref (ad 0))] [(.ref (ad 1)), (.ref (ad 0))])) t
      refine Jvm.RoadKit.acmp (g := (mkF m 11 #[.val (.ref (ad 0)), .val (.ref (ad 0))] [(.ref (ad 1)), (.ref (ad 0))])) X3 hx rfl rfl rfl (pc0 := 11) (pc' := 18) (same := false) rfl (hb hby own_d_prog_20_method_4_code_11) rfl (decide_eq_false fun q => (Fld.ne (own_F_READ_ordinal W) (own_F_WRITE_ordinal W) (by decide)) (Value.ref.inj q)) (by decide) (by decide) ?_
      show Steps p.tables e below (T3.setTop (mkF m 18 #[.val (.ref (ad 0)), .val (.ref (ad 0))] [])) t
      refine XS.iconst X3.here hx rfl (hb hby own_d_prog_20_method_4_code_18) ?_
      exact k)
  obtain ⟨fs, hr, hrun, hended, hW, hsame⟩ := X3.leave (v := some (.int (0 : Int32))) (fun h => by rw [Bd.returns] at h; cases h)
  refine ⟨_, _, ch5 _ ?_, hrun, hended, _, _, rfl, ?_, ⟨_, rfl⟩, hW, hsame.mono (by decide) (by decide)⟩
  · show Steps p.tables e below (T3.setTop (mkF m 19 #[.val (.ref (ad 0)), .val (.ref (ad 0))] [(.int (0 : Int32))])) _
    exact retN X3 hx (t := .boolean) Bd.returns (by simp) (hb hby own_d_prog_20_method_4_code_19) hr
  · show QV (some (.int (0 : Int32))) h0 n0 _ T3.heap _
    rw [e3]
    exact ⟨rfl, N0, rfl⟩
theorem own_ef_own_conf_01 (m : MethodId) {x0 : Addr} {x1 : Addr} : entryFrame m #[(.ref x0), (.ref x1)] 2 = mkF m 0 #[.val (.ref x0), .val (.ref x1)] [] := by first | (simp [entryFrame, mkF, argsToLocals, Value.category, maxLocals]; done) | rfl
set_option maxRecDepth 65536 in
set_option maxHeartbeats 40000000 in
theorem own_conf_01 (l : Launch) (Z : State) (a0 : Array Value) (hw : ∀ d ∈ tables_1, d.before a0 Z = true) (ws : List Jvm.Cond) (h0 : Heap) (n0 : Nat) (Z0 : n0 ≤ h0.size) (ad : Nat → Addr) (W : OwnWd Z h0 ad) :
    MetFree l (⟨"com/example/nokkel/nokkel/core/LockMode", "conflictsWith", "(Lcom/example/nokkel/nokkel/core/LockMode;)Z"⟩ : MethodName) (head1 (Jvm.Cond.code (⟨"com/example/nokkel/nokkel/core/LockMode", "conflictsWith", "(Lcom/example/nokkel/nokkel/core/LockMode;)Z"⟩ : MethodName) prog_20_method_4_code 2 (some .boolean) :: ws) ({ frames := 0, cells := 0, slots := 0, locals := 0 } : Room)) (fun a U => a = #[(.ref (ad 0)), (.ref (ad 1))] ∧ Z.Warmed39 U.vm ∧ U.heap = h0) (fun _ _ _ _ _ => True) (fun _ U o U' => ∃ v L, o = .returned v ∧ QV (some (.int (1 : Int32))) h0 n0 v U'.heap L ∧ FrameEnd U o U' L ({ frames := 0, cells := 0, slots := 0, locals := 0 } : Room).cells ({ frames := 0, cells := 0, slots := 0, locals := 0 } : Room).slots) := by
  refine MetFree.of_bodySF (plainFor_of_name own_pn_com_example_nokkel_nokkel_core_LockMode) hisR ?_
  intro p e s m args below meth c s₁ Bd hml0 hP hK
  obtain ⟨rfl, hZ, hh⟩ := hP
  have hx := Bd.exec
  have hby := Bd.bytes
  have hml : c.maxLocals = 2 := hml0
  have hown : s.vm.findClass "com/example/nokkel/nokkel/core/LockMode" = some m.cls := findClass_of_methodNamed Bd.named
  have hnm := (name_of_methodNamed Bd.named Bd.method).1
  have X0 : Stand p l e ({ frames := 0, cells := 0, slots := 0, locals := 0 } : Room) s m #[(.ref (ad 0)), (.ref (ad 1))] below meth c s₁ [] 0 0 := Stand.of_body Bd
  have e0 : s₁.heap = h0 := by rw [← hh, Bd.state]; rfl
  have N0 := Fr.nil n0
  have pre0 : ∀ t, Steps p.tables e below (s₁.setTop (mkF m 0 #[.val (.ref (ad 0)), .val (.ref (ad 1))] [])) t → Steps p.tables e below (s₁.setTop (entryFrame m #[(.ref (ad 0)), (.ref (ad 1))] 2)) t := fun t k => castTop (own_ef_own_conf_01 m) k
  obtain ⟨T1, X1, e1, st1⟩ := getS2 X0 hx hZ hown (host := "") (Or.inl (hw _ (List.mem_of_getElem? (i := 14) rfl))) Via.refl e0 (own_S_WRITE W) (g := (mkF m 1 #[.val (.ref (ad 0)), .val (.ref (ad 1))] [(.ref (ad 0))])) rfl (hb hby own_d_prog_20_method_4_code_1)
  have ch2 : ∀ t, Steps p.tables e below (T1.setTop (mkF m 4 #[.val (.ref (ad 0)), .val (.ref (ad 1))] [(.ref (ad 1)), (.ref (ad 0))])) t → Steps p.tables e below (s₁.setTop (entryFrame m #[(.ref (ad 0)), (.ref (ad 1))] 2)) t := fun t k => pre0 t (by
      show Steps p.tables e below (s₁.setTop (mkF m 0 #[.val (.ref (ad 0)), .val (.ref (ad 1))] [])) t
      refine XS.aloadN X0.here hx rfl (hb hby own_d_prog_20_method_4_code_0) rfl rfl ?_
      show Steps p.tables e below (s₁.setTop (mkF m 1 #[.val (.ref (ad 0)), .val (.ref (ad 1))] [(.ref (ad 0))])) t
      exact st1 t k)
  obtain ⟨T3, X3, e3, st3⟩ := getS2 X1 hx hZ hown (host := "") (Or.inl (hw _ (List.mem_of_getElem? (i := 14) rfl))) Via.refl e1 (own_S_WRITE W) (g := (mkF m 8 #[.val (.ref (ad 0)), .val (.ref (ad 1))] [(.ref (ad 1))])) rfl (hb hby own_d_prog_20_method_4_code_8)
  have ch4 : ∀ t, Steps p.tables e below (T3.setTop (mkF m 11 #[.val (.ref (ad 0)), .val (.ref (ad 1))] [(.ref (ad 1)), (.ref (ad 1))])) t → Steps p.tables e below (s₁.setTop (entryFrame m #[(.ref (ad 0)), (.ref (ad 1))] 2)) t := fun t k => ch2 t (by
      show Steps p.tables e below (T1.setTop (mkF m 4 #[.val (.ref (ad 0)), .val (.ref (ad 1))] [(.ref (ad 1)), (.ref (ad 0))])) t
      refine Jvm.RoadKit.acmp (g := (mkF m 4 #[.val (.ref (ad 0)), .val (.ref (ad 1))] [(.ref (ad 1)), (.ref (ad 0))])) X1 hx rfl rfl rfl (pc0 := 4) (pc' := 7) (same := false) rfl (hb hby own_d_prog_20_method_4_code_4) rfl (decide_eq_false fun q => (Fld.ne (own_F_READ_ordinal W) (own_F_WRITE_ordinal W) (by decide)) (Value.ref.inj q)) (by decide) (by decide) ?_
      show Steps p.tables e below (T1.setTop (mkF m 7 #[.val (.ref (ad 0)), .val (.ref (ad 1))] [])) t
      refine XS.aloadN X1.here hx rfl (hb hby own_d_prog_20_method_4_code_7) rfl rfl ?_
      show Steps p.tables e below (T1.setTop (mkF m 8 #[.val (.ref (ad 0)), .val (.ref (ad 1))] [(.ref (ad 1))])) t
      exact st3 t k)
  have ch5 : ∀ t, Steps p.tables e below (T3.setTop (mkF m 19 #[.val (.ref (ad 0)), .val (.ref (ad 1))] [(.int (1 : Int32))])) t → Steps p.tables e below (s₁.setTop (entryFrame m #[(.ref (ad 0)), (.ref (ad 1))] 2)) t := fun t k => ch4 t (by
      show Steps p.tables e below (T3.setTop (mkF m 11 #[.val (.ref (ad 0)), .val (.ref (ad 1))] [(.ref (ad 1)), (.ref (ad 1))])) t
      refine Jvm.RoadKit.acmp (g := (mkF m 11 #[.val (.ref (ad 0)), .val (.ref (ad 1))] [(.ref (ad 1)), (.ref (ad 1))])) X3 hx rfl rfl rfl (pc0 := 11) (pc' := 14) (same := true) rfl (hb hby own_d_prog_20_method_4_code_11) rfl (decide_eq_true rfl) (by decide) (by decide) ?_
      show Steps p.tables e below (T3.setTop (mkF m 14 #[.val (.ref (ad 0)), .val (.ref (ad 1))] [])) t
      refine XS.iconst X3.here hx rfl (hb hby own_d_prog_20_method_4_code_14) ?_
      show Steps p.tables e below (T3.setTop (mkF m 15 #[.val (.ref (ad 0)), .val (.ref (ad 1))] [(.int (1 : Int32))])) t
      refine XS.goto X3.here hx rfl (pc0 := 15) (pc' := 19) rfl (hb hby own_d_prog_20_method_4_code_15) (by decide) (by decide) ?_
      exact k)
  obtain ⟨fs, hr, hrun, hended, hW, hsame⟩ := X3.leave (v := some (.int (1 : Int32))) (fun h => by rw [Bd.returns] at h; cases h)
  refine ⟨_, _, ch5 _ ?_, hrun, hended, _, _, rfl, ?_, ⟨_, rfl⟩, hW, hsame.mono (by decide) (by decide)⟩
  · show Steps p.tables e below (T3.setTop (mkF m 19 #[.val (.ref (ad 0)), .val (.ref (ad 1))] [(.int (1 : Int32))])) _
    exact retN X3 hx (t := .boolean) Bd.returns (by simp) (hb hby own_d_prog_20_method_4_code_19) hr
  · show QV (some (.int (1 : Int32))) h0 n0 _ T3.heap _
    rw [e3]
    exact ⟨rfl, N0, rfl⟩
theorem own_ef_own_conf_10 (m : MethodId) {x0 : Addr} {x1 : Addr} : entryFrame m #[(.ref x0), (.ref x1)] 2 = mkF m 0 #[.val (.ref x0), .val (.ref x1)] [] := by first | (simp [entryFrame, mkF, argsToLocals, Value.category, maxLocals]; done) | rfl
set_option maxRecDepth 65536 in
set_option maxHeartbeats 40000000 in
theorem own_conf_10 (l : Launch) (Z : State) (a0 : Array Value) (hw : ∀ d ∈ tables_1, d.before a0 Z = true) (ws : List Jvm.Cond) (h0 : Heap) (n0 : Nat) (Z0 : n0 ≤ h0.size) (ad : Nat → Addr) (W : OwnWd Z h0 ad) :
    MetFree l (⟨"com/example/nokkel/nokkel/core/LockMode", "conflictsWith", "(Lcom/example/nokkel/nokkel/core/LockMode;)Z"⟩ : MethodName) (head1 (Jvm.Cond.code (⟨"com/example/nokkel/nokkel/core/LockMode", "conflictsWith", "(Lcom/example/nokkel/nokkel/core/LockMode;)Z"⟩ : MethodName) prog_20_method_4_code 2 (some .boolean) :: ws) ({ frames := 0, cells := 0, slots := 0, locals := 0 } : Room)) (fun a U => a = #[(.ref (ad 1)), (.ref (ad 0))] ∧ Z.Warmed39 U.vm ∧ U.heap = h0) (fun _ _ _ _ _ => True) (fun _ U o U' => ∃ v L, o = .returned v ∧ QV (some (.int (1 : Int32))) h0 n0 v U'.heap L ∧ FrameEnd U o U' L ({ frames := 0, cells := 0, slots := 0, locals := 0 } : Room).cells ({ frames := 0, cells := 0, slots := 0, locals := 0 } : Room).slots) := by
  refine MetFree.of_bodySF (plainFor_of_name own_pn_com_example_nokkel_nokkel_core_LockMode) hisR ?_
  intro p e s m args below meth c s₁ Bd hml0 hP hK
  obtain ⟨rfl, hZ, hh⟩ := hP
  have hx := Bd.exec
  have hby := Bd.bytes
  have hml : c.maxLocals = 2 := hml0
  have hown : s.vm.findClass "com/example/nokkel/nokkel/core/LockMode" = some m.cls := findClass_of_methodNamed Bd.named
  have hnm := (name_of_methodNamed Bd.named Bd.method).1
  have X0 : Stand p l e ({ frames := 0, cells := 0, slots := 0, locals := 0 } : Room) s m #[(.ref (ad 1)), (.ref (ad 0))] below meth c s₁ [] 0 0 := Stand.of_body Bd
  have e0 : s₁.heap = h0 := by rw [← hh, Bd.state]; rfl
  have N0 := Fr.nil n0
  have pre0 : ∀ t, Steps p.tables e below (s₁.setTop (mkF m 0 #[.val (.ref (ad 1)), .val (.ref (ad 0))] [])) t → Steps p.tables e below (s₁.setTop (entryFrame m #[(.ref (ad 1)), (.ref (ad 0))] 2)) t := fun t k => castTop (own_ef_own_conf_10 m) k
  obtain ⟨T1, X1, e1, st1⟩ := getS2 X0 hx hZ hown (host := "") (Or.inl (hw _ (List.mem_of_getElem? (i := 14) rfl))) Via.refl e0 (own_S_WRITE W) (g := (mkF m 1 #[.val (.ref (ad 1)), .val (.ref (ad 0))] [(.ref (ad 1))])) rfl (hb hby own_d_prog_20_method_4_code_1)
  have ch2 : ∀ t, Steps p.tables e below (T1.setTop (mkF m 4 #[.val (.ref (ad 1)), .val (.ref (ad 0))] [(.ref (ad 1)), (.ref (ad 1))])) t → Steps p.tables e below (s₁.setTop (entryFrame m #[(.ref (ad 1)), (.ref (ad 0))] 2)) t := fun t k => pre0 t (by
      show Steps p.tables e below (s₁.setTop (mkF m 0 #[.val (.ref (ad 1)), .val (.ref (ad 0))] [])) t
      refine XS.aloadN X0.here hx rfl (hb hby own_d_prog_20_method_4_code_0) rfl rfl ?_
      show Steps p.tables e below (s₁.setTop (mkF m 1 #[.val (.ref (ad 1)), .val (.ref (ad 0))] [(.ref (ad 1))])) t
      exact st1 t k)
  have ch3 : ∀ t, Steps p.tables e below (T1.setTop (mkF m 19 #[.val (.ref (ad 1)), .val (.ref (ad 0))] [(.int (1 : Int32))])) t → Steps p.tables e below (s₁.setTop (entryFrame m #[(.ref (ad 1)), (.ref (ad 0))] 2)) t := fun t k => ch2 t (by
      show Steps p.tables e below (T1.setTop (mkF m 4 #[.val (.ref (ad 1)), .val (.ref (ad 0))] [(.ref (ad 1)), (.ref (ad 1))])) t
      refine Jvm.RoadKit.acmp (g := (mkF m 4 #[.val (.ref (ad 1)), .val (.ref (ad 0))] [(.ref (ad 1)), (.ref (ad 1))])) X1 hx rfl rfl rfl (pc0 := 4) (pc' := 14) (same := true) rfl (hb hby own_d_prog_20_method_4_code_4) rfl (decide_eq_true rfl) (by decide) (by decide) ?_
      show Steps p.tables e below (T1.setTop (mkF m 14 #[.val (.ref (ad 1)), .val (.ref (ad 0))] [])) t
      refine XS.iconst X1.here hx rfl (hb hby own_d_prog_20_method_4_code_14) ?_
      show Steps p.tables e below (T1.setTop (mkF m 15 #[.val (.ref (ad 1)), .val (.ref (ad 0))] [(.int (1 : Int32))])) t
      refine XS.goto X1.here hx rfl (pc0 := 15) (pc' := 19) rfl (hb hby own_d_prog_20_method_4_code_15) (by decide) (by decide) ?_
      exact k)
  obtain ⟨fs, hr, hrun, hended, hW, hsame⟩ := X1.leave (v := some (.int (1 : Int32))) (fun h => by rw [Bd.returns] at h; cases h)
  refine ⟨_, _, ch3 _ ?_, hrun, hended, _, _, rfl, ?_, ⟨_, rfl⟩, hW, hsame.mono (by decide) (by decide)⟩
  · show Steps p.tables e below (T1.setTop (mkF m 19 #[.val (.ref (ad 1)), .val (.ref (ad 0))] [(.int (1 : Int32))])) _
    exact retN X1 hx (t := .boolean) Bd.returns (by simp) (hb hby own_d_prog_20_method_4_code_19) hr
  · show QV (some (.int (1 : Int32))) h0 n0 _ T1.heap _
    rw [e1]
    exact ⟨rfl, N0, rfl⟩
theorem own_ef_own_conf_11 (m : MethodId) {x0 : Addr} {x1 : Addr} : entryFrame m #[(.ref x0), (.ref x1)] 2 = mkF m 0 #[.val (.ref x0), .val (.ref x1)] [] := by first | (simp [entryFrame, mkF, argsToLocals, Value.category, maxLocals]; done) | rfl
set_option maxRecDepth 65536 in
set_option maxHeartbeats 40000000 in
theorem own_conf_11 (l : Launch) (Z : State) (a0 : Array Value) (hw : ∀ d ∈ tables_1, d.before a0 Z = true) (ws : List Jvm.Cond) (h0 : Heap) (n0 : Nat) (Z0 : n0 ≤ h0.size) (ad : Nat → Addr) (W : OwnWd Z h0 ad) :
    MetFree l (⟨"com/example/nokkel/nokkel/core/LockMode", "conflictsWith", "(Lcom/example/nokkel/nokkel/core/LockMode;)Z"⟩ : MethodName) (head1 (Jvm.Cond.code (⟨"com/example/nokkel/nokkel/core/LockMode", "conflictsWith", "(Lcom/example/nokkel/nokkel/core/LockMode;)Z"⟩ : MethodName) prog_20_method_4_code 2 (some .boolean) :: ws) ({ frames := 0, cells := 0, slots := 0, locals := 0 } : Room)) (fun a U => a = #[(.ref (ad 1)), (.ref (ad 1))] ∧ Z.Warmed39 U.vm ∧ U.heap = h0) (fun _ _ _ _ _ => True) (fun _ U o U' => ∃ v L, o = .returned v ∧ QV (some (.int (1 : Int32))) h0 n0 v U'.heap L ∧ FrameEnd U o U' L ({ frames := 0, cells := 0, slots := 0, locals := 0 } : Room).cells ({ frames := 0, cells := 0, slots := 0, locals := 0 } : Room).slots) := by
  refine MetFree.of_bodySF (plainFor_of_name own_pn_com_example_nokkel_nokkel_core_LockMode) hisR ?_
  intro p e s m args below meth c s₁ Bd hml0 hP hK
  obtain ⟨rfl, hZ, hh⟩ := hP
  have hx := Bd.exec
  have hby := Bd.bytes
  have hml : c.maxLocals = 2 := hml0
  have hown : s.vm.findClass "com/example/nokkel/nokkel/core/LockMode" = some m.cls := findClass_of_methodNamed Bd.named
  have hnm := (name_of_methodNamed Bd.named Bd.method).1
  have X0 : Stand p l e ({ frames := 0, cells := 0, slots := 0, locals := 0 } : Room) s m #[(.ref (ad 1)), (.ref (ad 1))] below meth c s₁ [] 0 0 := Stand.of_body Bd
  have e0 : s₁.heap = h0 := by rw [← hh, Bd.state]; rfl
  have N0 := Fr.nil n0
  have pre0 : ∀ t, Steps p.tables e below (s₁.setTop (mkF m 0 #[.val (.ref (ad 1)), .val (.ref (ad 1))] [])) t → Steps p.tables e below (s₁.setTop (entryFrame m #[(.ref (ad 1)), (.ref (ad 1))] 2)) t := fun t k => castTop (own_ef_own_conf_11 m) k
  obtain ⟨T1, X1, e1, st1⟩ := getS2 X0 hx hZ hown (host := "") (Or.inl (hw _ (List.mem_of_getElem? (i := 14) rfl))) Via.refl e0 (own_S_WRITE W) (g := (mkF m 1 #[.val (.ref (ad 1)), .val (.ref (ad 1))] [(.ref (ad 1))])) rfl (hb hby own_d_prog_20_method_4_code_1)
  have ch2 : ∀ t, Steps p.tables e below (T1.setTop (mkF m 4 #[.val (.ref (ad 1)), .val (.ref (ad 1))] [(.ref (ad 1)), (.ref (ad 1))])) t → Steps p.tables e below (s₁.setTop (entryFrame m #[(.ref (ad 1)), (.ref (ad 1))] 2)) t := fun t k => pre0 t (by
      show Steps p.tables e below (s₁.setTop (mkF m 0 #[.val (.ref (ad 1)), .val (.ref (ad 1))] [])) t
      refine XS.aloadN X0.here hx rfl (hb hby own_d_prog_20_method_4_code_0) rfl rfl ?_
      show Steps p.tables e below (s₁.setTop (mkF m 1 #[.val (.ref (ad 1)), .val (.ref (ad 1))] [(.ref (ad 1))])) t
      exact st1 t k)
  have ch3 : ∀ t, Steps p.tables e below (T1.setTop (mkF m 19 #[.val (.ref (ad 1)), .val (.ref (ad 1))] [(.int (1 : Int32))])) t → Steps p.tables e below (s₁.setTop (entryFrame m #[(.ref (ad 1)), (.ref (ad 1))] 2)) t := fun t k => ch2 t (by
      show Steps p.tables e below (T1.setTop (mkF m 4 #[.val (.ref (ad 1)), .val (.ref (ad 1))] [(.ref (ad 1)), (.ref (ad 1))])) t
      refine Jvm.RoadKit.acmp (g := (mkF m 4 #[.val (.ref (ad 1)), .val (.ref (ad 1))] [(.ref (ad 1)), (.ref (ad 1))])) X1 hx rfl rfl rfl (pc0 := 4) (pc' := 14) (same := true) rfl (hb hby own_d_prog_20_method_4_code_4) rfl (decide_eq_true rfl) (by decide) (by decide) ?_
      show Steps p.tables e below (T1.setTop (mkF m 14 #[.val (.ref (ad 1)), .val (.ref (ad 1))] [])) t
      refine XS.iconst X1.here hx rfl (hb hby own_d_prog_20_method_4_code_14) ?_
      show Steps p.tables e below (T1.setTop (mkF m 15 #[.val (.ref (ad 1)), .val (.ref (ad 1))] [(.int (1 : Int32))])) t
      refine XS.goto X1.here hx rfl (pc0 := 15) (pc' := 19) rfl (hb hby own_d_prog_20_method_4_code_15) (by decide) (by decide) ?_
      exact k)
  obtain ⟨fs, hr, hrun, hended, hW, hsame⟩ := X1.leave (v := some (.int (1 : Int32))) (fun h => by rw [Bd.returns] at h; cases h)
  refine ⟨_, _, ch3 _ ?_, hrun, hended, _, _, rfl, ?_, ⟨_, rfl⟩, hW, hsame.mono (by decide) (by decide)⟩
  · show Steps p.tables e below (T1.setTop (mkF m 19 #[.val (.ref (ad 1)), .val (.ref (ad 1))] [(.int (1 : Int32))])) _
    exact retN X1 hx (t := .boolean) Bd.returns (by simp) (hb hby own_d_prog_20_method_4_code_19) hr
  · show QV (some (.int (1 : Int32))) h0 n0 _ T1.heap _
    rw [e1]
    exact ⟨rfl, N0, rfl⟩
theorem own_ef_own_law_00 (m : MethodId) {x0 : Int32} {x1 : Int32} : entryFrame m #[(.int x0), (.int x1)] maxLocals = mkF m 0 #[.val (.int x0), .val (.int x1), .unset, .unset, .unset, .unset, .unset] [] := by first | (simp [entryFrame, mkF, argsToLocals, Value.category, maxLocals]; done) | rfl
set_option maxRecDepth 65536 in
set_option maxHeartbeats 40000000 in
theorem own_law_00 (l : Launch) (Z : State) (a0 : Array Value) (hw : ∀ d ∈ tables_1, d.before a0 Z = true) (ws : List Jvm.Cond) (h0 : Heap) (n0 : Nat) (Z0 : n0 ≤ h0.size) (p1 p2 : Int32) (hk : p1 &&& (1 : Int32) = (0 : Int32)) (hj : p2 &&& (1 : Int32) = (0 : Int32)) (ad : Nat → Addr) (W : OwnWd Z h0 ad) :
    MetFree l x (head1 (Jvm.Cond.code x code maxLocals ret :: ws) room_1) (fun a U => a = #[(.int p1), (.int p2)] ∧ Z.Warmed39 U.vm ∧ U.heap = h0) (fun _ _ _ _ _ => True) (fun _ U o U' => ∃ v L, o = .returned v ∧ QN (some (.int (1 : Int32))) n0 v U'.heap L ∧ FrameEnd U o U' L room_1.cells room_1.slots) := by
  refine MetFree.of_bodySF (plainFor_of_name own_pn_com_example_nokkel_nokkel_core_LockModeConflictsWithPinLaw) hisR ?_
  intro p e s m args below meth c s₁ Bd hml0 hP hK
  obtain ⟨rfl, hZ, hh⟩ := hP
  have hx := Bd.exec
  have hby := Bd.bytes
  have hml : c.maxLocals = 7 := hml0
  have hown : s.vm.findClass "com/example/nokkel/nokkel/core/LockModeConflictsWithPinLaw" = some m.cls := findClass_of_methodNamed Bd.named
  have hnm := (name_of_methodNamed Bd.named Bd.method).1
  have X0 : Stand p l e room_1 s m #[(.int p1), (.int p2)] below meth c s₁ [] 0 0 := Stand.of_body Bd
  have e0 : s₁.heap = h0 := by rw [← hh, Bd.state]; rfl
  have N0 := Fr.nil n0
  have pre0 : ∀ t, Steps p.tables e below (s₁.setTop (mkF m 0 #[.val (.int p1), .val (.int p2), .unset, .unset, .unset, .unset, .unset] [])) t → Steps p.tables e below (s₁.setTop (entryFrame m #[(.int p1), (.int p2)] maxLocals)) t := fun t k => castTop (own_ef_own_law_00 m) k
  obtain ⟨vv1, _, ⟨T1, L1, kk1, nn1⟩, -, X1, ⟨Lc1, hQ1, l1, y1, z1⟩, st1⟩ := Jvm.LawKit.callS X0 hx (y := (⟨"com/example/nokkel/nokkel/core/LockModeConflictsWithPinLaw", "mode", "(I)Lcom/example/nokkel/nokkel/core/LockMode;"⟩ : MethodName)) hown (mvT hZ (hw _ (List.mem_of_getElem? (i := 0) rfl))) (mvT hZ (hw _ (List.mem_of_getElem? (i := 1) rfl))) (mvT hZ (hw _ (List.mem_of_getElem? (i := 2) rfl))) (mvT hZ (hw _ (List.mem_of_getElem? (i := 3) rfl))) (by decide) (backOf (W := 0) (own_mode_0 l Z a0 hw [] h0 n0 Z0  p1 hk ad W) hZ (hw _ (List.mem_of_getElem? (i := 3) rfl)) (hw _ (List.mem_of_getElem? (i := 2) rfl)) (by decide) (by decide)) (g := (mkF m 1 #[.val (.int p1), .val (.int p2), .unset, .unset, .unset, .unset, .unset] [(.int p1)])) rfl (by rw [hml]; rfl) (argsL := [(.int p1)]) (rest := []) (lenOf own_pd__I_Lcom_example_nokkel_nokkel_core_LockMode_ rfl) rfl (by show 2 * 0 + _ ≤ _; exact Nat.le_of_eq rfl) (hb hby at_1) (fun _ _ => ⟨rfl, e0, (by decide : 0 + 0 ≤ _), (by decide : 0 + 0 ≤ _)⟩)
  dsimp only [Pt.U, Pt.locs, Pt.cells, Pt.slots] at X1 l1 y1 z1 st1 hQ1
  subst l1 y1 z1
  obtain ⟨rfl, Nq1, e1⟩ := hQ1
  have N1 := Fr.app N0 Nq1
  have ch2 : ∀ t, Steps p.tables e below (T1.setTop (mkF m 4 #[.val (.int p1), .val (.int p2), .unset, .unset, .unset, .unset, .unset] [(.ref (ad 0))])) t → Steps p.tables e below (s₁.setTop (entryFrame m #[(.int p1), (.int p2)] maxLocals)) t := fun t k => pre0 t (by
      show Steps p.tables e below (s₁.setTop (mkF m 0 #[.val (.int p1), .val (.int p2), .unset, .unset, .unset, .unset, .unset] [])) t
      refine XS.iloadN X0.here hx rfl (hb hby at_0) rfl ?_
      show Steps p.tables e below (s₁.setTop (mkF m 1 #[.val (.int p1), .val (.int p2), .unset, .unset, .unset, .unset, .unset] [(.int p1)])) t
      exact st1 t k)
  obtain ⟨vv3, _, ⟨T3, L3, kk3, nn3⟩, -, X3, ⟨Lc3, hQ3, l3, y3, z3⟩, st3⟩ := Jvm.LawKit.callS X1 hx (y := (⟨"com/example/nokkel/nokkel/core/LockModeConflictsWithPinLaw", "mode", "(I)Lcom/example/nokkel/nokkel/core/LockMode;"⟩ : MethodName)) hown (mvT hZ (hw _ (List.mem_of_getElem? (i := 0) rfl))) (mvT hZ (hw _ (List.mem_of_getElem? (i := 1) rfl))) (mvT hZ (hw _ (List.mem_of_getElem? (i := 2) rfl))) (mvT hZ (hw _ (List.mem_of_getElem? (i := 3) rfl))) (by decide) (backOf (W := 0) (own_mode_0 l Z a0 hw [] h0 n0 Z0  p2 hj ad W) hZ (hw _ (List.mem_of_getElem? (i := 3) rfl)) (hw _ (List.mem_of_getElem? (i := 2) rfl)) (by decide) (by decide)) (g := (mkF m 6 #[.val (.int p1), .val (.int p2), .val (.ref (ad 0)), .unset, .unset, .unset, .unset] [(.int p2)])) rfl (by rw [hml]; rfl) (argsL := [(.int p2)]) (rest := []) (lenOf own_pd__I_Lcom_example_nokkel_nokkel_core_LockMode_ rfl) rfl (by show 2 * 0 + _ ≤ _; exact Nat.le_of_eq rfl) (hb hby at_6) (fun _ _ => ⟨rfl, e1, (by decide : 0 + 0 ≤ _), (by decide : 0 + 0 ≤ _)⟩)
  dsimp only [Pt.U, Pt.locs, Pt.cells, Pt.slots] at X3 l3 y3 z3 st3 hQ3
  subst l3 y3 z3
  obtain ⟨rfl, Nq3, e3⟩ := hQ3
  have N3 := Fr.app N1 Nq3
  have ch4 : ∀ t, Steps p.tables e below (T3.setTop (mkF m 9 #[.val (.int p1), .val (.int p2), .val (.ref (ad 0)), .unset, .unset, .unset, .unset] [(.ref (ad 0))])) t → Steps p.tables e below (s₁.setTop (entryFrame m #[(.int p1), (.int p2)] maxLocals)) t := fun t k => ch2 t (by
      show Steps p.tables e below (T1.setTop (mkF m 4 #[.val (.int p1), .val (.int p2), .unset, .unset, .unset, .unset, .unset] [(.ref (ad 0))])) t
      refine XS.astoreN X1.here hx rfl (hb hby at_4) rfl rfl (l' := #[.val (.int p1), .val (.int p2), .val (.ref (ad 0)), .unset, .unset, .unset, .unset]) rfl ?_
      show Steps p.tables e below (T1.setTop (mkF m 5 #[.val (.int p1), .val (.int p2), .val (.ref (ad 0)), .unset, .unset, .unset, .unset] [])) t
      refine XS.iloadN X1.here hx rfl (hb hby at_5) rfl ?_
      show Steps p.tables e below (T1.setTop (mkF m 6 #[.val (.int p1), .val (.int p2), .val (.ref (ad 0)), .unset, .unset, .unset, .unset] [(.int p2)])) t
      exact st3 t k)
  obtain ⟨T5, X5, e5, st5⟩ := getS2 X3 hx hZ hown (host := "") (Or.inl (hw _ (List.mem_of_getElem? (i := 4) rfl))) Via.refl e3 (own_S_READ W) (g := (mkF m 11 #[.val (.int p1), .val (.int p2), .val (.ref (ad 0)), .val (.ref (ad 0)), .unset, .unset, .unset] [(.ref (ad 0))])) rfl (hb hby at_11)
  have ch6 : ∀ t, Steps p.tables e below (T5.setTop (mkF m 14 #[.val (.int p1), .val (.int p2), .val (.ref (ad 0)), .val (.ref (ad 0)), .unset, .unset, .unset] [(.ref (ad 0)), (.ref (ad 0))])) t → Steps p.tables e below (s₁.setTop (entryFrame m #[(.int p1), (.int p2)] maxLocals)) t := fun t k => ch4 t (by
      show Steps p.tables e below (T3.setTop (mkF m 9 #[.val (.int p1), .val (.int p2), .val (.ref (ad 0)), .unset, .unset, .unset, .unset] [(.ref (ad 0))])) t
      refine XS.astoreN X3.here hx rfl (hb hby at_9) rfl rfl (l' := #[.val (.int p1), .val (.int p2), .val (.ref (ad 0)), .val (.ref (ad 0)), .unset, .unset, .unset]) rfl ?_
      show Steps p.tables e below (T3.setTop (mkF m 10 #[.val (.int p1), .val (.int p2), .val (.ref (ad 0)), .val (.ref (ad 0)), .unset, .unset, .unset] [])) t
      refine XS.aloadN X3.here hx rfl (hb hby at_10) rfl rfl ?_
      show Steps p.tables e below (T3.setTop (mkF m 11 #[.val (.int p1), .val (.int p2), .val (.ref (ad 0)), .val (.ref (ad 0)), .unset, .unset, .unset] [(.ref (ad 0))])) t
      exact st5 t k)
  obtain ⟨T7, X7, e7, st7⟩ := getS2 X5 hx hZ hown (host := "") (Or.inl (hw _ (List.mem_of_getElem? (i := 4) rfl))) Via.refl e5 (own_S_READ W) (g := (mkF m 18 #[.val (.int p1), .val (.int p2), .val (.ref (ad 0)), .val (.ref (ad 0)), .unset, .unset, .unset] [(.ref (ad 0))])) rfl (hb hby at_18)
  have ch8 : ∀ t, Steps p.tables e below (T7.setTop (mkF m 21 #[.val (.int p1), .val (.int p2), .val (.ref (ad 0)), .val (.ref (ad 0)), .unset, .unset, .unset] [(.ref (ad 0)), (.ref (ad 0))])) t → Steps p.tables e below (s₁.setTop (entryFrame m #[(.int p1), (.int p2)] maxLocals)) t := fun t k => ch6 t (by
      show Steps p.tables e below (T5.setTop (mkF m 14 #[.val (.int p1), .val (.int p2), .val (.ref (ad 0)), .val (.ref (ad 0)), .unset, .unset, .unset] [(.ref (ad 0)), (.ref (ad 0))])) t
      refine Jvm.RoadKit.acmp (g := (mkF m 14 #[.val (.int p1), .val (.int p2), .val (.ref (ad 0)), .val (.ref (ad 0)), .unset, .unset, .unset] [(.ref (ad 0)), (.ref (ad 0))])) X5 hx rfl rfl rfl (pc0 := 14) (pc' := 17) (same := true) rfl (hb hby at_14) rfl (decide_eq_true rfl) (by decide) (by decide) ?_
      show Steps p.tables e below (T5.setTop (mkF m 17 #[.val (.int p1), .val (.int p2), .val (.ref (ad 0)), .val (.ref (ad 0)), .unset, .unset, .unset] [])) t
      refine XS.aloadN X5.here hx rfl (hb hby at_17) rfl rfl ?_
      show Steps p.tables e below (T5.setTop (mkF m 18 #[.val (.int p1), .val (.int p2), .val (.ref (ad 0)), .val (.ref (ad 0)), .unset, .unset, .unset] [(.ref (ad 0))])) t
      exact st7 t k)
  obtain ⟨cq9, kq9, qa9, qb9, qc9⟩ := isOf hZ e7 (own_E_READ W)
  obtain ⟨vv10, _, ⟨T10, L10, kk10, nn10⟩, -, X10, ⟨Lc10, hQ10, l10, y10, z10⟩, st10⟩ := X7.virtualBack hx (y := (⟨"com/example/nokkel/nokkel/core/LockMode", "conflictsWith", "(Lcom/example/nokkel/nokkel/core/LockMode;)Z"⟩ : MethodName)) (z := (⟨"com/example/nokkel/nokkel/core/LockMode", "conflictsWith", "(Lcom/example/nokkel/nokkel/core/LockMode;)Z"⟩ : MethodName)) hown (mvT hZ (hw _ (List.mem_of_getElem? (i := 9) rfl))) (mvT hZ (hw _ (List.mem_of_getElem? (i := 10) rfl))) (notFace_of_selects (args := #[]) (mvT hZ (hw _ (List.mem_of_getElem? (i := 12) rfl)))) (mvT hZ (hw _ (List.mem_of_getElem? (i := 12) rfl))) (mvT hZ (hw _ (List.mem_of_getElem? (i := 11) rfl))) (by decide) (backOf (W := 0) (own_conf_00 l Z a0 hw [] h0 n0 Z0 ad W) hZ (hw _ (List.mem_of_getElem? (i := 13) rfl)) (hw _ (List.mem_of_getElem? (i := 5) rfl)) (by decide) (by decide)) qa9 qc9 (g := (mkF m 41 #[.val (.int p1), .val (.int p2), .val (.ref (ad 0)), .val (.ref (ad 0)), .val (.int (0 : Int32)), .unset, .unset] [(.ref (ad 0)), (.ref (ad 0))])) rfl (by rw [hml]; rfl) (Steps.refl _) (argsL := [(.ref (ad 0))]) (rest := []) (lenOf own_pd__Lcom_example_nokkel_nokkel_core_LockMode__Z rfl) rfl (by show 2 * 0 + _ ≤ _; exact Nat.le_of_eq rfl) (hb hby at_41) (fun _ _ => ⟨rfl, e7, (by decide : 0 + 0 ≤ _), (by decide : 0 + 0 ≤ _)⟩)
  dsimp only [Pt.U, Pt.locs, Pt.cells, Pt.slots] at X10 l10 y10 z10 st10 hQ10
  subst l10 y10 z10
  obtain ⟨rfl, Nq10, e10⟩ := hQ10
  have N10 := Fr.app N3 Nq10
  have ch11 : ∀ t, Steps p.tables e below (T10.setTop (mkF m 44 #[.val (.int p1), .val (.int p2), .val (.ref (ad 0)), .val (.ref (ad 0)), .val (.int (0 : Int32)), .unset, .unset] [(.int (0 : Int32))])) t → Steps p.tables e below (s₁.setTop (entryFrame m #[(.int p1), (.int p2)] maxLocals)) t := fun t k => ch8 t (by
      show Steps p.tables e below (T7.setTop (mkF m 21 #[.val (.int p1), .val (.int p2), .val (.ref (ad 0)), .val (.ref (ad 0)), .unset, .unset, .unset] [(.ref (ad 0)), (.ref (ad 0))])) t
      refine Jvm.RoadKit.acmp (g := (mkF m 21 #[.val (.int p1), .val (.int p2), .val (.ref (ad 0)), .val (.ref (ad 0)), .unset, .unset, .unset] [(.ref (ad 0)), (.ref (ad 0))])) X7 hx rfl rfl rfl (pc0 := 21) (pc' := 24) (same := true) rfl (hb hby at_21) rfl (decide_eq_true rfl) (by decide) (by decide) ?_
      show Steps p.tables e below (T7.setTop (mkF m 24 #[.val (.int p1), .val (.int p2), .val (.ref (ad 0)), .val (.ref (ad 0)), .unset, .unset, .unset] [])) t
      refine XS.iconst X7.here hx rfl (hb hby at_24) ?_
      show Steps p.tables e below (T7.setTop (mkF m 25 #[.val (.int p1), .val (.int p2), .val (.ref (ad 0)), .val (.ref (ad 0)), .unset, .unset, .unset] [(.int (0 : Int32))])) t
      refine XS.istore X7.here hx rfl (hb hby at_25) rfl (l' := #[.val (.int p1), .val (.int p2), .val (.ref (ad 0)), .val (.ref (ad 0)), .val (.int (0 : Int32)), .unset, .unset]) rfl ?_
      show Steps p.tables e below (T7.setTop (mkF m 27 #[.val (.int p1), .val (.int p2), .val (.ref (ad 0)), .val (.ref (ad 0)), .val (.int (0 : Int32)), .unset, .unset] [])) t
      refine XS.goto X7.here hx rfl (pc0 := 27) (pc' := 39) rfl (hb hby at_27) (by decide) (by decide) ?_
      show Steps p.tables e below (T7.setTop (mkF m 39 #[.val (.int p1), .val (.int p2), .val (.ref (ad 0)), .val (.ref (ad 0)), .val (.int (0 : Int32)), .unset, .unset] [])) t
      refine XS.aloadN X7.here hx rfl (hb hby at_39) rfl rfl ?_
      show Steps p.tables e below (T7.setTop (mkF m 40 #[.val (.int p1), .val (.int p2), .val (.ref (ad 0)), .val (.ref (ad 0)), .val (.int (0 : Int32)), .unset, .unset] [(.ref (ad 0))])) t
      refine XS.aloadN X7.here hx rfl (hb hby at_40) rfl rfl ?_
      show Steps p.tables e below (T7.setTop (mkF m 41 #[.val (.int p1), .val (.int p2), .val (.ref (ad 0)), .val (.ref (ad 0)), .val (.int (0 : Int32)), .unset, .unset] [(.ref (ad 0)), (.ref (ad 0))])) t
      exact st10.trans k)
  obtain ⟨cq12, kq12, qa12, qb12, qc12⟩ := isOf hZ e10 (own_E_READ W)
  obtain ⟨vv13, _, ⟨T13, L13, kk13, nn13⟩, -, X13, ⟨Lc13, hQ13, l13, y13, z13⟩, st13⟩ := X10.virtualBack hx (y := (⟨"com/example/nokkel/nokkel/core/LockMode", "conflictsWith", "(Lcom/example/nokkel/nokkel/core/LockMode;)Z"⟩ : MethodName)) (z := (⟨"com/example/nokkel/nokkel/core/LockMode", "conflictsWith", "(Lcom/example/nokkel/nokkel/core/LockMode;)Z"⟩ : MethodName)) hown (mvT hZ (hw _ (List.mem_of_getElem? (i := 9) rfl))) (mvT hZ (hw _ (List.mem_of_getElem? (i := 10) rfl))) (notFace_of_selects (args := #[]) (mvT hZ (hw _ (List.mem_of_getElem? (i := 12) rfl)))) (mvT hZ (hw _ (List.mem_of_getElem? (i := 12) rfl))) (mvT hZ (hw _ (List.mem_of_getElem? (i := 11) rfl))) (by decide) (backOf (W := 0) (own_conf_00 l Z a0 hw [] h0 n0 Z0 ad W) hZ (hw _ (List.mem_of_getElem? (i := 13) rfl)) (hw _ (List.mem_of_getElem? (i := 5) rfl)) (by decide) (by decide)) qa12 qc12 (g := (mkF m 48 #[.val (.int p1), .val (.int p2), .val (.ref (ad 0)), .val (.ref (ad 0)), .val (.int (0 : Int32)), .val (.int (0 : Int32)), .unset] [(.ref (ad 0)), (.ref (ad 0))])) rfl (by rw [hml]; rfl) (Steps.refl _) (argsL := [(.ref (ad 0))]) (rest := []) (lenOf own_pd__Lcom_example_nokkel_nokkel_core_LockMode__Z rfl) rfl (by show 2 * 0 + _ ≤ _; exact Nat.le_of_eq rfl) (hb hby at_48) (fun _ _ => ⟨rfl, e10, (by decide : 0 + 0 ≤ _), (by decide : 0 + 0 ≤ _)⟩)
  dsimp only [Pt.U, Pt.locs, Pt.cells, Pt.slots] at X13 l13 y13 z13 st13 hQ13
  subst l13 y13 z13
  obtain ⟨rfl, Nq13, e13⟩ := hQ13
  have N13 := Fr.app N10 Nq13
  have ch14 : ∀ t, Steps p.tables e below (T13.setTop (mkF m 51 #[.val (.int p1), .val (.int p2), .val (.ref (ad 0)), .val (.ref (ad 0)), .val (.int (0 : Int32)), .val (.int (0 : Int32)), .unset] [(.int (0 : Int32))])) t → Steps p.tables e below (s₁.setTop (entryFrame m #[(.int p1), (.int p2)] maxLocals)) t := fun t k => ch11 t (by
      show Steps p.tables e below (T10.setTop (mkF m 44 #[.val (.int p1), .val (.int p2), .val (.ref (ad 0)), .val (.ref (ad 0)), .val (.int (0 : Int32)), .unset, .unset] [(.int (0 : Int32))])) t
      refine XS.istore X10.here hx rfl (hb hby at_44) rfl (l' := #[.val (.int p1), .val (.int p2), .val (.ref (ad 0)), .val (.ref (ad 0)), .val (.int (0 : Int32)), .val (.int (0 : Int32)), .unset]) rfl ?_
      show Steps p.tables e below (T10.setTop (mkF m 46 #[.val (.int p1), .val (.int p2), .val (.ref (ad 0)), .val (.ref (ad 0)), .val (.int (0 : Int32)), .val (.int (0 : Int32)), .unset] [])) t
      refine XS.aloadN X10.here hx rfl (hb hby at_46) rfl rfl ?_
      show Steps p.tables e below (T10.setTop (mkF m 47 #[.val (.int p1), .val (.int p2), .val (.ref (ad 0)), .val (.ref (ad 0)), .val (.int (0 : Int32)), .val (.int (0 : Int32)), .unset] [(.ref (ad 0))])) t
      refine XS.aloadN X10.here hx rfl (hb hby at_47) rfl rfl ?_
      show Steps p.tables e below (T10.setTop (mkF m 48 #[.val (.int p1), .val (.int p2), .val (.ref (ad 0)), .val (.ref (ad 0)), .val (.int (0 : Int32)), .val (.int (0 : Int32)), .unset] [(.ref (ad 0)), (.ref (ad 0))])) t
      exact st13.trans k)
  have ch15 : ∀ t, Steps p.tables e below (T13.setTop (mkF m 72 #[.val (.int p1), .val (.int p2), .val (.ref (ad 0)), .val (.ref (ad 0)), .val (.int (0 : Int32)), .val (.int (0 : Int32)), .val (.int (0 : Int32))] [(.int (1 : Int32))])) t → Steps p.tables e below (s₁.setTop (entryFrame m #[(.int p1), (.int p2)] maxLocals)) t := fun t k => ch14 t (by
      show Steps p.tables e below (T13.setTop (mkF m 51 #[.val (.int p1), .val (.int p2), .val (.ref (ad 0)), .val (.ref (ad 0)), .val (.int (0 : Int32)), .val (.int (0 : Int32)), .unset] [(.int (0 : Int32))])) t
      refine XS.istore X13.here hx rfl (hb hby at_51) rfl (l' := #[.val (.int p1), .val (.int p2), .val (.ref (ad 0)), .val (.ref (ad 0)), .val (.int (0 : Int32)), .val (.int (0 : Int32)), .val (.int (0 : Int32))]) rfl ?_
      show Steps p.tables e below (T13.setTop (mkF m 53 #[.val (.int p1), .val (.int p2), .val (.ref (ad 0)), .val (.ref (ad 0)), .val (.int (0 : Int32)), .val (.int (0 : Int32)), .val (.int (0 : Int32))] [])) t
      refine XS.iload X13.here hx rfl (hb hby at_53) rfl ?_
      show Steps p.tables e below (T13.setTop (mkF m 55 #[.val (.int p1), .val (.int p2), .val (.ref (ad 0)), .val (.ref (ad 0)), .val (.int (0 : Int32)), .val (.int (0 : Int32)), .val (.int (0 : Int32))] [(.int (0 : Int32))])) t
      refine XS.iload X13.here hx rfl (hb hby at_55) rfl ?_
      show Steps p.tables e below (T13.setTop (mkF m 57 #[.val (.int p1), .val (.int p2), .val (.ref (ad 0)), .val (.ref (ad 0)), .val (.int (0 : Int32)), .val (.int (0 : Int32)), .val (.int (0 : Int32))] [(.int (0 : Int32)), (.int (0 : Int32))])) t
      refine XS.icmpNo X13.here hx rfl (hb hby at_57) rfl (teq (by decide : (0 : Int32) = (0 : Int32))).2 ?_
      show Steps p.tables e below (T13.setTop (mkF m 60 #[.val (.int p1), .val (.int p2), .val (.ref (ad 0)), .val (.ref (ad 0)), .val (.int (0 : Int32)), .val (.int (0 : Int32)), .val (.int (0 : Int32))] [])) t
      refine XS.iload X13.here hx rfl (hb hby at_60) rfl ?_
      show Steps p.tables e below (T13.setTop (mkF m 62 #[.val (.int p1), .val (.int p2), .val (.ref (ad 0)), .val (.ref (ad 0)), .val (.int (0 : Int32)), .val (.int (0 : Int32)), .val (.int (0 : Int32))] [(.int (0 : Int32))])) t
      refine XS.iload X13.here hx rfl (hb hby at_62) rfl ?_
      show Steps p.tables e below (T13.setTop (mkF m 64 #[.val (.int p1), .val (.int p2), .val (.ref (ad 0)), .val (.ref (ad 0)), .val (.int (0 : Int32)), .val (.int (0 : Int32)), .val (.int (0 : Int32))] [(.int (0 : Int32)), (.int (0 : Int32))])) t
      refine XS.icmpNo X13.here hx rfl (hb hby at_64) rfl (teq (by decide : (0 : Int32) = (0 : Int32))).2 ?_
      show Steps p.tables e below (T13.setTop (mkF m 67 #[.val (.int p1), .val (.int p2), .val (.ref (ad 0)), .val (.ref (ad 0)), .val (.int (0 : Int32)), .val (.int (0 : Int32)), .val (.int (0 : Int32))] [])) t
      refine XS.iconst X13.here hx rfl (hb hby at_67) ?_
      show Steps p.tables e below (T13.setTop (mkF m 68 #[.val (.int p1), .val (.int p2), .val (.ref (ad 0)), .val (.ref (ad 0)), .val (.int (0 : Int32)), .val (.int (0 : Int32)), .val (.int (0 : Int32))] [(.int (1 : Int32))])) t
      refine XS.goto X13.here hx rfl (pc0 := 68) (pc' := 72) rfl (hb hby at_68) (by decide) (by decide) ?_
      exact k)
  obtain ⟨fs, hr, hrun, hended, hW, hsame⟩ := X13.leave (v := some (.int (1 : Int32))) (fun h => by rw [Bd.returns] at h; cases h)
  refine ⟨_, _, ch15 _ ?_, hrun, hended, _, _, rfl, ?_, ⟨_, rfl⟩, hW, hsame.mono (by decide) (by decide)⟩
  · show Steps p.tables e below (T13.setTop (mkF m 72 #[.val (.int p1), .val (.int p2), .val (.ref (ad 0)), .val (.ref (ad 0)), .val (.int (0 : Int32)), .val (.int (0 : Int32)), .val (.int (0 : Int32))] [(.int (1 : Int32))])) _
    exact retN X13 hx (t := .boolean) Bd.returns (by simp) (hb hby at_72) hr
  · show QN (some (.int (1 : Int32))) n0 _ T13.heap _
    rw [e13]
    exact ⟨rfl, N13⟩
theorem own_ef_own_law_01 (m : MethodId) {x0 : Int32} {x1 : Int32} : entryFrame m #[(.int x0), (.int x1)] maxLocals = mkF m 0 #[.val (.int x0), .val (.int x1), .unset, .unset, .unset, .unset, .unset] [] := by first | (simp [entryFrame, mkF, argsToLocals, Value.category, maxLocals]; done) | rfl
set_option maxRecDepth 65536 in
set_option maxHeartbeats 40000000 in
theorem own_law_01 (l : Launch) (Z : State) (a0 : Array Value) (hw : ∀ d ∈ tables_1, d.before a0 Z = true) (ws : List Jvm.Cond) (h0 : Heap) (n0 : Nat) (Z0 : n0 ≤ h0.size) (p1 p2 : Int32) (hk : p1 &&& (1 : Int32) = (0 : Int32)) (hj : p2 &&& (1 : Int32) = (1 : Int32)) (ad : Nat → Addr) (W : OwnWd Z h0 ad) :
    MetFree l x (head1 (Jvm.Cond.code x code maxLocals ret :: ws) room_1) (fun a U => a = #[(.int p1), (.int p2)] ∧ Z.Warmed39 U.vm ∧ U.heap = h0) (fun _ _ _ _ _ => True) (fun _ U o U' => ∃ v L, o = .returned v ∧ QN (some (.int (1 : Int32))) n0 v U'.heap L ∧ FrameEnd U o U' L room_1.cells room_1.slots) := by
  refine MetFree.of_bodySF (plainFor_of_name own_pn_com_example_nokkel_nokkel_core_LockModeConflictsWithPinLaw) hisR ?_
  intro p e s m args below meth c s₁ Bd hml0 hP hK
  obtain ⟨rfl, hZ, hh⟩ := hP
  have hx := Bd.exec
  have hby := Bd.bytes
  have hml : c.maxLocals = 7 := hml0
  have hown : s.vm.findClass "com/example/nokkel/nokkel/core/LockModeConflictsWithPinLaw" = some m.cls := findClass_of_methodNamed Bd.named
  have hnm := (name_of_methodNamed Bd.named Bd.method).1
  have X0 : Stand p l e room_1 s m #[(.int p1), (.int p2)] below meth c s₁ [] 0 0 := Stand.of_body Bd
  have e0 : s₁.heap = h0 := by rw [← hh, Bd.state]; rfl
  have N0 := Fr.nil n0
  have pre0 : ∀ t, Steps p.tables e below (s₁.setTop (mkF m 0 #[.val (.int p1), .val (.int p2), .unset, .unset, .unset, .unset, .unset] [])) t → Steps p.tables e below (s₁.setTop (entryFrame m #[(.int p1), (.int p2)] maxLocals)) t := fun t k => castTop (own_ef_own_law_01 m) k
  obtain ⟨vv1, _, ⟨T1, L1, kk1, nn1⟩, -, X1, ⟨Lc1, hQ1, l1, y1, z1⟩, st1⟩ := Jvm.LawKit.callS X0 hx (y := (⟨"com/example/nokkel/nokkel/core/LockModeConflictsWithPinLaw", "mode", "(I)Lcom/example/nokkel/nokkel/core/LockMode;"⟩ : MethodName)) hown (mvT hZ (hw _ (List.mem_of_getElem? (i := 0) rfl))) (mvT hZ (hw _ (List.mem_of_getElem? (i := 1) rfl))) (mvT hZ (hw _ (List.mem_of_getElem? (i := 2) rfl))) (mvT hZ (hw _ (List.mem_of_getElem? (i := 3) rfl))) (by decide) (backOf (W := 0) (own_mode_0 l Z a0 hw [] h0 n0 Z0  p1 hk ad W) hZ (hw _ (List.mem_of_getElem? (i := 3) rfl)) (hw _ (List.mem_of_getElem? (i := 2) rfl)) (by decide) (by decide)) (g := (mkF m 1 #[.val (.int p1), .val (.int p2), .unset, .unset, .unset, .unset, .unset] [(.int p1)])) rfl (by rw [hml]; rfl) (argsL := [(.int p1)]) (rest := []) (lenOf own_pd__I_Lcom_example_nokkel_nokkel_core_LockMode_ rfl) rfl (by show 2 * 0 + _ ≤ _; exact Nat.le_of_eq rfl) (hb hby at_1) (fun _ _ => ⟨rfl, e0, (by decide : 0 + 0 ≤ _), (by decide : 0 + 0 ≤ _)⟩)
  dsimp only [Pt.U, Pt.locs, Pt.cells, Pt.slots] at X1 l1 y1 z1 st1 hQ1
  subst l1 y1 z1
  obtain ⟨rfl, Nq1, e1⟩ := hQ1
  have N1 := Fr.app N0 Nq1
  have ch2 : ∀ t, Steps p.tables e below (T1.setTop (mkF m 4 #[.val (.int p1), .val (.int p2), .unset, .unset, .unset, .unset, .unset] [(.ref (ad 0))])) t → Steps p.tables e below (s₁.setTop (entryFrame m #[(.int p1), (.int p2)] maxLocals)) t := fun t k => pre0 t (by
      show Steps p.tables e below (s₁.setTop (mkF m 0 #[.val (.int p1), .val (.int p2), .unset, .unset, .unset, .unset, .unset] [])) t
      refine XS.iloadN X0.here hx rfl (hb hby at_0) rfl ?_
      show Steps p.tables e below (s₁.setTop (mkF m 1 #[.val (.int p1), .val (.int p2), .unset, .unset, .unset, .unset, .unset] [(.int p1)])) t
      exact st1 t k)
  obtain ⟨vv3, _, ⟨T3, L3, kk3, nn3⟩, -, X3, ⟨Lc3, hQ3, l3, y3, z3⟩, st3⟩ := Jvm.LawKit.callS X1 hx (y := (⟨"com/example/nokkel/nokkel/core/LockModeConflictsWithPinLaw", "mode", "(I)Lcom/example/nokkel/nokkel/core/LockMode;"⟩ : MethodName)) hown (mvT hZ (hw _ (List.mem_of_getElem? (i := 0) rfl))) (mvT hZ (hw _ (List.mem_of_getElem? (i := 1) rfl))) (mvT hZ (hw _ (List.mem_of_getElem? (i := 2) rfl))) (mvT hZ (hw _ (List.mem_of_getElem? (i := 3) rfl))) (by decide) (backOf (W := 0) (own_mode_1 l Z a0 hw [] h0 n0 Z0  p2 hj ad W) hZ (hw _ (List.mem_of_getElem? (i := 3) rfl)) (hw _ (List.mem_of_getElem? (i := 2) rfl)) (by decide) (by decide)) (g := (mkF m 6 #[.val (.int p1), .val (.int p2), .val (.ref (ad 0)), .unset, .unset, .unset, .unset] [(.int p2)])) rfl (by rw [hml]; rfl) (argsL := [(.int p2)]) (rest := []) (lenOf own_pd__I_Lcom_example_nokkel_nokkel_core_LockMode_ rfl) rfl (by show 2 * 0 + _ ≤ _; exact Nat.le_of_eq rfl) (hb hby at_6) (fun _ _ => ⟨rfl, e1, (by decide : 0 + 0 ≤ _), (by decide : 0 + 0 ≤ _)⟩)
  dsimp only [Pt.U, Pt.locs, Pt.cells, Pt.slots] at X3 l3 y3 z3 st3 hQ3
  subst l3 y3 z3
  obtain ⟨rfl, Nq3, e3⟩ := hQ3
  have N3 := Fr.app N1 Nq3
  have ch4 : ∀ t, Steps p.tables e below (T3.setTop (mkF m 9 #[.val (.int p1), .val (.int p2), .val (.ref (ad 0)), .unset, .unset, .unset, .unset] [(.ref (ad 1))])) t → Steps p.tables e below (s₁.setTop (entryFrame m #[(.int p1), (.int p2)] maxLocals)) t := fun t k => ch2 t (by
      show Steps p.tables e below (T1.setTop (mkF m 4 #[.val (.int p1), .val (.int p2), .unset, .unset, .unset, .unset, .unset] [(.ref (ad 0))])) t
      refine XS.astoreN X1.here hx rfl (hb hby at_4) rfl rfl (l' := #[.val (.int p1), .val (.int p2), .val (.ref (ad 0)), .unset, .unset, .unset, .unset]) rfl ?_
      show Steps p.tables e below (T1.setTop (mkF m 5 #[.val (.int p1), .val (.int p2), .val (.ref (ad 0)), .unset, .unset, .unset, .unset] [])) t
      refine XS.iloadN X1.here hx rfl (hb hby at_5) rfl ?_
      show Steps p.tables e below (T1.setTop (mkF m 6 #[.val (.int p1), .val (.int p2), .val (.ref (ad 0)), .unset, .unset, .unset, .unset] [(.int p2)])) t
      exact st3 t k)
  obtain ⟨T5, X5, e5, st5⟩ := getS2 X3 hx hZ hown (host := "") (Or.inl (hw _ (List.mem_of_getElem? (i := 4) rfl))) Via.refl e3 (own_S_READ W) (g := (mkF m 11 #[.val (.int p1), .val (.int p2), .val (.ref (ad 0)), .val (.ref (ad 1)), .unset, .unset, .unset] [(.ref (ad 0))])) rfl (hb hby at_11)
  have ch6 : ∀ t, Steps p.tables e below (T5.setTop (mkF m 14 #[.val (.int p1), .val (.int p2), .val (.ref (ad 0)), .val (.ref (ad 1)), .unset, .unset, .unset] [(.ref (ad 0)), (.ref (ad 0))])) t → Steps p.tables e below (s₁.setTop (entryFrame m #[(.int p1), (.int p2)] maxLocals)) t := fun t k => ch4 t (by
      show Steps p.tables e below (T3.setTop (mkF m 9 #[.val (.int p1), .val (.int p2), .val (.ref (ad 0)), .unset, .unset, .unset, .unset] [(.ref (ad 1))])) t
      refine XS.astoreN X3.here hx rfl (hb hby at_9) rfl rfl (l' := #[.val (.int p1), .val (.int p2), .val (.ref (ad 0)), .val (.ref (ad 1)), .unset, .unset, .unset]) rfl ?_
      show Steps p.tables e below (T3.setTop (mkF m 10 #[.val (.int p1), .val (.int p2), .val (.ref (ad 0)), .val (.ref (ad 1)), .unset, .unset, .unset] [])) t
      refine XS.aloadN X3.here hx rfl (hb hby at_10) rfl rfl ?_
      show Steps p.tables e below (T3.setTop (mkF m 11 #[.val (.int p1), .val (.int p2), .val (.ref (ad 0)), .val (.ref (ad 1)), .unset, .unset, .unset] [(.ref (ad 0))])) t
      exact st5 t k)
  obtain ⟨T7, X7, e7, st7⟩ := getS2 X5 hx hZ hown (host := "") (Or.inl (hw _ (List.mem_of_getElem? (i := 4) rfl))) Via.refl e5 (own_S_READ W) (g := (mkF m 18 #[.val (.int p1), .val (.int p2), .val (.ref (ad 0)), .val (.ref (ad 1)), .unset, .unset, .unset] [(.ref (ad 1))])) rfl (hb hby at_18)
  have ch8 : ∀ t, Steps p.tables e below (T7.setTop (mkF m 21 #[.val (.int p1), .val (.int p2), .val (.ref (ad 0)), .val (.ref (ad 1)), .unset, .unset, .unset] [(.ref (ad 0)), (.ref (ad 1))])) t → Steps p.tables e below (s₁.setTop (entryFrame m #[(.int p1), (.int p2)] maxLocals)) t := fun t k => ch6 t (by
      show Steps p.tables e below (T5.setTop (mkF m 14 #[.val (.int p1), .val (.int p2), .val (.ref (ad 0)), .val (.ref (ad 1)), .unset, .unset, .unset] [(.ref (ad 0)), (.ref (ad 0))])) t
      refine Jvm.RoadKit.acmp (g := (mkF m 14 #[.val (.int p1), .val (.int p2), .val (.ref (ad 0)), .val (.ref (ad 1)), .unset, .unset, .unset] [(.ref (ad 0)), (.ref (ad 0))])) X5 hx rfl rfl rfl (pc0 := 14) (pc' := 17) (same := true) rfl (hb hby at_14) rfl (decide_eq_true rfl) (by decide) (by decide) ?_
      show Steps p.tables e below (T5.setTop (mkF m 17 #[.val (.int p1), .val (.int p2), .val (.ref (ad 0)), .val (.ref (ad 1)), .unset, .unset, .unset] [])) t
      refine XS.aloadN X5.here hx rfl (hb hby at_17) rfl rfl ?_
      show Steps p.tables e below (T5.setTop (mkF m 18 #[.val (.int p1), .val (.int p2), .val (.ref (ad 0)), .val (.ref (ad 1)), .unset, .unset, .unset] [(.ref (ad 1))])) t
      exact st7 t k)
  obtain ⟨cq9, kq9, qa9, qb9, qc9⟩ := isOf hZ e7 (own_E_READ W)
  obtain ⟨vv10, _, ⟨T10, L10, kk10, nn10⟩, -, X10, ⟨Lc10, hQ10, l10, y10, z10⟩, st10⟩ := X7.virtualBack hx (y := (⟨"com/example/nokkel/nokkel/core/LockMode", "conflictsWith", "(Lcom/example/nokkel/nokkel/core/LockMode;)Z"⟩ : MethodName)) (z := (⟨"com/example/nokkel/nokkel/core/LockMode", "conflictsWith", "(Lcom/example/nokkel/nokkel/core/LockMode;)Z"⟩ : MethodName)) hown (mvT hZ (hw _ (List.mem_of_getElem? (i := 9) rfl))) (mvT hZ (hw _ (List.mem_of_getElem? (i := 10) rfl))) (notFace_of_selects (args := #[]) (mvT hZ (hw _ (List.mem_of_getElem? (i := 12) rfl)))) (mvT hZ (hw _ (List.mem_of_getElem? (i := 12) rfl))) (mvT hZ (hw _ (List.mem_of_getElem? (i := 11) rfl))) (by decide) (backOf (W := 0) (own_conf_01 l Z a0 hw [] h0 n0 Z0 ad W) hZ (hw _ (List.mem_of_getElem? (i := 13) rfl)) (hw _ (List.mem_of_getElem? (i := 5) rfl)) (by decide) (by decide)) qa9 qc9 (g := (mkF m 41 #[.val (.int p1), .val (.int p2), .val (.ref (ad 0)), .val (.ref (ad 1)), .val (.int (1 : Int32)), .unset, .unset] [(.ref (ad 1)), (.ref (ad 0))])) rfl (by rw [hml]; rfl) (Steps.refl _) (argsL := [(.ref (ad 1))]) (rest := []) (lenOf own_pd__Lcom_example_nokkel_nokkel_core_LockMode__Z rfl) rfl (by show 2 * 0 + _ ≤ _; exact Nat.le_of_eq rfl) (hb hby at_41) (fun _ _ => ⟨rfl, e7, (by decide : 0 + 0 ≤ _), (by decide : 0 + 0 ≤ _)⟩)
  dsimp only [Pt.U, Pt.locs, Pt.cells, Pt.slots] at X10 l10 y10 z10 st10 hQ10
  subst l10 y10 z10
  obtain ⟨rfl, Nq10, e10⟩ := hQ10
  have N10 := Fr.app N3 Nq10
  have ch11 : ∀ t, Steps p.tables e below (T10.setTop (mkF m 44 #[.val (.int p1), .val (.int p2), .val (.ref (ad 0)), .val (.ref (ad 1)), .val (.int (1 : Int32)), .unset, .unset] [(.int (1 : Int32))])) t → Steps p.tables e below (s₁.setTop (entryFrame m #[(.int p1), (.int p2)] maxLocals)) t := fun t k => ch8 t (by
      show Steps p.tables e below (T7.setTop (mkF m 21 #[.val (.int p1), .val (.int p2), .val (.ref (ad 0)), .val (.ref (ad 1)), .unset, .unset, .unset] [(.ref (ad 0)), (.ref (ad 1))])) t
      refine Jvm.RoadKit.acmp (g := (mkF m 21 #[.val (.int p1), .val (.int p2), .val (.ref (ad 0)), .val (.ref (ad 1)), .unset, .unset, .unset] [(.ref (ad 0)), (.ref (ad 1))])) X7 hx rfl rfl rfl (pc0 := 21) (pc' := 30) (same := false) rfl (hb hby at_21) rfl (decide_eq_false fun q => (Fld.ne (own_F_WRITE_ordinal W) (own_F_READ_ordinal W) (by decide)) (Value.ref.inj q)) (by decide) (by decide) ?_
      show Steps p.tables e below (T7.setTop (mkF m 30 #[.val (.int p1), .val (.int p2), .val (.ref (ad 0)), .val (.ref (ad 1)), .unset, .unset, .unset] [])) t
      refine XS.iconst X7.here hx rfl (hb hby at_30) ?_
      show Steps p.tables e below (T7.setTop (mkF m 31 #[.val (.int p1), .val (.int p2), .val (.ref (ad 0)), .val (.ref (ad 1)), .unset, .unset, .unset] [(.int (1 : Int32))])) t
      refine XS.istore X7.here hx rfl (hb hby at_31) rfl (l' := #[.val (.int p1), .val (.int p2), .val (.ref (ad 0)), .val (.ref (ad 1)), .val (.int (1 : Int32)), .unset, .unset]) rfl ?_
      show Steps p.tables e below (T7.setTop (mkF m 33 #[.val (.int p1), .val (.int p2), .val (.ref (ad 0)), .val (.ref (ad 1)), .val (.int (1 : Int32)), .unset, .unset] [])) t
      refine XS.goto X7.here hx rfl (pc0 := 33) (pc' := 39) rfl (hb hby at_33) (by decide) (by decide) ?_
      show Steps p.tables e below (T7.setTop (mkF m 39 #[.val (.int p1), .val (.int p2), .val (.ref (ad 0)), .val (.ref (ad 1)), .val (.int (1 : Int32)), .unset, .unset] [])) t
      refine XS.aloadN X7.here hx rfl (hb hby at_39) rfl rfl ?_
      show Steps p.tables e below (T7.setTop (mkF m 40 #[.val (.int p1), .val (.int p2), .val (.ref (ad 0)), .val (.ref (ad 1)), .val (.int (1 : Int32)), .unset, .unset] [(.ref (ad 0))])) t
      refine XS.aloadN X7.here hx rfl (hb hby at_40) rfl rfl ?_
      show Steps p.tables e below (T7.setTop (mkF m 41 #[.val (.int p1), .val (.int p2), .val (.ref (ad 0)), .val (.ref (ad 1)), .val (.int (1 : Int32)), .unset, .unset] [(.ref (ad 1)), (.ref (ad 0))])) t
      exact st10.trans k)
  obtain ⟨cq12, kq12, qa12, qb12, qc12⟩ := isOf hZ e10 (own_E_WRITE W)
  obtain ⟨vv13, _, ⟨T13, L13, kk13, nn13⟩, -, X13, ⟨Lc13, hQ13, l13, y13, z13⟩, st13⟩ := X10.virtualBack hx (y := (⟨"com/example/nokkel/nokkel/core/LockMode", "conflictsWith", "(Lcom/example/nokkel/nokkel/core/LockMode;)Z"⟩ : MethodName)) (z := (⟨"com/example/nokkel/nokkel/core/LockMode", "conflictsWith", "(Lcom/example/nokkel/nokkel/core/LockMode;)Z"⟩ : MethodName)) hown (mvT hZ (hw _ (List.mem_of_getElem? (i := 9) rfl))) (mvT hZ (hw _ (List.mem_of_getElem? (i := 10) rfl))) (notFace_of_selects (args := #[]) (mvT hZ (hw _ (List.mem_of_getElem? (i := 12) rfl)))) (mvT hZ (hw _ (List.mem_of_getElem? (i := 12) rfl))) (mvT hZ (hw _ (List.mem_of_getElem? (i := 11) rfl))) (by decide) (backOf (W := 0) (own_conf_10 l Z a0 hw [] h0 n0 Z0 ad W) hZ (hw _ (List.mem_of_getElem? (i := 13) rfl)) (hw _ (List.mem_of_getElem? (i := 5) rfl)) (by decide) (by decide)) qa12 qc12 (g := (mkF m 48 #[.val (.int p1), .val (.int p2), .val (.ref (ad 0)), .val (.ref (ad 1)), .val (.int (1 : Int32)), .val (.int (1 : Int32)), .unset] [(.ref (ad 0)), (.ref (ad 1))])) rfl (by rw [hml]; rfl) (Steps.refl _) (argsL := [(.ref (ad 0))]) (rest := []) (lenOf own_pd__Lcom_example_nokkel_nokkel_core_LockMode__Z rfl) rfl (by show 2 * 0 + _ ≤ _; exact Nat.le_of_eq rfl) (hb hby at_48) (fun _ _ => ⟨rfl, e10, (by decide : 0 + 0 ≤ _), (by decide : 0 + 0 ≤ _)⟩)
  dsimp only [Pt.U, Pt.locs, Pt.cells, Pt.slots] at X13 l13 y13 z13 st13 hQ13
  subst l13 y13 z13
  obtain ⟨rfl, Nq13, e13⟩ := hQ13
  have N13 := Fr.app N10 Nq13
  have ch14 : ∀ t, Steps p.tables e below (T13.setTop (mkF m 51 #[.val (.int p1), .val (.int p2), .val (.ref (ad 0)), .val (.ref (ad 1)), .val (.int (1 : Int32)), .val (.int (1 : Int32)), .unset] [(.int (1 : Int32))])) t → Steps p.tables e below (s₁.setTop (entryFrame m #[(.int p1), (.int p2)] maxLocals)) t := fun t k => ch11 t (by
      show Steps p.tables e below (T10.setTop (mkF m 44 #[.val (.int p1), .val (.int p2), .val (.ref (ad 0)), .val (.ref (ad 1)), .val (.int (1 : Int32)), .unset, .unset] [(.int (1 : Int32))])) t
      refine XS.istore X10.here hx rfl (hb hby at_44) rfl (l' := #[.val (.int p1), .val (.int p2), .val (.ref (ad 0)), .val (.ref (ad 1)), .val (.int (1 : Int32)), .val (.int (1 : Int32)), .unset]) rfl ?_
      show Steps p.tables e below (T10.setTop (mkF m 46 #[.val (.int p1), .val (.int p2), .val (.ref (ad 0)), .val (.ref (ad 1)), .val (.int (1 : Int32)), .val (.int (1 : Int32)), .unset] [])) t
      refine XS.aloadN X10.here hx rfl (hb hby at_46) rfl rfl ?_
      show Steps p.tables e below (T10.setTop (mkF m 47 #[.val (.int p1), .val (.int p2), .val (.ref (ad 0)), .val (.ref (ad 1)), .val (.int (1 : Int32)), .val (.int (1 : Int32)), .unset] [(.ref (ad 1))])) t
      refine XS.aloadN X10.here hx rfl (hb hby at_47) rfl rfl ?_
      show Steps p.tables e below (T10.setTop (mkF m 48 #[.val (.int p1), .val (.int p2), .val (.ref (ad 0)), .val (.ref (ad 1)), .val (.int (1 : Int32)), .val (.int (1 : Int32)), .unset] [(.ref (ad 0)), (.ref (ad 1))])) t
      exact st13.trans k)
  have ch15 : ∀ t, Steps p.tables e below (T13.setTop (mkF m 72 #[.val (.int p1), .val (.int p2), .val (.ref (ad 0)), .val (.ref (ad 1)), .val (.int (1 : Int32)), .val (.int (1 : Int32)), .val (.int (1 : Int32))] [(.int (1 : Int32))])) t → Steps p.tables e below (s₁.setTop (entryFrame m #[(.int p1), (.int p2)] maxLocals)) t := fun t k => ch14 t (by
      show Steps p.tables e below (T13.setTop (mkF m 51 #[.val (.int p1), .val (.int p2), .val (.ref (ad 0)), .val (.ref (ad 1)), .val (.int (1 : Int32)), .val (.int (1 : Int32)), .unset] [(.int (1 : Int32))])) t
      refine XS.istore X13.here hx rfl (hb hby at_51) rfl (l' := #[.val (.int p1), .val (.int p2), .val (.ref (ad 0)), .val (.ref (ad 1)), .val (.int (1 : Int32)), .val (.int (1 : Int32)), .val (.int (1 : Int32))]) rfl ?_
      show Steps p.tables e below (T13.setTop (mkF m 53 #[.val (.int p1), .val (.int p2), .val (.ref (ad 0)), .val (.ref (ad 1)), .val (.int (1 : Int32)), .val (.int (1 : Int32)), .val (.int (1 : Int32))] [])) t
      refine XS.iload X13.here hx rfl (hb hby at_53) rfl ?_
      show Steps p.tables e below (T13.setTop (mkF m 55 #[.val (.int p1), .val (.int p2), .val (.ref (ad 0)), .val (.ref (ad 1)), .val (.int (1 : Int32)), .val (.int (1 : Int32)), .val (.int (1 : Int32))] [(.int (1 : Int32))])) t
      refine XS.iload X13.here hx rfl (hb hby at_55) rfl ?_
      show Steps p.tables e below (T13.setTop (mkF m 57 #[.val (.int p1), .val (.int p2), .val (.ref (ad 0)), .val (.ref (ad 1)), .val (.int (1 : Int32)), .val (.int (1 : Int32)), .val (.int (1 : Int32))] [(.int (1 : Int32)), (.int (1 : Int32))])) t
      refine XS.icmpNo X13.here hx rfl (hb hby at_57) rfl (teq (by decide : (1 : Int32) = (1 : Int32))).2 ?_
      show Steps p.tables e below (T13.setTop (mkF m 60 #[.val (.int p1), .val (.int p2), .val (.ref (ad 0)), .val (.ref (ad 1)), .val (.int (1 : Int32)), .val (.int (1 : Int32)), .val (.int (1 : Int32))] [])) t
      refine XS.iload X13.here hx rfl (hb hby at_60) rfl ?_
      show Steps p.tables e below (T13.setTop (mkF m 62 #[.val (.int p1), .val (.int p2), .val (.ref (ad 0)), .val (.ref (ad 1)), .val (.int (1 : Int32)), .val (.int (1 : Int32)), .val (.int (1 : Int32))] [(.int (1 : Int32))])) t
      refine XS.iload X13.here hx rfl (hb hby at_62) rfl ?_
      show Steps p.tables e below (T13.setTop (mkF m 64 #[.val (.int p1), .val (.int p2), .val (.ref (ad 0)), .val (.ref (ad 1)), .val (.int (1 : Int32)), .val (.int (1 : Int32)), .val (.int (1 : Int32))] [(.int (1 : Int32)), (.int (1 : Int32))])) t
      refine XS.icmpNo X13.here hx rfl (hb hby at_64) rfl (teq (by decide : (1 : Int32) = (1 : Int32))).2 ?_
      show Steps p.tables e below (T13.setTop (mkF m 67 #[.val (.int p1), .val (.int p2), .val (.ref (ad 0)), .val (.ref (ad 1)), .val (.int (1 : Int32)), .val (.int (1 : Int32)), .val (.int (1 : Int32))] [])) t
      refine XS.iconst X13.here hx rfl (hb hby at_67) ?_
      show Steps p.tables e below (T13.setTop (mkF m 68 #[.val (.int p1), .val (.int p2), .val (.ref (ad 0)), .val (.ref (ad 1)), .val (.int (1 : Int32)), .val (.int (1 : Int32)), .val (.int (1 : Int32))] [(.int (1 : Int32))])) t
      refine XS.goto X13.here hx rfl (pc0 := 68) (pc' := 72) rfl (hb hby at_68) (by decide) (by decide) ?_
      exact k)
  obtain ⟨fs, hr, hrun, hended, hW, hsame⟩ := X13.leave (v := some (.int (1 : Int32))) (fun h => by rw [Bd.returns] at h; cases h)
  refine ⟨_, _, ch15 _ ?_, hrun, hended, _, _, rfl, ?_, ⟨_, rfl⟩, hW, hsame.mono (by decide) (by decide)⟩
  · show Steps p.tables e below (T13.setTop (mkF m 72 #[.val (.int p1), .val (.int p2), .val (.ref (ad 0)), .val (.ref (ad 1)), .val (.int (1 : Int32)), .val (.int (1 : Int32)), .val (.int (1 : Int32))] [(.int (1 : Int32))])) _
    exact retN X13 hx (t := .boolean) Bd.returns (by simp) (hb hby at_72) hr
  · show QN (some (.int (1 : Int32))) n0 _ T13.heap _
    rw [e13]
    exact ⟨rfl, N13⟩
theorem own_ef_own_law_10 (m : MethodId) {x0 : Int32} {x1 : Int32} : entryFrame m #[(.int x0), (.int x1)] maxLocals = mkF m 0 #[.val (.int x0), .val (.int x1), .unset, .unset, .unset, .unset, .unset] [] := by first | (simp [entryFrame, mkF, argsToLocals, Value.category, maxLocals]; done) | rfl
set_option maxRecDepth 65536 in
set_option maxHeartbeats 40000000 in
theorem own_law_10 (l : Launch) (Z : State) (a0 : Array Value) (hw : ∀ d ∈ tables_1, d.before a0 Z = true) (ws : List Jvm.Cond) (h0 : Heap) (n0 : Nat) (Z0 : n0 ≤ h0.size) (p1 p2 : Int32) (hk : p1 &&& (1 : Int32) = (1 : Int32)) (hj : p2 &&& (1 : Int32) = (0 : Int32)) (ad : Nat → Addr) (W : OwnWd Z h0 ad) :
    MetFree l x (head1 (Jvm.Cond.code x code maxLocals ret :: ws) room_1) (fun a U => a = #[(.int p1), (.int p2)] ∧ Z.Warmed39 U.vm ∧ U.heap = h0) (fun _ _ _ _ _ => True) (fun _ U o U' => ∃ v L, o = .returned v ∧ QN (some (.int (1 : Int32))) n0 v U'.heap L ∧ FrameEnd U o U' L room_1.cells room_1.slots) := by
  refine MetFree.of_bodySF (plainFor_of_name own_pn_com_example_nokkel_nokkel_core_LockModeConflictsWithPinLaw) hisR ?_
  intro p e s m args below meth c s₁ Bd hml0 hP hK
  obtain ⟨rfl, hZ, hh⟩ := hP
  have hx := Bd.exec
  have hby := Bd.bytes
  have hml : c.maxLocals = 7 := hml0
  have hown : s.vm.findClass "com/example/nokkel/nokkel/core/LockModeConflictsWithPinLaw" = some m.cls := findClass_of_methodNamed Bd.named
  have hnm := (name_of_methodNamed Bd.named Bd.method).1
  have X0 : Stand p l e room_1 s m #[(.int p1), (.int p2)] below meth c s₁ [] 0 0 := Stand.of_body Bd
  have e0 : s₁.heap = h0 := by rw [← hh, Bd.state]; rfl
  have N0 := Fr.nil n0
  have pre0 : ∀ t, Steps p.tables e below (s₁.setTop (mkF m 0 #[.val (.int p1), .val (.int p2), .unset, .unset, .unset, .unset, .unset] [])) t → Steps p.tables e below (s₁.setTop (entryFrame m #[(.int p1), (.int p2)] maxLocals)) t := fun t k => castTop (own_ef_own_law_10 m) k
  obtain ⟨vv1, _, ⟨T1, L1, kk1, nn1⟩, -, X1, ⟨Lc1, hQ1, l1, y1, z1⟩, st1⟩ := Jvm.LawKit.callS X0 hx (y := (⟨"com/example/nokkel/nokkel/core/LockModeConflictsWithPinLaw", "mode", "(I)Lcom/example/nokkel/nokkel/core/LockMode;"⟩ : MethodName)) hown (mvT hZ (hw _ (List.mem_of_getElem? (i := 0) rfl))) (mvT hZ (hw _ (List.mem_of_getElem? (i := 1) rfl))) (mvT hZ (hw _ (List.mem_of_getElem? (i := 2) rfl))) (mvT hZ (hw _ (List.mem_of_getElem? (i := 3) rfl))) (by decide) (backOf (W := 0) (own_mode_1 l Z a0 hw [] h0 n0 Z0  p1 hk ad W) hZ (hw _ (List.mem_of_getElem? (i := 3) rfl)) (hw _ (List.mem_of_getElem? (i := 2) rfl)) (by decide) (by decide)) (g := (mkF m 1 #[.val (.int p1), .val (.int p2), .unset, .unset, .unset, .unset, .unset] [(.int p1)])) rfl (by rw [hml]; rfl) (argsL := [(.int p1)]) (rest := []) (lenOf own_pd__I_Lcom_example_nokkel_nokkel_core_LockMode_ rfl) rfl (by show 2 * 0 + _ ≤ _; exact Nat.le_of_eq rfl) (hb hby at_1) (fun _ _ => ⟨rfl, e0, (by decide : 0 + 0 ≤ _), (by decide : 0 + 0 ≤ _)⟩)
  dsimp only [Pt.U, Pt.locs, Pt.cells, Pt.slots] at X1 l1 y1 z1 st1 hQ1
  subst l1 y1 z1
  obtain ⟨rfl, Nq1, e1⟩ := hQ1
  have N1 := Fr.app N0 Nq1
  have ch2 : ∀ t, Steps p.tables e below (T1.setTop (mkF m 4 #[.val (.int p1), .val (.int p2), .unset, .unset, .unset, .unset, .unset] [(.ref (ad 1))])) t → Steps p.tables e below (s₁.setTop (entryFrame m #[(.int p1), (.int p2)] maxLocals)) t := fun t k => pre0 t (by
      show Steps p.tables e below (s₁.setTop (mkF m 0 #[.val (.int p1), .val (.int p2), .unset, .unset, .unset, .unset, .unset] [])) t
      refine XS.iloadN X0.here hx rfl (hb hby at_0) rfl ?_
      show Steps p.tables e below (s₁.setTop (mkF m 1 #[.val (.int p1), .val (.int p2), .unset, .unset, .unset, .unset, .unset] [(.int p1)])) t
      exact st1 t k)
  obtain ⟨vv3, _, ⟨T3, L3, kk3, nn3⟩, -, X3, ⟨Lc3, hQ3, l3, y3, z3⟩, st3⟩ := Jvm.LawKit.callS X1 hx (y := (⟨"com/example/nokkel/nokkel/core/LockModeConflictsWithPinLaw", "mode", "(I)Lcom/example/nokkel/nokkel/core/LockMode;"⟩ : MethodName)) hown (mvT hZ (hw _ (List.mem_of_getElem? (i := 0) rfl))) (mvT hZ (hw _ (List.mem_of_getElem? (i := 1) rfl))) (mvT hZ (hw _ (List.mem_of_getElem? (i := 2) rfl))) (mvT hZ (hw _ (List.mem_of_getElem? (i := 3) rfl))) (by decide) (backOf (W := 0) (own_mode_0 l Z a0 hw [] h0 n0 Z0  p2 hj ad W) hZ (hw _ (List.mem_of_getElem? (i := 3) rfl)) (hw _ (List.mem_of_getElem? (i := 2) rfl)) (by decide) (by decide)) (g := (mkF m 6 #[.val (.int p1), .val (.int p2), .val (.ref (ad 1)), .unset, .unset, .unset, .unset] [(.int p2)])) rfl (by rw [hml]; rfl) (argsL := [(.int p2)]) (rest := []) (lenOf own_pd__I_Lcom_example_nokkel_nokkel_core_LockMode_ rfl) rfl (by show 2 * 0 + _ ≤ _; exact Nat.le_of_eq rfl) (hb hby at_6) (fun _ _ => ⟨rfl, e1, (by decide : 0 + 0 ≤ _), (by decide : 0 + 0 ≤ _)⟩)
  dsimp only [Pt.U, Pt.locs, Pt.cells, Pt.slots] at X3 l3 y3 z3 st3 hQ3
  subst l3 y3 z3
  obtain ⟨rfl, Nq3, e3⟩ := hQ3
  have N3 := Fr.app N1 Nq3
  have ch4 : ∀ t, Steps p.tables e below (T3.setTop (mkF m 9 #[.val (.int p1), .val (.int p2), .val (.ref (ad 1)), .unset, .unset, .unset, .unset] [(.ref (ad 0))])) t → Steps p.tables e below (s₁.setTop (entryFrame m #[(.int p1), (.int p2)] maxLocals)) t := fun t k => ch2 t (by
      show Steps p.tables e below (T1.setTop (mkF m 4 #[.val (.int p1), .val (.int p2), .unset, .unset, .unset, .unset, .unset] [(.ref (ad 1))])) t
      refine XS.astoreN X1.here hx rfl (hb hby at_4) rfl rfl (l' := #[.val (.int p1), .val (.int p2), .val (.ref (ad 1)), .unset, .unset, .unset, .unset]) rfl ?_
      show Steps p.tables e below (T1.setTop (mkF m 5 #[.val (.int p1), .val (.int p2), .val (.ref (ad 1)), .unset, .unset, .unset, .unset] [])) t
      refine XS.iloadN X1.here hx rfl (hb hby at_5) rfl ?_
      show Steps p.tables e below (T1.setTop (mkF m 6 #[.val (.int p1), .val (.int p2), .val (.ref (ad 1)), .unset, .unset, .unset, .unset] [(.int p2)])) t
      exact st3 t k)
  obtain ⟨T5, X5, e5, st5⟩ := getS2 X3 hx hZ hown (host := "") (Or.inl (hw _ (List.mem_of_getElem? (i := 4) rfl))) Via.refl e3 (own_S_READ W) (g := (mkF m 11 #[.val (.int p1), .val (.int p2), .val (.ref (ad 1)), .val (.ref (ad 0)), .unset, .unset, .unset] [(.ref (ad 1))])) rfl (hb hby at_11)
  have ch6 : ∀ t, Steps p.tables e below (T5.setTop (mkF m 14 #[.val (.int p1), .val (.int p2), .val (.ref (ad 1)), .val (.ref (ad 0)), .unset, .unset, .unset] [(.ref (ad 0)), (.ref (ad 1))])) t → Steps p.tables e below (s₁.setTop (entryFrame m #[(.int p1), (.int p2)] maxLocals)) t := fun t k => ch4 t (by
      show Steps p.tables e below (T3.setTop (mkF m 9 #[.val (.int p1), .val (.int p2), .val (.ref (ad 1)), .unset, .unset, .unset, .unset] [(.ref (ad 0))])) t
      refine XS.astoreN X3.here hx rfl (hb hby at_9) rfl rfl (l' := #[.val (.int p1), .val (.int p2), .val (.ref (ad 1)), .val (.ref (ad 0)), .unset, .unset, .unset]) rfl ?_
      show Steps p.tables e below (T3.setTop (mkF m 10 #[.val (.int p1), .val (.int p2), .val (.ref (ad 1)), .val (.ref (ad 0)), .unset, .unset, .unset] [])) t
      refine XS.aloadN X3.here hx rfl (hb hby at_10) rfl rfl ?_
      show Steps p.tables e below (T3.setTop (mkF m 11 #[.val (.int p1), .val (.int p2), .val (.ref (ad 1)), .val (.ref (ad 0)), .unset, .unset, .unset] [(.ref (ad 1))])) t
      exact st5 t k)
  obtain ⟨cq7, kq7, qa7, qb7, qc7⟩ := isOf hZ e5 (own_E_WRITE W)
  obtain ⟨vv8, _, ⟨T8, L8, kk8, nn8⟩, -, X8, ⟨Lc8, hQ8, l8, y8, z8⟩, st8⟩ := X5.virtualBack hx (y := (⟨"com/example/nokkel/nokkel/core/LockMode", "conflictsWith", "(Lcom/example/nokkel/nokkel/core/LockMode;)Z"⟩ : MethodName)) (z := (⟨"com/example/nokkel/nokkel/core/LockMode", "conflictsWith", "(Lcom/example/nokkel/nokkel/core/LockMode;)Z"⟩ : MethodName)) hown (mvT hZ (hw _ (List.mem_of_getElem? (i := 9) rfl))) (mvT hZ (hw _ (List.mem_of_getElem? (i := 10) rfl))) (notFace_of_selects (args := #[]) (mvT hZ (hw _ (List.mem_of_getElem? (i := 12) rfl)))) (mvT hZ (hw _ (List.mem_of_getElem? (i := 12) rfl))) (mvT hZ (hw _ (List.mem_of_getElem? (i := 11) rfl))) (by decide) (backOf (W := 0) (own_conf_10 l Z a0 hw [] h0 n0 Z0 ad W) hZ (hw _ (List.mem_of_getElem? (i := 13) rfl)) (hw _ (List.mem_of_getElem? (i := 5) rfl)) (by decide) (by decide)) qa7 qc7 (g := (mkF m 41 #[.val (.int p1), .val (.int p2), .val (.ref (ad 1)), .val (.ref (ad 0)), .val (.int (1 : Int32)), .unset, .unset] [(.ref (ad 0)), (.ref (ad 1))])) rfl (by rw [hml]; rfl) (Steps.refl _) (argsL := [(.ref (ad 0))]) (rest := []) (lenOf own_pd__Lcom_example_nokkel_nokkel_core_LockMode__Z rfl) rfl (by show 2 * 0 + _ ≤ _; exact Nat.le_of_eq rfl) (hb hby at_41) (fun _ _ => ⟨rfl, e5, (by decide : 0 + 0 ≤ _), (by decide : 0 + 0 ≤ _)⟩)
  dsimp only [Pt.U, Pt.locs, Pt.cells, Pt.slots] at X8 l8 y8 z8 st8 hQ8
  subst l8 y8 z8
  obtain ⟨rfl, Nq8, e8⟩ := hQ8
  have N8 := Fr.app N3 Nq8
  have ch9 : ∀ t, Steps p.tables e below (T8.setTop (mkF m 44 #[.val (.int p1), .val (.int p2), .val (.ref (ad 1)), .val (.ref (ad 0)), .val (.int (1 : Int32)), .unset, .unset] [(.int (1 : Int32))])) t → Steps p.tables e below (s₁.setTop (entryFrame m #[(.int p1), (.int p2)] maxLocals)) t := fun t k => ch6 t (by
      show Steps p.tables e below (T5.setTop (mkF m 14 #[.val (.int p1), .val (.int p2), .val (.ref (ad 1)), .val (.ref (ad 0)), .unset, .unset, .unset] [(.ref (ad 0)), (.ref (ad 1))])) t
      refine Jvm.RoadKit.acmp (g := (mkF m 14 #[.val (.int p1), .val (.int p2), .val (.ref (ad 1)), .val (.ref (ad 0)), .unset, .unset, .unset] [(.ref (ad 0)), (.ref (ad 1))])) X5 hx rfl rfl rfl (pc0 := 14) (pc' := 36) (same := false) rfl (hb hby at_14) rfl (decide_eq_false fun q => (Fld.ne (own_F_WRITE_ordinal W) (own_F_READ_ordinal W) (by decide)) (Value.ref.inj q)) (by decide) (by decide) ?_
      show Steps p.tables e below (T5.setTop (mkF m 36 #[.val (.int p1), .val (.int p2), .val (.ref (ad 1)), .val (.ref (ad 0)), .unset, .unset, .unset] [])) t
      refine XS.iconst X5.here hx rfl (hb hby at_36) ?_
      show Steps p.tables e below (T5.setTop (mkF m 37 #[.val (.int p1), .val (.int p2), .val (.ref (ad 1)), .val (.ref (ad 0)), .unset, .unset, .unset] [(.int (1 : Int32))])) t
      refine XS.istore X5.here hx rfl (hb hby at_37) rfl (l' := #[.val (.int p1), .val (.int p2), .val (.ref (ad 1)), .val (.ref (ad 0)), .val (.int (1 : Int32)), .unset, .unset]) rfl ?_
      show Steps p.tables e below (T5.setTop (mkF m 39 #[.val (.int p1), .val (.int p2), .val (.ref (ad 1)), .val (.ref (ad 0)), .val (.int (1 : Int32)), .unset, .unset] [])) t
      refine XS.aloadN X5.here hx rfl (hb hby at_39) rfl rfl ?_
      show Steps p.tables e below (T5.setTop (mkF m 40 #[.val (.int p1), .val (.int p2), .val (.ref (ad 1)), .val (.ref (ad 0)), .val (.int (1 : Int32)), .unset, .unset] [(.ref (ad 1))])) t
      refine XS.aloadN X5.here hx rfl (hb hby at_40) rfl rfl ?_
      show Steps p.tables e below (T5.setTop (mkF m 41 #[.val (.int p1), .val (.int p2), .val (.ref (ad 1)), .val (.ref (ad 0)), .val (.int (1 : Int32)), .unset, .unset] [(.ref (ad 0)), (.ref (ad 1))])) t
      exact st8.trans k)
  obtain ⟨cq10, kq10, qa10, qb10, qc10⟩ := isOf hZ e8 (own_E_READ W)
  obtain ⟨vv11, _, ⟨T11, L11, kk11, nn11⟩, -, X11, ⟨Lc11, hQ11, l11, y11, z11⟩, st11⟩ := X8.virtualBack hx (y := (⟨"com/example/nokkel/nokkel/core/LockMode", "conflictsWith", "(Lcom/example/nokkel/nokkel/core/LockMode;)Z"⟩ : MethodName)) (z := (⟨"com/example/nokkel/nokkel/core/LockMode", "conflictsWith", "(Lcom/example/nokkel/nokkel/core/LockMode;)Z"⟩ : MethodName)) hown (mvT hZ (hw _ (List.mem_of_getElem? (i := 9) rfl))) (mvT hZ (hw _ (List.mem_of_getElem? (i := 10) rfl))) (notFace_of_selects (args := #[]) (mvT hZ (hw _ (List.mem_of_getElem? (i := 12) rfl)))) (mvT hZ (hw _ (List.mem_of_getElem? (i := 12) rfl))) (mvT hZ (hw _ (List.mem_of_getElem? (i := 11) rfl))) (by decide) (backOf (W := 0) (own_conf_01 l Z a0 hw [] h0 n0 Z0 ad W) hZ (hw _ (List.mem_of_getElem? (i := 13) rfl)) (hw _ (List.mem_of_getElem? (i := 5) rfl)) (by decide) (by decide)) qa10 qc10 (g := (mkF m 48 #[.val (.int p1), .val (.int p2), .val (.ref (ad 1)), .val (.ref (ad 0)), .val (.int (1 : Int32)), .val (.int (1 : Int32)), .unset] [(.ref (ad 1)), (.ref (ad 0))])) rfl (by rw [hml]; rfl) (Steps.refl _) (argsL := [(.ref (ad 1))]) (rest := []) (lenOf own_pd__Lcom_example_nokkel_nokkel_core_LockMode__Z rfl) rfl (by show 2 * 0 + _ ≤ _; exact Nat.le_of_eq rfl) (hb hby at_48) (fun _ _ => ⟨rfl, e8, (by decide : 0 + 0 ≤ _), (by decide : 0 + 0 ≤ _)⟩)
  dsimp only [Pt.U, Pt.locs, Pt.cells, Pt.slots] at X11 l11 y11 z11 st11 hQ11
  subst l11 y11 z11
  obtain ⟨rfl, Nq11, e11⟩ := hQ11
  have N11 := Fr.app N8 Nq11
  have ch12 : ∀ t, Steps p.tables e below (T11.setTop (mkF m 51 #[.val (.int p1), .val (.int p2), .val (.ref (ad 1)), .val (.ref (ad 0)), .val (.int (1 : Int32)), .val (.int (1 : Int32)), .unset] [(.int (1 : Int32))])) t → Steps p.tables e below (s₁.setTop (entryFrame m #[(.int p1), (.int p2)] maxLocals)) t := fun t k => ch9 t (by
      show Steps p.tables e below (T8.setTop (mkF m 44 #[.val (.int p1), .val (.int p2), .val (.ref (ad 1)), .val (.ref (ad 0)), .val (.int (1 : Int32)), .unset, .unset] [(.int (1 : Int32))])) t
      refine XS.istore X8.here hx rfl (hb hby at_44) rfl (l' := #[.val (.int p1), .val (.int p2), .val (.ref (ad 1)), .val (.ref (ad 0)), .val (.int (1 : Int32)), .val (.int (1 : Int32)), .unset]) rfl ?_
      show Steps p.tables e below (T8.setTop (mkF m 46 #[.val (.int p1), .val (.int p2), .val (.ref (ad 1)), .val (.ref (ad 0)), .val (.int (1 : Int32)), .val (.int (1 : Int32)), .unset] [])) t
      refine XS.aloadN X8.here hx rfl (hb hby at_46) rfl rfl ?_
      show Steps p.tables e below (T8.setTop (mkF m 47 #[.val (.int p1), .val (.int p2), .val (.ref (ad 1)), .val (.ref (ad 0)), .val (.int (1 : Int32)), .val (.int (1 : Int32)), .unset] [(.ref (ad 0))])) t
      refine XS.aloadN X8.here hx rfl (hb hby at_47) rfl rfl ?_
      show Steps p.tables e below (T8.setTop (mkF m 48 #[.val (.int p1), .val (.int p2), .val (.ref (ad 1)), .val (.ref (ad 0)), .val (.int (1 : Int32)), .val (.int (1 : Int32)), .unset] [(.ref (ad 1)), (.ref (ad 0))])) t
      exact st11.trans k)
  have ch13 : ∀ t, Steps p.tables e below (T11.setTop (mkF m 72 #[.val (.int p1), .val (.int p2), .val (.ref (ad 1)), .val (.ref (ad 0)), .val (.int (1 : Int32)), .val (.int (1 : Int32)), .val (.int (1 : Int32))] [(.int (1 : Int32))])) t → Steps p.tables e below (s₁.setTop (entryFrame m #[(.int p1), (.int p2)] maxLocals)) t := fun t k => ch12 t (by
      show Steps p.tables e below (T11.setTop (mkF m 51 #[.val (.int p1), .val (.int p2), .val (.ref (ad 1)), .val (.ref (ad 0)), .val (.int (1 : Int32)), .val (.int (1 : Int32)), .unset] [(.int (1 : Int32))])) t
      refine XS.istore X11.here hx rfl (hb hby at_51) rfl (l' := #[.val (.int p1), .val (.int p2), .val (.ref (ad 1)), .val (.ref (ad 0)), .val (.int (1 : Int32)), .val (.int (1 : Int32)), .val (.int (1 : Int32))]) rfl ?_
      show Steps p.tables e below (T11.setTop (mkF m 53 #[.val (.int p1), .val (.int p2), .val (.ref (ad 1)), .val (.ref (ad 0)), .val (.int (1 : Int32)), .val (.int (1 : Int32)), .val (.int (1 : Int32))] [])) t
      refine XS.iload X11.here hx rfl (hb hby at_53) rfl ?_
      show Steps p.tables e below (T11.setTop (mkF m 55 #[.val (.int p1), .val (.int p2), .val (.ref (ad 1)), .val (.ref (ad 0)), .val (.int (1 : Int32)), .val (.int (1 : Int32)), .val (.int (1 : Int32))] [(.int (1 : Int32))])) t
      refine XS.iload X11.here hx rfl (hb hby at_55) rfl ?_
      show Steps p.tables e below (T11.setTop (mkF m 57 #[.val (.int p1), .val (.int p2), .val (.ref (ad 1)), .val (.ref (ad 0)), .val (.int (1 : Int32)), .val (.int (1 : Int32)), .val (.int (1 : Int32))] [(.int (1 : Int32)), (.int (1 : Int32))])) t
      refine XS.icmpNo X11.here hx rfl (hb hby at_57) rfl (teq (by decide : (1 : Int32) = (1 : Int32))).2 ?_
      show Steps p.tables e below (T11.setTop (mkF m 60 #[.val (.int p1), .val (.int p2), .val (.ref (ad 1)), .val (.ref (ad 0)), .val (.int (1 : Int32)), .val (.int (1 : Int32)), .val (.int (1 : Int32))] [])) t
      refine XS.iload X11.here hx rfl (hb hby at_60) rfl ?_
      show Steps p.tables e below (T11.setTop (mkF m 62 #[.val (.int p1), .val (.int p2), .val (.ref (ad 1)), .val (.ref (ad 0)), .val (.int (1 : Int32)), .val (.int (1 : Int32)), .val (.int (1 : Int32))] [(.int (1 : Int32))])) t
      refine XS.iload X11.here hx rfl (hb hby at_62) rfl ?_
      show Steps p.tables e below (T11.setTop (mkF m 64 #[.val (.int p1), .val (.int p2), .val (.ref (ad 1)), .val (.ref (ad 0)), .val (.int (1 : Int32)), .val (.int (1 : Int32)), .val (.int (1 : Int32))] [(.int (1 : Int32)), (.int (1 : Int32))])) t
      refine XS.icmpNo X11.here hx rfl (hb hby at_64) rfl (teq (by decide : (1 : Int32) = (1 : Int32))).2 ?_
      show Steps p.tables e below (T11.setTop (mkF m 67 #[.val (.int p1), .val (.int p2), .val (.ref (ad 1)), .val (.ref (ad 0)), .val (.int (1 : Int32)), .val (.int (1 : Int32)), .val (.int (1 : Int32))] [])) t
      refine XS.iconst X11.here hx rfl (hb hby at_67) ?_
      show Steps p.tables e below (T11.setTop (mkF m 68 #[.val (.int p1), .val (.int p2), .val (.ref (ad 1)), .val (.ref (ad 0)), .val (.int (1 : Int32)), .val (.int (1 : Int32)), .val (.int (1 : Int32))] [(.int (1 : Int32))])) t
      refine XS.goto X11.here hx rfl (pc0 := 68) (pc' := 72) rfl (hb hby at_68) (by decide) (by decide) ?_
      exact k)
  obtain ⟨fs, hr, hrun, hended, hW, hsame⟩ := X11.leave (v := some (.int (1 : Int32))) (fun h => by rw [Bd.returns] at h; cases h)
  refine ⟨_, _, ch13 _ ?_, hrun, hended, _, _, rfl, ?_, ⟨_, rfl⟩, hW, hsame.mono (by decide) (by decide)⟩
  · show Steps p.tables e below (T11.setTop (mkF m 72 #[.val (.int p1), .val (.int p2), .val (.ref (ad 1)), .val (.ref (ad 0)), .val (.int (1 : Int32)), .val (.int (1 : Int32)), .val (.int (1 : Int32))] [(.int (1 : Int32))])) _
    exact retN X11 hx (t := .boolean) Bd.returns (by simp) (hb hby at_72) hr
  · show QN (some (.int (1 : Int32))) n0 _ T11.heap _
    rw [e11]
    exact ⟨rfl, N11⟩
theorem own_ef_own_law_11 (m : MethodId) {x0 : Int32} {x1 : Int32} : entryFrame m #[(.int x0), (.int x1)] maxLocals = mkF m 0 #[.val (.int x0), .val (.int x1), .unset, .unset, .unset, .unset, .unset] [] := by first | (simp [entryFrame, mkF, argsToLocals, Value.category, maxLocals]; done) | rfl
set_option maxRecDepth 65536 in
set_option maxHeartbeats 40000000 in
theorem own_law_11 (l : Launch) (Z : State) (a0 : Array Value) (hw : ∀ d ∈ tables_1, d.before a0 Z = true) (ws : List Jvm.Cond) (h0 : Heap) (n0 : Nat) (Z0 : n0 ≤ h0.size) (p1 p2 : Int32) (hk : p1 &&& (1 : Int32) = (1 : Int32)) (hj : p2 &&& (1 : Int32) = (1 : Int32)) (ad : Nat → Addr) (W : OwnWd Z h0 ad) :
    MetFree l x (head1 (Jvm.Cond.code x code maxLocals ret :: ws) room_1) (fun a U => a = #[(.int p1), (.int p2)] ∧ Z.Warmed39 U.vm ∧ U.heap = h0) (fun _ _ _ _ _ => True) (fun _ U o U' => ∃ v L, o = .returned v ∧ QN (some (.int (1 : Int32))) n0 v U'.heap L ∧ FrameEnd U o U' L room_1.cells room_1.slots) := by
  refine MetFree.of_bodySF (plainFor_of_name own_pn_com_example_nokkel_nokkel_core_LockModeConflictsWithPinLaw) hisR ?_
  intro p e s m args below meth c s₁ Bd hml0 hP hK
  obtain ⟨rfl, hZ, hh⟩ := hP
  have hx := Bd.exec
  have hby := Bd.bytes
  have hml : c.maxLocals = 7 := hml0
  have hown : s.vm.findClass "com/example/nokkel/nokkel/core/LockModeConflictsWithPinLaw" = some m.cls := findClass_of_methodNamed Bd.named
  have hnm := (name_of_methodNamed Bd.named Bd.method).1
  have X0 : Stand p l e room_1 s m #[(.int p1), (.int p2)] below meth c s₁ [] 0 0 := Stand.of_body Bd
  have e0 : s₁.heap = h0 := by rw [← hh, Bd.state]; rfl
  have N0 := Fr.nil n0
  have pre0 : ∀ t, Steps p.tables e below (s₁.setTop (mkF m 0 #[.val (.int p1), .val (.int p2), .unset, .unset, .unset, .unset, .unset] [])) t → Steps p.tables e below (s₁.setTop (entryFrame m #[(.int p1), (.int p2)] maxLocals)) t := fun t k => castTop (own_ef_own_law_11 m) k
  obtain ⟨vv1, _, ⟨T1, L1, kk1, nn1⟩, -, X1, ⟨Lc1, hQ1, l1, y1, z1⟩, st1⟩ := Jvm.LawKit.callS X0 hx (y := (⟨"com/example/nokkel/nokkel/core/LockModeConflictsWithPinLaw", "mode", "(I)Lcom/example/nokkel/nokkel/core/LockMode;"⟩ : MethodName)) hown (mvT hZ (hw _ (List.mem_of_getElem? (i := 0) rfl))) (mvT hZ (hw _ (List.mem_of_getElem? (i := 1) rfl))) (mvT hZ (hw _ (List.mem_of_getElem? (i := 2) rfl))) (mvT hZ (hw _ (List.mem_of_getElem? (i := 3) rfl))) (by decide) (backOf (W := 0) (own_mode_1 l Z a0 hw [] h0 n0 Z0  p1 hk ad W) hZ (hw _ (List.mem_of_getElem? (i := 3) rfl)) (hw _ (List.mem_of_getElem? (i := 2) rfl)) (by decide) (by decide)) (g := (mkF m 1 #[.val (.int p1), .val (.int p2), .unset, .unset, .unset, .unset, .unset] [(.int p1)])) rfl (by rw [hml]; rfl) (argsL := [(.int p1)]) (rest := []) (lenOf own_pd__I_Lcom_example_nokkel_nokkel_core_LockMode_ rfl) rfl (by show 2 * 0 + _ ≤ _; exact Nat.le_of_eq rfl) (hb hby at_1) (fun _ _ => ⟨rfl, e0, (by decide : 0 + 0 ≤ _), (by decide : 0 + 0 ≤ _)⟩)
  dsimp only [Pt.U, Pt.locs, Pt.cells, Pt.slots] at X1 l1 y1 z1 st1 hQ1
  subst l1 y1 z1
  obtain ⟨rfl, Nq1, e1⟩ := hQ1
  have N1 := Fr.app N0 Nq1
  have ch2 : ∀ t, Steps p.tables e below (T1.setTop (mkF m 4 #[.val (.int p1), .val (.int p2), .unset, .unset, .unset, .unset, .unset] [(.ref (ad 1))])) t → Steps p.tables e below (s₁.setTop (entryFrame m #[(.int p1), (.int p2)] maxLocals)) t := fun t k => pre0 t (by
      show Steps p.tables e below (s₁.setTop (mkF m 0 #[.val (.int p1), .val (.int p2), .unset, .unset, .unset, .unset, .unset] [])) t
      refine XS.iloadN X0.here hx rfl (hb hby at_0) rfl ?_
      show Steps p.tables e below (s₁.setTop (mkF m 1 #[.val (.int p1), .val (.int p2), .unset, .unset, .unset, .unset, .unset] [(.int p1)])) t
      exact st1 t k)
  obtain ⟨vv3, _, ⟨T3, L3, kk3, nn3⟩, -, X3, ⟨Lc3, hQ3, l3, y3, z3⟩, st3⟩ := Jvm.LawKit.callS X1 hx (y := (⟨"com/example/nokkel/nokkel/core/LockModeConflictsWithPinLaw", "mode", "(I)Lcom/example/nokkel/nokkel/core/LockMode;"⟩ : MethodName)) hown (mvT hZ (hw _ (List.mem_of_getElem? (i := 0) rfl))) (mvT hZ (hw _ (List.mem_of_getElem? (i := 1) rfl))) (mvT hZ (hw _ (List.mem_of_getElem? (i := 2) rfl))) (mvT hZ (hw _ (List.mem_of_getElem? (i := 3) rfl))) (by decide) (backOf (W := 0) (own_mode_1 l Z a0 hw [] h0 n0 Z0  p2 hj ad W) hZ (hw _ (List.mem_of_getElem? (i := 3) rfl)) (hw _ (List.mem_of_getElem? (i := 2) rfl)) (by decide) (by decide)) (g := (mkF m 6 #[.val (.int p1), .val (.int p2), .val (.ref (ad 1)), .unset, .unset, .unset, .unset] [(.int p2)])) rfl (by rw [hml]; rfl) (argsL := [(.int p2)]) (rest := []) (lenOf own_pd__I_Lcom_example_nokkel_nokkel_core_LockMode_ rfl) rfl (by show 2 * 0 + _ ≤ _; exact Nat.le_of_eq rfl) (hb hby at_6) (fun _ _ => ⟨rfl, e1, (by decide : 0 + 0 ≤ _), (by decide : 0 + 0 ≤ _)⟩)
  dsimp only [Pt.U, Pt.locs, Pt.cells, Pt.slots] at X3 l3 y3 z3 st3 hQ3
  subst l3 y3 z3
  obtain ⟨rfl, Nq3, e3⟩ := hQ3
  have N3 := Fr.app N1 Nq3
  have ch4 : ∀ t, Steps p.tables e below (T3.setTop (mkF m 9 #[.val (.int p1), .val (.int p2), .val (.ref (ad 1)), .unset, .unset, .unset, .unset] [(.ref (ad 1))])) t → Steps p.tables e below (s₁.setTop (entryFrame m #[(.int p1), (.int p2)] maxLocals)) t := fun t k => ch2 t (by
      show Steps p.tables e below (T1.setTop (mkF m 4 #[.val (.int p1), .val (.int p2), .unset, .unset, .unset, .unset, .unset] [(.ref (ad 1))])) t
      refine XS.astoreN X1.here hx rfl (hb hby at_4) rfl rfl (l' := #[.val (.int p1), .val (.int p2), .val (.ref (ad 1)), .unset, .unset, .unset, .unset]) rfl ?_
      show Steps p.tables e below (T1.setTop (mkF m 5 #[.val (.int p1), .val (.int p2), .val (.ref (ad 1)), .unset, .unset, .unset, .unset] [])) t
      refine XS.iloadN X1.here hx rfl (hb hby at_5) rfl ?_
      show Steps p.tables e below (T1.setTop (mkF m 6 #[.val (.int p1), .val (.int p2), .val (.ref (ad 1)), .unset, .unset, .unset, .unset] [(.int p2)])) t
      exact st3 t k)
  obtain ⟨T5, X5, e5, st5⟩ := getS2 X3 hx hZ hown (host := "") (Or.inl (hw _ (List.mem_of_getElem? (i := 4) rfl))) Via.refl e3 (own_S_READ W) (g := (mkF m 11 #[.val (.int p1), .val (.int p2), .val (.ref (ad 1)), .val (.ref (ad 1)), .unset, .unset, .unset] [(.ref (ad 1))])) rfl (hb hby at_11)
  have ch6 : ∀ t, Steps p.tables e below (T5.setTop (mkF m 14 #[.val (.int p1), .val (.int p2), .val (.ref (ad 1)), .val (.ref (ad 1)), .unset, .unset, .unset] [(.ref (ad 0)), (.ref (ad 1))])) t → Steps p.tables e below (s₁.setTop (entryFrame m #[(.int p1), (.int p2)] maxLocals)) t := fun t k => ch4 t (by
      show Steps p.tables e below (T3.setTop (mkF m 9 #[.val (.int p1), .val (.int p2), .val (.ref (ad 1)), .unset, .unset, .unset, .unset] [(.ref (ad 1))])) t
      refine XS.astoreN X3.here hx rfl (hb hby at_9) rfl rfl (l' := #[.val (.int p1), .val (.int p2), .val (.ref (ad 1)), .val (.ref (ad 1)), .unset, .unset, .unset]) rfl ?_
      show Steps p.tables e below (T3.setTop (mkF m 10 #[.val (.int p1), .val (.int p2), .val (.ref (ad 1)), .val (.ref (ad 1)), .unset, .unset, .unset] [])) t
      refine XS.aloadN X3.here hx rfl (hb hby at_10) rfl rfl ?_
      show Steps p.tables e below (T3.setTop (mkF m 11 #[.val (.int p1), .val (.int p2), .val (.ref (ad 1)), .val (.ref (ad 1)), .unset, .unset, .unset] [(.ref (ad 1))])) t
      exact st5 t k)
  obtain ⟨cq7, kq7, qa7, qb7, qc7⟩ := isOf hZ e5 (own_E_WRITE W)
  obtain ⟨vv8, _, ⟨T8, L8, kk8, nn8⟩, -, X8, ⟨Lc8, hQ8, l8, y8, z8⟩, st8⟩ := X5.virtualBack hx (y := (⟨"com/example/nokkel/nokkel/core/LockMode", "conflictsWith", "(Lcom/example/nokkel/nokkel/core/LockMode;)Z"⟩ : MethodName)) (z := (⟨"com/example/nokkel/nokkel/core/LockMode", "conflictsWith", "(Lcom/example/nokkel/nokkel/core/LockMode;)Z"⟩ : MethodName)) hown (mvT hZ (hw _ (List.mem_of_getElem? (i := 9) rfl))) (mvT hZ (hw _ (List.mem_of_getElem? (i := 10) rfl))) (notFace_of_selects (args := #[]) (mvT hZ (hw _ (List.mem_of_getElem? (i := 12) rfl)))) (mvT hZ (hw _ (List.mem_of_getElem? (i := 12) rfl))) (mvT hZ (hw _ (List.mem_of_getElem? (i := 11) rfl))) (by decide) (backOf (W := 0) (own_conf_11 l Z a0 hw [] h0 n0 Z0 ad W) hZ (hw _ (List.mem_of_getElem? (i := 13) rfl)) (hw _ (List.mem_of_getElem? (i := 5) rfl)) (by decide) (by decide)) qa7 qc7 (g := (mkF m 41 #[.val (.int p1), .val (.int p2), .val (.ref (ad 1)), .val (.ref (ad 1)), .val (.int (1 : Int32)), .unset, .unset] [(.ref (ad 1)), (.ref (ad 1))])) rfl (by rw [hml]; rfl) (Steps.refl _) (argsL := [(.ref (ad 1))]) (rest := []) (lenOf own_pd__Lcom_example_nokkel_nokkel_core_LockMode__Z rfl) rfl (by show 2 * 0 + _ ≤ _; exact Nat.le_of_eq rfl) (hb hby at_41) (fun _ _ => ⟨rfl, e5, (by decide : 0 + 0 ≤ _), (by decide : 0 + 0 ≤ _)⟩)
  dsimp only [Pt.U, Pt.locs, Pt.cells, Pt.slots] at X8 l8 y8 z8 st8 hQ8
  subst l8 y8 z8
  obtain ⟨rfl, Nq8, e8⟩ := hQ8
  have N8 := Fr.app N3 Nq8
  have ch9 : ∀ t, Steps p.tables e below (T8.setTop (mkF m 44 #[.val (.int p1), .val (.int p2), .val (.ref (ad 1)), .val (.ref (ad 1)), .val (.int (1 : Int32)), .unset, .unset] [(.int (1 : Int32))])) t → Steps p.tables e below (s₁.setTop (entryFrame m #[(.int p1), (.int p2)] maxLocals)) t := fun t k => ch6 t (by
      show Steps p.tables e below (T5.setTop (mkF m 14 #[.val (.int p1), .val (.int p2), .val (.ref (ad 1)), .val (.ref (ad 1)), .unset, .unset, .unset] [(.ref (ad 0)), (.ref (ad 1))])) t
      refine Jvm.RoadKit.acmp (g := (mkF m 14 #[.val (.int p1), .val (.int p2), .val (.ref (ad 1)), .val (.ref (ad 1)), .unset, .unset, .unset] [(.ref (ad 0)), (.ref (ad 1))])) X5 hx rfl rfl rfl (pc0 := 14) (pc' := 36) (same := false) rfl (hb hby at_14) rfl (decide_eq_false fun q => (Fld.ne (own_F_WRITE_ordinal W) (own_F_READ_ordinal W) (by decide)) (Value.ref.inj q)) (by decide) (by decide) ?_
      show Steps p.tables e below (T5.setTop (mkF m 36 #[.val (.int p1), .val (.int p2), .val (.ref (ad 1)), .val (.ref (ad 1)), .unset, .unset, .unset] [])) t
      refine XS.iconst X5.here hx rfl (hb hby at_36) ?_
      show Steps p.tables e below (T5.setTop (mkF m 37 #[.val (.int p1), .val (.int p2), .val (.ref (ad 1)), .val (.ref (ad 1)), .unset, .unset, .unset] [(.int (1 : Int32))])) t
      refine XS.istore X5.here hx rfl (hb hby at_37) rfl (l' := #[.val (.int p1), .val (.int p2), .val (.ref (ad 1)), .val (.ref (ad 1)), .val (.int (1 : Int32)), .unset, .unset]) rfl ?_
      show Steps p.tables e below (T5.setTop (mkF m 39 #[.val (.int p1), .val (.int p2), .val (.ref (ad 1)), .val (.ref (ad 1)), .val (.int (1 : Int32)), .unset, .unset] [])) t
      refine XS.aloadN X5.here hx rfl (hb hby at_39) rfl rfl ?_
      show Steps p.tables e below (T5.setTop (mkF m 40 #[.val (.int p1), .val (.int p2), .val (.ref (ad 1)), .val (.ref (ad 1)), .val (.int (1 : Int32)), .unset, .unset] [(.ref (ad 1))])) t
      refine XS.aloadN X5.here hx rfl (hb hby at_40) rfl rfl ?_
      show Steps p.tables e below (T5.setTop (mkF m 41 #[.val (.int p1), .val (.int p2), .val (.ref (ad 1)), .val (.ref (ad 1)), .val (.int (1 : Int32)), .unset, .unset] [(.ref (ad 1)), (.ref (ad 1))])) t
      exact st8.trans k)
  obtain ⟨cq10, kq10, qa10, qb10, qc10⟩ := isOf hZ e8 (own_E_WRITE W)
  obtain ⟨vv11, _, ⟨T11, L11, kk11, nn11⟩, -, X11, ⟨Lc11, hQ11, l11, y11, z11⟩, st11⟩ := X8.virtualBack hx (y := (⟨"com/example/nokkel/nokkel/core/LockMode", "conflictsWith", "(Lcom/example/nokkel/nokkel/core/LockMode;)Z"⟩ : MethodName)) (z := (⟨"com/example/nokkel/nokkel/core/LockMode", "conflictsWith", "(Lcom/example/nokkel/nokkel/core/LockMode;)Z"⟩ : MethodName)) hown (mvT hZ (hw _ (List.mem_of_getElem? (i := 9) rfl))) (mvT hZ (hw _ (List.mem_of_getElem? (i := 10) rfl))) (notFace_of_selects (args := #[]) (mvT hZ (hw _ (List.mem_of_getElem? (i := 12) rfl)))) (mvT hZ (hw _ (List.mem_of_getElem? (i := 12) rfl))) (mvT hZ (hw _ (List.mem_of_getElem? (i := 11) rfl))) (by decide) (backOf (W := 0) (own_conf_11 l Z a0 hw [] h0 n0 Z0 ad W) hZ (hw _ (List.mem_of_getElem? (i := 13) rfl)) (hw _ (List.mem_of_getElem? (i := 5) rfl)) (by decide) (by decide)) qa10 qc10 (g := (mkF m 48 #[.val (.int p1), .val (.int p2), .val (.ref (ad 1)), .val (.ref (ad 1)), .val (.int (1 : Int32)), .val (.int (1 : Int32)), .unset] [(.ref (ad 1)), (.ref (ad 1))])) rfl (by rw [hml]; rfl) (Steps.refl _) (argsL := [(.ref (ad 1))]) (rest := []) (lenOf own_pd__Lcom_example_nokkel_nokkel_core_LockMode__Z rfl) rfl (by show 2 * 0 + _ ≤ _; exact Nat.le_of_eq rfl) (hb hby at_48) (fun _ _ => ⟨rfl, e8, (by decide : 0 + 0 ≤ _), (by decide : 0 + 0 ≤ _)⟩)
  dsimp only [Pt.U, Pt.locs, Pt.cells, Pt.slots] at X11 l11 y11 z11 st11 hQ11
  subst l11 y11 z11
  obtain ⟨rfl, Nq11, e11⟩ := hQ11
  have N11 := Fr.app N8 Nq11
  have ch12 : ∀ t, Steps p.tables e below (T11.setTop (mkF m 51 #[.val (.int p1), .val (.int p2), .val (.ref (ad 1)), .val (.ref (ad 1)), .val (.int (1 : Int32)), .val (.int (1 : Int32)), .unset] [(.int (1 : Int32))])) t → Steps p.tables e below (s₁.setTop (entryFrame m #[(.int p1), (.int p2)] maxLocals)) t := fun t k => ch9 t (by
      show Steps p.tables e below (T8.setTop (mkF m 44 #[.val (.int p1), .val (.int p2), .val (.ref (ad 1)), .val (.ref (ad 1)), .val (.int (1 : Int32)), .unset, .unset] [(.int (1 : Int32))])) t
      refine XS.istore X8.here hx rfl (hb hby at_44) rfl (l' := #[.val (.int p1), .val (.int p2), .val (.ref (ad 1)), .val (.ref (ad 1)), .val (.int (1 : Int32)), .val (.int (1 : Int32)), .unset]) rfl ?_
      show Steps p.tables e below (T8.setTop (mkF m 46 #[.val (.int p1), .val (.int p2), .val (.ref (ad 1)), .val (.ref (ad 1)), .val (.int (1 : Int32)), .val (.int (1 : Int32)), .unset] [])) t
      refine XS.aloadN X8.here hx rfl (hb hby at_46) rfl rfl ?_
      show Steps p.tables e below (T8.setTop (mkF m 47 #[.val (.int p1), .val (.int p2), .val (.ref (ad 1)), .val (.ref (ad 1)), .val (.int (1 : Int32)), .val (.int (1 : Int32)), .unset] [(.ref (ad 1))])) t
      refine XS.aloadN X8.here hx rfl (hb hby at_47) rfl rfl ?_
      show Steps p.tables e below (T8.setTop (mkF m 48 #[.val (.int p1), .val (.int p2), .val (.ref (ad 1)), .val (.ref (ad 1)), .val (.int (1 : Int32)), .val (.int (1 : Int32)), .unset] [(.ref (ad 1)), (.ref (ad 1))])) t
      exact st11.trans k)
  have ch13 : ∀ t, Steps p.tables e below (T11.setTop (mkF m 72 #[.val (.int p1), .val (.int p2), .val (.ref (ad 1)), .val (.ref (ad 1)), .val (.int (1 : Int32)), .val (.int (1 : Int32)), .val (.int (1 : Int32))] [(.int (1 : Int32))])) t → Steps p.tables e below (s₁.setTop (entryFrame m #[(.int p1), (.int p2)] maxLocals)) t := fun t k => ch12 t (by
      show Steps p.tables e below (T11.setTop (mkF m 51 #[.val (.int p1), .val (.int p2), .val (.ref (ad 1)), .val (.ref (ad 1)), .val (.int (1 : Int32)), .val (.int (1 : Int32)), .unset] [(.int (1 : Int32))])) t
      refine XS.istore X11.here hx rfl (hb hby at_51) rfl (l' := #[.val (.int p1), .val (.int p2), .val (.ref (ad 1)), .val (.ref (ad 1)), .val (.int (1 : Int32)), .val (.int (1 : Int32)), .val (.int (1 : Int32))]) rfl ?_
      show Steps p.tables e below (T11.setTop (mkF m 53 #[.val (.int p1), .val (.int p2), .val (.ref (ad 1)), .val (.ref (ad 1)), .val (.int (1 : Int32)), .val (.int (1 : Int32)), .val (.int (1 : Int32))] [])) t
      refine XS.iload X11.here hx rfl (hb hby at_53) rfl ?_
      show Steps p.tables e below (T11.setTop (mkF m 55 #[.val (.int p1), .val (.int p2), .val (.ref (ad 1)), .val (.ref (ad 1)), .val (.int (1 : Int32)), .val (.int (1 : Int32)), .val (.int (1 : Int32))] [(.int (1 : Int32))])) t
      refine XS.iload X11.here hx rfl (hb hby at_55) rfl ?_
      show Steps p.tables e below (T11.setTop (mkF m 57 #[.val (.int p1), .val (.int p2), .val (.ref (ad 1)), .val (.ref (ad 1)), .val (.int (1 : Int32)), .val (.int (1 : Int32)), .val (.int (1 : Int32))] [(.int (1 : Int32)), (.int (1 : Int32))])) t
      refine XS.icmpNo X11.here hx rfl (hb hby at_57) rfl (teq (by decide : (1 : Int32) = (1 : Int32))).2 ?_
      show Steps p.tables e below (T11.setTop (mkF m 60 #[.val (.int p1), .val (.int p2), .val (.ref (ad 1)), .val (.ref (ad 1)), .val (.int (1 : Int32)), .val (.int (1 : Int32)), .val (.int (1 : Int32))] [])) t
      refine XS.iload X11.here hx rfl (hb hby at_60) rfl ?_
      show Steps p.tables e below (T11.setTop (mkF m 62 #[.val (.int p1), .val (.int p2), .val (.ref (ad 1)), .val (.ref (ad 1)), .val (.int (1 : Int32)), .val (.int (1 : Int32)), .val (.int (1 : Int32))] [(.int (1 : Int32))])) t
      refine XS.iload X11.here hx rfl (hb hby at_62) rfl ?_
      show Steps p.tables e below (T11.setTop (mkF m 64 #[.val (.int p1), .val (.int p2), .val (.ref (ad 1)), .val (.ref (ad 1)), .val (.int (1 : Int32)), .val (.int (1 : Int32)), .val (.int (1 : Int32))] [(.int (1 : Int32)), (.int (1 : Int32))])) t
      refine XS.icmpNo X11.here hx rfl (hb hby at_64) rfl (teq (by decide : (1 : Int32) = (1 : Int32))).2 ?_
      show Steps p.tables e below (T11.setTop (mkF m 67 #[.val (.int p1), .val (.int p2), .val (.ref (ad 1)), .val (.ref (ad 1)), .val (.int (1 : Int32)), .val (.int (1 : Int32)), .val (.int (1 : Int32))] [])) t
      refine XS.iconst X11.here hx rfl (hb hby at_67) ?_
      show Steps p.tables e below (T11.setTop (mkF m 68 #[.val (.int p1), .val (.int p2), .val (.ref (ad 1)), .val (.ref (ad 1)), .val (.int (1 : Int32)), .val (.int (1 : Int32)), .val (.int (1 : Int32))] [(.int (1 : Int32))])) t
      refine XS.goto X11.here hx rfl (pc0 := 68) (pc' := 72) rfl (hb hby at_68) (by decide) (by decide) ?_
      exact k)
  obtain ⟨fs, hr, hrun, hended, hW, hsame⟩ := X11.leave (v := some (.int (1 : Int32))) (fun h => by rw [Bd.returns] at h; cases h)
  refine ⟨_, _, ch13 _ ?_, hrun, hended, _, _, rfl, ?_, ⟨_, rfl⟩, hW, hsame.mono (by decide) (by decide)⟩
  · show Steps p.tables e below (T11.setTop (mkF m 72 #[.val (.int p1), .val (.int p2), .val (.ref (ad 1)), .val (.ref (ad 1)), .val (.int (1 : Int32)), .val (.int (1 : Int32)), .val (.int (1 : Int32))] [(.int (1 : Int32))])) _
    exact retN X11 hx (t := .boolean) Bd.returns (by simp) (hb hby at_72) hr
  · show QN (some (.int (1 : Int32))) n0 _ T11.heap _
    rw [e11]
    exact ⟨rfl, N11⟩
set_option maxRecDepth 65536 in
set_option maxHeartbeats 40000000 in
theorem comes_1 {Post : Tables → Env → Array Value → State → Outcome → State → Prop} (hpost : ∀ tb e args s v u, (limb_1_1.after args s (.returned v) u = true ∧ limb_1_2.after args s (.returned v) u = true ∧ True) → FrameEnd s (.returned v) u (Jvm.fieldLocs frame_1_writes args s ++ Jvm.arrayLocs frame_1_arrays args s ++ Jvm.staticLocs frame_1_statics s) 0 0 → Post tb e args s (.returned v) u) :
    ArmFor flags0 classFile x code maxLocals ret World_1 tables_1 room_1 Calls_1 rest_1 Pre_1 Post := by
  intro l hfl _ _ p e ha hc hk s m args below hf hA hF happ hP
  obtain ⟨hcalls, hrest, hpre⟩ := hP
  obtain ⟨-, -, -, hnamed, -, -, -, hat⟩ := (Spec.applies_iff hf).mp happ
  obtain ⟨hg, hn⟩ := and_e (Cond.before_iff.mp (show (Jvm.Cond.and given_1 narrow_1).before args s = true from hpre))
  obtain ⟨gc, hg⟩ := and_e hg
  obtain ⟨w0, w1, rfl⟩ : ∃ w0 w1 : Value, args = #[w0, w1] := by
    have hs : args.size = 2 := by simpa [Cond.value, given_1] using gc
    obtain ⟨L⟩ := args
    match L, hs with
    | [w0, w1], _ => exact ⟨w0, w1, rfl⟩
  have hw := fun d (hd : d ∈ tables_1) => atoms_spec (ws := Jvm.Cond.code x code maxLocals ret :: tables_1) hat d (List.mem_cons_of_mem _ hd)
  have hfit : Fit s := fun {y c} hc i hi => by
    obtain ⟨ha, rfl⟩ := Array.getElem?_eq_some_iff.mp hc
    have q := List.all_eq_true.mp ((Array.all_eq_true_iff_forall_mem.mp hF) _ (Array.getElem_mem ha)) i (List.mem_range.mpr hi)
    simpa [Array.getElem?_eq_getElem hi] using q
  obtain ⟨ga0, hg⟩ := and_e hg
  obtain ⟨i0, ei0⟩ := is_v ga0
  obtain rfl : w0 = (.int i0) := Option.some.inj ei0
  obtain ⟨i1, ei1⟩ := is_v hg
  obtain rfl : w1 = (.int i1) := Option.some.inj ei1
  obtain ⟨hn0, hn⟩ := and_e hn
  obtain ⟨hn1, hn⟩ := and_e hn
  obtain ⟨hn2, hn⟩ := and_e hn
  have hn3 := hn
  obtain ⟨a_READ, ev_READ⟩ := exa_v hn0
  have S_READ : Sta s s.heap "com/example/nokkel/nokkel/core/LockMode" "READ" "Lcom/example/nokkel/nokkel/core/LockMode;" (.ref a_READ) := Sta.start ev_READ (Or.inr ⟨(hw _ (List.mem_of_getElem? (i := 5) rfl)), (hw _ (List.mem_of_getElem? (i := 6) rfl))⟩)
  have E_READ : Exa s s.heap a_READ "com/example/nokkel/nokkel/core/LockMode" := Exa.start ev_READ hn0
  obtain ⟨a_WRITE, ev_WRITE⟩ := exa_v hn1
  have S_WRITE : Sta s s.heap "com/example/nokkel/nokkel/core/LockMode" "WRITE" "Lcom/example/nokkel/nokkel/core/LockMode;" (.ref a_WRITE) := Sta.start ev_WRITE (Or.inr ⟨(hw _ (List.mem_of_getElem? (i := 5) rfl)), (hw _ (List.mem_of_getElem? (i := 8) rfl))⟩)
  have E_WRITE : Exa s s.heap a_WRITE "com/example/nokkel/nokkel/core/LockMode" := Exa.start ev_WRITE hn1
  have F_WRITE_ordinal : Fld s s.heap a_WRITE "java/lang/Enum" "ordinal" "I" (.int (1 : Int32)) := Fld.start ((fld_at ev_WRITE).symm.trans (own_eqI hn2))
  have F_READ_ordinal : Fld s s.heap a_READ "java/lang/Enum" "ordinal" "I" (.int (0 : Int32)) := Fld.start ((fld_at ev_READ).symm.trans (own_eqI hn3))
  have W : OwnWd s s.heap (fun i => [a_READ, a_WRITE].getD i 0) := ⟨S_READ, E_READ, F_READ_ordinal, S_WRITE, E_WRITE, F_WRITE_ordinal⟩
  have hm_i0 := c_mask i0 (1 : Int32) 1 (by decide) (by decide)
  have hcA : (i0 &&& (1 : Int32)).toInt = 0 ∨ (i0 &&& (1 : Int32)).toInt = 1 := by omega
  have hm_i1 := c_mask i1 (1 : Int32) 1 (by decide) (by decide)
  have hcB : (i1 &&& (1 : Int32)).toInt = 0 ∨ (i1 &&& (1 : Int32)).toInt = 1 := by omega
  have H : MetFree l x (head1 (Jvm.Cond.code x code maxLocals ret :: tables_1) room_1) (fun a U => a = #[(.int i0), (.int i1)] ∧ s.Warmed39 U.vm ∧ U.heap = s.heap) (fun _ _ _ _ _ => True) (fun _ U o U' => ∃ v L, o = .returned v ∧ QN (some (.int (1 : Int32))) s.heap.size v U'.heap L ∧ FrameEnd U o U' L room_1.cells room_1.slots) := by
    rcases hcA with hk | hk <;> rcases hcB with hj | hj
    · exact own_law_00 l s _ hw tables_1 s.heap s.heap.size (Nat.le_refl _)  i0 i1 (Int32.toInt_inj.mp (hk.trans (by decide))) (Int32.toInt_inj.mp (hj.trans (by decide))) (fun i => [a_READ, a_WRITE].getD i 0) W
    · exact own_law_01 l s _ hw tables_1 s.heap s.heap.size (Nat.le_refl _)  i0 i1 (Int32.toInt_inj.mp (hk.trans (by decide))) (Int32.toInt_inj.mp (hj.trans (by decide))) (fun i => [a_READ, a_WRITE].getD i 0) W
    · exact own_law_10 l s _ hw tables_1 s.heap s.heap.size (Nat.le_refl _)  i0 i1 (Int32.toInt_inj.mp (hk.trans (by decide))) (Int32.toInt_inj.mp (hj.trans (by decide))) (fun i => [a_READ, a_WRITE].getD i 0) W
    · exact own_law_11 l s _ hw tables_1 s.heap s.heap.size (Nat.le_refl _)  i0 i1 (Int32.toInt_inj.mp (hk.trans (by decide))) (Int32.toInt_inj.mp (hj.trans (by decide))) (fun i => [a_READ, a_WRITE].getD i 0) W
  obtain ⟨n, o, h1, h2, h3, _, L, rfl, ⟨rfl, N⟩, hq⟩ := H p e ha hc hk s m _ below hf ((Spec.applies_iff_loose hf).mp happ).1 ⟨rfl, State.Warmed39.refl s, rfl⟩ trivial
  refine ⟨n, _, h1, h2, h3, hpost _ _ _ _ _ _ ⟨Cond.after_iff.mpr rfl, Cond.after_iff.mpr (eq_i res_at (Term.int_eval (1)) rfl), trivial⟩ ⟨hq.1, hq.2.1, (hq.2.2.sift fun y hy => Or.inr (N y hy)).mono (by decide) (by decide)⟩⟩
theorem main_1_1 : Claimed_1_1 := comes_1 fun _ _ _ _ _ _ h hF => ⟨h.1, hF⟩
theorem main_1_2 : Claimed_1_2 := comes_1 fun _ _ _ _ _ _ h hF => ⟨h.2.1, hF⟩
end Jvm.Pilot.@@N@@
namespace Jvm.Pilot.@@N@@
open Jvm Jvm.ClassFile Sem Op Lib Jvm.Free Jvm.Stand Jvm.Pilot.@@N@@.Jvm.D
/-! MADE BY PROGRAM (witnessworld.py) out of the Statement's table words and the real class files: 10 classes; the members and pool entries that the words name. The judged class is class 1, her method 2. -/
namespace start1
open Jvm.ClassFile
def u (s : String) : CpInfo := .utf8 (stringToUtf16 s)
/-- a pool by its gaps: so many unusable entries, then the entry; so many at the end -/
def gap : Nat → List CpInfo → List CpInfo
  | 0, r => r
  | n + 1, r => .unusable :: gap n r
def poolList (es : List (Nat × CpInfo)) (last : Nat) : List CpInfo := es.foldr (fun e r => gap e.1 (e.2 :: r)) (gap last [])
def pool (es : List (Nat × CpInfo)) (last : Nat) : Array CpInfo := ⟨poolList es last⟩
def fileOf (pool : Array CpInfo) (this : Nat) (attrs : Array Attribute := #[]) (ms : Array MethodInfo := #[]) (fl : Nat := 33) (sup : Nat := 0) (ifs : Array Nat := #[]) (fds : Array FieldInfo := #[]) : ClassFile where
  minorVersion := 0
  majorVersion := 65
  constantPool := pool
  accessFlags := fl
  thisClass := this
  superClass := sup
  interfaces := ifs
  fields := fds
  methods := ms
  attributes := attrs
def plain (name : String) (sup : Option ClassId) : Class where
  name := name
  kind := .ordinary
  loader := none
  accessFlags := 33
  super := sup
  interfaces := #[]
  cf := none
  fields := #[]
  methods := #[]
  instanceTypes := #[]
  staticTypes := #[]
  resolved := #[]
  callSites := []
  init := .initialized
  statics := none
  mirror := none

def pool0 : Array CpInfo := pool [(5, u "<init>"), (0, u "()V"), (1, .class_ 10), (1, u "java/lang/Object")] 113

def k0m0 : Method := { name := "<init>", desc := "()V", sig := { parameters := [], returnType := none }, accessFlags := 1, code := none }
/-- java/lang/Object -/
def k0 : Class := { plain "java/lang/Object" none with
  accessFlags := 33
  interfaces := #[]
  cf := some (fileOf pool0 8 #[] #[{ accessFlags := 1, nameIndex := 5, descriptorIndex := 6, attributes := #[] }] 33 0 #[] #[])
  fields := #[]
  methods := #[k0m0]
  instanceTypes := #[]
  staticTypes := #[]
  resolved := Array.replicate 124 none
  statics := none }

def pool1 : Array CpInfo := pool [(2, .class_ 4), (1, u "java/lang/Object"), (0, u "<init>"), (0, u "()V"), (0, .fieldref 8 9), (0, .class_ 10), (0, .nameAndType 11 12), (0, u "com/example/nokkel/nokkel/core/LockMode"), (0, u "WRITE"), (0, u "Lcom/example/nokkel/nokkel/core/LockMode;"), (0, .fieldref 8 14), (0, .nameAndType 15 12), (0, u "READ"), (0, .methodref 17 18), (0, .class_ 19), (0, .nameAndType 20 21), (0, u "com/example/nokkel/nokkel/core/LockModeConflictsWithPinLaw"), (0, u "mode"), (0, u "(I)Lcom/example/nokkel/nokkel/core/LockMode;"), (0, .methodref 8 23), (0, .nameAndType 24 25), (0, u "conflictsWith"), (0, u "(Lcom/example/nokkel/nokkel/core/LockMode;)Z"), (3, u "law"), (0, u "(II)Z")] 2

def k1m0 : Method := { name := "<init>", desc := "()V", sig := { parameters := [], returnType := none }, accessFlags := 1, code := none }
def k1c1 : Code := { maxStack := 2, maxLocals := 1, code := method_2_code, exceptionTable := #[], attributes := #[] }
def k1m1 : Method := { name := "mode", desc := "(I)Lcom/example/nokkel/nokkel/core/LockMode;", sig := { parameters := [.int], returnType := some (.object "com/example/nokkel/nokkel/core/LockMode") }, accessFlags := 10, code := some k1c1 }
def k1c2 : Code := { maxStack := 2, maxLocals := 7, code := code, exceptionTable := #[], attributes := #[] }
def k1m2 : Method := { name := "law", desc := "(II)Z", sig := { parameters := [.int, .int], returnType := some .boolean }, accessFlags := 9, code := some k1c2 }
/-- com/example/nokkel/nokkel/core/LockModeConflictsWithPinLaw -/
def k1 : Class := { plain "com/example/nokkel/nokkel/core/LockModeConflictsWithPinLaw" (some 0) with
  accessFlags := 49
  interfaces := #[]
  cf := some (fileOf pool1 17 #[] #[{ accessFlags := 1, nameIndex := 5, descriptorIndex := 6, attributes := #[] }, { accessFlags := 10, nameIndex := 20, descriptorIndex := 21, attributes := #[] }, { accessFlags := 9, nameIndex := 29, descriptorIndex := 30, attributes := #[] }] 49 2 #[] #[])
  fields := #[]
  methods := #[k1m0, k1m1, k1m2]
  instanceTypes := #[]
  staticTypes := #[]
  resolved := Array.replicate 33 none
  statics := none }

def pool2 : Array CpInfo := pool [(1, .class_ 2), (0, u "java/lang/constant/Constable"), (0, .class_ 4), (0, u "java/lang/Object")] 6

/-- java/lang/constant/Constable -/
def k2 : Class := { plain "java/lang/constant/Constable" (some 0) with
  accessFlags := 1537
  interfaces := #[]
  cf := some (fileOf pool2 1 #[] #[] 1537 3 #[] #[])
  fields := #[]
  methods := #[]
  instanceTypes := #[]
  staticTypes := #[]
  resolved := Array.replicate 11 none
  statics := none }

def pool3 : Array CpInfo := pool [(1, .class_ 2), (0, u "java/lang/Comparable"), (0, .class_ 4), (0, u "java/lang/Object")] 7

/-- java/lang/Comparable -/
def k3 : Class := { plain "java/lang/Comparable" (some 0) with
  accessFlags := 1537
  interfaces := #[]
  cf := some (fileOf pool3 1 #[] #[] 1537 3 #[] #[])
  fields := #[]
  methods := #[]
  instanceTypes := #[]
  staticTypes := #[]
  resolved := Array.replicate 12 none
  statics := none }

def pool4 : Array CpInfo := pool [(1, .class_ 2), (0, u "java/io/Serializable"), (0, .class_ 4), (0, u "java/lang/Object")] 2

/-- java/io/Serializable -/
def k4 : Class := { plain "java/io/Serializable" (some 0) with
  accessFlags := 1537
  interfaces := #[]
  cf := some (fileOf pool4 1 #[] #[] 1537 3 #[] #[])
  fields := #[]
  methods := #[]
  instanceTypes := #[]
  staticTypes := #[]
  resolved := Array.replicate 7 none
  statics := none }

def pool5 : Array CpInfo := pool [(2, .class_ 4), (1, u "java/lang/Enum"), (0, u "name"), (0, u "Ljava/lang/String;"), (2, u "ordinal"), (0, u "I"), (1, .class_ 14), (1, u "java/lang/Object"), (4, u "hash"), (86, .class_ 108), (1, u "java/lang/Enum$EnumDesc"), (2, .class_ 112), (0, u "java/lang/constant/Constable"), (0, .class_ 114), (0, u "java/lang/Comparable"), (0, .class_ 116), (0, u "java/io/Serializable")] 87

/-- java/lang/Enum -/
def k5 : Class := { plain "java/lang/Enum" (some 0) with
  accessFlags := 1057
  interfaces := #[2, 3, 4]
  cf := some (fileOf pool5 2 #[.nestMembers #[106]] #[] 1057 12 #[111, 113, 115] #[{ accessFlags := 18, nameIndex := 5, descriptorIndex := 6, attributes := #[] }, { accessFlags := 18, nameIndex := 9, descriptorIndex := 10, attributes := #[] }, { accessFlags := 2, nameIndex := 19, descriptorIndex := 10, attributes := #[] }])
  fields := #[{ name := "name", type := (.object "java/lang/String"), accessFlags := 18, slot := 0, constantValue := 0 }, { name := "ordinal", type := .int, accessFlags := 18, slot := 1, constantValue := 0 }, { name := "hash", type := .int, accessFlags := 2, slot := 2, constantValue := 0 }]
  methods := #[]
  instanceTypes := #[(.object "java/lang/String"), .int, .int]
  staticTypes := #[]
  resolved := Array.replicate 204 none
  statics := none }

def pool6 : Array CpInfo := pool [(1, .class_ 2), (0, u "com/example/nokkel/nokkel/core/LockMode"), (2, u "READ"), (0, u "Lcom/example/nokkel/nokkel/core/LockMode;"), (0, .fieldref 1 8), (0, .nameAndType 9 6), (0, u "WRITE"), (2, u "$VALUES"), (0, u "[Lcom/example/nokkel/nokkel/core/LockMode;"), (6, .class_ 22), (1, u "java/lang/Enum"), (20, u "conflictsWith"), (0, u "(Lcom/example/nokkel/nokkel/core/LockMode;)Z")] 5

def k6c0 : Code := { maxStack := 2, maxLocals := 2, code := prog_20_method_4_code, exceptionTable := #[], attributes := #[] }
def k6m0 : Method := { name := "conflictsWith", desc := "(Lcom/example/nokkel/nokkel/core/LockMode;)Z", sig := { parameters := [(.object "com/example/nokkel/nokkel/core/LockMode")], returnType := some .boolean }, accessFlags := 1, code := some k6c0 }
/-- com/example/nokkel/nokkel/core/LockMode -/
def k6 : Class := { plain "com/example/nokkel/nokkel/core/LockMode" (some 5) with
  accessFlags := 16433
  interfaces := #[]
  cf := some (fileOf pool6 1 #[] #[{ accessFlags := 1, nameIndex := 43, descriptorIndex := 44, attributes := #[] }] 16433 20 #[] #[{ accessFlags := 16409, nameIndex := 5, descriptorIndex := 6, attributes := #[] }, { accessFlags := 16409, nameIndex := 9, descriptorIndex := 6, attributes := #[] }, { accessFlags := 4122, nameIndex := 12, descriptorIndex := 13, attributes := #[] }])
  fields := #[{ name := "READ", type := (.object "com/example/nokkel/nokkel/core/LockMode"), accessFlags := 16409, slot := 0, constantValue := 0 }, { name := "WRITE", type := (.object "com/example/nokkel/nokkel/core/LockMode"), accessFlags := 16409, slot := 1, constantValue := 0 }, { name := "$VALUES", type := (.array (.object "com/example/nokkel/nokkel/core/LockMode")), accessFlags := 4122, slot := 2, constantValue := 0 }]
  methods := #[k6m0]
  instanceTypes := #[(.object "java/lang/String"), .int, .int]
  staticTypes := #[(.object "com/example/nokkel/nokkel/core/LockMode"), (.object "com/example/nokkel/nokkel/core/LockMode"), (.array (.object "com/example/nokkel/nokkel/core/LockMode"))]
  resolved := Array.replicate 50 none
  statics := some 0 }

def pool7 : Array CpInfo := pool [(1, u "java/lang/Cloneable"), (0, .class_ 1), (0, u "java/lang/Object"), (0, .class_ 3)] 3

/-- java/lang/Cloneable -/
def k7 : Class := { plain "java/lang/Cloneable" (some 0) with
  accessFlags := 1537
  interfaces := #[]
  cf := some (fileOf pool7 2 #[] #[] 1537 4 #[] #[])
  fields := #[]
  methods := #[]
  instanceTypes := #[]
  staticTypes := #[]
  resolved := Array.replicate 8 none
  statics := none }

/-- the primitive byte -/
def k8 : Class := { plain "byte" none with kind := .primitive 'B', accessFlags := 0x411 }
/-- [B -/
def k9 : Class := { plain "[B" (some 0) with kind := .array 8 .byte, interfaces := #[7, 4], accessFlags := 1041 }

def heap : Heap := #[{ cls := 6, slots := #[.ref 1, .ref 2, .null], vm := .statics 6 },
  { cls := 6, slots := #[.null, .int 0, .int 0], vm := .none },
  { cls := 6, slots := #[.null, .int 1, .int 0], vm := .none }]
def classes : Array Class := #[k0, k1, k2, k3, k4, k5, k6, k7, k8, k9]
def interned : List (Array UInt16 × Addr) := []
def slotsUsed : Nat := 9
def theMethod : MethodId := ⟨1, 2⟩
def args0 : Array Value := #[.int 5, .int 2]
def aboutOver (below : List Frame) : State where
  vm := { classes := classes, interned := interned.toArray }
  heap := heap
  slotsUsed := slotsUsed
  threads := #[{ frames := .invoking theMethod args0 :: below }]
def below0 : List Frame := [.native { method := ⟨0, 0⟩, args := #[] }]
def about1 : State := aboutOver below0
def p0 : Program := .bare "" "" ""
def e0 : Env := launch0.env 0 0 0
theorem w_frames : about1.frames = Frame.invoking theMethod args0 :: below0 := rfl
set_option maxRecDepth 65536 in
theorem w_args : argsFit about1.vm theMethod args0 = true := by decide +kernel
set_option maxRecDepth 65536 in
theorem w_heap : heapFits about1 = true := by decide +kernel
set_option maxRecDepth 65536 in
theorem w_runnable : about1.curStatus? = some .runnable := by decide +kernel
set_option maxRecDepth 65536 in
theorem w_alone : about1.alone = true := by decide +kernel
set_option maxRecDepth 65536 in
theorem w_named : about1.methodNamed? x = some theMethod := by decide +kernel
set_option maxRecDepth 65536 in
theorem w_hears : about1.hears theMethod below0 = true := by decide +kernel
set_option maxRecDepth 65536 in
theorem w_ripe : about1.ripe theMethod args0 below0 = true := by decide +kernel
theorem w_running : about1.status = .running := rfl
set_option maxRecDepth 65536 in
theorem w_room : about1.hasRoom e0.platform room_1 = true :=
  launch0.hasRoom_least _ room_1 (by decide +kernel) (by decide +kernel) (by decide +kernel) (by decide +kernel) (by decide +kernel) (by decide +kernel)
theorem allAtoms_all (ts : List Jvm.Cond) (a : Array Jvm.Value) (st : Jvm.State) : (allAtoms ts).before a st = ts.all (fun c => c.before a st) := by
  induction ts with
  | nil => rfl
  | cons c t ih =>
    show (Jvm.Cond.and c (allAtoms t)).before a st = _
    rw [Jvm.Cond.before_and, ih, List.all_cons]
def words1 : List Jvm.Cond := Jvm.Cond.code x code maxLocals ret :: tables_1
/-- a 'code' word, met by the world's own term for the bytes: nothing is compared byte by byte -/
theorem code_word {y : MethodName} {bytes : ByteArray} {mx : Nat} {rt : Option FieldType} {a : Array Value} {s : State} {m : MethodId} {meth : Method} {c : Code} (h1 : s.methodNamed? y = some m) (h2 : s.vm.method? m = some meth) (h3 : meth.code = some c) (h4 : c.code = bytes)
    (h5 : (c.maxLocals == mx && c.exceptionTable.isEmpty && decide (c.maxStack ≤ mostOperands) && decide (meth.sig.returnType = rt) && !meth.locks && decide (parseMethodDescriptor y.desc = some meth.sig)) = true) : (Jvm.Cond.code y bytes mx rt).before a s = true := by
  simp only [Bool.and_eq_true, beq_iff_eq, Bool.not_eq_true', decide_eq_true_eq] at h5
  obtain ⟨⟨⟨⟨⟨g1, g2⟩, g3⟩, g4⟩, g5⟩, g6⟩ := h5
  simp [Cond.before, Cond.holds, Cond.value, h1, h2, h3, h4, g1, g2, g3, g4, g5, g6]
def isCode : Jvm.Cond → Bool
  | .code _ _ _ _ => true
  | _ => false
theorem all_split {L : List Jvm.Cond} {P : Jvm.Cond → Bool} (h1 : L.all (fun c => isCode c || P c) = true) (h2 : ∀ c ∈ L.filter isCode, P c = true) : L.all P = true := by
  refine List.all_eq_true.mpr fun c hc => ?_
  have h := List.all_eq_true.mp h1 c hc
  rcases Bool.eq_false_or_eq_true (isCode c) with hi | hi
  · exact h2 c (List.mem_filter.mpr ⟨hc, hi⟩)
  · simpa [hi] using h
set_option maxRecDepth 65536 in
theorem w_c0 : (Jvm.Cond.code x code maxLocals ret).before args0 about1 = true := code_word (m := ⟨1, 2⟩) (meth := k1m2) (c := k1c2) (by decide +kernel) rfl rfl rfl (by decide +kernel)
set_option maxRecDepth 65536 in
theorem w_c1 : (Jvm.Cond.code ({ cls := "com/example/nokkel/nokkel/core/LockModeConflictsWithPinLaw", name := "mode", desc := "(I)Lcom/example/nokkel/nokkel/core/LockMode;" } : Jvm.MethodName) method_2_code (1 : Nat) (Option.some (Jvm.ClassFile.FieldType.object "com/example/nokkel/nokkel/core/LockMode"))).before args0 about1 = true := code_word (m := ⟨1, 1⟩) (meth := k1m1) (c := k1c1) (by decide +kernel) rfl rfl rfl (by decide +kernel)
set_option maxRecDepth 65536 in
theorem w_c2 : (Jvm.Cond.code ({ cls := "com/example/nokkel/nokkel/core/LockMode", name := "conflictsWith", desc := "(Lcom/example/nokkel/nokkel/core/LockMode;)Z" } : Jvm.MethodName) prog_20_method_4_code (2 : Nat) (Option.some Jvm.ClassFile.FieldType.boolean)).before args0 about1 = true := code_word (m := ⟨6, 0⟩) (meth := k6m0) (c := k6c0) (by decide +kernel) rfl rfl rfl (by decide +kernel)
def codes1 : List Jvm.Cond := [Jvm.Cond.code x code maxLocals ret, Jvm.Cond.code ({ cls := "com/example/nokkel/nokkel/core/LockModeConflictsWithPinLaw", name := "mode", desc := "(I)Lcom/example/nokkel/nokkel/core/LockMode;" } : Jvm.MethodName) method_2_code (1 : Nat) (Option.some (Jvm.ClassFile.FieldType.object "com/example/nokkel/nokkel/core/LockMode")), Jvm.Cond.code ({ cls := "com/example/nokkel/nokkel/core/LockMode", name := "conflictsWith", desc := "(Lcom/example/nokkel/nokkel/core/LockMode;)Z" } : Jvm.MethodName) prog_20_method_4_code (2 : Nat) (Option.some Jvm.ClassFile.FieldType.boolean)]
set_option maxRecDepth 65536 in
theorem codes_eq : words1.filter isCode = codes1 := rfl
theorem w_codes : ∀ c ∈ words1.filter isCode, c.before args0 about1 = true := by
  rw [codes_eq]
  intro c hc
  simp only [codes1, List.mem_cons, List.not_mem_nil, or_false] at hc
  rcases hc with rfl | rfl | rfl
  · exact w_c0
  · exact w_c1
  · exact w_c2
set_option maxRecDepth 65536 in
theorem w_t1 : words1.all (fun c => isCode c || c.before args0 about1) = true := by decide +kernel
theorem w_tables : (allAtoms (Jvm.Cond.code x code maxLocals ret :: tables_1)).before args0 about1 = true := by
  rw [allAtoms_all]
  show words1.all (fun c => c.before args0 about1) = true
  refine all_split ?_ w_codes
  rw [w_t1]
set_option maxRecDepth 65536 in
theorem w_case : (Jvm.Cond.and given_1 narrow_1).before args0 about1 = true := by decide +kernel
theorem w_applies : (headSpec (Jvm.Cond.code x code maxLocals ret :: tables_1) room_1).applies x e0.platform about1 = true :=
  (Spec.applies_iff w_frames).mpr ⟨w_running, w_runnable, w_alone, w_named, w_hears, w_ripe, w_room, w_tables⟩
theorem atStart : AtStart classFile x code maxLocals ret World_1 tables_1 room_1 Calls_1 rest_1 Pre_1 launch0 p0 e0 about1 theMethod args0 below0 :=
  ⟨lists_1, trivial, launch0.admits_env _ _ _, launch0.least_env, fairChoices_fair.cas, fairChoices_fair.clock, w_frames, w_args, w_heap, w_applies, trivial, trivial, w_case⟩
end start1
theorem witness_1 : WitnessClaimed_1 := ⟨start1.p0, start1.e0, start1.about1, start1.theMethod, start1.args0, start1.below0, start1.atStart⟩
end Jvm.Pilot.@@N@@
