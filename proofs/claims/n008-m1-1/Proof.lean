import JvmDerived
import JvmDerived.Pilot.@@N@@Statement
import JvmDerived.Pilot.@@N@@Code
set_option linter.unusedVariables false
set_option linter.unusedSimpArgs false
namespace Jvm.RoadKit
open Sem ClassFile Op Lib Jvm.Stand Jvm.Free Jvm.LawKit
section New
variable {p : Program} {l : Launch} {e : Env} {R : Room} {s : State} {m : MethodId} {args : Array Value} {below : List Frame} {meth : Method} {c : Code} {T : State} {locs : List Loc} {cells slots : Nat}
theorem retI (X : Stand p l e R s m args below meth c T locs cells slots) (hx : p.tables.exec = Jvm.exec) {pc : Nat} {Ls : Array Slot} {z : Int32} {rest : List Value} (hret : meth.sig.returnType = some .int) (hd : decode c.code pc = .ok (.ireturn, 1)) {fs : List Frame}
    (hl : ∀ (f : JFrame) (acts : List Action), f.method = m → f.locked = none → f.entered = [] → (doReturn e (T.setTop f) acts (some (.int z))).1 = T.setFrames fs) : Steps p.tables e below (T.setTop (mkF m pc Ls (.int z :: rest))) (T.setFrames fs) := by
  have hm' : T.vm.method? m = some meth := X.method'
  have hn : narrow .int (.int z) = .int z := rfl
  show Steps p.tables e below (T.setTop { method := m, pc := pc, locals := Ls, stack := _ :: rest, locked := none }) _
  jvm_step X.here [X.here.top, hx, hd, hm', hret, hn]
  first | (intro acts; rw [hl _ acts rfl rfl rfl]) | rw [hl _ _ rfl rfl rfl]
  exact Steps.refl _
end New
end Jvm.RoadKit
namespace Jvm.Pilot.@@N@@
open Jvm Jvm.ClassFile Sem Op Lib Jvm.Free Jvm.Stand Jvm.LawKit Jvm.RoadKit Bundle Jvm.Pilot.@@N@@.Jvm.D
def QV (r : Option Value) (h0 : Heap) (n0 : Nat) (v : Option Value) (h : Heap) (L : List Loc) : Prop := v = r ∧ Fr n0 L ∧ h = h0
def QN (r : Option Value) (n0 : Nat) (v : Option Value) (h : Heap) (L : List Loc) : Prop := v = r ∧ Fr n0 L
section OwnWords
variable {args : Array Value} {first s : State} {o : Option Outcome} {idx : List Nat} {t : Term}
theorem own_eqI {k : Int32} (h : (Jvm.Cond.eq t (.int k)).value args first o s idx = some true) : t.eval args first o idx s = some (.int k) := by
  simp only [Jvm.Cond.value, Term.eval] at h; cases ht : t.eval args first o idx s with | none => simp [ht] at h | some x => cases x <;> simp [ht] at h ⊢; exact h
end OwnWords
theorem own_exa_plain {Z : State} {h : Heap} {a : Addr} {C : String} (F : Exa Z h a C) (c : Cell) (hc : h[a]? = some c) : c.vm.isStatics = false := by
  obtain ⟨cell, k, h1, h2, h3, h4, h5⟩ := F; cases h1.symm.trans hc; exact h4
theorem own_arv_plain {Z : State} {h : Heap} {a : Addr} {k : ClassId} {ty : FieldType} {n : Int32} {vs : List Value} {d : Value} (F : Arv Z h a k ty n vs d) (c : Cell) (hc : h[a]? = some c) : c.vm.isStatics = false := by
  obtain ⟨cell, A, -⟩ := F; cases A.1.symm.trans hc; exact A.plain
theorem own_ext_of_keep {h h' : Heap} {ws : List Addr} (K : Keep h h' ws) (q : ∀ x ∈ ws, h.size ≤ x) : Ext h h' := ⟨K.1, fun a c hc => K.2.1 a c hc fun hm => absurd (Array.getElem?_eq_some_iff.mp hc).1 (Nat.not_lt.mpr (q a hm))⟩
theorem own_fitc {Z : State} {h : Heap} {a : Addr} {c : Cell} {ty : FieldType} {vs : List Value} {d : Value} (A : Arr Z h a c ty) (H : Has c vs d) (G : ∀ i, i < c.slots.size → fits ty (vs.getD i d) = true) : FitC Z c := fun i v hv => by
  obtain ⟨hi, -⟩ := Array.getElem?_eq_some_iff.mp hv
  obtain ⟨hs, k, hk, comp, hkind⟩ := A.2.1
  have e : Z.slotType? c.cls .none i = some ty := by simp [State.slotType?, hk, hkind]
  have ev : v = vs.getD i d := Option.some.inj (hv.symm.trans (H i hi))
  simp only [State.fitsSlot, e]
  rw [ev]; exact G i hi
theorem own_sta_keep {Z : State} {h h' : Heap} {C n d : String} {w : Value} {ws : List Addr} (F : Sta Z h C n d w) (K : Keep h h' ws) (q : ∀ x ∈ ws, ∀ c : Cell, h[x]? = some c → c.vm.isStatics = false) : Sta Z h' C n d w := by
  obtain ⟨cf, i, k, f, st, cell, h1, h2, h3, h4, h5, h6, h7⟩ := F
  exact ⟨cf, i, k, f, st, cell, h1, h2, h3, h4, K.2.1 _ _ h5 (fun hx => by rw [q _ hx _ h5] at h6; cases h6), h6, h7⟩
section OwnWords2
variable {args : Array Value} {s : State} {t u : Term}
theorem own_eqR {a : Addr} (h : (Jvm.Cond.eq t u).value args s none s [] = some true) (hu : u.eval args s none [] s = some (.ref a)) : t.eval args s none [] s = some (.ref a) := by
  simp only [Jvm.Cond.value, hu] at h; cases ht : t.eval args s none [] s with | none => simp [ht] at h | some x => cases x <;> simp [ht] at h ⊢; exact h
theorem own_len {a : Addr} {cl : Cell} {ty : FieldType} {k : Int32} (ev : t.eval args s none [] s = some (.ref a)) (A : Arr s s.heap a cl ty) (h : (Term.length t).eval args s none [] s = some (.int k)) : cl.slots.size < 2 ^ 31 ∧ cl.slots.size.toInt32 = k := by
  have ha := A.fin (Vm.Alike.refl _)
  by_cases hl : cl.slots.size < 2 ^ 31
  · rw [len_f ev ha hl] at h; exact ⟨hl, Value.int.inj (Option.some.inj h)⟩
  · simp [Term.eval, ev, ha, hl] at h
theorem own_elem {a : Addr} {cl : Cell} {ty : FieldType} {k : Int32} {v : Value} (ev : t.eval args s none [] s = some (.ref a)) (A : Arr s s.heap a cl ty) (h : (Term.elem t (.int k)).eval args s none [] s = some v) : cl.slots[k.toNatClampNeg]? = some v := (elem_in h ev (Term.int_eval k) A.1).2
end OwnWords2
def OwnWd (Z : State) (h0 : Heap) (ad : Nat → Addr) : Prop := Sta Z h0 "com/example/leafwright/leafwright/Thumbnails$Source" "DECLARED" "Lcom/example/leafwright/leafwright/Thumbnails$Source;" (.ref (ad 0)) ∧ Exa Z h0 (ad 0) "com/example/leafwright/leafwright/Thumbnails$Source" ∧ Sta Z h0 "com/example/leafwright/leafwright/Thumbnails$Source" "SIZE" "Lcom/example/leafwright/leafwright/Thumbnails$Source;" (.ref (ad 1)) ∧ Exa Z h0 (ad 1) "com/example/leafwright/leafwright/Thumbnails$Source"
theorem own_S_DECLARED {Z : State} {h0 : Heap} {ad : Nat → Addr} (W : OwnWd Z h0 ad) : Sta Z h0 "com/example/leafwright/leafwright/Thumbnails$Source" "DECLARED" "Lcom/example/leafwright/leafwright/Thumbnails$Source;" (.ref (ad 0)) := W.1
theorem own_E_DECLARED {Z : State} {h0 : Heap} {ad : Nat → Addr} (W : OwnWd Z h0 ad) : Exa Z h0 (ad 0) "com/example/leafwright/leafwright/Thumbnails$Source" := W.2.1
theorem own_S_SIZE {Z : State} {h0 : Heap} {ad : Nat → Addr} (W : OwnWd Z h0 ad) : Sta Z h0 "com/example/leafwright/leafwright/Thumbnails$Source" "SIZE" "Lcom/example/leafwright/leafwright/Thumbnails$Source;" (.ref (ad 1)) := W.2.2.1
theorem own_E_SIZE {Z : State} {h0 : Heap} {ad : Nat → Addr} (W : OwnWd Z h0 ad) : Exa Z h0 (ad 1) "com/example/leafwright/leafwright/Thumbnails$Source" := W.2.2.2
theorem own_Wd_ext {Z : State} {h0 : Heap} {ad : Nat → Addr} {h' : Heap} (W : OwnWd Z h0 ad) (E : Ext h0 h') : OwnWd Z h' ad := ⟨(own_S_DECLARED W).ext E, (own_E_DECLARED W).ext E, (own_S_SIZE W).ext E, (own_E_SIZE W).ext E⟩
theorem own_d_jdk_29_method_65_code_0 : decode jdk_29_method_65_code 0 = .ok (.iload_n 0, 1) := by decide +kernel
theorem own_d_jdk_29_method_65_code_1 : decode jdk_29_method_65_code 1 = .ok (.iload_n 1, 1) := by decide +kernel
theorem own_d_jdk_29_method_65_code_2 : decode jdk_29_method_65_code 2 = .ok (.if_icmp .lt 7, 3) := by decide +kernel
theorem own_d_jdk_29_method_65_code_9 : decode jdk_29_method_65_code 9 = .ok (.iload_n 1, 1) := by decide +kernel
theorem own_d_jdk_29_method_65_code_10 : decode jdk_29_method_65_code 10 = .ok (.ireturn, 1) := by decide +kernel
theorem own_pf_java_lang_Math_max__II_I : plainFor (⟨"java/lang/Math", "max", "(II)I"⟩ : MethodName) = true := by decide +kernel
theorem own_d_jdk_29_method_65_code_5 : decode jdk_29_method_65_code 5 = .ok (.iload_n 0, 1) := by decide +kernel
theorem own_d_jdk_29_method_65_code_6 : decode jdk_29_method_65_code 6 = .ok (.goto 4, 3) := by decide +kernel
theorem own_d_jdk_30_method_1_code_0 : decode jdk_30_method_1_code 0 = .ok (.aload_n 0, 1) := by decide +kernel
theorem own_d_jdk_30_method_1_code_1 : decode jdk_30_method_1_code 1 = .ok (.invokespecial 1, 3) := by decide +kernel
theorem own_d_jdk_30_method_1_code_4 : decode jdk_30_method_1_code 4 = .ok (.return_, 1) := by decide +kernel
theorem own_pn_java_lang_Record : plainName "java/lang/Record" = true := by first | (simp [plainName, overriddenIn]; done) | decide +kernel
theorem own_d_jdk_31_method_11_code_0 : decode jdk_31_method_11_code 0 = .ok (.aload_n 0, 1) := by decide +kernel
theorem own_d_jdk_31_method_11_code_1 : decode jdk_31_method_11_code 1 = .ok (.ifnonnull 12, 3) := by decide +kernel
theorem own_d_jdk_31_method_11_code_13 : decode jdk_31_method_11_code 13 = .ok (.aload_n 0, 1) := by decide +kernel
theorem own_d_jdk_31_method_11_code_14 : decode jdk_31_method_11_code 14 = .ok (.areturn, 1) := by decide +kernel
theorem own_pn_java_util_Objects : plainName "java/util/Objects" = true := by first | (simp [plainName, overriddenIn]; done) | decide +kernel
theorem own_d_prog_32_method_6_code_0 : decode prog_32_method_6_code 0 = .ok (.iload_n 0, 1) := by decide +kernel
theorem own_d_prog_32_method_6_code_1 : decode prog_32_method_6_code 1 = .ok (.ifCond .gt 18, 3) := by decide +kernel
theorem own_d_prog_32_method_6_code_19 : decode prog_32_method_6_code 19 = .ok (.return_, 1) := by decide +kernel
theorem own_pn_com_example_leafwright_leafwright_Thumbnails : plainName "com/example/leafwright/leafwright/Thumbnails" = true := by first | (simp [plainName, overriddenIn]; done) | decide +kernel
theorem own_d_prog_33_method_1_code_0 : decode prog_33_method_1_code 0 = .ok (.aload_n 0, 1) := by decide +kernel
theorem own_d_prog_33_method_1_code_1 : decode prog_33_method_1_code 1 = .ok (.invokespecial 1, 3) := by decide +kernel
theorem own_pd___V : parseMethodDescriptor "()V" = some ⟨[], none⟩ := by decide +kernel
theorem own_d_prog_33_method_1_code_4 : decode prog_33_method_1_code 4 = .ok (.aload_n 1, 1) := by decide +kernel
theorem own_d_prog_33_method_1_code_5 : decode prog_33_method_1_code 5 = .ok (.ldc 7, 2) := by decide +kernel
theorem own_d_prog_33_method_1_code_7 : decode prog_33_method_1_code 7 = .ok (.invokestatic 9, 3) := by decide +kernel
theorem own_pd__Ljava_lang_Object_Ljava_lang_String__Ljava_lang_Object_ : parseMethodDescriptor "(Ljava/lang/Object;Ljava/lang/String;)Ljava/lang/Object;" = some ⟨[(.object "java/lang/Object"), (.object "java/lang/String")], some (.object "java/lang/Object")⟩ := by decide +kernel
theorem own_d_prog_33_method_1_code_10 : decode prog_33_method_1_code 10 = .ok (.pop, 1) := by decide +kernel
theorem own_d_prog_33_method_1_code_11 : decode prog_33_method_1_code 11 = .ok (.aload 4, 2) := by decide +kernel
theorem own_d_prog_33_method_1_code_13 : decode prog_33_method_1_code 13 = .ok (.ldc 15, 2) := by decide +kernel
theorem own_d_prog_33_method_1_code_15 : decode prog_33_method_1_code 15 = .ok (.invokestatic 9, 3) := by decide +kernel
theorem own_d_prog_33_method_1_code_18 : decode prog_33_method_1_code 18 = .ok (.pop, 1) := by decide +kernel
theorem own_d_prog_33_method_1_code_19 : decode prog_33_method_1_code 19 = .ok (.iload_n 2, 1) := by decide +kernel
theorem own_d_prog_33_method_1_code_20 : decode prog_33_method_1_code 20 = .ok (.ldc 17, 2) := by decide +kernel
theorem own_d_prog_33_method_1_code_22 : decode prog_33_method_1_code 22 = .ok (.invokestatic 19, 3) := by decide +kernel
theorem own_pd__ILjava_lang_String__V : parseMethodDescriptor "(ILjava/lang/String;)V" = some ⟨[.int, (.object "java/lang/String")], none⟩ := by decide +kernel
theorem own_d_prog_33_method_1_code_25 : decode prog_33_method_1_code 25 = .ok (.iload_n 3, 1) := by decide +kernel
theorem own_d_prog_33_method_1_code_26 : decode prog_33_method_1_code 26 = .ok (.ldc 25, 2) := by decide +kernel
theorem own_d_prog_33_method_1_code_28 : decode prog_33_method_1_code 28 = .ok (.invokestatic 19, 3) := by decide +kernel
theorem own_d_prog_33_method_1_code_31 : decode prog_33_method_1_code 31 = .ok (.aload_n 0, 1) := by decide +kernel
theorem own_d_prog_33_method_1_code_32 : decode prog_33_method_1_code 32 = .ok (.aload_n 1, 1) := by decide +kernel
theorem own_d_prog_33_method_1_code_33 : decode prog_33_method_1_code 33 = .ok (.putfield 27, 3) := by decide +kernel
theorem own_d_prog_33_method_1_code_36 : decode prog_33_method_1_code 36 = .ok (.aload_n 0, 1) := by decide +kernel
theorem own_d_prog_33_method_1_code_37 : decode prog_33_method_1_code 37 = .ok (.iload_n 2, 1) := by decide +kernel
theorem own_d_prog_33_method_1_code_38 : decode prog_33_method_1_code 38 = .ok (.putfield 32, 3) := by decide +kernel
theorem own_d_prog_33_method_1_code_41 : decode prog_33_method_1_code 41 = .ok (.aload_n 0, 1) := by decide +kernel
theorem own_d_prog_33_method_1_code_42 : decode prog_33_method_1_code 42 = .ok (.iload_n 3, 1) := by decide +kernel
theorem own_d_prog_33_method_1_code_43 : decode prog_33_method_1_code 43 = .ok (.putfield 35, 3) := by decide +kernel
theorem own_d_prog_33_method_1_code_46 : decode prog_33_method_1_code 46 = .ok (.aload_n 0, 1) := by decide +kernel
theorem own_d_prog_33_method_1_code_47 : decode prog_33_method_1_code 47 = .ok (.aload 4, 2) := by decide +kernel
theorem own_d_prog_33_method_1_code_49 : decode prog_33_method_1_code 49 = .ok (.putfield 37, 3) := by decide +kernel
theorem own_d_prog_33_method_1_code_52 : decode prog_33_method_1_code 52 = .ok (.return_, 1) := by decide +kernel
theorem own_pn_com_example_leafwright_leafwright_Thumbnails_Candidate : plainName "com/example/leafwright/leafwright/Thumbnails$Candidate" = true := by first | (simp [plainName, overriddenIn]; done) | decide +kernel
theorem own_d_prog_33_method_3_code_0 : decode prog_33_method_3_code 0 = .ok (.aload_n 0, 1) := by decide +kernel
theorem own_d_prog_33_method_3_code_1 : decode prog_33_method_3_code 1 = .ok (.getfield 32, 3) := by decide +kernel
theorem own_d_prog_33_method_3_code_4 : decode prog_33_method_3_code 4 = .ok (.iload_n 1, 1) := by decide +kernel
theorem own_d_prog_33_method_3_code_5 : decode prog_33_method_3_code 5 = .ok (.if_icmp .ge 11, 3) := by decide +kernel
theorem own_d_prog_33_method_3_code_16 : decode prog_33_method_3_code 16 = .ok (.iconst 1, 1) := by decide +kernel
theorem own_d_prog_33_method_3_code_17 : decode prog_33_method_3_code 17 = .ok (.goto 4, 3) := by decide +kernel
theorem own_d_prog_33_method_3_code_21 : decode prog_33_method_3_code 21 = .ok (.ireturn, 1) := by decide +kernel
theorem own_d_prog_33_method_3_code_8 : decode prog_33_method_3_code 8 = .ok (.aload_n 0, 1) := by decide +kernel
theorem own_d_prog_33_method_3_code_9 : decode prog_33_method_3_code 9 = .ok (.getfield 35, 3) := by decide +kernel
theorem own_d_prog_33_method_3_code_12 : decode prog_33_method_3_code 12 = .ok (.iload_n 2, 1) := by decide +kernel
theorem own_d_prog_33_method_3_code_13 : decode prog_33_method_3_code 13 = .ok (.if_icmp .lt 7, 3) := by decide +kernel
theorem own_d_prog_33_method_3_code_20 : decode prog_33_method_3_code 20 = .ok (.iconst 0, 1) := by decide +kernel
theorem own_pd__II_I : parseMethodDescriptor "(II)I" = some ⟨[.int, .int], some .int⟩ := by decide +kernel
theorem own_pd__Ljava_lang_String_IILcom_example_leafwright_leafwright_Thumbnails_Source__V : parseMethodDescriptor "(Ljava/lang/String;IILcom/example/leafwright/leafwright/Thumbnails$Source;)V" = some ⟨[(.object "java/lang/String"), .int, .int, (.object "com/example/leafwright/leafwright/Thumbnails$Source")], none⟩ := by decide +kernel
theorem own_pd__II_Z : parseMethodDescriptor "(II)Z" = some ⟨[.int, .int], some .boolean⟩ := by decide +kernel
theorem own_pn_com_example_leafwright_leafwright_CandidateCoversPinLaw : plainName "com/example/leafwright/leafwright/CandidateCoversPinLaw" = true := by first | (simp [plainName, overriddenIn]; done) | decide +kernel
theorem own_wS {Z : State} {a0 : Array Value} (hw : ∀ d ∈ tables_1, d.before a0 Z = true) : ∀ a ∈ Bundle.stringAtoms, a.before a0 Z = true := fun d hd => by
  simp only [Bundle.stringAtoms, List.mem_cons, List.not_mem_nil, or_false] at hd
  rcases hd with rfl | rfl | rfl | rfl | rfl | rfl | rfl
  · exact (hw _ (List.mem_of_getElem? (i := 12) rfl))
  · exact (hw _ (List.mem_of_getElem? (i := 13) rfl))
  · exact (hw _ (List.mem_of_getElem? (i := 14) rfl))
  · exact (hw _ (List.mem_of_getElem? (i := 15) rfl))
  · exact (hw _ (List.mem_of_getElem? (i := 16) rfl))
  · exact (hw _ (List.mem_of_getElem? (i := 17) rfl))
  · exact (hw _ (List.mem_of_getElem? (i := 18) rfl))
theorem own_mvMN {Z s : State} {a0 args : Array Value} {own host : String} {index : Nat} {y : MethodName} (hZ : Z.Warmed39 s.vm) (w : (Jvm.Cond.methodLinkNest own index y host).before a0 Z = true) : (Jvm.Cond.methodLinkNest own index y host).before args s = true := (Cond.methodLinkNest_wide hZ w :)
def QCi (Z : State) (b u : Addr) (w h1 : Int32) (c : Addr) (h0 : Heap) (n0 : Nat) (v : Option Value) (h : Heap) (L : List Loc) : Prop := v = none ∧ Fr n0 L ∧ Keep h0 h [b] ∧ Exa Z h b "com/example/leafwright/leafwright/Thumbnails$Candidate" ∧ Fld Z h b "com/example/leafwright/leafwright/Thumbnails$Candidate" "url" "Ljava/lang/String;" (.ref u) ∧ Fld Z h b "com/example/leafwright/leafwright/Thumbnails$Candidate" "width" "I" (.int w) ∧ Fld Z h b "com/example/leafwright/leafwright/Thumbnails$Candidate" "height" "I" (.int h1) ∧ Fld Z h b "com/example/leafwright/leafwright/Thumbnails$Candidate" "source" "Lcom/example/leafwright/leafwright/Thumbnails$Source;" (.ref c)
theorem own_ef_own_max_t (m : MethodId) {x0 : Int32} {x1 : Int32} : entryFrame m #[(.int x0), (.int x1)] 2 = mkF m 0 #[.val (.int x0), .val (.int x1)] [] := by first | (simp [entryFrame, mkF, argsToLocals, Value.category, maxLocals]; done) | rfl
set_option maxRecDepth 65536 in
set_option maxHeartbeats 40000000 in
theorem own_max_t (l : Launch) (Z : State) (a0 : Array Value) (hw : ∀ d ∈ tables_1, d.before a0 Z = true) (ws : List Jvm.Cond) (h0 : Heap) (n0 : Nat) (Z0 : n0 ≤ h0.size) (x y : Int32) (h1 : x < y) :
    MetFree l (⟨"java/lang/Math", "max", "(II)I"⟩ : MethodName) (head1 (Jvm.Cond.code (⟨"java/lang/Math", "max", "(II)I"⟩ : MethodName) jdk_29_method_65_code 2 (some .int) :: ws) ({ frames := 0, cells := 0, slots := 0, locals := 0 } : Room)) (fun a U => a = #[(.int x), (.int y)] ∧ Z.Warmed39 U.vm ∧ U.heap = h0) (fun _ _ _ _ _ => True) (fun _ U o U' => ∃ v L, o = .returned v ∧ QV (some (.int y)) h0 n0 v U'.heap L ∧ FrameEnd U o U' L ({ frames := 0, cells := 0, slots := 0, locals := 0 } : Room).cells ({ frames := 0, cells := 0, slots := 0, locals := 0 } : Room).slots) := by
  refine MetFree.of_bodySF own_pf_java_lang_Math_max__II_I hisR ?_
  intro p e s m args below meth c s₁ Bd hml0 hP hK
  obtain ⟨rfl, hZ, hh⟩ := hP
  have hx := Bd.exec
  have hby := Bd.bytes
  have hml : c.maxLocals = 2 := hml0
  have hown : s.vm.findClass "java/lang/Math" = some m.cls := (findClass_of_methodNamed Bd.named :)
  have hnm := (name_of_methodNamed Bd.named Bd.method).1
  have X0 : Stand p l e ({ frames := 0, cells := 0, slots := 0, locals := 0 } : Room) s m #[(.int x), (.int y)] below meth c s₁ [] 0 0 := Stand.of_body Bd
  have e0 : s₁.heap = h0 := by rw [← hh, Bd.state]; rfl
  have N0 := Fr.nil n0
  have pre0 : ∀ t, Steps p.tables e below (s₁.setTop (mkF m 0 #[.val (.int x), .val (.int y)] [])) t → Steps p.tables e below (s₁.setTop (entryFrame m #[(.int x), (.int y)] 2)) t := fun t k => castTop (own_ef_own_max_t m) k
  have ch1 : ∀ t, Steps p.tables e below (s₁.setTop (mkF m 10 #[.val (.int x), .val (.int y)] [(.int y)])) t → Steps p.tables e below (s₁.setTop (entryFrame m #[(.int x), (.int y)] 2)) t := fun t k => pre0 t (by
      show Steps p.tables e below (s₁.setTop (mkF m 0 #[.val (.int x), .val (.int y)] [])) t
      refine XS.iloadN X0.here hx rfl (hb hby own_d_jdk_29_method_65_code_0) rfl ?_
      show Steps p.tables e below (s₁.setTop (mkF m 1 #[.val (.int x), .val (.int y)] [(.int x)])) t
      refine XS.iloadN X0.here hx rfl (hb hby own_d_jdk_29_method_65_code_1) rfl ?_
      show Steps p.tables e below (s₁.setTop (mkF m 2 #[.val (.int x), .val (.int y)] [(.int y), (.int x)])) t
      refine XS.icmpYes X0.here hx rfl (pc0 := 2) (pc' := 9) rfl (hb hby own_d_jdk_29_method_65_code_2) rfl (tlt h1).1 (by decide) (by decide) ?_
      show Steps p.tables e below (s₁.setTop (mkF m 9 #[.val (.int x), .val (.int y)] [])) t
      refine XS.iloadN X0.here hx rfl (hb hby own_d_jdk_29_method_65_code_9) rfl ?_
      exact k)
  obtain ⟨fs, hr, hrun, hended, hW, hsame⟩ := X0.leave (v := some (.int y)) (fun h => by rw [Bd.returns] at h; cases h)
  refine ⟨_, _, ch1 _ ?_, hrun, hended, _, _, rfl, ?_, ⟨_, rfl⟩, hW, hsame.mono (by decide) (by decide)⟩
  · show Steps p.tables e below (s₁.setTop (mkF m 10 #[.val (.int x), .val (.int y)] [(.int y)])) _
    exact retI X0 hx Bd.returns (hb hby own_d_jdk_29_method_65_code_10) hr
  · show QV (some (.int y)) h0 n0 _ s₁.heap _
    rw [e0]
    exact ⟨rfl, N0, rfl⟩
theorem own_ef_own_max_f (m : MethodId) {x0 : Int32} {x1 : Int32} : entryFrame m #[(.int x0), (.int x1)] 2 = mkF m 0 #[.val (.int x0), .val (.int x1)] [] := by first | (simp [entryFrame, mkF, argsToLocals, Value.category, maxLocals]; done) | rfl
set_option maxRecDepth 65536 in
set_option maxHeartbeats 40000000 in
theorem own_max_f (l : Launch) (Z : State) (a0 : Array Value) (hw : ∀ d ∈ tables_1, d.before a0 Z = true) (ws : List Jvm.Cond) (h0 : Heap) (n0 : Nat) (Z0 : n0 ≤ h0.size) (x y : Int32) (h1 : ¬ x < y) :
    MetFree l (⟨"java/lang/Math", "max", "(II)I"⟩ : MethodName) (head1 (Jvm.Cond.code (⟨"java/lang/Math", "max", "(II)I"⟩ : MethodName) jdk_29_method_65_code 2 (some .int) :: ws) ({ frames := 0, cells := 0, slots := 0, locals := 0 } : Room)) (fun a U => a = #[(.int x), (.int y)] ∧ Z.Warmed39 U.vm ∧ U.heap = h0) (fun _ _ _ _ _ => True) (fun _ U o U' => ∃ v L, o = .returned v ∧ QV (some (.int x)) h0 n0 v U'.heap L ∧ FrameEnd U o U' L ({ frames := 0, cells := 0, slots := 0, locals := 0 } : Room).cells ({ frames := 0, cells := 0, slots := 0, locals := 0 } : Room).slots) := by
  refine MetFree.of_bodySF own_pf_java_lang_Math_max__II_I hisR ?_
  intro p e s m args below meth c s₁ Bd hml0 hP hK
  obtain ⟨rfl, hZ, hh⟩ := hP
  have hx := Bd.exec
  have hby := Bd.bytes
  have hml : c.maxLocals = 2 := hml0
  have hown : s.vm.findClass "java/lang/Math" = some m.cls := (findClass_of_methodNamed Bd.named :)
  have hnm := (name_of_methodNamed Bd.named Bd.method).1
  have X0 : Stand p l e ({ frames := 0, cells := 0, slots := 0, locals := 0 } : Room) s m #[(.int x), (.int y)] below meth c s₁ [] 0 0 := Stand.of_body Bd
  have e0 : s₁.heap = h0 := by rw [← hh, Bd.state]; rfl
  have N0 := Fr.nil n0
  have pre0 : ∀ t, Steps p.tables e below (s₁.setTop (mkF m 0 #[.val (.int x), .val (.int y)] [])) t → Steps p.tables e below (s₁.setTop (entryFrame m #[(.int x), (.int y)] 2)) t := fun t k => castTop (own_ef_own_max_f m) k
  have ch1 : ∀ t, Steps p.tables e below (s₁.setTop (mkF m 10 #[.val (.int x), .val (.int y)] [(.int x)])) t → Steps p.tables e below (s₁.setTop (entryFrame m #[(.int x), (.int y)] 2)) t := fun t k => pre0 t (by
      show Steps p.tables e below (s₁.setTop (mkF m 0 #[.val (.int x), .val (.int y)] [])) t
      refine XS.iloadN X0.here hx rfl (hb hby own_d_jdk_29_method_65_code_0) rfl ?_
      show Steps p.tables e below (s₁.setTop (mkF m 1 #[.val (.int x), .val (.int y)] [(.int x)])) t
      refine XS.iloadN X0.here hx rfl (hb hby own_d_jdk_29_method_65_code_1) rfl ?_
      show Steps p.tables e below (s₁.setTop (mkF m 2 #[.val (.int x), .val (.int y)] [(.int y), (.int x)])) t
      refine XS.icmpNo X0.here hx rfl (hb hby own_d_jdk_29_method_65_code_2) rfl (flt h1).1 ?_
      show Steps p.tables e below (s₁.setTop (mkF m 5 #[.val (.int x), .val (.int y)] [])) t
      refine XS.iloadN X0.here hx rfl (hb hby own_d_jdk_29_method_65_code_5) rfl ?_
      show Steps p.tables e below (s₁.setTop (mkF m 6 #[.val (.int x), .val (.int y)] [(.int x)])) t
      refine XS.goto X0.here hx rfl (pc0 := 6) (pc' := 10) rfl (hb hby own_d_jdk_29_method_65_code_6) (by decide) (by decide) ?_
      exact k)
  obtain ⟨fs, hr, hrun, hended, hW, hsame⟩ := X0.leave (v := some (.int x)) (fun h => by rw [Bd.returns] at h; cases h)
  refine ⟨_, _, ch1 _ ?_, hrun, hended, _, _, rfl, ?_, ⟨_, rfl⟩, hW, hsame.mono (by decide) (by decide)⟩
  · show Steps p.tables e below (s₁.setTop (mkF m 10 #[.val (.int x), .val (.int y)] [(.int x)])) _
    exact retI X0 hx Bd.returns (hb hby own_d_jdk_29_method_65_code_10) hr
  · show QV (some (.int x)) h0 n0 _ s₁.heap _
    rw [e0]
    exact ⟨rfl, N0, rfl⟩
theorem own_ef_own_rec (m : MethodId) {x0 : Addr} : entryFrame m #[(.ref x0)] 1 = mkF m 0 #[.val (.ref x0)] [] := by first | (simp [entryFrame, mkF, argsToLocals, Value.category, maxLocals]; done) | rfl
set_option maxRecDepth 65536 in
set_option maxHeartbeats 40000000 in
theorem own_rec (l : Launch) (Z : State) (a0 : Array Value) (hw : ∀ d ∈ tables_1, d.before a0 Z = true) (ws : List Jvm.Cond) (h0 : Heap) (n0 : Nat) (Z0 : n0 ≤ h0.size) (b : Addr) :
    MetFree l (⟨"java/lang/Record", "<init>", "()V"⟩ : MethodName) (head1 (Jvm.Cond.code (⟨"java/lang/Record", "<init>", "()V"⟩ : MethodName) jdk_30_method_1_code 1 none :: ws) ({ frames := 1, cells := 0, slots := 0, locals := 12 } : Room)) (fun a U => a = #[(.ref b)] ∧ Z.Warmed39 U.vm ∧ U.heap = h0) (fun _ _ _ _ _ => True) (fun _ U o U' => ∃ v L, o = .returned v ∧ QV none h0 n0 v U'.heap L ∧ FrameEnd U o U' L ({ frames := 1, cells := 0, slots := 0, locals := 12 } : Room).cells ({ frames := 1, cells := 0, slots := 0, locals := 12 } : Room).slots) := by
  refine MetFree.of_bodySF (plainFor_of_name own_pn_java_lang_Record) hisR ?_
  intro p e s m args below meth c s₁ Bd hml0 hP hK
  obtain ⟨rfl, hZ, hh⟩ := hP
  have hx := Bd.exec
  have hby := Bd.bytes
  have hml : c.maxLocals = 1 := hml0
  have hown : s.vm.findClass "java/lang/Record" = some m.cls := (findClass_of_methodNamed Bd.named :)
  have hnm := (name_of_methodNamed Bd.named Bd.method).1
  have X0 : Stand p l e ({ frames := 1, cells := 0, slots := 0, locals := 12 } : Room) s m #[(.ref b)] below meth c s₁ [] 0 0 := Stand.of_body Bd
  have e0 : s₁.heap = h0 := by rw [← hh, Bd.state]; rfl
  have N0 := Fr.nil n0
  have pre0 : ∀ t, Steps p.tables e below (s₁.setTop (mkF m 0 #[.val (.ref b)] [])) t → Steps p.tables e below (s₁.setTop (entryFrame m #[(.ref b)] 1)) t := fun t k => castTop (own_ef_own_rec m) k
  obtain ⟨T1, X1, e1, st1⟩ := initO X0 hx hZ hown (hw _ (List.mem_of_getElem? (i := 27) rfl)) (hw _ (List.mem_of_getElem? (i := 28) rfl)) (hw _ (List.mem_of_getElem? (i := 29) rfl)) e0 (g := (mkF m 1 #[.val (.ref b)] [(.ref b)])) rfl (by rw [hml]; rfl) rfl (hb hby own_d_jdk_30_method_1_code_1) (by decide) (W := 0) (by show 2 * 0 + _ ≤ _; exact Nat.le_of_eq rfl) (by decide)
  have ch2 : ∀ t, Steps p.tables e below (T1.setTop (mkF m 4 #[.val (.ref b)] [])) t → Steps p.tables e below (s₁.setTop (entryFrame m #[(.ref b)] 1)) t := fun t k => pre0 t (by
      show Steps p.tables e below (s₁.setTop (mkF m 0 #[.val (.ref b)] [])) t
      refine XS.aloadN X0.here hx rfl (hb hby own_d_jdk_30_method_1_code_0) rfl rfl ?_
      show Steps p.tables e below (s₁.setTop (mkF m 1 #[.val (.ref b)] [(.ref b)])) t
      exact st1 t k)
  obtain ⟨fs, hr, hrun, hended, hW, hsame⟩ := X1.leave (v := none) (fun _ => rfl)
  refine ⟨_, _, ch2 _ ?_, hrun, hended, _, _, rfl, ?_, ⟨_, rfl⟩, hW, hsame.mono (by decide) (by decide)⟩
  · show Steps p.tables e below (T1.setTop (mkF m 4 #[.val (.ref b)] [])) _
    exact X1.returnOut hx Bd.returns (hb hby own_d_jdk_30_method_1_code_4) hr
  · show QV none h0 n0 _ T1.heap _
    rw [e1]
    exact ⟨rfl, N0, rfl⟩
theorem own_ef_own_rnn (m : MethodId) {x0 : Addr} {x1 : Addr} : entryFrame m #[(.ref x0), (.ref x1)] 2 = mkF m 0 #[.val (.ref x0), .val (.ref x1)] [] := by first | (simp [entryFrame, mkF, argsToLocals, Value.category, maxLocals]; done) | rfl
set_option maxRecDepth 65536 in
set_option maxHeartbeats 40000000 in
theorem own_rnn (l : Launch) (Z : State) (a0 : Array Value) (hw : ∀ d ∈ tables_1, d.before a0 Z = true) (ws : List Jvm.Cond) (h0 : Heap) (n0 : Nat) (Z0 : n0 ≤ h0.size) (b cm : Addr) :
    MetFree l (⟨"java/util/Objects", "requireNonNull", "(Ljava/lang/Object;Ljava/lang/String;)Ljava/lang/Object;"⟩ : MethodName) (head1 (Jvm.Cond.code (⟨"java/util/Objects", "requireNonNull", "(Ljava/lang/Object;Ljava/lang/String;)Ljava/lang/Object;"⟩ : MethodName) jdk_31_method_11_code 2 (some (.object "java/lang/Object")) :: ws) ({ frames := 0, cells := 0, slots := 0, locals := 0 } : Room)) (fun a U => a = #[(.ref b), (.ref cm)] ∧ Z.Warmed39 U.vm ∧ U.heap = h0) (fun _ _ _ _ _ => True) (fun _ U o U' => ∃ v L, o = .returned v ∧ QV (some (.ref b)) h0 n0 v U'.heap L ∧ FrameEnd U o U' L ({ frames := 0, cells := 0, slots := 0, locals := 0 } : Room).cells ({ frames := 0, cells := 0, slots := 0, locals := 0 } : Room).slots) := by
  refine MetFree.of_bodySF (plainFor_of_name own_pn_java_util_Objects) hisR ?_
  intro p e s m args below meth c s₁ Bd hml0 hP hK
  obtain ⟨rfl, hZ, hh⟩ := hP
  have hx := Bd.exec
  have hby := Bd.bytes
  have hml : c.maxLocals = 2 := hml0
  have hown : s.vm.findClass "java/util/Objects" = some m.cls := (findClass_of_methodNamed Bd.named :)
  have hnm := (name_of_methodNamed Bd.named Bd.method).1
  have X0 : Stand p l e ({ frames := 0, cells := 0, slots := 0, locals := 0 } : Room) s m #[(.ref b), (.ref cm)] below meth c s₁ [] 0 0 := Stand.of_body Bd
  have e0 : s₁.heap = h0 := by rw [← hh, Bd.state]; rfl
  have N0 := Fr.nil n0
  have pre0 : ∀ t, Steps p.tables e below (s₁.setTop (mkF m 0 #[.val (.ref b), .val (.ref cm)] [])) t → Steps p.tables e below (s₁.setTop (entryFrame m #[(.ref b), (.ref cm)] 2)) t := fun t k => castTop (own_ef_own_rnn m) k
  have ch1 : ∀ t, Steps p.tables e below (s₁.setTop (mkF m 14 #[.val (.ref b), .val (.ref cm)] [(.ref b)])) t → Steps p.tables e below (s₁.setTop (entryFrame m #[(.ref b), (.ref cm)] 2)) t := fun t k => pre0 t (by
      show Steps p.tables e below (s₁.setTop (mkF m 0 #[.val (.ref b), .val (.ref cm)] [])) t
      refine XS.aloadN X0.here hx rfl (hb hby own_d_jdk_31_method_11_code_0) rfl rfl ?_
      show Steps p.tables e below (s₁.setTop (mkF m 1 #[.val (.ref b), .val (.ref cm)] [(.ref b)])) t
      refine XS.ifnonnullYes X0.here hx rfl (pc0 := 1) (pc' := 13) rfl (hb hby own_d_jdk_31_method_11_code_1) rfl (by decide) (by decide) ?_
      show Steps p.tables e below (s₁.setTop (mkF m 13 #[.val (.ref b), .val (.ref cm)] [])) t
      refine XS.aloadN X0.here hx rfl (hb hby own_d_jdk_31_method_11_code_13) rfl rfl ?_
      exact k)
  obtain ⟨fs, hr, hrun, hended, hW, hsame⟩ := X0.leave (v := some (.ref b)) (fun h => by rw [Bd.returns] at h; cases h)
  refine ⟨_, _, ch1 _ ?_, hrun, hended, _, _, rfl, ?_, ⟨_, rfl⟩, hW, hsame.mono (by decide) (by decide)⟩
  · show Steps p.tables e below (s₁.setTop (mkF m 14 #[.val (.ref b), .val (.ref cm)] [(.ref b)])) _
    jvm_step X0.here [X0.here.top, hx, (hb hby own_d_jdk_31_method_11_code_14), X0.method', Bd.returns, Value.isRef, FieldType.isReference]
    first | (intro acts; rw [hr _ acts rfl rfl rfl]) | rw [hr _ _ rfl rfl rfl]
    exact Steps.refl _
  · show QV (some (.ref b)) h0 n0 _ s₁.heap _
    rw [e0]
    exact ⟨rfl, N0, rfl⟩
theorem own_ef_own_rpos (m : MethodId) {x0 : Int32} {x1 : Addr} : entryFrame m #[(.int x0), (.ref x1)] 2 = mkF m 0 #[.val (.int x0), .val (.ref x1)] [] := by first | (simp [entryFrame, mkF, argsToLocals, Value.category, maxLocals]; done) | rfl
set_option maxRecDepth 65536 in
set_option maxHeartbeats 40000000 in
theorem own_rpos (l : Launch) (Z : State) (a0 : Array Value) (hw : ∀ d ∈ tables_1, d.before a0 Z = true) (ws : List Jvm.Cond) (h0 : Heap) (n0 : Nat) (Z0 : n0 ≤ h0.size) (x : Int32) (cm : Addr) (h1 : (0 : Int32) < x) :
    MetFree l (⟨"com/example/leafwright/leafwright/Thumbnails", "requirePositive", "(ILjava/lang/String;)V"⟩ : MethodName) (head1 (Jvm.Cond.code (⟨"com/example/leafwright/leafwright/Thumbnails", "requirePositive", "(ILjava/lang/String;)V"⟩ : MethodName) prog_32_method_6_code 2 none :: ws) ({ frames := 0, cells := 0, slots := 0, locals := 0 } : Room)) (fun a U => a = #[(.int x), (.ref cm)] ∧ Z.Warmed39 U.vm ∧ U.heap = h0) (fun _ _ _ _ _ => True) (fun _ U o U' => ∃ v L, o = .returned v ∧ QV none h0 n0 v U'.heap L ∧ FrameEnd U o U' L ({ frames := 0, cells := 0, slots := 0, locals := 0 } : Room).cells ({ frames := 0, cells := 0, slots := 0, locals := 0 } : Room).slots) := by
  refine MetFree.of_bodySF (plainFor_of_name own_pn_com_example_leafwright_leafwright_Thumbnails) hisR ?_
  intro p e s m args below meth c s₁ Bd hml0 hP hK
  obtain ⟨rfl, hZ, hh⟩ := hP
  have hx := Bd.exec
  have hby := Bd.bytes
  have hml : c.maxLocals = 2 := hml0
  have hown : s.vm.findClass "com/example/leafwright/leafwright/Thumbnails" = some m.cls := (findClass_of_methodNamed Bd.named :)
  have hnm := (name_of_methodNamed Bd.named Bd.method).1
  have X0 : Stand p l e ({ frames := 0, cells := 0, slots := 0, locals := 0 } : Room) s m #[(.int x), (.ref cm)] below meth c s₁ [] 0 0 := Stand.of_body Bd
  have e0 : s₁.heap = h0 := by rw [← hh, Bd.state]; rfl
  have N0 := Fr.nil n0
  have pre0 : ∀ t, Steps p.tables e below (s₁.setTop (mkF m 0 #[.val (.int x), .val (.ref cm)] [])) t → Steps p.tables e below (s₁.setTop (entryFrame m #[(.int x), (.ref cm)] 2)) t := fun t k => castTop (own_ef_own_rpos m) k
  have ch1 : ∀ t, Steps p.tables e below (s₁.setTop (mkF m 19 #[.val (.int x), .val (.ref cm)] [])) t → Steps p.tables e below (s₁.setTop (entryFrame m #[(.int x), (.ref cm)] 2)) t := fun t k => pre0 t (by
      show Steps p.tables e below (s₁.setTop (mkF m 0 #[.val (.int x), .val (.ref cm)] [])) t
      refine XS.iloadN X0.here hx rfl (hb hby own_d_prog_32_method_6_code_0) rfl ?_
      show Steps p.tables e below (s₁.setTop (mkF m 1 #[.val (.int x), .val (.ref cm)] [(.int x)])) t
      refine XS.ifYes X0.here hx rfl (pc0 := 1) (pc' := 19) rfl (hb hby own_d_prog_32_method_6_code_1) rfl ((if0 _ _).trans (tlt h1).2.2.1) (by decide) (by decide) ?_
      exact k)
  obtain ⟨fs, hr, hrun, hended, hW, hsame⟩ := X0.leave (v := none) (fun _ => rfl)
  refine ⟨_, _, ch1 _ ?_, hrun, hended, _, _, rfl, ?_, ⟨_, rfl⟩, hW, hsame.mono (by decide) (by decide)⟩
  · show Steps p.tables e below (s₁.setTop (mkF m 19 #[.val (.int x), .val (.ref cm)] [])) _
    exact X0.returnOut hx Bd.returns (hb hby own_d_prog_32_method_6_code_19) hr
  · show QV none h0 n0 _ s₁.heap _
    rw [e0]
    exact ⟨rfl, N0, rfl⟩
theorem own_ef_own_ini (m : MethodId) {x0 : Addr} {x1 : Addr} {x2 : Int32} {x3 : Int32} {x4 : Addr} : entryFrame m #[(.ref x0), (.ref x1), (.int x2), (.int x3), (.ref x4)] 5 = mkF m 0 #[.val (.ref x0), .val (.ref x1), .val (.int x2), .val (.int x3), .val (.ref x4)] [] := by first | (simp [entryFrame, mkF, argsToLocals, Value.category, maxLocals]; done) | rfl
set_option maxRecDepth 65536 in
set_option maxHeartbeats 40000000 in
theorem own_ini (l : Launch) (Z : State) (a0 : Array Value) (hw : ∀ d ∈ tables_1, d.before a0 Z = true) (ws : List Jvm.Cond) (h0 : Heap) (n0 : Nat) (Z0 : n0 ≤ h0.size) (b u : Addr) (w h1 : Int32) (sr : Addr) (E : Exa Z h0 b "com/example/leafwright/leafwright/Thumbnails$Candidate") (F_url : Fld Z h0 b "com/example/leafwright/leafwright/Thumbnails$Candidate" "url" "Ljava/lang/String;" .null) (F_width : Fld Z h0 b "com/example/leafwright/leafwright/Thumbnails$Candidate" "width" "I" (.int (0 : Int32))) (F_height : Fld Z h0 b "com/example/leafwright/leafwright/Thumbnails$Candidate" "height" "I" (.int (0 : Int32))) (F_source : Fld Z h0 b "com/example/leafwright/leafwright/Thumbnails$Candidate" "source" "Lcom/example/leafwright/leafwright/Thumbnails$Source;" .null) (g : n0 ≤ b) (pw : (0 : Int32) < w) (ph : (0 : Int32) < h1) :
    MetFree l (⟨"com/example/leafwright/leafwright/Thumbnails$Candidate", "<init>", "(Ljava/lang/String;IILcom/example/leafwright/leafwright/Thumbnails$Source;)V"⟩ : MethodName) (head1 (Jvm.Cond.code (⟨"com/example/leafwright/leafwright/Thumbnails$Candidate", "<init>", "(Ljava/lang/String;IILcom/example/leafwright/leafwright/Thumbnails$Source;)V"⟩ : MethodName) prog_33_method_1_code 5 none :: ws) ({ frames := 2, cells := 8, slots := 96, locals := 24 } : Room)) (fun a U => a = #[(.ref b), (.ref u), (.int w), (.int h1), (.ref sr)] ∧ Z.Warmed39 U.vm ∧ U.heap = h0) (fun _ _ _ _ _ => True) (fun _ U o U' => ∃ v L, o = .returned v ∧ QCi Z b u w h1 sr h0 n0 v U'.heap L ∧ ReturnedEndW U o U' L ({ frames := 2, cells := 8, slots := 96, locals := 24 } : Room).cells ({ frames := 2, cells := 8, slots := 96, locals := 24 } : Room).slots) := by
  refine MetFree.of_bodySF (plainFor_of_name own_pn_com_example_leafwright_leafwright_Thumbnails_Candidate) hisR ?_
  intro p e s m args below meth c s₁ Bd hml0 hP hK
  obtain ⟨rfl, hZ, hh⟩ := hP
  have hx := Bd.exec
  have hby := Bd.bytes
  have hml : c.maxLocals = 5 := hml0
  have hown : s.vm.findClass "com/example/leafwright/leafwright/Thumbnails$Candidate" = some m.cls := (findClass_of_methodNamed Bd.named :)
  have hnm := (name_of_methodNamed Bd.named Bd.method).1
  have X0 : Stand p l e ({ frames := 2, cells := 8, slots := 96, locals := 24 } : Room) (s.setVm s.vm) m #[(.ref b), (.ref u), (.int w), (.int h1), (.ref sr)] below meth c s₁ [] 0 0 := Stand.of_body Bd
  have hZ : Z.Warmed39 (s.setVm s.vm).vm := hZ
  have hown : (s.setVm s.vm).vm.findClass "com/example/leafwright/leafwright/Thumbnails$Candidate" = some m.cls := hown
  have hS : s.Since s.vm 0 := (State.WarmedH.refl s).since 0
  have hk : 0 ≤ h0.size := Nat.zero_le _
  have e0 : s₁.heap = h0 := by rw [← hh, Bd.state]; rfl
  have N0 := Fr.nil n0
  have pre0 : ∀ t, Steps p.tables e below (s₁.setTop (mkF m 0 #[.val (.ref b), .val (.ref u), .val (.int w), .val (.int h1), .val (.ref sr)] [])) t → Steps p.tables e below (s₁.setTop (entryFrame m #[(.ref b), (.ref u), (.int w), (.int h1), (.ref sr)] 5)) t := fun t k => castTop (own_ef_own_ini m) k
  obtain ⟨vv1, _, ⟨T1, L1, kk1, nn1⟩, -, X1, ⟨Lc1, hQ1, l1, y1, z1⟩, st1⟩ := X0.specialBack hx (y := (⟨"java/lang/Record", "<init>", "()V"⟩ : MethodName)) rfl hown (mvT hZ (hw _ (List.mem_of_getElem? (i := 22) rfl))) (mvT hZ (hw _ (List.mem_of_getElem? (i := 23) rfl))) (mvT hZ (hw _ (List.mem_of_getElem? (i := 26) rfl))) (by decide) (backOf (W := 0) (own_rec l Z a0 hw [] h0 n0 (Nat.le_trans Z0 (Keep.refl h0 [b]).1) b) hZ (hw _ (List.mem_of_getElem? (i := 26) rfl)) (hw _ (List.mem_of_getElem? (i := 25) rfl)) (by decide) (by decide)) (g := (mkF m 1 #[.val (.ref b), .val (.ref u), .val (.int w), .val (.int h1), .val (.ref sr)] [(.ref b)])) rfl (by rw [hml]; rfl) (Steps.refl _) (a := b) (argsL := []) (rest := []) (lenOf own_pd___V rfl) rfl (by show 2 * 0 + _ ≤ _; exact Nat.le_of_eq rfl) (hb hby own_d_prog_33_method_1_code_1) (fun _ _ => ⟨rfl, e0, (by decide : 0 + 0 ≤ _), (by decide : 0 + 0 ≤ _)⟩)
  dsimp only [Pt.U, Pt.locs, Pt.cells, Pt.slots] at X1 l1 y1 z1 st1 hQ1
  subst l1 y1 z1
  obtain ⟨rfl, Nq1, e1⟩ := hQ1
  have N1 := Fr.app N0 Nq1
  have ch2 : ∀ t, Steps p.tables e below (T1.setTop (mkF m 4 #[.val (.ref b), .val (.ref u), .val (.int w), .val (.int h1), .val (.ref sr)] [])) t → Steps p.tables e below (s₁.setTop (entryFrame m #[(.ref b), (.ref u), (.int w), (.int h1), (.ref sr)] 5)) t := fun t k => pre0 t (by
      show Steps p.tables e below (s₁.setTop (mkF m 0 #[.val (.ref b), .val (.ref u), .val (.int w), .val (.int h1), .val (.ref sr)] [])) t
      refine XS.aloadN X0.here hx rfl (hb hby own_d_prog_33_method_1_code_0) rfl rfl ?_
      show Steps p.tables e below (s₁.setTop (mkF m 1 #[.val (.ref b), .val (.ref u), .val (.int w), .val (.int h1), .val (.ref sr)] [(.ref b)])) t
      exact st1.trans k)
  obtain ⟨ls3, T3, hp3, ks3, X3, e3, E3, hS, hk, hZ, hown, st3⟩ := ldcS X1 hx hZ hown (hw _ (List.mem_of_getElem? (i := 30) rfl)) (own_wS hw) e1 hS hk (g := (mkF m 5 #[.val (.ref b), .val (.ref u), .val (.int w), .val (.int h1), .val (.ref sr)] [(.ref u)])) rfl (hb hby own_d_prog_33_method_1_code_5) (n := 12) (by decide) (by decide) (by decide) (by decide)
  have Kp3 := Keep.ext (Keep.refl h0 [b]) E3
  have ch4 : ∀ t, Steps p.tables e below (T3.setTop (mkF m 7 #[.val (.ref b), .val (.ref u), .val (.int w), .val (.int h1), .val (.ref sr)] [(.ref ls3), (.ref u)])) t → Steps p.tables e below (s₁.setTop (entryFrame m #[(.ref b), (.ref u), (.int w), (.int h1), (.ref sr)] 5)) t := fun t k => ch2 t (by
      show Steps p.tables e below (T1.setTop (mkF m 4 #[.val (.ref b), .val (.ref u), .val (.int w), .val (.int h1), .val (.ref sr)] [])) t
      refine XS.aloadN X1.here hx rfl (hb hby own_d_prog_33_method_1_code_4) rfl rfl ?_
      show Steps p.tables e below (T1.setTop (mkF m 5 #[.val (.ref b), .val (.ref u), .val (.int w), .val (.int h1), .val (.ref sr)] [(.ref u)])) t
      exact st3 t k)
  obtain ⟨vv5, _, ⟨T5, L5, kk5, nn5⟩, -, X5, ⟨Lc5, hQ5, l5, y5, z5⟩, st5⟩ := Jvm.LawKit.callS X3 hx (y := (⟨"java/util/Objects", "requireNonNull", "(Ljava/lang/Object;Ljava/lang/String;)Ljava/lang/Object;"⟩ : MethodName)) hown (mvT hZ (hw _ (List.mem_of_getElem? (i := 31) rfl))) (mvT hZ (hw _ (List.mem_of_getElem? (i := 32) rfl))) (mvT hZ (hw _ (List.mem_of_getElem? (i := 33) rfl))) (mvT hZ (hw _ (List.mem_of_getElem? (i := 34) rfl))) (by decide) (backOf (W := 0) (own_rnn l Z a0 hw [] hp3 n0 (Nat.le_trans Z0 Kp3.1) u ls3) hZ (hw _ (List.mem_of_getElem? (i := 34) rfl)) (hw _ (List.mem_of_getElem? (i := 33) rfl)) (by decide) (by decide)) (g := (mkF m 7 #[.val (.ref b), .val (.ref u), .val (.int w), .val (.int h1), .val (.ref sr)] [(.ref ls3), (.ref u)])) rfl (by rw [hml]; rfl) (argsL := [(.ref u), (.ref ls3)]) (rest := []) (lenOf own_pd__Ljava_lang_Object_Ljava_lang_String__Ljava_lang_Object_ rfl) rfl (by show 2 * 0 + _ ≤ _; exact Nat.le_of_eq rfl) (hb hby own_d_prog_33_method_1_code_7) (fun _ _ => ⟨rfl, e3, (by decide : 2 + 0 ≤ _), (by decide : 16 + 0 ≤ _)⟩)
  dsimp only [Pt.U, Pt.locs, Pt.cells, Pt.slots] at X5 l5 y5 z5 st5 hQ5
  subst l5 y5 z5
  obtain ⟨rfl, Nq5, e5⟩ := hQ5
  have N5 := Fr.app N1 Nq5
  have ch6 : ∀ t, Steps p.tables e below (T5.setTop (mkF m 10 #[.val (.ref b), .val (.ref u), .val (.int w), .val (.int h1), .val (.ref sr)] [(.ref u)])) t → Steps p.tables e below (s₁.setTop (entryFrame m #[(.ref b), (.ref u), (.int w), (.int h1), (.ref sr)] 5)) t := fun t k => ch4 t (by
      show Steps p.tables e below (T3.setTop (mkF m 7 #[.val (.ref b), .val (.ref u), .val (.int w), .val (.int h1), .val (.ref sr)] [(.ref ls3), (.ref u)])) t
      exact st5 t k)
  obtain ⟨ls7, T7, hp7, ks7, X7, e7, E7, hS, hk, hZ, hown, st7⟩ := ldcS X5 hx hZ hown (hw _ (List.mem_of_getElem? (i := 35) rfl)) (own_wS hw) e5 hS hk (g := (mkF m 13 #[.val (.ref b), .val (.ref u), .val (.int w), .val (.int h1), .val (.ref sr)] [(.ref sr)])) rfl (hb hby own_d_prog_33_method_1_code_13) (n := 24) (by decide) (by decide) (by decide) (by decide)
  have Kp7 := Keep.ext Kp3 E7
  have ch8 : ∀ t, Steps p.tables e below (T7.setTop (mkF m 15 #[.val (.ref b), .val (.ref u), .val (.int w), .val (.int h1), .val (.ref sr)] [(.ref ls7), (.ref sr)])) t → Steps p.tables e below (s₁.setTop (entryFrame m #[(.ref b), (.ref u), (.int w), (.int h1), (.ref sr)] 5)) t := fun t k => ch6 t (by
      show Steps p.tables e below (T5.setTop (mkF m 10 #[.val (.ref b), .val (.ref u), .val (.int w), .val (.int h1), .val (.ref sr)] [(.ref u)])) t
      refine XS.pop X5.here hx rfl (hb hby own_d_prog_33_method_1_code_10) rfl rfl ?_
      show Steps p.tables e below (T5.setTop (mkF m 11 #[.val (.ref b), .val (.ref u), .val (.int w), .val (.int h1), .val (.ref sr)] [])) t
      refine XS.aload X5.here hx rfl (hb hby own_d_prog_33_method_1_code_11) rfl rfl ?_
      show Steps p.tables e below (T5.setTop (mkF m 13 #[.val (.ref b), .val (.ref u), .val (.int w), .val (.int h1), .val (.ref sr)] [(.ref sr)])) t
      exact st7 t k)
  obtain ⟨vv9, _, ⟨T9, L9, kk9, nn9⟩, -, X9, ⟨Lc9, hQ9, l9, y9, z9⟩, st9⟩ := Jvm.LawKit.callS X7 hx (y := (⟨"java/util/Objects", "requireNonNull", "(Ljava/lang/Object;Ljava/lang/String;)Ljava/lang/Object;"⟩ : MethodName)) hown (mvT hZ (hw _ (List.mem_of_getElem? (i := 31) rfl))) (mvT hZ (hw _ (List.mem_of_getElem? (i := 32) rfl))) (mvT hZ (hw _ (List.mem_of_getElem? (i := 33) rfl))) (mvT hZ (hw _ (List.mem_of_getElem? (i := 34) rfl))) (by decide) (backOf (W := 0) (own_rnn l Z a0 hw [] hp7 n0 (Nat.le_trans Z0 Kp7.1) sr ls7) hZ (hw _ (List.mem_of_getElem? (i := 34) rfl)) (hw _ (List.mem_of_getElem? (i := 33) rfl)) (by decide) (by decide)) (g := (mkF m 15 #[.val (.ref b), .val (.ref u), .val (.int w), .val (.int h1), .val (.ref sr)] [(.ref ls7), (.ref sr)])) rfl (by rw [hml]; rfl) (argsL := [(.ref sr), (.ref ls7)]) (rest := []) (lenOf own_pd__Ljava_lang_Object_Ljava_lang_String__Ljava_lang_Object_ rfl) rfl (by show 2 * 0 + _ ≤ _; exact Nat.le_of_eq rfl) (hb hby own_d_prog_33_method_1_code_15) (fun _ _ => ⟨rfl, e7, (by decide : 4 + 0 ≤ _), (by decide : 44 + 0 ≤ _)⟩)
  dsimp only [Pt.U, Pt.locs, Pt.cells, Pt.slots] at X9 l9 y9 z9 st9 hQ9
  subst l9 y9 z9
  obtain ⟨rfl, Nq9, e9⟩ := hQ9
  have N9 := Fr.app N5 Nq9
  have ch10 : ∀ t, Steps p.tables e below (T9.setTop (mkF m 18 #[.val (.ref b), .val (.ref u), .val (.int w), .val (.int h1), .val (.ref sr)] [(.ref sr)])) t → Steps p.tables e below (s₁.setTop (entryFrame m #[(.ref b), (.ref u), (.int w), (.int h1), (.ref sr)] 5)) t := fun t k => ch8 t (by
      show Steps p.tables e below (T7.setTop (mkF m 15 #[.val (.ref b), .val (.ref u), .val (.int w), .val (.int h1), .val (.ref sr)] [(.ref ls7), (.ref sr)])) t
      exact st9 t k)
  obtain ⟨ls11, T11, hp11, ks11, X11, e11, E11, hS, hk, hZ, hown, st11⟩ := ldcS X9 hx hZ hown (hw _ (List.mem_of_getElem? (i := 36) rfl)) (own_wS hw) e9 hS hk (g := (mkF m 20 #[.val (.ref b), .val (.ref u), .val (.int w), .val (.int h1), .val (.ref sr)] [(.int w)])) rfl (hb hby own_d_prog_33_method_1_code_20) (n := 20) (by decide) (by decide) (by decide) (by decide)
  have Kp11 := Keep.ext Kp7 E11
  have ch12 : ∀ t, Steps p.tables e below (T11.setTop (mkF m 22 #[.val (.ref b), .val (.ref u), .val (.int w), .val (.int h1), .val (.ref sr)] [(.ref ls11), (.int w)])) t → Steps p.tables e below (s₁.setTop (entryFrame m #[(.ref b), (.ref u), (.int w), (.int h1), (.ref sr)] 5)) t := fun t k => ch10 t (by
      show Steps p.tables e below (T9.setTop (mkF m 18 #[.val (.ref b), .val (.ref u), .val (.int w), .val (.int h1), .val (.ref sr)] [(.ref sr)])) t
      refine XS.pop X9.here hx rfl (hb hby own_d_prog_33_method_1_code_18) rfl rfl ?_
      show Steps p.tables e below (T9.setTop (mkF m 19 #[.val (.ref b), .val (.ref u), .val (.int w), .val (.int h1), .val (.ref sr)] [])) t
      refine XS.iloadN X9.here hx rfl (hb hby own_d_prog_33_method_1_code_19) rfl ?_
      show Steps p.tables e below (T9.setTop (mkF m 20 #[.val (.ref b), .val (.ref u), .val (.int w), .val (.int h1), .val (.ref sr)] [(.int w)])) t
      exact st11 t k)
  obtain ⟨vv13, _, ⟨T13, L13, kk13, nn13⟩, -, X13, ⟨Lc13, hQ13, l13, y13, z13⟩, st13⟩ := Jvm.RoadKit.callSN X11 hx (y := (⟨"com/example/leafwright/leafwright/Thumbnails", "requirePositive", "(ILjava/lang/String;)V"⟩ : MethodName)) hown (own_mvMN hZ (hw _ (List.mem_of_getElem? (i := 37) rfl))) (mvT hZ (hw _ (List.mem_of_getElem? (i := 38) rfl))) (mvT hZ (hw _ (List.mem_of_getElem? (i := 39) rfl))) (mvT hZ (hw _ (List.mem_of_getElem? (i := 40) rfl))) (by decide) (backOf (W := 0) (own_rpos l Z a0 hw [] hp11 n0 (Nat.le_trans Z0 Kp11.1) w ls11 pw) hZ (hw _ (List.mem_of_getElem? (i := 40) rfl)) (hw _ (List.mem_of_getElem? (i := 39) rfl)) (by decide) (by decide)) (g := (mkF m 22 #[.val (.ref b), .val (.ref u), .val (.int w), .val (.int h1), .val (.ref sr)] [(.ref ls11), (.int w)])) rfl (by rw [hml]; rfl) (argsL := [(.int w), (.ref ls11)]) (rest := []) (lenOf own_pd__ILjava_lang_String__V rfl) rfl (by show 2 * 0 + _ ≤ _; exact Nat.le_of_eq rfl) (hb hby own_d_prog_33_method_1_code_22) (fun _ _ => ⟨rfl, e11, (by decide : 6 + 0 ≤ _), (by decide : 68 + 0 ≤ _)⟩)
  dsimp only [Pt.U, Pt.locs, Pt.cells, Pt.slots] at X13 l13 y13 z13 st13 hQ13
  subst l13 y13 z13
  obtain ⟨rfl, Nq13, e13⟩ := hQ13
  have N13 := Fr.app N9 Nq13
  have ch14 : ∀ t, Steps p.tables e below (T13.setTop (mkF m 25 #[.val (.ref b), .val (.ref u), .val (.int w), .val (.int h1), .val (.ref sr)] [])) t → Steps p.tables e below (s₁.setTop (entryFrame m #[(.ref b), (.ref u), (.int w), (.int h1), (.ref sr)] 5)) t := fun t k => ch12 t (by
      show Steps p.tables e below (T11.setTop (mkF m 22 #[.val (.ref b), .val (.ref u), .val (.int w), .val (.int h1), .val (.ref sr)] [(.ref ls11), (.int w)])) t
      exact st13.trans k)
  obtain ⟨ls15, T15, hp15, ks15, X15, e15, E15, hS, hk, hZ, hown, st15⟩ := ldcS X13 hx hZ hown (hw _ (List.mem_of_getElem? (i := 41) rfl)) (own_wS hw) e13 hS hk (g := (mkF m 26 #[.val (.ref b), .val (.ref u), .val (.int w), .val (.int h1), .val (.ref sr)] [(.int h1)])) rfl (hb hby own_d_prog_33_method_1_code_26) (n := 24) (by decide) (by decide) (by decide) (by decide)
  have Kp15 := Keep.ext Kp11 E15
  have ch16 : ∀ t, Steps p.tables e below (T15.setTop (mkF m 28 #[.val (.ref b), .val (.ref u), .val (.int w), .val (.int h1), .val (.ref sr)] [(.ref ls15), (.int h1)])) t → Steps p.tables e below (s₁.setTop (entryFrame m #[(.ref b), (.ref u), (.int w), (.int h1), (.ref sr)] 5)) t := fun t k => ch14 t (by
      show Steps p.tables e below (T13.setTop (mkF m 25 #[.val (.ref b), .val (.ref u), .val (.int w), .val (.int h1), .val (.ref sr)] [])) t
      refine XS.iloadN X13.here hx rfl (hb hby own_d_prog_33_method_1_code_25) rfl ?_
      show Steps p.tables e below (T13.setTop (mkF m 26 #[.val (.ref b), .val (.ref u), .val (.int w), .val (.int h1), .val (.ref sr)] [(.int h1)])) t
      exact st15 t k)
  obtain ⟨vv17, _, ⟨T17, L17, kk17, nn17⟩, -, X17, ⟨Lc17, hQ17, l17, y17, z17⟩, st17⟩ := Jvm.RoadKit.callSN X15 hx (y := (⟨"com/example/leafwright/leafwright/Thumbnails", "requirePositive", "(ILjava/lang/String;)V"⟩ : MethodName)) hown (own_mvMN hZ (hw _ (List.mem_of_getElem? (i := 37) rfl))) (mvT hZ (hw _ (List.mem_of_getElem? (i := 38) rfl))) (mvT hZ (hw _ (List.mem_of_getElem? (i := 39) rfl))) (mvT hZ (hw _ (List.mem_of_getElem? (i := 40) rfl))) (by decide) (backOf (W := 0) (own_rpos l Z a0 hw [] hp15 n0 (Nat.le_trans Z0 Kp15.1) h1 ls15 ph) hZ (hw _ (List.mem_of_getElem? (i := 40) rfl)) (hw _ (List.mem_of_getElem? (i := 39) rfl)) (by decide) (by decide)) (g := (mkF m 28 #[.val (.ref b), .val (.ref u), .val (.int w), .val (.int h1), .val (.ref sr)] [(.ref ls15), (.int h1)])) rfl (by rw [hml]; rfl) (argsL := [(.int h1), (.ref ls15)]) (rest := []) (lenOf own_pd__ILjava_lang_String__V rfl) rfl (by show 2 * 0 + _ ≤ _; exact Nat.le_of_eq rfl) (hb hby own_d_prog_33_method_1_code_28) (fun _ _ => ⟨rfl, e15, (by decide : 8 + 0 ≤ _), (by decide : 96 + 0 ≤ _)⟩)
  dsimp only [Pt.U, Pt.locs, Pt.cells, Pt.slots] at X17 l17 y17 z17 st17 hQ17
  subst l17 y17 z17
  obtain ⟨rfl, Nq17, e17⟩ := hQ17
  have N17 := Fr.app N13 Nq17
  have ch18 : ∀ t, Steps p.tables e below (T17.setTop (mkF m 31 #[.val (.ref b), .val (.ref u), .val (.int w), .val (.int h1), .val (.ref sr)] [])) t → Steps p.tables e below (s₁.setTop (entryFrame m #[(.ref b), (.ref u), (.int w), (.int h1), (.ref sr)] 5)) t := fun t k => ch16 t (by
      show Steps p.tables e below (T15.setTop (mkF m 28 #[.val (.ref b), .val (.ref u), .val (.int w), .val (.int h1), .val (.ref sr)] [(.ref ls15), (.int h1)])) t
      exact st17.trans k)
  have cf19 := ((((F_url.ext E3).ext E7).ext E11).ext E15)
  have cf20 := ((((E.ext E3).ext E7).ext E11).ext E15)
  obtain ⟨T21, hp21, X21, e21, W21, st21⟩ := putF X17 hx hZ hown (host := "") (Or.inl (hw _ (List.mem_of_getElem? (i := 42) rfl))) Via.refl e17 cf19 cf20 (Or.inr ⟨(hw _ (List.mem_of_getElem? (i := 43) rfl)), rfl, hnm⟩) (hw _ (List.mem_of_getElem? (i := 9) rfl)) (ty := (.object "java/lang/String")) (by decide) rfl rfl (g := (mkF m 33 #[.val (.ref b), .val (.ref u), .val (.int w), .val (.int h1), .val (.ref sr)] [(.ref u), (.ref b)])) rfl rfl (hb hby own_d_prog_33_method_1_code_33)
  have ch22 : ∀ t, Steps p.tables e below (T21.setTop (mkF m 36 #[.val (.ref b), .val (.ref u), .val (.int w), .val (.int h1), .val (.ref sr)] [])) t → Steps p.tables e below (s₁.setTop (entryFrame m #[(.ref b), (.ref u), (.int w), (.int h1), (.ref sr)] 5)) t := fun t k => ch18 t (by
      show Steps p.tables e below (T17.setTop (mkF m 31 #[.val (.ref b), .val (.ref u), .val (.int w), .val (.int h1), .val (.ref sr)] [])) t
      refine XS.aloadN X17.here hx rfl (hb hby own_d_prog_33_method_1_code_31) rfl rfl ?_
      show Steps p.tables e below (T17.setTop (mkF m 32 #[.val (.ref b), .val (.ref u), .val (.int w), .val (.int h1), .val (.ref sr)] [(.ref b)])) t
      refine XS.aloadN X17.here hx rfl (hb hby own_d_prog_33_method_1_code_32) rfl rfl ?_
      show Steps p.tables e below (T17.setTop (mkF m 33 #[.val (.ref b), .val (.ref u), .val (.int w), .val (.int h1), .val (.ref sr)] [(.ref u), (.ref b)])) t
      exact st21 t k)
  have Fw21 := Fld.same W21 cf19
  have hk := Nat.le_trans hk (Keep.of_wr W21).1
  have N21 := Fr.snoc X21 N17 g
  have Kp21 := Keep.wr Kp15 W21 (Or.inl (List.mem_of_getElem? (i := 0) rfl))
  have cf23 := (Fld.other W21 ((((F_width.ext E3).ext E7).ext E11).ext E15) (Or.inr (slot_ne (Or.inr (hw _ (List.mem_of_getElem? (i := 45) rfl))) (Or.inr (hw _ (List.mem_of_getElem? (i := 43) rfl))) (by decide) (t := .int) (t' := (.object "java/lang/String")) (by decide) (by decide))))
  have cf24 := (Exa.wr W21 cf20)
  obtain ⟨T25, hp25, X25, e25, W25, st25⟩ := putF X21 hx hZ hown (host := "") (Or.inl (hw _ (List.mem_of_getElem? (i := 44) rfl))) Via.refl e21 cf23 cf24 (Or.inr ⟨(hw _ (List.mem_of_getElem? (i := 45) rfl)), rfl, hnm⟩) (hw _ (List.mem_of_getElem? (i := 9) rfl)) (ty := .int) (by decide) rfl rfl (g := (mkF m 38 #[.val (.ref b), .val (.ref u), .val (.int w), .val (.int h1), .val (.ref sr)] [(.int w), (.ref b)])) rfl rfl (hb hby own_d_prog_33_method_1_code_38)
  have ch26 : ∀ t, Steps p.tables e below (T25.setTop (mkF m 41 #[.val (.ref b), .val (.ref u), .val (.int w), .val (.int h1), .val (.ref sr)] [])) t → Steps p.tables e below (s₁.setTop (entryFrame m #[(.ref b), (.ref u), (.int w), (.int h1), (.ref sr)] 5)) t := fun t k => ch22 t (by
      show Steps p.tables e below (T21.setTop (mkF m 36 #[.val (.ref b), .val (.ref u), .val (.int w), .val (.int h1), .val (.ref sr)] [])) t
      refine XS.aloadN X21.here hx rfl (hb hby own_d_prog_33_method_1_code_36) rfl rfl ?_
      show Steps p.tables e below (T21.setTop (mkF m 37 #[.val (.ref b), .val (.ref u), .val (.int w), .val (.int h1), .val (.ref sr)] [(.ref b)])) t
      refine XS.iloadN X21.here hx rfl (hb hby own_d_prog_33_method_1_code_37) rfl ?_
      show Steps p.tables e below (T21.setTop (mkF m 38 #[.val (.ref b), .val (.ref u), .val (.int w), .val (.int h1), .val (.ref sr)] [(.int w), (.ref b)])) t
      exact st25 t k)
  have Fw25 := Fld.same W25 cf23
  have hk := Nat.le_trans hk (Keep.of_wr W25).1
  have N25 := Fr.snoc X25 N21 g
  have Kp25 := Keep.wr Kp21 W25 (Or.inl (List.mem_of_getElem? (i := 0) rfl))
  have cf27 := (Fld.other W25 (Fld.other W21 ((((F_height.ext E3).ext E7).ext E11).ext E15) (Or.inr (slot_ne (Or.inr (hw _ (List.mem_of_getElem? (i := 47) rfl))) (Or.inr (hw _ (List.mem_of_getElem? (i := 43) rfl))) (by decide) (t := .int) (t' := (.object "java/lang/String")) (by decide) (by decide)))) (Or.inr (slot_ne (Or.inr (hw _ (List.mem_of_getElem? (i := 47) rfl))) (Or.inr (hw _ (List.mem_of_getElem? (i := 45) rfl))) (by decide) (t := .int) (t' := .int) (by decide) (by decide))))
  have cf28 := (Exa.wr W25 cf24)
  obtain ⟨T29, hp29, X29, e29, W29, st29⟩ := putF X25 hx hZ hown (host := "") (Or.inl (hw _ (List.mem_of_getElem? (i := 46) rfl))) Via.refl e25 cf27 cf28 (Or.inr ⟨(hw _ (List.mem_of_getElem? (i := 47) rfl)), rfl, hnm⟩) (hw _ (List.mem_of_getElem? (i := 9) rfl)) (ty := .int) (by decide) rfl rfl (g := (mkF m 43 #[.val (.ref b), .val (.ref u), .val (.int w), .val (.int h1), .val (.ref sr)] [(.int h1), (.ref b)])) rfl rfl (hb hby own_d_prog_33_method_1_code_43)
  have ch30 : ∀ t, Steps p.tables e below (T29.setTop (mkF m 46 #[.val (.ref b), .val (.ref u), .val (.int w), .val (.int h1), .val (.ref sr)] [])) t → Steps p.tables e below (s₁.setTop (entryFrame m #[(.ref b), (.ref u), (.int w), (.int h1), (.ref sr)] 5)) t := fun t k => ch26 t (by
      show Steps p.tables e below (T25.setTop (mkF m 41 #[.val (.ref b), .val (.ref u), .val (.int w), .val (.int h1), .val (.ref sr)] [])) t
      refine XS.aloadN X25.here hx rfl (hb hby own_d_prog_33_method_1_code_41) rfl rfl ?_
      show Steps p.tables e below (T25.setTop (mkF m 42 #[.val (.ref b), .val (.ref u), .val (.int w), .val (.int h1), .val (.ref sr)] [(.ref b)])) t
      refine XS.iloadN X25.here hx rfl (hb hby own_d_prog_33_method_1_code_42) rfl ?_
      show Steps p.tables e below (T25.setTop (mkF m 43 #[.val (.ref b), .val (.ref u), .val (.int w), .val (.int h1), .val (.ref sr)] [(.int h1), (.ref b)])) t
      exact st29 t k)
  have Fw29 := Fld.same W29 cf27
  have hk := Nat.le_trans hk (Keep.of_wr W29).1
  have N29 := Fr.snoc X29 N25 g
  have Kp29 := Keep.wr Kp25 W29 (Or.inl (List.mem_of_getElem? (i := 0) rfl))
  have cf31 := (Fld.other W29 (Fld.other W25 (Fld.other W21 ((((F_source.ext E3).ext E7).ext E11).ext E15) (Or.inr (slot_ne (Or.inr (hw _ (List.mem_of_getElem? (i := 49) rfl))) (Or.inr (hw _ (List.mem_of_getElem? (i := 43) rfl))) (by decide) (t := (.object "com/example/leafwright/leafwright/Thumbnails$Source")) (t' := (.object "java/lang/String")) (by decide) (by decide)))) (Or.inr (slot_ne (Or.inr (hw _ (List.mem_of_getElem? (i := 49) rfl))) (Or.inr (hw _ (List.mem_of_getElem? (i := 45) rfl))) (by decide) (t := (.object "com/example/leafwright/leafwright/Thumbnails$Source")) (t' := .int) (by decide) (by decide)))) (Or.inr (slot_ne (Or.inr (hw _ (List.mem_of_getElem? (i := 49) rfl))) (Or.inr (hw _ (List.mem_of_getElem? (i := 47) rfl))) (by decide) (t := (.object "com/example/leafwright/leafwright/Thumbnails$Source")) (t' := .int) (by decide) (by decide))))
  have cf32 := (Exa.wr W29 cf28)
  obtain ⟨T33, hp33, X33, e33, W33, st33⟩ := putF X29 hx hZ hown (host := "") (Or.inl (hw _ (List.mem_of_getElem? (i := 48) rfl))) Via.refl e29 cf31 cf32 (Or.inr ⟨(hw _ (List.mem_of_getElem? (i := 49) rfl)), rfl, hnm⟩) (hw _ (List.mem_of_getElem? (i := 9) rfl)) (ty := (.object "com/example/leafwright/leafwright/Thumbnails$Source")) (by decide) rfl rfl (g := (mkF m 49 #[.val (.ref b), .val (.ref u), .val (.int w), .val (.int h1), .val (.ref sr)] [(.ref sr), (.ref b)])) rfl rfl (hb hby own_d_prog_33_method_1_code_49)
  have ch34 : ∀ t, Steps p.tables e below (T33.setTop (mkF m 52 #[.val (.ref b), .val (.ref u), .val (.int w), .val (.int h1), .val (.ref sr)] [])) t → Steps p.tables e below (s₁.setTop (entryFrame m #[(.ref b), (.ref u), (.int w), (.int h1), (.ref sr)] 5)) t := fun t k => ch30 t (by
      show Steps p.tables e below (T29.setTop (mkF m 46 #[.val (.ref b), .val (.ref u), .val (.int w), .val (.int h1), .val (.ref sr)] [])) t
      refine XS.aloadN X29.here hx rfl (hb hby own_d_prog_33_method_1_code_46) rfl rfl ?_
      show Steps p.tables e below (T29.setTop (mkF m 47 #[.val (.ref b), .val (.ref u), .val (.int w), .val (.int h1), .val (.ref sr)] [(.ref b)])) t
      refine XS.aload X29.here hx rfl (hb hby own_d_prog_33_method_1_code_47) rfl rfl ?_
      show Steps p.tables e below (T29.setTop (mkF m 49 #[.val (.ref b), .val (.ref u), .val (.int w), .val (.int h1), .val (.ref sr)] [(.ref sr), (.ref b)])) t
      exact st33 t k)
  have Fw33 := Fld.same W33 cf31
  have hk := Nat.le_trans hk (Keep.of_wr W33).1
  have N33 := Fr.snoc X33 N29 g
  have Kp33 := Keep.wr Kp29 W33 (Or.inl (List.mem_of_getElem? (i := 0) rfl))
  have cf35 := (Exa.wr W33 cf32)
  have cf36 := (Fld.other W33 (Fld.other W29 (Fld.other W25 Fw21 (Or.inr (slot_ne (Or.inr (hw _ (List.mem_of_getElem? (i := 43) rfl))) (Or.inr (hw _ (List.mem_of_getElem? (i := 45) rfl))) (by decide) (t := (.object "java/lang/String")) (t' := .int) (by decide) (by decide)))) (Or.inr (slot_ne (Or.inr (hw _ (List.mem_of_getElem? (i := 43) rfl))) (Or.inr (hw _ (List.mem_of_getElem? (i := 47) rfl))) (by decide) (t := (.object "java/lang/String")) (t' := .int) (by decide) (by decide)))) (Or.inr (slot_ne (Or.inr (hw _ (List.mem_of_getElem? (i := 43) rfl))) (Or.inr (hw _ (List.mem_of_getElem? (i := 49) rfl))) (by decide) (t := (.object "java/lang/String")) (t' := (.object "com/example/leafwright/leafwright/Thumbnails$Source")) (by decide) (by decide))))
  have cf37 := (Fld.other W33 (Fld.other W29 Fw25 (Or.inr (slot_ne (Or.inr (hw _ (List.mem_of_getElem? (i := 45) rfl))) (Or.inr (hw _ (List.mem_of_getElem? (i := 47) rfl))) (by decide) (t := .int) (t' := .int) (by decide) (by decide)))) (Or.inr (slot_ne (Or.inr (hw _ (List.mem_of_getElem? (i := 45) rfl))) (Or.inr (hw _ (List.mem_of_getElem? (i := 49) rfl))) (by decide) (t := .int) (t' := (.object "com/example/leafwright/leafwright/Thumbnails$Source")) (by decide) (by decide))))
  have cf38 := (Fld.other W33 Fw29 (Or.inr (slot_ne (Or.inr (hw _ (List.mem_of_getElem? (i := 47) rfl))) (Or.inr (hw _ (List.mem_of_getElem? (i := 49) rfl))) (by decide) (t := .int) (t' := (.object "com/example/leafwright/leafwright/Thumbnails$Source")) (by decide) (by decide))))
  obtain ⟨fs, hr, hrun, hended, hend⟩ := X33.leaveW hS (by rw [e33]; exact hk) (v := none) (fun _ => rfl)
  refine ⟨_, _, ch34 _ ?_, hrun, hended, _, _, rfl, ?_, hend.1, hend.2.1, hend.2.2.1, hend.2.2.2.mono (by decide) (by decide)⟩
  · show Steps p.tables e below (T33.setTop (mkF m 52 #[.val (.ref b), .val (.ref u), .val (.int w), .val (.int h1), .val (.ref sr)] [])) _
    exact X33.returnOut hx Bd.returns (hb hby own_d_prog_33_method_1_code_52) hr
  · show QCi Z b u w h1 sr h0 n0 _ T33.heap _
    rw [e33]
    exact ⟨rfl, N33, Kp33, cf35, cf36, cf37, cf38, Fw33⟩
theorem own_ef_own_cov_a (m : MethodId) {x0 : Addr} {x1 : Int32} {x2 : Int32} : entryFrame m #[(.ref x0), (.int x1), (.int x2)] 3 = mkF m 0 #[.val (.ref x0), .val (.int x1), .val (.int x2)] [] := by first | (simp [entryFrame, mkF, argsToLocals, Value.category, maxLocals]; done) | rfl
set_option maxRecDepth 65536 in
set_option maxHeartbeats 40000000 in
theorem own_cov_a (l : Launch) (Z : State) (a0 : Array Value) (hw : ∀ d ∈ tables_1, d.before a0 Z = true) (ws : List Jvm.Cond) (h0 : Heap) (n0 : Nat) (Z0 : n0 ≤ h0.size) (b : Addr) (w h1 x y : Int32) (F1 : Fld Z h0 b "com/example/leafwright/leafwright/Thumbnails$Candidate" "width" "I" (.int w)) (F2 : Fld Z h0 b "com/example/leafwright/leafwright/Thumbnails$Candidate" "height" "I" (.int h1)) (q1 : ¬ w < x) :
    MetFree l (⟨"com/example/leafwright/leafwright/Thumbnails$Candidate", "covers", "(II)Z"⟩ : MethodName) (head1 (Jvm.Cond.code (⟨"com/example/leafwright/leafwright/Thumbnails$Candidate", "covers", "(II)Z"⟩ : MethodName) prog_33_method_3_code 3 (some .boolean) :: ws) ({ frames := 0, cells := 0, slots := 0, locals := 0 } : Room)) (fun a U => a = #[(.ref b), (.int x), (.int y)] ∧ Z.Warmed39 U.vm ∧ U.heap = h0) (fun _ _ _ _ _ => True) (fun _ U o U' => ∃ v L, o = .returned v ∧ QV (some (.int (1 : Int32))) h0 n0 v U'.heap L ∧ FrameEnd U o U' L ({ frames := 0, cells := 0, slots := 0, locals := 0 } : Room).cells ({ frames := 0, cells := 0, slots := 0, locals := 0 } : Room).slots) := by
  refine MetFree.of_bodySF (plainFor_of_name own_pn_com_example_leafwright_leafwright_Thumbnails_Candidate) hisR ?_
  intro p e s m args below meth c s₁ Bd hml0 hP hK
  obtain ⟨rfl, hZ, hh⟩ := hP
  have hx := Bd.exec
  have hby := Bd.bytes
  have hml : c.maxLocals = 3 := hml0
  have hown : s.vm.findClass "com/example/leafwright/leafwright/Thumbnails$Candidate" = some m.cls := (findClass_of_methodNamed Bd.named :)
  have hnm := (name_of_methodNamed Bd.named Bd.method).1
  have X0 : Stand p l e ({ frames := 0, cells := 0, slots := 0, locals := 0 } : Room) s m #[(.ref b), (.int x), (.int y)] below meth c s₁ [] 0 0 := Stand.of_body Bd
  have e0 : s₁.heap = h0 := by rw [← hh, Bd.state]; rfl
  have N0 := Fr.nil n0
  have pre0 : ∀ t, Steps p.tables e below (s₁.setTop (mkF m 0 #[.val (.ref b), .val (.int x), .val (.int y)] [])) t → Steps p.tables e below (s₁.setTop (entryFrame m #[(.ref b), (.int x), (.int y)] 3)) t := fun t k => castTop (own_ef_own_cov_a m) k
  obtain ⟨T1, X1, e1, st1⟩ := getF X0 hx hZ hown (host := "") (Or.inl (hw _ (List.mem_of_getElem? (i := 44) rfl))) Via.refl e0 F1 (g := (mkF m 1 #[.val (.ref b), .val (.int x), .val (.int y)] [(.ref b)])) rfl rfl (hb hby own_d_prog_33_method_3_code_1)
  have ch2 : ∀ t, Steps p.tables e below (T1.setTop (mkF m 4 #[.val (.ref b), .val (.int x), .val (.int y)] [(.int w)])) t → Steps p.tables e below (s₁.setTop (entryFrame m #[(.ref b), (.int x), (.int y)] 3)) t := fun t k => pre0 t (by
      show Steps p.tables e below (s₁.setTop (mkF m 0 #[.val (.ref b), .val (.int x), .val (.int y)] [])) t
      refine XS.aloadN X0.here hx rfl (hb hby own_d_prog_33_method_3_code_0) rfl rfl ?_
      show Steps p.tables e below (s₁.setTop (mkF m 1 #[.val (.ref b), .val (.int x), .val (.int y)] [(.ref b)])) t
      exact st1 t k)
  have ch3 : ∀ t, Steps p.tables e below (T1.setTop (mkF m 21 #[.val (.ref b), .val (.int x), .val (.int y)] [(.int (1 : Int32))])) t → Steps p.tables e below (s₁.setTop (entryFrame m #[(.ref b), (.int x), (.int y)] 3)) t := fun t k => ch2 t (by
      show Steps p.tables e below (T1.setTop (mkF m 4 #[.val (.ref b), .val (.int x), .val (.int y)] [(.int w)])) t
      refine XS.iloadN X1.here hx rfl (hb hby own_d_prog_33_method_3_code_4) rfl ?_
      show Steps p.tables e below (T1.setTop (mkF m 5 #[.val (.ref b), .val (.int x), .val (.int y)] [(.int x), (.int w)])) t
      refine XS.icmpYes X1.here hx rfl (pc0 := 5) (pc' := 16) rfl (hb hby own_d_prog_33_method_3_code_5) rfl (flt q1).2.1 (by decide) (by decide) ?_
      show Steps p.tables e below (T1.setTop (mkF m 16 #[.val (.ref b), .val (.int x), .val (.int y)] [])) t
      refine XS.iconst X1.here hx rfl (hb hby own_d_prog_33_method_3_code_16) ?_
      show Steps p.tables e below (T1.setTop (mkF m 17 #[.val (.ref b), .val (.int x), .val (.int y)] [(.int (1 : Int32))])) t
      refine XS.goto X1.here hx rfl (pc0 := 17) (pc' := 21) rfl (hb hby own_d_prog_33_method_3_code_17) (by decide) (by decide) ?_
      exact k)
  obtain ⟨fs, hr, hrun, hended, hW, hsame⟩ := X1.leave (v := some (.int (1 : Int32))) (fun h => by rw [Bd.returns] at h; cases h)
  refine ⟨_, _, ch3 _ ?_, hrun, hended, _, _, rfl, ?_, ⟨_, rfl⟩, hW, hsame.mono (by decide) (by decide)⟩
  · show Steps p.tables e below (T1.setTop (mkF m 21 #[.val (.ref b), .val (.int x), .val (.int y)] [(.int (1 : Int32))])) _
    exact retN X1 hx (t := .boolean) Bd.returns (by simp) (hb hby own_d_prog_33_method_3_code_21) hr
  · show QV (some (.int (1 : Int32))) h0 n0 _ T1.heap _
    rw [e1]
    exact ⟨rfl, N0, rfl⟩
theorem own_ef_own_cov_b (m : MethodId) {x0 : Addr} {x1 : Int32} {x2 : Int32} : entryFrame m #[(.ref x0), (.int x1), (.int x2)] 3 = mkF m 0 #[.val (.ref x0), .val (.int x1), .val (.int x2)] [] := by first | (simp [entryFrame, mkF, argsToLocals, Value.category, maxLocals]; done) | rfl
set_option maxRecDepth 65536 in
set_option maxHeartbeats 40000000 in
theorem own_cov_b (l : Launch) (Z : State) (a0 : Array Value) (hw : ∀ d ∈ tables_1, d.before a0 Z = true) (ws : List Jvm.Cond) (h0 : Heap) (n0 : Nat) (Z0 : n0 ≤ h0.size) (b : Addr) (w h1 x y : Int32) (F1 : Fld Z h0 b "com/example/leafwright/leafwright/Thumbnails$Candidate" "width" "I" (.int w)) (F2 : Fld Z h0 b "com/example/leafwright/leafwright/Thumbnails$Candidate" "height" "I" (.int h1)) (q1 : w < x) (q2 : ¬ h1 < y) :
    MetFree l (⟨"com/example/leafwright/leafwright/Thumbnails$Candidate", "covers", "(II)Z"⟩ : MethodName) (head1 (Jvm.Cond.code (⟨"com/example/leafwright/leafwright/Thumbnails$Candidate", "covers", "(II)Z"⟩ : MethodName) prog_33_method_3_code 3 (some .boolean) :: ws) ({ frames := 0, cells := 0, slots := 0, locals := 0 } : Room)) (fun a U => a = #[(.ref b), (.int x), (.int y)] ∧ Z.Warmed39 U.vm ∧ U.heap = h0) (fun _ _ _ _ _ => True) (fun _ U o U' => ∃ v L, o = .returned v ∧ QV (some (.int (1 : Int32))) h0 n0 v U'.heap L ∧ FrameEnd U o U' L ({ frames := 0, cells := 0, slots := 0, locals := 0 } : Room).cells ({ frames := 0, cells := 0, slots := 0, locals := 0 } : Room).slots) := by
  refine MetFree.of_bodySF (plainFor_of_name own_pn_com_example_leafwright_leafwright_Thumbnails_Candidate) hisR ?_
  intro p e s m args below meth c s₁ Bd hml0 hP hK
  obtain ⟨rfl, hZ, hh⟩ := hP
  have hx := Bd.exec
  have hby := Bd.bytes
  have hml : c.maxLocals = 3 := hml0
  have hown : s.vm.findClass "com/example/leafwright/leafwright/Thumbnails$Candidate" = some m.cls := (findClass_of_methodNamed Bd.named :)
  have hnm := (name_of_methodNamed Bd.named Bd.method).1
  have X0 : Stand p l e ({ frames := 0, cells := 0, slots := 0, locals := 0 } : Room) s m #[(.ref b), (.int x), (.int y)] below meth c s₁ [] 0 0 := Stand.of_body Bd
  have e0 : s₁.heap = h0 := by rw [← hh, Bd.state]; rfl
  have N0 := Fr.nil n0
  have pre0 : ∀ t, Steps p.tables e below (s₁.setTop (mkF m 0 #[.val (.ref b), .val (.int x), .val (.int y)] [])) t → Steps p.tables e below (s₁.setTop (entryFrame m #[(.ref b), (.int x), (.int y)] 3)) t := fun t k => castTop (own_ef_own_cov_b m) k
  obtain ⟨T1, X1, e1, st1⟩ := getF X0 hx hZ hown (host := "") (Or.inl (hw _ (List.mem_of_getElem? (i := 44) rfl))) Via.refl e0 F1 (g := (mkF m 1 #[.val (.ref b), .val (.int x), .val (.int y)] [(.ref b)])) rfl rfl (hb hby own_d_prog_33_method_3_code_1)
  have ch2 : ∀ t, Steps p.tables e below (T1.setTop (mkF m 4 #[.val (.ref b), .val (.int x), .val (.int y)] [(.int w)])) t → Steps p.tables e below (s₁.setTop (entryFrame m #[(.ref b), (.int x), (.int y)] 3)) t := fun t k => pre0 t (by
      show Steps p.tables e below (s₁.setTop (mkF m 0 #[.val (.ref b), .val (.int x), .val (.int y)] [])) t
      refine XS.aloadN X0.here hx rfl (hb hby own_d_prog_33_method_3_code_0) rfl rfl ?_
      show Steps p.tables e below (s₁.setTop (mkF m 1 #[.val (.ref b), .val (.int x), .val (.int y)] [(.ref b)])) t
      exact st1 t k)
  obtain ⟨T3, X3, e3, st3⟩ := getF X1 hx hZ hown (host := "") (Or.inl (hw _ (List.mem_of_getElem? (i := 46) rfl))) Via.refl e1 F2 (g := (mkF m 9 #[.val (.ref b), .val (.int x), .val (.int y)] [(.ref b)])) rfl rfl (hb hby own_d_prog_33_method_3_code_9)
  have ch4 : ∀ t, Steps p.tables e below (T3.setTop (mkF m 12 #[.val (.ref b), .val (.int x), .val (.int y)] [(.int h1)])) t → Steps p.tables e below (s₁.setTop (entryFrame m #[(.ref b), (.int x), (.int y)] 3)) t := fun t k => ch2 t (by
      show Steps p.tables e below (T1.setTop (mkF m 4 #[.val (.ref b), .val (.int x), .val (.int y)] [(.int w)])) t
      refine XS.iloadN X1.here hx rfl (hb hby own_d_prog_33_method_3_code_4) rfl ?_
      show Steps p.tables e below (T1.setTop (mkF m 5 #[.val (.ref b), .val (.int x), .val (.int y)] [(.int x), (.int w)])) t
      refine XS.icmpNo X1.here hx rfl (hb hby own_d_prog_33_method_3_code_5) rfl (tlt q1).2.1 ?_
      show Steps p.tables e below (T1.setTop (mkF m 8 #[.val (.ref b), .val (.int x), .val (.int y)] [])) t
      refine XS.aloadN X1.here hx rfl (hb hby own_d_prog_33_method_3_code_8) rfl rfl ?_
      show Steps p.tables e below (T1.setTop (mkF m 9 #[.val (.ref b), .val (.int x), .val (.int y)] [(.ref b)])) t
      exact st3 t k)
  have ch5 : ∀ t, Steps p.tables e below (T3.setTop (mkF m 21 #[.val (.ref b), .val (.int x), .val (.int y)] [(.int (1 : Int32))])) t → Steps p.tables e below (s₁.setTop (entryFrame m #[(.ref b), (.int x), (.int y)] 3)) t := fun t k => ch4 t (by
      show Steps p.tables e below (T3.setTop (mkF m 12 #[.val (.ref b), .val (.int x), .val (.int y)] [(.int h1)])) t
      refine XS.iloadN X3.here hx rfl (hb hby own_d_prog_33_method_3_code_12) rfl ?_
      show Steps p.tables e below (T3.setTop (mkF m 13 #[.val (.ref b), .val (.int x), .val (.int y)] [(.int y), (.int h1)])) t
      refine XS.icmpNo X3.here hx rfl (hb hby own_d_prog_33_method_3_code_13) rfl (flt q2).1 ?_
      show Steps p.tables e below (T3.setTop (mkF m 16 #[.val (.ref b), .val (.int x), .val (.int y)] [])) t
      refine XS.iconst X3.here hx rfl (hb hby own_d_prog_33_method_3_code_16) ?_
      show Steps p.tables e below (T3.setTop (mkF m 17 #[.val (.ref b), .val (.int x), .val (.int y)] [(.int (1 : Int32))])) t
      refine XS.goto X3.here hx rfl (pc0 := 17) (pc' := 21) rfl (hb hby own_d_prog_33_method_3_code_17) (by decide) (by decide) ?_
      exact k)
  obtain ⟨fs, hr, hrun, hended, hW, hsame⟩ := X3.leave (v := some (.int (1 : Int32))) (fun h => by rw [Bd.returns] at h; cases h)
  refine ⟨_, _, ch5 _ ?_, hrun, hended, _, _, rfl, ?_, ⟨_, rfl⟩, hW, hsame.mono (by decide) (by decide)⟩
  · show Steps p.tables e below (T3.setTop (mkF m 21 #[.val (.ref b), .val (.int x), .val (.int y)] [(.int (1 : Int32))])) _
    exact retN X3 hx (t := .boolean) Bd.returns (by simp) (hb hby own_d_prog_33_method_3_code_21) hr
  · show QV (some (.int (1 : Int32))) h0 n0 _ T3.heap _
    rw [e3]
    exact ⟨rfl, N0, rfl⟩
theorem own_ef_own_cov_c (m : MethodId) {x0 : Addr} {x1 : Int32} {x2 : Int32} : entryFrame m #[(.ref x0), (.int x1), (.int x2)] 3 = mkF m 0 #[.val (.ref x0), .val (.int x1), .val (.int x2)] [] := by first | (simp [entryFrame, mkF, argsToLocals, Value.category, maxLocals]; done) | rfl
set_option maxRecDepth 65536 in
set_option maxHeartbeats 40000000 in
theorem own_cov_c (l : Launch) (Z : State) (a0 : Array Value) (hw : ∀ d ∈ tables_1, d.before a0 Z = true) (ws : List Jvm.Cond) (h0 : Heap) (n0 : Nat) (Z0 : n0 ≤ h0.size) (b : Addr) (w h1 x y : Int32) (F1 : Fld Z h0 b "com/example/leafwright/leafwright/Thumbnails$Candidate" "width" "I" (.int w)) (F2 : Fld Z h0 b "com/example/leafwright/leafwright/Thumbnails$Candidate" "height" "I" (.int h1)) (q1 : w < x) (q2 : h1 < y) :
    MetFree l (⟨"com/example/leafwright/leafwright/Thumbnails$Candidate", "covers", "(II)Z"⟩ : MethodName) (head1 (Jvm.Cond.code (⟨"com/example/leafwright/leafwright/Thumbnails$Candidate", "covers", "(II)Z"⟩ : MethodName) prog_33_method_3_code 3 (some .boolean) :: ws) ({ frames := 0, cells := 0, slots := 0, locals := 0 } : Room)) (fun a U => a = #[(.ref b), (.int x), (.int y)] ∧ Z.Warmed39 U.vm ∧ U.heap = h0) (fun _ _ _ _ _ => True) (fun _ U o U' => ∃ v L, o = .returned v ∧ QV (some (.int (0 : Int32))) h0 n0 v U'.heap L ∧ FrameEnd U o U' L ({ frames := 0, cells := 0, slots := 0, locals := 0 } : Room).cells ({ frames := 0, cells := 0, slots := 0, locals := 0 } : Room).slots) := by
  refine MetFree.of_bodySF (plainFor_of_name own_pn_com_example_leafwright_leafwright_Thumbnails_Candidate) hisR ?_
  intro p e s m args below meth c s₁ Bd hml0 hP hK
  obtain ⟨rfl, hZ, hh⟩ := hP
  have hx := Bd.exec
  have hby := Bd.bytes
  have hml : c.maxLocals = 3 := hml0
  have hown : s.vm.findClass "com/example/leafwright/leafwright/Thumbnails$Candidate" = some m.cls := (findClass_of_methodNamed Bd.named :)
  have hnm := (name_of_methodNamed Bd.named Bd.method).1
  have X0 : Stand p l e ({ frames := 0, cells := 0, slots := 0, locals := 0 } : Room) s m #[(.ref b), (.int x), (.int y)] below meth c s₁ [] 0 0 := Stand.of_body Bd
  have e0 : s₁.heap = h0 := by rw [← hh, Bd.state]; rfl
  have N0 := Fr.nil n0
  have pre0 : ∀ t, Steps p.tables e below (s₁.setTop (mkF m 0 #[.val (.ref b), .val (.int x), .val (.int y)] [])) t → Steps p.tables e below (s₁.setTop (entryFrame m #[(.ref b), (.int x), (.int y)] 3)) t := fun t k => castTop (own_ef_own_cov_c m) k
  obtain ⟨T1, X1, e1, st1⟩ := getF X0 hx hZ hown (host := "") (Or.inl (hw _ (List.mem_of_getElem? (i := 44) rfl))) Via.refl e0 F1 (g := (mkF m 1 #[.val (.ref b), .val (.int x), .val (.int y)] [(.ref b)])) rfl rfl (hb hby own_d_prog_33_method_3_code_1)
  have ch2 : ∀ t, Steps p.tables e below (T1.setTop (mkF m 4 #[.val (.ref b), .val (.int x), .val (.int y)] [(.int w)])) t → Steps p.tables e below (s₁.setTop (entryFrame m #[(.ref b), (.int x), (.int y)] 3)) t := fun t k => pre0 t (by
      show Steps p.tables e below (s₁.setTop (mkF m 0 #[.val (.ref b), .val (.int x), .val (.int y)] [])) t
      refine XS.aloadN X0.here hx rfl (hb hby own_d_prog_33_method_3_code_0) rfl rfl ?_
      show Steps p.tables e below (s₁.setTop (mkF m 1 #[.val (.ref b), .val (.int x), .val (.int y)] [(.ref b)])) t
      exact st1 t k)
  obtain ⟨T3, X3, e3, st3⟩ := getF X1 hx hZ hown (host := "") (Or.inl (hw _ (List.mem_of_getElem? (i := 46) rfl))) Via.refl e1 F2 (g := (mkF m 9 #[.val (.ref b), .val (.int x), .val (.int y)] [(.ref b)])) rfl rfl (hb hby own_d_prog_33_method_3_code_9)
  have ch4 : ∀ t, Steps p.tables e below (T3.setTop (mkF m 12 #[.val (.ref b), .val (.int x), .val (.int y)] [(.int h1)])) t → Steps p.tables e below (s₁.setTop (entryFrame m #[(.ref b), (.int x), (.int y)] 3)) t := fun t k => ch2 t (by
      show Steps p.tables e below (T1.setTop (mkF m 4 #[.val (.ref b), .val (.int x), .val (.int y)] [(.int w)])) t
      refine XS.iloadN X1.here hx rfl (hb hby own_d_prog_33_method_3_code_4) rfl ?_
      show Steps p.tables e below (T1.setTop (mkF m 5 #[.val (.ref b), .val (.int x), .val (.int y)] [(.int x), (.int w)])) t
      refine XS.icmpNo X1.here hx rfl (hb hby own_d_prog_33_method_3_code_5) rfl (tlt q1).2.1 ?_
      show Steps p.tables e below (T1.setTop (mkF m 8 #[.val (.ref b), .val (.int x), .val (.int y)] [])) t
      refine XS.aloadN X1.here hx rfl (hb hby own_d_prog_33_method_3_code_8) rfl rfl ?_
      show Steps p.tables e below (T1.setTop (mkF m 9 #[.val (.ref b), .val (.int x), .val (.int y)] [(.ref b)])) t
      exact st3 t k)
  have ch5 : ∀ t, Steps p.tables e below (T3.setTop (mkF m 21 #[.val (.ref b), .val (.int x), .val (.int y)] [(.int (0 : Int32))])) t → Steps p.tables e below (s₁.setTop (entryFrame m #[(.ref b), (.int x), (.int y)] 3)) t := fun t k => ch4 t (by
      show Steps p.tables e below (T3.setTop (mkF m 12 #[.val (.ref b), .val (.int x), .val (.int y)] [(.int h1)])) t
      refine XS.iloadN X3.here hx rfl (hb hby own_d_prog_33_method_3_code_12) rfl ?_
      show Steps p.tables e below (T3.setTop (mkF m 13 #[.val (.ref b), .val (.int x), .val (.int y)] [(.int y), (.int h1)])) t
      refine XS.icmpYes X3.here hx rfl (pc0 := 13) (pc' := 20) rfl (hb hby own_d_prog_33_method_3_code_13) rfl (tlt q2).1 (by decide) (by decide) ?_
      show Steps p.tables e below (T3.setTop (mkF m 20 #[.val (.ref b), .val (.int x), .val (.int y)] [])) t
      refine XS.iconst X3.here hx rfl (hb hby own_d_prog_33_method_3_code_20) ?_
      exact k)
  obtain ⟨fs, hr, hrun, hended, hW, hsame⟩ := X3.leave (v := some (.int (0 : Int32))) (fun h => by rw [Bd.returns] at h; cases h)
  refine ⟨_, _, ch5 _ ?_, hrun, hended, _, _, rfl, ?_, ⟨_, rfl⟩, hW, hsame.mono (by decide) (by decide)⟩
  · show Steps p.tables e below (T3.setTop (mkF m 21 #[.val (.ref b), .val (.int x), .val (.int y)] [(.int (0 : Int32))])) _
    exact retN X3 hx (t := .boolean) Bd.returns (by simp) (hb hby own_d_prog_33_method_3_code_21) hr
  · show QV (some (.int (0 : Int32))) h0 n0 _ T3.heap _
    rw [e3]
    exact ⟨rfl, N0, rfl⟩
theorem own_ef_own_law_000 (m : MethodId) {x0 : Int32} {x1 : Int32} {x2 : Int32} {x3 : Int32} {x4 : Int32} : entryFrame m #[(.int x0), (.int x1), (.int x2), (.int x3), (.int x4)] maxLocals = mkF m 0 #[.val (.int x0), .val (.int x1), .val (.int x2), .val (.int x3), .val (.int x4), .unset, .unset, .unset, .unset, .unset, .unset, .unset, .unset, .unset] [] := by first | (simp [entryFrame, mkF, argsToLocals, Value.category, maxLocals]; done) | rfl
set_option maxRecDepth 65536 in
set_option maxHeartbeats 40000000 in
theorem own_law_000 (l : Launch) (Z : State) (a0 : Array Value) (hw : ∀ d ∈ tables_1, d.before a0 Z = true) (ws : List Jvm.Cond) (h0 : Heap) (n0 : Nat) (Z0 : n0 ≤ h0.size) (p1 p2 p3 p4 p5 w h1 : Int32) (HW : MetFree l (⟨"java/lang/Math", "max", "(II)I"⟩ : MethodName) (head1 (Jvm.Cond.code (⟨"java/lang/Math", "max", "(II)I"⟩ : MethodName) jdk_29_method_65_code 2 (some .int) :: []) ({ frames := 0, cells := 0, slots := 0, locals := 0 } : Room)) (fun a U => a = #[(.int (1 : Int32)), (.int (p1 &&& (2147483647 : Int32)))] ∧ Z.Warmed39 U.vm ∧ U.heap = h0) (fun _ _ _ _ _ => True) (fun _ U o U' => ∃ v L, o = .returned v ∧ QV (some (.int w)) h0 n0 v U'.heap L ∧ FrameEnd U o U' L ({ frames := 0, cells := 0, slots := 0, locals := 0 } : Room).cells ({ frames := 0, cells := 0, slots := 0, locals := 0 } : Room).slots)) (HH : MetFree l (⟨"java/lang/Math", "max", "(II)I"⟩ : MethodName) (head1 (Jvm.Cond.code (⟨"java/lang/Math", "max", "(II)I"⟩ : MethodName) jdk_29_method_65_code 2 (some .int) :: []) ({ frames := 0, cells := 0, slots := 0, locals := 0 } : Room)) (fun a U => a = #[(.int (1 : Int32)), (.int (p2 &&& (2147483647 : Int32)))] ∧ Z.Warmed39 U.vm ∧ U.heap = h0) (fun _ _ _ _ _ => True) (fun _ U o U' => ∃ v L, o = .returned v ∧ QV (some (.int h1)) h0 n0 v U'.heap L ∧ FrameEnd U o U' L ({ frames := 0, cells := 0, slots := 0, locals := 0 } : Room).cells ({ frames := 0, cells := 0, slots := 0, locals := 0 } : Room).slots)) (pw : (0 : Int32) < w) (ph : (0 : Int32) < h1) (s0 : (p5 &&& (1 : Int32)) = (0 : Int32)) (s1 : (p5 &&& (2 : Int32)) = (0 : Int32)) (s2 : (p5 &&& (4 : Int32)) = (0 : Int32)) (ad : Nat → Addr) (W : OwnWd Z h0 ad) :
    MetFree l x (head1 (Jvm.Cond.code x code maxLocals ret :: ws) room_1) (fun a U => a = #[(.int p1), (.int p2), (.int p3), (.int p4), (.int p5)] ∧ Z.Warmed39 U.vm ∧ U.heap = h0) (fun _ _ _ _ _ => True) (fun _ U o U' => ∃ v L, o = .returned v ∧ QN (some (.int (1 : Int32))) n0 v U'.heap L ∧ ReturnedEndW U o U' L room_1.cells room_1.slots) := by
  refine MetFree.of_bodySF (plainFor_of_name own_pn_com_example_leafwright_leafwright_CandidateCoversPinLaw) hisR ?_
  intro p e s m args below meth c s₁ Bd hml0 hP hK
  obtain ⟨rfl, hZ, hh⟩ := hP
  have hx := Bd.exec
  have hby := Bd.bytes
  have hml : c.maxLocals = 14 := hml0
  have hown : s.vm.findClass "com/example/leafwright/leafwright/CandidateCoversPinLaw" = some m.cls := (findClass_of_methodNamed Bd.named :)
  have hnm := (name_of_methodNamed Bd.named Bd.method).1
  have X0 : Stand p l e room_1 (s.setVm s.vm) m #[(.int p1), (.int p2), (.int p3), (.int p4), (.int p5)] below meth c s₁ [] 0 0 := Stand.of_body Bd
  have hZ : Z.Warmed39 (s.setVm s.vm).vm := hZ
  have hown : (s.setVm s.vm).vm.findClass "com/example/leafwright/leafwright/CandidateCoversPinLaw" = some m.cls := hown
  have hS : s.Since s.vm 0 := (State.WarmedH.refl s).since 0
  have hk : 0 ≤ h0.size := Nat.zero_le _
  have e0 : s₁.heap = h0 := by rw [← hh, Bd.state]; rfl
  have N0 := Fr.nil n0
  have pre0 : ∀ t, Steps p.tables e below (s₁.setTop (mkF m 0 #[.val (.int p1), .val (.int p2), .val (.int p3), .val (.int p4), .val (.int p5), .unset, .unset, .unset, .unset, .unset, .unset, .unset, .unset, .unset] [])) t → Steps p.tables e below (s₁.setTop (entryFrame m #[(.int p1), (.int p2), (.int p3), (.int p4), (.int p5)] maxLocals)) t := fun t k => castTop (own_ef_own_law_000 m) k
  obtain ⟨vv1, _, ⟨T1, L1, kk1, nn1⟩, -, X1, ⟨Lc1, hQ1, l1, y1, z1⟩, st1⟩ := Jvm.LawKit.callS X0 hx (y := (⟨"java/lang/Math", "max", "(II)I"⟩ : MethodName)) hown (mvT hZ (hw _ (List.mem_of_getElem? (i := 1) rfl))) (mvT hZ (hw _ (List.mem_of_getElem? (i := 2) rfl))) (mvT hZ (hw _ (List.mem_of_getElem? (i := 3) rfl))) (mvT hZ (hw _ (List.mem_of_getElem? (i := 4) rfl))) (by decide) (backOf (W := 0) HW hZ (hw _ (List.mem_of_getElem? (i := 4) rfl)) (hw _ (List.mem_of_getElem? (i := 3) rfl)) (by decide) (by decide)) (g := (mkF m 5 #[.val (.int p1), .val (.int p2), .val (.int p3), .val (.int p4), .val (.int p5), .unset, .unset, .unset, .unset, .unset, .unset, .unset, .unset, .unset] [(.int (p1 &&& (2147483647 : Int32))), (.int (1 : Int32))])) rfl (by rw [hml]; rfl) (argsL := [(.int (1 : Int32)), (.int (p1 &&& (2147483647 : Int32)))]) (rest := []) (lenOf own_pd__II_I rfl) rfl (by show 2 * 0 + _ ≤ _; exact Nat.le_of_eq rfl) (hb hby at_5) (fun _ _ => ⟨rfl, e0, (by decide : 0 + 0 ≤ _), (by decide : 0 + 0 ≤ _)⟩)
  dsimp only [Pt.U, Pt.locs, Pt.cells, Pt.slots] at X1 l1 y1 z1 st1 hQ1
  subst l1 y1 z1
  obtain ⟨rfl, Nq1, e1⟩ := hQ1
  have N1 := Fr.app N0 Nq1
  have ch2 : ∀ t, Steps p.tables e below (T1.setTop (mkF m 8 #[.val (.int p1), .val (.int p2), .val (.int p3), .val (.int p4), .val (.int p5), .unset, .unset, .unset, .unset, .unset, .unset, .unset, .unset, .unset] [(.int w)])) t → Steps p.tables e below (s₁.setTop (entryFrame m #[(.int p1), (.int p2), (.int p3), (.int p4), (.int p5)] maxLocals)) t := fun t k => pre0 t (by
      show Steps p.tables e below (s₁.setTop (mkF m 0 #[.val (.int p1), .val (.int p2), .val (.int p3), .val (.int p4), .val (.int p5), .unset, .unset, .unset, .unset, .unset, .unset, .unset, .unset, .unset] [])) t
      refine XS.iconst X0.here hx rfl (hb hby at_0) ?_
      show Steps p.tables e below (s₁.setTop (mkF m 1 #[.val (.int p1), .val (.int p2), .val (.int p3), .val (.int p4), .val (.int p5), .unset, .unset, .unset, .unset, .unset, .unset, .unset, .unset, .unset] [(.int (1 : Int32))])) t
      refine XS.iloadN X0.here hx rfl (hb hby at_1) rfl ?_
      show Steps p.tables e below (s₁.setTop (mkF m 2 #[.val (.int p1), .val (.int p2), .val (.int p3), .val (.int p4), .val (.int p5), .unset, .unset, .unset, .unset, .unset, .unset, .unset, .unset, .unset] [(.int p1), (.int (1 : Int32))])) t
      refine X0.ldcInt hx hown (mvT hZ (hw _ (List.mem_of_getElem? (i := 0) rfl))) (g := (mkF m 2 #[.val (.int p1), .val (.int p2), .val (.int p3), .val (.int p4), .val (.int p5), .unset, .unset, .unset, .unset, .unset, .unset, .unset, .unset, .unset] [(.int p1), (.int (1 : Int32))])) rfl (hb hby at_2) _ ?_
      show Steps p.tables e below (s₁.setTop (mkF m 4 #[.val (.int p1), .val (.int p2), .val (.int p3), .val (.int p4), .val (.int p5), .unset, .unset, .unset, .unset, .unset, .unset, .unset, .unset, .unset] [(.int (2147483647 : Int32)), (.int p1), (.int (1 : Int32))])) t
      refine XS.iand X0.here hx rfl (hb hby at_4) rfl ?_
      show Steps p.tables e below (s₁.setTop (mkF m 5 #[.val (.int p1), .val (.int p2), .val (.int p3), .val (.int p4), .val (.int p5), .unset, .unset, .unset, .unset, .unset, .unset, .unset, .unset, .unset] [(.int (p1 &&& (2147483647 : Int32))), (.int (1 : Int32))])) t
      exact st1 t k)
  obtain ⟨vv3, _, ⟨T3, L3, kk3, nn3⟩, -, X3, ⟨Lc3, hQ3, l3, y3, z3⟩, st3⟩ := Jvm.LawKit.callS X1 hx (y := (⟨"java/lang/Math", "max", "(II)I"⟩ : MethodName)) hown (mvT hZ (hw _ (List.mem_of_getElem? (i := 1) rfl))) (mvT hZ (hw _ (List.mem_of_getElem? (i := 2) rfl))) (mvT hZ (hw _ (List.mem_of_getElem? (i := 3) rfl))) (mvT hZ (hw _ (List.mem_of_getElem? (i := 4) rfl))) (by decide) (backOf (W := 0) HH hZ (hw _ (List.mem_of_getElem? (i := 4) rfl)) (hw _ (List.mem_of_getElem? (i := 3) rfl)) (by decide) (by decide)) (g := (mkF m 15 #[.val (.int p1), .val (.int p2), .val (.int p3), .val (.int p4), .val (.int p5), .val (.int w), .unset, .unset, .unset, .unset, .unset, .unset, .unset, .unset] [(.int (p2 &&& (2147483647 : Int32))), (.int (1 : Int32))])) rfl (by rw [hml]; rfl) (argsL := [(.int (1 : Int32)), (.int (p2 &&& (2147483647 : Int32)))]) (rest := []) (lenOf own_pd__II_I rfl) rfl (by show 2 * 0 + _ ≤ _; exact Nat.le_of_eq rfl) (hb hby at_15) (fun _ _ => ⟨rfl, e1, (by decide : 0 + 0 ≤ _), (by decide : 0 + 0 ≤ _)⟩)
  dsimp only [Pt.U, Pt.locs, Pt.cells, Pt.slots] at X3 l3 y3 z3 st3 hQ3
  subst l3 y3 z3
  obtain ⟨rfl, Nq3, e3⟩ := hQ3
  have N3 := Fr.app N1 Nq3
  have ch4 : ∀ t, Steps p.tables e below (T3.setTop (mkF m 18 #[.val (.int p1), .val (.int p2), .val (.int p3), .val (.int p4), .val (.int p5), .val (.int w), .unset, .unset, .unset, .unset, .unset, .unset, .unset, .unset] [(.int h1)])) t → Steps p.tables e below (s₁.setTop (entryFrame m #[(.int p1), (.int p2), (.int p3), (.int p4), (.int p5)] maxLocals)) t := fun t k => ch2 t (by
      show Steps p.tables e below (T1.setTop (mkF m 8 #[.val (.int p1), .val (.int p2), .val (.int p3), .val (.int p4), .val (.int p5), .unset, .unset, .unset, .unset, .unset, .unset, .unset, .unset, .unset] [(.int w)])) t
      refine XS.istore X1.here hx rfl (hb hby at_8) rfl (l' := #[.val (.int p1), .val (.int p2), .val (.int p3), .val (.int p4), .val (.int p5), .val (.int w), .unset, .unset, .unset, .unset, .unset, .unset, .unset, .unset]) rfl ?_
      show Steps p.tables e below (T1.setTop (mkF m 10 #[.val (.int p1), .val (.int p2), .val (.int p3), .val (.int p4), .val (.int p5), .val (.int w), .unset, .unset, .unset, .unset, .unset, .unset, .unset, .unset] [])) t
      refine XS.iconst X1.here hx rfl (hb hby at_10) ?_
      show Steps p.tables e below (T1.setTop (mkF m 11 #[.val (.int p1), .val (.int p2), .val (.int p3), .val (.int p4), .val (.int p5), .val (.int w), .unset, .unset, .unset, .unset, .unset, .unset, .unset, .unset] [(.int (1 : Int32))])) t
      refine XS.iloadN X1.here hx rfl (hb hby at_11) rfl ?_
      show Steps p.tables e below (T1.setTop (mkF m 12 #[.val (.int p1), .val (.int p2), .val (.int p3), .val (.int p4), .val (.int p5), .val (.int w), .unset, .unset, .unset, .unset, .unset, .unset, .unset, .unset] [(.int p2), (.int (1 : Int32))])) t
      refine X1.ldcInt hx hown (mvT hZ (hw _ (List.mem_of_getElem? (i := 0) rfl))) (g := (mkF m 12 #[.val (.int p1), .val (.int p2), .val (.int p3), .val (.int p4), .val (.int p5), .val (.int w), .unset, .unset, .unset, .unset, .unset, .unset, .unset, .unset] [(.int p2), (.int (1 : Int32))])) rfl (hb hby at_12) _ ?_
      show Steps p.tables e below (T1.setTop (mkF m 14 #[.val (.int p1), .val (.int p2), .val (.int p3), .val (.int p4), .val (.int p5), .val (.int w), .unset, .unset, .unset, .unset, .unset, .unset, .unset, .unset] [(.int (2147483647 : Int32)), (.int p2), (.int (1 : Int32))])) t
      refine XS.iand X1.here hx rfl (hb hby at_14) rfl ?_
      show Steps p.tables e below (T1.setTop (mkF m 15 #[.val (.int p1), .val (.int p2), .val (.int p3), .val (.int p4), .val (.int p5), .val (.int w), .unset, .unset, .unset, .unset, .unset, .unset, .unset, .unset] [(.int (p2 &&& (2147483647 : Int32))), (.int (1 : Int32))])) t
      exact st3 t k)
  obtain ⟨T5, X5, e5, st5⟩ := getS2 X3 hx hZ hown (host := "") (Or.inl (hw _ (List.mem_of_getElem? (i := 5) rfl))) Via.refl e3 (own_S_DECLARED W) (g := (mkF m 33 #[.val (.int p1), .val (.int p2), .val (.int p3), .val (.int p4), .val (.int p5), .val (.int w), .val (.int h1), .unset, .unset, .unset, .unset, .unset, .unset, .unset] [])) rfl (hb hby at_33)
  have ch6 : ∀ t, Steps p.tables e below (T5.setTop (mkF m 36 #[.val (.int p1), .val (.int p2), .val (.int p3), .val (.int p4), .val (.int p5), .val (.int w), .val (.int h1), .unset, .unset, .unset, .unset, .unset, .unset, .unset] [(.ref (ad 0))])) t → Steps p.tables e below (s₁.setTop (entryFrame m #[(.int p1), (.int p2), (.int p3), (.int p4), (.int p5)] maxLocals)) t := fun t k => ch4 t (by
      show Steps p.tables e below (T3.setTop (mkF m 18 #[.val (.int p1), .val (.int p2), .val (.int p3), .val (.int p4), .val (.int p5), .val (.int w), .unset, .unset, .unset, .unset, .unset, .unset, .unset, .unset] [(.int h1)])) t
      refine XS.istore X3.here hx rfl (hb hby at_18) rfl (l' := #[.val (.int p1), .val (.int p2), .val (.int p3), .val (.int p4), .val (.int p5), .val (.int w), .val (.int h1), .unset, .unset, .unset, .unset, .unset, .unset, .unset]) rfl ?_
      show Steps p.tables e below (T3.setTop (mkF m 20 #[.val (.int p1), .val (.int p2), .val (.int p3), .val (.int p4), .val (.int p5), .val (.int w), .val (.int h1), .unset, .unset, .unset, .unset, .unset, .unset, .unset] [])) t
      refine XS.iload X3.here hx rfl (hb hby at_20) rfl ?_
      show Steps p.tables e below (T3.setTop (mkF m 22 #[.val (.int p1), .val (.int p2), .val (.int p3), .val (.int p4), .val (.int p5), .val (.int w), .val (.int h1), .unset, .unset, .unset, .unset, .unset, .unset, .unset] [(.int p5)])) t
      refine XS.iconst X3.here hx rfl (hb hby at_22) ?_
      show Steps p.tables e below (T3.setTop (mkF m 23 #[.val (.int p1), .val (.int p2), .val (.int p3), .val (.int p4), .val (.int p5), .val (.int w), .val (.int h1), .unset, .unset, .unset, .unset, .unset, .unset, .unset] [(.int (1 : Int32)), (.int p5)])) t
      refine XS.iand X3.here hx rfl (hb hby at_23) rfl ?_
      show Steps p.tables e below (T3.setTop (mkF m 24 #[.val (.int p1), .val (.int p2), .val (.int p3), .val (.int p4), .val (.int p5), .val (.int w), .val (.int h1), .unset, .unset, .unset, .unset, .unset, .unset, .unset] [(.int (p5 &&& (1 : Int32)))])) t
      refine XS.ifYes X3.here hx rfl (pc0 := 24) (pc' := 33) rfl (hb hby at_24) rfl ((if0 _ _).trans (teq s0).1) (by decide) (by decide) ?_
      show Steps p.tables e below (T3.setTop (mkF m 33 #[.val (.int p1), .val (.int p2), .val (.int p3), .val (.int p4), .val (.int p5), .val (.int w), .val (.int h1), .unset, .unset, .unset, .unset, .unset, .unset, .unset] [])) t
      exact st5 t k)
  obtain ⟨T7, hp7, X7, e7, E7, A7, D7, -, st7⟩ := newO X5 hx hZ hown (hw _ (List.mem_of_getElem? (i := 8) rfl)) (hw _ (List.mem_of_getElem? (i := 9) rfl)) (hw _ (List.mem_of_getElem? (i := 10) rfl)) e5 (g := (mkF m 76 #[.val (.int p1), .val (.int p2), .val (.int p3), .val (.int p4), .val (.int p5), .val (.int w), .val (.int h1), .val (.ref (ad 0)), .val (.int p3), .val (.int p4), .unset, .unset, .unset, .unset] [])) rfl (hb hby at_76) (by decide) (by decide)
  obtain ⟨b7, g7⟩ : ∃ z, z = h0.size := ⟨_, rfl⟩
  rw [← g7] at A7 D7 st7
  have ne_ad0_b7 : (ad 0) ≠ b7 := Nat.ne_of_lt (Nat.lt_of_lt_of_le (own_E_DECLARED W).lt (Nat.le_of_eq g7.symm))
  have ne_ad1_b7 : (ad 1) ≠ b7 := Nat.ne_of_lt (Nat.lt_of_lt_of_le (own_E_SIZE W).lt (Nat.le_of_eq g7.symm))
  have g_b7 : n0 ≤ b7 := Nat.le_trans (Nat.le_trans Z0 (Keep.refl h0 []).1) (Nat.le_of_eq g7.symm)
  have sz_b7 : h0.size ≤ b7 := Nat.le_trans (Keep.refl h0 []).1 (Nat.le_of_eq g7.symm)
  have hk := Nat.le_trans hk E7.1
  have Kp7 := Keep.ext (Keep.refl h0 []) E7
  have F7_43 : Fld Z hp7 b7 "com/example/leafwright/leafwright/Thumbnails$Candidate" "url" "Ljava/lang/String;" .null := D7 (Or.inr (hw _ (List.mem_of_getElem? (i := 43) rfl))) (ty := (.object "java/lang/String")) (by decide)
  have F7_45 : Fld Z hp7 b7 "com/example/leafwright/leafwright/Thumbnails$Candidate" "width" "I" (.int (0 : Int32)) := D7 (Or.inr (hw _ (List.mem_of_getElem? (i := 45) rfl))) (ty := .int) (by decide)
  have F7_47 : Fld Z hp7 b7 "com/example/leafwright/leafwright/Thumbnails$Candidate" "height" "I" (.int (0 : Int32)) := D7 (Or.inr (hw _ (List.mem_of_getElem? (i := 47) rfl))) (ty := .int) (by decide)
  have F7_49 : Fld Z hp7 b7 "com/example/leafwright/leafwright/Thumbnails$Candidate" "source" "Lcom/example/leafwright/leafwright/Thumbnails$Source;" .null := D7 (Or.inr (hw _ (List.mem_of_getElem? (i := 49) rfl))) (ty := (.object "com/example/leafwright/leafwright/Thumbnails$Source")) (by decide)
  have ch8 : ∀ t, Steps p.tables e below (T7.setTop (mkF m 79 #[.val (.int p1), .val (.int p2), .val (.int p3), .val (.int p4), .val (.int p5), .val (.int w), .val (.int h1), .val (.ref (ad 0)), .val (.int p3), .val (.int p4), .unset, .unset, .unset, .unset] [(.ref b7)])) t → Steps p.tables e below (s₁.setTop (entryFrame m #[(.int p1), (.int p2), (.int p3), (.int p4), (.int p5)] maxLocals)) t := fun t k => ch6 t (by
      show Steps p.tables e below (T5.setTop (mkF m 36 #[.val (.int p1), .val (.int p2), .val (.int p3), .val (.int p4), .val (.int p5), .val (.int w), .val (.int h1), .unset, .unset, .unset, .unset, .unset, .unset, .unset] [(.ref (ad 0))])) t
      refine XS.astore X5.here hx rfl (hb hby at_36) rfl rfl (l' := #[.val (.int p1), .val (.int p2), .val (.int p3), .val (.int p4), .val (.int p5), .val (.int w), .val (.int h1), .val (.ref (ad 0)), .unset, .unset, .unset, .unset, .unset, .unset]) rfl ?_
      show Steps p.tables e below (T5.setTop (mkF m 38 #[.val (.int p1), .val (.int p2), .val (.int p3), .val (.int p4), .val (.int p5), .val (.int w), .val (.int h1), .val (.ref (ad 0)), .unset, .unset, .unset, .unset, .unset, .unset] [])) t
      refine XS.iload X5.here hx rfl (hb hby at_38) rfl ?_
      show Steps p.tables e below (T5.setTop (mkF m 40 #[.val (.int p1), .val (.int p2), .val (.int p3), .val (.int p4), .val (.int p5), .val (.int w), .val (.int h1), .val (.ref (ad 0)), .unset, .unset, .unset, .unset, .unset, .unset] [(.int p5)])) t
      refine XS.iconst X5.here hx rfl (hb hby at_40) ?_
      show Steps p.tables e below (T5.setTop (mkF m 41 #[.val (.int p1), .val (.int p2), .val (.int p3), .val (.int p4), .val (.int p5), .val (.int w), .val (.int h1), .val (.ref (ad 0)), .unset, .unset, .unset, .unset, .unset, .unset] [(.int (2 : Int32)), (.int p5)])) t
      refine XS.iand X5.here hx rfl (hb hby at_41) rfl ?_
      show Steps p.tables e below (T5.setTop (mkF m 42 #[.val (.int p1), .val (.int p2), .val (.int p3), .val (.int p4), .val (.int p5), .val (.int w), .val (.int h1), .val (.ref (ad 0)), .unset, .unset, .unset, .unset, .unset, .unset] [(.int (p5 &&& (2 : Int32)))])) t
      refine XS.ifYes X5.here hx rfl (pc0 := 42) (pc' := 54) rfl (hb hby at_42) rfl ((if0 _ _).trans (teq s1).1) (by decide) (by decide) ?_
      show Steps p.tables e below (T5.setTop (mkF m 54 #[.val (.int p1), .val (.int p2), .val (.int p3), .val (.int p4), .val (.int p5), .val (.int w), .val (.int h1), .val (.ref (ad 0)), .unset, .unset, .unset, .unset, .unset, .unset] [])) t
      refine XS.iloadN X5.here hx rfl (hb hby at_54) rfl ?_
      show Steps p.tables e below (T5.setTop (mkF m 55 #[.val (.int p1), .val (.int p2), .val (.int p3), .val (.int p4), .val (.int p5), .val (.int w), .val (.int h1), .val (.ref (ad 0)), .unset, .unset, .unset, .unset, .unset, .unset] [(.int p3)])) t
      refine XS.istore X5.here hx rfl (hb hby at_55) rfl (l' := #[.val (.int p1), .val (.int p2), .val (.int p3), .val (.int p4), .val (.int p5), .val (.int w), .val (.int h1), .val (.ref (ad 0)), .val (.int p3), .unset, .unset, .unset, .unset, .unset]) rfl ?_
      show Steps p.tables e below (T5.setTop (mkF m 57 #[.val (.int p1), .val (.int p2), .val (.int p3), .val (.int p4), .val (.int p5), .val (.int w), .val (.int h1), .val (.ref (ad 0)), .val (.int p3), .unset, .unset, .unset, .unset, .unset] [])) t
      refine XS.iload X5.here hx rfl (hb hby at_57) rfl ?_
      show Steps p.tables e below (T5.setTop (mkF m 59 #[.val (.int p1), .val (.int p2), .val (.int p3), .val (.int p4), .val (.int p5), .val (.int w), .val (.int h1), .val (.ref (ad 0)), .val (.int p3), .unset, .unset, .unset, .unset, .unset] [(.int p5)])) t
      refine XS.iconst X5.here hx rfl (hb hby at_59) ?_
      show Steps p.tables e below (T5.setTop (mkF m 60 #[.val (.int p1), .val (.int p2), .val (.int p3), .val (.int p4), .val (.int p5), .val (.int w), .val (.int h1), .val (.ref (ad 0)), .val (.int p3), .unset, .unset, .unset, .unset, .unset] [(.int (4 : Int32)), (.int p5)])) t
      refine XS.iand X5.here hx rfl (hb hby at_60) rfl ?_
      show Steps p.tables e below (T5.setTop (mkF m 61 #[.val (.int p1), .val (.int p2), .val (.int p3), .val (.int p4), .val (.int p5), .val (.int w), .val (.int h1), .val (.ref (ad 0)), .val (.int p3), .unset, .unset, .unset, .unset, .unset] [(.int (p5 &&& (4 : Int32)))])) t
      refine XS.ifYes X5.here hx rfl (pc0 := 61) (pc' := 73) rfl (hb hby at_61) rfl ((if0 _ _).trans (teq s2).1) (by decide) (by decide) ?_
      show Steps p.tables e below (T5.setTop (mkF m 73 #[.val (.int p1), .val (.int p2), .val (.int p3), .val (.int p4), .val (.int p5), .val (.int w), .val (.int h1), .val (.ref (ad 0)), .val (.int p3), .unset, .unset, .unset, .unset, .unset] [])) t
      refine XS.iloadN X5.here hx rfl (hb hby at_73) rfl ?_
      show Steps p.tables e below (T5.setTop (mkF m 74 #[.val (.int p1), .val (.int p2), .val (.int p3), .val (.int p4), .val (.int p5), .val (.int w), .val (.int h1), .val (.ref (ad 0)), .val (.int p3), .unset, .unset, .unset, .unset, .unset] [(.int p4)])) t
      refine XS.istore X5.here hx rfl (hb hby at_74) rfl (l' := #[.val (.int p1), .val (.int p2), .val (.int p3), .val (.int p4), .val (.int p5), .val (.int w), .val (.int h1), .val (.ref (ad 0)), .val (.int p3), .val (.int p4), .unset, .unset, .unset, .unset]) rfl ?_
      show Steps p.tables e below (T5.setTop (mkF m 76 #[.val (.int p1), .val (.int p2), .val (.int p3), .val (.int p4), .val (.int p5), .val (.int w), .val (.int h1), .val (.ref (ad 0)), .val (.int p3), .val (.int p4), .unset, .unset, .unset, .unset] [])) t
      exact st7 t k)
  obtain ⟨ls9, T9, hp9, ks9, X9, e9, E9, hS, hk, hZ, hown, st9⟩ := ldcS X7 hx hZ hown (hw _ (List.mem_of_getElem? (i := 11) rfl)) (own_wS hw) e7 hS hk (g := (mkF m 80 #[.val (.int p1), .val (.int p2), .val (.int p3), .val (.int p4), .val (.int p5), .val (.int w), .val (.int h1), .val (.ref (ad 0)), .val (.int p3), .val (.int p4), .unset, .unset, .unset, .unset] [(.ref b7), (.ref b7)])) rfl (hb hby at_80) (n := 4) (by decide) (by decide) (by decide) (by decide)
  have Kp9 := Keep.ext Kp7 E9
  have ch10 : ∀ t, Steps p.tables e below (T9.setTop (mkF m 82 #[.val (.int p1), .val (.int p2), .val (.int p3), .val (.int p4), .val (.int p5), .val (.int w), .val (.int h1), .val (.ref (ad 0)), .val (.int p3), .val (.int p4), .unset, .unset, .unset, .unset] [(.ref ls9), (.ref b7), (.ref b7)])) t → Steps p.tables e below (s₁.setTop (entryFrame m #[(.int p1), (.int p2), (.int p3), (.int p4), (.int p5)] maxLocals)) t := fun t k => ch8 t (by
      show Steps p.tables e below (T7.setTop (mkF m 79 #[.val (.int p1), .val (.int p2), .val (.int p3), .val (.int p4), .val (.int p5), .val (.int w), .val (.int h1), .val (.ref (ad 0)), .val (.int p3), .val (.int p4), .unset, .unset, .unset, .unset] [(.ref b7)])) t
      refine XS.dup X7.here hx rfl (hb hby at_79) rfl rfl ?_
      show Steps p.tables e below (T7.setTop (mkF m 80 #[.val (.int p1), .val (.int p2), .val (.int p3), .val (.int p4), .val (.int p5), .val (.int w), .val (.int h1), .val (.ref (ad 0)), .val (.int p3), .val (.int p4), .unset, .unset, .unset, .unset] [(.ref b7), (.ref b7)])) t
      exact st9 t k)
  have cf11 := (A7.ext E9)
  have cf12 := (F7_43.ext E9)
  have cf13 := (F7_45.ext E9)
  have cf14 := (F7_47.ext E9)
  have cf15 := (F7_49.ext E9)
  obtain ⟨vv16, _, ⟨T16, L16, kk16, nn16⟩, -, X16, hS2, hgr, ⟨Lc16, hQ16, l16, y16, z16⟩, st16⟩ := X9.specialBackS hx (y := (⟨"com/example/leafwright/leafwright/Thumbnails$Candidate", "<init>", "(Ljava/lang/String;IILcom/example/leafwright/leafwright/Thumbnails$Source;)V"⟩ : MethodName)) rfl hown (mvT hZ (hw _ (List.mem_of_getElem? (i := 19) rfl))) (mvT hZ (hw _ (List.mem_of_getElem? (i := 20) rfl))) (mvT hZ (hw _ (List.mem_of_getElem? (i := 21) rfl))) (by decide) (backOfS (W := 1) (own_ini l Z a0 hw [] hp9 n0 (Nat.le_trans Z0 Kp9.1) b7 ls9 w h1 (ad 0) cf11 cf12 cf13 cf14 cf15 g_b7 pw ph) hZ (hw _ (List.mem_of_getElem? (i := 21) rfl)) (hw _ (List.mem_of_getElem? (i := 10) rfl)) (by decide) (by decide)) (g := (mkF m 88 #[.val (.int p1), .val (.int p2), .val (.int p3), .val (.int p4), .val (.int p5), .val (.int w), .val (.int h1), .val (.ref (ad 0)), .val (.int p3), .val (.int p4), .unset, .unset, .unset, .unset] [(.ref (ad 0)), (.int h1), (.int w), (.ref ls9), (.ref b7), (.ref b7)])) rfl (by rw [hml]; rfl) (Steps.refl _) (a := b7) (argsL := [(.ref ls9), (.int w), (.int h1), (.ref (ad 0))]) (rest := [(.ref b7)]) (lenOf own_pd__Ljava_lang_String_IILcom_example_leafwright_leafwright_Thumbnails_Source__V rfl) rfl (by show 2 * 0 + _ ≤ _; exact Nat.le_of_eq rfl) (hb hby at_88) (fun _ _ => ⟨rfl, e9, (by decide : 3 + 8 ≤ _), (by decide : 12 + 96 ≤ _)⟩)
  dsimp only [Pt.U, Pt.locs, Pt.cells, Pt.slots] at X16 l16 y16 z16 st16 hQ16 hS2 hgr
  subst l16 y16 z16
  obtain ⟨X16, hS, hZ, hown⟩ := rebS hS (by rw [e9]; exact hk) X16 hS2 hgr hZ hown
  obtain ⟨hh16, eh16⟩ : ∃ h, T16.heap = h := ⟨_, rfl⟩
  rw [eh16] at hQ16
  rw [eh16] at hS
  have hk : hh16.size ≤ hh16.size := Nat.le_refl _
  obtain ⟨rfl, Nq16, Kq16, fq16_0, fq16_1, fq16_2, fq16_3, fq16_4⟩ := hQ16
  have N16 := Fr.app N3 Nq16
  have Kp16 := Keep.trans Kp9 Kq16 (allS (Or.inr sz_b7) all0)
  have ch17 : ∀ t, Steps p.tables e below (T16.setTop (mkF m 91 #[.val (.int p1), .val (.int p2), .val (.int p3), .val (.int p4), .val (.int p5), .val (.int w), .val (.int h1), .val (.ref (ad 0)), .val (.int p3), .val (.int p4), .unset, .unset, .unset, .unset] [(.ref b7)])) t → Steps p.tables e below (s₁.setTop (entryFrame m #[(.int p1), (.int p2), (.int p3), (.int p4), (.int p5)] maxLocals)) t := fun t k => ch10 t (by
      show Steps p.tables e below (T9.setTop (mkF m 82 #[.val (.int p1), .val (.int p2), .val (.int p3), .val (.int p4), .val (.int p5), .val (.int w), .val (.int h1), .val (.ref (ad 0)), .val (.int p3), .val (.int p4), .unset, .unset, .unset, .unset] [(.ref ls9), (.ref b7), (.ref b7)])) t
      refine XS.iload X9.here hx rfl (hb hby at_82) rfl ?_
      show Steps p.tables e below (T9.setTop (mkF m 84 #[.val (.int p1), .val (.int p2), .val (.int p3), .val (.int p4), .val (.int p5), .val (.int w), .val (.int h1), .val (.ref (ad 0)), .val (.int p3), .val (.int p4), .unset, .unset, .unset, .unset] [(.int w), (.ref ls9), (.ref b7), (.ref b7)])) t
      refine XS.iload X9.here hx rfl (hb hby at_84) rfl ?_
      show Steps p.tables e below (T9.setTop (mkF m 86 #[.val (.int p1), .val (.int p2), .val (.int p3), .val (.int p4), .val (.int p5), .val (.int w), .val (.int h1), .val (.ref (ad 0)), .val (.int p3), .val (.int p4), .unset, .unset, .unset, .unset] [(.int h1), (.int w), (.ref ls9), (.ref b7), (.ref b7)])) t
      refine XS.aload X9.here hx rfl (hb hby at_86) rfl rfl ?_
      show Steps p.tables e below (T9.setTop (mkF m 88 #[.val (.int p1), .val (.int p2), .val (.int p3), .val (.int p4), .val (.int p5), .val (.int w), .val (.int h1), .val (.ref (ad 0)), .val (.int p3), .val (.int p4), .unset, .unset, .unset, .unset] [(.ref (ad 0)), (.int h1), (.int w), (.ref ls9), (.ref b7), (.ref b7)])) t
      exact st16.trans k)
  have ch19 : ∀ t, Steps p.tables e below (T16.setTop (mkF m 97 #[.val (.int p1), .val (.int p2), .val (.int p3), .val (.int p4), .val (.int p5), .val (.int w), .val (.int h1), .val (.ref (ad 0)), .val (.int p3), .val (.int p4), .val (.ref b7), .unset, .unset, .unset] [(.int w), (.int p3)])) t → Steps p.tables e below (s₁.setTop (entryFrame m #[(.int p1), (.int p2), (.int p3), (.int p4), (.int p5)] maxLocals)) t := fun t k => ch17 t (by
      show Steps p.tables e below (T16.setTop (mkF m 91 #[.val (.int p1), .val (.int p2), .val (.int p3), .val (.int p4), .val (.int p5), .val (.int w), .val (.int h1), .val (.ref (ad 0)), .val (.int p3), .val (.int p4), .unset, .unset, .unset, .unset] [(.ref b7)])) t
      refine XS.astore X16.here hx rfl (hb hby at_91) rfl rfl (l' := #[.val (.int p1), .val (.int p2), .val (.int p3), .val (.int p4), .val (.int p5), .val (.int w), .val (.int h1), .val (.ref (ad 0)), .val (.int p3), .val (.int p4), .val (.ref b7), .unset, .unset, .unset]) rfl ?_
      show Steps p.tables e below (T16.setTop (mkF m 93 #[.val (.int p1), .val (.int p2), .val (.int p3), .val (.int p4), .val (.int p5), .val (.int w), .val (.int h1), .val (.ref (ad 0)), .val (.int p3), .val (.int p4), .val (.ref b7), .unset, .unset, .unset] [])) t
      refine XS.iload X16.here hx rfl (hb hby at_93) rfl ?_
      show Steps p.tables e below (T16.setTop (mkF m 95 #[.val (.int p1), .val (.int p2), .val (.int p3), .val (.int p4), .val (.int p5), .val (.int w), .val (.int h1), .val (.ref (ad 0)), .val (.int p3), .val (.int p4), .val (.ref b7), .unset, .unset, .unset] [(.int p3)])) t
      refine XS.iload X16.here hx rfl (hb hby at_95) rfl ?_
      exact k)
  by_cases hq18 : w < p3
  · skip
    have ch21 : ∀ t, Steps p.tables e below (T16.setTop (mkF m 104 #[.val (.int p1), .val (.int p2), .val (.int p3), .val (.int p4), .val (.int p5), .val (.int w), .val (.int h1), .val (.ref (ad 0)), .val (.int p3), .val (.int p4), .val (.ref b7), .unset, .unset, .unset] [(.int h1), (.int p4)])) t → Steps p.tables e below (s₁.setTop (entryFrame m #[(.int p1), (.int p2), (.int p3), (.int p4), (.int p5)] maxLocals)) t := fun t k => ch19 t (by
        show Steps p.tables e below (T16.setTop (mkF m 97 #[.val (.int p1), .val (.int p2), .val (.int p3), .val (.int p4), .val (.int p5), .val (.int w), .val (.int h1), .val (.ref (ad 0)), .val (.int p3), .val (.int p4), .val (.ref b7), .unset, .unset, .unset] [(.int w), (.int p3)])) t
        refine XS.icmpNo X16.here hx rfl (hb hby at_97) rfl (tlt hq18).2.2.2 ?_
        show Steps p.tables e below (T16.setTop (mkF m 100 #[.val (.int p1), .val (.int p2), .val (.int p3), .val (.int p4), .val (.int p5), .val (.int w), .val (.int h1), .val (.ref (ad 0)), .val (.int p3), .val (.int p4), .val (.ref b7), .unset, .unset, .unset] [])) t
        refine XS.iload X16.here hx rfl (hb hby at_100) rfl ?_
        show Steps p.tables e below (T16.setTop (mkF m 102 #[.val (.int p1), .val (.int p2), .val (.int p3), .val (.int p4), .val (.int p5), .val (.int w), .val (.int h1), .val (.ref (ad 0)), .val (.int p3), .val (.int p4), .val (.ref b7), .unset, .unset, .unset] [(.int p4)])) t
        refine XS.iload X16.here hx rfl (hb hby at_102) rfl ?_
        exact k)
    by_cases hq20 : h1 < p4
    · skip
      obtain ⟨cq22, kq22, qa22, qb22, qc22⟩ := isOf hZ eh16 fq16_0
      obtain ⟨vv23, _, ⟨T23, L23, kk23, nn23⟩, -, X23, ⟨Lc23, hQ23, l23, y23, z23⟩, st23⟩ := X16.virtualBack hx (y := (⟨"com/example/leafwright/leafwright/Thumbnails$Candidate", "covers", "(II)Z"⟩ : MethodName)) (z := (⟨"com/example/leafwright/leafwright/Thumbnails$Candidate", "covers", "(II)Z"⟩ : MethodName)) hown (mvT hZ (hw _ (List.mem_of_getElem? (i := 50) rfl))) (mvT hZ (hw _ (List.mem_of_getElem? (i := 51) rfl))) (notFace_of_selects (args := #[]) (mvT hZ (hw _ (List.mem_of_getElem? (i := 53) rfl)))) (mvT hZ (hw _ (List.mem_of_getElem? (i := 53) rfl))) (mvT hZ (hw _ (List.mem_of_getElem? (i := 52) rfl))) (by decide) (backOf (W := 0) (own_cov_c l Z a0 hw [] hh16 n0 (Nat.le_trans Z0 Kp16.1) b7 w h1 p3 p4 fq16_2 fq16_3 hq18 hq20) hZ (hw _ (List.mem_of_getElem? (i := 54) rfl)) (hw _ (List.mem_of_getElem? (i := 10) rfl)) (by decide) (by decide)) qa22 qc22 (g := (mkF m 120 #[.val (.int p1), .val (.int p2), .val (.int p3), .val (.int p4), .val (.int p5), .val (.int w), .val (.int h1), .val (.ref (ad 0)), .val (.int p3), .val (.int p4), .val (.ref b7), .val (.int (1 : Int32)), .unset, .unset] [(.int p4), (.int p3), (.ref b7)])) rfl (by rw [hml]; rfl) (Steps.refl _) (argsL := [(.int p3), (.int p4)]) (rest := []) (lenOf own_pd__II_Z rfl) rfl (by show 2 * 0 + _ ≤ _; exact Nat.le_of_eq rfl) (hb hby at_120) (fun _ _ => ⟨rfl, eh16, (by decide : 11 + 0 ≤ _), (by decide : 108 + 0 ≤ _)⟩)
      dsimp only [Pt.U, Pt.locs, Pt.cells, Pt.slots] at X23 l23 y23 z23 st23 hQ23
      subst l23 y23 z23
      obtain ⟨rfl, Nq23, e23⟩ := hQ23
      have N23 := Fr.app N16 Nq23
      have ch24 : ∀ t, Steps p.tables e below (T23.setTop (mkF m 123 #[.val (.int p1), .val (.int p2), .val (.int p3), .val (.int p4), .val (.int p5), .val (.int w), .val (.int h1), .val (.ref (ad 0)), .val (.int p3), .val (.int p4), .val (.ref b7), .val (.int (1 : Int32)), .unset, .unset] [(.int (0 : Int32))])) t → Steps p.tables e below (s₁.setTop (entryFrame m #[(.int p1), (.int p2), (.int p3), (.int p4), (.int p5)] maxLocals)) t := fun t k => ch21 t (by
          show Steps p.tables e below (T16.setTop (mkF m 104 #[.val (.int p1), .val (.int p2), .val (.int p3), .val (.int p4), .val (.int p5), .val (.int w), .val (.int h1), .val (.ref (ad 0)), .val (.int p3), .val (.int p4), .val (.ref b7), .unset, .unset, .unset] [(.int h1), (.int p4)])) t
          refine XS.icmpNo X16.here hx rfl (hb hby at_104) rfl (tlt hq20).2.2.2 ?_
          show Steps p.tables e below (T16.setTop (mkF m 107 #[.val (.int p1), .val (.int p2), .val (.int p3), .val (.int p4), .val (.int p5), .val (.int w), .val (.int h1), .val (.ref (ad 0)), .val (.int p3), .val (.int p4), .val (.ref b7), .unset, .unset, .unset] [])) t
          refine XS.iconst X16.here hx rfl (hb hby at_107) ?_
          show Steps p.tables e below (T16.setTop (mkF m 108 #[.val (.int p1), .val (.int p2), .val (.int p3), .val (.int p4), .val (.int p5), .val (.int w), .val (.int h1), .val (.ref (ad 0)), .val (.int p3), .val (.int p4), .val (.ref b7), .unset, .unset, .unset] [(.int (1 : Int32))])) t
          refine XS.goto X16.here hx rfl (pc0 := 108) (pc' := 112) rfl (hb hby at_108) (by decide) (by decide) ?_
          show Steps p.tables e below (T16.setTop (mkF m 112 #[.val (.int p1), .val (.int p2), .val (.int p3), .val (.int p4), .val (.int p5), .val (.int w), .val (.int h1), .val (.ref (ad 0)), .val (.int p3), .val (.int p4), .val (.ref b7), .unset, .unset, .unset] [(.int (1 : Int32))])) t
          refine XS.istore X16.here hx rfl (hb hby at_112) rfl (l' := #[.val (.int p1), .val (.int p2), .val (.int p3), .val (.int p4), .val (.int p5), .val (.int w), .val (.int h1), .val (.ref (ad 0)), .val (.int p3), .val (.int p4), .val (.ref b7), .val (.int (1 : Int32)), .unset, .unset]) rfl ?_
          show Steps p.tables e below (T16.setTop (mkF m 114 #[.val (.int p1), .val (.int p2), .val (.int p3), .val (.int p4), .val (.int p5), .val (.int w), .val (.int h1), .val (.ref (ad 0)), .val (.int p3), .val (.int p4), .val (.ref b7), .val (.int (1 : Int32)), .unset, .unset] [])) t
          refine XS.aload X16.here hx rfl (hb hby at_114) rfl rfl ?_
          show Steps p.tables e below (T16.setTop (mkF m 116 #[.val (.int p1), .val (.int p2), .val (.int p3), .val (.int p4), .val (.int p5), .val (.int w), .val (.int h1), .val (.ref (ad 0)), .val (.int p3), .val (.int p4), .val (.ref b7), .val (.int (1 : Int32)), .unset, .unset] [(.ref b7)])) t
          refine XS.iload X16.here hx rfl (hb hby at_116) rfl ?_
          show Steps p.tables e below (T16.setTop (mkF m 118 #[.val (.int p1), .val (.int p2), .val (.int p3), .val (.int p4), .val (.int p5), .val (.int w), .val (.int h1), .val (.ref (ad 0)), .val (.int p3), .val (.int p4), .val (.ref b7), .val (.int (1 : Int32)), .unset, .unset] [(.int p3), (.ref b7)])) t
          refine XS.iload X16.here hx rfl (hb hby at_118) rfl ?_
          show Steps p.tables e below (T16.setTop (mkF m 120 #[.val (.int p1), .val (.int p2), .val (.int p3), .val (.int p4), .val (.int p5), .val (.int w), .val (.int h1), .val (.ref (ad 0)), .val (.int p3), .val (.int p4), .val (.ref b7), .val (.int (1 : Int32)), .unset, .unset] [(.int p4), (.int p3), (.ref b7)])) t
          exact st23.trans k)
      obtain ⟨cq25, kq25, qa25, qb25, qc25⟩ := isOf hZ e23 fq16_0
      obtain ⟨vv26, _, ⟨T26, L26, kk26, nn26⟩, -, X26, ⟨Lc26, hQ26, l26, y26, z26⟩, st26⟩ := X23.virtualBack hx (y := (⟨"com/example/leafwright/leafwright/Thumbnails$Candidate", "covers", "(II)Z"⟩ : MethodName)) (z := (⟨"com/example/leafwright/leafwright/Thumbnails$Candidate", "covers", "(II)Z"⟩ : MethodName)) hown (mvT hZ (hw _ (List.mem_of_getElem? (i := 50) rfl))) (mvT hZ (hw _ (List.mem_of_getElem? (i := 51) rfl))) (notFace_of_selects (args := #[]) (mvT hZ (hw _ (List.mem_of_getElem? (i := 53) rfl)))) (mvT hZ (hw _ (List.mem_of_getElem? (i := 53) rfl))) (mvT hZ (hw _ (List.mem_of_getElem? (i := 52) rfl))) (by decide) (backOf (W := 0) (own_cov_a l Z a0 hw [] hh16 n0 (Nat.le_trans Z0 Kp16.1) b7 w h1 w h1 fq16_2 fq16_3 (Int32.lt_irrefl : ¬ w < w)) hZ (hw _ (List.mem_of_getElem? (i := 54) rfl)) (hw _ (List.mem_of_getElem? (i := 10) rfl)) (by decide) (by decide)) qa25 qc25 (g := (mkF m 131 #[.val (.int p1), .val (.int p2), .val (.int p3), .val (.int p4), .val (.int p5), .val (.int w), .val (.int h1), .val (.ref (ad 0)), .val (.int p3), .val (.int p4), .val (.ref b7), .val (.int (1 : Int32)), .val (.int (0 : Int32)), .unset] [(.int h1), (.int w), (.ref b7)])) rfl (by rw [hml]; rfl) (Steps.refl _) (argsL := [(.int w), (.int h1)]) (rest := []) (lenOf own_pd__II_Z rfl) rfl (by show 2 * 0 + _ ≤ _; exact Nat.le_of_eq rfl) (hb hby at_131) (fun _ _ => ⟨rfl, e23, (by decide : 11 + 0 ≤ _), (by decide : 108 + 0 ≤ _)⟩)
      dsimp only [Pt.U, Pt.locs, Pt.cells, Pt.slots] at X26 l26 y26 z26 st26 hQ26
      subst l26 y26 z26
      obtain ⟨rfl, Nq26, e26⟩ := hQ26
      have N26 := Fr.app N23 Nq26
      have ch27 : ∀ t, Steps p.tables e below (T26.setTop (mkF m 134 #[.val (.int p1), .val (.int p2), .val (.int p3), .val (.int p4), .val (.int p5), .val (.int w), .val (.int h1), .val (.ref (ad 0)), .val (.int p3), .val (.int p4), .val (.ref b7), .val (.int (1 : Int32)), .val (.int (0 : Int32)), .unset] [(.int (1 : Int32))])) t → Steps p.tables e below (s₁.setTop (entryFrame m #[(.int p1), (.int p2), (.int p3), (.int p4), (.int p5)] maxLocals)) t := fun t k => ch24 t (by
          show Steps p.tables e below (T23.setTop (mkF m 123 #[.val (.int p1), .val (.int p2), .val (.int p3), .val (.int p4), .val (.int p5), .val (.int w), .val (.int h1), .val (.ref (ad 0)), .val (.int p3), .val (.int p4), .val (.ref b7), .val (.int (1 : Int32)), .unset, .unset] [(.int (0 : Int32))])) t
          refine XS.istore X23.here hx rfl (hb hby at_123) rfl (l' := #[.val (.int p1), .val (.int p2), .val (.int p3), .val (.int p4), .val (.int p5), .val (.int w), .val (.int h1), .val (.ref (ad 0)), .val (.int p3), .val (.int p4), .val (.ref b7), .val (.int (1 : Int32)), .val (.int (0 : Int32)), .unset]) rfl ?_
          show Steps p.tables e below (T23.setTop (mkF m 125 #[.val (.int p1), .val (.int p2), .val (.int p3), .val (.int p4), .val (.int p5), .val (.int w), .val (.int h1), .val (.ref (ad 0)), .val (.int p3), .val (.int p4), .val (.ref b7), .val (.int (1 : Int32)), .val (.int (0 : Int32)), .unset] [])) t
          refine XS.aload X23.here hx rfl (hb hby at_125) rfl rfl ?_
          show Steps p.tables e below (T23.setTop (mkF m 127 #[.val (.int p1), .val (.int p2), .val (.int p3), .val (.int p4), .val (.int p5), .val (.int w), .val (.int h1), .val (.ref (ad 0)), .val (.int p3), .val (.int p4), .val (.ref b7), .val (.int (1 : Int32)), .val (.int (0 : Int32)), .unset] [(.ref b7)])) t
          refine XS.iload X23.here hx rfl (hb hby at_127) rfl ?_
          show Steps p.tables e below (T23.setTop (mkF m 129 #[.val (.int p1), .val (.int p2), .val (.int p3), .val (.int p4), .val (.int p5), .val (.int w), .val (.int h1), .val (.ref (ad 0)), .val (.int p3), .val (.int p4), .val (.ref b7), .val (.int (1 : Int32)), .val (.int (0 : Int32)), .unset] [(.int w), (.ref b7)])) t
          refine XS.iload X23.here hx rfl (hb hby at_129) rfl ?_
          show Steps p.tables e below (T23.setTop (mkF m 131 #[.val (.int p1), .val (.int p2), .val (.int p3), .val (.int p4), .val (.int p5), .val (.int w), .val (.int h1), .val (.ref (ad 0)), .val (.int p3), .val (.int p4), .val (.ref b7), .val (.int (1 : Int32)), .val (.int (0 : Int32)), .unset] [(.int h1), (.int w), (.ref b7)])) t
          exact st26.trans k)
      have ch28 : ∀ t, Steps p.tables e below (T26.setTop (mkF m 161 #[.val (.int p1), .val (.int p2), .val (.int p3), .val (.int p4), .val (.int p5), .val (.int w), .val (.int h1), .val (.ref (ad 0)), .val (.int p3), .val (.int p4), .val (.ref b7), .val (.int (1 : Int32)), .val (.int (0 : Int32)), .val (.int (1 : Int32))] [(.int (1 : Int32))])) t → Steps p.tables e below (s₁.setTop (entryFrame m #[(.int p1), (.int p2), (.int p3), (.int p4), (.int p5)] maxLocals)) t := fun t k => ch27 t (by
          show Steps p.tables e below (T26.setTop (mkF m 134 #[.val (.int p1), .val (.int p2), .val (.int p3), .val (.int p4), .val (.int p5), .val (.int w), .val (.int h1), .val (.ref (ad 0)), .val (.int p3), .val (.int p4), .val (.ref b7), .val (.int (1 : Int32)), .val (.int (0 : Int32)), .unset] [(.int (1 : Int32))])) t
          refine XS.istore X26.here hx rfl (hb hby at_134) rfl (l' := #[.val (.int p1), .val (.int p2), .val (.int p3), .val (.int p4), .val (.int p5), .val (.int w), .val (.int h1), .val (.ref (ad 0)), .val (.int p3), .val (.int p4), .val (.ref b7), .val (.int (1 : Int32)), .val (.int (0 : Int32)), .val (.int (1 : Int32))]) rfl ?_
          show Steps p.tables e below (T26.setTop (mkF m 136 #[.val (.int p1), .val (.int p2), .val (.int p3), .val (.int p4), .val (.int p5), .val (.int w), .val (.int h1), .val (.ref (ad 0)), .val (.int p3), .val (.int p4), .val (.ref b7), .val (.int (1 : Int32)), .val (.int (0 : Int32)), .val (.int (1 : Int32))] [])) t
          refine XS.iload X26.here hx rfl (hb hby at_136) rfl ?_
          show Steps p.tables e below (T26.setTop (mkF m 138 #[.val (.int p1), .val (.int p2), .val (.int p3), .val (.int p4), .val (.int p5), .val (.int w), .val (.int h1), .val (.ref (ad 0)), .val (.int p3), .val (.int p4), .val (.ref b7), .val (.int (1 : Int32)), .val (.int (0 : Int32)), .val (.int (1 : Int32))] [(.int (0 : Int32))])) t
          refine XS.iload X26.here hx rfl (hb hby at_138) rfl ?_
          show Steps p.tables e below (T26.setTop (mkF m 140 #[.val (.int p1), .val (.int p2), .val (.int p3), .val (.int p4), .val (.int p5), .val (.int w), .val (.int h1), .val (.ref (ad 0)), .val (.int p3), .val (.int p4), .val (.ref b7), .val (.int (1 : Int32)), .val (.int (0 : Int32)), .val (.int (1 : Int32))] [(.int (1 : Int32)), (.int (0 : Int32))])) t
          refine XS.ifYes X26.here hx rfl (pc0 := 140) (pc' := 147) rfl (hb hby at_140) rfl ((if0 _ _).trans (feq (by decide : ¬ (1 : Int32) = (0 : Int32))).2) (by decide) (by decide) ?_
          show Steps p.tables e below (T26.setTop (mkF m 147 #[.val (.int p1), .val (.int p2), .val (.int p3), .val (.int p4), .val (.int p5), .val (.int w), .val (.int h1), .val (.ref (ad 0)), .val (.int p3), .val (.int p4), .val (.ref b7), .val (.int (1 : Int32)), .val (.int (0 : Int32)), .val (.int (1 : Int32))] [(.int (0 : Int32))])) t
          refine XS.iconst X26.here hx rfl (hb hby at_147) ?_
          show Steps p.tables e below (T26.setTop (mkF m 148 #[.val (.int p1), .val (.int p2), .val (.int p3), .val (.int p4), .val (.int p5), .val (.int w), .val (.int h1), .val (.ref (ad 0)), .val (.int p3), .val (.int p4), .val (.ref b7), .val (.int (1 : Int32)), .val (.int (0 : Int32)), .val (.int (1 : Int32))] [(.int (0 : Int32)), (.int (0 : Int32))])) t
          refine XS.icmpNo X26.here hx rfl (hb hby at_148) rfl (teq (by decide : (0 : Int32) = (0 : Int32))).2 ?_
          show Steps p.tables e below (T26.setTop (mkF m 151 #[.val (.int p1), .val (.int p2), .val (.int p3), .val (.int p4), .val (.int p5), .val (.int w), .val (.int h1), .val (.ref (ad 0)), .val (.int p3), .val (.int p4), .val (.ref b7), .val (.int (1 : Int32)), .val (.int (0 : Int32)), .val (.int (1 : Int32))] [])) t
          refine XS.iload X26.here hx rfl (hb hby at_151) rfl ?_
          show Steps p.tables e below (T26.setTop (mkF m 153 #[.val (.int p1), .val (.int p2), .val (.int p3), .val (.int p4), .val (.int p5), .val (.int w), .val (.int h1), .val (.ref (ad 0)), .val (.int p3), .val (.int p4), .val (.ref b7), .val (.int (1 : Int32)), .val (.int (0 : Int32)), .val (.int (1 : Int32))] [(.int (1 : Int32))])) t
          refine XS.ifNo X26.here hx rfl (hb hby at_153) rfl ((if0 _ _).trans (feq (by decide : ¬ (1 : Int32) = (0 : Int32))).1) ?_
          show Steps p.tables e below (T26.setTop (mkF m 156 #[.val (.int p1), .val (.int p2), .val (.int p3), .val (.int p4), .val (.int p5), .val (.int w), .val (.int h1), .val (.ref (ad 0)), .val (.int p3), .val (.int p4), .val (.ref b7), .val (.int (1 : Int32)), .val (.int (0 : Int32)), .val (.int (1 : Int32))] [])) t
          refine XS.iconst X26.here hx rfl (hb hby at_156) ?_
          show Steps p.tables e below (T26.setTop (mkF m 157 #[.val (.int p1), .val (.int p2), .val (.int p3), .val (.int p4), .val (.int p5), .val (.int w), .val (.int h1), .val (.ref (ad 0)), .val (.int p3), .val (.int p4), .val (.ref b7), .val (.int (1 : Int32)), .val (.int (0 : Int32)), .val (.int (1 : Int32))] [(.int (1 : Int32))])) t
          refine XS.goto X26.here hx rfl (pc0 := 157) (pc' := 161) rfl (hb hby at_157) (by decide) (by decide) ?_
          exact k)
      obtain ⟨fs, hr, hrun, hended, hend⟩ := X26.leaveW hS (by rw [e26]; exact hk) (v := some (.int (1 : Int32))) (fun h => by rw [Bd.returns] at h; cases h)
      refine ⟨_, _, ch28 _ ?_, hrun, hended, _, _, rfl, ?_, hend.1, hend.2.1, hend.2.2.1, hend.2.2.2.mono (by decide) (by decide)⟩
      · show Steps p.tables e below (T26.setTop (mkF m 161 #[.val (.int p1), .val (.int p2), .val (.int p3), .val (.int p4), .val (.int p5), .val (.int w), .val (.int h1), .val (.ref (ad 0)), .val (.int p3), .val (.int p4), .val (.ref b7), .val (.int (1 : Int32)), .val (.int (0 : Int32)), .val (.int (1 : Int32))] [(.int (1 : Int32))])) _
        exact retN X26 hx (t := .boolean) Bd.returns (by simp) (hb hby at_161) hr
      · show QN (some (.int (1 : Int32))) n0 _ T26.heap _
        rw [e26]
        exact ⟨rfl, N26⟩
    · skip
      obtain ⟨cq29, kq29, qa29, qb29, qc29⟩ := isOf hZ eh16 fq16_0
      obtain ⟨vv30, _, ⟨T30, L30, kk30, nn30⟩, -, X30, ⟨Lc30, hQ30, l30, y30, z30⟩, st30⟩ := X16.virtualBack hx (y := (⟨"com/example/leafwright/leafwright/Thumbnails$Candidate", "covers", "(II)Z"⟩ : MethodName)) (z := (⟨"com/example/leafwright/leafwright/Thumbnails$Candidate", "covers", "(II)Z"⟩ : MethodName)) hown (mvT hZ (hw _ (List.mem_of_getElem? (i := 50) rfl))) (mvT hZ (hw _ (List.mem_of_getElem? (i := 51) rfl))) (notFace_of_selects (args := #[]) (mvT hZ (hw _ (List.mem_of_getElem? (i := 53) rfl)))) (mvT hZ (hw _ (List.mem_of_getElem? (i := 53) rfl))) (mvT hZ (hw _ (List.mem_of_getElem? (i := 52) rfl))) (by decide) (backOf (W := 0) (own_cov_b l Z a0 hw [] hh16 n0 (Nat.le_trans Z0 Kp16.1) b7 w h1 p3 p4 fq16_2 fq16_3 hq18 hq20) hZ (hw _ (List.mem_of_getElem? (i := 54) rfl)) (hw _ (List.mem_of_getElem? (i := 10) rfl)) (by decide) (by decide)) qa29 qc29 (g := (mkF m 120 #[.val (.int p1), .val (.int p2), .val (.int p3), .val (.int p4), .val (.int p5), .val (.int w), .val (.int h1), .val (.ref (ad 0)), .val (.int p3), .val (.int p4), .val (.ref b7), .val (.int (0 : Int32)), .unset, .unset] [(.int p4), (.int p3), (.ref b7)])) rfl (by rw [hml]; rfl) (Steps.refl _) (argsL := [(.int p3), (.int p4)]) (rest := []) (lenOf own_pd__II_Z rfl) rfl (by show 2 * 0 + _ ≤ _; exact Nat.le_of_eq rfl) (hb hby at_120) (fun _ _ => ⟨rfl, eh16, (by decide : 11 + 0 ≤ _), (by decide : 108 + 0 ≤ _)⟩)
      dsimp only [Pt.U, Pt.locs, Pt.cells, Pt.slots] at X30 l30 y30 z30 st30 hQ30
      subst l30 y30 z30
      obtain ⟨rfl, Nq30, e30⟩ := hQ30
      have N30 := Fr.app N16 Nq30
      have ch31 : ∀ t, Steps p.tables e below (T30.setTop (mkF m 123 #[.val (.int p1), .val (.int p2), .val (.int p3), .val (.int p4), .val (.int p5), .val (.int w), .val (.int h1), .val (.ref (ad 0)), .val (.int p3), .val (.int p4), .val (.ref b7), .val (.int (0 : Int32)), .unset, .unset] [(.int (1 : Int32))])) t → Steps p.tables e below (s₁.setTop (entryFrame m #[(.int p1), (.int p2), (.int p3), (.int p4), (.int p5)] maxLocals)) t := fun t k => ch21 t (by
          show Steps p.tables e below (T16.setTop (mkF m 104 #[.val (.int p1), .val (.int p2), .val (.int p3), .val (.int p4), .val (.int p5), .val (.int w), .val (.int h1), .val (.ref (ad 0)), .val (.int p3), .val (.int p4), .val (.ref b7), .unset, .unset, .unset] [(.int h1), (.int p4)])) t
          refine XS.icmpYes X16.here hx rfl (pc0 := 104) (pc' := 111) rfl (hb hby at_104) rfl (flt hq20).2.2.2 (by decide) (by decide) ?_
          show Steps p.tables e below (T16.setTop (mkF m 111 #[.val (.int p1), .val (.int p2), .val (.int p3), .val (.int p4), .val (.int p5), .val (.int w), .val (.int h1), .val (.ref (ad 0)), .val (.int p3), .val (.int p4), .val (.ref b7), .unset, .unset, .unset] [])) t
          refine XS.iconst X16.here hx rfl (hb hby at_111) ?_
          show Steps p.tables e below (T16.setTop (mkF m 112 #[.val (.int p1), .val (.int p2), .val (.int p3), .val (.int p4), .val (.int p5), .val (.int w), .val (.int h1), .val (.ref (ad 0)), .val (.int p3), .val (.int p4), .val (.ref b7), .unset, .unset, .unset] [(.int (0 : Int32))])) t
          refine XS.istore X16.here hx rfl (hb hby at_112) rfl (l' := #[.val (.int p1), .val (.int p2), .val (.int p3), .val (.int p4), .val (.int p5), .val (.int w), .val (.int h1), .val (.ref (ad 0)), .val (.int p3), .val (.int p4), .val (.ref b7), .val (.int (0 : Int32)), .unset, .unset]) rfl ?_
          show Steps p.tables e below (T16.setTop (mkF m 114 #[.val (.int p1), .val (.int p2), .val (.int p3), .val (.int p4), .val (.int p5), .val (.int w), .val (.int h1), .val (.ref (ad 0)), .val (.int p3), .val (.int p4), .val (.ref b7), .val (.int (0 : Int32)), .unset, .unset] [])) t
          refine XS.aload X16.here hx rfl (hb hby at_114) rfl rfl ?_
          show Steps p.tables e below (T16.setTop (mkF m 116 #[.val (.int p1), .val (.int p2), .val (.int p3), .val (.int p4), .val (.int p5), .val (.int w), .val (.int h1), .val (.ref (ad 0)), .val (.int p3), .val (.int p4), .val (.ref b7), .val (.int (0 : Int32)), .unset, .unset] [(.ref b7)])) t
          refine XS.iload X16.here hx rfl (hb hby at_116) rfl ?_
          show Steps p.tables e below (T16.setTop (mkF m 118 #[.val (.int p1), .val (.int p2), .val (.int p3), .val (.int p4), .val (.int p5), .val (.int w), .val (.int h1), .val (.ref (ad 0)), .val (.int p3), .val (.int p4), .val (.ref b7), .val (.int (0 : Int32)), .unset, .unset] [(.int p3), (.ref b7)])) t
          refine XS.iload X16.here hx rfl (hb hby at_118) rfl ?_
          show Steps p.tables e below (T16.setTop (mkF m 120 #[.val (.int p1), .val (.int p2), .val (.int p3), .val (.int p4), .val (.int p5), .val (.int w), .val (.int h1), .val (.ref (ad 0)), .val (.int p3), .val (.int p4), .val (.ref b7), .val (.int (0 : Int32)), .unset, .unset] [(.int p4), (.int p3), (.ref b7)])) t
          exact st30.trans k)
      obtain ⟨cq32, kq32, qa32, qb32, qc32⟩ := isOf hZ e30 fq16_0
      obtain ⟨vv33, _, ⟨T33, L33, kk33, nn33⟩, -, X33, ⟨Lc33, hQ33, l33, y33, z33⟩, st33⟩ := X30.virtualBack hx (y := (⟨"com/example/leafwright/leafwright/Thumbnails$Candidate", "covers", "(II)Z"⟩ : MethodName)) (z := (⟨"com/example/leafwright/leafwright/Thumbnails$Candidate", "covers", "(II)Z"⟩ : MethodName)) hown (mvT hZ (hw _ (List.mem_of_getElem? (i := 50) rfl))) (mvT hZ (hw _ (List.mem_of_getElem? (i := 51) rfl))) (notFace_of_selects (args := #[]) (mvT hZ (hw _ (List.mem_of_getElem? (i := 53) rfl)))) (mvT hZ (hw _ (List.mem_of_getElem? (i := 53) rfl))) (mvT hZ (hw _ (List.mem_of_getElem? (i := 52) rfl))) (by decide) (backOf (W := 0) (own_cov_a l Z a0 hw [] hh16 n0 (Nat.le_trans Z0 Kp16.1) b7 w h1 w h1 fq16_2 fq16_3 (Int32.lt_irrefl : ¬ w < w)) hZ (hw _ (List.mem_of_getElem? (i := 54) rfl)) (hw _ (List.mem_of_getElem? (i := 10) rfl)) (by decide) (by decide)) qa32 qc32 (g := (mkF m 131 #[.val (.int p1), .val (.int p2), .val (.int p3), .val (.int p4), .val (.int p5), .val (.int w), .val (.int h1), .val (.ref (ad 0)), .val (.int p3), .val (.int p4), .val (.ref b7), .val (.int (0 : Int32)), .val (.int (1 : Int32)), .unset] [(.int h1), (.int w), (.ref b7)])) rfl (by rw [hml]; rfl) (Steps.refl _) (argsL := [(.int w), (.int h1)]) (rest := []) (lenOf own_pd__II_Z rfl) rfl (by show 2 * 0 + _ ≤ _; exact Nat.le_of_eq rfl) (hb hby at_131) (fun _ _ => ⟨rfl, e30, (by decide : 11 + 0 ≤ _), (by decide : 108 + 0 ≤ _)⟩)
      dsimp only [Pt.U, Pt.locs, Pt.cells, Pt.slots] at X33 l33 y33 z33 st33 hQ33
      subst l33 y33 z33
      obtain ⟨rfl, Nq33, e33⟩ := hQ33
      have N33 := Fr.app N30 Nq33
      have ch34 : ∀ t, Steps p.tables e below (T33.setTop (mkF m 134 #[.val (.int p1), .val (.int p2), .val (.int p3), .val (.int p4), .val (.int p5), .val (.int w), .val (.int h1), .val (.ref (ad 0)), .val (.int p3), .val (.int p4), .val (.ref b7), .val (.int (0 : Int32)), .val (.int (1 : Int32)), .unset] [(.int (1 : Int32))])) t → Steps p.tables e below (s₁.setTop (entryFrame m #[(.int p1), (.int p2), (.int p3), (.int p4), (.int p5)] maxLocals)) t := fun t k => ch31 t (by
          show Steps p.tables e below (T30.setTop (mkF m 123 #[.val (.int p1), .val (.int p2), .val (.int p3), .val (.int p4), .val (.int p5), .val (.int w), .val (.int h1), .val (.ref (ad 0)), .val (.int p3), .val (.int p4), .val (.ref b7), .val (.int (0 : Int32)), .unset, .unset] [(.int (1 : Int32))])) t
          refine XS.istore X30.here hx rfl (hb hby at_123) rfl (l' := #[.val (.int p1), .val (.int p2), .val (.int p3), .val (.int p4), .val (.int p5), .val (.int w), .val (.int h1), .val (.ref (ad 0)), .val (.int p3), .val (.int p4), .val (.ref b7), .val (.int (0 : Int32)), .val (.int (1 : Int32)), .unset]) rfl ?_
          show Steps p.tables e below (T30.setTop (mkF m 125 #[.val (.int p1), .val (.int p2), .val (.int p3), .val (.int p4), .val (.int p5), .val (.int w), .val (.int h1), .val (.ref (ad 0)), .val (.int p3), .val (.int p4), .val (.ref b7), .val (.int (0 : Int32)), .val (.int (1 : Int32)), .unset] [])) t
          refine XS.aload X30.here hx rfl (hb hby at_125) rfl rfl ?_
          show Steps p.tables e below (T30.setTop (mkF m 127 #[.val (.int p1), .val (.int p2), .val (.int p3), .val (.int p4), .val (.int p5), .val (.int w), .val (.int h1), .val (.ref (ad 0)), .val (.int p3), .val (.int p4), .val (.ref b7), .val (.int (0 : Int32)), .val (.int (1 : Int32)), .unset] [(.ref b7)])) t
          refine XS.iload X30.here hx rfl (hb hby at_127) rfl ?_
          show Steps p.tables e below (T30.setTop (mkF m 129 #[.val (.int p1), .val (.int p2), .val (.int p3), .val (.int p4), .val (.int p5), .val (.int w), .val (.int h1), .val (.ref (ad 0)), .val (.int p3), .val (.int p4), .val (.ref b7), .val (.int (0 : Int32)), .val (.int (1 : Int32)), .unset] [(.int w), (.ref b7)])) t
          refine XS.iload X30.here hx rfl (hb hby at_129) rfl ?_
          show Steps p.tables e below (T30.setTop (mkF m 131 #[.val (.int p1), .val (.int p2), .val (.int p3), .val (.int p4), .val (.int p5), .val (.int w), .val (.int h1), .val (.ref (ad 0)), .val (.int p3), .val (.int p4), .val (.ref b7), .val (.int (0 : Int32)), .val (.int (1 : Int32)), .unset] [(.int h1), (.int w), (.ref b7)])) t
          exact st33.trans k)
      have ch35 : ∀ t, Steps p.tables e below (T33.setTop (mkF m 161 #[.val (.int p1), .val (.int p2), .val (.int p3), .val (.int p4), .val (.int p5), .val (.int w), .val (.int h1), .val (.ref (ad 0)), .val (.int p3), .val (.int p4), .val (.ref b7), .val (.int (0 : Int32)), .val (.int (1 : Int32)), .val (.int (1 : Int32))] [(.int (1 : Int32))])) t → Steps p.tables e below (s₁.setTop (entryFrame m #[(.int p1), (.int p2), (.int p3), (.int p4), (.int p5)] maxLocals)) t := fun t k => ch34 t (by
          show Steps p.tables e below (T33.setTop (mkF m 134 #[.val (.int p1), .val (.int p2), .val (.int p3), .val (.int p4), .val (.int p5), .val (.int w), .val (.int h1), .val (.ref (ad 0)), .val (.int p3), .val (.int p4), .val (.ref b7), .val (.int (0 : Int32)), .val (.int (1 : Int32)), .unset] [(.int (1 : Int32))])) t
          refine XS.istore X33.here hx rfl (hb hby at_134) rfl (l' := #[.val (.int p1), .val (.int p2), .val (.int p3), .val (.int p4), .val (.int p5), .val (.int w), .val (.int h1), .val (.ref (ad 0)), .val (.int p3), .val (.int p4), .val (.ref b7), .val (.int (0 : Int32)), .val (.int (1 : Int32)), .val (.int (1 : Int32))]) rfl ?_
          show Steps p.tables e below (T33.setTop (mkF m 136 #[.val (.int p1), .val (.int p2), .val (.int p3), .val (.int p4), .val (.int p5), .val (.int w), .val (.int h1), .val (.ref (ad 0)), .val (.int p3), .val (.int p4), .val (.ref b7), .val (.int (0 : Int32)), .val (.int (1 : Int32)), .val (.int (1 : Int32))] [])) t
          refine XS.iload X33.here hx rfl (hb hby at_136) rfl ?_
          show Steps p.tables e below (T33.setTop (mkF m 138 #[.val (.int p1), .val (.int p2), .val (.int p3), .val (.int p4), .val (.int p5), .val (.int w), .val (.int h1), .val (.ref (ad 0)), .val (.int p3), .val (.int p4), .val (.ref b7), .val (.int (0 : Int32)), .val (.int (1 : Int32)), .val (.int (1 : Int32))] [(.int (1 : Int32))])) t
          refine XS.iload X33.here hx rfl (hb hby at_138) rfl ?_
          show Steps p.tables e below (T33.setTop (mkF m 140 #[.val (.int p1), .val (.int p2), .val (.int p3), .val (.int p4), .val (.int p5), .val (.int w), .val (.int h1), .val (.ref (ad 0)), .val (.int p3), .val (.int p4), .val (.ref b7), .val (.int (0 : Int32)), .val (.int (1 : Int32)), .val (.int (1 : Int32))] [(.int (0 : Int32)), (.int (1 : Int32))])) t
          refine XS.ifNo X33.here hx rfl (hb hby at_140) rfl ((if0 _ _).trans (teq (by decide : (0 : Int32) = (0 : Int32))).2) ?_
          show Steps p.tables e below (T33.setTop (mkF m 143 #[.val (.int p1), .val (.int p2), .val (.int p3), .val (.int p4), .val (.int p5), .val (.int w), .val (.int h1), .val (.ref (ad 0)), .val (.int p3), .val (.int p4), .val (.ref b7), .val (.int (0 : Int32)), .val (.int (1 : Int32)), .val (.int (1 : Int32))] [(.int (1 : Int32))])) t
          refine XS.iconst X33.here hx rfl (hb hby at_143) ?_
          show Steps p.tables e below (T33.setTop (mkF m 144 #[.val (.int p1), .val (.int p2), .val (.int p3), .val (.int p4), .val (.int p5), .val (.int w), .val (.int h1), .val (.ref (ad 0)), .val (.int p3), .val (.int p4), .val (.ref b7), .val (.int (0 : Int32)), .val (.int (1 : Int32)), .val (.int (1 : Int32))] [(.int (1 : Int32)), (.int (1 : Int32))])) t
          refine XS.goto X33.here hx rfl (pc0 := 144) (pc' := 148) rfl (hb hby at_144) (by decide) (by decide) ?_
          show Steps p.tables e below (T33.setTop (mkF m 148 #[.val (.int p1), .val (.int p2), .val (.int p3), .val (.int p4), .val (.int p5), .val (.int w), .val (.int h1), .val (.ref (ad 0)), .val (.int p3), .val (.int p4), .val (.ref b7), .val (.int (0 : Int32)), .val (.int (1 : Int32)), .val (.int (1 : Int32))] [(.int (1 : Int32)), (.int (1 : Int32))])) t
          refine XS.icmpNo X33.here hx rfl (hb hby at_148) rfl (teq (by decide : (1 : Int32) = (1 : Int32))).2 ?_
          show Steps p.tables e below (T33.setTop (mkF m 151 #[.val (.int p1), .val (.int p2), .val (.int p3), .val (.int p4), .val (.int p5), .val (.int w), .val (.int h1), .val (.ref (ad 0)), .val (.int p3), .val (.int p4), .val (.ref b7), .val (.int (0 : Int32)), .val (.int (1 : Int32)), .val (.int (1 : Int32))] [])) t
          refine XS.iload X33.here hx rfl (hb hby at_151) rfl ?_
          show Steps p.tables e below (T33.setTop (mkF m 153 #[.val (.int p1), .val (.int p2), .val (.int p3), .val (.int p4), .val (.int p5), .val (.int w), .val (.int h1), .val (.ref (ad 0)), .val (.int p3), .val (.int p4), .val (.ref b7), .val (.int (0 : Int32)), .val (.int (1 : Int32)), .val (.int (1 : Int32))] [(.int (1 : Int32))])) t
          refine XS.ifNo X33.here hx rfl (hb hby at_153) rfl ((if0 _ _).trans (feq (by decide : ¬ (1 : Int32) = (0 : Int32))).1) ?_
          show Steps p.tables e below (T33.setTop (mkF m 156 #[.val (.int p1), .val (.int p2), .val (.int p3), .val (.int p4), .val (.int p5), .val (.int w), .val (.int h1), .val (.ref (ad 0)), .val (.int p3), .val (.int p4), .val (.ref b7), .val (.int (0 : Int32)), .val (.int (1 : Int32)), .val (.int (1 : Int32))] [])) t
          refine XS.iconst X33.here hx rfl (hb hby at_156) ?_
          show Steps p.tables e below (T33.setTop (mkF m 157 #[.val (.int p1), .val (.int p2), .val (.int p3), .val (.int p4), .val (.int p5), .val (.int w), .val (.int h1), .val (.ref (ad 0)), .val (.int p3), .val (.int p4), .val (.ref b7), .val (.int (0 : Int32)), .val (.int (1 : Int32)), .val (.int (1 : Int32))] [(.int (1 : Int32))])) t
          refine XS.goto X33.here hx rfl (pc0 := 157) (pc' := 161) rfl (hb hby at_157) (by decide) (by decide) ?_
          exact k)
      obtain ⟨fs, hr, hrun, hended, hend⟩ := X33.leaveW hS (by rw [e33]; exact hk) (v := some (.int (1 : Int32))) (fun h => by rw [Bd.returns] at h; cases h)
      refine ⟨_, _, ch35 _ ?_, hrun, hended, _, _, rfl, ?_, hend.1, hend.2.1, hend.2.2.1, hend.2.2.2.mono (by decide) (by decide)⟩
      · show Steps p.tables e below (T33.setTop (mkF m 161 #[.val (.int p1), .val (.int p2), .val (.int p3), .val (.int p4), .val (.int p5), .val (.int w), .val (.int h1), .val (.ref (ad 0)), .val (.int p3), .val (.int p4), .val (.ref b7), .val (.int (0 : Int32)), .val (.int (1 : Int32)), .val (.int (1 : Int32))] [(.int (1 : Int32))])) _
        exact retN X33 hx (t := .boolean) Bd.returns (by simp) (hb hby at_161) hr
      · show QN (some (.int (1 : Int32))) n0 _ T33.heap _
        rw [e33]
        exact ⟨rfl, N33⟩
  · skip
    obtain ⟨cq36, kq36, qa36, qb36, qc36⟩ := isOf hZ eh16 fq16_0
    obtain ⟨vv37, _, ⟨T37, L37, kk37, nn37⟩, -, X37, ⟨Lc37, hQ37, l37, y37, z37⟩, st37⟩ := X16.virtualBack hx (y := (⟨"com/example/leafwright/leafwright/Thumbnails$Candidate", "covers", "(II)Z"⟩ : MethodName)) (z := (⟨"com/example/leafwright/leafwright/Thumbnails$Candidate", "covers", "(II)Z"⟩ : MethodName)) hown (mvT hZ (hw _ (List.mem_of_getElem? (i := 50) rfl))) (mvT hZ (hw _ (List.mem_of_getElem? (i := 51) rfl))) (notFace_of_selects (args := #[]) (mvT hZ (hw _ (List.mem_of_getElem? (i := 53) rfl)))) (mvT hZ (hw _ (List.mem_of_getElem? (i := 53) rfl))) (mvT hZ (hw _ (List.mem_of_getElem? (i := 52) rfl))) (by decide) (backOf (W := 0) (own_cov_a l Z a0 hw [] hh16 n0 (Nat.le_trans Z0 Kp16.1) b7 w h1 p3 p4 fq16_2 fq16_3 hq18) hZ (hw _ (List.mem_of_getElem? (i := 54) rfl)) (hw _ (List.mem_of_getElem? (i := 10) rfl)) (by decide) (by decide)) qa36 qc36 (g := (mkF m 120 #[.val (.int p1), .val (.int p2), .val (.int p3), .val (.int p4), .val (.int p5), .val (.int w), .val (.int h1), .val (.ref (ad 0)), .val (.int p3), .val (.int p4), .val (.ref b7), .val (.int (0 : Int32)), .unset, .unset] [(.int p4), (.int p3), (.ref b7)])) rfl (by rw [hml]; rfl) (Steps.refl _) (argsL := [(.int p3), (.int p4)]) (rest := []) (lenOf own_pd__II_Z rfl) rfl (by show 2 * 0 + _ ≤ _; exact Nat.le_of_eq rfl) (hb hby at_120) (fun _ _ => ⟨rfl, eh16, (by decide : 11 + 0 ≤ _), (by decide : 108 + 0 ≤ _)⟩)
    dsimp only [Pt.U, Pt.locs, Pt.cells, Pt.slots] at X37 l37 y37 z37 st37 hQ37
    subst l37 y37 z37
    obtain ⟨rfl, Nq37, e37⟩ := hQ37
    have N37 := Fr.app N16 Nq37
    have ch38 : ∀ t, Steps p.tables e below (T37.setTop (mkF m 123 #[.val (.int p1), .val (.int p2), .val (.int p3), .val (.int p4), .val (.int p5), .val (.int w), .val (.int h1), .val (.ref (ad 0)), .val (.int p3), .val (.int p4), .val (.ref b7), .val (.int (0 : Int32)), .unset, .unset] [(.int (1 : Int32))])) t → Steps p.tables e below (s₁.setTop (entryFrame m #[(.int p1), (.int p2), (.int p3), (.int p4), (.int p5)] maxLocals)) t := fun t k => ch19 t (by
        show Steps p.tables e below (T16.setTop (mkF m 97 #[.val (.int p1), .val (.int p2), .val (.int p3), .val (.int p4), .val (.int p5), .val (.int w), .val (.int h1), .val (.ref (ad 0)), .val (.int p3), .val (.int p4), .val (.ref b7), .unset, .unset, .unset] [(.int w), (.int p3)])) t
        refine XS.icmpYes X16.here hx rfl (pc0 := 97) (pc' := 111) rfl (hb hby at_97) rfl (flt hq18).2.2.2 (by decide) (by decide) ?_
        show Steps p.tables e below (T16.setTop (mkF m 111 #[.val (.int p1), .val (.int p2), .val (.int p3), .val (.int p4), .val (.int p5), .val (.int w), .val (.int h1), .val (.ref (ad 0)), .val (.int p3), .val (.int p4), .val (.ref b7), .unset, .unset, .unset] [])) t
        refine XS.iconst X16.here hx rfl (hb hby at_111) ?_
        show Steps p.tables e below (T16.setTop (mkF m 112 #[.val (.int p1), .val (.int p2), .val (.int p3), .val (.int p4), .val (.int p5), .val (.int w), .val (.int h1), .val (.ref (ad 0)), .val (.int p3), .val (.int p4), .val (.ref b7), .unset, .unset, .unset] [(.int (0 : Int32))])) t
        refine XS.istore X16.here hx rfl (hb hby at_112) rfl (l' := #[.val (.int p1), .val (.int p2), .val (.int p3), .val (.int p4), .val (.int p5), .val (.int w), .val (.int h1), .val (.ref (ad 0)), .val (.int p3), .val (.int p4), .val (.ref b7), .val (.int (0 : Int32)), .unset, .unset]) rfl ?_
        show Steps p.tables e below (T16.setTop (mkF m 114 #[.val (.int p1), .val (.int p2), .val (.int p3), .val (.int p4), .val (.int p5), .val (.int w), .val (.int h1), .val (.ref (ad 0)), .val (.int p3), .val (.int p4), .val (.ref b7), .val (.int (0 : Int32)), .unset, .unset] [])) t
        refine XS.aload X16.here hx rfl (hb hby at_114) rfl rfl ?_
        show Steps p.tables e below (T16.setTop (mkF m 116 #[.val (.int p1), .val (.int p2), .val (.int p3), .val (.int p4), .val (.int p5), .val (.int w), .val (.int h1), .val (.ref (ad 0)), .val (.int p3), .val (.int p4), .val (.ref b7), .val (.int (0 : Int32)), .unset, .unset] [(.ref b7)])) t
        refine XS.iload X16.here hx rfl (hb hby at_116) rfl ?_
        show Steps p.tables e below (T16.setTop (mkF m 118 #[.val (.int p1), .val (.int p2), .val (.int p3), .val (.int p4), .val (.int p5), .val (.int w), .val (.int h1), .val (.ref (ad 0)), .val (.int p3), .val (.int p4), .val (.ref b7), .val (.int (0 : Int32)), .unset, .unset] [(.int p3), (.ref b7)])) t
        refine XS.iload X16.here hx rfl (hb hby at_118) rfl ?_
        show Steps p.tables e below (T16.setTop (mkF m 120 #[.val (.int p1), .val (.int p2), .val (.int p3), .val (.int p4), .val (.int p5), .val (.int w), .val (.int h1), .val (.ref (ad 0)), .val (.int p3), .val (.int p4), .val (.ref b7), .val (.int (0 : Int32)), .unset, .unset] [(.int p4), (.int p3), (.ref b7)])) t
        exact st37.trans k)
    obtain ⟨cq39, kq39, qa39, qb39, qc39⟩ := isOf hZ e37 fq16_0
    obtain ⟨vv40, _, ⟨T40, L40, kk40, nn40⟩, -, X40, ⟨Lc40, hQ40, l40, y40, z40⟩, st40⟩ := X37.virtualBack hx (y := (⟨"com/example/leafwright/leafwright/Thumbnails$Candidate", "covers", "(II)Z"⟩ : MethodName)) (z := (⟨"com/example/leafwright/leafwright/Thumbnails$Candidate", "covers", "(II)Z"⟩ : MethodName)) hown (mvT hZ (hw _ (List.mem_of_getElem? (i := 50) rfl))) (mvT hZ (hw _ (List.mem_of_getElem? (i := 51) rfl))) (notFace_of_selects (args := #[]) (mvT hZ (hw _ (List.mem_of_getElem? (i := 53) rfl)))) (mvT hZ (hw _ (List.mem_of_getElem? (i := 53) rfl))) (mvT hZ (hw _ (List.mem_of_getElem? (i := 52) rfl))) (by decide) (backOf (W := 0) (own_cov_a l Z a0 hw [] hh16 n0 (Nat.le_trans Z0 Kp16.1) b7 w h1 w h1 fq16_2 fq16_3 (Int32.lt_irrefl : ¬ w < w)) hZ (hw _ (List.mem_of_getElem? (i := 54) rfl)) (hw _ (List.mem_of_getElem? (i := 10) rfl)) (by decide) (by decide)) qa39 qc39 (g := (mkF m 131 #[.val (.int p1), .val (.int p2), .val (.int p3), .val (.int p4), .val (.int p5), .val (.int w), .val (.int h1), .val (.ref (ad 0)), .val (.int p3), .val (.int p4), .val (.ref b7), .val (.int (0 : Int32)), .val (.int (1 : Int32)), .unset] [(.int h1), (.int w), (.ref b7)])) rfl (by rw [hml]; rfl) (Steps.refl _) (argsL := [(.int w), (.int h1)]) (rest := []) (lenOf own_pd__II_Z rfl) rfl (by show 2 * 0 + _ ≤ _; exact Nat.le_of_eq rfl) (hb hby at_131) (fun _ _ => ⟨rfl, e37, (by decide : 11 + 0 ≤ _), (by decide : 108 + 0 ≤ _)⟩)
    dsimp only [Pt.U, Pt.locs, Pt.cells, Pt.slots] at X40 l40 y40 z40 st40 hQ40
    subst l40 y40 z40
    obtain ⟨rfl, Nq40, e40⟩ := hQ40
    have N40 := Fr.app N37 Nq40
    have ch41 : ∀ t, Steps p.tables e below (T40.setTop (mkF m 134 #[.val (.int p1), .val (.int p2), .val (.int p3), .val (.int p4), .val (.int p5), .val (.int w), .val (.int h1), .val (.ref (ad 0)), .val (.int p3), .val (.int p4), .val (.ref b7), .val (.int (0 : Int32)), .val (.int (1 : Int32)), .unset] [(.int (1 : Int32))])) t → Steps p.tables e below (s₁.setTop (entryFrame m #[(.int p1), (.int p2), (.int p3), (.int p4), (.int p5)] maxLocals)) t := fun t k => ch38 t (by
        show Steps p.tables e below (T37.setTop (mkF m 123 #[.val (.int p1), .val (.int p2), .val (.int p3), .val (.int p4), .val (.int p5), .val (.int w), .val (.int h1), .val (.ref (ad 0)), .val (.int p3), .val (.int p4), .val (.ref b7), .val (.int (0 : Int32)), .unset, .unset] [(.int (1 : Int32))])) t
        refine XS.istore X37.here hx rfl (hb hby at_123) rfl (l' := #[.val (.int p1), .val (.int p2), .val (.int p3), .val (.int p4), .val (.int p5), .val (.int w), .val (.int h1), .val (.ref (ad 0)), .val (.int p3), .val (.int p4), .val (.ref b7), .val (.int (0 : Int32)), .val (.int (1 : Int32)), .unset]) rfl ?_
        show Steps p.tables e below (T37.setTop (mkF m 125 #[.val (.int p1), .val (.int p2), .val (.int p3), .val (.int p4), .val (.int p5), .val (.int w), .val (.int h1), .val (.ref (ad 0)), .val (.int p3), .val (.int p4), .val (.ref b7), .val (.int (0 : Int32)), .val (.int (1 : Int32)), .unset] [])) t
        refine XS.aload X37.here hx rfl (hb hby at_125) rfl rfl ?_
        show Steps p.tables e below (T37.setTop (mkF m 127 #[.val (.int p1), .val (.int p2), .val (.int p3), .val (.int p4), .val (.int p5), .val (.int w), .val (.int h1), .val (.ref (ad 0)), .val (.int p3), .val (.int p4), .val (.ref b7), .val (.int (0 : Int32)), .val (.int (1 : Int32)), .unset] [(.ref b7)])) t
        refine XS.iload X37.here hx rfl (hb hby at_127) rfl ?_
        show Steps p.tables e below (T37.setTop (mkF m 129 #[.val (.int p1), .val (.int p2), .val (.int p3), .val (.int p4), .val (.int p5), .val (.int w), .val (.int h1), .val (.ref (ad 0)), .val (.int p3), .val (.int p4), .val (.ref b7), .val (.int (0 : Int32)), .val (.int (1 : Int32)), .unset] [(.int w), (.ref b7)])) t
        refine XS.iload X37.here hx rfl (hb hby at_129) rfl ?_
        show Steps p.tables e below (T37.setTop (mkF m 131 #[.val (.int p1), .val (.int p2), .val (.int p3), .val (.int p4), .val (.int p5), .val (.int w), .val (.int h1), .val (.ref (ad 0)), .val (.int p3), .val (.int p4), .val (.ref b7), .val (.int (0 : Int32)), .val (.int (1 : Int32)), .unset] [(.int h1), (.int w), (.ref b7)])) t
        exact st40.trans k)
    have ch42 : ∀ t, Steps p.tables e below (T40.setTop (mkF m 161 #[.val (.int p1), .val (.int p2), .val (.int p3), .val (.int p4), .val (.int p5), .val (.int w), .val (.int h1), .val (.ref (ad 0)), .val (.int p3), .val (.int p4), .val (.ref b7), .val (.int (0 : Int32)), .val (.int (1 : Int32)), .val (.int (1 : Int32))] [(.int (1 : Int32))])) t → Steps p.tables e below (s₁.setTop (entryFrame m #[(.int p1), (.int p2), (.int p3), (.int p4), (.int p5)] maxLocals)) t := fun t k => ch41 t (by
        show Steps p.tables e below (T40.setTop (mkF m 134 #[.val (.int p1), .val (.int p2), .val (.int p3), .val (.int p4), .val (.int p5), .val (.int w), .val (.int h1), .val (.ref (ad 0)), .val (.int p3), .val (.int p4), .val (.ref b7), .val (.int (0 : Int32)), .val (.int (1 : Int32)), .unset] [(.int (1 : Int32))])) t
        refine XS.istore X40.here hx rfl (hb hby at_134) rfl (l' := #[.val (.int p1), .val (.int p2), .val (.int p3), .val (.int p4), .val (.int p5), .val (.int w), .val (.int h1), .val (.ref (ad 0)), .val (.int p3), .val (.int p4), .val (.ref b7), .val (.int (0 : Int32)), .val (.int (1 : Int32)), .val (.int (1 : Int32))]) rfl ?_
        show Steps p.tables e below (T40.setTop (mkF m 136 #[.val (.int p1), .val (.int p2), .val (.int p3), .val (.int p4), .val (.int p5), .val (.int w), .val (.int h1), .val (.ref (ad 0)), .val (.int p3), .val (.int p4), .val (.ref b7), .val (.int (0 : Int32)), .val (.int (1 : Int32)), .val (.int (1 : Int32))] [])) t
        refine XS.iload X40.here hx rfl (hb hby at_136) rfl ?_
        show Steps p.tables e below (T40.setTop (mkF m 138 #[.val (.int p1), .val (.int p2), .val (.int p3), .val (.int p4), .val (.int p5), .val (.int w), .val (.int h1), .val (.ref (ad 0)), .val (.int p3), .val (.int p4), .val (.ref b7), .val (.int (0 : Int32)), .val (.int (1 : Int32)), .val (.int (1 : Int32))] [(.int (1 : Int32))])) t
        refine XS.iload X40.here hx rfl (hb hby at_138) rfl ?_
        show Steps p.tables e below (T40.setTop (mkF m 140 #[.val (.int p1), .val (.int p2), .val (.int p3), .val (.int p4), .val (.int p5), .val (.int w), .val (.int h1), .val (.ref (ad 0)), .val (.int p3), .val (.int p4), .val (.ref b7), .val (.int (0 : Int32)), .val (.int (1 : Int32)), .val (.int (1 : Int32))] [(.int (0 : Int32)), (.int (1 : Int32))])) t
        refine XS.ifNo X40.here hx rfl (hb hby at_140) rfl ((if0 _ _).trans (teq (by decide : (0 : Int32) = (0 : Int32))).2) ?_
        show Steps p.tables e below (T40.setTop (mkF m 143 #[.val (.int p1), .val (.int p2), .val (.int p3), .val (.int p4), .val (.int p5), .val (.int w), .val (.int h1), .val (.ref (ad 0)), .val (.int p3), .val (.int p4), .val (.ref b7), .val (.int (0 : Int32)), .val (.int (1 : Int32)), .val (.int (1 : Int32))] [(.int (1 : Int32))])) t
        refine XS.iconst X40.here hx rfl (hb hby at_143) ?_
        show Steps p.tables e below (T40.setTop (mkF m 144 #[.val (.int p1), .val (.int p2), .val (.int p3), .val (.int p4), .val (.int p5), .val (.int w), .val (.int h1), .val (.ref (ad 0)), .val (.int p3), .val (.int p4), .val (.ref b7), .val (.int (0 : Int32)), .val (.int (1 : Int32)), .val (.int (1 : Int32))] [(.int (1 : Int32)), (.int (1 : Int32))])) t
        refine XS.goto X40.here hx rfl (pc0 := 144) (pc' := 148) rfl (hb hby at_144) (by decide) (by decide) ?_
        show Steps p.tables e below (T40.setTop (mkF m 148 #[.val (.int p1), .val (.int p2), .val (.int p3), .val (.int p4), .val (.int p5), .val (.int w), .val (.int h1), .val (.ref (ad 0)), .val (.int p3), .val (.int p4), .val (.ref b7), .val (.int (0 : Int32)), .val (.int (1 : Int32)), .val (.int (1 : Int32))] [(.int (1 : Int32)), (.int (1 : Int32))])) t
        refine XS.icmpNo X40.here hx rfl (hb hby at_148) rfl (teq (by decide : (1 : Int32) = (1 : Int32))).2 ?_
        show Steps p.tables e below (T40.setTop (mkF m 151 #[.val (.int p1), .val (.int p2), .val (.int p3), .val (.int p4), .val (.int p5), .val (.int w), .val (.int h1), .val (.ref (ad 0)), .val (.int p3), .val (.int p4), .val (.ref b7), .val (.int (0 : Int32)), .val (.int (1 : Int32)), .val (.int (1 : Int32))] [])) t
        refine XS.iload X40.here hx rfl (hb hby at_151) rfl ?_
        show Steps p.tables e below (T40.setTop (mkF m 153 #[.val (.int p1), .val (.int p2), .val (.int p3), .val (.int p4), .val (.int p5), .val (.int w), .val (.int h1), .val (.ref (ad 0)), .val (.int p3), .val (.int p4), .val (.ref b7), .val (.int (0 : Int32)), .val (.int (1 : Int32)), .val (.int (1 : Int32))] [(.int (1 : Int32))])) t
        refine XS.ifNo X40.here hx rfl (hb hby at_153) rfl ((if0 _ _).trans (feq (by decide : ¬ (1 : Int32) = (0 : Int32))).1) ?_
        show Steps p.tables e below (T40.setTop (mkF m 156 #[.val (.int p1), .val (.int p2), .val (.int p3), .val (.int p4), .val (.int p5), .val (.int w), .val (.int h1), .val (.ref (ad 0)), .val (.int p3), .val (.int p4), .val (.ref b7), .val (.int (0 : Int32)), .val (.int (1 : Int32)), .val (.int (1 : Int32))] [])) t
        refine XS.iconst X40.here hx rfl (hb hby at_156) ?_
        show Steps p.tables e below (T40.setTop (mkF m 157 #[.val (.int p1), .val (.int p2), .val (.int p3), .val (.int p4), .val (.int p5), .val (.int w), .val (.int h1), .val (.ref (ad 0)), .val (.int p3), .val (.int p4), .val (.ref b7), .val (.int (0 : Int32)), .val (.int (1 : Int32)), .val (.int (1 : Int32))] [(.int (1 : Int32))])) t
        refine XS.goto X40.here hx rfl (pc0 := 157) (pc' := 161) rfl (hb hby at_157) (by decide) (by decide) ?_
        exact k)
    obtain ⟨fs, hr, hrun, hended, hend⟩ := X40.leaveW hS (by rw [e40]; exact hk) (v := some (.int (1 : Int32))) (fun h => by rw [Bd.returns] at h; cases h)
    refine ⟨_, _, ch42 _ ?_, hrun, hended, _, _, rfl, ?_, hend.1, hend.2.1, hend.2.2.1, hend.2.2.2.mono (by decide) (by decide)⟩
    · show Steps p.tables e below (T40.setTop (mkF m 161 #[.val (.int p1), .val (.int p2), .val (.int p3), .val (.int p4), .val (.int p5), .val (.int w), .val (.int h1), .val (.ref (ad 0)), .val (.int p3), .val (.int p4), .val (.ref b7), .val (.int (0 : Int32)), .val (.int (1 : Int32)), .val (.int (1 : Int32))] [(.int (1 : Int32))])) _
      exact retN X40 hx (t := .boolean) Bd.returns (by simp) (hb hby at_161) hr
    · show QN (some (.int (1 : Int32))) n0 _ T40.heap _
      rw [e40]
      exact ⟨rfl, N40⟩
theorem own_ef_own_law_001 (m : MethodId) {x0 : Int32} {x1 : Int32} {x2 : Int32} {x3 : Int32} {x4 : Int32} : entryFrame m #[(.int x0), (.int x1), (.int x2), (.int x3), (.int x4)] maxLocals = mkF m 0 #[.val (.int x0), .val (.int x1), .val (.int x2), .val (.int x3), .val (.int x4), .unset, .unset, .unset, .unset, .unset, .unset, .unset, .unset, .unset] [] := by first | (simp [entryFrame, mkF, argsToLocals, Value.category, maxLocals]; done) | rfl
set_option maxRecDepth 65536 in
set_option maxHeartbeats 40000000 in
theorem own_law_001 (l : Launch) (Z : State) (a0 : Array Value) (hw : ∀ d ∈ tables_1, d.before a0 Z = true) (ws : List Jvm.Cond) (h0 : Heap) (n0 : Nat) (Z0 : n0 ≤ h0.size) (p1 p2 p3 p4 p5 w h1 : Int32) (HW : MetFree l (⟨"java/lang/Math", "max", "(II)I"⟩ : MethodName) (head1 (Jvm.Cond.code (⟨"java/lang/Math", "max", "(II)I"⟩ : MethodName) jdk_29_method_65_code 2 (some .int) :: []) ({ frames := 0, cells := 0, slots := 0, locals := 0 } : Room)) (fun a U => a = #[(.int (1 : Int32)), (.int (p1 &&& (2147483647 : Int32)))] ∧ Z.Warmed39 U.vm ∧ U.heap = h0) (fun _ _ _ _ _ => True) (fun _ U o U' => ∃ v L, o = .returned v ∧ QV (some (.int w)) h0 n0 v U'.heap L ∧ FrameEnd U o U' L ({ frames := 0, cells := 0, slots := 0, locals := 0 } : Room).cells ({ frames := 0, cells := 0, slots := 0, locals := 0 } : Room).slots)) (HH : MetFree l (⟨"java/lang/Math", "max", "(II)I"⟩ : MethodName) (head1 (Jvm.Cond.code (⟨"java/lang/Math", "max", "(II)I"⟩ : MethodName) jdk_29_method_65_code 2 (some .int) :: []) ({ frames := 0, cells := 0, slots := 0, locals := 0 } : Room)) (fun a U => a = #[(.int (1 : Int32)), (.int (p2 &&& (2147483647 : Int32)))] ∧ Z.Warmed39 U.vm ∧ U.heap = h0) (fun _ _ _ _ _ => True) (fun _ U o U' => ∃ v L, o = .returned v ∧ QV (some (.int h1)) h0 n0 v U'.heap L ∧ FrameEnd U o U' L ({ frames := 0, cells := 0, slots := 0, locals := 0 } : Room).cells ({ frames := 0, cells := 0, slots := 0, locals := 0 } : Room).slots)) (pw : (0 : Int32) < w) (ph : (0 : Int32) < h1) (s0 : (p5 &&& (1 : Int32)) = (0 : Int32)) (s1 : (p5 &&& (2 : Int32)) = (0 : Int32)) (s2 : ¬ (p5 &&& (4 : Int32)) = (0 : Int32)) (ad : Nat → Addr) (W : OwnWd Z h0 ad) :
    MetFree l x (head1 (Jvm.Cond.code x code maxLocals ret :: ws) room_1) (fun a U => a = #[(.int p1), (.int p2), (.int p3), (.int p4), (.int p5)] ∧ Z.Warmed39 U.vm ∧ U.heap = h0) (fun _ _ _ _ _ => True) (fun _ U o U' => ∃ v L, o = .returned v ∧ QN (some (.int (1 : Int32))) n0 v U'.heap L ∧ ReturnedEndW U o U' L room_1.cells room_1.slots) := by
  refine MetFree.of_bodySF (plainFor_of_name own_pn_com_example_leafwright_leafwright_CandidateCoversPinLaw) hisR ?_
  intro p e s m args below meth c s₁ Bd hml0 hP hK
  obtain ⟨rfl, hZ, hh⟩ := hP
  have hx := Bd.exec
  have hby := Bd.bytes
  have hml : c.maxLocals = 14 := hml0
  have hown : s.vm.findClass "com/example/leafwright/leafwright/CandidateCoversPinLaw" = some m.cls := (findClass_of_methodNamed Bd.named :)
  have hnm := (name_of_methodNamed Bd.named Bd.method).1
  have X0 : Stand p l e room_1 (s.setVm s.vm) m #[(.int p1), (.int p2), (.int p3), (.int p4), (.int p5)] below meth c s₁ [] 0 0 := Stand.of_body Bd
  have hZ : Z.Warmed39 (s.setVm s.vm).vm := hZ
  have hown : (s.setVm s.vm).vm.findClass "com/example/leafwright/leafwright/CandidateCoversPinLaw" = some m.cls := hown
  have hS : s.Since s.vm 0 := (State.WarmedH.refl s).since 0
  have hk : 0 ≤ h0.size := Nat.zero_le _
  have e0 : s₁.heap = h0 := by rw [← hh, Bd.state]; rfl
  have N0 := Fr.nil n0
  have pre0 : ∀ t, Steps p.tables e below (s₁.setTop (mkF m 0 #[.val (.int p1), .val (.int p2), .val (.int p3), .val (.int p4), .val (.int p5), .unset, .unset, .unset, .unset, .unset, .unset, .unset, .unset, .unset] [])) t → Steps p.tables e below (s₁.setTop (entryFrame m #[(.int p1), (.int p2), (.int p3), (.int p4), (.int p5)] maxLocals)) t := fun t k => castTop (own_ef_own_law_001 m) k
  obtain ⟨vv1, _, ⟨T1, L1, kk1, nn1⟩, -, X1, ⟨Lc1, hQ1, l1, y1, z1⟩, st1⟩ := Jvm.LawKit.callS X0 hx (y := (⟨"java/lang/Math", "max", "(II)I"⟩ : MethodName)) hown (mvT hZ (hw _ (List.mem_of_getElem? (i := 1) rfl))) (mvT hZ (hw _ (List.mem_of_getElem? (i := 2) rfl))) (mvT hZ (hw _ (List.mem_of_getElem? (i := 3) rfl))) (mvT hZ (hw _ (List.mem_of_getElem? (i := 4) rfl))) (by decide) (backOf (W := 0) HW hZ (hw _ (List.mem_of_getElem? (i := 4) rfl)) (hw _ (List.mem_of_getElem? (i := 3) rfl)) (by decide) (by decide)) (g := (mkF m 5 #[.val (.int p1), .val (.int p2), .val (.int p3), .val (.int p4), .val (.int p5), .unset, .unset, .unset, .unset, .unset, .unset, .unset, .unset, .unset] [(.int (p1 &&& (2147483647 : Int32))), (.int (1 : Int32))])) rfl (by rw [hml]; rfl) (argsL := [(.int (1 : Int32)), (.int (p1 &&& (2147483647 : Int32)))]) (rest := []) (lenOf own_pd__II_I rfl) rfl (by show 2 * 0 + _ ≤ _; exact Nat.le_of_eq rfl) (hb hby at_5) (fun _ _ => ⟨rfl, e0, (by decide : 0 + 0 ≤ _), (by decide : 0 + 0 ≤ _)⟩)
  dsimp only [Pt.U, Pt.locs, Pt.cells, Pt.slots] at X1 l1 y1 z1 st1 hQ1
  subst l1 y1 z1
  obtain ⟨rfl, Nq1, e1⟩ := hQ1
  have N1 := Fr.app N0 Nq1
  have ch2 : ∀ t, Steps p.tables e below (T1.setTop (mkF m 8 #[.val (.int p1), .val (.int p2), .val (.int p3), .val (.int p4), .val (.int p5), .unset, .unset, .unset, .unset, .unset, .unset, .unset, .unset, .unset] [(.int w)])) t → Steps p.tables e below (s₁.setTop (entryFrame m #[(.int p1), (.int p2), (.int p3), (.int p4), (.int p5)] maxLocals)) t := fun t k => pre0 t (by
      show Steps p.tables e below (s₁.setTop (mkF m 0 #[.val (.int p1), .val (.int p2), .val (.int p3), .val (.int p4), .val (.int p5), .unset, .unset, .unset, .unset, .unset, .unset, .unset, .unset, .unset] [])) t
      refine XS.iconst X0.here hx rfl (hb hby at_0) ?_
      show Steps p.tables e below (s₁.setTop (mkF m 1 #[.val (.int p1), .val (.int p2), .val (.int p3), .val (.int p4), .val (.int p5), .unset, .unset, .unset, .unset, .unset, .unset, .unset, .unset, .unset] [(.int (1 : Int32))])) t
      refine XS.iloadN X0.here hx rfl (hb hby at_1) rfl ?_
      show Steps p.tables e below (s₁.setTop (mkF m 2 #[.val (.int p1), .val (.int p2), .val (.int p3), .val (.int p4), .val (.int p5), .unset, .unset, .unset, .unset, .unset, .unset, .unset, .unset, .unset] [(.int p1), (.int (1 : Int32))])) t
      refine X0.ldcInt hx hown (mvT hZ (hw _ (List.mem_of_getElem? (i := 0) rfl))) (g := (mkF m 2 #[.val (.int p1), .val (.int p2), .val (.int p3), .val (.int p4), .val (.int p5), .unset, .unset, .unset, .unset, .unset, .unset, .unset, .unset, .unset] [(.int p1), (.int (1 : Int32))])) rfl (hb hby at_2) _ ?_
      show Steps p.tables e below (s₁.setTop (mkF m 4 #[.val (.int p1), .val (.int p2), .val (.int p3), .val (.int p4), .val (.int p5), .unset, .unset, .unset, .unset, .unset, .unset, .unset, .unset, .unset] [(.int (2147483647 : Int32)), (.int p1), (.int (1 : Int32))])) t
      refine XS.iand X0.here hx rfl (hb hby at_4) rfl ?_
      show Steps p.tables e below (s₁.setTop (mkF m 5 #[.val (.int p1), .val (.int p2), .val (.int p3), .val (.int p4), .val (.int p5), .unset, .unset, .unset, .unset, .unset, .unset, .unset, .unset, .unset] [(.int (p1 &&& (2147483647 : Int32))), (.int (1 : Int32))])) t
      exact st1 t k)
  obtain ⟨vv3, _, ⟨T3, L3, kk3, nn3⟩, -, X3, ⟨Lc3, hQ3, l3, y3, z3⟩, st3⟩ := Jvm.LawKit.callS X1 hx (y := (⟨"java/lang/Math", "max", "(II)I"⟩ : MethodName)) hown (mvT hZ (hw _ (List.mem_of_getElem? (i := 1) rfl))) (mvT hZ (hw _ (List.mem_of_getElem? (i := 2) rfl))) (mvT hZ (hw _ (List.mem_of_getElem? (i := 3) rfl))) (mvT hZ (hw _ (List.mem_of_getElem? (i := 4) rfl))) (by decide) (backOf (W := 0) HH hZ (hw _ (List.mem_of_getElem? (i := 4) rfl)) (hw _ (List.mem_of_getElem? (i := 3) rfl)) (by decide) (by decide)) (g := (mkF m 15 #[.val (.int p1), .val (.int p2), .val (.int p3), .val (.int p4), .val (.int p5), .val (.int w), .unset, .unset, .unset, .unset, .unset, .unset, .unset, .unset] [(.int (p2 &&& (2147483647 : Int32))), (.int (1 : Int32))])) rfl (by rw [hml]; rfl) (argsL := [(.int (1 : Int32)), (.int (p2 &&& (2147483647 : Int32)))]) (rest := []) (lenOf own_pd__II_I rfl) rfl (by show 2 * 0 + _ ≤ _; exact Nat.le_of_eq rfl) (hb hby at_15) (fun _ _ => ⟨rfl, e1, (by decide : 0 + 0 ≤ _), (by decide : 0 + 0 ≤ _)⟩)
  dsimp only [Pt.U, Pt.locs, Pt.cells, Pt.slots] at X3 l3 y3 z3 st3 hQ3
  subst l3 y3 z3
  obtain ⟨rfl, Nq3, e3⟩ := hQ3
  have N3 := Fr.app N1 Nq3
  have ch4 : ∀ t, Steps p.tables e below (T3.setTop (mkF m 18 #[.val (.int p1), .val (.int p2), .val (.int p3), .val (.int p4), .val (.int p5), .val (.int w), .unset, .unset, .unset, .unset, .unset, .unset, .unset, .unset] [(.int h1)])) t → Steps p.tables e below (s₁.setTop (entryFrame m #[(.int p1), (.int p2), (.int p3), (.int p4), (.int p5)] maxLocals)) t := fun t k => ch2 t (by
      show Steps p.tables e below (T1.setTop (mkF m 8 #[.val (.int p1), .val (.int p2), .val (.int p3), .val (.int p4), .val (.int p5), .unset, .unset, .unset, .unset, .unset, .unset, .unset, .unset, .unset] [(.int w)])) t
      refine XS.istore X1.here hx rfl (hb hby at_8) rfl (l' := #[.val (.int p1), .val (.int p2), .val (.int p3), .val (.int p4), .val (.int p5), .val (.int w), .unset, .unset, .unset, .unset, .unset, .unset, .unset, .unset]) rfl ?_
      show Steps p.tables e below (T1.setTop (mkF m 10 #[.val (.int p1), .val (.int p2), .val (.int p3), .val (.int p4), .val (.int p5), .val (.int w), .unset, .unset, .unset, .unset, .unset, .unset, .unset, .unset] [])) t
      refine XS.iconst X1.here hx rfl (hb hby at_10) ?_
      show Steps p.tables e below (T1.setTop (mkF m 11 #[.val (.int p1), .val (.int p2), .val (.int p3), .val (.int p4), .val (.int p5), .val (.int w), .unset, .unset, .unset, .unset, .unset, .unset, .unset, .unset] [(.int (1 : Int32))])) t
      refine XS.iloadN X1.here hx rfl (hb hby at_11) rfl ?_
      show Steps p.tables e below (T1.setTop (mkF m 12 #[.val (.int p1), .val (.int p2), .val (.int p3), .val (.int p4), .val (.int p5), .val (.int w), .unset, .unset, .unset, .unset, .unset, .unset, .unset, .unset] [(.int p2), (.int (1 : Int32))])) t
      refine X1.ldcInt hx hown (mvT hZ (hw _ (List.mem_of_getElem? (i := 0) rfl))) (g := (mkF m 12 #[.val (.int p1), .val (.int p2), .val (.int p3), .val (.int p4), .val (.int p5), .val (.int w), .unset, .unset, .unset, .unset, .unset, .unset, .unset, .unset] [(.int p2), (.int (1 : Int32))])) rfl (hb hby at_12) _ ?_
      show Steps p.tables e below (T1.setTop (mkF m 14 #[.val (.int p1), .val (.int p2), .val (.int p3), .val (.int p4), .val (.int p5), .val (.int w), .unset, .unset, .unset, .unset, .unset, .unset, .unset, .unset] [(.int (2147483647 : Int32)), (.int p2), (.int (1 : Int32))])) t
      refine XS.iand X1.here hx rfl (hb hby at_14) rfl ?_
      show Steps p.tables e below (T1.setTop (mkF m 15 #[.val (.int p1), .val (.int p2), .val (.int p3), .val (.int p4), .val (.int p5), .val (.int w), .unset, .unset, .unset, .unset, .unset, .unset, .unset, .unset] [(.int (p2 &&& (2147483647 : Int32))), (.int (1 : Int32))])) t
      exact st3 t k)
  obtain ⟨T5, X5, e5, st5⟩ := getS2 X3 hx hZ hown (host := "") (Or.inl (hw _ (List.mem_of_getElem? (i := 5) rfl))) Via.refl e3 (own_S_DECLARED W) (g := (mkF m 33 #[.val (.int p1), .val (.int p2), .val (.int p3), .val (.int p4), .val (.int p5), .val (.int w), .val (.int h1), .unset, .unset, .unset, .unset, .unset, .unset, .unset] [])) rfl (hb hby at_33)
  have ch6 : ∀ t, Steps p.tables e below (T5.setTop (mkF m 36 #[.val (.int p1), .val (.int p2), .val (.int p3), .val (.int p4), .val (.int p5), .val (.int w), .val (.int h1), .unset, .unset, .unset, .unset, .unset, .unset, .unset] [(.ref (ad 0))])) t → Steps p.tables e below (s₁.setTop (entryFrame m #[(.int p1), (.int p2), (.int p3), (.int p4), (.int p5)] maxLocals)) t := fun t k => ch4 t (by
      show Steps p.tables e below (T3.setTop (mkF m 18 #[.val (.int p1), .val (.int p2), .val (.int p3), .val (.int p4), .val (.int p5), .val (.int w), .unset, .unset, .unset, .unset, .unset, .unset, .unset, .unset] [(.int h1)])) t
      refine XS.istore X3.here hx rfl (hb hby at_18) rfl (l' := #[.val (.int p1), .val (.int p2), .val (.int p3), .val (.int p4), .val (.int p5), .val (.int w), .val (.int h1), .unset, .unset, .unset, .unset, .unset, .unset, .unset]) rfl ?_
      show Steps p.tables e below (T3.setTop (mkF m 20 #[.val (.int p1), .val (.int p2), .val (.int p3), .val (.int p4), .val (.int p5), .val (.int w), .val (.int h1), .unset, .unset, .unset, .unset, .unset, .unset, .unset] [])) t
      refine XS.iload X3.here hx rfl (hb hby at_20) rfl ?_
      show Steps p.tables e below (T3.setTop (mkF m 22 #[.val (.int p1), .val (.int p2), .val (.int p3), .val (.int p4), .val (.int p5), .val (.int w), .val (.int h1), .unset, .unset, .unset, .unset, .unset, .unset, .unset] [(.int p5)])) t
      refine XS.iconst X3.here hx rfl (hb hby at_22) ?_
      show Steps p.tables e below (T3.setTop (mkF m 23 #[.val (.int p1), .val (.int p2), .val (.int p3), .val (.int p4), .val (.int p5), .val (.int w), .val (.int h1), .unset, .unset, .unset, .unset, .unset, .unset, .unset] [(.int (1 : Int32)), (.int p5)])) t
      refine XS.iand X3.here hx rfl (hb hby at_23) rfl ?_
      show Steps p.tables e below (T3.setTop (mkF m 24 #[.val (.int p1), .val (.int p2), .val (.int p3), .val (.int p4), .val (.int p5), .val (.int w), .val (.int h1), .unset, .unset, .unset, .unset, .unset, .unset, .unset] [(.int (p5 &&& (1 : Int32)))])) t
      refine XS.ifYes X3.here hx rfl (pc0 := 24) (pc' := 33) rfl (hb hby at_24) rfl ((if0 _ _).trans (teq s0).1) (by decide) (by decide) ?_
      show Steps p.tables e below (T3.setTop (mkF m 33 #[.val (.int p1), .val (.int p2), .val (.int p3), .val (.int p4), .val (.int p5), .val (.int w), .val (.int h1), .unset, .unset, .unset, .unset, .unset, .unset, .unset] [])) t
      exact st5 t k)
  obtain ⟨T7, hp7, X7, e7, E7, A7, D7, -, st7⟩ := newO X5 hx hZ hown (hw _ (List.mem_of_getElem? (i := 8) rfl)) (hw _ (List.mem_of_getElem? (i := 9) rfl)) (hw _ (List.mem_of_getElem? (i := 10) rfl)) e5 (g := (mkF m 76 #[.val (.int p1), .val (.int p2), .val (.int p3), .val (.int p4), .val (.int p5), .val (.int w), .val (.int h1), .val (.ref (ad 0)), .val (.int p3), .val (.int (h1 + (p4 % (2 : Int32)))), .unset, .unset, .unset, .unset] [])) rfl (hb hby at_76) (by decide) (by decide)
  obtain ⟨b7, g7⟩ : ∃ z, z = h0.size := ⟨_, rfl⟩
  rw [← g7] at A7 D7 st7
  have ne_ad0_b7 : (ad 0) ≠ b7 := Nat.ne_of_lt (Nat.lt_of_lt_of_le (own_E_DECLARED W).lt (Nat.le_of_eq g7.symm))
  have ne_ad1_b7 : (ad 1) ≠ b7 := Nat.ne_of_lt (Nat.lt_of_lt_of_le (own_E_SIZE W).lt (Nat.le_of_eq g7.symm))
  have g_b7 : n0 ≤ b7 := Nat.le_trans (Nat.le_trans Z0 (Keep.refl h0 []).1) (Nat.le_of_eq g7.symm)
  have sz_b7 : h0.size ≤ b7 := Nat.le_trans (Keep.refl h0 []).1 (Nat.le_of_eq g7.symm)
  have hk := Nat.le_trans hk E7.1
  have Kp7 := Keep.ext (Keep.refl h0 []) E7
  have F7_43 : Fld Z hp7 b7 "com/example/leafwright/leafwright/Thumbnails$Candidate" "url" "Ljava/lang/String;" .null := D7 (Or.inr (hw _ (List.mem_of_getElem? (i := 43) rfl))) (ty := (.object "java/lang/String")) (by decide)
  have F7_45 : Fld Z hp7 b7 "com/example/leafwright/leafwright/Thumbnails$Candidate" "width" "I" (.int (0 : Int32)) := D7 (Or.inr (hw _ (List.mem_of_getElem? (i := 45) rfl))) (ty := .int) (by decide)
  have F7_47 : Fld Z hp7 b7 "com/example/leafwright/leafwright/Thumbnails$Candidate" "height" "I" (.int (0 : Int32)) := D7 (Or.inr (hw _ (List.mem_of_getElem? (i := 47) rfl))) (ty := .int) (by decide)
  have F7_49 : Fld Z hp7 b7 "com/example/leafwright/leafwright/Thumbnails$Candidate" "source" "Lcom/example/leafwright/leafwright/Thumbnails$Source;" .null := D7 (Or.inr (hw _ (List.mem_of_getElem? (i := 49) rfl))) (ty := (.object "com/example/leafwright/leafwright/Thumbnails$Source")) (by decide)
  have ch8 : ∀ t, Steps p.tables e below (T7.setTop (mkF m 79 #[.val (.int p1), .val (.int p2), .val (.int p3), .val (.int p4), .val (.int p5), .val (.int w), .val (.int h1), .val (.ref (ad 0)), .val (.int p3), .val (.int (h1 + (p4 % (2 : Int32)))), .unset, .unset, .unset, .unset] [(.ref b7)])) t → Steps p.tables e below (s₁.setTop (entryFrame m #[(.int p1), (.int p2), (.int p3), (.int p4), (.int p5)] maxLocals)) t := fun t k => ch6 t (by
      show Steps p.tables e below (T5.setTop (mkF m 36 #[.val (.int p1), .val (.int p2), .val (.int p3), .val (.int p4), .val (.int p5), .val (.int w), .val (.int h1), .unset, .unset, .unset, .unset, .unset, .unset, .unset] [(.ref (ad 0))])) t
      refine XS.astore X5.here hx rfl (hb hby at_36) rfl rfl (l' := #[.val (.int p1), .val (.int p2), .val (.int p3), .val (.int p4), .val (.int p5), .val (.int w), .val (.int h1), .val (.ref (ad 0)), .unset, .unset, .unset, .unset, .unset, .unset]) rfl ?_
      show Steps p.tables e below (T5.setTop (mkF m 38 #[.val (.int p1), .val (.int p2), .val (.int p3), .val (.int p4), .val (.int p5), .val (.int w), .val (.int h1), .val (.ref (ad 0)), .unset, .unset, .unset, .unset, .unset, .unset] [])) t
      refine XS.iload X5.here hx rfl (hb hby at_38) rfl ?_
      show Steps p.tables e below (T5.setTop (mkF m 40 #[.val (.int p1), .val (.int p2), .val (.int p3), .val (.int p4), .val (.int p5), .val (.int w), .val (.int h1), .val (.ref (ad 0)), .unset, .unset, .unset, .unset, .unset, .unset] [(.int p5)])) t
      refine XS.iconst X5.here hx rfl (hb hby at_40) ?_
      show Steps p.tables e below (T5.setTop (mkF m 41 #[.val (.int p1), .val (.int p2), .val (.int p3), .val (.int p4), .val (.int p5), .val (.int w), .val (.int h1), .val (.ref (ad 0)), .unset, .unset, .unset, .unset, .unset, .unset] [(.int (2 : Int32)), (.int p5)])) t
      refine XS.iand X5.here hx rfl (hb hby at_41) rfl ?_
      show Steps p.tables e below (T5.setTop (mkF m 42 #[.val (.int p1), .val (.int p2), .val (.int p3), .val (.int p4), .val (.int p5), .val (.int w), .val (.int h1), .val (.ref (ad 0)), .unset, .unset, .unset, .unset, .unset, .unset] [(.int (p5 &&& (2 : Int32)))])) t
      refine XS.ifYes X5.here hx rfl (pc0 := 42) (pc' := 54) rfl (hb hby at_42) rfl ((if0 _ _).trans (teq s1).1) (by decide) (by decide) ?_
      show Steps p.tables e below (T5.setTop (mkF m 54 #[.val (.int p1), .val (.int p2), .val (.int p3), .val (.int p4), .val (.int p5), .val (.int w), .val (.int h1), .val (.ref (ad 0)), .unset, .unset, .unset, .unset, .unset, .unset] [])) t
      refine XS.iloadN X5.here hx rfl (hb hby at_54) rfl ?_
      show Steps p.tables e below (T5.setTop (mkF m 55 #[.val (.int p1), .val (.int p2), .val (.int p3), .val (.int p4), .val (.int p5), .val (.int w), .val (.int h1), .val (.ref (ad 0)), .unset, .unset, .unset, .unset, .unset, .unset] [(.int p3)])) t
      refine XS.istore X5.here hx rfl (hb hby at_55) rfl (l' := #[.val (.int p1), .val (.int p2), .val (.int p3), .val (.int p4), .val (.int p5), .val (.int w), .val (.int h1), .val (.ref (ad 0)), .val (.int p3), .unset, .unset, .unset, .unset, .unset]) rfl ?_
      show Steps p.tables e below (T5.setTop (mkF m 57 #[.val (.int p1), .val (.int p2), .val (.int p3), .val (.int p4), .val (.int p5), .val (.int w), .val (.int h1), .val (.ref (ad 0)), .val (.int p3), .unset, .unset, .unset, .unset, .unset] [])) t
      refine XS.iload X5.here hx rfl (hb hby at_57) rfl ?_
      show Steps p.tables e below (T5.setTop (mkF m 59 #[.val (.int p1), .val (.int p2), .val (.int p3), .val (.int p4), .val (.int p5), .val (.int w), .val (.int h1), .val (.ref (ad 0)), .val (.int p3), .unset, .unset, .unset, .unset, .unset] [(.int p5)])) t
      refine XS.iconst X5.here hx rfl (hb hby at_59) ?_
      show Steps p.tables e below (T5.setTop (mkF m 60 #[.val (.int p1), .val (.int p2), .val (.int p3), .val (.int p4), .val (.int p5), .val (.int w), .val (.int h1), .val (.ref (ad 0)), .val (.int p3), .unset, .unset, .unset, .unset, .unset] [(.int (4 : Int32)), (.int p5)])) t
      refine XS.iand X5.here hx rfl (hb hby at_60) rfl ?_
      show Steps p.tables e below (T5.setTop (mkF m 61 #[.val (.int p1), .val (.int p2), .val (.int p3), .val (.int p4), .val (.int p5), .val (.int w), .val (.int h1), .val (.ref (ad 0)), .val (.int p3), .unset, .unset, .unset, .unset, .unset] [(.int (p5 &&& (4 : Int32)))])) t
      refine XS.ifNo X5.here hx rfl (hb hby at_61) rfl ((if0 _ _).trans (feq s2).1) ?_
      show Steps p.tables e below (T5.setTop (mkF m 64 #[.val (.int p1), .val (.int p2), .val (.int p3), .val (.int p4), .val (.int p5), .val (.int w), .val (.int h1), .val (.ref (ad 0)), .val (.int p3), .unset, .unset, .unset, .unset, .unset] [])) t
      refine XS.iload X5.here hx rfl (hb hby at_64) rfl ?_
      show Steps p.tables e below (T5.setTop (mkF m 66 #[.val (.int p1), .val (.int p2), .val (.int p3), .val (.int p4), .val (.int p5), .val (.int w), .val (.int h1), .val (.ref (ad 0)), .val (.int p3), .unset, .unset, .unset, .unset, .unset] [(.int h1)])) t
      refine XS.iloadN X5.here hx rfl (hb hby at_66) rfl ?_
      show Steps p.tables e below (T5.setTop (mkF m 67 #[.val (.int p1), .val (.int p2), .val (.int p3), .val (.int p4), .val (.int p5), .val (.int w), .val (.int h1), .val (.ref (ad 0)), .val (.int p3), .unset, .unset, .unset, .unset, .unset] [(.int p4), (.int h1)])) t
      refine XS.iconst X5.here hx rfl (hb hby at_67) ?_
      show Steps p.tables e below (T5.setTop (mkF m 68 #[.val (.int p1), .val (.int p2), .val (.int p3), .val (.int p4), .val (.int p5), .val (.int w), .val (.int h1), .val (.ref (ad 0)), .val (.int p3), .unset, .unset, .unset, .unset, .unset] [(.int (2 : Int32)), (.int p4), (.int h1)])) t
      refine Jvm.RoadKit.iremM (g := (mkF m 68 #[.val (.int p1), .val (.int p2), .val (.int p3), .val (.int p4), .val (.int p5), .val (.int w), .val (.int h1), .val (.ref (ad 0)), .val (.int p3), .unset, .unset, .unset, .unset, .unset] [(.int (2 : Int32)), (.int p4), (.int h1)])) X5 hx rfl (hb hby at_68) rfl (by decide) ?_
      show Steps p.tables e below (T5.setTop (mkF m 69 #[.val (.int p1), .val (.int p2), .val (.int p3), .val (.int p4), .val (.int p5), .val (.int w), .val (.int h1), .val (.ref (ad 0)), .val (.int p3), .unset, .unset, .unset, .unset, .unset] [(.int (p4 % (2 : Int32))), (.int h1)])) t
      refine XS.iadd X5.here hx rfl (hb hby at_69) rfl ?_
      show Steps p.tables e below (T5.setTop (mkF m 70 #[.val (.int p1), .val (.int p2), .val (.int p3), .val (.int p4), .val (.int p5), .val (.int w), .val (.int h1), .val (.ref (ad 0)), .val (.int p3), .unset, .unset, .unset, .unset, .unset] [(.int (h1 + (p4 % (2 : Int32))))])) t
      refine XS.goto X5.here hx rfl (pc0 := 70) (pc' := 74) rfl (hb hby at_70) (by decide) (by decide) ?_
      show Steps p.tables e below (T5.setTop (mkF m 74 #[.val (.int p1), .val (.int p2), .val (.int p3), .val (.int p4), .val (.int p5), .val (.int w), .val (.int h1), .val (.ref (ad 0)), .val (.int p3), .unset, .unset, .unset, .unset, .unset] [(.int (h1 + (p4 % (2 : Int32))))])) t
      refine XS.istore X5.here hx rfl (hb hby at_74) rfl (l' := #[.val (.int p1), .val (.int p2), .val (.int p3), .val (.int p4), .val (.int p5), .val (.int w), .val (.int h1), .val (.ref (ad 0)), .val (.int p3), .val (.int (h1 + (p4 % (2 : Int32)))), .unset, .unset, .unset, .unset]) rfl ?_
      show Steps p.tables e below (T5.setTop (mkF m 76 #[.val (.int p1), .val (.int p2), .val (.int p3), .val (.int p4), .val (.int p5), .val (.int w), .val (.int h1), .val (.ref (ad 0)), .val (.int p3), .val (.int (h1 + (p4 % (2 : Int32)))), .unset, .unset, .unset, .unset] [])) t
      exact st7 t k)
  obtain ⟨ls9, T9, hp9, ks9, X9, e9, E9, hS, hk, hZ, hown, st9⟩ := ldcS X7 hx hZ hown (hw _ (List.mem_of_getElem? (i := 11) rfl)) (own_wS hw) e7 hS hk (g := (mkF m 80 #[.val (.int p1), .val (.int p2), .val (.int p3), .val (.int p4), .val (.int p5), .val (.int w), .val (.int h1), .val (.ref (ad 0)), .val (.int p3), .val (.int (h1 + (p4 % (2 : Int32)))), .unset, .unset, .unset, .unset] [(.ref b7), (.ref b7)])) rfl (hb hby at_80) (n := 4) (by decide) (by decide) (by decide) (by decide)
  have Kp9 := Keep.ext Kp7 E9
  have ch10 : ∀ t, Steps p.tables e below (T9.setTop (mkF m 82 #[.val (.int p1), .val (.int p2), .val (.int p3), .val (.int p4), .val (.int p5), .val (.int w), .val (.int h1), .val (.ref (ad 0)), .val (.int p3), .val (.int (h1 + (p4 % (2 : Int32)))), .unset, .unset, .unset, .unset] [(.ref ls9), (.ref b7), (.ref b7)])) t → Steps p.tables e below (s₁.setTop (entryFrame m #[(.int p1), (.int p2), (.int p3), (.int p4), (.int p5)] maxLocals)) t := fun t k => ch8 t (by
      show Steps p.tables e below (T7.setTop (mkF m 79 #[.val (.int p1), .val (.int p2), .val (.int p3), .val (.int p4), .val (.int p5), .val (.int w), .val (.int h1), .val (.ref (ad 0)), .val (.int p3), .val (.int (h1 + (p4 % (2 : Int32)))), .unset, .unset, .unset, .unset] [(.ref b7)])) t
      refine XS.dup X7.here hx rfl (hb hby at_79) rfl rfl ?_
      show Steps p.tables e below (T7.setTop (mkF m 80 #[.val (.int p1), .val (.int p2), .val (.int p3), .val (.int p4), .val (.int p5), .val (.int w), .val (.int h1), .val (.ref (ad 0)), .val (.int p3), .val (.int (h1 + (p4 % (2 : Int32)))), .unset, .unset, .unset, .unset] [(.ref b7), (.ref b7)])) t
      exact st9 t k)
  have cf11 := (A7.ext E9)
  have cf12 := (F7_43.ext E9)
  have cf13 := (F7_45.ext E9)
  have cf14 := (F7_47.ext E9)
  have cf15 := (F7_49.ext E9)
  obtain ⟨vv16, _, ⟨T16, L16, kk16, nn16⟩, -, X16, hS2, hgr, ⟨Lc16, hQ16, l16, y16, z16⟩, st16⟩ := X9.specialBackS hx (y := (⟨"com/example/leafwright/leafwright/Thumbnails$Candidate", "<init>", "(Ljava/lang/String;IILcom/example/leafwright/leafwright/Thumbnails$Source;)V"⟩ : MethodName)) rfl hown (mvT hZ (hw _ (List.mem_of_getElem? (i := 19) rfl))) (mvT hZ (hw _ (List.mem_of_getElem? (i := 20) rfl))) (mvT hZ (hw _ (List.mem_of_getElem? (i := 21) rfl))) (by decide) (backOfS (W := 1) (own_ini l Z a0 hw [] hp9 n0 (Nat.le_trans Z0 Kp9.1) b7 ls9 w h1 (ad 0) cf11 cf12 cf13 cf14 cf15 g_b7 pw ph) hZ (hw _ (List.mem_of_getElem? (i := 21) rfl)) (hw _ (List.mem_of_getElem? (i := 10) rfl)) (by decide) (by decide)) (g := (mkF m 88 #[.val (.int p1), .val (.int p2), .val (.int p3), .val (.int p4), .val (.int p5), .val (.int w), .val (.int h1), .val (.ref (ad 0)), .val (.int p3), .val (.int (h1 + (p4 % (2 : Int32)))), .unset, .unset, .unset, .unset] [(.ref (ad 0)), (.int h1), (.int w), (.ref ls9), (.ref b7), (.ref b7)])) rfl (by rw [hml]; rfl) (Steps.refl _) (a := b7) (argsL := [(.ref ls9), (.int w), (.int h1), (.ref (ad 0))]) (rest := [(.ref b7)]) (lenOf own_pd__Ljava_lang_String_IILcom_example_leafwright_leafwright_Thumbnails_Source__V rfl) rfl (by show 2 * 0 + _ ≤ _; exact Nat.le_of_eq rfl) (hb hby at_88) (fun _ _ => ⟨rfl, e9, (by decide : 3 + 8 ≤ _), (by decide : 12 + 96 ≤ _)⟩)
  dsimp only [Pt.U, Pt.locs, Pt.cells, Pt.slots] at X16 l16 y16 z16 st16 hQ16 hS2 hgr
  subst l16 y16 z16
  obtain ⟨X16, hS, hZ, hown⟩ := rebS hS (by rw [e9]; exact hk) X16 hS2 hgr hZ hown
  obtain ⟨hh16, eh16⟩ : ∃ h, T16.heap = h := ⟨_, rfl⟩
  rw [eh16] at hQ16
  rw [eh16] at hS
  have hk : hh16.size ≤ hh16.size := Nat.le_refl _
  obtain ⟨rfl, Nq16, Kq16, fq16_0, fq16_1, fq16_2, fq16_3, fq16_4⟩ := hQ16
  have N16 := Fr.app N3 Nq16
  have Kp16 := Keep.trans Kp9 Kq16 (allS (Or.inr sz_b7) all0)
  have ch17 : ∀ t, Steps p.tables e below (T16.setTop (mkF m 91 #[.val (.int p1), .val (.int p2), .val (.int p3), .val (.int p4), .val (.int p5), .val (.int w), .val (.int h1), .val (.ref (ad 0)), .val (.int p3), .val (.int (h1 + (p4 % (2 : Int32)))), .unset, .unset, .unset, .unset] [(.ref b7)])) t → Steps p.tables e below (s₁.setTop (entryFrame m #[(.int p1), (.int p2), (.int p3), (.int p4), (.int p5)] maxLocals)) t := fun t k => ch10 t (by
      show Steps p.tables e below (T9.setTop (mkF m 82 #[.val (.int p1), .val (.int p2), .val (.int p3), .val (.int p4), .val (.int p5), .val (.int w), .val (.int h1), .val (.ref (ad 0)), .val (.int p3), .val (.int (h1 + (p4 % (2 : Int32)))), .unset, .unset, .unset, .unset] [(.ref ls9), (.ref b7), (.ref b7)])) t
      refine XS.iload X9.here hx rfl (hb hby at_82) rfl ?_
      show Steps p.tables e below (T9.setTop (mkF m 84 #[.val (.int p1), .val (.int p2), .val (.int p3), .val (.int p4), .val (.int p5), .val (.int w), .val (.int h1), .val (.ref (ad 0)), .val (.int p3), .val (.int (h1 + (p4 % (2 : Int32)))), .unset, .unset, .unset, .unset] [(.int w), (.ref ls9), (.ref b7), (.ref b7)])) t
      refine XS.iload X9.here hx rfl (hb hby at_84) rfl ?_
      show Steps p.tables e below (T9.setTop (mkF m 86 #[.val (.int p1), .val (.int p2), .val (.int p3), .val (.int p4), .val (.int p5), .val (.int w), .val (.int h1), .val (.ref (ad 0)), .val (.int p3), .val (.int (h1 + (p4 % (2 : Int32)))), .unset, .unset, .unset, .unset] [(.int h1), (.int w), (.ref ls9), (.ref b7), (.ref b7)])) t
      refine XS.aload X9.here hx rfl (hb hby at_86) rfl rfl ?_
      show Steps p.tables e below (T9.setTop (mkF m 88 #[.val (.int p1), .val (.int p2), .val (.int p3), .val (.int p4), .val (.int p5), .val (.int w), .val (.int h1), .val (.ref (ad 0)), .val (.int p3), .val (.int (h1 + (p4 % (2 : Int32)))), .unset, .unset, .unset, .unset] [(.ref (ad 0)), (.int h1), (.int w), (.ref ls9), (.ref b7), (.ref b7)])) t
      exact st16.trans k)
  have ch19 : ∀ t, Steps p.tables e below (T16.setTop (mkF m 97 #[.val (.int p1), .val (.int p2), .val (.int p3), .val (.int p4), .val (.int p5), .val (.int w), .val (.int h1), .val (.ref (ad 0)), .val (.int p3), .val (.int (h1 + (p4 % (2 : Int32)))), .val (.ref b7), .unset, .unset, .unset] [(.int w), (.int p3)])) t → Steps p.tables e below (s₁.setTop (entryFrame m #[(.int p1), (.int p2), (.int p3), (.int p4), (.int p5)] maxLocals)) t := fun t k => ch17 t (by
      show Steps p.tables e below (T16.setTop (mkF m 91 #[.val (.int p1), .val (.int p2), .val (.int p3), .val (.int p4), .val (.int p5), .val (.int w), .val (.int h1), .val (.ref (ad 0)), .val (.int p3), .val (.int (h1 + (p4 % (2 : Int32)))), .unset, .unset, .unset, .unset] [(.ref b7)])) t
      refine XS.astore X16.here hx rfl (hb hby at_91) rfl rfl (l' := #[.val (.int p1), .val (.int p2), .val (.int p3), .val (.int p4), .val (.int p5), .val (.int w), .val (.int h1), .val (.ref (ad 0)), .val (.int p3), .val (.int (h1 + (p4 % (2 : Int32)))), .val (.ref b7), .unset, .unset, .unset]) rfl ?_
      show Steps p.tables e below (T16.setTop (mkF m 93 #[.val (.int p1), .val (.int p2), .val (.int p3), .val (.int p4), .val (.int p5), .val (.int w), .val (.int h1), .val (.ref (ad 0)), .val (.int p3), .val (.int (h1 + (p4 % (2 : Int32)))), .val (.ref b7), .unset, .unset, .unset] [])) t
      refine XS.iload X16.here hx rfl (hb hby at_93) rfl ?_
      show Steps p.tables e below (T16.setTop (mkF m 95 #[.val (.int p1), .val (.int p2), .val (.int p3), .val (.int p4), .val (.int p5), .val (.int w), .val (.int h1), .val (.ref (ad 0)), .val (.int p3), .val (.int (h1 + (p4 % (2 : Int32)))), .val (.ref b7), .unset, .unset, .unset] [(.int p3)])) t
      refine XS.iload X16.here hx rfl (hb hby at_95) rfl ?_
      exact k)
  by_cases hq18 : w < p3
  · skip
    have ch21 : ∀ t, Steps p.tables e below (T16.setTop (mkF m 104 #[.val (.int p1), .val (.int p2), .val (.int p3), .val (.int p4), .val (.int p5), .val (.int w), .val (.int h1), .val (.ref (ad 0)), .val (.int p3), .val (.int (h1 + (p4 % (2 : Int32)))), .val (.ref b7), .unset, .unset, .unset] [(.int h1), (.int (h1 + (p4 % (2 : Int32))))])) t → Steps p.tables e below (s₁.setTop (entryFrame m #[(.int p1), (.int p2), (.int p3), (.int p4), (.int p5)] maxLocals)) t := fun t k => ch19 t (by
        show Steps p.tables e below (T16.setTop (mkF m 97 #[.val (.int p1), .val (.int p2), .val (.int p3), .val (.int p4), .val (.int p5), .val (.int w), .val (.int h1), .val (.ref (ad 0)), .val (.int p3), .val (.int (h1 + (p4 % (2 : Int32)))), .val (.ref b7), .unset, .unset, .unset] [(.int w), (.int p3)])) t
        refine XS.icmpNo X16.here hx rfl (hb hby at_97) rfl (tlt hq18).2.2.2 ?_
        show Steps p.tables e below (T16.setTop (mkF m 100 #[.val (.int p1), .val (.int p2), .val (.int p3), .val (.int p4), .val (.int p5), .val (.int w), .val (.int h1), .val (.ref (ad 0)), .val (.int p3), .val (.int (h1 + (p4 % (2 : Int32)))), .val (.ref b7), .unset, .unset, .unset] [])) t
        refine XS.iload X16.here hx rfl (hb hby at_100) rfl ?_
        show Steps p.tables e below (T16.setTop (mkF m 102 #[.val (.int p1), .val (.int p2), .val (.int p3), .val (.int p4), .val (.int p5), .val (.int w), .val (.int h1), .val (.ref (ad 0)), .val (.int p3), .val (.int (h1 + (p4 % (2 : Int32)))), .val (.ref b7), .unset, .unset, .unset] [(.int (h1 + (p4 % (2 : Int32))))])) t
        refine XS.iload X16.here hx rfl (hb hby at_102) rfl ?_
        exact k)
    by_cases hq20 : h1 < (h1 + (p4 % (2 : Int32)))
    · skip
      obtain ⟨cq22, kq22, qa22, qb22, qc22⟩ := isOf hZ eh16 fq16_0
      obtain ⟨vv23, _, ⟨T23, L23, kk23, nn23⟩, -, X23, ⟨Lc23, hQ23, l23, y23, z23⟩, st23⟩ := X16.virtualBack hx (y := (⟨"com/example/leafwright/leafwright/Thumbnails$Candidate", "covers", "(II)Z"⟩ : MethodName)) (z := (⟨"com/example/leafwright/leafwright/Thumbnails$Candidate", "covers", "(II)Z"⟩ : MethodName)) hown (mvT hZ (hw _ (List.mem_of_getElem? (i := 50) rfl))) (mvT hZ (hw _ (List.mem_of_getElem? (i := 51) rfl))) (notFace_of_selects (args := #[]) (mvT hZ (hw _ (List.mem_of_getElem? (i := 53) rfl)))) (mvT hZ (hw _ (List.mem_of_getElem? (i := 53) rfl))) (mvT hZ (hw _ (List.mem_of_getElem? (i := 52) rfl))) (by decide) (backOf (W := 0) (own_cov_c l Z a0 hw [] hh16 n0 (Nat.le_trans Z0 Kp16.1) b7 w h1 p3 (h1 + (p4 % (2 : Int32))) fq16_2 fq16_3 hq18 hq20) hZ (hw _ (List.mem_of_getElem? (i := 54) rfl)) (hw _ (List.mem_of_getElem? (i := 10) rfl)) (by decide) (by decide)) qa22 qc22 (g := (mkF m 120 #[.val (.int p1), .val (.int p2), .val (.int p3), .val (.int p4), .val (.int p5), .val (.int w), .val (.int h1), .val (.ref (ad 0)), .val (.int p3), .val (.int (h1 + (p4 % (2 : Int32)))), .val (.ref b7), .val (.int (1 : Int32)), .unset, .unset] [(.int (h1 + (p4 % (2 : Int32)))), (.int p3), (.ref b7)])) rfl (by rw [hml]; rfl) (Steps.refl _) (argsL := [(.int p3), (.int (h1 + (p4 % (2 : Int32))))]) (rest := []) (lenOf own_pd__II_Z rfl) rfl (by show 2 * 0 + _ ≤ _; exact Nat.le_of_eq rfl) (hb hby at_120) (fun _ _ => ⟨rfl, eh16, (by decide : 11 + 0 ≤ _), (by decide : 108 + 0 ≤ _)⟩)
      dsimp only [Pt.U, Pt.locs, Pt.cells, Pt.slots] at X23 l23 y23 z23 st23 hQ23
      subst l23 y23 z23
      obtain ⟨rfl, Nq23, e23⟩ := hQ23
      have N23 := Fr.app N16 Nq23
      have ch24 : ∀ t, Steps p.tables e below (T23.setTop (mkF m 123 #[.val (.int p1), .val (.int p2), .val (.int p3), .val (.int p4), .val (.int p5), .val (.int w), .val (.int h1), .val (.ref (ad 0)), .val (.int p3), .val (.int (h1 + (p4 % (2 : Int32)))), .val (.ref b7), .val (.int (1 : Int32)), .unset, .unset] [(.int (0 : Int32))])) t → Steps p.tables e below (s₁.setTop (entryFrame m #[(.int p1), (.int p2), (.int p3), (.int p4), (.int p5)] maxLocals)) t := fun t k => ch21 t (by
          show Steps p.tables e below (T16.setTop (mkF m 104 #[.val (.int p1), .val (.int p2), .val (.int p3), .val (.int p4), .val (.int p5), .val (.int w), .val (.int h1), .val (.ref (ad 0)), .val (.int p3), .val (.int (h1 + (p4 % (2 : Int32)))), .val (.ref b7), .unset, .unset, .unset] [(.int h1), (.int (h1 + (p4 % (2 : Int32))))])) t
          refine XS.icmpNo X16.here hx rfl (hb hby at_104) rfl (tlt hq20).2.2.2 ?_
          show Steps p.tables e below (T16.setTop (mkF m 107 #[.val (.int p1), .val (.int p2), .val (.int p3), .val (.int p4), .val (.int p5), .val (.int w), .val (.int h1), .val (.ref (ad 0)), .val (.int p3), .val (.int (h1 + (p4 % (2 : Int32)))), .val (.ref b7), .unset, .unset, .unset] [])) t
          refine XS.iconst X16.here hx rfl (hb hby at_107) ?_
          show Steps p.tables e below (T16.setTop (mkF m 108 #[.val (.int p1), .val (.int p2), .val (.int p3), .val (.int p4), .val (.int p5), .val (.int w), .val (.int h1), .val (.ref (ad 0)), .val (.int p3), .val (.int (h1 + (p4 % (2 : Int32)))), .val (.ref b7), .unset, .unset, .unset] [(.int (1 : Int32))])) t
          refine XS.goto X16.here hx rfl (pc0 := 108) (pc' := 112) rfl (hb hby at_108) (by decide) (by decide) ?_
          show Steps p.tables e below (T16.setTop (mkF m 112 #[.val (.int p1), .val (.int p2), .val (.int p3), .val (.int p4), .val (.int p5), .val (.int w), .val (.int h1), .val (.ref (ad 0)), .val (.int p3), .val (.int (h1 + (p4 % (2 : Int32)))), .val (.ref b7), .unset, .unset, .unset] [(.int (1 : Int32))])) t
          refine XS.istore X16.here hx rfl (hb hby at_112) rfl (l' := #[.val (.int p1), .val (.int p2), .val (.int p3), .val (.int p4), .val (.int p5), .val (.int w), .val (.int h1), .val (.ref (ad 0)), .val (.int p3), .val (.int (h1 + (p4 % (2 : Int32)))), .val (.ref b7), .val (.int (1 : Int32)), .unset, .unset]) rfl ?_
          show Steps p.tables e below (T16.setTop (mkF m 114 #[.val (.int p1), .val (.int p2), .val (.int p3), .val (.int p4), .val (.int p5), .val (.int w), .val (.int h1), .val (.ref (ad 0)), .val (.int p3), .val (.int (h1 + (p4 % (2 : Int32)))), .val (.ref b7), .val (.int (1 : Int32)), .unset, .unset] [])) t
          refine XS.aload X16.here hx rfl (hb hby at_114) rfl rfl ?_
          show Steps p.tables e below (T16.setTop (mkF m 116 #[.val (.int p1), .val (.int p2), .val (.int p3), .val (.int p4), .val (.int p5), .val (.int w), .val (.int h1), .val (.ref (ad 0)), .val (.int p3), .val (.int (h1 + (p4 % (2 : Int32)))), .val (.ref b7), .val (.int (1 : Int32)), .unset, .unset] [(.ref b7)])) t
          refine XS.iload X16.here hx rfl (hb hby at_116) rfl ?_
          show Steps p.tables e below (T16.setTop (mkF m 118 #[.val (.int p1), .val (.int p2), .val (.int p3), .val (.int p4), .val (.int p5), .val (.int w), .val (.int h1), .val (.ref (ad 0)), .val (.int p3), .val (.int (h1 + (p4 % (2 : Int32)))), .val (.ref b7), .val (.int (1 : Int32)), .unset, .unset] [(.int p3), (.ref b7)])) t
          refine XS.iload X16.here hx rfl (hb hby at_118) rfl ?_
          show Steps p.tables e below (T16.setTop (mkF m 120 #[.val (.int p1), .val (.int p2), .val (.int p3), .val (.int p4), .val (.int p5), .val (.int w), .val (.int h1), .val (.ref (ad 0)), .val (.int p3), .val (.int (h1 + (p4 % (2 : Int32)))), .val (.ref b7), .val (.int (1 : Int32)), .unset, .unset] [(.int (h1 + (p4 % (2 : Int32)))), (.int p3), (.ref b7)])) t
          exact st23.trans k)
      obtain ⟨cq25, kq25, qa25, qb25, qc25⟩ := isOf hZ e23 fq16_0
      obtain ⟨vv26, _, ⟨T26, L26, kk26, nn26⟩, -, X26, ⟨Lc26, hQ26, l26, y26, z26⟩, st26⟩ := X23.virtualBack hx (y := (⟨"com/example/leafwright/leafwright/Thumbnails$Candidate", "covers", "(II)Z"⟩ : MethodName)) (z := (⟨"com/example/leafwright/leafwright/Thumbnails$Candidate", "covers", "(II)Z"⟩ : MethodName)) hown (mvT hZ (hw _ (List.mem_of_getElem? (i := 50) rfl))) (mvT hZ (hw _ (List.mem_of_getElem? (i := 51) rfl))) (notFace_of_selects (args := #[]) (mvT hZ (hw _ (List.mem_of_getElem? (i := 53) rfl)))) (mvT hZ (hw _ (List.mem_of_getElem? (i := 53) rfl))) (mvT hZ (hw _ (List.mem_of_getElem? (i := 52) rfl))) (by decide) (backOf (W := 0) (own_cov_a l Z a0 hw [] hh16 n0 (Nat.le_trans Z0 Kp16.1) b7 w h1 w h1 fq16_2 fq16_3 (Int32.lt_irrefl : ¬ w < w)) hZ (hw _ (List.mem_of_getElem? (i := 54) rfl)) (hw _ (List.mem_of_getElem? (i := 10) rfl)) (by decide) (by decide)) qa25 qc25 (g := (mkF m 131 #[.val (.int p1), .val (.int p2), .val (.int p3), .val (.int p4), .val (.int p5), .val (.int w), .val (.int h1), .val (.ref (ad 0)), .val (.int p3), .val (.int (h1 + (p4 % (2 : Int32)))), .val (.ref b7), .val (.int (1 : Int32)), .val (.int (0 : Int32)), .unset] [(.int h1), (.int w), (.ref b7)])) rfl (by rw [hml]; rfl) (Steps.refl _) (argsL := [(.int w), (.int h1)]) (rest := []) (lenOf own_pd__II_Z rfl) rfl (by show 2 * 0 + _ ≤ _; exact Nat.le_of_eq rfl) (hb hby at_131) (fun _ _ => ⟨rfl, e23, (by decide : 11 + 0 ≤ _), (by decide : 108 + 0 ≤ _)⟩)
      dsimp only [Pt.U, Pt.locs, Pt.cells, Pt.slots] at X26 l26 y26 z26 st26 hQ26
      subst l26 y26 z26
      obtain ⟨rfl, Nq26, e26⟩ := hQ26
      have N26 := Fr.app N23 Nq26
      have ch27 : ∀ t, Steps p.tables e below (T26.setTop (mkF m 134 #[.val (.int p1), .val (.int p2), .val (.int p3), .val (.int p4), .val (.int p5), .val (.int w), .val (.int h1), .val (.ref (ad 0)), .val (.int p3), .val (.int (h1 + (p4 % (2 : Int32)))), .val (.ref b7), .val (.int (1 : Int32)), .val (.int (0 : Int32)), .unset] [(.int (1 : Int32))])) t → Steps p.tables e below (s₁.setTop (entryFrame m #[(.int p1), (.int p2), (.int p3), (.int p4), (.int p5)] maxLocals)) t := fun t k => ch24 t (by
          show Steps p.tables e below (T23.setTop (mkF m 123 #[.val (.int p1), .val (.int p2), .val (.int p3), .val (.int p4), .val (.int p5), .val (.int w), .val (.int h1), .val (.ref (ad 0)), .val (.int p3), .val (.int (h1 + (p4 % (2 : Int32)))), .val (.ref b7), .val (.int (1 : Int32)), .unset, .unset] [(.int (0 : Int32))])) t
          refine XS.istore X23.here hx rfl (hb hby at_123) rfl (l' := #[.val (.int p1), .val (.int p2), .val (.int p3), .val (.int p4), .val (.int p5), .val (.int w), .val (.int h1), .val (.ref (ad 0)), .val (.int p3), .val (.int (h1 + (p4 % (2 : Int32)))), .val (.ref b7), .val (.int (1 : Int32)), .val (.int (0 : Int32)), .unset]) rfl ?_
          show Steps p.tables e below (T23.setTop (mkF m 125 #[.val (.int p1), .val (.int p2), .val (.int p3), .val (.int p4), .val (.int p5), .val (.int w), .val (.int h1), .val (.ref (ad 0)), .val (.int p3), .val (.int (h1 + (p4 % (2 : Int32)))), .val (.ref b7), .val (.int (1 : Int32)), .val (.int (0 : Int32)), .unset] [])) t
          refine XS.aload X23.here hx rfl (hb hby at_125) rfl rfl ?_
          show Steps p.tables e below (T23.setTop (mkF m 127 #[.val (.int p1), .val (.int p2), .val (.int p3), .val (.int p4), .val (.int p5), .val (.int w), .val (.int h1), .val (.ref (ad 0)), .val (.int p3), .val (.int (h1 + (p4 % (2 : Int32)))), .val (.ref b7), .val (.int (1 : Int32)), .val (.int (0 : Int32)), .unset] [(.ref b7)])) t
          refine XS.iload X23.here hx rfl (hb hby at_127) rfl ?_
          show Steps p.tables e below (T23.setTop (mkF m 129 #[.val (.int p1), .val (.int p2), .val (.int p3), .val (.int p4), .val (.int p5), .val (.int w), .val (.int h1), .val (.ref (ad 0)), .val (.int p3), .val (.int (h1 + (p4 % (2 : Int32)))), .val (.ref b7), .val (.int (1 : Int32)), .val (.int (0 : Int32)), .unset] [(.int w), (.ref b7)])) t
          refine XS.iload X23.here hx rfl (hb hby at_129) rfl ?_
          show Steps p.tables e below (T23.setTop (mkF m 131 #[.val (.int p1), .val (.int p2), .val (.int p3), .val (.int p4), .val (.int p5), .val (.int w), .val (.int h1), .val (.ref (ad 0)), .val (.int p3), .val (.int (h1 + (p4 % (2 : Int32)))), .val (.ref b7), .val (.int (1 : Int32)), .val (.int (0 : Int32)), .unset] [(.int h1), (.int w), (.ref b7)])) t
          exact st26.trans k)
      have ch28 : ∀ t, Steps p.tables e below (T26.setTop (mkF m 161 #[.val (.int p1), .val (.int p2), .val (.int p3), .val (.int p4), .val (.int p5), .val (.int w), .val (.int h1), .val (.ref (ad 0)), .val (.int p3), .val (.int (h1 + (p4 % (2 : Int32)))), .val (.ref b7), .val (.int (1 : Int32)), .val (.int (0 : Int32)), .val (.int (1 : Int32))] [(.int (1 : Int32))])) t → Steps p.tables e below (s₁.setTop (entryFrame m #[(.int p1), (.int p2), (.int p3), (.int p4), (.int p5)] maxLocals)) t := fun t k => ch27 t (by
          show Steps p.tables e below (T26.setTop (mkF m 134 #[.val (.int p1), .val (.int p2), .val (.int p3), .val (.int p4), .val (.int p5), .val (.int w), .val (.int h1), .val (.ref (ad 0)), .val (.int p3), .val (.int (h1 + (p4 % (2 : Int32)))), .val (.ref b7), .val (.int (1 : Int32)), .val (.int (0 : Int32)), .unset] [(.int (1 : Int32))])) t
          refine XS.istore X26.here hx rfl (hb hby at_134) rfl (l' := #[.val (.int p1), .val (.int p2), .val (.int p3), .val (.int p4), .val (.int p5), .val (.int w), .val (.int h1), .val (.ref (ad 0)), .val (.int p3), .val (.int (h1 + (p4 % (2 : Int32)))), .val (.ref b7), .val (.int (1 : Int32)), .val (.int (0 : Int32)), .val (.int (1 : Int32))]) rfl ?_
          show Steps p.tables e below (T26.setTop (mkF m 136 #[.val (.int p1), .val (.int p2), .val (.int p3), .val (.int p4), .val (.int p5), .val (.int w), .val (.int h1), .val (.ref (ad 0)), .val (.int p3), .val (.int (h1 + (p4 % (2 : Int32)))), .val (.ref b7), .val (.int (1 : Int32)), .val (.int (0 : Int32)), .val (.int (1 : Int32))] [])) t
          refine XS.iload X26.here hx rfl (hb hby at_136) rfl ?_
          show Steps p.tables e below (T26.setTop (mkF m 138 #[.val (.int p1), .val (.int p2), .val (.int p3), .val (.int p4), .val (.int p5), .val (.int w), .val (.int h1), .val (.ref (ad 0)), .val (.int p3), .val (.int (h1 + (p4 % (2 : Int32)))), .val (.ref b7), .val (.int (1 : Int32)), .val (.int (0 : Int32)), .val (.int (1 : Int32))] [(.int (0 : Int32))])) t
          refine XS.iload X26.here hx rfl (hb hby at_138) rfl ?_
          show Steps p.tables e below (T26.setTop (mkF m 140 #[.val (.int p1), .val (.int p2), .val (.int p3), .val (.int p4), .val (.int p5), .val (.int w), .val (.int h1), .val (.ref (ad 0)), .val (.int p3), .val (.int (h1 + (p4 % (2 : Int32)))), .val (.ref b7), .val (.int (1 : Int32)), .val (.int (0 : Int32)), .val (.int (1 : Int32))] [(.int (1 : Int32)), (.int (0 : Int32))])) t
          refine XS.ifYes X26.here hx rfl (pc0 := 140) (pc' := 147) rfl (hb hby at_140) rfl ((if0 _ _).trans (feq (by decide : ¬ (1 : Int32) = (0 : Int32))).2) (by decide) (by decide) ?_
          show Steps p.tables e below (T26.setTop (mkF m 147 #[.val (.int p1), .val (.int p2), .val (.int p3), .val (.int p4), .val (.int p5), .val (.int w), .val (.int h1), .val (.ref (ad 0)), .val (.int p3), .val (.int (h1 + (p4 % (2 : Int32)))), .val (.ref b7), .val (.int (1 : Int32)), .val (.int (0 : Int32)), .val (.int (1 : Int32))] [(.int (0 : Int32))])) t
          refine XS.iconst X26.here hx rfl (hb hby at_147) ?_
          show Steps p.tables e below (T26.setTop (mkF m 148 #[.val (.int p1), .val (.int p2), .val (.int p3), .val (.int p4), .val (.int p5), .val (.int w), .val (.int h1), .val (.ref (ad 0)), .val (.int p3), .val (.int (h1 + (p4 % (2 : Int32)))), .val (.ref b7), .val (.int (1 : Int32)), .val (.int (0 : Int32)), .val (.int (1 : Int32))] [(.int (0 : Int32)), (.int (0 : Int32))])) t
          refine XS.icmpNo X26.here hx rfl (hb hby at_148) rfl (teq (by decide : (0 : Int32) = (0 : Int32))).2 ?_
          show Steps p.tables e below (T26.setTop (mkF m 151 #[.val (.int p1), .val (.int p2), .val (.int p3), .val (.int p4), .val (.int p5), .val (.int w), .val (.int h1), .val (.ref (ad 0)), .val (.int p3), .val (.int (h1 + (p4 % (2 : Int32)))), .val (.ref b7), .val (.int (1 : Int32)), .val (.int (0 : Int32)), .val (.int (1 : Int32))] [])) t
          refine XS.iload X26.here hx rfl (hb hby at_151) rfl ?_
          show Steps p.tables e below (T26.setTop (mkF m 153 #[.val (.int p1), .val (.int p2), .val (.int p3), .val (.int p4), .val (.int p5), .val (.int w), .val (.int h1), .val (.ref (ad 0)), .val (.int p3), .val (.int (h1 + (p4 % (2 : Int32)))), .val (.ref b7), .val (.int (1 : Int32)), .val (.int (0 : Int32)), .val (.int (1 : Int32))] [(.int (1 : Int32))])) t
          refine XS.ifNo X26.here hx rfl (hb hby at_153) rfl ((if0 _ _).trans (feq (by decide : ¬ (1 : Int32) = (0 : Int32))).1) ?_
          show Steps p.tables e below (T26.setTop (mkF m 156 #[.val (.int p1), .val (.int p2), .val (.int p3), .val (.int p4), .val (.int p5), .val (.int w), .val (.int h1), .val (.ref (ad 0)), .val (.int p3), .val (.int (h1 + (p4 % (2 : Int32)))), .val (.ref b7), .val (.int (1 : Int32)), .val (.int (0 : Int32)), .val (.int (1 : Int32))] [])) t
          refine XS.iconst X26.here hx rfl (hb hby at_156) ?_
          show Steps p.tables e below (T26.setTop (mkF m 157 #[.val (.int p1), .val (.int p2), .val (.int p3), .val (.int p4), .val (.int p5), .val (.int w), .val (.int h1), .val (.ref (ad 0)), .val (.int p3), .val (.int (h1 + (p4 % (2 : Int32)))), .val (.ref b7), .val (.int (1 : Int32)), .val (.int (0 : Int32)), .val (.int (1 : Int32))] [(.int (1 : Int32))])) t
          refine XS.goto X26.here hx rfl (pc0 := 157) (pc' := 161) rfl (hb hby at_157) (by decide) (by decide) ?_
          exact k)
      obtain ⟨fs, hr, hrun, hended, hend⟩ := X26.leaveW hS (by rw [e26]; exact hk) (v := some (.int (1 : Int32))) (fun h => by rw [Bd.returns] at h; cases h)
      refine ⟨_, _, ch28 _ ?_, hrun, hended, _, _, rfl, ?_, hend.1, hend.2.1, hend.2.2.1, hend.2.2.2.mono (by decide) (by decide)⟩
      · show Steps p.tables e below (T26.setTop (mkF m 161 #[.val (.int p1), .val (.int p2), .val (.int p3), .val (.int p4), .val (.int p5), .val (.int w), .val (.int h1), .val (.ref (ad 0)), .val (.int p3), .val (.int (h1 + (p4 % (2 : Int32)))), .val (.ref b7), .val (.int (1 : Int32)), .val (.int (0 : Int32)), .val (.int (1 : Int32))] [(.int (1 : Int32))])) _
        exact retN X26 hx (t := .boolean) Bd.returns (by simp) (hb hby at_161) hr
      · show QN (some (.int (1 : Int32))) n0 _ T26.heap _
        rw [e26]
        exact ⟨rfl, N26⟩
    · skip
      obtain ⟨cq29, kq29, qa29, qb29, qc29⟩ := isOf hZ eh16 fq16_0
      obtain ⟨vv30, _, ⟨T30, L30, kk30, nn30⟩, -, X30, ⟨Lc30, hQ30, l30, y30, z30⟩, st30⟩ := X16.virtualBack hx (y := (⟨"com/example/leafwright/leafwright/Thumbnails$Candidate", "covers", "(II)Z"⟩ : MethodName)) (z := (⟨"com/example/leafwright/leafwright/Thumbnails$Candidate", "covers", "(II)Z"⟩ : MethodName)) hown (mvT hZ (hw _ (List.mem_of_getElem? (i := 50) rfl))) (mvT hZ (hw _ (List.mem_of_getElem? (i := 51) rfl))) (notFace_of_selects (args := #[]) (mvT hZ (hw _ (List.mem_of_getElem? (i := 53) rfl)))) (mvT hZ (hw _ (List.mem_of_getElem? (i := 53) rfl))) (mvT hZ (hw _ (List.mem_of_getElem? (i := 52) rfl))) (by decide) (backOf (W := 0) (own_cov_b l Z a0 hw [] hh16 n0 (Nat.le_trans Z0 Kp16.1) b7 w h1 p3 (h1 + (p4 % (2 : Int32))) fq16_2 fq16_3 hq18 hq20) hZ (hw _ (List.mem_of_getElem? (i := 54) rfl)) (hw _ (List.mem_of_getElem? (i := 10) rfl)) (by decide) (by decide)) qa29 qc29 (g := (mkF m 120 #[.val (.int p1), .val (.int p2), .val (.int p3), .val (.int p4), .val (.int p5), .val (.int w), .val (.int h1), .val (.ref (ad 0)), .val (.int p3), .val (.int (h1 + (p4 % (2 : Int32)))), .val (.ref b7), .val (.int (0 : Int32)), .unset, .unset] [(.int (h1 + (p4 % (2 : Int32)))), (.int p3), (.ref b7)])) rfl (by rw [hml]; rfl) (Steps.refl _) (argsL := [(.int p3), (.int (h1 + (p4 % (2 : Int32))))]) (rest := []) (lenOf own_pd__II_Z rfl) rfl (by show 2 * 0 + _ ≤ _; exact Nat.le_of_eq rfl) (hb hby at_120) (fun _ _ => ⟨rfl, eh16, (by decide : 11 + 0 ≤ _), (by decide : 108 + 0 ≤ _)⟩)
      dsimp only [Pt.U, Pt.locs, Pt.cells, Pt.slots] at X30 l30 y30 z30 st30 hQ30
      subst l30 y30 z30
      obtain ⟨rfl, Nq30, e30⟩ := hQ30
      have N30 := Fr.app N16 Nq30
      have ch31 : ∀ t, Steps p.tables e below (T30.setTop (mkF m 123 #[.val (.int p1), .val (.int p2), .val (.int p3), .val (.int p4), .val (.int p5), .val (.int w), .val (.int h1), .val (.ref (ad 0)), .val (.int p3), .val (.int (h1 + (p4 % (2 : Int32)))), .val (.ref b7), .val (.int (0 : Int32)), .unset, .unset] [(.int (1 : Int32))])) t → Steps p.tables e below (s₁.setTop (entryFrame m #[(.int p1), (.int p2), (.int p3), (.int p4), (.int p5)] maxLocals)) t := fun t k => ch21 t (by
          show Steps p.tables e below (T16.setTop (mkF m 104 #[.val (.int p1), .val (.int p2), .val (.int p3), .val (.int p4), .val (.int p5), .val (.int w), .val (.int h1), .val (.ref (ad 0)), .val (.int p3), .val (.int (h1 + (p4 % (2 : Int32)))), .val (.ref b7), .unset, .unset, .unset] [(.int h1), (.int (h1 + (p4 % (2 : Int32))))])) t
          refine XS.icmpYes X16.here hx rfl (pc0 := 104) (pc' := 111) rfl (hb hby at_104) rfl (flt hq20).2.2.2 (by decide) (by decide) ?_
          show Steps p.tables e below (T16.setTop (mkF m 111 #[.val (.int p1), .val (.int p2), .val (.int p3), .val (.int p4), .val (.int p5), .val (.int w), .val (.int h1), .val (.ref (ad 0)), .val (.int p3), .val (.int (h1 + (p4 % (2 : Int32)))), .val (.ref b7), .unset, .unset, .unset] [])) t
          refine XS.iconst X16.here hx rfl (hb hby at_111) ?_
          show Steps p.tables e below (T16.setTop (mkF m 112 #[.val (.int p1), .val (.int p2), .val (.int p3), .val (.int p4), .val (.int p5), .val (.int w), .val (.int h1), .val (.ref (ad 0)), .val (.int p3), .val (.int (h1 + (p4 % (2 : Int32)))), .val (.ref b7), .unset, .unset, .unset] [(.int (0 : Int32))])) t
          refine XS.istore X16.here hx rfl (hb hby at_112) rfl (l' := #[.val (.int p1), .val (.int p2), .val (.int p3), .val (.int p4), .val (.int p5), .val (.int w), .val (.int h1), .val (.ref (ad 0)), .val (.int p3), .val (.int (h1 + (p4 % (2 : Int32)))), .val (.ref b7), .val (.int (0 : Int32)), .unset, .unset]) rfl ?_
          show Steps p.tables e below (T16.setTop (mkF m 114 #[.val (.int p1), .val (.int p2), .val (.int p3), .val (.int p4), .val (.int p5), .val (.int w), .val (.int h1), .val (.ref (ad 0)), .val (.int p3), .val (.int (h1 + (p4 % (2 : Int32)))), .val (.ref b7), .val (.int (0 : Int32)), .unset, .unset] [])) t
          refine XS.aload X16.here hx rfl (hb hby at_114) rfl rfl ?_
          show Steps p.tables e below (T16.setTop (mkF m 116 #[.val (.int p1), .val (.int p2), .val (.int p3), .val (.int p4), .val (.int p5), .val (.int w), .val (.int h1), .val (.ref (ad 0)), .val (.int p3), .val (.int (h1 + (p4 % (2 : Int32)))), .val (.ref b7), .val (.int (0 : Int32)), .unset, .unset] [(.ref b7)])) t
          refine XS.iload X16.here hx rfl (hb hby at_116) rfl ?_
          show Steps p.tables e below (T16.setTop (mkF m 118 #[.val (.int p1), .val (.int p2), .val (.int p3), .val (.int p4), .val (.int p5), .val (.int w), .val (.int h1), .val (.ref (ad 0)), .val (.int p3), .val (.int (h1 + (p4 % (2 : Int32)))), .val (.ref b7), .val (.int (0 : Int32)), .unset, .unset] [(.int p3), (.ref b7)])) t
          refine XS.iload X16.here hx rfl (hb hby at_118) rfl ?_
          show Steps p.tables e below (T16.setTop (mkF m 120 #[.val (.int p1), .val (.int p2), .val (.int p3), .val (.int p4), .val (.int p5), .val (.int w), .val (.int h1), .val (.ref (ad 0)), .val (.int p3), .val (.int (h1 + (p4 % (2 : Int32)))), .val (.ref b7), .val (.int (0 : Int32)), .unset, .unset] [(.int (h1 + (p4 % (2 : Int32)))), (.int p3), (.ref b7)])) t
          exact st30.trans k)
      obtain ⟨cq32, kq32, qa32, qb32, qc32⟩ := isOf hZ e30 fq16_0
      obtain ⟨vv33, _, ⟨T33, L33, kk33, nn33⟩, -, X33, ⟨Lc33, hQ33, l33, y33, z33⟩, st33⟩ := X30.virtualBack hx (y := (⟨"com/example/leafwright/leafwright/Thumbnails$Candidate", "covers", "(II)Z"⟩ : MethodName)) (z := (⟨"com/example/leafwright/leafwright/Thumbnails$Candidate", "covers", "(II)Z"⟩ : MethodName)) hown (mvT hZ (hw _ (List.mem_of_getElem? (i := 50) rfl))) (mvT hZ (hw _ (List.mem_of_getElem? (i := 51) rfl))) (notFace_of_selects (args := #[]) (mvT hZ (hw _ (List.mem_of_getElem? (i := 53) rfl)))) (mvT hZ (hw _ (List.mem_of_getElem? (i := 53) rfl))) (mvT hZ (hw _ (List.mem_of_getElem? (i := 52) rfl))) (by decide) (backOf (W := 0) (own_cov_a l Z a0 hw [] hh16 n0 (Nat.le_trans Z0 Kp16.1) b7 w h1 w h1 fq16_2 fq16_3 (Int32.lt_irrefl : ¬ w < w)) hZ (hw _ (List.mem_of_getElem? (i := 54) rfl)) (hw _ (List.mem_of_getElem? (i := 10) rfl)) (by decide) (by decide)) qa32 qc32 (g := (mkF m 131 #[.val (.int p1), .val (.int p2), .val (.int p3), .val (.int p4), .val (.int p5), .val (.int w), .val (.int h1), .val (.ref (ad 0)), .val (.int p3), .val (.int (h1 + (p4 % (2 : Int32)))), .val (.ref b7), .val (.int (0 : Int32)), .val (.int (1 : Int32)), .unset] [(.int h1), (.int w), (.ref b7)])) rfl (by rw [hml]; rfl) (Steps.refl _) (argsL := [(.int w), (.int h1)]) (rest := []) (lenOf own_pd__II_Z rfl) rfl (by show 2 * 0 + _ ≤ _; exact Nat.le_of_eq rfl) (hb hby at_131) (fun _ _ => ⟨rfl, e30, (by decide : 11 + 0 ≤ _), (by decide : 108 + 0 ≤ _)⟩)
      dsimp only [Pt.U, Pt.locs, Pt.cells, Pt.slots] at X33 l33 y33 z33 st33 hQ33
      subst l33 y33 z33
      obtain ⟨rfl, Nq33, e33⟩ := hQ33
      have N33 := Fr.app N30 Nq33
      have ch34 : ∀ t, Steps p.tables e below (T33.setTop (mkF m 134 #[.val (.int p1), .val (.int p2), .val (.int p3), .val (.int p4), .val (.int p5), .val (.int w), .val (.int h1), .val (.ref (ad 0)), .val (.int p3), .val (.int (h1 + (p4 % (2 : Int32)))), .val (.ref b7), .val (.int (0 : Int32)), .val (.int (1 : Int32)), .unset] [(.int (1 : Int32))])) t → Steps p.tables e below (s₁.setTop (entryFrame m #[(.int p1), (.int p2), (.int p3), (.int p4), (.int p5)] maxLocals)) t := fun t k => ch31 t (by
          show Steps p.tables e below (T30.setTop (mkF m 123 #[.val (.int p1), .val (.int p2), .val (.int p3), .val (.int p4), .val (.int p5), .val (.int w), .val (.int h1), .val (.ref (ad 0)), .val (.int p3), .val (.int (h1 + (p4 % (2 : Int32)))), .val (.ref b7), .val (.int (0 : Int32)), .unset, .unset] [(.int (1 : Int32))])) t
          refine XS.istore X30.here hx rfl (hb hby at_123) rfl (l' := #[.val (.int p1), .val (.int p2), .val (.int p3), .val (.int p4), .val (.int p5), .val (.int w), .val (.int h1), .val (.ref (ad 0)), .val (.int p3), .val (.int (h1 + (p4 % (2 : Int32)))), .val (.ref b7), .val (.int (0 : Int32)), .val (.int (1 : Int32)), .unset]) rfl ?_
          show Steps p.tables e below (T30.setTop (mkF m 125 #[.val (.int p1), .val (.int p2), .val (.int p3), .val (.int p4), .val (.int p5), .val (.int w), .val (.int h1), .val (.ref (ad 0)), .val (.int p3), .val (.int (h1 + (p4 % (2 : Int32)))), .val (.ref b7), .val (.int (0 : Int32)), .val (.int (1 : Int32)), .unset] [])) t
          refine XS.aload X30.here hx rfl (hb hby at_125) rfl rfl ?_
          show Steps p.tables e below (T30.setTop (mkF m 127 #[.val (.int p1), .val (.int p2), .val (.int p3), .val (.int p4), .val (.int p5), .val (.int w), .val (.int h1), .val (.ref (ad 0)), .val (.int p3), .val (.int (h1 + (p4 % (2 : Int32)))), .val (.ref b7), .val (.int (0 : Int32)), .val (.int (1 : Int32)), .unset] [(.ref b7)])) t
          refine XS.iload X30.here hx rfl (hb hby at_127) rfl ?_
          show Steps p.tables e below (T30.setTop (mkF m 129 #[.val (.int p1), .val (.int p2), .val (.int p3), .val (.int p4), .val (.int p5), .val (.int w), .val (.int h1), .val (.ref (ad 0)), .val (.int p3), .val (.int (h1 + (p4 % (2 : Int32)))), .val (.ref b7), .val (.int (0 : Int32)), .val (.int (1 : Int32)), .unset] [(.int w), (.ref b7)])) t
          refine XS.iload X30.here hx rfl (hb hby at_129) rfl ?_
          show Steps p.tables e below (T30.setTop (mkF m 131 #[.val (.int p1), .val (.int p2), .val (.int p3), .val (.int p4), .val (.int p5), .val (.int w), .val (.int h1), .val (.ref (ad 0)), .val (.int p3), .val (.int (h1 + (p4 % (2 : Int32)))), .val (.ref b7), .val (.int (0 : Int32)), .val (.int (1 : Int32)), .unset] [(.int h1), (.int w), (.ref b7)])) t
          exact st33.trans k)
      have ch35 : ∀ t, Steps p.tables e below (T33.setTop (mkF m 161 #[.val (.int p1), .val (.int p2), .val (.int p3), .val (.int p4), .val (.int p5), .val (.int w), .val (.int h1), .val (.ref (ad 0)), .val (.int p3), .val (.int (h1 + (p4 % (2 : Int32)))), .val (.ref b7), .val (.int (0 : Int32)), .val (.int (1 : Int32)), .val (.int (1 : Int32))] [(.int (1 : Int32))])) t → Steps p.tables e below (s₁.setTop (entryFrame m #[(.int p1), (.int p2), (.int p3), (.int p4), (.int p5)] maxLocals)) t := fun t k => ch34 t (by
          show Steps p.tables e below (T33.setTop (mkF m 134 #[.val (.int p1), .val (.int p2), .val (.int p3), .val (.int p4), .val (.int p5), .val (.int w), .val (.int h1), .val (.ref (ad 0)), .val (.int p3), .val (.int (h1 + (p4 % (2 : Int32)))), .val (.ref b7), .val (.int (0 : Int32)), .val (.int (1 : Int32)), .unset] [(.int (1 : Int32))])) t
          refine XS.istore X33.here hx rfl (hb hby at_134) rfl (l' := #[.val (.int p1), .val (.int p2), .val (.int p3), .val (.int p4), .val (.int p5), .val (.int w), .val (.int h1), .val (.ref (ad 0)), .val (.int p3), .val (.int (h1 + (p4 % (2 : Int32)))), .val (.ref b7), .val (.int (0 : Int32)), .val (.int (1 : Int32)), .val (.int (1 : Int32))]) rfl ?_
          show Steps p.tables e below (T33.setTop (mkF m 136 #[.val (.int p1), .val (.int p2), .val (.int p3), .val (.int p4), .val (.int p5), .val (.int w), .val (.int h1), .val (.ref (ad 0)), .val (.int p3), .val (.int (h1 + (p4 % (2 : Int32)))), .val (.ref b7), .val (.int (0 : Int32)), .val (.int (1 : Int32)), .val (.int (1 : Int32))] [])) t
          refine XS.iload X33.here hx rfl (hb hby at_136) rfl ?_
          show Steps p.tables e below (T33.setTop (mkF m 138 #[.val (.int p1), .val (.int p2), .val (.int p3), .val (.int p4), .val (.int p5), .val (.int w), .val (.int h1), .val (.ref (ad 0)), .val (.int p3), .val (.int (h1 + (p4 % (2 : Int32)))), .val (.ref b7), .val (.int (0 : Int32)), .val (.int (1 : Int32)), .val (.int (1 : Int32))] [(.int (1 : Int32))])) t
          refine XS.iload X33.here hx rfl (hb hby at_138) rfl ?_
          show Steps p.tables e below (T33.setTop (mkF m 140 #[.val (.int p1), .val (.int p2), .val (.int p3), .val (.int p4), .val (.int p5), .val (.int w), .val (.int h1), .val (.ref (ad 0)), .val (.int p3), .val (.int (h1 + (p4 % (2 : Int32)))), .val (.ref b7), .val (.int (0 : Int32)), .val (.int (1 : Int32)), .val (.int (1 : Int32))] [(.int (0 : Int32)), (.int (1 : Int32))])) t
          refine XS.ifNo X33.here hx rfl (hb hby at_140) rfl ((if0 _ _).trans (teq (by decide : (0 : Int32) = (0 : Int32))).2) ?_
          show Steps p.tables e below (T33.setTop (mkF m 143 #[.val (.int p1), .val (.int p2), .val (.int p3), .val (.int p4), .val (.int p5), .val (.int w), .val (.int h1), .val (.ref (ad 0)), .val (.int p3), .val (.int (h1 + (p4 % (2 : Int32)))), .val (.ref b7), .val (.int (0 : Int32)), .val (.int (1 : Int32)), .val (.int (1 : Int32))] [(.int (1 : Int32))])) t
          refine XS.iconst X33.here hx rfl (hb hby at_143) ?_
          show Steps p.tables e below (T33.setTop (mkF m 144 #[.val (.int p1), .val (.int p2), .val (.int p3), .val (.int p4), .val (.int p5), .val (.int w), .val (.int h1), .val (.ref (ad 0)), .val (.int p3), .val (.int (h1 + (p4 % (2 : Int32)))), .val (.ref b7), .val (.int (0 : Int32)), .val (.int (1 : Int32)), .val (.int (1 : Int32))] [(.int (1 : Int32)), (.int (1 : Int32))])) t
          refine XS.goto X33.here hx rfl (pc0 := 144) (pc' := 148) rfl (hb hby at_144) (by decide) (by decide) ?_
          show Steps p.tables e below (T33.setTop (mkF m 148 #[.val (.int p1), .val (.int p2), .val (.int p3), .val (.int p4), .val (.int p5), .val (.int w), .val (.int h1), .val (.ref (ad 0)), .val (.int p3), .val (.int (h1 + (p4 % (2 : Int32)))), .val (.ref b7), .val (.int (0 : Int32)), .val (.int (1 : Int32)), .val (.int (1 : Int32))] [(.int (1 : Int32)), (.int (1 : Int32))])) t
          refine XS.icmpNo X33.here hx rfl (hb hby at_148) rfl (teq (by decide : (1 : Int32) = (1 : Int32))).2 ?_
          show Steps p.tables e below (T33.setTop (mkF m 151 #[.val (.int p1), .val (.int p2), .val (.int p3), .val (.int p4), .val (.int p5), .val (.int w), .val (.int h1), .val (.ref (ad 0)), .val (.int p3), .val (.int (h1 + (p4 % (2 : Int32)))), .val (.ref b7), .val (.int (0 : Int32)), .val (.int (1 : Int32)), .val (.int (1 : Int32))] [])) t
          refine XS.iload X33.here hx rfl (hb hby at_151) rfl ?_
          show Steps p.tables e below (T33.setTop (mkF m 153 #[.val (.int p1), .val (.int p2), .val (.int p3), .val (.int p4), .val (.int p5), .val (.int w), .val (.int h1), .val (.ref (ad 0)), .val (.int p3), .val (.int (h1 + (p4 % (2 : Int32)))), .val (.ref b7), .val (.int (0 : Int32)), .val (.int (1 : Int32)), .val (.int (1 : Int32))] [(.int (1 : Int32))])) t
          refine XS.ifNo X33.here hx rfl (hb hby at_153) rfl ((if0 _ _).trans (feq (by decide : ¬ (1 : Int32) = (0 : Int32))).1) ?_
          show Steps p.tables e below (T33.setTop (mkF m 156 #[.val (.int p1), .val (.int p2), .val (.int p3), .val (.int p4), .val (.int p5), .val (.int w), .val (.int h1), .val (.ref (ad 0)), .val (.int p3), .val (.int (h1 + (p4 % (2 : Int32)))), .val (.ref b7), .val (.int (0 : Int32)), .val (.int (1 : Int32)), .val (.int (1 : Int32))] [])) t
          refine XS.iconst X33.here hx rfl (hb hby at_156) ?_
          show Steps p.tables e below (T33.setTop (mkF m 157 #[.val (.int p1), .val (.int p2), .val (.int p3), .val (.int p4), .val (.int p5), .val (.int w), .val (.int h1), .val (.ref (ad 0)), .val (.int p3), .val (.int (h1 + (p4 % (2 : Int32)))), .val (.ref b7), .val (.int (0 : Int32)), .val (.int (1 : Int32)), .val (.int (1 : Int32))] [(.int (1 : Int32))])) t
          refine XS.goto X33.here hx rfl (pc0 := 157) (pc' := 161) rfl (hb hby at_157) (by decide) (by decide) ?_
          exact k)
      obtain ⟨fs, hr, hrun, hended, hend⟩ := X33.leaveW hS (by rw [e33]; exact hk) (v := some (.int (1 : Int32))) (fun h => by rw [Bd.returns] at h; cases h)
      refine ⟨_, _, ch35 _ ?_, hrun, hended, _, _, rfl, ?_, hend.1, hend.2.1, hend.2.2.1, hend.2.2.2.mono (by decide) (by decide)⟩
      · show Steps p.tables e below (T33.setTop (mkF m 161 #[.val (.int p1), .val (.int p2), .val (.int p3), .val (.int p4), .val (.int p5), .val (.int w), .val (.int h1), .val (.ref (ad 0)), .val (.int p3), .val (.int (h1 + (p4 % (2 : Int32)))), .val (.ref b7), .val (.int (0 : Int32)), .val (.int (1 : Int32)), .val (.int (1 : Int32))] [(.int (1 : Int32))])) _
        exact retN X33 hx (t := .boolean) Bd.returns (by simp) (hb hby at_161) hr
      · show QN (some (.int (1 : Int32))) n0 _ T33.heap _
        rw [e33]
        exact ⟨rfl, N33⟩
  · skip
    obtain ⟨cq36, kq36, qa36, qb36, qc36⟩ := isOf hZ eh16 fq16_0
    obtain ⟨vv37, _, ⟨T37, L37, kk37, nn37⟩, -, X37, ⟨Lc37, hQ37, l37, y37, z37⟩, st37⟩ := X16.virtualBack hx (y := (⟨"com/example/leafwright/leafwright/Thumbnails$Candidate", "covers", "(II)Z"⟩ : MethodName)) (z := (⟨"com/example/leafwright/leafwright/Thumbnails$Candidate", "covers", "(II)Z"⟩ : MethodName)) hown (mvT hZ (hw _ (List.mem_of_getElem? (i := 50) rfl))) (mvT hZ (hw _ (List.mem_of_getElem? (i := 51) rfl))) (notFace_of_selects (args := #[]) (mvT hZ (hw _ (List.mem_of_getElem? (i := 53) rfl)))) (mvT hZ (hw _ (List.mem_of_getElem? (i := 53) rfl))) (mvT hZ (hw _ (List.mem_of_getElem? (i := 52) rfl))) (by decide) (backOf (W := 0) (own_cov_a l Z a0 hw [] hh16 n0 (Nat.le_trans Z0 Kp16.1) b7 w h1 p3 (h1 + (p4 % (2 : Int32))) fq16_2 fq16_3 hq18) hZ (hw _ (List.mem_of_getElem? (i := 54) rfl)) (hw _ (List.mem_of_getElem? (i := 10) rfl)) (by decide) (by decide)) qa36 qc36 (g := (mkF m 120 #[.val (.int p1), .val (.int p2), .val (.int p3), .val (.int p4), .val (.int p5), .val (.int w), .val (.int h1), .val (.ref (ad 0)), .val (.int p3), .val (.int (h1 + (p4 % (2 : Int32)))), .val (.ref b7), .val (.int (0 : Int32)), .unset, .unset] [(.int (h1 + (p4 % (2 : Int32)))), (.int p3), (.ref b7)])) rfl (by rw [hml]; rfl) (Steps.refl _) (argsL := [(.int p3), (.int (h1 + (p4 % (2 : Int32))))]) (rest := []) (lenOf own_pd__II_Z rfl) rfl (by show 2 * 0 + _ ≤ _; exact Nat.le_of_eq rfl) (hb hby at_120) (fun _ _ => ⟨rfl, eh16, (by decide : 11 + 0 ≤ _), (by decide : 108 + 0 ≤ _)⟩)
    dsimp only [Pt.U, Pt.locs, Pt.cells, Pt.slots] at X37 l37 y37 z37 st37 hQ37
    subst l37 y37 z37
    obtain ⟨rfl, Nq37, e37⟩ := hQ37
    have N37 := Fr.app N16 Nq37
    have ch38 : ∀ t, Steps p.tables e below (T37.setTop (mkF m 123 #[.val (.int p1), .val (.int p2), .val (.int p3), .val (.int p4), .val (.int p5), .val (.int w), .val (.int h1), .val (.ref (ad 0)), .val (.int p3), .val (.int (h1 + (p4 % (2 : Int32)))), .val (.ref b7), .val (.int (0 : Int32)), .unset, .unset] [(.int (1 : Int32))])) t → Steps p.tables e below (s₁.setTop (entryFrame m #[(.int p1), (.int p2), (.int p3), (.int p4), (.int p5)] maxLocals)) t := fun t k => ch19 t (by
        show Steps p.tables e below (T16.setTop (mkF m 97 #[.val (.int p1), .val (.int p2), .val (.int p3), .val (.int p4), .val (.int p5), .val (.int w), .val (.int h1), .val (.ref (ad 0)), .val (.int p3), .val (.int (h1 + (p4 % (2 : Int32)))), .val (.ref b7), .unset, .unset, .unset] [(.int w), (.int p3)])) t
        refine XS.icmpYes X16.here hx rfl (pc0 := 97) (pc' := 111) rfl (hb hby at_97) rfl (flt hq18).2.2.2 (by decide) (by decide) ?_
        show Steps p.tables e below (T16.setTop (mkF m 111 #[.val (.int p1), .val (.int p2), .val (.int p3), .val (.int p4), .val (.int p5), .val (.int w), .val (.int h1), .val (.ref (ad 0)), .val (.int p3), .val (.int (h1 + (p4 % (2 : Int32)))), .val (.ref b7), .unset, .unset, .unset] [])) t
        refine XS.iconst X16.here hx rfl (hb hby at_111) ?_
        show Steps p.tables e below (T16.setTop (mkF m 112 #[.val (.int p1), .val (.int p2), .val (.int p3), .val (.int p4), .val (.int p5), .val (.int w), .val (.int h1), .val (.ref (ad 0)), .val (.int p3), .val (.int (h1 + (p4 % (2 : Int32)))), .val (.ref b7), .unset, .unset, .unset] [(.int (0 : Int32))])) t
        refine XS.istore X16.here hx rfl (hb hby at_112) rfl (l' := #[.val (.int p1), .val (.int p2), .val (.int p3), .val (.int p4), .val (.int p5), .val (.int w), .val (.int h1), .val (.ref (ad 0)), .val (.int p3), .val (.int (h1 + (p4 % (2 : Int32)))), .val (.ref b7), .val (.int (0 : Int32)), .unset, .unset]) rfl ?_
        show Steps p.tables e below (T16.setTop (mkF m 114 #[.val (.int p1), .val (.int p2), .val (.int p3), .val (.int p4), .val (.int p5), .val (.int w), .val (.int h1), .val (.ref (ad 0)), .val (.int p3), .val (.int (h1 + (p4 % (2 : Int32)))), .val (.ref b7), .val (.int (0 : Int32)), .unset, .unset] [])) t
        refine XS.aload X16.here hx rfl (hb hby at_114) rfl rfl ?_
        show Steps p.tables e below (T16.setTop (mkF m 116 #[.val (.int p1), .val (.int p2), .val (.int p3), .val (.int p4), .val (.int p5), .val (.int w), .val (.int h1), .val (.ref (ad 0)), .val (.int p3), .val (.int (h1 + (p4 % (2 : Int32)))), .val (.ref b7), .val (.int (0 : Int32)), .unset, .unset] [(.ref b7)])) t
        refine XS.iload X16.here hx rfl (hb hby at_116) rfl ?_
        show Steps p.tables e below (T16.setTop (mkF m 118 #[.val (.int p1), .val (.int p2), .val (.int p3), .val (.int p4), .val (.int p5), .val (.int w), .val (.int h1), .val (.ref (ad 0)), .val (.int p3), .val (.int (h1 + (p4 % (2 : Int32)))), .val (.ref b7), .val (.int (0 : Int32)), .unset, .unset] [(.int p3), (.ref b7)])) t
        refine XS.iload X16.here hx rfl (hb hby at_118) rfl ?_
        show Steps p.tables e below (T16.setTop (mkF m 120 #[.val (.int p1), .val (.int p2), .val (.int p3), .val (.int p4), .val (.int p5), .val (.int w), .val (.int h1), .val (.ref (ad 0)), .val (.int p3), .val (.int (h1 + (p4 % (2 : Int32)))), .val (.ref b7), .val (.int (0 : Int32)), .unset, .unset] [(.int (h1 + (p4 % (2 : Int32)))), (.int p3), (.ref b7)])) t
        exact st37.trans k)
    obtain ⟨cq39, kq39, qa39, qb39, qc39⟩ := isOf hZ e37 fq16_0
    obtain ⟨vv40, _, ⟨T40, L40, kk40, nn40⟩, -, X40, ⟨Lc40, hQ40, l40, y40, z40⟩, st40⟩ := X37.virtualBack hx (y := (⟨"com/example/leafwright/leafwright/Thumbnails$Candidate", "covers", "(II)Z"⟩ : MethodName)) (z := (⟨"com/example/leafwright/leafwright/Thumbnails$Candidate", "covers", "(II)Z"⟩ : MethodName)) hown (mvT hZ (hw _ (List.mem_of_getElem? (i := 50) rfl))) (mvT hZ (hw _ (List.mem_of_getElem? (i := 51) rfl))) (notFace_of_selects (args := #[]) (mvT hZ (hw _ (List.mem_of_getElem? (i := 53) rfl)))) (mvT hZ (hw _ (List.mem_of_getElem? (i := 53) rfl))) (mvT hZ (hw _ (List.mem_of_getElem? (i := 52) rfl))) (by decide) (backOf (W := 0) (own_cov_a l Z a0 hw [] hh16 n0 (Nat.le_trans Z0 Kp16.1) b7 w h1 w h1 fq16_2 fq16_3 (Int32.lt_irrefl : ¬ w < w)) hZ (hw _ (List.mem_of_getElem? (i := 54) rfl)) (hw _ (List.mem_of_getElem? (i := 10) rfl)) (by decide) (by decide)) qa39 qc39 (g := (mkF m 131 #[.val (.int p1), .val (.int p2), .val (.int p3), .val (.int p4), .val (.int p5), .val (.int w), .val (.int h1), .val (.ref (ad 0)), .val (.int p3), .val (.int (h1 + (p4 % (2 : Int32)))), .val (.ref b7), .val (.int (0 : Int32)), .val (.int (1 : Int32)), .unset] [(.int h1), (.int w), (.ref b7)])) rfl (by rw [hml]; rfl) (Steps.refl _) (argsL := [(.int w), (.int h1)]) (rest := []) (lenOf own_pd__II_Z rfl) rfl (by show 2 * 0 + _ ≤ _; exact Nat.le_of_eq rfl) (hb hby at_131) (fun _ _ => ⟨rfl, e37, (by decide : 11 + 0 ≤ _), (by decide : 108 + 0 ≤ _)⟩)
    dsimp only [Pt.U, Pt.locs, Pt.cells, Pt.slots] at X40 l40 y40 z40 st40 hQ40
    subst l40 y40 z40
    obtain ⟨rfl, Nq40, e40⟩ := hQ40
    have N40 := Fr.app N37 Nq40
    have ch41 : ∀ t, Steps p.tables e below (T40.setTop (mkF m 134 #[.val (.int p1), .val (.int p2), .val (.int p3), .val (.int p4), .val (.int p5), .val (.int w), .val (.int h1), .val (.ref (ad 0)), .val (.int p3), .val (.int (h1 + (p4 % (2 : Int32)))), .val (.ref b7), .val (.int (0 : Int32)), .val (.int (1 : Int32)), .unset] [(.int (1 : Int32))])) t → Steps p.tables e below (s₁.setTop (entryFrame m #[(.int p1), (.int p2), (.int p3), (.int p4), (.int p5)] maxLocals)) t := fun t k => ch38 t (by
        show Steps p.tables e below (T37.setTop (mkF m 123 #[.val (.int p1), .val (.int p2), .val (.int p3), .val (.int p4), .val (.int p5), .val (.int w), .val (.int h1), .val (.ref (ad 0)), .val (.int p3), .val (.int (h1 + (p4 % (2 : Int32)))), .val (.ref b7), .val (.int (0 : Int32)), .unset, .unset] [(.int (1 : Int32))])) t
        refine XS.istore X37.here hx rfl (hb hby at_123) rfl (l' := #[.val (.int p1), .val (.int p2), .val (.int p3), .val (.int p4), .val (.int p5), .val (.int w), .val (.int h1), .val (.ref (ad 0)), .val (.int p3), .val (.int (h1 + (p4 % (2 : Int32)))), .val (.ref b7), .val (.int (0 : Int32)), .val (.int (1 : Int32)), .unset]) rfl ?_
        show Steps p.tables e below (T37.setTop (mkF m 125 #[.val (.int p1), .val (.int p2), .val (.int p3), .val (.int p4), .val (.int p5), .val (.int w), .val (.int h1), .val (.ref (ad 0)), .val (.int p3), .val (.int (h1 + (p4 % (2 : Int32)))), .val (.ref b7), .val (.int (0 : Int32)), .val (.int (1 : Int32)), .unset] [])) t
        refine XS.aload X37.here hx rfl (hb hby at_125) rfl rfl ?_
        show Steps p.tables e below (T37.setTop (mkF m 127 #[.val (.int p1), .val (.int p2), .val (.int p3), .val (.int p4), .val (.int p5), .val (.int w), .val (.int h1), .val (.ref (ad 0)), .val (.int p3), .val (.int (h1 + (p4 % (2 : Int32)))), .val (.ref b7), .val (.int (0 : Int32)), .val (.int (1 : Int32)), .unset] [(.ref b7)])) t
        refine XS.iload X37.here hx rfl (hb hby at_127) rfl ?_
        show Steps p.tables e below (T37.setTop (mkF m 129 #[.val (.int p1), .val (.int p2), .val (.int p3), .val (.int p4), .val (.int p5), .val (.int w), .val (.int h1), .val (.ref (ad 0)), .val (.int p3), .val (.int (h1 + (p4 % (2 : Int32)))), .val (.ref b7), .val (.int (0 : Int32)), .val (.int (1 : Int32)), .unset] [(.int w), (.ref b7)])) t
        refine XS.iload X37.here hx rfl (hb hby at_129) rfl ?_
        show Steps p.tables e below (T37.setTop (mkF m 131 #[.val (.int p1), .val (.int p2), .val (.int p3), .val (.int p4), .val (.int p5), .val (.int w), .val (.int h1), .val (.ref (ad 0)), .val (.int p3), .val (.int (h1 + (p4 % (2 : Int32)))), .val (.ref b7), .val (.int (0 : Int32)), .val (.int (1 : Int32)), .unset] [(.int h1), (.int w), (.ref b7)])) t
        exact st40.trans k)
    have ch42 : ∀ t, Steps p.tables e below (T40.setTop (mkF m 161 #[.val (.int p1), .val (.int p2), .val (.int p3), .val (.int p4), .val (.int p5), .val (.int w), .val (.int h1), .val (.ref (ad 0)), .val (.int p3), .val (.int (h1 + (p4 % (2 : Int32)))), .val (.ref b7), .val (.int (0 : Int32)), .val (.int (1 : Int32)), .val (.int (1 : Int32))] [(.int (1 : Int32))])) t → Steps p.tables e below (s₁.setTop (entryFrame m #[(.int p1), (.int p2), (.int p3), (.int p4), (.int p5)] maxLocals)) t := fun t k => ch41 t (by
        show Steps p.tables e below (T40.setTop (mkF m 134 #[.val (.int p1), .val (.int p2), .val (.int p3), .val (.int p4), .val (.int p5), .val (.int w), .val (.int h1), .val (.ref (ad 0)), .val (.int p3), .val (.int (h1 + (p4 % (2 : Int32)))), .val (.ref b7), .val (.int (0 : Int32)), .val (.int (1 : Int32)), .unset] [(.int (1 : Int32))])) t
        refine XS.istore X40.here hx rfl (hb hby at_134) rfl (l' := #[.val (.int p1), .val (.int p2), .val (.int p3), .val (.int p4), .val (.int p5), .val (.int w), .val (.int h1), .val (.ref (ad 0)), .val (.int p3), .val (.int (h1 + (p4 % (2 : Int32)))), .val (.ref b7), .val (.int (0 : Int32)), .val (.int (1 : Int32)), .val (.int (1 : Int32))]) rfl ?_
        show Steps p.tables e below (T40.setTop (mkF m 136 #[.val (.int p1), .val (.int p2), .val (.int p3), .val (.int p4), .val (.int p5), .val (.int w), .val (.int h1), .val (.ref (ad 0)), .val (.int p3), .val (.int (h1 + (p4 % (2 : Int32)))), .val (.ref b7), .val (.int (0 : Int32)), .val (.int (1 : Int32)), .val (.int (1 : Int32))] [])) t
        refine XS.iload X40.here hx rfl (hb hby at_136) rfl ?_
        show Steps p.tables e below (T40.setTop (mkF m 138 #[.val (.int p1), .val (.int p2), .val (.int p3), .val (.int p4), .val (.int p5), .val (.int w), .val (.int h1), .val (.ref (ad 0)), .val (.int p3), .val (.int (h1 + (p4 % (2 : Int32)))), .val (.ref b7), .val (.int (0 : Int32)), .val (.int (1 : Int32)), .val (.int (1 : Int32))] [(.int (1 : Int32))])) t
        refine XS.iload X40.here hx rfl (hb hby at_138) rfl ?_
        show Steps p.tables e below (T40.setTop (mkF m 140 #[.val (.int p1), .val (.int p2), .val (.int p3), .val (.int p4), .val (.int p5), .val (.int w), .val (.int h1), .val (.ref (ad 0)), .val (.int p3), .val (.int (h1 + (p4 % (2 : Int32)))), .val (.ref b7), .val (.int (0 : Int32)), .val (.int (1 : Int32)), .val (.int (1 : Int32))] [(.int (0 : Int32)), (.int (1 : Int32))])) t
        refine XS.ifNo X40.here hx rfl (hb hby at_140) rfl ((if0 _ _).trans (teq (by decide : (0 : Int32) = (0 : Int32))).2) ?_
        show Steps p.tables e below (T40.setTop (mkF m 143 #[.val (.int p1), .val (.int p2), .val (.int p3), .val (.int p4), .val (.int p5), .val (.int w), .val (.int h1), .val (.ref (ad 0)), .val (.int p3), .val (.int (h1 + (p4 % (2 : Int32)))), .val (.ref b7), .val (.int (0 : Int32)), .val (.int (1 : Int32)), .val (.int (1 : Int32))] [(.int (1 : Int32))])) t
        refine XS.iconst X40.here hx rfl (hb hby at_143) ?_
        show Steps p.tables e below (T40.setTop (mkF m 144 #[.val (.int p1), .val (.int p2), .val (.int p3), .val (.int p4), .val (.int p5), .val (.int w), .val (.int h1), .val (.ref (ad 0)), .val (.int p3), .val (.int (h1 + (p4 % (2 : Int32)))), .val (.ref b7), .val (.int (0 : Int32)), .val (.int (1 : Int32)), .val (.int (1 : Int32))] [(.int (1 : Int32)), (.int (1 : Int32))])) t
        refine XS.goto X40.here hx rfl (pc0 := 144) (pc' := 148) rfl (hb hby at_144) (by decide) (by decide) ?_
        show Steps p.tables e below (T40.setTop (mkF m 148 #[.val (.int p1), .val (.int p2), .val (.int p3), .val (.int p4), .val (.int p5), .val (.int w), .val (.int h1), .val (.ref (ad 0)), .val (.int p3), .val (.int (h1 + (p4 % (2 : Int32)))), .val (.ref b7), .val (.int (0 : Int32)), .val (.int (1 : Int32)), .val (.int (1 : Int32))] [(.int (1 : Int32)), (.int (1 : Int32))])) t
        refine XS.icmpNo X40.here hx rfl (hb hby at_148) rfl (teq (by decide : (1 : Int32) = (1 : Int32))).2 ?_
        show Steps p.tables e below (T40.setTop (mkF m 151 #[.val (.int p1), .val (.int p2), .val (.int p3), .val (.int p4), .val (.int p5), .val (.int w), .val (.int h1), .val (.ref (ad 0)), .val (.int p3), .val (.int (h1 + (p4 % (2 : Int32)))), .val (.ref b7), .val (.int (0 : Int32)), .val (.int (1 : Int32)), .val (.int (1 : Int32))] [])) t
        refine XS.iload X40.here hx rfl (hb hby at_151) rfl ?_
        show Steps p.tables e below (T40.setTop (mkF m 153 #[.val (.int p1), .val (.int p2), .val (.int p3), .val (.int p4), .val (.int p5), .val (.int w), .val (.int h1), .val (.ref (ad 0)), .val (.int p3), .val (.int (h1 + (p4 % (2 : Int32)))), .val (.ref b7), .val (.int (0 : Int32)), .val (.int (1 : Int32)), .val (.int (1 : Int32))] [(.int (1 : Int32))])) t
        refine XS.ifNo X40.here hx rfl (hb hby at_153) rfl ((if0 _ _).trans (feq (by decide : ¬ (1 : Int32) = (0 : Int32))).1) ?_
        show Steps p.tables e below (T40.setTop (mkF m 156 #[.val (.int p1), .val (.int p2), .val (.int p3), .val (.int p4), .val (.int p5), .val (.int w), .val (.int h1), .val (.ref (ad 0)), .val (.int p3), .val (.int (h1 + (p4 % (2 : Int32)))), .val (.ref b7), .val (.int (0 : Int32)), .val (.int (1 : Int32)), .val (.int (1 : Int32))] [])) t
        refine XS.iconst X40.here hx rfl (hb hby at_156) ?_
        show Steps p.tables e below (T40.setTop (mkF m 157 #[.val (.int p1), .val (.int p2), .val (.int p3), .val (.int p4), .val (.int p5), .val (.int w), .val (.int h1), .val (.ref (ad 0)), .val (.int p3), .val (.int (h1 + (p4 % (2 : Int32)))), .val (.ref b7), .val (.int (0 : Int32)), .val (.int (1 : Int32)), .val (.int (1 : Int32))] [(.int (1 : Int32))])) t
        refine XS.goto X40.here hx rfl (pc0 := 157) (pc' := 161) rfl (hb hby at_157) (by decide) (by decide) ?_
        exact k)
    obtain ⟨fs, hr, hrun, hended, hend⟩ := X40.leaveW hS (by rw [e40]; exact hk) (v := some (.int (1 : Int32))) (fun h => by rw [Bd.returns] at h; cases h)
    refine ⟨_, _, ch42 _ ?_, hrun, hended, _, _, rfl, ?_, hend.1, hend.2.1, hend.2.2.1, hend.2.2.2.mono (by decide) (by decide)⟩
    · show Steps p.tables e below (T40.setTop (mkF m 161 #[.val (.int p1), .val (.int p2), .val (.int p3), .val (.int p4), .val (.int p5), .val (.int w), .val (.int h1), .val (.ref (ad 0)), .val (.int p3), .val (.int (h1 + (p4 % (2 : Int32)))), .val (.ref b7), .val (.int (0 : Int32)), .val (.int (1 : Int32)), .val (.int (1 : Int32))] [(.int (1 : Int32))])) _
      exact retN X40 hx (t := .boolean) Bd.returns (by simp) (hb hby at_161) hr
    · show QN (some (.int (1 : Int32))) n0 _ T40.heap _
      rw [e40]
      exact ⟨rfl, N40⟩
theorem own_ef_own_law_010 (m : MethodId) {x0 : Int32} {x1 : Int32} {x2 : Int32} {x3 : Int32} {x4 : Int32} : entryFrame m #[(.int x0), (.int x1), (.int x2), (.int x3), (.int x4)] maxLocals = mkF m 0 #[.val (.int x0), .val (.int x1), .val (.int x2), .val (.int x3), .val (.int x4), .unset, .unset, .unset, .unset, .unset, .unset, .unset, .unset, .unset] [] := by first | (simp [entryFrame, mkF, argsToLocals, Value.category, maxLocals]; done) | rfl
set_option maxRecDepth 65536 in
set_option maxHeartbeats 40000000 in
theorem own_law_010 (l : Launch) (Z : State) (a0 : Array Value) (hw : ∀ d ∈ tables_1, d.before a0 Z = true) (ws : List Jvm.Cond) (h0 : Heap) (n0 : Nat) (Z0 : n0 ≤ h0.size) (p1 p2 p3 p4 p5 w h1 : Int32) (HW : MetFree l (⟨"java/lang/Math", "max", "(II)I"⟩ : MethodName) (head1 (Jvm.Cond.code (⟨"java/lang/Math", "max", "(II)I"⟩ : MethodName) jdk_29_method_65_code 2 (some .int) :: []) ({ frames := 0, cells := 0, slots := 0, locals := 0 } : Room)) (fun a U => a = #[(.int (1 : Int32)), (.int (p1 &&& (2147483647 : Int32)))] ∧ Z.Warmed39 U.vm ∧ U.heap = h0) (fun _ _ _ _ _ => True) (fun _ U o U' => ∃ v L, o = .returned v ∧ QV (some (.int w)) h0 n0 v U'.heap L ∧ FrameEnd U o U' L ({ frames := 0, cells := 0, slots := 0, locals := 0 } : Room).cells ({ frames := 0, cells := 0, slots := 0, locals := 0 } : Room).slots)) (HH : MetFree l (⟨"java/lang/Math", "max", "(II)I"⟩ : MethodName) (head1 (Jvm.Cond.code (⟨"java/lang/Math", "max", "(II)I"⟩ : MethodName) jdk_29_method_65_code 2 (some .int) :: []) ({ frames := 0, cells := 0, slots := 0, locals := 0 } : Room)) (fun a U => a = #[(.int (1 : Int32)), (.int (p2 &&& (2147483647 : Int32)))] ∧ Z.Warmed39 U.vm ∧ U.heap = h0) (fun _ _ _ _ _ => True) (fun _ U o U' => ∃ v L, o = .returned v ∧ QV (some (.int h1)) h0 n0 v U'.heap L ∧ FrameEnd U o U' L ({ frames := 0, cells := 0, slots := 0, locals := 0 } : Room).cells ({ frames := 0, cells := 0, slots := 0, locals := 0 } : Room).slots)) (pw : (0 : Int32) < w) (ph : (0 : Int32) < h1) (s0 : (p5 &&& (1 : Int32)) = (0 : Int32)) (s1 : ¬ (p5 &&& (2 : Int32)) = (0 : Int32)) (s2 : (p5 &&& (4 : Int32)) = (0 : Int32)) (ad : Nat → Addr) (W : OwnWd Z h0 ad) :
    MetFree l x (head1 (Jvm.Cond.code x code maxLocals ret :: ws) room_1) (fun a U => a = #[(.int p1), (.int p2), (.int p3), (.int p4), (.int p5)] ∧ Z.Warmed39 U.vm ∧ U.heap = h0) (fun _ _ _ _ _ => True) (fun _ U o U' => ∃ v L, o = .returned v ∧ QN (some (.int (1 : Int32))) n0 v U'.heap L ∧ ReturnedEndW U o U' L room_1.cells room_1.slots) := by
  refine MetFree.of_bodySF (plainFor_of_name own_pn_com_example_leafwright_leafwright_CandidateCoversPinLaw) hisR ?_
  intro p e s m args below meth c s₁ Bd hml0 hP hK
  obtain ⟨rfl, hZ, hh⟩ := hP
  have hx := Bd.exec
  have hby := Bd.bytes
  have hml : c.maxLocals = 14 := hml0
  have hown : s.vm.findClass "com/example/leafwright/leafwright/CandidateCoversPinLaw" = some m.cls := (findClass_of_methodNamed Bd.named :)
  have hnm := (name_of_methodNamed Bd.named Bd.method).1
  have X0 : Stand p l e room_1 (s.setVm s.vm) m #[(.int p1), (.int p2), (.int p3), (.int p4), (.int p5)] below meth c s₁ [] 0 0 := Stand.of_body Bd
  have hZ : Z.Warmed39 (s.setVm s.vm).vm := hZ
  have hown : (s.setVm s.vm).vm.findClass "com/example/leafwright/leafwright/CandidateCoversPinLaw" = some m.cls := hown
  have hS : s.Since s.vm 0 := (State.WarmedH.refl s).since 0
  have hk : 0 ≤ h0.size := Nat.zero_le _
  have e0 : s₁.heap = h0 := by rw [← hh, Bd.state]; rfl
  have N0 := Fr.nil n0
  have pre0 : ∀ t, Steps p.tables e below (s₁.setTop (mkF m 0 #[.val (.int p1), .val (.int p2), .val (.int p3), .val (.int p4), .val (.int p5), .unset, .unset, .unset, .unset, .unset, .unset, .unset, .unset, .unset] [])) t → Steps p.tables e below (s₁.setTop (entryFrame m #[(.int p1), (.int p2), (.int p3), (.int p4), (.int p5)] maxLocals)) t := fun t k => castTop (own_ef_own_law_010 m) k
  obtain ⟨vv1, _, ⟨T1, L1, kk1, nn1⟩, -, X1, ⟨Lc1, hQ1, l1, y1, z1⟩, st1⟩ := Jvm.LawKit.callS X0 hx (y := (⟨"java/lang/Math", "max", "(II)I"⟩ : MethodName)) hown (mvT hZ (hw _ (List.mem_of_getElem? (i := 1) rfl))) (mvT hZ (hw _ (List.mem_of_getElem? (i := 2) rfl))) (mvT hZ (hw _ (List.mem_of_getElem? (i := 3) rfl))) (mvT hZ (hw _ (List.mem_of_getElem? (i := 4) rfl))) (by decide) (backOf (W := 0) HW hZ (hw _ (List.mem_of_getElem? (i := 4) rfl)) (hw _ (List.mem_of_getElem? (i := 3) rfl)) (by decide) (by decide)) (g := (mkF m 5 #[.val (.int p1), .val (.int p2), .val (.int p3), .val (.int p4), .val (.int p5), .unset, .unset, .unset, .unset, .unset, .unset, .unset, .unset, .unset] [(.int (p1 &&& (2147483647 : Int32))), (.int (1 : Int32))])) rfl (by rw [hml]; rfl) (argsL := [(.int (1 : Int32)), (.int (p1 &&& (2147483647 : Int32)))]) (rest := []) (lenOf own_pd__II_I rfl) rfl (by show 2 * 0 + _ ≤ _; exact Nat.le_of_eq rfl) (hb hby at_5) (fun _ _ => ⟨rfl, e0, (by decide : 0 + 0 ≤ _), (by decide : 0 + 0 ≤ _)⟩)
  dsimp only [Pt.U, Pt.locs, Pt.cells, Pt.slots] at X1 l1 y1 z1 st1 hQ1
  subst l1 y1 z1
  obtain ⟨rfl, Nq1, e1⟩ := hQ1
  have N1 := Fr.app N0 Nq1
  have ch2 : ∀ t, Steps p.tables e below (T1.setTop (mkF m 8 #[.val (.int p1), .val (.int p2), .val (.int p3), .val (.int p4), .val (.int p5), .unset, .unset, .unset, .unset, .unset, .unset, .unset, .unset, .unset] [(.int w)])) t → Steps p.tables e below (s₁.setTop (entryFrame m #[(.int p1), (.int p2), (.int p3), (.int p4), (.int p5)] maxLocals)) t := fun t k => pre0 t (by
      show Steps p.tables e below (s₁.setTop (mkF m 0 #[.val (.int p1), .val (.int p2), .val (.int p3), .val (.int p4), .val (.int p5), .unset, .unset, .unset, .unset, .unset, .unset, .unset, .unset, .unset] [])) t
      refine XS.iconst X0.here hx rfl (hb hby at_0) ?_
      show Steps p.tables e below (s₁.setTop (mkF m 1 #[.val (.int p1), .val (.int p2), .val (.int p3), .val (.int p4), .val (.int p5), .unset, .unset, .unset, .unset, .unset, .unset, .unset, .unset, .unset] [(.int (1 : Int32))])) t
      refine XS.iloadN X0.here hx rfl (hb hby at_1) rfl ?_
      show Steps p.tables e below (s₁.setTop (mkF m 2 #[.val (.int p1), .val (.int p2), .val (.int p3), .val (.int p4), .val (.int p5), .unset, .unset, .unset, .unset, .unset, .unset, .unset, .unset, .unset] [(.int p1), (.int (1 : Int32))])) t
      refine X0.ldcInt hx hown (mvT hZ (hw _ (List.mem_of_getElem? (i := 0) rfl))) (g := (mkF m 2 #[.val (.int p1), .val (.int p2), .val (.int p3), .val (.int p4), .val (.int p5), .unset, .unset, .unset, .unset, .unset, .unset, .unset, .unset, .unset] [(.int p1), (.int (1 : Int32))])) rfl (hb hby at_2) _ ?_
      show Steps p.tables e below (s₁.setTop (mkF m 4 #[.val (.int p1), .val (.int p2), .val (.int p3), .val (.int p4), .val (.int p5), .unset, .unset, .unset, .unset, .unset, .unset, .unset, .unset, .unset] [(.int (2147483647 : Int32)), (.int p1), (.int (1 : Int32))])) t
      refine XS.iand X0.here hx rfl (hb hby at_4) rfl ?_
      show Steps p.tables e below (s₁.setTop (mkF m 5 #[.val (.int p1), .val (.int p2), .val (.int p3), .val (.int p4), .val (.int p5), .unset, .unset, .unset, .unset, .unset, .unset, .unset, .unset, .unset] [(.int (p1 &&& (2147483647 : Int32))), (.int (1 : Int32))])) t
      exact st1 t k)
  obtain ⟨vv3, _, ⟨T3, L3, kk3, nn3⟩, -, X3, ⟨Lc3, hQ3, l3, y3, z3⟩, st3⟩ := Jvm.LawKit.callS X1 hx (y := (⟨"java/lang/Math", "max", "(II)I"⟩ : MethodName)) hown (mvT hZ (hw _ (List.mem_of_getElem? (i := 1) rfl))) (mvT hZ (hw _ (List.mem_of_getElem? (i := 2) rfl))) (mvT hZ (hw _ (List.mem_of_getElem? (i := 3) rfl))) (mvT hZ (hw _ (List.mem_of_getElem? (i := 4) rfl))) (by decide) (backOf (W := 0) HH hZ (hw _ (List.mem_of_getElem? (i := 4) rfl)) (hw _ (List.mem_of_getElem? (i := 3) rfl)) (by decide) (by decide)) (g := (mkF m 15 #[.val (.int p1), .val (.int p2), .val (.int p3), .val (.int p4), .val (.int p5), .val (.int w), .unset, .unset, .unset, .unset, .unset, .unset, .unset, .unset] [(.int (p2 &&& (2147483647 : Int32))), (.int (1 : Int32))])) rfl (by rw [hml]; rfl) (argsL := [(.int (1 : Int32)), (.int (p2 &&& (2147483647 : Int32)))]) (rest := []) (lenOf own_pd__II_I rfl) rfl (by show 2 * 0 + _ ≤ _; exact Nat.le_of_eq rfl) (hb hby at_15) (fun _ _ => ⟨rfl, e1, (by decide : 0 + 0 ≤ _), (by decide : 0 + 0 ≤ _)⟩)
  dsimp only [Pt.U, Pt.locs, Pt.cells, Pt.slots] at X3 l3 y3 z3 st3 hQ3
  subst l3 y3 z3
  obtain ⟨rfl, Nq3, e3⟩ := hQ3
  have N3 := Fr.app N1 Nq3
  have ch4 : ∀ t, Steps p.tables e below (T3.setTop (mkF m 18 #[.val (.int p1), .val (.int p2), .val (.int p3), .val (.int p4), .val (.int p5), .val (.int w), .unset, .unset, .unset, .unset, .unset, .unset, .unset, .unset] [(.int h1)])) t → Steps p.tables e below (s₁.setTop (entryFrame m #[(.int p1), (.int p2), (.int p3), (.int p4), (.int p5)] maxLocals)) t := fun t k => ch2 t (by
      show Steps p.tables e below (T1.setTop (mkF m 8 #[.val (.int p1), .val (.int p2), .val (.int p3), .val (.int p4), .val (.int p5), .unset, .unset, .unset, .unset, .unset, .unset, .unset, .unset, .unset] [(.int w)])) t
      refine XS.istore X1.here hx rfl (hb hby at_8) rfl (l' := #[.val (.int p1), .val (.int p2), .val (.int p3), .val (.int p4), .val (.int p5), .val (.int w), .unset, .unset, .unset, .unset, .unset, .unset, .unset, .unset]) rfl ?_
      show Steps p.tables e below (T1.setTop (mkF m 10 #[.val (.int p1), .val (.int p2), .val (.int p3), .val (.int p4), .val (.int p5), .val (.int w), .unset, .unset, .unset, .unset, .unset, .unset, .unset, .unset] [])) t
      refine XS.iconst X1.here hx rfl (hb hby at_10) ?_
      show Steps p.tables e below (T1.setTop (mkF m 11 #[.val (.int p1), .val (.int p2), .val (.int p3), .val (.int p4), .val (.int p5), .val (.int w), .unset, .unset, .unset, .unset, .unset, .unset, .unset, .unset] [(.int (1 : Int32))])) t
      refine XS.iloadN X1.here hx rfl (hb hby at_11) rfl ?_
      show Steps p.tables e below (T1.setTop (mkF m 12 #[.val (.int p1), .val (.int p2), .val (.int p3), .val (.int p4), .val (.int p5), .val (.int w), .unset, .unset, .unset, .unset, .unset, .unset, .unset, .unset] [(.int p2), (.int (1 : Int32))])) t
      refine X1.ldcInt hx hown (mvT hZ (hw _ (List.mem_of_getElem? (i := 0) rfl))) (g := (mkF m 12 #[.val (.int p1), .val (.int p2), .val (.int p3), .val (.int p4), .val (.int p5), .val (.int w), .unset, .unset, .unset, .unset, .unset, .unset, .unset, .unset] [(.int p2), (.int (1 : Int32))])) rfl (hb hby at_12) _ ?_
      show Steps p.tables e below (T1.setTop (mkF m 14 #[.val (.int p1), .val (.int p2), .val (.int p3), .val (.int p4), .val (.int p5), .val (.int w), .unset, .unset, .unset, .unset, .unset, .unset, .unset, .unset] [(.int (2147483647 : Int32)), (.int p2), (.int (1 : Int32))])) t
      refine XS.iand X1.here hx rfl (hb hby at_14) rfl ?_
      show Steps p.tables e below (T1.setTop (mkF m 15 #[.val (.int p1), .val (.int p2), .val (.int p3), .val (.int p4), .val (.int p5), .val (.int w), .unset, .unset, .unset, .unset, .unset, .unset, .unset, .unset] [(.int (p2 &&& (2147483647 : Int32))), (.int (1 : Int32))])) t
      exact st3 t k)
  obtain ⟨T5, X5, e5, st5⟩ := getS2 X3 hx hZ hown (host := "") (Or.inl (hw _ (List.mem_of_getElem? (i := 5) rfl))) Via.refl e3 (own_S_DECLARED W) (g := (mkF m 33 #[.val (.int p1), .val (.int p2), .val (.int p3), .val (.int p4), .val (.int p5), .val (.int w), .val (.int h1), .unset, .unset, .unset, .unset, .unset, .unset, .unset] [])) rfl (hb hby at_33)
  have ch6 : ∀ t, Steps p.tables e below (T5.setTop (mkF m 36 #[.val (.int p1), .val (.int p2), .val (.int p3), .val (.int p4), .val (.int p5), .val (.int w), .val (.int h1), .unset, .unset, .unset, .unset, .unset, .unset, .unset] [(.ref (ad 0))])) t → Steps p.tables e below (s₁.setTop (entryFrame m #[(.int p1), (.int p2), (.int p3), (.int p4), (.int p5)] maxLocals)) t := fun t k => ch4 t (by
      show Steps p.tables e below (T3.setTop (mkF m 18 #[.val (.int p1), .val (.int p2), .val (.int p3), .val (.int p4), .val (.int p5), .val (.int w), .unset, .unset, .unset, .unset, .unset, .unset, .unset, .unset] [(.int h1)])) t
      refine XS.istore X3.here hx rfl (hb hby at_18) rfl (l' := #[.val (.int p1), .val (.int p2), .val (.int p3), .val (.int p4), .val (.int p5), .val (.int w), .val (.int h1), .unset, .unset, .unset, .unset, .unset, .unset, .unset]) rfl ?_
      show Steps p.tables e below (T3.setTop (mkF m 20 #[.val (.int p1), .val (.int p2), .val (.int p3), .val (.int p4), .val (.int p5), .val (.int w), .val (.int h1), .unset, .unset, .unset, .unset, .unset, .unset, .unset] [])) t
      refine XS.iload X3.here hx rfl (hb hby at_20) rfl ?_
      show Steps p.tables e below (T3.setTop (mkF m 22 #[.val (.int p1), .val (.int p2), .val (.int p3), .val (.int p4), .val (.int p5), .val (.int w), .val (.int h1), .unset, .unset, .unset, .unset, .unset, .unset, .unset] [(.int p5)])) t
      refine XS.iconst X3.here hx rfl (hb hby at_22) ?_
      show Steps p.tables e below (T3.setTop (mkF m 23 #[.val (.int p1), .val (.int p2), .val (.int p3), .val (.int p4), .val (.int p5), .val (.int w), .val (.int h1), .unset, .unset, .unset, .unset, .unset, .unset, .unset] [(.int (1 : Int32)), (.int p5)])) t
      refine XS.iand X3.here hx rfl (hb hby at_23) rfl ?_
      show Steps p.tables e below (T3.setTop (mkF m 24 #[.val (.int p1), .val (.int p2), .val (.int p3), .val (.int p4), .val (.int p5), .val (.int w), .val (.int h1), .unset, .unset, .unset, .unset, .unset, .unset, .unset] [(.int (p5 &&& (1 : Int32)))])) t
      refine XS.ifYes X3.here hx rfl (pc0 := 24) (pc' := 33) rfl (hb hby at_24) rfl ((if0 _ _).trans (teq s0).1) (by decide) (by decide) ?_
      show Steps p.tables e below (T3.setTop (mkF m 33 #[.val (.int p1), .val (.int p2), .val (.int p3), .val (.int p4), .val (.int p5), .val (.int w), .val (.int h1), .unset, .unset, .unset, .unset, .unset, .unset, .unset] [])) t
      exact st5 t k)
  obtain ⟨T7, hp7, X7, e7, E7, A7, D7, -, st7⟩ := newO X5 hx hZ hown (hw _ (List.mem_of_getElem? (i := 8) rfl)) (hw _ (List.mem_of_getElem? (i := 9) rfl)) (hw _ (List.mem_of_getElem? (i := 10) rfl)) e5 (g := (mkF m 76 #[.val (.int p1), .val (.int p2), .val (.int p3), .val (.int p4), .val (.int p5), .val (.int w), .val (.int h1), .val (.ref (ad 0)), .val (.int (w + (p3 % (2 : Int32)))), .val (.int p4), .unset, .unset, .unset, .unset] [])) rfl (hb hby at_76) (by decide) (by decide)
  obtain ⟨b7, g7⟩ : ∃ z, z = h0.size := ⟨_, rfl⟩
  rw [← g7] at A7 D7 st7
  have ne_ad0_b7 : (ad 0) ≠ b7 := Nat.ne_of_lt (Nat.lt_of_lt_of_le (own_E_DECLARED W).lt (Nat.le_of_eq g7.symm))
  have ne_ad1_b7 : (ad 1) ≠ b7 := Nat.ne_of_lt (Nat.lt_of_lt_of_le (own_E_SIZE W).lt (Nat.le_of_eq g7.symm))
  have g_b7 : n0 ≤ b7 := Nat.le_trans (Nat.le_trans Z0 (Keep.refl h0 []).1) (Nat.le_of_eq g7.symm)
  have sz_b7 : h0.size ≤ b7 := Nat.le_trans (Keep.refl h0 []).1 (Nat.le_of_eq g7.symm)
  have hk := Nat.le_trans hk E7.1
  have Kp7 := Keep.ext (Keep.refl h0 []) E7
  have F7_43 : Fld Z hp7 b7 "com/example/leafwright/leafwright/Thumbnails$Candidate" "url" "Ljava/lang/String;" .null := D7 (Or.inr (hw _ (List.mem_of_getElem? (i := 43) rfl))) (ty := (.object "java/lang/String")) (by decide)
  have F7_45 : Fld Z hp7 b7 "com/example/leafwright/leafwright/Thumbnails$Candidate" "width" "I" (.int (0 : Int32)) := D7 (Or.inr (hw _ (List.mem_of_getElem? (i := 45) rfl))) (ty := .int) (by decide)
  have F7_47 : Fld Z hp7 b7 "com/example/leafwright/leafwright/Thumbnails$Candidate" "height" "I" (.int (0 : Int32)) := D7 (Or.inr (hw _ (List.mem_of_getElem? (i := 47) rfl))) (ty := .int) (by decide)
  have F7_49 : Fld Z hp7 b7 "com/example/leafwright/leafwright/Thumbnails$Candidate" "source" "Lcom/example/leafwright/leafwright/Thumbnails$Source;" .null := D7 (Or.inr (hw _ (List.mem_of_getElem? (i := 49) rfl))) (ty := (.object "com/example/leafwright/leafwright/Thumbnails$Source")) (by decide)
  have ch8 : ∀ t, Steps p.tables e below (T7.setTop (mkF m 79 #[.val (.int p1), .val (.int p2), .val (.int p3), .val (.int p4), .val (.int p5), .val (.int w), .val (.int h1), .val (.ref (ad 0)), .val (.int (w + (p3 % (2 : Int32)))), .val (.int p4), .unset, .unset, .unset, .unset] [(.ref b7)])) t → Steps p.tables e below (s₁.setTop (entryFrame m #[(.int p1), (.int p2), (.int p3), (.int p4), (.int p5)] maxLocals)) t := fun t k => ch6 t (by
      show Steps p.tables e below (T5.setTop (mkF m 36 #[.val (.int p1), .val (.int p2), .val (.int p3), .val (.int p4), .val (.int p5), .val (.int w), .val (.int h1), .unset, .unset, .unset, .unset, .unset, .unset, .unset] [(.ref (ad 0))])) t
      refine XS.astore X5.here hx rfl (hb hby at_36) rfl rfl (l' := #[.val (.int p1), .val (.int p2), .val (.int p3), .val (.int p4), .val (.int p5), .val (.int w), .val (.int h1), .val (.ref (ad 0)), .unset, .unset, .unset, .unset, .unset, .unset]) rfl ?_
      show Steps p.tables e below (T5.setTop (mkF m 38 #[.val (.int p1), .val (.int p2), .val (.int p3), .val (.int p4), .val (.int p5), .val (.int w), .val (.int h1), .val (.ref (ad 0)), .unset, .unset, .unset, .unset, .unset, .unset] [])) t
      refine XS.iload X5.here hx rfl (hb hby at_38) rfl ?_
      show Steps p.tables e below (T5.setTop (mkF m 40 #[.val (.int p1), .val (.int p2), .val (.int p3), .val (.int p4), .val (.int p5), .val (.int w), .val (.int h1), .val (.ref (ad 0)), .unset, .unset, .unset, .unset, .unset, .unset] [(.int p5)])) t
      refine XS.iconst X5.here hx rfl (hb hby at_40) ?_
      show Steps p.tables e below (T5.setTop (mkF m 41 #[.val (.int p1), .val (.int p2), .val (.int p3), .val (.int p4), .val (.int p5), .val (.int w), .val (.int h1), .val (.ref (ad 0)), .unset, .unset, .unset, .unset, .unset, .unset] [(.int (2 : Int32)), (.int p5)])) t
      refine XS.iand X5.here hx rfl (hb hby at_41) rfl ?_
      show Steps p.tables e below (T5.setTop (mkF m 42 #[.val (.int p1), .val (.int p2), .val (.int p3), .val (.int p4), .val (.int p5), .val (.int w), .val (.int h1), .val (.ref (ad 0)), .unset, .unset, .unset, .unset, .unset, .unset] [(.int (p5 &&& (2 : Int32)))])) t
      refine XS.ifNo X5.here hx rfl (hb hby at_42) rfl ((if0 _ _).trans (feq s1).1) ?_
      show Steps p.tables e below (T5.setTop (mkF m 45 #[.val (.int p1), .val (.int p2), .val (.int p3), .val (.int p4), .val (.int p5), .val (.int w), .val (.int h1), .val (.ref (ad 0)), .unset, .unset, .unset, .unset, .unset, .unset] [])) t
      refine XS.iload X5.here hx rfl (hb hby at_45) rfl ?_
      show Steps p.tables e below (T5.setTop (mkF m 47 #[.val (.int p1), .val (.int p2), .val (.int p3), .val (.int p4), .val (.int p5), .val (.int w), .val (.int h1), .val (.ref (ad 0)), .unset, .unset, .unset, .unset, .unset, .unset] [(.int w)])) t
      refine XS.iloadN X5.here hx rfl (hb hby at_47) rfl ?_
      show Steps p.tables e below (T5.setTop (mkF m 48 #[.val (.int p1), .val (.int p2), .val (.int p3), .val (.int p4), .val (.int p5), .val (.int w), .val (.int h1), .val (.ref (ad 0)), .unset, .unset, .unset, .unset, .unset, .unset] [(.int p3), (.int w)])) t
      refine XS.iconst X5.here hx rfl (hb hby at_48) ?_
      show Steps p.tables e below (T5.setTop (mkF m 49 #[.val (.int p1), .val (.int p2), .val (.int p3), .val (.int p4), .val (.int p5), .val (.int w), .val (.int h1), .val (.ref (ad 0)), .unset, .unset, .unset, .unset, .unset, .unset] [(.int (2 : Int32)), (.int p3), (.int w)])) t
      refine Jvm.RoadKit.iremM (g := (mkF m 49 #[.val (.int p1), .val (.int p2), .val (.int p3), .val (.int p4), .val (.int p5), .val (.int w), .val (.int h1), .val (.ref (ad 0)), .unset, .unset, .unset, .unset, .unset, .unset] [(.int (2 : Int32)), (.int p3), (.int w)])) X5 hx rfl (hb hby at_49) rfl (by decide) ?_
      show Steps p.tables e below (T5.setTop (mkF m 50 #[.val (.int p1), .val (.int p2), .val (.int p3), .val (.int p4), .val (.int p5), .val (.int w), .val (.int h1), .val (.ref (ad 0)), .unset, .unset, .unset, .unset, .unset, .unset] [(.int (p3 % (2 : Int32))), (.int w)])) t
      refine XS.iadd X5.here hx rfl (hb hby at_50) rfl ?_
      show Steps p.tables e below (T5.setTop (mkF m 51 #[.val (.int p1), .val (.int p2), .val (.int p3), .val (.int p4), .val (.int p5), .val (.int w), .val (.int h1), .val (.ref (ad 0)), .unset, .unset, .unset, .unset, .unset, .unset] [(.int (w + (p3 % (2 : Int32))))])) t
      refine XS.goto X5.here hx rfl (pc0 := 51) (pc' := 55) rfl (hb hby at_51) (by decide) (by decide) ?_
      show Steps p.tables e below (T5.setTop (mkF m 55 #[.val (.int p1), .val (.int p2), .val (.int p3), .val (.int p4), .val (.int p5), .val (.int w), .val (.int h1), .val (.ref (ad 0)), .unset, .unset, .unset, .unset, .unset, .unset] [(.int (w + (p3 % (2 : Int32))))])) t
      refine XS.istore X5.here hx rfl (hb hby at_55) rfl (l' := #[.val (.int p1), .val (.int p2), .val (.int p3), .val (.int p4), .val (.int p5), .val (.int w), .val (.int h1), .val (.ref (ad 0)), .val (.int (w + (p3 % (2 : Int32)))), .unset, .unset, .unset, .unset, .unset]) rfl ?_
      show Steps p.tables e below (T5.setTop (mkF m 57 #[.val (.int p1), .val (.int p2), .val (.int p3), .val (.int p4), .val (.int p5), .val (.int w), .val (.int h1), .val (.ref (ad 0)), .val (.int (w + (p3 % (2 : Int32)))), .unset, .unset, .unset, .unset, .unset] [])) t
      refine XS.iload X5.here hx rfl (hb hby at_57) rfl ?_
      show Steps p.tables e below (T5.setTop (mkF m 59 #[.val (.int p1), .val (.int p2), .val (.int p3), .val (.int p4), .val (.int p5), .val (.int w), .val (.int h1), .val (.ref (ad 0)), .val (.int (w + (p3 % (2 : Int32)))), .unset, .unset, .unset, .unset, .unset] [(.int p5)])) t
      refine XS.iconst X5.here hx rfl (hb hby at_59) ?_
      show Steps p.tables e below (T5.setTop (mkF m 60 #[.val (.int p1), .val (.int p2), .val (.int p3), .val (.int p4), .val (.int p5), .val (.int w), .val (.int h1), .val (.ref (ad 0)), .val (.int (w + (p3 % (2 : Int32)))), .unset, .unset, .unset, .unset, .unset] [(.int (4 : Int32)), (.int p5)])) t
      refine XS.iand X5.here hx rfl (hb hby at_60) rfl ?_
      show Steps p.tables e below (T5.setTop (mkF m 61 #[.val (.int p1), .val (.int p2), .val (.int p3), .val (.int p4), .val (.int p5), .val (.int w), .val (.int h1), .val (.ref (ad 0)), .val (.int (w + (p3 % (2 : Int32)))), .unset, .unset, .unset, .unset, .unset] [(.int (p5 &&& (4 : Int32)))])) t
      refine XS.ifYes X5.here hx rfl (pc0 := 61) (pc' := 73) rfl (hb hby at_61) rfl ((if0 _ _).trans (teq s2).1) (by decide) (by decide) ?_
      show Steps p.tables e below (T5.setTop (mkF m 73 #[.val (.int p1), .val (.int p2), .val (.int p3), .val (.int p4), .val (.int p5), .val (.int w), .val (.int h1), .val (.ref (ad 0)), .val (.int (w + (p3 % (2 : Int32)))), .unset, .unset, .unset, .unset, .unset] [])) t
      refine XS.iloadN X5.here hx rfl (hb hby at_73) rfl ?_
      show Steps p.tables e below (T5.setTop (mkF m 74 #[.val (.int p1), .val (.int p2), .val (.int p3), .val (.int p4), .val (.int p5), .val (.int w), .val (.int h1), .val (.ref (ad 0)), .val (.int (w + (p3 % (2 : Int32)))), .unset, .unset, .unset, .unset, .unset] [(.int p4)])) t
      refine XS.istore X5.here hx rfl (hb hby at_74) rfl (l' := #[.val (.int p1), .val (.int p2), .val (.int p3), .val (.int p4), .val (.int p5), .val (.int w), .val (.int h1), .val (.ref (ad 0)), .val (.int (w + (p3 % (2 : Int32)))), .val (.int p4), .unset, .unset, .unset, .unset]) rfl ?_
      show Steps p.tables e below (T5.setTop (mkF m 76 #[.val (.int p1), .val (.int p2), .val (.int p3), .val (.int p4), .val (.int p5), .val (.int w), .val (.int h1), .val (.ref (ad 0)), .val (.int (w + (p3 % (2 : Int32)))), .val (.int p4), .unset, .unset, .unset, .unset] [])) t
      exact st7 t k)
  obtain ⟨ls9, T9, hp9, ks9, X9, e9, E9, hS, hk, hZ, hown, st9⟩ := ldcS X7 hx hZ hown (hw _ (List.mem_of_getElem? (i := 11) rfl)) (own_wS hw) e7 hS hk (g := (mkF m 80 #[.val (.int p1), .val (.int p2), .val (.int p3), .val (.int p4), .val (.int p5), .val (.int w), .val (.int h1), .val (.ref (ad 0)), .val (.int (w + (p3 % (2 : Int32)))), .val (.int p4), .unset, .unset, .unset, .unset] [(.ref b7), (.ref b7)])) rfl (hb hby at_80) (n := 4) (by decide) (by decide) (by decide) (by decide)
  have Kp9 := Keep.ext Kp7 E9
  have ch10 : ∀ t, Steps p.tables e below (T9.setTop (mkF m 82 #[.val (.int p1), .val (.int p2), .val (.int p3), .val (.int p4), .val (.int p5), .val (.int w), .val (.int h1), .val (.ref (ad 0)), .val (.int (w + (p3 % (2 : Int32)))), .val (.int p4), .unset, .unset, .unset, .unset] [(.ref ls9), (.ref b7), (.ref b7)])) t → Steps p.tables e below (s₁.setTop (entryFrame m #[(.int p1), (.int p2), (.int p3), (.int p4), (.int p5)] maxLocals)) t := fun t k => ch8 t (by
      show Steps p.tables e below (T7.setTop (mkF m 79 #[.val (.int p1), .val (.int p2), .val (.int p3), .val (.int p4), .val (.int p5), .val (.int w), .val (.int h1), .val (.ref (ad 0)), .val (.int (w + (p3 % (2 : Int32)))), .val (.int p4), .unset, .unset, .unset, .unset] [(.ref b7)])) t
      refine XS.dup X7.here hx rfl (hb hby at_79) rfl rfl ?_
      show Steps p.tables e below (T7.setTop (mkF m 80 #[.val (.int p1), .val (.int p2), .val (.int p3), .val (.int p4), .val (.int p5), .val (.int w), .val (.int h1), .val (.ref (ad 0)), .val (.int (w + (p3 % (2 : Int32)))), .val (.int p4), .unset, .unset, .unset, .unset] [(.ref b7), (.ref b7)])) t
      exact st9 t k)
  have cf11 := (A7.ext E9)
  have cf12 := (F7_43.ext E9)
  have cf13 := (F7_45.ext E9)
  have cf14 := (F7_47.ext E9)
  have cf15 := (F7_49.ext E9)
  obtain ⟨vv16, _, ⟨T16, L16, kk16, nn16⟩, -, X16, hS2, hgr, ⟨Lc16, hQ16, l16, y16, z16⟩, st16⟩ := X9.specialBackS hx (y := (⟨"com/example/leafwright/leafwright/Thumbnails$Candidate", "<init>", "(Ljava/lang/String;IILcom/example/leafwright/leafwright/Thumbnails$Source;)V"⟩ : MethodName)) rfl hown (mvT hZ (hw _ (List.mem_of_getElem? (i := 19) rfl))) (mvT hZ (hw _ (List.mem_of_getElem? (i := 20) rfl))) (mvT hZ (hw _ (List.mem_of_getElem? (i := 21) rfl))) (by decide) (backOfS (W := 1) (own_ini l Z a0 hw [] hp9 n0 (Nat.le_trans Z0 Kp9.1) b7 ls9 w h1 (ad 0) cf11 cf12 cf13 cf14 cf15 g_b7 pw ph) hZ (hw _ (List.mem_of_getElem? (i := 21) rfl)) (hw _ (List.mem_of_getElem? (i := 10) rfl)) (by decide) (by decide)) (g := (mkF m 88 #[.val (.int p1), .val (.int p2), .val (.int p3), .val (.int p4), .val (.int p5), .val (.int w), .val (.int h1), .val (.ref (ad 0)), .val (.int (w + (p3 % (2 : Int32)))), .val (.int p4), .unset, .unset, .unset, .unset] [(.ref (ad 0)), (.int h1), (.int w), (.ref ls9), (.ref b7), (.ref b7)])) rfl (by rw [hml]; rfl) (Steps.refl _) (a := b7) (argsL := [(.ref ls9), (.int w), (.int h1), (.ref (ad 0))]) (rest := [(.ref b7)]) (lenOf own_pd__Ljava_lang_String_IILcom_example_leafwright_leafwright_Thumbnails_Source__V rfl) rfl (by show 2 * 0 + _ ≤ _; exact Nat.le_of_eq rfl) (hb hby at_88) (fun _ _ => ⟨rfl, e9, (by decide : 3 + 8 ≤ _), (by decide : 12 + 96 ≤ _)⟩)
  dsimp only [Pt.U, Pt.locs, Pt.cells, Pt.slots] at X16 l16 y16 z16 st16 hQ16 hS2 hgr
  subst l16 y16 z16
  obtain ⟨X16, hS, hZ, hown⟩ := rebS hS (by rw [e9]; exact hk) X16 hS2 hgr hZ hown
  obtain ⟨hh16, eh16⟩ : ∃ h, T16.heap = h := ⟨_, rfl⟩
  rw [eh16] at hQ16
  rw [eh16] at hS
  have hk : hh16.size ≤ hh16.size := Nat.le_refl _
  obtain ⟨rfl, Nq16, Kq16, fq16_0, fq16_1, fq16_2, fq16_3, fq16_4⟩ := hQ16
  have N16 := Fr.app N3 Nq16
  have Kp16 := Keep.trans Kp9 Kq16 (allS (Or.inr sz_b7) all0)
  have ch17 : ∀ t, Steps p.tables e below (T16.setTop (mkF m 91 #[.val (.int p1), .val (.int p2), .val (.int p3), .val (.int p4), .val (.int p5), .val (.int w), .val (.int h1), .val (.ref (ad 0)), .val (.int (w + (p3 % (2 : Int32)))), .val (.int p4), .unset, .unset, .unset, .unset] [(.ref b7)])) t → Steps p.tables e below (s₁.setTop (entryFrame m #[(.int p1), (.int p2), (.int p3), (.int p4), (.int p5)] maxLocals)) t := fun t k => ch10 t (by
      show Steps p.tables e below (T9.setTop (mkF m 82 #[.val (.int p1), .val (.int p2), .val (.int p3), .val (.int p4), .val (.int p5), .val (.int w), .val (.int h1), .val (.ref (ad 0)), .val (.int (w + (p3 % (2 : Int32)))), .val (.int p4), .unset, .unset, .unset, .unset] [(.ref ls9), (.ref b7), (.ref b7)])) t
      refine XS.iload X9.here hx rfl (hb hby at_82) rfl ?_
      show Steps p.tables e below (T9.setTop (mkF m 84 #[.val (.int p1), .val (.int p2), .val (.int p3), .val (.int p4), .val (.int p5), .val (.int w), .val (.int h1), .val (.ref (ad 0)), .val (.int (w + (p3 % (2 : Int32)))), .val (.int p4), .unset, .unset, .unset, .unset] [(.int w), (.ref ls9), (.ref b7), (.ref b7)])) t
      refine XS.iload X9.here hx rfl (hb hby at_84) rfl ?_
      show Steps p.tables e below (T9.setTop (mkF m 86 #[.val (.int p1), .val (.int p2), .val (.int p3), .val (.int p4), .val (.int p5), .val (.int w), .val (.int h1), .val (.ref (ad 0)), .val (.int (w + (p3 % (2 : Int32)))), .val (.int p4), .unset, .unset, .unset, .unset] [(.int h1), (.int w), (.ref ls9), (.ref b7), (.ref b7)])) t
      refine XS.aload X9.here hx rfl (hb hby at_86) rfl rfl ?_
      show Steps p.tables e below (T9.setTop (mkF m 88 #[.val (.int p1), .val (.int p2), .val (.int p3), .val (.int p4), .val (.int p5), .val (.int w), .val (.int h1), .val (.ref (ad 0)), .val (.int (w + (p3 % (2 : Int32)))), .val (.int p4), .unset, .unset, .unset, .unset] [(.ref (ad 0)), (.int h1), (.int w), (.ref ls9), (.ref b7), (.ref b7)])) t
      exact st16.trans k)
  have ch19 : ∀ t, Steps p.tables e below (T16.setTop (mkF m 97 #[.val (.int p1), .val (.int p2), .val (.int p3), .val (.int p4), .val (.int p5), .val (.int w), .val (.int h1), .val (.ref (ad 0)), .val (.int (w + (p3 % (2 : Int32)))), .val (.int p4), .val (.ref b7), .unset, .unset, .unset] [(.int w), (.int (w + (p3 % (2 : Int32))))])) t → Steps p.tables e below (s₁.setTop (entryFrame m #[(.int p1), (.int p2), (.int p3), (.int p4), (.int p5)] maxLocals)) t := fun t k => ch17 t (by
      show Steps p.tables e below (T16.setTop (mkF m 91 #[.val (.int p1), .val (.int p2), .val (.int p3), .val (.int p4), .val (.int p5), .val (.int w), .val (.int h1), .val (.ref (ad 0)), .val (.int (w + (p3 % (2 : Int32)))), .val (.int p4), .unset, .unset, .unset, .unset] [(.ref b7)])) t
      refine XS.astore X16.here hx rfl (hb hby at_91) rfl rfl (l' := #[.val (.int p1), .val (.int p2), .val (.int p3), .val (.int p4), .val (.int p5), .val (.int w), .val (.int h1), .val (.ref (ad 0)), .val (.int (w + (p3 % (2 : Int32)))), .val (.int p4), .val (.ref b7), .unset, .unset, .unset]) rfl ?_
      show Steps p.tables e below (T16.setTop (mkF m 93 #[.val (.int p1), .val (.int p2), .val (.int p3), .val (.int p4), .val (.int p5), .val (.int w), .val (.int h1), .val (.ref (ad 0)), .val (.int (w + (p3 % (2 : Int32)))), .val (.int p4), .val (.ref b7), .unset, .unset, .unset] [])) t
      refine XS.iload X16.here hx rfl (hb hby at_93) rfl ?_
      show Steps p.tables e below (T16.setTop (mkF m 95 #[.val (.int p1), .val (.int p2), .val (.int p3), .val (.int p4), .val (.int p5), .val (.int w), .val (.int h1), .val (.ref (ad 0)), .val (.int (w + (p3 % (2 : Int32)))), .val (.int p4), .val (.ref b7), .unset, .unset, .unset] [(.int (w + (p3 % (2 : Int32))))])) t
      refine XS.iload X16.here hx rfl (hb hby at_95) rfl ?_
      exact k)
  by_cases hq18 : w < (w + (p3 % (2 : Int32)))
  · skip
    have ch21 : ∀ t, Steps p.tables e below (T16.setTop (mkF m 104 #[.val (.int p1), .val (.int p2), .val (.int p3), .val (.int p4), .val (.int p5), .val (.int w), .val (.int h1), .val (.ref (ad 0)), .val (.int (w + (p3 % (2 : Int32)))), .val (.int p4), .val (.ref b7), .unset, .unset, .unset] [(.int h1), (.int p4)])) t → Steps p.tables e below (s₁.setTop (entryFrame m #[(.int p1), (.int p2), (.int p3), (.int p4), (.int p5)] maxLocals)) t := fun t k => ch19 t (by
        show Steps p.tables e below (T16.setTop (mkF m 97 #[.val (.int p1), .val (.int p2), .val (.int p3), .val (.int p4), .val (.int p5), .val (.int w), .val (.int h1), .val (.ref (ad 0)), .val (.int (w + (p3 % (2 : Int32)))), .val (.int p4), .val (.ref b7), .unset, .unset, .unset] [(.int w), (.int (w + (p3 % (2 : Int32))))])) t
        refine XS.icmpNo X16.here hx rfl (hb hby at_97) rfl (tlt hq18).2.2.2 ?_
        show Steps p.tables e below (T16.setTop (mkF m 100 #[.val (.int p1), .val (.int p2), .val (.int p3), .val (.int p4), .val (.int p5), .val (.int w), .val (.int h1), .val (.ref (ad 0)), .val (.int (w + (p3 % (2 : Int32)))), .val (.int p4), .val (.ref b7), .unset, .unset, .unset] [])) t
        refine XS.iload X16.here hx rfl (hb hby at_100) rfl ?_
        show Steps p.tables e below (T16.setTop (mkF m 102 #[.val (.int p1), .val (.int p2), .val (.int p3), .val (.int p4), .val (.int p5), .val (.int w), .val (.int h1), .val (.ref (ad 0)), .val (.int (w + (p3 % (2 : Int32)))), .val (.int p4), .val (.ref b7), .unset, .unset, .unset] [(.int p4)])) t
        refine XS.iload X16.here hx rfl (hb hby at_102) rfl ?_
        exact k)
    by_cases hq20 : h1 < p4
    · skip
      obtain ⟨cq22, kq22, qa22, qb22, qc22⟩ := isOf hZ eh16 fq16_0
      obtain ⟨vv23, _, ⟨T23, L23, kk23, nn23⟩, -, X23, ⟨Lc23, hQ23, l23, y23, z23⟩, st23⟩ := X16.virtualBack hx (y := (⟨"com/example/leafwright/leafwright/Thumbnails$Candidate", "covers", "(II)Z"⟩ : MethodName)) (z := (⟨"com/example/leafwright/leafwright/Thumbnails$Candidate", "covers", "(II)Z"⟩ : MethodName)) hown (mvT hZ (hw _ (List.mem_of_getElem? (i := 50) rfl))) (mvT hZ (hw _ (List.mem_of_getElem? (i := 51) rfl))) (notFace_of_selects (args := #[]) (mvT hZ (hw _ (List.mem_of_getElem? (i := 53) rfl)))) (mvT hZ (hw _ (List.mem_of_getElem? (i := 53) rfl))) (mvT hZ (hw _ (List.mem_of_getElem? (i := 52) rfl))) (by decide) (backOf (W := 0) (own_cov_c l Z a0 hw [] hh16 n0 (Nat.le_trans Z0 Kp16.1) b7 w h1 (w + (p3 % (2 : Int32))) p4 fq16_2 fq16_3 hq18 hq20) hZ (hw _ (List.mem_of_getElem? (i := 54) rfl)) (hw _ (List.mem_of_getElem? (i := 10) rfl)) (by decide) (by decide)) qa22 qc22 (g := (mkF m 120 #[.val (.int p1), .val (.int p2), .val (.int p3), .val (.int p4), .val (.int p5), .val (.int w), .val (.int h1), .val (.ref (ad 0)), .val (.int (w + (p3 % (2 : Int32)))), .val (.int p4), .val (.ref b7), .val (.int (1 : Int32)), .unset, .unset] [(.int p4), (.int (w + (p3 % (2 : Int32)))), (.ref b7)])) rfl (by rw [hml]; rfl) (Steps.refl _) (argsL := [(.int (w + (p3 % (2 : Int32)))), (.int p4)]) (rest := []) (lenOf own_pd__II_Z rfl) rfl (by show 2 * 0 + _ ≤ _; exact Nat.le_of_eq rfl) (hb hby at_120) (fun _ _ => ⟨rfl, eh16, (by decide : 11 + 0 ≤ _), (by decide : 108 + 0 ≤ _)⟩)
      dsimp only [Pt.U, Pt.locs, Pt.cells, Pt.slots] at X23 l23 y23 z23 st23 hQ23
      subst l23 y23 z23
      obtain ⟨rfl, Nq23, e23⟩ := hQ23
      have N23 := Fr.app N16 Nq23
      have ch24 : ∀ t, Steps p.tables e below (T23.setTop (mkF m 123 #[.val (.int p1), .val (.int p2), .val (.int p3), .val (.int p4), .val (.int p5), .val (.int w), .val (.int h1), .val (.ref (ad 0)), .val (.int (w + (p3 % (2 : Int32)))), .val (.int p4), .val (.ref b7), .val (.int (1 : Int32)), .unset, .unset] [(.int (0 : Int32))])) t → Steps p.tables e below (s₁.setTop (entryFrame m #[(.int p1), (.int p2), (.int p3), (.int p4), (.int p5)] maxLocals)) t := fun t k => ch21 t (by
          show Steps p.tables e below (T16.setTop (mkF m 104 #[.val (.int p1), .val (.int p2), .val (.int p3), .val (.int p4), .val (.int p5), .val (.int w), .val (.int h1), .val (.ref (ad 0)), .val (.int (w + (p3 % (2 : Int32)))), .val (.int p4), .val (.ref b7), .unset, .unset, .unset] [(.int h1), (.int p4)])) t
          refine XS.icmpNo X16.here hx rfl (hb hby at_104) rfl (tlt hq20).2.2.2 ?_
          show Steps p.tables e below (T16.setTop (mkF m 107 #[.val (.int p1), .val (.int p2), .val (.int p3), .val (.int p4), .val (.int p5), .val (.int w), .val (.int h1), .val (.ref (ad 0)), .val (.int (w + (p3 % (2 : Int32)))), .val (.int p4), .val (.ref b7), .unset, .unset, .unset] [])) t
          refine XS.iconst X16.here hx rfl (hb hby at_107) ?_
          show Steps p.tables e below (T16.setTop (mkF m 108 #[.val (.int p1), .val (.int p2), .val (.int p3), .val (.int p4), .val (.int p5), .val (.int w), .val (.int h1), .val (.ref (ad 0)), .val (.int (w + (p3 % (2 : Int32)))), .val (.int p4), .val (.ref b7), .unset, .unset, .unset] [(.int (1 : Int32))])) t
          refine XS.goto X16.here hx rfl (pc0 := 108) (pc' := 112) rfl (hb hby at_108) (by decide) (by decide) ?_
          show Steps p.tables e below (T16.setTop (mkF m 112 #[.val (.int p1), .val (.int p2), .val (.int p3), .val (.int p4), .val (.int p5), .val (.int w), .val (.int h1), .val (.ref (ad 0)), .val (.int (w + (p3 % (2 : Int32)))), .val (.int p4), .val (.ref b7), .unset, .unset, .unset] [(.int (1 : Int32))])) t
          refine XS.istore X16.here hx rfl (hb hby at_112) rfl (l' := #[.val (.int p1), .val (.int p2), .val (.int p3), .val (.int p4), .val (.int p5), .val (.int w), .val (.int h1), .val (.ref (ad 0)), .val (.int (w + (p3 % (2 : Int32)))), .val (.int p4), .val (.ref b7), .val (.int (1 : Int32)), .unset, .unset]) rfl ?_
          show Steps p.tables e below (T16.setTop (mkF m 114 #[.val (.int p1), .val (.int p2), .val (.int p3), .val (.int p4), .val (.int p5), .val (.int w), .val (.int h1), .val (.ref (ad 0)), .val (.int (w + (p3 % (2 : Int32)))), .val (.int p4), .val (.ref b7), .val (.int (1 : Int32)), .unset, .unset] [])) t
          refine XS.aload X16.here hx rfl (hb hby at_114) rfl rfl ?_
          show Steps p.tables e below (T16.setTop (mkF m 116 #[.val (.int p1), .val (.int p2), .val (.int p3), .val (.int p4), .val (.int p5), .val (.int w), .val (.int h1), .val (.ref (ad 0)), .val (.int (w + (p3 % (2 : Int32)))), .val (.int p4), .val (.ref b7), .val (.int (1 : Int32)), .unset, .unset] [(.ref b7)])) t
          refine XS.iload X16.here hx rfl (hb hby at_116) rfl ?_
          show Steps p.tables e below (T16.setTop (mkF m 118 #[.val (.int p1), .val (.int p2), .val (.int p3), .val (.int p4), .val (.int p5), .val (.int w), .val (.int h1), .val (.ref (ad 0)), .val (.int (w + (p3 % (2 : Int32)))), .val (.int p4), .val (.ref b7), .val (.int (1 : Int32)), .unset, .unset] [(.int (w + (p3 % (2 : Int32)))), (.ref b7)])) t
          refine XS.iload X16.here hx rfl (hb hby at_118) rfl ?_
          show Steps p.tables e below (T16.setTop (mkF m 120 #[.val (.int p1), .val (.int p2), .val (.int p3), .val (.int p4), .val (.int p5), .val (.int w), .val (.int h1), .val (.ref (ad 0)), .val (.int (w + (p3 % (2 : Int32)))), .val (.int p4), .val (.ref b7), .val (.int (1 : Int32)), .unset, .unset] [(.int p4), (.int (w + (p3 % (2 : Int32)))), (.ref b7)])) t
          exact st23.trans k)
      obtain ⟨cq25, kq25, qa25, qb25, qc25⟩ := isOf hZ e23 fq16_0
      obtain ⟨vv26, _, ⟨T26, L26, kk26, nn26⟩, -, X26, ⟨Lc26, hQ26, l26, y26, z26⟩, st26⟩ := X23.virtualBack hx (y := (⟨"com/example/leafwright/leafwright/Thumbnails$Candidate", "covers", "(II)Z"⟩ : MethodName)) (z := (⟨"com/example/leafwright/leafwright/Thumbnails$Candidate", "covers", "(II)Z"⟩ : MethodName)) hown (mvT hZ (hw _ (List.mem_of_getElem? (i := 50) rfl))) (mvT hZ (hw _ (List.mem_of_getElem? (i := 51) rfl))) (notFace_of_selects (args := #[]) (mvT hZ (hw _ (List.mem_of_getElem? (i := 53) rfl)))) (mvT hZ (hw _ (List.mem_of_getElem? (i := 53) rfl))) (mvT hZ (hw _ (List.mem_of_getElem? (i := 52) rfl))) (by decide) (backOf (W := 0) (own_cov_a l Z a0 hw [] hh16 n0 (Nat.le_trans Z0 Kp16.1) b7 w h1 w h1 fq16_2 fq16_3 (Int32.lt_irrefl : ¬ w < w)) hZ (hw _ (List.mem_of_getElem? (i := 54) rfl)) (hw _ (List.mem_of_getElem? (i := 10) rfl)) (by decide) (by decide)) qa25 qc25 (g := (mkF m 131 #[.val (.int p1), .val (.int p2), .val (.int p3), .val (.int p4), .val (.int p5), .val (.int w), .val (.int h1), .val (.ref (ad 0)), .val (.int (w + (p3 % (2 : Int32)))), .val (.int p4), .val (.ref b7), .val (.int (1 : Int32)), .val (.int (0 : Int32)), .unset] [(.int h1), (.int w), (.ref b7)])) rfl (by rw [hml]; rfl) (Steps.refl _) (argsL := [(.int w), (.int h1)]) (rest := []) (lenOf own_pd__II_Z rfl) rfl (by show 2 * 0 + _ ≤ _; exact Nat.le_of_eq rfl) (hb hby at_131) (fun _ _ => ⟨rfl, e23, (by decide : 11 + 0 ≤ _), (by decide : 108 + 0 ≤ _)⟩)
      dsimp only [Pt.U, Pt.locs, Pt.cells, Pt.slots] at X26 l26 y26 z26 st26 hQ26
      subst l26 y26 z26
      obtain ⟨rfl, Nq26, e26⟩ := hQ26
      have N26 := Fr.app N23 Nq26
      have ch27 : ∀ t, Steps p.tables e below (T26.setTop (mkF m 134 #[.val (.int p1), .val (.int p2), .val (.int p3), .val (.int p4), .val (.int p5), .val (.int w), .val (.int h1), .val (.ref (ad 0)), .val (.int (w + (p3 % (2 : Int32)))), .val (.int p4), .val (.ref b7), .val (.int (1 : Int32)), .val (.int (0 : Int32)), .unset] [(.int (1 : Int32))])) t → Steps p.tables e below (s₁.setTop (entryFrame m #[(.int p1), (.int p2), (.int p3), (.int p4), (.int p5)] maxLocals)) t := fun t k => ch24 t (by
          show Steps p.tables e below (T23.setTop (mkF m 123 #[.val (.int p1), .val (.int p2), .val (.int p3), .val (.int p4), .val (.int p5), .val (.int w), .val (.int h1), .val (.ref (ad 0)), .val (.int (w + (p3 % (2 : Int32)))), .val (.int p4), .val (.ref b7), .val (.int (1 : Int32)), .unset, .unset] [(.int (0 : Int32))])) t
          refine XS.istore X23.here hx rfl (hb hby at_123) rfl (l' := #[.val (.int p1), .val (.int p2), .val (.int p3), .val (.int p4), .val (.int p5), .val (.int w), .val (.int h1), .val (.ref (ad 0)), .val (.int (w + (p3 % (2 : Int32)))), .val (.int p4), .val (.ref b7), .val (.int (1 : Int32)), .val (.int (0 : Int32)), .unset]) rfl ?_
          show Steps p.tables e below (T23.setTop (mkF m 125 #[.val (.int p1), .val (.int p2), .val (.int p3), .val (.int p4), .val (.int p5), .val (.int w), .val (.int h1), .val (.ref (ad 0)), .val (.int (w + (p3 % (2 : Int32)))), .val (.int p4), .val (.ref b7), .val (.int (1 : Int32)), .val (.int (0 : Int32)), .unset] [])) t
          refine XS.aload X23.here hx rfl (hb hby at_125) rfl rfl ?_
          show Steps p.tables e below (T23.setTop (mkF m 127 #[.val (.int p1), .val (.int p2), .val (.int p3), .val (.int p4), .val (.int p5), .val (.int w), .val (.int h1), .val (.ref (ad 0)), .val (.int (w + (p3 % (2 : Int32)))), .val (.int p4), .val (.ref b7), .val (.int (1 : Int32)), .val (.int (0 : Int32)), .unset] [(.ref b7)])) t
          refine XS.iload X23.here hx rfl (hb hby at_127) rfl ?_
          show Steps p.tables e below (T23.setTop (mkF m 129 #[.val (.int p1), .val (.int p2), .val (.int p3), .val (.int p4), .val (.int p5), .val (.int w), .val (.int h1), .val (.ref (ad 0)), .val (.int (w + (p3 % (2 : Int32)))), .val (.int p4), .val (.ref b7), .val (.int (1 : Int32)), .val (.int (0 : Int32)), .unset] [(.int w), (.ref b7)])) t
          refine XS.iload X23.here hx rfl (hb hby at_129) rfl ?_
          show Steps p.tables e below (T23.setTop (mkF m 131 #[.val (.int p1), .val (.int p2), .val (.int p3), .val (.int p4), .val (.int p5), .val (.int w), .val (.int h1), .val (.ref (ad 0)), .val (.int (w + (p3 % (2 : Int32)))), .val (.int p4), .val (.ref b7), .val (.int (1 : Int32)), .val (.int (0 : Int32)), .unset] [(.int h1), (.int w), (.ref b7)])) t
          exact st26.trans k)
      have ch28 : ∀ t, Steps p.tables e below (T26.setTop (mkF m 161 #[.val (.int p1), .val (.int p2), .val (.int p3), .val (.int p4), .val (.int p5), .val (.int w), .val (.int h1), .val (.ref (ad 0)), .val (.int (w + (p3 % (2 : Int32)))), .val (.int p4), .val (.ref b7), .val (.int (1 : Int32)), .val (.int (0 : Int32)), .val (.int (1 : Int32))] [(.int (1 : Int32))])) t → Steps p.tables e below (s₁.setTop (entryFrame m #[(.int p1), (.int p2), (.int p3), (.int p4), (.int p5)] maxLocals)) t := fun t k => ch27 t (by
          show Steps p.tables e below (T26.setTop (mkF m 134 #[.val (.int p1), .val (.int p2), .val (.int p3), .val (.int p4), .val (.int p5), .val (.int w), .val (.int h1), .val (.ref (ad 0)), .val (.int (w + (p3 % (2 : Int32)))), .val (.int p4), .val (.ref b7), .val (.int (1 : Int32)), .val (.int (0 : Int32)), .unset] [(.int (1 : Int32))])) t
          refine XS.istore X26.here hx rfl (hb hby at_134) rfl (l' := #[.val (.int p1), .val (.int p2), .val (.int p3), .val (.int p4), .val (.int p5), .val (.int w), .val (.int h1), .val (.ref (ad 0)), .val (.int (w + (p3 % (2 : Int32)))), .val (.int p4), .val (.ref b7), .val (.int (1 : Int32)), .val (.int (0 : Int32)), .val (.int (1 : Int32))]) rfl ?_
          show Steps p.tables e below (T26.setTop (mkF m 136 #[.val (.int p1), .val (.int p2), .val (.int p3), .val (.int p4), .val (.int p5), .val (.int w), .val (.int h1), .val (.ref (ad 0)), .val (.int (w + (p3 % (2 : Int32)))), .val (.int p4), .val (.ref b7), .val (.int (1 : Int32)), .val (.int (0 : Int32)), .val (.int (1 : Int32))] [])) t
          refine XS.iload X26.here hx rfl (hb hby at_136) rfl ?_
          show Steps p.tables e below (T26.setTop (mkF m 138 #[.val (.int p1), .val (.int p2), .val (.int p3), .val (.int p4), .val (.int p5), .val (.int w), .val (.int h1), .val (.ref (ad 0)), .val (.int (w + (p3 % (2 : Int32)))), .val (.int p4), .val (.ref b7), .val (.int (1 : Int32)), .val (.int (0 : Int32)), .val (.int (1 : Int32))] [(.int (0 : Int32))])) t
          refine XS.iload X26.here hx rfl (hb hby at_138) rfl ?_
          show Steps p.tables e below (T26.setTop (mkF m 140 #[.val (.int p1), .val (.int p2), .val (.int p3), .val (.int p4), .val (.int p5), .val (.int w), .val (.int h1), .val (.ref (ad 0)), .val (.int (w + (p3 % (2 : Int32)))), .val (.int p4), .val (.ref b7), .val (.int (1 : Int32)), .val (.int (0 : Int32)), .val (.int (1 : Int32))] [(.int (1 : Int32)), (.int (0 : Int32))])) t
          refine XS.ifYes X26.here hx rfl (pc0 := 140) (pc' := 147) rfl (hb hby at_140) rfl ((if0 _ _).trans (feq (by decide : ¬ (1 : Int32) = (0 : Int32))).2) (by decide) (by decide) ?_
          show Steps p.tables e below (T26.setTop (mkF m 147 #[.val (.int p1), .val (.int p2), .val (.int p3), .val (.int p4), .val (.int p5), .val (.int w), .val (.int h1), .val (.ref (ad 0)), .val (.int (w + (p3 % (2 : Int32)))), .val (.int p4), .val (.ref b7), .val (.int (1 : Int32)), .val (.int (0 : Int32)), .val (.int (1 : Int32))] [(.int (0 : Int32))])) t
          refine XS.iconst X26.here hx rfl (hb hby at_147) ?_
          show Steps p.tables e below (T26.setTop (mkF m 148 #[.val (.int p1), .val (.int p2), .val (.int p3), .val (.int p4), .val (.int p5), .val (.int w), .val (.int h1), .val (.ref (ad 0)), .val (.int (w + (p3 % (2 : Int32)))), .val (.int p4), .val (.ref b7), .val (.int (1 : Int32)), .val (.int (0 : Int32)), .val (.int (1 : Int32))] [(.int (0 : Int32)), (.int (0 : Int32))])) t
          refine XS.icmpNo X26.here hx rfl (hb hby at_148) rfl (teq (by decide : (0 : Int32) = (0 : Int32))).2 ?_
          show Steps p.tables e below (T26.setTop (mkF m 151 #[.val (.int p1), .val (.int p2), .val (.int p3), .val (.int p4), .val (.int p5), .val (.int w), .val (.int h1), .val (.ref (ad 0)), .val (.int (w + (p3 % (2 : Int32)))), .val (.int p4), .val (.ref b7), .val (.int (1 : Int32)), .val (.int (0 : Int32)), .val (.int (1 : Int32))] [])) t
          refine XS.iload X26.here hx rfl (hb hby at_151) rfl ?_
          show Steps p.tables e below (T26.setTop (mkF m 153 #[.val (.int p1), .val (.int p2), .val (.int p3), .val (.int p4), .val (.int p5), .val (.int w), .val (.int h1), .val (.ref (ad 0)), .val (.int (w + (p3 % (2 : Int32)))), .val (.int p4), .val (.ref b7), .val (.int (1 : Int32)), .val (.int (0 : Int32)), .val (.int (1 : Int32))] [(.int (1 : Int32))])) t
          refine XS.ifNo X26.here hx rfl (hb hby at_153) rfl ((if0 _ _).trans (feq (by decide : ¬ (1 : Int32) = (0 : Int32))).1) ?_
          show Steps p.tables e below (T26.setTop (mkF m 156 #[.val (.int p1), .val (.int p2), .val (.int p3), .val (.int p4), .val (.int p5), .val (.int w), .val (.int h1), .val (.ref (ad 0)), .val (.int (w + (p3 % (2 : Int32)))), .val (.int p4), .val (.ref b7), .val (.int (1 : Int32)), .val (.int (0 : Int32)), .val (.int (1 : Int32))] [])) t
          refine XS.iconst X26.here hx rfl (hb hby at_156) ?_
          show Steps p.tables e below (T26.setTop (mkF m 157 #[.val (.int p1), .val (.int p2), .val (.int p3), .val (.int p4), .val (.int p5), .val (.int w), .val (.int h1), .val (.ref (ad 0)), .val (.int (w + (p3 % (2 : Int32)))), .val (.int p4), .val (.ref b7), .val (.int (1 : Int32)), .val (.int (0 : Int32)), .val (.int (1 : Int32))] [(.int (1 : Int32))])) t
          refine XS.goto X26.here hx rfl (pc0 := 157) (pc' := 161) rfl (hb hby at_157) (by decide) (by decide) ?_
          exact k)
      obtain ⟨fs, hr, hrun, hended, hend⟩ := X26.leaveW hS (by rw [e26]; exact hk) (v := some (.int (1 : Int32))) (fun h => by rw [Bd.returns] at h; cases h)
      refine ⟨_, _, ch28 _ ?_, hrun, hended, _, _, rfl, ?_, hend.1, hend.2.1, hend.2.2.1, hend.2.2.2.mono (by decide) (by decide)⟩
      · show Steps p.tables e below (T26.setTop (mkF m 161 #[.val (.int p1), .val (.int p2), .val (.int p3), .val (.int p4), .val (.int p5), .val (.int w), .val (.int h1), .val (.ref (ad 0)), .val (.int (w + (p3 % (2 : Int32)))), .val (.int p4), .val (.ref b7), .val (.int (1 : Int32)), .val (.int (0 : Int32)), .val (.int (1 : Int32))] [(.int (1 : Int32))])) _
        exact retN X26 hx (t := .boolean) Bd.returns (by simp) (hb hby at_161) hr
      · show QN (some (.int (1 : Int32))) n0 _ T26.heap _
        rw [e26]
        exact ⟨rfl, N26⟩
    · skip
      obtain ⟨cq29, kq29, qa29, qb29, qc29⟩ := isOf hZ eh16 fq16_0
      obtain ⟨vv30, _, ⟨T30, L30, kk30, nn30⟩, -, X30, ⟨Lc30, hQ30, l30, y30, z30⟩, st30⟩ := X16.virtualBack hx (y := (⟨"com/example/leafwright/leafwright/Thumbnails$Candidate", "covers", "(II)Z"⟩ : MethodName)) (z := (⟨"com/example/leafwright/leafwright/Thumbnails$Candidate", "covers", "(II)Z"⟩ : MethodName)) hown (mvT hZ (hw _ (List.mem_of_getElem? (i := 50) rfl))) (mvT hZ (hw _ (List.mem_of_getElem? (i := 51) rfl))) (notFace_of_selects (args := #[]) (mvT hZ (hw _ (List.mem_of_getElem? (i := 53) rfl)))) (mvT hZ (hw _ (List.mem_of_getElem? (i := 53) rfl))) (mvT hZ (hw _ (List.mem_of_getElem? (i := 52) rfl))) (by decide) (backOf (W := 0) (own_cov_b l Z a0 hw [] hh16 n0 (Nat.le_trans Z0 Kp16.1) b7 w h1 (w + (p3 % (2 : Int32))) p4 fq16_2 fq16_3 hq18 hq20) hZ (hw _ (List.mem_of_getElem? (i := 54) rfl)) (hw _ (List.mem_of_getElem? (i := 10) rfl)) (by decide) (by decide)) qa29 qc29 (g := (mkF m 120 #[.val (.int p1), .val (.int p2), .val (.int p3), .val (.int p4), .val (.int p5), .val (.int w), .val (.int h1), .val (.ref (ad 0)), .val (.int (w + (p3 % (2 : Int32)))), .val (.int p4), .val (.ref b7), .val (.int (0 : Int32)), .unset, .unset] [(.int p4), (.int (w + (p3 % (2 : Int32)))), (.ref b7)])) rfl (by rw [hml]; rfl) (Steps.refl _) (argsL := [(.int (w + (p3 % (2 : Int32)))), (.int p4)]) (rest := []) (lenOf own_pd__II_Z rfl) rfl (by show 2 * 0 + _ ≤ _; exact Nat.le_of_eq rfl) (hb hby at_120) (fun _ _ => ⟨rfl, eh16, (by decide : 11 + 0 ≤ _), (by decide : 108 + 0 ≤ _)⟩)
      dsimp only [Pt.U, Pt.locs, Pt.cells, Pt.slots] at X30 l30 y30 z30 st30 hQ30
      subst l30 y30 z30
      obtain ⟨rfl, Nq30, e30⟩ := hQ30
      have N30 := Fr.app N16 Nq30
      have ch31 : ∀ t, Steps p.tables e below (T30.setTop (mkF m 123 #[.val (.int p1), .val (.int p2), .val (.int p3), .val (.int p4), .val (.int p5), .val (.int w), .val (.int h1), .val (.ref (ad 0)), .val (.int (w + (p3 % (2 : Int32)))), .val (.int p4), .val (.ref b7), .val (.int (0 : Int32)), .unset, .unset] [(.int (1 : Int32))])) t → Steps p.tables e below (s₁.setTop (entryFrame m #[(.int p1), (.int p2), (.int p3), (.int p4), (.int p5)] maxLocals)) t := fun t k => ch21 t (by
          show Steps p.tables e below (T16.setTop (mkF m 104 #[.val (.int p1), .val (.int p2), .val (.int p3), .val (.int p4), .val (.int p5), .val (.int w), .val (.int h1), .val (.ref (ad 0)), .val (.int (w + (p3 % (2 : Int32)))), .val (.int p4), .val (.ref b7), .unset, .unset, .unset] [(.int h1), (.int p4)])) t
          refine XS.icmpYes X16.here hx rfl (pc0 := 104) (pc' := 111) rfl (hb hby at_104) rfl (flt hq20).2.2.2 (by decide) (by decide) ?_
          show Steps p.tables e below (T16.setTop (mkF m 111 #[.val (.int p1), .val (.int p2), .val (.int p3), .val (.int p4), .val (.int p5), .val (.int w), .val (.int h1), .val (.ref (ad 0)), .val (.int (w + (p3 % (2 : Int32)))), .val (.int p4), .val (.ref b7), .unset, .unset, .unset] [])) t
          refine XS.iconst X16.here hx rfl (hb hby at_111) ?_
          show Steps p.tables e below (T16.setTop (mkF m 112 #[.val (.int p1), .val (.int p2), .val (.int p3), .val (.int p4), .val (.int p5), .val (.int w), .val (.int h1), .val (.ref (ad 0)), .val (.int (w + (p3 % (2 : Int32)))), .val (.int p4), .val (.ref b7), .unset, .unset, .unset] [(.int (0 : Int32))])) t
          refine XS.istore X16.here hx rfl (hb hby at_112) rfl (l' := #[.val (.int p1), .val (.int p2), .val (.int p3), .val (.int p4), .val (.int p5), .val (.int w), .val (.int h1), .val (.ref (ad 0)), .val (.int (w + (p3 % (2 : Int32)))), .val (.int p4), .val (.ref b7), .val (.int (0 : Int32)), .unset, .unset]) rfl ?_
          show Steps p.tables e below (T16.setTop (mkF m 114 #[.val (.int p1), .val (.int p2), .val (.int p3), .val (.int p4), .val (.int p5), .val (.int w), .val (.int h1), .val (.ref (ad 0)), .val (.int (w + (p3 % (2 : Int32)))), .val (.int p4), .val (.ref b7), .val (.int (0 : Int32)), .unset, .unset] [])) t
          refine XS.aload X16.here hx rfl (hb hby at_114) rfl rfl ?_
          show Steps p.tables e below (T16.setTop (mkF m 116 #[.val (.int p1), .val (.int p2), .val (.int p3), .val (.int p4), .val (.int p5), .val (.int w), .val (.int h1), .val (.ref (ad 0)), .val (.int (w + (p3 % (2 : Int32)))), .val (.int p4), .val (.ref b7), .val (.int (0 : Int32)), .unset, .unset] [(.ref b7)])) t
          refine XS.iload X16.here hx rfl (hb hby at_116) rfl ?_
          show Steps p.tables e below (T16.setTop (mkF m 118 #[.val (.int p1), .val (.int p2), .val (.int p3), .val (.int p4), .val (.int p5), .val (.int w), .val (.int h1), .val (.ref (ad 0)), .val (.int (w + (p3 % (2 : Int32)))), .val (.int p4), .val (.ref b7), .val (.int (0 : Int32)), .unset, .unset] [(.int (w + (p3 % (2 : Int32)))), (.ref b7)])) t
          refine XS.iload X16.here hx rfl (hb hby at_118) rfl ?_
          show Steps p.tables e below (T16.setTop (mkF m 120 #[.val (.int p1), .val (.int p2), .val (.int p3), .val (.int p4), .val (.int p5), .val (.int w), .val (.int h1), .val (.ref (ad 0)), .val (.int (w + (p3 % (2 : Int32)))), .val (.int p4), .val (.ref b7), .val (.int (0 : Int32)), .unset, .unset] [(.int p4), (.int (w + (p3 % (2 : Int32)))), (.ref b7)])) t
          exact st30.trans k)
      obtain ⟨cq32, kq32, qa32, qb32, qc32⟩ := isOf hZ e30 fq16_0
      obtain ⟨vv33, _, ⟨T33, L33, kk33, nn33⟩, -, X33, ⟨Lc33, hQ33, l33, y33, z33⟩, st33⟩ := X30.virtualBack hx (y := (⟨"com/example/leafwright/leafwright/Thumbnails$Candidate", "covers", "(II)Z"⟩ : MethodName)) (z := (⟨"com/example/leafwright/leafwright/Thumbnails$Candidate", "covers", "(II)Z"⟩ : MethodName)) hown (mvT hZ (hw _ (List.mem_of_getElem? (i := 50) rfl))) (mvT hZ (hw _ (List.mem_of_getElem? (i := 51) rfl))) (notFace_of_selects (args := #[]) (mvT hZ (hw _ (List.mem_of_getElem? (i := 53) rfl)))) (mvT hZ (hw _ (List.mem_of_getElem? (i := 53) rfl))) (mvT hZ (hw _ (List.mem_of_getElem? (i := 52) rfl))) (by decide) (backOf (W := 0) (own_cov_a l Z a0 hw [] hh16 n0 (Nat.le_trans Z0 Kp16.1) b7 w h1 w h1 fq16_2 fq16_3 (Int32.lt_irrefl : ¬ w < w)) hZ (hw _ (List.mem_of_getElem? (i := 54) rfl)) (hw _ (List.mem_of_getElem? (i := 10) rfl)) (by decide) (by decide)) qa32 qc32 (g := (mkF m 131 #[.val (.int p1), .val (.int p2), .val (.int p3), .val (.int p4), .val (.int p5), .val (.int w), .val (.int h1), .val (.ref (ad 0)), .val (.int (w + (p3 % (2 : Int32)))), .val (.int p4), .val (.ref b7), .val (.int (0 : Int32)), .val (.int (1 : Int32)), .unset] [(.int h1), (.int w), (.ref b7)])) rfl (by rw [hml]; rfl) (Steps.refl _) (argsL := [(.int w), (.int h1)]) (rest := []) (lenOf own_pd__II_Z rfl) rfl (by show 2 * 0 + _ ≤ _; exact Nat.le_of_eq rfl) (hb hby at_131) (fun _ _ => ⟨rfl, e30, (by decide : 11 + 0 ≤ _), (by decide : 108 + 0 ≤ _)⟩)
      dsimp only [Pt.U, Pt.locs, Pt.cells, Pt.slots] at X33 l33 y33 z33 st33 hQ33
      subst l33 y33 z33
      obtain ⟨rfl, Nq33, e33⟩ := hQ33
      have N33 := Fr.app N30 Nq33
      have ch34 : ∀ t, Steps p.tables e below (T33.setTop (mkF m 134 #[.val (.int p1), .val (.int p2), .val (.int p3), .val (.int p4), .val (.int p5), .val (.int w), .val (.int h1), .val (.ref (ad 0)), .val (.int (w + (p3 % (2 : Int32)))), .val (.int p4), .val (.ref b7), .val (.int (0 : Int32)), .val (.int (1 : Int32)), .unset] [(.int (1 : Int32))])) t → Steps p.tables e below (s₁.setTop (entryFrame m #[(.int p1), (.int p2), (.int p3), (.int p4), (.int p5)] maxLocals)) t := fun t k => ch31 t (by
          show Steps p.tables e below (T30.setTop (mkF m 123 #[.val (.int p1), .val (.int p2), .val (.int p3), .val (.int p4), .val (.int p5), .val (.int w), .val (.int h1), .val (.ref (ad 0)), .val (.int (w + (p3 % (2 : Int32)))), .val (.int p4), .val (.ref b7), .val (.int (0 : Int32)), .unset, .unset] [(.int (1 : Int32))])) t
          refine XS.istore X30.here hx rfl (hb hby at_123) rfl (l' := #[.val (.int p1), .val (.int p2), .val (.int p3), .val (.int p4), .val (.int p5), .val (.int w), .val (.int h1), .val (.ref (ad 0)), .val (.int (w + (p3 % (2 : Int32)))), .val (.int p4), .val (.ref b7), .val (.int (0 : Int32)), .val (.int (1 : Int32)), .unset]) rfl ?_
          show Steps p.tables e below (T30.setTop (mkF m 125 #[.val (.int p1), .val (.int p2), .val (.int p3), .val (.int p4), .val (.int p5), .val (.int w), .val (.int h1), .val (.ref (ad 0)), .val (.int (w + (p3 % (2 : Int32)))), .val (.int p4), .val (.ref b7), .val (.int (0 : Int32)), .val (.int (1 : Int32)), .unset] [])) t
          refine XS.aload X30.here hx rfl (hb hby at_125) rfl rfl ?_
          show Steps p.tables e below (T30.setTop (mkF m 127 #[.val (.int p1), .val (.int p2), .val (.int p3), .val (.int p4), .val (.int p5), .val (.int w), .val (.int h1), .val (.ref (ad 0)), .val (.int (w + (p3 % (2 : Int32)))), .val (.int p4), .val (.ref b7), .val (.int (0 : Int32)), .val (.int (1 : Int32)), .unset] [(.ref b7)])) t
          refine XS.iload X30.here hx rfl (hb hby at_127) rfl ?_
          show Steps p.tables e below (T30.setTop (mkF m 129 #[.val (.int p1), .val (.int p2), .val (.int p3), .val (.int p4), .val (.int p5), .val (.int w), .val (.int h1), .val (.ref (ad 0)), .val (.int (w + (p3 % (2 : Int32)))), .val (.int p4), .val (.ref b7), .val (.int (0 : Int32)), .val (.int (1 : Int32)), .unset] [(.int w), (.ref b7)])) t
          refine XS.iload X30.here hx rfl (hb hby at_129) rfl ?_
          show Steps p.tables e below (T30.setTop (mkF m 131 #[.val (.int p1), .val (.int p2), .val (.int p3), .val (.int p4), .val (.int p5), .val (.int w), .val (.int h1), .val (.ref (ad 0)), .val (.int (w + (p3 % (2 : Int32)))), .val (.int p4), .val (.ref b7), .val (.int (0 : Int32)), .val (.int (1 : Int32)), .unset] [(.int h1), (.int w), (.ref b7)])) t
          exact st33.trans k)
      have ch35 : ∀ t, Steps p.tables e below (T33.setTop (mkF m 161 #[.val (.int p1), .val (.int p2), .val (.int p3), .val (.int p4), .val (.int p5), .val (.int w), .val (.int h1), .val (.ref (ad 0)), .val (.int (w + (p3 % (2 : Int32)))), .val (.int p4), .val (.ref b7), .val (.int (0 : Int32)), .val (.int (1 : Int32)), .val (.int (1 : Int32))] [(.int (1 : Int32))])) t → Steps p.tables e below (s₁.setTop (entryFrame m #[(.int p1), (.int p2), (.int p3), (.int p4), (.int p5)] maxLocals)) t := fun t k => ch34 t (by
          show Steps p.tables e below (T33.setTop (mkF m 134 #[.val (.int p1), .val (.int p2), .val (.int p3), .val (.int p4), .val (.int p5), .val (.int w), .val (.int h1), .val (.ref (ad 0)), .val (.int (w + (p3 % (2 : Int32)))), .val (.int p4), .val (.ref b7), .val (.int (0 : Int32)), .val (.int (1 : Int32)), .unset] [(.int (1 : Int32))])) t
          refine XS.istore X33.here hx rfl (hb hby at_134) rfl (l' := #[.val (.int p1), .val (.int p2), .val (.int p3), .val (.int p4), .val (.int p5), .val (.int w), .val (.int h1), .val (.ref (ad 0)), .val (.int (w + (p3 % (2 : Int32)))), .val (.int p4), .val (.ref b7), .val (.int (0 : Int32)), .val (.int (1 : Int32)), .val (.int (1 : Int32))]) rfl ?_
          show Steps p.tables e below (T33.setTop (mkF m 136 #[.val (.int p1), .val (.int p2), .val (.int p3), .val (.int p4), .val (.int p5), .val (.int w), .val (.int h1), .val (.ref (ad 0)), .val (.int (w + (p3 % (2 : Int32)))), .val (.int p4), .val (.ref b7), .val (.int (0 : Int32)), .val (.int (1 : Int32)), .val (.int (1 : Int32))] [])) t
          refine XS.iload X33.here hx rfl (hb hby at_136) rfl ?_
          show Steps p.tables e below (T33.setTop (mkF m 138 #[.val (.int p1), .val (.int p2), .val (.int p3), .val (.int p4), .val (.int p5), .val (.int w), .val (.int h1), .val (.ref (ad 0)), .val (.int (w + (p3 % (2 : Int32)))), .val (.int p4), .val (.ref b7), .val (.int (0 : Int32)), .val (.int (1 : Int32)), .val (.int (1 : Int32))] [(.int (1 : Int32))])) t
          refine XS.iload X33.here hx rfl (hb hby at_138) rfl ?_
          show Steps p.tables e below (T33.setTop (mkF m 140 #[.val (.int p1), .val (.int p2), .val (.int p3), .val (.int p4), .val (.int p5), .val (.int w), .val (.int h1), .val (.ref (ad 0)), .val (.int (w + (p3 % (2 : Int32)))), .val (.int p4), .val (.ref b7), .val (.int (0 : Int32)), .val (.int (1 : Int32)), .val (.int (1 : Int32))] [(.int (0 : Int32)), (.int (1 : Int32))])) t
          refine XS.ifNo X33.here hx rfl (hb hby at_140) rfl ((if0 _ _).trans (teq (by decide : (0 : Int32) = (0 : Int32))).2) ?_
          show Steps p.tables e below (T33.setTop (mkF m 143 #[.val (.int p1), .val (.int p2), .val (.int p3), .val (.int p4), .val (.int p5), .val (.int w), .val (.int h1), .val (.ref (ad 0)), .val (.int (w + (p3 % (2 : Int32)))), .val (.int p4), .val (.ref b7), .val (.int (0 : Int32)), .val (.int (1 : Int32)), .val (.int (1 : Int32))] [(.int (1 : Int32))])) t
          refine XS.iconst X33.here hx rfl (hb hby at_143) ?_
          show Steps p.tables e below (T33.setTop (mkF m 144 #[.val (.int p1), .val (.int p2), .val (.int p3), .val (.int p4), .val (.int p5), .val (.int w), .val (.int h1), .val (.ref (ad 0)), .val (.int (w + (p3 % (2 : Int32)))), .val (.int p4), .val (.ref b7), .val (.int (0 : Int32)), .val (.int (1 : Int32)), .val (.int (1 : Int32))] [(.int (1 : Int32)), (.int (1 : Int32))])) t
          refine XS.goto X33.here hx rfl (pc0 := 144) (pc' := 148) rfl (hb hby at_144) (by decide) (by decide) ?_
          show Steps p.tables e below (T33.setTop (mkF m 148 #[.val (.int p1), .val (.int p2), .val (.int p3), .val (.int p4), .val (.int p5), .val (.int w), .val (.int h1), .val (.ref (ad 0)), .val (.int (w + (p3 % (2 : Int32)))), .val (.int p4), .val (.ref b7), .val (.int (0 : Int32)), .val (.int (1 : Int32)), .val (.int (1 : Int32))] [(.int (1 : Int32)), (.int (1 : Int32))])) t
          refine XS.icmpNo X33.here hx rfl (hb hby at_148) rfl (teq (by decide : (1 : Int32) = (1 : Int32))).2 ?_
          show Steps p.tables e below (T33.setTop (mkF m 151 #[.val (.int p1), .val (.int p2), .val (.int p3), .val (.int p4), .val (.int p5), .val (.int w), .val (.int h1), .val (.ref (ad 0)), .val (.int (w + (p3 % (2 : Int32)))), .val (.int p4), .val (.ref b7), .val (.int (0 : Int32)), .val (.int (1 : Int32)), .val (.int (1 : Int32))] [])) t
          refine XS.iload X33.here hx rfl (hb hby at_151) rfl ?_
          show Steps p.tables e below (T33.setTop (mkF m 153 #[.val (.int p1), .val (.int p2), .val (.int p3), .val (.int p4), .val (.int p5), .val (.int w), .val (.int h1), .val (.ref (ad 0)), .val (.int (w + (p3 % (2 : Int32)))), .val (.int p4), .val (.ref b7), .val (.int (0 : Int32)), .val (.int (1 : Int32)), .val (.int (1 : Int32))] [(.int (1 : Int32))])) t
          refine XS.ifNo X33.here hx rfl (hb hby at_153) rfl ((if0 _ _).trans (feq (by decide : ¬ (1 : Int32) = (0 : Int32))).1) ?_
          show Steps p.tables e below (T33.setTop (mkF m 156 #[.val (.int p1), .val (.int p2), .val (.int p3), .val (.int p4), .val (.int p5), .val (.int w), .val (.int h1), .val (.ref (ad 0)), .val (.int (w + (p3 % (2 : Int32)))), .val (.int p4), .val (.ref b7), .val (.int (0 : Int32)), .val (.int (1 : Int32)), .val (.int (1 : Int32))] [])) t
          refine XS.iconst X33.here hx rfl (hb hby at_156) ?_
          show Steps p.tables e below (T33.setTop (mkF m 157 #[.val (.int p1), .val (.int p2), .val (.int p3), .val (.int p4), .val (.int p5), .val (.int w), .val (.int h1), .val (.ref (ad 0)), .val (.int (w + (p3 % (2 : Int32)))), .val (.int p4), .val (.ref b7), .val (.int (0 : Int32)), .val (.int (1 : Int32)), .val (.int (1 : Int32))] [(.int (1 : Int32))])) t
          refine XS.goto X33.here hx rfl (pc0 := 157) (pc' := 161) rfl (hb hby at_157) (by decide) (by decide) ?_
          exact k)
      obtain ⟨fs, hr, hrun, hended, hend⟩ := X33.leaveW hS (by rw [e33]; exact hk) (v := some (.int (1 : Int32))) (fun h => by rw [Bd.returns] at h; cases h)
      refine ⟨_, _, ch35 _ ?_, hrun, hended, _, _, rfl, ?_, hend.1, hend.2.1, hend.2.2.1, hend.2.2.2.mono (by decide) (by decide)⟩
      · show Steps p.tables e below (T33.setTop (mkF m 161 #[.val (.int p1), .val (.int p2), .val (.int p3), .val (.int p4), .val (.int p5), .val (.int w), .val (.int h1), .val (.ref (ad 0)), .val (.int (w + (p3 % (2 : Int32)))), .val (.int p4), .val (.ref b7), .val (.int (0 : Int32)), .val (.int (1 : Int32)), .val (.int (1 : Int32))] [(.int (1 : Int32))])) _
        exact retN X33 hx (t := .boolean) Bd.returns (by simp) (hb hby at_161) hr
      · show QN (some (.int (1 : Int32))) n0 _ T33.heap _
        rw [e33]
        exact ⟨rfl, N33⟩
  · skip
    obtain ⟨cq36, kq36, qa36, qb36, qc36⟩ := isOf hZ eh16 fq16_0
    obtain ⟨vv37, _, ⟨T37, L37, kk37, nn37⟩, -, X37, ⟨Lc37, hQ37, l37, y37, z37⟩, st37⟩ := X16.virtualBack hx (y := (⟨"com/example/leafwright/leafwright/Thumbnails$Candidate", "covers", "(II)Z"⟩ : MethodName)) (z := (⟨"com/example/leafwright/leafwright/Thumbnails$Candidate", "covers", "(II)Z"⟩ : MethodName)) hown (mvT hZ (hw _ (List.mem_of_getElem? (i := 50) rfl))) (mvT hZ (hw _ (List.mem_of_getElem? (i := 51) rfl))) (notFace_of_selects (args := #[]) (mvT hZ (hw _ (List.mem_of_getElem? (i := 53) rfl)))) (mvT hZ (hw _ (List.mem_of_getElem? (i := 53) rfl))) (mvT hZ (hw _ (List.mem_of_getElem? (i := 52) rfl))) (by decide) (backOf (W := 0) (own_cov_a l Z a0 hw [] hh16 n0 (Nat.le_trans Z0 Kp16.1) b7 w h1 (w + (p3 % (2 : Int32))) p4 fq16_2 fq16_3 hq18) hZ (hw _ (List.mem_of_getElem? (i := 54) rfl)) (hw _ (List.mem_of_getElem? (i := 10) rfl)) (by decide) (by decide)) qa36 qc36 (g := (mkF m 120 #[.val (.int p1), .val (.int p2), .val (.int p3), .val (.int p4), .val (.int p5), .val (.int w), .val (.int h1), .val (.ref (ad 0)), .val (.int (w + (p3 % (2 : Int32)))), .val (.int p4), .val (.ref b7), .val (.int (0 : Int32)), .unset, .unset] [(.int p4), (.int (w + (p3 % (2 : Int32)))), (.ref b7)])) rfl (by rw [hml]; rfl) (Steps.refl _) (argsL := [(.int (w + (p3 % (2 : Int32)))), (.int p4)]) (rest := []) (lenOf own_pd__II_Z rfl) rfl (by show 2 * 0 + _ ≤ _; exact Nat.le_of_eq rfl) (hb hby at_120) (fun _ _ => ⟨rfl, eh16, (by decide : 11 + 0 ≤ _), (by decide : 108 + 0 ≤ _)⟩)
    dsimp only [Pt.U, Pt.locs, Pt.cells, Pt.slots] at X37 l37 y37 z37 st37 hQ37
    subst l37 y37 z37
    obtain ⟨rfl, Nq37, e37⟩ := hQ37
    have N37 := Fr.app N16 Nq37
    have ch38 : ∀ t, Steps p.tables e below (T37.setTop (mkF m 123 #[.val (.int p1), .val (.int p2), .val (.int p3), .val (.int p4), .val (.int p5), .val (.int w), .val (.int h1), .val (.ref (ad 0)), .val (.int (w + (p3 % (2 : Int32)))), .val (.int p4), .val (.ref b7), .val (.int (0 : Int32)), .unset, .unset] [(.int (1 : Int32))])) t → Steps p.tables e below (s₁.setTop (entryFrame m #[(.int p1), (.int p2), (.int p3), (.int p4), (.int p5)] maxLocals)) t := fun t k => ch19 t (by
        show Steps p.tables e below (T16.setTop (mkF m 97 #[.val (.int p1), .val (.int p2), .val (.int p3), .val (.int p4), .val (.int p5), .val (.int w), .val (.int h1), .val (.ref (ad 0)), .val (.int (w + (p3 % (2 : Int32)))), .val (.int p4), .val (.ref b7), .unset, .unset, .unset] [(.int w), (.int (w + (p3 % (2 : Int32))))])) t
        refine XS.icmpYes X16.here hx rfl (pc0 := 97) (pc' := 111) rfl (hb hby at_97) rfl (flt hq18).2.2.2 (by decide) (by decide) ?_
        show Steps p.tables e below (T16.setTop (mkF m 111 #[.val (.int p1), .val (.int p2), .val (.int p3), .val (.int p4), .val (.int p5), .val (.int w), .val (.int h1), .val (.ref (ad 0)), .val (.int (w + (p3 % (2 : Int32)))), .val (.int p4), .val (.ref b7), .unset, .unset, .unset] [])) t
        refine XS.iconst X16.here hx rfl (hb hby at_111) ?_
        show Steps p.tables e below (T16.setTop (mkF m 112 #[.val (.int p1), .val (.int p2), .val (.int p3), .val (.int p4), .val (.int p5), .val (.int w), .val (.int h1), .val (.ref (ad 0)), .val (.int (w + (p3 % (2 : Int32)))), .val (.int p4), .val (.ref b7), .unset, .unset, .unset] [(.int (0 : Int32))])) t
        refine XS.istore X16.here hx rfl (hb hby at_112) rfl (l' := #[.val (.int p1), .val (.int p2), .val (.int p3), .val (.int p4), .val (.int p5), .val (.int w), .val (.int h1), .val (.ref (ad 0)), .val (.int (w + (p3 % (2 : Int32)))), .val (.int p4), .val (.ref b7), .val (.int (0 : Int32)), .unset, .unset]) rfl ?_
        show Steps p.tables e below (T16.setTop (mkF m 114 #[.val (.int p1), .val (.int p2), .val (.int p3), .val (.int p4), .val (.int p5), .val (.int w), .val (.int h1), .val (.ref (ad 0)), .val (.int (w + (p3 % (2 : Int32)))), .val (.int p4), .val (.ref b7), .val (.int (0 : Int32)), .unset, .unset] [])) t
        refine XS.aload X16.here hx rfl (hb hby at_114) rfl rfl ?_
        show Steps p.tables e below (T16.setTop (mkF m 116 #[.val (.int p1), .val (.int p2), .val (.int p3), .val (.int p4), .val (.int p5), .val (.int w), .val (.int h1), .val (.ref (ad 0)), .val (.int (w + (p3 % (2 : Int32)))), .val (.int p4), .val (.ref b7), .val (.int (0 : Int32)), .unset, .unset] [(.ref b7)])) t
        refine XS.iload X16.here hx rfl (hb hby at_116) rfl ?_
        show Steps p.tables e below (T16.setTop (mkF m 118 #[.val (.int p1), .val (.int p2), .val (.int p3), .val (.int p4), .val (.int p5), .val (.int w), .val (.int h1), .val (.ref (ad 0)), .val (.int (w + (p3 % (2 : Int32)))), .val (.int p4), .val (.ref b7), .val (.int (0 : Int32)), .unset, .unset] [(.int (w + (p3 % (2 : Int32)))), (.ref b7)])) t
        refine XS.iload X16.here hx rfl (hb hby at_118) rfl ?_
        show Steps p.tables e below (T16.setTop (mkF m 120 #[.val (.int p1), .val (.int p2), .val (.int p3), .val (.int p4), .val (.int p5), .val (.int w), .val (.int h1), .val (.ref (ad 0)), .val (.int (w + (p3 % (2 : Int32)))), .val (.int p4), .val (.ref b7), .val (.int (0 : Int32)), .unset, .unset] [(.int p4), (.int (w + (p3 % (2 : Int32)))), (.ref b7)])) t
        exact st37.trans k)
    obtain ⟨cq39, kq39, qa39, qb39, qc39⟩ := isOf hZ e37 fq16_0
    obtain ⟨vv40, _, ⟨T40, L40, kk40, nn40⟩, -, X40, ⟨Lc40, hQ40, l40, y40, z40⟩, st40⟩ := X37.virtualBack hx (y := (⟨"com/example/leafwright/leafwright/Thumbnails$Candidate", "covers", "(II)Z"⟩ : MethodName)) (z := (⟨"com/example/leafwright/leafwright/Thumbnails$Candidate", "covers", "(II)Z"⟩ : MethodName)) hown (mvT hZ (hw _ (List.mem_of_getElem? (i := 50) rfl))) (mvT hZ (hw _ (List.mem_of_getElem? (i := 51) rfl))) (notFace_of_selects (args := #[]) (mvT hZ (hw _ (List.mem_of_getElem? (i := 53) rfl)))) (mvT hZ (hw _ (List.mem_of_getElem? (i := 53) rfl))) (mvT hZ (hw _ (List.mem_of_getElem? (i := 52) rfl))) (by decide) (backOf (W := 0) (own_cov_a l Z a0 hw [] hh16 n0 (Nat.le_trans Z0 Kp16.1) b7 w h1 w h1 fq16_2 fq16_3 (Int32.lt_irrefl : ¬ w < w)) hZ (hw _ (List.mem_of_getElem? (i := 54) rfl)) (hw _ (List.mem_of_getElem? (i := 10) rfl)) (by decide) (by decide)) qa39 qc39 (g := (mkF m 131 #[.val (.int p1), .val (.int p2), .val (.int p3), .val (.int p4), .val (.int p5), .val (.int w), .val (.int h1), .val (.ref (ad 0)), .val (.int (w + (p3 % (2 : Int32)))), .val (.int p4), .val (.ref b7), .val (.int (0 : Int32)), .val (.int (1 : Int32)), .unset] [(.int h1), (.int w), (.ref b7)])) rfl (by rw [hml]; rfl) (Steps.refl _) (argsL := [(.int w), (.int h1)]) (rest := []) (lenOf own_pd__II_Z rfl) rfl (by show 2 * 0 + _ ≤ _; exact Nat.le_of_eq rfl) (hb hby at_131) (fun _ _ => ⟨rfl, e37, (by decide : 11 + 0 ≤ _), (by decide : 108 + 0 ≤ _)⟩)
    dsimp only [Pt.U, Pt.locs, Pt.cells, Pt.slots] at X40 l40 y40 z40 st40 hQ40
    subst l40 y40 z40
    obtain ⟨rfl, Nq40, e40⟩ := hQ40
    have N40 := Fr.app N37 Nq40
    have ch41 : ∀ t, Steps p.tables e below (T40.setTop (mkF m 134 #[.val (.int p1), .val (.int p2), .val (.int p3), .val (.int p4), .val (.int p5), .val (.int w), .val (.int h1), .val (.ref (ad 0)), .val (.int (w + (p3 % (2 : Int32)))), .val (.int p4), .val (.ref b7), .val (.int (0 : Int32)), .val (.int (1 : Int32)), .unset] [(.int (1 : Int32))])) t → Steps p.tables e below (s₁.setTop (entryFrame m #[(.int p1), (.int p2), (.int p3), (.int p4), (.int p5)] maxLocals)) t := fun t k => ch38 t (by
        show Steps p.tables e below (T37.setTop (mkF m 123 #[.val (.int p1), .val (.int p2), .val (.int p3), .val (.int p4), .val (.int p5), .val (.int w), .val (.int h1), .val (.ref (ad 0)), .val (.int (w + (p3 % (2 : Int32)))), .val (.int p4), .val (.ref b7), .val (.int (0 : Int32)), .unset, .unset] [(.int (1 : Int32))])) t
        refine XS.istore X37.here hx rfl (hb hby at_123) rfl (l' := #[.val (.int p1), .val (.int p2), .val (.int p3), .val (.int p4), .val (.int p5), .val (.int w), .val (.int h1), .val (.ref (ad 0)), .val (.int (w + (p3 % (2 : Int32)))), .val (.int p4), .val (.ref b7), .val (.int (0 : Int32)), .val (.int (1 : Int32)), .unset]) rfl ?_
        show Steps p.tables e below (T37.setTop (mkF m 125 #[.val (.int p1), .val (.int p2), .val (.int p3), .val (.int p4), .val (.int p5), .val (.int w), .val (.int h1), .val (.ref (ad 0)), .val (.int (w + (p3 % (2 : Int32)))), .val (.int p4), .val (.ref b7), .val (.int (0 : Int32)), .val (.int (1 : Int32)), .unset] [])) t
        refine XS.aload X37.here hx rfl (hb hby at_125) rfl rfl ?_
        show Steps p.tables e below (T37.setTop (mkF m 127 #[.val (.int p1), .val (.int p2), .val (.int p3), .val (.int p4), .val (.int p5), .val (.int w), .val (.int h1), .val (.ref (ad 0)), .val (.int (w + (p3 % (2 : Int32)))), .val (.int p4), .val (.ref b7), .val (.int (0 : Int32)), .val (.int (1 : Int32)), .unset] [(.ref b7)])) t
        refine XS.iload X37.here hx rfl (hb hby at_127) rfl ?_
        show Steps p.tables e below (T37.setTop (mkF m 129 #[.val (.int p1), .val (.int p2), .val (.int p3), .val (.int p4), .val (.int p5), .val (.int w), .val (.int h1), .val (.ref (ad 0)), .val (.int (w + (p3 % (2 : Int32)))), .val (.int p4), .val (.ref b7), .val (.int (0 : Int32)), .val (.int (1 : Int32)), .unset] [(.int w), (.ref b7)])) t
        refine XS.iload X37.here hx rfl (hb hby at_129) rfl ?_
        show Steps p.tables e below (T37.setTop (mkF m 131 #[.val (.int p1), .val (.int p2), .val (.int p3), .val (.int p4), .val (.int p5), .val (.int w), .val (.int h1), .val (.ref (ad 0)), .val (.int (w + (p3 % (2 : Int32)))), .val (.int p4), .val (.ref b7), .val (.int (0 : Int32)), .val (.int (1 : Int32)), .unset] [(.int h1), (.int w), (.ref b7)])) t
        exact st40.trans k)
    have ch42 : ∀ t, Steps p.tables e below (T40.setTop (mkF m 161 #[.val (.int p1), .val (.int p2), .val (.int p3), .val (.int p4), .val (.int p5), .val (.int w), .val (.int h1), .val (.ref (ad 0)), .val (.int (w + (p3 % (2 : Int32)))), .val (.int p4), .val (.ref b7), .val (.int (0 : Int32)), .val (.int (1 : Int32)), .val (.int (1 : Int32))] [(.int (1 : Int32))])) t → Steps p.tables e below (s₁.setTop (entryFrame m #[(.int p1), (.int p2), (.int p3), (.int p4), (.int p5)] maxLocals)) t := fun t k => ch41 t (by
        show Steps p.tables e below (T40.setTop (mkF m 134 #[.val (.int p1), .val (.int p2), .val (.int p3), .val (.int p4), .val (.int p5), .val (.int w), .val (.int h1), .val (.ref (ad 0)), .val (.int (w + (p3 % (2 : Int32)))), .val (.int p4), .val (.ref b7), .val (.int (0 : Int32)), .val (.int (1 : Int32)), .unset] [(.int (1 : Int32))])) t
        refine XS.istore X40.here hx rfl (hb hby at_134) rfl (l' := #[.val (.int p1), .val (.int p2), .val (.int p3), .val (.int p4), .val (.int p5), .val (.int w), .val (.int h1), .val (.ref (ad 0)), .val (.int (w + (p3 % (2 : Int32)))), .val (.int p4), .val (.ref b7), .val (.int (0 : Int32)), .val (.int (1 : Int32)), .val (.int (1 : Int32))]) rfl ?_
        show Steps p.tables e below (T40.setTop (mkF m 136 #[.val (.int p1), .val (.int p2), .val (.int p3), .val (.int p4), .val (.int p5), .val (.int w), .val (.int h1), .val (.ref (ad 0)), .val (.int (w + (p3 % (2 : Int32)))), .val (.int p4), .val (.ref b7), .val (.int (0 : Int32)), .val (.int (1 : Int32)), .val (.int (1 : Int32))] [])) t
        refine XS.iload X40.here hx rfl (hb hby at_136) rfl ?_
        show Steps p.tables e below (T40.setTop (mkF m 138 #[.val (.int p1), .val (.int p2), .val (.int p3), .val (.int p4), .val (.int p5), .val (.int w), .val (.int h1), .val (.ref (ad 0)), .val (.int (w + (p3 % (2 : Int32)))), .val (.int p4), .val (.ref b7), .val (.int (0 : Int32)), .val (.int (1 : Int32)), .val (.int (1 : Int32))] [(.int (1 : Int32))])) t
        refine XS.iload X40.here hx rfl (hb hby at_138) rfl ?_
        show Steps p.tables e below (T40.setTop (mkF m 140 #[.val (.int p1), .val (.int p2), .val (.int p3), .val (.int p4), .val (.int p5), .val (.int w), .val (.int h1), .val (.ref (ad 0)), .val (.int (w + (p3 % (2 : Int32)))), .val (.int p4), .val (.ref b7), .val (.int (0 : Int32)), .val (.int (1 : Int32)), .val (.int (1 : Int32))] [(.int (0 : Int32)), (.int (1 : Int32))])) t
        refine XS.ifNo X40.here hx rfl (hb hby at_140) rfl ((if0 _ _).trans (teq (by decide : (0 : Int32) = (0 : Int32))).2) ?_
        show Steps p.tables e below (T40.setTop (mkF m 143 #[.val (.int p1), .val (.int p2), .val (.int p3), .val (.int p4), .val (.int p5), .val (.int w), .val (.int h1), .val (.ref (ad 0)), .val (.int (w + (p3 % (2 : Int32)))), .val (.int p4), .val (.ref b7), .val (.int (0 : Int32)), .val (.int (1 : Int32)), .val (.int (1 : Int32))] [(.int (1 : Int32))])) t
        refine XS.iconst X40.here hx rfl (hb hby at_143) ?_
        show Steps p.tables e below (T40.setTop (mkF m 144 #[.val (.int p1), .val (.int p2), .val (.int p3), .val (.int p4), .val (.int p5), .val (.int w), .val (.int h1), .val (.ref (ad 0)), .val (.int (w + (p3 % (2 : Int32)))), .val (.int p4), .val (.ref b7), .val (.int (0 : Int32)), .val (.int (1 : Int32)), .val (.int (1 : Int32))] [(.int (1 : Int32)), (.int (1 : Int32))])) t
        refine XS.goto X40.here hx rfl (pc0 := 144) (pc' := 148) rfl (hb hby at_144) (by decide) (by decide) ?_
        show Steps p.tables e below (T40.setTop (mkF m 148 #[.val (.int p1), .val (.int p2), .val (.int p3), .val (.int p4), .val (.int p5), .val (.int w), .val (.int h1), .val (.ref (ad 0)), .val (.int (w + (p3 % (2 : Int32)))), .val (.int p4), .val (.ref b7), .val (.int (0 : Int32)), .val (.int (1 : Int32)), .val (.int (1 : Int32))] [(.int (1 : Int32)), (.int (1 : Int32))])) t
        refine XS.icmpNo X40.here hx rfl (hb hby at_148) rfl (teq (by decide : (1 : Int32) = (1 : Int32))).2 ?_
        show Steps p.tables e below (T40.setTop (mkF m 151 #[.val (.int p1), .val (.int p2), .val (.int p3), .val (.int p4), .val (.int p5), .val (.int w), .val (.int h1), .val (.ref (ad 0)), .val (.int (w + (p3 % (2 : Int32)))), .val (.int p4), .val (.ref b7), .val (.int (0 : Int32)), .val (.int (1 : Int32)), .val (.int (1 : Int32))] [])) t
        refine XS.iload X40.here hx rfl (hb hby at_151) rfl ?_
        show Steps p.tables e below (T40.setTop (mkF m 153 #[.val (.int p1), .val (.int p2), .val (.int p3), .val (.int p4), .val (.int p5), .val (.int w), .val (.int h1), .val (.ref (ad 0)), .val (.int (w + (p3 % (2 : Int32)))), .val (.int p4), .val (.ref b7), .val (.int (0 : Int32)), .val (.int (1 : Int32)), .val (.int (1 : Int32))] [(.int (1 : Int32))])) t
        refine XS.ifNo X40.here hx rfl (hb hby at_153) rfl ((if0 _ _).trans (feq (by decide : ¬ (1 : Int32) = (0 : Int32))).1) ?_
        show Steps p.tables e below (T40.setTop (mkF m 156 #[.val (.int p1), .val (.int p2), .val (.int p3), .val (.int p4), .val (.int p5), .val (.int w), .val (.int h1), .val (.ref (ad 0)), .val (.int (w + (p3 % (2 : Int32)))), .val (.int p4), .val (.ref b7), .val (.int (0 : Int32)), .val (.int (1 : Int32)), .val (.int (1 : Int32))] [])) t
        refine XS.iconst X40.here hx rfl (hb hby at_156) ?_
        show Steps p.tables e below (T40.setTop (mkF m 157 #[.val (.int p1), .val (.int p2), .val (.int p3), .val (.int p4), .val (.int p5), .val (.int w), .val (.int h1), .val (.ref (ad 0)), .val (.int (w + (p3 % (2 : Int32)))), .val (.int p4), .val (.ref b7), .val (.int (0 : Int32)), .val (.int (1 : Int32)), .val (.int (1 : Int32))] [(.int (1 : Int32))])) t
        refine XS.goto X40.here hx rfl (pc0 := 157) (pc' := 161) rfl (hb hby at_157) (by decide) (by decide) ?_
        exact k)
    obtain ⟨fs, hr, hrun, hended, hend⟩ := X40.leaveW hS (by rw [e40]; exact hk) (v := some (.int (1 : Int32))) (fun h => by rw [Bd.returns] at h; cases h)
    refine ⟨_, _, ch42 _ ?_, hrun, hended, _, _, rfl, ?_, hend.1, hend.2.1, hend.2.2.1, hend.2.2.2.mono (by decide) (by decide)⟩
    · show Steps p.tables e below (T40.setTop (mkF m 161 #[.val (.int p1), .val (.int p2), .val (.int p3), .val (.int p4), .val (.int p5), .val (.int w), .val (.int h1), .val (.ref (ad 0)), .val (.int (w + (p3 % (2 : Int32)))), .val (.int p4), .val (.ref b7), .val (.int (0 : Int32)), .val (.int (1 : Int32)), .val (.int (1 : Int32))] [(.int (1 : Int32))])) _
      exact retN X40 hx (t := .boolean) Bd.returns (by simp) (hb hby at_161) hr
    · show QN (some (.int (1 : Int32))) n0 _ T40.heap _
      rw [e40]
      exact ⟨rfl, N40⟩
theorem own_ef_own_law_011 (m : MethodId) {x0 : Int32} {x1 : Int32} {x2 : Int32} {x3 : Int32} {x4 : Int32} : entryFrame m #[(.int x0), (.int x1), (.int x2), (.int x3), (.int x4)] maxLocals = mkF m 0 #[.val (.int x0), .val (.int x1), .val (.int x2), .val (.int x3), .val (.int x4), .unset, .unset, .unset, .unset, .unset, .unset, .unset, .unset, .unset] [] := by first | (simp [entryFrame, mkF, argsToLocals, Value.category, maxLocals]; done) | rfl
set_option maxRecDepth 65536 in
set_option maxHeartbeats 40000000 in
theorem own_law_011 (l : Launch) (Z : State) (a0 : Array Value) (hw : ∀ d ∈ tables_1, d.before a0 Z = true) (ws : List Jvm.Cond) (h0 : Heap) (n0 : Nat) (Z0 : n0 ≤ h0.size) (p1 p2 p3 p4 p5 w h1 : Int32) (HW : MetFree l (⟨"java/lang/Math", "max", "(II)I"⟩ : MethodName) (head1 (Jvm.Cond.code (⟨"java/lang/Math", "max", "(II)I"⟩ : MethodName) jdk_29_method_65_code 2 (some .int) :: []) ({ frames := 0, cells := 0, slots := 0, locals := 0 } : Room)) (fun a U => a = #[(.int (1 : Int32)), (.int (p1 &&& (2147483647 : Int32)))] ∧ Z.Warmed39 U.vm ∧ U.heap = h0) (fun _ _ _ _ _ => True) (fun _ U o U' => ∃ v L, o = .returned v ∧ QV (some (.int w)) h0 n0 v U'.heap L ∧ FrameEnd U o U' L ({ frames := 0, cells := 0, slots := 0, locals := 0 } : Room).cells ({ frames := 0, cells := 0, slots := 0, locals := 0 } : Room).slots)) (HH : MetFree l (⟨"java/lang/Math", "max", "(II)I"⟩ : MethodName) (head1 (Jvm.Cond.code (⟨"java/lang/Math", "max", "(II)I"⟩ : MethodName) jdk_29_method_65_code 2 (some .int) :: []) ({ frames := 0, cells := 0, slots := 0, locals := 0 } : Room)) (fun a U => a = #[(.int (1 : Int32)), (.int (p2 &&& (2147483647 : Int32)))] ∧ Z.Warmed39 U.vm ∧ U.heap = h0) (fun _ _ _ _ _ => True) (fun _ U o U' => ∃ v L, o = .returned v ∧ QV (some (.int h1)) h0 n0 v U'.heap L ∧ FrameEnd U o U' L ({ frames := 0, cells := 0, slots := 0, locals := 0 } : Room).cells ({ frames := 0, cells := 0, slots := 0, locals := 0 } : Room).slots)) (pw : (0 : Int32) < w) (ph : (0 : Int32) < h1) (s0 : (p5 &&& (1 : Int32)) = (0 : Int32)) (s1 : ¬ (p5 &&& (2 : Int32)) = (0 : Int32)) (s2 : ¬ (p5 &&& (4 : Int32)) = (0 : Int32)) (ad : Nat → Addr) (W : OwnWd Z h0 ad) :
    MetFree l x (head1 (Jvm.Cond.code x code maxLocals ret :: ws) room_1) (fun a U => a = #[(.int p1), (.int p2), (.int p3), (.int p4), (.int p5)] ∧ Z.Warmed39 U.vm ∧ U.heap = h0) (fun _ _ _ _ _ => True) (fun _ U o U' => ∃ v L, o = .returned v ∧ QN (some (.int (1 : Int32))) n0 v U'.heap L ∧ ReturnedEndW U o U' L room_1.cells room_1.slots) := by
  refine MetFree.of_bodySF (plainFor_of_name own_pn_com_example_leafwright_leafwright_CandidateCoversPinLaw) hisR ?_
  intro p e s m args below meth c s₁ Bd hml0 hP hK
  obtain ⟨rfl, hZ, hh⟩ := hP
  have hx := Bd.exec
  have hby := Bd.bytes
  have hml : c.maxLocals = 14 := hml0
  have hown : s.vm.findClass "com/example/leafwright/leafwright/CandidateCoversPinLaw" = some m.cls := (findClass_of_methodNamed Bd.named :)
  have hnm := (name_of_methodNamed Bd.named Bd.method).1
  have X0 : Stand p l e room_1 (s.setVm s.vm) m #[(.int p1), (.int p2), (.int p3), (.int p4), (.int p5)] below meth c s₁ [] 0 0 := Stand.of_body Bd
  have hZ : Z.Warmed39 (s.setVm s.vm).vm := hZ
  have hown : (s.setVm s.vm).vm.findClass "com/example/leafwright/leafwright/CandidateCoversPinLaw" = some m.cls := hown
  have hS : s.Since s.vm 0 := (State.WarmedH.refl s).since 0
  have hk : 0 ≤ h0.size := Nat.zero_le _
  have e0 : s₁.heap = h0 := by rw [← hh, Bd.state]; rfl
  have N0 := Fr.nil n0
  have pre0 : ∀ t, Steps p.tables e below (s₁.setTop (mkF m 0 #[.val (.int p1), .val (.int p2), .val (.int p3), .val (.int p4), .val (.int p5), .unset, .unset, .unset, .unset, .unset, .unset, .unset, .unset, .unset] [])) t → Steps p.tables e below (s₁.setTop (entryFrame m #[(.int p1), (.int p2), (.int p3), (.int p4), (.int p5)] maxLocals)) t := fun t k => castTop (own_ef_own_law_011 m) k
  obtain ⟨vv1, _, ⟨T1, L1, kk1, nn1⟩, -, X1, ⟨Lc1, hQ1, l1, y1, z1⟩, st1⟩ := Jvm.LawKit.callS X0 hx (y := (⟨"java/lang/Math", "max", "(II)I"⟩ : MethodName)) hown (mvT hZ (hw _ (List.mem_of_getElem? (i := 1) rfl))) (mvT hZ (hw _ (List.mem_of_getElem? (i := 2) rfl))) (mvT hZ (hw _ (List.mem_of_getElem? (i := 3) rfl))) (mvT hZ (hw _ (List.mem_of_getElem? (i := 4) rfl))) (by decide) (backOf (W := 0) HW hZ (hw _ (List.mem_of_getElem? (i := 4) rfl)) (hw _ (List.mem_of_getElem? (i := 3) rfl)) (by decide) (by decide)) (g := (mkF m 5 #[.val (.int p1), .val (.int p2), .val (.int p3), .val (.int p4), .val (.int p5), .unset, .unset, .unset, .unset, .unset, .unset, .unset, .unset, .unset] [(.int (p1 &&& (2147483647 : Int32))), (.int (1 : Int32))])) rfl (by rw [hml]; rfl) (argsL := [(.int (1 : Int32)), (.int (p1 &&& (2147483647 : Int32)))]) (rest := []) (lenOf own_pd__II_I rfl) rfl (by show 2 * 0 + _ ≤ _; exact Nat.le_of_eq rfl) (hb hby at_5) (fun _ _ => ⟨rfl, e0, (by decide : 0 + 0 ≤ _), (by decide : 0 + 0 ≤ _)⟩)
  dsimp only [Pt.U, Pt.locs, Pt.cells, Pt.slots] at X1 l1 y1 z1 st1 hQ1
  subst l1 y1 z1
  obtain ⟨rfl, Nq1, e1⟩ := hQ1
  have N1 := Fr.app N0 Nq1
  have ch2 : ∀ t, Steps p.tables e below (T1.setTop (mkF m 8 #[.val (.int p1), .val (.int p2), .val (.int p3), .val (.int p4), .val (.int p5), .unset, .unset, .unset, .unset, .unset, .unset, .unset, .unset, .unset] [(.int w)])) t → Steps p.tables e below (s₁.setTop (entryFrame m #[(.int p1), (.int p2), (.int p3), (.int p4), (.int p5)] maxLocals)) t := fun t k => pre0 t (by
      show Steps p.tables e below (s₁.setTop (mkF m 0 #[.val (.int p1), .val (.int p2), .val (.int p3), .val (.int p4), .val (.int p5), .unset, .unset, .unset, .unset, .unset, .unset, .unset, .unset, .unset] [])) t
      refine XS.iconst X0.here hx rfl (hb hby at_0) ?_
      show Steps p.tables e below (s₁.setTop (mkF m 1 #[.val (.int p1), .val (.int p2), .val (.int p3), .val (.int p4), .val (.int p5), .unset, .unset, .unset, .unset, .unset, .unset, .unset, .unset, .unset] [(.int (1 : Int32))])) t
      refine XS.iloadN X0.here hx rfl (hb hby at_1) rfl ?_
      show Steps p.tables e below (s₁.setTop (mkF m 2 #[.val (.int p1), .val (.int p2), .val (.int p3), .val (.int p4), .val (.int p5), .unset, .unset, .unset, .unset, .unset, .unset, .unset, .unset, .unset] [(.int p1), (.int (1 : Int32))])) t
      refine X0.ldcInt hx hown (mvT hZ (hw _ (List.mem_of_getElem? (i := 0) rfl))) (g := (mkF m 2 #[.val (.int p1), .val (.int p2), .val (.int p3), .val (.int p4), .val (.int p5), .unset, .unset, .unset, .unset, .unset, .unset, .unset, .unset, .unset] [(.int p1), (.int (1 : Int32))])) rfl (hb hby at_2) _ ?_
      show Steps p.tables e below (s₁.setTop (mkF m 4 #[.val (.int p1), .val (.int p2), .val (.int p3), .val (.int p4), .val (.int p5), .unset, .unset, .unset, .unset, .unset, .unset, .unset, .unset, .unset] [(.int (2147483647 : Int32)), (.int p1), (.int (1 : Int32))])) t
      refine XS.iand X0.here hx rfl (hb hby at_4) rfl ?_
      show Steps p.tables e below (s₁.setTop (mkF m 5 #[.val (.int p1), .val (.int p2), .val (.int p3), .val (.int p4), .val (.int p5), .unset, .unset, .unset, .unset, .unset, .unset, .unset, .unset, .unset] [(.int (p1 &&& (2147483647 : Int32))), (.int (1 : Int32))])) t
      exact st1 t k)
  obtain ⟨vv3, _, ⟨T3, L3, kk3, nn3⟩, -, X3, ⟨Lc3, hQ3, l3, y3, z3⟩, st3⟩ := Jvm.LawKit.callS X1 hx (y := (⟨"java/lang/Math", "max", "(II)I"⟩ : MethodName)) hown (mvT hZ (hw _ (List.mem_of_getElem? (i := 1) rfl))) (mvT hZ (hw _ (List.mem_of_getElem? (i := 2) rfl))) (mvT hZ (hw _ (List.mem_of_getElem? (i := 3) rfl))) (mvT hZ (hw _ (List.mem_of_getElem? (i := 4) rfl))) (by decide) (backOf (W := 0) HH hZ (hw _ (List.mem_of_getElem? (i := 4) rfl)) (hw _ (List.mem_of_getElem? (i := 3) rfl)) (by decide) (by decide)) (g := (mkF m 15 #[.val (.int p1), .val (.int p2), .val (.int p3), .val (.int p4), .val (.int p5), .val (.int w), .unset, .unset, .unset, .unset, .unset, .unset, .unset, .unset] [(.int (p2 &&& (2147483647 : Int32))), (.int (1 : Int32))])) rfl (by rw [hml]; rfl) (argsL := [(.int (1 : Int32)), (.int (p2 &&& (2147483647 : Int32)))]) (rest := []) (lenOf own_pd__II_I rfl) rfl (by show 2 * 0 + _ ≤ _; exact Nat.le_of_eq rfl) (hb hby at_15) (fun _ _ => ⟨rfl, e1, (by decide : 0 + 0 ≤ _), (by decide : 0 + 0 ≤ _)⟩)
  dsimp only [Pt.U, Pt.locs, Pt.cells, Pt.slots] at X3 l3 y3 z3 st3 hQ3
  subst l3 y3 z3
  obtain ⟨rfl, Nq3, e3⟩ := hQ3
  have N3 := Fr.app N1 Nq3
  have ch4 : ∀ t, Steps p.tables e below (T3.setTop (mkF m 18 #[.val (.int p1), .val (.int p2), .val (.int p3), .val (.int p4), .val (.int p5), .val (.int w), .unset, .unset, .unset, .unset, .unset, .unset, .unset, .unset] [(.int h1)])) t → Steps p.tables e below (s₁.setTop (entryFrame m #[(.int p1), (.int p2), (.int p3), (.int p4), (.int p5)] maxLocals)) t := fun t k => ch2 t (by
      show Steps p.tables e below (T1.setTop (mkF m 8 #[.val (.int p1), .val (.int p2), .val (.int p3), .val (.int p4), .val (.int p5), .unset, .unset, .unset, .unset, .unset, .unset, .unset, .unset, .unset] [(.int w)])) t
      refine XS.istore X1.here hx rfl (hb hby at_8) rfl (l' := #[.val (.int p1), .val (.int p2), .val (.int p3), .val (.int p4), .val (.int p5), .val (.int w), .unset, .unset, .unset, .unset, .unset, .unset, .unset, .unset]) rfl ?_
      show Steps p.tables e below (T1.setTop (mkF m 10 #[.val (.int p1), .val (.int p2), .val (.int p3), .val (.int p4), .val (.int p5), .val (.int w), .unset, .unset, .unset, .unset, .unset, .unset, .unset, .unset] [])) t
      refine XS.iconst X1.here hx rfl (hb hby at_10) ?_
      show Steps p.tables e below (T1.setTop (mkF m 11 #[.val (.int p1), .val (.int p2), .val (.int p3), .val (.int p4), .val (.int p5), .val (.int w), .unset, .unset, .unset, .unset, .unset, .unset, .unset, .unset] [(.int (1 : Int32))])) t
      refine XS.iloadN X1.here hx rfl (hb hby at_11) rfl ?_
      show Steps p.tables e below (T1.setTop (mkF m 12 #[.val (.int p1), .val (.int p2), .val (.int p3), .val (.int p4), .val (.int p5), .val (.int w), .unset, .unset, .unset, .unset, .unset, .unset, .unset, .unset] [(.int p2), (.int (1 : Int32))])) t
      refine X1.ldcInt hx hown (mvT hZ (hw _ (List.mem_of_getElem? (i := 0) rfl))) (g := (mkF m 12 #[.val (.int p1), .val (.int p2), .val (.int p3), .val (.int p4), .val (.int p5), .val (.int w), .unset, .unset, .unset, .unset, .unset, .unset, .unset, .unset] [(.int p2), (.int (1 : Int32))])) rfl (hb hby at_12) _ ?_
      show Steps p.tables e below (T1.setTop (mkF m 14 #[.val (.int p1), .val (.int p2), .val (.int p3), .val (.int p4), .val (.int p5), .val (.int w), .unset, .unset, .unset, .unset, .unset, .unset, .unset, .unset] [(.int (2147483647 : Int32)), (.int p2), (.int (1 : Int32))])) t
      refine XS.iand X1.here hx rfl (hb hby at_14) rfl ?_
      show Steps p.tables e below (T1.setTop (mkF m 15 #[.val (.int p1), .val (.int p2), .val (.int p3), .val (.int p4), .val (.int p5), .val (.int w), .unset, .unset, .unset, .unset, .unset, .unset, .unset, .unset] [(.int (p2 &&& (2147483647 : Int32))), (.int (1 : Int32))])) t
      exact st3 t k)
  obtain ⟨T5, X5, e5, st5⟩ := getS2 X3 hx hZ hown (host := "") (Or.inl (hw _ (List.mem_of_getElem? (i := 5) rfl))) Via.refl e3 (own_S_DECLARED W) (g := (mkF m 33 #[.val (.int p1), .val (.int p2), .val (.int p3), .val (.int p4), .val (.int p5), .val (.int w), .val (.int h1), .unset, .unset, .unset, .unset, .unset, .unset, .unset] [])) rfl (hb hby at_33)
  have ch6 : ∀ t, Steps p.tables e below (T5.setTop (mkF m 36 #[.val (.int p1), .val (.int p2), .val (.int p3), .val (.int p4), .val (.int p5), .val (.int w), .val (.int h1), .unset, .unset, .unset, .unset, .unset, .unset, .unset] [(.ref (ad 0))])) t → Steps p.tables e below (s₁.setTop (entryFrame m #[(.int p1), (.int p2), (.int p3), (.int p4), (.int p5)] maxLocals)) t := fun t k => ch4 t (by
      show Steps p.tables e below (T3.setTop (mkF m 18 #[.val (.int p1), .val (.int p2), .val (.int p3), .val (.int p4), .val (.int p5), .val (.int w), .unset, .unset, .unset, .unset, .unset, .unset, .unset, .unset] [(.int h1)])) t
      refine XS.istore X3.here hx rfl (hb hby at_18) rfl (l' := #[.val (.int p1), .val (.int p2), .val (.int p3), .val (.int p4), .val (.int p5), .val (.int w), .val (.int h1), .unset, .unset, .unset, .unset, .unset, .unset, .unset]) rfl ?_
      show Steps p.tables e below (T3.setTop (mkF m 20 #[.val (.int p1), .val (.int p2), .val (.int p3), .val (.int p4), .val (.int p5), .val (.int w), .val (.int h1), .unset, .unset, .unset, .unset, .unset, .unset, .unset] [])) t
      refine XS.iload X3.here hx rfl (hb hby at_20) rfl ?_
      show Steps p.tables e below (T3.setTop (mkF m 22 #[.val (.int p1), .val (.int p2), .val (.int p3), .val (.int p4), .val (.int p5), .val (.int w), .val (.int h1), .unset, .unset, .unset, .unset, .unset, .unset, .unset] [(.int p5)])) t
      refine XS.iconst X3.here hx rfl (hb hby at_22) ?_
      show Steps p.tables e below (T3.setTop (mkF m 23 #[.val (.int p1), .val (.int p2), .val (.int p3), .val (.int p4), .val (.int p5), .val (.int w), .val (.int h1), .unset, .unset, .unset, .unset, .unset, .unset, .unset] [(.int (1 : Int32)), (.int p5)])) t
      refine XS.iand X3.here hx rfl (hb hby at_23) rfl ?_
      show Steps p.tables e below (T3.setTop (mkF m 24 #[.val (.int p1), .val (.int p2), .val (.int p3), .val (.int p4), .val (.int p5), .val (.int w), .val (.int h1), .unset, .unset, .unset, .unset, .unset, .unset, .unset] [(.int (p5 &&& (1 : Int32)))])) t
      refine XS.ifYes X3.here hx rfl (pc0 := 24) (pc' := 33) rfl (hb hby at_24) rfl ((if0 _ _).trans (teq s0).1) (by decide) (by decide) ?_
      show Steps p.tables e below (T3.setTop (mkF m 33 #[.val (.int p1), .val (.int p2), .val (.int p3), .val (.int p4), .val (.int p5), .val (.int w), .val (.int h1), .unset, .unset, .unset, .unset, .unset, .unset, .unset] [])) t
      exact st5 t k)
  obtain ⟨T7, hp7, X7, e7, E7, A7, D7, -, st7⟩ := newO X5 hx hZ hown (hw _ (List.mem_of_getElem? (i := 8) rfl)) (hw _ (List.mem_of_getElem? (i := 9) rfl)) (hw _ (List.mem_of_getElem? (i := 10) rfl)) e5 (g := (mkF m 76 #[.val (.int p1), .val (.int p2), .val (.int p3), .val (.int p4), .val (.int p5), .val (.int w), .val (.int h1), .val (.ref (ad 0)), .val (.int (w + (p3 % (2 : Int32)))), .val (.int (h1 + (p4 % (2 : Int32)))), .unset, .unset, .unset, .unset] [])) rfl (hb hby at_76) (by decide) (by decide)
  obtain ⟨b7, g7⟩ : ∃ z, z = h0.size := ⟨_, rfl⟩
  rw [← g7] at A7 D7 st7
  have ne_ad0_b7 : (ad 0) ≠ b7 := Nat.ne_of_lt (Nat.lt_of_lt_of_le (own_E_DECLARED W).lt (Nat.le_of_eq g7.symm))
  have ne_ad1_b7 : (ad 1) ≠ b7 := Nat.ne_of_lt (Nat.lt_of_lt_of_le (own_E_SIZE W).lt (Nat.le_of_eq g7.symm))
  have g_b7 : n0 ≤ b7 := Nat.le_trans (Nat.le_trans Z0 (Keep.refl h0 []).1) (Nat.le_of_eq g7.symm)
  have sz_b7 : h0.size ≤ b7 := Nat.le_trans (Keep.refl h0 []).1 (Nat.le_of_eq g7.symm)
  have hk := Nat.le_trans hk E7.1
  have Kp7 := Keep.ext (Keep.refl h0 []) E7
  have F7_43 : Fld Z hp7 b7 "com/example/leafwright/leafwright/Thumbnails$Candidate" "url" "Ljava/lang/String;" .null := D7 (Or.inr (hw _ (List.mem_of_getElem? (i := 43) rfl))) (ty := (.object "java/lang/String")) (by decide)
  have F7_45 : Fld Z hp7 b7 "com/example/leafwright/leafwright/Thumbnails$Candidate" "width" "I" (.int (0 : Int32)) := D7 (Or.inr (hw _ (List.mem_of_getElem? (i := 45) rfl))) (ty := .int) (by decide)
  have F7_47 : Fld Z hp7 b7 "com/example/leafwright/leafwright/Thumbnails$Candidate" "height" "I" (.int (0 : Int32)) := D7 (Or.inr (hw _ (List.mem_of_getElem? (i := 47) rfl))) (ty := .int) (by decide)
  have F7_49 : Fld Z hp7 b7 "com/example/leafwright/leafwright/Thumbnails$Candidate" "source" "Lcom/example/leafwright/leafwright/Thumbnails$Source;" .null := D7 (Or.inr (hw _ (List.mem_of_getElem? (i := 49) rfl))) (ty := (.object "com/example/leafwright/leafwright/Thumbnails$Source")) (by decide)
  have ch8 : ∀ t, Steps p.tables e below (T7.setTop (mkF m 79 #[.val (.int p1), .val (.int p2), .val (.int p3), .val (.int p4), .val (.int p5), .val (.int w), .val (.int h1), .val (.ref (ad 0)), .val (.int (w + (p3 % (2 : Int32)))), .val (.int (h1 + (p4 % (2 : Int32)))), .unset, .unset, .unset, .unset] [(.ref b7)])) t → Steps p.tables e below (s₁.setTop (entryFrame m #[(.int p1), (.int p2), (.int p3), (.int p4), (.int p5)] maxLocals)) t := fun t k => ch6 t (by
      show Steps p.tables e below (T5.setTop (mkF m 36 #[.val (.int p1), .val (.int p2), .val (.int p3), .val (.int p4), .val (.int p5), .val (.int w), .val (.int h1), .unset, .unset, .unset, .unset, .unset, .unset, .unset] [(.ref (ad 0))])) t
      refine XS.astore X5.here hx rfl (hb hby at_36) rfl rfl (l' := #[.val (.int p1), .val (.int p2), .val (.int p3), .val (.int p4), .val (.int p5), .val (.int w), .val (.int h1), .val (.ref (ad 0)), .unset, .unset, .unset, .unset, .unset, .unset]) rfl ?_
      show Steps p.tables e below (T5.setTop (mkF m 38 #[.val (.int p1), .val (.int p2), .val (.int p3), .val (.int p4), .val (.int p5), .val (.int w), .val (.int h1), .val (.ref (ad 0)), .unset, .unset, .unset, .unset, .unset, .unset] [])) t
      refine XS.iload X5.here hx rfl (hb hby at_38) rfl ?_
      show Steps p.tables e below (T5.setTop (mkF m 40 #[.val (.int p1), .val (.int p2), .val (.int p3), .val (.int p4), .val (.int p5), .val (.int w), .val (.int h1), .val (.ref (ad 0)), .unset, .unset, .unset, .unset, .unset, .unset] [(.int p5)])) t
      refine XS.iconst X5.here hx rfl (hb hby at_40) ?_
      show Steps p.tables e below (T5.setTop (mkF m 41 #[.val (.int p1), .val (.int p2), .val (.int p3), .val (.int p4), .val (.int p5), .val (.int w), .val (.int h1), .val (.ref (ad 0)), .unset, .unset, .unset, .unset, .unset, .unset] [(.int (2 : Int32)), (.int p5)])) t
      refine XS.iand X5.here hx rfl (hb hby at_41) rfl ?_
      show Steps p.tables e below (T5.setTop (mkF m 42 #[.val (.int p1), .val (.int p2), .val (.int p3), .val (.int p4), .val (.int p5), .val (.int w), .val (.int h1), .val (.ref (ad 0)), .unset, .unset, .unset, .unset, .unset, .unset] [(.int (p5 &&& (2 : Int32)))])) t
      refine XS.ifNo X5.here hx rfl (hb hby at_42) rfl ((if0 _ _).trans (feq s1).1) ?_
      show Steps p.tables e below (T5.setTop (mkF m 45 #[.val (.int p1), .val (.int p2), .val (.int p3), .val (.int p4), .val (.int p5), .val (.int w), .val (.int h1), .val (.ref (ad 0)), .unset, .unset, .unset, .unset, .unset, .unset] [])) t
      refine XS.iload X5.here hx rfl (hb hby at_45) rfl ?_
      show Steps p.tables e below (T5.setTop (mkF m 47 #[.val (.int p1), .val (.int p2), .val (.int p3), .val (.int p4), .val (.int p5), .val (.int w), .val (.int h1), .val (.ref (ad 0)), .unset, .unset, .unset, .unset, .unset, .unset] [(.int w)])) t
      refine XS.iloadN X5.here hx rfl (hb hby at_47) rfl ?_
      show Steps p.tables e below (T5.setTop (mkF m 48 #[.val (.int p1), .val (.int p2), .val (.int p3), .val (.int p4), .val (.int p5), .val (.int w), .val (.int h1), .val (.ref (ad 0)), .unset, .unset, .unset, .unset, .unset, .unset] [(.int p3), (.int w)])) t
      refine XS.iconst X5.here hx rfl (hb hby at_48) ?_
      show Steps p.tables e below (T5.setTop (mkF m 49 #[.val (.int p1), .val (.int p2), .val (.int p3), .val (.int p4), .val (.int p5), .val (.int w), .val (.int h1), .val (.ref (ad 0)), .unset, .unset, .unset, .unset, .unset, .unset] [(.int (2 : Int32)), (.int p3), (.int w)])) t
      refine Jvm.RoadKit.iremM (g := (mkF m 49 #[.val (.int p1), .val (.int p2), .val (.int p3), .val (.int p4), .val (.int p5), .val (.int w), .val (.int h1), .val (.ref (ad 0)), .unset, .unset, .unset, .unset, .unset, .unset] [(.int (2 : Int32)), (.int p3), (.int w)])) X5 hx rfl (hb hby at_49) rfl (by decide) ?_
      show Steps p.tables e below (T5.setTop (mkF m 50 #[.val (.int p1), .val (.int p2), .val (.int p3), .val (.int p4), .val (.int p5), .val (.int w), .val (.int h1), .val (.ref (ad 0)), .unset, .unset, .unset, .unset, .unset, .unset] [(.int (p3 % (2 : Int32))), (.int w)])) t
      refine XS.iadd X5.here hx rfl (hb hby at_50) rfl ?_
      show Steps p.tables e below (T5.setTop (mkF m 51 #[.val (.int p1), .val (.int p2), .val (.int p3), .val (.int p4), .val (.int p5), .val (.int w), .val (.int h1), .val (.ref (ad 0)), .unset, .unset, .unset, .unset, .unset, .unset] [(.int (w + (p3 % (2 : Int32))))])) t
      refine XS.goto X5.here hx rfl (pc0 := 51) (pc' := 55) rfl (hb hby at_51) (by decide) (by decide) ?_
      show Steps p.tables e below (T5.setTop (mkF m 55 #[.val (.int p1), .val (.int p2), .val (.int p3), .val (.int p4), .val (.int p5), .val (.int w), .val (.int h1), .val (.ref (ad 0)), .unset, .unset, .unset, .unset, .unset, .unset] [(.int (w + (p3 % (2 : Int32))))])) t
      refine XS.istore X5.here hx rfl (hb hby at_55) rfl (l' := #[.val (.int p1), .val (.int p2), .val (.int p3), .val (.int p4), .val (.int p5), .val (.int w), .val (.int h1), .val (.ref (ad 0)), .val (.int (w + (p3 % (2 : Int32)))), .unset, .unset, .unset, .unset, .unset]) rfl ?_
      show Steps p.tables e below (T5.setTop (mkF m 57 #[.val (.int p1), .val (.int p2), .val (.int p3), .val (.int p4), .val (.int p5), .val (.int w), .val (.int h1), .val (.ref (ad 0)), .val (.int (w + (p3 % (2 : Int32)))), .unset, .unset, .unset, .unset, .unset] [])) t
      refine XS.iload X5.here hx rfl (hb hby at_57) rfl ?_
      show Steps p.tables e below (T5.setTop (mkF m 59 #[.val (.int p1), .val (.int p2), .val (.int p3), .val (.int p4), .val (.int p5), .val (.int w), .val (.int h1), .val (.ref (ad 0)), .val (.int (w + (p3 % (2 : Int32)))), .unset, .unset, .unset, .unset, .unset] [(.int p5)])) t
      refine XS.iconst X5.here hx rfl (hb hby at_59) ?_
      show Steps p.tables e below (T5.setTop (mkF m 60 #[.val (.int p1), .val (.int p2), .val (.int p3), .val (.int p4), .val (.int p5), .val (.int w), .val (.int h1), .val (.ref (ad 0)), .val (.int (w + (p3 % (2 : Int32)))), .unset, .unset, .unset, .unset, .unset] [(.int (4 : Int32)), (.int p5)])) t
      refine XS.iand X5.here hx rfl (hb hby at_60) rfl ?_
      show Steps p.tables e below (T5.setTop (mkF m 61 #[.val (.int p1), .val (.int p2), .val (.int p3), .val (.int p4), .val (.int p5), .val (.int w), .val (.int h1), .val (.ref (ad 0)), .val (.int (w + (p3 % (2 : Int32)))), .unset, .unset, .unset, .unset, .unset] [(.int (p5 &&& (4 : Int32)))])) t
      refine XS.ifNo X5.here hx rfl (hb hby at_61) rfl ((if0 _ _).trans (feq s2).1) ?_
      show Steps p.tables e below (T5.setTop (mkF m 64 #[.val (.int p1), .val (.int p2), .val (.int p3), .val (.int p4), .val (.int p5), .val (.int w), .val (.int h1), .val (.ref (ad 0)), .val (.int (w + (p3 % (2 : Int32)))), .unset, .unset, .unset, .unset, .unset] [])) t
      refine XS.iload X5.here hx rfl (hb hby at_64) rfl ?_
      show Steps p.tables e below (T5.setTop (mkF m 66 #[.val (.int p1), .val (.int p2), .val (.int p3), .val (.int p4), .val (.int p5), .val (.int w), .val (.int h1), .val (.ref (ad 0)), .val (.int (w + (p3 % (2 : Int32)))), .unset, .unset, .unset, .unset, .unset] [(.int h1)])) t
      refine XS.iloadN X5.here hx rfl (hb hby at_66) rfl ?_
      show Steps p.tables e below (T5.setTop (mkF m 67 #[.val (.int p1), .val (.int p2), .val (.int p3), .val (.int p4), .val (.int p5), .val (.int w), .val (.int h1), .val (.ref (ad 0)), .val (.int (w + (p3 % (2 : Int32)))), .unset, .unset, .unset, .unset, .unset] [(.int p4), (.int h1)])) t
      refine XS.iconst X5.here hx rfl (hb hby at_67) ?_
      show Steps p.tables e below (T5.setTop (mkF m 68 #[.val (.int p1), .val (.int p2), .val (.int p3), .val (.int p4), .val (.int p5), .val (.int w), .val (.int h1), .val (.ref (ad 0)), .val (.int (w + (p3 % (2 : Int32)))), .unset, .unset, .unset, .unset, .unset] [(.int (2 : Int32)), (.int p4), (.int h1)])) t
      refine Jvm.RoadKit.iremM (g := (mkF m 68 #[.val (.int p1), .val (.int p2), .val (.int p3), .val (.int p4), .val (.int p5), .val (.int w), .val (.int h1), .val (.ref (ad 0)), .val (.int (w + (p3 % (2 : Int32)))), .unset, .unset, .unset, .unset, .unset] [(.int (2 : Int32)), (.int p4), (.int h1)])) X5 hx rfl (hb hby at_68) rfl (by decide) ?_
      show Steps p.tables e below (T5.setTop (mkF m 69 #[.val (.int p1), .val (.int p2), .val (.int p3), .val (.int p4), .val (.int p5), .val (.int w), .val (.int h1), .val (.ref (ad 0)), .val (.int (w + (p3 % (2 : Int32)))), .unset, .unset, .unset, .unset, .unset] [(.int (p4 % (2 : Int32))), (.int h1)])) t
      refine XS.iadd X5.here hx rfl (hb hby at_69) rfl ?_
      show Steps p.tables e below (T5.setTop (mkF m 70 #[.val (.int p1), .val (.int p2), .val (.int p3), .val (.int p4), .val (.int p5), .val (.int w), .val (.int h1), .val (.ref (ad 0)), .val (.int (w + (p3 % (2 : Int32)))), .unset, .unset, .unset, .unset, .unset] [(.int (h1 + (p4 % (2 : Int32))))])) t
      refine XS.goto X5.here hx rfl (pc0 := 70) (pc' := 74) rfl (hb hby at_70) (by decide) (by decide) ?_
      show Steps p.tables e below (T5.setTop (mkF m 74 #[.val (.int p1), .val (.int p2), .val (.int p3), .val (.int p4), .val (.int p5), .val (.int w), .val (.int h1), .val (.ref (ad 0)), .val (.int (w + (p3 % (2 : Int32)))), .unset, .unset, .unset, .unset, .unset] [(.int (h1 + (p4 % (2 : Int32))))])) t
      refine XS.istore X5.here hx rfl (hb hby at_74) rfl (l' := #[.val (.int p1), .val (.int p2), .val (.int p3), .val (.int p4), .val (.int p5), .val (.int w), .val (.int h1), .val (.ref (ad 0)), .val (.int (w + (p3 % (2 : Int32)))), .val (.int (h1 + (p4 % (2 : Int32)))), .unset, .unset, .unset, .unset]) rfl ?_
      show Steps p.tables e below (T5.setTop (mkF m 76 #[.val (.int p1), .val (.int p2), .val (.int p3), .val (.int p4), .val (.int p5), .val (.int w), .val (.int h1), .val (.ref (ad 0)), .val (.int (w + (p3 % (2 : Int32)))), .val (.int (h1 + (p4 % (2 : Int32)))), .unset, .unset, .unset, .unset] [])) t
      exact st7 t k)
  obtain ⟨ls9, T9, hp9, ks9, X9, e9, E9, hS, hk, hZ, hown, st9⟩ := ldcS X7 hx hZ hown (hw _ (List.mem_of_getElem? (i := 11) rfl)) (own_wS hw) e7 hS hk (g := (mkF m 80 #[.val (.int p1), .val (.int p2), .val (.int p3), .val (.int p4), .val (.int p5), .val (.int w), .val (.int h1), .val (.ref (ad 0)), .val (.int (w + (p3 % (2 : Int32)))), .val (.int (h1 + (p4 % (2 : Int32)))), .unset, .unset, .unset, .unset] [(.ref b7), (.ref b7)])) rfl (hb hby at_80) (n := 4) (by decide) (by decide) (by decide) (by decide)
  have Kp9 := Keep.ext Kp7 E9
  have ch10 : ∀ t, Steps p.tables e below (T9.setTop (mkF m 82 #[.val (.int p1), .val (.int p2), .val (.int p3), .val (.int p4), .val (.int p5), .val (.int w), .val (.int h1), .val (.ref (ad 0)), .val (.int (w + (p3 % (2 : Int32)))), .val (.int (h1 + (p4 % (2 : Int32)))), .unset, .unset, .unset, .unset] [(.ref ls9), (.ref b7), (.ref b7)])) t → Steps p.tables e below (s₁.setTop (entryFrame m #[(.int p1), (.int p2), (.int p3), (.int p4), (.int p5)] maxLocals)) t := fun t k => ch8 t (by
      show Steps p.tables e below (T7.setTop (mkF m 79 #[.val (.int p1), .val (.int p2), .val (.int p3), .val (.int p4), .val (.int p5), .val (.int w), .val (.int h1), .val (.ref (ad 0)), .val (.int (w + (p3 % (2 : Int32)))), .val (.int (h1 + (p4 % (2 : Int32)))), .unset, .unset, .unset, .unset] [(.ref b7)])) t
      refine XS.dup X7.here hx rfl (hb hby at_79) rfl rfl ?_
      show Steps p.tables e below (T7.setTop (mkF m 80 #[.val (.int p1), .val (.int p2), .val (.int p3), .val (.int p4), .val (.int p5), .val (.int w), .val (.int h1), .val (.ref (ad 0)), .val (.int (w + (p3 % (2 : Int32)))), .val (.int (h1 + (p4 % (2 : Int32)))), .unset, .unset, .unset, .unset] [(.ref b7), (.ref b7)])) t
      exact st9 t k)
  have cf11 := (A7.ext E9)
  have cf12 := (F7_43.ext E9)
  have cf13 := (F7_45.ext E9)
  have cf14 := (F7_47.ext E9)
  have cf15 := (F7_49.ext E9)
  obtain ⟨vv16, _, ⟨T16, L16, kk16, nn16⟩, -, X16, hS2, hgr, ⟨Lc16, hQ16, l16, y16, z16⟩, st16⟩ := X9.specialBackS hx (y := (⟨"com/example/leafwright/leafwright/Thumbnails$Candidate", "<init>", "(Ljava/lang/String;IILcom/example/leafwright/leafwright/Thumbnails$Source;)V"⟩ : MethodName)) rfl hown (mvT hZ (hw _ (List.mem_of_getElem? (i := 19) rfl))) (mvT hZ (hw _ (List.mem_of_getElem? (i := 20) rfl))) (mvT hZ (hw _ (List.mem_of_getElem? (i := 21) rfl))) (by decide) (backOfS (W := 1) (own_ini l Z a0 hw [] hp9 n0 (Nat.le_trans Z0 Kp9.1) b7 ls9 w h1 (ad 0) cf11 cf12 cf13 cf14 cf15 g_b7 pw ph) hZ (hw _ (List.mem_of_getElem? (i := 21) rfl)) (hw _ (List.mem_of_getElem? (i := 10) rfl)) (by decide) (by decide)) (g := (mkF m 88 #[.val (.int p1), .val (.int p2), .val (.int p3), .val (.int p4), .val (.int p5), .val (.int w), .val (.int h1), .val (.ref (ad 0)), .val (.int (w + (p3 % (2 : Int32)))), .val (.int (h1 + (p4 % (2 : Int32)))), .unset, .unset, .unset, .unset] [(.ref (ad 0)), (.int h1), (.int w), (.ref ls9), (.ref b7), (.ref b7)])) rfl (by rw [hml]; rfl) (Steps.refl _) (a := b7) (argsL := [(.ref ls9), (.int w), (.int h1), (.ref (ad 0))]) (rest := [(.ref b7)]) (lenOf own_pd__Ljava_lang_String_IILcom_example_leafwright_leafwright_Thumbnails_Source__V rfl) rfl (by show 2 * 0 + _ ≤ _; exact Nat.le_of_eq rfl) (hb hby at_88) (fun _ _ => ⟨rfl, e9, (by decide : 3 + 8 ≤ _), (by decide : 12 + 96 ≤ _)⟩)
  dsimp only [Pt.U, Pt.locs, Pt.cells, Pt.slots] at X16 l16 y16 z16 st16 hQ16 hS2 hgr
  subst l16 y16 z16
  obtain ⟨X16, hS, hZ, hown⟩ := rebS hS (by rw [e9]; exact hk) X16 hS2 hgr hZ hown
  obtain ⟨hh16, eh16⟩ : ∃ h, T16.heap = h := ⟨_, rfl⟩
  rw [eh16] at hQ16
  rw [eh16] at hS
  have hk : hh16.size ≤ hh16.size := Nat.le_refl _
  obtain ⟨rfl, Nq16, Kq16, fq16_0, fq16_1, fq16_2, fq16_3, fq16_4⟩ := hQ16
  have N16 := Fr.app N3 Nq16
  have Kp16 := Keep.trans Kp9 Kq16 (allS (Or.inr sz_b7) all0)
  have ch17 : ∀ t, Steps p.tables e below (T16.setTop (mkF m 91 #[.val (.int p1), .val (.int p2), .val (.int p3), .val (.int p4), .val (.int p5), .val (.int w), .val (.int h1), .val (.ref (ad 0)), .val (.int (w + (p3 % (2 : Int32)))), .val (.int (h1 + (p4 % (2 : Int32)))), .unset, .unset, .unset, .unset] [(.ref b7)])) t → Steps p.tables e below (s₁.setTop (entryFrame m #[(.int p1), (.int p2), (.int p3), (.int p4), (.int p5)] maxLocals)) t := fun t k => ch10 t (by
      show Steps p.tables e below (T9.setTop (mkF m 82 #[.val (.int p1), .val (.int p2), .val (.int p3), .val (.int p4), .val (.int p5), .val (.int w), .val (.int h1), .val (.ref (ad 0)), .val (.int (w + (p3 % (2 : Int32)))), .val (.int (h1 + (p4 % (2 : Int32)))), .unset, .unset, .unset, .unset] [(.ref ls9), (.ref b7), (.ref b7)])) t
      refine XS.iload X9.here hx rfl (hb hby at_82) rfl ?_
      show Steps p.tables e below (T9.setTop (mkF m 84 #[.val (.int p1), .val (.int p2), .val (.int p3), .val (.int p4), .val (.int p5), .val (.int w), .val (.int h1), .val (.ref (ad 0)), .val (.int (w + (p3 % (2 : Int32)))), .val (.int (h1 + (p4 % (2 : Int32)))), .unset, .unset, .unset, .unset] [(.int w), (.ref ls9), (.ref b7), (.ref b7)])) t
      refine XS.iload X9.here hx rfl (hb hby at_84) rfl ?_
      show Steps p.tables e below (T9.setTop (mkF m 86 #[.val (.int p1), .val (.int p2), .val (.int p3), .val (.int p4), .val (.int p5), .val (.int w), .val (.int h1), .val (.ref (ad 0)), .val (.int (w + (p3 % (2 : Int32)))), .val (.int (h1 + (p4 % (2 : Int32)))), .unset, .unset, .unset, .unset] [(.int h1), (.int w), (.ref ls9), (.ref b7), (.ref b7)])) t
      refine XS.aload X9.here hx rfl (hb hby at_86) rfl rfl ?_
      show Steps p.tables e below (T9.setTop (mkF m 88 #[.val (.int p1), .val (.int p2), .val (.int p3), .val (.int p4), .val (.int p5), .val (.int w), .val (.int h1), .val (.ref (ad 0)), .val (.int (w + (p3 % (2 : Int32)))), .val (.int (h1 + (p4 % (2 : Int32)))), .unset, .unset, .unset, .unset] [(.ref (ad 0)), (.int h1), (.int w), (.ref ls9), (.ref b7), (.ref b7)])) t
      exact st16.trans k)
  have ch19 : ∀ t, Steps p.tables e below (T16.setTop (mkF m 97 #[.val (.int p1), .val (.int p2), .val (.int p3), .val (.int p4), .val (.int p5), .val (.int w), .val (.int h1), .val (.ref (ad 0)), .val (.int (w + (p3 % (2 : Int32)))), .val (.int (h1 + (p4 % (2 : Int32)))), .val (.ref b7), .unset, .unset, .unset] [(.int w), (.int (w + (p3 % (2 : Int32))))])) t → Steps p.tables e below (s₁.setTop (entryFrame m #[(.int p1), (.int p2), (.int p3), (.int p4), (.int p5)] maxLocals)) t := fun t k => ch17 t (by
      show Steps p.tables e below (T16.setTop (mkF m 91 #[.val (.int p1), .val (.int p2), .val (.int p3), .val (.int p4), .val (.int p5), .val (.int w), .val (.int h1), .val (.ref (ad 0)), .val (.int (w + (p3 % (2 : Int32)))), .val (.int (h1 + (p4 % (2 : Int32)))), .unset, .unset, .unset, .unset] [(.ref b7)])) t
      refine XS.astore X16.here hx rfl (hb hby at_91) rfl rfl (l' := #[.val (.int p1), .val (.int p2), .val (.int p3), .val (.int p4), .val (.int p5), .val (.int w), .val (.int h1), .val (.ref (ad 0)), .val (.int (w + (p3 % (2 : Int32)))), .val (.int (h1 + (p4 % (2 : Int32)))), .val (.ref b7), .unset, .unset, .unset]) rfl ?_
      show Steps p.tables e below (T16.setTop (mkF m 93 #[.val (.int p1), .val (.int p2), .val (.int p3), .val (.int p4), .val (.int p5), .val (.int w), .val (.int h1), .val (.ref (ad 0)), .val (.int (w + (p3 % (2 : Int32)))), .val (.int (h1 + (p4 % (2 : Int32)))), .val (.ref b7), .unset, .unset, .unset] [])) t
      refine XS.iload X16.here hx rfl (hb hby at_93) rfl ?_
      show Steps p.tables e below (T16.setTop (mkF m 95 #[.val (.int p1), .val (.int p2), .val (.int p3), .val (.int p4), .val (.int p5), .val (.int w), .val (.int h1), .val (.ref (ad 0)), .val (.int (w + (p3 % (2 : Int32)))), .val (.int (h1 + (p4 % (2 : Int32)))), .val (.ref b7), .unset, .unset, .unset] [(.int (w + (p3 % (2 : Int32))))])) t
      refine XS.iload X16.here hx rfl (hb hby at_95) rfl ?_
      exact k)
  by_cases hq18 : w < (w + (p3 % (2 : Int32)))
  · skip
    have ch21 : ∀ t, Steps p.tables e below (T16.setTop (mkF m 104 #[.val (.int p1), .val (.int p2), .val (.int p3), .val (.int p4), .val (.int p5), .val (.int w), .val (.int h1), .val (.ref (ad 0)), .val (.int (w + (p3 % (2 : Int32)))), .val (.int (h1 + (p4 % (2 : Int32)))), .val (.ref b7), .unset, .unset, .unset] [(.int h1), (.int (h1 + (p4 % (2 : Int32))))])) t → Steps p.tables e below (s₁.setTop (entryFrame m #[(.int p1), (.int p2), (.int p3), (.int p4), (.int p5)] maxLocals)) t := fun t k => ch19 t (by
        show Steps p.tables e below (T16.setTop (mkF m 97 #[.val (.int p1), .val (.int p2), .val (.int p3), .val (.int p4), .val (.int p5), .val (.int w), .val (.int h1), .val (.ref (ad 0)), .val (.int (w + (p3 % (2 : Int32)))), .val (.int (h1 + (p4 % (2 : Int32)))), .val (.ref b7), .unset, .unset, .unset] [(.int w), (.int (w + (p3 % (2 : Int32))))])) t
        refine XS.icmpNo X16.here hx rfl (hb hby at_97) rfl (tlt hq18).2.2.2 ?_
        show Steps p.tables e below (T16.setTop (mkF m 100 #[.val (.int p1), .val (.int p2), .val (.int p3), .val (.int p4), .val (.int p5), .val (.int w), .val (.int h1), .val (.ref (ad 0)), .val (.int (w + (p3 % (2 : Int32)))), .val (.int (h1 + (p4 % (2 : Int32)))), .val (.ref b7), .unset, .unset, .unset] [])) t
        refine XS.iload X16.here hx rfl (hb hby at_100) rfl ?_
        show Steps p.tables e below (T16.setTop (mkF m 102 #[.val (.int p1), .val (.int p2), .val (.int p3), .val (.int p4), .val (.int p5), .val (.int w), .val (.int h1), .val (.ref (ad 0)), .val (.int (w + (p3 % (2 : Int32)))), .val (.int (h1 + (p4 % (2 : Int32)))), .val (.ref b7), .unset, .unset, .unset] [(.int (h1 + (p4 % (2 : Int32))))])) t
        refine XS.iload X16.here hx rfl (hb hby at_102) rfl ?_
        exact k)
    by_cases hq20 : h1 < (h1 + (p4 % (2 : Int32)))
    · skip
      obtain ⟨cq22, kq22, qa22, qb22, qc22⟩ := isOf hZ eh16 fq16_0
      obtain ⟨vv23, _, ⟨T23, L23, kk23, nn23⟩, -, X23, ⟨Lc23, hQ23, l23, y23, z23⟩, st23⟩ := X16.virtualBack hx (y := (⟨"com/example/leafwright/leafwright/Thumbnails$Candidate", "covers", "(II)Z"⟩ : MethodName)) (z := (⟨"com/example/leafwright/leafwright/Thumbnails$Candidate", "covers", "(II)Z"⟩ : MethodName)) hown (mvT hZ (hw _ (List.mem_of_getElem? (i := 50) rfl))) (mvT hZ (hw _ (List.mem_of_getElem? (i := 51) rfl))) (notFace_of_selects (args := #[]) (mvT hZ (hw _ (List.mem_of_getElem? (i := 53) rfl)))) (mvT hZ (hw _ (List.mem_of_getElem? (i := 53) rfl))) (mvT hZ (hw _ (List.mem_of_getElem? (i := 52) rfl))) (by decide) (backOf (W := 0) (own_cov_c l Z a0 hw [] hh16 n0 (Nat.le_trans Z0 Kp16.1) b7 w h1 (w + (p3 % (2 : Int32))) (h1 + (p4 % (2 : Int32))) fq16_2 fq16_3 hq18 hq20) hZ (hw _ (List.mem_of_getElem? (i := 54) rfl)) (hw _ (List.mem_of_getElem? (i := 10) rfl)) (by decide) (by decide)) qa22 qc22 (g := (mkF m 120 #[.val (.int p1), .val (.int p2), .val (.int p3), .val (.int p4), .val (.int p5), .val (.int w), .val (.int h1), .val (.ref (ad 0)), .val (.int (w + (p3 % (2 : Int32)))), .val (.int (h1 + (p4 % (2 : Int32)))), .val (.ref b7), .val (.int (1 : Int32)), .unset, .unset] [(.int (h1 + (p4 % (2 : Int32)))), (.int (w + (p3 % (2 : Int32)))), (.ref b7)])) rfl (by rw [hml]; rfl) (Steps.refl _) (argsL := [(.int (w + (p3 % (2 : Int32)))), (.int (h1 + (p4 % (2 : Int32))))]) (rest := []) (lenOf own_pd__II_Z rfl) rfl (by show 2 * 0 + _ ≤ _; exact Nat.le_of_eq rfl) (hb hby at_120) (fun _ _ => ⟨rfl, eh16, (by decide : 11 + 0 ≤ _), (by decide : 108 + 0 ≤ _)⟩)
      dsimp only [Pt.U, Pt.locs, Pt.cells, Pt.slots] at X23 l23 y23 z23 st23 hQ23
      subst l23 y23 z23
      obtain ⟨rfl, Nq23, e23⟩ := hQ23
      have N23 := Fr.app N16 Nq23
      have ch24 : ∀ t, Steps p.tables e below (T23.setTop (mkF m 123 #[.val (.int p1), .val (.int p2), .val (.int p3), .val (.int p4), .val (.int p5), .val (.int w), .val (.int h1), .val (.ref (ad 0)), .val (.int (w + (p3 % (2 : Int32)))), .val (.int (h1 + (p4 % (2 : Int32)))), .val (.ref b7), .val (.int (1 : Int32)), .unset, .unset] [(.int (0 : Int32))])) t → Steps p.tables e below (s₁.setTop (entryFrame m #[(.int p1), (.int p2), (.int p3), (.int p4), (.int p5)] maxLocals)) t := fun t k => ch21 t (by
          show Steps p.tables e below (T16.setTop (mkF m 104 #[.val (.int p1), .val (.int p2), .val (.int p3), .val (.int p4), .val (.int p5), .val (.int w), .val (.int h1), .val (.ref (ad 0)), .val (.int (w + (p3 % (2 : Int32)))), .val (.int (h1 + (p4 % (2 : Int32)))), .val (.ref b7), .unset, .unset, .unset] [(.int h1), (.int (h1 + (p4 % (2 : Int32))))])) t
          refine XS.icmpNo X16.here hx rfl (hb hby at_104) rfl (tlt hq20).2.2.2 ?_
          show Steps p.tables e below (T16.setTop (mkF m 107 #[.val (.int p1), .val (.int p2), .val (.int p3), .val (.int p4), .val (.int p5), .val (.int w), .val (.int h1), .val (.ref (ad 0)), .val (.int (w + (p3 % (2 : Int32)))), .val (.int (h1 + (p4 % (2 : Int32)))), .val (.ref b7), .unset, .unset, .unset] [])) t
          refine XS.iconst X16.here hx rfl (hb hby at_107) ?_
          show Steps p.tables e below (T16.setTop (mkF m 108 #[.val (.int p1), .val (.int p2), .val (.int p3), .val (.int p4), .val (.int p5), .val (.int w), .val (.int h1), .val (.ref (ad 0)), .val (.int (w + (p3 % (2 : Int32)))), .val (.int (h1 + (p4 % (2 : Int32)))), .val (.ref b7), .unset, .unset, .unset] [(.int (1 : Int32))])) t
          refine XS.goto X16.here hx rfl (pc0 := 108) (pc' := 112) rfl (hb hby at_108) (by decide) (by decide) ?_
          show Steps p.tables e below (T16.setTop (mkF m 112 #[.val (.int p1), .val (.int p2), .val (.int p3), .val (.int p4), .val (.int p5), .val (.int w), .val (.int h1), .val (.ref (ad 0)), .val (.int (w + (p3 % (2 : Int32)))), .val (.int (h1 + (p4 % (2 : Int32)))), .val (.ref b7), .unset, .unset, .unset] [(.int (1 : Int32))])) t
          refine XS.istore X16.here hx rfl (hb hby at_112) rfl (l' := #[.val (.int p1), .val (.int p2), .val (.int p3), .val (.int p4), .val (.int p5), .val (.int w), .val (.int h1), .val (.ref (ad 0)), .val (.int (w + (p3 % (2 : Int32)))), .val (.int (h1 + (p4 % (2 : Int32)))), .val (.ref b7), .val (.int (1 : Int32)), .unset, .unset]) rfl ?_
          show Steps p.tables e below (T16.setTop (mkF m 114 #[.val (.int p1), .val (.int p2), .val (.int p3), .val (.int p4), .val (.int p5), .val (.int w), .val (.int h1), .val (.ref (ad 0)), .val (.int (w + (p3 % (2 : Int32)))), .val (.int (h1 + (p4 % (2 : Int32)))), .val (.ref b7), .val (.int (1 : Int32)), .unset, .unset] [])) t
          refine XS.aload X16.here hx rfl (hb hby at_114) rfl rfl ?_
          show Steps p.tables e below (T16.setTop (mkF m 116 #[.val (.int p1), .val (.int p2), .val (.int p3), .val (.int p4), .val (.int p5), .val (.int w), .val (.int h1), .val (.ref (ad 0)), .val (.int (w + (p3 % (2 : Int32)))), .val (.int (h1 + (p4 % (2 : Int32)))), .val (.ref b7), .val (.int (1 : Int32)), .unset, .unset] [(.ref b7)])) t
          refine XS.iload X16.here hx rfl (hb hby at_116) rfl ?_
          show Steps p.tables e below (T16.setTop (mkF m 118 #[.val (.int p1), .val (.int p2), .val (.int p3), .val (.int p4), .val (.int p5), .val (.int w), .val (.int h1), .val (.ref (ad 0)), .val (.int (w + (p3 % (2 : Int32)))), .val (.int (h1 + (p4 % (2 : Int32)))), .val (.ref b7), .val (.int (1 : Int32)), .unset, .unset] [(.int (w + (p3 % (2 : Int32)))), (.ref b7)])) t
          refine XS.iload X16.here hx rfl (hb hby at_118) rfl ?_
          show Steps p.tables e below (T16.setTop (mkF m 120 #[.val (.int p1), .val (.int p2), .val (.int p3), .val (.int p4), .val (.int p5), .val (.int w), .val (.int h1), .val (.ref (ad 0)), .val (.int (w + (p3 % (2 : Int32)))), .val (.int (h1 + (p4 % (2 : Int32)))), .val (.ref b7), .val (.int (1 : Int32)), .unset, .unset] [(.int (h1 + (p4 % (2 : Int32)))), (.int (w + (p3 % (2 : Int32)))), (.ref b7)])) t
          exact st23.trans k)
      obtain ⟨cq25, kq25, qa25, qb25, qc25⟩ := isOf hZ e23 fq16_0
      obtain ⟨vv26, _, ⟨T26, L26, kk26, nn26⟩, -, X26, ⟨Lc26, hQ26, l26, y26, z26⟩, st26⟩ := X23.virtualBack hx (y := (⟨"com/example/leafwright/leafwright/Thumbnails$Candidate", "covers", "(II)Z"⟩ : MethodName)) (z := (⟨"com/example/leafwright/leafwright/Thumbnails$Candidate", "covers", "(II)Z"⟩ : MethodName)) hown (mvT hZ (hw _ (List.mem_of_getElem? (i := 50) rfl))) (mvT hZ (hw _ (List.mem_of_getElem? (i := 51) rfl))) (notFace_of_selects (args := #[]) (mvT hZ (hw _ (List.mem_of_getElem? (i := 53) rfl)))) (mvT hZ (hw _ (List.mem_of_getElem? (i := 53) rfl))) (mvT hZ (hw _ (List.mem_of_getElem? (i := 52) rfl))) (by decide) (backOf (W := 0) (own_cov_a l Z a0 hw [] hh16 n0 (Nat.le_trans Z0 Kp16.1) b7 w h1 w h1 fq16_2 fq16_3 (Int32.lt_irrefl : ¬ w < w)) hZ (hw _ (List.mem_of_getElem? (i := 54) rfl)) (hw _ (List.mem_of_getElem? (i := 10) rfl)) (by decide) (by decide)) qa25 qc25 (g := (mkF m 131 #[.val (.int p1), .val (.int p2), .val (.int p3), .val (.int p4), .val (.int p5), .val (.int w), .val (.int h1), .val (.ref (ad 0)), .val (.int (w + (p3 % (2 : Int32)))), .val (.int (h1 + (p4 % (2 : Int32)))), .val (.ref b7), .val (.int (1 : Int32)), .val (.int (0 : Int32)), .unset] [(.int h1), (.int w), (.ref b7)])) rfl (by rw [hml]; rfl) (Steps.refl _) (argsL := [(.int w), (.int h1)]) (rest := []) (lenOf own_pd__II_Z rfl) rfl (by show 2 * 0 + _ ≤ _; exact Nat.le_of_eq rfl) (hb hby at_131) (fun _ _ => ⟨rfl, e23, (by decide : 11 + 0 ≤ _), (by decide : 108 + 0 ≤ _)⟩)
      dsimp only [Pt.U, Pt.locs, Pt.cells, Pt.slots] at X26 l26 y26 z26 st26 hQ26
      subst l26 y26 z26
      obtain ⟨rfl, Nq26, e26⟩ := hQ26
      have N26 := Fr.app N23 Nq26
      have ch27 : ∀ t, Steps p.tables e below (T26.setTop (mkF m 134 #[.val (.int p1), .val (.int p2), .val (.int p3), .val (.int p4), .val (.int p5), .val (.int w), .val (.int h1), .val (.ref (ad 0)), .val (.int (w + (p3 % (2 : Int32)))), .val (.int (h1 + (p4 % (2 : Int32)))), .val (.ref b7), .val (.int (1 : Int32)), .val (.int (0 : Int32)), .unset] [(.int (1 : Int32))])) t → Steps p.tables e below (s₁.setTop (entryFrame m #[(.int p1), (.int p2), (.int p3), (.int p4), (.int p5)] maxLocals)) t := fun t k => ch24 t (by
          show Steps p.tables e below (T23.setTop (mkF m 123 #[.val (.int p1), .val (.int p2), .val (.int p3), .val (.int p4), .val (.int p5), .val (.int w), .val (.int h1), .val (.ref (ad 0)), .val (.int (w + (p3 % (2 : Int32)))), .val (.int (h1 + (p4 % (2 : Int32)))), .val (.ref b7), .val (.int (1 : Int32)), .unset, .unset] [(.int (0 : Int32))])) t
          refine XS.istore X23.here hx rfl (hb hby at_123) rfl (l' := #[.val (.int p1), .val (.int p2), .val (.int p3), .val (.int p4), .val (.int p5), .val (.int w), .val (.int h1), .val (.ref (ad 0)), .val (.int (w + (p3 % (2 : Int32)))), .val (.int (h1 + (p4 % (2 : Int32)))), .val (.ref b7), .val (.int (1 : Int32)), .val (.int (0 : Int32)), .unset]) rfl ?_
          show Steps p.tables e below (T23.setTop (mkF m 125 #[.val (.int p1), .val (.int p2), .val (.int p3), .val (.int p4), .val (.int p5), .val (.int w), .val (.int h1), .val (.ref (ad 0)), .val (.int (w + (p3 % (2 : Int32)))), .val (.int (h1 + (p4 % (2 : Int32)))), .val (.ref b7), .val (.int (1 : Int32)), .val (.int (0 : Int32)), .unset] [])) t
          refine XS.aload X23.here hx rfl (hb hby at_125) rfl rfl ?_
          show Steps p.tables e below (T23.setTop (mkF m 127 #[.val (.int p1), .val (.int p2), .val (.int p3), .val (.int p4), .val (.int p5), .val (.int w), .val (.int h1), .val (.ref (ad 0)), .val (.int (w + (p3 % (2 : Int32)))), .val (.int (h1 + (p4 % (2 : Int32)))), .val (.ref b7), .val (.int (1 : Int32)), .val (.int (0 : Int32)), .unset] [(.ref b7)])) t
          refine XS.iload X23.here hx rfl (hb hby at_127) rfl ?_
          show Steps p.tables e below (T23.setTop (mkF m 129 #[.val (.int p1), .val (.int p2), .val (.int p3), .val (.int p4), .val (.int p5), .val (.int w), .val (.int h1), .val (.ref (ad 0)), .val (.int (w + (p3 % (2 : Int32)))), .val (.int (h1 + (p4 % (2 : Int32)))), .val (.ref b7), .val (.int (1 : Int32)), .val (.int (0 : Int32)), .unset] [(.int w), (.ref b7)])) t
          refine XS.iload X23.here hx rfl (hb hby at_129) rfl ?_
          show Steps p.tables e below (T23.setTop (mkF m 131 #[.val (.int p1), .val (.int p2), .val (.int p3), .val (.int p4), .val (.int p5), .val (.int w), .val (.int h1), .val (.ref (ad 0)), .val (.int (w + (p3 % (2 : Int32)))), .val (.int (h1 + (p4 % (2 : Int32)))), .val (.ref b7), .val (.int (1 : Int32)), .val (.int (0 : Int32)), .unset] [(.int h1), (.int w), (.ref b7)])) t
          exact st26.trans k)
      have ch28 : ∀ t, Steps p.tables e below (T26.setTop (mkF m 161 #[.val (.int p1), .val (.int p2), .val (.int p3), .val (.int p4), .val (.int p5), .val (.int w), .val (.int h1), .val (.ref (ad 0)), .val (.int (w + (p3 % (2 : Int32)))), .val (.int (h1 + (p4 % (2 : Int32)))), .val (.ref b7), .val (.int (1 : Int32)), .val (.int (0 : Int32)), .val (.int (1 : Int32))] [(.int (1 : Int32))])) t → Steps p.tables e below (s₁.setTop (entryFrame m #[(.int p1), (.int p2), (.int p3), (.int p4), (.int p5)] maxLocals)) t := fun t k => ch27 t (by
          show Steps p.tables e below (T26.setTop (mkF m 134 #[.val (.int p1), .val (.int p2), .val (.int p3), .val (.int p4), .val (.int p5), .val (.int w), .val (.int h1), .val (.ref (ad 0)), .val (.int (w + (p3 % (2 : Int32)))), .val (.int (h1 + (p4 % (2 : Int32)))), .val (.ref b7), .val (.int (1 : Int32)), .val (.int (0 : Int32)), .unset] [(.int (1 : Int32))])) t
          refine XS.istore X26.here hx rfl (hb hby at_134) rfl (l' := #[.val (.int p1), .val (.int p2), .val (.int p3), .val (.int p4), .val (.int p5), .val (.int w), .val (.int h1), .val (.ref (ad 0)), .val (.int (w + (p3 % (2 : Int32)))), .val (.int (h1 + (p4 % (2 : Int32)))), .val (.ref b7), .val (.int (1 : Int32)), .val (.int (0 : Int32)), .val (.int (1 : Int32))]) rfl ?_
          show Steps p.tables e below (T26.setTop (mkF m 136 #[.val (.int p1), .val (.int p2), .val (.int p3), .val (.int p4), .val (.int p5), .val (.int w), .val (.int h1), .val (.ref (ad 0)), .val (.int (w + (p3 % (2 : Int32)))), .val (.int (h1 + (p4 % (2 : Int32)))), .val (.ref b7), .val (.int (1 : Int32)), .val (.int (0 : Int32)), .val (.int (1 : Int32))] [])) t
          refine XS.iload X26.here hx rfl (hb hby at_136) rfl ?_
          show Steps p.tables e below (T26.setTop (mkF m 138 #[.val (.int p1), .val (.int p2), .val (.int p3), .val (.int p4), .val (.int p5), .val (.int w), .val (.int h1), .val (.ref (ad 0)), .val (.int (w + (p3 % (2 : Int32)))), .val (.int (h1 + (p4 % (2 : Int32)))), .val (.ref b7), .val (.int (1 : Int32)), .val (.int (0 : Int32)), .val (.int (1 : Int32))] [(.int (0 : Int32))])) t
          refine XS.iload X26.here hx rfl (hb hby at_138) rfl ?_
          show Steps p.tables e below (T26.setTop (mkF m 140 #[.val (.int p1), .val (.int p2), .val (.int p3), .val (.int p4), .val (.int p5), .val (.int w), .val (.int h1), .val (.ref (ad 0)), .val (.int (w + (p3 % (2 : Int32)))), .val (.int (h1 + (p4 % (2 : Int32)))), .val (.ref b7), .val (.int (1 : Int32)), .val (.int (0 : Int32)), .val (.int (1 : Int32))] [(.int (1 : Int32)), (.int (0 : Int32))])) t
          refine XS.ifYes X26.here hx rfl (pc0 := 140) (pc' := 147) rfl (hb hby at_140) rfl ((if0 _ _).trans (feq (by decide : ¬ (1 : Int32) = (0 : Int32))).2) (by decide) (by decide) ?_
          show Steps p.tables e below (T26.setTop (mkF m 147 #[.val (.int p1), .val (.int p2), .val (.int p3), .val (.int p4), .val (.int p5), .val (.int w), .val (.int h1), .val (.ref (ad 0)), .val (.int (w + (p3 % (2 : Int32)))), .val (.int (h1 + (p4 % (2 : Int32)))), .val (.ref b7), .val (.int (1 : Int32)), .val (.int (0 : Int32)), .val (.int (1 : Int32))] [(.int (0 : Int32))])) t
          refine XS.iconst X26.here hx rfl (hb hby at_147) ?_
          show Steps p.tables e below (T26.setTop (mkF m 148 #[.val (.int p1), .val (.int p2), .val (.int p3), .val (.int p4), .val (.int p5), .val (.int w), .val (.int h1), .val (.ref (ad 0)), .val (.int (w + (p3 % (2 : Int32)))), .val (.int (h1 + (p4 % (2 : Int32)))), .val (.ref b7), .val (.int (1 : Int32)), .val (.int (0 : Int32)), .val (.int (1 : Int32))] [(.int (0 : Int32)), (.int (0 : Int32))])) t
          refine XS.icmpNo X26.here hx rfl (hb hby at_148) rfl (teq (by decide : (0 : Int32) = (0 : Int32))).2 ?_
          show Steps p.tables e below (T26.setTop (mkF m 151 #[.val (.int p1), .val (.int p2), .val (.int p3), .val (.int p4), .val (.int p5), .val (.int w), .val (.int h1), .val (.ref (ad 0)), .val (.int (w + (p3 % (2 : Int32)))), .val (.int (h1 + (p4 % (2 : Int32)))), .val (.ref b7), .val (.int (1 : Int32)), .val (.int (0 : Int32)), .val (.int (1 : Int32))] [])) t
          refine XS.iload X26.here hx rfl (hb hby at_151) rfl ?_
          show Steps p.tables e below (T26.setTop (mkF m 153 #[.val (.int p1), .val (.int p2), .val (.int p3), .val (.int p4), .val (.int p5), .val (.int w), .val (.int h1), .val (.ref (ad 0)), .val (.int (w + (p3 % (2 : Int32)))), .val (.int (h1 + (p4 % (2 : Int32)))), .val (.ref b7), .val (.int (1 : Int32)), .val (.int (0 : Int32)), .val (.int (1 : Int32))] [(.int (1 : Int32))])) t
          refine XS.ifNo X26.here hx rfl (hb hby at_153) rfl ((if0 _ _).trans (feq (by decide : ¬ (1 : Int32) = (0 : Int32))).1) ?_
          show Steps p.tables e below (T26.setTop (mkF m 156 #[.val (.int p1), .val (.int p2), .val (.int p3), .val (.int p4), .val (.int p5), .val (.int w), .val (.int h1), .val (.ref (ad 0)), .val (.int (w + (p3 % (2 : Int32)))), .val (.int (h1 + (p4 % (2 : Int32)))), .val (.ref b7), .val (.int (1 : Int32)), .val (.int (0 : Int32)), .val (.int (1 : Int32))] [])) t
          refine XS.iconst X26.here hx rfl (hb hby at_156) ?_
          show Steps p.tables e below (T26.setTop (mkF m 157 #[.val (.int p1), .val (.int p2), .val (.int p3), .val (.int p4), .val (.int p5), .val (.int w), .val (.int h1), .val (.ref (ad 0)), .val (.int (w + (p3 % (2 : Int32)))), .val (.int (h1 + (p4 % (2 : Int32)))), .val (.ref b7), .val (.int (1 : Int32)), .val (.int (0 : Int32)), .val (.int (1 : Int32))] [(.int (1 : Int32))])) t
          refine XS.goto X26.here hx rfl (pc0 := 157) (pc' := 161) rfl (hb hby at_157) (by decide) (by decide) ?_
          exact k)
      obtain ⟨fs, hr, hrun, hended, hend⟩ := X26.leaveW hS (by rw [e26]; exact hk) (v := some (.int (1 : Int32))) (fun h => by rw [Bd.returns] at h; cases h)
      refine ⟨_, _, ch28 _ ?_, hrun, hended, _, _, rfl, ?_, hend.1, hend.2.1, hend.2.2.1, hend.2.2.2.mono (by decide) (by decide)⟩
      · show Steps p.tables e below (T26.setTop (mkF m 161 #[.val (.int p1), .val (.int p2), .val (.int p3), .val (.int p4), .val (.int p5), .val (.int w), .val (.int h1), .val (.ref (ad 0)), .val (.int (w + (p3 % (2 : Int32)))), .val (.int (h1 + (p4 % (2 : Int32)))), .val (.ref b7), .val (.int (1 : Int32)), .val (.int (0 : Int32)), .val (.int (1 : Int32))] [(.int (1 : Int32))])) _
        exact retN X26 hx (t := .boolean) Bd.returns (by simp) (hb hby at_161) hr
      · show QN (some (.int (1 : Int32))) n0 _ T26.heap _
        rw [e26]
        exact ⟨rfl, N26⟩
    · skip
      obtain ⟨cq29, kq29, qa29, qb29, qc29⟩ := isOf hZ eh16 fq16_0
      obtain ⟨vv30, _, ⟨T30, L30, kk30, nn30⟩, -, X30, ⟨Lc30, hQ30, l30, y30, z30⟩, st30⟩ := X16.virtualBack hx (y := (⟨"com/example/leafwright/leafwright/Thumbnails$Candidate", "covers", "(II)Z"⟩ : MethodName)) (z := (⟨"com/example/leafwright/leafwright/Thumbnails$Candidate", "covers", "(II)Z"⟩ : MethodName)) hown (mvT hZ (hw _ (List.mem_of_getElem? (i := 50) rfl))) (mvT hZ (hw _ (List.mem_of_getElem? (i := 51) rfl))) (notFace_of_selects (args := #[]) (mvT hZ (hw _ (List.mem_of_getElem? (i := 53) rfl)))) (mvT hZ (hw _ (List.mem_of_getElem? (i := 53) rfl))) (mvT hZ (hw _ (List.mem_of_getElem? (i := 52) rfl))) (by decide) (backOf (W := 0) (own_cov_b l Z a0 hw [] hh16 n0 (Nat.le_trans Z0 Kp16.1) b7 w h1 (w + (p3 % (2 : Int32))) (h1 + (p4 % (2 : Int32))) fq16_2 fq16_3 hq18 hq20) hZ (hw _ (List.mem_of_getElem? (i := 54) rfl)) (hw _ (List.mem_of_getElem? (i := 10) rfl)) (by decide) (by decide)) qa29 qc29 (g := (mkF m 120 #[.val (.int p1), .val (.int p2), .val (.int p3), .val (.int p4), .val (.int p5), .val (.int w), .val (.int h1), .val (.ref (ad 0)), .val (.int (w + (p3 % (2 : Int32)))), .val (.int (h1 + (p4 % (2 : Int32)))), .val (.ref b7), .val (.int (0 : Int32)), .unset, .unset] [(.int (h1 + (p4 % (2 : Int32)))), (.int (w + (p3 % (2 : Int32)))), (.ref b7)])) rfl (by rw [hml]; rfl) (Steps.refl _) (argsL := [(.int (w + (p3 % (2 : Int32)))), (.int (h1 + (p4 % (2 : Int32))))]) (rest := []) (lenOf own_pd__II_Z rfl) rfl (by show 2 * 0 + _ ≤ _; exact Nat.le_of_eq rfl) (hb hby at_120) (fun _ _ => ⟨rfl, eh16, (by decide : 11 + 0 ≤ _), (by decide : 108 + 0 ≤ _)⟩)
      dsimp only [Pt.U, Pt.locs, Pt.cells, Pt.slots] at X30 l30 y30 z30 st30 hQ30
      subst l30 y30 z30
      obtain ⟨rfl, Nq30, e30⟩ := hQ30
      have N30 := Fr.app N16 Nq30
      have ch31 : ∀ t, Steps p.tables e below (T30.setTop (mkF m 123 #[.val (.int p1), .val (.int p2), .val (.int p3), .val (.int p4), .val (.int p5), .val (.int w), .val (.int h1), .val (.ref (ad 0)), .val (.int (w + (p3 % (2 : Int32)))), .val (.int (h1 + (p4 % (2 : Int32)))), .val (.ref b7), .val (.int (0 : Int32)), .unset, .unset] [(.int (1 : Int32))])) t → Steps p.tables e below (s₁.setTop (entryFrame m #[(.int p1), (.int p2), (.int p3), (.int p4), (.int p5)] maxLocals)) t := fun t k => ch21 t (by
          show Steps p.tables e below (T16.setTop (mkF m 104 #[.val (.int p1), .val (.int p2), .val (.int p3), .val (.int p4), .val (.int p5), .val (.int w), .val (.int h1), .val (.ref (ad 0)), .val (.int (w + (p3 % (2 : Int32)))), .val (.int (h1 + (p4 % (2 : Int32)))), .val (.ref b7), .unset, .unset, .unset] [(.int h1), (.int (h1 + (p4 % (2 : Int32))))])) t
          refine XS.icmpYes X16.here hx rfl (pc0 := 104) (pc' := 111) rfl (hb hby at_104) rfl (flt hq20).2.2.2 (by decide) (by decide) ?_
          show Steps p.tables e below (T16.setTop (mkF m 111 #[.val (.int p1), .val (.int p2), .val (.int p3), .val (.int p4), .val (.int p5), .val (.int w), .val (.int h1), .val (.ref (ad 0)), .val (.int (w + (p3 % (2 : Int32)))), .val (.int (h1 + (p4 % (2 : Int32)))), .val (.ref b7), .unset, .unset, .unset] [])) t
          refine XS.iconst X16.here hx rfl (hb hby at_111) ?_
          show Steps p.tables e below (T16.setTop (mkF m 112 #[.val (.int p1), .val (.int p2), .val (.int p3), .val (.int p4), .val (.int p5), .val (.int w), .val (.int h1), .val (.ref (ad 0)), .val (.int (w + (p3 % (2 : Int32)))), .val (.int (h1 + (p4 % (2 : Int32)))), .val (.ref b7), .unset, .unset, .unset] [(.int (0 : Int32))])) t
          refine XS.istore X16.here hx rfl (hb hby at_112) rfl (l' := #[.val (.int p1), .val (.int p2), .val (.int p3), .val (.int p4), .val (.int p5), .val (.int w), .val (.int h1), .val (.ref (ad 0)), .val (.int (w + (p3 % (2 : Int32)))), .val (.int (h1 + (p4 % (2 : Int32)))), .val (.ref b7), .val (.int (0 : Int32)), .unset, .unset]) rfl ?_
          show Steps p.tables e below (T16.setTop (mkF m 114 #[.val (.int p1), .val (.int p2), .val (.int p3), .val (.int p4), .val (.int p5), .val (.int w), .val (.int h1), .val (.ref (ad 0)), .val (.int (w + (p3 % (2 : Int32)))), .val (.int (h1 + (p4 % (2 : Int32)))), .val (.ref b7), .val (.int (0 : Int32)), .unset, .unset] [])) t
          refine XS.aload X16.here hx rfl (hb hby at_114) rfl rfl ?_
          show Steps p.tables e below (T16.setTop (mkF m 116 #[.val (.int p1), .val (.int p2), .val (.int p3), .val (.int p4), .val (.int p5), .val (.int w), .val (.int h1), .val (.ref (ad 0)), .val (.int (w + (p3 % (2 : Int32)))), .val (.int (h1 + (p4 % (2 : Int32)))), .val (.ref b7), .val (.int (0 : Int32)), .unset, .unset] [(.ref b7)])) t
          refine XS.iload X16.here hx rfl (hb hby at_116) rfl ?_
          show Steps p.tables e below (T16.setTop (mkF m 118 #[.val (.int p1), .val (.int p2), .val (.int p3), .val (.int p4), .val (.int p5), .val (.int w), .val (.int h1), .val (.ref (ad 0)), .val (.int (w + (p3 % (2 : Int32)))), .val (.int (h1 + (p4 % (2 : Int32)))), .val (.ref b7), .val (.int (0 : Int32)), .unset, .unset] [(.int (w + (p3 % (2 : Int32)))), (.ref b7)])) t
          refine XS.iload X16.here hx rfl (hb hby at_118) rfl ?_
          show Steps p.tables e below (T16.setTop (mkF m 120 #[.val (.int p1), .val (.int p2), .val (.int p3), .val (.int p4), .val (.int p5), .val (.int w), .val (.int h1), .val (.ref (ad 0)), .val (.int (w + (p3 % (2 : Int32)))), .val (.int (h1 + (p4 % (2 : Int32)))), .val (.ref b7), .val (.int (0 : Int32)), .unset, .unset] [(.int (h1 + (p4 % (2 : Int32)))), (.int (w + (p3 % (2 : Int32)))), (.ref b7)])) t
          exact st30.trans k)
      obtain ⟨cq32, kq32, qa32, qb32, qc32⟩ := isOf hZ e30 fq16_0
      obtain ⟨vv33, _, ⟨T33, L33, kk33, nn33⟩, -, X33, ⟨Lc33, hQ33, l33, y33, z33⟩, st33⟩ := X30.virtualBack hx (y := (⟨"com/example/leafwright/leafwright/Thumbnails$Candidate", "covers", "(II)Z"⟩ : MethodName)) (z := (⟨"com/example/leafwright/leafwright/Thumbnails$Candidate", "covers", "(II)Z"⟩ : MethodName)) hown (mvT hZ (hw _ (List.mem_of_getElem? (i := 50) rfl))) (mvT hZ (hw _ (List.mem_of_getElem? (i := 51) rfl))) (notFace_of_selects (args := #[]) (mvT hZ (hw _ (List.mem_of_getElem? (i := 53) rfl)))) (mvT hZ (hw _ (List.mem_of_getElem? (i := 53) rfl))) (mvT hZ (hw _ (List.mem_of_getElem? (i := 52) rfl))) (by decide) (backOf (W := 0) (own_cov_a l Z a0 hw [] hh16 n0 (Nat.le_trans Z0 Kp16.1) b7 w h1 w h1 fq16_2 fq16_3 (Int32.lt_irrefl : ¬ w < w)) hZ (hw _ (List.mem_of_getElem? (i := 54) rfl)) (hw _ (List.mem_of_getElem? (i := 10) rfl)) (by decide) (by decide)) qa32 qc32 (g := (mkF m 131 #[.val (.int p1), .val (.int p2), .val (.int p3), .val (.int p4), .val (.int p5), .val (.int w), .val (.int h1), .val (.ref (ad 0)), .val (.int (w + (p3 % (2 : Int32)))), .val (.int (h1 + (p4 % (2 : Int32)))), .val (.ref b7), .val (.int (0 : Int32)), .val (.int (1 : Int32)), .unset] [(.int h1), (.int w), (.ref b7)])) rfl (by rw [hml]; rfl) (Steps.refl _) (argsL := [(.int w), (.int h1)]) (rest := []) (lenOf own_pd__II_Z rfl) rfl (by show 2 * 0 + _ ≤ _; exact Nat.le_of_eq rfl) (hb hby at_131) (fun _ _ => ⟨rfl, e30, (by decide : 11 + 0 ≤ _), (by decide : 108 + 0 ≤ _)⟩)
      dsimp only [Pt.U, Pt.locs, Pt.cells, Pt.slots] at X33 l33 y33 z33 st33 hQ33
      subst l33 y33 z33
      obtain ⟨rfl, Nq33, e33⟩ := hQ33
      have N33 := Fr.app N30 Nq33
      have ch34 : ∀ t, Steps p.tables e below (T33.setTop (mkF m 134 #[.val (.int p1), .val (.int p2), .val (.int p3), .val (.int p4), .val (.int p5), .val (.int w), .val (.int h1), .val (.ref (ad 0)), .val (.int (w + (p3 % (2 : Int32)))), .val (.int (h1 + (p4 % (2 : Int32)))), .val (.ref b7), .val (.int (0 : Int32)), .val (.int (1 : Int32)), .unset] [(.int (1 : Int32))])) t → Steps p.tables e below (s₁.setTop (entryFrame m #[(.int p1), (.int p2), (.int p3), (.int p4), (.int p5)] maxLocals)) t := fun t k => ch31 t (by
          show Steps p.tables e below (T30.setTop (mkF m 123 #[.val (.int p1), .val (.int p2), .val (.int p3), .val (.int p4), .val (.int p5), .val (.int w), .val (.int h1), .val (.ref (ad 0)), .val (.int (w + (p3 % (2 : Int32)))), .val (.int (h1 + (p4 % (2 : Int32)))), .val (.ref b7), .val (.int (0 : Int32)), .unset, .unset] [(.int (1 : Int32))])) t
          refine XS.istore X30.here hx rfl (hb hby at_123) rfl (l' := #[.val (.int p1), .val (.int p2), .val (.int p3), .val (.int p4), .val (.int p5), .val (.int w), .val (.int h1), .val (.ref (ad 0)), .val (.int (w + (p3 % (2 : Int32)))), .val (.int (h1 + (p4 % (2 : Int32)))), .val (.ref b7), .val (.int (0 : Int32)), .val (.int (1 : Int32)), .unset]) rfl ?_
          show Steps p.tables e below (T30.setTop (mkF m 125 #[.val (.int p1), .val (.int p2), .val (.int p3), .val (.int p4), .val (.int p5), .val (.int w), .val (.int h1), .val (.ref (ad 0)), .val (.int (w + (p3 % (2 : Int32)))), .val (.int (h1 + (p4 % (2 : Int32)))), .val (.ref b7), .val (.int (0 : Int32)), .val (.int (1 : Int32)), .unset] [])) t
          refine XS.aload X30.here hx rfl (hb hby at_125) rfl rfl ?_
          show Steps p.tables e below (T30.setTop (mkF m 127 #[.val (.int p1), .val (.int p2), .val (.int p3), .val (.int p4), .val (.int p5), .val (.int w), .val (.int h1), .val (.ref (ad 0)), .val (.int (w + (p3 % (2 : Int32)))), .val (.int (h1 + (p4 % (2 : Int32)))), .val (.ref b7), .val (.int (0 : Int32)), .val (.int (1 : Int32)), .unset] [(.ref b7)])) t
          refine XS.iload X30.here hx rfl (hb hby at_127) rfl ?_
          show Steps p.tables e below (T30.setTop (mkF m 129 #[.val (.int p1), .val (.int p2), .val (.int p3), .val (.int p4), .val (.int p5), .val (.int w), .val (.int h1), .val (.ref (ad 0)), .val (.int (w + (p3 % (2 : Int32)))), .val (.int (h1 + (p4 % (2 : Int32)))), .val (.ref b7), .val (.int (0 : Int32)), .val (.int (1 : Int32)), .unset] [(.int w), (.ref b7)])) t
          refine XS.iload X30.here hx rfl (hb hby at_129) rfl ?_
          show Steps p.tables e below (T30.setTop (mkF m 131 #[.val (.int p1), .val (.int p2), .val (.int p3), .val (.int p4), .val (.int p5), .val (.int w), .val (.int h1), .val (.ref (ad 0)), .val (.int (w + (p3 % (2 : Int32)))), .val (.int (h1 + (p4 % (2 : Int32)))), .val (.ref b7), .val (.int (0 : Int32)), .val (.int (1 : Int32)), .unset] [(.int h1), (.int w), (.ref b7)])) t
          exact st33.trans k)
      have ch35 : ∀ t, Steps p.tables e below (T33.setTop (mkF m 161 #[.val (.int p1), .val (.int p2), .val (.int p3), .val (.int p4), .val (.int p5), .val (.int w), .val (.int h1), .val (.ref (ad 0)), .val (.int (w + (p3 % (2 : Int32)))), .val (.int (h1 + (p4 % (2 : Int32)))), .val (.ref b7), .val (.int (0 : Int32)), .val (.int (1 : Int32)), .val (.int (1 : Int32))] [(.int (1 : Int32))])) t → Steps p.tables e below (s₁.setTop (entryFrame m #[(.int p1), (.int p2), (.int p3), (.int p4), (.int p5)] maxLocals)) t := fun t k => ch34 t (by
          show Steps p.tables e below (T33.setTop (mkF m 134 #[.val (.int p1), .val (.int p2), .val (.int p3), .val (.int p4), .val (.int p5), .val (.int w), .val (.int h1), .val (.ref (ad 0)), .val (.int (w + (p3 % (2 : Int32)))), .val (.int (h1 + (p4 % (2 : Int32)))), .val (.ref b7), .val (.int (0 : Int32)), .val (.int (1 : Int32)), .unset] [(.int (1 : Int32))])) t
          refine XS.istore X33.here hx rfl (hb hby at_134) rfl (l' := #[.val (.int p1), .val (.int p2), .val (.int p3), .val (.int p4), .val (.int p5), .val (.int w), .val (.int h1), .val (.ref (ad 0)), .val (.int (w + (p3 % (2 : Int32)))), .val (.int (h1 + (p4 % (2 : Int32)))), .val (.ref b7), .val (.int (0 : Int32)), .val (.int (1 : Int32)), .val (.int (1 : Int32))]) rfl ?_
          show Steps p.tables e below (T33.setTop (mkF m 136 #[.val (.int p1), .val (.int p2), .val (.int p3), .val (.int p4), .val (.int p5), .val (.int w), .val (.int h1), .val (.ref (ad 0)), .val (.int (w + (p3 % (2 : Int32)))), .val (.int (h1 + (p4 % (2 : Int32)))), .val (.ref b7), .val (.int (0 : Int32)), .val (.int (1 : Int32)), .val (.int (1 : Int32))] [])) t
          refine XS.iload X33.here hx rfl (hb hby at_136) rfl ?_
          show Steps p.tables e below (T33.setTop (mkF m 138 #[.val (.int p1), .val (.int p2), .val (.int p3), .val (.int p4), .val (.int p5), .val (.int w), .val (.int h1), .val (.ref (ad 0)), .val (.int (w + (p3 % (2 : Int32)))), .val (.int (h1 + (p4 % (2 : Int32)))), .val (.ref b7), .val (.int (0 : Int32)), .val (.int (1 : Int32)), .val (.int (1 : Int32))] [(.int (1 : Int32))])) t
          refine XS.iload X33.here hx rfl (hb hby at_138) rfl ?_
          show Steps p.tables e below (T33.setTop (mkF m 140 #[.val (.int p1), .val (.int p2), .val (.int p3), .val (.int p4), .val (.int p5), .val (.int w), .val (.int h1), .val (.ref (ad 0)), .val (.int (w + (p3 % (2 : Int32)))), .val (.int (h1 + (p4 % (2 : Int32)))), .val (.ref b7), .val (.int (0 : Int32)), .val (.int (1 : Int32)), .val (.int (1 : Int32))] [(.int (0 : Int32)), (.int (1 : Int32))])) t
          refine XS.ifNo X33.here hx rfl (hb hby at_140) rfl ((if0 _ _).trans (teq (by decide : (0 : Int32) = (0 : Int32))).2) ?_
          show Steps p.tables e below (T33.setTop (mkF m 143 #[.val (.int p1), .val (.int p2), .val (.int p3), .val (.int p4), .val (.int p5), .val (.int w), .val (.int h1), .val (.ref (ad 0)), .val (.int (w + (p3 % (2 : Int32)))), .val (.int (h1 + (p4 % (2 : Int32)))), .val (.ref b7), .val (.int (0 : Int32)), .val (.int (1 : Int32)), .val (.int (1 : Int32))] [(.int (1 : Int32))])) t
          refine XS.iconst X33.here hx rfl (hb hby at_143) ?_
          show Steps p.tables e below (T33.setTop (mkF m 144 #[.val (.int p1), .val (.int p2), .val (.int p3), .val (.int p4), .val (.int p5), .val (.int w), .val (.int h1), .val (.ref (ad 0)), .val (.int (w + (p3 % (2 : Int32)))), .val (.int (h1 + (p4 % (2 : Int32)))), .val (.ref b7), .val (.int (0 : Int32)), .val (.int (1 : Int32)), .val (.int (1 : Int32))] [(.int (1 : Int32)), (.int (1 : Int32))])) t
          refine XS.goto X33.here hx rfl (pc0 := 144) (pc' := 148) rfl (hb hby at_144) (by decide) (by decide) ?_
          show Steps p.tables e below (T33.setTop (mkF m 148 #[.val (.int p1), .val (.int p2), .val (.int p3), .val (.int p4), .val (.int p5), .val (.int w), .val (.int h1), .val (.ref (ad 0)), .val (.int (w + (p3 % (2 : Int32)))), .val (.int (h1 + (p4 % (2 : Int32)))), .val (.ref b7), .val (.int (0 : Int32)), .val (.int (1 : Int32)), .val (.int (1 : Int32))] [(.int (1 : Int32)), (.int (1 : Int32))])) t
          refine XS.icmpNo X33.here hx rfl (hb hby at_148) rfl (teq (by decide : (1 : Int32) = (1 : Int32))).2 ?_
          show Steps p.tables e below (T33.setTop (mkF m 151 #[.val (.int p1), .val (.int p2), .val (.int p3), .val (.int p4), .val (.int p5), .val (.int w), .val (.int h1), .val (.ref (ad 0)), .val (.int (w + (p3 % (2 : Int32)))), .val (.int (h1 + (p4 % (2 : Int32)))), .val (.ref b7), .val (.int (0 : Int32)), .val (.int (1 : Int32)), .val (.int (1 : Int32))] [])) t
          refine XS.iload X33.here hx rfl (hb hby at_151) rfl ?_
          show Steps p.tables e below (T33.setTop (mkF m 153 #[.val (.int p1), .val (.int p2), .val (.int p3), .val (.int p4), .val (.int p5), .val (.int w), .val (.int h1), .val (.ref (ad 0)), .val (.int (w + (p3 % (2 : Int32)))), .val (.int (h1 + (p4 % (2 : Int32)))), .val (.ref b7), .val (.int (0 : Int32)), .val (.int (1 : Int32)), .val (.int (1 : Int32))] [(.int (1 : Int32))])) t
          refine XS.ifNo X33.here hx rfl (hb hby at_153) rfl ((if0 _ _).trans (feq (by decide : ¬ (1 : Int32) = (0 : Int32))).1) ?_
          show Steps p.tables e below (T33.setTop (mkF m 156 #[.val (.int p1), .val (.int p2), .val (.int p3), .val (.int p4), .val (.int p5), .val (.int w), .val (.int h1), .val (.ref (ad 0)), .val (.int (w + (p3 % (2 : Int32)))), .val (.int (h1 + (p4 % (2 : Int32)))), .val (.ref b7), .val (.int (0 : Int32)), .val (.int (1 : Int32)), .val (.int (1 : Int32))] [])) t
          refine XS.iconst X33.here hx rfl (hb hby at_156) ?_
          show Steps p.tables e below (T33.setTop (mkF m 157 #[.val (.int p1), .val (.int p2), .val (.int p3), .val (.int p4), .val (.int p5), .val (.int w), .val (.int h1), .val (.ref (ad 0)), .val (.int (w + (p3 % (2 : Int32)))), .val (.int (h1 + (p4 % (2 : Int32)))), .val (.ref b7), .val (.int (0 : Int32)), .val (.int (1 : Int32)), .val (.int (1 : Int32))] [(.int (1 : Int32))])) t
          refine XS.goto X33.here hx rfl (pc0 := 157) (pc' := 161) rfl (hb hby at_157) (by decide) (by decide) ?_
          exact k)
      obtain ⟨fs, hr, hrun, hended, hend⟩ := X33.leaveW hS (by rw [e33]; exact hk) (v := some (.int (1 : Int32))) (fun h => by rw [Bd.returns] at h; cases h)
      refine ⟨_, _, ch35 _ ?_, hrun, hended, _, _, rfl, ?_, hend.1, hend.2.1, hend.2.2.1, hend.2.2.2.mono (by decide) (by decide)⟩
      · show Steps p.tables e below (T33.setTop (mkF m 161 #[.val (.int p1), .val (.int p2), .val (.int p3), .val (.int p4), .val (.int p5), .val (.int w), .val (.int h1), .val (.ref (ad 0)), .val (.int (w + (p3 % (2 : Int32)))), .val (.int (h1 + (p4 % (2 : Int32)))), .val (.ref b7), .val (.int (0 : Int32)), .val (.int (1 : Int32)), .val (.int (1 : Int32))] [(.int (1 : Int32))])) _
        exact retN X33 hx (t := .boolean) Bd.returns (by simp) (hb hby at_161) hr
      · show QN (some (.int (1 : Int32))) n0 _ T33.heap _
        rw [e33]
        exact ⟨rfl, N33⟩
  · skip
    obtain ⟨cq36, kq36, qa36, qb36, qc36⟩ := isOf hZ eh16 fq16_0
    obtain ⟨vv37, _, ⟨T37, L37, kk37, nn37⟩, -, X37, ⟨Lc37, hQ37, l37, y37, z37⟩, st37⟩ := X16.virtualBack hx (y := (⟨"com/example/leafwright/leafwright/Thumbnails$Candidate", "covers", "(II)Z"⟩ : MethodName)) (z := (⟨"com/example/leafwright/leafwright/Thumbnails$Candidate", "covers", "(II)Z"⟩ : MethodName)) hown (mvT hZ (hw _ (List.mem_of_getElem? (i := 50) rfl))) (mvT hZ (hw _ (List.mem_of_getElem? (i := 51) rfl))) (notFace_of_selects (args := #[]) (mvT hZ (hw _ (List.mem_of_getElem? (i := 53) rfl)))) (mvT hZ (hw _ (List.mem_of_getElem? (i := 53) rfl))) (mvT hZ (hw _ (List.mem_of_getElem? (i := 52) rfl))) (by decide) (backOf (W := 0) (own_cov_a l Z a0 hw [] hh16 n0 (Nat.le_trans Z0 Kp16.1) b7 w h1 (w + (p3 % (2 : Int32))) (h1 + (p4 % (2 : Int32))) fq16_2 fq16_3 hq18) hZ (hw _ (List.mem_of_getElem? (i := 54) rfl)) (hw _ (List.mem_of_getElem? (i := 10) rfl)) (by decide) (by decide)) qa36 qc36 (g := (mkF m 120 #[.val (.int p1), .val (.int p2), .val (.int p3), .val (.int p4), .val (.int p5), .val (.int w), .val (.int h1), .val (.ref (ad 0)), .val (.int (w + (p3 % (2 : Int32)))), .val (.int (h1 + (p4 % (2 : Int32)))), .val (.ref b7), .val (.int (0 : Int32)), .unset, .unset] [(.int (h1 + (p4 % (2 : Int32)))), (.int (w + (p3 % (2 : Int32)))), (.ref b7)])) rfl (by rw [hml]; rfl) (Steps.refl _) (argsL := [(.int (w + (p3 % (2 : Int32)))), (.int (h1 + (p4 % (2 : Int32))))]) (rest := []) (lenOf own_pd__II_Z rfl) rfl (by show 2 * 0 + _ ≤ _; exact Nat.le_of_eq rfl) (hb hby at_120) (fun _ _ => ⟨rfl, eh16, (by decide : 11 + 0 ≤ _), (by decide : 108 + 0 ≤ _)⟩)
    dsimp only [Pt.U, Pt.locs, Pt.cells, Pt.slots] at X37 l37 y37 z37 st37 hQ37
    subst l37 y37 z37
    obtain ⟨rfl, Nq37, e37⟩ := hQ37
    have N37 := Fr.app N16 Nq37
    have ch38 : ∀ t, Steps p.tables e below (T37.setTop (mkF m 123 #[.val (.int p1), .val (.int p2), .val (.int p3), .val (.int p4), .val (.int p5), .val (.int w), .val (.int h1), .val (.ref (ad 0)), .val (.int (w + (p3 % (2 : Int32)))), .val (.int (h1 + (p4 % (2 : Int32)))), .val (.ref b7), .val (.int (0 : Int32)), .unset, .unset] [(.int (1 : Int32))])) t → Steps p.tables e below (s₁.setTop (entryFrame m #[(.int p1), (.int p2), (.int p3), (.int p4), (.int p5)] maxLocals)) t := fun t k => ch19 t (by
        show Steps p.tables e below (T16.setTop (mkF m 97 #[.val (.int p1), .val (.int p2), .val (.int p3), .val (.int p4), .val (.int p5), .val (.int w), .val (.int h1), .val (.ref (ad 0)), .val (.int (w + (p3 % (2 : Int32)))), .val (.int (h1 + (p4 % (2 : Int32)))), .val (.ref b7), .unset, .unset, .unset] [(.int w), (.int (w + (p3 % (2 : Int32))))])) t
        refine XS.icmpYes X16.here hx rfl (pc0 := 97) (pc' := 111) rfl (hb hby at_97) rfl (flt hq18).2.2.2 (by decide) (by decide) ?_
        show Steps p.tables e below (T16.setTop (mkF m 111 #[.val (.int p1), .val (.int p2), .val (.int p3), .val (.int p4), .val (.int p5), .val (.int w), .val (.int h1), .val (.ref (ad 0)), .val (.int (w + (p3 % (2 : Int32)))), .val (.int (h1 + (p4 % (2 : Int32)))), .val (.ref b7), .unset, .unset, .unset] [])) t
        refine XS.iconst X16.here hx rfl (hb hby at_111) ?_
        show Steps p.tables e below (T16.setTop (mkF m 112 #[.val (.int p1), .val (.int p2), .val (.int p3), .val (.int p4), .val (.int p5), .val (.int w), .val (.int h1), .val (.ref (ad 0)), .val (.int (w + (p3 % (2 : Int32)))), .val (.int (h1 + (p4 % (2 : Int32)))), .val (.ref b7), .unset, .unset, .unset] [(.int (0 : Int32))])) t
        refine XS.istore X16.here hx rfl (hb hby at_112) rfl (l' := #[.val (.int p1), .val (.int p2), .val (.int p3), .val (.int p4), .val (.int p5), .val (.int w), .val (.int h1), .val (.ref (ad 0)), .val (.int (w + (p3 % (2 : Int32)))), .val (.int (h1 + (p4 % (2 : Int32)))), .val (.ref b7), .val (.int (0 : Int32)), .unset, .unset]) rfl ?_
        show Steps p.tables e below (T16.setTop (mkF m 114 #[.val (.int p1), .val (.int p2), .val (.int p3), .val (.int p4), .val (.int p5), .val (.int w), .val (.int h1), .val (.ref (ad 0)), .val (.int (w + (p3 % (2 : Int32)))), .val (.int (h1 + (p4 % (2 : Int32)))), .val (.ref b7), .val (.int (0 : Int32)), .unset, .unset] [])) t
        refine XS.aload X16.here hx rfl (hb hby at_114) rfl rfl ?_
        show Steps p.tables e below (T16.setTop (mkF m 116 #[.val (.int p1), .val (.int p2), .val (.int p3), .val (.int p4), .val (.int p5), .val (.int w), .val (.int h1), .val (.ref (ad 0)), .val (.int (w + (p3 % (2 : Int32)))), .val (.int (h1 + (p4 % (2 : Int32)))), .val (.ref b7), .val (.int (0 : Int32)), .unset, .unset] [(.ref b7)])) t
        refine XS.iload X16.here hx rfl (hb hby at_116) rfl ?_
        show Steps p.tables e below (T16.setTop (mkF m 118 #[.val (.int p1), .val (.int p2), .val (.int p3), .val (.int p4), .val (.int p5), .val (.int w), .val (.int h1), .val (.ref (ad 0)), .val (.int (w + (p3 % (2 : Int32)))), .val (.int (h1 + (p4 % (2 : Int32)))), .val (.ref b7), .val (.int (0 : Int32)), .unset, .unset] [(.int (w + (p3 % (2 : Int32)))), (.ref b7)])) t
        refine XS.iload X16.here hx rfl (hb hby at_118) rfl ?_
        show Steps p.tables e below (T16.setTop (mkF m 120 #[.val (.int p1), .val (.int p2), .val (.int p3), .val (.int p4), .val (.int p5), .val (.int w), .val (.int h1), .val (.ref (ad 0)), .val (.int (w + (p3 % (2 : Int32)))), .val (.int (h1 + (p4 % (2 : Int32)))), .val (.ref b7), .val (.int (0 : Int32)), .unset, .unset] [(.int (h1 + (p4 % (2 : Int32)))), (.int (w + (p3 % (2 : Int32)))), (.ref b7)])) t
        exact st37.trans k)
    obtain ⟨cq39, kq39, qa39, qb39, qc39⟩ := isOf hZ e37 fq16_0
    obtain ⟨vv40, _, ⟨T40, L40, kk40, nn40⟩, -, X40, ⟨Lc40, hQ40, l40, y40, z40⟩, st40⟩ := X37.virtualBack hx (y := (⟨"com/example/leafwright/leafwright/Thumbnails$Candidate", "covers", "(II)Z"⟩ : MethodName)) (z := (⟨"com/example/leafwright/leafwright/Thumbnails$Candidate", "covers", "(II)Z"⟩ : MethodName)) hown (mvT hZ (hw _ (List.mem_of_getElem? (i := 50) rfl))) (mvT hZ (hw _ (List.mem_of_getElem? (i := 51) rfl))) (notFace_of_selects (args := #[]) (mvT hZ (hw _ (List.mem_of_getElem? (i := 53) rfl)))) (mvT hZ (hw _ (List.mem_of_getElem? (i := 53) rfl))) (mvT hZ (hw _ (List.mem_of_getElem? (i := 52) rfl))) (by decide) (backOf (W := 0) (own_cov_a l Z a0 hw [] hh16 n0 (Nat.le_trans Z0 Kp16.1) b7 w h1 w h1 fq16_2 fq16_3 (Int32.lt_irrefl : ¬ w < w)) hZ (hw _ (List.mem_of_getElem? (i := 54) rfl)) (hw _ (List.mem_of_getElem? (i := 10) rfl)) (by decide) (by decide)) qa39 qc39 (g := (mkF m 131 #[.val (.int p1), .val (.int p2), .val (.int p3), .val (.int p4), .val (.int p5), .val (.int w), .val (.int h1), .val (.ref (ad 0)), .val (.int (w + (p3 % (2 : Int32)))), .val (.int (h1 + (p4 % (2 : Int32)))), .val (.ref b7), .val (.int (0 : Int32)), .val (.int (1 : Int32)), .unset] [(.int h1), (.int w), (.ref b7)])) rfl (by rw [hml]; rfl) (Steps.refl _) (argsL := [(.int w), (.int h1)]) (rest := []) (lenOf own_pd__II_Z rfl) rfl (by show 2 * 0 + _ ≤ _; exact Nat.le_of_eq rfl) (hb hby at_131) (fun _ _ => ⟨rfl, e37, (by decide : 11 + 0 ≤ _), (by decide : 108 + 0 ≤ _)⟩)
    dsimp only [Pt.U, Pt.locs, Pt.cells, Pt.slots] at X40 l40 y40 z40 st40 hQ40
    subst l40 y40 z40
    obtain ⟨rfl, Nq40, e40⟩ := hQ40
    have N40 := Fr.app N37 Nq40
    have ch41 : ∀ t, Steps p.tables e below (T40.setTop (mkF m 134 #[.val (.int p1), .val (.int p2), .val (.int p3), .val (.int p4), .val (.int p5), .val (.int w), .val (.int h1), .val (.ref (ad 0)), .val (.int (w + (p3 % (2 : Int32)))), .val (.int (h1 + (p4 % (2 : Int32)))), .val (.ref b7), .val (.int (0 : Int32)), .val (.int (1 : Int32)), .unset] [(.int (1 : Int32))])) t → Steps p.tables e below (s₁.setTop (entryFrame m #[(.int p1), (.int p2), (.int p3), (.int p4), (.int p5)] maxLocals)) t := fun t k => ch38 t (by
        show Steps p.tables e below (T37.setTop (mkF m 123 #[.val (.int p1), .val (.int p2), .val (.int p3), .val (.int p4), .val (.int p5), .val (.int w), .val (.int h1), .val (.ref (ad 0)), .val (.int (w + (p3 % (2 : Int32)))), .val (.int (h1 + (p4 % (2 : Int32)))), .val (.ref b7), .val (.int (0 : Int32)), .unset, .unset] [(.int (1 : Int32))])) t
        refine XS.istore X37.here hx rfl (hb hby at_123) rfl (l' := #[.val (.int p1), .val (.int p2), .val (.int p3), .val (.int p4), .val (.int p5), .val (.int w), .val (.int h1), .val (.ref (ad 0)), .val (.int (w + (p3 % (2 : Int32)))), .val (.int (h1 + (p4 % (2 : Int32)))), .val (.ref b7), .val (.int (0 : Int32)), .val (.int (1 : Int32)), .unset]) rfl ?_
        show Steps p.tables e below (T37.setTop (mkF m 125 #[.val (.int p1), .val (.int p2), .val (.int p3), .val (.int p4), .val (.int p5), .val (.int w), .val (.int h1), .val (.ref (ad 0)), .val (.int (w + (p3 % (2 : Int32)))), .val (.int (h1 + (p4 % (2 : Int32)))), .val (.ref b7), .val (.int (0 : Int32)), .val (.int (1 : Int32)), .unset] [])) t
        refine XS.aload X37.here hx rfl (hb hby at_125) rfl rfl ?_
        show Steps p.tables e below (T37.setTop (mkF m 127 #[.val (.int p1), .val (.int p2), .val (.int p3), .val (.int p4), .val (.int p5), .val (.int w), .val (.int h1), .val (.ref (ad 0)), .val (.int (w + (p3 % (2 : Int32)))), .val (.int (h1 + (p4 % (2 : Int32)))), .val (.ref b7), .val (.int (0 : Int32)), .val (.int (1 : Int32)), .unset] [(.ref b7)])) t
        refine XS.iload X37.here hx rfl (hb hby at_127) rfl ?_
        show Steps p.tables e below (T37.setTop (mkF m 129 #[.val (.int p1), .val (.int p2), .val (.int p3), .val (.int p4), .val (.int p5), .val (.int w), .val (.int h1), .val (.ref (ad 0)), .val (.int (w + (p3 % (2 : Int32)))), .val (.int (h1 + (p4 % (2 : Int32)))), .val (.ref b7), .val (.int (0 : Int32)), .val (.int (1 : Int32)), .unset] [(.int w), (.ref b7)])) t
        refine XS.iload X37.here hx rfl (hb hby at_129) rfl ?_
        show Steps p.tables e below (T37.setTop (mkF m 131 #[.val (.int p1), .val (.int p2), .val (.int p3), .val (.int p4), .val (.int p5), .val (.int w), .val (.int h1), .val (.ref (ad 0)), .val (.int (w + (p3 % (2 : Int32)))), .val (.int (h1 + (p4 % (2 : Int32)))), .val (.ref b7), .val (.int (0 : Int32)), .val (.int (1 : Int32)), .unset] [(.int h1), (.int w), (.ref b7)])) t
        exact st40.trans k)
    have ch42 : ∀ t, Steps p.tables e below (T40.setTop (mkF m 161 #[.val (.int p1), .val (.int p2), .val (.int p3), .val (.int p4), .val (.int p5), .val (.int w), .val (.int h1), .val (.ref (ad 0)), .val (.int (w + (p3 % (2 : Int32)))), .val (.int (h1 + (p4 % (2 : Int32)))), .val (.ref b7), .val (.int (0 : Int32)), .val (.int (1 : Int32)), .val (.int (1 : Int32))] [(.int (1 : Int32))])) t → Steps p.tables e below (s₁.setTop (entryFrame m #[(.int p1), (.int p2), (.int p3), (.int p4), (.int p5)] maxLocals)) t := fun t k => ch41 t (by
        show Steps p.tables e below (T40.setTop (mkF m 134 #[.val (.int p1), .val (.int p2), .val (.int p3), .val (.int p4), .val (.int p5), .val (.int w), .val (.int h1), .val (.ref (ad 0)), .val (.int (w + (p3 % (2 : Int32)))), .val (.int (h1 + (p4 % (2 : Int32)))), .val (.ref b7), .val (.int (0 : Int32)), .val (.int (1 : Int32)), .unset] [(.int (1 : Int32))])) t
        refine XS.istore X40.here hx rfl (hb hby at_134) rfl (l' := #[.val (.int p1), .val (.int p2), .val (.int p3), .val (.int p4), .val (.int p5), .val (.int w), .val (.int h1), .val (.ref (ad 0)), .val (.int (w + (p3 % (2 : Int32)))), .val (.int (h1 + (p4 % (2 : Int32)))), .val (.ref b7), .val (.int (0 : Int32)), .val (.int (1 : Int32)), .val (.int (1 : Int32))]) rfl ?_
        show Steps p.tables e below (T40.setTop (mkF m 136 #[.val (.int p1), .val (.int p2), .val (.int p3), .val (.int p4), .val (.int p5), .val (.int w), .val (.int h1), .val (.ref (ad 0)), .val (.int (w + (p3 % (2 : Int32)))), .val (.int (h1 + (p4 % (2 : Int32)))), .val (.ref b7), .val (.int (0 : Int32)), .val (.int (1 : Int32)), .val (.int (1 : Int32))] [])) t
        refine XS.iload X40.here hx rfl (hb hby at_136) rfl ?_
        show Steps p.tables e below (T40.setTop (mkF m 138 #[.val (.int p1), .val (.int p2), .val (.int p3), .val (.int p4), .val (.int p5), .val (.int w), .val (.int h1), .val (.ref (ad 0)), .val (.int (w + (p3 % (2 : Int32)))), .val (.int (h1 + (p4 % (2 : Int32)))), .val (.ref b7), .val (.int (0 : Int32)), .val (.int (1 : Int32)), .val (.int (1 : Int32))] [(.int (1 : Int32))])) t
        refine XS.iload X40.here hx rfl (hb hby at_138) rfl ?_
        show Steps p.tables e below (T40.setTop (mkF m 140 #[.val (.int p1), .val (.int p2), .val (.int p3), .val (.int p4), .val (.int p5), .val (.int w), .val (.int h1), .val (.ref (ad 0)), .val (.int (w + (p3 % (2 : Int32)))), .val (.int (h1 + (p4 % (2 : Int32)))), .val (.ref b7), .val (.int (0 : Int32)), .val (.int (1 : Int32)), .val (.int (1 : Int32))] [(.int (0 : Int32)), (.int (1 : Int32))])) t
        refine XS.ifNo X40.here hx rfl (hb hby at_140) rfl ((if0 _ _).trans (teq (by decide : (0 : Int32) = (0 : Int32))).2) ?_
        show Steps p.tables e below (T40.setTop (mkF m 143 #[.val (.int p1), .val (.int p2), .val (.int p3), .val (.int p4), .val (.int p5), .val (.int w), .val (.int h1), .val (.ref (ad 0)), .val (.int (w + (p3 % (2 : Int32)))), .val (.int (h1 + (p4 % (2 : Int32)))), .val (.ref b7), .val (.int (0 : Int32)), .val (.int (1 : Int32)), .val (.int (1 : Int32))] [(.int (1 : Int32))])) t
        refine XS.iconst X40.here hx rfl (hb hby at_143) ?_
        show Steps p.tables e below (T40.setTop (mkF m 144 #[.val (.int p1), .val (.int p2), .val (.int p3), .val (.int p4), .val (.int p5), .val (.int w), .val (.int h1), .val (.ref (ad 0)), .val (.int (w + (p3 % (2 : Int32)))), .val (.int (h1 + (p4 % (2 : Int32)))), .val (.ref b7), .val (.int (0 : Int32)), .val (.int (1 : Int32)), .val (.int (1 : Int32))] [(.int (1 : Int32)), (.int (1 : Int32))])) t
        refine XS.goto X40.here hx rfl (pc0 := 144) (pc' := 148) rfl (hb hby at_144) (by decide) (by decide) ?_
        show Steps p.tables e below (T40.setTop (mkF m 148 #[.val (.int p1), .val (.int p2), .val (.int p3), .val (.int p4), .val (.int p5), .val (.int w), .val (.int h1), .val (.ref (ad 0)), .val (.int (w + (p3 % (2 : Int32)))), .val (.int (h1 + (p4 % (2 : Int32)))), .val (.ref b7), .val (.int (0 : Int32)), .val (.int (1 : Int32)), .val (.int (1 : Int32))] [(.int (1 : Int32)), (.int (1 : Int32))])) t
        refine XS.icmpNo X40.here hx rfl (hb hby at_148) rfl (teq (by decide : (1 : Int32) = (1 : Int32))).2 ?_
        show Steps p.tables e below (T40.setTop (mkF m 151 #[.val (.int p1), .val (.int p2), .val (.int p3), .val (.int p4), .val (.int p5), .val (.int w), .val (.int h1), .val (.ref (ad 0)), .val (.int (w + (p3 % (2 : Int32)))), .val (.int (h1 + (p4 % (2 : Int32)))), .val (.ref b7), .val (.int (0 : Int32)), .val (.int (1 : Int32)), .val (.int (1 : Int32))] [])) t
        refine XS.iload X40.here hx rfl (hb hby at_151) rfl ?_
        show Steps p.tables e below (T40.setTop (mkF m 153 #[.val (.int p1), .val (.int p2), .val (.int p3), .val (.int p4), .val (.int p5), .val (.int w), .val (.int h1), .val (.ref (ad 0)), .val (.int (w + (p3 % (2 : Int32)))), .val (.int (h1 + (p4 % (2 : Int32)))), .val (.ref b7), .val (.int (0 : Int32)), .val (.int (1 : Int32)), .val (.int (1 : Int32))] [(.int (1 : Int32))])) t
        refine XS.ifNo X40.here hx rfl (hb hby at_153) rfl ((if0 _ _).trans (feq (by decide : ¬ (1 : Int32) = (0 : Int32))).1) ?_
        show Steps p.tables e below (T40.setTop (mkF m 156 #[.val (.int p1), .val (.int p2), .val (.int p3), .val (.int p4), .val (.int p5), .val (.int w), .val (.int h1), .val (.ref (ad 0)), .val (.int (w + (p3 % (2 : Int32)))), .val (.int (h1 + (p4 % (2 : Int32)))), .val (.ref b7), .val (.int (0 : Int32)), .val (.int (1 : Int32)), .val (.int (1 : Int32))] [])) t
        refine XS.iconst X40.here hx rfl (hb hby at_156) ?_
        show Steps p.tables e below (T40.setTop (mkF m 157 #[.val (.int p1), .val (.int p2), .val (.int p3), .val (.int p4), .val (.int p5), .val (.int w), .val (.int h1), .val (.ref (ad 0)), .val (.int (w + (p3 % (2 : Int32)))), .val (.int (h1 + (p4 % (2 : Int32)))), .val (.ref b7), .val (.int (0 : Int32)), .val (.int (1 : Int32)), .val (.int (1 : Int32))] [(.int (1 : Int32))])) t
        refine XS.goto X40.here hx rfl (pc0 := 157) (pc' := 161) rfl (hb hby at_157) (by decide) (by decide) ?_
        exact k)
    obtain ⟨fs, hr, hrun, hended, hend⟩ := X40.leaveW hS (by rw [e40]; exact hk) (v := some (.int (1 : Int32))) (fun h => by rw [Bd.returns] at h; cases h)
    refine ⟨_, _, ch42 _ ?_, hrun, hended, _, _, rfl, ?_, hend.1, hend.2.1, hend.2.2.1, hend.2.2.2.mono (by decide) (by decide)⟩
    · show Steps p.tables e below (T40.setTop (mkF m 161 #[.val (.int p1), .val (.int p2), .val (.int p3), .val (.int p4), .val (.int p5), .val (.int w), .val (.int h1), .val (.ref (ad 0)), .val (.int (w + (p3 % (2 : Int32)))), .val (.int (h1 + (p4 % (2 : Int32)))), .val (.ref b7), .val (.int (0 : Int32)), .val (.int (1 : Int32)), .val (.int (1 : Int32))] [(.int (1 : Int32))])) _
      exact retN X40 hx (t := .boolean) Bd.returns (by simp) (hb hby at_161) hr
    · show QN (some (.int (1 : Int32))) n0 _ T40.heap _
      rw [e40]
      exact ⟨rfl, N40⟩
theorem own_ef_own_law_100 (m : MethodId) {x0 : Int32} {x1 : Int32} {x2 : Int32} {x3 : Int32} {x4 : Int32} : entryFrame m #[(.int x0), (.int x1), (.int x2), (.int x3), (.int x4)] maxLocals = mkF m 0 #[.val (.int x0), .val (.int x1), .val (.int x2), .val (.int x3), .val (.int x4), .unset, .unset, .unset, .unset, .unset, .unset, .unset, .unset, .unset] [] := by first | (simp [entryFrame, mkF, argsToLocals, Value.category, maxLocals]; done) | rfl
set_option maxRecDepth 65536 in
set_option maxHeartbeats 40000000 in
theorem own_law_100 (l : Launch) (Z : State) (a0 : Array Value) (hw : ∀ d ∈ tables_1, d.before a0 Z = true) (ws : List Jvm.Cond) (h0 : Heap) (n0 : Nat) (Z0 : n0 ≤ h0.size) (p1 p2 p3 p4 p5 w h1 : Int32) (HW : MetFree l (⟨"java/lang/Math", "max", "(II)I"⟩ : MethodName) (head1 (Jvm.Cond.code (⟨"java/lang/Math", "max", "(II)I"⟩ : MethodName) jdk_29_method_65_code 2 (some .int) :: []) ({ frames := 0, cells := 0, slots := 0, locals := 0 } : Room)) (fun a U => a = #[(.int (1 : Int32)), (.int (p1 &&& (2147483647 : Int32)))] ∧ Z.Warmed39 U.vm ∧ U.heap = h0) (fun _ _ _ _ _ => True) (fun _ U o U' => ∃ v L, o = .returned v ∧ QV (some (.int w)) h0 n0 v U'.heap L ∧ FrameEnd U o U' L ({ frames := 0, cells := 0, slots := 0, locals := 0 } : Room).cells ({ frames := 0, cells := 0, slots := 0, locals := 0 } : Room).slots)) (HH : MetFree l (⟨"java/lang/Math", "max", "(II)I"⟩ : MethodName) (head1 (Jvm.Cond.code (⟨"java/lang/Math", "max", "(II)I"⟩ : MethodName) jdk_29_method_65_code 2 (some .int) :: []) ({ frames := 0, cells := 0, slots := 0, locals := 0 } : Room)) (fun a U => a = #[(.int (1 : Int32)), (.int (p2 &&& (2147483647 : Int32)))] ∧ Z.Warmed39 U.vm ∧ U.heap = h0) (fun _ _ _ _ _ => True) (fun _ U o U' => ∃ v L, o = .returned v ∧ QV (some (.int h1)) h0 n0 v U'.heap L ∧ FrameEnd U o U' L ({ frames := 0, cells := 0, slots := 0, locals := 0 } : Room).cells ({ frames := 0, cells := 0, slots := 0, locals := 0 } : Room).slots)) (pw : (0 : Int32) < w) (ph : (0 : Int32) < h1) (s0 : ¬ (p5 &&& (1 : Int32)) = (0 : Int32)) (s1 : (p5 &&& (2 : Int32)) = (0 : Int32)) (s2 : (p5 &&& (4 : Int32)) = (0 : Int32)) (ad : Nat → Addr) (W : OwnWd Z h0 ad) :
    MetFree l x (head1 (Jvm.Cond.code x code maxLocals ret :: ws) room_1) (fun a U => a = #[(.int p1), (.int p2), (.int p3), (.int p4), (.int p5)] ∧ Z.Warmed39 U.vm ∧ U.heap = h0) (fun _ _ _ _ _ => True) (fun _ U o U' => ∃ v L, o = .returned v ∧ QN (some (.int (1 : Int32))) n0 v U'.heap L ∧ ReturnedEndW U o U' L room_1.cells room_1.slots) := by
  refine MetFree.of_bodySF (plainFor_of_name own_pn_com_example_leafwright_leafwright_CandidateCoversPinLaw) hisR ?_
  intro p e s m args below meth c s₁ Bd hml0 hP hK
  obtain ⟨rfl, hZ, hh⟩ := hP
  have hx := Bd.exec
  have hby := Bd.bytes
  have hml : c.maxLocals = 14 := hml0
  have hown : s.vm.findClass "com/example/leafwright/leafwright/CandidateCoversPinLaw" = some m.cls := (findClass_of_methodNamed Bd.named :)
  have hnm := (name_of_methodNamed Bd.named Bd.method).1
  have X0 : Stand p l e room_1 (s.setVm s.vm) m #[(.int p1), (.int p2), (.int p3), (.int p4), (.int p5)] below meth c s₁ [] 0 0 := Stand.of_body Bd
  have hZ : Z.Warmed39 (s.setVm s.vm).vm := hZ
  have hown : (s.setVm s.vm).vm.findClass "com/example/leafwright/leafwright/CandidateCoversPinLaw" = some m.cls := hown
  have hS : s.Since s.vm 0 := (State.WarmedH.refl s).since 0
  have hk : 0 ≤ h0.size := Nat.zero_le _
  have e0 : s₁.heap = h0 := by rw [← hh, Bd.state]; rfl
  have N0 := Fr.nil n0
  have pre0 : ∀ t, Steps p.tables e below (s₁.setTop (mkF m 0 #[.val (.int p1), .val (.int p2), .val (.int p3), .val (.int p4), .val (.int p5), .unset, .unset, .unset, .unset, .unset, .unset, .unset, .unset, .unset] [])) t → Steps p.tables e below (s₁.setTop (entryFrame m #[(.int p1), (.int p2), (.int p3), (.int p4), (.int p5)] maxLocals)) t := fun t k => castTop (own_ef_own_law_100 m) k
  obtain ⟨vv1, _, ⟨T1, L1, kk1, nn1⟩, -, X1, ⟨Lc1, hQ1, l1, y1, z1⟩, st1⟩ := Jvm.LawKit.callS X0 hx (y := (⟨"java/lang/Math", "max", "(II)I"⟩ : MethodName)) hown (mvT hZ (hw _ (List.mem_of_getElem? (i := 1) rfl))) (mvT hZ (hw _ (List.mem_of_getElem? (i := 2) rfl))) (mvT hZ (hw _ (List.mem_of_getElem? (i := 3) rfl))) (mvT hZ (hw _ (List.mem_of_getElem? (i := 4) rfl))) (by decide) (backOf (W := 0) HW hZ (hw _ (List.mem_of_getElem? (i := 4) rfl)) (hw _ (List.mem_of_getElem? (i := 3) rfl)) (by decide) (by decide)) (g := (mkF m 5 #[.val (.int p1), .val (.int p2), .val (.int p3), .val (.int p4), .val (.int p5), .unset, .unset, .unset, .unset, .unset, .unset, .unset, .unset, .unset] [(.int (p1 &&& (2147483647 : Int32))), (.int (1 : Int32))])) rfl (by rw [hml]; rfl) (argsL := [(.int (1 : Int32)), (.int (p1 &&& (2147483647 : Int32)))]) (rest := []) (lenOf own_pd__II_I rfl) rfl (by show 2 * 0 + _ ≤ _; exact Nat.le_of_eq rfl) (hb hby at_5) (fun _ _ => ⟨rfl, e0, (by decide : 0 + 0 ≤ _), (by decide : 0 + 0 ≤ _)⟩)
  dsimp only [Pt.U, Pt.locs, Pt.cells, Pt.slots] at X1 l1 y1 z1 st1 hQ1
  subst l1 y1 z1
  obtain ⟨rfl, Nq1, e1⟩ := hQ1
  have N1 := Fr.app N0 Nq1
  have ch2 : ∀ t, Steps p.tables e below (T1.setTop (mkF m 8 #[.val (.int p1), .val (.int p2), .val (.int p3), .val (.int p4), .val (.int p5), .unset, .unset, .unset, .unset, .unset, .unset, .unset, .unset, .unset] [(.int w)])) t → Steps p.tables e below (s₁.setTop (entryFrame m #[(.int p1), (.int p2), (.int p3), (.int p4), (.int p5)] maxLocals)) t := fun t k => pre0 t (by
      show Steps p.tables e below (s₁.setTop (mkF m 0 #[.val (.int p1), .val (.int p2), .val (.int p3), .val (.int p4), .val (.int p5), .unset, .unset, .unset, .unset, .unset, .unset, .unset, .unset, .unset] [])) t
      refine XS.iconst X0.here hx rfl (hb hby at_0) ?_
      show Steps p.tables e below (s₁.setTop (mkF m 1 #[.val (.int p1), .val (.int p2), .val (.int p3), .val (.int p4), .val (.int p5), .unset, .unset, .unset, .unset, .unset, .unset, .unset, .unset, .unset] [(.int (1 : Int32))])) t
      refine XS.iloadN X0.here hx rfl (hb hby at_1) rfl ?_
      show Steps p.tables e below (s₁.setTop (mkF m 2 #[.val (.int p1), .val (.int p2), .val (.int p3), .val (.int p4), .val (.int p5), .unset, .unset, .unset, .unset, .unset, .unset, .unset, .unset, .unset] [(.int p1), (.int (1 : Int32))])) t
      refine X0.ldcInt hx hown (mvT hZ (hw _ (List.mem_of_getElem? (i := 0) rfl))) (g := (mkF m 2 #[.val (.int p1), .val (.int p2), .val (.int p3), .val (.int p4), .val (.int p5), .unset, .unset, .unset, .unset, .unset, .unset, .unset, .unset, .unset] [(.int p1), (.int (1 : Int32))])) rfl (hb hby at_2) _ ?_
      show Steps p.tables e below (s₁.setTop (mkF m 4 #[.val (.int p1), .val (.int p2), .val (.int p3), .val (.int p4), .val (.int p5), .unset, .unset, .unset, .unset, .unset, .unset, .unset, .unset, .unset] [(.int (2147483647 : Int32)), (.int p1), (.int (1 : Int32))])) t
      refine XS.iand X0.here hx rfl (hb hby at_4) rfl ?_
      show Steps p.tables e below (s₁.setTop (mkF m 5 #[.val (.int p1), .val (.int p2), .val (.int p3), .val (.int p4), .val (.int p5), .unset, .unset, .unset, .unset, .unset, .unset, .unset, .unset, .unset] [(.int (p1 &&& (2147483647 : Int32))), (.int (1 : Int32))])) t
      exact st1 t k)
  obtain ⟨vv3, _, ⟨T3, L3, kk3, nn3⟩, -, X3, ⟨Lc3, hQ3, l3, y3, z3⟩, st3⟩ := Jvm.LawKit.callS X1 hx (y := (⟨"java/lang/Math", "max", "(II)I"⟩ : MethodName)) hown (mvT hZ (hw _ (List.mem_of_getElem? (i := 1) rfl))) (mvT hZ (hw _ (List.mem_of_getElem? (i := 2) rfl))) (mvT hZ (hw _ (List.mem_of_getElem? (i := 3) rfl))) (mvT hZ (hw _ (List.mem_of_getElem? (i := 4) rfl))) (by decide) (backOf (W := 0) HH hZ (hw _ (List.mem_of_getElem? (i := 4) rfl)) (hw _ (List.mem_of_getElem? (i := 3) rfl)) (by decide) (by decide)) (g := (mkF m 15 #[.val (.int p1), .val (.int p2), .val (.int p3), .val (.int p4), .val (.int p5), .val (.int w), .unset, .unset, .unset, .unset, .unset, .unset, .unset, .unset] [(.int (p2 &&& (2147483647 : Int32))), (.int (1 : Int32))])) rfl (by rw [hml]; rfl) (argsL := [(.int (1 : Int32)), (.int (p2 &&& (2147483647 : Int32)))]) (rest := []) (lenOf own_pd__II_I rfl) rfl (by show 2 * 0 + _ ≤ _; exact Nat.le_of_eq rfl) (hb hby at_15) (fun _ _ => ⟨rfl, e1, (by decide : 0 + 0 ≤ _), (by decide : 0 + 0 ≤ _)⟩)
  dsimp only [Pt.U, Pt.locs, Pt.cells, Pt.slots] at X3 l3 y3 z3 st3 hQ3
  subst l3 y3 z3
  obtain ⟨rfl, Nq3, e3⟩ := hQ3
  have N3 := Fr.app N1 Nq3
  have ch4 : ∀ t, Steps p.tables e below (T3.setTop (mkF m 18 #[.val (.int p1), .val (.int p2), .val (.int p3), .val (.int p4), .val (.int p5), .val (.int w), .unset, .unset, .unset, .unset, .unset, .unset, .unset, .unset] [(.int h1)])) t → Steps p.tables e below (s₁.setTop (entryFrame m #[(.int p1), (.int p2), (.int p3), (.int p4), (.int p5)] maxLocals)) t := fun t k => ch2 t (by
      show Steps p.tables e below (T1.setTop (mkF m 8 #[.val (.int p1), .val (.int p2), .val (.int p3), .val (.int p4), .val (.int p5), .unset, .unset, .unset, .unset, .unset, .unset, .unset, .unset, .unset] [(.int w)])) t
      refine XS.istore X1.here hx rfl (hb hby at_8) rfl (l' := #[.val (.int p1), .val (.int p2), .val (.int p3), .val (.int p4), .val (.int p5), .val (.int w), .unset, .unset, .unset, .unset, .unset, .unset, .unset, .unset]) rfl ?_
      show Steps p.tables e below (T1.setTop (mkF m 10 #[.val (.int p1), .val (.int p2), .val (.int p3), .val (.int p4), .val (.int p5), .val (.int w), .unset, .unset, .unset, .unset, .unset, .unset, .unset, .unset] [])) t
      refine XS.iconst X1.here hx rfl (hb hby at_10) ?_
      show Steps p.tables e below (T1.setTop (mkF m 11 #[.val (.int p1), .val (.int p2), .val (.int p3), .val (.int p4), .val (.int p5), .val (.int w), .unset, .unset, .unset, .unset, .unset, .unset, .unset, .unset] [(.int (1 : Int32))])) t
      refine XS.iloadN X1.here hx rfl (hb hby at_11) rfl ?_
      show Steps p.tables e below (T1.setTop (mkF m 12 #[.val (.int p1), .val (.int p2), .val (.int p3), .val (.int p4), .val (.int p5), .val (.int w), .unset, .unset, .unset, .unset, .unset, .unset, .unset, .unset] [(.int p2), (.int (1 : Int32))])) t
      refine X1.ldcInt hx hown (mvT hZ (hw _ (List.mem_of_getElem? (i := 0) rfl))) (g := (mkF m 12 #[.val (.int p1), .val (.int p2), .val (.int p3), .val (.int p4), .val (.int p5), .val (.int w), .unset, .unset, .unset, .unset, .unset, .unset, .unset, .unset] [(.int p2), (.int (1 : Int32))])) rfl (hb hby at_12) _ ?_
      show Steps p.tables e below (T1.setTop (mkF m 14 #[.val (.int p1), .val (.int p2), .val (.int p3), .val (.int p4), .val (.int p5), .val (.int w), .unset, .unset, .unset, .unset, .unset, .unset, .unset, .unset] [(.int (2147483647 : Int32)), (.int p2), (.int (1 : Int32))])) t
      refine XS.iand X1.here hx rfl (hb hby at_14) rfl ?_
      show Steps p.tables e below (T1.setTop (mkF m 15 #[.val (.int p1), .val (.int p2), .val (.int p3), .val (.int p4), .val (.int p5), .val (.int w), .unset, .unset, .unset, .unset, .unset, .unset, .unset, .unset] [(.int (p2 &&& (2147483647 : Int32))), (.int (1 : Int32))])) t
      exact st3 t k)
  obtain ⟨T5, X5, e5, st5⟩ := getS2 X3 hx hZ hown (host := "") (Or.inl (hw _ (List.mem_of_getElem? (i := 55) rfl))) Via.refl e3 (own_S_SIZE W) (g := (mkF m 27 #[.val (.int p1), .val (.int p2), .val (.int p3), .val (.int p4), .val (.int p5), .val (.int w), .val (.int h1), .unset, .unset, .unset, .unset, .unset, .unset, .unset] [])) rfl (hb hby at_27)
  have ch6 : ∀ t, Steps p.tables e below (T5.setTop (mkF m 30 #[.val (.int p1), .val (.int p2), .val (.int p3), .val (.int p4), .val (.int p5), .val (.int w), .val (.int h1), .unset, .unset, .unset, .unset, .unset, .unset, .unset] [(.ref (ad 1))])) t → Steps p.tables e below (s₁.setTop (entryFrame m #[(.int p1), (.int p2), (.int p3), (.int p4), (.int p5)] maxLocals)) t := fun t k => ch4 t (by
      show Steps p.tables e below (T3.setTop (mkF m 18 #[.val (.int p1), .val (.int p2), .val (.int p3), .val (.int p4), .val (.int p5), .val (.int w), .unset, .unset, .unset, .unset, .unset, .unset, .unset, .unset] [(.int h1)])) t
      refine XS.istore X3.here hx rfl (hb hby at_18) rfl (l' := #[.val (.int p1), .val (.int p2), .val (.int p3), .val (.int p4), .val (.int p5), .val (.int w), .val (.int h1), .unset, .unset, .unset, .unset, .unset, .unset, .unset]) rfl ?_
      show Steps p.tables e below (T3.setTop (mkF m 20 #[.val (.int p1), .val (.int p2), .val (.int p3), .val (.int p4), .val (.int p5), .val (.int w), .val (.int h1), .unset, .unset, .unset, .unset, .unset, .unset, .unset] [])) t
      refine XS.iload X3.here hx rfl (hb hby at_20) rfl ?_
      show Steps p.tables e below (T3.setTop (mkF m 22 #[.val (.int p1), .val (.int p2), .val (.int p3), .val (.int p4), .val (.int p5), .val (.int w), .val (.int h1), .unset, .unset, .unset, .unset, .unset, .unset, .unset] [(.int p5)])) t
      refine XS.iconst X3.here hx rfl (hb hby at_22) ?_
      show Steps p.tables e below (T3.setTop (mkF m 23 #[.val (.int p1), .val (.int p2), .val (.int p3), .val (.int p4), .val (.int p5), .val (.int w), .val (.int h1), .unset, .unset, .unset, .unset, .unset, .unset, .unset] [(.int (1 : Int32)), (.int p5)])) t
      refine XS.iand X3.here hx rfl (hb hby at_23) rfl ?_
      show Steps p.tables e below (T3.setTop (mkF m 24 #[.val (.int p1), .val (.int p2), .val (.int p3), .val (.int p4), .val (.int p5), .val (.int w), .val (.int h1), .unset, .unset, .unset, .unset, .unset, .unset, .unset] [(.int (p5 &&& (1 : Int32)))])) t
      refine XS.ifNo X3.here hx rfl (hb hby at_24) rfl ((if0 _ _).trans (feq s0).1) ?_
      show Steps p.tables e below (T3.setTop (mkF m 27 #[.val (.int p1), .val (.int p2), .val (.int p3), .val (.int p4), .val (.int p5), .val (.int w), .val (.int h1), .unset, .unset, .unset, .unset, .unset, .unset, .unset] [])) t
      exact st5 t k)
  obtain ⟨T7, hp7, X7, e7, E7, A7, D7, -, st7⟩ := newO X5 hx hZ hown (hw _ (List.mem_of_getElem? (i := 8) rfl)) (hw _ (List.mem_of_getElem? (i := 9) rfl)) (hw _ (List.mem_of_getElem? (i := 10) rfl)) e5 (g := (mkF m 76 #[.val (.int p1), .val (.int p2), .val (.int p3), .val (.int p4), .val (.int p5), .val (.int w), .val (.int h1), .val (.ref (ad 1)), .val (.int p3), .val (.int p4), .unset, .unset, .unset, .unset] [])) rfl (hb hby at_76) (by decide) (by decide)
  obtain ⟨b7, g7⟩ : ∃ z, z = h0.size := ⟨_, rfl⟩
  rw [← g7] at A7 D7 st7
  have ne_ad0_b7 : (ad 0) ≠ b7 := Nat.ne_of_lt (Nat.lt_of_lt_of_le (own_E_DECLARED W).lt (Nat.le_of_eq g7.symm))
  have ne_ad1_b7 : (ad 1) ≠ b7 := Nat.ne_of_lt (Nat.lt_of_lt_of_le (own_E_SIZE W).lt (Nat.le_of_eq g7.symm))
  have g_b7 : n0 ≤ b7 := Nat.le_trans (Nat.le_trans Z0 (Keep.refl h0 []).1) (Nat.le_of_eq g7.symm)
  have sz_b7 : h0.size ≤ b7 := Nat.le_trans (Keep.refl h0 []).1 (Nat.le_of_eq g7.symm)
  have hk := Nat.le_trans hk E7.1
  have Kp7 := Keep.ext (Keep.refl h0 []) E7
  have F7_43 : Fld Z hp7 b7 "com/example/leafwright/leafwright/Thumbnails$Candidate" "url" "Ljava/lang/String;" .null := D7 (Or.inr (hw _ (List.mem_of_getElem? (i := 43) rfl))) (ty := (.object "java/lang/String")) (by decide)
  have F7_45 : Fld Z hp7 b7 "com/example/leafwright/leafwright/Thumbnails$Candidate" "width" "I" (.int (0 : Int32)) := D7 (Or.inr (hw _ (List.mem_of_getElem? (i := 45) rfl))) (ty := .int) (by decide)
  have F7_47 : Fld Z hp7 b7 "com/example/leafwright/leafwright/Thumbnails$Candidate" "height" "I" (.int (0 : Int32)) := D7 (Or.inr (hw _ (List.mem_of_getElem? (i := 47) rfl))) (ty := .int) (by decide)
  have F7_49 : Fld Z hp7 b7 "com/example/leafwright/leafwright/Thumbnails$Candidate" "source" "Lcom/example/leafwright/leafwright/Thumbnails$Source;" .null := D7 (Or.inr (hw _ (List.mem_of_getElem? (i := 49) rfl))) (ty := (.object "com/example/leafwright/leafwright/Thumbnails$Source")) (by decide)
  have ch8 : ∀ t, Steps p.tables e below (T7.setTop (mkF m 79 #[.val (.int p1), .val (.int p2), .val (.int p3), .val (.int p4), .val (.int p5), .val (.int w), .val (.int h1), .val (.ref (ad 1)), .val (.int p3), .val (.int p4), .unset, .unset, .unset, .unset] [(.ref b7)])) t → Steps p.tables e below (s₁.setTop (entryFrame m #[(.int p1), (.int p2), (.int p3), (.int p4), (.int p5)] maxLocals)) t := fun t k => ch6 t (by
      show Steps p.tables e below (T5.setTop (mkF m 30 #[.val (.int p1), .val (.int p2), .val (.int p3), .val (.int p4), .val (.int p5), .val (.int w), .val (.int h1), .unset, .unset, .unset, .unset, .unset, .unset, .unset] [(.ref (ad 1))])) t
      refine XS.goto X5.here hx rfl (pc0 := 30) (pc' := 36) rfl (hb hby at_30) (by decide) (by decide) ?_
      show Steps p.tables e below (T5.setTop (mkF m 36 #[.val (.int p1), .val (.int p2), .val (.int p3), .val (.int p4), .val (.int p5), .val (.int w), .val (.int h1), .unset, .unset, .unset, .unset, .unset, .unset, .unset] [(.ref (ad 1))])) t
      refine XS.astore X5.here hx rfl (hb hby at_36) rfl rfl (l' := #[.val (.int p1), .val (.int p2), .val (.int p3), .val (.int p4), .val (.int p5), .val (.int w), .val (.int h1), .val (.ref (ad 1)), .unset, .unset, .unset, .unset, .unset, .unset]) rfl ?_
      show Steps p.tables e below (T5.setTop (mkF m 38 #[.val (.int p1), .val (.int p2), .val (.int p3), .val (.int p4), .val (.int p5), .val (.int w), .val (.int h1), .val (.ref (ad 1)), .unset, .unset, .unset, .unset, .unset, .unset] [])) t
      refine XS.iload X5.here hx rfl (hb hby at_38) rfl ?_
      show Steps p.tables e below (T5.setTop (mkF m 40 #[.val (.int p1), .val (.int p2), .val (.int p3), .val (.int p4), .val (.int p5), .val (.int w), .val (.int h1), .val (.ref (ad 1)), .unset, .unset, .unset, .unset, .unset, .unset] [(.int p5)])) t
      refine XS.iconst X5.here hx rfl (hb hby at_40) ?_
      show Steps p.tables e below (T5.setTop (mkF m 41 #[.val (.int p1), .val (.int p2), .val (.int p3), .val (.int p4), .val (.int p5), .val (.int w), .val (.int h1), .val (.ref (ad 1)), .unset, .unset, .unset, .unset, .unset, .unset] [(.int (2 : Int32)), (.int p5)])) t
      refine XS.iand X5.here hx rfl (hb hby at_41) rfl ?_
      show Steps p.tables e below (T5.setTop (mkF m 42 #[.val (.int p1), .val (.int p2), .val (.int p3), .val (.int p4), .val (.int p5), .val (.int w), .val (.int h1), .val (.ref (ad 1)), .unset, .unset, .unset, .unset, .unset, .unset] [(.int (p5 &&& (2 : Int32)))])) t
      refine XS.ifYes X5.here hx rfl (pc0 := 42) (pc' := 54) rfl (hb hby at_42) rfl ((if0 _ _).trans (teq s1).1) (by decide) (by decide) ?_
      show Steps p.tables e below (T5.setTop (mkF m 54 #[.val (.int p1), .val (.int p2), .val (.int p3), .val (.int p4), .val (.int p5), .val (.int w), .val (.int h1), .val (.ref (ad 1)), .unset, .unset, .unset, .unset, .unset, .unset] [])) t
      refine XS.iloadN X5.here hx rfl (hb hby at_54) rfl ?_
      show Steps p.tables e below (T5.setTop (mkF m 55 #[.val (.int p1), .val (.int p2), .val (.int p3), .val (.int p4), .val (.int p5), .val (.int w), .val (.int h1), .val (.ref (ad 1)), .unset, .unset, .unset, .unset, .unset, .unset] [(.int p3)])) t
      refine XS.istore X5.here hx rfl (hb hby at_55) rfl (l' := #[.val (.int p1), .val (.int p2), .val (.int p3), .val (.int p4), .val (.int p5), .val (.int w), .val (.int h1), .val (.ref (ad 1)), .val (.int p3), .unset, .unset, .unset, .unset, .unset]) rfl ?_
      show Steps p.tables e below (T5.setTop (mkF m 57 #[.val (.int p1), .val (.int p2), .val (.int p3), .val (.int p4), .val (.int p5), .val (.int w), .val (.int h1), .val (.ref (ad 1)), .val (.int p3), .unset, .unset, .unset, .unset, .unset] [])) t
      refine XS.iload X5.here hx rfl (hb hby at_57) rfl ?_
      show Steps p.tables e below (T5.setTop (mkF m 59 #[.val (.int p1), .val (.int p2), .val (.int p3), .val (.int p4), .val (.int p5), .val (.int w), .val (.int h1), .val (.ref (ad 1)), .val (.int p3), .unset, .unset, .unset, .unset, .unset] [(.int p5)])) t
      refine XS.iconst X5.here hx rfl (hb hby at_59) ?_
      show Steps p.tables e below (T5.setTop (mkF m 60 #[.val (.int p1), .val (.int p2), .val (.int p3), .val (.int p4), .val (.int p5), .val (.int w), .val (.int h1), .val (.ref (ad 1)), .val (.int p3), .unset, .unset, .unset, .unset, .unset] [(.int (4 : Int32)), (.int p5)])) t
      refine XS.iand X5.here hx rfl (hb hby at_60) rfl ?_
      show Steps p.tables e below (T5.setTop (mkF m 61 #[.val (.int p1), .val (.int p2), .val (.int p3), .val (.int p4), .val (.int p5), .val (.int w), .val (.int h1), .val (.ref (ad 1)), .val (.int p3), .unset, .unset, .unset, .unset, .unset] [(.int (p5 &&& (4 : Int32)))])) t
      refine XS.ifYes X5.here hx rfl (pc0 := 61) (pc' := 73) rfl (hb hby at_61) rfl ((if0 _ _).trans (teq s2).1) (by decide) (by decide) ?_
      show Steps p.tables e below (T5.setTop (mkF m 73 #[.val (.int p1), .val (.int p2), .val (.int p3), .val (.int p4), .val (.int p5), .val (.int w), .val (.int h1), .val (.ref (ad 1)), .val (.int p3), .unset, .unset, .unset, .unset, .unset] [])) t
      refine XS.iloadN X5.here hx rfl (hb hby at_73) rfl ?_
      show Steps p.tables e below (T5.setTop (mkF m 74 #[.val (.int p1), .val (.int p2), .val (.int p3), .val (.int p4), .val (.int p5), .val (.int w), .val (.int h1), .val (.ref (ad 1)), .val (.int p3), .unset, .unset, .unset, .unset, .unset] [(.int p4)])) t
      refine XS.istore X5.here hx rfl (hb hby at_74) rfl (l' := #[.val (.int p1), .val (.int p2), .val (.int p3), .val (.int p4), .val (.int p5), .val (.int w), .val (.int h1), .val (.ref (ad 1)), .val (.int p3), .val (.int p4), .unset, .unset, .unset, .unset]) rfl ?_
      show Steps p.tables e below (T5.setTop (mkF m 76 #[.val (.int p1), .val (.int p2), .val (.int p3), .val (.int p4), .val (.int p5), .val (.int w), .val (.int h1), .val (.ref (ad 1)), .val (.int p3), .val (.int p4), .unset, .unset, .unset, .unset] [])) t
      exact st7 t k)
  obtain ⟨ls9, T9, hp9, ks9, X9, e9, E9, hS, hk, hZ, hown, st9⟩ := ldcS X7 hx hZ hown (hw _ (List.mem_of_getElem? (i := 11) rfl)) (own_wS hw) e7 hS hk (g := (mkF m 80 #[.val (.int p1), .val (.int p2), .val (.int p3), .val (.int p4), .val (.int p5), .val (.int w), .val (.int h1), .val (.ref (ad 1)), .val (.int p3), .val (.int p4), .unset, .unset, .unset, .unset] [(.ref b7), (.ref b7)])) rfl (hb hby at_80) (n := 4) (by decide) (by decide) (by decide) (by decide)
  have Kp9 := Keep.ext Kp7 E9
  have ch10 : ∀ t, Steps p.tables e below (T9.setTop (mkF m 82 #[.val (.int p1), .val (.int p2), .val (.int p3), .val (.int p4), .val (.int p5), .val (.int w), .val (.int h1), .val (.ref (ad 1)), .val (.int p3), .val (.int p4), .unset, .unset, .unset, .unset] [(.ref ls9), (.ref b7), (.ref b7)])) t → Steps p.tables e below (s₁.setTop (entryFrame m #[(.int p1), (.int p2), (.int p3), (.int p4), (.int p5)] maxLocals)) t := fun t k => ch8 t (by
      show Steps p.tables e below (T7.setTop (mkF m 79 #[.val (.int p1), .val (.int p2), .val (.int p3), .val (.int p4), .val (.int p5), .val (.int w), .val (.int h1), .val (.ref (ad 1)), .val (.int p3), .val (.int p4), .unset, .unset, .unset, .unset] [(.ref b7)])) t
      refine XS.dup X7.here hx rfl (hb hby at_79) rfl rfl ?_
      show Steps p.tables e below (T7.setTop (mkF m 80 #[.val (.int p1), .val (.int p2), .val (.int p3), .val (.int p4), .val (.int p5), .val (.int w), .val (.int h1), .val (.ref (ad 1)), .val (.int p3), .val (.int p4), .unset, .unset, .unset, .unset] [(.ref b7), (.ref b7)])) t
      exact st9 t k)
  have cf11 := (A7.ext E9)
  have cf12 := (F7_43.ext E9)
  have cf13 := (F7_45.ext E9)
  have cf14 := (F7_47.ext E9)
  have cf15 := (F7_49.ext E9)
  obtain ⟨vv16, _, ⟨T16, L16, kk16, nn16⟩, -, X16, hS2, hgr, ⟨Lc16, hQ16, l16, y16, z16⟩, st16⟩ := X9.specialBackS hx (y := (⟨"com/example/leafwright/leafwright/Thumbnails$Candidate", "<init>", "(Ljava/lang/String;IILcom/example/leafwright/leafwright/Thumbnails$Source;)V"⟩ : MethodName)) rfl hown (mvT hZ (hw _ (List.mem_of_getElem? (i := 19) rfl))) (mvT hZ (hw _ (List.mem_of_getElem? (i := 20) rfl))) (mvT hZ (hw _ (List.mem_of_getElem? (i := 21) rfl))) (by decide) (backOfS (W := 1) (own_ini l Z a0 hw [] hp9 n0 (Nat.le_trans Z0 Kp9.1) b7 ls9 w h1 (ad 1) cf11 cf12 cf13 cf14 cf15 g_b7 pw ph) hZ (hw _ (List.mem_of_getElem? (i := 21) rfl)) (hw _ (List.mem_of_getElem? (i := 10) rfl)) (by decide) (by decide)) (g := (mkF m 88 #[.val (.int p1), .val (.int p2), .val (.int p3), .val (.int p4), .val (.int p5), .val (.int w), .val (.int h1), .val (.ref (ad 1)), .val (.int p3), .val (.int p4), .unset, .unset, .unset, .unset] [(.ref (ad 1)), (.int h1), (.int w), (.ref ls9), (.ref b7), (.ref b7)])) rfl (by rw [hml]; rfl) (Steps.refl _) (a := b7) (argsL := [(.ref ls9), (.int w), (.int h1), (.ref (ad 1))]) (rest := [(.ref b7)]) (lenOf own_pd__Ljava_lang_String_IILcom_example_leafwright_leafwright_Thumbnails_Source__V rfl) rfl (by show 2 * 0 + _ ≤ _; exact Nat.le_of_eq rfl) (hb hby at_88) (fun _ _ => ⟨rfl, e9, (by decide : 3 + 8 ≤ _), (by decide : 12 + 96 ≤ _)⟩)
  dsimp only [Pt.U, Pt.locs, Pt.cells, Pt.slots] at X16 l16 y16 z16 st16 hQ16 hS2 hgr
  subst l16 y16 z16
  obtain ⟨X16, hS, hZ, hown⟩ := rebS hS (by rw [e9]; exact hk) X16 hS2 hgr hZ hown
  obtain ⟨hh16, eh16⟩ : ∃ h, T16.heap = h := ⟨_, rfl⟩
  rw [eh16] at hQ16
  rw [eh16] at hS
  have hk : hh16.size ≤ hh16.size := Nat.le_refl _
  obtain ⟨rfl, Nq16, Kq16, fq16_0, fq16_1, fq16_2, fq16_3, fq16_4⟩ := hQ16
  have N16 := Fr.app N3 Nq16
  have Kp16 := Keep.trans Kp9 Kq16 (allS (Or.inr sz_b7) all0)
  have ch17 : ∀ t, Steps p.tables e below (T16.setTop (mkF m 91 #[.val (.int p1), .val (.int p2), .val (.int p3), .val (.int p4), .val (.int p5), .val (.int w), .val (.int h1), .val (.ref (ad 1)), .val (.int p3), .val (.int p4), .unset, .unset, .unset, .unset] [(.ref b7)])) t → Steps p.tables e below (s₁.setTop (entryFrame m #[(.int p1), (.int p2), (.int p3), (.int p4), (.int p5)] maxLocals)) t := fun t k => ch10 t (by
      show Steps p.tables e below (T9.setTop (mkF m 82 #[.val (.int p1), .val (.int p2), .val (.int p3), .val (.int p4), .val (.int p5), .val (.int w), .val (.int h1), .val (.ref (ad 1)), .val (.int p3), .val (.int p4), .unset, .unset, .unset, .unset] [(.ref ls9), (.ref b7), (.ref b7)])) t
      refine XS.iload X9.here hx rfl (hb hby at_82) rfl ?_
      show Steps p.tables e below (T9.setTop (mkF m 84 #[.val (.int p1), .val (.int p2), .val (.int p3), .val (.int p4), .val (.int p5), .val (.int w), .val (.int h1), .val (.ref (ad 1)), .val (.int p3), .val (.int p4), .unset, .unset, .unset, .unset] [(.int w), (.ref ls9), (.ref b7), (.ref b7)])) t
      refine XS.iload X9.here hx rfl (hb hby at_84) rfl ?_
      show Steps p.tables e below (T9.setTop (mkF m 86 #[.val (.int p1), .val (.int p2), .val (.int p3), .val (.int p4), .val (.int p5), .val (.int w), .val (.int h1), .val (.ref (ad 1)), .val (.int p3), .val (.int p4), .unset, .unset, .unset, .unset] [(.int h1), (.int w), (.ref ls9), (.ref b7), (.ref b7)])) t
      refine XS.aload X9.here hx rfl (hb hby at_86) rfl rfl ?_
      show Steps p.tables e below (T9.setTop (mkF m 88 #[.val (.int p1), .val (.int p2), .val (.int p3), .val (.int p4), .val (.int p5), .val (.int w), .val (.int h1), .val (.ref (ad 1)), .val (.int p3), .val (.int p4), .unset, .unset, .unset, .unset] [(.ref (ad 1)), (.int h1), (.int w), (.ref ls9), (.ref b7), (.ref b7)])) t
      exact st16.trans k)
  have ch19 : ∀ t, Steps p.tables e below (T16.setTop (mkF m 97 #[.val (.int p1), .val (.int p2), .val (.int p3), .val (.int p4), .val (.int p5), .val (.int w), .val (.int h1), .val (.ref (ad 1)), .val (.int p3), .val (.int p4), .val (.ref b7), .unset, .unset, .unset] [(.int w), (.int p3)])) t → Steps p.tables e below (s₁.setTop (entryFrame m #[(.int p1), (.int p2), (.int p3), (.int p4), (.int p5)] maxLocals)) t := fun t k => ch17 t (by
      show Steps p.tables e below (T16.setTop (mkF m 91 #[.val (.int p1), .val (.int p2), .val (.int p3), .val (.int p4), .val (.int p5), .val (.int w), .val (.int h1), .val (.ref (ad 1)), .val (.int p3), .val (.int p4), .unset, .unset, .unset, .unset] [(.ref b7)])) t
      refine XS.astore X16.here hx rfl (hb hby at_91) rfl rfl (l' := #[.val (.int p1), .val (.int p2), .val (.int p3), .val (.int p4), .val (.int p5), .val (.int w), .val (.int h1), .val (.ref (ad 1)), .val (.int p3), .val (.int p4), .val (.ref b7), .unset, .unset, .unset]) rfl ?_
      show Steps p.tables e below (T16.setTop (mkF m 93 #[.val (.int p1), .val (.int p2), .val (.int p3), .val (.int p4), .val (.int p5), .val (.int w), .val (.int h1), .val (.ref (ad 1)), .val (.int p3), .val (.int p4), .val (.ref b7), .unset, .unset, .unset] [])) t
      refine XS.iload X16.here hx rfl (hb hby at_93) rfl ?_
      show Steps p.tables e below (T16.setTop (mkF m 95 #[.val (.int p1), .val (.int p2), .val (.int p3), .val (.int p4), .val (.int p5), .val (.int w), .val (.int h1), .val (.ref (ad 1)), .val (.int p3), .val (.int p4), .val (.ref b7), .unset, .unset, .unset] [(.int p3)])) t
      refine XS.iload X16.here hx rfl (hb hby at_95) rfl ?_
      exact k)
  by_cases hq18 : w < p3
  · skip
    have ch21 : ∀ t, Steps p.tables e below (T16.setTop (mkF m 104 #[.val (.int p1), .val (.int p2), .val (.int p3), .val (.int p4), .val (.int p5), .val (.int w), .val (.int h1), .val (.ref (ad 1)), .val (.int p3), .val (.int p4), .val (.ref b7), .unset, .unset, .unset] [(.int h1), (.int p4)])) t → Steps p.tables e below (s₁.setTop (entryFrame m #[(.int p1), (.int p2), (.int p3), (.int p4), (.int p5)] maxLocals)) t := fun t k => ch19 t (by
        show Steps p.tables e below (T16.setTop (mkF m 97 #[.val (.int p1), .val (.int p2), .val (.int p3), .val (.int p4), .val (.int p5), .val (.int w), .val (.int h1), .val (.ref (ad 1)), .val (.int p3), .val (.int p4), .val (.ref b7), .unset, .unset, .unset] [(.int w), (.int p3)])) t
        refine XS.icmpNo X16.here hx rfl (hb hby at_97) rfl (tlt hq18).2.2.2 ?_
        show Steps p.tables e below (T16.setTop (mkF m 100 #[.val (.int p1), .val (.int p2), .val (.int p3), .val (.int p4), .val (.int p5), .val (.int w), .val (.int h1), .val (.ref (ad 1)), .val (.int p3), .val (.int p4), .val (.ref b7), .unset, .unset, .unset] [])) t
        refine XS.iload X16.here hx rfl (hb hby at_100) rfl ?_
        show Steps p.tables e below (T16.setTop (mkF m 102 #[.val (.int p1), .val (.int p2), .val (.int p3), .val (.int p4), .val (.int p5), .val (.int w), .val (.int h1), .val (.ref (ad 1)), .val (.int p3), .val (.int p4), .val (.ref b7), .unset, .unset, .unset] [(.int p4)])) t
        refine XS.iload X16.here hx rfl (hb hby at_102) rfl ?_
        exact k)
    by_cases hq20 : h1 < p4
    · skip
      obtain ⟨cq22, kq22, qa22, qb22, qc22⟩ := isOf hZ eh16 fq16_0
      obtain ⟨vv23, _, ⟨T23, L23, kk23, nn23⟩, -, X23, ⟨Lc23, hQ23, l23, y23, z23⟩, st23⟩ := X16.virtualBack hx (y := (⟨"com/example/leafwright/leafwright/Thumbnails$Candidate", "covers", "(II)Z"⟩ : MethodName)) (z := (⟨"com/example/leafwright/leafwright/Thumbnails$Candidate", "covers", "(II)Z"⟩ : MethodName)) hown (mvT hZ (hw _ (List.mem_of_getElem? (i := 50) rfl))) (mvT hZ (hw _ (List.mem_of_getElem? (i := 51) rfl))) (notFace_of_selects (args := #[]) (mvT hZ (hw _ (List.mem_of_getElem? (i := 53) rfl)))) (mvT hZ (hw _ (List.mem_of_getElem? (i := 53) rfl))) (mvT hZ (hw _ (List.mem_of_getElem? (i := 52) rfl))) (by decide) (backOf (W := 0) (own_cov_c l Z a0 hw [] hh16 n0 (Nat.le_trans Z0 Kp16.1) b7 w h1 p3 p4 fq16_2 fq16_3 hq18 hq20) hZ (hw _ (List.mem_of_getElem? (i := 54) rfl)) (hw _ (List.mem_of_getElem? (i := 10) rfl)) (by decide) (by decide)) qa22 qc22 (g := (mkF m 120 #[.val (.int p1), .val (.int p2), .val (.int p3), .val (.int p4), .val (.int p5), .val (.int w), .val (.int h1), .val (.ref (ad 1)), .val (.int p3), .val (.int p4), .val (.ref b7), .val (.int (1 : Int32)), .unset, .unset] [(.int p4), (.int p3), (.ref b7)])) rfl (by rw [hml]; rfl) (Steps.refl _) (argsL := [(.int p3), (.int p4)]) (rest := []) (lenOf own_pd__II_Z rfl) rfl (by show 2 * 0 + _ ≤ _; exact Nat.le_of_eq rfl) (hb hby at_120) (fun _ _ => ⟨rfl, eh16, (by decide : 11 + 0 ≤ _), (by decide : 108 + 0 ≤ _)⟩)
      dsimp only [Pt.U, Pt.locs, Pt.cells, Pt.slots] at X23 l23 y23 z23 st23 hQ23
      subst l23 y23 z23
      obtain ⟨rfl, Nq23, e23⟩ := hQ23
      have N23 := Fr.app N16 Nq23
      have ch24 : ∀ t, Steps p.tables e below (T23.setTop (mkF m 123 #[.val (.int p1), .val (.int p2), .val (.int p3), .val (.int p4), .val (.int p5), .val (.int w), .val (.int h1), .val (.ref (ad 1)), .val (.int p3), .val (.int p4), .val (.ref b7), .val (.int (1 : Int32)), .unset, .unset] [(.int (0 : Int32))])) t → Steps p.tables e below (s₁.setTop (entryFrame m #[(.int p1), (.int p2), (.int p3), (.int p4), (.int p5)] maxLocals)) t := fun t k => ch21 t (by
          show Steps p.tables e below (T16.setTop (mkF m 104 #[.val (.int p1), .val (.int p2), .val (.int p3), .val (.int p4), .val (.int p5), .val (.int w), .val (.int h1), .val (.ref (ad 1)), .val (.int p3), .val (.int p4), .val (.ref b7), .unset, .unset, .unset] [(.int h1), (.int p4)])) t
          refine XS.icmpNo X16.here hx rfl (hb hby at_104) rfl (tlt hq20).2.2.2 ?_
          show Steps p.tables e below (T16.setTop (mkF m 107 #[.val (.int p1), .val (.int p2), .val (.int p3), .val (.int p4), .val (.int p5), .val (.int w), .val (.int h1), .val (.ref (ad 1)), .val (.int p3), .val (.int p4), .val (.ref b7), .unset, .unset, .unset] [])) t
          refine XS.iconst X16.here hx rfl (hb hby at_107) ?_
          show Steps p.tables e below (T16.setTop (mkF m 108 #[.val (.int p1), .val (.int p2), .val (.int p3), .val (.int p4), .val (.int p5), .val (.int w), .val (.int h1), .val (.ref (ad 1)), .val (.int p3), .val (.int p4), .val (.ref b7), .unset, .unset, .unset] [(.int (1 : Int32))])) t
          refine XS.goto X16.here hx rfl (pc0 := 108) (pc' := 112) rfl (hb hby at_108) (by decide) (by decide) ?_
          show Steps p.tables e below (T16.setTop (mkF m 112 #[.val (.int p1), .val (.int p2), .val (.int p3), .val (.int p4), .val (.int p5), .val (.int w), .val (.int h1), .val (.ref (ad 1)), .val (.int p3), .val (.int p4), .val (.ref b7), .unset, .unset, .unset] [(.int (1 : Int32))])) t
          refine XS.istore X16.here hx rfl (hb hby at_112) rfl (l' := #[.val (.int p1), .val (.int p2), .val (.int p3), .val (.int p4), .val (.int p5), .val (.int w), .val (.int h1), .val (.ref (ad 1)), .val (.int p3), .val (.int p4), .val (.ref b7), .val (.int (1 : Int32)), .unset, .unset]) rfl ?_
          show Steps p.tables e below (T16.setTop (mkF m 114 #[.val (.int p1), .val (.int p2), .val (.int p3), .val (.int p4), .val (.int p5), .val (.int w), .val (.int h1), .val (.ref (ad 1)), .val (.int p3), .val (.int p4), .val (.ref b7), .val (.int (1 : Int32)), .unset, .unset] [])) t
          refine XS.aload X16.here hx rfl (hb hby at_114) rfl rfl ?_
          show Steps p.tables e below (T16.setTop (mkF m 116 #[.val (.int p1), .val (.int p2), .val (.int p3), .val (.int p4), .val (.int p5), .val (.int w), .val (.int h1), .val (.ref (ad 1)), .val (.int p3), .val (.int p4), .val (.ref b7), .val (.int (1 : Int32)), .unset, .unset] [(.ref b7)])) t
          refine XS.iload X16.here hx rfl (hb hby at_116) rfl ?_
          show Steps p.tables e below (T16.setTop (mkF m 118 #[.val (.int p1), .val (.int p2), .val (.int p3), .val (.int p4), .val (.int p5), .val (.int w), .val (.int h1), .val (.ref (ad 1)), .val (.int p3), .val (.int p4), .val (.ref b7), .val (.int (1 : Int32)), .unset, .unset] [(.int p3), (.ref b7)])) t
          refine XS.iload X16.here hx rfl (hb hby at_118) rfl ?_
          show Steps p.tables e below (T16.setTop (mkF m 120 #[.val (.int p1), .val (.int p2), .val (.int p3), .val (.int p4), .val (.int p5), .val (.int w), .val (.int h1), .val (.ref (ad 1)), .val (.int p3), .val (.int p4), .val (.ref b7), .val (.int (1 : Int32)), .unset, .unset] [(.int p4), (.int p3), (.ref b7)])) t
          exact st23.trans k)
      obtain ⟨cq25, kq25, qa25, qb25, qc25⟩ := isOf hZ e23 fq16_0
      obtain ⟨vv26, _, ⟨T26, L26, kk26, nn26⟩, -, X26, ⟨Lc26, hQ26, l26, y26, z26⟩, st26⟩ := X23.virtualBack hx (y := (⟨"com/example/leafwright/leafwright/Thumbnails$Candidate", "covers", "(II)Z"⟩ : MethodName)) (z := (⟨"com/example/leafwright/leafwright/Thumbnails$Candidate", "covers", "(II)Z"⟩ : MethodName)) hown (mvT hZ (hw _ (List.mem_of_getElem? (i := 50) rfl))) (mvT hZ (hw _ (List.mem_of_getElem? (i := 51) rfl))) (notFace_of_selects (args := #[]) (mvT hZ (hw _ (List.mem_of_getElem? (i := 53) rfl)))) (mvT hZ (hw _ (List.mem_of_getElem? (i := 53) rfl))) (mvT hZ (hw _ (List.mem_of_getElem? (i := 52) rfl))) (by decide) (backOf (W := 0) (own_cov_a l Z a0 hw [] hh16 n0 (Nat.le_trans Z0 Kp16.1) b7 w h1 w h1 fq16_2 fq16_3 (Int32.lt_irrefl : ¬ w < w)) hZ (hw _ (List.mem_of_getElem? (i := 54) rfl)) (hw _ (List.mem_of_getElem? (i := 10) rfl)) (by decide) (by decide)) qa25 qc25 (g := (mkF m 131 #[.val (.int p1), .val (.int p2), .val (.int p3), .val (.int p4), .val (.int p5), .val (.int w), .val (.int h1), .val (.ref (ad 1)), .val (.int p3), .val (.int p4), .val (.ref b7), .val (.int (1 : Int32)), .val (.int (0 : Int32)), .unset] [(.int h1), (.int w), (.ref b7)])) rfl (by rw [hml]; rfl) (Steps.refl _) (argsL := [(.int w), (.int h1)]) (rest := []) (lenOf own_pd__II_Z rfl) rfl (by show 2 * 0 + _ ≤ _; exact Nat.le_of_eq rfl) (hb hby at_131) (fun _ _ => ⟨rfl, e23, (by decide : 11 + 0 ≤ _), (by decide : 108 + 0 ≤ _)⟩)
      dsimp only [Pt.U, Pt.locs, Pt.cells, Pt.slots] at X26 l26 y26 z26 st26 hQ26
      subst l26 y26 z26
      obtain ⟨rfl, Nq26, e26⟩ := hQ26
      have N26 := Fr.app N23 Nq26
      have ch27 : ∀ t, Steps p.tables e below (T26.setTop (mkF m 134 #[.val (.int p1), .val (.int p2), .val (.int p3), .val (.int p4), .val (.int p5), .val (.int w), .val (.int h1), .val (.ref (ad 1)), .val (.int p3), .val (.int p4), .val (.ref b7), .val (.int (1 : Int32)), .val (.int (0 : Int32)), .unset] [(.int (1 : Int32))])) t → Steps p.tables e below (s₁.setTop (entryFrame m #[(.int p1), (.int p2), (.int p3), (.int p4), (.int p5)] maxLocals)) t := fun t k => ch24 t (by
          show Steps p.tables e below (T23.setTop (mkF m 123 #[.val (.int p1), .val (.int p2), .val (.int p3), .val (.int p4), .val (.int p5), .val (.int w), .val (.int h1), .val (.ref (ad 1)), .val (.int p3), .val (.int p4), .val (.ref b7), .val (.int (1 : Int32)), .unset, .unset] [(.int (0 : Int32))])) t
          refine XS.istore X23.here hx rfl (hb hby at_123) rfl (l' := #[.val (.int p1), .val (.int p2), .val (.int p3), .val (.int p4), .val (.int p5), .val (.int w), .val (.int h1), .val (.ref (ad 1)), .val (.int p3), .val (.int p4), .val (.ref b7), .val (.int (1 : Int32)), .val (.int (0 : Int32)), .unset]) rfl ?_
          show Steps p.tables e below (T23.setTop (mkF m 125 #[.val (.int p1), .val (.int p2), .val (.int p3), .val (.int p4), .val (.int p5), .val (.int w), .val (.int h1), .val (.ref (ad 1)), .val (.int p3), .val (.int p4), .val (.ref b7), .val (.int (1 : Int32)), .val (.int (0 : Int32)), .unset] [])) t
          refine XS.aload X23.here hx rfl (hb hby at_125) rfl rfl ?_
          show Steps p.tables e below (T23.setTop (mkF m 127 #[.val (.int p1), .val (.int p2), .val (.int p3), .val (.int p4), .val (.int p5), .val (.int w), .val (.int h1), .val (.ref (ad 1)), .val (.int p3), .val (.int p4), .val (.ref b7), .val (.int (1 : Int32)), .val (.int (0 : Int32)), .unset] [(.ref b7)])) t
          refine XS.iload X23.here hx rfl (hb hby at_127) rfl ?_
          show Steps p.tables e below (T23.setTop (mkF m 129 #[.val (.int p1), .val (.int p2), .val (.int p3), .val (.int p4), .val (.int p5), .val (.int w), .val (.int h1), .val (.ref (ad 1)), .val (.int p3), .val (.int p4), .val (.ref b7), .val (.int (1 : Int32)), .val (.int (0 : Int32)), .unset] [(.int w), (.ref b7)])) t
          refine XS.iload X23.here hx rfl (hb hby at_129) rfl ?_
          show Steps p.tables e below (T23.setTop (mkF m 131 #[.val (.int p1), .val (.int p2), .val (.int p3), .val (.int p4), .val (.int p5), .val (.int w), .val (.int h1), .val (.ref (ad 1)), .val (.int p3), .val (.int p4), .val (.ref b7), .val (.int (1 : Int32)), .val (.int (0 : Int32)), .unset] [(.int h1), (.int w), (.ref b7)])) t
          exact st26.trans k)
      have ch28 : ∀ t, Steps p.tables e below (T26.setTop (mkF m 161 #[.val (.int p1), .val (.int p2), .val (.int p3), .val (.int p4), .val (.int p5), .val (.int w), .val (.int h1), .val (.ref (ad 1)), .val (.int p3), .val (.int p4), .val (.ref b7), .val (.int (1 : Int32)), .val (.int (0 : Int32)), .val (.int (1 : Int32))] [(.int (1 : Int32))])) t → Steps p.tables e below (s₁.setTop (entryFrame m #[(.int p1), (.int p2), (.int p3), (.int p4), (.int p5)] maxLocals)) t := fun t k => ch27 t (by
          show Steps p.tables e below (T26.setTop (mkF m 134 #[.val (.int p1), .val (.int p2), .val (.int p3), .val (.int p4), .val (.int p5), .val (.int w), .val (.int h1), .val (.ref (ad 1)), .val (.int p3), .val (.int p4), .val (.ref b7), .val (.int (1 : Int32)), .val (.int (0 : Int32)), .unset] [(.int (1 : Int32))])) t
          refine XS.istore X26.here hx rfl (hb hby at_134) rfl (l' := #[.val (.int p1), .val (.int p2), .val (.int p3), .val (.int p4), .val (.int p5), .val (.int w), .val (.int h1), .val (.ref (ad 1)), .val (.int p3), .val (.int p4), .val (.ref b7), .val (.int (1 : Int32)), .val (.int (0 : Int32)), .val (.int (1 : Int32))]) rfl ?_
          show Steps p.tables e below (T26.setTop (mkF m 136 #[.val (.int p1), .val (.int p2), .val (.int p3), .val (.int p4), .val (.int p5), .val (.int w), .val (.int h1), .val (.ref (ad 1)), .val (.int p3), .val (.int p4), .val (.ref b7), .val (.int (1 : Int32)), .val (.int (0 : Int32)), .val (.int (1 : Int32))] [])) t
          refine XS.iload X26.here hx rfl (hb hby at_136) rfl ?_
          show Steps p.tables e below (T26.setTop (mkF m 138 #[.val (.int p1), .val (.int p2), .val (.int p3), .val (.int p4), .val (.int p5), .val (.int w), .val (.int h1), .val (.ref (ad 1)), .val (.int p3), .val (.int p4), .val (.ref b7), .val (.int (1 : Int32)), .val (.int (0 : Int32)), .val (.int (1 : Int32))] [(.int (0 : Int32))])) t
          refine XS.iload X26.here hx rfl (hb hby at_138) rfl ?_
          show Steps p.tables e below (T26.setTop (mkF m 140 #[.val (.int p1), .val (.int p2), .val (.int p3), .val (.int p4), .val (.int p5), .val (.int w), .val (.int h1), .val (.ref (ad 1)), .val (.int p3), .val (.int p4), .val (.ref b7), .val (.int (1 : Int32)), .val (.int (0 : Int32)), .val (.int (1 : Int32))] [(.int (1 : Int32)), (.int (0 : Int32))])) t
          refine XS.ifYes X26.here hx rfl (pc0 := 140) (pc' := 147) rfl (hb hby at_140) rfl ((if0 _ _).trans (feq (by decide : ¬ (1 : Int32) = (0 : Int32))).2) (by decide) (by decide) ?_
          show Steps p.tables e below (T26.setTop (mkF m 147 #[.val (.int p1), .val (.int p2), .val (.int p3), .val (.int p4), .val (.int p5), .val (.int w), .val (.int h1), .val (.ref (ad 1)), .val (.int p3), .val (.int p4), .val (.ref b7), .val (.int (1 : Int32)), .val (.int (0 : Int32)), .val (.int (1 : Int32))] [(.int (0 : Int32))])) t
          refine XS.iconst X26.here hx rfl (hb hby at_147) ?_
          show Steps p.tables e below (T26.setTop (mkF m 148 #[.val (.int p1), .val (.int p2), .val (.int p3), .val (.int p4), .val (.int p5), .val (.int w), .val (.int h1), .val (.ref (ad 1)), .val (.int p3), .val (.int p4), .val (.ref b7), .val (.int (1 : Int32)), .val (.int (0 : Int32)), .val (.int (1 : Int32))] [(.int (0 : Int32)), (.int (0 : Int32))])) t
          refine XS.icmpNo X26.here hx rfl (hb hby at_148) rfl (teq (by decide : (0 : Int32) = (0 : Int32))).2 ?_
          show Steps p.tables e below (T26.setTop (mkF m 151 #[.val (.int p1), .val (.int p2), .val (.int p3), .val (.int p4), .val (.int p5), .val (.int w), .val (.int h1), .val (.ref (ad 1)), .val (.int p3), .val (.int p4), .val (.ref b7), .val (.int (1 : Int32)), .val (.int (0 : Int32)), .val (.int (1 : Int32))] [])) t
          refine XS.iload X26.here hx rfl (hb hby at_151) rfl ?_
          show Steps p.tables e below (T26.setTop (mkF m 153 #[.val (.int p1), .val (.int p2), .val (.int p3), .val (.int p4), .val (.int p5), .val (.int w), .val (.int h1), .val (.ref (ad 1)), .val (.int p3), .val (.int p4), .val (.ref b7), .val (.int (1 : Int32)), .val (.int (0 : Int32)), .val (.int (1 : Int32))] [(.int (1 : Int32))])) t
          refine XS.ifNo X26.here hx rfl (hb hby at_153) rfl ((if0 _ _).trans (feq (by decide : ¬ (1 : Int32) = (0 : Int32))).1) ?_
          show Steps p.tables e below (T26.setTop (mkF m 156 #[.val (.int p1), .val (.int p2), .val (.int p3), .val (.int p4), .val (.int p5), .val (.int w), .val (.int h1), .val (.ref (ad 1)), .val (.int p3), .val (.int p4), .val (.ref b7), .val (.int (1 : Int32)), .val (.int (0 : Int32)), .val (.int (1 : Int32))] [])) t
          refine XS.iconst X26.here hx rfl (hb hby at_156) ?_
          show Steps p.tables e below (T26.setTop (mkF m 157 #[.val (.int p1), .val (.int p2), .val (.int p3), .val (.int p4), .val (.int p5), .val (.int w), .val (.int h1), .val (.ref (ad 1)), .val (.int p3), .val (.int p4), .val (.ref b7), .val (.int (1 : Int32)), .val (.int (0 : Int32)), .val (.int (1 : Int32))] [(.int (1 : Int32))])) t
          refine XS.goto X26.here hx rfl (pc0 := 157) (pc' := 161) rfl (hb hby at_157) (by decide) (by decide) ?_
          exact k)
      obtain ⟨fs, hr, hrun, hended, hend⟩ := X26.leaveW hS (by rw [e26]; exact hk) (v := some (.int (1 : Int32))) (fun h => by rw [Bd.returns] at h; cases h)
      refine ⟨_, _, ch28 _ ?_, hrun, hended, _, _, rfl, ?_, hend.1, hend.2.1, hend.2.2.1, hend.2.2.2.mono (by decide) (by decide)⟩
      · show Steps p.tables e below (T26.setTop (mkF m 161 #[.val (.int p1), .val (.int p2), .val (.int p3), .val (.int p4), .val (.int p5), .val (.int w), .val (.int h1), .val (.ref (ad 1)), .val (.int p3), .val (.int p4), .val (.ref b7), .val (.int (1 : Int32)), .val (.int (0 : Int32)), .val (.int (1 : Int32))] [(.int (1 : Int32))])) _
        exact retN X26 hx (t := .boolean) Bd.returns (by simp) (hb hby at_161) hr
      · show QN (some (.int (1 : Int32))) n0 _ T26.heap _
        rw [e26]
        exact ⟨rfl, N26⟩
    · skip
      obtain ⟨cq29, kq29, qa29, qb29, qc29⟩ := isOf hZ eh16 fq16_0
      obtain ⟨vv30, _, ⟨T30, L30, kk30, nn30⟩, -, X30, ⟨Lc30, hQ30, l30, y30, z30⟩, st30⟩ := X16.virtualBack hx (y := (⟨"com/example/leafwright/leafwright/Thumbnails$Candidate", "covers", "(II)Z"⟩ : MethodName)) (z := (⟨"com/example/leafwright/leafwright/Thumbnails$Candidate", "covers", "(II)Z"⟩ : MethodName)) hown (mvT hZ (hw _ (List.mem_of_getElem? (i := 50) rfl))) (mvT hZ (hw _ (List.mem_of_getElem? (i := 51) rfl))) (notFace_of_selects (args := #[]) (mvT hZ (hw _ (List.mem_of_getElem? (i := 53) rfl)))) (mvT hZ (hw _ (List.mem_of_getElem? (i := 53) rfl))) (mvT hZ (hw _ (List.mem_of_getElem? (i := 52) rfl))) (by decide) (backOf (W := 0) (own_cov_b l Z a0 hw [] hh16 n0 (Nat.le_trans Z0 Kp16.1) b7 w h1 p3 p4 fq16_2 fq16_3 hq18 hq20) hZ (hw _ (List.mem_of_getElem? (i := 54) rfl)) (hw _ (List.mem_of_getElem? (i := 10) rfl)) (by decide) (by decide)) qa29 qc29 (g := (mkF m 120 #[.val (.int p1), .val (.int p2), .val (.int p3), .val (.int p4), .val (.int p5), .val (.int w), .val (.int h1), .val (.ref (ad 1)), .val (.int p3), .val (.int p4), .val (.ref b7), .val (.int (0 : Int32)), .unset, .unset] [(.int p4), (.int p3), (.ref b7)])) rfl (by rw [hml]; rfl) (Steps.refl _) (argsL := [(.int p3), (.int p4)]) (rest := []) (lenOf own_pd__II_Z rfl) rfl (by show 2 * 0 + _ ≤ _; exact Nat.le_of_eq rfl) (hb hby at_120) (fun _ _ => ⟨rfl, eh16, (by decide : 11 + 0 ≤ _), (by decide : 108 + 0 ≤ _)⟩)
      dsimp only [Pt.U, Pt.locs, Pt.cells, Pt.slots] at X30 l30 y30 z30 st30 hQ30
      subst l30 y30 z30
      obtain ⟨rfl, Nq30, e30⟩ := hQ30
      have N30 := Fr.app N16 Nq30
      have ch31 : ∀ t, Steps p.tables e below (T30.setTop (mkF m 123 #[.val (.int p1), .val (.int p2), .val (.int p3), .val (.int p4), .val (.int p5), .val (.int w), .val (.int h1), .val (.ref (ad 1)), .val (.int p3), .val (.int p4), .val (.ref b7), .val (.int (0 : Int32)), .unset, .unset] [(.int (1 : Int32))])) t → Steps p.tables e below (s₁.setTop (entryFrame m #[(.int p1), (.int p2), (.int p3), (.int p4), (.int p5)] maxLocals)) t := fun t k => ch21 t (by
          show Steps p.tables e below (T16.setTop (mkF m 104 #[.val (.int p1), .val (.int p2), .val (.int p3), .val (.int p4), .val (.int p5), .val (.int w), .val (.int h1), .val (.ref (ad 1)), .val (.int p3), .val (.int p4), .val (.ref b7), .unset, .unset, .unset] [(.int h1), (.int p4)])) t
          refine XS.icmpYes X16.here hx rfl (pc0 := 104) (pc' := 111) rfl (hb hby at_104) rfl (flt hq20).2.2.2 (by decide) (by decide) ?_
          show Steps p.tables e below (T16.setTop (mkF m 111 #[.val (.int p1), .val (.int p2), .val (.int p3), .val (.int p4), .val (.int p5), .val (.int w), .val (.int h1), .val (.ref (ad 1)), .val (.int p3), .val (.int p4), .val (.ref b7), .unset, .unset, .unset] [])) t
          refine XS.iconst X16.here hx rfl (hb hby at_111) ?_
          show Steps p.tables e below (T16.setTop (mkF m 112 #[.val (.int p1), .val (.int p2), .val (.int p3), .val (.int p4), .val (.int p5), .val (.int w), .val (.int h1), .val (.ref (ad 1)), .val (.int p3), .val (.int p4), .val (.ref b7), .unset, .unset, .unset] [(.int (0 : Int32))])) t
          refine XS.istore X16.here hx rfl (hb hby at_112) rfl (l' := #[.val (.int p1), .val (.int p2), .val (.int p3), .val (.int p4), .val (.int p5), .val (.int w), .val (.int h1), .val (.ref (ad 1)), .val (.int p3), .val (.int p4), .val (.ref b7), .val (.int (0 : Int32)), .unset, .unset]) rfl ?_
          show Steps p.tables e below (T16.setTop (mkF m 114 #[.val (.int p1), .val (.int p2), .val (.int p3), .val (.int p4), .val (.int p5), .val (.int w), .val (.int h1), .val (.ref (ad 1)), .val (.int p3), .val (.int p4), .val (.ref b7), .val (.int (0 : Int32)), .unset, .unset] [])) t
          refine XS.aload X16.here hx rfl (hb hby at_114) rfl rfl ?_
          show Steps p.tables e below (T16.setTop (mkF m 116 #[.val (.int p1), .val (.int p2), .val (.int p3), .val (.int p4), .val (.int p5), .val (.int w), .val (.int h1), .val (.ref (ad 1)), .val (.int p3), .val (.int p4), .val (.ref b7), .val (.int (0 : Int32)), .unset, .unset] [(.ref b7)])) t
          refine XS.iload X16.here hx rfl (hb hby at_116) rfl ?_
          show Steps p.tables e below (T16.setTop (mkF m 118 #[.val (.int p1), .val (.int p2), .val (.int p3), .val (.int p4), .val (.int p5), .val (.int w), .val (.int h1), .val (.ref (ad 1)), .val (.int p3), .val (.int p4), .val (.ref b7), .val (.int (0 : Int32)), .unset, .unset] [(.int p3), (.ref b7)])) t
          refine XS.iload X16.here hx rfl (hb hby at_118) rfl ?_
          show Steps p.tables e below (T16.setTop (mkF m 120 #[.val (.int p1), .val (.int p2), .val (.int p3), .val (.int p4), .val (.int p5), .val (.int w), .val (.int h1), .val (.ref (ad 1)), .val (.int p3), .val (.int p4), .val (.ref b7), .val (.int (0 : Int32)), .unset, .unset] [(.int p4), (.int p3), (.ref b7)])) t
          exact st30.trans k)
      obtain ⟨cq32, kq32, qa32, qb32, qc32⟩ := isOf hZ e30 fq16_0
      obtain ⟨vv33, _, ⟨T33, L33, kk33, nn33⟩, -, X33, ⟨Lc33, hQ33, l33, y33, z33⟩, st33⟩ := X30.virtualBack hx (y := (⟨"com/example/leafwright/leafwright/Thumbnails$Candidate", "covers", "(II)Z"⟩ : MethodName)) (z := (⟨"com/example/leafwright/leafwright/Thumbnails$Candidate", "covers", "(II)Z"⟩ : MethodName)) hown (mvT hZ (hw _ (List.mem_of_getElem? (i := 50) rfl))) (mvT hZ (hw _ (List.mem_of_getElem? (i := 51) rfl))) (notFace_of_selects (args := #[]) (mvT hZ (hw _ (List.mem_of_getElem? (i := 53) rfl)))) (mvT hZ (hw _ (List.mem_of_getElem? (i := 53) rfl))) (mvT hZ (hw _ (List.mem_of_getElem? (i := 52) rfl))) (by decide) (backOf (W := 0) (own_cov_a l Z a0 hw [] hh16 n0 (Nat.le_trans Z0 Kp16.1) b7 w h1 w h1 fq16_2 fq16_3 (Int32.lt_irrefl : ¬ w < w)) hZ (hw _ (List.mem_of_getElem? (i := 54) rfl)) (hw _ (List.mem_of_getElem? (i := 10) rfl)) (by decide) (by decide)) qa32 qc32 (g := (mkF m 131 #[.val (.int p1), .val (.int p2), .val (.int p3), .val (.int p4), .val (.int p5), .val (.int w), .val (.int h1), .val (.ref (ad 1)), .val (.int p3), .val (.int p4), .val (.ref b7), .val (.int (0 : Int32)), .val (.int (1 : Int32)), .unset] [(.int h1), (.int w), (.ref b7)])) rfl (by rw [hml]; rfl) (Steps.refl _) (argsL := [(.int w), (.int h1)]) (rest := []) (lenOf own_pd__II_Z rfl) rfl (by show 2 * 0 + _ ≤ _; exact Nat.le_of_eq rfl) (hb hby at_131) (fun _ _ => ⟨rfl, e30, (by decide : 11 + 0 ≤ _), (by decide : 108 + 0 ≤ _)⟩)
      dsimp only [Pt.U, Pt.locs, Pt.cells, Pt.slots] at X33 l33 y33 z33 st33 hQ33
      subst l33 y33 z33
      obtain ⟨rfl, Nq33, e33⟩ := hQ33
      have N33 := Fr.app N30 Nq33
      have ch34 : ∀ t, Steps p.tables e below (T33.setTop (mkF m 134 #[.val (.int p1), .val (.int p2), .val (.int p3), .val (.int p4), .val (.int p5), .val (.int w), .val (.int h1), .val (.ref (ad 1)), .val (.int p3), .val (.int p4), .val (.ref b7), .val (.int (0 : Int32)), .val (.int (1 : Int32)), .unset] [(.int (1 : Int32))])) t → Steps p.tables e below (s₁.setTop (entryFrame m #[(.int p1), (.int p2), (.int p3), (.int p4), (.int p5)] maxLocals)) t := fun t k => ch31 t (by
          show Steps p.tables e below (T30.setTop (mkF m 123 #[.val (.int p1), .val (.int p2), .val (.int p3), .val (.int p4), .val (.int p5), .val (.int w), .val (.int h1), .val (.ref (ad 1)), .val (.int p3), .val (.int p4), .val (.ref b7), .val (.int (0 : Int32)), .unset, .unset] [(.int (1 : Int32))])) t
          refine XS.istore X30.here hx rfl (hb hby at_123) rfl (l' := #[.val (.int p1), .val (.int p2), .val (.int p3), .val (.int p4), .val (.int p5), .val (.int w), .val (.int h1), .val (.ref (ad 1)), .val (.int p3), .val (.int p4), .val (.ref b7), .val (.int (0 : Int32)), .val (.int (1 : Int32)), .unset]) rfl ?_
          show Steps p.tables e below (T30.setTop (mkF m 125 #[.val (.int p1), .val (.int p2), .val (.int p3), .val (.int p4), .val (.int p5), .val (.int w), .val (.int h1), .val (.ref (ad 1)), .val (.int p3), .val (.int p4), .val (.ref b7), .val (.int (0 : Int32)), .val (.int (1 : Int32)), .unset] [])) t
          refine XS.aload X30.here hx rfl (hb hby at_125) rfl rfl ?_
          show Steps p.tables e below (T30.setTop (mkF m 127 #[.val (.int p1), .val (.int p2), .val (.int p3), .val (.int p4), .val (.int p5), .val (.int w), .val (.int h1), .val (.ref (ad 1)), .val (.int p3), .val (.int p4), .val (.ref b7), .val (.int (0 : Int32)), .val (.int (1 : Int32)), .unset] [(.ref b7)])) t
          refine XS.iload X30.here hx rfl (hb hby at_127) rfl ?_
          show Steps p.tables e below (T30.setTop (mkF m 129 #[.val (.int p1), .val (.int p2), .val (.int p3), .val (.int p4), .val (.int p5), .val (.int w), .val (.int h1), .val (.ref (ad 1)), .val (.int p3), .val (.int p4), .val (.ref b7), .val (.int (0 : Int32)), .val (.int (1 : Int32)), .unset] [(.int w), (.ref b7)])) t
          refine XS.iload X30.here hx rfl (hb hby at_129) rfl ?_
          show Steps p.tables e below (T30.setTop (mkF m 131 #[.val (.int p1), .val (.int p2), .val (.int p3), .val (.int p4), .val (.int p5), .val (.int w), .val (.int h1), .val (.ref (ad 1)), .val (.int p3), .val (.int p4), .val (.ref b7), .val (.int (0 : Int32)), .val (.int (1 : Int32)), .unset] [(.int h1), (.int w), (.ref b7)])) t
          exact st33.trans k)
      have ch35 : ∀ t, Steps p.tables e below (T33.setTop (mkF m 161 #[.val (.int p1), .val (.int p2), .val (.int p3), .val (.int p4), .val (.int p5), .val (.int w), .val (.int h1), .val (.ref (ad 1)), .val (.int p3), .val (.int p4), .val (.ref b7), .val (.int (0 : Int32)), .val (.int (1 : Int32)), .val (.int (1 : Int32))] [(.int (1 : Int32))])) t → Steps p.tables e below (s₁.setTop (entryFrame m #[(.int p1), (.int p2), (.int p3), (.int p4), (.int p5)] maxLocals)) t := fun t k => ch34 t (by
          show Steps p.tables e below (T33.setTop (mkF m 134 #[.val (.int p1), .val (.int p2), .val (.int p3), .val (.int p4), .val (.int p5), .val (.int w), .val (.int h1), .val (.ref (ad 1)), .val (.int p3), .val (.int p4), .val (.ref b7), .val (.int (0 : Int32)), .val (.int (1 : Int32)), .unset] [(.int (1 : Int32))])) t
          refine XS.istore X33.here hx rfl (hb hby at_134) rfl (l' := #[.val (.int p1), .val (.int p2), .val (.int p3), .val (.int p4), .val (.int p5), .val (.int w), .val (.int h1), .val (.ref (ad 1)), .val (.int p3), .val (.int p4), .val (.ref b7), .val (.int (0 : Int32)), .val (.int (1 : Int32)), .val (.int (1 : Int32))]) rfl ?_
          show Steps p.tables e below (T33.setTop (mkF m 136 #[.val (.int p1), .val (.int p2), .val (.int p3), .val (.int p4), .val (.int p5), .val (.int w), .val (.int h1), .val (.ref (ad 1)), .val (.int p3), .val (.int p4), .val (.ref b7), .val (.int (0 : Int32)), .val (.int (1 : Int32)), .val (.int (1 : Int32))] [])) t
          refine XS.iload X33.here hx rfl (hb hby at_136) rfl ?_
          show Steps p.tables e below (T33.setTop (mkF m 138 #[.val (.int p1), .val (.int p2), .val (.int p3), .val (.int p4), .val (.int p5), .val (.int w), .val (.int h1), .val (.ref (ad 1)), .val (.int p3), .val (.int p4), .val (.ref b7), .val (.int (0 : Int32)), .val (.int (1 : Int32)), .val (.int (1 : Int32))] [(.int (1 : Int32))])) t
          refine XS.iload X33.here hx rfl (hb hby at_138) rfl ?_
          show Steps p.tables e below (T33.setTop (mkF m 140 #[.val (.int p1), .val (.int p2), .val (.int p3), .val (.int p4), .val (.int p5), .val (.int w), .val (.int h1), .val (.ref (ad 1)), .val (.int p3), .val (.int p4), .val (.ref b7), .val (.int (0 : Int32)), .val (.int (1 : Int32)), .val (.int (1 : Int32))] [(.int (0 : Int32)), (.int (1 : Int32))])) t
          refine XS.ifNo X33.here hx rfl (hb hby at_140) rfl ((if0 _ _).trans (teq (by decide : (0 : Int32) = (0 : Int32))).2) ?_
          show Steps p.tables e below (T33.setTop (mkF m 143 #[.val (.int p1), .val (.int p2), .val (.int p3), .val (.int p4), .val (.int p5), .val (.int w), .val (.int h1), .val (.ref (ad 1)), .val (.int p3), .val (.int p4), .val (.ref b7), .val (.int (0 : Int32)), .val (.int (1 : Int32)), .val (.int (1 : Int32))] [(.int (1 : Int32))])) t
          refine XS.iconst X33.here hx rfl (hb hby at_143) ?_
          show Steps p.tables e below (T33.setTop (mkF m 144 #[.val (.int p1), .val (.int p2), .val (.int p3), .val (.int p4), .val (.int p5), .val (.int w), .val (.int h1), .val (.ref (ad 1)), .val (.int p3), .val (.int p4), .val (.ref b7), .val (.int (0 : Int32)), .val (.int (1 : Int32)), .val (.int (1 : Int32))] [(.int (1 : Int32)), (.int (1 : Int32))])) t
          refine XS.goto X33.here hx rfl (pc0 := 144) (pc' := 148) rfl (hb hby at_144) (by decide) (by decide) ?_
          show Steps p.tables e below (T33.setTop (mkF m 148 #[.val (.int p1), .val (.int p2), .val (.int p3), .val (.int p4), .val (.int p5), .val (.int w), .val (.int h1), .val (.ref (ad 1)), .val (.int p3), .val (.int p4), .val (.ref b7), .val (.int (0 : Int32)), .val (.int (1 : Int32)), .val (.int (1 : Int32))] [(.int (1 : Int32)), (.int (1 : Int32))])) t
          refine XS.icmpNo X33.here hx rfl (hb hby at_148) rfl (teq (by decide : (1 : Int32) = (1 : Int32))).2 ?_
          show Steps p.tables e below (T33.setTop (mkF m 151 #[.val (.int p1), .val (.int p2), .val (.int p3), .val (.int p4), .val (.int p5), .val (.int w), .val (.int h1), .val (.ref (ad 1)), .val (.int p3), .val (.int p4), .val (.ref b7), .val (.int (0 : Int32)), .val (.int (1 : Int32)), .val (.int (1 : Int32))] [])) t
          refine XS.iload X33.here hx rfl (hb hby at_151) rfl ?_
          show Steps p.tables e below (T33.setTop (mkF m 153 #[.val (.int p1), .val (.int p2), .val (.int p3), .val (.int p4), .val (.int p5), .val (.int w), .val (.int h1), .val (.ref (ad 1)), .val (.int p3), .val (.int p4), .val (.ref b7), .val (.int (0 : Int32)), .val (.int (1 : Int32)), .val (.int (1 : Int32))] [(.int (1 : Int32))])) t
          refine XS.ifNo X33.here hx rfl (hb hby at_153) rfl ((if0 _ _).trans (feq (by decide : ¬ (1 : Int32) = (0 : Int32))).1) ?_
          show Steps p.tables e below (T33.setTop (mkF m 156 #[.val (.int p1), .val (.int p2), .val (.int p3), .val (.int p4), .val (.int p5), .val (.int w), .val (.int h1), .val (.ref (ad 1)), .val (.int p3), .val (.int p4), .val (.ref b7), .val (.int (0 : Int32)), .val (.int (1 : Int32)), .val (.int (1 : Int32))] [])) t
          refine XS.iconst X33.here hx rfl (hb hby at_156) ?_
          show Steps p.tables e below (T33.setTop (mkF m 157 #[.val (.int p1), .val (.int p2), .val (.int p3), .val (.int p4), .val (.int p5), .val (.int w), .val (.int h1), .val (.ref (ad 1)), .val (.int p3), .val (.int p4), .val (.ref b7), .val (.int (0 : Int32)), .val (.int (1 : Int32)), .val (.int (1 : Int32))] [(.int (1 : Int32))])) t
          refine XS.goto X33.here hx rfl (pc0 := 157) (pc' := 161) rfl (hb hby at_157) (by decide) (by decide) ?_
          exact k)
      obtain ⟨fs, hr, hrun, hended, hend⟩ := X33.leaveW hS (by rw [e33]; exact hk) (v := some (.int (1 : Int32))) (fun h => by rw [Bd.returns] at h; cases h)
      refine ⟨_, _, ch35 _ ?_, hrun, hended, _, _, rfl, ?_, hend.1, hend.2.1, hend.2.2.1, hend.2.2.2.mono (by decide) (by decide)⟩
      · show Steps p.tables e below (T33.setTop (mkF m 161 #[.val (.int p1), .val (.int p2), .val (.int p3), .val (.int p4), .val (.int p5), .val (.int w), .val (.int h1), .val (.ref (ad 1)), .val (.int p3), .val (.int p4), .val (.ref b7), .val (.int (0 : Int32)), .val (.int (1 : Int32)), .val (.int (1 : Int32))] [(.int (1 : Int32))])) _
        exact retN X33 hx (t := .boolean) Bd.returns (by simp) (hb hby at_161) hr
      · show QN (some (.int (1 : Int32))) n0 _ T33.heap _
        rw [e33]
        exact ⟨rfl, N33⟩
  · skip
    obtain ⟨cq36, kq36, qa36, qb36, qc36⟩ := isOf hZ eh16 fq16_0
    obtain ⟨vv37, _, ⟨T37, L37, kk37, nn37⟩, -, X37, ⟨Lc37, hQ37, l37, y37, z37⟩, st37⟩ := X16.virtualBack hx (y := (⟨"com/example/leafwright/leafwright/Thumbnails$Candidate", "covers", "(II)Z"⟩ : MethodName)) (z := (⟨"com/example/leafwright/leafwright/Thumbnails$Candidate", "covers", "(II)Z"⟩ : MethodName)) hown (mvT hZ (hw _ (List.mem_of_getElem? (i := 50) rfl))) (mvT hZ (hw _ (List.mem_of_getElem? (i := 51) rfl))) (notFace_of_selects (args := #[]) (mvT hZ (hw _ (List.mem_of_getElem? (i := 53) rfl)))) (mvT hZ (hw _ (List.mem_of_getElem? (i := 53) rfl))) (mvT hZ (hw _ (List.mem_of_getElem? (i := 52) rfl))) (by decide) (backOf (W := 0) (own_cov_a l Z a0 hw [] hh16 n0 (Nat.le_trans Z0 Kp16.1) b7 w h1 p3 p4 fq16_2 fq16_3 hq18) hZ (hw _ (List.mem_of_getElem? (i := 54) rfl)) (hw _ (List.mem_of_getElem? (i := 10) rfl)) (by decide) (by decide)) qa36 qc36 (g := (mkF m 120 #[.val (.int p1), .val (.int p2), .val (.int p3), .val (.int p4), .val (.int p5), .val (.int w), .val (.int h1), .val (.ref (ad 1)), .val (.int p3), .val (.int p4), .val (.ref b7), .val (.int (0 : Int32)), .unset, .unset] [(.int p4), (.int p3), (.ref b7)])) rfl (by rw [hml]; rfl) (Steps.refl _) (argsL := [(.int p3), (.int p4)]) (rest := []) (lenOf own_pd__II_Z rfl) rfl (by show 2 * 0 + _ ≤ _; exact Nat.le_of_eq rfl) (hb hby at_120) (fun _ _ => ⟨rfl, eh16, (by decide : 11 + 0 ≤ _), (by decide : 108 + 0 ≤ _)⟩)
    dsimp only [Pt.U, Pt.locs, Pt.cells, Pt.slots] at X37 l37 y37 z37 st37 hQ37
    subst l37 y37 z37
    obtain ⟨rfl, Nq37, e37⟩ := hQ37
    have N37 := Fr.app N16 Nq37
    have ch38 : ∀ t, Steps p.tables e below (T37.setTop (mkF m 123 #[.val (.int p1), .val (.int p2), .val (.int p3), .val (.int p4), .val (.int p5), .val (.int w), .val (.int h1), .val (.ref (ad 1)), .val (.int p3), .val (.int p4), .val (.ref b7), .val (.int (0 : Int32)), .unset, .unset] [(.int (1 : Int32))])) t → Steps p.tables e below (s₁.setTop (entryFrame m #[(.int p1), (.int p2), (.int p3), (.int p4), (.int p5)] maxLocals)) t := fun t k => ch19 t (by
        show Steps p.tables e below (T16.setTop (mkF m 97 #[.val (.int p1), .val (.int p2), .val (.int p3), .val (.int p4), .val (.int p5), .val (.int w), .val (.int h1), .val (.ref (ad 1)), .val (.int p3), .val (.int p4), .val (.ref b7), .unset, .unset, .unset] [(.int w), (.int p3)])) t
        refine XS.icmpYes X16.here hx rfl (pc0 := 97) (pc' := 111) rfl (hb hby at_97) rfl (flt hq18).2.2.2 (by decide) (by decide) ?_
        show Steps p.tables e below (T16.setTop (mkF m 111 #[.val (.int p1), .val (.int p2), .val (.int p3), .val (.int p4), .val (.int p5), .val (.int w), .val (.int h1), .val (.ref (ad 1)), .val (.int p3), .val (.int p4), .val (.ref b7), .unset, .unset, .unset] [])) t
        refine XS.iconst X16.here hx rfl (hb hby at_111) ?_
        show Steps p.tables e below (T16.setTop (mkF m 112 #[.val (.int p1), .val (.int p2), .val (.int p3), .val (.int p4), .val (.int p5), .val (.int w), .val (.int h1), .val (.ref (ad 1)), .val (.int p3), .val (.int p4), .val (.ref b7), .unset, .unset, .unset] [(.int (0 : Int32))])) t
        refine XS.istore X16.here hx rfl (hb hby at_112) rfl (l' := #[.val (.int p1), .val (.int p2), .val (.int p3), .val (.int p4), .val (.int p5), .val (.int w), .val (.int h1), .val (.ref (ad 1)), .val (.int p3), .val (.int p4), .val (.ref b7), .val (.int (0 : Int32)), .unset, .unset]) rfl ?_
        show Steps p.tables e below (T16.setTop (mkF m 114 #[.val (.int p1), .val (.int p2), .val (.int p3), .val (.int p4), .val (.int p5), .val (.int w), .val (.int h1), .val (.ref (ad 1)), .val (.int p3), .val (.int p4), .val (.ref b7), .val (.int (0 : Int32)), .unset, .unset] [])) t
        refine XS.aload X16.here hx rfl (hb hby at_114) rfl rfl ?_
        show Steps p.tables e below (T16.setTop (mkF m 116 #[.val (.int p1), .val (.int p2), .val (.int p3), .val (.int p4), .val (.int p5), .val (.int w), .val (.int h1), .val (.ref (ad 1)), .val (.int p3), .val (.int p4), .val (.ref b7), .val (.int (0 : Int32)), .unset, .unset] [(.ref b7)])) t
        refine XS.iload X16.here hx rfl (hb hby at_116) rfl ?_
        show Steps p.tables e below (T16.setTop (mkF m 118 #[.val (.int p1), .val (.int p2), .val (.int p3), .val (.int p4), .val (.int p5), .val (.int w), .val (.int h1), .val (.ref (ad 1)), .val (.int p3), .val (.int p4), .val (.ref b7), .val (.int (0 : Int32)), .unset, .unset] [(.int p3), (.ref b7)])) t
        refine XS.iload X16.here hx rfl (hb hby at_118) rfl ?_
        show Steps p.tables e below (T16.setTop (mkF m 120 #[.val (.int p1), .val (.int p2), .val (.int p3), .val (.int p4), .val (.int p5), .val (.int w), .val (.int h1), .val (.ref (ad 1)), .val (.int p3), .val (.int p4), .val (.ref b7), .val (.int (0 : Int32)), .unset, .unset] [(.int p4), (.int p3), (.ref b7)])) t
        exact st37.trans k)
    obtain ⟨cq39, kq39, qa39, qb39, qc39⟩ := isOf hZ e37 fq16_0
    obtain ⟨vv40, _, ⟨T40, L40, kk40, nn40⟩, -, X40, ⟨Lc40, hQ40, l40, y40, z40⟩, st40⟩ := X37.virtualBack hx (y := (⟨"com/example/leafwright/leafwright/Thumbnails$Candidate", "covers", "(II)Z"⟩ : MethodName)) (z := (⟨"com/example/leafwright/leafwright/Thumbnails$Candidate", "covers", "(II)Z"⟩ : MethodName)) hown (mvT hZ (hw _ (List.mem_of_getElem? (i := 50) rfl))) (mvT hZ (hw _ (List.mem_of_getElem? (i := 51) rfl))) (notFace_of_selects (args := #[]) (mvT hZ (hw _ (List.mem_of_getElem? (i := 53) rfl)))) (mvT hZ (hw _ (List.mem_of_getElem? (i := 53) rfl))) (mvT hZ (hw _ (List.mem_of_getElem? (i := 52) rfl))) (by decide) (backOf (W := 0) (own_cov_a l Z a0 hw [] hh16 n0 (Nat.le_trans Z0 Kp16.1) b7 w h1 w h1 fq16_2 fq16_3 (Int32.lt_irrefl : ¬ w < w)) hZ (hw _ (List.mem_of_getElem? (i := 54) rfl)) (hw _ (List.mem_of_getElem? (i := 10) rfl)) (by decide) (by decide)) qa39 qc39 (g := (mkF m 131 #[.val (.int p1), .val (.int p2), .val (.int p3), .val (.int p4), .val (.int p5), .val (.int w), .val (.int h1), .val (.ref (ad 1)), .val (.int p3), .val (.int p4), .val (.ref b7), .val (.int (0 : Int32)), .val (.int (1 : Int32)), .unset] [(.int h1), (.int w), (.ref b7)])) rfl (by rw [hml]; rfl) (Steps.refl _) (argsL := [(.int w), (.int h1)]) (rest := []) (lenOf own_pd__II_Z rfl) rfl (by show 2 * 0 + _ ≤ _; exact Nat.le_of_eq rfl) (hb hby at_131) (fun _ _ => ⟨rfl, e37, (by decide : 11 + 0 ≤ _), (by decide : 108 + 0 ≤ _)⟩)
    dsimp only [Pt.U, Pt.locs, Pt.cells, Pt.slots] at X40 l40 y40 z40 st40 hQ40
    subst l40 y40 z40
    obtain ⟨rfl, Nq40, e40⟩ := hQ40
    have N40 := Fr.app N37 Nq40
    have ch41 : ∀ t, Steps p.tables e below (T40.setTop (mkF m 134 #[.val (.int p1), .val (.int p2), .val (.int p3), .val (.int p4), .val (.int p5), .val (.int w), .val (.int h1), .val (.ref (ad 1)), .val (.int p3), .val (.int p4), .val (.ref b7), .val (.int (0 : Int32)), .val (.int (1 : Int32)), .unset] [(.int (1 : Int32))])) t → Steps p.tables e below (s₁.setTop (entryFrame m #[(.int p1), (.int p2), (.int p3), (.int p4), (.int p5)] maxLocals)) t := fun t k => ch38 t (by
        show Steps p.tables e below (T37.setTop (mkF m 123 #[.val (.int p1), .val (.int p2), .val (.int p3), .val (.int p4), .val (.int p5), .val (.int w), .val (.int h1), .val (.ref (ad 1)), .val (.int p3), .val (.int p4), .val (.ref b7), .val (.int (0 : Int32)), .unset, .unset] [(.int (1 : Int32))])) t
        refine XS.istore X37.here hx rfl (hb hby at_123) rfl (l' := #[.val (.int p1), .val (.int p2), .val (.int p3), .val (.int p4), .val (.int p5), .val (.int w), .val (.int h1), .val (.ref (ad 1)), .val (.int p3), .val (.int p4), .val (.ref b7), .val (.int (0 : Int32)), .val (.int (1 : Int32)), .unset]) rfl ?_
        show Steps p.tables e below (T37.setTop (mkF m 125 #[.val (.int p1), .val (.int p2), .val (.int p3), .val (.int p4), .val (.int p5), .val (.int w), .val (.int h1), .val (.ref (ad 1)), .val (.int p3), .val (.int p4), .val (.ref b7), .val (.int (0 : Int32)), .val (.int (1 : Int32)), .unset] [])) t
        refine XS.aload X37.here hx rfl (hb hby at_125) rfl rfl ?_
        show Steps p.tables e below (T37.setTop (mkF m 127 #[.val (.int p1), .val (.int p2), .val (.int p3), .val (.int p4), .val (.int p5), .val (.int w), .val (.int h1), .val (.ref (ad 1)), .val (.int p3), .val (.int p4), .val (.ref b7), .val (.int (0 : Int32)), .val (.int (1 : Int32)), .unset] [(.ref b7)])) t
        refine XS.iload X37.here hx rfl (hb hby at_127) rfl ?_
        show Steps p.tables e below (T37.setTop (mkF m 129 #[.val (.int p1), .val (.int p2), .val (.int p3), .val (.int p4), .val (.int p5), .val (.int w), .val (.int h1), .val (.ref (ad 1)), .val (.int p3), .val (.int p4), .val (.ref b7), .val (.int (0 : Int32)), .val (.int (1 : Int32)), .unset] [(.int w), (.ref b7)])) t
        refine XS.iload X37.here hx rfl (hb hby at_129) rfl ?_
        show Steps p.tables e below (T37.setTop (mkF m 131 #[.val (.int p1), .val (.int p2), .val (.int p3), .val (.int p4), .val (.int p5), .val (.int w), .val (.int h1), .val (.ref (ad 1)), .val (.int p3), .val (.int p4), .val (.ref b7), .val (.int (0 : Int32)), .val (.int (1 : Int32)), .unset] [(.int h1), (.int w), (.ref b7)])) t
        exact st40.trans k)
    have ch42 : ∀ t, Steps p.tables e below (T40.setTop (mkF m 161 #[.val (.int p1), .val (.int p2), .val (.int p3), .val (.int p4), .val (.int p5), .val (.int w), .val (.int h1), .val (.ref (ad 1)), .val (.int p3), .val (.int p4), .val (.ref b7), .val (.int (0 : Int32)), .val (.int (1 : Int32)), .val (.int (1 : Int32))] [(.int (1 : Int32))])) t → Steps p.tables e below (s₁.setTop (entryFrame m #[(.int p1), (.int p2), (.int p3), (.int p4), (.int p5)] maxLocals)) t := fun t k => ch41 t (by
        show Steps p.tables e below (T40.setTop (mkF m 134 #[.val (.int p1), .val (.int p2), .val (.int p3), .val (.int p4), .val (.int p5), .val (.int w), .val (.int h1), .val (.ref (ad 1)), .val (.int p3), .val (.int p4), .val (.ref b7), .val (.int (0 : Int32)), .val (.int (1 : Int32)), .unset] [(.int (1 : Int32))])) t
        refine XS.istore X40.here hx rfl (hb hby at_134) rfl (l' := #[.val (.int p1), .val (.int p2), .val (.int p3), .val (.int p4), .val (.int p5), .val (.int w), .val (.int h1), .val (.ref (ad 1)), .val (.int p3), .val (.int p4), .val (.ref b7), .val (.int (0 : Int32)), .val (.int (1 : Int32)), .val (.int (1 : Int32))]) rfl ?_
        show Steps p.tables e below (T40.setTop (mkF m 136 #[.val (.int p1), .val (.int p2), .val (.int p3), .val (.int p4), .val (.int p5), .val (.int w), .val (.int h1), .val (.ref (ad 1)), .val (.int p3), .val (.int p4), .val (.ref b7), .val (.int (0 : Int32)), .val (.int (1 : Int32)), .val (.int (1 : Int32))] [])) t
        refine XS.iload X40.here hx rfl (hb hby at_136) rfl ?_
        show Steps p.tables e below (T40.setTop (mkF m 138 #[.val (.int p1), .val (.int p2), .val (.int p3), .val (.int p4), .val (.int p5), .val (.int w), .val (.int h1), .val (.ref (ad 1)), .val (.int p3), .val (.int p4), .val (.ref b7), .val (.int (0 : Int32)), .val (.int (1 : Int32)), .val (.int (1 : Int32))] [(.int (1 : Int32))])) t
        refine XS.iload X40.here hx rfl (hb hby at_138) rfl ?_
        show Steps p.tables e below (T40.setTop (mkF m 140 #[.val (.int p1), .val (.int p2), .val (.int p3), .val (.int p4), .val (.int p5), .val (.int w), .val (.int h1), .val (.ref (ad 1)), .val (.int p3), .val (.int p4), .val (.ref b7), .val (.int (0 : Int32)), .val (.int (1 : Int32)), .val (.int (1 : Int32))] [(.int (0 : Int32)), (.int (1 : Int32))])) t
        refine XS.ifNo X40.here hx rfl (hb hby at_140) rfl ((if0 _ _).trans (teq (by decide : (0 : Int32) = (0 : Int32))).2) ?_
        show Steps p.tables e below (T40.setTop (mkF m 143 #[.val (.int p1), .val (.int p2), .val (.int p3), .val (.int p4), .val (.int p5), .val (.int w), .val (.int h1), .val (.ref (ad 1)), .val (.int p3), .val (.int p4), .val (.ref b7), .val (.int (0 : Int32)), .val (.int (1 : Int32)), .val (.int (1 : Int32))] [(.int (1 : Int32))])) t
        refine XS.iconst X40.here hx rfl (hb hby at_143) ?_
        show Steps p.tables e below (T40.setTop (mkF m 144 #[.val (.int p1), .val (.int p2), .val (.int p3), .val (.int p4), .val (.int p5), .val (.int w), .val (.int h1), .val (.ref (ad 1)), .val (.int p3), .val (.int p4), .val (.ref b7), .val (.int (0 : Int32)), .val (.int (1 : Int32)), .val (.int (1 : Int32))] [(.int (1 : Int32)), (.int (1 : Int32))])) t
        refine XS.goto X40.here hx rfl (pc0 := 144) (pc' := 148) rfl (hb hby at_144) (by decide) (by decide) ?_
        show Steps p.tables e below (T40.setTop (mkF m 148 #[.val (.int p1), .val (.int p2), .val (.int p3), .val (.int p4), .val (.int p5), .val (.int w), .val (.int h1), .val (.ref (ad 1)), .val (.int p3), .val (.int p4), .val (.ref b7), .val (.int (0 : Int32)), .val (.int (1 : Int32)), .val (.int (1 : Int32))] [(.int (1 : Int32)), (.int (1 : Int32))])) t
        refine XS.icmpNo X40.here hx rfl (hb hby at_148) rfl (teq (by decide : (1 : Int32) = (1 : Int32))).2 ?_
        show Steps p.tables e below (T40.setTop (mkF m 151 #[.val (.int p1), .val (.int p2), .val (.int p3), .val (.int p4), .val (.int p5), .val (.int w), .val (.int h1), .val (.ref (ad 1)), .val (.int p3), .val (.int p4), .val (.ref b7), .val (.int (0 : Int32)), .val (.int (1 : Int32)), .val (.int (1 : Int32))] [])) t
        refine XS.iload X40.here hx rfl (hb hby at_151) rfl ?_
        show Steps p.tables e below (T40.setTop (mkF m 153 #[.val (.int p1), .val (.int p2), .val (.int p3), .val (.int p4), .val (.int p5), .val (.int w), .val (.int h1), .val (.ref (ad 1)), .val (.int p3), .val (.int p4), .val (.ref b7), .val (.int (0 : Int32)), .val (.int (1 : Int32)), .val (.int (1 : Int32))] [(.int (1 : Int32))])) t
        refine XS.ifNo X40.here hx rfl (hb hby at_153) rfl ((if0 _ _).trans (feq (by decide : ¬ (1 : Int32) = (0 : Int32))).1) ?_
        show Steps p.tables e below (T40.setTop (mkF m 156 #[.val (.int p1), .val (.int p2), .val (.int p3), .val (.int p4), .val (.int p5), .val (.int w), .val (.int h1), .val (.ref (ad 1)), .val (.int p3), .val (.int p4), .val (.ref b7), .val (.int (0 : Int32)), .val (.int (1 : Int32)), .val (.int (1 : Int32))] [])) t
        refine XS.iconst X40.here hx rfl (hb hby at_156) ?_
        show Steps p.tables e below (T40.setTop (mkF m 157 #[.val (.int p1), .val (.int p2), .val (.int p3), .val (.int p4), .val (.int p5), .val (.int w), .val (.int h1), .val (.ref (ad 1)), .val (.int p3), .val (.int p4), .val (.ref b7), .val (.int (0 : Int32)), .val (.int (1 : Int32)), .val (.int (1 : Int32))] [(.int (1 : Int32))])) t
        refine XS.goto X40.here hx rfl (pc0 := 157) (pc' := 161) rfl (hb hby at_157) (by decide) (by decide) ?_
        exact k)
    obtain ⟨fs, hr, hrun, hended, hend⟩ := X40.leaveW hS (by rw [e40]; exact hk) (v := some (.int (1 : Int32))) (fun h => by rw [Bd.returns] at h; cases h)
    refine ⟨_, _, ch42 _ ?_, hrun, hended, _, _, rfl, ?_, hend.1, hend.2.1, hend.2.2.1, hend.2.2.2.mono (by decide) (by decide)⟩
    · show Steps p.tables e below (T40.setTop (mkF m 161 #[.val (.int p1), .val (.int p2), .val (.int p3), .val (.int p4), .val (.int p5), .val (.int w), .val (.int h1), .val (.ref (ad 1)), .val (.int p3), .val (.int p4), .val (.ref b7), .val (.int (0 : Int32)), .val (.int (1 : Int32)), .val (.int (1 : Int32))] [(.int (1 : Int32))])) _
      exact retN X40 hx (t := .boolean) Bd.returns (by simp) (hb hby at_161) hr
    · show QN (some (.int (1 : Int32))) n0 _ T40.heap _
      rw [e40]
      exact ⟨rfl, N40⟩
theorem own_ef_own_law_101 (m : MethodId) {x0 : Int32} {x1 : Int32} {x2 : Int32} {x3 : Int32} {x4 : Int32} : entryFrame m #[(.int x0), (.int x1), (.int x2), (.int x3), (.int x4)] maxLocals = mkF m 0 #[.val (.int x0), .val (.int x1), .val (.int x2), .val (.int x3), .val (.int x4), .unset, .unset, .unset, .unset, .unset, .unset, .unset, .unset, .unset] [] := by first | (simp [entryFrame, mkF, argsToLocals, Value.category, maxLocals]; done) | rfl
set_option maxRecDepth 65536 in
set_option maxHeartbeats 40000000 in
theorem own_law_101 (l : Launch) (Z : State) (a0 : Array Value) (hw : ∀ d ∈ tables_1, d.before a0 Z = true) (ws : List Jvm.Cond) (h0 : Heap) (n0 : Nat) (Z0 : n0 ≤ h0.size) (p1 p2 p3 p4 p5 w h1 : Int32) (HW : MetFree l (⟨"java/lang/Math", "max", "(II)I"⟩ : MethodName) (head1 (Jvm.Cond.code (⟨"java/lang/Math", "max", "(II)I"⟩ : MethodName) jdk_29_method_65_code 2 (some .int) :: []) ({ frames := 0, cells := 0, slots := 0, locals := 0 } : Room)) (fun a U => a = #[(.int (1 : Int32)), (.int (p1 &&& (2147483647 : Int32)))] ∧ Z.Warmed39 U.vm ∧ U.heap = h0) (fun _ _ _ _ _ => True) (fun _ U o U' => ∃ v L, o = .returned v ∧ QV (some (.int w)) h0 n0 v U'.heap L ∧ FrameEnd U o U' L ({ frames := 0, cells := 0, slots := 0, locals := 0 } : Room).cells ({ frames := 0, cells := 0, slots := 0, locals := 0 } : Room).slots)) (HH : MetFree l (⟨"java/lang/Math", "max", "(II)I"⟩ : MethodName) (head1 (Jvm.Cond.code (⟨"java/lang/Math", "max", "(II)I"⟩ : MethodName) jdk_29_method_65_code 2 (some .int) :: []) ({ frames := 0, cells := 0, slots := 0, locals := 0 } : Room)) (fun a U => a = #[(.int (1 : Int32)), (.int (p2 &&& (2147483647 : Int32)))] ∧ Z.Warmed39 U.vm ∧ U.heap = h0) (fun _ _ _ _ _ => True) (fun _ U o U' => ∃ v L, o = .returned v ∧ QV (some (.int h1)) h0 n0 v U'.heap L ∧ FrameEnd U o U' L ({ frames := 0, cells := 0, slots := 0, locals := 0 } : Room).cells ({ frames := 0, cells := 0, slots := 0, locals := 0 } : Room).slots)) (pw : (0 : Int32) < w) (ph : (0 : Int32) < h1) (s0 : ¬ (p5 &&& (1 : Int32)) = (0 : Int32)) (s1 : (p5 &&& (2 : Int32)) = (0 : Int32)) (s2 : ¬ (p5 &&& (4 : Int32)) = (0 : Int32)) (ad : Nat → Addr) (W : OwnWd Z h0 ad) :
    MetFree l x (head1 (Jvm.Cond.code x code maxLocals ret :: ws) room_1) (fun a U => a = #[(.int p1), (.int p2), (.int p3), (.int p4), (.int p5)] ∧ Z.Warmed39 U.vm ∧ U.heap = h0) (fun _ _ _ _ _ => True) (fun _ U o U' => ∃ v L, o = .returned v ∧ QN (some (.int (1 : Int32))) n0 v U'.heap L ∧ ReturnedEndW U o U' L room_1.cells room_1.slots) := by
  refine MetFree.of_bodySF (plainFor_of_name own_pn_com_example_leafwright_leafwright_CandidateCoversPinLaw) hisR ?_
  intro p e s m args below meth c s₁ Bd hml0 hP hK
  obtain ⟨rfl, hZ, hh⟩ := hP
  have hx := Bd.exec
  have hby := Bd.bytes
  have hml : c.maxLocals = 14 := hml0
  have hown : s.vm.findClass "com/example/leafwright/leafwright/CandidateCoversPinLaw" = some m.cls := (findClass_of_methodNamed Bd.named :)
  have hnm := (name_of_methodNamed Bd.named Bd.method).1
  have X0 : Stand p l e room_1 (s.setVm s.vm) m #[(.int p1), (.int p2), (.int p3), (.int p4), (.int p5)] below meth c s₁ [] 0 0 := Stand.of_body Bd
  have hZ : Z.Warmed39 (s.setVm s.vm).vm := hZ
  have hown : (s.setVm s.vm).vm.findClass "com/example/leafwright/leafwright/CandidateCoversPinLaw" = some m.cls := hown
  have hS : s.Since s.vm 0 := (State.WarmedH.refl s).since 0
  have hk : 0 ≤ h0.size := Nat.zero_le _
  have e0 : s₁.heap = h0 := by rw [← hh, Bd.state]; rfl
  have N0 := Fr.nil n0
  have pre0 : ∀ t, Steps p.tables e below (s₁.setTop (mkF m 0 #[.val (.int p1), .val (.int p2), .val (.int p3), .val (.int p4), .val (.int p5), .unset, .unset, .unset, .unset, .unset, .unset, .unset, .unset, .unset] [])) t → Steps p.tables e below (s₁.setTop (entryFrame m #[(.int p1), (.int p2), (.int p3), (.int p4), (.int p5)] maxLocals)) t := fun t k => castTop (own_ef_own_law_101 m) k
  obtain ⟨vv1, _, ⟨T1, L1, kk1, nn1⟩, -, X1, ⟨Lc1, hQ1, l1, y1, z1⟩, st1⟩ := Jvm.LawKit.callS X0 hx (y := (⟨"java/lang/Math", "max", "(II)I"⟩ : MethodName)) hown (mvT hZ (hw _ (List.mem_of_getElem? (i := 1) rfl))) (mvT hZ (hw _ (List.mem_of_getElem? (i := 2) rfl))) (mvT hZ (hw _ (List.mem_of_getElem? (i := 3) rfl))) (mvT hZ (hw _ (List.mem_of_getElem? (i := 4) rfl))) (by decide) (backOf (W := 0) HW hZ (hw _ (List.mem_of_getElem? (i := 4) rfl)) (hw _ (List.mem_of_getElem? (i := 3) rfl)) (by decide) (by decide)) (g := (mkF m 5 #[.val (.int p1), .val (.int p2), .val (.int p3), .val (.int p4), .val (.int p5), .unset, .unset, .unset, .unset, .unset, .unset, .unset, .unset, .unset] [(.int (p1 &&& (2147483647 : Int32))), (.int (1 : Int32))])) rfl (by rw [hml]; rfl) (argsL := [(.int (1 : Int32)), (.int (p1 &&& (2147483647 : Int32)))]) (rest := []) (lenOf own_pd__II_I rfl) rfl (by show 2 * 0 + _ ≤ _; exact Nat.le_of_eq rfl) (hb hby at_5) (fun _ _ => ⟨rfl, e0, (by decide : 0 + 0 ≤ _), (by decide : 0 + 0 ≤ _)⟩)
  dsimp only [Pt.U, Pt.locs, Pt.cells, Pt.slots] at X1 l1 y1 z1 st1 hQ1
  subst l1 y1 z1
  obtain ⟨rfl, Nq1, e1⟩ := hQ1
  have N1 := Fr.app N0 Nq1
  have ch2 : ∀ t, Steps p.tables e below (T1.setTop (mkF m 8 #[.val (.int p1), .val (.int p2), .val (.int p3), .val (.int p4), .val (.int p5), .unset, .unset, .unset, .unset, .unset, .unset, .unset, .unset, .unset] [(.int w)])) t → Steps p.tables e below (s₁.setTop (entryFrame m #[(.int p1), (.int p2), (.int p3), (.int p4), (.int p5)] maxLocals)) t := fun t k => pre0 t (by
      show Steps p.tables e below (s₁.setTop (mkF m 0 #[.val (.int p1), .val (.int p2), .val (.int p3), .val (.int p4), .val (.int p5), .unset, .unset, .unset, .unset, .unset, .unset, .unset, .unset, .unset] [])) t
      refine XS.iconst X0.here hx rfl (hb hby at_0) ?_
      show Steps p.tables e below (s₁.setTop (mkF m 1 #[.val (.int p1), .val (.int p2), .val (.int p3), .val (.int p4), .val (.int p5), .unset, .unset, .unset, .unset, .unset, .unset, .unset, .unset, .unset] [(.int (1 : Int32))])) t
      refine XS.iloadN X0.here hx rfl (hb hby at_1) rfl ?_
      show Steps p.tables e below (s₁.setTop (mkF m 2 #[.val (.int p1), .val (.int p2), .val (.int p3), .val (.int p4), .val (.int p5), .unset, .unset, .unset, .unset, .unset, .unset, .unset, .unset, .unset] [(.int p1), (.int (1 : Int32))])) t
      refine X0.ldcInt hx hown (mvT hZ (hw _ (List.mem_of_getElem? (i := 0) rfl))) (g := (mkF m 2 #[.val (.int p1), .val (.int p2), .val (.int p3), .val (.int p4), .val (.int p5), .unset, .unset, .unset, .unset, .unset, .unset, .unset, .unset, .unset] [(.int p1), (.int (1 : Int32))])) rfl (hb hby at_2) _ ?_
      show Steps p.tables e below (s₁.setTop (mkF m 4 #[.val (.int p1), .val (.int p2), .val (.int p3), .val (.int p4), .val (.int p5), .unset, .unset, .unset, .unset, .unset, .unset, .unset, .unset, .unset] [(.int (2147483647 : Int32)), (.int p1), (.int (1 : Int32))])) t
      refine XS.iand X0.here hx rfl (hb hby at_4) rfl ?_
      show Steps p.tables e below (s₁.setTop (mkF m 5 #[.val (.int p1), .val (.int p2), .val (.int p3), .val (.int p4), .val (.int p5), .unset, .unset, .unset, .unset, .unset, .unset, .unset, .unset, .unset] [(.int (p1 &&& (2147483647 : Int32))), (.int (1 : Int32))])) t
      exact st1 t k)
  obtain ⟨vv3, _, ⟨T3, L3, kk3, nn3⟩, -, X3, ⟨Lc3, hQ3, l3, y3, z3⟩, st3⟩ := Jvm.LawKit.callS X1 hx (y := (⟨"java/lang/Math", "max", "(II)I"⟩ : MethodName)) hown (mvT hZ (hw _ (List.mem_of_getElem? (i := 1) rfl))) (mvT hZ (hw _ (List.mem_of_getElem? (i := 2) rfl))) (mvT hZ (hw _ (List.mem_of_getElem? (i := 3) rfl))) (mvT hZ (hw _ (List.mem_of_getElem? (i := 4) rfl))) (by decide) (backOf (W := 0) HH hZ (hw _ (List.mem_of_getElem? (i := 4) rfl)) (hw _ (List.mem_of_getElem? (i := 3) rfl)) (by decide) (by decide)) (g := (mkF m 15 #[.val (.int p1), .val (.int p2), .val (.int p3), .val (.int p4), .val (.int p5), .val (.int w), .unset, .unset, .unset, .unset, .unset, .unset, .unset, .unset] [(.int (p2 &&& (2147483647 : Int32))), (.int (1 : Int32))])) rfl (by rw [hml]; rfl) (argsL := [(.int (1 : Int32)), (.int (p2 &&& (2147483647 : Int32)))]) (rest := []) (lenOf own_pd__II_I rfl) rfl (by show 2 * 0 + _ ≤ _; exact Nat.le_of_eq rfl) (hb hby at_15) (fun _ _ => ⟨rfl, e1, (by decide : 0 + 0 ≤ _), (by decide : 0 + 0 ≤ _)⟩)
  dsimp only [Pt.U, Pt.locs, Pt.cells, Pt.slots] at X3 l3 y3 z3 st3 hQ3
  subst l3 y3 z3
  obtain ⟨rfl, Nq3, e3⟩ := hQ3
  have N3 := Fr.app N1 Nq3
  have ch4 : ∀ t, Steps p.tables e below (T3.setTop (mkF m 18 #[.val (.int p1), .val (.int p2), .val (.int p3), .val (.int p4), .val (.int p5), .val (.int w), .unset, .unset, .unset, .unset, .unset, .unset, .unset, .unset] [(.int h1)])) t → Steps p.tables e below (s₁.setTop (entryFrame m #[(.int p1), (.int p2), (.int p3), (.int p4), (.int p5)] maxLocals)) t := fun t k => ch2 t (by
      show Steps p.tables e below (T1.setTop (mkF m 8 #[.val (.int p1), .val (.int p2), .val (.int p3), .val (.int p4), .val (.int p5), .unset, .unset, .unset, .unset, .unset, .unset, .unset, .unset, .unset] [(.int w)])) t
      refine XS.istore X1.here hx rfl (hb hby at_8) rfl (l' := #[.val (.int p1), .val (.int p2), .val (.int p3), .val (.int p4), .val (.int p5), .val (.int w), .unset, .unset, .unset, .unset, .unset, .unset, .unset, .unset]) rfl ?_
      show Steps p.tables e below (T1.setTop (mkF m 10 #[.val (.int p1), .val (.int p2), .val (.int p3), .val (.int p4), .val (.int p5), .val (.int w), .unset, .unset, .unset, .unset, .unset, .unset, .unset, .unset] [])) t
      refine XS.iconst X1.here hx rfl (hb hby at_10) ?_
      show Steps p.tables e below (T1.setTop (mkF m 11 #[.val (.int p1), .val (.int p2), .val (.int p3), .val (.int p4), .val (.int p5), .val (.int w), .unset, .unset, .unset, .unset, .unset, .unset, .unset, .unset] [(.int (1 : Int32))])) t
      refine XS.iloadN X1.here hx rfl (hb hby at_11) rfl ?_
      show Steps p.tables e below (T1.setTop (mkF m 12 #[.val (.int p1), .val (.int p2), .val (.int p3), .val (.int p4), .val (.int p5), .val (.int w), .unset, .unset, .unset, .unset, .unset, .unset, .unset, .unset] [(.int p2), (.int (1 : Int32))])) t
      refine X1.ldcInt hx hown (mvT hZ (hw _ (List.mem_of_getElem? (i := 0) rfl))) (g := (mkF m 12 #[.val (.int p1), .val (.int p2), .val (.int p3), .val (.int p4), .val (.int p5), .val (.int w), .unset, .unset, .unset, .unset, .unset, .unset, .unset, .unset] [(.int p2), (.int (1 : Int32))])) rfl (hb hby at_12) _ ?_
      show Steps p.tables e below (T1.setTop (mkF m 14 #[.val (.int p1), .val (.int p2), .val (.int p3), .val (.int p4), .val (.int p5), .val (.int w), .unset, .unset, .unset, .unset, .unset, .unset, .unset, .unset] [(.int (2147483647 : Int32)), (.int p2), (.int (1 : Int32))])) t
      refine XS.iand X1.here hx rfl (hb hby at_14) rfl ?_
      show Steps p.tables e below (T1.setTop (mkF m 15 #[.val (.int p1), .val (.int p2), .val (.int p3), .val (.int p4), .val (.int p5), .val (.int w), .unset, .unset, .unset, .unset, .unset, .unset, .unset, .unset] [(.int (p2 &&& (2147483647 : Int32))), (.int (1 : Int32))])) t
      exact st3 t k)
  obtain ⟨T5, X5, e5, st5⟩ := getS2 X3 hx hZ hown (host := "") (Or.inl (hw _ (List.mem_of_getElem? (i := 55) rfl))) Via.refl e3 (own_S_SIZE W) (g := (mkF m 27 #[.val (.int p1), .val (.int p2), .val (.int p3), .val (.int p4), .val (.int p5), .val (.int w), .val (.int h1), .unset, .unset, .unset, .unset, .unset, .unset, .unset] [])) rfl (hb hby at_27)
  have ch6 : ∀ t, Steps p.tables e below (T5.setTop (mkF m 30 #[.val (.int p1), .val (.int p2), .val (.int p3), .val (.int p4), .val (.int p5), .val (.int w), .val (.int h1), .unset, .unset, .unset, .unset, .unset, .unset, .unset] [(.ref (ad 1))])) t → Steps p.tables e below (s₁.setTop (entryFrame m #[(.int p1), (.int p2), (.int p3), (.int p4), (.int p5)] maxLocals)) t := fun t k => ch4 t (by
      show Steps p.tables e below (T3.setTop (mkF m 18 #[.val (.int p1), .val (.int p2), .val (.int p3), .val (.int p4), .val (.int p5), .val (.int w), .unset, .unset, .unset, .unset, .unset, .unset, .unset, .unset] [(.int h1)])) t
      refine XS.istore X3.here hx rfl (hb hby at_18) rfl (l' := #[.val (.int p1), .val (.int p2), .val (.int p3), .val (.int p4), .val (.int p5), .val (.int w), .val (.int h1), .unset, .unset, .unset, .unset, .unset, .unset, .unset]) rfl ?_
      show Steps p.tables e below (T3.setTop (mkF m 20 #[.val (.int p1), .val (.int p2), .val (.int p3), .val (.int p4), .val (.int p5), .val (.int w), .val (.int h1), .unset, .unset, .unset, .unset, .unset, .unset, .unset] [])) t
      refine XS.iload X3.here hx rfl (hb hby at_20) rfl ?_
      show Steps p.tables e below (T3.setTop (mkF m 22 #[.val (.int p1), .val (.int p2), .val (.int p3), .val (.int p4), .val (.int p5), .val (.int w), .val (.int h1), .unset, .unset, .unset, .unset, .unset, .unset, .unset] [(.int p5)])) t
      refine XS.iconst X3.here hx rfl (hb hby at_22) ?_
      show Steps p.tables e below (T3.setTop (mkF m 23 #[.val (.int p1), .val (.int p2), .val (.int p3), .val (.int p4), .val (.int p5), .val (.int w), .val (.int h1), .unset, .unset, .unset, .unset, .unset, .unset, .unset] [(.int (1 : Int32)), (.int p5)])) t
      refine XS.iand X3.here hx rfl (hb hby at_23) rfl ?_
      show Steps p.tables e below (T3.setTop (mkF m 24 #[.val (.int p1), .val (.int p2), .val (.int p3), .val (.int p4), .val (.int p5), .val (.int w), .val (.int h1), .unset, .unset, .unset, .unset, .unset, .unset, .unset] [(.int (p5 &&& (1 : Int32)))])) t
      refine XS.ifNo X3.here hx rfl (hb hby at_24) rfl ((if0 _ _).trans (feq s0).1) ?_
      show Steps p.tables e below (T3.setTop (mkF m 27 #[.val (.int p1), .val (.int p2), .val (.int p3), .val (.int p4), .val (.int p5), .val (.int w), .val (.int h1), .unset, .unset, .unset, .unset, .unset, .unset, .unset] [])) t
      exact st5 t k)
  obtain ⟨T7, hp7, X7, e7, E7, A7, D7, -, st7⟩ := newO X5 hx hZ hown (hw _ (List.mem_of_getElem? (i := 8) rfl)) (hw _ (List.mem_of_getElem? (i := 9) rfl)) (hw _ (List.mem_of_getElem? (i := 10) rfl)) e5 (g := (mkF m 76 #[.val (.int p1), .val (.int p2), .val (.int p3), .val (.int p4), .val (.int p5), .val (.int w), .val (.int h1), .val (.ref (ad 1)), .val (.int p3), .val (.int (h1 + (p4 % (2 : Int32)))), .unset, .unset, .unset, .unset] [])) rfl (hb hby at_76) (by decide) (by decide)
  obtain ⟨b7, g7⟩ : ∃ z, z = h0.size := ⟨_, rfl⟩
  rw [← g7] at A7 D7 st7
  have ne_ad0_b7 : (ad 0) ≠ b7 := Nat.ne_of_lt (Nat.lt_of_lt_of_le (own_E_DECLARED W).lt (Nat.le_of_eq g7.symm))
  have ne_ad1_b7 : (ad 1) ≠ b7 := Nat.ne_of_lt (Nat.lt_of_lt_of_le (own_E_SIZE W).lt (Nat.le_of_eq g7.symm))
  have g_b7 : n0 ≤ b7 := Nat.le_trans (Nat.le_trans Z0 (Keep.refl h0 []).1) (Nat.le_of_eq g7.symm)
  have sz_b7 : h0.size ≤ b7 := Nat.le_trans (Keep.refl h0 []).1 (Nat.le_of_eq g7.symm)
  have hk := Nat.le_trans hk E7.1
  have Kp7 := Keep.ext (Keep.refl h0 []) E7
  have F7_43 : Fld Z hp7 b7 "com/example/leafwright/leafwright/Thumbnails$Candidate" "url" "Ljava/lang/String;" .null := D7 (Or.inr (hw _ (List.mem_of_getElem? (i := 43) rfl))) (ty := (.object "java/lang/String")) (by decide)
  have F7_45 : Fld Z hp7 b7 "com/example/leafwright/leafwright/Thumbnails$Candidate" "width" "I" (.int (0 : Int32)) := D7 (Or.inr (hw _ (List.mem_of_getElem? (i := 45) rfl))) (ty := .int) (by decide)
  have F7_47 : Fld Z hp7 b7 "com/example/leafwright/leafwright/Thumbnails$Candidate" "height" "I" (.int (0 : Int32)) := D7 (Or.inr (hw _ (List.mem_of_getElem? (i := 47) rfl))) (ty := .int) (by decide)
  have F7_49 : Fld Z hp7 b7 "com/example/leafwright/leafwright/Thumbnails$Candidate" "source" "Lcom/example/leafwright/leafwright/Thumbnails$Source;" .null := D7 (Or.inr (hw _ (List.mem_of_getElem? (i := 49) rfl))) (ty := (.object "com/example/leafwright/leafwright/Thumbnails$Source")) (by decide)
  have ch8 : ∀ t, Steps p.tables e below (T7.setTop (mkF m 79 #[.val (.int p1), .val (.int p2), .val (.int p3), .val (.int p4), .val (.int p5), .val (.int w), .val (.int h1), .val (.ref (ad 1)), .val (.int p3), .val (.int (h1 + (p4 % (2 : Int32)))), .unset, .unset, .unset, .unset] [(.ref b7)])) t → Steps p.tables e below (s₁.setTop (entryFrame m #[(.int p1), (.int p2), (.int p3), (.int p4), (.int p5)] maxLocals)) t := fun t k => ch6 t (by
      show Steps p.tables e below (T5.setTop (mkF m 30 #[.val (.int p1), .val (.int p2), .val (.int p3), .val (.int p4), .val (.int p5), .val (.int w), .val (.int h1), .unset, .unset, .unset, .unset, .unset, .unset, .unset] [(.ref (ad 1))])) t
      refine XS.goto X5.here hx rfl (pc0 := 30) (pc' := 36) rfl (hb hby at_30) (by decide) (by decide) ?_
      show Steps p.tables e below (T5.setTop (mkF m 36 #[.val (.int p1), .val (.int p2), .val (.int p3), .val (.int p4), .val (.int p5), .val (.int w), .val (.int h1), .unset, .unset, .unset, .unset, .unset, .unset, .unset] [(.ref (ad 1))])) t
      refine XS.astore X5.here hx rfl (hb hby at_36) rfl rfl (l' := #[.val (.int p1), .val (.int p2), .val (.int p3), .val (.int p4), .val (.int p5), .val (.int w), .val (.int h1), .val (.ref (ad 1)), .unset, .unset, .unset, .unset, .unset, .unset]) rfl ?_
      show Steps p.tables e below (T5.setTop (mkF m 38 #[.val (.int p1), .val (.int p2), .val (.int p3), .val (.int p4), .val (.int p5), .val (.int w), .val (.int h1), .val (.ref (ad 1)), .unset, .unset, .unset, .unset, .unset, .unset] [])) t
      refine XS.iload X5.here hx rfl (hb hby at_38) rfl ?_
      show Steps p.tables e below (T5.setTop (mkF m 40 #[.val (.int p1), .val (.int p2), .val (.int p3), .val (.int p4), .val (.int p5), .val (.int w), .val (.int h1), .val (.ref (ad 1)), .unset, .unset, .unset, .unset, .unset, .unset] [(.int p5)])) t
      refine XS.iconst X5.here hx rfl (hb hby at_40) ?_
      show Steps p.tables e below (T5.setTop (mkF m 41 #[.val (.int p1), .val (.int p2), .val (.int p3), .val (.int p4), .val (.int p5), .val (.int w), .val (.int h1), .val (.ref (ad 1)), .unset, .unset, .unset, .unset, .unset, .unset] [(.int (2 : Int32)), (.int p5)])) t
      refine XS.iand X5.here hx rfl (hb hby at_41) rfl ?_
      show Steps p.tables e below (T5.setTop (mkF m 42 #[.val (.int p1), .val (.int p2), .val (.int p3), .val (.int p4), .val (.int p5), .val (.int w), .val (.int h1), .val (.ref (ad 1)), .unset, .unset, .unset, .unset, .unset, .unset] [(.int (p5 &&& (2 : Int32)))])) t
      refine XS.ifYes X5.here hx rfl (pc0 := 42) (pc' := 54) rfl (hb hby at_42) rfl ((if0 _ _).trans (teq s1).1) (by decide) (by decide) ?_
      show Steps p.tables e below (T5.setTop (mkF m 54 #[.val (.int p1), .val (.int p2), .val (.int p3), .val (.int p4), .val (.int p5), .val (.int w), .val (.int h1), .val (.ref (ad 1)), .unset, .unset, .unset, .unset, .unset, .unset] [])) t
      refine XS.iloadN X5.here hx rfl (hb hby at_54) rfl ?_
      show Steps p.tables e below (T5.setTop (mkF m 55 #[.val (.int p1), .val (.int p2), .val (.int p3), .val (.int p4), .val (.int p5), .val (.int w), .val (.int h1), .val (.ref (ad 1)), .unset, .unset, .unset, .unset, .unset, .unset] [(.int p3)])) t
      refine XS.istore X5.here hx rfl (hb hby at_55) rfl (l' := #[.val (.int p1), .val (.int p2), .val (.int p3), .val (.int p4), .val (.int p5), .val (.int w), .val (.int h1), .val (.ref (ad 1)), .val (.int p3), .unset, .unset, .unset, .unset, .unset]) rfl ?_
      show Steps p.tables e below (T5.setTop (mkF m 57 #[.val (.int p1), .val (.int p2), .val (.int p3), .val (.int p4), .val (.int p5), .val (.int w), .val (.int h1), .val (.ref (ad 1)), .val (.int p3), .unset, .unset, .unset, .unset, .unset] [])) t
      refine XS.iload X5.here hx rfl (hb hby at_57) rfl ?_
      show Steps p.tables e below (T5.setTop (mkF m 59 #[.val (.int p1), .val (.int p2), .val (.int p3), .val (.int p4), .val (.int p5), .val (.int w), .val (.int h1), .val (.ref (ad 1)), .val (.int p3), .unset, .unset, .unset, .unset, .unset] [(.int p5)])) t
      refine XS.iconst X5.here hx rfl (hb hby at_59) ?_
      show Steps p.tables e below (T5.setTop (mkF m 60 #[.val (.int p1), .val (.int p2), .val (.int p3), .val (.int p4), .val (.int p5), .val (.int w), .val (.int h1), .val (.ref (ad 1)), .val (.int p3), .unset, .unset, .unset, .unset, .unset] [(.int (4 : Int32)), (.int p5)])) t
      refine XS.iand X5.here hx rfl (hb hby at_60) rfl ?_
      show Steps p.tables e below (T5.setTop (mkF m 61 #[.val (.int p1), .val (.int p2), .val (.int p3), .val (.int p4), .val (.int p5), .val (.int w), .val (.int h1), .val (.ref (ad 1)), .val (.int p3), .unset, .unset, .unset, .unset, .unset] [(.int (p5 &&& (4 : Int32)))])) t
      refine XS.ifNo X5.here hx rfl (hb hby at_61) rfl ((if0 _ _).trans (feq s2).1) ?_
      show Steps p.tables e below (T5.setTop (mkF m 64 #[.val (.int p1), .val (.int p2), .val (.int p3), .val (.int p4), .val (.int p5), .val (.int w), .val (.int h1), .val (.ref (ad 1)), .val (.int p3), .unset, .unset, .unset, .unset, .unset] [])) t
      refine XS.iload X5.here hx rfl (hb hby at_64) rfl ?_
      show Steps p.tables e below (T5.setTop (mkF m 66 #[.val (.int p1), .val (.int p2), .val (.int p3), .val (.int p4), .val (.int p5), .val (.int w), .val (.int h1), .val (.ref (ad 1)), .val (.int p3), .unset, .unset, .unset, .unset, .unset] [(.int h1)])) t
      refine XS.iloadN X5.here hx rfl (hb hby at_66) rfl ?_
      show Steps p.tables e below (T5.setTop (mkF m 67 #[.val (.int p1), .val (.int p2), .val (.int p3), .val (.int p4), .val (.int p5), .val (.int w), .val (.int h1), .val (.ref (ad 1)), .val (.int p3), .unset, .unset, .unset, .unset, .unset] [(.int p4), (.int h1)])) t
      refine XS.iconst X5.here hx rfl (hb hby at_67) ?_
      show Steps p.tables e below (T5.setTop (mkF m 68 #[.val (.int p1), .val (.int p2), .val (.int p3), .val (.int p4), .val (.int p5), .val (.int w), .val (.int h1), .val (.ref (ad 1)), .val (.int p3), .unset, .unset, .unset, .unset, .unset] [(.int (2 : Int32)), (.int p4), (.int h1)])) t
      refine Jvm.RoadKit.iremM (g := (mkF m 68 #[.val (.int p1), .val (.int p2), .val (.int p3), .val (.int p4), .val (.int p5), .val (.int w), .val (.int h1), .val (.ref (ad 1)), .val (.int p3), .unset, .unset, .unset, .unset, .unset] [(.int (2 : Int32)), (.int p4), (.int h1)])) X5 hx rfl (hb hby at_68) rfl (by decide) ?_
      show Steps p.tables e below (T5.setTop (mkF m 69 #[.val (.int p1), .val (.int p2), .val (.int p3), .val (.int p4), .val (.int p5), .val (.int w), .val (.int h1), .val (.ref (ad 1)), .val (.int p3), .unset, .unset, .unset, .unset, .unset] [(.int (p4 % (2 : Int32))), (.int h1)])) t
      refine XS.iadd X5.here hx rfl (hb hby at_69) rfl ?_
      show Steps p.tables e below (T5.setTop (mkF m 70 #[.val (.int p1), .val (.int p2), .val (.int p3), .val (.int p4), .val (.int p5), .val (.int w), .val (.int h1), .val (.ref (ad 1)), .val (.int p3), .unset, .unset, .unset, .unset, .unset] [(.int (h1 + (p4 % (2 : Int32))))])) t
      refine XS.goto X5.here hx rfl (pc0 := 70) (pc' := 74) rfl (hb hby at_70) (by decide) (by decide) ?_
      show Steps p.tables e below (T5.setTop (mkF m 74 #[.val (.int p1), .val (.int p2), .val (.int p3), .val (.int p4), .val (.int p5), .val (.int w), .val (.int h1), .val (.ref (ad 1)), .val (.int p3), .unset, .unset, .unset, .unset, .unset] [(.int (h1 + (p4 % (2 : Int32))))])) t
      refine XS.istore X5.here hx rfl (hb hby at_74) rfl (l' := #[.val (.int p1), .val (.int p2), .val (.int p3), .val (.int p4), .val (.int p5), .val (.int w), .val (.int h1), .val (.ref (ad 1)), .val (.int p3), .val (.int (h1 + (p4 % (2 : Int32)))), .unset, .unset, .unset, .unset]) rfl ?_
      show Steps p.tables e below (T5.setTop (mkF m 76 #[.val (.int p1), .val (.int p2), .val (.int p3), .val (.int p4), .val (.int p5), .val (.int w), .val (.int h1), .val (.ref (ad 1)), .val (.int p3), .val (.int (h1 + (p4 % (2 : Int32)))), .unset, .unset, .unset, .unset] [])) t
      exact st7 t k)
  obtain ⟨ls9, T9, hp9, ks9, X9, e9, E9, hS, hk, hZ, hown, st9⟩ := ldcS X7 hx hZ hown (hw _ (List.mem_of_getElem? (i := 11) rfl)) (own_wS hw) e7 hS hk (g := (mkF m 80 #[.val (.int p1), .val (.int p2), .val (.int p3), .val (.int p4), .val (.int p5), .val (.int w), .val (.int h1), .val (.ref (ad 1)), .val (.int p3), .val (.int (h1 + (p4 % (2 : Int32)))), .unset, .unset, .unset, .unset] [(.ref b7), (.ref b7)])) rfl (hb hby at_80) (n := 4) (by decide) (by decide) (by decide) (by decide)
  have Kp9 := Keep.ext Kp7 E9
  have ch10 : ∀ t, Steps p.tables e below (T9.setTop (mkF m 82 #[.val (.int p1), .val (.int p2), .val (.int p3), .val (.int p4), .val (.int p5), .val (.int w), .val (.int h1), .val (.ref (ad 1)), .val (.int p3), .val (.int (h1 + (p4 % (2 : Int32)))), .unset, .unset, .unset, .unset] [(.ref ls9), (.ref b7), (.ref b7)])) t → Steps p.tables e below (s₁.setTop (entryFrame m #[(.int p1), (.int p2), (.int p3), (.int p4), (.int p5)] maxLocals)) t := fun t k => ch8 t (by
      show Steps p.tables e below (T7.setTop (mkF m 79 #[.val (.int p1), .val (.int p2), .val (.int p3), .val (.int p4), .val (.int p5), .val (.int w), .val (.int h1), .val (.ref (ad 1)), .val (.int p3), .val (.int (h1 + (p4 % (2 : Int32)))), .unset, .unset, .unset, .unset] [(.ref b7)])) t
      refine XS.dup X7.here hx rfl (hb hby at_79) rfl rfl ?_
      show Steps p.tables e below (T7.setTop (mkF m 80 #[.val (.int p1), .val (.int p2), .val (.int p3), .val (.int p4), .val (.int p5), .val (.int w), .val (.int h1), .val (.ref (ad 1)), .val (.int p3), .val (.int (h1 + (p4 % (2 : Int32)))), .unset, .unset, .unset, .unset] [(.ref b7), (.ref b7)])) t
      exact st9 t k)
  have cf11 := (A7.ext E9)
  have cf12 := (F7_43.ext E9)
  have cf13 := (F7_45.ext E9)
  have cf14 := (F7_47.ext E9)
  have cf15 := (F7_49.ext E9)
  obtain ⟨vv16, _, ⟨T16, L16, kk16, nn16⟩, -, X16, hS2, hgr, ⟨Lc16, hQ16, l16, y16, z16⟩, st16⟩ := X9.specialBackS hx (y := (⟨"com/example/leafwright/leafwright/Thumbnails$Candidate", "<init>", "(Ljava/lang/String;IILcom/example/leafwright/leafwright/Thumbnails$Source;)V"⟩ : MethodName)) rfl hown (mvT hZ (hw _ (List.mem_of_getElem? (i := 19) rfl))) (mvT hZ (hw _ (List.mem_of_getElem? (i := 20) rfl))) (mvT hZ (hw _ (List.mem_of_getElem? (i := 21) rfl))) (by decide) (backOfS (W := 1) (own_ini l Z a0 hw [] hp9 n0 (Nat.le_trans Z0 Kp9.1) b7 ls9 w h1 (ad 1) cf11 cf12 cf13 cf14 cf15 g_b7 pw ph) hZ (hw _ (List.mem_of_getElem? (i := 21) rfl)) (hw _ (List.mem_of_getElem? (i := 10) rfl)) (by decide) (by decide)) (g := (mkF m 88 #[.val (.int p1), .val (.int p2), .val (.int p3), .val (.int p4), .val (.int p5), .val (.int w), .val (.int h1), .val (.ref (ad 1)), .val (.int p3), .val (.int (h1 + (p4 % (2 : Int32)))), .unset, .unset, .unset, .unset] [(.ref (ad 1)), (.int h1), (.int w), (.ref ls9), (.ref b7), (.ref b7)])) rfl (by rw [hml]; rfl) (Steps.refl _) (a := b7) (argsL := [(.ref ls9), (.int w), (.int h1), (.ref (ad 1))]) (rest := [(.ref b7)]) (lenOf own_pd__Ljava_lang_String_IILcom_example_leafwright_leafwright_Thumbnails_Source__V rfl) rfl (by show 2 * 0 + _ ≤ _; exact Nat.le_of_eq rfl) (hb hby at_88) (fun _ _ => ⟨rfl, e9, (by decide : 3 + 8 ≤ _), (by decide : 12 + 96 ≤ _)⟩)
  dsimp only [Pt.U, Pt.locs, Pt.cells, Pt.slots] at X16 l16 y16 z16 st16 hQ16 hS2 hgr
  subst l16 y16 z16
  obtain ⟨X16, hS, hZ, hown⟩ := rebS hS (by rw [e9]; exact hk) X16 hS2 hgr hZ hown
  obtain ⟨hh16, eh16⟩ : ∃ h, T16.heap = h := ⟨_, rfl⟩
  rw [eh16] at hQ16
  rw [eh16] at hS
  have hk : hh16.size ≤ hh16.size := Nat.le_refl _
  obtain ⟨rfl, Nq16, Kq16, fq16_0, fq16_1, fq16_2, fq16_3, fq16_4⟩ := hQ16
  have N16 := Fr.app N3 Nq16
  have Kp16 := Keep.trans Kp9 Kq16 (allS (Or.inr sz_b7) all0)
  have ch17 : ∀ t, Steps p.tables e below (T16.setTop (mkF m 91 #[.val (.int p1), .val (.int p2), .val (.int p3), .val (.int p4), .val (.int p5), .val (.int w), .val (.int h1), .val (.ref (ad 1)), .val (.int p3), .val (.int (h1 + (p4 % (2 : Int32)))), .unset, .unset, .unset, .unset] [(.ref b7)])) t → Steps p.tables e below (s₁.setTop (entryFrame m #[(.int p1), (.int p2), (.int p3), (.int p4), (.int p5)] maxLocals)) t := fun t k => ch10 t (by
      show Steps p.tables e below (T9.setTop (mkF m 82 #[.val (.int p1), .val (.int p2), .val (.int p3), .val (.int p4), .val (.int p5), .val (.int w), .val (.int h1), .val (.ref (ad 1)), .val (.int p3), .val (.int (h1 + (p4 % (2 : Int32)))), .unset, .unset, .unset, .unset] [(.ref ls9), (.ref b7), (.ref b7)])) t
      refine XS.iload X9.here hx rfl (hb hby at_82) rfl ?_
      show Steps p.tables e below (T9.setTop (mkF m 84 #[.val (.int p1), .val (.int p2), .val (.int p3), .val (.int p4), .val (.int p5), .val (.int w), .val (.int h1), .val (.ref (ad 1)), .val (.int p3), .val (.int (h1 + (p4 % (2 : Int32)))), .unset, .unset, .unset, .unset] [(.int w), (.ref ls9), (.ref b7), (.ref b7)])) t
      refine XS.iload X9.here hx rfl (hb hby at_84) rfl ?_
      show Steps p.tables e below (T9.setTop (mkF m 86 #[.val (.int p1), .val (.int p2), .val (.int p3), .val (.int p4), .val (.int p5), .val (.int w), .val (.int h1), .val (.ref (ad 1)), .val (.int p3), .val (.int (h1 + (p4 % (2 : Int32)))), .unset, .unset, .unset, .unset] [(.int h1), (.int w), (.ref ls9), (.ref b7), (.ref b7)])) t
      refine XS.aload X9.here hx rfl (hb hby at_86) rfl rfl ?_
      show Steps p.tables e below (T9.setTop (mkF m 88 #[.val (.int p1), .val (.int p2), .val (.int p3), .val (.int p4), .val (.int p5), .val (.int w), .val (.int h1), .val (.ref (ad 1)), .val (.int p3), .val (.int (h1 + (p4 % (2 : Int32)))), .unset, .unset, .unset, .unset] [(.ref (ad 1)), (.int h1), (.int w), (.ref ls9), (.ref b7), (.ref b7)])) t
      exact st16.trans k)
  have ch19 : ∀ t, Steps p.tables e below (T16.setTop (mkF m 97 #[.val (.int p1), .val (.int p2), .val (.int p3), .val (.int p4), .val (.int p5), .val (.int w), .val (.int h1), .val (.ref (ad 1)), .val (.int p3), .val (.int (h1 + (p4 % (2 : Int32)))), .val (.ref b7), .unset, .unset, .unset] [(.int w), (.int p3)])) t → Steps p.tables e below (s₁.setTop (entryFrame m #[(.int p1), (.int p2), (.int p3), (.int p4), (.int p5)] maxLocals)) t := fun t k => ch17 t (by
      show Steps p.tables e below (T16.setTop (mkF m 91 #[.val (.int p1), .val (.int p2), .val (.int p3), .val (.int p4), .val (.int p5), .val (.int w), .val (.int h1), .val (.ref (ad 1)), .val (.int p3), .val (.int (h1 + (p4 % (2 : Int32)))), .unset, .unset, .unset, .unset] [(.ref b7)])) t
      refine XS.astore X16.here hx rfl (hb hby at_91) rfl rfl (l' := #[.val (.int p1), .val (.int p2), .val (.int p3), .val (.int p4), .val (.int p5), .val (.int w), .val (.int h1), .val (.ref (ad 1)), .val (.int p3), .val (.int (h1 + (p4 % (2 : Int32)))), .val (.ref b7), .unset, .unset, .unset]) rfl ?_
      show Steps p.tables e below (T16.setTop (mkF m 93 #[.val (.int p1), .val (.int p2), .val (.int p3), .val (.int p4), .val (.int p5), .val (.int w), .val (.int h1), .val (.ref (ad 1)), .val (.int p3), .val (.int (h1 + (p4 % (2 : Int32)))), .val (.ref b7), .unset, .unset, .unset] [])) t
      refine XS.iload X16.here hx rfl (hb hby at_93) rfl ?_
      show Steps p.tables e below (T16.setTop (mkF m 95 #[.val (.int p1), .val (.int p2), .val (.int p3), .val (.int p4), .val (.int p5), .val (.int w), .val (.int h1), .val (.ref (ad 1)), .val (.int p3), .val (.int (h1 + (p4 % (2 : Int32)))), .val (.ref b7), .unset, .unset, .unset] [(.int p3)])) t
      refine XS.iload X16.here hx rfl (hb hby at_95) rfl ?_
      exact k)
  by_cases hq18 : w < p3
  · skip
    have ch21 : ∀ t, Steps p.tables e below (T16.setTop (mkF m 104 #[.val (.int p1), .val (.int p2), .val (.int p3), .val (.int p4), .val (.int p5), .val (.int w), .val (.int h1), .val (.ref (ad 1)), .val (.int p3), .val (.int (h1 + (p4 % (2 : Int32)))), .val (.ref b7), .unset, .unset, .unset] [(.int h1), (.int (h1 + (p4 % (2 : Int32))))])) t → Steps p.tables e below (s₁.setTop (entryFrame m #[(.int p1), (.int p2), (.int p3), (.int p4), (.int p5)] maxLocals)) t := fun t k => ch19 t (by
        show Steps p.tables e below (T16.setTop (mkF m 97 #[.val (.int p1), .val (.int p2), .val (.int p3), .val (.int p4), .val (.int p5), .val (.int w), .val (.int h1), .val (.ref (ad 1)), .val (.int p3), .val (.int (h1 + (p4 % (2 : Int32)))), .val (.ref b7), .unset, .unset, .unset] [(.int w), (.int p3)])) t
        refine XS.icmpNo X16.here hx rfl (hb hby at_97) rfl (tlt hq18).2.2.2 ?_
        show Steps p.tables e below (T16.setTop (mkF m 100 #[.val (.int p1), .val (.int p2), .val (.int p3), .val (.int p4), .val (.int p5), .val (.int w), .val (.int h1), .val (.ref (ad 1)), .val (.int p3), .val (.int (h1 + (p4 % (2 : Int32)))), .val (.ref b7), .unset, .unset, .unset] [])) t
        refine XS.iload X16.here hx rfl (hb hby at_100) rfl ?_
        show Steps p.tables e below (T16.setTop (mkF m 102 #[.val (.int p1), .val (.int p2), .val (.int p3), .val (.int p4), .val (.int p5), .val (.int w), .val (.int h1), .val (.ref (ad 1)), .val (.int p3), .val (.int (h1 + (p4 % (2 : Int32)))), .val (.ref b7), .unset, .unset, .unset] [(.int (h1 + (p4 % (2 : Int32))))])) t
        refine XS.iload X16.here hx rfl (hb hby at_102) rfl ?_
        exact k)
    by_cases hq20 : h1 < (h1 + (p4 % (2 : Int32)))
    · skip
      obtain ⟨cq22, kq22, qa22, qb22, qc22⟩ := isOf hZ eh16 fq16_0
      obtain ⟨vv23, _, ⟨T23, L23, kk23, nn23⟩, -, X23, ⟨Lc23, hQ23, l23, y23, z23⟩, st23⟩ := X16.virtualBack hx (y := (⟨"com/example/leafwright/leafwright/Thumbnails$Candidate", "covers", "(II)Z"⟩ : MethodName)) (z := (⟨"com/example/leafwright/leafwright/Thumbnails$Candidate", "covers", "(II)Z"⟩ : MethodName)) hown (mvT hZ (hw _ (List.mem_of_getElem? (i := 50) rfl))) (mvT hZ (hw _ (List.mem_of_getElem? (i := 51) rfl))) (notFace_of_selects (args := #[]) (mvT hZ (hw _ (List.mem_of_getElem? (i := 53) rfl)))) (mvT hZ (hw _ (List.mem_of_getElem? (i := 53) rfl))) (mvT hZ (hw _ (List.mem_of_getElem? (i := 52) rfl))) (by decide) (backOf (W := 0) (own_cov_c l Z a0 hw [] hh16 n0 (Nat.le_trans Z0 Kp16.1) b7 w h1 p3 (h1 + (p4 % (2 : Int32))) fq16_2 fq16_3 hq18 hq20) hZ (hw _ (List.mem_of_getElem? (i := 54) rfl)) (hw _ (List.mem_of_getElem? (i := 10) rfl)) (by decide) (by decide)) qa22 qc22 (g := (mkF m 120 #[.val (.int p1), .val (.int p2), .val (.int p3), .val (.int p4), .val (.int p5), .val (.int w), .val (.int h1), .val (.ref (ad 1)), .val (.int p3), .val (.int (h1 + (p4 % (2 : Int32)))), .val (.ref b7), .val (.int (1 : Int32)), .unset, .unset] [(.int (h1 + (p4 % (2 : Int32)))), (.int p3), (.ref b7)])) rfl (by rw [hml]; rfl) (Steps.refl _) (argsL := [(.int p3), (.int (h1 + (p4 % (2 : Int32))))]) (rest := []) (lenOf own_pd__II_Z rfl) rfl (by show 2 * 0 + _ ≤ _; exact Nat.le_of_eq rfl) (hb hby at_120) (fun _ _ => ⟨rfl, eh16, (by decide : 11 + 0 ≤ _), (by decide : 108 + 0 ≤ _)⟩)
      dsimp only [Pt.U, Pt.locs, Pt.cells, Pt.slots] at X23 l23 y23 z23 st23 hQ23
      subst l23 y23 z23
      obtain ⟨rfl, Nq23, e23⟩ := hQ23
      have N23 := Fr.app N16 Nq23
      have ch24 : ∀ t, Steps p.tables e below (T23.setTop (mkF m 123 #[.val (.int p1), .val (.int p2), .val (.int p3), .val (.int p4), .val (.int p5), .val (.int w), .val (.int h1), .val (.ref (ad 1)), .val (.int p3), .val (.int (h1 + (p4 % (2 : Int32)))), .val (.ref b7), .val (.int (1 : Int32)), .unset, .unset] [(.int (0 : Int32))])) t → Steps p.tables e below (s₁.setTop (entryFrame m #[(.int p1), (.int p2), (.int p3), (.int p4), (.int p5)] maxLocals)) t := fun t k => ch21 t (by
          show Steps p.tables e below (T16.setTop (mkF m 104 #[.val (.int p1), .val (.int p2), .val (.int p3), .val (.int p4), .val (.int p5), .val (.int w), .val (.int h1), .val (.ref (ad 1)), .val (.int p3), .val (.int (h1 + (p4 % (2 : Int32)))), .val (.ref b7), .unset, .unset, .unset] [(.int h1), (.int (h1 + (p4 % (2 : Int32))))])) t
          refine XS.icmpNo X16.here hx rfl (hb hby at_104) rfl (tlt hq20).2.2.2 ?_
          show Steps p.tables e below (T16.setTop (mkF m 107 #[.val (.int p1), .val (.int p2), .val (.int p3), .val (.int p4), .val (.int p5), .val (.int w), .val (.int h1), .val (.ref (ad 1)), .val (.int p3), .val (.int (h1 + (p4 % (2 : Int32)))), .val (.ref b7), .unset, .unset, .unset] [])) t
          refine XS.iconst X16.here hx rfl (hb hby at_107) ?_
          show Steps p.tables e below (T16.setTop (mkF m 108 #[.val (.int p1), .val (.int p2), .val (.int p3), .val (.int p4), .val (.int p5), .val (.int w), .val (.int h1), .val (.ref (ad 1)), .val (.int p3), .val (.int (h1 + (p4 % (2 : Int32)))), .val (.ref b7), .unset, .unset, .unset] [(.int (1 : Int32))])) t
          refine XS.goto X16.here hx rfl (pc0 := 108) (pc' := 112) rfl (hb hby at_108) (by decide) (by decide) ?_
          show Steps p.tables e below (T16.setTop (mkF m 112 #[.val (.int p1), .val (.int p2), .val (.int p3), .val (.int p4), .val (.int p5), .val (.int w), .val (.int h1), .val (.ref (ad 1)), .val (.int p3), .val (.int (h1 + (p4 % (2 : Int32)))), .val (.ref b7), .unset, .unset, .unset] [(.int (1 : Int32))])) t
          refine XS.istore X16.here hx rfl (hb hby at_112) rfl (l' := #[.val (.int p1), .val (.int p2), .val (.int p3), .val (.int p4), .val (.int p5), .val (.int w), .val (.int h1), .val (.ref (ad 1)), .val (.int p3), .val (.int (h1 + (p4 % (2 : Int32)))), .val (.ref b7), .val (.int (1 : Int32)), .unset, .unset]) rfl ?_
          show Steps p.tables e below (T16.setTop (mkF m 114 #[.val (.int p1), .val (.int p2), .val (.int p3), .val (.int p4), .val (.int p5), .val (.int w), .val (.int h1), .val (.ref (ad 1)), .val (.int p3), .val (.int (h1 + (p4 % (2 : Int32)))), .val (.ref b7), .val (.int (1 : Int32)), .unset, .unset] [])) t
          refine XS.aload X16.here hx rfl (hb hby at_114) rfl rfl ?_
          show Steps p.tables e below (T16.setTop (mkF m 116 #[.val (.int p1), .val (.int p2), .val (.int p3), .val (.int p4), .val (.int p5), .val (.int w), .val (.int h1), .val (.ref (ad 1)), .val (.int p3), .val (.int (h1 + (p4 % (2 : Int32)))), .val (.ref b7), .val (.int (1 : Int32)), .unset, .unset] [(.ref b7)])) t
          refine XS.iload X16.here hx rfl (hb hby at_116) rfl ?_
          show Steps p.tables e below (T16.setTop (mkF m 118 #[.val (.int p1), .val (.int p2), .val (.int p3), .val (.int p4), .val (.int p5), .val (.int w), .val (.int h1), .val (.ref (ad 1)), .val (.int p3), .val (.int (h1 + (p4 % (2 : Int32)))), .val (.ref b7), .val (.int (1 : Int32)), .unset, .unset] [(.int p3), (.ref b7)])) t
          refine XS.iload X16.here hx rfl (hb hby at_118) rfl ?_
          show Steps p.tables e below (T16.setTop (mkF m 120 #[.val (.int p1), .val (.int p2), .val (.int p3), .val (.int p4), .val (.int p5), .val (.int w), .val (.int h1), .val (.ref (ad 1)), .val (.int p3), .val (.int (h1 + (p4 % (2 : Int32)))), .val (.ref b7), .val (.int (1 : Int32)), .unset, .unset] [(.int (h1 + (p4 % (2 : Int32)))), (.int p3), (.ref b7)])) t
          exact st23.trans k)
      obtain ⟨cq25, kq25, qa25, qb25, qc25⟩ := isOf hZ e23 fq16_0
      obtain ⟨vv26, _, ⟨T26, L26, kk26, nn26⟩, -, X26, ⟨Lc26, hQ26, l26, y26, z26⟩, st26⟩ := X23.virtualBack hx (y := (⟨"com/example/leafwright/leafwright/Thumbnails$Candidate", "covers", "(II)Z"⟩ : MethodName)) (z := (⟨"com/example/leafwright/leafwright/Thumbnails$Candidate", "covers", "(II)Z"⟩ : MethodName)) hown (mvT hZ (hw _ (List.mem_of_getElem? (i := 50) rfl))) (mvT hZ (hw _ (List.mem_of_getElem? (i := 51) rfl))) (notFace_of_selects (args := #[]) (mvT hZ (hw _ (List.mem_of_getElem? (i := 53) rfl)))) (mvT hZ (hw _ (List.mem_of_getElem? (i := 53) rfl))) (mvT hZ (hw _ (List.mem_of_getElem? (i := 52) rfl))) (by decide) (backOf (W := 0) (own_cov_a l Z a0 hw [] hh16 n0 (Nat.le_trans Z0 Kp16.1) b7 w h1 w h1 fq16_2 fq16_3 (Int32.lt_irrefl : ¬ w < w)) hZ (hw _ (List.mem_of_getElem? (i := 54) rfl)) (hw _ (List.mem_of_getElem? (i := 10) rfl)) (by decide) (by decide)) qa25 qc25 (g := (mkF m 131 #[.val (.int p1), .val (.int p2), .val (.int p3), .val (.int p4), .val (.int p5), .val (.int w), .val (.int h1), .val (.ref (ad 1)), .val (.int p3), .val (.int (h1 + (p4 % (2 : Int32)))), .val (.ref b7), .val (.int (1 : Int32)), .val (.int (0 : Int32)), .unset] [(.int h1), (.int w), (.ref b7)])) rfl (by rw [hml]; rfl) (Steps.refl _) (argsL := [(.int w), (.int h1)]) (rest := []) (lenOf own_pd__II_Z rfl) rfl (by show 2 * 0 + _ ≤ _; exact Nat.le_of_eq rfl) (hb hby at_131) (fun _ _ => ⟨rfl, e23, (by decide : 11 + 0 ≤ _), (by decide : 108 + 0 ≤ _)⟩)
      dsimp only [Pt.U, Pt.locs, Pt.cells, Pt.slots] at X26 l26 y26 z26 st26 hQ26
      subst l26 y26 z26
      obtain ⟨rfl, Nq26, e26⟩ := hQ26
      have N26 := Fr.app N23 Nq26
      have ch27 : ∀ t, Steps p.tables e below (T26.setTop (mkF m 134 #[.val (.int p1), .val (.int p2), .val (.int p3), .val (.int p4), .val (.int p5), .val (.int w), .val (.int h1), .val (.ref (ad 1)), .val (.int p3), .val (.int (h1 + (p4 % (2 : Int32)))), .val (.ref b7), .val (.int (1 : Int32)), .val (.int (0 : Int32)), .unset] [(.int (1 : Int32))])) t → Steps p.tables e below (s₁.setTop (entryFrame m #[(.int p1), (.int p2), (.int p3), (.int p4), (.int p5)] maxLocals)) t := fun t k => ch24 t (by
          show Steps p.tables e below (T23.setTop (mkF m 123 #[.val (.int p1), .val (.int p2), .val (.int p3), .val (.int p4), .val (.int p5), .val (.int w), .val (.int h1), .val (.ref (ad 1)), .val (.int p3), .val (.int (h1 + (p4 % (2 : Int32)))), .val (.ref b7), .val (.int (1 : Int32)), .unset, .unset] [(.int (0 : Int32))])) t
          refine XS.istore X23.here hx rfl (hb hby at_123) rfl (l' := #[.val (.int p1), .val (.int p2), .val (.int p3), .val (.int p4), .val (.int p5), .val (.int w), .val (.int h1), .val (.ref (ad 1)), .val (.int p3), .val (.int (h1 + (p4 % (2 : Int32)))), .val (.ref b7), .val (.int (1 : Int32)), .val (.int (0 : Int32)), .unset]) rfl ?_
          show Steps p.tables e below (T23.setTop (mkF m 125 #[.val (.int p1), .val (.int p2), .val (.int p3), .val (.int p4), .val (.int p5), .val (.int w), .val (.int h1), .val (.ref (ad 1)), .val (.int p3), .val (.int (h1 + (p4 % (2 : Int32)))), .val (.ref b7), .val (.int (1 : Int32)), .val (.int (0 : Int32)), .unset] [])) t
          refine XS.aload X23.here hx rfl (hb hby at_125) rfl rfl ?_
          show Steps p.tables e below (T23.setTop (mkF m 127 #[.val (.int p1), .val (.int p2), .val (.int p3), .val (.int p4), .val (.int p5), .val (.int w), .val (.int h1), .val (.ref (ad 1)), .val (.int p3), .val (.int (h1 + (p4 % (2 : Int32)))), .val (.ref b7), .val (.int (1 : Int32)), .val (.int (0 : Int32)), .unset] [(.ref b7)])) t
          refine XS.iload X23.here hx rfl (hb hby at_127) rfl ?_
          show Steps p.tables e below (T23.setTop (mkF m 129 #[.val (.int p1), .val (.int p2), .val (.int p3), .val (.int p4), .val (.int p5), .val (.int w), .val (.int h1), .val (.ref (ad 1)), .val (.int p3), .val (.int (h1 + (p4 % (2 : Int32)))), .val (.ref b7), .val (.int (1 : Int32)), .val (.int (0 : Int32)), .unset] [(.int w), (.ref b7)])) t
          refine XS.iload X23.here hx rfl (hb hby at_129) rfl ?_
          show Steps p.tables e below (T23.setTop (mkF m 131 #[.val (.int p1), .val (.int p2), .val (.int p3), .val (.int p4), .val (.int p5), .val (.int w), .val (.int h1), .val (.ref (ad 1)), .val (.int p3), .val (.int (h1 + (p4 % (2 : Int32)))), .val (.ref b7), .val (.int (1 : Int32)), .val (.int (0 : Int32)), .unset] [(.int h1), (.int w), (.ref b7)])) t
          exact st26.trans k)
      have ch28 : ∀ t, Steps p.tables e below (T26.setTop (mkF m 161 #[.val (.int p1), .val (.int p2), .val (.int p3), .val (.int p4), .val (.int p5), .val (.int w), .val (.int h1), .val (.ref (ad 1)), .val (.int p3), .val (.int (h1 + (p4 % (2 : Int32)))), .val (.ref b7), .val (.int (1 : Int32)), .val (.int (0 : Int32)), .val (.int (1 : Int32))] [(.int (1 : Int32))])) t → Steps p.tables e below (s₁.setTop (entryFrame m #[(.int p1), (.int p2), (.int p3), (.int p4), (.int p5)] maxLocals)) t := fun t k => ch27 t (by
          show Steps p.tables e below (T26.setTop (mkF m 134 #[.val (.int p1), .val (.int p2), .val (.int p3), .val (.int p4), .val (.int p5), .val (.int w), .val (.int h1), .val (.ref (ad 1)), .val (.int p3), .val (.int (h1 + (p4 % (2 : Int32)))), .val (.ref b7), .val (.int (1 : Int32)), .val (.int (0 : Int32)), .unset] [(.int (1 : Int32))])) t
          refine XS.istore X26.here hx rfl (hb hby at_134) rfl (l' := #[.val (.int p1), .val (.int p2), .val (.int p3), .val (.int p4), .val (.int p5), .val (.int w), .val (.int h1), .val (.ref (ad 1)), .val (.int p3), .val (.int (h1 + (p4 % (2 : Int32)))), .val (.ref b7), .val (.int (1 : Int32)), .val (.int (0 : Int32)), .val (.int (1 : Int32))]) rfl ?_
          show Steps p.tables e below (T26.setTop (mkF m 136 #[.val (.int p1), .val (.int p2), .val (.int p3), .val (.int p4), .val (.int p5), .val (.int w), .val (.int h1), .val (.ref (ad 1)), .val (.int p3), .val (.int (h1 + (p4 % (2 : Int32)))), .val (.ref b7), .val (.int (1 : Int32)), .val (.int (0 : Int32)), .val (.int (1 : Int32))] [])) t
          refine XS.iload X26.here hx rfl (hb hby at_136) rfl ?_
          show Steps p.tables e below (T26.setTop (mkF m 138 #[.val (.int p1), .val (.int p2), .val (.int p3), .val (.int p4), .val (.int p5), .val (.int w), .val (.int h1), .val (.ref (ad 1)), .val (.int p3), .val (.int (h1 + (p4 % (2 : Int32)))), .val (.ref b7), .val (.int (1 : Int32)), .val (.int (0 : Int32)), .val (.int (1 : Int32))] [(.int (0 : Int32))])) t
          refine XS.iload X26.here hx rfl (hb hby at_138) rfl ?_
          show Steps p.tables e below (T26.setTop (mkF m 140 #[.val (.int p1), .val (.int p2), .val (.int p3), .val (.int p4), .val (.int p5), .val (.int w), .val (.int h1), .val (.ref (ad 1)), .val (.int p3), .val (.int (h1 + (p4 % (2 : Int32)))), .val (.ref b7), .val (.int (1 : Int32)), .val (.int (0 : Int32)), .val (.int (1 : Int32))] [(.int (1 : Int32)), (.int (0 : Int32))])) t
          refine XS.ifYes X26.here hx rfl (pc0 := 140) (pc' := 147) rfl (hb hby at_140) rfl ((if0 _ _).trans (feq (by decide : ¬ (1 : Int32) = (0 : Int32))).2) (by decide) (by decide) ?_
          show Steps p.tables e below (T26.setTop (mkF m 147 #[.val (.int p1), .val (.int p2), .val (.int p3), .val (.int p4), .val (.int p5), .val (.int w), .val (.int h1), .val (.ref (ad 1)), .val (.int p3), .val (.int (h1 + (p4 % (2 : Int32)))), .val (.ref b7), .val (.int (1 : Int32)), .val (.int (0 : Int32)), .val (.int (1 : Int32))] [(.int (0 : Int32))])) t
          refine XS.iconst X26.here hx rfl (hb hby at_147) ?_
          show Steps p.tables e below (T26.setTop (mkF m 148 #[.val (.int p1), .val (.int p2), .val (.int p3), .val (.int p4), .val (.int p5), .val (.int w), .val (.int h1), .val (.ref (ad 1)), .val (.int p3), .val (.int (h1 + (p4 % (2 : Int32)))), .val (.ref b7), .val (.int (1 : Int32)), .val (.int (0 : Int32)), .val (.int (1 : Int32))] [(.int (0 : Int32)), (.int (0 : Int32))])) t
          refine XS.icmpNo X26.here hx rfl (hb hby at_148) rfl (teq (by decide : (0 : Int32) = (0 : Int32))).2 ?_
          show Steps p.tables e below (T26.setTop (mkF m 151 #[.val (.int p1), .val (.int p2), .val (.int p3), .val (.int p4), .val (.int p5), .val (.int w), .val (.int h1), .val (.ref (ad 1)), .val (.int p3), .val (.int (h1 + (p4 % (2 : Int32)))), .val (.ref b7), .val (.int (1 : Int32)), .val (.int (0 : Int32)), .val (.int (1 : Int32))] [])) t
          refine XS.iload X26.here hx rfl (hb hby at_151) rfl ?_
          show Steps p.tables e below (T26.setTop (mkF m 153 #[.val (.int p1), .val (.int p2), .val (.int p3), .val (.int p4), .val (.int p5), .val (.int w), .val (.int h1), .val (.ref (ad 1)), .val (.int p3), .val (.int (h1 + (p4 % (2 : Int32)))), .val (.ref b7), .val (.int (1 : Int32)), .val (.int (0 : Int32)), .val (.int (1 : Int32))] [(.int (1 : Int32))])) t
          refine XS.ifNo X26.here hx rfl (hb hby at_153) rfl ((if0 _ _).trans (feq (by decide : ¬ (1 : Int32) = (0 : Int32))).1) ?_
          show Steps p.tables e below (T26.setTop (mkF m 156 #[.val (.int p1), .val (.int p2), .val (.int p3), .val (.int p4), .val (.int p5), .val (.int w), .val (.int h1), .val (.ref (ad 1)), .val (.int p3), .val (.int (h1 + (p4 % (2 : Int32)))), .val (.ref b7), .val (.int (1 : Int32)), .val (.int (0 : Int32)), .val (.int (1 : Int32))] [])) t
          refine XS.iconst X26.here hx rfl (hb hby at_156) ?_
          show Steps p.tables e below (T26.setTop (mkF m 157 #[.val (.int p1), .val (.int p2), .val (.int p3), .val (.int p4), .val (.int p5), .val (.int w), .val (.int h1), .val (.ref (ad 1)), .val (.int p3), .val (.int (h1 + (p4 % (2 : Int32)))), .val (.ref b7), .val (.int (1 : Int32)), .val (.int (0 : Int32)), .val (.int (1 : Int32))] [(.int (1 : Int32))])) t
          refine XS.goto X26.here hx rfl (pc0 := 157) (pc' := 161) rfl (hb hby at_157) (by decide) (by decide) ?_
          exact k)
      obtain ⟨fs, hr, hrun, hended, hend⟩ := X26.leaveW hS (by rw [e26]; exact hk) (v := some (.int (1 : Int32))) (fun h => by rw [Bd.returns] at h; cases h)
      refine ⟨_, _, ch28 _ ?_, hrun, hended, _, _, rfl, ?_, hend.1, hend.2.1, hend.2.2.1, hend.2.2.2.mono (by decide) (by decide)⟩
      · show Steps p.tables e below (T26.setTop (mkF m 161 #[.val (.int p1), .val (.int p2), .val (.int p3), .val (.int p4), .val (.int p5), .val (.int w), .val (.int h1), .val (.ref (ad 1)), .val (.int p3), .val (.int (h1 + (p4 % (2 : Int32)))), .val (.ref b7), .val (.int (1 : Int32)), .val (.int (0 : Int32)), .val (.int (1 : Int32))] [(.int (1 : Int32))])) _
        exact retN X26 hx (t := .boolean) Bd.returns (by simp) (hb hby at_161) hr
      · show QN (some (.int (1 : Int32))) n0 _ T26.heap _
        rw [e26]
        exact ⟨rfl, N26⟩
    · skip
      obtain ⟨cq29, kq29, qa29, qb29, qc29⟩ := isOf hZ eh16 fq16_0
      obtain ⟨vv30, _, ⟨T30, L30, kk30, nn30⟩, -, X30, ⟨Lc30, hQ30, l30, y30, z30⟩, st30⟩ := X16.virtualBack hx (y := (⟨"com/example/leafwright/leafwright/Thumbnails$Candidate", "covers", "(II)Z"⟩ : MethodName)) (z := (⟨"com/example/leafwright/leafwright/Thumbnails$Candidate", "covers", "(II)Z"⟩ : MethodName)) hown (mvT hZ (hw _ (List.mem_of_getElem? (i := 50) rfl))) (mvT hZ (hw _ (List.mem_of_getElem? (i := 51) rfl))) (notFace_of_selects (args := #[]) (mvT hZ (hw _ (List.mem_of_getElem? (i := 53) rfl)))) (mvT hZ (hw _ (List.mem_of_getElem? (i := 53) rfl))) (mvT hZ (hw _ (List.mem_of_getElem? (i := 52) rfl))) (by decide) (backOf (W := 0) (own_cov_b l Z a0 hw [] hh16 n0 (Nat.le_trans Z0 Kp16.1) b7 w h1 p3 (h1 + (p4 % (2 : Int32))) fq16_2 fq16_3 hq18 hq20) hZ (hw _ (List.mem_of_getElem? (i := 54) rfl)) (hw _ (List.mem_of_getElem? (i := 10) rfl)) (by decide) (by decide)) qa29 qc29 (g := (mkF m 120 #[.val (.int p1), .val (.int p2), .val (.int p3), .val (.int p4), .val (.int p5), .val (.int w), .val (.int h1), .val (.ref (ad 1)), .val (.int p3), .val (.int (h1 + (p4 % (2 : Int32)))), .val (.ref b7), .val (.int (0 : Int32)), .unset, .unset] [(.int (h1 + (p4 % (2 : Int32)))), (.int p3), (.ref b7)])) rfl (by rw [hml]; rfl) (Steps.refl _) (argsL := [(.int p3), (.int (h1 + (p4 % (2 : Int32))))]) (rest := []) (lenOf own_pd__II_Z rfl) rfl (by show 2 * 0 + _ ≤ _; exact Nat.le_of_eq rfl) (hb hby at_120) (fun _ _ => ⟨rfl, eh16, (by decide : 11 + 0 ≤ _), (by decide : 108 + 0 ≤ _)⟩)
      dsimp only [Pt.U, Pt.locs, Pt.cells, Pt.slots] at X30 l30 y30 z30 st30 hQ30
      subst l30 y30 z30
      obtain ⟨rfl, Nq30, e30⟩ := hQ30
      have N30 := Fr.app N16 Nq30
      have ch31 : ∀ t, Steps p.tables e below (T30.setTop (mkF m 123 #[.val (.int p1), .val (.int p2), .val (.int p3), .val (.int p4), .val (.int p5), .val (.int w), .val (.int h1), .val (.ref (ad 1)), .val (.int p3), .val (.int (h1 + (p4 % (2 : Int32)))), .val (.ref b7), .val (.int (0 : Int32)), .unset, .unset] [(.int (1 : Int32))])) t → Steps p.tables e below (s₁.setTop (entryFrame m #[(.int p1), (.int p2), (.int p3), (.int p4), (.int p5)] maxLocals)) t := fun t k => ch21 t (by
          show Steps p.tables e below (T16.setTop (mkF m 104 #[.val (.int p1), .val (.int p2), .val (.int p3), .val (.int p4), .val (.int p5), .val (.int w), .val (.int h1), .val (.ref (ad 1)), .val (.int p3), .val (.int (h1 + (p4 % (2 : Int32)))), .val (.ref b7), .unset, .unset, .unset] [(.int h1), (.int (h1 + (p4 % (2 : Int32))))])) t
          refine XS.icmpYes X16.here hx rfl (pc0 := 104) (pc' := 111) rfl (hb hby at_104) rfl (flt hq20).2.2.2 (by decide) (by decide) ?_
          show Steps p.tables e below (T16.setTop (mkF m 111 #[.val (.int p1), .val (.int p2), .val (.int p3), .val (.int p4), .val (.int p5), .val (.int w), .val (.int h1), .val (.ref (ad 1)), .val (.int p3), .val (.int (h1 + (p4 % (2 : Int32)))), .val (.ref b7), .unset, .unset, .unset] [])) t
          refine XS.iconst X16.here hx rfl (hb hby at_111) ?_
          show Steps p.tables e below (T16.setTop (mkF m 112 #[.val (.int p1), .val (.int p2), .val (.int p3), .val (.int p4), .val (.int p5), .val (.int w), .val (.int h1), .val (.ref (ad 1)), .val (.int p3), .val (.int (h1 + (p4 % (2 : Int32)))), .val (.ref b7), .unset, .unset, .unset] [(.int (0 : Int32))])) t
          refine XS.istore X16.here hx rfl (hb hby at_112) rfl (l' := #[.val (.int p1), .val (.int p2), .val (.int p3), .val (.int p4), .val (.int p5), .val (.int w), .val (.int h1), .val (.ref (ad 1)), .val (.int p3), .val (.int (h1 + (p4 % (2 : Int32)))), .val (.ref b7), .val (.int (0 : Int32)), .unset, .unset]) rfl ?_
          show Steps p.tables e below (T16.setTop (mkF m 114 #[.val (.int p1), .val (.int p2), .val (.int p3), .val (.int p4), .val (.int p5), .val (.int w), .val (.int h1), .val (.ref (ad 1)), .val (.int p3), .val (.int (h1 + (p4 % (2 : Int32)))), .val (.ref b7), .val (.int (0 : Int32)), .unset, .unset] [])) t
          refine XS.aload X16.here hx rfl (hb hby at_114) rfl rfl ?_
          show Steps p.tables e below (T16.setTop (mkF m 116 #[.val (.int p1), .val (.int p2), .val (.int p3), .val (.int p4), .val (.int p5), .val (.int w), .val (.int h1), .val (.ref (ad 1)), .val (.int p3), .val (.int (h1 + (p4 % (2 : Int32)))), .val (.ref b7), .val (.int (0 : Int32)), .unset, .unset] [(.ref b7)])) t
          refine XS.iload X16.here hx rfl (hb hby at_116) rfl ?_
          show Steps p.tables e below (T16.setTop (mkF m 118 #[.val (.int p1), .val (.int p2), .val (.int p3), .val (.int p4), .val (.int p5), .val (.int w), .val (.int h1), .val (.ref (ad 1)), .val (.int p3), .val (.int (h1 + (p4 % (2 : Int32)))), .val (.ref b7), .val (.int (0 : Int32)), .unset, .unset] [(.int p3), (.ref b7)])) t
          refine XS.iload X16.here hx rfl (hb hby at_118) rfl ?_
          show Steps p.tables e below (T16.setTop (mkF m 120 #[.val (.int p1), .val (.int p2), .val (.int p3), .val (.int p4), .val (.int p5), .val (.int w), .val (.int h1), .val (.ref (ad 1)), .val (.int p3), .val (.int (h1 + (p4 % (2 : Int32)))), .val (.ref b7), .val (.int (0 : Int32)), .unset, .unset] [(.int (h1 + (p4 % (2 : Int32)))), (.int p3), (.ref b7)])) t
          exact st30.trans k)
      obtain ⟨cq32, kq32, qa32, qb32, qc32⟩ := isOf hZ e30 fq16_0
      obtain ⟨vv33, _, ⟨T33, L33, kk33, nn33⟩, -, X33, ⟨Lc33, hQ33, l33, y33, z33⟩, st33⟩ := X30.virtualBack hx (y := (⟨"com/example/leafwright/leafwright/Thumbnails$Candidate", "covers", "(II)Z"⟩ : MethodName)) (z := (⟨"com/example/leafwright/leafwright/Thumbnails$Candidate", "covers", "(II)Z"⟩ : MethodName)) hown (mvT hZ (hw _ (List.mem_of_getElem? (i := 50) rfl))) (mvT hZ (hw _ (List.mem_of_getElem? (i := 51) rfl))) (notFace_of_selects (args := #[]) (mvT hZ (hw _ (List.mem_of_getElem? (i := 53) rfl)))) (mvT hZ (hw _ (List.mem_of_getElem? (i := 53) rfl))) (mvT hZ (hw _ (List.mem_of_getElem? (i := 52) rfl))) (by decide) (backOf (W := 0) (own_cov_a l Z a0 hw [] hh16 n0 (Nat.le_trans Z0 Kp16.1) b7 w h1 w h1 fq16_2 fq16_3 (Int32.lt_irrefl : ¬ w < w)) hZ (hw _ (List.mem_of_getElem? (i := 54) rfl)) (hw _ (List.mem_of_getElem? (i := 10) rfl)) (by decide) (by decide)) qa32 qc32 (g := (mkF m 131 #[.val (.int p1), .val (.int p2), .val (.int p3), .val (.int p4), .val (.int p5), .val (.int w), .val (.int h1), .val (.ref (ad 1)), .val (.int p3), .val (.int (h1 + (p4 % (2 : Int32)))), .val (.ref b7), .val (.int (0 : Int32)), .val (.int (1 : Int32)), .unset] [(.int h1), (.int w), (.ref b7)])) rfl (by rw [hml]; rfl) (Steps.refl _) (argsL := [(.int w), (.int h1)]) (rest := []) (lenOf own_pd__II_Z rfl) rfl (by show 2 * 0 + _ ≤ _; exact Nat.le_of_eq rfl) (hb hby at_131) (fun _ _ => ⟨rfl, e30, (by decide : 11 + 0 ≤ _), (by decide : 108 + 0 ≤ _)⟩)
      dsimp only [Pt.U, Pt.locs, Pt.cells, Pt.slots] at X33 l33 y33 z33 st33 hQ33
      subst l33 y33 z33
      obtain ⟨rfl, Nq33, e33⟩ := hQ33
      have N33 := Fr.app N30 Nq33
      have ch34 : ∀ t, Steps p.tables e below (T33.setTop (mkF m 134 #[.val (.int p1), .val (.int p2), .val (.int p3), .val (.int p4), .val (.int p5), .val (.int w), .val (.int h1), .val (.ref (ad 1)), .val (.int p3), .val (.int (h1 + (p4 % (2 : Int32)))), .val (.ref b7), .val (.int (0 : Int32)), .val (.int (1 : Int32)), .unset] [(.int (1 : Int32))])) t → Steps p.tables e below (s₁.setTop (entryFrame m #[(.int p1), (.int p2), (.int p3), (.int p4), (.int p5)] maxLocals)) t := fun t k => ch31 t (by
          show Steps p.tables e below (T30.setTop (mkF m 123 #[.val (.int p1), .val (.int p2), .val (.int p3), .val (.int p4), .val (.int p5), .val (.int w), .val (.int h1), .val (.ref (ad 1)), .val (.int p3), .val (.int (h1 + (p4 % (2 : Int32)))), .val (.ref b7), .val (.int (0 : Int32)), .unset, .unset] [(.int (1 : Int32))])) t
          refine XS.istore X30.here hx rfl (hb hby at_123) rfl (l' := #[.val (.int p1), .val (.int p2), .val (.int p3), .val (.int p4), .val (.int p5), .val (.int w), .val (.int h1), .val (.ref (ad 1)), .val (.int p3), .val (.int (h1 + (p4 % (2 : Int32)))), .val (.ref b7), .val (.int (0 : Int32)), .val (.int (1 : Int32)), .unset]) rfl ?_
          show Steps p.tables e below (T30.setTop (mkF m 125 #[.val (.int p1), .val (.int p2), .val (.int p3), .val (.int p4), .val (.int p5), .val (.int w), .val (.int h1), .val (.ref (ad 1)), .val (.int p3), .val (.int (h1 + (p4 % (2 : Int32)))), .val (.ref b7), .val (.int (0 : Int32)), .val (.int (1 : Int32)), .unset] [])) t
          refine XS.aload X30.here hx rfl (hb hby at_125) rfl rfl ?_
          show Steps p.tables e below (T30.setTop (mkF m 127 #[.val (.int p1), .val (.int p2), .val (.int p3), .val (.int p4), .val (.int p5), .val (.int w), .val (.int h1), .val (.ref (ad 1)), .val (.int p3), .val (.int (h1 + (p4 % (2 : Int32)))), .val (.ref b7), .val (.int (0 : Int32)), .val (.int (1 : Int32)), .unset] [(.ref b7)])) t
          refine XS.iload X30.here hx rfl (hb hby at_127) rfl ?_
          show Steps p.tables e below (T30.setTop (mkF m 129 #[.val (.int p1), .val (.int p2), .val (.int p3), .val (.int p4), .val (.int p5), .val (.int w), .val (.int h1), .val (.ref (ad 1)), .val (.int p3), .val (.int (h1 + (p4 % (2 : Int32)))), .val (.ref b7), .val (.int (0 : Int32)), .val (.int (1 : Int32)), .unset] [(.int w), (.ref b7)])) t
          refine XS.iload X30.here hx rfl (hb hby at_129) rfl ?_
          show Steps p.tables e below (T30.setTop (mkF m 131 #[.val (.int p1), .val (.int p2), .val (.int p3), .val (.int p4), .val (.int p5), .val (.int w), .val (.int h1), .val (.ref (ad 1)), .val (.int p3), .val (.int (h1 + (p4 % (2 : Int32)))), .val (.ref b7), .val (.int (0 : Int32)), .val (.int (1 : Int32)), .unset] [(.int h1), (.int w), (.ref b7)])) t
          exact st33.trans k)
      have ch35 : ∀ t, Steps p.tables e below (T33.setTop (mkF m 161 #[.val (.int p1), .val (.int p2), .val (.int p3), .val (.int p4), .val (.int p5), .val (.int w), .val (.int h1), .val (.ref (ad 1)), .val (.int p3), .val (.int (h1 + (p4 % (2 : Int32)))), .val (.ref b7), .val (.int (0 : Int32)), .val (.int (1 : Int32)), .val (.int (1 : Int32))] [(.int (1 : Int32))])) t → Steps p.tables e below (s₁.setTop (entryFrame m #[(.int p1), (.int p2), (.int p3), (.int p4), (.int p5)] maxLocals)) t := fun t k => ch34 t (by
          show Steps p.tables e below (T33.setTop (mkF m 134 #[.val (.int p1), .val (.int p2), .val (.int p3), .val (.int p4), .val (.int p5), .val (.int w), .val (.int h1), .val (.ref (ad 1)), .val (.int p3), .val (.int (h1 + (p4 % (2 : Int32)))), .val (.ref b7), .val (.int (0 : Int32)), .val (.int (1 : Int32)), .unset] [(.int (1 : Int32))])) t
          refine XS.istore X33.here hx rfl (hb hby at_134) rfl (l' := #[.val (.int p1), .val (.int p2), .val (.int p3), .val (.int p4), .val (.int p5), .val (.int w), .val (.int h1), .val (.ref (ad 1)), .val (.int p3), .val (.int (h1 + (p4 % (2 : Int32)))), .val (.ref b7), .val (.int (0 : Int32)), .val (.int (1 : Int32)), .val (.int (1 : Int32))]) rfl ?_
          show Steps p.tables e below (T33.setTop (mkF m 136 #[.val (.int p1), .val (.int p2), .val (.int p3), .val (.int p4), .val (.int p5), .val (.int w), .val (.int h1), .val (.ref (ad 1)), .val (.int p3), .val (.int (h1 + (p4 % (2 : Int32)))), .val (.ref b7), .val (.int (0 : Int32)), .val (.int (1 : Int32)), .val (.int (1 : Int32))] [])) t
          refine XS.iload X33.here hx rfl (hb hby at_136) rfl ?_
          show Steps p.tables e below (T33.setTop (mkF m 138 #[.val (.int p1), .val (.int p2), .val (.int p3), .val (.int p4), .val (.int p5), .val (.int w), .val (.int h1), .val (.ref (ad 1)), .val (.int p3), .val (.int (h1 + (p4 % (2 : Int32)))), .val (.ref b7), .val (.int (0 : Int32)), .val (.int (1 : Int32)), .val (.int (1 : Int32))] [(.int (1 : Int32))])) t
          refine XS.iload X33.here hx rfl (hb hby at_138) rfl ?_
          show Steps p.tables e below (T33.setTop (mkF m 140 #[.val (.int p1), .val (.int p2), .val (.int p3), .val (.int p4), .val (.int p5), .val (.int w), .val (.int h1), .val (.ref (ad 1)), .val (.int p3), .val (.int (h1 + (p4 % (2 : Int32)))), .val (.ref b7), .val (.int (0 : Int32)), .val (.int (1 : Int32)), .val (.int (1 : Int32))] [(.int (0 : Int32)), (.int (1 : Int32))])) t
          refine XS.ifNo X33.here hx rfl (hb hby at_140) rfl ((if0 _ _).trans (teq (by decide : (0 : Int32) = (0 : Int32))).2) ?_
          show Steps p.tables e below (T33.setTop (mkF m 143 #[.val (.int p1), .val (.int p2), .val (.int p3), .val (.int p4), .val (.int p5), .val (.int w), .val (.int h1), .val (.ref (ad 1)), .val (.int p3), .val (.int (h1 + (p4 % (2 : Int32)))), .val (.ref b7), .val (.int (0 : Int32)), .val (.int (1 : Int32)), .val (.int (1 : Int32))] [(.int (1 : Int32))])) t
          refine XS.iconst X33.here hx rfl (hb hby at_143) ?_
          show Steps p.tables e below (T33.setTop (mkF m 144 #[.val (.int p1), .val (.int p2), .val (.int p3), .val (.int p4), .val (.int p5), .val (.int w), .val (.int h1), .val (.ref (ad 1)), .val (.int p3), .val (.int (h1 + (p4 % (2 : Int32)))), .val (.ref b7), .val (.int (0 : Int32)), .val (.int (1 : Int32)), .val (.int (1 : Int32))] [(.int (1 : Int32)), (.int (1 : Int32))])) t
          refine XS.goto X33.here hx rfl (pc0 := 144) (pc' := 148) rfl (hb hby at_144) (by decide) (by decide) ?_
          show Steps p.tables e below (T33.setTop (mkF m 148 #[.val (.int p1), .val (.int p2), .val (.int p3), .val (.int p4), .val (.int p5), .val (.int w), .val (.int h1), .val (.ref (ad 1)), .val (.int p3), .val (.int (h1 + (p4 % (2 : Int32)))), .val (.ref b7), .val (.int (0 : Int32)), .val (.int (1 : Int32)), .val (.int (1 : Int32))] [(.int (1 : Int32)), (.int (1 : Int32))])) t
          refine XS.icmpNo X33.here hx rfl (hb hby at_148) rfl (teq (by decide : (1 : Int32) = (1 : Int32))).2 ?_
          show Steps p.tables e below (T33.setTop (mkF m 151 #[.val (.int p1), .val (.int p2), .val (.int p3), .val (.int p4), .val (.int p5), .val (.int w), .val (.int h1), .val (.ref (ad 1)), .val (.int p3), .val (.int (h1 + (p4 % (2 : Int32)))), .val (.ref b7), .val (.int (0 : Int32)), .val (.int (1 : Int32)), .val (.int (1 : Int32))] [])) t
          refine XS.iload X33.here hx rfl (hb hby at_151) rfl ?_
          show Steps p.tables e below (T33.setTop (mkF m 153 #[.val (.int p1), .val (.int p2), .val (.int p3), .val (.int p4), .val (.int p5), .val (.int w), .val (.int h1), .val (.ref (ad 1)), .val (.int p3), .val (.int (h1 + (p4 % (2 : Int32)))), .val (.ref b7), .val (.int (0 : Int32)), .val (.int (1 : Int32)), .val (.int (1 : Int32))] [(.int (1 : Int32))])) t
          refine XS.ifNo X33.here hx rfl (hb hby at_153) rfl ((if0 _ _).trans (feq (by decide : ¬ (1 : Int32) = (0 : Int32))).1) ?_
          show Steps p.tables e below (T33.setTop (mkF m 156 #[.val (.int p1), .val (.int p2), .val (.int p3), .val (.int p4), .val (.int p5), .val (.int w), .val (.int h1), .val (.ref (ad 1)), .val (.int p3), .val (.int (h1 + (p4 % (2 : Int32)))), .val (.ref b7), .val (.int (0 : Int32)), .val (.int (1 : Int32)), .val (.int (1 : Int32))] [])) t
          refine XS.iconst X33.here hx rfl (hb hby at_156) ?_
          show Steps p.tables e below (T33.setTop (mkF m 157 #[.val (.int p1), .val (.int p2), .val (.int p3), .val (.int p4), .val (.int p5), .val (.int w), .val (.int h1), .val (.ref (ad 1)), .val (.int p3), .val (.int (h1 + (p4 % (2 : Int32)))), .val (.ref b7), .val (.int (0 : Int32)), .val (.int (1 : Int32)), .val (.int (1 : Int32))] [(.int (1 : Int32))])) t
          refine XS.goto X33.here hx rfl (pc0 := 157) (pc' := 161) rfl (hb hby at_157) (by decide) (by decide) ?_
          exact k)
      obtain ⟨fs, hr, hrun, hended, hend⟩ := X33.leaveW hS (by rw [e33]; exact hk) (v := some (.int (1 : Int32))) (fun h => by rw [Bd.returns] at h; cases h)
      refine ⟨_, _, ch35 _ ?_, hrun, hended, _, _, rfl, ?_, hend.1, hend.2.1, hend.2.2.1, hend.2.2.2.mono (by decide) (by decide)⟩
      · show Steps p.tables e below (T33.setTop (mkF m 161 #[.val (.int p1), .val (.int p2), .val (.int p3), .val (.int p4), .val (.int p5), .val (.int w), .val (.int h1), .val (.ref (ad 1)), .val (.int p3), .val (.int (h1 + (p4 % (2 : Int32)))), .val (.ref b7), .val (.int (0 : Int32)), .val (.int (1 : Int32)), .val (.int (1 : Int32))] [(.int (1 : Int32))])) _
        exact retN X33 hx (t := .boolean) Bd.returns (by simp) (hb hby at_161) hr
      · show QN (some (.int (1 : Int32))) n0 _ T33.heap _
        rw [e33]
        exact ⟨rfl, N33⟩
  · skip
    obtain ⟨cq36, kq36, qa36, qb36, qc36⟩ := isOf hZ eh16 fq16_0
    obtain ⟨vv37, _, ⟨T37, L37, kk37, nn37⟩, -, X37, ⟨Lc37, hQ37, l37, y37, z37⟩, st37⟩ := X16.virtualBack hx (y := (⟨"com/example/leafwright/leafwright/Thumbnails$Candidate", "covers", "(II)Z"⟩ : MethodName)) (z := (⟨"com/example/leafwright/leafwright/Thumbnails$Candidate", "covers", "(II)Z"⟩ : MethodName)) hown (mvT hZ (hw _ (List.mem_of_getElem? (i := 50) rfl))) (mvT hZ (hw _ (List.mem_of_getElem? (i := 51) rfl))) (notFace_of_selects (args := #[]) (mvT hZ (hw _ (List.mem_of_getElem? (i := 53) rfl)))) (mvT hZ (hw _ (List.mem_of_getElem? (i := 53) rfl))) (mvT hZ (hw _ (List.mem_of_getElem? (i := 52) rfl))) (by decide) (backOf (W := 0) (own_cov_a l Z a0 hw [] hh16 n0 (Nat.le_trans Z0 Kp16.1) b7 w h1 p3 (h1 + (p4 % (2 : Int32))) fq16_2 fq16_3 hq18) hZ (hw _ (List.mem_of_getElem? (i := 54) rfl)) (hw _ (List.mem_of_getElem? (i := 10) rfl)) (by decide) (by decide)) qa36 qc36 (g := (mkF m 120 #[.val (.int p1), .val (.int p2), .val (.int p3), .val (.int p4), .val (.int p5), .val (.int w), .val (.int h1), .val (.ref (ad 1)), .val (.int p3), .val (.int (h1 + (p4 % (2 : Int32)))), .val (.ref b7), .val (.int (0 : Int32)), .unset, .unset] [(.int (h1 + (p4 % (2 : Int32)))), (.int p3), (.ref b7)])) rfl (by rw [hml]; rfl) (Steps.refl _) (argsL := [(.int p3), (.int (h1 + (p4 % (2 : Int32))))]) (rest := []) (lenOf own_pd__II_Z rfl) rfl (by show 2 * 0 + _ ≤ _; exact Nat.le_of_eq rfl) (hb hby at_120) (fun _ _ => ⟨rfl, eh16, (by decide : 11 + 0 ≤ _), (by decide : 108 + 0 ≤ _)⟩)
    dsimp only [Pt.U, Pt.locs, Pt.cells, Pt.slots] at X37 l37 y37 z37 st37 hQ37
    subst l37 y37 z37
    obtain ⟨rfl, Nq37, e37⟩ := hQ37
    have N37 := Fr.app N16 Nq37
    have ch38 : ∀ t, Steps p.tables e below (T37.setTop (mkF m 123 #[.val (.int p1), .val (.int p2), .val (.int p3), .val (.int p4), .val (.int p5), .val (.int w), .val (.int h1), .val (.ref (ad 1)), .val (.int p3), .val (.int (h1 + (p4 % (2 : Int32)))), .val (.ref b7), .val (.int (0 : Int32)), .unset, .unset] [(.int (1 : Int32))])) t → Steps p.tables e below (s₁.setTop (entryFrame m #[(.int p1), (.int p2), (.int p3), (.int p4), (.int p5)] maxLocals)) t := fun t k => ch19 t (by
        show Steps p.tables e below (T16.setTop (mkF m 97 #[.val (.int p1), .val (.int p2), .val (.int p3), .val (.int p4), .val (.int p5), .val (.int w), .val (.int h1), .val (.ref (ad 1)), .val (.int p3), .val (.int (h1 + (p4 % (2 : Int32)))), .val (.ref b7), .unset, .unset, .unset] [(.int w), (.int p3)])) t
        refine XS.icmpYes X16.here hx rfl (pc0 := 97) (pc' := 111) rfl (hb hby at_97) rfl (flt hq18).2.2.2 (by decide) (by decide) ?_
        show Steps p.tables e below (T16.setTop (mkF m 111 #[.val (.int p1), .val (.int p2), .val (.int p3), .val (.int p4), .val (.int p5), .val (.int w), .val (.int h1), .val (.ref (ad 1)), .val (.int p3), .val (.int (h1 + (p4 % (2 : Int32)))), .val (.ref b7), .unset, .unset, .unset] [])) t
        refine XS.iconst X16.here hx rfl (hb hby at_111) ?_
        show Steps p.tables e below (T16.setTop (mkF m 112 #[.val (.int p1), .val (.int p2), .val (.int p3), .val (.int p4), .val (.int p5), .val (.int w), .val (.int h1), .val (.ref (ad 1)), .val (.int p3), .val (.int (h1 + (p4 % (2 : Int32)))), .val (.ref b7), .unset, .unset, .unset] [(.int (0 : Int32))])) t
        refine XS.istore X16.here hx rfl (hb hby at_112) rfl (l' := #[.val (.int p1), .val (.int p2), .val (.int p3), .val (.int p4), .val (.int p5), .val (.int w), .val (.int h1), .val (.ref (ad 1)), .val (.int p3), .val (.int (h1 + (p4 % (2 : Int32)))), .val (.ref b7), .val (.int (0 : Int32)), .unset, .unset]) rfl ?_
        show Steps p.tables e below (T16.setTop (mkF m 114 #[.val (.int p1), .val (.int p2), .val (.int p3), .val (.int p4), .val (.int p5), .val (.int w), .val (.int h1), .val (.ref (ad 1)), .val (.int p3), .val (.int (h1 + (p4 % (2 : Int32)))), .val (.ref b7), .val (.int (0 : Int32)), .unset, .unset] [])) t
        refine XS.aload X16.here hx rfl (hb hby at_114) rfl rfl ?_
        show Steps p.tables e below (T16.setTop (mkF m 116 #[.val (.int p1), .val (.int p2), .val (.int p3), .val (.int p4), .val (.int p5), .val (.int w), .val (.int h1), .val (.ref (ad 1)), .val (.int p3), .val (.int (h1 + (p4 % (2 : Int32)))), .val (.ref b7), .val (.int (0 : Int32)), .unset, .unset] [(.ref b7)])) t
        refine XS.iload X16.here hx rfl (hb hby at_116) rfl ?_
        show Steps p.tables e below (T16.setTop (mkF m 118 #[.val (.int p1), .val (.int p2), .val (.int p3), .val (.int p4), .val (.int p5), .val (.int w), .val (.int h1), .val (.ref (ad 1)), .val (.int p3), .val (.int (h1 + (p4 % (2 : Int32)))), .val (.ref b7), .val (.int (0 : Int32)), .unset, .unset] [(.int p3), (.ref b7)])) t
        refine XS.iload X16.here hx rfl (hb hby at_118) rfl ?_
        show Steps p.tables e below (T16.setTop (mkF m 120 #[.val (.int p1), .val (.int p2), .val (.int p3), .val (.int p4), .val (.int p5), .val (.int w), .val (.int h1), .val (.ref (ad 1)), .val (.int p3), .val (.int (h1 + (p4 % (2 : Int32)))), .val (.ref b7), .val (.int (0 : Int32)), .unset, .unset] [(.int (h1 + (p4 % (2 : Int32)))), (.int p3), (.ref b7)])) t
        exact st37.trans k)
    obtain ⟨cq39, kq39, qa39, qb39, qc39⟩ := isOf hZ e37 fq16_0
    obtain ⟨vv40, _, ⟨T40, L40, kk40, nn40⟩, -, X40, ⟨Lc40, hQ40, l40, y40, z40⟩, st40⟩ := X37.virtualBack hx (y := (⟨"com/example/leafwright/leafwright/Thumbnails$Candidate", "covers", "(II)Z"⟩ : MethodName)) (z := (⟨"com/example/leafwright/leafwright/Thumbnails$Candidate", "covers", "(II)Z"⟩ : MethodName)) hown (mvT hZ (hw _ (List.mem_of_getElem? (i := 50) rfl))) (mvT hZ (hw _ (List.mem_of_getElem? (i := 51) rfl))) (notFace_of_selects (args := #[]) (mvT hZ (hw _ (List.mem_of_getElem? (i := 53) rfl)))) (mvT hZ (hw _ (List.mem_of_getElem? (i := 53) rfl))) (mvT hZ (hw _ (List.mem_of_getElem? (i := 52) rfl))) (by decide) (backOf (W := 0) (own_cov_a l Z a0 hw [] hh16 n0 (Nat.le_trans Z0 Kp16.1) b7 w h1 w h1 fq16_2 fq16_3 (Int32.lt_irrefl : ¬ w < w)) hZ (hw _ (List.mem_of_getElem? (i := 54) rfl)) (hw _ (List.mem_of_getElem? (i := 10) rfl)) (by decide) (by decide)) qa39 qc39 (g := (mkF m 131 #[.val (.int p1), .val (.int p2), .val (.int p3), .val (.int p4), .val (.int p5), .val (.int w), .val (.int h1), .val (.ref (ad 1)), .val (.int p3), .val (.int (h1 + (p4 % (2 : Int32)))), .val (.ref b7), .val (.int (0 : Int32)), .val (.int (1 : Int32)), .unset] [(.int h1), (.int w), (.ref b7)])) rfl (by rw [hml]; rfl) (Steps.refl _) (argsL := [(.int w), (.int h1)]) (rest := []) (lenOf own_pd__II_Z rfl) rfl (by show 2 * 0 + _ ≤ _; exact Nat.le_of_eq rfl) (hb hby at_131) (fun _ _ => ⟨rfl, e37, (by decide : 11 + 0 ≤ _), (by decide : 108 + 0 ≤ _)⟩)
    dsimp only [Pt.U, Pt.locs, Pt.cells, Pt.slots] at X40 l40 y40 z40 st40 hQ40
    subst l40 y40 z40
    obtain ⟨rfl, Nq40, e40⟩ := hQ40
    have N40 := Fr.app N37 Nq40
    have ch41 : ∀ t, Steps p.tables e below (T40.setTop (mkF m 134 #[.val (.int p1), .val (.int p2), .val (.int p3), .val (.int p4), .val (.int p5), .val (.int w), .val (.int h1), .val (.ref (ad 1)), .val (.int p3), .val (.int (h1 + (p4 % (2 : Int32)))), .val (.ref b7), .val (.int (0 : Int32)), .val (.int (1 : Int32)), .unset] [(.int (1 : Int32))])) t → Steps p.tables e below (s₁.setTop (entryFrame m #[(.int p1), (.int p2), (.int p3), (.int p4), (.int p5)] maxLocals)) t := fun t k => ch38 t (by
        show Steps p.tables e below (T37.setTop (mkF m 123 #[.val (.int p1), .val (.int p2), .val (.int p3), .val (.int p4), .val (.int p5), .val (.int w), .val (.int h1), .val (.ref (ad 1)), .val (.int p3), .val (.int (h1 + (p4 % (2 : Int32)))), .val (.ref b7), .val (.int (0 : Int32)), .unset, .unset] [(.int (1 : Int32))])) t
        refine XS.istore X37.here hx rfl (hb hby at_123) rfl (l' := #[.val (.int p1), .val (.int p2), .val (.int p3), .val (.int p4), .val (.int p5), .val (.int w), .val (.int h1), .val (.ref (ad 1)), .val (.int p3), .val (.int (h1 + (p4 % (2 : Int32)))), .val (.ref b7), .val (.int (0 : Int32)), .val (.int (1 : Int32)), .unset]) rfl ?_
        show Steps p.tables e below (T37.setTop (mkF m 125 #[.val (.int p1), .val (.int p2), .val (.int p3), .val (.int p4), .val (.int p5), .val (.int w), .val (.int h1), .val (.ref (ad 1)), .val (.int p3), .val (.int (h1 + (p4 % (2 : Int32)))), .val (.ref b7), .val (.int (0 : Int32)), .val (.int (1 : Int32)), .unset] [])) t
        refine XS.aload X37.here hx rfl (hb hby at_125) rfl rfl ?_
        show Steps p.tables e below (T37.setTop (mkF m 127 #[.val (.int p1), .val (.int p2), .val (.int p3), .val (.int p4), .val (.int p5), .val (.int w), .val (.int h1), .val (.ref (ad 1)), .val (.int p3), .val (.int (h1 + (p4 % (2 : Int32)))), .val (.ref b7), .val (.int (0 : Int32)), .val (.int (1 : Int32)), .unset] [(.ref b7)])) t
        refine XS.iload X37.here hx rfl (hb hby at_127) rfl ?_
        show Steps p.tables e below (T37.setTop (mkF m 129 #[.val (.int p1), .val (.int p2), .val (.int p3), .val (.int p4), .val (.int p5), .val (.int w), .val (.int h1), .val (.ref (ad 1)), .val (.int p3), .val (.int (h1 + (p4 % (2 : Int32)))), .val (.ref b7), .val (.int (0 : Int32)), .val (.int (1 : Int32)), .unset] [(.int w), (.ref b7)])) t
        refine XS.iload X37.here hx rfl (hb hby at_129) rfl ?_
        show Steps p.tables e below (T37.setTop (mkF m 131 #[.val (.int p1), .val (.int p2), .val (.int p3), .val (.int p4), .val (.int p5), .val (.int w), .val (.int h1), .val (.ref (ad 1)), .val (.int p3), .val (.int (h1 + (p4 % (2 : Int32)))), .val (.ref b7), .val (.int (0 : Int32)), .val (.int (1 : Int32)), .unset] [(.int h1), (.int w), (.ref b7)])) t
        exact st40.trans k)
    have ch42 : ∀ t, Steps p.tables e below (T40.setTop (mkF m 161 #[.val (.int p1), .val (.int p2), .val (.int p3), .val (.int p4), .val (.int p5), .val (.int w), .val (.int h1), .val (.ref (ad 1)), .val (.int p3), .val (.int (h1 + (p4 % (2 : Int32)))), .val (.ref b7), .val (.int (0 : Int32)), .val (.int (1 : Int32)), .val (.int (1 : Int32))] [(.int (1 : Int32))])) t → Steps p.tables e below (s₁.setTop (entryFrame m #[(.int p1), (.int p2), (.int p3), (.int p4), (.int p5)] maxLocals)) t := fun t k => ch41 t (by
        show Steps p.tables e below (T40.setTop (mkF m 134 #[.val (.int p1), .val (.int p2), .val (.int p3), .val (.int p4), .val (.int p5), .val (.int w), .val (.int h1), .val (.ref (ad 1)), .val (.int p3), .val (.int (h1 + (p4 % (2 : Int32)))), .val (.ref b7), .val (.int (0 : Int32)), .val (.int (1 : Int32)), .unset] [(.int (1 : Int32))])) t
        refine XS.istore X40.here hx rfl (hb hby at_134) rfl (l' := #[.val (.int p1), .val (.int p2), .val (.int p3), .val (.int p4), .val (.int p5), .val (.int w), .val (.int h1), .val (.ref (ad 1)), .val (.int p3), .val (.int (h1 + (p4 % (2 : Int32)))), .val (.ref b7), .val (.int (0 : Int32)), .val (.int (1 : Int32)), .val (.int (1 : Int32))]) rfl ?_
        show Steps p.tables e below (T40.setTop (mkF m 136 #[.val (.int p1), .val (.int p2), .val (.int p3), .val (.int p4), .val (.int p5), .val (.int w), .val (.int h1), .val (.ref (ad 1)), .val (.int p3), .val (.int (h1 + (p4 % (2 : Int32)))), .val (.ref b7), .val (.int (0 : Int32)), .val (.int (1 : Int32)), .val (.int (1 : Int32))] [])) t
        refine XS.iload X40.here hx rfl (hb hby at_136) rfl ?_
        show Steps p.tables e below (T40.setTop (mkF m 138 #[.val (.int p1), .val (.int p2), .val (.int p3), .val (.int p4), .val (.int p5), .val (.int w), .val (.int h1), .val (.ref (ad 1)), .val (.int p3), .val (.int (h1 + (p4 % (2 : Int32)))), .val (.ref b7), .val (.int (0 : Int32)), .val (.int (1 : Int32)), .val (.int (1 : Int32))] [(.int (1 : Int32))])) t
        refine XS.iload X40.here hx rfl (hb hby at_138) rfl ?_
        show Steps p.tables e below (T40.setTop (mkF m 140 #[.val (.int p1), .val (.int p2), .val (.int p3), .val (.int p4), .val (.int p5), .val (.int w), .val (.int h1), .val (.ref (ad 1)), .val (.int p3), .val (.int (h1 + (p4 % (2 : Int32)))), .val (.ref b7), .val (.int (0 : Int32)), .val (.int (1 : Int32)), .val (.int (1 : Int32))] [(.int (0 : Int32)), (.int (1 : Int32))])) t
        refine XS.ifNo X40.here hx rfl (hb hby at_140) rfl ((if0 _ _).trans (teq (by decide : (0 : Int32) = (0 : Int32))).2) ?_
        show Steps p.tables e below (T40.setTop (mkF m 143 #[.val (.int p1), .val (.int p2), .val (.int p3), .val (.int p4), .val (.int p5), .val (.int w), .val (.int h1), .val (.ref (ad 1)), .val (.int p3), .val (.int (h1 + (p4 % (2 : Int32)))), .val (.ref b7), .val (.int (0 : Int32)), .val (.int (1 : Int32)), .val (.int (1 : Int32))] [(.int (1 : Int32))])) t
        refine XS.iconst X40.here hx rfl (hb hby at_143) ?_
        show Steps p.tables e below (T40.setTop (mkF m 144 #[.val (.int p1), .val (.int p2), .val (.int p3), .val (.int p4), .val (.int p5), .val (.int w), .val (.int h1), .val (.ref (ad 1)), .val (.int p3), .val (.int (h1 + (p4 % (2 : Int32)))), .val (.ref b7), .val (.int (0 : Int32)), .val (.int (1 : Int32)), .val (.int (1 : Int32))] [(.int (1 : Int32)), (.int (1 : Int32))])) t
        refine XS.goto X40.here hx rfl (pc0 := 144) (pc' := 148) rfl (hb hby at_144) (by decide) (by decide) ?_
        show Steps p.tables e below (T40.setTop (mkF m 148 #[.val (.int p1), .val (.int p2), .val (.int p3), .val (.int p4), .val (.int p5), .val (.int w), .val (.int h1), .val (.ref (ad 1)), .val (.int p3), .val (.int (h1 + (p4 % (2 : Int32)))), .val (.ref b7), .val (.int (0 : Int32)), .val (.int (1 : Int32)), .val (.int (1 : Int32))] [(.int (1 : Int32)), (.int (1 : Int32))])) t
        refine XS.icmpNo X40.here hx rfl (hb hby at_148) rfl (teq (by decide : (1 : Int32) = (1 : Int32))).2 ?_
        show Steps p.tables e below (T40.setTop (mkF m 151 #[.val (.int p1), .val (.int p2), .val (.int p3), .val (.int p4), .val (.int p5), .val (.int w), .val (.int h1), .val (.ref (ad 1)), .val (.int p3), .val (.int (h1 + (p4 % (2 : Int32)))), .val (.ref b7), .val (.int (0 : Int32)), .val (.int (1 : Int32)), .val (.int (1 : Int32))] [])) t
        refine XS.iload X40.here hx rfl (hb hby at_151) rfl ?_
        show Steps p.tables e below (T40.setTop (mkF m 153 #[.val (.int p1), .val (.int p2), .val (.int p3), .val (.int p4), .val (.int p5), .val (.int w), .val (.int h1), .val (.ref (ad 1)), .val (.int p3), .val (.int (h1 + (p4 % (2 : Int32)))), .val (.ref b7), .val (.int (0 : Int32)), .val (.int (1 : Int32)), .val (.int (1 : Int32))] [(.int (1 : Int32))])) t
        refine XS.ifNo X40.here hx rfl (hb hby at_153) rfl ((if0 _ _).trans (feq (by decide : ¬ (1 : Int32) = (0 : Int32))).1) ?_
        show Steps p.tables e below (T40.setTop (mkF m 156 #[.val (.int p1), .val (.int p2), .val (.int p3), .val (.int p4), .val (.int p5), .val (.int w), .val (.int h1), .val (.ref (ad 1)), .val (.int p3), .val (.int (h1 + (p4 % (2 : Int32)))), .val (.ref b7), .val (.int (0 : Int32)), .val (.int (1 : Int32)), .val (.int (1 : Int32))] [])) t
        refine XS.iconst X40.here hx rfl (hb hby at_156) ?_
        show Steps p.tables e below (T40.setTop (mkF m 157 #[.val (.int p1), .val (.int p2), .val (.int p3), .val (.int p4), .val (.int p5), .val (.int w), .val (.int h1), .val (.ref (ad 1)), .val (.int p3), .val (.int (h1 + (p4 % (2 : Int32)))), .val (.ref b7), .val (.int (0 : Int32)), .val (.int (1 : Int32)), .val (.int (1 : Int32))] [(.int (1 : Int32))])) t
        refine XS.goto X40.here hx rfl (pc0 := 157) (pc' := 161) rfl (hb hby at_157) (by decide) (by decide) ?_
        exact k)
    obtain ⟨fs, hr, hrun, hended, hend⟩ := X40.leaveW hS (by rw [e40]; exact hk) (v := some (.int (1 : Int32))) (fun h => by rw [Bd.returns] at h; cases h)
    refine ⟨_, _, ch42 _ ?_, hrun, hended, _, _, rfl, ?_, hend.1, hend.2.1, hend.2.2.1, hend.2.2.2.mono (by decide) (by decide)⟩
    · show Steps p.tables e below (T40.setTop (mkF m 161 #[.val (.int p1), .val (.int p2), .val (.int p3), .val (.int p4), .val (.int p5), .val (.int w), .val (.int h1), .val (.ref (ad 1)), .val (.int p3), .val (.int (h1 + (p4 % (2 : Int32)))), .val (.ref b7), .val (.int (0 : Int32)), .val (.int (1 : Int32)), .val (.int (1 : Int32))] [(.int (1 : Int32))])) _
      exact retN X40 hx (t := .boolean) Bd.returns (by simp) (hb hby at_161) hr
    · show QN (some (.int (1 : Int32))) n0 _ T40.heap _
      rw [e40]
      exact ⟨rfl, N40⟩
theorem own_ef_own_law_110 (m : MethodId) {x0 : Int32} {x1 : Int32} {x2 : Int32} {x3 : Int32} {x4 : Int32} : entryFrame m #[(.int x0), (.int x1), (.int x2), (.int x3), (.int x4)] maxLocals = mkF m 0 #[.val (.int x0), .val (.int x1), .val (.int x2), .val (.int x3), .val (.int x4), .unset, .unset, .unset, .unset, .unset, .unset, .unset, .unset, .unset] [] := by first | (simp [entryFrame, mkF, argsToLocals, Value.category, maxLocals]; done) | rfl
set_option maxRecDepth 65536 in
set_option maxHeartbeats 40000000 in
theorem own_law_110 (l : Launch) (Z : State) (a0 : Array Value) (hw : ∀ d ∈ tables_1, d.before a0 Z = true) (ws : List Jvm.Cond) (h0 : Heap) (n0 : Nat) (Z0 : n0 ≤ h0.size) (p1 p2 p3 p4 p5 w h1 : Int32) (HW : MetFree l (⟨"java/lang/Math", "max", "(II)I"⟩ : MethodName) (head1 (Jvm.Cond.code (⟨"java/lang/Math", "max", "(II)I"⟩ : MethodName) jdk_29_method_65_code 2 (some .int) :: []) ({ frames := 0, cells := 0, slots := 0, locals := 0 } : Room)) (fun a U => a = #[(.int (1 : Int32)), (.int (p1 &&& (2147483647 : Int32)))] ∧ Z.Warmed39 U.vm ∧ U.heap = h0) (fun _ _ _ _ _ => True) (fun _ U o U' => ∃ v L, o = .returned v ∧ QV (some (.int w)) h0 n0 v U'.heap L ∧ FrameEnd U o U' L ({ frames := 0, cells := 0, slots := 0, locals := 0 } : Room).cells ({ frames := 0, cells := 0, slots := 0, locals := 0 } : Room).slots)) (HH : MetFree l (⟨"java/lang/Math", "max", "(II)I"⟩ : MethodName) (head1 (Jvm.Cond.code (⟨"java/lang/Math", "max", "(II)I"⟩ : MethodName) jdk_29_method_65_code 2 (some .int) :: []) ({ frames := 0, cells := 0, slots := 0, locals := 0 } : Room)) (fun a U => a = #[(.int (1 : Int32)), (.int (p2 &&& (2147483647 : Int32)))] ∧ Z.Warmed39 U.vm ∧ U.heap = h0) (fun _ _ _ _ _ => True) (fun _ U o U' => ∃ v L, o = .returned v ∧ QV (some (.int h1)) h0 n0 v U'.heap L ∧ FrameEnd U o U' L ({ frames := 0, cells := 0, slots := 0, locals := 0 } : Room).cells ({ frames := 0, cells := 0, slots := 0, locals := 0 } : Room).slots)) (pw : (0 : Int32) < w) (ph : (0 : Int32) < h1) (s0 : ¬ (p5 &&& (1 : Int32)) = (0 : Int32)) (s1 : ¬ (p5 &&& (2 : Int32)) = (0 : Int32)) (s2 : (p5 &&& (4 : Int32)) = (0 : Int32)) (ad : Nat → Addr) (W : OwnWd Z h0 ad) :
    MetFree l x (head1 (Jvm.Cond.code x code maxLocals ret :: ws) room_1) (fun a U => a = #[(.int p1), (.int p2), (.int p3), (.int p4), (.int p5)] ∧ Z.Warmed39 U.vm ∧ U.heap = h0) (fun _ _ _ _ _ => True) (fun _ U o U' => ∃ v L, o = .returned v ∧ QN (some (.int (1 : Int32))) n0 v U'.heap L ∧ ReturnedEndW U o U' L room_1.cells room_1.slots) := by
  refine MetFree.of_bodySF (plainFor_of_name own_pn_com_example_leafwright_leafwright_CandidateCoversPinLaw) hisR ?_
  intro p e s m args below meth c s₁ Bd hml0 hP hK
  obtain ⟨rfl, hZ, hh⟩ := hP
  have hx := Bd.exec
  have hby := Bd.bytes
  have hml : c.maxLocals = 14 := hml0
  have hown : s.vm.findClass "com/example/leafwright/leafwright/CandidateCoversPinLaw" = some m.cls := (findClass_of_methodNamed Bd.named :)
  have hnm := (name_of_methodNamed Bd.named Bd.method).1
  have X0 : Stand p l e room_1 (s.setVm s.vm) m #[(.int p1), (.int p2), (.int p3), (.int p4), (.int p5)] below meth c s₁ [] 0 0 := Stand.of_body Bd
  have hZ : Z.Warmed39 (s.setVm s.vm).vm := hZ
  have hown : (s.setVm s.vm).vm.findClass "com/example/leafwright/leafwright/CandidateCoversPinLaw" = some m.cls := hown
  have hS : s.Since s.vm 0 := (State.WarmedH.refl s).since 0
  have hk : 0 ≤ h0.size := Nat.zero_le _
  have e0 : s₁.heap = h0 := by rw [← hh, Bd.state]; rfl
  have N0 := Fr.nil n0
  have pre0 : ∀ t, Steps p.tables e below (s₁.setTop (mkF m 0 #[.val (.int p1), .val (.int p2), .val (.int p3), .val (.int p4), .val (.int p5), .unset, .unset, .unset, .unset, .unset, .unset, .unset, .unset, .unset] [])) t → Steps p.tables e below (s₁.setTop (entryFrame m #[(.int p1), (.int p2), (.int p3), (.int p4), (.int p5)] maxLocals)) t := fun t k => castTop (own_ef_own_law_110 m) k
  obtain ⟨vv1, _, ⟨T1, L1, kk1, nn1⟩, -, X1, ⟨Lc1, hQ1, l1, y1, z1⟩, st1⟩ := Jvm.LawKit.callS X0 hx (y := (⟨"java/lang/Math", "max", "(II)I"⟩ : MethodName)) hown (mvT hZ (hw _ (List.mem_of_getElem? (i := 1) rfl))) (mvT hZ (hw _ (List.mem_of_getElem? (i := 2) rfl))) (mvT hZ (hw _ (List.mem_of_getElem? (i := 3) rfl))) (mvT hZ (hw _ (List.mem_of_getElem? (i := 4) rfl))) (by decide) (backOf (W := 0) HW hZ (hw _ (List.mem_of_getElem? (i := 4) rfl)) (hw _ (List.mem_of_getElem? (i := 3) rfl)) (by decide) (by decide)) (g := (mkF m 5 #[.val (.int p1), .val (.int p2), .val (.int p3), .val (.int p4), .val (.int p5), .unset, .unset, .unset, .unset, .unset, .unset, .unset, .unset, .unset] [(.int (p1 &&& (2147483647 : Int32))), (.int (1 : Int32))])) rfl (by rw [hml]; rfl) (argsL := [(.int (1 : Int32)), (.int (p1 &&& (2147483647 : Int32)))]) (rest := []) (lenOf own_pd__II_I rfl) rfl (by show 2 * 0 + _ ≤ _; exact Nat.le_of_eq rfl) (hb hby at_5) (fun _ _ => ⟨rfl, e0, (by decide : 0 + 0 ≤ _), (by decide : 0 + 0 ≤ _)⟩)
  dsimp only [Pt.U, Pt.locs, Pt.cells, Pt.slots] at X1 l1 y1 z1 st1 hQ1
  subst l1 y1 z1
  obtain ⟨rfl, Nq1, e1⟩ := hQ1
  have N1 := Fr.app N0 Nq1
  have ch2 : ∀ t, Steps p.tables e below (T1.setTop (mkF m 8 #[.val (.int p1), .val (.int p2), .val (.int p3), .val (.int p4), .val (.int p5), .unset, .unset, .unset, .unset, .unset, .unset, .unset, .unset, .unset] [(.int w)])) t → Steps p.tables e below (s₁.setTop (entryFrame m #[(.int p1), (.int p2), (.int p3), (.int p4), (.int p5)] maxLocals)) t := fun t k => pre0 t (by
      show Steps p.tables e below (s₁.setTop (mkF m 0 #[.val (.int p1), .val (.int p2), .val (.int p3), .val (.int p4), .val (.int p5), .unset, .unset, .unset, .unset, .unset, .unset, .unset, .unset, .unset] [])) t
      refine XS.iconst X0.here hx rfl (hb hby at_0) ?_
      show Steps p.tables e below (s₁.setTop (mkF m 1 #[.val (.int p1), .val (.int p2), .val (.int p3), .val (.int p4), .val (.int p5), .unset, .unset, .unset, .unset, .unset, .unset, .unset, .unset, .unset] [(.int (1 : Int32))])) t
      refine XS.iloadN X0.here hx rfl (hb hby at_1) rfl ?_
      show Steps p.tables e below (s₁.setTop (mkF m 2 #[.val (.int p1), .val (.int p2), .val (.int p3), .val (.int p4), .val (.int p5), .unset, .unset, .unset, .unset, .unset, .unset, .unset, .unset, .unset] [(.int p1), (.int (1 : Int32))])) t
      refine X0.ldcInt hx hown (mvT hZ (hw _ (List.mem_of_getElem? (i := 0) rfl))) (g := (mkF m 2 #[.val (.int p1), .val (.int p2), .val (.int p3), .val (.int p4), .val (.int p5), .unset, .unset, .unset, .unset, .unset, .unset, .unset, .unset, .unset] [(.int p1), (.int (1 : Int32))])) rfl (hb hby at_2) _ ?_
      show Steps p.tables e below (s₁.setTop (mkF m 4 #[.val (.int p1), .val (.int p2), .val (.int p3), .val (.int p4), .val (.int p5), .unset, .unset, .unset, .unset, .unset, .unset, .unset, .unset, .unset] [(.int (2147483647 : Int32)), (.int p1), (.int (1 : Int32))])) t
      refine XS.iand X0.here hx rfl (hb hby at_4) rfl ?_
      show Steps p.tables e below (s₁.setTop (mkF m 5 #[.val (.int p1), .val (.int p2), .val (.int p3), .val (.int p4), .val (.int p5), .unset, .unset, .unset, .unset, .unset, .unset, .unset, .unset, .unset] [(.int (p1 &&& (2147483647 : Int32))), (.int (1 : Int32))])) t
      exact st1 t k)
  obtain ⟨vv3, _, ⟨T3, L3, kk3, nn3⟩, -, X3, ⟨Lc3, hQ3, l3, y3, z3⟩, st3⟩ := Jvm.LawKit.callS X1 hx (y := (⟨"java/lang/Math", "max", "(II)I"⟩ : MethodName)) hown (mvT hZ (hw _ (List.mem_of_getElem? (i := 1) rfl))) (mvT hZ (hw _ (List.mem_of_getElem? (i := 2) rfl))) (mvT hZ (hw _ (List.mem_of_getElem? (i := 3) rfl))) (mvT hZ (hw _ (List.mem_of_getElem? (i := 4) rfl))) (by decide) (backOf (W := 0) HH hZ (hw _ (List.mem_of_getElem? (i := 4) rfl)) (hw _ (List.mem_of_getElem? (i := 3) rfl)) (by decide) (by decide)) (g := (mkF m 15 #[.val (.int p1), .val (.int p2), .val (.int p3), .val (.int p4), .val (.int p5), .val (.int w), .unset, .unset, .unset, .unset, .unset, .unset, .unset, .unset] [(.int (p2 &&& (2147483647 : Int32))), (.int (1 : Int32))])) rfl (by rw [hml]; rfl) (argsL := [(.int (1 : Int32)), (.int (p2 &&& (2147483647 : Int32)))]) (rest := []) (lenOf own_pd__II_I rfl) rfl (by show 2 * 0 + _ ≤ _; exact Nat.le_of_eq rfl) (hb hby at_15) (fun _ _ => ⟨rfl, e1, (by decide : 0 + 0 ≤ _), (by decide : 0 + 0 ≤ _)⟩)
  dsimp only [Pt.U, Pt.locs, Pt.cells, Pt.slots] at X3 l3 y3 z3 st3 hQ3
  subst l3 y3 z3
  obtain ⟨rfl, Nq3, e3⟩ := hQ3
  have N3 := Fr.app N1 Nq3
  have ch4 : ∀ t, Steps p.tables e below (T3.setTop (mkF m 18 #[.val (.int p1), .val (.int p2), .val (.int p3), .val (.int p4), .val (.int p5), .val (.int w), .unset, .unset, .unset, .unset, .unset, .unset, .unset, .unset] [(.int h1)])) t → Steps p.tables e below (s₁.setTop (entryFrame m #[(.int p1), (.int p2), (.int p3), (.int p4), (.int p5)] maxLocals)) t := fun t k => ch2 t (by
      show Steps p.tables e below (T1.setTop (mkF m 8 #[.val (.int p1), .val (.int p2), .val (.int p3), .val (.int p4), .val (.int p5), .unset, .unset, .unset, .unset, .unset, .unset, .unset, .unset, .unset] [(.int w)])) t
      refine XS.istore X1.here hx rfl (hb hby at_8) rfl (l' := #[.val (.int p1), .val (.int p2), .val (.int p3), .val (.int p4), .val (.int p5), .val (.int w), .unset, .unset, .unset, .unset, .unset, .unset, .unset, .unset]) rfl ?_
      show Steps p.tables e below (T1.setTop (mkF m 10 #[.val (.int p1), .val (.int p2), .val (.int p3), .val (.int p4), .val (.int p5), .val (.int w), .unset, .unset, .unset, .unset, .unset, .unset, .unset, .unset] [])) t
      refine XS.iconst X1.here hx rfl (hb hby at_10) ?_
      show Steps p.tables e below (T1.setTop (mkF m 11 #[.val (.int p1), .val (.int p2), .val (.int p3), .val (.int p4), .val (.int p5), .val (.int w), .unset, .unset, .unset, .unset, .unset, .unset, .unset, .unset] [(.int (1 : Int32))])) t
      refine XS.iloadN X1.here hx rfl (hb hby at_11) rfl ?_
      show Steps p.tables e below (T1.setTop (mkF m 12 #[.val (.int p1), .val (.int p2), .val (.int p3), .val (.int p4), .val (.int p5), .val (.int w), .unset, .unset, .unset, .unset, .unset, .unset, .unset, .unset] [(.int p2), (.int (1 : Int32))])) t
      refine X1.ldcInt hx hown (mvT hZ (hw _ (List.mem_of_getElem? (i := 0) rfl))) (g := (mkF m 12 #[.val (.int p1), .val (.int p2), .val (.int p3), .val (.int p4), .val (.int p5), .val (.int w), .unset, .unset, .unset, .unset, .unset, .unset, .unset, .unset] [(.int p2), (.int (1 : Int32))])) rfl (hb hby at_12) _ ?_
      show Steps p.tables e below (T1.setTop (mkF m 14 #[.val (.int p1), .val (.int p2), .val (.int p3), .val (.int p4), .val (.int p5), .val (.int w), .unset, .unset, .unset, .unset, .unset, .unset, .unset, .unset] [(.int (2147483647 : Int32)), (.int p2), (.int (1 : Int32))])) t
      refine XS.iand X1.here hx rfl (hb hby at_14) rfl ?_
      show Steps p.tables e below (T1.setTop (mkF m 15 #[.val (.int p1), .val (.int p2), .val (.int p3), .val (.int p4), .val (.int p5), .val (.int w), .unset, .unset, .unset, .unset, .unset, .unset, .unset, .unset] [(.int (p2 &&& (2147483647 : Int32))), (.int (1 : Int32))])) t
      exact st3 t k)
  obtain ⟨T5, X5, e5, st5⟩ := getS2 X3 hx hZ hown (host := "") (Or.inl (hw _ (List.mem_of_getElem? (i := 55) rfl))) Via.refl e3 (own_S_SIZE W) (g := (mkF m 27 #[.val (.int p1), .val (.int p2), .val (.int p3), .val (.int p4), .val (.int p5), .val (.int w), .val (.int h1), .unset, .unset, .unset, .unset, .unset, .unset, .unset] [])) rfl (hb hby at_27)
  have ch6 : ∀ t, Steps p.tables e below (T5.setTop (mkF m 30 #[.val (.int p1), .val (.int p2), .val (.int p3), .val (.int p4), .val (.int p5), .val (.int w), .val (.int h1), .unset, .unset, .unset, .unset, .unset, .unset, .unset] [(.ref (ad 1))])) t → Steps p.tables e below (s₁.setTop (entryFrame m #[(.int p1), (.int p2), (.int p3), (.int p4), (.int p5)] maxLocals)) t := fun t k => ch4 t (by
      show Steps p.tables e below (T3.setTop (mkF m 18 #[.val (.int p1), .val (.int p2), .val (.int p3), .val (.int p4), .val (.int p5), .val (.int w), .unset, .unset, .unset, .unset, .unset, .unset, .unset, .unset] [(.int h1)])) t
      refine XS.istore X3.here hx rfl (hb hby at_18) rfl (l' := #[.val (.int p1), .val (.int p2), .val (.int p3), .val (.int p4), .val (.int p5), .val (.int w), .val (.int h1), .unset, .unset, .unset, .unset, .unset, .unset, .unset]) rfl ?_
      show Steps p.tables e below (T3.setTop (mkF m 20 #[.val (.int p1), .val (.int p2), .val (.int p3), .val (.int p4), .val (.int p5), .val (.int w), .val (.int h1), .unset, .unset, .unset, .unset, .unset, .unset, .unset] [])) t
      refine XS.iload X3.here hx rfl (hb hby at_20) rfl ?_
      show Steps p.tables e below (T3.setTop (mkF m 22 #[.val (.int p1), .val (.int p2), .val (.int p3), .val (.int p4), .val (.int p5), .val (.int w), .val (.int h1), .unset, .unset, .unset, .unset, .unset, .unset, .unset] [(.int p5)])) t
      refine XS.iconst X3.here hx rfl (hb hby at_22) ?_
      show Steps p.tables e below (T3.setTop (mkF m 23 #[.val (.int p1), .val (.int p2), .val (.int p3), .val (.int p4), .val (.int p5), .val (.int w), .val (.int h1), .unset, .unset, .unset, .unset, .unset, .unset, .unset] [(.int (1 : Int32)), (.int p5)])) t
      refine XS.iand X3.here hx rfl (hb hby at_23) rfl ?_
      show Steps p.tables e below (T3.setTop (mkF m 24 #[.val (.int p1), .val (.int p2), .val (.int p3), .val (.int p4), .val (.int p5), .val (.int w), .val (.int h1), .unset, .unset, .unset, .unset, .unset, .unset, .unset] [(.int (p5 &&& (1 : Int32)))])) t
      refine XS.ifNo X3.here hx rfl (hb hby at_24) rfl ((if0 _ _).trans (feq s0).1) ?_
      show Steps p.tables e below (T3.setTop (mkF m 27 #[.val (.int p1), .val (.int p2), .val (.int p3), .val (.int p4), .val (.int p5), .val (.int w), .val (.int h1), .unset, .unset, .unset, .unset, .unset, .unset, .unset] [])) t
      exact st5 t k)
  obtain ⟨T7, hp7, X7, e7, E7, A7, D7, -, st7⟩ := newO X5 hx hZ hown (hw _ (List.mem_of_getElem? (i := 8) rfl)) (hw _ (List.mem_of_getElem? (i := 9) rfl)) (hw _ (List.mem_of_getElem? (i := 10) rfl)) e5 (g := (mkF m 76 #[.val (.int p1), .val (.int p2), .val (.int p3), .val (.int p4), .val (.int p5), .val (.int w), .val (.int h1), .val (.ref (ad 1)), .val (.int (w + (p3 % (2 : Int32)))), .val (.int p4), .unset, .unset, .unset, .unset] [])) rfl (hb hby at_76) (by decide) (by decide)
  obtain ⟨b7, g7⟩ : ∃ z, z = h0.size := ⟨_, rfl⟩
  rw [← g7] at A7 D7 st7
  have ne_ad0_b7 : (ad 0) ≠ b7 := Nat.ne_of_lt (Nat.lt_of_lt_of_le (own_E_DECLARED W).lt (Nat.le_of_eq g7.symm))
  have ne_ad1_b7 : (ad 1) ≠ b7 := Nat.ne_of_lt (Nat.lt_of_lt_of_le (own_E_SIZE W).lt (Nat.le_of_eq g7.symm))
  have g_b7 : n0 ≤ b7 := Nat.le_trans (Nat.le_trans Z0 (Keep.refl h0 []).1) (Nat.le_of_eq g7.symm)
  have sz_b7 : h0.size ≤ b7 := Nat.le_trans (Keep.refl h0 []).1 (Nat.le_of_eq g7.symm)
  have hk := Nat.le_trans hk E7.1
  have Kp7 := Keep.ext (Keep.refl h0 []) E7
  have F7_43 : Fld Z hp7 b7 "com/example/leafwright/leafwright/Thumbnails$Candidate" "url" "Ljava/lang/String;" .null := D7 (Or.inr (hw _ (List.mem_of_getElem? (i := 43) rfl))) (ty := (.object "java/lang/String")) (by decide)
  have F7_45 : Fld Z hp7 b7 "com/example/leafwright/leafwright/Thumbnails$Candidate" "width" "I" (.int (0 : Int32)) := D7 (Or.inr (hw _ (List.mem_of_getElem? (i := 45) rfl))) (ty := .int) (by decide)
  have F7_47 : Fld Z hp7 b7 "com/example/leafwright/leafwright/Thumbnails$Candidate" "height" "I" (.int (0 : Int32)) := D7 (Or.inr (hw _ (List.mem_of_getElem? (i := 47) rfl))) (ty := .int) (by decide)
  have F7_49 : Fld Z hp7 b7 "com/example/leafwright/leafwright/Thumbnails$Candidate" "source" "Lcom/example/leafwright/leafwright/Thumbnails$Source;" .null := D7 (Or.inr (hw _ (List.mem_of_getElem? (i := 49) rfl))) (ty := (.object "com/example/leafwright/leafwright/Thumbnails$Source")) (by decide)
  have ch8 : ∀ t, Steps p.tables e below (T7.setTop (mkF m 79 #[.val (.int p1), .val (.int p2), .val (.int p3), .val (.int p4), .val (.int p5), .val (.int w), .val (.int h1), .val (.ref (ad 1)), .val (.int (w + (p3 % (2 : Int32)))), .val (.int p4), .unset, .unset, .unset, .unset] [(.ref b7)])) t → Steps p.tables e below (s₁.setTop (entryFrame m #[(.int p1), (.int p2), (.int p3), (.int p4), (.int p5)] maxLocals)) t := fun t k => ch6 t (by
      show Steps p.tables e below (T5.setTop (mkF m 30 #[.val (.int p1), .val (.int p2), .val (.int p3), .val (.int p4), .val (.int p5), .val (.int w), .val (.int h1), .unset, .unset, .unset, .unset, .unset, .unset, .unset] [(.ref (ad 1))])) t
      refine XS.goto X5.here hx rfl (pc0 := 30) (pc' := 36) rfl (hb hby at_30) (by decide) (by decide) ?_
      show Steps p.tables e below (T5.setTop (mkF m 36 #[.val (.int p1), .val (.int p2), .val (.int p3), .val (.int p4), .val (.int p5), .val (.int w), .val (.int h1), .unset, .unset, .unset, .unset, .unset, .unset, .unset] [(.ref (ad 1))])) t
      refine XS.astore X5.here hx rfl (hb hby at_36) rfl rfl (l' := #[.val (.int p1), .val (.int p2), .val (.int p3), .val (.int p4), .val (.int p5), .val (.int w), .val (.int h1), .val (.ref (ad 1)), .unset, .unset, .unset, .unset, .unset, .unset]) rfl ?_
      show Steps p.tables e below (T5.setTop (mkF m 38 #[.val (.int p1), .val (.int p2), .val (.int p3), .val (.int p4), .val (.int p5), .val (.int w), .val (.int h1), .val (.ref (ad 1)), .unset, .unset, .unset, .unset, .unset, .unset] [])) t
      refine XS.iload X5.here hx rfl (hb hby at_38) rfl ?_
      show Steps p.tables e below (T5.setTop (mkF m 40 #[.val (.int p1), .val (.int p2), .val (.int p3), .val (.int p4), .val (.int p5), .val (.int w), .val (.int h1), .val (.ref (ad 1)), .unset, .unset, .unset, .unset, .unset, .unset] [(.int p5)])) t
      refine XS.iconst X5.here hx rfl (hb hby at_40) ?_
      show Steps p.tables e below (T5.setTop (mkF m 41 #[.val (.int p1), .val (.int p2), .val (.int p3), .val (.int p4), .val (.int p5), .val (.int w), .val (.int h1), .val (.ref (ad 1)), .unset, .unset, .unset, .unset, .unset, .unset] [(.int (2 : Int32)), (.int p5)])) t
      refine XS.iand X5.here hx rfl (hb hby at_41) rfl ?_
      show Steps p.tables e below (T5.setTop (mkF m 42 #[.val (.int p1), .val (.int p2), .val (.int p3), .val (.int p4), .val (.int p5), .val (.int w), .val (.int h1), .val (.ref (ad 1)), .unset, .unset, .unset, .unset, .unset, .unset] [(.int (p5 &&& (2 : Int32)))])) t
      refine XS.ifNo X5.here hx rfl (hb hby at_42) rfl ((if0 _ _).trans (feq s1).1) ?_
      show Steps p.tables e below (T5.setTop (mkF m 45 #[.val (.int p1), .val (.int p2), .val (.int p3), .val (.int p4), .val (.int p5), .val (.int w), .val (.int h1), .val (.ref (ad 1)), .unset, .unset, .unset, .unset, .unset, .unset] [])) t
      refine XS.iload X5.here hx rfl (hb hby at_45) rfl ?_
      show Steps p.tables e below (T5.setTop (mkF m 47 #[.val (.int p1), .val (.int p2), .val (.int p3), .val (.int p4), .val (.int p5), .val (.int w), .val (.int h1), .val (.ref (ad 1)), .unset, .unset, .unset, .unset, .unset, .unset] [(.int w)])) t
      refine XS.iloadN X5.here hx rfl (hb hby at_47) rfl ?_
      show Steps p.tables e below (T5.setTop (mkF m 48 #[.val (.int p1), .val (.int p2), .val (.int p3), .val (.int p4), .val (.int p5), .val (.int w), .val (.int h1), .val (.ref (ad 1)), .unset, .unset, .unset, .unset, .unset, .unset] [(.int p3), (.int w)])) t
      refine XS.iconst X5.here hx rfl (hb hby at_48) ?_
      show Steps p.tables e below (T5.setTop (mkF m 49 #[.val (.int p1), .val (.int p2), .val (.int p3), .val (.int p4), .val (.int p5), .val (.int w), .val (.int h1), .val (.ref (ad 1)), .unset, .unset, .unset, .unset, .unset, .unset] [(.int (2 : Int32)), (.int p3), (.int w)])) t
      refine Jvm.RoadKit.iremM (g := (mkF m 49 #[.val (.int p1), .val (.int p2), .val (.int p3), .val (.int p4), .val (.int p5), .val (.int w), .val (.int h1), .val (.ref (ad 1)), .unset, .unset, .unset, .unset, .unset, .unset] [(.int (2 : Int32)), (.int p3), (.int w)])) X5 hx rfl (hb hby at_49) rfl (by decide) ?_
      show Steps p.tables e below (T5.setTop (mkF m 50 #[.val (.int p1), .val (.int p2), .val (.int p3), .val (.int p4), .val (.int p5), .val (.int w), .val (.int h1), .val (.ref (ad 1)), .unset, .unset, .unset, .unset, .unset, .unset] [(.int (p3 % (2 : Int32))), (.int w)])) t
      refine XS.iadd X5.here hx rfl (hb hby at_50) rfl ?_
      show Steps p.tables e below (T5.setTop (mkF m 51 #[.val (.int p1), .val (.int p2), .val (.int p3), .val (.int p4), .val (.int p5), .val (.int w), .val (.int h1), .val (.ref (ad 1)), .unset, .unset, .unset, .unset, .unset, .unset] [(.int (w + (p3 % (2 : Int32))))])) t
      refine XS.goto X5.here hx rfl (pc0 := 51) (pc' := 55) rfl (hb hby at_51) (by decide) (by decide) ?_
      show Steps p.tables e below (T5.setTop (mkF m 55 #[.val (.int p1), .val (.int p2), .val (.int p3), .val (.int p4), .val (.int p5), .val (.int w), .val (.int h1), .val (.ref (ad 1)), .unset, .unset, .unset, .unset, .unset, .unset] [(.int (w + (p3 % (2 : Int32))))])) t
      refine XS.istore X5.here hx rfl (hb hby at_55) rfl (l' := #[.val (.int p1), .val (.int p2), .val (.int p3), .val (.int p4), .val (.int p5), .val (.int w), .val (.int h1), .val (.ref (ad 1)), .val (.int (w + (p3 % (2 : Int32)))), .unset, .unset, .unset, .unset, .unset]) rfl ?_
      show Steps p.tables e below (T5.setTop (mkF m 57 #[.val (.int p1), .val (.int p2), .val (.int p3), .val (.int p4), .val (.int p5), .val (.int w), .val (.int h1), .val (.ref (ad 1)), .val (.int (w + (p3 % (2 : Int32)))), .unset, .unset, .unset, .unset, .unset] [])) t
      refine XS.iload X5.here hx rfl (hb hby at_57) rfl ?_
      show Steps p.tables e below (T5.setTop (mkF m 59 #[.val (.int p1), .val (.int p2), .val (.int p3), .val (.int p4), .val (.int p5), .val (.int w), .val (.int h1), .val (.ref (ad 1)), .val (.int (w + (p3 % (2 : Int32)))), .unset, .unset, .unset, .unset, .unset] [(.int p5)])) t
      refine XS.iconst X5.here hx rfl (hb hby at_59) ?_
      show Steps p.tables e below (T5.setTop (mkF m 60 #[.val (.int p1), .val (.int p2), .val (.int p3), .val (.int p4), .val (.int p5), .val (.int w), .val (.int h1), .val (.ref (ad 1)), .val (.int (w + (p3 % (2 : Int32)))), .unset, .unset, .unset, .unset, .unset] [(.int (4 : Int32)), (.int p5)])) t
      refine XS.iand X5.here hx rfl (hb hby at_60) rfl ?_
      show Steps p.tables e below (T5.setTop (mkF m 61 #[.val (.int p1), .val (.int p2), .val (.int p3), .val (.int p4), .val (.int p5), .val (.int w), .val (.int h1), .val (.ref (ad 1)), .val (.int (w + (p3 % (2 : Int32)))), .unset, .unset, .unset, .unset, .unset] [(.int (p5 &&& (4 : Int32)))])) t
      refine XS.ifYes X5.here hx rfl (pc0 := 61) (pc' := 73) rfl (hb hby at_61) rfl ((if0 _ _).trans (teq s2).1) (by decide) (by decide) ?_
      show Steps p.tables e below (T5.setTop (mkF m 73 #[.val (.int p1), .val (.int p2), .val (.int p3), .val (.int p4), .val (.int p5), .val (.int w), .val (.int h1), .val (.ref (ad 1)), .val (.int (w + (p3 % (2 : Int32)))), .unset, .unset, .unset, .unset, .unset] [])) t
      refine XS.iloadN X5.here hx rfl (hb hby at_73) rfl ?_
      show Steps p.tables e below (T5.setTop (mkF m 74 #[.val (.int p1), .val (.int p2), .val (.int p3), .val (.int p4), .val (.int p5), .val (.int w), .val (.int h1), .val (.ref (ad 1)), .val (.int (w + (p3 % (2 : Int32)))), .unset, .unset, .unset, .unset, .unset] [(.int p4)])) t
      refine XS.istore X5.here hx rfl (hb hby at_74) rfl (l' := #[.val (.int p1), .val (.int p2), .val (.int p3), .val (.int p4), .val (.int p5), .val (.int w), .val (.int h1), .val (.ref (ad 1)), .val (.int (w + (p3 % (2 : Int32)))), .val (.int p4), .unset, .unset, .unset, .unset]) rfl ?_
      show Steps p.tables e below (T5.setTop (mkF m 76 #[.val (.int p1), .val (.int p2), .val (.int p3), .val (.int p4), .val (.int p5), .val (.int w), .val (.int h1), .val (.ref (ad 1)), .val (.int (w + (p3 % (2 : Int32)))), .val (.int p4), .unset, .unset, .unset, .unset] [])) t
      exact st7 t k)
  obtain ⟨ls9, T9, hp9, ks9, X9, e9, E9, hS, hk, hZ, hown, st9⟩ := ldcS X7 hx hZ hown (hw _ (List.mem_of_getElem? (i := 11) rfl)) (own_wS hw) e7 hS hk (g := (mkF m 80 #[.val (.int p1), .val (.int p2), .val (.int p3), .val (.int p4), .val (.int p5), .val (.int w), .val (.int h1), .val (.ref (ad 1)), .val (.int (w + (p3 % (2 : Int32)))), .val (.int p4), .unset, .unset, .unset, .unset] [(.ref b7), (.ref b7)])) rfl (hb hby at_80) (n := 4) (by decide) (by decide) (by decide) (by decide)
  have Kp9 := Keep.ext Kp7 E9
  have ch10 : ∀ t, Steps p.tables e below (T9.setTop (mkF m 82 #[.val (.int p1), .val (.int p2), .val (.int p3), .val (.int p4), .val (.int p5), .val (.int w), .val (.int h1), .val (.ref (ad 1)), .val (.int (w + (p3 % (2 : Int32)))), .val (.int p4), .unset, .unset, .unset, .unset] [(.ref ls9), (.ref b7), (.ref b7)])) t → Steps p.tables e below (s₁.setTop (entryFrame m #[(.int p1), (.int p2), (.int p3), (.int p4), (.int p5)] maxLocals)) t := fun t k => ch8 t (by
      show Steps p.tables e below (T7.setTop (mkF m 79 #[.val (.int p1), .val (.int p2), .val (.int p3), .val (.int p4), .val (.int p5), .val (.int w), .val (.int h1), .val (.ref (ad 1)), .val (.int (w + (p3 % (2 : Int32)))), .val (.int p4), .unset, .unset, .unset, .unset] [(.ref b7)])) t
      refine XS.dup X7.here hx rfl (hb hby at_79) rfl rfl ?_
      show Steps p.tables e below (T7.setTop (mkF m 80 #[.val (.int p1), .val (.int p2), .val (.int p3), .val (.int p4), .val (.int p5), .val (.int w), .val (.int h1), .val (.ref (ad 1)), .val (.int (w + (p3 % (2 : Int32)))), .val (.int p4), .unset, .unset, .unset, .unset] [(.ref b7), (.ref b7)])) t
      exact st9 t k)
  have cf11 := (A7.ext E9)
  have cf12 := (F7_43.ext E9)
  have cf13 := (F7_45.ext E9)
  have cf14 := (F7_47.ext E9)
  have cf15 := (F7_49.ext E9)
  obtain ⟨vv16, _, ⟨T16, L16, kk16, nn16⟩, -, X16, hS2, hgr, ⟨Lc16, hQ16, l16, y16, z16⟩, st16⟩ := X9.specialBackS hx (y := (⟨"com/example/leafwright/leafwright/Thumbnails$Candidate", "<init>", "(Ljava/lang/String;IILcom/example/leafwright/leafwright/Thumbnails$Source;)V"⟩ : MethodName)) rfl hown (mvT hZ (hw _ (List.mem_of_getElem? (i := 19) rfl))) (mvT hZ (hw _ (List.mem_of_getElem? (i := 20) rfl))) (mvT hZ (hw _ (List.mem_of_getElem? (i := 21) rfl))) (by decide) (backOfS (W := 1) (own_ini l Z a0 hw [] hp9 n0 (Nat.le_trans Z0 Kp9.1) b7 ls9 w h1 (ad 1) cf11 cf12 cf13 cf14 cf15 g_b7 pw ph) hZ (hw _ (List.mem_of_getElem? (i := 21) rfl)) (hw _ (List.mem_of_getElem? (i := 10) rfl)) (by decide) (by decide)) (g := (mkF m 88 #[.val (.int p1), .val (.int p2), .val (.int p3), .val (.int p4), .val (.int p5), .val (.int w), .val (.int h1), .val (.ref (ad 1)), .val (.int (w + (p3 % (2 : Int32)))), .val (.int p4), .unset, .unset, .unset, .unset] [(.ref (ad 1)), (.int h1), (.int w), (.ref ls9), (.ref b7), (.ref b7)])) rfl (by rw [hml]; rfl) (Steps.refl _) (a := b7) (argsL := [(.ref ls9), (.int w), (.int h1), (.ref (ad 1))]) (rest := [(.ref b7)]) (lenOf own_pd__Ljava_lang_String_IILcom_example_leafwright_leafwright_Thumbnails_Source__V rfl) rfl (by show 2 * 0 + _ ≤ _; exact Nat.le_of_eq rfl) (hb hby at_88) (fun _ _ => ⟨rfl, e9, (by decide : 3 + 8 ≤ _), (by decide : 12 + 96 ≤ _)⟩)
  dsimp only [Pt.U, Pt.locs, Pt.cells, Pt.slots] at X16 l16 y16 z16 st16 hQ16 hS2 hgr
  subst l16 y16 z16
  obtain ⟨X16, hS, hZ, hown⟩ := rebS hS (by rw [e9]; exact hk) X16 hS2 hgr hZ hown
  obtain ⟨hh16, eh16⟩ : ∃ h, T16.heap = h := ⟨_, rfl⟩
  rw [eh16] at hQ16
  rw [eh16] at hS
  have hk : hh16.size ≤ hh16.size := Nat.le_refl _
  obtain ⟨rfl, Nq16, Kq16, fq16_0, fq16_1, fq16_2, fq16_3, fq16_4⟩ := hQ16
  have N16 := Fr.app N3 Nq16
  have Kp16 := Keep.trans Kp9 Kq16 (allS (Or.inr sz_b7) all0)
  have ch17 : ∀ t, Steps p.tables e below (T16.setTop (mkF m 91 #[.val (.int p1), .val (.int p2), .val (.int p3), .val (.int p4), .val (.int p5), .val (.int w), .val (.int h1), .val (.ref (ad 1)), .val (.int (w + (p3 % (2 : Int32)))), .val (.int p4), .unset, .unset, .unset, .unset] [(.ref b7)])) t → Steps p.tables e below (s₁.setTop (entryFrame m #[(.int p1), (.int p2), (.int p3), (.int p4), (.int p5)] maxLocals)) t := fun t k => ch10 t (by
      show Steps p.tables e below (T9.setTop (mkF m 82 #[.val (.int p1), .val (.int p2), .val (.int p3), .val (.int p4), .val (.int p5), .val (.int w), .val (.int h1), .val (.ref (ad 1)), .val (.int (w + (p3 % (2 : Int32)))), .val (.int p4), .unset, .unset, .unset, .unset] [(.ref ls9), (.ref b7), (.ref b7)])) t
      refine XS.iload X9.here hx rfl (hb hby at_82) rfl ?_
      show Steps p.tables e below (T9.setTop (mkF m 84 #[.val (.int p1), .val (.int p2), .val (.int p3), .val (.int p4), .val (.int p5), .val (.int w), .val (.int h1), .val (.ref (ad 1)), .val (.int (w + (p3 % (2 : Int32)))), .val (.int p4), .unset, .unset, .unset, .unset] [(.int w), (.ref ls9), (.ref b7), (.ref b7)])) t
      refine XS.iload X9.here hx rfl (hb hby at_84) rfl ?_
      show Steps p.tables e below (T9.setTop (mkF m 86 #[.val (.int p1), .val (.int p2), .val (.int p3), .val (.int p4), .val (.int p5), .val (.int w), .val (.int h1), .val (.ref (ad 1)), .val (.int (w + (p3 % (2 : Int32)))), .val (.int p4), .unset, .unset, .unset, .unset] [(.int h1), (.int w), (.ref ls9), (.ref b7), (.ref b7)])) t
      refine XS.aload X9.here hx rfl (hb hby at_86) rfl rfl ?_
      show Steps p.tables e below (T9.setTop (mkF m 88 #[.val (.int p1), .val (.int p2), .val (.int p3), .val (.int p4), .val (.int p5), .val (.int w), .val (.int h1), .val (.ref (ad 1)), .val (.int (w + (p3 % (2 : Int32)))), .val (.int p4), .unset, .unset, .unset, .unset] [(.ref (ad 1)), (.int h1), (.int w), (.ref ls9), (.ref b7), (.ref b7)])) t
      exact st16.trans k)
  have ch19 : ∀ t, Steps p.tables e below (T16.setTop (mkF m 97 #[.val (.int p1), .val (.int p2), .val (.int p3), .val (.int p4), .val (.int p5), .val (.int w), .val (.int h1), .val (.ref (ad 1)), .val (.int (w + (p3 % (2 : Int32)))), .val (.int p4), .val (.ref b7), .unset, .unset, .unset] [(.int w), (.int (w + (p3 % (2 : Int32))))])) t → Steps p.tables e below (s₁.setTop (entryFrame m #[(.int p1), (.int p2), (.int p3), (.int p4), (.int p5)] maxLocals)) t := fun t k => ch17 t (by
      show Steps p.tables e below (T16.setTop (mkF m 91 #[.val (.int p1), .val (.int p2), .val (.int p3), .val (.int p4), .val (.int p5), .val (.int w), .val (.int h1), .val (.ref (ad 1)), .val (.int (w + (p3 % (2 : Int32)))), .val (.int p4), .unset, .unset, .unset, .unset] [(.ref b7)])) t
      refine XS.astore X16.here hx rfl (hb hby at_91) rfl rfl (l' := #[.val (.int p1), .val (.int p2), .val (.int p3), .val (.int p4), .val (.int p5), .val (.int w), .val (.int h1), .val (.ref (ad 1)), .val (.int (w + (p3 % (2 : Int32)))), .val (.int p4), .val (.ref b7), .unset, .unset, .unset]) rfl ?_
      show Steps p.tables e below (T16.setTop (mkF m 93 #[.val (.int p1), .val (.int p2), .val (.int p3), .val (.int p4), .val (.int p5), .val (.int w), .val (.int h1), .val (.ref (ad 1)), .val (.int (w + (p3 % (2 : Int32)))), .val (.int p4), .val (.ref b7), .unset, .unset, .unset] [])) t
      refine XS.iload X16.here hx rfl (hb hby at_93) rfl ?_
      show Steps p.tables e below (T16.setTop (mkF m 95 #[.val (.int p1), .val (.int p2), .val (.int p3), .val (.int p4), .val (.int p5), .val (.int w), .val (.int h1), .val (.ref (ad 1)), .val (.int (w + (p3 % (2 : Int32)))), .val (.int p4), .val (.ref b7), .unset, .unset, .unset] [(.int (w + (p3 % (2 : Int32))))])) t
      refine XS.iload X16.here hx rfl (hb hby at_95) rfl ?_
      exact k)
  by_cases hq18 : w < (w + (p3 % (2 : Int32)))
  · skip
    have ch21 : ∀ t, Steps p.tables e below (T16.setTop (mkF m 104 #[.val (.int p1), .val (.int p2), .val (.int p3), .val (.int p4), .val (.int p5), .val (.int w), .val (.int h1), .val (.ref (ad 1)), .val (.int (w + (p3 % (2 : Int32)))), .val (.int p4), .val (.ref b7), .unset, .unset, .unset] [(.int h1), (.int p4)])) t → Steps p.tables e below (s₁.setTop (entryFrame m #[(.int p1), (.int p2), (.int p3), (.int p4), (.int p5)] maxLocals)) t := fun t k => ch19 t (by
        show Steps p.tables e below (T16.setTop (mkF m 97 #[.val (.int p1), .val (.int p2), .val (.int p3), .val (.int p4), .val (.int p5), .val (.int w), .val (.int h1), .val (.ref (ad 1)), .val (.int (w + (p3 % (2 : Int32)))), .val (.int p4), .val (.ref b7), .unset, .unset, .unset] [(.int w), (.int (w + (p3 % (2 : Int32))))])) t
        refine XS.icmpNo X16.here hx rfl (hb hby at_97) rfl (tlt hq18).2.2.2 ?_
        show Steps p.tables e below (T16.setTop (mkF m 100 #[.val (.int p1), .val (.int p2), .val (.int p3), .val (.int p4), .val (.int p5), .val (.int w), .val (.int h1), .val (.ref (ad 1)), .val (.int (w + (p3 % (2 : Int32)))), .val (.int p4), .val (.ref b7), .unset, .unset, .unset] [])) t
        refine XS.iload X16.here hx rfl (hb hby at_100) rfl ?_
        show Steps p.tables e below (T16.setTop (mkF m 102 #[.val (.int p1), .val (.int p2), .val (.int p3), .val (.int p4), .val (.int p5), .val (.int w), .val (.int h1), .val (.ref (ad 1)), .val (.int (w + (p3 % (2 : Int32)))), .val (.int p4), .val (.ref b7), .unset, .unset, .unset] [(.int p4)])) t
        refine XS.iload X16.here hx rfl (hb hby at_102) rfl ?_
        exact k)
    by_cases hq20 : h1 < p4
    · skip
      obtain ⟨cq22, kq22, qa22, qb22, qc22⟩ := isOf hZ eh16 fq16_0
      obtain ⟨vv23, _, ⟨T23, L23, kk23, nn23⟩, -, X23, ⟨Lc23, hQ23, l23, y23, z23⟩, st23⟩ := X16.virtualBack hx (y := (⟨"com/example/leafwright/leafwright/Thumbnails$Candidate", "covers", "(II)Z"⟩ : MethodName)) (z := (⟨"com/example/leafwright/leafwright/Thumbnails$Candidate", "covers", "(II)Z"⟩ : MethodName)) hown (mvT hZ (hw _ (List.mem_of_getElem? (i := 50) rfl))) (mvT hZ (hw _ (List.mem_of_getElem? (i := 51) rfl))) (notFace_of_selects (args := #[]) (mvT hZ (hw _ (List.mem_of_getElem? (i := 53) rfl)))) (mvT hZ (hw _ (List.mem_of_getElem? (i := 53) rfl))) (mvT hZ (hw _ (List.mem_of_getElem? (i := 52) rfl))) (by decide) (backOf (W := 0) (own_cov_c l Z a0 hw [] hh16 n0 (Nat.le_trans Z0 Kp16.1) b7 w h1 (w + (p3 % (2 : Int32))) p4 fq16_2 fq16_3 hq18 hq20) hZ (hw _ (List.mem_of_getElem? (i := 54) rfl)) (hw _ (List.mem_of_getElem? (i := 10) rfl)) (by decide) (by decide)) qa22 qc22 (g := (mkF m 120 #[.val (.int p1), .val (.int p2), .val (.int p3), .val (.int p4), .val (.int p5), .val (.int w), .val (.int h1), .val (.ref (ad 1)), .val (.int (w + (p3 % (2 : Int32)))), .val (.int p4), .val (.ref b7), .val (.int (1 : Int32)), .unset, .unset] [(.int p4), (.int (w + (p3 % (2 : Int32)))), (.ref b7)])) rfl (by rw [hml]; rfl) (Steps.refl _) (argsL := [(.int (w + (p3 % (2 : Int32)))), (.int p4)]) (rest := []) (lenOf own_pd__II_Z rfl) rfl (by show 2 * 0 + _ ≤ _; exact Nat.le_of_eq rfl) (hb hby at_120) (fun _ _ => ⟨rfl, eh16, (by decide : 11 + 0 ≤ _), (by decide : 108 + 0 ≤ _)⟩)
      dsimp only [Pt.U, Pt.locs, Pt.cells, Pt.slots] at X23 l23 y23 z23 st23 hQ23
      subst l23 y23 z23
      obtain ⟨rfl, Nq23, e23⟩ := hQ23
      have N23 := Fr.app N16 Nq23
      have ch24 : ∀ t, Steps p.tables e below (T23.setTop (mkF m 123 #[.val (.int p1), .val (.int p2), .val (.int p3), .val (.int p4), .val (.int p5), .val (.int w), .val (.int h1), .val (.ref (ad 1)), .val (.int (w + (p3 % (2 : Int32)))), .val (.int p4), .val (.ref b7), .val (.int (1 : Int32)), .unset, .unset] [(.int (0 : Int32))])) t → Steps p.tables e below (s₁.setTop (entryFrame m #[(.int p1), (.int p2), (.int p3), (.int p4), (.int p5)] maxLocals)) t := fun t k => ch21 t (by
          show Steps p.tables e below (T16.setTop (mkF m 104 #[.val (.int p1), .val (.int p2), .val (.int p3), .val (.int p4), .val (.int p5), .val (.int w), .val (.int h1), .val (.ref (ad 1)), .val (.int (w + (p3 % (2 : Int32)))), .val (.int p4), .val (.ref b7), .unset, .unset, .unset] [(.int h1), (.int p4)])) t
          refine XS.icmpNo X16.here hx rfl (hb hby at_104) rfl (tlt hq20).2.2.2 ?_
          show Steps p.tables e below (T16.setTop (mkF m 107 #[.val (.int p1), .val (.int p2), .val (.int p3), .val (.int p4), .val (.int p5), .val (.int w), .val (.int h1), .val (.ref (ad 1)), .val (.int (w + (p3 % (2 : Int32)))), .val (.int p4), .val (.ref b7), .unset, .unset, .unset] [])) t
          refine XS.iconst X16.here hx rfl (hb hby at_107) ?_
          show Steps p.tables e below (T16.setTop (mkF m 108 #[.val (.int p1), .val (.int p2), .val (.int p3), .val (.int p4), .val (.int p5), .val (.int w), .val (.int h1), .val (.ref (ad 1)), .val (.int (w + (p3 % (2 : Int32)))), .val (.int p4), .val (.ref b7), .unset, .unset, .unset] [(.int (1 : Int32))])) t
          refine XS.goto X16.here hx rfl (pc0 := 108) (pc' := 112) rfl (hb hby at_108) (by decide) (by decide) ?_
          show Steps p.tables e below (T16.setTop (mkF m 112 #[.val (.int p1), .val (.int p2), .val (.int p3), .val (.int p4), .val (.int p5), .val (.int w), .val (.int h1), .val (.ref (ad 1)), .val (.int (w + (p3 % (2 : Int32)))), .val (.int p4), .val (.ref b7), .unset, .unset, .unset] [(.int (1 : Int32))])) t
          refine XS.istore X16.here hx rfl (hb hby at_112) rfl (l' := #[.val (.int p1), .val (.int p2), .val (.int p3), .val (.int p4), .val (.int p5), .val (.int w), .val (.int h1), .val (.ref (ad 1)), .val (.int (w + (p3 % (2 : Int32)))), .val (.int p4), .val (.ref b7), .val (.int (1 : Int32)), .unset, .unset]) rfl ?_
          show Steps p.tables e below (T16.setTop (mkF m 114 #[.val (.int p1), .val (.int p2), .val (.int p3), .val (.int p4), .val (.int p5), .val (.int w), .val (.int h1), .val (.ref (ad 1)), .val (.int (w + (p3 % (2 : Int32)))), .val (.int p4), .val (.ref b7), .val (.int (1 : Int32)), .unset, .unset] [])) t
          refine XS.aload X16.here hx rfl (hb hby at_114) rfl rfl ?_
          show Steps p.tables e below (T16.setTop (mkF m 116 #[.val (.int p1), .val (.int p2), .val (.int p3), .val (.int p4), .val (.int p5), .val (.int w), .val (.int h1), .val (.ref (ad 1)), .val (.int (w + (p3 % (2 : Int32)))), .val (.int p4), .val (.ref b7), .val (.int (1 : Int32)), .unset, .unset] [(.ref b7)])) t
          refine XS.iload X16.here hx rfl (hb hby at_116) rfl ?_
          show Steps p.tables e below (T16.setTop (mkF m 118 #[.val (.int p1), .val (.int p2), .val (.int p3), .val (.int p4), .val (.int p5), .val (.int w), .val (.int h1), .val (.ref (ad 1)), .val (.int (w + (p3 % (2 : Int32)))), .val (.int p4), .val (.ref b7), .val (.int (1 : Int32)), .unset, .unset] [(.int (w + (p3 % (2 : Int32)))), (.ref b7)])) t
          refine XS.iload X16.here hx rfl (hb hby at_118) rfl ?_
          show Steps p.tables e below (T16.setTop (mkF m 120 #[.val (.int p1), .val (.int p2), .val (.int p3), .val (.int p4), .val (.int p5), .val (.int w), .val (.int h1), .val (.ref (ad 1)), .val (.int (w + (p3 % (2 : Int32)))), .val (.int p4), .val (.ref b7), .val (.int (1 : Int32)), .unset, .unset] [(.int p4), (.int (w + (p3 % (2 : Int32)))), (.ref b7)])) t
          exact st23.trans k)
      obtain ⟨cq25, kq25, qa25, qb25, qc25⟩ := isOf hZ e23 fq16_0
      obtain ⟨vv26, _, ⟨T26, L26, kk26, nn26⟩, -, X26, ⟨Lc26, hQ26, l26, y26, z26⟩, st26⟩ := X23.virtualBack hx (y := (⟨"com/example/leafwright/leafwright/Thumbnails$Candidate", "covers", "(II)Z"⟩ : MethodName)) (z := (⟨"com/example/leafwright/leafwright/Thumbnails$Candidate", "covers", "(II)Z"⟩ : MethodName)) hown (mvT hZ (hw _ (List.mem_of_getElem? (i := 50) rfl))) (mvT hZ (hw _ (List.mem_of_getElem? (i := 51) rfl))) (notFace_of_selects (args := #[]) (mvT hZ (hw _ (List.mem_of_getElem? (i := 53) rfl)))) (mvT hZ (hw _ (List.mem_of_getElem? (i := 53) rfl))) (mvT hZ (hw _ (List.mem_of_getElem? (i := 52) rfl))) (by decide) (backOf (W := 0) (own_cov_a l Z a0 hw [] hh16 n0 (Nat.le_trans Z0 Kp16.1) b7 w h1 w h1 fq16_2 fq16_3 (Int32.lt_irrefl : ¬ w < w)) hZ (hw _ (List.mem_of_getElem? (i := 54) rfl)) (hw _ (List.mem_of_getElem? (i := 10) rfl)) (by decide) (by decide)) qa25 qc25 (g := (mkF m 131 #[.val (.int p1), .val (.int p2), .val (.int p3), .val (.int p4), .val (.int p5), .val (.int w), .val (.int h1), .val (.ref (ad 1)), .val (.int (w + (p3 % (2 : Int32)))), .val (.int p4), .val (.ref b7), .val (.int (1 : Int32)), .val (.int (0 : Int32)), .unset] [(.int h1), (.int w), (.ref b7)])) rfl (by rw [hml]; rfl) (Steps.refl _) (argsL := [(.int w), (.int h1)]) (rest := []) (lenOf own_pd__II_Z rfl) rfl (by show 2 * 0 + _ ≤ _; exact Nat.le_of_eq rfl) (hb hby at_131) (fun _ _ => ⟨rfl, e23, (by decide : 11 + 0 ≤ _), (by decide : 108 + 0 ≤ _)⟩)
      dsimp only [Pt.U, Pt.locs, Pt.cells, Pt.slots] at X26 l26 y26 z26 st26 hQ26
      subst l26 y26 z26
      obtain ⟨rfl, Nq26, e26⟩ := hQ26
      have N26 := Fr.app N23 Nq26
      have ch27 : ∀ t, Steps p.tables e below (T26.setTop (mkF m 134 #[.val (.int p1), .val (.int p2), .val (.int p3), .val (.int p4), .val (.int p5), .val (.int w), .val (.int h1), .val (.ref (ad 1)), .val (.int (w + (p3 % (2 : Int32)))), .val (.int p4), .val (.ref b7), .val (.int (1 : Int32)), .val (.int (0 : Int32)), .unset] [(.int (1 : Int32))])) t → Steps p.tables e below (s₁.setTop (entryFrame m #[(.int p1), (.int p2), (.int p3), (.int p4), (.int p5)] maxLocals)) t := fun t k => ch24 t (by
          show Steps p.tables e below (T23.setTop (mkF m 123 #[.val (.int p1), .val (.int p2), .val (.int p3), .val (.int p4), .val (.int p5), .val (.int w), .val (.int h1), .val (.ref (ad 1)), .val (.int (w + (p3 % (2 : Int32)))), .val (.int p4), .val (.ref b7), .val (.int (1 : Int32)), .unset, .unset] [(.int (0 : Int32))])) t
          refine XS.istore X23.here hx rfl (hb hby at_123) rfl (l' := #[.val (.int p1), .val (.int p2), .val (.int p3), .val (.int p4), .val (.int p5), .val (.int w), .val (.int h1), .val (.ref (ad 1)), .val (.int (w + (p3 % (2 : Int32)))), .val (.int p4), .val (.ref b7), .val (.int (1 : Int32)), .val (.int (0 : Int32)), .unset]) rfl ?_
          show Steps p.tables e below (T23.setTop (mkF m 125 #[.val (.int p1), .val (.int p2), .val (.int p3), .val (.int p4), .val (.int p5), .val (.int w), .val (.int h1), .val (.ref (ad 1)), .val (.int (w + (p3 % (2 : Int32)))), .val (.int p4), .val (.ref b7), .val (.int (1 : Int32)), .val (.int (0 : Int32)), .unset] [])) t
          refine XS.aload X23.here hx rfl (hb hby at_125) rfl rfl ?_
          show Steps p.tables e below (T23.setTop (mkF m 127 #[.val (.int p1), .val (.int p2), .val (.int p3), .val (.int p4), .val (.int p5), .val (.int w), .val (.int h1), .val (.ref (ad 1)), .val (.int (w + (p3 % (2 : Int32)))), .val (.int p4), .val (.ref b7), .val (.int (1 : Int32)), .val (.int (0 : Int32)), .unset] [(.ref b7)])) t
          refine XS.iload X23.here hx rfl (hb hby at_127) rfl ?_
          show Steps p.tables e below (T23.setTop (mkF m 129 #[.val (.int p1), .val (.int p2), .val (.int p3), .val (.int p4), .val (.int p5), .val (.int w), .val (.int h1), .val (.ref (ad 1)), .val (.int (w + (p3 % (2 : Int32)))), .val (.int p4), .val (.ref b7), .val (.int (1 : Int32)), .val (.int (0 : Int32)), .unset] [(.int w), (.ref b7)])) t
          refine XS.iload X23.here hx rfl (hb hby at_129) rfl ?_
          show Steps p.tables e below (T23.setTop (mkF m 131 #[.val (.int p1), .val (.int p2), .val (.int p3), .val (.int p4), .val (.int p5), .val (.int w), .val (.int h1), .val (.ref (ad 1)), .val (.int (w + (p3 % (2 : Int32)))), .val (.int p4), .val (.ref b7), .val (.int (1 : Int32)), .val (.int (0 : Int32)), .unset] [(.int h1), (.int w), (.ref b7)])) t
          exact st26.trans k)
      have ch28 : ∀ t, Steps p.tables e below (T26.setTop (mkF m 161 #[.val (.int p1), .val (.int p2), .val (.int p3), .val (.int p4), .val (.int p5), .val (.int w), .val (.int h1), .val (.ref (ad 1)), .val (.int (w + (p3 % (2 : Int32)))), .val (.int p4), .val (.ref b7), .val (.int (1 : Int32)), .val (.int (0 : Int32)), .val (.int (1 : Int32))] [(.int (1 : Int32))])) t → Steps p.tables e below (s₁.setTop (entryFrame m #[(.int p1), (.int p2), (.int p3), (.int p4), (.int p5)] maxLocals)) t := fun t k => ch27 t (by
          show Steps p.tables e below (T26.setTop (mkF m 134 #[.val (.int p1), .val (.int p2), .val (.int p3), .val (.int p4), .val (.int p5), .val (.int w), .val (.int h1), .val (.ref (ad 1)), .val (.int (w + (p3 % (2 : Int32)))), .val (.int p4), .val (.ref b7), .val (.int (1 : Int32)), .val (.int (0 : Int32)), .unset] [(.int (1 : Int32))])) t
          refine XS.istore X26.here hx rfl (hb hby at_134) rfl (l' := #[.val (.int p1), .val (.int p2), .val (.int p3), .val (.int p4), .val (.int p5), .val (.int w), .val (.int h1), .val (.ref (ad 1)), .val (.int (w + (p3 % (2 : Int32)))), .val (.int p4), .val (.ref b7), .val (.int (1 : Int32)), .val (.int (0 : Int32)), .val (.int (1 : Int32))]) rfl ?_
          show Steps p.tables e below (T26.setTop (mkF m 136 #[.val (.int p1), .val (.int p2), .val (.int p3), .val (.int p4), .val (.int p5), .val (.int w), .val (.int h1), .val (.ref (ad 1)), .val (.int (w + (p3 % (2 : Int32)))), .val (.int p4), .val (.ref b7), .val (.int (1 : Int32)), .val (.int (0 : Int32)), .val (.int (1 : Int32))] [])) t
          refine XS.iload X26.here hx rfl (hb hby at_136) rfl ?_
          show Steps p.tables e below (T26.setTop (mkF m 138 #[.val (.int p1), .val (.int p2), .val (.int p3), .val (.int p4), .val (.int p5), .val (.int w), .val (.int h1), .val (.ref (ad 1)), .val (.int (w + (p3 % (2 : Int32)))), .val (.int p4), .val (.ref b7), .val (.int (1 : Int32)), .val (.int (0 : Int32)), .val (.int (1 : Int32))] [(.int (0 : Int32))])) t
          refine XS.iload X26.here hx rfl (hb hby at_138) rfl ?_
          show Steps p.tables e below (T26.setTop (mkF m 140 #[.val (.int p1), .val (.int p2), .val (.int p3), .val (.int p4), .val (.int p5), .val (.int w), .val (.int h1), .val (.ref (ad 1)), .val (.int (w + (p3 % (2 : Int32)))), .val (.int p4), .val (.ref b7), .val (.int (1 : Int32)), .val (.int (0 : Int32)), .val (.int (1 : Int32))] [(.int (1 : Int32)), (.int (0 : Int32))])) t
          refine XS.ifYes X26.here hx rfl (pc0 := 140) (pc' := 147) rfl (hb hby at_140) rfl ((if0 _ _).trans (feq (by decide : ¬ (1 : Int32) = (0 : Int32))).2) (by decide) (by decide) ?_
          show Steps p.tables e below (T26.setTop (mkF m 147 #[.val (.int p1), .val (.int p2), .val (.int p3), .val (.int p4), .val (.int p5), .val (.int w), .val (.int h1), .val (.ref (ad 1)), .val (.int (w + (p3 % (2 : Int32)))), .val (.int p4), .val (.ref b7), .val (.int (1 : Int32)), .val (.int (0 : Int32)), .val (.int (1 : Int32))] [(.int (0 : Int32))])) t
          refine XS.iconst X26.here hx rfl (hb hby at_147) ?_
          show Steps p.tables e below (T26.setTop (mkF m 148 #[.val (.int p1), .val (.int p2), .val (.int p3), .val (.int p4), .val (.int p5), .val (.int w), .val (.int h1), .val (.ref (ad 1)), .val (.int (w + (p3 % (2 : Int32)))), .val (.int p4), .val (.ref b7), .val (.int (1 : Int32)), .val (.int (0 : Int32)), .val (.int (1 : Int32))] [(.int (0 : Int32)), (.int (0 : Int32))])) t
          refine XS.icmpNo X26.here hx rfl (hb hby at_148) rfl (teq (by decide : (0 : Int32) = (0 : Int32))).2 ?_
          show Steps p.tables e below (T26.setTop (mkF m 151 #[.val (.int p1), .val (.int p2), .val (.int p3), .val (.int p4), .val (.int p5), .val (.int w), .val (.int h1), .val (.ref (ad 1)), .val (.int (w + (p3 % (2 : Int32)))), .val (.int p4), .val (.ref b7), .val (.int (1 : Int32)), .val (.int (0 : Int32)), .val (.int (1 : Int32))] [])) t
          refine XS.iload X26.here hx rfl (hb hby at_151) rfl ?_
          show Steps p.tables e below (T26.setTop (mkF m 153 #[.val (.int p1), .val (.int p2), .val (.int p3), .val (.int p4), .val (.int p5), .val (.int w), .val (.int h1), .val (.ref (ad 1)), .val (.int (w + (p3 % (2 : Int32)))), .val (.int p4), .val (.ref b7), .val (.int (1 : Int32)), .val (.int (0 : Int32)), .val (.int (1 : Int32))] [(.int (1 : Int32))])) t
          refine XS.ifNo X26.here hx rfl (hb hby at_153) rfl ((if0 _ _).trans (feq (by decide : ¬ (1 : Int32) = (0 : Int32))).1) ?_
          show Steps p.tables e below (T26.setTop (mkF m 156 #[.val (.int p1), .val (.int p2), .val (.int p3), .val (.int p4), .val (.int p5), .val (.int w), .val (.int h1), .val (.ref (ad 1)), .val (.int (w + (p3 % (2 : Int32)))), .val (.int p4), .val (.ref b7), .val (.int (1 : Int32)), .val (.int (0 : Int32)), .val (.int (1 : Int32))] [])) t
          refine XS.iconst X26.here hx rfl (hb hby at_156) ?_
          show Steps p.tables e below (T26.setTop (mkF m 157 #[.val (.int p1), .val (.int p2), .val (.int p3), .val (.int p4), .val (.int p5), .val (.int w), .val (.int h1), .val (.ref (ad 1)), .val (.int (w + (p3 % (2 : Int32)))), .val (.int p4), .val (.ref b7), .val (.int (1 : Int32)), .val (.int (0 : Int32)), .val (.int (1 : Int32))] [(.int (1 : Int32))])) t
          refine XS.goto X26.here hx rfl (pc0 := 157) (pc' := 161) rfl (hb hby at_157) (by decide) (by decide) ?_
          exact k)
      obtain ⟨fs, hr, hrun, hended, hend⟩ := X26.leaveW hS (by rw [e26]; exact hk) (v := some (.int (1 : Int32))) (fun h => by rw [Bd.returns] at h; cases h)
      refine ⟨_, _, ch28 _ ?_, hrun, hended, _, _, rfl, ?_, hend.1, hend.2.1, hend.2.2.1, hend.2.2.2.mono (by decide) (by decide)⟩
      · show Steps p.tables e below (T26.setTop (mkF m 161 #[.val (.int p1), .val (.int p2), .val (.int p3), .val (.int p4), .val (.int p5), .val (.int w), .val (.int h1), .val (.ref (ad 1)), .val (.int (w + (p3 % (2 : Int32)))), .val (.int p4), .val (.ref b7), .val (.int (1 : Int32)), .val (.int (0 : Int32)), .val (.int (1 : Int32))] [(.int (1 : Int32))])) _
        exact retN X26 hx (t := .boolean) Bd.returns (by simp) (hb hby at_161) hr
      · show QN (some (.int (1 : Int32))) n0 _ T26.heap _
        rw [e26]
        exact ⟨rfl, N26⟩
    · skip
      obtain ⟨cq29, kq29, qa29, qb29, qc29⟩ := isOf hZ eh16 fq16_0
      obtain ⟨vv30, _, ⟨T30, L30, kk30, nn30⟩, -, X30, ⟨Lc30, hQ30, l30, y30, z30⟩, st30⟩ := X16.virtualBack hx (y := (⟨"com/example/leafwright/leafwright/Thumbnails$Candidate", "covers", "(II)Z"⟩ : MethodName)) (z := (⟨"com/example/leafwright/leafwright/Thumbnails$Candidate", "covers", "(II)Z"⟩ : MethodName)) hown (mvT hZ (hw _ (List.mem_of_getElem? (i := 50) rfl))) (mvT hZ (hw _ (List.mem_of_getElem? (i := 51) rfl))) (notFace_of_selects (args := #[]) (mvT hZ (hw _ (List.mem_of_getElem? (i := 53) rfl)))) (mvT hZ (hw _ (List.mem_of_getElem? (i := 53) rfl))) (mvT hZ (hw _ (List.mem_of_getElem? (i := 52) rfl))) (by decide) (backOf (W := 0) (own_cov_b l Z a0 hw [] hh16 n0 (Nat.le_trans Z0 Kp16.1) b7 w h1 (w + (p3 % (2 : Int32))) p4 fq16_2 fq16_3 hq18 hq20) hZ (hw _ (List.mem_of_getElem? (i := 54) rfl)) (hw _ (List.mem_of_getElem? (i := 10) rfl)) (by decide) (by decide)) qa29 qc29 (g := (mkF m 120 #[.val (.int p1), .val (.int p2), .val (.int p3), .val (.int p4), .val (.int p5), .val (.int w), .val (.int h1), .val (.ref (ad 1)), .val (.int (w + (p3 % (2 : Int32)))), .val (.int p4), .val (.ref b7), .val (.int (0 : Int32)), .unset, .unset] [(.int p4), (.int (w + (p3 % (2 : Int32)))), (.ref b7)])) rfl (by rw [hml]; rfl) (Steps.refl _) (argsL := [(.int (w + (p3 % (2 : Int32)))), (.int p4)]) (rest := []) (lenOf own_pd__II_Z rfl) rfl (by show 2 * 0 + _ ≤ _; exact Nat.le_of_eq rfl) (hb hby at_120) (fun _ _ => ⟨rfl, eh16, (by decide : 11 + 0 ≤ _), (by decide : 108 + 0 ≤ _)⟩)
      dsimp only [Pt.U, Pt.locs, Pt.cells, Pt.slots] at X30 l30 y30 z30 st30 hQ30
      subst l30 y30 z30
      obtain ⟨rfl, Nq30, e30⟩ := hQ30
      have N30 := Fr.app N16 Nq30
      have ch31 : ∀ t, Steps p.tables e below (T30.setTop (mkF m 123 #[.val (.int p1), .val (.int p2), .val (.int p3), .val (.int p4), .val (.int p5), .val (.int w), .val (.int h1), .val (.ref (ad 1)), .val (.int (w + (p3 % (2 : Int32)))), .val (.int p4), .val (.ref b7), .val (.int (0 : Int32)), .unset, .unset] [(.int (1 : Int32))])) t → Steps p.tables e below (s₁.setTop (entryFrame m #[(.int p1), (.int p2), (.int p3), (.int p4), (.int p5)] maxLocals)) t := fun t k => ch21 t (by
          show Steps p.tables e below (T16.setTop (mkF m 104 #[.val (.int p1), .val (.int p2), .val (.int p3), .val (.int p4), .val (.int p5), .val (.int w), .val (.int h1), .val (.ref (ad 1)), .val (.int (w + (p3 % (2 : Int32)))), .val (.int p4), .val (.ref b7), .unset, .unset, .unset] [(.int h1), (.int p4)])) t
          refine XS.icmpYes X16.here hx rfl (pc0 := 104) (pc' := 111) rfl (hb hby at_104) rfl (flt hq20).2.2.2 (by decide) (by decide) ?_
          show Steps p.tables e below (T16.setTop (mkF m 111 #[.val (.int p1), .val (.int p2), .val (.int p3), .val (.int p4), .val (.int p5), .val (.int w), .val (.int h1), .val (.ref (ad 1)), .val (.int (w + (p3 % (2 : Int32)))), .val (.int p4), .val (.ref b7), .unset, .unset, .unset] [])) t
          refine XS.iconst X16.here hx rfl (hb hby at_111) ?_
          show Steps p.tables e below (T16.setTop (mkF m 112 #[.val (.int p1), .val (.int p2), .val (.int p3), .val (.int p4), .val (.int p5), .val (.int w), .val (.int h1), .val (.ref (ad 1)), .val (.int (w + (p3 % (2 : Int32)))), .val (.int p4), .val (.ref b7), .unset, .unset, .unset] [(.int (0 : Int32))])) t
          refine XS.istore X16.here hx rfl (hb hby at_112) rfl (l' := #[.val (.int p1), .val (.int p2), .val (.int p3), .val (.int p4), .val (.int p5), .val (.int w), .val (.int h1), .val (.ref (ad 1)), .val (.int (w + (p3 % (2 : Int32)))), .val (.int p4), .val (.ref b7), .val (.int (0 : Int32)), .unset, .unset]) rfl ?_
          show Steps p.tables e below (T16.setTop (mkF m 114 #[.val (.int p1), .val (.int p2), .val (.int p3), .val (.int p4), .val (.int p5), .val (.int w), .val (.int h1), .val (.ref (ad 1)), .val (.int (w + (p3 % (2 : Int32)))), .val (.int p4), .val (.ref b7), .val (.int (0 : Int32)), .unset, .unset] [])) t
          refine XS.aload X16.here hx rfl (hb hby at_114) rfl rfl ?_
          show Steps p.tables e below (T16.setTop (mkF m 116 #[.val (.int p1), .val (.int p2), .val (.int p3), .val (.int p4), .val (.int p5), .val (.int w), .val (.int h1), .val (.ref (ad 1)), .val (.int (w + (p3 % (2 : Int32)))), .val (.int p4), .val (.ref b7), .val (.int (0 : Int32)), .unset, .unset] [(.ref b7)])) t
          refine XS.iload X16.here hx rfl (hb hby at_116) rfl ?_
          show Steps p.tables e below (T16.setTop (mkF m 118 #[.val (.int p1), .val (.int p2), .val (.int p3), .val (.int p4), .val (.int p5), .val (.int w), .val (.int h1), .val (.ref (ad 1)), .val (.int (w + (p3 % (2 : Int32)))), .val (.int p4), .val (.ref b7), .val (.int (0 : Int32)), .unset, .unset] [(.int (w + (p3 % (2 : Int32)))), (.ref b7)])) t
          refine XS.iload X16.here hx rfl (hb hby at_118) rfl ?_
          show Steps p.tables e below (T16.setTop (mkF m 120 #[.val (.int p1), .val (.int p2), .val (.int p3), .val (.int p4), .val (.int p5), .val (.int w), .val (.int h1), .val (.ref (ad 1)), .val (.int (w + (p3 % (2 : Int32)))), .val (.int p4), .val (.ref b7), .val (.int (0 : Int32)), .unset, .unset] [(.int p4), (.int (w + (p3 % (2 : Int32)))), (.ref b7)])) t
          exact st30.trans k)
      obtain ⟨cq32, kq32, qa32, qb32, qc32⟩ := isOf hZ e30 fq16_0
      obtain ⟨vv33, _, ⟨T33, L33, kk33, nn33⟩, -, X33, ⟨Lc33, hQ33, l33, y33, z33⟩, st33⟩ := X30.virtualBack hx (y := (⟨"com/example/leafwright/leafwright/Thumbnails$Candidate", "covers", "(II)Z"⟩ : MethodName)) (z := (⟨"com/example/leafwright/leafwright/Thumbnails$Candidate", "covers", "(II)Z"⟩ : MethodName)) hown (mvT hZ (hw _ (List.mem_of_getElem? (i := 50) rfl))) (mvT hZ (hw _ (List.mem_of_getElem? (i := 51) rfl))) (notFace_of_selects (args := #[]) (mvT hZ (hw _ (List.mem_of_getElem? (i := 53) rfl)))) (mvT hZ (hw _ (List.mem_of_getElem? (i := 53) rfl))) (mvT hZ (hw _ (List.mem_of_getElem? (i := 52) rfl))) (by decide) (backOf (W := 0) (own_cov_a l Z a0 hw [] hh16 n0 (Nat.le_trans Z0 Kp16.1) b7 w h1 w h1 fq16_2 fq16_3 (Int32.lt_irrefl : ¬ w < w)) hZ (hw _ (List.mem_of_getElem? (i := 54) rfl)) (hw _ (List.mem_of_getElem? (i := 10) rfl)) (by decide) (by decide)) qa32 qc32 (g := (mkF m 131 #[.val (.int p1), .val (.int p2), .val (.int p3), .val (.int p4), .val (.int p5), .val (.int w), .val (.int h1), .val (.ref (ad 1)), .val (.int (w + (p3 % (2 : Int32)))), .val (.int p4), .val (.ref b7), .val (.int (0 : Int32)), .val (.int (1 : Int32)), .unset] [(.int h1), (.int w), (.ref b7)])) rfl (by rw [hml]; rfl) (Steps.refl _) (argsL := [(.int w), (.int h1)]) (rest := []) (lenOf own_pd__II_Z rfl) rfl (by show 2 * 0 + _ ≤ _; exact Nat.le_of_eq rfl) (hb hby at_131) (fun _ _ => ⟨rfl, e30, (by decide : 11 + 0 ≤ _), (by decide : 108 + 0 ≤ _)⟩)
      dsimp only [Pt.U, Pt.locs, Pt.cells, Pt.slots] at X33 l33 y33 z33 st33 hQ33
      subst l33 y33 z33
      obtain ⟨rfl, Nq33, e33⟩ := hQ33
      have N33 := Fr.app N30 Nq33
      have ch34 : ∀ t, Steps p.tables e below (T33.setTop (mkF m 134 #[.val (.int p1), .val (.int p2), .val (.int p3), .val (.int p4), .val (.int p5), .val (.int w), .val (.int h1), .val (.ref (ad 1)), .val (.int (w + (p3 % (2 : Int32)))), .val (.int p4), .val (.ref b7), .val (.int (0 : Int32)), .val (.int (1 : Int32)), .unset] [(.int (1 : Int32))])) t → Steps p.tables e below (s₁.setTop (entryFrame m #[(.int p1), (.int p2), (.int p3), (.int p4), (.int p5)] maxLocals)) t := fun t k => ch31 t (by
          show Steps p.tables e below (T30.setTop (mkF m 123 #[.val (.int p1), .val (.int p2), .val (.int p3), .val (.int p4), .val (.int p5), .val (.int w), .val (.int h1), .val (.ref (ad 1)), .val (.int (w + (p3 % (2 : Int32)))), .val (.int p4), .val (.ref b7), .val (.int (0 : Int32)), .unset, .unset] [(.int (1 : Int32))])) t
          refine XS.istore X30.here hx rfl (hb hby at_123) rfl (l' := #[.val (.int p1), .val (.int p2), .val (.int p3), .val (.int p4), .val (.int p5), .val (.int w), .val (.int h1), .val (.ref (ad 1)), .val (.int (w + (p3 % (2 : Int32)))), .val (.int p4), .val (.ref b7), .val (.int (0 : Int32)), .val (.int (1 : Int32)), .unset]) rfl ?_
          show Steps p.tables e below (T30.setTop (mkF m 125 #[.val (.int p1), .val (.int p2), .val (.int p3), .val (.int p4), .val (.int p5), .val (.int w), .val (.int h1), .val (.ref (ad 1)), .val (.int (w + (p3 % (2 : Int32)))), .val (.int p4), .val (.ref b7), .val (.int (0 : Int32)), .val (.int (1 : Int32)), .unset] [])) t
          refine XS.aload X30.here hx rfl (hb hby at_125) rfl rfl ?_
          show Steps p.tables e below (T30.setTop (mkF m 127 #[.val (.int p1), .val (.int p2), .val (.int p3), .val (.int p4), .val (.int p5), .val (.int w), .val (.int h1), .val (.ref (ad 1)), .val (.int (w + (p3 % (2 : Int32)))), .val (.int p4), .val (.ref b7), .val (.int (0 : Int32)), .val (.int (1 : Int32)), .unset] [(.ref b7)])) t
          refine XS.iload X30.here hx rfl (hb hby at_127) rfl ?_
          show Steps p.tables e below (T30.setTop (mkF m 129 #[.val (.int p1), .val (.int p2), .val (.int p3), .val (.int p4), .val (.int p5), .val (.int w), .val (.int h1), .val (.ref (ad 1)), .val (.int (w + (p3 % (2 : Int32)))), .val (.int p4), .val (.ref b7), .val (.int (0 : Int32)), .val (.int (1 : Int32)), .unset] [(.int w), (.ref b7)])) t
          refine XS.iload X30.here hx rfl (hb hby at_129) rfl ?_
          show Steps p.tables e below (T30.setTop (mkF m 131 #[.val (.int p1), .val (.int p2), .val (.int p3), .val (.int p4), .val (.int p5), .val (.int w), .val (.int h1), .val (.ref (ad 1)), .val (.int (w + (p3 % (2 : Int32)))), .val (.int p4), .val (.ref b7), .val (.int (0 : Int32)), .val (.int (1 : Int32)), .unset] [(.int h1), (.int w), (.ref b7)])) t
          exact st33.trans k)
      have ch35 : ∀ t, Steps p.tables e below (T33.setTop (mkF m 161 #[.val (.int p1), .val (.int p2), .val (.int p3), .val (.int p4), .val (.int p5), .val (.int w), .val (.int h1), .val (.ref (ad 1)), .val (.int (w + (p3 % (2 : Int32)))), .val (.int p4), .val (.ref b7), .val (.int (0 : Int32)), .val (.int (1 : Int32)), .val (.int (1 : Int32))] [(.int (1 : Int32))])) t → Steps p.tables e below (s₁.setTop (entryFrame m #[(.int p1), (.int p2), (.int p3), (.int p4), (.int p5)] maxLocals)) t := fun t k => ch34 t (by
          show Steps p.tables e below (T33.setTop (mkF m 134 #[.val (.int p1), .val (.int p2), .val (.int p3), .val (.int p4), .val (.int p5), .val (.int w), .val (.int h1), .val (.ref (ad 1)), .val (.int (w + (p3 % (2 : Int32)))), .val (.int p4), .val (.ref b7), .val (.int (0 : Int32)), .val (.int (1 : Int32)), .unset] [(.int (1 : Int32))])) t
          refine XS.istore X33.here hx rfl (hb hby at_134) rfl (l' := #[.val (.int p1), .val (.int p2), .val (.int p3), .val (.int p4), .val (.int p5), .val (.int w), .val (.int h1), .val (.ref (ad 1)), .val (.int (w + (p3 % (2 : Int32)))), .val (.int p4), .val (.ref b7), .val (.int (0 : Int32)), .val (.int (1 : Int32)), .val (.int (1 : Int32))]) rfl ?_
          show Steps p.tables e below (T33.setTop (mkF m 136 #[.val (.int p1), .val (.int p2), .val (.int p3), .val (.int p4), .val (.int p5), .val (.int w), .val (.int h1), .val (.ref (ad 1)), .val (.int (w + (p3 % (2 : Int32)))), .val (.int p4), .val (.ref b7), .val (.int (0 : Int32)), .val (.int (1 : Int32)), .val (.int (1 : Int32))] [])) t
          refine XS.iload X33.here hx rfl (hb hby at_136) rfl ?_
          show Steps p.tables e below (T33.setTop (mkF m 138 #[.val (.int p1), .val (.int p2), .val (.int p3), .val (.int p4), .val (.int p5), .val (.int w), .val (.int h1), .val (.ref (ad 1)), .val (.int (w + (p3 % (2 : Int32)))), .val (.int p4), .val (.ref b7), .val (.int (0 : Int32)), .val (.int (1 : Int32)), .val (.int (1 : Int32))] [(.int (1 : Int32))])) t
          refine XS.iload X33.here hx rfl (hb hby at_138) rfl ?_
          show Steps p.tables e below (T33.setTop (mkF m 140 #[.val (.int p1), .val (.int p2), .val (.int p3), .val (.int p4), .val (.int p5), .val (.int w), .val (.int h1), .val (.ref (ad 1)), .val (.int (w + (p3 % (2 : Int32)))), .val (.int p4), .val (.ref b7), .val (.int (0 : Int32)), .val (.int (1 : Int32)), .val (.int (1 : Int32))] [(.int (0 : Int32)), (.int (1 : Int32))])) t
          refine XS.ifNo X33.here hx rfl (hb hby at_140) rfl ((if0 _ _).trans (teq (by decide : (0 : Int32) = (0 : Int32))).2) ?_
          show Steps p.tables e below (T33.setTop (mkF m 143 #[.val (.int p1), .val (.int p2), .val (.int p3), .val (.int p4), .val (.int p5), .val (.int w), .val (.int h1), .val (.ref (ad 1)), .val (.int (w + (p3 % (2 : Int32)))), .val (.int p4), .val (.ref b7), .val (.int (0 : Int32)), .val (.int (1 : Int32)), .val (.int (1 : Int32))] [(.int (1 : Int32))])) t
          refine XS.iconst X33.here hx rfl (hb hby at_143) ?_
          show Steps p.tables e below (T33.setTop (mkF m 144 #[.val (.int p1), .val (.int p2), .val (.int p3), .val (.int p4), .val (.int p5), .val (.int w), .val (.int h1), .val (.ref (ad 1)), .val (.int (w + (p3 % (2 : Int32)))), .val (.int p4), .val (.ref b7), .val (.int (0 : Int32)), .val (.int (1 : Int32)), .val (.int (1 : Int32))] [(.int (1 : Int32)), (.int (1 : Int32))])) t
          refine XS.goto X33.here hx rfl (pc0 := 144) (pc' := 148) rfl (hb hby at_144) (by decide) (by decide) ?_
          show Steps p.tables e below (T33.setTop (mkF m 148 #[.val (.int p1), .val (.int p2), .val (.int p3), .val (.int p4), .val (.int p5), .val (.int w), .val (.int h1), .val (.ref (ad 1)), .val (.int (w + (p3 % (2 : Int32)))), .val (.int p4), .val (.ref b7), .val (.int (0 : Int32)), .val (.int (1 : Int32)), .val (.int (1 : Int32))] [(.int (1 : Int32)), (.int (1 : Int32))])) t
          refine XS.icmpNo X33.here hx rfl (hb hby at_148) rfl (teq (by decide : (1 : Int32) = (1 : Int32))).2 ?_
          show Steps p.tables e below (T33.setTop (mkF m 151 #[.val (.int p1), .val (.int p2), .val (.int p3), .val (.int p4), .val (.int p5), .val (.int w), .val (.int h1), .val (.ref (ad 1)), .val (.int (w + (p3 % (2 : Int32)))), .val (.int p4), .val (.ref b7), .val (.int (0 : Int32)), .val (.int (1 : Int32)), .val (.int (1 : Int32))] [])) t
          refine XS.iload X33.here hx rfl (hb hby at_151) rfl ?_
          show Steps p.tables e below (T33.setTop (mkF m 153 #[.val (.int p1), .val (.int p2), .val (.int p3), .val (.int p4), .val (.int p5), .val (.int w), .val (.int h1), .val (.ref (ad 1)), .val (.int (w + (p3 % (2 : Int32)))), .val (.int p4), .val (.ref b7), .val (.int (0 : Int32)), .val (.int (1 : Int32)), .val (.int (1 : Int32))] [(.int (1 : Int32))])) t
          refine XS.ifNo X33.here hx rfl (hb hby at_153) rfl ((if0 _ _).trans (feq (by decide : ¬ (1 : Int32) = (0 : Int32))).1) ?_
          show Steps p.tables e below (T33.setTop (mkF m 156 #[.val (.int p1), .val (.int p2), .val (.int p3), .val (.int p4), .val (.int p5), .val (.int w), .val (.int h1), .val (.ref (ad 1)), .val (.int (w + (p3 % (2 : Int32)))), .val (.int p4), .val (.ref b7), .val (.int (0 : Int32)), .val (.int (1 : Int32)), .val (.int (1 : Int32))] [])) t
          refine XS.iconst X33.here hx rfl (hb hby at_156) ?_
          show Steps p.tables e below (T33.setTop (mkF m 157 #[.val (.int p1), .val (.int p2), .val (.int p3), .val (.int p4), .val (.int p5), .val (.int w), .val (.int h1), .val (.ref (ad 1)), .val (.int (w + (p3 % (2 : Int32)))), .val (.int p4), .val (.ref b7), .val (.int (0 : Int32)), .val (.int (1 : Int32)), .val (.int (1 : Int32))] [(.int (1 : Int32))])) t
          refine XS.goto X33.here hx rfl (pc0 := 157) (pc' := 161) rfl (hb hby at_157) (by decide) (by decide) ?_
          exact k)
      obtain ⟨fs, hr, hrun, hended, hend⟩ := X33.leaveW hS (by rw [e33]; exact hk) (v := some (.int (1 : Int32))) (fun h => by rw [Bd.returns] at h; cases h)
      refine ⟨_, _, ch35 _ ?_, hrun, hended, _, _, rfl, ?_, hend.1, hend.2.1, hend.2.2.1, hend.2.2.2.mono (by decide) (by decide)⟩
      · show Steps p.tables e below (T33.setTop (mkF m 161 #[.val (.int p1), .val (.int p2), .val (.int p3), .val (.int p4), .val (.int p5), .val (.int w), .val (.int h1), .val (.ref (ad 1)), .val (.int (w + (p3 % (2 : Int32)))), .val (.int p4), .val (.ref b7), .val (.int (0 : Int32)), .val (.int (1 : Int32)), .val (.int (1 : Int32))] [(.int (1 : Int32))])) _
        exact retN X33 hx (t := .boolean) Bd.returns (by simp) (hb hby at_161) hr
      · show QN (some (.int (1 : Int32))) n0 _ T33.heap _
        rw [e33]
        exact ⟨rfl, N33⟩
  · skip
    obtain ⟨cq36, kq36, qa36, qb36, qc36⟩ := isOf hZ eh16 fq16_0
    obtain ⟨vv37, _, ⟨T37, L37, kk37, nn37⟩, -, X37, ⟨Lc37, hQ37, l37, y37, z37⟩, st37⟩ := X16.virtualBack hx (y := (⟨"com/example/leafwright/leafwright/Thumbnails$Candidate", "covers", "(II)Z"⟩ : MethodName)) (z := (⟨"com/example/leafwright/leafwright/Thumbnails$Candidate", "covers", "(II)Z"⟩ : MethodName)) hown (mvT hZ (hw _ (List.mem_of_getElem? (i := 50) rfl))) (mvT hZ (hw _ (List.mem_of_getElem? (i := 51) rfl))) (notFace_of_selects (args := #[]) (mvT hZ (hw _ (List.mem_of_getElem? (i := 53) rfl)))) (mvT hZ (hw _ (List.mem_of_getElem? (i := 53) rfl))) (mvT hZ (hw _ (List.mem_of_getElem? (i := 52) rfl))) (by decide) (backOf (W := 0) (own_cov_a l Z a0 hw [] hh16 n0 (Nat.le_trans Z0 Kp16.1) b7 w h1 (w + (p3 % (2 : Int32))) p4 fq16_2 fq16_3 hq18) hZ (hw _ (List.mem_of_getElem? (i := 54) rfl)) (hw _ (List.mem_of_getElem? (i := 10) rfl)) (by decide) (by decide)) qa36 qc36 (g := (mkF m 120 #[.val (.int p1), .val (.int p2), .val (.int p3), .val (.int p4), .val (.int p5), .val (.int w), .val (.int h1), .val (.ref (ad 1)), .val (.int (w + (p3 % (2 : Int32)))), .val (.int p4), .val (.ref b7), .val (.int (0 : Int32)), .unset, .unset] [(.int p4), (.int (w + (p3 % (2 : Int32)))), (.ref b7)])) rfl (by rw [hml]; rfl) (Steps.refl _) (argsL := [(.int (w + (p3 % (2 : Int32)))), (.int p4)]) (rest := []) (lenOf own_pd__II_Z rfl) rfl (by show 2 * 0 + _ ≤ _; exact Nat.le_of_eq rfl) (hb hby at_120) (fun _ _ => ⟨rfl, eh16, (by decide : 11 + 0 ≤ _), (by decide : 108 + 0 ≤ _)⟩)
    dsimp only [Pt.U, Pt.locs, Pt.cells, Pt.slots] at X37 l37 y37 z37 st37 hQ37
    subst l37 y37 z37
    obtain ⟨rfl, Nq37, e37⟩ := hQ37
    have N37 := Fr.app N16 Nq37
    have ch38 : ∀ t, Steps p.tables e below (T37.setTop (mkF m 123 #[.val (.int p1), .val (.int p2), .val (.int p3), .val (.int p4), .val (.int p5), .val (.int w), .val (.int h1), .val (.ref (ad 1)), .val (.int (w + (p3 % (2 : Int32)))), .val (.int p4), .val (.ref b7), .val (.int (0 : Int32)), .unset, .unset] [(.int (1 : Int32))])) t → Steps p.tables e below (s₁.setTop (entryFrame m #[(.int p1), (.int p2), (.int p3), (.int p4), (.int p5)] maxLocals)) t := fun t k => ch19 t (by
        show Steps p.tables e below (T16.setTop (mkF m 97 #[.val (.int p1), .val (.int p2), .val (.int p3), .val (.int p4), .val (.int p5), .val (.int w), .val (.int h1), .val (.ref (ad 1)), .val (.int (w + (p3 % (2 : Int32)))), .val (.int p4), .val (.ref b7), .unset, .unset, .unset] [(.int w), (.int (w + (p3 % (2 : Int32))))])) t
        refine XS.icmpYes X16.here hx rfl (pc0 := 97) (pc' := 111) rfl (hb hby at_97) rfl (flt hq18).2.2.2 (by decide) (by decide) ?_
        show Steps p.tables e below (T16.setTop (mkF m 111 #[.val (.int p1), .val (.int p2), .val (.int p3), .val (.int p4), .val (.int p5), .val (.int w), .val (.int h1), .val (.ref (ad 1)), .val (.int (w + (p3 % (2 : Int32)))), .val (.int p4), .val (.ref b7), .unset, .unset, .unset] [])) t
        refine XS.iconst X16.here hx rfl (hb hby at_111) ?_
        show Steps p.tables e below (T16.setTop (mkF m 112 #[.val (.int p1), .val (.int p2), .val (.int p3), .val (.int p4), .val (.int p5), .val (.int w), .val (.int h1), .val (.ref (ad 1)), .val (.int (w + (p3 % (2 : Int32)))), .val (.int p4), .val (.ref b7), .unset, .unset, .unset] [(.int (0 : Int32))])) t
        refine XS.istore X16.here hx rfl (hb hby at_112) rfl (l' := #[.val (.int p1), .val (.int p2), .val (.int p3), .val (.int p4), .val (.int p5), .val (.int w), .val (.int h1), .val (.ref (ad 1)), .val (.int (w + (p3 % (2 : Int32)))), .val (.int p4), .val (.ref b7), .val (.int (0 : Int32)), .unset, .unset]) rfl ?_
        show Steps p.tables e below (T16.setTop (mkF m 114 #[.val (.int p1), .val (.int p2), .val (.int p3), .val (.int p4), .val (.int p5), .val (.int w), .val (.int h1), .val (.ref (ad 1)), .val (.int (w + (p3 % (2 : Int32)))), .val (.int p4), .val (.ref b7), .val (.int (0 : Int32)), .unset, .unset] [])) t
        refine XS.aload X16.here hx rfl (hb hby at_114) rfl rfl ?_
        show Steps p.tables e below (T16.setTop (mkF m 116 #[.val (.int p1), .val (.int p2), .val (.int p3), .val (.int p4), .val (.int p5), .val (.int w), .val (.int h1), .val (.ref (ad 1)), .val (.int (w + (p3 % (2 : Int32)))), .val (.int p4), .val (.ref b7), .val (.int (0 : Int32)), .unset, .unset] [(.ref b7)])) t
        refine XS.iload X16.here hx rfl (hb hby at_116) rfl ?_
        show Steps p.tables e below (T16.setTop (mkF m 118 #[.val (.int p1), .val (.int p2), .val (.int p3), .val (.int p4), .val (.int p5), .val (.int w), .val (.int h1), .val (.ref (ad 1)), .val (.int (w + (p3 % (2 : Int32)))), .val (.int p4), .val (.ref b7), .val (.int (0 : Int32)), .unset, .unset] [(.int (w + (p3 % (2 : Int32)))), (.ref b7)])) t
        refine XS.iload X16.here hx rfl (hb hby at_118) rfl ?_
        show Steps p.tables e below (T16.setTop (mkF m 120 #[.val (.int p1), .val (.int p2), .val (.int p3), .val (.int p4), .val (.int p5), .val (.int w), .val (.int h1), .val (.ref (ad 1)), .val (.int (w + (p3 % (2 : Int32)))), .val (.int p4), .val (.ref b7), .val (.int (0 : Int32)), .unset, .unset] [(.int p4), (.int (w + (p3 % (2 : Int32)))), (.ref b7)])) t
        exact st37.trans k)
    obtain ⟨cq39, kq39, qa39, qb39, qc39⟩ := isOf hZ e37 fq16_0
    obtain ⟨vv40, _, ⟨T40, L40, kk40, nn40⟩, -, X40, ⟨Lc40, hQ40, l40, y40, z40⟩, st40⟩ := X37.virtualBack hx (y := (⟨"com/example/leafwright/leafwright/Thumbnails$Candidate", "covers", "(II)Z"⟩ : MethodName)) (z := (⟨"com/example/leafwright/leafwright/Thumbnails$Candidate", "covers", "(II)Z"⟩ : MethodName)) hown (mvT hZ (hw _ (List.mem_of_getElem? (i := 50) rfl))) (mvT hZ (hw _ (List.mem_of_getElem? (i := 51) rfl))) (notFace_of_selects (args := #[]) (mvT hZ (hw _ (List.mem_of_getElem? (i := 53) rfl)))) (mvT hZ (hw _ (List.mem_of_getElem? (i := 53) rfl))) (mvT hZ (hw _ (List.mem_of_getElem? (i := 52) rfl))) (by decide) (backOf (W := 0) (own_cov_a l Z a0 hw [] hh16 n0 (Nat.le_trans Z0 Kp16.1) b7 w h1 w h1 fq16_2 fq16_3 (Int32.lt_irrefl : ¬ w < w)) hZ (hw _ (List.mem_of_getElem? (i := 54) rfl)) (hw _ (List.mem_of_getElem? (i := 10) rfl)) (by decide) (by decide)) qa39 qc39 (g := (mkF m 131 #[.val (.int p1), .val (.int p2), .val (.int p3), .val (.int p4), .val (.int p5), .val (.int w), .val (.int h1), .val (.ref (ad 1)), .val (.int (w + (p3 % (2 : Int32)))), .val (.int p4), .val (.ref b7), .val (.int (0 : Int32)), .val (.int (1 : Int32)), .unset] [(.int h1), (.int w), (.ref b7)])) rfl (by rw [hml]; rfl) (Steps.refl _) (argsL := [(.int w), (.int h1)]) (rest := []) (lenOf own_pd__II_Z rfl) rfl (by show 2 * 0 + _ ≤ _; exact Nat.le_of_eq rfl) (hb hby at_131) (fun _ _ => ⟨rfl, e37, (by decide : 11 + 0 ≤ _), (by decide : 108 + 0 ≤ _)⟩)
    dsimp only [Pt.U, Pt.locs, Pt.cells, Pt.slots] at X40 l40 y40 z40 st40 hQ40
    subst l40 y40 z40
    obtain ⟨rfl, Nq40, e40⟩ := hQ40
    have N40 := Fr.app N37 Nq40
    have ch41 : ∀ t, Steps p.tables e below (T40.setTop (mkF m 134 #[.val (.int p1), .val (.int p2), .val (.int p3), .val (.int p4), .val (.int p5), .val (.int w), .val (.int h1), .val (.ref (ad 1)), .val (.int (w + (p3 % (2 : Int32)))), .val (.int p4), .val (.ref b7), .val (.int (0 : Int32)), .val (.int (1 : Int32)), .unset] [(.int (1 : Int32))])) t → Steps p.tables e below (s₁.setTop (entryFrame m #[(.int p1), (.int p2), (.int p3), (.int p4), (.int p5)] maxLocals)) t := fun t k => ch38 t (by
        show Steps p.tables e below (T37.setTop (mkF m 123 #[.val (.int p1), .val (.int p2), .val (.int p3), .val (.int p4), .val (.int p5), .val (.int w), .val (.int h1), .val (.ref (ad 1)), .val (.int (w + (p3 % (2 : Int32)))), .val (.int p4), .val (.ref b7), .val (.int (0 : Int32)), .unset, .unset] [(.int (1 : Int32))])) t
        refine XS.istore X37.here hx rfl (hb hby at_123) rfl (l' := #[.val (.int p1), .val (.int p2), .val (.int p3), .val (.int p4), .val (.int p5), .val (.int w), .val (.int h1), .val (.ref (ad 1)), .val (.int (w + (p3 % (2 : Int32)))), .val (.int p4), .val (.ref b7), .val (.int (0 : Int32)), .val (.int (1 : Int32)), .unset]) rfl ?_
        show Steps p.tables e below (T37.setTop (mkF m 125 #[.val (.int p1), .val (.int p2), .val (.int p3), .val (.int p4), .val (.int p5), .val (.int w), .val (.int h1), .val (.ref (ad 1)), .val (.int (w + (p3 % (2 : Int32)))), .val (.int p4), .val (.ref b7), .val (.int (0 : Int32)), .val (.int (1 : Int32)), .unset] [])) t
        refine XS.aload X37.here hx rfl (hb hby at_125) rfl rfl ?_
        show Steps p.tables e below (T37.setTop (mkF m 127 #[.val (.int p1), .val (.int p2), .val (.int p3), .val (.int p4), .val (.int p5), .val (.int w), .val (.int h1), .val (.ref (ad 1)), .val (.int (w + (p3 % (2 : Int32)))), .val (.int p4), .val (.ref b7), .val (.int (0 : Int32)), .val (.int (1 : Int32)), .unset] [(.ref b7)])) t
        refine XS.iload X37.here hx rfl (hb hby at_127) rfl ?_
        show Steps p.tables e below (T37.setTop (mkF m 129 #[.val (.int p1), .val (.int p2), .val (.int p3), .val (.int p4), .val (.int p5), .val (.int w), .val (.int h1), .val (.ref (ad 1)), .val (.int (w + (p3 % (2 : Int32)))), .val (.int p4), .val (.ref b7), .val (.int (0 : Int32)), .val (.int (1 : Int32)), .unset] [(.int w), (.ref b7)])) t
        refine XS.iload X37.here hx rfl (hb hby at_129) rfl ?_
        show Steps p.tables e below (T37.setTop (mkF m 131 #[.val (.int p1), .val (.int p2), .val (.int p3), .val (.int p4), .val (.int p5), .val (.int w), .val (.int h1), .val (.ref (ad 1)), .val (.int (w + (p3 % (2 : Int32)))), .val (.int p4), .val (.ref b7), .val (.int (0 : Int32)), .val (.int (1 : Int32)), .unset] [(.int h1), (.int w), (.ref b7)])) t
        exact st40.trans k)
    have ch42 : ∀ t, Steps p.tables e below (T40.setTop (mkF m 161 #[.val (.int p1), .val (.int p2), .val (.int p3), .val (.int p4), .val (.int p5), .val (.int w), .val (.int h1), .val (.ref (ad 1)), .val (.int (w + (p3 % (2 : Int32)))), .val (.int p4), .val (.ref b7), .val (.int (0 : Int32)), .val (.int (1 : Int32)), .val (.int (1 : Int32))] [(.int (1 : Int32))])) t → Steps p.tables e below (s₁.setTop (entryFrame m #[(.int p1), (.int p2), (.int p3), (.int p4), (.int p5)] maxLocals)) t := fun t k => ch41 t (by
        show Steps p.tables e below (T40.setTop (mkF m 134 #[.val (.int p1), .val (.int p2), .val (.int p3), .val (.int p4), .val (.int p5), .val (.int w), .val (.int h1), .val (.ref (ad 1)), .val (.int (w + (p3 % (2 : Int32)))), .val (.int p4), .val (.ref b7), .val (.int (0 : Int32)), .val (.int (1 : Int32)), .unset] [(.int (1 : Int32))])) t
        refine XS.istore X40.here hx rfl (hb hby at_134) rfl (l' := #[.val (.int p1), .val (.int p2), .val (.int p3), .val (.int p4), .val (.int p5), .val (.int w), .val (.int h1), .val (.ref (ad 1)), .val (.int (w + (p3 % (2 : Int32)))), .val (.int p4), .val (.ref b7), .val (.int (0 : Int32)), .val (.int (1 : Int32)), .val (.int (1 : Int32))]) rfl ?_
        show Steps p.tables e below (T40.setTop (mkF m 136 #[.val (.int p1), .val (.int p2), .val (.int p3), .val (.int p4), .val (.int p5), .val (.int w), .val (.int h1), .val (.ref (ad 1)), .val (.int (w + (p3 % (2 : Int32)))), .val (.int p4), .val (.ref b7), .val (.int (0 : Int32)), .val (.int (1 : Int32)), .val (.int (1 : Int32))] [])) t
        refine XS.iload X40.here hx rfl (hb hby at_136) rfl ?_
        show Steps p.tables e below (T40.setTop (mkF m 138 #[.val (.int p1), .val (.int p2), .val (.int p3), .val (.int p4), .val (.int p5), .val (.int w), .val (.int h1), .val (.ref (ad 1)), .val (.int (w + (p3 % (2 : Int32)))), .val (.int p4), .val (.ref b7), .val (.int (0 : Int32)), .val (.int (1 : Int32)), .val (.int (1 : Int32))] [(.int (1 : Int32))])) t
        refine XS.iload X40.here hx rfl (hb hby at_138) rfl ?_
        show Steps p.tables e below (T40.setTop (mkF m 140 #[.val (.int p1), .val (.int p2), .val (.int p3), .val (.int p4), .val (.int p5), .val (.int w), .val (.int h1), .val (.ref (ad 1)), .val (.int (w + (p3 % (2 : Int32)))), .val (.int p4), .val (.ref b7), .val (.int (0 : Int32)), .val (.int (1 : Int32)), .val (.int (1 : Int32))] [(.int (0 : Int32)), (.int (1 : Int32))])) t
        refine XS.ifNo X40.here hx rfl (hb hby at_140) rfl ((if0 _ _).trans (teq (by decide : (0 : Int32) = (0 : Int32))).2) ?_
        show Steps p.tables e below (T40.setTop (mkF m 143 #[.val (.int p1), .val (.int p2), .val (.int p3), .val (.int p4), .val (.int p5), .val (.int w), .val (.int h1), .val (.ref (ad 1)), .val (.int (w + (p3 % (2 : Int32)))), .val (.int p4), .val (.ref b7), .val (.int (0 : Int32)), .val (.int (1 : Int32)), .val (.int (1 : Int32))] [(.int (1 : Int32))])) t
        refine XS.iconst X40.here hx rfl (hb hby at_143) ?_
        show Steps p.tables e below (T40.setTop (mkF m 144 #[.val (.int p1), .val (.int p2), .val (.int p3), .val (.int p4), .val (.int p5), .val (.int w), .val (.int h1), .val (.ref (ad 1)), .val (.int (w + (p3 % (2 : Int32)))), .val (.int p4), .val (.ref b7), .val (.int (0 : Int32)), .val (.int (1 : Int32)), .val (.int (1 : Int32))] [(.int (1 : Int32)), (.int (1 : Int32))])) t
        refine XS.goto X40.here hx rfl (pc0 := 144) (pc' := 148) rfl (hb hby at_144) (by decide) (by decide) ?_
        show Steps p.tables e below (T40.setTop (mkF m 148 #[.val (.int p1), .val (.int p2), .val (.int p3), .val (.int p4), .val (.int p5), .val (.int w), .val (.int h1), .val (.ref (ad 1)), .val (.int (w + (p3 % (2 : Int32)))), .val (.int p4), .val (.ref b7), .val (.int (0 : Int32)), .val (.int (1 : Int32)), .val (.int (1 : Int32))] [(.int (1 : Int32)), (.int (1 : Int32))])) t
        refine XS.icmpNo X40.here hx rfl (hb hby at_148) rfl (teq (by decide : (1 : Int32) = (1 : Int32))).2 ?_
        show Steps p.tables e below (T40.setTop (mkF m 151 #[.val (.int p1), .val (.int p2), .val (.int p3), .val (.int p4), .val (.int p5), .val (.int w), .val (.int h1), .val (.ref (ad 1)), .val (.int (w + (p3 % (2 : Int32)))), .val (.int p4), .val (.ref b7), .val (.int (0 : Int32)), .val (.int (1 : Int32)), .val (.int (1 : Int32))] [])) t
        refine XS.iload X40.here hx rfl (hb hby at_151) rfl ?_
        show Steps p.tables e below (T40.setTop (mkF m 153 #[.val (.int p1), .val (.int p2), .val (.int p3), .val (.int p4), .val (.int p5), .val (.int w), .val (.int h1), .val (.ref (ad 1)), .val (.int (w + (p3 % (2 : Int32)))), .val (.int p4), .val (.ref b7), .val (.int (0 : Int32)), .val (.int (1 : Int32)), .val (.int (1 : Int32))] [(.int (1 : Int32))])) t
        refine XS.ifNo X40.here hx rfl (hb hby at_153) rfl ((if0 _ _).trans (feq (by decide : ¬ (1 : Int32) = (0 : Int32))).1) ?_
        show Steps p.tables e below (T40.setTop (mkF m 156 #[.val (.int p1), .val (.int p2), .val (.int p3), .val (.int p4), .val (.int p5), .val (.int w), .val (.int h1), .val (.ref (ad 1)), .val (.int (w + (p3 % (2 : Int32)))), .val (.int p4), .val (.ref b7), .val (.int (0 : Int32)), .val (.int (1 : Int32)), .val (.int (1 : Int32))] [])) t
        refine XS.iconst X40.here hx rfl (hb hby at_156) ?_
        show Steps p.tables e below (T40.setTop (mkF m 157 #[.val (.int p1), .val (.int p2), .val (.int p3), .val (.int p4), .val (.int p5), .val (.int w), .val (.int h1), .val (.ref (ad 1)), .val (.int (w + (p3 % (2 : Int32)))), .val (.int p4), .val (.ref b7), .val (.int (0 : Int32)), .val (.int (1 : Int32)), .val (.int (1 : Int32))] [(.int (1 : Int32))])) t
        refine XS.goto X40.here hx rfl (pc0 := 157) (pc' := 161) rfl (hb hby at_157) (by decide) (by decide) ?_
        exact k)
    obtain ⟨fs, hr, hrun, hended, hend⟩ := X40.leaveW hS (by rw [e40]; exact hk) (v := some (.int (1 : Int32))) (fun h => by rw [Bd.returns] at h; cases h)
    refine ⟨_, _, ch42 _ ?_, hrun, hended, _, _, rfl, ?_, hend.1, hend.2.1, hend.2.2.1, hend.2.2.2.mono (by decide) (by decide)⟩
    · show Steps p.tables e below (T40.setTop (mkF m 161 #[.val (.int p1), .val (.int p2), .val (.int p3), .val (.int p4), .val (.int p5), .val (.int w), .val (.int h1), .val (.ref (ad 1)), .val (.int (w + (p3 % (2 : Int32)))), .val (.int p4), .val (.ref b7), .val (.int (0 : Int32)), .val (.int (1 : Int32)), .val (.int (1 : Int32))] [(.int (1 : Int32))])) _
      exact retN X40 hx (t := .boolean) Bd.returns (by simp) (hb hby at_161) hr
    · show QN (some (.int (1 : Int32))) n0 _ T40.heap _
      rw [e40]
      exact ⟨rfl, N40⟩
theorem own_ef_own_law_111 (m : MethodId) {x0 : Int32} {x1 : Int32} {x2 : Int32} {x3 : Int32} {x4 : Int32} : entryFrame m #[(.int x0), (.int x1), (.int x2), (.int x3), (.int x4)] maxLocals = mkF m 0 #[.val (.int x0), .val (.int x1), .val (.int x2), .val (.int x3), .val (.int x4), .unset, .unset, .unset, .unset, .unset, .unset, .unset, .unset, .unset] [] := by first | (simp [entryFrame, mkF, argsToLocals, Value.category, maxLocals]; done) | rfl
set_option maxRecDepth 65536 in
set_option maxHeartbeats 40000000 in
theorem own_law_111 (l : Launch) (Z : State) (a0 : Array Value) (hw : ∀ d ∈ tables_1, d.before a0 Z = true) (ws : List Jvm.Cond) (h0 : Heap) (n0 : Nat) (Z0 : n0 ≤ h0.size) (p1 p2 p3 p4 p5 w h1 : Int32) (HW : MetFree l (⟨"java/lang/Math", "max", "(II)I"⟩ : MethodName) (head1 (Jvm.Cond.code (⟨"java/lang/Math", "max", "(II)I"⟩ : MethodName) jdk_29_method_65_code 2 (some .int) :: []) ({ frames := 0, cells := 0, slots := 0, locals := 0 } : Room)) (fun a U => a = #[(.int (1 : Int32)), (.int (p1 &&& (2147483647 : Int32)))] ∧ Z.Warmed39 U.vm ∧ U.heap = h0) (fun _ _ _ _ _ => True) (fun _ U o U' => ∃ v L, o = .returned v ∧ QV (some (.int w)) h0 n0 v U'.heap L ∧ FrameEnd U o U' L ({ frames := 0, cells := 0, slots := 0, locals := 0 } : Room).cells ({ frames := 0, cells := 0, slots := 0, locals := 0 } : Room).slots)) (HH : MetFree l (⟨"java/lang/Math", "max", "(II)I"⟩ : MethodName) (head1 (Jvm.Cond.code (⟨"java/lang/Math", "max", "(II)I"⟩ : MethodName) jdk_29_method_65_code 2 (some .int) :: []) ({ frames := 0, cells := 0, slots := 0, locals := 0 } : Room)) (fun a U => a = #[(.int (1 : Int32)), (.int (p2 &&& (2147483647 : Int32)))] ∧ Z.Warmed39 U.vm ∧ U.heap = h0) (fun _ _ _ _ _ => True) (fun _ U o U' => ∃ v L, o = .returned v ∧ QV (some (.int h1)) h0 n0 v U'.heap L ∧ FrameEnd U o U' L ({ frames := 0, cells := 0, slots := 0, locals := 0 } : Room).cells ({ frames := 0, cells := 0, slots := 0, locals := 0 } : Room).slots)) (pw : (0 : Int32) < w) (ph : (0 : Int32) < h1) (s0 : ¬ (p5 &&& (1 : Int32)) = (0 : Int32)) (s1 : ¬ (p5 &&& (2 : Int32)) = (0 : Int32)) (s2 : ¬ (p5 &&& (4 : Int32)) = (0 : Int32)) (ad : Nat → Addr) (W : OwnWd Z h0 ad) :
    MetFree l x (head1 (Jvm.Cond.code x code maxLocals ret :: ws) room_1) (fun a U => a = #[(.int p1), (.int p2), (.int p3), (.int p4), (.int p5)] ∧ Z.Warmed39 U.vm ∧ U.heap = h0) (fun _ _ _ _ _ => True) (fun _ U o U' => ∃ v L, o = .returned v ∧ QN (some (.int (1 : Int32))) n0 v U'.heap L ∧ ReturnedEndW U o U' L room_1.cells room_1.slots) := by
  refine MetFree.of_bodySF (plainFor_of_name own_pn_com_example_leafwright_leafwright_CandidateCoversPinLaw) hisR ?_
  intro p e s m args below meth c s₁ Bd hml0 hP hK
  obtain ⟨rfl, hZ, hh⟩ := hP
  have hx := Bd.exec
  have hby := Bd.bytes
  have hml : c.maxLocals = 14 := hml0
  have hown : s.vm.findClass "com/example/leafwright/leafwright/CandidateCoversPinLaw" = some m.cls := (findClass_of_methodNamed Bd.named :)
  have hnm := (name_of_methodNamed Bd.named Bd.method).1
  have X0 : Stand p l e room_1 (s.setVm s.vm) m #[(.int p1), (.int p2), (.int p3), (.int p4), (.int p5)] below meth c s₁ [] 0 0 := Stand.of_body Bd
  have hZ : Z.Warmed39 (s.setVm s.vm).vm := hZ
  have hown : (s.setVm s.vm).vm.findClass "com/example/leafwright/leafwright/CandidateCoversPinLaw" = some m.cls := hown
  have hS : s.Since s.vm 0 := (State.WarmedH.refl s).since 0
  have hk : 0 ≤ h0.size := Nat.zero_le _
  have e0 : s₁.heap = h0 := by rw [← hh, Bd.state]; rfl
  have N0 := Fr.nil n0
  have pre0 : ∀ t, Steps p.tables e below (s₁.setTop (mkF m 0 #[.val (.int p1), .val (.int p2), .val (.int p3), .val (.int p4), .val (.int p5), .unset, .unset, .unset, .unset, .unset, .unset, .unset, .unset, .unset] [])) t → Steps p.tables e below (s₁.setTop (entryFrame m #[(.int p1), (.int p2), (.int p3), (.int p4), (.int p5)] maxLocals)) t := fun t k => castTop (own_ef_own_law_111 m) k
  obtain ⟨vv1, _, ⟨T1, L1, kk1, nn1⟩, -, X1, ⟨Lc1, hQ1, l1, y1, z1⟩, st1⟩ := Jvm.LawKit.callS X0 hx (y := (⟨"java/lang/Math", "max", "(II)I"⟩ : MethodName)) hown (mvT hZ (hw _ (List.mem_of_getElem? (i := 1) rfl))) (mvT hZ (hw _ (List.mem_of_getElem? (i := 2) rfl))) (mvT hZ (hw _ (List.mem_of_getElem? (i := 3) rfl))) (mvT hZ (hw _ (List.mem_of_getElem? (i := 4) rfl))) (by decide) (backOf (W := 0) HW hZ (hw _ (List.mem_of_getElem? (i := 4) rfl)) (hw _ (List.mem_of_getElem? (i := 3) rfl)) (by decide) (by decide)) (g := (mkF m 5 #[.val (.int p1), .val (.int p2), .val (.int p3), .val (.int p4), .val (.int p5), .unset, .unset, .unset, .unset, .unset, .unset, .unset, .unset, .unset] [(.int (p1 &&& (2147483647 : Int32))), (.int (1 : Int32))])) rfl (by rw [hml]; rfl) (argsL := [(.int (1 : Int32)), (.int (p1 &&& (2147483647 : Int32)))]) (rest := []) (lenOf own_pd__II_I rfl) rfl (by show 2 * 0 + _ ≤ _; exact Nat.le_of_eq rfl) (hb hby at_5) (fun _ _ => ⟨rfl, e0, (by decide : 0 + 0 ≤ _), (by decide : 0 + 0 ≤ _)⟩)
  dsimp only [Pt.U, Pt.locs, Pt.cells, Pt.slots] at X1 l1 y1 z1 st1 hQ1
  subst l1 y1 z1
  obtain ⟨rfl, Nq1, e1⟩ := hQ1
  have N1 := Fr.app N0 Nq1
  have ch2 : ∀ t, Steps p.tables e below (T1.setTop (mkF m 8 #[.val (.int p1), .val (.int p2), .val (.int p3), .val (.int p4), .val (.int p5), .unset, .unset, .unset, .unset, .unset, .unset, .unset, .unset, .unset] [(.int w)])) t → Steps p.tables e below (s₁.setTop (entryFrame m #[(.int p1), (.int p2), (.int p3), (.int p4), (.int p5)] maxLocals)) t := fun t k => pre0 t (by
      show Steps p.tables e below (s₁.setTop (mkF m 0 #[.val (.int p1), .val (.int p2), .val (.int p3), .val (.int p4), .val (.int p5), .unset, .unset, .unset, .unset, .unset, .unset, .unset, .unset, .unset] [])) t
      refine XS.iconst X0.here hx rfl (hb hby at_0) ?_
      show Steps p.tables e below (s₁.setTop (mkF m 1 #[.val (.int p1), .val (.int p2), .val (.int p3), .val (.int p4), .val (.int p5), .unset, .unset, .unset, .unset, .unset, .unset, .unset, .unset, .unset] [(.int (1 : Int32))])) t
      refine XS.iloadN X0.here hx rfl (hb hby at_1) rfl ?_
      show Steps p.tables e below (s₁.setTop (mkF m 2 #[.val (.int p1), .val (.int p2), .val (.int p3), .val (.int p4), .val (.int p5), .unset, .unset, .unset, .unset, .unset, .unset, .unset, .unset, .unset] [(.int p1), (.int (1 : Int32))])) t
      refine X0.ldcInt hx hown (mvT hZ (hw _ (List.mem_of_getElem? (i := 0) rfl))) (g := (mkF m 2 #[.val (.int p1), .val (.int p2), .val (.int p3), .val (.int p4), .val (.int p5), .unset, .unset, .unset, .unset, .unset, .unset, .unset, .unset, .unset] [(.int p1), (.int (1 : Int32))])) rfl (hb hby at_2) _ ?_
      show Steps p.tables e below (s₁.setTop (mkF m 4 #[.val (.int p1), .val (.int p2), .val (.int p3), .val (.int p4), .val (.int p5), .unset, .unset, .unset, .unset, .unset, .unset, .unset, .unset, .unset] [(.int (2147483647 : Int32)), (.int p1), (.int (1 : Int32))])) t
      refine XS.iand X0.here hx rfl (hb hby at_4) rfl ?_
      show Steps p.tables e below (s₁.setTop (mkF m 5 #[.val (.int p1), .val (.int p2), .val (.int p3), .val (.int p4), .val (.int p5), .unset, .unset, .unset, .unset, .unset, .unset, .unset, .unset, .unset] [(.int (p1 &&& (2147483647 : Int32))), (.int (1 : Int32))])) t
      exact st1 t k)
  obtain ⟨vv3, _, ⟨T3, L3, kk3, nn3⟩, -, X3, ⟨Lc3, hQ3, l3, y3, z3⟩, st3⟩ := Jvm.LawKit.callS X1 hx (y := (⟨"java/lang/Math", "max", "(II)I"⟩ : MethodName)) hown (mvT hZ (hw _ (List.mem_of_getElem? (i := 1) rfl))) (mvT hZ (hw _ (List.mem_of_getElem? (i := 2) rfl))) (mvT hZ (hw _ (List.mem_of_getElem? (i := 3) rfl))) (mvT hZ (hw _ (List.mem_of_getElem? (i := 4) rfl))) (by decide) (backOf (W := 0) HH hZ (hw _ (List.mem_of_getElem? (i := 4) rfl)) (hw _ (List.mem_of_getElem? (i := 3) rfl)) (by decide) (by decide)) (g := (mkF m 15 #[.val (.int p1), .val (.int p2), .val (.int p3), .val (.int p4), .val (.int p5), .val (.int w), .unset, .unset, .unset, .unset, .unset, .unset, .unset, .unset] [(.int (p2 &&& (2147483647 : Int32))), (.int (1 : Int32))])) rfl (by rw [hml]; rfl) (argsL := [(.int (1 : Int32)), (.int (p2 &&& (2147483647 : Int32)))]) (rest := []) (lenOf own_pd__II_I rfl) rfl (by show 2 * 0 + _ ≤ _; exact Nat.le_of_eq rfl) (hb hby at_15) (fun _ _ => ⟨rfl, e1, (by decide : 0 + 0 ≤ _), (by decide : 0 + 0 ≤ _)⟩)
  dsimp only [Pt.U, Pt.locs, Pt.cells, Pt.slots] at X3 l3 y3 z3 st3 hQ3
  subst l3 y3 z3
  obtain ⟨rfl, Nq3, e3⟩ := hQ3
  have N3 := Fr.app N1 Nq3
  have ch4 : ∀ t, Steps p.tables e below (T3.setTop (mkF m 18 #[.val (.int p1), .val (.int p2), .val (.int p3), .val (.int p4), .val (.int p5), .val (.int w), .unset, .unset, .unset, .unset, .unset, .unset, .unset, .unset] [(.int h1)])) t → Steps p.tables e below (s₁.setTop (entryFrame m #[(.int p1), (.int p2), (.int p3), (.int p4), (.int p5)] maxLocals)) t := fun t k => ch2 t (by
      show Steps p.tables e below (T1.setTop (mkF m 8 #[.val (.int p1), .val (.int p2), .val (.int p3), .val (.int p4), .val (.int p5), .unset, .unset, .unset, .unset, .unset, .unset, .unset, .unset, .unset] [(.int w)])) t
      refine XS.istore X1.here hx rfl (hb hby at_8) rfl (l' := #[.val (.int p1), .val (.int p2), .val (.int p3), .val (.int p4), .val (.int p5), .val (.int w), .unset, .unset, .unset, .unset, .unset, .unset, .unset, .unset]) rfl ?_
      show Steps p.tables e below (T1.setTop (mkF m 10 #[.val (.int p1), .val (.int p2), .val (.int p3), .val (.int p4), .val (.int p5), .val (.int w), .unset, .unset, .unset, .unset, .unset, .unset, .unset, .unset] [])) t
      refine XS.iconst X1.here hx rfl (hb hby at_10) ?_
      show Steps p.tables e below (T1.setTop (mkF m 11 #[.val (.int p1), .val (.int p2), .val (.int p3), .val (.int p4), .val (.int p5), .val (.int w), .unset, .unset, .unset, .unset, .unset, .unset, .unset, .unset] [(.int (1 : Int32))])) t
      refine XS.iloadN X1.here hx rfl (hb hby at_11) rfl ?_
      show Steps p.tables e below (T1.setTop (mkF m 12 #[.val (.int p1), .val (.int p2), .val (.int p3), .val (.int p4), .val (.int p5), .val (.int w), .unset, .unset, .unset, .unset, .unset, .unset, .unset, .unset] [(.int p2), (.int (1 : Int32))])) t
      refine X1.ldcInt hx hown (mvT hZ (hw _ (List.mem_of_getElem? (i := 0) rfl))) (g := (mkF m 12 #[.val (.int p1), .val (.int p2), .val (.int p3), .val (.int p4), .val (.int p5), .val (.int w), .unset, .unset, .unset, .unset, .unset, .unset, .unset, .unset] [(.int p2), (.int (1 : Int32))])) rfl (hb hby at_12) _ ?_
      show Steps p.tables e below (T1.setTop (mkF m 14 #[.val (.int p1), .val (.int p2), .val (.int p3), .val (.int p4), .val (.int p5), .val (.int w), .unset, .unset, .unset, .unset, .unset, .unset, .unset, .unset] [(.int (2147483647 : Int32)), (.int p2), (.int (1 : Int32))])) t
      refine XS.iand X1.here hx rfl (hb hby at_14) rfl ?_
      show Steps p.tables e below (T1.setTop (mkF m 15 #[.val (.int p1), .val (.int p2), .val (.int p3), .val (.int p4), .val (.int p5), .val (.int w), .unset, .unset, .unset, .unset, .unset, .unset, .unset, .unset] [(.int (p2 &&& (2147483647 : Int32))), (.int (1 : Int32))])) t
      exact st3 t k)
  obtain ⟨T5, X5, e5, st5⟩ := getS2 X3 hx hZ hown (host := "") (Or.inl (hw _ (List.mem_of_getElem? (i := 55) rfl))) Via.refl e3 (own_S_SIZE W) (g := (mkF m 27 #[.val (.int p1), .val (.int p2), .val (.int p3), .val (.int p4), .val (.int p5), .val (.int w), .val (.int h1), .unset, .unset, .unset, .unset, .unset, .unset, .unset] [])) rfl (hb hby at_27)
  have ch6 : ∀ t, Steps p.tables e below (T5.setTop (mkF m 30 #[.val (.int p1), .val (.int p2), .val (.int p3), .val (.int p4), .val (.int p5), .val (.int w), .val (.int h1), .unset, .unset, .unset, .unset, .unset, .unset, .unset] [(.ref (ad 1))])) t → Steps p.tables e below (s₁.setTop (entryFrame m #[(.int p1), (.int p2), (.int p3), (.int p4), (.int p5)] maxLocals)) t := fun t k => ch4 t (by
      show Steps p.tables e below (T3.setTop (mkF m 18 #[.val (.int p1), .val (.int p2), .val (.int p3), .val (.int p4), .val (.int p5), .val (.int w), .unset, .unset, .unset, .unset, .unset, .unset, .unset, .unset] [(.int h1)])) t
      refine XS.istore X3.here hx rfl (hb hby at_18) rfl (l' := #[.val (.int p1), .val (.int p2), .val (.int p3), .val (.int p4), .val (.int p5), .val (.int w), .val (.int h1), .unset, .unset, .unset, .unset, .unset, .unset, .unset]) rfl ?_
      show Steps p.tables e below (T3.setTop (mkF m 20 #[.val (.int p1), .val (.int p2), .val (.int p3), .val (.int p4), .val (.int p5), .val (.int w), .val (.int h1), .unset, .unset, .unset, .unset, .unset, .unset, .unset] [])) t
      refine XS.iload X3.here hx rfl (hb hby at_20) rfl ?_
      show Steps p.tables e below (T3.setTop (mkF m 22 #[.val (.int p1), .val (.int p2), .val (.int p3), .val (.int p4), .val (.int p5), .val (.int w), .val (.int h1), .unset, .unset, .unset, .unset, .unset, .unset, .unset] [(.int p5)])) t
      refine XS.iconst X3.here hx rfl (hb hby at_22) ?_
      show Steps p.tables e below (T3.setTop (mkF m 23 #[.val (.int p1), .val (.int p2), .val (.int p3), .val (.int p4), .val (.int p5), .val (.int w), .val (.int h1), .unset, .unset, .unset, .unset, .unset, .unset, .unset] [(.int (1 : Int32)), (.int p5)])) t
      refine XS.iand X3.here hx rfl (hb hby at_23) rfl ?_
      show Steps p.tables e below (T3.setTop (mkF m 24 #[.val (.int p1), .val (.int p2), .val (.int p3), .val (.int p4), .val (.int p5), .val (.int w), .val (.int h1), .unset, .unset, .unset, .unset, .unset, .unset, .unset] [(.int (p5 &&& (1 : Int32)))])) t
      refine XS.ifNo X3.here hx rfl (hb hby at_24) rfl ((if0 _ _).trans (feq s0).1) ?_
      show Steps p.tables e below (T3.setTop (mkF m 27 #[.val (.int p1), .val (.int p2), .val (.int p3), .val (.int p4), .val (.int p5), .val (.int w), .val (.int h1), .unset, .unset, .unset, .unset, .unset, .unset, .unset] [])) t
      exact st5 t k)
  obtain ⟨T7, hp7, X7, e7, E7, A7, D7, -, st7⟩ := newO X5 hx hZ hown (hw _ (List.mem_of_getElem? (i := 8) rfl)) (hw _ (List.mem_of_getElem? (i := 9) rfl)) (hw _ (List.mem_of_getElem? (i := 10) rfl)) e5 (g := (mkF m 76 #[.val (.int p1), .val (.int p2), .val (.int p3), .val (.int p4), .val (.int p5), .val (.int w), .val (.int h1), .val (.ref (ad 1)), .val (.int (w + (p3 % (2 : Int32)))), .val (.int (h1 + (p4 % (2 : Int32)))), .unset, .unset, .unset, .unset] [])) rfl (hb hby at_76) (by decide) (by decide)
  obtain ⟨b7, g7⟩ : ∃ z, z = h0.size := ⟨_, rfl⟩
  rw [← g7] at A7 D7 st7
  have ne_ad0_b7 : (ad 0) ≠ b7 := Nat.ne_of_lt (Nat.lt_of_lt_of_le (own_E_DECLARED W).lt (Nat.le_of_eq g7.symm))
  have ne_ad1_b7 : (ad 1) ≠ b7 := Nat.ne_of_lt (Nat.lt_of_lt_of_le (own_E_SIZE W).lt (Nat.le_of_eq g7.symm))
  have g_b7 : n0 ≤ b7 := Nat.le_trans (Nat.le_trans Z0 (Keep.refl h0 []).1) (Nat.le_of_eq g7.symm)
  have sz_b7 : h0.size ≤ b7 := Nat.le_trans (Keep.refl h0 []).1 (Nat.le_of_eq g7.symm)
  have hk := Nat.le_trans hk E7.1
  have Kp7 := Keep.ext (Keep.refl h0 []) E7
  have F7_43 : Fld Z hp7 b7 "com/example/leafwright/leafwright/Thumbnails$Candidate" "url" "Ljava/lang/String;" .null := D7 (Or.inr (hw _ (List.mem_of_getElem? (i := 43) rfl))) (ty := (.object "java/lang/String")) (by decide)
  have F7_45 : Fld Z hp7 b7 "com/example/leafwright/leafwright/Thumbnails$Candidate" "width" "I" (.int (0 : Int32)) := D7 (Or.inr (hw _ (List.mem_of_getElem? (i := 45) rfl))) (ty := .int) (by decide)
  have F7_47 : Fld Z hp7 b7 "com/example/leafwright/leafwright/Thumbnails$Candidate" "height" "I" (.int (0 : Int32)) := D7 (Or.inr (hw _ (List.mem_of_getElem? (i := 47) rfl))) (ty := .int) (by decide)
  have F7_49 : Fld Z hp7 b7 "com/example/leafwright/leafwright/Thumbnails$Candidate" "source" "Lcom/example/leafwright/leafwright/Thumbnails$Source;" .null := D7 (Or.inr (hw _ (List.mem_of_getElem? (i := 49) rfl))) (ty := (.object "com/example/leafwright/leafwright/Thumbnails$Source")) (by decide)
  have ch8 : ∀ t, Steps p.tables e below (T7.setTop (mkF m 79 #[.val (.int p1), .val (.int p2), .val (.int p3), .val (.int p4), .val (.int p5), .val (.int w), .val (.int h1), .val (.ref (ad 1)), .val (.int (w + (p3 % (2 : Int32)))), .val (.int (h1 + (p4 % (2 : Int32)))), .unset, .unset, .unset, .unset] [(.ref b7)])) t → Steps p.tables e below (s₁.setTop (entryFrame m #[(.int p1), (.int p2), (.int p3), (.int p4), (.int p5)] maxLocals)) t := fun t k => ch6 t (by
      show Steps p.tables e below (T5.setTop (mkF m 30 #[.val (.int p1), .val (.int p2), .val (.int p3), .val (.int p4), .val (.int p5), .val (.int w), .val (.int h1), .unset, .unset, .unset, .unset, .unset, .unset, .unset] [(.ref (ad 1))])) t
      refine XS.goto X5.here hx rfl (pc0 := 30) (pc' := 36) rfl (hb hby at_30) (by decide) (by decide) ?_
      show Steps p.tables e below (T5.setTop (mkF m 36 #[.val (.int p1), .val (.int p2), .val (.int p3), .val (.int p4), .val (.int p5), .val (.int w), .val (.int h1), .unset, .unset, .unset, .unset, .unset, .unset, .unset] [(.ref (ad 1))])) t
      refine XS.astore X5.here hx rfl (hb hby at_36) rfl rfl (l' := #[.val (.int p1), .val (.int p2), .val (.int p3), .val (.int p4), .val (.int p5), .val (.int w), .val (.int h1), .val (.ref (ad 1)), .unset, .unset, .unset, .unset, .unset, .unset]) rfl ?_
      show Steps p.tables e below (T5.setTop (mkF m 38 #[.val (.int p1), .val (.int p2), .val (.int p3), .val (.int p4), .val (.int p5), .val (.int w), .val (.int h1), .val (.ref (ad 1)), .unset, .unset, .unset, .unset, .unset, .unset] [])) t
      refine XS.iload X5.here hx rfl (hb hby at_38) rfl ?_
      show Steps p.tables e below (T5.setTop (mkF m 40 #[.val (.int p1), .val (.int p2), .val (.int p3), .val (.int p4), .val (.int p5), .val (.int w), .val (.int h1), .val (.ref (ad 1)), .unset, .unset, .unset, .unset, .unset, .unset] [(.int p5)])) t
      refine XS.iconst X5.here hx rfl (hb hby at_40) ?_
      show Steps p.tables e below (T5.setTop (mkF m 41 #[.val (.int p1), .val (.int p2), .val (.int p3), .val (.int p4), .val (.int p5), .val (.int w), .val (.int h1), .val (.ref (ad 1)), .unset, .unset, .unset, .unset, .unset, .unset] [(.int (2 : Int32)), (.int p5)])) t
      refine XS.iand X5.here hx rfl (hb hby at_41) rfl ?_
      show Steps p.tables e below (T5.setTop (mkF m 42 #[.val (.int p1), .val (.int p2), .val (.int p3), .val (.int p4), .val (.int p5), .val (.int w), .val (.int h1), .val (.ref (ad 1)), .unset, .unset, .unset, .unset, .unset, .unset] [(.int (p5 &&& (2 : Int32)))])) t
      refine XS.ifNo X5.here hx rfl (hb hby at_42) rfl ((if0 _ _).trans (feq s1).1) ?_
      show Steps p.tables e below (T5.setTop (mkF m 45 #[.val (.int p1), .val (.int p2), .val (.int p3), .val (.int p4), .val (.int p5), .val (.int w), .val (.int h1), .val (.ref (ad 1)), .unset, .unset, .unset, .unset, .unset, .unset] [])) t
      refine XS.iload X5.here hx rfl (hb hby at_45) rfl ?_
      show Steps p.tables e below (T5.setTop (mkF m 47 #[.val (.int p1), .val (.int p2), .val (.int p3), .val (.int p4), .val (.int p5), .val (.int w), .val (.int h1), .val (.ref (ad 1)), .unset, .unset, .unset, .unset, .unset, .unset] [(.int w)])) t
      refine XS.iloadN X5.here hx rfl (hb hby at_47) rfl ?_
      show Steps p.tables e below (T5.setTop (mkF m 48 #[.val (.int p1), .val (.int p2), .val (.int p3), .val (.int p4), .val (.int p5), .val (.int w), .val (.int h1), .val (.ref (ad 1)), .unset, .unset, .unset, .unset, .unset, .unset] [(.int p3), (.int w)])) t
      refine XS.iconst X5.here hx rfl (hb hby at_48) ?_
      show Steps p.tables e below (T5.setTop (mkF m 49 #[.val (.int p1), .val (.int p2), .val (.int p3), .val (.int p4), .val (.int p5), .val (.int w), .val (.int h1), .val (.ref (ad 1)), .unset, .unset, .unset, .unset, .unset, .unset] [(.int (2 : Int32)), (.int p3), (.int w)])) t
      refine Jvm.RoadKit.iremM (g := (mkF m 49 #[.val (.int p1), .val (.int p2), .val (.int p3), .val (.int p4), .val (.int p5), .val (.int w), .val (.int h1), .val (.ref (ad 1)), .unset, .unset, .unset, .unset, .unset, .unset] [(.int (2 : Int32)), (.int p3), (.int w)])) X5 hx rfl (hb hby at_49) rfl (by decide) ?_
      show Steps p.tables e below (T5.setTop (mkF m 50 #[.val (.int p1), .val (.int p2), .val (.int p3), .val (.int p4), .val (.int p5), .val (.int w), .val (.int h1), .val (.ref (ad 1)), .unset, .unset, .unset, .unset, .unset, .unset] [(.int (p3 % (2 : Int32))), (.int w)])) t
      refine XS.iadd X5.here hx rfl (hb hby at_50) rfl ?_
      show Steps p.tables e below (T5.setTop (mkF m 51 #[.val (.int p1), .val (.int p2), .val (.int p3), .val (.int p4), .val (.int p5), .val (.int w), .val (.int h1), .val (.ref (ad 1)), .unset, .unset, .unset, .unset, .unset, .unset] [(.int (w + (p3 % (2 : Int32))))])) t
      refine XS.goto X5.here hx rfl (pc0 := 51) (pc' := 55) rfl (hb hby at_51) (by decide) (by decide) ?_
      show Steps p.tables e below (T5.setTop (mkF m 55 #[.val (.int p1), .val (.int p2), .val (.int p3), .val (.int p4), .val (.int p5), .val (.int w), .val (.int h1), .val (.ref (ad 1)), .unset, .unset, .unset, .unset, .unset, .unset] [(.int (w + (p3 % (2 : Int32))))])) t
      refine XS.istore X5.here hx rfl (hb hby at_55) rfl (l' := #[.val (.int p1), .val (.int p2), .val (.int p3), .val (.int p4), .val (.int p5), .val (.int w), .val (.int h1), .val (.ref (ad 1)), .val (.int (w + (p3 % (2 : Int32)))), .unset, .unset, .unset, .unset, .unset]) rfl ?_
      show Steps p.tables e below (T5.setTop (mkF m 57 #[.val (.int p1), .val (.int p2), .val (.int p3), .val (.int p4), .val (.int p5), .val (.int w), .val (.int h1), .val (.ref (ad 1)), .val (.int (w + (p3 % (2 : Int32)))), .unset, .unset, .unset, .unset, .unset] [])) t
      refine XS.iload X5.here hx rfl (hb hby at_57) rfl ?_
      show Steps p.tables e below (T5.setTop (mkF m 59 #[.val (.int p1), .val (.int p2), .val (.int p3), .val (.int p4), .val (.int p5), .val (.int w), .val (.int h1), .val (.ref (ad 1)), .val (.int (w + (p3 % (2 : Int32)))), .unset, .unset, .unset, .unset, .unset] [(.int p5)])) t
      refine XS.iconst X5.here hx rfl (hb hby at_59) ?_
      show Steps p.tables e below (T5.setTop (mkF m 60 #[.val (.int p1), .val (.int p2), .val (.int p3), .val (.int p4), .val (.int p5), .val (.int w), .val (.int h1), .val (.ref (ad 1)), .val (.int (w + (p3 % (2 : Int32)))), .unset, .unset, .unset, .unset, .unset] [(.int (4 : Int32)), (.int p5)])) t
      refine XS.iand X5.here hx rfl (hb hby at_60) rfl ?_
      show Steps p.tables e below (T5.setTop (mkF m 61 #[.val (.int p1), .val (.int p2), .val (.int p3), .val (.int p4), .val (.int p5), .val (.int w), .val (.int h1), .val (.ref (ad 1)), .val (.int (w + (p3 % (2 : Int32)))), .unset, .unset, .unset, .unset, .unset] [(.int (p5 &&& (4 : Int32)))])) t
      refine XS.ifNo X5.here hx rfl (hb hby at_61) rfl ((if0 _ _).trans (feq s2).1) ?_
      show Steps p.tables e below (T5.setTop (mkF m 64 #[.val (.int p1), .val (.int p2), .val (.int p3), .val (.int p4), .val (.int p5), .val (.int w), .val (.int h1), .val (.ref (ad 1)), .val (.int (w + (p3 % (2 : Int32)))), .unset, .unset, .unset, .unset, .unset] [])) t
      refine XS.iload X5.here hx rfl (hb hby at_64) rfl ?_
      show Steps p.tables e below (T5.setTop (mkF m 66 #[.val (.int p1), .val (.int p2), .val (.int p3), .val (.int p4), .val (.int p5), .val (.int w), .val (.int h1), .val (.ref (ad 1)), .val (.int (w + (p3 % (2 : Int32)))), .unset, .unset, .unset, .unset, .unset] [(.int h1)])) t
      refine XS.iloadN X5.here hx rfl (hb hby at_66) rfl ?_
      show Steps p.tables e below (T5.setTop (mkF m 67 #[.val (.int p1), .val (.int p2), .val (.int p3), .val (.int p4), .val (.int p5), .val (.int w), .val (.int h1), .val (.ref (ad 1)), .val (.int (w + (p3 % (2 : Int32)))), .unset, .unset, .unset, .unset, .unset] [(.int p4), (.int h1)])) t
      refine XS.iconst X5.here hx rfl (hb hby at_67) ?_
      show Steps p.tables e below (T5.setTop (mkF m 68 #[.val (.int p1), .val (.int p2), .val (.int p3), .val (.int p4), .val (.int p5), .val (.int w), .val (.int h1), .val (.ref (ad 1)), .val (.int (w + (p3 % (2 : Int32)))), .unset, .unset, .unset, .unset, .unset] [(.int (2 : Int32)), (.int p4), (.int h1)])) t
      refine Jvm.RoadKit.iremM (g := (mkF m 68 #[.val (.int p1), .val (.int p2), .val (.int p3), .val (.int p4), .val (.int p5), .val (.int w), .val (.int h1), .val (.ref (ad 1)), .val (.int (w + (p3 % (2 : Int32)))), .unset, .unset, .unset, .unset, .unset] [(.int (2 : Int32)), (.int p4), (.int h1)])) X5 hx rfl (hb hby at_68) rfl (by decide) ?_
      show Steps p.tables e below (T5.setTop (mkF m 69 #[.val (.int p1), .val (.int p2), .val (.int p3), .val (.int p4), .val (.int p5), .val (.int w), .val (.int h1), .val (.ref (ad 1)), .val (.int (w + (p3 % (2 : Int32)))), .unset, .unset, .unset, .unset, .unset] [(.int (p4 % (2 : Int32))), (.int h1)])) t
      refine XS.iadd X5.here hx rfl (hb hby at_69) rfl ?_
      show Steps p.tables e below (T5.setTop (mkF m 70 #[.val (.int p1), .val (.int p2), .val (.int p3), .val (.int p4), .val (.int p5), .val (.int w), .val (.int h1), .val (.ref (ad 1)), .val (.int (w + (p3 % (2 : Int32)))), .unset, .unset, .unset, .unset, .unset] [(.int (h1 + (p4 % (2 : Int32))))])) t
      refine XS.goto X5.here hx rfl (pc0 := 70) (pc' := 74) rfl (hb hby at_70) (by decide) (by decide) ?_
      show Steps p.tables e below (T5.setTop (mkF m 74 #[.val (.int p1), .val (.int p2), .val (.int p3), .val (.int p4), .val (.int p5), .val (.int w), .val (.int h1), .val (.ref (ad 1)), .val (.int (w + (p3 % (2 : Int32)))), .unset, .unset, .unset, .unset, .unset] [(.int (h1 + (p4 % (2 : Int32))))])) t
      refine XS.istore X5.here hx rfl (hb hby at_74) rfl (l' := #[.val (.int p1), .val (.int p2), .val (.int p3), .val (.int p4), .val (.int p5), .val (.int w), .val (.int h1), .val (.ref (ad 1)), .val (.int (w + (p3 % (2 : Int32)))), .val (.int (h1 + (p4 % (2 : Int32)))), .unset, .unset, .unset, .unset]) rfl ?_
      show Steps p.tables e below (T5.setTop (mkF m 76 #[.val (.int p1), .val (.int p2), .val (.int p3), .val (.int p4), .val (.int p5), .val (.int w), .val (.int h1), .val (.ref (ad 1)), .val (.int (w + (p3 % (2 : Int32)))), .val (.int (h1 + (p4 % (2 : Int32)))), .unset, .unset, .unset, .unset] [])) t
      exact st7 t k)
  obtain ⟨ls9, T9, hp9, ks9, X9, e9, E9, hS, hk, hZ, hown, st9⟩ := ldcS X7 hx hZ hown (hw _ (List.mem_of_getElem? (i := 11) rfl)) (own_wS hw) e7 hS hk (g := (mkF m 80 #[.val (.int p1), .val (.int p2), .val (.int p3), .val (.int p4), .val (.int p5), .val (.int w), .val (.int h1), .val (.ref (ad 1)), .val (.int (w + (p3 % (2 : Int32)))), .val (.int (h1 + (p4 % (2 : Int32)))), .unset, .unset, .unset, .unset] [(.ref b7), (.ref b7)])) rfl (hb hby at_80) (n := 4) (by decide) (by decide) (by decide) (by decide)
  have Kp9 := Keep.ext Kp7 E9
  have ch10 : ∀ t, Steps p.tables e below (T9.setTop (mkF m 82 #[.val (.int p1), .val (.int p2), .val (.int p3), .val (.int p4), .val (.int p5), .val (.int w), .val (.int h1), .val (.ref (ad 1)), .val (.int (w + (p3 % (2 : Int32)))), .val (.int (h1 + (p4 % (2 : Int32)))), .unset, .unset, .unset, .unset] [(.ref ls9), (.ref b7), (.ref b7)])) t → Steps p.tables e below (s₁.setTop (entryFrame m #[(.int p1), (.int p2), (.int p3), (.int p4), (.int p5)] maxLocals)) t := fun t k => ch8 t (by
      show Steps p.tables e below (T7.setTop (mkF m 79 #[.val (.int p1), .val (.int p2), .val (.int p3), .val (.int p4), .val (.int p5), .val (.int w), .val (.int h1), .val (.ref (ad 1)), .val (.int (w + (p3 % (2 : Int32)))), .val (.int (h1 + (p4 % (2 : Int32)))), .unset, .unset, .unset, .unset] [(.ref b7)])) t
      refine XS.dup X7.here hx rfl (hb hby at_79) rfl rfl ?_
      show Steps p.tables e below (T7.setTop (mkF m 80 #[.val (.int p1), .val (.int p2), .val (.int p3), .val (.int p4), .val (.int p5), .val (.int w), .val (.int h1), .val (.ref (ad 1)), .val (.int (w + (p3 % (2 : Int32)))), .val (.int (h1 + (p4 % (2 : Int32)))), .unset, .unset, .unset, .unset] [(.ref b7), (.ref b7)])) t
      exact st9 t k)
  have cf11 := (A7.ext E9)
  have cf12 := (F7_43.ext E9)
  have cf13 := (F7_45.ext E9)
  have cf14 := (F7_47.ext E9)
  have cf15 := (F7_49.ext E9)
  obtain ⟨vv16, _, ⟨T16, L16, kk16, nn16⟩, -, X16, hS2, hgr, ⟨Lc16, hQ16, l16, y16, z16⟩, st16⟩ := X9.specialBackS hx (y := (⟨"com/example/leafwright/leafwright/Thumbnails$Candidate", "<init>", "(Ljava/lang/String;IILcom/example/leafwright/leafwright/Thumbnails$Source;)V"⟩ : MethodName)) rfl hown (mvT hZ (hw _ (List.mem_of_getElem? (i := 19) rfl))) (mvT hZ (hw _ (List.mem_of_getElem? (i := 20) rfl))) (mvT hZ (hw _ (List.mem_of_getElem? (i := 21) rfl))) (by decide) (backOfS (W := 1) (own_ini l Z a0 hw [] hp9 n0 (Nat.le_trans Z0 Kp9.1) b7 ls9 w h1 (ad 1) cf11 cf12 cf13 cf14 cf15 g_b7 pw ph) hZ (hw _ (List.mem_of_getElem? (i := 21) rfl)) (hw _ (List.mem_of_getElem? (i := 10) rfl)) (by decide) (by decide)) (g := (mkF m 88 #[.val (.int p1), .val (.int p2), .val (.int p3), .val (.int p4), .val (.int p5), .val (.int w), .val (.int h1), .val (.ref (ad 1)), .val (.int (w + (p3 % (2 : Int32)))), .val (.int (h1 + (p4 % (2 : Int32)))), .unset, .unset, .unset, .unset] [(.ref (ad 1)), (.int h1), (.int w), (.ref ls9), (.ref b7), (.ref b7)])) rfl (by rw [hml]; rfl) (Steps.refl _) (a := b7) (argsL := [(.ref ls9), (.int w), (.int h1), (.ref (ad 1))]) (rest := [(.ref b7)]) (lenOf own_pd__Ljava_lang_String_IILcom_example_leafwright_leafwright_Thumbnails_Source__V rfl) rfl (by show 2 * 0 + _ ≤ _; exact Nat.le_of_eq rfl) (hb hby at_88) (fun _ _ => ⟨rfl, e9, (by decide : 3 + 8 ≤ _), (by decide : 12 + 96 ≤ _)⟩)
  dsimp only [Pt.U, Pt.locs, Pt.cells, Pt.slots] at X16 l16 y16 z16 st16 hQ16 hS2 hgr
  subst l16 y16 z16
  obtain ⟨X16, hS, hZ, hown⟩ := rebS hS (by rw [e9]; exact hk) X16 hS2 hgr hZ hown
  obtain ⟨hh16, eh16⟩ : ∃ h, T16.heap = h := ⟨_, rfl⟩
  rw [eh16] at hQ16
  rw [eh16] at hS
  have hk : hh16.size ≤ hh16.size := Nat.le_refl _
  obtain ⟨rfl, Nq16, Kq16, fq16_0, fq16_1, fq16_2, fq16_3, fq16_4⟩ := hQ16
  have N16 := Fr.app N3 Nq16
  have Kp16 := Keep.trans Kp9 Kq16 (allS (Or.inr sz_b7) all0)
  have ch17 : ∀ t, Steps p.tables e below (T16.setTop (mkF m 91 #[.val (.int p1), .val (.int p2), .val (.int p3), .val (.int p4), .val (.int p5), .val (.int w), .val (.int h1), .val (.ref (ad 1)), .val (.int (w + (p3 % (2 : Int32)))), .val (.int (h1 + (p4 % (2 : Int32)))), .unset, .unset, .unset, .unset] [(.ref b7)])) t → Steps p.tables e below (s₁.setTop (entryFrame m #[(.int p1), (.int p2), (.int p3), (.int p4), (.int p5)] maxLocals)) t := fun t k => ch10 t (by
      show Steps p.tables e below (T9.setTop (mkF m 82 #[.val (.int p1), .val (.int p2), .val (.int p3), .val (.int p4), .val (.int p5), .val (.int w), .val (.int h1), .val (.ref (ad 1)), .val (.int (w + (p3 % (2 : Int32)))), .val (.int (h1 + (p4 % (2 : Int32)))), .unset, .unset, .unset, .unset] [(.ref ls9), (.ref b7), (.ref b7)])) t
      refine XS.iload X9.here hx rfl (hb hby at_82) rfl ?_
      show Steps p.tables e below (T9.setTop (mkF m 84 #[.val (.int p1), .val (.int p2), .val (.int p3), .val (.int p4), .val (.int p5), .val (.int w), .val (.int h1), .val (.ref (ad 1)), .val (.int (w + (p3 % (2 : Int32)))), .val (.int (h1 + (p4 % (2 : Int32)))), .unset, .unset, .unset, .unset] [(.int w), (.ref ls9), (.ref b7), (.ref b7)])) t
      refine XS.iload X9.here hx rfl (hb hby at_84) rfl ?_
      show Steps p.tables e below (T9.setTop (mkF m 86 #[.val (.int p1), .val (.int p2), .val (.int p3), .val (.int p4), .val (.int p5), .val (.int w), .val (.int h1), .val (.ref (ad 1)), .val (.int (w + (p3 % (2 : Int32)))), .val (.int (h1 + (p4 % (2 : Int32)))), .unset, .unset, .unset, .unset] [(.int h1), (.int w), (.ref ls9), (.ref b7), (.ref b7)])) t
      refine XS.aload X9.here hx rfl (hb hby at_86) rfl rfl ?_
      show Steps p.tables e below (T9.setTop (mkF m 88 #[.val (.int p1), .val (.int p2), .val (.int p3), .val (.int p4), .val (.int p5), .val (.int w), .val (.int h1), .val (.ref (ad 1)), .val (.int (w + (p3 % (2 : Int32)))), .val (.int (h1 + (p4 % (2 : Int32)))), .unset, .unset, .unset, .unset] [(.ref (ad 1)), (.int h1), (.int w), (.ref ls9), (.ref b7), (.ref b7)])) t
      exact st16.trans k)
  have ch19 : ∀ t, Steps p.tables e below (T16.setTop (mkF m 97 #[.val (.int p1), .val (.int p2), .val (.int p3), .val (.int p4), .val (.int p5), .val (.int w), .val (.int h1), .val (.ref (ad 1)), .val (.int (w + (p3 % (2 : Int32)))), .val (.int (h1 + (p4 % (2 : Int32)))), .val (.ref b7), .unset, .unset, .unset] [(.int w), (.int (w + (p3 % (2 : Int32))))])) t → Steps p.tables e below (s₁.setTop (entryFrame m #[(.int p1), (.int p2), (.int p3), (.int p4), (.int p5)] maxLocals)) t := fun t k => ch17 t (by
      show Steps p.tables e below (T16.setTop (mkF m 91 #[.val (.int p1), .val (.int p2), .val (.int p3), .val (.int p4), .val (.int p5), .val (.int w), .val (.int h1), .val (.ref (ad 1)), .val (.int (w + (p3 % (2 : Int32)))), .val (.int (h1 + (p4 % (2 : Int32)))), .unset, .unset, .unset, .unset] [(.ref b7)])) t
      refine XS.astore X16.here hx rfl (hb hby at_91) rfl rfl (l' := #[.val (.int p1), .val (.int p2), .val (.int p3), .val (.int p4), .val (.int p5), .val (.int w), .val (.int h1), .val (.ref (ad 1)), .val (.int (w + (p3 % (2 : Int32)))), .val (.int (h1 + (p4 % (2 : Int32)))), .val (.ref b7), .unset, .unset, .unset]) rfl ?_
      show Steps p.tables e below (T16.setTop (mkF m 93 #[.val (.int p1), .val (.int p2), .val (.int p3), .val (.int p4), .val (.int p5), .val (.int w), .val (.int h1), .val (.ref (ad 1)), .val (.int (w + (p3 % (2 : Int32)))), .val (.int (h1 + (p4 % (2 : Int32)))), .val (.ref b7), .unset, .unset, .unset] [])) t
      refine XS.iload X16.here hx rfl (hb hby at_93) rfl ?_
      show Steps p.tables e below (T16.setTop (mkF m 95 #[.val (.int p1), .val (.int p2), .val (.int p3), .val (.int p4), .val (.int p5), .val (.int w), .val (.int h1), .val (.ref (ad 1)), .val (.int (w + (p3 % (2 : Int32)))), .val (.int (h1 + (p4 % (2 : Int32)))), .val (.ref b7), .unset, .unset, .unset] [(.int (w + (p3 % (2 : Int32))))])) t
      refine XS.iload X16.here hx rfl (hb hby at_95) rfl ?_
      exact k)
  by_cases hq18 : w < (w + (p3 % (2 : Int32)))
  · skip
    have ch21 : ∀ t, Steps p.tables e below (T16.setTop (mkF m 104 #[.val (.int p1), .val (.int p2), .val (.int p3), .val (.int p4), .val (.int p5), .val (.int w), .val (.int h1), .val (.ref (ad 1)), .val (.int (w + (p3 % (2 : Int32)))), .val (.int (h1 + (p4 % (2 : Int32)))), .val (.ref b7), .unset, .unset, .unset] [(.int h1), (.int (h1 + (p4 % (2 : Int32))))])) t → Steps p.tables e below (s₁.setTop (entryFrame m #[(.int p1), (.int p2), (.int p3), (.int p4), (.int p5)] maxLocals)) t := fun t k => ch19 t (by
        show Steps p.tables e below (T16.setTop (mkF m 97 #[.val (.int p1), .val (.int p2), .val (.int p3), .val (.int p4), .val (.int p5), .val (.int w), .val (.int h1), .val (.ref (ad 1)), .val (.int (w + (p3 % (2 : Int32)))), .val (.int (h1 + (p4 % (2 : Int32)))), .val (.ref b7), .unset, .unset, .unset] [(.int w), (.int (w + (p3 % (2 : Int32))))])) t
        refine XS.icmpNo X16.here hx rfl (hb hby at_97) rfl (tlt hq18).2.2.2 ?_
        show Steps p.tables e below (T16.setTop (mkF m 100 #[.val (.int p1), .val (.int p2), .val (.int p3), .val (.int p4), .val (.int p5), .val (.int w), .val (.int h1), .val (.ref (ad 1)), .val (.int (w + (p3 % (2 : Int32)))), .val (.int (h1 + (p4 % (2 : Int32)))), .val (.ref b7), .unset, .unset, .unset] [])) t
        refine XS.iload X16.here hx rfl (hb hby at_100) rfl ?_
        show Steps p.tables e below (T16.setTop (mkF m 102 #[.val (.int p1), .val (.int p2), .val (.int p3), .val (.int p4), .val (.int p5), .val (.int w), .val (.int h1), .val (.ref (ad 1)), .val (.int (w + (p3 % (2 : Int32)))), .val (.int (h1 + (p4 % (2 : Int32)))), .val (.ref b7), .unset, .unset, .unset] [(.int (h1 + (p4 % (2 : Int32))))])) t
        refine XS.iload X16.here hx rfl (hb hby at_102) rfl ?_
        exact k)
    by_cases hq20 : h1 < (h1 + (p4 % (2 : Int32)))
    · skip
      obtain ⟨cq22, kq22, qa22, qb22, qc22⟩ := isOf hZ eh16 fq16_0
      obtain ⟨vv23, _, ⟨T23, L23, kk23, nn23⟩, -, X23, ⟨Lc23, hQ23, l23, y23, z23⟩, st23⟩ := X16.virtualBack hx (y := (⟨"com/example/leafwright/leafwright/Thumbnails$Candidate", "covers", "(II)Z"⟩ : MethodName)) (z := (⟨"com/example/leafwright/leafwright/Thumbnails$Candidate", "covers", "(II)Z"⟩ : MethodName)) hown (mvT hZ (hw _ (List.mem_of_getElem? (i := 50) rfl))) (mvT hZ (hw _ (List.mem_of_getElem? (i := 51) rfl))) (notFace_of_selects (args := #[]) (mvT hZ (hw _ (List.mem_of_getElem? (i := 53) rfl)))) (mvT hZ (hw _ (List.mem_of_getElem? (i := 53) rfl))) (mvT hZ (hw _ (List.mem_of_getElem? (i := 52) rfl))) (by decide) (backOf (W := 0) (own_cov_c l Z a0 hw [] hh16 n0 (Nat.le_trans Z0 Kp16.1) b7 w h1 (w + (p3 % (2 : Int32))) (h1 + (p4 % (2 : Int32))) fq16_2 fq16_3 hq18 hq20) hZ (hw _ (List.mem_of_getElem? (i := 54) rfl)) (hw _ (List.mem_of_getElem? (i := 10) rfl)) (by decide) (by decide)) qa22 qc22 (g := (mkF m 120 #[.val (.int p1), .val (.int p2), .val (.int p3), .val (.int p4), .val (.int p5), .val (.int w), .val (.int h1), .val (.ref (ad 1)), .val (.int (w + (p3 % (2 : Int32)))), .val (.int (h1 + (p4 % (2 : Int32)))), .val (.ref b7), .val (.int (1 : Int32)), .unset, .unset] [(.int (h1 + (p4 % (2 : Int32)))), (.int (w + (p3 % (2 : Int32)))), (.ref b7)])) rfl (by rw [hml]; rfl) (Steps.refl _) (argsL := [(.int (w + (p3 % (2 : Int32)))), (.int (h1 + (p4 % (2 : Int32))))]) (rest := []) (lenOf own_pd__II_Z rfl) rfl (by show 2 * 0 + _ ≤ _; exact Nat.le_of_eq rfl) (hb hby at_120) (fun _ _ => ⟨rfl, eh16, (by decide : 11 + 0 ≤ _), (by decide : 108 + 0 ≤ _)⟩)
      dsimp only [Pt.U, Pt.locs, Pt.cells, Pt.slots] at X23 l23 y23 z23 st23 hQ23
      subst l23 y23 z23
      obtain ⟨rfl, Nq23, e23⟩ := hQ23
      have N23 := Fr.app N16 Nq23
      have ch24 : ∀ t, Steps p.tables e below (T23.setTop (mkF m 123 #[.val (.int p1), .val (.int p2), .val (.int p3), .val (.int p4), .val (.int p5), .val (.int w), .val (.int h1), .val (.ref (ad 1)), .val (.int (w + (p3 % (2 : Int32)))), .val (.int (h1 + (p4 % (2 : Int32)))), .val (.ref b7), .val (.int (1 : Int32)), .unset, .unset] [(.int (0 : Int32))])) t → Steps p.tables e below (s₁.setTop (entryFrame m #[(.int p1), (.int p2), (.int p3), (.int p4), (.int p5)] maxLocals)) t := fun t k => ch21 t (by
          show Steps p.tables e below (T16.setTop (mkF m 104 #[.val (.int p1), .val (.int p2), .val (.int p3), .val (.int p4), .val (.int p5), .val (.int w), .val (.int h1), .val (.ref (ad 1)), .val (.int (w + (p3 % (2 : Int32)))), .val (.int (h1 + (p4 % (2 : Int32)))), .val (.ref b7), .unset, .unset, .unset] [(.int h1), (.int (h1 + (p4 % (2 : Int32))))])) t
          refine XS.icmpNo X16.here hx rfl (hb hby at_104) rfl (tlt hq20).2.2.2 ?_
          show Steps p.tables e below (T16.setTop (mkF m 107 #[.val (.int p1), .val (.int p2), .val (.int p3), .val (.int p4), .val (.int p5), .val (.int w), .val (.int h1), .val (.ref (ad 1)), .val (.int (w + (p3 % (2 : Int32)))), .val (.int (h1 + (p4 % (2 : Int32)))), .val (.ref b7), .unset, .unset, .unset] [])) t
          refine XS.iconst X16.here hx rfl (hb hby at_107) ?_
          show Steps p.tables e below (T16.setTop (mkF m 108 #[.val (.int p1), .val (.int p2), .val (.int p3), .val (.int p4), .val (.int p5), .val (.int w), .val (.int h1), .val (.ref (ad 1)), .val (.int (w + (p3 % (2 : Int32)))), .val (.int (h1 + (p4 % (2 : Int32)))), .val (.ref b7), .unset, .unset, .unset] [(.int (1 : Int32))])) t
          refine XS.goto X16.here hx rfl (pc0 := 108) (pc' := 112) rfl (hb hby at_108) (by decide) (by decide) ?_
          show Steps p.tables e below (T16.setTop (mkF m 112 #[.val (.int p1), .val (.int p2), .val (.int p3), .val (.int p4), .val (.int p5), .val (.int w), .val (.int h1), .val (.ref (ad 1)), .val (.int (w + (p3 % (2 : Int32)))), .val (.int (h1 + (p4 % (2 : Int32)))), .val (.ref b7), .unset, .unset, .unset] [(.int (1 : Int32))])) t
          refine XS.istore X16.here hx rfl (hb hby at_112) rfl (l' := #[.val (.int p1), .val (.int p2), .val (.int p3), .val (.int p4), .val (.int p5), .val (.int w), .val (.int h1), .val (.ref (ad 1)), .val (.int (w + (p3 % (2 : Int32)))), .val (.int (h1 + (p4 % (2 : Int32)))), .val (.ref b7), .val (.int (1 : Int32)), .unset, .unset]) rfl ?_
          show Steps p.tables e below (T16.setTop (mkF m 114 #[.val (.int p1), .val (.int p2), .val (.int p3), .val (.int p4), .val (.int p5), .val (.int w), .val (.int h1), .val (.ref (ad 1)), .val (.int (w + (p3 % (2 : Int32)))), .val (.int (h1 + (p4 % (2 : Int32)))), .val (.ref b7), .val (.int (1 : Int32)), .unset, .unset] [])) t
          refine XS.aload X16.here hx rfl (hb hby at_114) rfl rfl ?_
          show Steps p.tables e below (T16.setTop (mkF m 116 #[.val (.int p1), .val (.int p2), .val (.int p3), .val (.int p4), .val (.int p5), .val (.int w), .val (.int h1), .val (.ref (ad 1)), .val (.int (w + (p3 % (2 : Int32)))), .val (.int (h1 + (p4 % (2 : Int32)))), .val (.ref b7), .val (.int (1 : Int32)), .unset, .unset] [(.ref b7)])) t
          refine XS.iload X16.here hx rfl (hb hby at_116) rfl ?_
          show Steps p.tables e below (T16.setTop (mkF m 118 #[.val (.int p1), .val (.int p2), .val (.int p3), .val (.int p4), .val (.int p5), .val (.int w), .val (.int h1), .val (.ref (ad 1)), .val (.int (w + (p3 % (2 : Int32)))), .val (.int (h1 + (p4 % (2 : Int32)))), .val (.ref b7), .val (.int (1 : Int32)), .unset, .unset] [(.int (w + (p3 % (2 : Int32)))), (.ref b7)])) t
          refine XS.iload X16.here hx rfl (hb hby at_118) rfl ?_
          show Steps p.tables e below (T16.setTop (mkF m 120 #[.val (.int p1), .val (.int p2), .val (.int p3), .val (.int p4), .val (.int p5), .val (.int w), .val (.int h1), .val (.ref (ad 1)), .val (.int (w + (p3 % (2 : Int32)))), .val (.int (h1 + (p4 % (2 : Int32)))), .val (.ref b7), .val (.int (1 : Int32)), .unset, .unset] [(.int (h1 + (p4 % (2 : Int32)))), (.int (w + (p3 % (2 : Int32)))), (.ref b7)])) t
          exact st23.trans k)
      obtain ⟨cq25, kq25, qa25, qb25, qc25⟩ := isOf hZ e23 fq16_0
      obtain ⟨vv26, _, ⟨T26, L26, kk26, nn26⟩, -, X26, ⟨Lc26, hQ26, l26, y26, z26⟩, st26⟩ := X23.virtualBack hx (y := (⟨"com/example/leafwright/leafwright/Thumbnails$Candidate", "covers", "(II)Z"⟩ : MethodName)) (z := (⟨"com/example/leafwright/leafwright/Thumbnails$Candidate", "covers", "(II)Z"⟩ : MethodName)) hown (mvT hZ (hw _ (List.mem_of_getElem? (i := 50) rfl))) (mvT hZ (hw _ (List.mem_of_getElem? (i := 51) rfl))) (notFace_of_selects (args := #[]) (mvT hZ (hw _ (List.mem_of_getElem? (i := 53) rfl)))) (mvT hZ (hw _ (List.mem_of_getElem? (i := 53) rfl))) (mvT hZ (hw _ (List.mem_of_getElem? (i := 52) rfl))) (by decide) (backOf (W := 0) (own_cov_a l Z a0 hw [] hh16 n0 (Nat.le_trans Z0 Kp16.1) b7 w h1 w h1 fq16_2 fq16_3 (Int32.lt_irrefl : ¬ w < w)) hZ (hw _ (List.mem_of_getElem? (i := 54) rfl)) (hw _ (List.mem_of_getElem? (i := 10) rfl)) (by decide) (by decide)) qa25 qc25 (g := (mkF m 131 #[.val (.int p1), .val (.int p2), .val (.int p3), .val (.int p4), .val (.int p5), .val (.int w), .val (.int h1), .val (.ref (ad 1)), .val (.int (w + (p3 % (2 : Int32)))), .val (.int (h1 + (p4 % (2 : Int32)))), .val (.ref b7), .val (.int (1 : Int32)), .val (.int (0 : Int32)), .unset] [(.int h1), (.int w), (.ref b7)])) rfl (by rw [hml]; rfl) (Steps.refl _) (argsL := [(.int w), (.int h1)]) (rest := []) (lenOf own_pd__II_Z rfl) rfl (by show 2 * 0 + _ ≤ _; exact Nat.le_of_eq rfl) (hb hby at_131) (fun _ _ => ⟨rfl, e23, (by decide : 11 + 0 ≤ _), (by decide : 108 + 0 ≤ _)⟩)
      dsimp only [Pt.U, Pt.locs, Pt.cells, Pt.slots] at X26 l26 y26 z26 st26 hQ26
      subst l26 y26 z26
      obtain ⟨rfl, Nq26, e26⟩ := hQ26
      have N26 := Fr.app N23 Nq26
      have ch27 : ∀ t, Steps p.tables e below (T26.setTop (mkF m 134 #[.val (.int p1), .val (.int p2), .val (.int p3), .val (.int p4), .val (.int p5), .val (.int w), .val (.int h1), .val (.ref (ad 1)), .val (.int (w + (p3 % (2 : Int32)))), .val (.int (h1 + (p4 % (2 : Int32)))), .val (.ref b7), .val (.int (1 : Int32)), .val (.int (0 : Int32)), .unset] [(.int (1 : Int32))])) t → Steps p.tables e below (s₁.setTop (entryFrame m #[(.int p1), (.int p2), (.int p3), (.int p4), (.int p5)] maxLocals)) t := fun t k => ch24 t (by
          show Steps p.tables e below (T23.setTop (mkF m 123 #[.val (.int p1), .val (.int p2), .val (.int p3), .val (.int p4), .val (.int p5), .val (.int w), .val (.int h1), .val (.ref (ad 1)), .val (.int (w + (p3 % (2 : Int32)))), .val (.int (h1 + (p4 % (2 : Int32)))), .val (.ref b7), .val (.int (1 : Int32)), .unset, .unset] [(.int (0 : Int32))])) t
          refine XS.istore X23.here hx rfl (hb hby at_123) rfl (l' := #[.val (.int p1), .val (.int p2), .val (.int p3), .val (.int p4), .val (.int p5), .val (.int w), .val (.int h1), .val (.ref (ad 1)), .val (.int (w + (p3 % (2 : Int32)))), .val (.int (h1 + (p4 % (2 : Int32)))), .val (.ref b7), .val (.int (1 : Int32)), .val (.int (0 : Int32)), .unset]) rfl ?_
          show Steps p.tables e below (T23.setTop (mkF m 125 #[.val (.int p1), .val (.int p2), .val (.int p3), .val (.int p4), .val (.int p5), .val (.int w), .val (.int h1), .val (.ref (ad 1)), .val (.int (w + (p3 % (2 : Int32)))), .val (.int (h1 + (p4 % (2 : Int32)))), .val (.ref b7), .val (.int (1 : Int32)), .val (.int (0 : Int32)), .unset] [])) t
          refine XS.aload X23.here hx rfl (hb hby at_125) rfl rfl ?_
          show Steps p.tables e below (T23.setTop (mkF m 127 #[.val (.int p1), .val (.int p2), .val (.int p3), .val (.int p4), .val (.int p5), .val (.int w), .val (.int h1), .val (.ref (ad 1)), .val (.int (w + (p3 % (2 : Int32)))), .val (.int (h1 + (p4 % (2 : Int32)))), .val (.ref b7), .val (.int (1 : Int32)), .val (.int (0 : Int32)), .unset] [(.ref b7)])) t
          refine XS.iload X23.here hx rfl (hb hby at_127) rfl ?_
          show Steps p.tables e below (T23.setTop (mkF m 129 #[.val (.int p1), .val (.int p2), .val (.int p3), .val (.int p4), .val (.int p5), .val (.int w), .val (.int h1), .val (.ref (ad 1)), .val (.int (w + (p3 % (2 : Int32)))), .val (.int (h1 + (p4 % (2 : Int32)))), .val (.ref b7), .val (.int (1 : Int32)), .val (.int (0 : Int32)), .unset] [(.int w), (.ref b7)])) t
          refine XS.iload X23.here hx rfl (hb hby at_129) rfl ?_
          show Steps p.tables e below (T23.setTop (mkF m 131 #[.val (.int p1), .val (.int p2), .val (.int p3), .val (.int p4), .val (.int p5), .val (.int w), .val (.int h1), .val (.ref (ad 1)), .val (.int (w + (p3 % (2 : Int32)))), .val (.int (h1 + (p4 % (2 : Int32)))), .val (.ref b7), .val (.int (1 : Int32)), .val (.int (0 : Int32)), .unset] [(.int h1), (.int w), (.ref b7)])) t
          exact st26.trans k)
      have ch28 : ∀ t, Steps p.tables e below (T26.setTop (mkF m 161 #[.val (.int p1), .val (.int p2), .val (.int p3), .val (.int p4), .val (.int p5), .val (.int w), .val (.int h1), .val (.ref (ad 1)), .val (.int (w + (p3 % (2 : Int32)))), .val (.int (h1 + (p4 % (2 : Int32)))), .val (.ref b7), .val (.int (1 : Int32)), .val (.int (0 : Int32)), .val (.int (1 : Int32))] [(.int (1 : Int32))])) t → Steps p.tables e below (s₁.setTop (entryFrame m #[(.int p1), (.int p2), (.int p3), (.int p4), (.int p5)] maxLocals)) t := fun t k => ch27 t (by
          show Steps p.tables e below (T26.setTop (mkF m 134 #[.val (.int p1), .val (.int p2), .val (.int p3), .val (.int p4), .val (.int p5), .val (.int w), .val (.int h1), .val (.ref (ad 1)), .val (.int (w + (p3 % (2 : Int32)))), .val (.int (h1 + (p4 % (2 : Int32)))), .val (.ref b7), .val (.int (1 : Int32)), .val (.int (0 : Int32)), .unset] [(.int (1 : Int32))])) t
          refine XS.istore X26.here hx rfl (hb hby at_134) rfl (l' := #[.val (.int p1), .val (.int p2), .val (.int p3), .val (.int p4), .val (.int p5), .val (.int w), .val (.int h1), .val (.ref (ad 1)), .val (.int (w + (p3 % (2 : Int32)))), .val (.int (h1 + (p4 % (2 : Int32)))), .val (.ref b7), .val (.int (1 : Int32)), .val (.int (0 : Int32)), .val (.int (1 : Int32))]) rfl ?_
          show Steps p.tables e below (T26.setTop (mkF m 136 #[.val (.int p1), .val (.int p2), .val (.int p3), .val (.int p4), .val (.int p5), .val (.int w), .val (.int h1), .val (.ref (ad 1)), .val (.int (w + (p3 % (2 : Int32)))), .val (.int (h1 + (p4 % (2 : Int32)))), .val (.ref b7), .val (.int (1 : Int32)), .val (.int (0 : Int32)), .val (.int (1 : Int32))] [])) t
          refine XS.iload X26.here hx rfl (hb hby at_136) rfl ?_
          show Steps p.tables e below (T26.setTop (mkF m 138 #[.val (.int p1), .val (.int p2), .val (.int p3), .val (.int p4), .val (.int p5), .val (.int w), .val (.int h1), .val (.ref (ad 1)), .val (.int (w + (p3 % (2 : Int32)))), .val (.int (h1 + (p4 % (2 : Int32)))), .val (.ref b7), .val (.int (1 : Int32)), .val (.int (0 : Int32)), .val (.int (1 : Int32))] [(.int (0 : Int32))])) t
          refine XS.iload X26.here hx rfl (hb hby at_138) rfl ?_
          show Steps p.tables e below (T26.setTop (mkF m 140 #[.val (.int p1), .val (.int p2), .val (.int p3), .val (.int p4), .val (.int p5), .val (.int w), .val (.int h1), .val (.ref (ad 1)), .val (.int (w + (p3 % (2 : Int32)))), .val (.int (h1 + (p4 % (2 : Int32)))), .val (.ref b7), .val (.int (1 : Int32)), .val (.int (0 : Int32)), .val (.int (1 : Int32))] [(.int (1 : Int32)), (.int (0 : Int32))])) t
          refine XS.ifYes X26.here hx rfl (pc0 := 140) (pc' := 147) rfl (hb hby at_140) rfl ((if0 _ _).trans (feq (by decide : ¬ (1 : Int32) = (0 : Int32))).2) (by decide) (by decide) ?_
          show Steps p.tables e below (T26.setTop (mkF m 147 #[.val (.int p1), .val (.int p2), .val (.int p3), .val (.int p4), .val (.int p5), .val (.int w), .val (.int h1), .val (.ref (ad 1)), .val (.int (w + (p3 % (2 : Int32)))), .val (.int (h1 + (p4 % (2 : Int32)))), .val (.ref b7), .val (.int (1 : Int32)), .val (.int (0 : Int32)), .val (.int (1 : Int32))] [(.int (0 : Int32))])) t
          refine XS.iconst X26.here hx rfl (hb hby at_147) ?_
          show Steps p.tables e below (T26.setTop (mkF m 148 #[.val (.int p1), .val (.int p2), .val (.int p3), .val (.int p4), .val (.int p5), .val (.int w), .val (.int h1), .val (.ref (ad 1)), .val (.int (w + (p3 % (2 : Int32)))), .val (.int (h1 + (p4 % (2 : Int32)))), .val (.ref b7), .val (.int (1 : Int32)), .val (.int (0 : Int32)), .val (.int (1 : Int32))] [(.int (0 : Int32)), (.int (0 : Int32))])) t
          refine XS.icmpNo X26.here hx rfl (hb hby at_148) rfl (teq (by decide : (0 : Int32) = (0 : Int32))).2 ?_
          show Steps p.tables e below (T26.setTop (mkF m 151 #[.val (.int p1), .val (.int p2), .val (.int p3), .val (.int p4), .val (.int p5), .val (.int w), .val (.int h1), .val (.ref (ad 1)), .val (.int (w + (p3 % (2 : Int32)))), .val (.int (h1 + (p4 % (2 : Int32)))), .val (.ref b7), .val (.int (1 : Int32)), .val (.int (0 : Int32)), .val (.int (1 : Int32))] [])) t
          refine XS.iload X26.here hx rfl (hb hby at_151) rfl ?_
          show Steps p.tables e below (T26.setTop (mkF m 153 #[.val (.int p1), .val (.int p2), .val (.int p3), .val (.int p4), .val (.int p5), .val (.int w), .val (.int h1), .val (.ref (ad 1)), .val (.int (w + (p3 % (2 : Int32)))), .val (.int (h1 + (p4 % (2 : Int32)))), .val (.ref b7), .val (.int (1 : Int32)), .val (.int (0 : Int32)), .val (.int (1 : Int32))] [(.int (1 : Int32))])) t
          refine XS.ifNo X26.here hx rfl (hb hby at_153) rfl ((if0 _ _).trans (feq (by decide : ¬ (1 : Int32) = (0 : Int32))).1) ?_
          show Steps p.tables e below (T26.setTop (mkF m 156 #[.val (.int p1), .val (.int p2), .val (.int p3), .val (.int p4), .val (.int p5), .val (.int w), .val (.int h1), .val (.ref (ad 1)), .val (.int (w + (p3 % (2 : Int32)))), .val (.int (h1 + (p4 % (2 : Int32)))), .val (.ref b7), .val (.int (1 : Int32)), .val (.int (0 : Int32)), .val (.int (1 : Int32))] [])) t
          refine XS.iconst X26.here hx rfl (hb hby at_156) ?_
          show Steps p.tables e below (T26.setTop (mkF m 157 #[.val (.int p1), .val (.int p2), .val (.int p3), .val (.int p4), .val (.int p5), .val (.int w), .val (.int h1), .val (.ref (ad 1)), .val (.int (w + (p3 % (2 : Int32)))), .val (.int (h1 + (p4 % (2 : Int32)))), .val (.ref b7), .val (.int (1 : Int32)), .val (.int (0 : Int32)), .val (.int (1 : Int32))] [(.int (1 : Int32))])) t
          refine XS.goto X26.here hx rfl (pc0 := 157) (pc' := 161) rfl (hb hby at_157) (by decide) (by decide) ?_
          exact k)
      obtain ⟨fs, hr, hrun, hended, hend⟩ := X26.leaveW hS (by rw [e26]; exact hk) (v := some (.int (1 : Int32))) (fun h => by rw [Bd.returns] at h; cases h)
      refine ⟨_, _, ch28 _ ?_, hrun, hended, _, _, rfl, ?_, hend.1, hend.2.1, hend.2.2.1, hend.2.2.2.mono (by decide) (by decide)⟩
      · show Steps p.tables e below (T26.setTop (mkF m 161 #[.val (.int p1), .val (.int p2), .val (.int p3), .val (.int p4), .val (.int p5), .val (.int w), .val (.int h1), .val (.ref (ad 1)), .val (.int (w + (p3 % (2 : Int32)))), .val (.int (h1 + (p4 % (2 : Int32)))), .val (.ref b7), .val (.int (1 : Int32)), .val (.int (0 : Int32)), .val (.int (1 : Int32))] [(.int (1 : Int32))])) _
        exact retN X26 hx (t := .boolean) Bd.returns (by simp) (hb hby at_161) hr
      · show QN (some (.int (1 : Int32))) n0 _ T26.heap _
        rw [e26]
        exact ⟨rfl, N26⟩
    · skip
      obtain ⟨cq29, kq29, qa29, qb29, qc29⟩ := isOf hZ eh16 fq16_0
      obtain ⟨vv30, _, ⟨T30, L30, kk30, nn30⟩, -, X30, ⟨Lc30, hQ30, l30, y30, z30⟩, st30⟩ := X16.virtualBack hx (y := (⟨"com/example/leafwright/leafwright/Thumbnails$Candidate", "covers", "(II)Z"⟩ : MethodName)) (z := (⟨"com/example/leafwright/leafwright/Thumbnails$Candidate", "covers", "(II)Z"⟩ : MethodName)) hown (mvT hZ (hw _ (List.mem_of_getElem? (i := 50) rfl))) (mvT hZ (hw _ (List.mem_of_getElem? (i := 51) rfl))) (notFace_of_selects (args := #[]) (mvT hZ (hw _ (List.mem_of_getElem? (i := 53) rfl)))) (mvT hZ (hw _ (List.mem_of_getElem? (i := 53) rfl))) (mvT hZ (hw _ (List.mem_of_getElem? (i := 52) rfl))) (by decide) (backOf (W := 0) (own_cov_b l Z a0 hw [] hh16 n0 (Nat.le_trans Z0 Kp16.1) b7 w h1 (w + (p3 % (2 : Int32))) (h1 + (p4 % (2 : Int32))) fq16_2 fq16_3 hq18 hq20) hZ (hw _ (List.mem_of_getElem? (i := 54) rfl)) (hw _ (List.mem_of_getElem? (i := 10) rfl)) (by decide) (by decide)) qa29 qc29 (g := (mkF m 120 #[.val (.int p1), .val (.int p2), .val (.int p3), .val (.int p4), .val (.int p5), .val (.int w), .val (.int h1), .val (.ref (ad 1)), .val (.int (w + (p3 % (2 : Int32)))), .val (.int (h1 + (p4 % (2 : Int32)))), .val (.ref b7), .val (.int (0 : Int32)), .unset, .unset] [(.int (h1 + (p4 % (2 : Int32)))), (.int (w + (p3 % (2 : Int32)))), (.ref b7)])) rfl (by rw [hml]; rfl) (Steps.refl _) (argsL := [(.int (w + (p3 % (2 : Int32)))), (.int (h1 + (p4 % (2 : Int32))))]) (rest := []) (lenOf own_pd__II_Z rfl) rfl (by show 2 * 0 + _ ≤ _; exact Nat.le_of_eq rfl) (hb hby at_120) (fun _ _ => ⟨rfl, eh16, (by decide : 11 + 0 ≤ _), (by decide : 108 + 0 ≤ _)⟩)
      dsimp only [Pt.U, Pt.locs, Pt.cells, Pt.slots] at X30 l30 y30 z30 st30 hQ30
      subst l30 y30 z30
      obtain ⟨rfl, Nq30, e30⟩ := hQ30
      have N30 := Fr.app N16 Nq30
      have ch31 : ∀ t, Steps p.tables e below (T30.setTop (mkF m 123 #[.val (.int p1), .val (.int p2), .val (.int p3), .val (.int p4), .val (.int p5), .val (.int w), .val (.int h1), .val (.ref (ad 1)), .val (.int (w + (p3 % (2 : Int32)))), .val (.int (h1 + (p4 % (2 : Int32)))), .val (.ref b7), .val (.int (0 : Int32)), .unset, .unset] [(.int (1 : Int32))])) t → Steps p.tables e below (s₁.setTop (entryFrame m #[(.int p1), (.int p2), (.int p3), (.int p4), (.int p5)] maxLocals)) t := fun t k => ch21 t (by
          show Steps p.tables e below (T16.setTop (mkF m 104 #[.val (.int p1), .val (.int p2), .val (.int p3), .val (.int p4), .val (.int p5), .val (.int w), .val (.int h1), .val (.ref (ad 1)), .val (.int (w + (p3 % (2 : Int32)))), .val (.int (h1 + (p4 % (2 : Int32)))), .val (.ref b7), .unset, .unset, .unset] [(.int h1), (.int (h1 + (p4 % (2 : Int32))))])) t
          refine XS.icmpYes X16.here hx rfl (pc0 := 104) (pc' := 111) rfl (hb hby at_104) rfl (flt hq20).2.2.2 (by decide) (by decide) ?_
          show Steps p.tables e below (T16.setTop (mkF m 111 #[.val (.int p1), .val (.int p2), .val (.int p3), .val (.int p4), .val (.int p5), .val (.int w), .val (.int h1), .val (.ref (ad 1)), .val (.int (w + (p3 % (2 : Int32)))), .val (.int (h1 + (p4 % (2 : Int32)))), .val (.ref b7), .unset, .unset, .unset] [])) t
          refine XS.iconst X16.here hx rfl (hb hby at_111) ?_
          show Steps p.tables e below (T16.setTop (mkF m 112 #[.val (.int p1), .val (.int p2), .val (.int p3), .val (.int p4), .val (.int p5), .val (.int w), .val (.int h1), .val (.ref (ad 1)), .val (.int (w + (p3 % (2 : Int32)))), .val (.int (h1 + (p4 % (2 : Int32)))), .val (.ref b7), .unset, .unset, .unset] [(.int (0 : Int32))])) t
          refine XS.istore X16.here hx rfl (hb hby at_112) rfl (l' := #[.val (.int p1), .val (.int p2), .val (.int p3), .val (.int p4), .val (.int p5), .val (.int w), .val (.int h1), .val (.ref (ad 1)), .val (.int (w + (p3 % (2 : Int32)))), .val (.int (h1 + (p4 % (2 : Int32)))), .val (.ref b7), .val (.int (0 : Int32)), .unset, .unset]) rfl ?_
          show Steps p.tables e below (T16.setTop (mkF m 114 #[.val (.int p1), .val (.int p2), .val (.int p3), .val (.int p4), .val (.int p5), .val (.int w), .val (.int h1), .val (.ref (ad 1)), .val (.int (w + (p3 % (2 : Int32)))), .val (.int (h1 + (p4 % (2 : Int32)))), .val (.ref b7), .val (.int (0 : Int32)), .unset, .unset] [])) t
          refine XS.aload X16.here hx rfl (hb hby at_114) rfl rfl ?_
          show Steps p.tables e below (T16.setTop (mkF m 116 #[.val (.int p1), .val (.int p2), .val (.int p3), .val (.int p4), .val (.int p5), .val (.int w), .val (.int h1), .val (.ref (ad 1)), .val (.int (w + (p3 % (2 : Int32)))), .val (.int (h1 + (p4 % (2 : Int32)))), .val (.ref b7), .val (.int (0 : Int32)), .unset, .unset] [(.ref b7)])) t
          refine XS.iload X16.here hx rfl (hb hby at_116) rfl ?_
          show Steps p.tables e below (T16.setTop (mkF m 118 #[.val (.int p1), .val (.int p2), .val (.int p3), .val (.int p4), .val (.int p5), .val (.int w), .val (.int h1), .val (.ref (ad 1)), .val (.int (w + (p3 % (2 : Int32)))), .val (.int (h1 + (p4 % (2 : Int32)))), .val (.ref b7), .val (.int (0 : Int32)), .unset, .unset] [(.int (w + (p3 % (2 : Int32)))), (.ref b7)])) t
          refine XS.iload X16.here hx rfl (hb hby at_118) rfl ?_
          show Steps p.tables e below (T16.setTop (mkF m 120 #[.val (.int p1), .val (.int p2), .val (.int p3), .val (.int p4), .val (.int p5), .val (.int w), .val (.int h1), .val (.ref (ad 1)), .val (.int (w + (p3 % (2 : Int32)))), .val (.int (h1 + (p4 % (2 : Int32)))), .val (.ref b7), .val (.int (0 : Int32)), .unset, .unset] [(.int (h1 + (p4 % (2 : Int32)))), (.int (w + (p3 % (2 : Int32)))), (.ref b7)])) t
          exact st30.trans k)
      obtain ⟨cq32, kq32, qa32, qb32, qc32⟩ := isOf hZ e30 fq16_0
      obtain ⟨vv33, _, ⟨T33, L33, kk33, nn33⟩, -, X33, ⟨Lc33, hQ33, l33, y33, z33⟩, st33⟩ := X30.virtualBack hx (y := (⟨"com/example/leafwright/leafwright/Thumbnails$Candidate", "covers", "(II)Z"⟩ : MethodName)) (z := (⟨"com/example/leafwright/leafwright/Thumbnails$Candidate", "covers", "(II)Z"⟩ : MethodName)) hown (mvT hZ (hw _ (List.mem_of_getElem? (i := 50) rfl))) (mvT hZ (hw _ (List.mem_of_getElem? (i := 51) rfl))) (notFace_of_selects (args := #[]) (mvT hZ (hw _ (List.mem_of_getElem? (i := 53) rfl)))) (mvT hZ (hw _ (List.mem_of_getElem? (i := 53) rfl))) (mvT hZ (hw _ (List.mem_of_getElem? (i := 52) rfl))) (by decide) (backOf (W := 0) (own_cov_a l Z a0 hw [] hh16 n0 (Nat.le_trans Z0 Kp16.1) b7 w h1 w h1 fq16_2 fq16_3 (Int32.lt_irrefl : ¬ w < w)) hZ (hw _ (List.mem_of_getElem? (i := 54) rfl)) (hw _ (List.mem_of_getElem? (i := 10) rfl)) (by decide) (by decide)) qa32 qc32 (g := (mkF m 131 #[.val (.int p1), .val (.int p2), .val (.int p3), .val (.int p4), .val (.int p5), .val (.int w), .val (.int h1), .val (.ref (ad 1)), .val (.int (w + (p3 % (2 : Int32)))), .val (.int (h1 + (p4 % (2 : Int32)))), .val (.ref b7), .val (.int (0 : Int32)), .val (.int (1 : Int32)), .unset] [(.int h1), (.int w), (.ref b7)])) rfl (by rw [hml]; rfl) (Steps.refl _) (argsL := [(.int w), (.int h1)]) (rest := []) (lenOf own_pd__II_Z rfl) rfl (by show 2 * 0 + _ ≤ _; exact Nat.le_of_eq rfl) (hb hby at_131) (fun _ _ => ⟨rfl, e30, (by decide : 11 + 0 ≤ _), (by decide : 108 + 0 ≤ _)⟩)
      dsimp only [Pt.U, Pt.locs, Pt.cells, Pt.slots] at X33 l33 y33 z33 st33 hQ33
      subst l33 y33 z33
      obtain ⟨rfl, Nq33, e33⟩ := hQ33
      have N33 := Fr.app N30 Nq33
      have ch34 : ∀ t, Steps p.tables e below (T33.setTop (mkF m 134 #[.val (.int p1), .val (.int p2), .val (.int p3), .val (.int p4), .val (.int p5), .val (.int w), .val (.int h1), .val (.ref (ad 1)), .val (.int (w + (p3 % (2 : Int32)))), .val (.int (h1 + (p4 % (2 : Int32)))), .val (.ref b7), .val (.int (0 : Int32)), .val (.int (1 : Int32)), .unset] [(.int (1 : Int32))])) t → Steps p.tables e below (s₁.setTop (entryFrame m #[(.int p1), (.int p2), (.int p3), (.int p4), (.int p5)] maxLocals)) t := fun t k => ch31 t (by
          show Steps p.tables e below (T30.setTop (mkF m 123 #[.val (.int p1), .val (.int p2), .val (.int p3), .val (.int p4), .val (.int p5), .val (.int w), .val (.int h1), .val (.ref (ad 1)), .val (.int (w + (p3 % (2 : Int32)))), .val (.int (h1 + (p4 % (2 : Int32)))), .val (.ref b7), .val (.int (0 : Int32)), .unset, .unset] [(.int (1 : Int32))])) t
          refine XS.istore X30.here hx rfl (hb hby at_123) rfl (l' := #[.val (.int p1), .val (.int p2), .val (.int p3), .val (.int p4), .val (.int p5), .val (.int w), .val (.int h1), .val (.ref (ad 1)), .val (.int (w + (p3 % (2 : Int32)))), .val (.int (h1 + (p4 % (2 : Int32)))), .val (.ref b7), .val (.int (0 : Int32)), .val (.int (1 : Int32)), .unset]) rfl ?_
          show Steps p.tables e below (T30.setTop (mkF m 125 #[.val (.int p1), .val (.int p2), .val (.int p3), .val (.int p4), .val (.int p5), .val (.int w), .val (.int h1), .val (.ref (ad 1)), .val (.int (w + (p3 % (2 : Int32)))), .val (.int (h1 + (p4 % (2 : Int32)))), .val (.ref b7), .val (.int (0 : Int32)), .val (.int (1 : Int32)), .unset] [])) t
          refine XS.aload X30.here hx rfl (hb hby at_125) rfl rfl ?_
          show Steps p.tables e below (T30.setTop (mkF m 127 #[.val (.int p1), .val (.int p2), .val (.int p3), .val (.int p4), .val (.int p5), .val (.int w), .val (.int h1), .val (.ref (ad 1)), .val (.int (w + (p3 % (2 : Int32)))), .val (.int (h1 + (p4 % (2 : Int32)))), .val (.ref b7), .val (.int (0 : Int32)), .val (.int (1 : Int32)), .unset] [(.ref b7)])) t
          refine XS.iload X30.here hx rfl (hb hby at_127) rfl ?_
          show Steps p.tables e below (T30.setTop (mkF m 129 #[.val (.int p1), .val (.int p2), .val (.int p3), .val (.int p4), .val (.int p5), .val (.int w), .val (.int h1), .val (.ref (ad 1)), .val (.int (w + (p3 % (2 : Int32)))), .val (.int (h1 + (p4 % (2 : Int32)))), .val (.ref b7), .val (.int (0 : Int32)), .val (.int (1 : Int32)), .unset] [(.int w), (.ref b7)])) t
          refine XS.iload X30.here hx rfl (hb hby at_129) rfl ?_
          show Steps p.tables e below (T30.setTop (mkF m 131 #[.val (.int p1), .val (.int p2), .val (.int p3), .val (.int p4), .val (.int p5), .val (.int w), .val (.int h1), .val (.ref (ad 1)), .val (.int (w + (p3 % (2 : Int32)))), .val (.int (h1 + (p4 % (2 : Int32)))), .val (.ref b7), .val (.int (0 : Int32)), .val (.int (1 : Int32)), .unset] [(.int h1), (.int w), (.ref b7)])) t
          exact st33.trans k)
      have ch35 : ∀ t, Steps p.tables e below (T33.setTop (mkF m 161 #[.val (.int p1), .val (.int p2), .val (.int p3), .val (.int p4), .val (.int p5), .val (.int w), .val (.int h1), .val (.ref (ad 1)), .val (.int (w + (p3 % (2 : Int32)))), .val (.int (h1 + (p4 % (2 : Int32)))), .val (.ref b7), .val (.int (0 : Int32)), .val (.int (1 : Int32)), .val (.int (1 : Int32))] [(.int (1 : Int32))])) t → Steps p.tables e below (s₁.setTop (entryFrame m #[(.int p1), (.int p2), (.int p3), (.int p4), (.int p5)] maxLocals)) t := fun t k => ch34 t (by
          show Steps p.tables e below (T33.setTop (mkF m 134 #[.val (.int p1), .val (.int p2), .val (.int p3), .val (.int p4), .val (.int p5), .val (.int w), .val (.int h1), .val (.ref (ad 1)), .val (.int (w + (p3 % (2 : Int32)))), .val (.int (h1 + (p4 % (2 : Int32)))), .val (.ref b7), .val (.int (0 : Int32)), .val (.int (1 : Int32)), .unset] [(.int (1 : Int32))])) t
          refine XS.istore X33.here hx rfl (hb hby at_134) rfl (l' := #[.val (.int p1), .val (.int p2), .val (.int p3), .val (.int p4), .val (.int p5), .val (.int w), .val (.int h1), .val (.ref (ad 1)), .val (.int (w + (p3 % (2 : Int32)))), .val (.int (h1 + (p4 % (2 : Int32)))), .val (.ref b7), .val (.int (0 : Int32)), .val (.int (1 : Int32)), .val (.int (1 : Int32))]) rfl ?_
          show Steps p.tables e below (T33.setTop (mkF m 136 #[.val (.int p1), .val (.int p2), .val (.int p3), .val (.int p4), .val (.int p5), .val (.int w), .val (.int h1), .val (.ref (ad 1)), .val (.int (w + (p3 % (2 : Int32)))), .val (.int (h1 + (p4 % (2 : Int32)))), .val (.ref b7), .val (.int (0 : Int32)), .val (.int (1 : Int32)), .val (.int (1 : Int32))] [])) t
          refine XS.iload X33.here hx rfl (hb hby at_136) rfl ?_
          show Steps p.tables e below (T33.setTop (mkF m 138 #[.val (.int p1), .val (.int p2), .val (.int p3), .val (.int p4), .val (.int p5), .val (.int w), .val (.int h1), .val (.ref (ad 1)), .val (.int (w + (p3 % (2 : Int32)))), .val (.int (h1 + (p4 % (2 : Int32)))), .val (.ref b7), .val (.int (0 : Int32)), .val (.int (1 : Int32)), .val (.int (1 : Int32))] [(.int (1 : Int32))])) t
          refine XS.iload X33.here hx rfl (hb hby at_138) rfl ?_
          show Steps p.tables e below (T33.setTop (mkF m 140 #[.val (.int p1), .val (.int p2), .val (.int p3), .val (.int p4), .val (.int p5), .val (.int w), .val (.int h1), .val (.ref (ad 1)), .val (.int (w + (p3 % (2 : Int32)))), .val (.int (h1 + (p4 % (2 : Int32)))), .val (.ref b7), .val (.int (0 : Int32)), .val (.int (1 : Int32)), .val (.int (1 : Int32))] [(.int (0 : Int32)), (.int (1 : Int32))])) t
          refine XS.ifNo X33.here hx rfl (hb hby at_140) rfl ((if0 _ _).trans (teq (by decide : (0 : Int32) = (0 : Int32))).2) ?_
          show Steps p.tables e below (T33.setTop (mkF m 143 #[.val (.int p1), .val (.int p2), .val (.int p3), .val (.int p4), .val (.int p5), .val (.int w), .val (.int h1), .val (.ref (ad 1)), .val (.int (w + (p3 % (2 : Int32)))), .val (.int (h1 + (p4 % (2 : Int32)))), .val (.ref b7), .val (.int (0 : Int32)), .val (.int (1 : Int32)), .val (.int (1 : Int32))] [(.int (1 : Int32))])) t
          refine XS.iconst X33.here hx rfl (hb hby at_143) ?_
          show Steps p.tables e below (T33.setTop (mkF m 144 #[.val (.int p1), .val (.int p2), .val (.int p3), .val (.int p4), .val (.int p5), .val (.int w), .val (.int h1), .val (.ref (ad 1)), .val (.int (w + (p3 % (2 : Int32)))), .val (.int (h1 + (p4 % (2 : Int32)))), .val (.ref b7), .val (.int (0 : Int32)), .val (.int (1 : Int32)), .val (.int (1 : Int32))] [(.int (1 : Int32)), (.int (1 : Int32))])) t
          refine XS.goto X33.here hx rfl (pc0 := 144) (pc' := 148) rfl (hb hby at_144) (by decide) (by decide) ?_
          show Steps p.tables e below (T33.setTop (mkF m 148 #[.val (.int p1), .val (.int p2), .val (.int p3), .val (.int p4), .val (.int p5), .val (.int w), .val (.int h1), .val (.ref (ad 1)), .val (.int (w + (p3 % (2 : Int32)))), .val (.int (h1 + (p4 % (2 : Int32)))), .val (.ref b7), .val (.int (0 : Int32)), .val (.int (1 : Int32)), .val (.int (1 : Int32))] [(.int (1 : Int32)), (.int (1 : Int32))])) t
          refine XS.icmpNo X33.here hx rfl (hb hby at_148) rfl (teq (by decide : (1 : Int32) = (1 : Int32))).2 ?_
          show Steps p.tables e below (T33.setTop (mkF m 151 #[.val (.int p1), .val (.int p2), .val (.int p3), .val (.int p4), .val (.int p5), .val (.int w), .val (.int h1), .val (.ref (ad 1)), .val (.int (w + (p3 % (2 : Int32)))), .val (.int (h1 + (p4 % (2 : Int32)))), .val (.ref b7), .val (.int (0 : Int32)), .val (.int (1 : Int32)), .val (.int (1 : Int32))] [])) t
          refine XS.iload X33.here hx rfl (hb hby at_151) rfl ?_
          show Steps p.tables e below (T33.setTop (mkF m 153 #[.val (.int p1), .val (.int p2), .val (.int p3), .val (.int p4), .val (.int p5), .val (.int w), .val (.int h1), .val (.ref (ad 1)), .val (.int (w + (p3 % (2 : Int32)))), .val (.int (h1 + (p4 % (2 : Int32)))), .val (.ref b7), .val (.int (0 : Int32)), .val (.int (1 : Int32)), .val (.int (1 : Int32))] [(.int (1 : Int32))])) t
          refine XS.ifNo X33.here hx rfl (hb hby at_153) rfl ((if0 _ _).trans (feq (by decide : ¬ (1 : Int32) = (0 : Int32))).1) ?_
          show Steps p.tables e below (T33.setTop (mkF m 156 #[.val (.int p1), .val (.int p2), .val (.int p3), .val (.int p4), .val (.int p5), .val (.int w), .val (.int h1), .val (.ref (ad 1)), .val (.int (w + (p3 % (2 : Int32)))), .val (.int (h1 + (p4 % (2 : Int32)))), .val (.ref b7), .val (.int (0 : Int32)), .val (.int (1 : Int32)), .val (.int (1 : Int32))] [])) t
          refine XS.iconst X33.here hx rfl (hb hby at_156) ?_
          show Steps p.tables e below (T33.setTop (mkF m 157 #[.val (.int p1), .val (.int p2), .val (.int p3), .val (.int p4), .val (.int p5), .val (.int w), .val (.int h1), .val (.ref (ad 1)), .val (.int (w + (p3 % (2 : Int32)))), .val (.int (h1 + (p4 % (2 : Int32)))), .val (.ref b7), .val (.int (0 : Int32)), .val (.int (1 : Int32)), .val (.int (1 : Int32))] [(.int (1 : Int32))])) t
          refine XS.goto X33.here hx rfl (pc0 := 157) (pc' := 161) rfl (hb hby at_157) (by decide) (by decide) ?_
          exact k)
      obtain ⟨fs, hr, hrun, hended, hend⟩ := X33.leaveW hS (by rw [e33]; exact hk) (v := some (.int (1 : Int32))) (fun h => by rw [Bd.returns] at h; cases h)
      refine ⟨_, _, ch35 _ ?_, hrun, hended, _, _, rfl, ?_, hend.1, hend.2.1, hend.2.2.1, hend.2.2.2.mono (by decide) (by decide)⟩
      · show Steps p.tables e below (T33.setTop (mkF m 161 #[.val (.int p1), .val (.int p2), .val (.int p3), .val (.int p4), .val (.int p5), .val (.int w), .val (.int h1), .val (.ref (ad 1)), .val (.int (w + (p3 % (2 : Int32)))), .val (.int (h1 + (p4 % (2 : Int32)))), .val (.ref b7), .val (.int (0 : Int32)), .val (.int (1 : Int32)), .val (.int (1 : Int32))] [(.int (1 : Int32))])) _
        exact retN X33 hx (t := .boolean) Bd.returns (by simp) (hb hby at_161) hr
      · show QN (some (.int (1 : Int32))) n0 _ T33.heap _
        rw [e33]
        exact ⟨rfl, N33⟩
  · skip
    obtain ⟨cq36, kq36, qa36, qb36, qc36⟩ := isOf hZ eh16 fq16_0
    obtain ⟨vv37, _, ⟨T37, L37, kk37, nn37⟩, -, X37, ⟨Lc37, hQ37, l37, y37, z37⟩, st37⟩ := X16.virtualBack hx (y := (⟨"com/example/leafwright/leafwright/Thumbnails$Candidate", "covers", "(II)Z"⟩ : MethodName)) (z := (⟨"com/example/leafwright/leafwright/Thumbnails$Candidate", "covers", "(II)Z"⟩ : MethodName)) hown (mvT hZ (hw _ (List.mem_of_getElem? (i := 50) rfl))) (mvT hZ (hw _ (List.mem_of_getElem? (i := 51) rfl))) (notFace_of_selects (args := #[]) (mvT hZ (hw _ (List.mem_of_getElem? (i := 53) rfl)))) (mvT hZ (hw _ (List.mem_of_getElem? (i := 53) rfl))) (mvT hZ (hw _ (List.mem_of_getElem? (i := 52) rfl))) (by decide) (backOf (W := 0) (own_cov_a l Z a0 hw [] hh16 n0 (Nat.le_trans Z0 Kp16.1) b7 w h1 (w + (p3 % (2 : Int32))) (h1 + (p4 % (2 : Int32))) fq16_2 fq16_3 hq18) hZ (hw _ (List.mem_of_getElem? (i := 54) rfl)) (hw _ (List.mem_of_getElem? (i := 10) rfl)) (by decide) (by decide)) qa36 qc36 (g := (mkF m 120 #[.val (.int p1), .val (.int p2), .val (.int p3), .val (.int p4), .val (.int p5), .val (.int w), .val (.int h1), .val (.ref (ad 1)), .val (.int (w + (p3 % (2 : Int32)))), .val (.int (h1 + (p4 % (2 : Int32)))), .val (.ref b7), .val (.int (0 : Int32)), .unset, .unset] [(.int (h1 + (p4 % (2 : Int32)))), (.int (w + (p3 % (2 : Int32)))), (.ref b7)])) rfl (by rw [hml]; rfl) (Steps.refl _) (argsL := [(.int (w + (p3 % (2 : Int32)))), (.int (h1 + (p4 % (2 : Int32))))]) (rest := []) (lenOf own_pd__II_Z rfl) rfl (by show 2 * 0 + _ ≤ _; exact Nat.le_of_eq rfl) (hb hby at_120) (fun _ _ => ⟨rfl, eh16, (by decide : 11 + 0 ≤ _), (by decide : 108 + 0 ≤ _)⟩)
    dsimp only [Pt.U, Pt.locs, Pt.cells, Pt.slots] at X37 l37 y37 z37 st37 hQ37
    subst l37 y37 z37
    obtain ⟨rfl, Nq37, e37⟩ := hQ37
    have N37 := Fr.app N16 Nq37
    have ch38 : ∀ t, Steps p.tables e below (T37.setTop (mkF m 123 #[.val (.int p1), .val (.int p2), .val (.int p3), .val (.int p4), .val (.int p5), .val (.int w), .val (.int h1), .val (.ref (ad 1)), .val (.int (w + (p3 % (2 : Int32)))), .val (.int (h1 + (p4 % (2 : Int32)))), .val (.ref b7), .val (.int (0 : Int32)), .unset, .unset] [(.int (1 : Int32))])) t → Steps p.tables e below (s₁.setTop (entryFrame m #[(.int p1), (.int p2), (.int p3), (.int p4), (.int p5)] maxLocals)) t := fun t k => ch19 t (by
        show Steps p.tables e below (T16.setTop (mkF m 97 #[.val (.int p1), .val (.int p2), .val (.int p3), .val (.int p4), .val (.int p5), .val (.int w), .val (.int h1), .val (.ref (ad 1)), .val (.int (w + (p3 % (2 : Int32)))), .val (.int (h1 + (p4 % (2 : Int32)))), .val (.ref b7), .unset, .unset, .unset] [(.int w), (.int (w + (p3 % (2 : Int32))))])) t
        refine XS.icmpYes X16.here hx rfl (pc0 := 97) (pc' := 111) rfl (hb hby at_97) rfl (flt hq18).2.2.2 (by decide) (by decide) ?_
        show Steps p.tables e below (T16.setTop (mkF m 111 #[.val (.int p1), .val (.int p2), .val (.int p3), .val (.int p4), .val (.int p5), .val (.int w), .val (.int h1), .val (.ref (ad 1)), .val (.int (w + (p3 % (2 : Int32)))), .val (.int (h1 + (p4 % (2 : Int32)))), .val (.ref b7), .unset, .unset, .unset] [])) t
        refine XS.iconst X16.here hx rfl (hb hby at_111) ?_
        show Steps p.tables e below (T16.setTop (mkF m 112 #[.val (.int p1), .val (.int p2), .val (.int p3), .val (.int p4), .val (.int p5), .val (.int w), .val (.int h1), .val (.ref (ad 1)), .val (.int (w + (p3 % (2 : Int32)))), .val (.int (h1 + (p4 % (2 : Int32)))), .val (.ref b7), .unset, .unset, .unset] [(.int (0 : Int32))])) t
        refine XS.istore X16.here hx rfl (hb hby at_112) rfl (l' := #[.val (.int p1), .val (.int p2), .val (.int p3), .val (.int p4), .val (.int p5), .val (.int w), .val (.int h1), .val (.ref (ad 1)), .val (.int (w + (p3 % (2 : Int32)))), .val (.int (h1 + (p4 % (2 : Int32)))), .val (.ref b7), .val (.int (0 : Int32)), .unset, .unset]) rfl ?_
        show Steps p.tables e below (T16.setTop (mkF m 114 #[.val (.int p1), .val (.int p2), .val (.int p3), .val (.int p4), .val (.int p5), .val (.int w), .val (.int h1), .val (.ref (ad 1)), .val (.int (w + (p3 % (2 : Int32)))), .val (.int (h1 + (p4 % (2 : Int32)))), .val (.ref b7), .val (.int (0 : Int32)), .unset, .unset] [])) t
        refine XS.aload X16.here hx rfl (hb hby at_114) rfl rfl ?_
        show Steps p.tables e below (T16.setTop (mkF m 116 #[.val (.int p1), .val (.int p2), .val (.int p3), .val (.int p4), .val (.int p5), .val (.int w), .val (.int h1), .val (.ref (ad 1)), .val (.int (w + (p3 % (2 : Int32)))), .val (.int (h1 + (p4 % (2 : Int32)))), .val (.ref b7), .val (.int (0 : Int32)), .unset, .unset] [(.ref b7)])) t
        refine XS.iload X16.here hx rfl (hb hby at_116) rfl ?_
        show Steps p.tables e below (T16.setTop (mkF m 118 #[.val (.int p1), .val (.int p2), .val (.int p3), .val (.int p4), .val (.int p5), .val (.int w), .val (.int h1), .val (.ref (ad 1)), .val (.int (w + (p3 % (2 : Int32)))), .val (.int (h1 + (p4 % (2 : Int32)))), .val (.ref b7), .val (.int (0 : Int32)), .unset, .unset] [(.int (w + (p3 % (2 : Int32)))), (.ref b7)])) t
        refine XS.iload X16.here hx rfl (hb hby at_118) rfl ?_
        show Steps p.tables e below (T16.setTop (mkF m 120 #[.val (.int p1), .val (.int p2), .val (.int p3), .val (.int p4), .val (.int p5), .val (.int w), .val (.int h1), .val (.ref (ad 1)), .val (.int (w + (p3 % (2 : Int32)))), .val (.int (h1 + (p4 % (2 : Int32)))), .val (.ref b7), .val (.int (0 : Int32)), .unset, .unset] [(.int (h1 + (p4 % (2 : Int32)))), (.int (w + (p3 % (2 : Int32)))), (.ref b7)])) t
        exact st37.trans k)
    obtain ⟨cq39, kq39, qa39, qb39, qc39⟩ := isOf hZ e37 fq16_0
    obtain ⟨vv40, _, ⟨T40, L40, kk40, nn40⟩, -, X40, ⟨Lc40, hQ40, l40, y40, z40⟩, st40⟩ := X37.virtualBack hx (y := (⟨"com/example/leafwright/leafwright/Thumbnails$Candidate", "covers", "(II)Z"⟩ : MethodName)) (z := (⟨"com/example/leafwright/leafwright/Thumbnails$Candidate", "covers", "(II)Z"⟩ : MethodName)) hown (mvT hZ (hw _ (List.mem_of_getElem? (i := 50) rfl))) (mvT hZ (hw _ (List.mem_of_getElem? (i := 51) rfl))) (notFace_of_selects (args := #[]) (mvT hZ (hw _ (List.mem_of_getElem? (i := 53) rfl)))) (mvT hZ (hw _ (List.mem_of_getElem? (i := 53) rfl))) (mvT hZ (hw _ (List.mem_of_getElem? (i := 52) rfl))) (by decide) (backOf (W := 0) (own_cov_a l Z a0 hw [] hh16 n0 (Nat.le_trans Z0 Kp16.1) b7 w h1 w h1 fq16_2 fq16_3 (Int32.lt_irrefl : ¬ w < w)) hZ (hw _ (List.mem_of_getElem? (i := 54) rfl)) (hw _ (List.mem_of_getElem? (i := 10) rfl)) (by decide) (by decide)) qa39 qc39 (g := (mkF m 131 #[.val (.int p1), .val (.int p2), .val (.int p3), .val (.int p4), .val (.int p5), .val (.int w), .val (.int h1), .val (.ref (ad 1)), .val (.int (w + (p3 % (2 : Int32)))), .val (.int (h1 + (p4 % (2 : Int32)))), .val (.ref b7), .val (.int (0 : Int32)), .val (.int (1 : Int32)), .unset] [(.int h1), (.int w), (.ref b7)])) rfl (by rw [hml]; rfl) (Steps.refl _) (argsL := [(.int w), (.int h1)]) (rest := []) (lenOf own_pd__II_Z rfl) rfl (by show 2 * 0 + _ ≤ _; exact Nat.le_of_eq rfl) (hb hby at_131) (fun _ _ => ⟨rfl, e37, (by decide : 11 + 0 ≤ _), (by decide : 108 + 0 ≤ _)⟩)
    dsimp only [Pt.U, Pt.locs, Pt.cells, Pt.slots] at X40 l40 y40 z40 st40 hQ40
    subst l40 y40 z40
    obtain ⟨rfl, Nq40, e40⟩ := hQ40
    have N40 := Fr.app N37 Nq40
    have ch41 : ∀ t, Steps p.tables e below (T40.setTop (mkF m 134 #[.val (.int p1), .val (.int p2), .val (.int p3), .val (.int p4), .val (.int p5), .val (.int w), .val (.int h1), .val (.ref (ad 1)), .val (.int (w + (p3 % (2 : Int32)))), .val (.int (h1 + (p4 % (2 : Int32)))), .val (.ref b7), .val (.int (0 : Int32)), .val (.int (1 : Int32)), .unset] [(.int (1 : Int32))])) t → Steps p.tables e below (s₁.setTop (entryFrame m #[(.int p1), (.int p2), (.int p3), (.int p4), (.int p5)] maxLocals)) t := fun t k => ch38 t (by
        show Steps p.tables e below (T37.setTop (mkF m 123 #[.val (.int p1), .val (.int p2), .val (.int p3), .val (.int p4), .val (.int p5), .val (.int w), .val (.int h1), .val (.ref (ad 1)), .val (.int (w + (p3 % (2 : Int32)))), .val (.int (h1 + (p4 % (2 : Int32)))), .val (.ref b7), .val (.int (0 : Int32)), .unset, .unset] [(.int (1 : Int32))])) t
        refine XS.istore X37.here hx rfl (hb hby at_123) rfl (l' := #[.val (.int p1), .val (.int p2), .val (.int p3), .val (.int p4), .val (.int p5), .val (.int w), .val (.int h1), .val (.ref (ad 1)), .val (.int (w + (p3 % (2 : Int32)))), .val (.int (h1 + (p4 % (2 : Int32)))), .val (.ref b7), .val (.int (0 : Int32)), .val (.int (1 : Int32)), .unset]) rfl ?_
        show Steps p.tables e below (T37.setTop (mkF m 125 #[.val (.int p1), .val (.int p2), .val (.int p3), .val (.int p4), .val (.int p5), .val (.int w), .val (.int h1), .val (.ref (ad 1)), .val (.int (w + (p3 % (2 : Int32)))), .val (.int (h1 + (p4 % (2 : Int32)))), .val (.ref b7), .val (.int (0 : Int32)), .val (.int (1 : Int32)), .unset] [])) t
        refine XS.aload X37.here hx rfl (hb hby at_125) rfl rfl ?_
        show Steps p.tables e below (T37.setTop (mkF m 127 #[.val (.int p1), .val (.int p2), .val (.int p3), .val (.int p4), .val (.int p5), .val (.int w), .val (.int h1), .val (.ref (ad 1)), .val (.int (w + (p3 % (2 : Int32)))), .val (.int (h1 + (p4 % (2 : Int32)))), .val (.ref b7), .val (.int (0 : Int32)), .val (.int (1 : Int32)), .unset] [(.ref b7)])) t
        refine XS.iload X37.here hx rfl (hb hby at_127) rfl ?_
        show Steps p.tables e below (T37.setTop (mkF m 129 #[.val (.int p1), .val (.int p2), .val (.int p3), .val (.int p4), .val (.int p5), .val (.int w), .val (.int h1), .val (.ref (ad 1)), .val (.int (w + (p3 % (2 : Int32)))), .val (.int (h1 + (p4 % (2 : Int32)))), .val (.ref b7), .val (.int (0 : Int32)), .val (.int (1 : Int32)), .unset] [(.int w), (.ref b7)])) t
        refine XS.iload X37.here hx rfl (hb hby at_129) rfl ?_
        show Steps p.tables e below (T37.setTop (mkF m 131 #[.val (.int p1), .val (.int p2), .val (.int p3), .val (.int p4), .val (.int p5), .val (.int w), .val (.int h1), .val (.ref (ad 1)), .val (.int (w + (p3 % (2 : Int32)))), .val (.int (h1 + (p4 % (2 : Int32)))), .val (.ref b7), .val (.int (0 : Int32)), .val (.int (1 : Int32)), .unset] [(.int h1), (.int w), (.ref b7)])) t
        exact st40.trans k)
    have ch42 : ∀ t, Steps p.tables e below (T40.setTop (mkF m 161 #[.val (.int p1), .val (.int p2), .val (.int p3), .val (.int p4), .val (.int p5), .val (.int w), .val (.int h1), .val (.ref (ad 1)), .val (.int (w + (p3 % (2 : Int32)))), .val (.int (h1 + (p4 % (2 : Int32)))), .val (.ref b7), .val (.int (0 : Int32)), .val (.int (1 : Int32)), .val (.int (1 : Int32))] [(.int (1 : Int32))])) t → Steps p.tables e below (s₁.setTop (entryFrame m #[(.int p1), (.int p2), (.int p3), (.int p4), (.int p5)] maxLocals)) t := fun t k => ch41 t (by
        show Steps p.tables e below (T40.setTop (mkF m 134 #[.val (.int p1), .val (.int p2), .val (.int p3), .val (.int p4), .val (.int p5), .val (.int w), .val (.int h1), .val (.ref (ad 1)), .val (.int (w + (p3 % (2 : Int32)))), .val (.int (h1 + (p4 % (2 : Int32)))), .val (.ref b7), .val (.int (0 : Int32)), .val (.int (1 : Int32)), .unset] [(.int (1 : Int32))])) t
        refine XS.istore X40.here hx rfl (hb hby at_134) rfl (l' := #[.val (.int p1), .val (.int p2), .val (.int p3), .val (.int p4), .val (.int p5), .val (.int w), .val (.int h1), .val (.ref (ad 1)), .val (.int (w + (p3 % (2 : Int32)))), .val (.int (h1 + (p4 % (2 : Int32)))), .val (.ref b7), .val (.int (0 : Int32)), .val (.int (1 : Int32)), .val (.int (1 : Int32))]) rfl ?_
        show Steps p.tables e below (T40.setTop (mkF m 136 #[.val (.int p1), .val (.int p2), .val (.int p3), .val (.int p4), .val (.int p5), .val (.int w), .val (.int h1), .val (.ref (ad 1)), .val (.int (w + (p3 % (2 : Int32)))), .val (.int (h1 + (p4 % (2 : Int32)))), .val (.ref b7), .val (.int (0 : Int32)), .val (.int (1 : Int32)), .val (.int (1 : Int32))] [])) t
        refine XS.iload X40.here hx rfl (hb hby at_136) rfl ?_
        show Steps p.tables e below (T40.setTop (mkF m 138 #[.val (.int p1), .val (.int p2), .val (.int p3), .val (.int p4), .val (.int p5), .val (.int w), .val (.int h1), .val (.ref (ad 1)), .val (.int (w + (p3 % (2 : Int32)))), .val (.int (h1 + (p4 % (2 : Int32)))), .val (.ref b7), .val (.int (0 : Int32)), .val (.int (1 : Int32)), .val (.int (1 : Int32))] [(.int (1 : Int32))])) t
        refine XS.iload X40.here hx rfl (hb hby at_138) rfl ?_
        show Steps p.tables e below (T40.setTop (mkF m 140 #[.val (.int p1), .val (.int p2), .val (.int p3), .val (.int p4), .val (.int p5), .val (.int w), .val (.int h1), .val (.ref (ad 1)), .val (.int (w + (p3 % (2 : Int32)))), .val (.int (h1 + (p4 % (2 : Int32)))), .val (.ref b7), .val (.int (0 : Int32)), .val (.int (1 : Int32)), .val (.int (1 : Int32))] [(.int (0 : Int32)), (.int (1 : Int32))])) t
        refine XS.ifNo X40.here hx rfl (hb hby at_140) rfl ((if0 _ _).trans (teq (by decide : (0 : Int32) = (0 : Int32))).2) ?_
        show Steps p.tables e below (T40.setTop (mkF m 143 #[.val (.int p1), .val (.int p2), .val (.int p3), .val (.int p4), .val (.int p5), .val (.int w), .val (.int h1), .val (.ref (ad 1)), .val (.int (w + (p3 % (2 : Int32)))), .val (.int (h1 + (p4 % (2 : Int32)))), .val (.ref b7), .val (.int (0 : Int32)), .val (.int (1 : Int32)), .val (.int (1 : Int32))] [(.int (1 : Int32))])) t
        refine XS.iconst X40.here hx rfl (hb hby at_143) ?_
        show Steps p.tables e below (T40.setTop (mkF m 144 #[.val (.int p1), .val (.int p2), .val (.int p3), .val (.int p4), .val (.int p5), .val (.int w), .val (.int h1), .val (.ref (ad 1)), .val (.int (w + (p3 % (2 : Int32)))), .val (.int (h1 + (p4 % (2 : Int32)))), .val (.ref b7), .val (.int (0 : Int32)), .val (.int (1 : Int32)), .val (.int (1 : Int32))] [(.int (1 : Int32)), (.int (1 : Int32))])) t
        refine XS.goto X40.here hx rfl (pc0 := 144) (pc' := 148) rfl (hb hby at_144) (by decide) (by decide) ?_
        show Steps p.tables e below (T40.setTop (mkF m 148 #[.val (.int p1), .val (.int p2), .val (.int p3), .val (.int p4), .val (.int p5), .val (.int w), .val (.int h1), .val (.ref (ad 1)), .val (.int (w + (p3 % (2 : Int32)))), .val (.int (h1 + (p4 % (2 : Int32)))), .val (.ref b7), .val (.int (0 : Int32)), .val (.int (1 : Int32)), .val (.int (1 : Int32))] [(.int (1 : Int32)), (.int (1 : Int32))])) t
        refine XS.icmpNo X40.here hx rfl (hb hby at_148) rfl (teq (by decide : (1 : Int32) = (1 : Int32))).2 ?_
        show Steps p.tables e below (T40.setTop (mkF m 151 #[.val (.int p1), .val (.int p2), .val (.int p3), .val (.int p4), .val (.int p5), .val (.int w), .val (.int h1), .val (.ref (ad 1)), .val (.int (w + (p3 % (2 : Int32)))), .val (.int (h1 + (p4 % (2 : Int32)))), .val (.ref b7), .val (.int (0 : Int32)), .val (.int (1 : Int32)), .val (.int (1 : Int32))] [])) t
        refine XS.iload X40.here hx rfl (hb hby at_151) rfl ?_
        show Steps p.tables e below (T40.setTop (mkF m 153 #[.val (.int p1), .val (.int p2), .val (.int p3), .val (.int p4), .val (.int p5), .val (.int w), .val (.int h1), .val (.ref (ad 1)), .val (.int (w + (p3 % (2 : Int32)))), .val (.int (h1 + (p4 % (2 : Int32)))), .val (.ref b7), .val (.int (0 : Int32)), .val (.int (1 : Int32)), .val (.int (1 : Int32))] [(.int (1 : Int32))])) t
        refine XS.ifNo X40.here hx rfl (hb hby at_153) rfl ((if0 _ _).trans (feq (by decide : ¬ (1 : Int32) = (0 : Int32))).1) ?_
        show Steps p.tables e below (T40.setTop (mkF m 156 #[.val (.int p1), .val (.int p2), .val (.int p3), .val (.int p4), .val (.int p5), .val (.int w), .val (.int h1), .val (.ref (ad 1)), .val (.int (w + (p3 % (2 : Int32)))), .val (.int (h1 + (p4 % (2 : Int32)))), .val (.ref b7), .val (.int (0 : Int32)), .val (.int (1 : Int32)), .val (.int (1 : Int32))] [])) t
        refine XS.iconst X40.here hx rfl (hb hby at_156) ?_
        show Steps p.tables e below (T40.setTop (mkF m 157 #[.val (.int p1), .val (.int p2), .val (.int p3), .val (.int p4), .val (.int p5), .val (.int w), .val (.int h1), .val (.ref (ad 1)), .val (.int (w + (p3 % (2 : Int32)))), .val (.int (h1 + (p4 % (2 : Int32)))), .val (.ref b7), .val (.int (0 : Int32)), .val (.int (1 : Int32)), .val (.int (1 : Int32))] [(.int (1 : Int32))])) t
        refine XS.goto X40.here hx rfl (pc0 := 157) (pc' := 161) rfl (hb hby at_157) (by decide) (by decide) ?_
        exact k)
    obtain ⟨fs, hr, hrun, hended, hend⟩ := X40.leaveW hS (by rw [e40]; exact hk) (v := some (.int (1 : Int32))) (fun h => by rw [Bd.returns] at h; cases h)
    refine ⟨_, _, ch42 _ ?_, hrun, hended, _, _, rfl, ?_, hend.1, hend.2.1, hend.2.2.1, hend.2.2.2.mono (by decide) (by decide)⟩
    · show Steps p.tables e below (T40.setTop (mkF m 161 #[.val (.int p1), .val (.int p2), .val (.int p3), .val (.int p4), .val (.int p5), .val (.int w), .val (.int h1), .val (.ref (ad 1)), .val (.int (w + (p3 % (2 : Int32)))), .val (.int (h1 + (p4 % (2 : Int32)))), .val (.ref b7), .val (.int (0 : Int32)), .val (.int (1 : Int32)), .val (.int (1 : Int32))] [(.int (1 : Int32))])) _
      exact retN X40 hx (t := .boolean) Bd.returns (by simp) (hb hby at_161) hr
    · show QN (some (.int (1 : Int32))) n0 _ T40.heap _
      rw [e40]
      exact ⟨rfl, N40⟩
set_option maxRecDepth 65536 in
set_option maxHeartbeats 40000000 in
theorem comes_1 {Post : Tables → Env → Array Value → State → Outcome → State → Prop} (hpost : ∀ tb e args s v u, (limb_1_1.after args s (.returned v) u = true ∧ limb_1_2.after args s (.returned v) u = true ∧ True) → ReturnedEndW s (.returned v) u (Jvm.fieldLocs frame_1_writes args s ++ Jvm.arrayLocs frame_1_arrays args s ++ Jvm.staticLocs frame_1_statics s) 24 5248 → Post tb e args s (.returned v) u) :
    ArmFor flags0 classFile x code maxLocals ret World_1 tables_1 room_1 Calls_1 rest_1 Pre_1 Post := by
  intro l hfl _ _ p e ha hc hk s m args below hf hA hF happ hP
  obtain ⟨hcalls, hrest, hpre⟩ := hP
  obtain ⟨-, -, -, hnamed, -, -, -, hat⟩ := (Spec.applies_iff hf).mp happ
  obtain ⟨hg, hn⟩ := and_e (Cond.before_iff.mp (show (Jvm.Cond.and given_1 narrow_1).before args s = true from hpre))
  obtain ⟨gc, hg⟩ := and_e hg
  obtain ⟨w0, w1, w2, w3, w4, rfl⟩ : ∃ w0 w1 w2 w3 w4 : Value, args = #[w0, w1, w2, w3, w4] := by
    have hs : args.size = 5 := by simpa [Cond.value, given_1] using gc
    obtain ⟨L⟩ := args
    match L, hs with
    | [w0, w1, w2, w3, w4], _ => exact ⟨w0, w1, w2, w3, w4, rfl⟩
  have hw := fun d (hd : d ∈ tables_1) => atoms_spec (ws := Jvm.Cond.code x code maxLocals ret :: tables_1) hat d (List.mem_cons_of_mem _ hd)
  have hfit : Fit s := fun {y c} hc i hi => by
    obtain ⟨ha, rfl⟩ := Array.getElem?_eq_some_iff.mp hc
    have q := List.all_eq_true.mp ((Array.all_eq_true_iff_forall_mem.mp hF) _ (Array.getElem_mem ha)) i (List.mem_range.mpr hi)
    simpa [Array.getElem?_eq_getElem hi] using q
  obtain ⟨ga0, hg⟩ := and_e hg
  obtain ⟨i0, ei0⟩ := is_v ga0
  obtain rfl : w0 = (.int i0) := Option.some.inj ei0
  obtain ⟨ga1, hg⟩ := and_e hg
  obtain ⟨i1, ei1⟩ := is_v ga1
  obtain rfl : w1 = (.int i1) := Option.some.inj ei1
  obtain ⟨ga2, hg⟩ := and_e hg
  obtain ⟨i2, ei2⟩ := is_v ga2
  obtain rfl : w2 = (.int i2) := Option.some.inj ei2
  obtain ⟨ga3, hg⟩ := and_e hg
  obtain ⟨i3, ei3⟩ := is_v ga3
  obtain rfl : w3 = (.int i3) := Option.some.inj ei3
  obtain ⟨i4, ei4⟩ := is_v hg
  obtain rfl : w4 = (.int i4) := Option.some.inj ei4
  obtain ⟨hn0, hn⟩ := and_e hn
  have hn1 := hn
  obtain ⟨a_DECLARED, ev_DECLARED⟩ := exa_v hn0
  have S_DECLARED : Sta s s.heap "com/example/leafwright/leafwright/Thumbnails$Source" "DECLARED" "Lcom/example/leafwright/leafwright/Thumbnails$Source;" (.ref a_DECLARED) := Sta.start ev_DECLARED (Or.inr ⟨(hw _ (List.mem_of_getElem? (i := 6) rfl)), (hw _ (List.mem_of_getElem? (i := 7) rfl))⟩)
  have E_DECLARED : Exa s s.heap a_DECLARED "com/example/leafwright/leafwright/Thumbnails$Source" := Exa.start ev_DECLARED hn0
  obtain ⟨a_SIZE, ev_SIZE⟩ := exa_v hn1
  have S_SIZE : Sta s s.heap "com/example/leafwright/leafwright/Thumbnails$Source" "SIZE" "Lcom/example/leafwright/leafwright/Thumbnails$Source;" (.ref a_SIZE) := Sta.start ev_SIZE (Or.inr ⟨(hw _ (List.mem_of_getElem? (i := 6) rfl)), (hw _ (List.mem_of_getElem? (i := 56) rfl))⟩)
  have E_SIZE : Exa s s.heap a_SIZE "com/example/leafwright/leafwright/Thumbnails$Source" := Exa.start ev_SIZE hn1
  have W : OwnWd s s.heap (fun i => [a_DECLARED, a_SIZE].getD i 0) := ⟨S_DECLARED, E_DECLARED, S_SIZE, E_SIZE⟩
  have hm_i0 := c_mask i0 (2147483647 : Int32) 31 (by decide) (by decide)
  obtain ⟨w, pw, Hw⟩ : ∃ w : Int32, (0 : Int32) < w ∧ MetFree l (⟨"java/lang/Math", "max", "(II)I"⟩ : MethodName) (head1 (Jvm.Cond.code (⟨"java/lang/Math", "max", "(II)I"⟩ : MethodName) jdk_29_method_65_code 2 (some .int) :: []) ({ frames := 0, cells := 0, slots := 0, locals := 0 } : Room)) (fun a U => a = #[(.int (1 : Int32)), (.int (i0 &&& (2147483647 : Int32)))] ∧ s.Warmed39 U.vm ∧ U.heap = s.heap) (fun _ _ _ _ _ => True) (fun _ U o U' => ∃ v L, o = .returned v ∧ QV (some (.int w)) s.heap s.heap.size v U'.heap L ∧ FrameEnd U o U' L ({ frames := 0, cells := 0, slots := 0, locals := 0 } : Room).cells ({ frames := 0, cells := 0, slots := 0, locals := 0 } : Room).slots) := by
    by_cases q : (1 : Int32) < (i0 &&& (2147483647 : Int32))
    · exact ⟨_, by rw [Int32.lt_iff_toInt_lt] at q ⊢; simp at q ⊢; omega, own_max_t l s _ hw [] s.heap s.heap.size (Nat.le_refl _) _ _ q⟩
    · exact ⟨_, by decide, own_max_f l s _ hw [] s.heap s.heap.size (Nat.le_refl _) _ _ q⟩
  have hm_i1 := c_mask i1 (2147483647 : Int32) 31 (by decide) (by decide)
  obtain ⟨h, ph, Hh⟩ : ∃ w : Int32, (0 : Int32) < w ∧ MetFree l (⟨"java/lang/Math", "max", "(II)I"⟩ : MethodName) (head1 (Jvm.Cond.code (⟨"java/lang/Math", "max", "(II)I"⟩ : MethodName) jdk_29_method_65_code 2 (some .int) :: []) ({ frames := 0, cells := 0, slots := 0, locals := 0 } : Room)) (fun a U => a = #[(.int (1 : Int32)), (.int (i1 &&& (2147483647 : Int32)))] ∧ s.Warmed39 U.vm ∧ U.heap = s.heap) (fun _ _ _ _ _ => True) (fun _ U o U' => ∃ v L, o = .returned v ∧ QV (some (.int w)) s.heap s.heap.size v U'.heap L ∧ FrameEnd U o U' L ({ frames := 0, cells := 0, slots := 0, locals := 0 } : Room).cells ({ frames := 0, cells := 0, slots := 0, locals := 0 } : Room).slots) := by
    by_cases q : (1 : Int32) < (i1 &&& (2147483647 : Int32))
    · exact ⟨_, by rw [Int32.lt_iff_toInt_lt] at q ⊢; simp at q ⊢; omega, own_max_t l s _ hw [] s.heap s.heap.size (Nat.le_refl _) _ _ q⟩
    · exact ⟨_, by decide, own_max_f l s _ hw [] s.heap s.heap.size (Nat.le_refl _) _ _ q⟩
  have H : MetFree l x (head1 (Jvm.Cond.code x code maxLocals ret :: tables_1) room_1) (fun a U => a = #[(.int i0), (.int i1), (.int i2), (.int i3), (.int i4)] ∧ s.Warmed39 U.vm ∧ U.heap = s.heap) (fun _ _ _ _ _ => True) (fun _ U o U' => ∃ v L, o = .returned v ∧ QN (some (.int (1 : Int32))) s.heap.size v U'.heap L ∧ ReturnedEndW U o U' L room_1.cells room_1.slots) := by
    by_cases s0 : (i4 &&& (1 : Int32)) = (0 : Int32) <;> by_cases s1 : (i4 &&& (2 : Int32)) = (0 : Int32) <;> by_cases s2 : (i4 &&& (4 : Int32)) = (0 : Int32)
    · exact own_law_000 l s _ hw tables_1 s.heap s.heap.size (Nat.le_refl _)  i0 i1 i2 i3 i4 w h Hw Hh pw ph s0 s1 s2 (fun i => [a_DECLARED, a_SIZE].getD i 0) W
    · exact own_law_001 l s _ hw tables_1 s.heap s.heap.size (Nat.le_refl _)  i0 i1 i2 i3 i4 w h Hw Hh pw ph s0 s1 s2 (fun i => [a_DECLARED, a_SIZE].getD i 0) W
    · exact own_law_010 l s _ hw tables_1 s.heap s.heap.size (Nat.le_refl _)  i0 i1 i2 i3 i4 w h Hw Hh pw ph s0 s1 s2 (fun i => [a_DECLARED, a_SIZE].getD i 0) W
    · exact own_law_011 l s _ hw tables_1 s.heap s.heap.size (Nat.le_refl _)  i0 i1 i2 i3 i4 w h Hw Hh pw ph s0 s1 s2 (fun i => [a_DECLARED, a_SIZE].getD i 0) W
    · exact own_law_100 l s _ hw tables_1 s.heap s.heap.size (Nat.le_refl _)  i0 i1 i2 i3 i4 w h Hw Hh pw ph s0 s1 s2 (fun i => [a_DECLARED, a_SIZE].getD i 0) W
    · exact own_law_101 l s _ hw tables_1 s.heap s.heap.size (Nat.le_refl _)  i0 i1 i2 i3 i4 w h Hw Hh pw ph s0 s1 s2 (fun i => [a_DECLARED, a_SIZE].getD i 0) W
    · exact own_law_110 l s _ hw tables_1 s.heap s.heap.size (Nat.le_refl _)  i0 i1 i2 i3 i4 w h Hw Hh pw ph s0 s1 s2 (fun i => [a_DECLARED, a_SIZE].getD i 0) W
    · exact own_law_111 l s _ hw tables_1 s.heap s.heap.size (Nat.le_refl _)  i0 i1 i2 i3 i4 w h Hw Hh pw ph s0 s1 s2 (fun i => [a_DECLARED, a_SIZE].getD i 0) W
  obtain ⟨n, o, h1, h2, h3, _, L, rfl, ⟨rfl, N⟩, hq⟩ := H p e ha hc hk s m _ below hf ((Spec.applies_iff_loose hf).mp happ).1 ⟨rfl, State.Warmed39.refl s, rfl⟩ trivial
  refine ⟨n, _, h1, h2, h3, hpost _ _ _ _ _ _ ⟨Cond.after_iff.mpr rfl, Cond.after_iff.mpr (eq_i res_at (Term.int_eval (1)) rfl), trivial⟩ ⟨hq.1, hq.2.1, hq.2.2.1, (hq.2.2.2.sift fun y hy => Or.inr (N y hy)).mono (by decide) (by decide)⟩⟩
theorem main_1_1 : Claimed_1_1 := comes_1 fun _ _ _ _ _ _ h hF => ⟨h.1, hF⟩
theorem main_1_2 : Claimed_1_2 := comes_1 fun _ _ _ _ _ _ h hF => ⟨h.2.1, hF⟩
end Jvm.Pilot.@@N@@
namespace Jvm.Pilot.@@N@@
open Jvm Jvm.ClassFile Sem Op Lib Jvm.Free Jvm.Stand Jvm.Pilot.@@N@@.Jvm.D
/-! MADE BY PROGRAM (witnessworld.py) out of the Statement's table words and the real class files: 20 classes; the members and pool entries that the words name. The judged class is class 1, her method 1. -/
namespace start1
open Jvm.ClassFile
def u (s : String) : CpInfo := .utf8 (stringToUtf16 s)
/-- a pool by its gaps: so many unusable entries, then the entry; so many at the end -/
def gap : Nat → List CpInfo → List CpInfo
  | 0, r => r
  | n + 1, r => .unusable :: gap n r
def poolList (es : List (Nat × CpInfo)) (last : Nat) : List CpInfo := es.foldr (fun e r => gap e.1 (e.2 :: r)) (gap last [])
def pool (es : List (Nat × CpInfo)) (last : Nat) : Array CpInfo := ⟨poolList es last⟩
def fileOf (pool : Array CpInfo) (this : Nat) (attrs : Array Attribute := #[]) (ms : Array MethodInfo := #[]) (fl : Nat := 33) (sup : Nat := 0) (ifs : Array Nat := #[]) (fds : Array FieldInfo := #[]) : ClassFile where
  minorVersion := 0
  majorVersion := 65
  constantPool := pool
  accessFlags := fl
  thisClass := this
  superClass := sup
  interfaces := ifs
  fields := fds
  methods := ms
  attributes := attrs
def plain (name : String) (sup : Option ClassId) : Class where
  name := name
  kind := .ordinary
  loader := none
  accessFlags := 33
  super := sup
  interfaces := #[]
  cf := none
  fields := #[]
  methods := #[]
  instanceTypes := #[]
  staticTypes := #[]
  resolved := #[]
  callSites := []
  init := .initialized
  statics := none
  mirror := none

def pool0 : Array CpInfo := pool [(5, u "<init>"), (0, u "()V"), (1, .class_ 10), (1, u "java/lang/Object")] 113

def k0c0 : Code := { maxStack := 0, maxLocals := 1, code := object_method_1_code, exceptionTable := #[], attributes := #[] }
def k0m0 : Method := { name := "<init>", desc := "()V", sig := { parameters := [], returnType := none }, accessFlags := 1, code := some k0c0 }
/-- java/lang/Object -/
def k0 : Class := { plain "java/lang/Object" none with
  accessFlags := 33
  interfaces := #[]
  cf := some (fileOf pool0 8 #[] #[{ accessFlags := 1, nameIndex := 5, descriptorIndex := 6, attributes := #[] }] 33 0 #[] #[])
  fields := #[]
  methods := #[k0m0]
  instanceTypes := #[]
  staticTypes := #[]
  resolved := Array.replicate 124 none
  statics := none }

def pool1 : Array CpInfo := pool [(2, .class_ 4), (1, u "java/lang/Object"), (0, u "<init>"), (0, u "()V"), (0, .integer 2147483647), (0, .methodref 9 10), (0, .class_ 11), (0, .nameAndType 12 13), (0, u "java/lang/Math"), (0, u "max"), (0, u "(II)I"), (0, .fieldref 15 16), (0, .class_ 17), (0, .nameAndType 18 19), (0, u "com/example/leafwright/leafwright/Thumbnails$Source"), (0, u "SIZE"), (0, u "Lcom/example/leafwright/leafwright/Thumbnails$Source;"), (0, .fieldref 15 21), (0, .nameAndType 22 19), (0, u "DECLARED"), (0, .class_ 24), (0, u "com/example/leafwright/leafwright/Thumbnails$Candidate"), (0, .string 26), (0, u "u"), (0, .methodref 23 28), (0, .nameAndType 5 29), (0, u "(Ljava/lang/String;IILcom/example/leafwright/leafwright/Thumbnails$Source;)V"), (0, .methodref 23 31), (0, .nameAndType 32 33), (0, u "covers"), (0, u "(II)Z"), (0, .class_ 35), (0, u "com/example/leafwright/leafwright/CandidateCoversPinLaw"), (2, u "law"), (0, u "(IIIII)Z")] 8

def k1m0 : Method := { name := "<init>", desc := "()V", sig := { parameters := [], returnType := none }, accessFlags := 2, code := none }
def k1c1 : Code := { maxStack := 6, maxLocals := 14, code := code, exceptionTable := #[], attributes := #[] }
def k1m1 : Method := { name := "law", desc := "(IIIII)Z", sig := { parameters := [.int, .int, .int, .int, .int], returnType := some .boolean }, accessFlags := 9, code := some k1c1 }
/-- com/example/leafwright/leafwright/CandidateCoversPinLaw -/
def k1 : Class := { plain "com/example/leafwright/leafwright/CandidateCoversPinLaw" (some 0) with
  accessFlags := 49
  interfaces := #[]
  cf := some (fileOf pool1 34 #[] #[{ accessFlags := 2, nameIndex := 5, descriptorIndex := 6, attributes := #[] }, { accessFlags := 9, nameIndex := 38, descriptorIndex := 39, attributes := #[] }] 49 2 #[] #[])
  fields := #[]
  methods := #[k1m0, k1m1]
  instanceTypes := #[]
  staticTypes := #[]
  resolved := Array.replicate 48 none
  statics := none }

def pool2 : Array CpInfo := pool [(1, .class_ 2), (0, u "java/lang/Math"), (1, .class_ 6), (1, u "java/lang/Object"), (0, u "<init>"), (0, u "()V"), (89, .class_ 100), (1, u "java/lang/Math$RandomNumberGeneratorHolder"), (71, u "negativeZeroFloatBits"), (0, u "J"), (2, u "negativeZeroDoubleBits"), (21, u "max"), (46, u "$assertionsDisabled"), (0, u "Z"), (88, u "(II)I"), (2, u "twoToTheDoubleScaleDown"), (0, u "D"), (4, u "twoToTheDoubleScaleUp"), (9, u "E"), (3, u "PI"), (2, u "TAU"), (2, u "DEGREES_TO_RADIANS"), (0, u "RADIANS_TO_DEGREES")] 94

def k2m0 : Method := { name := "<init>", desc := "()V", sig := { parameters := [], returnType := none }, accessFlags := 2, code := none }
def k2c1 : Code := { maxStack := 2, maxLocals := 2, code := jdk_29_method_65_code, exceptionTable := #[], attributes := #[] }
def k2m1 : Method := { name := "max", desc := "(II)I", sig := { parameters := [.int, .int], returnType := some .int }, accessFlags := 9, code := some k2c1 }
/-- java/lang/Math -/
def k2 : Class := { plain "java/lang/Math" (some 0) with
  accessFlags := 49
  interfaces := #[]
  cf := some (fileOf pool2 1 #[.nestMembers #[98]] #[{ accessFlags := 2, nameIndex := 7, descriptorIndex := 8, attributes := #[] }, { accessFlags := 9, nameIndex := 198, descriptorIndex := 335, attributes := #[] }] 49 4 #[] #[{ accessFlags := 25, nameIndex := 354, descriptorIndex := 339, attributes := #[] }, { accessFlags := 25, nameIndex := 358, descriptorIndex := 339, attributes := #[] }, { accessFlags := 25, nameIndex := 361, descriptorIndex := 339, attributes := #[] }, { accessFlags := 26, nameIndex := 364, descriptorIndex := 339, attributes := #[] }, { accessFlags := 26, nameIndex := 365, descriptorIndex := 339, attributes := #[] }, { accessFlags := 26, nameIndex := 172, descriptorIndex := 173, attributes := #[] }, { accessFlags := 26, nameIndex := 176, descriptorIndex := 173, attributes := #[] }, { accessFlags := 8, nameIndex := 344, descriptorIndex := 339, attributes := #[] }, { accessFlags := 8, nameIndex := 338, descriptorIndex := 339, attributes := #[] }, { accessFlags := 4120, nameIndex := 245, descriptorIndex := 246, attributes := #[] }])
  fields := #[{ name := "E", type := .double, accessFlags := 25, slot := 0, constantValue := 0 }, { name := "PI", type := .double, accessFlags := 25, slot := 1, constantValue := 0 }, { name := "TAU", type := .double, accessFlags := 25, slot := 2, constantValue := 0 }, { name := "DEGREES_TO_RADIANS", type := .double, accessFlags := 26, slot := 3, constantValue := 0 }, { name := "RADIANS_TO_DEGREES", type := .double, accessFlags := 26, slot := 4, constantValue := 0 }, { name := "negativeZeroFloatBits", type := .long, accessFlags := 26, slot := 5, constantValue := 0 }, { name := "negativeZeroDoubleBits", type := .long, accessFlags := 26, slot := 6, constantValue := 0 }, { name := "twoToTheDoubleScaleUp", type := .double, accessFlags := 8, slot := 7, constantValue := 0 }, { name := "twoToTheDoubleScaleDown", type := .double, accessFlags := 8, slot := 8, constantValue := 0 }, { name := "$assertionsDisabled", type := .boolean, accessFlags := 4120, slot := 9, constantValue := 0 }]
  methods := #[k2m0, k2m1]
  instanceTypes := #[]
  staticTypes := #[.double, .double, .double, .double, .double, .long, .long, .double, .double, .boolean]
  resolved := Array.replicate 460 none
  statics := none }

def pool3 : Array CpInfo := pool [(1, .class_ 2), (0, u "java/lang/constant/Constable"), (0, .class_ 4), (0, u "java/lang/Object")] 6

/-- java/lang/constant/Constable -/
def k3 : Class := { plain "java/lang/constant/Constable" (some 0) with
  accessFlags := 1537
  interfaces := #[]
  cf := some (fileOf pool3 1 #[] #[] 1537 3 #[] #[])
  fields := #[]
  methods := #[]
  instanceTypes := #[]
  staticTypes := #[]
  resolved := Array.replicate 11 none
  statics := none }

def pool4 : Array CpInfo := pool [(1, .class_ 2), (0, u "java/lang/Comparable"), (0, .class_ 4), (0, u "java/lang/Object")] 7

/-- java/lang/Comparable -/
def k4 : Class := { plain "java/lang/Comparable" (some 0) with
  accessFlags := 1537
  interfaces := #[]
  cf := some (fileOf pool4 1 #[] #[] 1537 3 #[] #[])
  fields := #[]
  methods := #[]
  instanceTypes := #[]
  staticTypes := #[]
  resolved := Array.replicate 12 none
  statics := none }

def pool5 : Array CpInfo := pool [(1, .class_ 2), (0, u "java/io/Serializable"), (0, .class_ 4), (0, u "java/lang/Object")] 2

/-- java/io/Serializable -/
def k5 : Class := { plain "java/io/Serializable" (some 0) with
  accessFlags := 1537
  interfaces := #[]
  cf := some (fileOf pool5 1 #[] #[] 1537 3 #[] #[])
  fields := #[]
  methods := #[]
  instanceTypes := #[]
  staticTypes := #[]
  resolved := Array.replicate 7 none
  statics := none }

def pool6 : Array CpInfo := pool [(2, .class_ 4), (1, u "java/lang/Enum"), (0, u "name"), (0, u "Ljava/lang/String;"), (2, u "ordinal"), (0, u "I"), (1, .class_ 14), (1, u "java/lang/Object"), (4, u "hash"), (86, .class_ 108), (1, u "java/lang/Enum$EnumDesc"), (2, .class_ 112), (0, u "java/lang/constant/Constable"), (0, .class_ 114), (0, u "java/lang/Comparable"), (0, .class_ 116), (0, u "java/io/Serializable")] 87

/-- java/lang/Enum -/
def k6 : Class := { plain "java/lang/Enum" (some 0) with
  accessFlags := 1057
  interfaces := #[3, 4, 5]
  cf := some (fileOf pool6 2 #[.nestMembers #[106]] #[] 1057 12 #[111, 113, 115] #[{ accessFlags := 18, nameIndex := 5, descriptorIndex := 6, attributes := #[] }, { accessFlags := 18, nameIndex := 9, descriptorIndex := 10, attributes := #[] }, { accessFlags := 2, nameIndex := 19, descriptorIndex := 10, attributes := #[] }])
  fields := #[{ name := "name", type := (.object "java/lang/String"), accessFlags := 18, slot := 0, constantValue := 0 }, { name := "ordinal", type := .int, accessFlags := 18, slot := 1, constantValue := 0 }, { name := "hash", type := .int, accessFlags := 2, slot := 2, constantValue := 0 }]
  methods := #[]
  instanceTypes := #[(.object "java/lang/String"), .int, .int]
  staticTypes := #[]
  resolved := Array.replicate 204 none
  statics := none }

def pool7 : Array CpInfo := pool [(1, .class_ 2), (0, u "com/example/leafwright/leafwright/Thumbnails$Source"), (2, u "DECLARED"), (0, u "Lcom/example/leafwright/leafwright/Thumbnails$Source;"), (2, u "SIZE"), (2, u "$VALUES"), (0, u "[Lcom/example/leafwright/leafwright/Thumbnails$Source;"), (6, .class_ 22), (1, u "java/lang/Enum"), (42, .class_ 66), (0, u "com/example/leafwright/leafwright/Thumbnails")] 2

/-- com/example/leafwright/leafwright/Thumbnails$Source -/
def k7 : Class := { plain "com/example/leafwright/leafwright/Thumbnails$Source" (some 6) with
  accessFlags := 16433
  interfaces := #[]
  cf := some (fileOf pool7 1 #[.nestHost 65] #[] 16433 20 #[] #[{ accessFlags := 16409, nameIndex := 5, descriptorIndex := 6, attributes := #[] }, { accessFlags := 16409, nameIndex := 9, descriptorIndex := 6, attributes := #[] }, { accessFlags := 4122, nameIndex := 12, descriptorIndex := 13, attributes := #[] }])
  fields := #[{ name := "DECLARED", type := (.object "com/example/leafwright/leafwright/Thumbnails$Source"), accessFlags := 16409, slot := 0, constantValue := 0 }, { name := "SIZE", type := (.object "com/example/leafwright/leafwright/Thumbnails$Source"), accessFlags := 16409, slot := 1, constantValue := 0 }, { name := "$VALUES", type := (.array (.object "com/example/leafwright/leafwright/Thumbnails$Source")), accessFlags := 4122, slot := 2, constantValue := 0 }]
  methods := #[]
  instanceTypes := #[(.object "java/lang/String"), .int, .int]
  staticTypes := #[(.object "com/example/leafwright/leafwright/Thumbnails$Source"), (.object "com/example/leafwright/leafwright/Thumbnails$Source"), (.array (.object "com/example/leafwright/leafwright/Thumbnails$Source"))]
  resolved := Array.replicate 69 none
  statics := some 0 }

def pool8 : Array CpInfo := pool [(1, .methodref 2 3), (0, .class_ 4), (0, .nameAndType 5 6), (0, u "java/lang/Object"), (0, u "<init>"), (0, u "()V"), (0, .class_ 8), (0, u "java/lang/Record")] 13

def k8c0 : Code := { maxStack := 1, maxLocals := 1, code := jdk_30_method_1_code, exceptionTable := #[], attributes := #[] }
def k8m0 : Method := { name := "<init>", desc := "()V", sig := { parameters := [], returnType := none }, accessFlags := 4, code := some k8c0 }
/-- java/lang/Record -/
def k8 : Class := { plain "java/lang/Record" (some 0) with
  accessFlags := 1057
  interfaces := #[]
  cf := some (fileOf pool8 7 #[] #[{ accessFlags := 4, nameIndex := 5, descriptorIndex := 6, attributes := #[] }] 1057 2 #[] #[])
  fields := #[]
  methods := #[k8m0]
  instanceTypes := #[]
  staticTypes := #[]
  resolved := Array.replicate 22 none
  statics := none }

def pool9 : Array CpInfo := pool [(1, .methodref 2 3), (0, .class_ 4), (0, .nameAndType 5 6), (0, u "java/lang/Record"), (0, u "<init>"), (0, u "()V"), (0, .string 8), (0, u "url"), (0, .methodref 10 11), (0, .class_ 12), (0, .nameAndType 13 14), (0, u "java/util/Objects"), (0, u "requireNonNull"), (0, u "(Ljava/lang/Object;Ljava/lang/String;)Ljava/lang/Object;"), (0, .string 16), (0, u "source"), (0, .string 18), (0, u "width"), (0, .methodref 20 21), (0, .class_ 22), (0, .nameAndType 23 24), (0, u "com/example/leafwright/leafwright/Thumbnails"), (0, u "requirePositive"), (0, u "(ILjava/lang/String;)V"), (0, .string 26), (0, u "height"), (0, .fieldref 28 29), (0, .class_ 30), (0, .nameAndType 8 31), (0, u "com/example/leafwright/leafwright/Thumbnails$Candidate"), (0, u "Ljava/lang/String;"), (0, .fieldref 28 33), (0, .nameAndType 18 34), (0, u "I"), (0, .fieldref 28 36), (0, .nameAndType 26 34), (0, .fieldref 28 38), (0, .nameAndType 16 39), (0, u "Lcom/example/leafwright/leafwright/Thumbnails$Source;"), (12, u "(Ljava/lang/String;IILcom/example/leafwright/leafwright/Thumbnails$Source;)V"), (5, u "covers"), (0, u "(II)Z")] 33

def k9c0 : Code := { maxStack := 2, maxLocals := 5, code := prog_33_method_1_code, exceptionTable := #[], attributes := #[] }
def k9m0 : Method := { name := "<init>", desc := "(Ljava/lang/String;IILcom/example/leafwright/leafwright/Thumbnails$Source;)V", sig := { parameters := [(.object "java/lang/String"), .int, .int, (.object "com/example/leafwright/leafwright/Thumbnails$Source")], returnType := none }, accessFlags := 1, code := some k9c0 }
def k9c1 : Code := { maxStack := 2, maxLocals := 3, code := prog_33_method_3_code, exceptionTable := #[], attributes := #[] }
def k9m1 : Method := { name := "covers", desc := "(II)Z", sig := { parameters := [.int, .int], returnType := some .boolean }, accessFlags := 1, code := some k9c1 }
/-- com/example/leafwright/leafwright/Thumbnails$Candidate -/
def k9 : Class := { plain "com/example/leafwright/leafwright/Thumbnails$Candidate" (some 8) with
  accessFlags := 49
  interfaces := #[]
  cf := some (fileOf pool9 28 #[.nestHost 20] #[{ accessFlags := 1, nameIndex := 5, descriptorIndex := 52, attributes := #[] }, { accessFlags := 1, nameIndex := 58, descriptorIndex := 59, attributes := #[] }] 49 2 #[] #[{ accessFlags := 18, nameIndex := 8, descriptorIndex := 31, attributes := #[] }, { accessFlags := 18, nameIndex := 18, descriptorIndex := 34, attributes := #[] }, { accessFlags := 18, nameIndex := 26, descriptorIndex := 34, attributes := #[] }, { accessFlags := 18, nameIndex := 16, descriptorIndex := 39, attributes := #[] }])
  fields := #[{ name := "url", type := (.object "java/lang/String"), accessFlags := 18, slot := 0, constantValue := 0 }, { name := "width", type := .int, accessFlags := 18, slot := 1, constantValue := 0 }, { name := "height", type := .int, accessFlags := 18, slot := 2, constantValue := 0 }, { name := "source", type := (.object "com/example/leafwright/leafwright/Thumbnails$Source"), accessFlags := 18, slot := 3, constantValue := 0 }]
  methods := #[k9m0, k9m1]
  instanceTypes := #[(.object "java/lang/String"), .int, .int, (.object "com/example/leafwright/leafwright/Thumbnails$Source")]
  staticTypes := #[]
  resolved := Array.replicate 93 none
  statics := none }

def pool10 : Array CpInfo := pool [(2, .class_ 4), (1, u "java/lang/CharSequence"), (42, .class_ 48), (0, u "java/lang/CharSequence$1CodePointIterator"), (10, .class_ 60), (0, u "java/lang/CharSequence$1CharIterator"), (5, .class_ 67), (0, u "java/lang/Object")] 63

/-- java/lang/CharSequence -/
def k10 : Class := { plain "java/lang/CharSequence" (some 0) with
  accessFlags := 1537
  interfaces := #[]
  cf := some (fileOf pool10 2 #[.nestMembers #[47, 59]] #[] 1537 66 #[] #[])
  fields := #[]
  methods := #[]
  instanceTypes := #[]
  staticTypes := #[]
  resolved := Array.replicate 131 none
  statics := none }

def pool11 : Array CpInfo := pool [(1, .class_ 2), (0, u "java/lang/constant/ConstantDesc"), (0, .class_ 4), (0, u "java/lang/Object")] 32

/-- java/lang/constant/ConstantDesc -/
def k11 : Class := { plain "java/lang/constant/ConstantDesc" (some 0) with
  accessFlags := 1537
  interfaces := #[]
  cf := some (fileOf pool11 1 #[] #[] 1537 3 #[] #[])
  fields := #[]
  methods := #[]
  instanceTypes := #[]
  staticTypes := #[]
  resolved := Array.replicate 37 none
  statics := none }

def pool12 : Array CpInfo := pool [(2, .class_ 4), (1, u "java/lang/Object"), (0, u "<init>"), (0, u "()V"), (3, .class_ 12), (1, u "java/lang/String"), (0, u "value"), (0, u "[B"), (2, u "coder"), (0, u "B"), (2, u "hash"), (0, u "I"), (2, u "hashIsZero"), (0, u "Z"), (13, u "COMPACT_STRINGS"), (534, .class_ 576), (0, u "java/lang/CharSequence"), (22, u "CASE_INSENSITIVE_ORDER"), (0, u "Ljava/util/Comparator;"), (500, u "serialPersistentFields"), (0, u "[Ljava/io/ObjectStreamField;"), (0, .class_ 1104), (0, u "java/lang/String$CaseInsensitiveComparator"), (1, .class_ 1107), (0, u "java/io/Serializable"), (0, .class_ 1109), (0, u "java/lang/Comparable"), (0, .class_ 1111), (0, u "java/lang/constant/Constable"), (0, .class_ 1113), (0, u "java/lang/constant/ConstantDesc"), (2, u "serialVersionUID"), (0, u "J"), (3, u "REPL"), (0, u "C"), (2, u "LATIN1"), (1, u "UTF16")] 323

def k12m0 : Method := { name := "<init>", desc := "()V", sig := { parameters := [], returnType := none }, accessFlags := 1, code := none }
/-- java/lang/String -/
def k12 : Class := { plain "java/lang/String" (some 0) with
  accessFlags := 49
  interfaces := #[5, 4, 10, 3, 11]
  cf := some (fileOf pool12 10 #[.nestMembers #[1103]] #[{ accessFlags := 1, nameIndex := 5, descriptorIndex := 6, attributes := #[] }] 49 2 #[1106, 1108, 575, 1110, 1112] #[{ accessFlags := 18, nameIndex := 13, descriptorIndex := 14, attributes := #[] }, { accessFlags := 18, nameIndex := 17, descriptorIndex := 18, attributes := #[] }, { accessFlags := 2, nameIndex := 21, descriptorIndex := 22, attributes := #[] }, { accessFlags := 2, nameIndex := 25, descriptorIndex := 26, attributes := #[] }, { accessFlags := 26, nameIndex := 1116, descriptorIndex := 1117, attributes := #[] }, { accessFlags := 24, nameIndex := 40, descriptorIndex := 26, attributes := #[] }, { accessFlags := 26, nameIndex := 1101, descriptorIndex := 1102, attributes := #[] }, { accessFlags := 26, nameIndex := 1121, descriptorIndex := 1122, attributes := #[] }, { accessFlags := 25, nameIndex := 599, descriptorIndex := 600, attributes := #[] }, { accessFlags := 24, nameIndex := 1125, descriptorIndex := 18, attributes := #[] }, { accessFlags := 24, nameIndex := 1127, descriptorIndex := 18, attributes := #[] }])
  fields := #[{ name := "value", type := (.array .byte), accessFlags := 18, slot := 0, constantValue := 0 }, { name := "coder", type := .byte, accessFlags := 18, slot := 1, constantValue := 0 }, { name := "hash", type := .int, accessFlags := 2, slot := 2, constantValue := 0 }, { name := "hashIsZero", type := .boolean, accessFlags := 2, slot := 3, constantValue := 0 }, { name := "serialVersionUID", type := .long, accessFlags := 26, slot := 0, constantValue := 0 }, { name := "COMPACT_STRINGS", type := .boolean, accessFlags := 24, slot := 1, constantValue := 0 }, { name := "serialPersistentFields", type := (.array (.object "java/io/ObjectStreamField")), accessFlags := 26, slot := 2, constantValue := 0 }, { name := "REPL", type := .char, accessFlags := 26, slot := 3, constantValue := 0 }, { name := "CASE_INSENSITIVE_ORDER", type := (.object "java/util/Comparator"), accessFlags := 25, slot := 4, constantValue := 0 }, { name := "LATIN1", type := .byte, accessFlags := 24, slot := 5, constantValue := 0 }, { name := "UTF16", type := .byte, accessFlags := 24, slot := 6, constantValue := 0 }]
  methods := #[k12m0]
  instanceTypes := #[(.array .byte), .byte, .int, .boolean]
  staticTypes := #[.long, .boolean, (.array (.object "java/io/ObjectStreamField")), .char, (.object "java/util/Comparator"), .byte, .byte]
  resolved := Array.replicate 1451 none
  statics := none }

def pool13 : Array CpInfo := pool [(2, .class_ 4), (1, u "java/lang/Object"), (0, u "<init>"), (0, u "()V"), (35, .class_ 44), (1, u "java/util/Objects"), (0, u "requireNonNull"), (48, u "(Ljava/lang/Object;Ljava/lang/String;)Ljava/lang/Object;")] 89

def k13m0 : Method := { name := "<init>", desc := "()V", sig := { parameters := [], returnType := none }, accessFlags := 2, code := none }
def k13c1 : Code := { maxStack := 3, maxLocals := 2, code := jdk_31_method_11_code, exceptionTable := #[], attributes := #[] }
def k13m1 : Method := { name := "requireNonNull", desc := "(Ljava/lang/Object;Ljava/lang/String;)Ljava/lang/Object;", sig := { parameters := [(.object "java/lang/Object"), (.object "java/lang/String")], returnType := some (.object "java/lang/Object") }, accessFlags := 9, code := some k13c1 }
/-- java/util/Objects -/
def k13 : Class := { plain "java/util/Objects" (some 0) with
  accessFlags := 49
  interfaces := #[]
  cf := some (fileOf pool13 42 #[] #[{ accessFlags := 2, nameIndex := 5, descriptorIndex := 6, attributes := #[] }, { accessFlags := 9, nameIndex := 45, descriptorIndex := 94, attributes := #[] }] 49 2 #[] #[])
  fields := #[]
  methods := #[k13m0, k13m1]
  instanceTypes := #[]
  staticTypes := #[]
  resolved := Array.replicate 184 none
  statics := none }

def pool14 : Array CpInfo := pool [(2, .class_ 4), (1, u "java/lang/Object"), (0, u "<init>"), (0, u "()V"), (51, .class_ 59), (0, u "com/example/leafwright/leafwright/Thumbnails$Candidate"), (5, .class_ 67), (1, u "com/example/leafwright/leafwright/Thumbnails$Source"), (13, .class_ 83), (1, u "com/example/leafwright/leafwright/Thumbnails"), (10, u "requirePositive"), (0, u "(ILjava/lang/String;)V"), (61, u "IMAGE_SERVICES"), (0, u "Ljava/util/List;")] 78

def k14m0 : Method := { name := "<init>", desc := "()V", sig := { parameters := [], returnType := none }, accessFlags := 2, code := none }
def k14c1 : Code := { maxStack := 4, maxLocals := 2, code := prog_32_method_6_code, exceptionTable := #[], attributes := #[] }
def k14m1 : Method := { name := "requirePositive", desc := "(ILjava/lang/String;)V", sig := { parameters := [.int, (.object "java/lang/String")], returnType := none }, accessFlags := 10, code := some k14c1 }
/-- com/example/leafwright/leafwright/Thumbnails -/
def k14 : Class := { plain "com/example/leafwright/leafwright/Thumbnails" (some 0) with
  accessFlags := 49
  interfaces := #[]
  cf := some (fileOf pool14 81 #[.nestMembers #[58, 65]] #[{ accessFlags := 2, nameIndex := 5, descriptorIndex := 6, attributes := #[] }, { accessFlags := 10, nameIndex := 94, descriptorIndex := 95, attributes := #[] }] 49 2 #[] #[{ accessFlags := 26, nameIndex := 157, descriptorIndex := 158, attributes := #[] }])
  fields := #[{ name := "IMAGE_SERVICES", type := (.object "java/util/List"), accessFlags := 26, slot := 0, constantValue := 0 }]
  methods := #[k14m0, k14m1]
  instanceTypes := #[]
  staticTypes := #[(.object "java/util/List")]
  resolved := Array.replicate 237 none
  statics := none }

def pool15 : Array CpInfo := pool [(1, u "java/lang/Cloneable"), (0, .class_ 1), (0, u "java/lang/Object"), (0, .class_ 3)] 3

/-- java/lang/Cloneable -/
def k15 : Class := { plain "java/lang/Cloneable" (some 0) with
  accessFlags := 1537
  interfaces := #[]
  cf := some (fileOf pool15 2 #[] #[] 1537 4 #[] #[])
  fields := #[]
  methods := #[]
  instanceTypes := #[]
  staticTypes := #[]
  resolved := Array.replicate 8 none
  statics := none }

/-- the primitive byte -/
def k16 : Class := { plain "byte" none with kind := .primitive 'B', accessFlags := 0x411 }
/-- [B -/
def k17 : Class := { plain "[B" (some 0) with kind := .array 16 .byte, interfaces := #[15, 5], accessFlags := 1041 }

/-- the primitive int -/
def k18 : Class := { plain "int" none with kind := .primitive 'I', accessFlags := 0x411 }
/-- [I -/
def k19 : Class := { plain "[I" (some 0) with kind := .array 18 .int, interfaces := #[15, 5], accessFlags := 1041 }

def heap : Heap := #[{ cls := 7, slots := #[.ref 1, .ref 2, .null], vm := .statics 7 },
  { cls := 7, slots := #[.null, .int 0, .int 0], vm := .none },
  { cls := 7, slots := #[.null, .int 0, .int 0], vm := .none }]
def classes : Array Class := #[k0, k1, k2, k3, k4, k5, k6, k7, k8, k9, k10, k11, k12, k13, k14, k15, k16, k17, k18, k19]
def interned : List (Array UInt16 × Addr) := []
def slotsUsed : Nat := 9
def theMethod : MethodId := ⟨1, 1⟩
def args0 : Array Value := #[.int 3, .int 4, .int 5, .int 6, .int 7]
def aboutOver (below : List Frame) : State where
  vm := { classes := classes, interned := interned.toArray }
  heap := heap
  slotsUsed := slotsUsed
  threads := #[{ frames := .invoking theMethod args0 :: below }]
def below0 : List Frame := [.native { method := ⟨0, 0⟩, args := #[] }]
def about1 : State := aboutOver below0
def p0 : Program := .bare "" "" ""
def e0 : Env := launch0.env 0 0 0
theorem w_frames : about1.frames = Frame.invoking theMethod args0 :: below0 := rfl
set_option maxRecDepth 65536 in
theorem w_args : argsFit about1.vm theMethod args0 = true := by decide +kernel
set_option maxRecDepth 65536 in
theorem w_heap : heapFits about1 = true := by decide +kernel
set_option maxRecDepth 65536 in
theorem w_runnable : about1.curStatus? = some .runnable := by decide +kernel
set_option maxRecDepth 65536 in
theorem w_alone : about1.alone = true := by decide +kernel
set_option maxRecDepth 65536 in
theorem w_named : about1.methodNamed? x = some theMethod := by decide +kernel
set_option maxRecDepth 65536 in
theorem w_hears : about1.hears theMethod below0 = true := by decide +kernel
set_option maxRecDepth 65536 in
theorem w_ripe : about1.ripe theMethod args0 below0 = true := by decide +kernel
theorem w_running : about1.status = .running := rfl
set_option maxRecDepth 65536 in
theorem w_room : about1.hasRoom e0.platform room_1 = true :=
  launch0.hasRoom_least _ room_1 (by decide +kernel) (by decide +kernel) (by decide +kernel) (by decide +kernel) (by decide +kernel) (by decide +kernel)
theorem allAtoms_all (ts : List Jvm.Cond) (a : Array Jvm.Value) (st : Jvm.State) : (allAtoms ts).before a st = ts.all (fun c => c.before a st) := by
  induction ts with
  | nil => rfl
  | cons c t ih =>
    show (Jvm.Cond.and c (allAtoms t)).before a st = _
    rw [Jvm.Cond.before_and, ih, List.all_cons]
def words1 : List Jvm.Cond := Jvm.Cond.code x code maxLocals ret :: tables_1
/-- a 'code' word, met by the world's own term for the bytes: nothing is compared byte by byte -/
theorem code_word {y : MethodName} {bytes : ByteArray} {mx : Nat} {rt : Option FieldType} {a : Array Value} {s : State} {m : MethodId} {meth : Method} {c : Code} (h1 : s.methodNamed? y = some m) (h2 : s.vm.method? m = some meth) (h3 : meth.code = some c) (h4 : c.code = bytes)
    (h5 : (c.maxLocals == mx && c.exceptionTable.isEmpty && decide (c.maxStack ≤ mostOperands) && decide (meth.sig.returnType = rt) && !meth.locks && decide (parseMethodDescriptor y.desc = some meth.sig)) = true) : (Jvm.Cond.code y bytes mx rt).before a s = true := by
  simp only [Bool.and_eq_true, beq_iff_eq, Bool.not_eq_true', decide_eq_true_eq] at h5
  obtain ⟨⟨⟨⟨⟨g1, g2⟩, g3⟩, g4⟩, g5⟩, g6⟩ := h5
  simp [Cond.before, Cond.holds, Cond.value, h1, h2, h3, h4, g1, g2, g3, g4, g5, g6]
def isCode : Jvm.Cond → Bool
  | .code _ _ _ _ => true
  | _ => false
theorem all_split {L : List Jvm.Cond} {P : Jvm.Cond → Bool} (h1 : L.all (fun c => isCode c || P c) = true) (h2 : ∀ c ∈ L.filter isCode, P c = true) : L.all P = true := by
  refine List.all_eq_true.mpr fun c hc => ?_
  have h := List.all_eq_true.mp h1 c hc
  rcases Bool.eq_false_or_eq_true (isCode c) with hi | hi
  · exact h2 c (List.mem_filter.mpr ⟨hc, hi⟩)
  · simpa [hi] using h
set_option maxRecDepth 65536 in
theorem w_c0 : (Jvm.Cond.code x code maxLocals ret).before args0 about1 = true := code_word (m := ⟨1, 1⟩) (meth := k1m1) (c := k1c1) (by decide +kernel) rfl rfl rfl (by decide +kernel)
set_option maxRecDepth 65536 in
theorem w_c1 : (Jvm.Cond.code ({ cls := "java/lang/Math", name := "max", desc := "(II)I" } : Jvm.MethodName) jdk_29_method_65_code (2 : Nat) (Option.some Jvm.ClassFile.FieldType.int)).before args0 about1 = true := code_word (m := ⟨2, 1⟩) (meth := k2m1) (c := k2c1) (by decide +kernel) rfl rfl rfl (by decide +kernel)
set_option maxRecDepth 65536 in
theorem w_c2 : (Jvm.Cond.code ({ cls := "com/example/leafwright/leafwright/Thumbnails$Candidate", name := "<init>", desc := "(Ljava/lang/String;IILcom/example/leafwright/leafwright/Thumbnails$Source;)V" } : Jvm.MethodName) prog_33_method_1_code (5 : Nat) (Option.none : Option Jvm.ClassFile.FieldType)).before args0 about1 = true := code_word (m := ⟨9, 0⟩) (meth := k9m0) (c := k9c0) (by decide +kernel) rfl rfl rfl (by decide +kernel)
set_option maxRecDepth 65536 in
theorem w_c3 : (Jvm.Cond.code ({ cls := "java/lang/Record", name := "<init>", desc := "()V" } : Jvm.MethodName) jdk_30_method_1_code (1 : Nat) (Option.none : Option Jvm.ClassFile.FieldType)).before args0 about1 = true := code_word (m := ⟨8, 0⟩) (meth := k8m0) (c := k8c0) (by decide +kernel) rfl rfl rfl (by decide +kernel)
set_option maxRecDepth 65536 in
theorem w_c4 : (Jvm.Cond.code ({ cls := "java/lang/Object", name := "<init>", desc := "()V" } : Jvm.MethodName) object_method_1_code (1 : Nat) (Option.none : Option Jvm.ClassFile.FieldType)).before args0 about1 = true := code_word (m := ⟨0, 0⟩) (meth := k0m0) (c := k0c0) (by decide +kernel) rfl rfl rfl (by decide +kernel)
set_option maxRecDepth 65536 in
theorem w_c5 : (Jvm.Cond.code ({ cls := "java/util/Objects", name := "requireNonNull", desc := "(Ljava/lang/Object;Ljava/lang/String;)Ljava/lang/Object;" } : Jvm.MethodName) jdk_31_method_11_code (2 : Nat) (Option.some (Jvm.ClassFile.FieldType.object "java/lang/Object"))).before args0 about1 = true := code_word (m := ⟨13, 1⟩) (meth := k13m1) (c := k13c1) (by decide +kernel) rfl rfl rfl (by decide +kernel)
set_option maxRecDepth 65536 in
theorem w_c6 : (Jvm.Cond.code ({ cls := "com/example/leafwright/leafwright/Thumbnails", name := "requirePositive", desc := "(ILjava/lang/String;)V" } : Jvm.MethodName) prog_32_method_6_code (2 : Nat) (Option.none : Option Jvm.ClassFile.FieldType)).before args0 about1 = true := code_word (m := ⟨14, 1⟩) (meth := k14m1) (c := k14c1) (by decide +kernel) rfl rfl rfl (by decide +kernel)
set_option maxRecDepth 65536 in
theorem w_c7 : (Jvm.Cond.code ({ cls := "com/example/leafwright/leafwright/Thumbnails$Candidate", name := "covers", desc := "(II)Z" } : Jvm.MethodName) prog_33_method_3_code (3 : Nat) (Option.some Jvm.ClassFile.FieldType.boolean)).before args0 about1 = true := code_word (m := ⟨9, 1⟩) (meth := k9m1) (c := k9c1) (by decide +kernel) rfl rfl rfl (by decide +kernel)
def codes1 : List Jvm.Cond := [Jvm.Cond.code x code maxLocals ret, Jvm.Cond.code ({ cls := "java/lang/Math", name := "max", desc := "(II)I" } : Jvm.MethodName) jdk_29_method_65_code (2 : Nat) (Option.some Jvm.ClassFile.FieldType.int), Jvm.Cond.code ({ cls := "com/example/leafwright/leafwright/Thumbnails$Candidate", name := "<init>", desc := "(Ljava/lang/String;IILcom/example/leafwright/leafwright/Thumbnails$Source;)V" } : Jvm.MethodName) prog_33_method_1_code (5 : Nat) (Option.none : Option Jvm.ClassFile.FieldType), Jvm.Cond.code ({ cls := "java/lang/Record", name := "<init>", desc := "()V" } : Jvm.MethodName) jdk_30_method_1_code (1 : Nat) (Option.none : Option Jvm.ClassFile.FieldType), Jvm.Cond.code ({ cls := "java/lang/Object", name := "<init>", desc := "()V" } : Jvm.MethodName) object_method_1_code (1 : Nat) (Option.none : Option Jvm.ClassFile.FieldType), Jvm.Cond.code ({ cls := "java/util/Objects", name := "requireNonNull", desc := "(Ljava/lang/Object;Ljava/lang/String;)Ljava/lang/Object;" } : Jvm.MethodName) jdk_31_method_11_code (2 : Nat) (Option.some (Jvm.ClassFile.FieldType.object "java/lang/Object")), Jvm.Cond.code ({ cls := "com/example/leafwright/leafwright/Thumbnails", name := "requirePositive", desc := "(ILjava/lang/String;)V" } : Jvm.MethodName) prog_32_method_6_code (2 : Nat) (Option.none : Option Jvm.ClassFile.FieldType), Jvm.Cond.code ({ cls := "com/example/leafwright/leafwright/Thumbnails$Candidate", name := "covers", desc := "(II)Z" } : Jvm.MethodName) prog_33_method_3_code (3 : Nat) (Option.some Jvm.ClassFile.FieldType.boolean)]
set_option maxRecDepth 65536 in
theorem codes_eq : words1.filter isCode = codes1 := rfl
theorem w_codes : ∀ c ∈ words1.filter isCode, c.before args0 about1 = true := by
  rw [codes_eq]
  intro c hc
  simp only [codes1, List.mem_cons, List.not_mem_nil, or_false] at hc
  rcases hc with rfl | rfl | rfl | rfl | rfl | rfl | rfl | rfl
  · exact w_c0
  · exact w_c1
  · exact w_c2
  · exact w_c3
  · exact w_c4
  · exact w_c5
  · exact w_c6
  · exact w_c7
set_option maxRecDepth 65536 in
theorem w_t1 : (words1.take 24).all (fun c => isCode c || c.before args0 about1) = true := by decide +kernel
set_option maxRecDepth 65536 in
theorem w_t2 : ((words1.drop 24).take 24).all (fun c => isCode c || c.before args0 about1) = true := by decide +kernel
set_option maxRecDepth 65536 in
theorem w_t3 : ((words1.drop 24).drop 24).all (fun c => isCode c || c.before args0 about1) = true := by decide +kernel
theorem w_tables : (allAtoms (Jvm.Cond.code x code maxLocals ret :: tables_1)).before args0 about1 = true := by
  rw [allAtoms_all]
  show words1.all (fun c => c.before args0 about1) = true
  refine all_split ?_ w_codes
  rw [← List.take_append_drop 24 words1, List.all_append, w_t1, ← List.take_append_drop 24 (words1.drop 24), List.all_append, w_t2, w_t3]
  rfl
set_option maxRecDepth 65536 in
theorem w_case : (Jvm.Cond.and given_1 narrow_1).before args0 about1 = true := by decide +kernel
theorem w_applies : (headSpec (Jvm.Cond.code x code maxLocals ret :: tables_1) room_1).applies x e0.platform about1 = true :=
  (Spec.applies_iff w_frames).mpr ⟨w_running, w_runnable, w_alone, w_named, w_hears, w_ripe, w_room, w_tables⟩
theorem atStart : AtStart classFile x code maxLocals ret World_1 tables_1 room_1 Calls_1 rest_1 Pre_1 launch0 p0 e0 about1 theMethod args0 below0 :=
  ⟨lists_1, trivial, launch0.admits_env _ _ _, launch0.least_env, fairChoices_fair.cas, fairChoices_fair.clock, w_frames, w_args, w_heap, w_applies, trivial, trivial, w_case⟩
end start1
theorem witness_1 : WitnessClaimed_1 := ⟨start1.p0, start1.e0, start1.about1, start1.theMethod, start1.args0, start1.below0, start1.atStart⟩
end Jvm.Pilot.@@N@@
