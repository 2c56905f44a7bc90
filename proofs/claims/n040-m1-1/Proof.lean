import JvmDerived
import JvmDerived.Pilot.@@N@@Statement
import JvmDerived.Pilot.@@N@@Code
set_option linter.unusedVariables false
set_option linter.unusedSimpArgs false
namespace Jvm.RoadKit
open Sem ClassFile Op Lib Jvm.Stand Jvm.Free Jvm.LawKit
section New
variable {p : Program} {l : Launch} {e : Env} {R : Room} {s : State} {m : MethodId} {args : Array Value} {below : List Frame} {meth : Method} {c : Code} {T : State} {locs : List Loc} {cells slots : Nat}
theorem retI (X : Stand p l e R s m args below meth c T locs cells slots) (hx : p.tables.exec = Jvm.exec) {pc : Nat} {Ls : Array Slot} {z : Int32} {rest : List Value} (hret : meth.sig.returnType = some .int) (hd : decode c.code pc = .ok (.ireturn, 1)) {fs : List Frame}
    (hl : ∀ (f : JFrame) (acts : List Action), f.method = m → f.locked = none → f.entered = [] → (doReturn e (T.setTop f) acts (some (.int z))).1 = T.setFrames fs) : Steps p.tables e below (T.setTop (mkF m pc Ls (.int z :: rest))) (T.setFrames fs) := by
  have hm' : T.vm.method? m = some meth := X.method'
  have hn : narrow .int (.int z) = .int z := rfl
  show Steps p.tables e below (T.setTop { method := m, pc := pc, locals := Ls, stack := _ :: rest, locked := none }) _
  jvm_step X.here [X.here.top, hx, hd, hm', hret, hn]
  first | (intro acts; rw [hl _ acts rfl rfl rfl]) | rw [hl _ _ rfl rfl rfl]
  exact Steps.refl _
end New
end Jvm.RoadKit
namespace Jvm.Pilot.@@N@@
open Jvm Jvm.ClassFile Sem Op Lib Jvm.Free Jvm.Stand Jvm.LawKit Jvm.RoadKit Bundle Jvm.Pilot.@@N@@.Jvm.D
def QV (r : Option Value) (h0 : Heap) (n0 : Nat) (v : Option Value) (h : Heap) (L : List Loc) : Prop := v = r ∧ Fr n0 L ∧ h = h0
def QN (r : Option Value) (n0 : Nat) (v : Option Value) (h : Heap) (L : List Loc) : Prop := v = r ∧ Fr n0 L
section OwnWords
variable {args : Array Value} {first s : State} {o : Option Outcome} {idx : List Nat} {t : Term}
theorem own_eqI {k : Int32} (h : (Jvm.Cond.eq t (.int k)).value args first o s idx = some true) : t.eval args first o idx s = some (.int k) := by
  simp only [Jvm.Cond.value, Term.eval] at h; cases ht : t.eval args first o idx s with | none => simp [ht] at h | some x => cases x <;> simp [ht] at h ⊢; exact h
end OwnWords
theorem own_exa_plain {Z : State} {h : Heap} {a : Addr} {C : String} (F : Exa Z h a C) (c : Cell) (hc : h[a]? = some c) : c.vm.isStatics = false := by
  obtain ⟨cell, k, h1, h2, h3, h4, h5⟩ := F; cases h1.symm.trans hc; exact h4
theorem own_arv_plain {Z : State} {h : Heap} {a : Addr} {k : ClassId} {ty : FieldType} {n : Int32} {vs : List Value} {d : Value} (F : Arv Z h a k ty n vs d) (c : Cell) (hc : h[a]? = some c) : c.vm.isStatics = false := by
  obtain ⟨cell, A, -⟩ := F; cases A.1.symm.trans hc; exact A.plain
theorem own_ext_of_keep {h h' : Heap} {ws : List Addr} (K : Keep h h' ws) (q : ∀ x ∈ ws, h.size ≤ x) : Ext h h' := ⟨K.1, fun a c hc => K.2.1 a c hc fun hm => absurd (Array.getElem?_eq_some_iff.mp hc).1 (Nat.not_lt.mpr (q a hm))⟩
theorem own_fitc {Z : State} {h : Heap} {a : Addr} {c : Cell} {ty : FieldType} {vs : List Value} {d : Value} (A : Arr Z h a c ty) (H : Has c vs d) (G : ∀ i, i < c.slots.size → fits ty (vs.getD i d) = true) : FitC Z c := fun i v hv => by
  obtain ⟨hi, -⟩ := Array.getElem?_eq_some_iff.mp hv
  obtain ⟨hs, k, hk, comp, hkind⟩ := A.2.1
  have e : Z.slotType? c.cls .none i = some ty := by simp [State.slotType?, hk, hkind]
  have ev : v = vs.getD i d := Option.some.inj (hv.symm.trans (H i hi))
  simp only [State.fitsSlot, e]
  rw [ev]; exact G i hi
theorem own_sta_keep {Z : State} {h h' : Heap} {C n d : String} {w : Value} {ws : List Addr} (F : Sta Z h C n d w) (K : Keep h h' ws) (q : ∀ x ∈ ws, ∀ c : Cell, h[x]? = some c → c.vm.isStatics = false) : Sta Z h' C n d w := by
  obtain ⟨cf, i, k, f, st, cell, h1, h2, h3, h4, h5, h6, h7⟩ := F
  exact ⟨cf, i, k, f, st, cell, h1, h2, h3, h4, K.2.1 _ _ h5 (fun hx => by rw [q _ hx _ h5] at h6; cases h6), h6, h7⟩
section OwnWords2
variable {args : Array Value} {s : State} {t u : Term}
theorem own_eqR {a : Addr} (h : (Jvm.Cond.eq t u).value args s none s [] = some true) (hu : u.eval args s none [] s = some (.ref a)) : t.eval args s none [] s = some (.ref a) := by
  simp only [Jvm.Cond.value, hu] at h; cases ht : t.eval args s none [] s with | none => simp [ht] at h | some x => cases x <;> simp [ht] at h ⊢; exact h
theorem own_len {a : Addr} {cl : Cell} {ty : FieldType} {k : Int32} (ev : t.eval args s none [] s = some (.ref a)) (A : Arr s s.heap a cl ty) (h : (Term.length t).eval args s none [] s = some (.int k)) : cl.slots.size < 2 ^ 31 ∧ cl.slots.size.toInt32 = k := by
  have ha := A.fin (Vm.Alike.refl _)
  by_cases hl : cl.slots.size < 2 ^ 31
  · rw [len_f ev ha hl] at h; exact ⟨hl, Value.int.inj (Option.some.inj h)⟩
  · simp [Term.eval, ev, ha, hl] at h
theorem own_elem {a : Addr} {cl : Cell} {ty : FieldType} {k : Int32} {v : Value} (ev : t.eval args s none [] s = some (.ref a)) (A : Arr s s.heap a cl ty) (h : (Term.elem t (.int k)).eval args s none [] s = some v) : cl.slots[k.toNatClampNeg]? = some v := (elem_in h ev (Term.int_eval k) A.1).2
end OwnWords2
def OwnWd (Z : State) (h0 : Heap) (ad : Nat → Addr) : Prop := Sta Z h0 "com/example/isolint/isolint/bench/Change" "CHANGE_A" "Lcom/example/isolint/isolint/bench/Change;" (.ref (ad 0)) ∧ Exa Z h0 (ad 0) "com/example/isolint/isolint/bench/Change" ∧ Fld Z h0 (ad 0) "com/example/isolint/isolint/bench/Change" "writesA" "Z" (.int (1 : Int32)) ∧ Fld Z h0 (ad 0) "com/example/isolint/isolint/bench/Change" "writesB" "Z" (.int (0 : Int32)) ∧ Sta Z h0 "com/example/isolint/isolint/bench/Change" "CHANGE_B" "Lcom/example/isolint/isolint/bench/Change;" (.ref (ad 1)) ∧ Exa Z h0 (ad 1) "com/example/isolint/isolint/bench/Change" ∧ Fld Z h0 (ad 1) "com/example/isolint/isolint/bench/Change" "writesA" "Z" (.int (0 : Int32)) ∧ Fld Z h0 (ad 1) "com/example/isolint/isolint/bench/Change" "writesB" "Z" (.int (1 : Int32)) ∧ Sta Z h0 "com/example/isolint/isolint/bench/Change" "CHANGE_AB" "Lcom/example/isolint/isolint/bench/Change;" (.ref (ad 2)) ∧ Exa Z h0 (ad 2) "com/example/isolint/isolint/bench/Change" ∧ Fld Z h0 (ad 2) "com/example/isolint/isolint/bench/Change" "writesA" "Z" (.int (1 : Int32)) ∧ Fld Z h0 (ad 2) "com/example/isolint/isolint/bench/Change" "writesB" "Z" (.int (1 : Int32))
theorem own_S_CHANGE_A {Z : State} {h0 : Heap} {ad : Nat → Addr} (W : OwnWd Z h0 ad) : Sta Z h0 "com/example/isolint/isolint/bench/Change" "CHANGE_A" "Lcom/example/isolint/isolint/bench/Change;" (.ref (ad 0)) := W.1
theorem own_E_CHANGE_A {Z : State} {h0 : Heap} {ad : Nat → Addr} (W : OwnWd Z h0 ad) : Exa Z h0 (ad 0) "com/example/isolint/isolint/bench/Change" := W.2.1
theorem own_F_CHANGE_A_writesA {Z : State} {h0 : Heap} {ad : Nat → Addr} (W : OwnWd Z h0 ad) : Fld Z h0 (ad 0) "com/example/isolint/isolint/bench/Change" "writesA" "Z" (.int (1 : Int32)) := W.2.2.1
theorem own_F_CHANGE_A_writesB {Z : State} {h0 : Heap} {ad : Nat → Addr} (W : OwnWd Z h0 ad) : Fld Z h0 (ad 0) "com/example/isolint/isolint/bench/Change" "writesB" "Z" (.int (0 : Int32)) := W.2.2.2.1
theorem own_S_CHANGE_B {Z : State} {h0 : Heap} {ad : Nat → Addr} (W : OwnWd Z h0 ad) : Sta Z h0 "com/example/isolint/isolint/bench/Change" "CHANGE_B" "Lcom/example/isolint/isolint/bench/Change;" (.ref (ad 1)) := W.2.2.2.2.1
theorem own_E_CHANGE_B {Z : State} {h0 : Heap} {ad : Nat → Addr} (W : OwnWd Z h0 ad) : Exa Z h0 (ad 1) "com/example/isolint/isolint/bench/Change" := W.2.2.2.2.2.1
theorem own_F_CHANGE_B_writesA {Z : State} {h0 : Heap} {ad : Nat → Addr} (W : OwnWd Z h0 ad) : Fld Z h0 (ad 1) "com/example/isolint/isolint/bench/Change" "writesA" "Z" (.int (0 : Int32)) := W.2.2.2.2.2.2.1
theorem own_F_CHANGE_B_writesB {Z : State} {h0 : Heap} {ad : Nat → Addr} (W : OwnWd Z h0 ad) : Fld Z h0 (ad 1) "com/example/isolint/isolint/bench/Change" "writesB" "Z" (.int (1 : Int32)) := W.2.2.2.2.2.2.2.1
theorem own_S_CHANGE_AB {Z : State} {h0 : Heap} {ad : Nat → Addr} (W : OwnWd Z h0 ad) : Sta Z h0 "com/example/isolint/isolint/bench/Change" "CHANGE_AB" "Lcom/example/isolint/isolint/bench/Change;" (.ref (ad 2)) := W.2.2.2.2.2.2.2.2.1
theorem own_E_CHANGE_AB {Z : State} {h0 : Heap} {ad : Nat → Addr} (W : OwnWd Z h0 ad) : Exa Z h0 (ad 2) "com/example/isolint/isolint/bench/Change" := W.2.2.2.2.2.2.2.2.2.1
theorem own_F_CHANGE_AB_writesA {Z : State} {h0 : Heap} {ad : Nat → Addr} (W : OwnWd Z h0 ad) : Fld Z h0 (ad 2) "com/example/isolint/isolint/bench/Change" "writesA" "Z" (.int (1 : Int32)) := W.2.2.2.2.2.2.2.2.2.2.1
theorem own_F_CHANGE_AB_writesB {Z : State} {h0 : Heap} {ad : Nat → Addr} (W : OwnWd Z h0 ad) : Fld Z h0 (ad 2) "com/example/isolint/isolint/bench/Change" "writesB" "Z" (.int (1 : Int32)) := W.2.2.2.2.2.2.2.2.2.2.2
theorem own_Wd_ext {Z : State} {h0 : Heap} {ad : Nat → Addr} {h' : Heap} (W : OwnWd Z h0 ad) (E : Ext h0 h') : OwnWd Z h' ad := ⟨(own_S_CHANGE_A W).ext E, (own_E_CHANGE_A W).ext E, (own_F_CHANGE_A_writesA W).ext E, (own_F_CHANGE_A_writesB W).ext E, (own_S_CHANGE_B W).ext E, (own_E_CHANGE_B W).ext E, (own_F_CHANGE_B_writesA W).ext E, (own_F_CHANGE_B_writesB W).ext E, (own_S_CHANGE_AB W).ext E, (own_E_CHANGE_AB W).ext E, (own_F_CHANGE_AB_writesA W).ext E, (own_F_CHANGE_AB_writesB W).ext E⟩
theorem own_d_prog_11_method_7_code_0 : decode prog_11_method_7_code 0 = .ok (.iload_n 1, 1) := by decide +kernel
theorem own_d_prog_11_method_7_code_1 : decode prog_11_method_7_code 1 = .ok (.ifCond .lt 9, 3) := by decide +kernel
theorem own_d_prog_11_method_7_code_10 : decode prog_11_method_7_code 10 = .ok (.iconst 0, 1) := by decide +kernel
theorem own_d_prog_11_method_7_code_11 : decode prog_11_method_7_code 11 = .ok (.istore_n 2, 1) := by decide +kernel
theorem own_d_prog_11_method_7_code_12 : decode prog_11_method_7_code 12 = .ok (.goto 18, 3) := by decide +kernel
theorem own_d_prog_11_method_7_code_30 : decode prog_11_method_7_code 30 = .ok (.aload_n 0, 1) := by decide +kernel
theorem own_d_prog_11_method_7_code_31 : decode prog_11_method_7_code 31 = .ok (.getfield 36, 3) := by decide +kernel
theorem own_d_prog_11_method_7_code_34 : decode prog_11_method_7_code 34 = .ok (.ifCond .eq 16, 3) := by decide +kernel
theorem own_d_prog_11_method_7_code_37 : decode prog_11_method_7_code 37 = .ok (.aload_n 0, 1) := by decide +kernel
theorem own_d_prog_11_method_7_code_38 : decode prog_11_method_7_code 38 = .ok (.getfield 40, 3) := by decide +kernel
theorem own_d_prog_11_method_7_code_41 : decode prog_11_method_7_code 41 = .ok (.ifCond .eq 9, 3) := by decide +kernel
theorem own_d_prog_11_method_7_code_50 : decode prog_11_method_7_code 50 = .ok (.iload_n 2, 1) := by decide +kernel
theorem own_d_prog_11_method_7_code_51 : decode prog_11_method_7_code 51 = .ok (.ireturn, 1) := by decide +kernel
theorem own_pn_com_example_isolint_isolint_bench_Change : plainName "com/example/isolint/isolint/bench/Change" = true := by first | (simp [plainName, overriddenIn]; done) | decide +kernel
theorem own_d_prog_11_method_7_code_4 : decode prog_11_method_7_code 4 = .ok (.iload_n 1, 1) := by decide +kernel
theorem own_d_prog_11_method_7_code_5 : decode prog_11_method_7_code 5 = .ok (.bipush 99, 2) := by decide +kernel
theorem own_d_prog_11_method_7_code_7 : decode prog_11_method_7_code 7 = .ok (.if_icmp .le 8, 3) := by decide +kernel
theorem own_d_prog_11_method_7_code_15 : decode prog_11_method_7_code 15 = .ok (.iload_n 1, 1) := by decide +kernel
theorem own_d_prog_11_method_7_code_16 : decode prog_11_method_7_code 16 = .ok (.bipush 50, 2) := by decide +kernel
theorem own_d_prog_11_method_7_code_18 : decode prog_11_method_7_code 18 = .ok (.if_icmp .ge 9, 3) := by decide +kernel
theorem own_d_prog_11_method_7_code_21 : decode prog_11_method_7_code 21 = .ok (.bipush 50, 2) := by decide +kernel
theorem own_d_prog_11_method_7_code_23 : decode prog_11_method_7_code 23 = .ok (.istore_n 2, 1) := by decide +kernel
theorem own_d_prog_11_method_7_code_24 : decode prog_11_method_7_code 24 = .ok (.goto 6, 3) := by decide +kernel
theorem own_d_prog_11_method_7_code_27 : decode prog_11_method_7_code 27 = .ok (.bipush (-50), 2) := by decide +kernel
theorem own_d_prog_11_method_7_code_29 : decode prog_11_method_7_code 29 = .ok (.istore_n 2, 1) := by decide +kernel
theorem own_pd__I_I : parseMethodDescriptor "(I)I" = some ⟨[.int], some .int⟩ := by decide +kernel
theorem own_pn_com_example_isolint_isolint_bench_ChangeAddedToEachValuePinLaw : plainName "com/example/isolint/isolint/bench/ChangeAddedToEachValuePinLaw" = true := by first | (simp [plainName, overriddenIn]; done) | decide +kernel
theorem own_d_prog_11_method_7_code_44 : decode prog_11_method_7_code 44 = .ok (.iload_n 2, 1) := by decide +kernel
theorem own_d_prog_11_method_7_code_45 : decode prog_11_method_7_code 45 = .ok (.iconst 2, 1) := by decide +kernel
theorem own_d_prog_11_method_7_code_46 : decode prog_11_method_7_code 46 = .ok (.idiv, 1) := by decide +kernel
theorem own_d_prog_11_method_7_code_47 : decode prog_11_method_7_code 47 = .ok (.goto 4, 3) := by decide +kernel
theorem own_lc0 (a : Int64) : lcmpW a a = 0 := (lw_eq _ _).mpr rfl
theorem own_lc1 (a : Int64) : lcmpW (a + (-50 : Int64)) (a - (50 : Int64)) = 0 := (lw_eq _ _).mpr (Int64.sub_eq_add_neg a 50).symm
theorem own_ef_own_add_0n (m : MethodId) {x0 : Addr} {x1 : Int32} : entryFrame m #[(.ref x0), (.int x1)] 3 = mkF m 0 #[.val (.ref x0), .val (.int x1), .unset] [] := by first | (simp [entryFrame, mkF, argsToLocals, Value.category, maxLocals]; done) | rfl
set_option maxRecDepth 65536 in
set_option maxHeartbeats 40000000 in
theorem own_add_0n (l : Launch) (Z : State) (a0 : Array Value) (hw : ∀ d ∈ tables_1, d.before a0 Z = true) (ws : List Jvm.Cond) (h0 : Heap) (n0 : Nat) (Z0 : n0 ≤ h0.size) (x : Int32) (h1 : x < (0 : Int32)) (ad : Nat → Addr) (W : OwnWd Z h0 ad) :
    MetFree l (⟨"com/example/isolint/isolint/bench/Change", "addedToEachValue", "(I)I"⟩ : MethodName) (head1 (Jvm.Cond.code (⟨"com/example/isolint/isolint/bench/Change", "addedToEachValue", "(I)I"⟩ : MethodName) prog_11_method_7_code 3 (some .int) :: ws) ({ frames := 0, cells := 0, slots := 0, locals := 0 } : Room)) (fun a U => a = #[(.ref (ad 0)), (.int x)] ∧ Z.Warmed39 U.vm ∧ U.heap = h0) (fun _ _ _ _ _ => True) (fun _ U o U' => ∃ v L, o = .returned v ∧ QV (some (.int (0 : Int32))) h0 n0 v U'.heap L ∧ FrameEnd U o U' L ({ frames := 0, cells := 0, slots := 0, locals := 0 } : Room).cells ({ frames := 0, cells := 0, slots := 0, locals := 0 } : Room).slots) := by
  refine MetFree.of_bodySF (plainFor_of_name own_pn_com_example_isolint_isolint_bench_Change) hisR ?_
  intro p e s m args below meth c s₁ Bd hml0 hP hK
  obtain ⟨rfl, hZ, hh⟩ := hP
  have hx := Bd.exec
  have hby := Bd.bytes
  have hml : c.maxLocals = 3 := hml0
  have hown : s.vm.findClass "com/example/isolint/isolint/bench/Change" = some m.cls := findClass_of_methodNamed Bd.named
  have hnm := (name_of_methodNamed Bd.named Bd.method).1
  have X0 : Stand p l e ({ frames := 0, cells := 0, slots := 0, locals := 0 } : Room) s m #[(.ref (ad 0)), (.int x)] below meth c s₁ [] 0 0 := Stand.of_body Bd
  have e0 : s₁.heap = h0 := by rw [← hh, Bd.state]; rfl
  have N0 := Fr.nil n0
  have pre0 : ∀ t, Steps p.tables e below (s₁.setTop (mkF m 0 #[.val (.ref (ad 0)), .val (.int x), .unset] [])) t → Steps p.tables e below (s₁.setTop (entryFrame m #[(.ref (ad 0)), (.int x)] 3)) t := fun t k => castTop (own_ef_own_add_0n m) k
  obtain ⟨T1, X1, e1, st1⟩ := getF X0 hx hZ hown (host := "") (Or.inl (hw _ (List.mem_of_getElem? (i := 9) rfl))) Via.refl e0 (own_F_CHANGE_A_writesA W) (g := (mkF m 31 #[.val (.ref (ad 0)), .val (.int x), .val (.int (0 : Int32))] [(.ref (ad 0))])) rfl rfl (hb hby own_d_prog_11_method_7_code_31)
  have ch2 : ∀ t, Steps p.tables e below (T1.setTop (mkF m 34 #[.val (.ref (ad 0)), .val (.int x), .val (.int (0 : Int32))] [(.int (1 : Int32))])) t → Steps p.tables e below (s₁.setTop (entryFrame m #[(.ref (ad 0)), (.int x)] 3)) t := fun t k => pre0 t (by
      show Steps p.tables e below (s₁.setTop (mkF m 0 #[.val (.ref (ad 0)), .val (.int x), .unset] [])) t
      refine XS.iloadN X0.here hx rfl (hb hby own_d_prog_11_method_7_code_0) rfl ?_
      show Steps p.tables e below (s₁.setTop (mkF m 1 #[.val (.ref (ad 0)), .val (.int x), .unset] [(.int x)])) t
      refine XS.ifYes X0.here hx rfl (pc0 := 1) (pc' := 10) rfl (hb hby own_d_prog_11_method_7_code_1) rfl ((if0 _ _).trans (tlt h1).1) (by decide) (by decide) ?_
      show Steps p.tables e below (s₁.setTop (mkF m 10 #[.val (.ref (ad 0)), .val (.int x), .unset] [])) t
      refine XS.iconst X0.here hx rfl (hb hby own_d_prog_11_method_7_code_10) ?_
      show Steps p.tables e below (s₁.setTop (mkF m 11 #[.val (.ref (ad 0)), .val (.int x), .unset] [(.int (0 : Int32))])) t
      refine XS.istoreN X0.here hx rfl (hb hby own_d_prog_11_method_7_code_11) rfl (l' := #[.val (.ref (ad 0)), .val (.int x), .val (.int (0 : Int32))]) rfl ?_
      show Steps p.tables e below (s₁.setTop (mkF m 12 #[.val (.ref (ad 0)), .val (.int x), .val (.int (0 : Int32))] [])) t
      refine XS.goto X0.here hx rfl (pc0 := 12) (pc' := 30) rfl (hb hby own_d_prog_11_method_7_code_12) (by decide) (by decide) ?_
      show Steps p.tables e below (s₁.setTop (mkF m 30 #[.val (.ref (ad 0)), .val (.int x), .val (.int (0 : Int32))] [])) t
      refine XS.aloadN X0.here hx rfl (hb hby own_d_prog_11_method_7_code_30) rfl rfl ?_
      show Steps p.tables e below (s₁.setTop (mkF m 31 #[.val (.ref (ad 0)), .val (.int x), .val (.int (0 : Int32))] [(.ref (ad 0))])) t
      exact st1 t k)
  obtain ⟨T3, X3, e3, st3⟩ := getF X1 hx hZ hown (host := "") (Or.inl (hw _ (List.mem_of_getElem? (i := 11) rfl))) Via.refl e1 (own_F_CHANGE_A_writesB W) (g := (mkF m 38 #[.val (.ref (ad 0)), .val (.int x), .val (.int (0 : Int32))] [(.ref (ad 0))])) rfl rfl (hb hby own_d_prog_11_method_7_code_38)
  have ch4 : ∀ t, Steps p.tables e below (T3.setTop (mkF m 41 #[.val (.ref (ad 0)), .val (.int x), .val (.int (0 : Int32))] [(.int (0 : Int32))])) t → Steps p.tables e below (s₁.setTop (entryFrame m #[(.ref (ad 0)), (.int x)] 3)) t := fun t k => ch2 t (by
      show Steps p.tables e below (T1.setTop (mkF m 34 #[.val (.ref (ad 0)), .val (.int x), .val (.int (0 : Int32))] [(.int (1 : Int32))])) t
      refine XS.ifNo X1.here hx rfl (hb hby own_d_prog_11_method_7_code_34) rfl ((if0 _ _).trans (feq (by decide : ¬ (1 : Int32) = (0 : Int32))).1) ?_
      show Steps p.tables e below (T1.setTop (mkF m 37 #[.val (.ref (ad 0)), .val (.int x), .val (.int (0 : Int32))] [])) t
      refine XS.aloadN X1.here hx rfl (hb hby own_d_prog_11_method_7_code_37) rfl rfl ?_
      show Steps p.tables e below (T1.setTop (mkF m 38 #[.val (.ref (ad 0)), .val (.int x), .val (.int (0 : Int32))] [(.ref (ad 0))])) t
      exact st3 t k)
  have ch5 : ∀ t, Steps p.tables e below (T3.setTop (mkF m 51 #[.val (.ref (ad 0)), .val (.int x), .val (.int (0 : Int32))] [(.int (0 : Int32))])) t → Steps p.tables e below (s₁.setTop (entryFrame m #[(.ref (ad 0)), (.int x)] 3)) t := fun t k => ch4 t (by
      show Steps p.tables e below (T3.setTop (mkF m 41 #[.val (.ref (ad 0)), .val (.int x), .val (.int (0 : Int32))] [(.int (0 : Int32))])) t
      refine XS.ifYes X3.here hx rfl (pc0 := 41) (pc' := 50) rfl (hb hby own_d_prog_11_method_7_code_41) rfl ((if0 _ _).trans (teq (by decide : (0 : Int32) = (0 : Int32))).1) (by decide) (by decide) ?_
      show Steps p.tables e below (T3.setTop (mkF m 50 #[.val (.ref (ad 0)), .val (.int x), .val (.int (0 : Int32))] [])) t
      refine XS.iloadN X3.here hx rfl (hb hby own_d_prog_11_method_7_code_50) rfl ?_
      exact k)
  obtain ⟨fs, hr, hrun, hended, hW, hsame⟩ := X3.leave (v := some (.int (0 : Int32))) (fun h => by rw [Bd.returns] at h; cases h)
  refine ⟨_, _, ch5 _ ?_, hrun, hended, _, _, rfl, ?_, ⟨_, rfl⟩, hW, hsame.mono (by decide) (by decide)⟩
  · show Steps p.tables e below (T3.setTop (mkF m 51 #[.val (.ref (ad 0)), .val (.int x), .val (.int (0 : Int32))] [(.int (0 : Int32))])) _
    exact retI X3 hx Bd.returns (hb hby own_d_prog_11_method_7_code_51) hr
  · show QV (some (.int (0 : Int32))) h0 n0 _ T3.heap _
    rw [e3]
    exact ⟨rfl, N0, rfl⟩
theorem own_ef_own_add_0g (m : MethodId) {x0 : Addr} {x1 : Int32} : entryFrame m #[(.ref x0), (.int x1)] 3 = mkF m 0 #[.val (.ref x0), .val (.int x1), .unset] [] := by first | (simp [entryFrame, mkF, argsToLocals, Value.category, maxLocals]; done) | rfl
set_option maxRecDepth 65536 in
set_option maxHeartbeats 40000000 in
theorem own_add_0g (l : Launch) (Z : State) (a0 : Array Value) (hw : ∀ d ∈ tables_1, d.before a0 Z = true) (ws : List Jvm.Cond) (h0 : Heap) (n0 : Nat) (Z0 : n0 ≤ h0.size) (x : Int32) (h1 : ¬ x < (0 : Int32)) (h2 : (99 : Int32) < x) (ad : Nat → Addr) (W : OwnWd Z h0 ad) :
    MetFree l (⟨"com/example/isolint/isolint/bench/Change", "addedToEachValue", "(I)I"⟩ : MethodName) (head1 (Jvm.Cond.code (⟨"com/example/isolint/isolint/bench/Change", "addedToEachValue", "(I)I"⟩ : MethodName) prog_11_method_7_code 3 (some .int) :: ws) ({ frames := 0, cells := 0, slots := 0, locals := 0 } : Room)) (fun a U => a = #[(.ref (ad 0)), (.int x)] ∧ Z.Warmed39 U.vm ∧ U.heap = h0) (fun _ _ _ _ _ => True) (fun _ U o U' => ∃ v L, o = .returned v ∧ QV (some (.int (0 : Int32))) h0 n0 v U'.heap L ∧ FrameEnd U o U' L ({ frames := 0, cells := 0, slots := 0, locals := 0 } : Room).cells ({ frames := 0, cells := 0, slots := 0, locals := 0 } : Room).slots) := by
  refine MetFree.of_bodySF (plainFor_of_name own_pn_com_example_isolint_isolint_bench_Change) hisR ?_
  intro p e s m args below meth c s₁ Bd hml0 hP hK
  obtain ⟨rfl, hZ, hh⟩ := hP
  have hx := Bd.exec
  have hby := Bd.bytes
  have hml : c.maxLocals = 3 := hml0
  have hown : s.vm.findClass "com/example/isolint/isolint/bench/Change" = some m.cls := findClass_of_methodNamed Bd.named
  have hnm := (name_of_methodNamed Bd.named Bd.method).1
  have X0 : Stand p l e ({ frames := 0, cells := 0, slots := 0, locals := 0 } : Room) s m #[(.ref (ad 0)), (.int x)] below meth c s₁ [] 0 0 := Stand.of_body Bd
  have e0 : s₁.heap = h0 := by rw [← hh, Bd.state]; rfl
  have N0 := Fr.nil n0
  have pre0 : ∀ t, Steps p.tables e below (s₁.setTop (mkF m 0 #[.val (.ref (ad 0)), .val (.int x), .unset] [])) t → Steps p.tables e below (s₁.setTop (entryFrame m #[(.ref (ad 0)), (.int x)] 3)) t := fun t k => castTop (own_ef_own_add_0g m) k
  obtain ⟨T1, X1, e1, st1⟩ := getF X0 hx hZ hown (host := "") (Or.inl (hw _ (List.mem_of_getElem? (i := 9) rfl))) Via.refl e0 (own_F_CHANGE_A_writesA W) (g := (mkF m 31 #[.val (.ref (ad 0)), .val (.int x), .val (.int (0 : Int32))] [(.ref (ad 0))])) rfl rfl (hb hby own_d_prog_11_method_7_code_31)
  have ch2 : ∀ t, Steps p.tables e below (T1.setTop (mkF m 34 #[.val (.ref (ad 0)), .val (.int x), .val (.int (0 : Int32))] [(.int (1 : Int32))])) t → Steps p.tables e below (s₁.setTop (entryFrame m #[(.ref (ad 0)), (.int x)] 3)) t := fun t k => pre0 t (by
      show Steps p.tables e below (s₁.setTop (mkF m 0 #[.val (.ref (ad 0)), .val (.int x), .unset] [])) t
      refine XS.iloadN X0.here hx rfl (hb hby own_d_prog_11_method_7_code_0) rfl ?_
      show Steps p.tables e below (s₁.setTop (mkF m 1 #[.val (.ref (ad 0)), .val (.int x), .unset] [(.int x)])) t
      refine XS.ifNo X0.here hx rfl (hb hby own_d_prog_11_method_7_code_1) rfl ((if0 _ _).trans (flt h1).1) ?_
      show Steps p.tables e below (s₁.setTop (mkF m 4 #[.val (.ref (ad 0)), .val (.int x), .unset] [])) t
      refine XS.iloadN X0.here hx rfl (hb hby own_d_prog_11_method_7_code_4) rfl ?_
      show Steps p.tables e below (s₁.setTop (mkF m 5 #[.val (.ref (ad 0)), .val (.int x), .unset] [(.int x)])) t
      refine XS.bipush X0.here hx rfl (hb hby own_d_prog_11_method_7_code_5) ?_
      show Steps p.tables e below (s₁.setTop (mkF m 7 #[.val (.ref (ad 0)), .val (.int x), .unset] [(.int (99 : Int32)), (.int x)])) t
      refine XS.icmpNo X0.here hx rfl (hb hby own_d_prog_11_method_7_code_7) rfl (tlt h2).2.2.2 ?_
      show Steps p.tables e below (s₁.setTop (mkF m 10 #[.val (.ref (ad 0)), .val (.int x), .unset] [])) t
      refine XS.iconst X0.here hx rfl (hb hby own_d_prog_11_method_7_code_10) ?_
      show Steps p.tables e below (s₁.setTop (mkF m 11 #[.val (.ref (ad 0)), .val (.int x), .unset] [(.int (0 : Int32))])) t
      refine XS.istoreN X0.here hx rfl (hb hby own_d_prog_11_method_7_code_11) rfl (l' := #[.val (.ref (ad 0)), .val (.int x), .val (.int (0 : Int32))]) rfl ?_
      show Steps p.tables e below (s₁.setTop (mkF m 12 #[.val (.ref (ad 0)), .val (.int x), .val (.int (0 : Int32))] [])) t
      refine XS.goto X0.here hx rfl (pc0 := 12) (pc' := 30) rfl (hb hby own_d_prog_11_method_7_code_12) (by decide) (by decide) ?_
      show Steps p.tables e below (s₁.setTop (mkF m 30 #[.val (.ref (ad 0)), .val (.int x), .val (.int (0 : Int32))] [])) t
      refine XS.aloadN X0.here hx rfl (hb hby own_d_prog_11_method_7_code_30) rfl rfl ?_
      show Steps p.tables e below (s₁.setTop (mkF m 31 #[.val (.ref (ad 0)), .val (.int x), .val (.int (0 : Int32))] [(.ref (ad 0))])) t
      exact st1 t k)
  obtain ⟨T3, X3, e3, st3⟩ := getF X1 hx hZ hown (host := "") (Or.inl (hw _ (List.mem_of_getElem? (i := 11) rfl))) Via.refl e1 (own_F_CHANGE_A_writesB W) (g := (mkF m 38 #[.val (.ref (ad 0)), .val (.int x), .val (.int (0 : Int32))] [(.ref (ad 0))])) rfl rfl (hb hby own_d_prog_11_method_7_code_38)
  have ch4 : ∀ t, Steps p.tables e below (T3.setTop (mkF m 41 #[.val (.ref (ad 0)), .val (.int x), .val (.int (0 : Int32))] [(.int (0 : Int32))])) t → Steps p.tables e below (s₁.setTop (entryFrame m #[(.ref (ad 0)), (.int x)] 3)) t := fun t k => ch2 t (by
      show Steps p.tables e below (T1.setTop (mkF m 34 #[.val (.ref (ad 0)), .val (.int x), .val (.int (0 : Int32))] [(.int (1 : Int32))])) t
      refine XS.ifNo X1.here hx rfl (hb hby own_d_prog_11_method_7_code_34) rfl ((if0 _ _).trans (feq (by decide : ¬ (1 : Int32) = (0 : Int32))).1) ?_
      show Steps p.tables e below (T1.setTop (mkF m 37 #[.val (.ref (ad 0)), .val (.int x), .val (.int (0 : Int32))] [])) t
      refine XS.aloadN X1.here hx rfl (hb hby own_d_prog_11_method_7_code_37) rfl rfl ?_
      show Steps p.tables e below (T1.setTop (mkF m 38 #[.val (.ref (ad 0)), .val (.int x), .val (.int (0 : Int32))] [(.ref (ad 0))])) t
      exact st3 t k)
  have ch5 : ∀ t, Steps p.tables e below (T3.setTop (mkF m 51 #[.val (.ref (ad 0)), .val (.int x), .val (.int (0 : Int32))] [(.int (0 : Int32))])) t → Steps p.tables e below (s₁.setTop (entryFrame m #[(.ref (ad 0)), (.int x)] 3)) t := fun t k => ch4 t (by
      show Steps p.tables e below (T3.setTop (mkF m 41 #[.val (.ref (ad 0)), .val (.int x), .val (.int (0 : Int32))] [(.int (0 : Int32))])) t
      refine XS.ifYes X3.here hx rfl (pc0 := 41) (pc' := 50) rfl (hb hby own_d_prog_11_method_7_code_41) rfl ((if0 _ _).trans (teq (by decide : (0 : Int32) = (0 : Int32))).1) (by decide) (by decide) ?_
      show Steps p.tables e below (T3.setTop (mkF m 50 #[.val (.ref (ad 0)), .val (.int x), .val (.int (0 : Int32))] [])) t
      refine XS.iloadN X3.here hx rfl (hb hby own_d_prog_11_method_7_code_50) rfl ?_
      exact k)
  obtain ⟨fs, hr, hrun, hended, hW, hsame⟩ := X3.leave (v := some (.int (0 : Int32))) (fun h => by rw [Bd.returns] at h; cases h)
  refine ⟨_, _, ch5 _ ?_, hrun, hended, _, _, rfl, ?_, ⟨_, rfl⟩, hW, hsame.mono (by decide) (by decide)⟩
  · show Steps p.tables e below (T3.setTop (mkF m 51 #[.val (.ref (ad 0)), .val (.int x), .val (.int (0 : Int32))] [(.int (0 : Int32))])) _
    exact retI X3 hx Bd.returns (hb hby own_d_prog_11_method_7_code_51) hr
  · show QV (some (.int (0 : Int32))) h0 n0 _ T3.heap _
    rw [e3]
    exact ⟨rfl, N0, rfl⟩
theorem own_ef_own_add_0l (m : MethodId) {x0 : Addr} {x1 : Int32} : entryFrame m #[(.ref x0), (.int x1)] 3 = mkF m 0 #[.val (.ref x0), .val (.int x1), .unset] [] := by first | (simp [entryFrame, mkF, argsToLocals, Value.category, maxLocals]; done) | rfl
set_option maxRecDepth 65536 in
set_option maxHeartbeats 40000000 in
theorem own_add_0l (l : Launch) (Z : State) (a0 : Array Value) (hw : ∀ d ∈ tables_1, d.before a0 Z = true) (ws : List Jvm.Cond) (h0 : Heap) (n0 : Nat) (Z0 : n0 ≤ h0.size) (x : Int32) (h1 : ¬ x < (0 : Int32)) (h2 : ¬ (99 : Int32) < x) (h3 : x < (50 : Int32)) (ad : Nat → Addr) (W : OwnWd Z h0 ad) :
    MetFree l (⟨"com/example/isolint/isolint/bench/Change", "addedToEachValue", "(I)I"⟩ : MethodName) (head1 (Jvm.Cond.code (⟨"com/example/isolint/isolint/bench/Change", "addedToEachValue", "(I)I"⟩ : MethodName) prog_11_method_7_code 3 (some .int) :: ws) ({ frames := 0, cells := 0, slots := 0, locals := 0 } : Room)) (fun a U => a = #[(.ref (ad 0)), (.int x)] ∧ Z.Warmed39 U.vm ∧ U.heap = h0) (fun _ _ _ _ _ => True) (fun _ U o U' => ∃ v L, o = .returned v ∧ QV (some (.int (50 : Int32))) h0 n0 v U'.heap L ∧ FrameEnd U o U' L ({ frames := 0, cells := 0, slots := 0, locals := 0 } : Room).cells ({ frames := 0, cells := 0, slots := 0, locals := 0 } : Room).slots) := by
  refine MetFree.of_bodySF (plainFor_of_name own_pn_com_example_isolint_isolint_bench_Change) hisR ?_
  intro p e s m args below meth c s₁ Bd hml0 hP hK
  obtain ⟨rfl, hZ, hh⟩ := hP
  have hx := Bd.exec
  have hby := Bd.bytes
  have hml : c.maxLocals = 3 := hml0
  have hown : s.vm.findClass "com/example/isolint/isolint/bench/Change" = some m.cls := findClass_of_methodNamed Bd.named
  have hnm := (name_of_methodNamed Bd.named Bd.method).1
  have X0 : Stand p l e ({ frames := 0, cells := 0, slots := 0, locals := 0 } : Room) s m #[(.ref (ad 0)), (.int x)] below meth c s₁ [] 0 0 := Stand.of_body Bd
  have e0 : s₁.heap = h0 := by rw [← hh, Bd.state]; rfl
  have N0 := Fr.nil n0
  have pre0 : ∀ t, Steps p.tables e below (s₁.setTop (mkF m 0 #[.val (.ref (ad 0)), .val (.int x), .unset] [])) t → Steps p.tables e below (s₁.setTop (entryFrame m #[(.ref (ad 0)), (.int x)] 3)) t := fun t k => castTop (own_ef_own_add_0l m) k
  obtain ⟨T1, X1, e1, st1⟩ := getF X0 hx hZ hown (host := "") (Or.inl (hw _ (List.mem_of_getElem? (i := 9) rfl))) Via.refl e0 (own_F_CHANGE_A_writesA W) (g := (mkF m 31 #[.val (.ref (ad 0)), .val (.int x), .val (.int (50 : Int32))] [(.ref (ad 0))])) rfl rfl (hb hby own_d_prog_11_method_7_code_31)
  have ch2 : ∀ t, Steps p.tables e below (T1.setTop (mkF m 34 #[.val (.ref (ad 0)), .val (.int x), .val (.int (50 : Int32))] [(.int (1 : Int32))])) t → Steps p.tables e below (s₁.setTop (entryFrame m #[(.ref (ad 0)), (.int x)] 3)) t := fun t k => pre0 t (by
      show Steps p.tables e below (s₁.setTop (mkF m 0 #[.val (.ref (ad 0)), .val (.int x), .unset] [])) t
      refine XS.iloadN X0.here hx rfl (hb hby own_d_prog_11_method_7_code_0) rfl ?_
      show Steps p.tables e below (s₁.setTop (mkF m 1 #[.val (.ref (ad 0)), .val (.int x), .unset] [(.int x)])) t
      refine XS.ifNo X0.here hx rfl (hb hby own_d_prog_11_method_7_code_1) rfl ((if0 _ _).trans (flt h1).1) ?_
      show Steps p.tables e below (s₁.setTop (mkF m 4 #[.val (.ref (ad 0)), .val (.int x), .unset] [])) t
      refine XS.iloadN X0.here hx rfl (hb hby own_d_prog_11_method_7_code_4) rfl ?_
      show Steps p.tables e below (s₁.setTop (mkF m 5 #[.val (.ref (ad 0)), .val (.int x), .unset] [(.int x)])) t
      refine XS.bipush X0.here hx rfl (hb hby own_d_prog_11_method_7_code_5) ?_
      show Steps p.tables e below (s₁.setTop (mkF m 7 #[.val (.ref (ad 0)), .val (.int x), .unset] [(.int (99 : Int32)), (.int x)])) t
      refine XS.icmpYes X0.here hx rfl (pc0 := 7) (pc' := 15) rfl (hb hby own_d_prog_11_method_7_code_7) rfl (flt h2).2.2.2 (by decide) (by decide) ?_
      show Steps p.tables e below (s₁.setTop (mkF m 15 #[.val (.ref (ad 0)), .val (.int x), .unset] [])) t
      refine XS.iloadN X0.here hx rfl (hb hby own_d_prog_11_method_7_code_15) rfl ?_
      show Steps p.tables e below (s₁.setTop (mkF m 16 #[.val (.ref (ad 0)), .val (.int x), .unset] [(.int x)])) t
      refine XS.bipush X0.here hx rfl (hb hby own_d_prog_11_method_7_code_16) ?_
      show Steps p.tables e below (s₁.setTop (mkF m 18 #[.val (.ref (ad 0)), .val (.int x), .unset] [(.int (50 : Int32)), (.int x)])) t
      refine XS.icmpNo X0.here hx rfl (hb hby own_d_prog_11_method_7_code_18) rfl (tlt h3).2.1 ?_
      show Steps p.tables e below (s₁.setTop (mkF m 21 #[.val (.ref (ad 0)), .val (.int x), .unset] [])) t
      refine XS.bipush X0.here hx rfl (hb hby own_d_prog_11_method_7_code_21) ?_
      show Steps p.tables e below (s₁.setTop (mkF m 23 #[.val (.ref (ad 0)), .val (.int x), .unset] [(.int (50 : Int32))])) t
      refine XS.istoreN X0.here hx rfl (hb hby own_d_prog_11_method_7_code_23) rfl (l' := #[.val (.ref (ad 0)), .val (.int x), .val (.int (50 : Int32))]) rfl ?_
      show Steps p.tables e below (s₁.setTop (mkF m 24 #[.val (.ref (ad 0)), .val (.int x), .val (.int (50 : Int32))] [])) t
      refine XS.goto X0.here hx rfl (pc0 := 24) (pc' := 30) rfl (hb hby own_d_prog_11_method_7_code_24) (by decide) (by decide) ?_
      show Steps p.tables e below (s₁.setTop (mkF m 30 #[.val (.ref (ad 0)), .val (.int x), .val (.int (50 : Int32))] [])) t
      refine XS.aloadN X0.here hx rfl (hb hby own_d_prog_11_method_7_code_30) rfl rfl ?_
      show Steps p.tables e below (s₁.setTop (mkF m 31 #[.val (.ref (ad 0)), .val (.int x), .val (.int (50 : Int32))] [(.ref (ad 0))])) t
      exact st1 t k)
  obtain ⟨T3, X3, e3, st3⟩ := getF X1 hx hZ hown (host := "") (Or.inl (hw _ (List.mem_of_getElem? (i := 11) rfl))) Via.refl e1 (own_F_CHANGE_A_writesB W) (g := (mkF m 38 #[.val (.ref (ad 0)), .val (.int x), .val (.int (50 : Int32))] [(.ref (ad 0))])) rfl rfl (hb hby own_d_prog_11_method_7_code_38)
  have ch4 : ∀ t, Steps p.tables e below (T3.setTop (mkF m 41 #[.val (.ref (ad 0)), .val (.int x), .val (.int (50 : Int32))] [(.int (0 : Int32))])) t → Steps p.tables e below (s₁.setTop (entryFrame m #[(.ref (ad 0)), (.int x)] 3)) t := fun t k => ch2 t (by
      show Steps p.tables e below (T1.setTop (mkF m 34 #[.val (.ref (ad 0)), .val (.int x), .val (.int (50 : Int32))] [(.int (1 : Int32))])) t
      refine XS.ifNo X1.here hx rfl (hb hby own_d_prog_11_method_7_code_34) rfl ((if0 _ _).trans (feq (by decide : ¬ (1 : Int32) = (0 : Int32))).1) ?_
      show Steps p.tables e below (T1.setTop (mkF m 37 #[.val (.ref (ad 0)), .val (.int x), .val (.int (50 : Int32))] [])) t
      refine XS.aloadN X1.here hx rfl (hb hby own_d_prog_11_method_7_code_37) rfl rfl ?_
      show Steps p.tables e below (T1.setTop (mkF m 38 #[.val (.ref (ad 0)), .val (.int x), .val (.int (50 : Int32))] [(.ref (ad 0))])) t
      exact st3 t k)
  have ch5 : ∀ t, Steps p.tables e below (T3.setTop (mkF m 51 #[.val (.ref (ad 0)), .val (.int x), .val (.int (50 : Int32))] [(.int (50 : Int32))])) t → Steps p.tables e below (s₁.setTop (entryFrame m #[(.ref (ad 0)), (.int x)] 3)) t := fun t k => ch4 t (by
      show Steps p.tables e below (T3.setTop (mkF m 41 #[.val (.ref (ad 0)), .val (.int x), .val (.int (50 : Int32))] [(.int (0 : Int32))])) t
      refine XS.ifYes X3.here hx rfl (pc0 := 41) (pc' := 50) rfl (hb hby own_d_prog_11_method_7_code_41) rfl ((if0 _ _).trans (teq (by decide : (0 : Int32) = (0 : Int32))).1) (by decide) (by decide) ?_
      show Steps p.tables e below (T3.setTop (mkF m 50 #[.val (.ref (ad 0)), .val (.int x), .val (.int (50 : Int32))] [])) t
      refine XS.iloadN X3.here hx rfl (hb hby own_d_prog_11_method_7_code_50) rfl ?_
      exact k)
  obtain ⟨fs, hr, hrun, hended, hW, hsame⟩ := X3.leave (v := some (.int (50 : Int32))) (fun h => by rw [Bd.returns] at h; cases h)
  refine ⟨_, _, ch5 _ ?_, hrun, hended, _, _, rfl, ?_, ⟨_, rfl⟩, hW, hsame.mono (by decide) (by decide)⟩
  · show Steps p.tables e below (T3.setTop (mkF m 51 #[.val (.ref (ad 0)), .val (.int x), .val (.int (50 : Int32))] [(.int (50 : Int32))])) _
    exact retI X3 hx Bd.returns (hb hby own_d_prog_11_method_7_code_51) hr
  · show QV (some (.int (50 : Int32))) h0 n0 _ T3.heap _
    rw [e3]
    exact ⟨rfl, N0, rfl⟩
theorem own_ef_own_add_0h (m : MethodId) {x0 : Addr} {x1 : Int32} : entryFrame m #[(.ref x0), (.int x1)] 3 = mkF m 0 #[.val (.ref x0), .val (.int x1), .unset] [] := by first | (simp [entryFrame, mkF, argsToLocals, Value.category, maxLocals]; done) | rfl
set_option maxRecDepth 65536 in
set_option maxHeartbeats 40000000 in
theorem own_add_0h (l : Launch) (Z : State) (a0 : Array Value) (hw : ∀ d ∈ tables_1, d.before a0 Z = true) (ws : List Jvm.Cond) (h0 : Heap) (n0 : Nat) (Z0 : n0 ≤ h0.size) (x : Int32) (h1 : ¬ x < (0 : Int32)) (h2 : ¬ (99 : Int32) < x) (h3 : ¬ x < (50 : Int32)) (ad : Nat → Addr) (W : OwnWd Z h0 ad) :
    MetFree l (⟨"com/example/isolint/isolint/bench/Change", "addedToEachValue", "(I)I"⟩ : MethodName) (head1 (Jvm.Cond.code (⟨"com/example/isolint/isolint/bench/Change", "addedToEachValue", "(I)I"⟩ : MethodName) prog_11_method_7_code 3 (some .int) :: ws) ({ frames := 0, cells := 0, slots := 0, locals := 0 } : Room)) (fun a U => a = #[(.ref (ad 0)), (.int x)] ∧ Z.Warmed39 U.vm ∧ U.heap = h0) (fun _ _ _ _ _ => True) (fun _ U o U' => ∃ v L, o = .returned v ∧ QV (some (.int (-50 : Int32))) h0 n0 v U'.heap L ∧ FrameEnd U o U' L ({ frames := 0, cells := 0, slots := 0, locals := 0 } : Room).cells ({ frames := 0, cells := 0, slots := 0, locals := 0 } : Room).slots) := by
  refine MetFree.of_bodySF (plainFor_of_name own_pn_com_example_isolint_isolint_bench_Change) hisR ?_
  intro p e s m args below meth c s₁ Bd hml0 hP hK
  obtain ⟨rfl, hZ, hh⟩ := hP
  have hx := Bd.exec
  have hby := Bd.bytes
  have hml : c.maxLocals = 3 := hml0
  have hown : s.vm.findClass "com/example/isolint/isolint/bench/Change" = some m.cls := findClass_of_methodNamed Bd.named
  have hnm := (name_of_methodNamed Bd.named Bd.method).1
  have X0 : Stand p l e ({ frames := 0, cells := 0, slots := 0, locals := 0 } : Room) s m #[(.ref (ad 0)), (.int x)] below meth c s₁ [] 0 0 := Stand.of_body Bd
  have e0 : s₁.heap = h0 := by rw [← hh, Bd.state]; rfl
  have N0 := Fr.nil n0
  have pre0 : ∀ t, Steps p.tables e below (s₁.setTop (mkF m 0 #[.val (.ref (ad 0)), .val (.int x), .unset] [])) t → Steps p.tables e below (s₁.setTop (entryFrame m #[(.ref (ad 0)), (.int x)] 3)) t := fun t k => castTop (own_ef_own_add_0h m) k
  obtain ⟨T1, X1, e1, st1⟩ := getF X0 hx hZ hown (host := "") (Or.inl (hw _ (List.mem_of_getElem? (i := 9) rfl))) Via.refl e0 (own_F_CHANGE_A_writesA W) (g := (mkF m 31 #[.val (.ref (ad 0)), .val (.int x), .val (.int (-50 : Int32))] [(.ref (ad 0))])) rfl rfl (hb hby own_d_prog_11_method_7_code_31)
  have ch2 : ∀ t, Steps p.tables e below (T1.setTop (mkF m 34 #[.val (.ref (ad 0)), .val (.int x), .val (.int (-50 : Int32))] [(.int (1 : Int32))])) t → Steps p.tables e below (s₁.setTop (entryFrame m #[(.ref (ad 0)), (.int x)] 3)) t := fun t k => pre0 t (by
      show Steps p.tables e below (s₁.setTop (mkF m 0 #[.val (.ref (ad 0)), .val (.int x), .unset] [])) t
      refine XS.iloadN X0.here hx rfl (hb hby own_d_prog_11_method_7_code_0) rfl ?_
      show Steps p.tables e below (s₁.setTop (mkF m 1 #[.val (.ref (ad 0)), .val (.int x), .unset] [(.int x)])) t
      refine XS.ifNo X0.here hx rfl (hb hby own_d_prog_11_method_7_code_1) rfl ((if0 _ _).trans (flt h1).1) ?_
      show Steps p.tables e below (s₁.setTop (mkF m 4 #[.val (.ref (ad 0)), .val (.int x), .unset] [])) t
      refine XS.iloadN X0.here hx rfl (hb hby own_d_prog_11_method_7_code_4) rfl ?_
      show Steps p.tables e below (s₁.setTop (mkF m 5 #[.val (.ref (ad 0)), .val (.int x), .unset] [(.int x)])) t
      refine XS.bipush X0.here hx rfl (hb hby own_d_prog_11_method_7_code_5) ?_
      show Steps p.tables e below (s₁.setTop (mkF m 7 #[.val (.ref (ad 0)), .val (.int x), .unset] [(.int (99 : Int32)), (.int x)])) t
      refine XS.icmpYes X0.here hx rfl (pc0 := 7) (pc' := 15) rfl (hb hby own_d_prog_11_method_7_code_7) rfl (flt h2).2.2.2 (by decide) (by decide) ?_
      show Steps p.tables e below (s₁.setTop (mkF m 15 #[.val (.ref (ad 0)), .val (.int x), .unset] [])) t
      refine XS.iloadN X0.here hx rfl (hb hby own_d_prog_11_method_7_code_15) rfl ?_
      show Steps p.tables e below (s₁.setTop (mkF m 16 #[.val (.ref (ad 0)), .val (.int x), .unset] [(.int x)])) t
      refine XS.bipush X0.here hx rfl (hb hby own_d_prog_11_method_7_code_16) ?_
      show Steps p.tables e below (s₁.setTop (mkF m 18 #[.val (.ref (ad 0)), .val (.int x), .unset] [(.int (50 : Int32)), (.int x)])) t
      refine XS.icmpYes X0.here hx rfl (pc0 := 18) (pc' := 27) rfl (hb hby own_d_prog_11_method_7_code_18) rfl (flt h3).2.1 (by decide) (by decide) ?_
      show Steps p.tables e below (s₁.setTop (mkF m 27 #[.val (.ref (ad 0)), .val (.int x), .unset] [])) t
      refine XS.bipush X0.here hx rfl (hb hby own_d_prog_11_method_7_code_27) ?_
      show Steps p.tables e below (s₁.setTop (mkF m 29 #[.val (.ref (ad 0)), .val (.int x), .unset] [(.int (-50 : Int32))])) t
      refine XS.istoreN X0.here hx rfl (hb hby own_d_prog_11_method_7_code_29) rfl (l' := #[.val (.ref (ad 0)), .val (.int x), .val (.int (-50 : Int32))]) rfl ?_
      show Steps p.tables e below (s₁.setTop (mkF m 30 #[.val (.ref (ad 0)), .val (.int x), .val (.int (-50 : Int32))] [])) t
      refine XS.aloadN X0.here hx rfl (hb hby own_d_prog_11_method_7_code_30) rfl rfl ?_
      show Steps p.tables e below (s₁.setTop (mkF m 31 #[.val (.ref (ad 0)), .val (.int x), .val (.int (-50 : Int32))] [(.ref (ad 0))])) t
      exact st1 t k)
  obtain ⟨T3, X3, e3, st3⟩ := getF X1 hx hZ hown (host := "") (Or.inl (hw _ (List.mem_of_getElem? (i := 11) rfl))) Via.refl e1 (own_F_CHANGE_A_writesB W) (g := (mkF m 38 #[.val (.ref (ad 0)), .val (.int x), .val (.int (-50 : Int32))] [(.ref (ad 0))])) rfl rfl (hb hby own_d_prog_11_method_7_code_38)
  have ch4 : ∀ t, Steps p.tables e below (T3.setTop (mkF m 41 #[.val (.ref (ad 0)), .val (.int x), .val (.int (-50 : Int32))] [(.int (0 : Int32))])) t → Steps p.tables e below (s₁.setTop (entryFrame m #[(.ref (ad 0)), (.int x)] 3)) t := fun t k => ch2 t (by
      show Steps p.tables e below (T1.setTop (mkF m 34 #[.val (.ref (ad 0)), .val (.int x), .val (.int (-50 : Int32))] [(.int (1 : Int32))])) t
      refine XS.ifNo X1.here hx rfl (hb hby own_d_prog_11_method_7_code_34) rfl ((if0 _ _).trans (feq (by decide : ¬ (1 : Int32) = (0 : Int32))).1) ?_
      show Steps p.tables e below (T1.setTop (mkF m 37 #[.val (.ref (ad 0)), .val (.int x), .val (.int (-50 : Int32))] [])) t
      refine XS.aloadN X1.here hx rfl (hb hby own_d_prog_11_method_7_code_37) rfl rfl ?_
      show Steps p.tables e below (T1.setTop (mkF m 38 #[.val (.ref (ad 0)), .val (.int x), .val (.int (-50 : Int32))] [(.ref (ad 0))])) t
      exact st3 t k)
  have ch5 : ∀ t, Steps p.tables e below (T3.setTop (mkF m 51 #[.val (.ref (ad 0)), .val (.int x), .val (.int (-50 : Int32))] [(.int (-50 : Int32))])) t → Steps p.tables e below (s₁.setTop (entryFrame m #[(.ref (ad 0)), (.int x)] 3)) t := fun t k => ch4 t (by
      show Steps p.tables e below (T3.setTop (mkF m 41 #[.val (.ref (ad 0)), .val (.int x), .val (.int (-50 : Int32))] [(.int (0 : Int32))])) t
      refine XS.ifYes X3.here hx rfl (pc0 := 41) (pc' := 50) rfl (hb hby own_d_prog_11_method_7_code_41) rfl ((if0 _ _).trans (teq (by decide : (0 : Int32) = (0 : Int32))).1) (by decide) (by decide) ?_
      show Steps p.tables e below (T3.setTop (mkF m 50 #[.val (.ref (ad 0)), .val (.int x), .val (.int (-50 : Int32))] [])) t
      refine XS.iloadN X3.here hx rfl (hb hby own_d_prog_11_method_7_code_50) rfl ?_
      exact k)
  obtain ⟨fs, hr, hrun, hended, hW, hsame⟩ := X3.leave (v := some (.int (-50 : Int32))) (fun h => by rw [Bd.returns] at h; cases h)
  refine ⟨_, _, ch5 _ ?_, hrun, hended, _, _, rfl, ?_, ⟨_, rfl⟩, hW, hsame.mono (by decide) (by decide)⟩
  · show Steps p.tables e below (T3.setTop (mkF m 51 #[.val (.ref (ad 0)), .val (.int x), .val (.int (-50 : Int32))] [(.int (-50 : Int32))])) _
    exact retI X3 hx Bd.returns (hb hby own_d_prog_11_method_7_code_51) hr
  · show QV (some (.int (-50 : Int32))) h0 n0 _ T3.heap _
    rw [e3]
    exact ⟨rfl, N0, rfl⟩
theorem own_ef_own_law_00n (m : MethodId) {x0 : Int32} {x1 : Int32} {x2 : Int32} : entryFrame m #[(.int x0), (.int x1), (.int x2)] maxLocals = mkF m 0 #[.val (.int x0), .val (.int x1), .val (.int x2), .unset, .unset, .unset, .unset, .unset, .unset, .unset] [] := by first | (simp [entryFrame, mkF, argsToLocals, Value.category, maxLocals]; done) | rfl
set_option maxRecDepth 65536 in
set_option maxHeartbeats 40000000 in
theorem own_law_00n (l : Launch) (Z : State) (a0 : Array Value) (hw : ∀ d ∈ tables_1, d.before a0 Z = true) (ws : List Jvm.Cond) (h0 : Heap) (n0 : Nat) (Z0 : n0 ≤ h0.size) (p1 p2 p3 : Int32) (hk : (p1 &&& (2147483647 : Int32)) % (3 : Int32) = (0 : Int32)) (hm : p3 &&& (1 : Int32) = (0 : Int32)) (h1 : (p2 % (128 : Int32)) < (0 : Int32)) (ad : Nat → Addr) (W : OwnWd Z h0 ad) :
    MetFree l x (head1 (Jvm.Cond.code x code maxLocals ret :: ws) room_1) (fun a U => a = #[(.int p1), (.int p2), (.int p3)] ∧ Z.Warmed39 U.vm ∧ U.heap = h0) (fun _ _ _ _ _ => True) (fun _ U o U' => ∃ v L, o = .returned v ∧ QN (some (.int (1 : Int32))) n0 v U'.heap L ∧ FrameEnd U o U' L room_1.cells room_1.slots) := by
  refine MetFree.of_bodySF (plainFor_of_name own_pn_com_example_isolint_isolint_bench_ChangeAddedToEachValuePinLaw) hisR ?_
  intro p e s m args below meth c s₁ Bd hml0 hP hK
  obtain ⟨rfl, hZ, hh⟩ := hP
  have hx := Bd.exec
  have hby := Bd.bytes
  have hml : c.maxLocals = 10 := hml0
  have hown : s.vm.findClass "com/example/isolint/isolint/bench/ChangeAddedToEachValuePinLaw" = some m.cls := findClass_of_methodNamed Bd.named
  have hnm := (name_of_methodNamed Bd.named Bd.method).1
  have X0 : Stand p l e room_1 s m #[(.int p1), (.int p2), (.int p3)] below meth c s₁ [] 0 0 := Stand.of_body Bd
  have e0 : s₁.heap = h0 := by rw [← hh, Bd.state]; rfl
  have N0 := Fr.nil n0
  have pre0 : ∀ t, Steps p.tables e below (s₁.setTop (mkF m 0 #[.val (.int p1), .val (.int p2), .val (.int p3), .unset, .unset, .unset, .unset, .unset, .unset, .unset] [])) t → Steps p.tables e below (s₁.setTop (entryFrame m #[(.int p1), (.int p2), (.int p3)] maxLocals)) t := fun t k => castTop (own_ef_own_law_00n m) k
  obtain ⟨T1, X1, e1, st1⟩ := getS2 X0 hx hZ hown (host := "") (Or.inl (hw _ (List.mem_of_getElem? (i := 1) rfl))) Via.refl e0 (own_S_CHANGE_A W) (g := (mkF m 11 #[.val (.int p1), .val (.int p2), .val (.int p3), .val (.int (0 : Int32)), .unset, .unset, .unset, .unset, .unset, .unset] [])) rfl (hb hby at_11)
  have ch2 : ∀ t, Steps p.tables e below (T1.setTop (mkF m 14 #[.val (.int p1), .val (.int p2), .val (.int p3), .val (.int (0 : Int32)), .unset, .unset, .unset, .unset, .unset, .unset] [(.ref (ad 0))])) t → Steps p.tables e below (s₁.setTop (entryFrame m #[(.int p1), (.int p2), (.int p3)] maxLocals)) t := fun t k => pre0 t (by
      show Steps p.tables e below (s₁.setTop (mkF m 0 #[.val (.int p1), .val (.int p2), .val (.int p3), .unset, .unset, .unset, .unset, .unset, .unset, .unset] [])) t
      refine XS.iloadN X0.here hx rfl (hb hby at_0) rfl ?_
      show Steps p.tables e below (s₁.setTop (mkF m 1 #[.val (.int p1), .val (.int p2), .val (.int p3), .unset, .unset, .unset, .unset, .unset, .unset, .unset] [(.int p1)])) t
      refine X0.ldcInt hx hown (mvT hZ (hw _ (List.mem_of_getElem? (i := 0) rfl))) (g := (mkF m 1 #[.val (.int p1), .val (.int p2), .val (.int p3), .unset, .unset, .unset, .unset, .unset, .unset, .unset] [(.int p1)])) rfl (hb hby at_1) _ ?_
      show Steps p.tables e below (s₁.setTop (mkF m 3 #[.val (.int p1), .val (.int p2), .val (.int p3), .unset, .unset, .unset, .unset, .unset, .unset, .unset] [(.int (2147483647 : Int32)), (.int p1)])) t
      refine XS.iand X0.here hx rfl (hb hby at_3) rfl ?_
      show Steps p.tables e below (s₁.setTop (mkF m 4 #[.val (.int p1), .val (.int p2), .val (.int p3), .unset, .unset, .unset, .unset, .unset, .unset, .unset] [(.int (p1 &&& (2147483647 : Int32)))])) t
      refine XS.iconst X0.here hx rfl (hb hby at_4) ?_
      show Steps p.tables e below (s₁.setTop (mkF m 5 #[.val (.int p1), .val (.int p2), .val (.int p3), .unset, .unset, .unset, .unset, .unset, .unset, .unset] [(.int (3 : Int32)), (.int (p1 &&& (2147483647 : Int32)))])) t
      refine Jvm.RoadKit.iremM (g := (mkF m 5 #[.val (.int p1), .val (.int p2), .val (.int p3), .unset, .unset, .unset, .unset, .unset, .unset, .unset] [(.int (3 : Int32)), (.int (p1 &&& (2147483647 : Int32)))])) X0 hx rfl (hb hby at_5) rfl (by decide) ?_
      rw [hk]
      show Steps p.tables e below (s₁.setTop (mkF m 6 #[.val (.int p1), .val (.int p2), .val (.int p3), .unset, .unset, .unset, .unset, .unset, .unset, .unset] [(.int (0 : Int32))])) t
      refine XS.istoreN X0.here hx rfl (hb hby at_6) rfl (l' := #[.val (.int p1), .val (.int p2), .val (.int p3), .val (.int (0 : Int32)), .unset, .unset, .unset, .unset, .unset, .unset]) rfl ?_
      show Steps p.tables e below (s₁.setTop (mkF m 7 #[.val (.int p1), .val (.int p2), .val (.int p3), .val (.int (0 : Int32)), .unset, .unset, .unset, .unset, .unset, .unset] [])) t
      refine XS.iloadN X0.here hx rfl (hb hby at_7) rfl ?_
      show Steps p.tables e below (s₁.setTop (mkF m 8 #[.val (.int p1), .val (.int p2), .val (.int p3), .val (.int (0 : Int32)), .unset, .unset, .unset, .unset, .unset, .unset] [(.int (0 : Int32))])) t
      refine XS.ifNo X0.here hx rfl (hb hby at_8) rfl ((if0 _ _).trans (teq (by decide : (0 : Int32) = (0 : Int32))).2) ?_
      show Steps p.tables e below (s₁.setTop (mkF m 11 #[.val (.int p1), .val (.int p2), .val (.int p3), .val (.int (0 : Int32)), .unset, .unset, .unset, .unset, .unset, .unset] [])) t
      exact st1 t k)
  obtain ⟨cq3, kq3, qa3, qb3, qc3⟩ := isOf hZ e1 (own_E_CHANGE_A W)
  obtain ⟨vv4, _, ⟨T4, L4, kk4, nn4⟩, -, X4, ⟨Lc4, hQ4, l4, y4, z4⟩, st4⟩ := X1.virtualBack hx (y := (⟨"com/example/isolint/isolint/bench/Change", "addedToEachValue", "(I)I"⟩ : MethodName)) (z := (⟨"com/example/isolint/isolint/bench/Change", "addedToEachValue", "(I)I"⟩ : MethodName)) hown (mvT hZ (hw _ (List.mem_of_getElem? (i := 4) rfl))) (mvT hZ (hw _ (List.mem_of_getElem? (i := 5) rfl))) (notFace_of_selects (args := #[]) (mvT hZ (hw _ (List.mem_of_getElem? (i := 7) rfl)))) (mvT hZ (hw _ (List.mem_of_getElem? (i := 7) rfl))) (mvT hZ (hw _ (List.mem_of_getElem? (i := 6) rfl))) (by decide) (backOf (W := 0) (own_add_0n l Z a0 hw [] h0 n0 Z0  (p2 % (128 : Int32)) h1 ad W) hZ (hw _ (List.mem_of_getElem? (i := 8) rfl)) (hw _ (List.mem_of_getElem? (i := 2) rfl)) (by decide) (by decide)) qa3 qc3 (g := (mkF m 67 #[.val (.int p1), .val (.int p2), .val (.int p3), .val (.int (0 : Int32)), .val (.ref (ad 0)), .val (.int (1 : Int32)), .val (.int (p2 % (128 : Int32))), .unset, .unset, .unset] [(.int (p2 % (128 : Int32))), (.ref (ad 0))])) rfl (by rw [hml]; rfl) (Steps.refl _) (argsL := [(.int (p2 % (128 : Int32)))]) (rest := []) (lenOf own_pd__I_I rfl) rfl (by show 2 * 0 + _ ≤ _; exact Nat.le_of_eq rfl) (hb hby at_67) (fun _ _ => ⟨rfl, e1, (by decide : 0 + 0 ≤ _), (by decide : 0 + 0 ≤ _)⟩)
  dsimp only [Pt.U, Pt.locs, Pt.cells, Pt.slots] at X4 l4 y4 z4 st4 hQ4
  subst l4 y4 z4
  obtain ⟨rfl, Nq4, e4⟩ := hQ4
  have N4 := Fr.app N0 Nq4
  have ch5 : ∀ t, Steps p.tables e below (T4.setTop (mkF m 70 #[.val (.int p1), .val (.int p2), .val (.int p3), .val (.int (0 : Int32)), .val (.ref (ad 0)), .val (.int (1 : Int32)), .val (.int (p2 % (128 : Int32))), .unset, .unset, .unset] [(.int (0 : Int32))])) t → Steps p.tables e below (s₁.setTop (entryFrame m #[(.int p1), (.int p2), (.int p3)] maxLocals)) t := fun t k => ch2 t (by
      show Steps p.tables e below (T1.setTop (mkF m 14 #[.val (.int p1), .val (.int p2), .val (.int p3), .val (.int (0 : Int32)), .unset, .unset, .unset, .unset, .unset, .unset] [(.ref (ad 0))])) t
      refine XS.astore X1.here hx rfl (hb hby at_14) rfl rfl (l' := #[.val (.int p1), .val (.int p2), .val (.int p3), .val (.int (0 : Int32)), .val (.ref (ad 0)), .unset, .unset, .unset, .unset, .unset]) rfl ?_
      show Steps p.tables e below (T1.setTop (mkF m 16 #[.val (.int p1), .val (.int p2), .val (.int p3), .val (.int (0 : Int32)), .val (.ref (ad 0)), .unset, .unset, .unset, .unset, .unset] [])) t
      refine XS.iconst X1.here hx rfl (hb hby at_16) ?_
      show Steps p.tables e below (T1.setTop (mkF m 17 #[.val (.int p1), .val (.int p2), .val (.int p3), .val (.int (0 : Int32)), .val (.ref (ad 0)), .unset, .unset, .unset, .unset, .unset] [(.int (1 : Int32))])) t
      refine XS.istore X1.here hx rfl (hb hby at_17) rfl (l' := #[.val (.int p1), .val (.int p2), .val (.int p3), .val (.int (0 : Int32)), .val (.ref (ad 0)), .val (.int (1 : Int32)), .unset, .unset, .unset, .unset]) rfl ?_
      show Steps p.tables e below (T1.setTop (mkF m 19 #[.val (.int p1), .val (.int p2), .val (.int p3), .val (.int (0 : Int32)), .val (.ref (ad 0)), .val (.int (1 : Int32)), .unset, .unset, .unset, .unset] [])) t
      refine XS.goto X1.here hx rfl (pc0 := 19) (pc' := 46) rfl (hb hby at_19) (by decide) (by decide) ?_
      show Steps p.tables e below (T1.setTop (mkF m 46 #[.val (.int p1), .val (.int p2), .val (.int p3), .val (.int (0 : Int32)), .val (.ref (ad 0)), .val (.int (1 : Int32)), .unset, .unset, .unset, .unset] [])) t
      refine XS.iloadN X1.here hx rfl (hb hby at_46) rfl ?_
      show Steps p.tables e below (T1.setTop (mkF m 47 #[.val (.int p1), .val (.int p2), .val (.int p3), .val (.int (0 : Int32)), .val (.ref (ad 0)), .val (.int (1 : Int32)), .unset, .unset, .unset, .unset] [(.int p3)])) t
      refine XS.iconst X1.here hx rfl (hb hby at_47) ?_
      show Steps p.tables e below (T1.setTop (mkF m 48 #[.val (.int p1), .val (.int p2), .val (.int p3), .val (.int (0 : Int32)), .val (.ref (ad 0)), .val (.int (1 : Int32)), .unset, .unset, .unset, .unset] [(.int (1 : Int32)), (.int p3)])) t
      refine XS.iand X1.here hx rfl (hb hby at_48) rfl ?_
      rw [hm]
      show Steps p.tables e below (T1.setTop (mkF m 49 #[.val (.int p1), .val (.int p2), .val (.int p3), .val (.int (0 : Int32)), .val (.ref (ad 0)), .val (.int (1 : Int32)), .unset, .unset, .unset, .unset] [(.int (0 : Int32))])) t
      refine XS.ifYes X1.here hx rfl (pc0 := 49) (pc' := 56) rfl (hb hby at_49) rfl ((if0 _ _).trans (teq (by decide : (0 : Int32) = (0 : Int32))).1) (by decide) (by decide) ?_
      show Steps p.tables e below (T1.setTop (mkF m 56 #[.val (.int p1), .val (.int p2), .val (.int p3), .val (.int (0 : Int32)), .val (.ref (ad 0)), .val (.int (1 : Int32)), .unset, .unset, .unset, .unset] [])) t
      refine XS.iloadN X1.here hx rfl (hb hby at_56) rfl ?_
      show Steps p.tables e below (T1.setTop (mkF m 57 #[.val (.int p1), .val (.int p2), .val (.int p3), .val (.int (0 : Int32)), .val (.ref (ad 0)), .val (.int (1 : Int32)), .unset, .unset, .unset, .unset] [(.int p2)])) t
      refine XS.sipush X1.here hx rfl (hb hby at_57) ?_
      show Steps p.tables e below (T1.setTop (mkF m 60 #[.val (.int p1), .val (.int p2), .val (.int p3), .val (.int (0 : Int32)), .val (.ref (ad 0)), .val (.int (1 : Int32)), .unset, .unset, .unset, .unset] [(.int (128 : Int32)), (.int p2)])) t
      refine Jvm.RoadKit.iremM (g := (mkF m 60 #[.val (.int p1), .val (.int p2), .val (.int p3), .val (.int (0 : Int32)), .val (.ref (ad 0)), .val (.int (1 : Int32)), .unset, .unset, .unset, .unset] [(.int (128 : Int32)), (.int p2)])) X1 hx rfl (hb hby at_60) rfl (by decide) ?_
      show Steps p.tables e below (T1.setTop (mkF m 61 #[.val (.int p1), .val (.int p2), .val (.int p3), .val (.int (0 : Int32)), .val (.ref (ad 0)), .val (.int (1 : Int32)), .unset, .unset, .unset, .unset] [(.int (p2 % (128 : Int32)))])) t
      refine XS.istore X1.here hx rfl (hb hby at_61) rfl (l' := #[.val (.int p1), .val (.int p2), .val (.int p3), .val (.int (0 : Int32)), .val (.ref (ad 0)), .val (.int (1 : Int32)), .val (.int (p2 % (128 : Int32))), .unset, .unset, .unset]) rfl ?_
      show Steps p.tables e below (T1.setTop (mkF m 63 #[.val (.int p1), .val (.int p2), .val (.int p3), .val (.int (0 : Int32)), .val (.ref (ad 0)), .val (.int (1 : Int32)), .val (.int (p2 % (128 : Int32))), .unset, .unset, .unset] [])) t
      refine XS.aload X1.here hx rfl (hb hby at_63) rfl rfl ?_
      show Steps p.tables e below (T1.setTop (mkF m 65 #[.val (.int p1), .val (.int p2), .val (.int p3), .val (.int (0 : Int32)), .val (.ref (ad 0)), .val (.int (1 : Int32)), .val (.int (p2 % (128 : Int32))), .unset, .unset, .unset] [(.ref (ad 0))])) t
      refine XS.iload X1.here hx rfl (hb hby at_65) rfl ?_
      show Steps p.tables e below (T1.setTop (mkF m 67 #[.val (.int p1), .val (.int p2), .val (.int p3), .val (.int (0 : Int32)), .val (.ref (ad 0)), .val (.int (1 : Int32)), .val (.int (p2 % (128 : Int32))), .unset, .unset, .unset] [(.int (p2 % (128 : Int32))), (.ref (ad 0))])) t
      exact st4.trans k)
  have ch6 : ∀ t, Steps p.tables e below (T4.setTop (mkF m 94 #[.val (.int p1), .val (.int p2), .val (.int p3), .val (.int (0 : Int32)), .val (.ref (ad 0)), .val (.int (1 : Int32)), .val (.int (p2 % (128 : Int32))), .val (.int (0 : Int32)), .unset, .unset] [(.int (1 : Int32))])) t → Steps p.tables e below (s₁.setTop (entryFrame m #[(.int p1), (.int p2), (.int p3)] maxLocals)) t := fun t k => ch5 t (by
      show Steps p.tables e below (T4.setTop (mkF m 70 #[.val (.int p1), .val (.int p2), .val (.int p3), .val (.int (0 : Int32)), .val (.ref (ad 0)), .val (.int (1 : Int32)), .val (.int (p2 % (128 : Int32))), .unset, .unset, .unset] [(.int (0 : Int32))])) t
      refine XS.istore X4.here hx rfl (hb hby at_70) rfl (l' := #[.val (.int p1), .val (.int p2), .val (.int p3), .val (.int (0 : Int32)), .val (.ref (ad 0)), .val (.int (1 : Int32)), .val (.int (p2 % (128 : Int32))), .val (.int (0 : Int32)), .unset, .unset]) rfl ?_
      show Steps p.tables e below (T4.setTop (mkF m 72 #[.val (.int p1), .val (.int p2), .val (.int p3), .val (.int (0 : Int32)), .val (.ref (ad 0)), .val (.int (1 : Int32)), .val (.int (p2 % (128 : Int32))), .val (.int (0 : Int32)), .unset, .unset] [])) t
      refine XS.iload X4.here hx rfl (hb hby at_72) rfl ?_
      show Steps p.tables e below (T4.setTop (mkF m 74 #[.val (.int p1), .val (.int p2), .val (.int p3), .val (.int (0 : Int32)), .val (.ref (ad 0)), .val (.int (1 : Int32)), .val (.int (p2 % (128 : Int32))), .val (.int (0 : Int32)), .unset, .unset] [(.int (p2 % (128 : Int32)))])) t
      refine XS.ifYes X4.here hx rfl (pc0 := 74) (pc' := 84) rfl (hb hby at_74) rfl ((if0 _ _).trans (tlt h1).1) (by decide) (by decide) ?_
      show Steps p.tables e below (T4.setTop (mkF m 84 #[.val (.int p1), .val (.int p2), .val (.int p3), .val (.int (0 : Int32)), .val (.ref (ad 0)), .val (.int (1 : Int32)), .val (.int (p2 % (128 : Int32))), .val (.int (0 : Int32)), .unset, .unset] [])) t
      refine XS.iload X4.here hx rfl (hb hby at_84) rfl ?_
      show Steps p.tables e below (T4.setTop (mkF m 86 #[.val (.int p1), .val (.int p2), .val (.int p3), .val (.int (0 : Int32)), .val (.ref (ad 0)), .val (.int (1 : Int32)), .val (.int (p2 % (128 : Int32))), .val (.int (0 : Int32)), .unset, .unset] [(.int (0 : Int32))])) t
      refine XS.ifNo X4.here hx rfl (hb hby at_86) rfl ((if0 _ _).trans (teq (by decide : (0 : Int32) = (0 : Int32))).2) ?_
      show Steps p.tables e below (T4.setTop (mkF m 89 #[.val (.int p1), .val (.int p2), .val (.int p3), .val (.int (0 : Int32)), .val (.ref (ad 0)), .val (.int (1 : Int32)), .val (.int (p2 % (128 : Int32))), .val (.int (0 : Int32)), .unset, .unset] [])) t
      refine XS.iconst X4.here hx rfl (hb hby at_89) ?_
      show Steps p.tables e below (T4.setTop (mkF m 90 #[.val (.int p1), .val (.int p2), .val (.int p3), .val (.int (0 : Int32)), .val (.ref (ad 0)), .val (.int (1 : Int32)), .val (.int (p2 % (128 : Int32))), .val (.int (0 : Int32)), .unset, .unset] [(.int (1 : Int32))])) t
      refine XS.goto X4.here hx rfl (pc0 := 90) (pc' := 94) rfl (hb hby at_90) (by decide) (by decide) ?_
      exact k)
  obtain ⟨fs, hr, hrun, hended, hW, hsame⟩ := X4.leave (v := some (.int (1 : Int32))) (fun h => by rw [Bd.returns] at h; cases h)
  refine ⟨_, _, ch6 _ ?_, hrun, hended, _, _, rfl, ?_, ⟨_, rfl⟩, hW, hsame.mono (by decide) (by decide)⟩
  · show Steps p.tables e below (T4.setTop (mkF m 94 #[.val (.int p1), .val (.int p2), .val (.int p3), .val (.int (0 : Int32)), .val (.ref (ad 0)), .val (.int (1 : Int32)), .val (.int (p2 % (128 : Int32))), .val (.int (0 : Int32)), .unset, .unset] [(.int (1 : Int32))])) _
    exact retN X4 hx (t := .boolean) Bd.returns (by simp) (hb hby at_94) hr
  · show QN (some (.int (1 : Int32))) n0 _ T4.heap _
    rw [e4]
    exact ⟨rfl, N4⟩
theorem own_ef_own_law_00g (m : MethodId) {x0 : Int32} {x1 : Int32} {x2 : Int32} : entryFrame m #[(.int x0), (.int x1), (.int x2)] maxLocals = mkF m 0 #[.val (.int x0), .val (.int x1), .val (.int x2), .unset, .unset, .unset, .unset, .unset, .unset, .unset] [] := by first | (simp [entryFrame, mkF, argsToLocals, Value.category, maxLocals]; done) | rfl
set_option maxRecDepth 65536 in
set_option maxHeartbeats 40000000 in
theorem own_law_00g (l : Launch) (Z : State) (a0 : Array Value) (hw : ∀ d ∈ tables_1, d.before a0 Z = true) (ws : List Jvm.Cond) (h0 : Heap) (n0 : Nat) (Z0 : n0 ≤ h0.size) (p1 p2 p3 : Int32) (hk : (p1 &&& (2147483647 : Int32)) % (3 : Int32) = (0 : Int32)) (hm : p3 &&& (1 : Int32) = (0 : Int32)) (h1 : ¬ (p2 % (128 : Int32)) < (0 : Int32)) (h2 : (99 : Int32) < (p2 % (128 : Int32))) (ad : Nat → Addr) (W : OwnWd Z h0 ad) :
    MetFree l x (head1 (Jvm.Cond.code x code maxLocals ret :: ws) room_1) (fun a U => a = #[(.int p1), (.int p2), (.int p3)] ∧ Z.Warmed39 U.vm ∧ U.heap = h0) (fun _ _ _ _ _ => True) (fun _ U o U' => ∃ v L, o = .returned v ∧ QN (some (.int (1 : Int32))) n0 v U'.heap L ∧ FrameEnd U o U' L room_1.cells room_1.slots) := by
  refine MetFree.of_bodySF (plainFor_of_name own_pn_com_example_isolint_isolint_bench_ChangeAddedToEachValuePinLaw) hisR ?_
  intro p e s m args below meth c s₁ Bd hml0 hP hK
  obtain ⟨rfl, hZ, hh⟩ := hP
  have hx := Bd.exec
  have hby := Bd.bytes
  have hml : c.maxLocals = 10 := hml0
  have hown : s.vm.findClass "com/example/isolint/isolint/bench/ChangeAddedToEachValuePinLaw" = some m.cls := findClass_of_methodNamed Bd.named
  have hnm := (name_of_methodNamed Bd.named Bd.method).1
  have X0 : Stand p l e room_1 s m #[(.int p1), (.int p2), (.int p3)] below meth c s₁ [] 0 0 := Stand.of_body Bd
  have e0 : s₁.heap = h0 := by rw [← hh, Bd.state]; rfl
  have N0 := Fr.nil n0
  have pre0 : ∀ t, Steps p.tables e below (s₁.setTop (mkF m 0 #[.val (.int p1), .val (.int p2), .val (.int p3), .unset, .unset, .unset, .unset, .unset, .unset, .unset] [])) t → Steps p.tables e below (s₁.setTop (entryFrame m #[(.int p1), (.int p2), (.int p3)] maxLocals)) t := fun t k => castTop (own_ef_own_law_00g m) k
  obtain ⟨T1, X1, e1, st1⟩ := getS2 X0 hx hZ hown (host := "") (Or.inl (hw _ (List.mem_of_getElem? (i := 1) rfl))) Via.refl e0 (own_S_CHANGE_A W) (g := (mkF m 11 #[.val (.int p1), .val (.int p2), .val (.int p3), .val (.int (0 : Int32)), .unset, .unset, .unset, .unset, .unset, .unset] [])) rfl (hb hby at_11)
  have ch2 : ∀ t, Steps p.tables e below (T1.setTop (mkF m 14 #[.val (.int p1), .val (.int p2), .val (.int p3), .val (.int (0 : Int32)), .unset, .unset, .unset, .unset, .unset, .unset] [(.ref (ad 0))])) t → Steps p.tables e below (s₁.setTop (entryFrame m #[(.int p1), (.int p2), (.int p3)] maxLocals)) t := fun t k => pre0 t (by
      show Steps p.tables e below (s₁.setTop (mkF m 0 #[.val (.int p1), .val (.int p2), .val (.int p3), .unset, .unset, .unset, .unset, .unset, .unset, .unset] [])) t
      refine XS.iloadN X0.here hx rfl (hb hby at_0) rfl ?_
      show Steps p.tables e below (s₁.setTop (mkF m 1 #[.val (.int p1), .val (.int p2), .val (.int p3), .unset, .unset, .unset, .unset, .unset, .unset, .unset] [(.int p1)])) t
      refine X0.ldcInt hx hown (mvT hZ (hw _ (List.mem_of_getElem? (i := 0) rfl))) (g := (mkF m 1 #[.val (.int p1), .val (.int p2), .val (.int p3), .unset, .unset, .unset, .unset, .unset, .unset, .unset] [(.int p1)])) rfl (hb hby at_1) _ ?_
      show Steps p.tables e below (s₁.setTop (mkF m 3 #[.val (.int p1), .val (.int p2), .val (.int p3), .unset, .unset, .unset, .unset, .unset, .unset, .unset] [(.int (2147483647 : Int32)), (.int p1)])) t
      refine XS.iand X0.here hx rfl (hb hby at_3) rfl ?_
      show Steps p.tables e below (s₁.setTop (mkF m 4 #[.val (.int p1), .val (.int p2), .val (.int p3), .unset, .unset, .unset, .unset, .unset, .unset, .unset] [(.int (p1 &&& (2147483647 : Int32)))])) t
      refine XS.iconst X0.here hx rfl (hb hby at_4) ?_
      show Steps p.tables e below (s₁.setTop (mkF m 5 #[.val (.int p1), .val (.int p2), .val (.int p3), .unset, .unset, .unset, .unset, .unset, .unset, .unset] [(.int (3 : Int32)), (.int (p1 &&& (2147483647 : Int32)))])) t
      refine Jvm.RoadKit.iremM (g := (mkF m 5 #[.val (.int p1), .val (.int p2), .val (.int p3), .unset, .unset, .unset, .unset, .unset, .unset, .unset] [(.int (3 : Int32)), (.int (p1 &&& (2147483647 : Int32)))])) X0 hx rfl (hb hby at_5) rfl (by decide) ?_
      rw [hk]
      show Steps p.tables e below (s₁.setTop (mkF m 6 #[.val (.int p1), .val (.int p2), .val (.int p3), .unset, .unset, .unset, .unset, .unset, .unset, .unset] [(.int (0 : Int32))])) t
      refine XS.istoreN X0.here hx rfl (hb hby at_6) rfl (l' := #[.val (.int p1), .val (.int p2), .val (.int p3), .val (.int (0 : Int32)), .unset, .unset, .unset, .unset, .unset, .unset]) rfl ?_
      show Steps p.tables e below (s₁.setTop (mkF m 7 #[.val (.int p1), .val (.int p2), .val (.int p3), .val (.int (0 : Int32)), .unset, .unset, .unset, .unset, .unset, .unset] [])) t
      refine XS.iloadN X0.here hx rfl (hb hby at_7) rfl ?_
      show Steps p.tables e below (s₁.setTop (mkF m 8 #[.val (.int p1), .val (.int p2), .val (.int p3), .val (.int (0 : Int32)), .unset, .unset, .unset, .unset, .unset, .unset] [(.int (0 : Int32))])) t
      refine XS.ifNo X0.here hx rfl (hb hby at_8) rfl ((if0 _ _).trans (teq (by decide : (0 : Int32) = (0 : Int32))).2) ?_
      show Steps p.tables e below (s₁.setTop (mkF m 11 #[.val (.int p1), .val (.int p2), .val (.int p3), .val (.int (0 : Int32)), .unset, .unset, .unset, .unset, .unset, .unset] [])) t
      exact st1 t k)
  obtain ⟨cq3, kq3, qa3, qb3, qc3⟩ := isOf hZ e1 (own_E_CHANGE_A W)
  obtain ⟨vv4, _, ⟨T4, L4, kk4, nn4⟩, -, X4, ⟨Lc4, hQ4, l4, y4, z4⟩, st4⟩ := X1.virtualBack hx (y := (⟨"com/example/isolint/isolint/bench/Change", "addedToEachValue", "(I)I"⟩ : MethodName)) (z := (⟨"com/example/isolint/isolint/bench/Change", "addedToEachValue", "(I)I"⟩ : MethodName)) hown (mvT hZ (hw _ (List.mem_of_getElem? (i := 4) rfl))) (mvT hZ (hw _ (List.mem_of_getElem? (i := 5) rfl))) (notFace_of_selects (args := #[]) (mvT hZ (hw _ (List.mem_of_getElem? (i := 7) rfl)))) (mvT hZ (hw _ (List.mem_of_getElem? (i := 7) rfl))) (mvT hZ (hw _ (List.mem_of_getElem? (i := 6) rfl))) (by decide) (backOf (W := 0) (own_add_0g l Z a0 hw [] h0 n0 Z0  (p2 % (128 : Int32)) h1 h2 ad W) hZ (hw _ (List.mem_of_getElem? (i := 8) rfl)) (hw _ (List.mem_of_getElem? (i := 2) rfl)) (by decide) (by decide)) qa3 qc3 (g := (mkF m 67 #[.val (.int p1), .val (.int p2), .val (.int p3), .val (.int (0 : Int32)), .val (.ref (ad 0)), .val (.int (1 : Int32)), .val (.int (p2 % (128 : Int32))), .unset, .unset, .unset] [(.int (p2 % (128 : Int32))), (.ref (ad 0))])) rfl (by rw [hml]; rfl) (Steps.refl _) (argsL := [(.int (p2 % (128 : Int32)))]) (rest := []) (lenOf own_pd__I_I rfl) rfl (by show 2 * 0 + _ ≤ _; exact Nat.le_of_eq rfl) (hb hby at_67) (fun _ _ => ⟨rfl, e1, (by decide : 0 + 0 ≤ _), (by decide : 0 + 0 ≤ _)⟩)
  dsimp only [Pt.U, Pt.locs, Pt.cells, Pt.slots] at X4 l4 y4 z4 st4 hQ4
  subst l4 y4 z4
  obtain ⟨rfl, Nq4, e4⟩ := hQ4
  have N4 := Fr.app N0 Nq4
  have ch5 : ∀ t, Steps p.tables e below (T4.setTop (mkF m 70 #[.val (.int p1), .val (.int p2), .val (.int p3), .val (.int (0 : Int32)), .val (.ref (ad 0)), .val (.int (1 : Int32)), .val (.int (p2 % (128 : Int32))), .unset, .unset, .unset] [(.int (0 : Int32))])) t → Steps p.tables e below (s₁.setTop (entryFrame m #[(.int p1), (.int p2), (.int p3)] maxLocals)) t := fun t k => ch2 t (by
      show Steps p.tables e below (T1.setTop (mkF m 14 #[.val (.int p1), .val (.int p2), .val (.int p3), .val (.int (0 : Int32)), .unset, .unset, .unset, .unset, .unset, .unset] [(.ref (ad 0))])) t
      refine XS.astore X1.here hx rfl (hb hby at_14) rfl rfl (l' := #[.val (.int p1), .val (.int p2), .val (.int p3), .val (.int (0 : Int32)), .val (.ref (ad 0)), .unset, .unset, .unset, .unset, .unset]) rfl ?_
      show Steps p.tables e below (T1.setTop (mkF m 16 #[.val (.int p1), .val (.int p2), .val (.int p3), .val (.int (0 : Int32)), .val (.ref (ad 0)), .unset, .unset, .unset, .unset, .unset] [])) t
      refine XS.iconst X1.here hx rfl (hb hby at_16) ?_
      show Steps p.tables e below (T1.setTop (mkF m 17 #[.val (.int p1), .val (.int p2), .val (.int p3), .val (.int (0 : Int32)), .val (.ref (ad 0)), .unset, .unset, .unset, .unset, .unset] [(.int (1 : Int32))])) t
      refine XS.istore X1.here hx rfl (hb hby at_17) rfl (l' := #[.val (.int p1), .val (.int p2), .val (.int p3), .val (.int (0 : Int32)), .val (.ref (ad 0)), .val (.int (1 : Int32)), .unset, .unset, .unset, .unset]) rfl ?_
      show Steps p.tables e below (T1.setTop (mkF m 19 #[.val (.int p1), .val (.int p2), .val (.int p3), .val (.int (0 : Int32)), .val (.ref (ad 0)), .val (.int (1 : Int32)), .unset, .unset, .unset, .unset] [])) t
      refine XS.goto X1.here hx rfl (pc0 := 19) (pc' := 46) rfl (hb hby at_19) (by decide) (by decide) ?_
      show Steps p.tables e below (T1.setTop (mkF m 46 #[.val (.int p1), .val (.int p2), .val (.int p3), .val (.int (0 : Int32)), .val (.ref (ad 0)), .val (.int (1 : Int32)), .unset, .unset, .unset, .unset] [])) t
      refine XS.iloadN X1.here hx rfl (hb hby at_46) rfl ?_
      show Steps p.tables e below (T1.setTop (mkF m 47 #[.val (.int p1), .val (.int p2), .val (.int p3), .val (.int (0 : Int32)), .val (.ref (ad 0)), .val (.int (1 : Int32)), .unset, .unset, .unset, .unset] [(.int p3)])) t
      refine XS.iconst X1.here hx rfl (hb hby at_47) ?_
      show Steps p.tables e below (T1.setTop (mkF m 48 #[.val (.int p1), .val (.int p2), .val (.int p3), .val (.int (0 : Int32)), .val (.ref (ad 0)), .val (.int (1 : Int32)), .unset, .unset, .unset, .unset] [(.int (1 : Int32)), (.int p3)])) t
      refine XS.iand X1.here hx rfl (hb hby at_48) rfl ?_
      rw [hm]
      show Steps p.tables e below (T1.setTop (mkF m 49 #[.val (.int p1), .val (.int p2), .val (.int p3), .val (.int (0 : Int32)), .val (.ref (ad 0)), .val (.int (1 : Int32)), .unset, .unset, .unset, .unset] [(.int (0 : Int32))])) t
      refine XS.ifYes X1.here hx rfl (pc0 := 49) (pc' := 56) rfl (hb hby at_49) rfl ((if0 _ _).trans (teq (by decide : (0 : Int32) = (0 : Int32))).1) (by decide) (by decide) ?_
      show Steps p.tables e below (T1.setTop (mkF m 56 #[.val (.int p1), .val (.int p2), .val (.int p3), .val (.int (0 : Int32)), .val (.ref (ad 0)), .val (.int (1 : Int32)), .unset, .unset, .unset, .unset] [])) t
      refine XS.iloadN X1.here hx rfl (hb hby at_56) rfl ?_
      show Steps p.tables e below (T1.setTop (mkF m 57 #[.val (.int p1), .val (.int p2), .val (.int p3), .val (.int (0 : Int32)), .val (.ref (ad 0)), .val (.int (1 : Int32)), .unset, .unset, .unset, .unset] [(.int p2)])) t
      refine XS.sipush X1.here hx rfl (hb hby at_57) ?_
      show Steps p.tables e below (T1.setTop (mkF m 60 #[.val (.int p1), .val (.int p2), .val (.int p3), .val (.int (0 : Int32)), .val (.ref (ad 0)), .val (.int (1 : Int32)), .unset, .unset, .unset, .unset] [(.int (128 : Int32)), (.int p2)])) t
      refine Jvm.RoadKit.iremM (g := (mkF m 60 #[.val (.int p1), .val (.int p2), .val (.int p3), .val (.int (0 : Int32)), .val (.ref (ad 0)), .val (.int (1 : Int32)), .unset, .unset, .unset, .unset] [(.int (128 : Int32)), (.int p2)])) X1 hx rfl (hb hby at_60) rfl (by decide) ?_
      show Steps p.tables e below (T1.setTop (mkF m 61 #[.val (.int p1), .val (.int p2), .val (.int p3), .val (.int (0 : Int32)), .val (.ref (ad 0)), .val (.int (1 : Int32)), .unset, .unset, .unset, .unset] [(.int (p2 % (128 : Int32)))])) t
      refine XS.istore X1.here hx rfl (hb hby at_61) rfl (l' := #[.val (.int p1), .val (.int p2), .val (.int p3), .val (.int (0 : Int32)), .val (.ref (ad 0)), .val (.int (1 : Int32)), .val (.int (p2 % (128 : Int32))), .unset, .unset, .unset]) rfl ?_
      show Steps p.tables e below (T1.setTop (mkF m 63 #[.val (.int p1), .val (.int p2), .val (.int p3), .val (.int (0 : Int32)), .val (.ref (ad 0)), .val (.int (1 : Int32)), .val (.int (p2 % (128 : Int32))), .unset, .unset, .unset] [])) t
      refine XS.aload X1.here hx rfl (hb hby at_63) rfl rfl ?_
      show Steps p.tables e below (T1.setTop (mkF m 65 #[.val (.int p1), .val (.int p2), .val (.int p3), .val (.int (0 : Int32)), .val (.ref (ad 0)), .val (.int (1 : Int32)), .val (.int (p2 % (128 : Int32))), .unset, .unset, .unset] [(.ref (ad 0))])) t
      refine XS.iload X1.here hx rfl (hb hby at_65) rfl ?_
      show Steps p.tables e below (T1.setTop (mkF m 67 #[.val (.int p1), .val (.int p2), .val (.int p3), .val (.int (0 : Int32)), .val (.ref (ad 0)), .val (.int (1 : Int32)), .val (.int (p2 % (128 : Int32))), .unset, .unset, .unset] [(.int (p2 % (128 : Int32))), (.ref (ad 0))])) t
      exact st4.trans k)
  have ch6 : ∀ t, Steps p.tables e below (T4.setTop (mkF m 94 #[.val (.int p1), .val (.int p2), .val (.int p3), .val (.int (0 : Int32)), .val (.ref (ad 0)), .val (.int (1 : Int32)), .val (.int (p2 % (128 : Int32))), .val (.int (0 : Int32)), .unset, .unset] [(.int (1 : Int32))])) t → Steps p.tables e below (s₁.setTop (entryFrame m #[(.int p1), (.int p2), (.int p3)] maxLocals)) t := fun t k => ch5 t (by
      show Steps p.tables e below (T4.setTop (mkF m 70 #[.val (.int p1), .val (.int p2), .val (.int p3), .val (.int (0 : Int32)), .val (.ref (ad 0)), .val (.int (1 : Int32)), .val (.int (p2 % (128 : Int32))), .unset, .unset, .unset] [(.int (0 : Int32))])) t
      refine XS.istore X4.here hx rfl (hb hby at_70) rfl (l' := #[.val (.int p1), .val (.int p2), .val (.int p3), .val (.int (0 : Int32)), .val (.ref (ad 0)), .val (.int (1 : Int32)), .val (.int (p2 % (128 : Int32))), .val (.int (0 : Int32)), .unset, .unset]) rfl ?_
      show Steps p.tables e below (T4.setTop (mkF m 72 #[.val (.int p1), .val (.int p2), .val (.int p3), .val (.int (0 : Int32)), .val (.ref (ad 0)), .val (.int (1 : Int32)), .val (.int (p2 % (128 : Int32))), .val (.int (0 : Int32)), .unset, .unset] [])) t
      refine XS.iload X4.here hx rfl (hb hby at_72) rfl ?_
      show Steps p.tables e below (T4.setTop (mkF m 74 #[.val (.int p1), .val (.int p2), .val (.int p3), .val (.int (0 : Int32)), .val (.ref (ad 0)), .val (.int (1 : Int32)), .val (.int (p2 % (128 : Int32))), .val (.int (0 : Int32)), .unset, .unset] [(.int (p2 % (128 : Int32)))])) t
      refine XS.ifNo X4.here hx rfl (hb hby at_74) rfl ((if0 _ _).trans (flt h1).1) ?_
      show Steps p.tables e below (T4.setTop (mkF m 77 #[.val (.int p1), .val (.int p2), .val (.int p3), .val (.int (0 : Int32)), .val (.ref (ad 0)), .val (.int (1 : Int32)), .val (.int (p2 % (128 : Int32))), .val (.int (0 : Int32)), .unset, .unset] [])) t
      refine XS.iload X4.here hx rfl (hb hby at_77) rfl ?_
      show Steps p.tables e below (T4.setTop (mkF m 79 #[.val (.int p1), .val (.int p2), .val (.int p3), .val (.int (0 : Int32)), .val (.ref (ad 0)), .val (.int (1 : Int32)), .val (.int (p2 % (128 : Int32))), .val (.int (0 : Int32)), .unset, .unset] [(.int (p2 % (128 : Int32)))])) t
      refine XS.bipush X4.here hx rfl (hb hby at_79) ?_
      show Steps p.tables e below (T4.setTop (mkF m 81 #[.val (.int p1), .val (.int p2), .val (.int p3), .val (.int (0 : Int32)), .val (.ref (ad 0)), .val (.int (1 : Int32)), .val (.int (p2 % (128 : Int32))), .val (.int (0 : Int32)), .unset, .unset] [(.int (99 : Int32)), (.int (p2 % (128 : Int32)))])) t
      refine XS.icmpNo X4.here hx rfl (hb hby at_81) rfl (tlt h2).2.2.2 ?_
      show Steps p.tables e below (T4.setTop (mkF m 84 #[.val (.int p1), .val (.int p2), .val (.int p3), .val (.int (0 : Int32)), .val (.ref (ad 0)), .val (.int (1 : Int32)), .val (.int (p2 % (128 : Int32))), .val (.int (0 : Int32)), .unset, .unset] [])) t
      refine XS.iload X4.here hx rfl (hb hby at_84) rfl ?_
      show Steps p.tables e below (T4.setTop (mkF m 86 #[.val (.int p1), .val (.int p2), .val (.int p3), .val (.int (0 : Int32)), .val (.ref (ad 0)), .val (.int (1 : Int32)), .val (.int (p2 % (128 : Int32))), .val (.int (0 : Int32)), .unset, .unset] [(.int (0 : Int32))])) t
      refine XS.ifNo X4.here hx rfl (hb hby at_86) rfl ((if0 _ _).trans (teq (by decide : (0 : Int32) = (0 : Int32))).2) ?_
      show Steps p.tables e below (T4.setTop (mkF m 89 #[.val (.int p1), .val (.int p2), .val (.int p3), .val (.int (0 : Int32)), .val (.ref (ad 0)), .val (.int (1 : Int32)), .val (.int (p2 % (128 : Int32))), .val (.int (0 : Int32)), .unset, .unset] [])) t
      refine XS.iconst X4.here hx rfl (hb hby at_89) ?_
      show Steps p.tables e below (T4.setTop (mkF m 90 #[.val (.int p1), .val (.int p2), .val (.int p3), .val (.int (0 : Int32)), .val (.ref (ad 0)), .val (.int (1 : Int32)), .val (.int (p2 % (128 : Int32))), .val (.int (0 : Int32)), .unset, .unset] [(.int (1 : Int32))])) t
      refine XS.goto X4.here hx rfl (pc0 := 90) (pc' := 94) rfl (hb hby at_90) (by decide) (by decide) ?_
      exact k)
  obtain ⟨fs, hr, hrun, hended, hW, hsame⟩ := X4.leave (v := some (.int (1 : Int32))) (fun h => by rw [Bd.returns] at h; cases h)
  refine ⟨_, _, ch6 _ ?_, hrun, hended, _, _, rfl, ?_, ⟨_, rfl⟩, hW, hsame.mono (by decide) (by decide)⟩
  · show Steps p.tables e below (T4.setTop (mkF m 94 #[.val (.int p1), .val (.int p2), .val (.int p3), .val (.int (0 : Int32)), .val (.ref (ad 0)), .val (.int (1 : Int32)), .val (.int (p2 % (128 : Int32))), .val (.int (0 : Int32)), .unset, .unset] [(.int (1 : Int32))])) _
    exact retN X4 hx (t := .boolean) Bd.returns (by simp) (hb hby at_94) hr
  · show QN (some (.int (1 : Int32))) n0 _ T4.heap _
    rw [e4]
    exact ⟨rfl, N4⟩
theorem own_ef_own_law_00l (m : MethodId) {x0 : Int32} {x1 : Int32} {x2 : Int32} : entryFrame m #[(.int x0), (.int x1), (.int x2)] maxLocals = mkF m 0 #[.val (.int x0), .val (.int x1), .val (.int x2), .unset, .unset, .unset, .unset, .unset, .unset, .unset] [] := by first | (simp [entryFrame, mkF, argsToLocals, Value.category, maxLocals]; done) | rfl
set_option maxRecDepth 65536 in
set_option maxHeartbeats 40000000 in
theorem own_law_00l (l : Launch) (Z : State) (a0 : Array Value) (hw : ∀ d ∈ tables_1, d.before a0 Z = true) (ws : List Jvm.Cond) (h0 : Heap) (n0 : Nat) (Z0 : n0 ≤ h0.size) (p1 p2 p3 : Int32) (hk : (p1 &&& (2147483647 : Int32)) % (3 : Int32) = (0 : Int32)) (hm : p3 &&& (1 : Int32) = (0 : Int32)) (h1 : ¬ (p2 % (128 : Int32)) < (0 : Int32)) (h2 : ¬ (99 : Int32) < (p2 % (128 : Int32))) (h3 : (p2 % (128 : Int32)) < (50 : Int32)) (ad : Nat → Addr) (W : OwnWd Z h0 ad) :
    MetFree l x (head1 (Jvm.Cond.code x code maxLocals ret :: ws) room_1) (fun a U => a = #[(.int p1), (.int p2), (.int p3)] ∧ Z.Warmed39 U.vm ∧ U.heap = h0) (fun _ _ _ _ _ => True) (fun _ U o U' => ∃ v L, o = .returned v ∧ QN (some (.int (1 : Int32))) n0 v U'.heap L ∧ FrameEnd U o U' L room_1.cells room_1.slots) := by
  refine MetFree.of_bodySF (plainFor_of_name own_pn_com_example_isolint_isolint_bench_ChangeAddedToEachValuePinLaw) hisR ?_
  intro p e s m args below meth c s₁ Bd hml0 hP hK
  obtain ⟨rfl, hZ, hh⟩ := hP
  have hx := Bd.exec
  have hby := Bd.bytes
  have hml : c.maxLocals = 10 := hml0
  have hown : s.vm.findClass "com/example/isolint/isolint/bench/ChangeAddedToEachValuePinLaw" = some m.cls := findClass_of_methodNamed Bd.named
  have hnm := (name_of_methodNamed Bd.named Bd.method).1
  have X0 : Stand p l e room_1 s m #[(.int p1), (.int p2), (.int p3)] below meth c s₁ [] 0 0 := Stand.of_body Bd
  have e0 : s₁.heap = h0 := by rw [← hh, Bd.state]; rfl
  have N0 := Fr.nil n0
  have pre0 : ∀ t, Steps p.tables e below (s₁.setTop (mkF m 0 #[.val (.int p1), .val (.int p2), .val (.int p3), .unset, .unset, .unset, .unset, .unset, .unset, .unset] [])) t → Steps p.tables e below (s₁.setTop (entryFrame m #[(.int p1), (.int p2), (.int p3)] maxLocals)) t := fun t k => castTop (own_ef_own_law_00l m) k
  obtain ⟨T1, X1, e1, st1⟩ := getS2 X0 hx hZ hown (host := "") (Or.inl (hw _ (List.mem_of_getElem? (i := 1) rfl))) Via.refl e0 (own_S_CHANGE_A W) (g := (mkF m 11 #[.val (.int p1), .val (.int p2), .val (.int p3), .val (.int (0 : Int32)), .unset, .unset, .unset, .unset, .unset, .unset] [])) rfl (hb hby at_11)
  have ch2 : ∀ t, Steps p.tables e below (T1.setTop (mkF m 14 #[.val (.int p1), .val (.int p2), .val (.int p3), .val (.int (0 : Int32)), .unset, .unset, .unset, .unset, .unset, .unset] [(.ref (ad 0))])) t → Steps p.tables e below (s₁.setTop (entryFrame m #[(.int p1), (.int p2), (.int p3)] maxLocals)) t := fun t k => pre0 t (by
      show Steps p.tables e below (s₁.setTop (mkF m 0 #[.val (.int p1), .val (.int p2), .val (.int p3), .unset, .unset, .unset, .unset, .unset, .unset, .unset] [])) t
      refine XS.iloadN X0.here hx rfl (hb hby at_0) rfl ?_
      show Steps p.tables e below (s₁.setTop (mkF m 1 #[.val (.int p1), .val (.int p2), .val (.int p3), .unset, .unset, .unset, .unset, .unset, .unset, .unset] [(.int p1)])) t
      refine X0.ldcInt hx hown (mvT hZ (hw _ (List.mem_of_getElem? (i := 0) rfl))) (g := (mkF m 1 #[.val (.int p1), .val (.int p2), .val (.int p3), .unset, .unset, .unset, .unset, .unset, .unset, .unset] [(.int p1)])) rfl (hb hby at_1) _ ?_
      show Steps p.tables e below (s₁.setTop (mkF m 3 #[.val (.int p1), .val (.int p2), .val (.int p3), .unset, .unset, .unset, .unset, .unset, .unset, .unset] [(.int (2147483647 : Int32)), (.int p1)])) t
      refine XS.iand X0.here hx rfl (hb hby at_3) rfl ?_
      show Steps p.tables e below (s₁.setTop (mkF m 4 #[.val (.int p1), .val (.int p2), .val (.int p3), .unset, .unset, .unset, .unset, .unset, .unset, .unset] [(.int (p1 &&& (2147483647 : Int32)))])) t
      refine XS.iconst X0.here hx rfl (hb hby at_4) ?_
      show Steps p.tables e below (s₁.setTop (mkF m 5 #[.val (.int p1), .val (.int p2), .val (.int p3), .unset, .unset, .unset, .unset, .unset, .unset, .unset] [(.int (3 : Int32)), (.int (p1 &&& (2147483647 : Int32)))])) t
      refine Jvm.RoadKit.iremM (g := (mkF m 5 #[.val (.int p1), .val (.int p2), .val (.int p3), .unset, .unset, .unset, .unset, .unset, .unset, .unset] [(.int (3 : Int32)), (.int (p1 &&& (2147483647 : Int32)))])) X0 hx rfl (hb hby at_5) rfl (by decide) ?_
      rw [hk]
      show Steps p.tables e below (s₁.setTop (mkF m 6 #[.val (.int p1), .val (.int p2), .val (.int p3), .unset, .unset, .unset, .unset, .unset, .unset, .unset] [(.int (0 : Int32))])) t
      refine XS.istoreN X0.here hx rfl (hb hby at_6) rfl (l' := #[.val (.int p1), .val (.int p2), .val (.int p3), .val (.int (0 : Int32)), .unset, .unset, .unset, .unset, .unset, .unset]) rfl ?_
      show Steps p.tables e below (s₁.setTop (mkF m 7 #[.val (.int p1), .val (.int p2), .val (.int p3), .val (.int (0 : Int32)), .unset, .unset, .unset, .unset, .unset, .unset] [])) t
      refine XS.iloadN X0.here hx rfl (hb hby at_7) rfl ?_
      show Steps p.tables e below (s₁.setTop (mkF m 8 #[.val (.int p1), .val (.int p2), .val (.int p3), .val (.int (0 : Int32)), .unset, .unset, .unset, .unset, .unset, .unset] [(.int (0 : Int32))])) t
      refine XS.ifNo X0.here hx rfl (hb hby at_8) rfl ((if0 _ _).trans (teq (by decide : (0 : Int32) = (0 : Int32))).2) ?_
      show Steps p.tables e below (s₁.setTop (mkF m 11 #[.val (.int p1), .val (.int p2), .val (.int p3), .val (.int (0 : Int32)), .unset, .unset, .unset, .unset, .unset, .unset] [])) t
      exact st1 t k)
  obtain ⟨cq3, kq3, qa3, qb3, qc3⟩ := isOf hZ e1 (own_E_CHANGE_A W)
  obtain ⟨vv4, _, ⟨T4, L4, kk4, nn4⟩, -, X4, ⟨Lc4, hQ4, l4, y4, z4⟩, st4⟩ := X1.virtualBack hx (y := (⟨"com/example/isolint/isolint/bench/Change", "addedToEachValue", "(I)I"⟩ : MethodName)) (z := (⟨"com/example/isolint/isolint/bench/Change", "addedToEachValue", "(I)I"⟩ : MethodName)) hown (mvT hZ (hw _ (List.mem_of_getElem? (i := 4) rfl))) (mvT hZ (hw _ (List.mem_of_getElem? (i := 5) rfl))) (notFace_of_selects (args := #[]) (mvT hZ (hw _ (List.mem_of_getElem? (i := 7) rfl)))) (mvT hZ (hw _ (List.mem_of_getElem? (i := 7) rfl))) (mvT hZ (hw _ (List.mem_of_getElem? (i := 6) rfl))) (by decide) (backOf (W := 0) (own_add_0l l Z a0 hw [] h0 n0 Z0  (p2 % (128 : Int32)) h1 h2 h3 ad W) hZ (hw _ (List.mem_of_getElem? (i := 8) rfl)) (hw _ (List.mem_of_getElem? (i := 2) rfl)) (by decide) (by decide)) qa3 qc3 (g := (mkF m 67 #[.val (.int p1), .val (.int p2), .val (.int p3), .val (.int (0 : Int32)), .val (.ref (ad 0)), .val (.int (1 : Int32)), .val (.int (p2 % (128 : Int32))), .unset, .unset, .unset] [(.int (p2 % (128 : Int32))), (.ref (ad 0))])) rfl (by rw [hml]; rfl) (Steps.refl _) (argsL := [(.int (p2 % (128 : Int32)))]) (rest := []) (lenOf own_pd__I_I rfl) rfl (by show 2 * 0 + _ ≤ _; exact Nat.le_of_eq rfl) (hb hby at_67) (fun _ _ => ⟨rfl, e1, (by decide : 0 + 0 ≤ _), (by decide : 0 + 0 ≤ _)⟩)
  dsimp only [Pt.U, Pt.locs, Pt.cells, Pt.slots] at X4 l4 y4 z4 st4 hQ4
  subst l4 y4 z4
  obtain ⟨rfl, Nq4, e4⟩ := hQ4
  have N4 := Fr.app N0 Nq4
  have ch5 : ∀ t, Steps p.tables e below (T4.setTop (mkF m 70 #[.val (.int p1), .val (.int p2), .val (.int p3), .val (.int (0 : Int32)), .val (.ref (ad 0)), .val (.int (1 : Int32)), .val (.int (p2 % (128 : Int32))), .unset, .unset, .unset] [(.int (50 : Int32))])) t → Steps p.tables e below (s₁.setTop (entryFrame m #[(.int p1), (.int p2), (.int p3)] maxLocals)) t := fun t k => ch2 t (by
      show Steps p.tables e below (T1.setTop (mkF m 14 #[.val (.int p1), .val (.int p2), .val (.int p3), .val (.int (0 : Int32)), .unset, .unset, .unset, .unset, .unset, .unset] [(.ref (ad 0))])) t
      refine XS.astore X1.here hx rfl (hb hby at_14) rfl rfl (l' := #[.val (.int p1), .val (.int p2), .val (.int p3), .val (.int (0 : Int32)), .val (.ref (ad 0)), .unset, .unset, .unset, .unset, .unset]) rfl ?_
      show Steps p.tables e below (T1.setTop (mkF m 16 #[.val (.int p1), .val (.int p2), .val (.int p3), .val (.int (0 : Int32)), .val (.ref (ad 0)), .unset, .unset, .unset, .unset, .unset] [])) t
      refine XS.iconst X1.here hx rfl (hb hby at_16) ?_
      show Steps p.tables e below (T1.setTop (mkF m 17 #[.val (.int p1), .val (.int p2), .val (.int p3), .val (.int (0 : Int32)), .val (.ref (ad 0)), .unset, .unset, .unset, .unset, .unset] [(.int (1 : Int32))])) t
      refine XS.istore X1.here hx rfl (hb hby at_17) rfl (l' := #[.val (.int p1), .val (.int p2), .val (.int p3), .val (.int (0 : Int32)), .val (.ref (ad 0)), .val (.int (1 : Int32)), .unset, .unset, .unset, .unset]) rfl ?_
      show Steps p.tables e below (T1.setTop (mkF m 19 #[.val (.int p1), .val (.int p2), .val (.int p3), .val (.int (0 : Int32)), .val (.ref (ad 0)), .val (.int (1 : Int32)), .unset, .unset, .unset, .unset] [])) t
      refine XS.goto X1.here hx rfl (pc0 := 19) (pc' := 46) rfl (hb hby at_19) (by decide) (by decide) ?_
      show Steps p.tables e below (T1.setTop (mkF m 46 #[.val (.int p1), .val (.int p2), .val (.int p3), .val (.int (0 : Int32)), .val (.ref (ad 0)), .val (.int (1 : Int32)), .unset, .unset, .unset, .unset] [])) t
      refine XS.iloadN X1.here hx rfl (hb hby at_46) rfl ?_
      show Steps p.tables e below (T1.setTop (mkF m 47 #[.val (.int p1), .val (.int p2), .val (.int p3), .val (.int (0 : Int32)), .val (.ref (ad 0)), .val (.int (1 : Int32)), .unset, .unset, .unset, .unset] [(.int p3)])) t
      refine XS.iconst X1.here hx rfl (hb hby at_47) ?_
      show Steps p.tables e below (T1.setTop (mkF m 48 #[.val (.int p1), .val (.int p2), .val (.int p3), .val (.int (0 : Int32)), .val (.ref (ad 0)), .val (.int (1 : Int32)), .unset, .unset, .unset, .unset] [(.int (1 : Int32)), (.int p3)])) t
      refine XS.iand X1.here hx rfl (hb hby at_48) rfl ?_
      rw [hm]
      show Steps p.tables e below (T1.setTop (mkF m 49 #[.val (.int p1), .val (.int p2), .val (.int p3), .val (.int (0 : Int32)), .val (.ref (ad 0)), .val (.int (1 : Int32)), .unset, .unset, .unset, .unset] [(.int (0 : Int32))])) t
      refine XS.ifYes X1.here hx rfl (pc0 := 49) (pc' := 56) rfl (hb hby at_49) rfl ((if0 _ _).trans (teq (by decide : (0 : Int32) = (0 : Int32))).1) (by decide) (by decide) ?_
      show Steps p.tables e below (T1.setTop (mkF m 56 #[.val (.int p1), .val (.int p2), .val (.int p3), .val (.int (0 : Int32)), .val (.ref (ad 0)), .val (.int (1 : Int32)), .unset, .unset, .unset, .unset] [])) t
      refine XS.iloadN X1.here hx rfl (hb hby at_56) rfl ?_
      show Steps p.tables e below (T1.setTop (mkF m 57 #[.val (.int p1), .val (.int p2), .val (.int p3), .val (.int (0 : Int32)), .val (.ref (ad 0)), .val (.int (1 : Int32)), .unset, .unset, .unset, .unset] [(.int p2)])) t
      refine XS.sipush X1.here hx rfl (hb hby at_57) ?_
      show Steps p.tables e below (T1.setTop (mkF m 60 #[.val (.int p1), .val (.int p2), .val (.int p3), .val (.int (0 : Int32)), .val (.ref (ad 0)), .val (.int (1 : Int32)), .unset, .unset, .unset, .unset] [(.int (128 : Int32)), (.int p2)])) t
      refine Jvm.RoadKit.iremM (g := (mkF m 60 #[.val (.int p1), .val (.int p2), .val (.int p3), .val (.int (0 : Int32)), .val (.ref (ad 0)), .val (.int (1 : Int32)), .unset, .unset, .unset, .unset] [(.int (128 : Int32)), (.int p2)])) X1 hx rfl (hb hby at_60) rfl (by decide) ?_
      show Steps p.tables e below (T1.setTop (mkF m 61 #[.val (.int p1), .val (.int p2), .val (.int p3), .val (.int (0 : Int32)), .val (.ref (ad 0)), .val (.int (1 : Int32)), .unset, .unset, .unset, .unset] [(.int (p2 % (128 : Int32)))])) t
      refine XS.istore X1.here hx rfl (hb hby at_61) rfl (l' := #[.val (.int p1), .val (.int p2), .val (.int p3), .val (.int (0 : Int32)), .val (.ref (ad 0)), .val (.int (1 : Int32)), .val (.int (p2 % (128 : Int32))), .unset, .unset, .unset]) rfl ?_
      show Steps p.tables e below (T1.setTop (mkF m 63 #[.val (.int p1), .val (.int p2), .val (.int p3), .val (.int (0 : Int32)), .val (.ref (ad 0)), .val (.int (1 : Int32)), .val (.int (p2 % (128 : Int32))), .unset, .unset, .unset] [])) t
      refine XS.aload X1.here hx rfl (hb hby at_63) rfl rfl ?_
      show Steps p.tables e below (T1.setTop (mkF m 65 #[.val (.int p1), .val (.int p2), .val (.int p3), .val (.int (0 : Int32)), .val (.ref (ad 0)), .val (.int (1 : Int32)), .val (.int (p2 % (128 : Int32))), .unset, .unset, .unset] [(.ref (ad 0))])) t
      refine XS.iload X1.here hx rfl (hb hby at_65) rfl ?_
      show Steps p.tables e below (T1.setTop (mkF m 67 #[.val (.int p1), .val (.int p2), .val (.int p3), .val (.int (0 : Int32)), .val (.ref (ad 0)), .val (.int (1 : Int32)), .val (.int (p2 % (128 : Int32))), .unset, .unset, .unset] [(.int (p2 % (128 : Int32))), (.ref (ad 0))])) t
      exact st4.trans k)
  have ch6 : ∀ t, Steps p.tables e below (T4.setTop (mkF m 133 #[.val (.int p1), .val (.int p2), .val (.int p3), .val (.int (0 : Int32)), .val (.ref (ad 0)), .val (.int (1 : Int32)), .val (.int (p2 % (128 : Int32))), .val (.int (50 : Int32)), .val (.long (((p2 % (128 : Int32)).toInt64) + (50 : Int64))), .second] [(.int (1 : Int32))])) t → Steps p.tables e below (s₁.setTop (entryFrame m #[(.int p1), (.int p2), (.int p3)] maxLocals)) t := fun t k => ch5 t (by
      show Steps p.tables e below (T4.setTop (mkF m 70 #[.val (.int p1), .val (.int p2), .val (.int p3), .val (.int (0 : Int32)), .val (.ref (ad 0)), .val (.int (1 : Int32)), .val (.int (p2 % (128 : Int32))), .unset, .unset, .unset] [(.int (50 : Int32))])) t
      refine XS.istore X4.here hx rfl (hb hby at_70) rfl (l' := #[.val (.int p1), .val (.int p2), .val (.int p3), .val (.int (0 : Int32)), .val (.ref (ad 0)), .val (.int (1 : Int32)), .val (.int (p2 % (128 : Int32))), .val (.int (50 : Int32)), .unset, .unset]) rfl ?_
      show Steps p.tables e below (T4.setTop (mkF m 72 #[.val (.int p1), .val (.int p2), .val (.int p3), .val (.int (0 : Int32)), .val (.ref (ad 0)), .val (.int (1 : Int32)), .val (.int (p2 % (128 : Int32))), .val (.int (50 : Int32)), .unset, .unset] [])) t
      refine XS.iload X4.here hx rfl (hb hby at_72) rfl ?_
      show Steps p.tables e below (T4.setTop (mkF m 74 #[.val (.int p1), .val (.int p2), .val (.int p3), .val (.int (0 : Int32)), .val (.ref (ad 0)), .val (.int (1 : Int32)), .val (.int (p2 % (128 : Int32))), .val (.int (50 : Int32)), .unset, .unset] [(.int (p2 % (128 : Int32)))])) t
      refine XS.ifNo X4.here hx rfl (hb hby at_74) rfl ((if0 _ _).trans (flt h1).1) ?_
      show Steps p.tables e below (T4.setTop (mkF m 77 #[.val (.int p1), .val (.int p2), .val (.int p3), .val (.int (0 : Int32)), .val (.ref (ad 0)), .val (.int (1 : Int32)), .val (.int (p2 % (128 : Int32))), .val (.int (50 : Int32)), .unset, .unset] [])) t
      refine XS.iload X4.here hx rfl (hb hby at_77) rfl ?_
      show Steps p.tables e below (T4.setTop (mkF m 79 #[.val (.int p1), .val (.int p2), .val (.int p3), .val (.int (0 : Int32)), .val (.ref (ad 0)), .val (.int (1 : Int32)), .val (.int (p2 % (128 : Int32))), .val (.int (50 : Int32)), .unset, .unset] [(.int (p2 % (128 : Int32)))])) t
      refine XS.bipush X4.here hx rfl (hb hby at_79) ?_
      show Steps p.tables e below (T4.setTop (mkF m 81 #[.val (.int p1), .val (.int p2), .val (.int p3), .val (.int (0 : Int32)), .val (.ref (ad 0)), .val (.int (1 : Int32)), .val (.int (p2 % (128 : Int32))), .val (.int (50 : Int32)), .unset, .unset] [(.int (99 : Int32)), (.int (p2 % (128 : Int32)))])) t
      refine XS.icmpYes X4.here hx rfl (pc0 := 81) (pc' := 95) rfl (hb hby at_81) rfl (flt h2).2.2.2 (by decide) (by decide) ?_
      show Steps p.tables e below (T4.setTop (mkF m 95 #[.val (.int p1), .val (.int p2), .val (.int p3), .val (.int (0 : Int32)), .val (.ref (ad 0)), .val (.int (1 : Int32)), .val (.int (p2 % (128 : Int32))), .val (.int (50 : Int32)), .unset, .unset] [])) t
      refine XS.iload X4.here hx rfl (hb hby at_95) rfl ?_
      show Steps p.tables e below (T4.setTop (mkF m 97 #[.val (.int p1), .val (.int p2), .val (.int p3), .val (.int (0 : Int32)), .val (.ref (ad 0)), .val (.int (1 : Int32)), .val (.int (p2 % (128 : Int32))), .val (.int (50 : Int32)), .unset, .unset] [(.int (p2 % (128 : Int32)))])) t
      refine XS.i2l X4.here hx rfl (hb hby at_97) rfl ?_
      show Steps p.tables e below (T4.setTop (mkF m 98 #[.val (.int p1), .val (.int p2), .val (.int p3), .val (.int (0 : Int32)), .val (.ref (ad 0)), .val (.int (1 : Int32)), .val (.int (p2 % (128 : Int32))), .val (.int (50 : Int32)), .unset, .unset] [(.long ((p2 % (128 : Int32)).toInt64))])) t
      refine XS.iload X4.here hx rfl (hb hby at_98) rfl ?_
      show Steps p.tables e below (T4.setTop (mkF m 100 #[.val (.int p1), .val (.int p2), .val (.int p3), .val (.int (0 : Int32)), .val (.ref (ad 0)), .val (.int (1 : Int32)), .val (.int (p2 % (128 : Int32))), .val (.int (50 : Int32)), .unset, .unset] [(.int (1 : Int32)), (.long ((p2 % (128 : Int32)).toInt64))])) t
      refine XS.i2l X4.here hx rfl (hb hby at_100) rfl ?_
      rw [show ((1 : Int32).toInt64) = (1 : Int64) from by decide]
      show Steps p.tables e below (T4.setTop (mkF m 101 #[.val (.int p1), .val (.int p2), .val (.int p3), .val (.int (0 : Int32)), .val (.ref (ad 0)), .val (.int (1 : Int32)), .val (.int (p2 % (128 : Int32))), .val (.int (50 : Int32)), .unset, .unset] [(.long (1 : Int64)), (.long ((p2 % (128 : Int32)).toInt64))])) t
      refine XS.iload X4.here hx rfl (hb hby at_101) rfl ?_
      show Steps p.tables e below (T4.setTop (mkF m 103 #[.val (.int p1), .val (.int p2), .val (.int p3), .val (.int (0 : Int32)), .val (.ref (ad 0)), .val (.int (1 : Int32)), .val (.int (p2 % (128 : Int32))), .val (.int (50 : Int32)), .unset, .unset] [(.int (50 : Int32)), (.long (1 : Int64)), (.long ((p2 % (128 : Int32)).toInt64))])) t
      refine XS.i2l X4.here hx rfl (hb hby at_103) rfl ?_
      rw [show ((50 : Int32).toInt64) = (50 : Int64) from by decide]
      show Steps p.tables e below (T4.setTop (mkF m 104 #[.val (.int p1), .val (.int p2), .val (.int p3), .val (.int (0 : Int32)), .val (.ref (ad 0)), .val (.int (1 : Int32)), .val (.int (p2 % (128 : Int32))), .val (.int (50 : Int32)), .unset, .unset] [(.long (50 : Int64)), (.long (1 : Int64)), (.long ((p2 % (128 : Int32)).toInt64))])) t
      refine XS.lmul X4.here hx rfl (hb hby at_104) rfl ?_
      rw [show ((1 : Int64) * (50 : Int64)) = (50 : Int64) from by decide]
      show Steps p.tables e below (T4.setTop (mkF m 105 #[.val (.int p1), .val (.int p2), .val (.int p3), .val (.int (0 : Int32)), .val (.ref (ad 0)), .val (.int (1 : Int32)), .val (.int (p2 % (128 : Int32))), .val (.int (50 : Int32)), .unset, .unset] [(.long (50 : Int64)), (.long ((p2 % (128 : Int32)).toInt64))])) t
      refine XS.ladd X4.here hx rfl (hb hby at_105) rfl ?_
      show Steps p.tables e below (T4.setTop (mkF m 106 #[.val (.int p1), .val (.int p2), .val (.int p3), .val (.int (0 : Int32)), .val (.ref (ad 0)), .val (.int (1 : Int32)), .val (.int (p2 % (128 : Int32))), .val (.int (50 : Int32)), .unset, .unset] [(.long (((p2 % (128 : Int32)).toInt64) + (50 : Int64)))])) t
      refine XS.lstore X4.here hx rfl (hb hby at_106) rfl (l' := #[.val (.int p1), .val (.int p2), .val (.int p3), .val (.int (0 : Int32)), .val (.ref (ad 0)), .val (.int (1 : Int32)), .val (.int (p2 % (128 : Int32))), .val (.int (50 : Int32)), .val (.long (((p2 % (128 : Int32)).toInt64) + (50 : Int64))), .second]) rfl ?_
      show Steps p.tables e below (T4.setTop (mkF m 108 #[.val (.int p1), .val (.int p2), .val (.int p3), .val (.int (0 : Int32)), .val (.ref (ad 0)), .val (.int (1 : Int32)), .val (.int (p2 % (128 : Int32))), .val (.int (50 : Int32)), .val (.long (((p2 % (128 : Int32)).toInt64) + (50 : Int64))), .second] [])) t
      refine XS.iload X4.here hx rfl (hb hby at_108) rfl ?_
      show Steps p.tables e below (T4.setTop (mkF m 110 #[.val (.int p1), .val (.int p2), .val (.int p3), .val (.int (0 : Int32)), .val (.ref (ad 0)), .val (.int (1 : Int32)), .val (.int (p2 % (128 : Int32))), .val (.int (50 : Int32)), .val (.long (((p2 % (128 : Int32)).toInt64) + (50 : Int64))), .second] [(.int (p2 % (128 : Int32)))])) t
      refine XS.bipush X4.here hx rfl (hb hby at_110) ?_
      show Steps p.tables e below (T4.setTop (mkF m 112 #[.val (.int p1), .val (.int p2), .val (.int p3), .val (.int (0 : Int32)), .val (.ref (ad 0)), .val (.int (1 : Int32)), .val (.int (p2 % (128 : Int32))), .val (.int (50 : Int32)), .val (.long (((p2 % (128 : Int32)).toInt64) + (50 : Int64))), .second] [(.int (50 : Int32)), (.int (p2 % (128 : Int32)))])) t
      refine XS.icmpNo X4.here hx rfl (hb hby at_112) rfl (tlt h3).2.1 ?_
      show Steps p.tables e below (T4.setTop (mkF m 115 #[.val (.int p1), .val (.int p2), .val (.int p3), .val (.int (0 : Int32)), .val (.ref (ad 0)), .val (.int (1 : Int32)), .val (.int (p2 % (128 : Int32))), .val (.int (50 : Int32)), .val (.long (((p2 % (128 : Int32)).toInt64) + (50 : Int64))), .second] [])) t
      refine XS.lload X4.here hx rfl (hb hby at_115) rfl ?_
      show Steps p.tables e below (T4.setTop (mkF m 117 #[.val (.int p1), .val (.int p2), .val (.int p3), .val (.int (0 : Int32)), .val (.ref (ad 0)), .val (.int (1 : Int32)), .val (.int (p2 % (128 : Int32))), .val (.int (50 : Int32)), .val (.long (((p2 % (128 : Int32)).toInt64) + (50 : Int64))), .second] [(.long (((p2 % (128 : Int32)).toInt64) + (50 : Int64)))])) t
      refine XS.iload X4.here hx rfl (hb hby at_117) rfl ?_
      show Steps p.tables e below (T4.setTop (mkF m 119 #[.val (.int p1), .val (.int p2), .val (.int p3), .val (.int (0 : Int32)), .val (.ref (ad 0)), .val (.int (1 : Int32)), .val (.int (p2 % (128 : Int32))), .val (.int (50 : Int32)), .val (.long (((p2 % (128 : Int32)).toInt64) + (50 : Int64))), .second] [(.int (p2 % (128 : Int32))), (.long (((p2 % (128 : Int32)).toInt64) + (50 : Int64)))])) t
      refine XS.i2l X4.here hx rfl (hb hby at_119) rfl ?_
      show Steps p.tables e below (T4.setTop (mkF m 120 #[.val (.int p1), .val (.int p2), .val (.int p3), .val (.int (0 : Int32)), .val (.ref (ad 0)), .val (.int (1 : Int32)), .val (.int (p2 % (128 : Int32))), .val (.int (50 : Int32)), .val (.long (((p2 % (128 : Int32)).toInt64) + (50 : Int64))), .second] [(.long ((p2 % (128 : Int32)).toInt64)), (.long (((p2 % (128 : Int32)).toInt64) + (50 : Int64)))])) t
      refine X4.ldc2Long hx hown (mvT hZ (hw _ (List.mem_of_getElem? (i := 13) rfl))) (g := (mkF m 120 #[.val (.int p1), .val (.int p2), .val (.int p3), .val (.int (0 : Int32)), .val (.ref (ad 0)), .val (.int (1 : Int32)), .val (.int (p2 % (128 : Int32))), .val (.int (50 : Int32)), .val (.long (((p2 % (128 : Int32)).toInt64) + (50 : Int64))), .second] [(.long ((p2 % (128 : Int32)).toInt64)), (.long (((p2 % (128 : Int32)).toInt64) + (50 : Int64)))])) rfl (hb hby at_120) _ ?_
      show Steps p.tables e below (T4.setTop (mkF m 123 #[.val (.int p1), .val (.int p2), .val (.int p3), .val (.int (0 : Int32)), .val (.ref (ad 0)), .val (.int (1 : Int32)), .val (.int (p2 % (128 : Int32))), .val (.int (50 : Int32)), .val (.long (((p2 % (128 : Int32)).toInt64) + (50 : Int64))), .second] [(.long (50 : Int64)), (.long ((p2 % (128 : Int32)).toInt64)), (.long (((p2 % (128 : Int32)).toInt64) + (50 : Int64)))])) t
      refine XS.ladd X4.here hx rfl (hb hby at_123) rfl ?_
      show Steps p.tables e below (T4.setTop (mkF m 124 #[.val (.int p1), .val (.int p2), .val (.int p3), .val (.int (0 : Int32)), .val (.ref (ad 0)), .val (.int (1 : Int32)), .val (.int (p2 % (128 : Int32))), .val (.int (50 : Int32)), .val (.long (((p2 % (128 : Int32)).toInt64) + (50 : Int64))), .second] [(.long (((p2 % (128 : Int32)).toInt64) + (50 : Int64))), (.long (((p2 % (128 : Int32)).toInt64) + (50 : Int64)))])) t
      refine XS.lcmp X4.here hx rfl (hb hby at_124) rfl ?_
      show Steps p.tables e below (T4.setTop (mkF m 125 #[.val (.int p1), .val (.int p2), .val (.int p3), .val (.int (0 : Int32)), .val (.ref (ad 0)), .val (.int (1 : Int32)), .val (.int (p2 % (128 : Int32))), .val (.int (50 : Int32)), .val (.long (((p2 % (128 : Int32)).toInt64) + (50 : Int64))), .second] [(.int (lcmpW (((p2 % (128 : Int32)).toInt64) + (50 : Int64)) (((p2 % (128 : Int32)).toInt64) + (50 : Int64))))])) t
      rw [own_lc0]
      show Steps p.tables e below (T4.setTop (mkF m 125 #[.val (.int p1), .val (.int p2), .val (.int p3), .val (.int (0 : Int32)), .val (.ref (ad 0)), .val (.int (1 : Int32)), .val (.int (p2 % (128 : Int32))), .val (.int (50 : Int32)), .val (.long (((p2 % (128 : Int32)).toInt64) + (50 : Int64))), .second] [(.int (0 : Int32))])) t
      refine XS.ifNo X4.here hx rfl (hb hby at_125) rfl ((if0 _ _).trans (teq (by decide : (0 : Int32) = (0 : Int32))).2) ?_
      show Steps p.tables e below (T4.setTop (mkF m 128 #[.val (.int p1), .val (.int p2), .val (.int p3), .val (.int (0 : Int32)), .val (.ref (ad 0)), .val (.int (1 : Int32)), .val (.int (p2 % (128 : Int32))), .val (.int (50 : Int32)), .val (.long (((p2 % (128 : Int32)).toInt64) + (50 : Int64))), .second] [])) t
      refine XS.iconst X4.here hx rfl (hb hby at_128) ?_
      show Steps p.tables e below (T4.setTop (mkF m 129 #[.val (.int p1), .val (.int p2), .val (.int p3), .val (.int (0 : Int32)), .val (.ref (ad 0)), .val (.int (1 : Int32)), .val (.int (p2 % (128 : Int32))), .val (.int (50 : Int32)), .val (.long (((p2 % (128 : Int32)).toInt64) + (50 : Int64))), .second] [(.int (1 : Int32))])) t
      refine XS.goto X4.here hx rfl (pc0 := 129) (pc' := 133) rfl (hb hby at_129) (by decide) (by decide) ?_
      exact k)
  obtain ⟨fs, hr, hrun, hended, hW, hsame⟩ := X4.leave (v := some (.int (1 : Int32))) (fun h => by rw [Bd.returns] at h; cases h)
  refine ⟨_, _, ch6 _ ?_, hrun, hended, _, _, rfl, ?_, ⟨_, rfl⟩, hW, hsame.mono (by decide) (by decide)⟩
  · show Steps p.tables e below (T4.setTop (mkF m 133 #[.val (.int p1), .val (.int p2), .val (.int p3), .val (.int (0 : Int32)), .val (.ref (ad 0)), .val (.int (1 : Int32)), .val (.int (p2 % (128 : Int32))), .val (.int (50 : Int32)), .val (.long (((p2 % (128 : Int32)).toInt64) + (50 : Int64))), .second] [(.int (1 : Int32))])) _
    exact retN X4 hx (t := .boolean) Bd.returns (by simp) (hb hby at_133) hr
  · show QN (some (.int (1 : Int32))) n0 _ T4.heap _
    rw [e4]
    exact ⟨rfl, N4⟩
theorem own_ef_own_law_00h (m : MethodId) {x0 : Int32} {x1 : Int32} {x2 : Int32} : entryFrame m #[(.int x0), (.int x1), (.int x2)] maxLocals = mkF m 0 #[.val (.int x0), .val (.int x1), .val (.int x2), .unset, .unset, .unset, .unset, .unset, .unset, .unset] [] := by first | (simp [entryFrame, mkF, argsToLocals, Value.category, maxLocals]; done) | rfl
set_option maxRecDepth 65536 in
set_option maxHeartbeats 40000000 in
theorem own_law_00h (l : Launch) (Z : State) (a0 : Array Value) (hw : ∀ d ∈ tables_1, d.before a0 Z = true) (ws : List Jvm.Cond) (h0 : Heap) (n0 : Nat) (Z0 : n0 ≤ h0.size) (p1 p2 p3 : Int32) (hk : (p1 &&& (2147483647 : Int32)) % (3 : Int32) = (0 : Int32)) (hm : p3 &&& (1 : Int32) = (0 : Int32)) (h1 : ¬ (p2 % (128 : Int32)) < (0 : Int32)) (h2 : ¬ (99 : Int32) < (p2 % (128 : Int32))) (h3 : ¬ (p2 % (128 : Int32)) < (50 : Int32)) (ad : Nat → Addr) (W : OwnWd Z h0 ad) :
    MetFree l x (head1 (Jvm.Cond.code x code maxLocals ret :: ws) room_1) (fun a U => a = #[(.int p1), (.int p2), (.int p3)] ∧ Z.Warmed39 U.vm ∧ U.heap = h0) (fun _ _ _ _ _ => True) (fun _ U o U' => ∃ v L, o = .returned v ∧ QN (some (.int (1 : Int32))) n0 v U'.heap L ∧ FrameEnd U o U' L room_1.cells room_1.slots) := by
  refine MetFree.of_bodySF (plainFor_of_name own_pn_com_example_isolint_isolint_bench_ChangeAddedToEachValuePinLaw) hisR ?_
  intro p e s m args below meth c s₁ Bd hml0 hP hK
  obtain ⟨rfl, hZ, hh⟩ := hP
  have hx := Bd.exec
  have hby := Bd.bytes
  have hml : c.maxLocals = 10 := hml0
  have hown : s.vm.findClass "com/example/isolint/isolint/bench/ChangeAddedToEachValuePinLaw" = some m.cls := findClass_of_methodNamed Bd.named
  have hnm := (name_of_methodNamed Bd.named Bd.method).1
  have X0 : Stand p l e room_1 s m #[(.int p1), (.int p2), (.int p3)] below meth c s₁ [] 0 0 := Stand.of_body Bd
  have e0 : s₁.heap = h0 := by rw [← hh, Bd.state]; rfl
  have N0 := Fr.nil n0
  have pre0 : ∀ t, Steps p.tables e below (s₁.setTop (mkF m 0 #[.val (.int p1), .val (.int p2), .val (.int p3), .unset, .unset, .unset, .unset, .unset, .unset, .unset] [])) t → Steps p.tables e below (s₁.setTop (entryFrame m #[(.int p1), (.int p2), (.int p3)] maxLocals)) t := fun t k => castTop (own_ef_own_law_00h m) k
  obtain ⟨T1, X1, e1, st1⟩ := getS2 X0 hx hZ hown (host := "") (Or.inl (hw _ (List.mem_of_getElem? (i := 1) rfl))) Via.refl e0 (own_S_CHANGE_A W) (g := (mkF m 11 #[.val (.int p1), .val (.int p2), .val (.int p3), .val (.int (0 : Int32)), .unset, .unset, .unset, .unset, .unset, .unset] [])) rfl (hb hby at_11)
  have ch2 : ∀ t, Steps p.tables e below (T1.setTop (mkF m 14 #[.val (.int p1), .val (.int p2), .val (.int p3), .val (.int (0 : Int32)), .unset, .unset, .unset, .unset, .unset, .unset] [(.ref (ad 0))])) t → Steps p.tables e below (s₁.setTop (entryFrame m #[(.int p1), (.int p2), (.int p3)] maxLocals)) t := fun t k => pre0 t (by
      show Steps p.tables e below (s₁.setTop (mkF m 0 #[.val (.int p1), .val (.int p2), .val (.int p3), .unset, .unset, .unset, .unset, .unset, .unset, .unset] [])) t
      refine XS.iloadN X0.here hx rfl (hb hby at_0) rfl ?_
      show Steps p.tables e below (s₁.setTop (mkF m 1 #[.val (.int p1), .val (.int p2), .val (.int p3), .unset, .unset, .unset, .unset, .unset, .unset, .unset] [(.int p1)])) t
      refine X0.ldcInt hx hown (mvT hZ (hw _ (List.mem_of_getElem? (i := 0) rfl))) (g := (mkF m 1 #[.val (.int p1), .val (.int p2), .val (.int p3), .unset, .unset, .unset, .unset, .unset, .unset, .unset] [(.int p1)])) rfl (hb hby at_1) _ ?_
      show Steps p.tables e below (s₁.setTop (mkF m 3 #[.val (.int p1), .val (.int p2), .val (.int p3), .unset, .unset, .unset, .unset, .unset, .unset, .unset] [(.int (2147483647 : Int32)), (.int p1)])) t
      refine XS.iand X0.here hx rfl (hb hby at_3) rfl ?_
      show Steps p.tables e below (s₁.setTop (mkF m 4 #[.val (.int p1), .val (.int p2), .val (.int p3), .unset, .unset, .unset, .unset, .unset, .unset, .unset] [(.int (p1 &&& (2147483647 : Int32)))])) t
      refine XS.iconst X0.here hx rfl (hb hby at_4) ?_
      show Steps p.tables e below (s₁.setTop (mkF m 5 #[.val (.int p1), .val (.int p2), .val (.int p3), .unset, .unset, .unset, .unset, .unset, .unset, .unset] [(.int (3 : Int32)), (.int (p1 &&& (2147483647 : Int32)))])) t
      refine Jvm.RoadKit.iremM (g := (mkF m 5 #[.val (.int p1), .val (.int p2), .val (.int p3), .unset, .unset, .unset, .unset, .unset, .unset, .unset] [(.int (3 : Int32)), (.int (p1 &&& (2147483647 : Int32)))])) X0 hx rfl (hb hby at_5) rfl (by decide) ?_
      rw [hk]
      show Steps p.tables e below (s₁.setTop (mkF m 6 #[.val (.int p1), .val (.int p2), .val (.int p3), .unset, .unset, .unset, .unset, .unset, .unset, .unset] [(.int (0 : Int32))])) t
      refine XS.istoreN X0.here hx rfl (hb hby at_6) rfl (l' := #[.val (.int p1), .val (.int p2), .val (.int p3), .val (.int (0 : Int32)), .unset, .unset, .unset, .unset, .unset, .unset]) rfl ?_
      show Steps p.tables e below (s₁.setTop (mkF m 7 #[.val (.int p1), .val (.int p2), .val (.int p3), .val (.int (0 : Int32)), .unset, .unset, .unset, .unset, .unset, .unset] [])) t
      refine XS.iloadN X0.here hx rfl (hb hby at_7) rfl ?_
      show Steps p.tables e below (s₁.setTop (mkF m 8 #[.val (.int p1), .val (.int p2), .val (.int p3), .val (.int (0 : Int32)), .unset, .unset, .unset, .unset, .unset, .unset] [(.int (0 : Int32))])) t
      refine XS.ifNo X0.here hx rfl (hb hby at_8) rfl ((if0 _ _).trans (teq (by decide : (0 : Int32) = (0 : Int32))).2) ?_
      show Steps p.tables e below (s₁.setTop (mkF m 11 #[.val (.int p1), .val (.int p2), .val (.int p3), .val (.int (0 : Int32)), .unset, .unset, .unset, .unset, .unset, .unset] [])) t
      exact st1 t k)
  obtain ⟨cq3, kq3, qa3, qb3, qc3⟩ := isOf hZ e1 (own_E_CHANGE_A W)
  obtain ⟨vv4, _, ⟨T4, L4, kk4, nn4⟩, -, X4, ⟨Lc4, hQ4, l4, y4, z4⟩, st4⟩ := X1.virtualBack hx (y := (⟨"com/example/isolint/isolint/bench/Change", "addedToEachValue", "(I)I"⟩ : MethodName)) (z := (⟨"com/example/isolint/isolint/bench/Change", "addedToEachValue", "(I)I"⟩ : MethodName)) hown (mvT hZ (hw _ (List.mem_of_getElem? (i := 4) rfl))) (mvT hZ (hw _ (List.mem_of_getElem? (i := 5) rfl))) (notFace_of_selects (args := #[]) (mvT hZ (hw _ (List.mem_of_getElem? (i := 7) rfl)))) (mvT hZ (hw _ (List.mem_of_getElem? (i := 7) rfl))) (mvT hZ (hw _ (List.mem_of_getElem? (i := 6) rfl))) (by decide) (backOf (W := 0) (own_add_0h l Z a0 hw [] h0 n0 Z0  (p2 % (128 : Int32)) h1 h2 h3 ad W) hZ (hw _ (List.mem_of_getElem? (i := 8) rfl)) (hw _ (List.mem_of_getElem? (i := 2) rfl)) (by decide) (by decide)) qa3 qc3 (g := (mkF m 67 #[.val (.int p1), .val (.int p2), .val (.int p3), .val (.int (0 : Int32)), .val (.ref (ad 0)), .val (.int (1 : Int32)), .val (.int (p2 % (128 : Int32))), .unset, .unset, .unset] [(.int (p2 % (128 : Int32))), (.ref (ad 0))])) rfl (by rw [hml]; rfl) (Steps.refl _) (argsL := [(.int (p2 % (128 : Int32)))]) (rest := []) (lenOf own_pd__I_I rfl) rfl (by show 2 * 0 + _ ≤ _; exact Nat.le_of_eq rfl) (hb hby at_67) (fun _ _ => ⟨rfl, e1, (by decide : 0 + 0 ≤ _), (by decide : 0 + 0 ≤ _)⟩)
  dsimp only [Pt.U, Pt.locs, Pt.cells, Pt.slots] at X4 l4 y4 z4 st4 hQ4
  subst l4 y4 z4
  obtain ⟨rfl, Nq4, e4⟩ := hQ4
  have N4 := Fr.app N0 Nq4
  have ch5 : ∀ t, Steps p.tables e below (T4.setTop (mkF m 70 #[.val (.int p1), .val (.int p2), .val (.int p3), .val (.int (0 : Int32)), .val (.ref (ad 0)), .val (.int (1 : Int32)), .val (.int (p2 % (128 : Int32))), .unset, .unset, .unset] [(.int (-50 : Int32))])) t → Steps p.tables e below (s₁.setTop (entryFrame m #[(.int p1), (.int p2), (.int p3)] maxLocals)) t := fun t k => ch2 t (by
      show Steps p.tables e below (T1.setTop (mkF m 14 #[.val (.int p1), .val (.int p2), .val (.int p3), .val (.int (0 : Int32)), .unset, .unset, .unset, .unset, .unset, .unset] [(.ref (ad 0))])) t
      refine XS.astore X1.here hx rfl (hb hby at_14) rfl rfl (l' := #[.val (.int p1), .val (.int p2), .val (.int p3), .val (.int (0 : Int32)), .val (.ref (ad 0)), .unset, .unset, .unset, .unset, .unset]) rfl ?_
      show Steps p.tables e below (T1.setTop (mkF m 16 #[.val (.int p1), .val (.int p2), .val (.int p3), .val (.int (0 : Int32)), .val (.ref (ad 0)), .unset, .unset, .unset, .unset, .unset] [])) t
      refine XS.iconst X1.here hx rfl (hb hby at_16) ?_
      show Steps p.tables e below (T1.setTop (mkF m 17 #[.val (.int p1), .val (.int p2), .val (.int p3), .val (.int (0 : Int32)), .val (.ref (ad 0)), .unset, .unset, .unset, .unset, .unset] [(.int (1 : Int32))])) t
      refine XS.istore X1.here hx rfl (hb hby at_17) rfl (l' := #[.val (.int p1), .val (.int p2), .val (.int p3), .val (.int (0 : Int32)), .val (.ref (ad 0)), .val (.int (1 : Int32)), .unset, .unset, .unset, .unset]) rfl ?_
      show Steps p.tables e below (T1.setTop (mkF m 19 #[.val (.int p1), .val (.int p2), .val (.int p3), .val (.int (0 : Int32)), .val (.ref (ad 0)), .val (.int (1 : Int32)), .unset, .unset, .unset, .unset] [])) t
      refine XS.goto X1.here hx rfl (pc0 := 19) (pc' := 46) rfl (hb hby at_19) (by decide) (by decide) ?_
      show Steps p.tables e below (T1.setTop (mkF m 46 #[.val (.int p1), .val (.int p2), .val (.int p3), .val (.int (0 : Int32)), .val (.ref (ad 0)), .val (.int (1 : Int32)), .unset, .unset, .unset, .unset] [])) t
      refine XS.iloadN X1.here hx rfl (hb hby at_46) rfl ?_
      show Steps p.tables e below (T1.setTop (mkF m 47 #[.val (.int p1), .val (.int p2), .val (.int p3), .val (.int (0 : Int32)), .val (.ref (ad 0)), .val (.int (1 : Int32)), .unset, .unset, .unset, .unset] [(.int p3)])) t
      refine XS.iconst X1.here hx rfl (hb hby at_47) ?_
      show Steps p.tables e below (T1.setTop (mkF m 48 #[.val (.int p1), .val (.int p2), .val (.int p3), .val (.int (0 : Int32)), .val (.ref (ad 0)), .val (.int (1 : Int32)), .unset, .unset, .unset, .unset] [(.int (1 : Int32)), (.int p3)])) t
      refine XS.iand X1.here hx rfl (hb hby at_48) rfl ?_
      rw [hm]
      show Steps p.tables e below (T1.setTop (mkF m 49 #[.val (.int p1), .val (.int p2), .val (.int p3), .val (.int (0 : Int32)), .val (.ref (ad 0)), .val (.int (1 : Int32)), .unset, .unset, .unset, .unset] [(.int (0 : Int32))])) t
      refine XS.ifYes X1.here hx rfl (pc0 := 49) (pc' := 56) rfl (hb hby at_49) rfl ((if0 _ _).trans (teq (by decide : (0 : Int32) = (0 : Int32))).1) (by decide) (by decide) ?_
      show Steps p.tables e below (T1.setTop (mkF m 56 #[.val (.int p1), .val (.int p2), .val (.int p3), .val (.int (0 : Int32)), .val (.ref (ad 0)), .val (.int (1 : Int32)), .unset, .unset, .unset, .unset] [])) t
      refine XS.iloadN X1.here hx rfl (hb hby at_56) rfl ?_
      show Steps p.tables e below (T1.setTop (mkF m 57 #[.val (.int p1), .val (.int p2), .val (.int p3), .val (.int (0 : Int32)), .val (.ref (ad 0)), .val (.int (1 : Int32)), .unset, .unset, .unset, .unset] [(.int p2)])) t
      refine XS.sipush X1.here hx rfl (hb hby at_57) ?_
      show Steps p.tables e below (T1.setTop (mkF m 60 #[.val (.int p1), .val (.int p2), .val (.int p3), .val (.int (0 : Int32)), .val (.ref (ad 0)), .val (.int (1 : Int32)), .unset, .unset, .unset, .unset] [(.int (128 : Int32)), (.int p2)])) t
      refine Jvm.RoadKit.iremM (g := (mkF m 60 #[.val (.int p1), .val (.int p2), .val (.int p3), .val (.int (0 : Int32)), .val (.ref (ad 0)), .val (.int (1 : Int32)), .unset, .unset, .unset, .unset] [(.int (128 : Int32)), (.int p2)])) X1 hx rfl (hb hby at_60) rfl (by decide) ?_
      show Steps p.tables e below (T1.setTop (mkF m 61 #[.val (.int p1), .val (.int p2), .val (.int p3), .val (.int (0 : Int32)), .val (.ref (ad 0)), .val (.int (1 : Int32)), .unset, .unset, .unset, .unset] [(.int (p2 % (128 : Int32)))])) t
      refine XS.istore X1.here hx rfl (hb hby at_61) rfl (l' := #[.val (.int p1), .val (.int p2), .val (.int p3), .val (.int (0 : Int32)), .val (.ref (ad 0)), .val (.int (1 : Int32)), .val (.int (p2 % (128 : Int32))), .unset, .unset, .unset]) rfl ?_
      show Steps p.tables e below (T1.setTop (mkF m 63 #[.val (.int p1), .val (.int p2), .val (.int p3), .val (.int (0 : Int32)), .val (.ref (ad 0)), .val (.int (1 : Int32)), .val (.int (p2 % (128 : Int32))), .unset, .unset, .unset] [])) t
      refine XS.aload X1.here hx rfl (hb hby at_63) rfl rfl ?_
      show Steps p.tables e below (T1.setTop (mkF m 65 #[.val (.int p1), .val (.int p2), .val (.int p3), .val (.int (0 : Int32)), .val (.ref (ad 0)), .val (.int (1 : Int32)), .val (.int (p2 % (128 : Int32))), .unset, .unset, .unset] [(.ref (ad 0))])) t
      refine XS.iload X1.here hx rfl (hb hby at_65) rfl ?_
      show Steps p.tables e below (T1.setTop (mkF m 67 #[.val (.int p1), .val (.int p2), .val (.int p3), .val (.int (0 : Int32)), .val (.ref (ad 0)), .val (.int (1 : Int32)), .val (.int (p2 % (128 : Int32))), .unset, .unset, .unset] [(.int (p2 % (128 : Int32))), (.ref (ad 0))])) t
      exact st4.trans k)
  have ch6 : ∀ t, Steps p.tables e below (T4.setTop (mkF m 152 #[.val (.int p1), .val (.int p2), .val (.int p3), .val (.int (0 : Int32)), .val (.ref (ad 0)), .val (.int (1 : Int32)), .val (.int (p2 % (128 : Int32))), .val (.int (-50 : Int32)), .val (.long (((p2 % (128 : Int32)).toInt64) + (-50 : Int64))), .second] [(.int (1 : Int32))])) t → Steps p.tables e below (s₁.setTop (entryFrame m #[(.int p1), (.int p2), (.int p3)] maxLocals)) t := fun t k => ch5 t (by
      show Steps p.tables e below (T4.setTop (mkF m 70 #[.val (.int p1), .val (.int p2), .val (.int p3), .val (.int (0 : Int32)), .val (.ref (ad 0)), .val (.int (1 : Int32)), .val (.int (p2 % (128 : Int32))), .unset, .unset, .unset] [(.int (-50 : Int32))])) t
      refine XS.istore X4.here hx rfl (hb hby at_70) rfl (l' := #[.val (.int p1), .val (.int p2), .val (.int p3), .val (.int (0 : Int32)), .val (.ref (ad 0)), .val (.int (1 : Int32)), .val (.int (p2 % (128 : Int32))), .val (.int (-50 : Int32)), .unset, .unset]) rfl ?_
      show Steps p.tables e below (T4.setTop (mkF m 72 #[.val (.int p1), .val (.int p2), .val (.int p3), .val (.int (0 : Int32)), .val (.ref (ad 0)), .val (.int (1 : Int32)), .val (.int (p2 % (128 : Int32))), .val (.int (-50 : Int32)), .unset, .unset] [])) t
      refine XS.iload X4.here hx rfl (hb hby at_72) rfl ?_
      show Steps p.tables e below (T4.setTop (mkF m 74 #[.val (.int p1), .val (.int p2), .val (.int p3), .val (.int (0 : Int32)), .val (.ref (ad 0)), .val (.int (1 : Int32)), .val (.int (p2 % (128 : Int32))), .val (.int (-50 : Int32)), .unset, .unset] [(.int (p2 % (128 : Int32)))])) t
      refine XS.ifNo X4.here hx rfl (hb hby at_74) rfl ((if0 _ _).trans (flt h1).1) ?_
      show Steps p.tables e below (T4.setTop (mkF m 77 #[.val (.int p1), .val (.int p2), .val (.int p3), .val (.int (0 : Int32)), .val (.ref (ad 0)), .val (.int (1 : Int32)), .val (.int (p2 % (128 : Int32))), .val (.int (-50 : Int32)), .unset, .unset] [])) t
      refine XS.iload X4.here hx rfl (hb hby at_77) rfl ?_
      show Steps p.tables e below (T4.setTop (mkF m 79 #[.val (.int p1), .val (.int p2), .val (.int p3), .val (.int (0 : Int32)), .val (.ref (ad 0)), .val (.int (1 : Int32)), .val (.int (p2 % (128 : Int32))), .val (.int (-50 : Int32)), .unset, .unset] [(.int (p2 % (128 : Int32)))])) t
      refine XS.bipush X4.here hx rfl (hb hby at_79) ?_
      show Steps p.tables e below (T4.setTop (mkF m 81 #[.val (.int p1), .val (.int p2), .val (.int p3), .val (.int (0 : Int32)), .val (.ref (ad 0)), .val (.int (1 : Int32)), .val (.int (p2 % (128 : Int32))), .val (.int (-50 : Int32)), .unset, .unset] [(.int (99 : Int32)), (.int (p2 % (128 : Int32)))])) t
      refine XS.icmpYes X4.here hx rfl (pc0 := 81) (pc' := 95) rfl (hb hby at_81) rfl (flt h2).2.2.2 (by decide) (by decide) ?_
      show Steps p.tables e below (T4.setTop (mkF m 95 #[.val (.int p1), .val (.int p2), .val (.int p3), .val (.int (0 : Int32)), .val (.ref (ad 0)), .val (.int (1 : Int32)), .val (.int (p2 % (128 : Int32))), .val (.int (-50 : Int32)), .unset, .unset] [])) t
      refine XS.iload X4.here hx rfl (hb hby at_95) rfl ?_
      show Steps p.tables e below (T4.setTop (mkF m 97 #[.val (.int p1), .val (.int p2), .val (.int p3), .val (.int (0 : Int32)), .val (.ref (ad 0)), .val (.int (1 : Int32)), .val (.int (p2 % (128 : Int32))), .val (.int (-50 : Int32)), .unset, .unset] [(.int (p2 % (128 : Int32)))])) t
      refine XS.i2l X4.here hx rfl (hb hby at_97) rfl ?_
      show Steps p.tables e below (T4.setTop (mkF m 98 #[.val (.int p1), .val (.int p2), .val (.int p3), .val (.int (0 : Int32)), .val (.ref (ad 0)), .val (.int (1 : Int32)), .val (.int (p2 % (128 : Int32))), .val (.int (-50 : Int32)), .unset, .unset] [(.long ((p2 % (128 : Int32)).toInt64))])) t
      refine XS.iload X4.here hx rfl (hb hby at_98) rfl ?_
      show Steps p.tables e below (T4.setTop (mkF m 100 #[.val (.int p1), .val (.int p2), .val (.int p3), .val (.int (0 : Int32)), .val (.ref (ad 0)), .val (.int (1 : Int32)), .val (.int (p2 % (128 : Int32))), .val (.int (-50 : Int32)), .unset, .unset] [(.int (1 : Int32)), (.long ((p2 % (128 : Int32)).toInt64))])) t
      refine XS.i2l X4.here hx rfl (hb hby at_100) rfl ?_
      rw [show ((1 : Int32).toInt64) = (1 : Int64) from by decide]
      show Steps p.tables e below (T4.setTop (mkF m 101 #[.val (.int p1), .val (.int p2), .val (.int p3), .val (.int (0 : Int32)), .val (.ref (ad 0)), .val (.int (1 : Int32)), .val (.int (p2 % (128 : Int32))), .val (.int (-50 : Int32)), .unset, .unset] [(.long (1 : Int64)), (.long ((p2 % (128 : Int32)).toInt64))])) t
      refine XS.iload X4.here hx rfl (hb hby at_101) rfl ?_
      show Steps p.tables e below (T4.setTop (mkF m 103 #[.val (.int p1), .val (.int p2), .val (.int p3), .val (.int (0 : Int32)), .val (.ref (ad 0)), .val (.int (1 : Int32)), .val (.int (p2 % (128 : Int32))), .val (.int (-50 : Int32)), .unset, .unset] [(.int (-50 : Int32)), (.long (1 : Int64)), (.long ((p2 % (128 : Int32)).toInt64))])) t
      refine XS.i2l X4.here hx rfl (hb hby at_103) rfl ?_
      rw [show ((-50 : Int32).toInt64) = (-50 : Int64) from by decide]
      show Steps p.tables e below (T4.setTop (mkF m 104 #[.val (.int p1), .val (.int p2), .val (.int p3), .val (.int (0 : Int32)), .val (.ref (ad 0)), .val (.int (1 : Int32)), .val (.int (p2 % (128 : Int32))), .val (.int (-50 : Int32)), .unset, .unset] [(.long (-50 : Int64)), (.long (1 : Int64)), (.long ((p2 % (128 : Int32)).toInt64))])) t
      refine XS.lmul X4.here hx rfl (hb hby at_104) rfl ?_
      rw [show ((1 : Int64) * (-50 : Int64)) = (-50 : Int64) from by decide]
      show Steps p.tables e below (T4.setTop (mkF m 105 #[.val (.int p1), .val (.int p2), .val (.int p3), .val (.int (0 : Int32)), .val (.ref (ad 0)), .val (.int (1 : Int32)), .val (.int (p2 % (128 : Int32))), .val (.int (-50 : Int32)), .unset, .unset] [(.long (-50 : Int64)), (.long ((p2 % (128 : Int32)).toInt64))])) t
      refine XS.ladd X4.here hx rfl (hb hby at_105) rfl ?_
      show Steps p.tables e below (T4.setTop (mkF m 106 #[.val (.int p1), .val (.int p2), .val (.int p3), .val (.int (0 : Int32)), .val (.ref (ad 0)), .val (.int (1 : Int32)), .val (.int (p2 % (128 : Int32))), .val (.int (-50 : Int32)), .unset, .unset] [(.long (((p2 % (128 : Int32)).toInt64) + (-50 : Int64)))])) t
      refine XS.lstore X4.here hx rfl (hb hby at_106) rfl (l' := #[.val (.int p1), .val (.int p2), .val (.int p3), .val (.int (0 : Int32)), .val (.ref (ad 0)), .val (.int (1 : Int32)), .val (.int (p2 % (128 : Int32))), .val (.int (-50 : Int32)), .val (.long (((p2 % (128 : Int32)).toInt64) + (-50 : Int64))), .second]) rfl ?_
      show Steps p.tables e below (T4.setTop (mkF m 108 #[.val (.int p1), .val (.int p2), .val (.int p3), .val (.int (0 : Int32)), .val (.ref (ad 0)), .val (.int (1 : Int32)), .val (.int (p2 % (128 : Int32))), .val (.int (-50 : Int32)), .val (.long (((p2 % (128 : Int32)).toInt64) + (-50 : Int64))), .second] [])) t
      refine XS.iload X4.here hx rfl (hb hby at_108) rfl ?_
      show Steps p.tables e below (T4.setTop (mkF m 110 #[.val (.int p1), .val (.int p2), .val (.int p3), .val (.int (0 : Int32)), .val (.ref (ad 0)), .val (.int (1 : Int32)), .val (.int (p2 % (128 : Int32))), .val (.int (-50 : Int32)), .val (.long (((p2 % (128 : Int32)).toInt64) + (-50 : Int64))), .second] [(.int (p2 % (128 : Int32)))])) t
      refine XS.bipush X4.here hx rfl (hb hby at_110) ?_
      show Steps p.tables e below (T4.setTop (mkF m 112 #[.val (.int p1), .val (.int p2), .val (.int p3), .val (.int (0 : Int32)), .val (.ref (ad 0)), .val (.int (1 : Int32)), .val (.int (p2 % (128 : Int32))), .val (.int (-50 : Int32)), .val (.long (((p2 % (128 : Int32)).toInt64) + (-50 : Int64))), .second] [(.int (50 : Int32)), (.int (p2 % (128 : Int32)))])) t
      refine XS.icmpYes X4.here hx rfl (pc0 := 112) (pc' := 134) rfl (hb hby at_112) rfl (flt h3).2.1 (by decide) (by decide) ?_
      show Steps p.tables e below (T4.setTop (mkF m 134 #[.val (.int p1), .val (.int p2), .val (.int p3), .val (.int (0 : Int32)), .val (.ref (ad 0)), .val (.int (1 : Int32)), .val (.int (p2 % (128 : Int32))), .val (.int (-50 : Int32)), .val (.long (((p2 % (128 : Int32)).toInt64) + (-50 : Int64))), .second] [])) t
      refine XS.lload X4.here hx rfl (hb hby at_134) rfl ?_
      show Steps p.tables e below (T4.setTop (mkF m 136 #[.val (.int p1), .val (.int p2), .val (.int p3), .val (.int (0 : Int32)), .val (.ref (ad 0)), .val (.int (1 : Int32)), .val (.int (p2 % (128 : Int32))), .val (.int (-50 : Int32)), .val (.long (((p2 % (128 : Int32)).toInt64) + (-50 : Int64))), .second] [(.long (((p2 % (128 : Int32)).toInt64) + (-50 : Int64)))])) t
      refine XS.iload X4.here hx rfl (hb hby at_136) rfl ?_
      show Steps p.tables e below (T4.setTop (mkF m 138 #[.val (.int p1), .val (.int p2), .val (.int p3), .val (.int (0 : Int32)), .val (.ref (ad 0)), .val (.int (1 : Int32)), .val (.int (p2 % (128 : Int32))), .val (.int (-50 : Int32)), .val (.long (((p2 % (128 : Int32)).toInt64) + (-50 : Int64))), .second] [(.int (p2 % (128 : Int32))), (.long (((p2 % (128 : Int32)).toInt64) + (-50 : Int64)))])) t
      refine XS.i2l X4.here hx rfl (hb hby at_138) rfl ?_
      show Steps p.tables e below (T4.setTop (mkF m 139 #[.val (.int p1), .val (.int p2), .val (.int p3), .val (.int (0 : Int32)), .val (.ref (ad 0)), .val (.int (1 : Int32)), .val (.int (p2 % (128 : Int32))), .val (.int (-50 : Int32)), .val (.long (((p2 % (128 : Int32)).toInt64) + (-50 : Int64))), .second] [(.long ((p2 % (128 : Int32)).toInt64)), (.long (((p2 % (128 : Int32)).toInt64) + (-50 : Int64)))])) t
      refine X4.ldc2Long hx hown (mvT hZ (hw _ (List.mem_of_getElem? (i := 13) rfl))) (g := (mkF m 139 #[.val (.int p1), .val (.int p2), .val (.int p3), .val (.int (0 : Int32)), .val (.ref (ad 0)), .val (.int (1 : Int32)), .val (.int (p2 % (128 : Int32))), .val (.int (-50 : Int32)), .val (.long (((p2 % (128 : Int32)).toInt64) + (-50 : Int64))), .second] [(.long ((p2 % (128 : Int32)).toInt64)), (.long (((p2 % (128 : Int32)).toInt64) + (-50 : Int64)))])) rfl (hb hby at_139) _ ?_
      show Steps p.tables e below (T4.setTop (mkF m 142 #[.val (.int p1), .val (.int p2), .val (.int p3), .val (.int (0 : Int32)), .val (.ref (ad 0)), .val (.int (1 : Int32)), .val (.int (p2 % (128 : Int32))), .val (.int (-50 : Int32)), .val (.long (((p2 % (128 : Int32)).toInt64) + (-50 : Int64))), .second] [(.long (50 : Int64)), (.long ((p2 % (128 : Int32)).toInt64)), (.long (((p2 % (128 : Int32)).toInt64) + (-50 : Int64)))])) t
      refine XS.lsub X4.here hx rfl (hb hby at_142) rfl ?_
      show Steps p.tables e below (T4.setTop (mkF m 143 #[.val (.int p1), .val (.int p2), .val (.int p3), .val (.int (0 : Int32)), .val (.ref (ad 0)), .val (.int (1 : Int32)), .val (.int (p2 % (128 : Int32))), .val (.int (-50 : Int32)), .val (.long (((p2 % (128 : Int32)).toInt64) + (-50 : Int64))), .second] [(.long (((p2 % (128 : Int32)).toInt64) - (50 : Int64))), (.long (((p2 % (128 : Int32)).toInt64) + (-50 : Int64)))])) t
      refine XS.lcmp X4.here hx rfl (hb hby at_143) rfl ?_
      show Steps p.tables e below (T4.setTop (mkF m 144 #[.val (.int p1), .val (.int p2), .val (.int p3), .val (.int (0 : Int32)), .val (.ref (ad 0)), .val (.int (1 : Int32)), .val (.int (p2 % (128 : Int32))), .val (.int (-50 : Int32)), .val (.long (((p2 % (128 : Int32)).toInt64) + (-50 : Int64))), .second] [(.int (lcmpW (((p2 % (128 : Int32)).toInt64) + (-50 : Int64)) (((p2 % (128 : Int32)).toInt64) - (50 : Int64))))])) t
      rw [own_lc1]
      show Steps p.tables e below (T4.setTop (mkF m 144 #[.val (.int p1), .val (.int p2), .val (.int p3), .val (.int (0 : Int32)), .val (.ref (ad 0)), .val (.int (1 : Int32)), .val (.int (p2 % (128 : Int32))), .val (.int (-50 : Int32)), .val (.long (((p2 % (128 : Int32)).toInt64) + (-50 : Int64))), .second] [(.int (0 : Int32))])) t
      refine XS.ifNo X4.here hx rfl (hb hby at_144) rfl ((if0 _ _).trans (teq (by decide : (0 : Int32) = (0 : Int32))).2) ?_
      show Steps p.tables e below (T4.setTop (mkF m 147 #[.val (.int p1), .val (.int p2), .val (.int p3), .val (.int (0 : Int32)), .val (.ref (ad 0)), .val (.int (1 : Int32)), .val (.int (p2 % (128 : Int32))), .val (.int (-50 : Int32)), .val (.long (((p2 % (128 : Int32)).toInt64) + (-50 : Int64))), .second] [])) t
      refine XS.iconst X4.here hx rfl (hb hby at_147) ?_
      show Steps p.tables e below (T4.setTop (mkF m 148 #[.val (.int p1), .val (.int p2), .val (.int p3), .val (.int (0 : Int32)), .val (.ref (ad 0)), .val (.int (1 : Int32)), .val (.int (p2 % (128 : Int32))), .val (.int (-50 : Int32)), .val (.long (((p2 % (128 : Int32)).toInt64) + (-50 : Int64))), .second] [(.int (1 : Int32))])) t
      refine XS.goto X4.here hx rfl (pc0 := 148) (pc' := 152) rfl (hb hby at_148) (by decide) (by decide) ?_
      exact k)
  obtain ⟨fs, hr, hrun, hended, hW, hsame⟩ := X4.leave (v := some (.int (1 : Int32))) (fun h => by rw [Bd.returns] at h; cases h)
  refine ⟨_, _, ch6 _ ?_, hrun, hended, _, _, rfl, ?_, ⟨_, rfl⟩, hW, hsame.mono (by decide) (by decide)⟩
  · show Steps p.tables e below (T4.setTop (mkF m 152 #[.val (.int p1), .val (.int p2), .val (.int p3), .val (.int (0 : Int32)), .val (.ref (ad 0)), .val (.int (1 : Int32)), .val (.int (p2 % (128 : Int32))), .val (.int (-50 : Int32)), .val (.long (((p2 % (128 : Int32)).toInt64) + (-50 : Int64))), .second] [(.int (1 : Int32))])) _
    exact retN X4 hx (t := .boolean) Bd.returns (by simp) (hb hby at_152) hr
  · show QN (some (.int (1 : Int32))) n0 _ T4.heap _
    rw [e4]
    exact ⟨rfl, N4⟩
theorem own_ef_own_law_01n (m : MethodId) {x0 : Int32} {x1 : Int32} {x2 : Int32} : entryFrame m #[(.int x0), (.int x1), (.int x2)] maxLocals = mkF m 0 #[.val (.int x0), .val (.int x1), .val (.int x2), .unset, .unset, .unset, .unset, .unset, .unset, .unset] [] := by first | (simp [entryFrame, mkF, argsToLocals, Value.category, maxLocals]; done) | rfl
set_option maxRecDepth 65536 in
set_option maxHeartbeats 40000000 in
theorem own_law_01n (l : Launch) (Z : State) (a0 : Array Value) (hw : ∀ d ∈ tables_1, d.before a0 Z = true) (ws : List Jvm.Cond) (h0 : Heap) (n0 : Nat) (Z0 : n0 ≤ h0.size) (p1 p2 p3 : Int32) (hk : (p1 &&& (2147483647 : Int32)) % (3 : Int32) = (0 : Int32)) (hm : p3 &&& (1 : Int32) = (1 : Int32)) (h1 : p2 < (0 : Int32)) (ad : Nat → Addr) (W : OwnWd Z h0 ad) :
    MetFree l x (head1 (Jvm.Cond.code x code maxLocals ret :: ws) room_1) (fun a U => a = #[(.int p1), (.int p2), (.int p3)] ∧ Z.Warmed39 U.vm ∧ U.heap = h0) (fun _ _ _ _ _ => True) (fun _ U o U' => ∃ v L, o = .returned v ∧ QN (some (.int (1 : Int32))) n0 v U'.heap L ∧ FrameEnd U o U' L room_1.cells room_1.slots) := by
  refine MetFree.of_bodySF (plainFor_of_name own_pn_com_example_isolint_isolint_bench_ChangeAddedToEachValuePinLaw) hisR ?_
  intro p e s m args below meth c s₁ Bd hml0 hP hK
  obtain ⟨rfl, hZ, hh⟩ := hP
  have hx := Bd.exec
  have hby := Bd.bytes
  have hml : c.maxLocals = 10 := hml0
  have hown : s.vm.findClass "com/example/isolint/isolint/bench/ChangeAddedToEachValuePinLaw" = some m.cls := findClass_of_methodNamed Bd.named
  have hnm := (name_of_methodNamed Bd.named Bd.method).1
  have X0 : Stand p l e room_1 s m #[(.int p1), (.int p2), (.int p3)] below meth c s₁ [] 0 0 := Stand.of_body Bd
  have e0 : s₁.heap = h0 := by rw [← hh, Bd.state]; rfl
  have N0 := Fr.nil n0
  have pre0 : ∀ t, Steps p.tables e below (s₁.setTop (mkF m 0 #[.val (.int p1), .val (.int p2), .val (.int p3), .unset, .unset, .unset, .unset, .unset, .unset, .unset] [])) t → Steps p.tables e below (s₁.setTop (entryFrame m #[(.int p1), (.int p2), (.int p3)] maxLocals)) t := fun t k => castTop (own_ef_own_law_01n m) k
  obtain ⟨T1, X1, e1, st1⟩ := getS2 X0 hx hZ hown (host := "") (Or.inl (hw _ (List.mem_of_getElem? (i := 1) rfl))) Via.refl e0 (own_S_CHANGE_A W) (g := (mkF m 11 #[.val (.int p1), .val (.int p2), .val (.int p3), .val (.int (0 : Int32)), .unset, .unset, .unset, .unset, .unset, .unset] [])) rfl (hb hby at_11)
  have ch2 : ∀ t, Steps p.tables e below (T1.setTop (mkF m 14 #[.val (.int p1), .val (.int p2), .val (.int p3), .val (.int (0 : Int32)), .unset, .unset, .unset, .unset, .unset, .unset] [(.ref (ad 0))])) t → Steps p.tables e below (s₁.setTop (entryFrame m #[(.int p1), (.int p2), (.int p3)] maxLocals)) t := fun t k => pre0 t (by
      show Steps p.tables e below (s₁.setTop (mkF m 0 #[.val (.int p1), .val (.int p2), .val (.int p3), .unset, .unset, .unset, .unset, .unset, .unset, .unset] [])) t
      refine XS.iloadN X0.here hx rfl (hb hby at_0) rfl ?_
      show Steps p.tables e below (s₁.setTop (mkF m 1 #[.val (.int p1), .val (.int p2), .val (.int p3), .unset, .unset, .unset, .unset, .unset, .unset, .unset] [(.int p1)])) t
      refine X0.ldcInt hx hown (mvT hZ (hw _ (List.mem_of_getElem? (i := 0) rfl))) (g := (mkF m 1 #[.val (.int p1), .val (.int p2), .val (.int p3), .unset, .unset, .unset, .unset, .unset, .unset, .unset] [(.int p1)])) rfl (hb hby at_1) _ ?_
      show Steps p.tables e below (s₁.setTop (mkF m 3 #[.val (.int p1), .val (.int p2), .val (.int p3), .unset, .unset, .unset, .unset, .unset, .unset, .unset] [(.int (2147483647 : Int32)), (.int p1)])) t
      refine XS.iand X0.here hx rfl (hb hby at_3) rfl ?_
      show Steps p.tables e below (s₁.setTop (mkF m 4 #[.val (.int p1), .val (.int p2), .val (.int p3), .unset, .unset, .unset, .unset, .unset, .unset, .unset] [(.int (p1 &&& (2147483647 : Int32)))])) t
      refine XS.iconst X0.here hx rfl (hb hby at_4) ?_
      show Steps p.tables e below (s₁.setTop (mkF m 5 #[.val (.int p1), .val (.int p2), .val (.int p3), .unset, .unset, .unset, .unset, .unset, .unset, .unset] [(.int (3 : Int32)), (.int (p1 &&& (2147483647 : Int32)))])) t
      refine Jvm.RoadKit.iremM (g := (mkF m 5 #[.val (.int p1), .val (.int p2), .val (.int p3), .unset, .unset, .unset, .unset, .unset, .unset, .unset] [(.int (3 : Int32)), (.int (p1 &&& (2147483647 : Int32)))])) X0 hx rfl (hb hby at_5) rfl (by decide) ?_
      rw [hk]
      show Steps p.tables e below (s₁.setTop (mkF m 6 #[.val (.int p1), .val (.int p2), .val (.int p3), .unset, .unset, .unset, .unset, .unset, .unset, .unset] [(.int (0 : Int32))])) t
      refine XS.istoreN X0.here hx rfl (hb hby at_6) rfl (l' := #[.val (.int p1), .val (.int p2), .val (.int p3), .val (.int (0 : Int32)), .unset, .unset, .unset, .unset, .unset, .unset]) rfl ?_
      show Steps p.tables e below (s₁.setTop (mkF m 7 #[.val (.int p1), .val (.int p2), .val (.int p3), .val (.int (0 : Int32)), .unset, .unset, .unset, .unset, .unset, .unset] [])) t
      refine XS.iloadN X0.here hx rfl (hb hby at_7) rfl ?_
      show Steps p.tables e below (s₁.setTop (mkF m 8 #[.val (.int p1), .val (.int p2), .val (.int p3), .val (.int (0 : Int32)), .unset, .unset, .unset, .unset, .unset, .unset] [(.int (0 : Int32))])) t
      refine XS.ifNo X0.here hx rfl (hb hby at_8) rfl ((if0 _ _).trans (teq (by decide : (0 : Int32) = (0 : Int32))).2) ?_
      show Steps p.tables e below (s₁.setTop (mkF m 11 #[.val (.int p1), .val (.int p2), .val (.int p3), .val (.int (0 : Int32)), .unset, .unset, .unset, .unset, .unset, .unset] [])) t
      exact st1 t k)
  obtain ⟨cq3, kq3, qa3, qb3, qc3⟩ := isOf hZ e1 (own_E_CHANGE_A W)
  obtain ⟨vv4, _, ⟨T4, L4, kk4, nn4⟩, -, X4, ⟨Lc4, hQ4, l4, y4, z4⟩, st4⟩ := X1.virtualBack hx (y := (⟨"com/example/isolint/isolint/bench/Change", "addedToEachValue", "(I)I"⟩ : MethodName)) (z := (⟨"com/example/isolint/isolint/bench/Change", "addedToEachValue", "(I)I"⟩ : MethodName)) hown (mvT hZ (hw _ (List.mem_of_getElem? (i := 4) rfl))) (mvT hZ (hw _ (List.mem_of_getElem? (i := 5) rfl))) (notFace_of_selects (args := #[]) (mvT hZ (hw _ (List.mem_of_getElem? (i := 7) rfl)))) (mvT hZ (hw _ (List.mem_of_getElem? (i := 7) rfl))) (mvT hZ (hw _ (List.mem_of_getElem? (i := 6) rfl))) (by decide) (backOf (W := 0) (own_add_0n l Z a0 hw [] h0 n0 Z0  p2 h1 ad W) hZ (hw _ (List.mem_of_getElem? (i := 8) rfl)) (hw _ (List.mem_of_getElem? (i := 2) rfl)) (by decide) (by decide)) qa3 qc3 (g := (mkF m 67 #[.val (.int p1), .val (.int p2), .val (.int p3), .val (.int (0 : Int32)), .val (.ref (ad 0)), .val (.int (1 : Int32)), .val (.int p2), .unset, .unset, .unset] [(.int p2), (.ref (ad 0))])) rfl (by rw [hml]; rfl) (Steps.refl _) (argsL := [(.int p2)]) (rest := []) (lenOf own_pd__I_I rfl) rfl (by show 2 * 0 + _ ≤ _; exact Nat.le_of_eq rfl) (hb hby at_67) (fun _ _ => ⟨rfl, e1, (by decide : 0 + 0 ≤ _), (by decide : 0 + 0 ≤ _)⟩)
  dsimp only [Pt.U, Pt.locs, Pt.cells, Pt.slots] at X4 l4 y4 z4 st4 hQ4
  subst l4 y4 z4
  obtain ⟨rfl, Nq4, e4⟩ := hQ4
  have N4 := Fr.app N0 Nq4
  have ch5 : ∀ t, Steps p.tables e below (T4.setTop (mkF m 70 #[.val (.int p1), .val (.int p2), .val (.int p3), .val (.int (0 : Int32)), .val (.ref (ad 0)), .val (.int (1 : Int32)), .val (.int p2), .unset, .unset, .unset] [(.int (0 : Int32))])) t → Steps p.tables e below (s₁.setTop (entryFrame m #[(.int p1), (.int p2), (.int p3)] maxLocals)) t := fun t k => ch2 t (by
      show Steps p.tables e below (T1.setTop (mkF m 14 #[.val (.int p1), .val (.int p2), .val (.int p3), .val (.int (0 : Int32)), .unset, .unset, .unset, .unset, .unset, .unset] [(.ref (ad 0))])) t
      refine XS.astore X1.here hx rfl (hb hby at_14) rfl rfl (l' := #[.val (.int p1), .val (.int p2), .val (.int p3), .val (.int (0 : Int32)), .val (.ref (ad 0)), .unset, .unset, .unset, .unset, .unset]) rfl ?_
      show Steps p.tables e below (T1.setTop (mkF m 16 #[.val (.int p1), .val (.int p2), .val (.int p3), .val (.int (0 : Int32)), .val (.ref (ad 0)), .unset, .unset, .unset, .unset, .unset] [])) t
      refine XS.iconst X1.here hx rfl (hb hby at_16) ?_
      show Steps p.tables e below (T1.setTop (mkF m 17 #[.val (.int p1), .val (.int p2), .val (.int p3), .val (.int (0 : Int32)), .val (.ref (ad 0)), .unset, .unset, .unset, .unset, .unset] [(.int (1 : Int32))])) t
      refine XS.istore X1.here hx rfl (hb hby at_17) rfl (l' := #[.val (.int p1), .val (.int p2), .val (.int p3), .val (.int (0 : Int32)), .val (.ref (ad 0)), .val (.int (1 : Int32)), .unset, .unset, .unset, .unset]) rfl ?_
      show Steps p.tables e below (T1.setTop (mkF m 19 #[.val (.int p1), .val (.int p2), .val (.int p3), .val (.int (0 : Int32)), .val (.ref (ad 0)), .val (.int (1 : Int32)), .unset, .unset, .unset, .unset] [])) t
      refine XS.goto X1.here hx rfl (pc0 := 19) (pc' := 46) rfl (hb hby at_19) (by decide) (by decide) ?_
      show Steps p.tables e below (T1.setTop (mkF m 46 #[.val (.int p1), .val (.int p2), .val (.int p3), .val (.int (0 : Int32)), .val (.ref (ad 0)), .val (.int (1 : Int32)), .unset, .unset, .unset, .unset] [])) t
      refine XS.iloadN X1.here hx rfl (hb hby at_46) rfl ?_
      show Steps p.tables e below (T1.setTop (mkF m 47 #[.val (.int p1), .val (.int p2), .val (.int p3), .val (.int (0 : Int32)), .val (.ref (ad 0)), .val (.int (1 : Int32)), .unset, .unset, .unset, .unset] [(.int p3)])) t
      refine XS.iconst X1.here hx rfl (hb hby at_47) ?_
      show Steps p.tables e below (T1.setTop (mkF m 48 #[.val (.int p1), .val (.int p2), .val (.int p3), .val (.int (0 : Int32)), .val (.ref (ad 0)), .val (.int (1 : Int32)), .unset, .unset, .unset, .unset] [(.int (1 : Int32)), (.int p3)])) t
      refine XS.iand X1.here hx rfl (hb hby at_48) rfl ?_
      rw [hm]
      show Steps p.tables e below (T1.setTop (mkF m 49 #[.val (.int p1), .val (.int p2), .val (.int p3), .val (.int (0 : Int32)), .val (.ref (ad 0)), .val (.int (1 : Int32)), .unset, .unset, .unset, .unset] [(.int (1 : Int32))])) t
      refine XS.ifNo X1.here hx rfl (hb hby at_49) rfl ((if0 _ _).trans (feq (by decide : ¬ (1 : Int32) = (0 : Int32))).1) ?_
      show Steps p.tables e below (T1.setTop (mkF m 52 #[.val (.int p1), .val (.int p2), .val (.int p3), .val (.int (0 : Int32)), .val (.ref (ad 0)), .val (.int (1 : Int32)), .unset, .unset, .unset, .unset] [])) t
      refine XS.iloadN X1.here hx rfl (hb hby at_52) rfl ?_
      show Steps p.tables e below (T1.setTop (mkF m 53 #[.val (.int p1), .val (.int p2), .val (.int p3), .val (.int (0 : Int32)), .val (.ref (ad 0)), .val (.int (1 : Int32)), .unset, .unset, .unset, .unset] [(.int p2)])) t
      refine XS.goto X1.here hx rfl (pc0 := 53) (pc' := 61) rfl (hb hby at_53) (by decide) (by decide) ?_
      show Steps p.tables e below (T1.setTop (mkF m 61 #[.val (.int p1), .val (.int p2), .val (.int p3), .val (.int (0 : Int32)), .val (.ref (ad 0)), .val (.int (1 : Int32)), .unset, .unset, .unset, .unset] [(.int p2)])) t
      refine XS.istore X1.here hx rfl (hb hby at_61) rfl (l' := #[.val (.int p1), .val (.int p2), .val (.int p3), .val (.int (0 : Int32)), .val (.ref (ad 0)), .val (.int (1 : Int32)), .val (.int p2), .unset, .unset, .unset]) rfl ?_
      show Steps p.tables e below (T1.setTop (mkF m 63 #[.val (.int p1), .val (.int p2), .val (.int p3), .val (.int (0 : Int32)), .val (.ref (ad 0)), .val (.int (1 : Int32)), .val (.int p2), .unset, .unset, .unset] [])) t
      refine XS.aload X1.here hx rfl (hb hby at_63) rfl rfl ?_
      show Steps p.tables e below (T1.setTop (mkF m 65 #[.val (.int p1), .val (.int p2), .val (.int p3), .val (.int (0 : Int32)), .val (.ref (ad 0)), .val (.int (1 : Int32)), .val (.int p2), .unset, .unset, .unset] [(.ref (ad 0))])) t
      refine XS.iload X1.here hx rfl (hb hby at_65) rfl ?_
      show Steps p.tables e below (T1.setTop (mkF m 67 #[.val (.int p1), .val (.int p2), .val (.int p3), .val (.int (0 : Int32)), .val (.ref (ad 0)), .val (.int (1 : Int32)), .val (.int p2), .unset, .unset, .unset] [(.int p2), (.ref (ad 0))])) t
      exact st4.trans k)
  have ch6 : ∀ t, Steps p.tables e below (T4.setTop (mkF m 94 #[.val (.int p1), .val (.int p2), .val (.int p3), .val (.int (0 : Int32)), .val (.ref (ad 0)), .val (.int (1 : Int32)), .val (.int p2), .val (.int (0 : Int32)), .unset, .unset] [(.int (1 : Int32))])) t → Steps p.tables e below (s₁.setTop (entryFrame m #[(.int p1), (.int p2), (.int p3)] maxLocals)) t := fun t k => ch5 t (by
      show Steps p.tables e below (T4.setTop (mkF m 70 #[.val (.int p1), .val (.int p2), .val (.int p3), .val (.int (0 : Int32)), .val (.ref (ad 0)), .val (.int (1 : Int32)), .val (.int p2), .unset, .unset, .unset] [(.int (0 : Int32))])) t
      refine XS.istore X4.here hx rfl (hb hby at_70) rfl (l' := #[.val (.int p1), .val (.int p2), .val (.int p3), .val (.int (0 : Int32)), .val (.ref (ad 0)), .val (.int (1 : Int32)), .val (.int p2), .val (.int (0 : Int32)), .unset, .unset]) rfl ?_
      show Steps p.tables e below (T4.setTop (mkF m 72 #[.val (.int p1), .val (.int p2), .val (.int p3), .val (.int (0 : Int32)), .val (.ref (ad 0)), .val (.int (1 : Int32)), .val (.int p2), .val (.int (0 : Int32)), .unset, .unset] [])) t
      refine XS.iload X4.here hx rfl (hb hby at_72) rfl ?_
      show Steps p.tables e below (T4.setTop (mkF m 74 #[.val (.int p1), .val (.int p2), .val (.int p3), .val (.int (0 : Int32)), .val (.ref (ad 0)), .val (.int (1 : Int32)), .val (.int p2), .val (.int (0 : Int32)), .unset, .unset] [(.int p2)])) t
      refine XS.ifYes X4.here hx rfl (pc0 := 74) (pc' := 84) rfl (hb hby at_74) rfl ((if0 _ _).trans (tlt h1).1) (by decide) (by decide) ?_
      show Steps p.tables e below (T4.setTop (mkF m 84 #[.val (.int p1), .val (.int p2), .val (.int p3), .val (.int (0 : Int32)), .val (.ref (ad 0)), .val (.int (1 : Int32)), .val (.int p2), .val (.int (0 : Int32)), .unset, .unset] [])) t
      refine XS.iload X4.here hx rfl (hb hby at_84) rfl ?_
      show Steps p.tables e below (T4.setTop (mkF m 86 #[.val (.int p1), .val (.int p2), .val (.int p3), .val (.int (0 : Int32)), .val (.ref (ad 0)), .val (.int (1 : Int32)), .val (.int p2), .val (.int (0 : Int32)), .unset, .unset] [(.int (0 : Int32))])) t
      refine XS.ifNo X4.here hx rfl (hb hby at_86) rfl ((if0 _ _).trans (teq (by decide : (0 : Int32) = (0 : Int32))).2) ?_
      show Steps p.tables e below (T4.setTop (mkF m 89 #[.val (.int p1), .val (.int p2), .val (.int p3), .val (.int (0 : Int32)), .val (.ref (ad 0)), .val (.int (1 : Int32)), .val (.int p2), .val (.int (0 : Int32)), .unset, .unset] [])) t
      refine XS.iconst X4.here hx rfl (hb hby at_89) ?_
      show Steps p.tables e below (T4.setTop (mkF m 90 #[.val (.int p1), .val (.int p2), .val (.int p3), .val (.int (0 : Int32)), .val (.ref (ad 0)), .val (.int (1 : Int32)), .val (.int p2), .val (.int (0 : Int32)), .unset, .unset] [(.int (1 : Int32))])) t
      refine XS.goto X4.here hx rfl (pc0 := 90) (pc' := 94) rfl (hb hby at_90) (by decide) (by decide) ?_
      exact k)
  obtain ⟨fs, hr, hrun, hended, hW, hsame⟩ := X4.leave (v := some (.int (1 : Int32))) (fun h => by rw [Bd.returns] at h; cases h)
  refine ⟨_, _, ch6 _ ?_, hrun, hended, _, _, rfl, ?_, ⟨_, rfl⟩, hW, hsame.mono (by decide) (by decide)⟩
  · show Steps p.tables e below (T4.setTop (mkF m 94 #[.val (.int p1), .val (.int p2), .val (.int p3), .val (.int (0 : Int32)), .val (.ref (ad 0)), .val (.int (1 : Int32)), .val (.int p2), .val (.int (0 : Int32)), .unset, .unset] [(.int (1 : Int32))])) _
    exact retN X4 hx (t := .boolean) Bd.returns (by simp) (hb hby at_94) hr
  · show QN (some (.int (1 : Int32))) n0 _ T4.heap _
    rw [e4]
    exact ⟨rfl, N4⟩
theorem own_ef_own_law_01g (m : MethodId) {x0 : Int32} {x1 : Int32} {x2 : Int32} : entryFrame m #[(.int x0), (.int x1), (.int x2)] maxLocals = mkF m 0 #[.val (.int x0), .val (.int x1), .val (.int x2), .unset, .unset, .unset, .unset, .unset, .unset, .unset] [] := by first | (simp [entryFrame, mkF, argsToLocals, Value.category, maxLocals]; done) | rfl
set_option maxRecDepth 65536 in
set_option maxHeartbeats 40000000 in
theorem own_law_01g (l : Launch) (Z : State) (a0 : Array Value) (hw : ∀ d ∈ tables_1, d.before a0 Z = true) (ws : List Jvm.Cond) (h0 : Heap) (n0 : Nat) (Z0 : n0 ≤ h0.size) (p1 p2 p3 : Int32) (hk : (p1 &&& (2147483647 : Int32)) % (3 : Int32) = (0 : Int32)) (hm : p3 &&& (1 : Int32) = (1 : Int32)) (h1 : ¬ p2 < (0 : Int32)) (h2 : (99 : Int32) < p2) (ad : Nat → Addr) (W : OwnWd Z h0 ad) :
    MetFree l x (head1 (Jvm.Cond.code x code maxLocals ret :: ws) room_1) (fun a U => a = #[(.int p1), (.int p2), (.int p3)] ∧ Z.Warmed39 U.vm ∧ U.heap = h0) (fun _ _ _ _ _ => True) (fun _ U o U' => ∃ v L, o = .returned v ∧ QN (some (.int (1 : Int32))) n0 v U'.heap L ∧ FrameEnd U o U' L room_1.cells room_1.slots) := by
  refine MetFree.of_bodySF (plainFor_of_name own_pn_com_example_isolint_isolint_bench_ChangeAddedToEachValuePinLaw) hisR ?_
  intro p e s m args below meth c s₁ Bd hml0 hP hK
  obtain ⟨rfl, hZ, hh⟩ := hP
  have hx := Bd.exec
  have hby := Bd.bytes
  have hml : c.maxLocals = 10 := hml0
  have hown : s.vm.findClass "com/example/isolint/isolint/bench/ChangeAddedToEachValuePinLaw" = some m.cls := findClass_of_methodNamed Bd.named
  have hnm := (name_of_methodNamed Bd.named Bd.method).1
  have X0 : Stand p l e room_1 s m #[(.int p1), (.int p2), (.int p3)] below meth c s₁ [] 0 0 := Stand.of_body Bd
  have e0 : s₁.heap = h0 := by rw [← hh, Bd.state]; rfl
  have N0 := Fr.nil n0
  have pre0 : ∀ t, Steps p.tables e below (s₁.setTop (mkF m 0 #[.val (.int p1), .val (.int p2), .val (.int p3), .unset, .unset, .unset, .unset, .unset, .unset, .unset] [])) t → Steps p.tables e below (s₁.setTop (entryFrame m #[(.int p1), (.int p2), (.int p3)] maxLocals)) t := fun t k => castTop (own_ef_own_law_01g m) k
  obtain ⟨T1, X1, e1, st1⟩ := getS2 X0 hx hZ hown (host := "") (Or.inl (hw _ (List.mem_of_getElem? (i := 1) rfl))) Via.refl e0 (own_S_CHANGE_A W) (g := (mkF m 11 #[.val (.int p1), .val (.int p2), .val (.int p3), .val (.int (0 : Int32)), .unset, .unset, .unset, .unset, .unset, .unset] [])) rfl (hb hby at_11)
  have ch2 : ∀ t, Steps p.tables e below (T1.setTop (mkF m 14 #[.val (.int p1), .val (.int p2), .val (.int p3), .val (.int (0 : Int32)), .unset, .unset, .unset, .unset, .unset, .unset] [(.ref (ad 0))])) t → Steps p.tables e below (s₁.setTop (entryFrame m #[(.int p1), (.int p2), (.int p3)] maxLocals)) t := fun t k => pre0 t (by
      show Steps p.tables e below (s₁.setTop (mkF m 0 #[.val (.int p1), .val (.int p2), .val (.int p3), .unset, .unset, .unset, .unset, .unset, .unset, .unset] [])) t
      refine XS.iloadN X0.here hx rfl (hb hby at_0) rfl ?_
      show Steps p.tables e below (s₁.setTop (mkF m 1 #[.val (.int p1), .val (.int p2), .val (.int p3), .unset, .unset, .unset, .unset, .unset, .unset, .unset] [(.int p1)])) t
      refine X0.ldcInt hx hown (mvT hZ (hw _ (List.mem_of_getElem? (i := 0) rfl))) (g := (mkF m 1 #[.val (.int p1), .val (.int p2), .val (.int p3), .unset, .unset, .unset, .unset, .unset, .unset, .unset] [(.int p1)])) rfl (hb hby at_1) _ ?_
      show Steps p.tables e below (s₁.setTop (mkF m 3 #[.val (.int p1), .val (.int p2), .val (.int p3), .unset, .unset, .unset, .unset, .unset, .unset, .unset] [(.int (2147483647 : Int32)), (.int p1)])) t
      refine XS.iand X0.here hx rfl (hb hby at_3) rfl ?_
      show Steps p.tables e below (s₁.setTop (mkF m 4 #[.val (.int p1), .val (.int p2), .val (.int p3), .unset, .unset, .unset, .unset, .unset, .unset, .unset] [(.int (p1 &&& (2147483647 : Int32)))])) t
      refine XS.iconst X0.here hx rfl (hb hby at_4) ?_
      show Steps p.tables e below (s₁.setTop (mkF m 5 #[.val (.int p1), .val (.int p2), .val (.int p3), .unset, .unset, .unset, .unset, .unset, .unset, .unset] [(.int (3 : Int32)), (.int (p1 &&& (2147483647 : Int32)))])) t
      refine Jvm.RoadKit.iremM (g := (mkF m 5 #[.val (.int p1), .val (.int p2), .val (.int p3), .unset, .unset, .unset, .unset, .unset, .unset, .unset] [(.int (3 : Int32)), (.int (p1 &&& (2147483647 : Int32)))])) X0 hx rfl (hb hby at_5) rfl (by decide) ?_
      rw [hk]
      show Steps p.tables e below (s₁.setTop (mkF m 6 #[.val (.int p1), .val (.int p2), .val (.int p3), .unset, .unset, .unset, .unset, .unset, .unset, .unset] [(.int (0 : Int32))])) t
      refine XS.istoreN X0.here hx rfl (hb hby at_6) rfl (l' := #[.val (.int p1), .val (.int p2), .val (.int p3), .val (.int (0 : Int32)), .unset, .unset, .unset, .unset, .unset, .unset]) rfl ?_
      show Steps p.tables e below (s₁.setTop (mkF m 7 #[.val (.int p1), .val (.int p2), .val (.int p3), .val (.int (0 : Int32)), .unset, .unset, .unset, .unset, .unset, .unset] [])) t
      refine XS.iloadN X0.here hx rfl (hb hby at_7) rfl ?_
      show Steps p.tables e below (s₁.setTop (mkF m 8 #[.val (.int p1), .val (.int p2), .val (.int p3), .val (.int (0 : Int32)), .unset, .unset, .unset, .unset, .unset, .unset] [(.int (0 : Int32))])) t
      refine XS.ifNo X0.here hx rfl (hb hby at_8) rfl ((if0 _ _).trans (teq (by decide : (0 : Int32) = (0 : Int32))).2) ?_
      show Steps p.tables e below (s₁.setTop (mkF m 11 #[.val (.int p1), .val (.int p2), .val (.int p3), .val (.int (0 : Int32)), .unset, .unset, .unset, .unset, .unset, .unset] [])) t
      exact st1 t k)
  obtain ⟨cq3, kq3, qa3, qb3, qc3⟩ := isOf hZ e1 (own_E_CHANGE_A W)
  obtain ⟨vv4, _, ⟨T4, L4, kk4, nn4⟩, -, X4, ⟨Lc4, hQ4, l4, y4, z4⟩, st4⟩ := X1.virtualBack hx (y := (⟨"com/example/isolint/isolint/bench/Change", "addedToEachValue", "(I)I"⟩ : MethodName)) (z := (⟨"com/example/isolint/isolint/bench/Change", "addedToEachValue", "(I)I"⟩ : MethodName)) hown (mvT hZ (hw _ (List.mem_of_getElem? (i := 4) rfl))) (mvT hZ (hw _ (List.mem_of_getElem? (i := 5) rfl))) (notFace_of_selects (args := #[]) (mvT hZ (hw _ (List.mem_of_getElem? (i := 7) rfl)))) (mvT hZ (hw _ (List.mem_of_getElem? (i := 7) rfl))) (mvT hZ (hw _ (List.mem_of_getElem? (i := 6) rfl))) (by decide) (backOf (W := 0) (own_add_0g l Z a0 hw [] h0 n0 Z0  p2 h1 h2 ad W) hZ (hw _ (List.mem_of_getElem? (i := 8) rfl)) (hw _ (List.mem_of_getElem? (i := 2) rfl)) (by decide) (by decide)) qa3 qc3 (g := (mkF m 67 #[.val (.int p1), .val (.int p2), .val (.int p3), .val (.int (0 : Int32)), .val (.ref (ad 0)), .val (.int (1 : Int32)), .val (.int p2), .unset, .unset, .unset] [(.int p2), (.ref (ad 0))])) rfl (by rw [hml]; rfl) (Steps.refl _) (argsL := [(.int p2)]) (rest := []) (lenOf own_pd__I_I rfl) rfl (by show 2 * 0 + _ ≤ _; exact Nat.le_of_eq rfl) (hb hby at_67) (fun _ _ => ⟨rfl, e1, (by decide : 0 + 0 ≤ _), (by decide : 0 + 0 ≤ _)⟩)
  dsimp only [Pt.U, Pt.locs, Pt.cells, Pt.slots] at X4 l4 y4 z4 st4 hQ4
  subst l4 y4 z4
  obtain ⟨rfl, Nq4, e4⟩ := hQ4
  have N4 := Fr.app N0 Nq4
  have ch5 : ∀ t, Steps p.tables e below (T4.setTop (mkF m 70 #[.val (.int p1), .val (.int p2), .val (.int p3), .val (.int (0 : Int32)), .val (.ref (ad 0)), .val (.int (1 : Int32)), .val (.int p2), .unset, .unset, .unset] [(.int (0 : Int32))])) t → Steps p.tables e below (s₁.setTop (entryFrame m #[(.int p1), (.int p2), (.int p3)] maxLocals)) t := fun t k => ch2 t (by
      show Steps p.tables e below (T1.setTop (mkF m 14 #[.val (.int p1), .val (.int p2), .val (.int p3), .val (.int (0 : Int32)), .unset, .unset, .unset, .unset, .unset, .unset] [(.ref (ad 0))])) t
      refine XS.astore X1.here hx rfl (hb hby at_14) rfl rfl (l' := #[.val (.int p1), .val (.int p2), .val (.int p3), .val (.int (0 : Int32)), .val (.ref (ad 0)), .unset, .unset, .unset, .unset, .unset]) rfl ?_
      show Steps p.tables e below (T1.setTop (mkF m 16 #[.val (.int p1), .val (.int p2), .val (.int p3), .val (.int (0 : Int32)), .val (.ref (ad 0)), .unset, .unset, .unset, .unset, .unset] [])) t
      refine XS.iconst X1.here hx rfl (hb hby at_16) ?_
      show Steps p.tables e below (T1.setTop (mkF m 17 #[.val (.int p1), .val (.int p2), .val (.int p3), .val (.int (0 : Int32)), .val (.ref (ad 0)), .unset, .unset, .unset, .unset, .unset] [(.int (1 : Int32))])) t
      refine XS.istore X1.here hx rfl (hb hby at_17) rfl (l' := #[.val (.int p1), .val (.int p2), .val (.int p3), .val (.int (0 : Int32)), .val (.ref (ad 0)), .val (.int (1 : Int32)), .unset, .unset, .unset, .unset]) rfl ?_
      show Steps p.tables e below (T1.setTop (mkF m 19 #[.val (.int p1), .val (.int p2), .val (.int p3), .val (.int (0 : Int32)), .val (.ref (ad 0)), .val (.int (1 : Int32)), .unset, .unset, .unset, .unset] [])) t
      refine XS.goto X1.here hx rfl (pc0 := 19) (pc' := 46) rfl (hb hby at_19) (by decide) (by decide) ?_
      show Steps p.tables e below (T1.setTop (mkF m 46 #[.val (.int p1), .val (.int p2), .val (.int p3), .val (.int (0 : Int32)), .val (.ref (ad 0)), .val (.int (1 : Int32)), .unset, .unset, .unset, .unset] [])) t
      refine XS.iloadN X1.here hx rfl (hb hby at_46) rfl ?_
      show Steps p.tables e below (T1.setTop (mkF m 47 #[.val (.int p1), .val (.int p2), .val (.int p3), .val (.int (0 : Int32)), .val (.ref (ad 0)), .val (.int (1 : Int32)), .unset, .unset, .unset, .unset] [(.int p3)])) t
      refine XS.iconst X1.here hx rfl (hb hby at_47) ?_
      show Steps p.tables e below (T1.setTop (mkF m 48 #[.val (.int p1), .val (.int p2), .val (.int p3), .val (.int (0 : Int32)), .val (.ref (ad 0)), .val (.int (1 : Int32)), .unset, .unset, .unset, .unset] [(.int (1 : Int32)), (.int p3)])) t
      refine XS.iand X1.here hx rfl (hb hby at_48) rfl ?_
      rw [hm]
      show Steps p.tables e below (T1.setTop (mkF m 49 #[.val (.int p1), .val (.int p2), .val (.int p3), .val (.int (0 : Int32)), .val (.ref (ad 0)), .val (.int (1 : Int32)), .unset, .unset, .unset, .unset] [(.int (1 : Int32))])) t
      refine XS.ifNo X1.here hx rfl (hb hby at_49) rfl ((if0 _ _).trans (feq (by decide : ¬ (1 : Int32) = (0 : Int32))).1) ?_
      show Steps p.tables e below (T1.setTop (mkF m 52 #[.val (.int p1), .val (.int p2), .val (.int p3), .val (.int (0 : Int32)), .val (.ref (ad 0)), .val (.int (1 : Int32)), .unset, .unset, .unset, .unset] [])) t
      refine XS.iloadN X1.here hx rfl (hb hby at_52) rfl ?_
      show Steps p.tables e below (T1.setTop (mkF m 53 #[.val (.int p1), .val (.int p2), .val (.int p3), .val (.int (0 : Int32)), .val (.ref (ad 0)), .val (.int (1 : Int32)), .unset, .unset, .unset, .unset] [(.int p2)])) t
      refine XS.goto X1.here hx rfl (pc0 := 53) (pc' := 61) rfl (hb hby at_53) (by decide) (by decide) ?_
      show Steps p.tables e below (T1.setTop (mkF m 61 #[.val (.int p1), .val (.int p2), .val (.int p3), .val (.int (0 : Int32)), .val (.ref (ad 0)), .val (.int (1 : Int32)), .unset, .unset, .unset, .unset] [(.int p2)])) t
      refine XS.istore X1.here hx rfl (hb hby at_61) rfl (l' := #[.val (.int p1), .val (.int p2), .val (.int p3), .val (.int (0 : Int32)), .val (.ref (ad 0)), .val (.int (1 : Int32)), .val (.int p2), .unset, .unset, .unset]) rfl ?_
      show Steps p.tables e below (T1.setTop (mkF m 63 #[.val (.int p1), .val (.int p2), .val (.int p3), .val (.int (0 : Int32)), .val (.ref (ad 0)), .val (.int (1 : Int32)), .val (.int p2), .unset, .unset, .unset] [])) t
      refine XS.aload X1.here hx rfl (hb hby at_63) rfl rfl ?_
      show Steps p.tables e below (T1.setTop (mkF m 65 #[.val (.int p1), .val (.int p2), .val (.int p3), .val (.int (0 : Int32)), .val (.ref (ad 0)), .val (.int (1 : Int32)), .val (.int p2), .unset, .unset, .unset] [(.ref (ad 0))])) t
      refine XS.iload X1.here hx rfl (hb hby at_65) rfl ?_
      show Steps p.tables e below (T1.setTop (mkF m 67 #[.val (.int p1), .val (.int p2), .val (.int p3), .val (.int (0 : Int32)), .val (.ref (ad 0)), .val (.int (1 : Int32)), .val (.int p2), .unset, .unset, .unset] [(.int p2), (.ref (ad 0))])) t
      exact st4.trans k)
  have ch6 : ∀ t, Steps p.tables e below (T4.setTop (mkF m 94 #[.val (.int p1), .val (.int p2), .val (.int p3), .val (.int (0 : Int32)), .val (.ref (ad 0)), .val (.int (1 : Int32)), .val (.int p2), .val (.int (0 : Int32)), .unset, .unset] [(.int (1 : Int32))])) t → Steps p.tables e below (s₁.setTop (entryFrame m #[(.int p1), (.int p2), (.int p3)] maxLocals)) t := fun t k => ch5 t (by
      show Steps p.tables e below (T4.setTop (mkF m 70 #[.val (.int p1), .val (.int p2), .val (.int p3), .val (.int (0 : Int32)), .val (.ref (ad 0)), .val (.int (1 : Int32)), .val (.int p2), .unset, .unset, .unset] [(.int (0 : Int32))])) t
      refine XS.istore X4.here hx rfl (hb hby at_70) rfl (l' := #[.val (.int p1), .val (.int p2), .val (.int p3), .val (.int (0 : Int32)), .val (.ref (ad 0)), .val (.int (1 : Int32)), .val (.int p2), .val (.int (0 : Int32)), .unset, .unset]) rfl ?_
      show Steps p.tables e below (T4.setTop (mkF m 72 #[.val (.int p1), .val (.int p2), .val (.int p3), .val (.int (0 : Int32)), .val (.ref (ad 0)), .val (.int (1 : Int32)), .val (.int p2), .val (.int (0 : Int32)), .unset, .unset] [])) t
      refine XS.iload X4.here hx rfl (hb hby at_72) rfl ?_
      show Steps p.tables e below (T4.setTop (mkF m 74 #[.val (.int p1), .val (.int p2), .val (.int p3), .val (.int (0 : Int32)), .val (.ref (ad 0)), .val (.int (1 : Int32)), .val (.int p2), .val (.int (0 : Int32)), .unset, .unset] [(.int p2)])) t
      refine XS.ifNo X4.here hx rfl (hb hby at_74) rfl ((if0 _ _).trans (flt h1).1) ?_
      show Steps p.tables e below (T4.setTop (mkF m 77 #[.val (.int p1), .val (.int p2), .val (.int p3), .val (.int (0 : Int32)), .val (.ref (ad 0)), .val (.int (1 : Int32)), .val (.int p2), .val (.int (0 : Int32)), .unset, .unset] [])) t
      refine XS.iload X4.here hx rfl (hb hby at_77) rfl ?_
      show Steps p.tables e below (T4.setTop (mkF m 79 #[.val (.int p1), .val (.int p2), .val (.int p3), .val (.int (0 : Int32)), .val (.ref (ad 0)), .val (.int (1 : Int32)), .val (.int p2), .val (.int (0 : Int32)), .unset, .unset] [(.int p2)])) t
      refine XS.bipush X4.here hx rfl (hb hby at_79) ?_
      show Steps p.tables e below (T4.setTop (mkF m 81 #[.val (.int p1), .val (.int p2), .val (.int p3), .val (.int (0 : Int32)), .val (.ref (ad 0)), .val (.int (1 : Int32)), .val (.int p2), .val (.int (0 : Int32)), .unset, .unset] [(.int (99 : Int32)), (.int p2)])) t
      refine XS.icmpNo X4.here hx rfl (hb hby at_81) rfl (tlt h2).2.2.2 ?_
      show Steps p.tables e below (T4.setTop (mkF m 84 #[.val (.int p1), .val (.int p2), .val (.int p3), .val (.int (0 : Int32)), .val (.ref (ad 0)), .val (.int (1 : Int32)), .val (.int p2), .val (.int (0 : Int32)), .unset, .unset] [])) t
      refine XS.iload X4.here hx rfl (hb hby at_84) rfl ?_
      show Steps p.tables e below (T4.setTop (mkF m 86 #[.val (.int p1), .val (.int p2), .val (.int p3), .val (.int (0 : Int32)), .val (.ref (ad 0)), .val (.int (1 : Int32)), .val (.int p2), .val (.int (0 : Int32)), .unset, .unset] [(.int (0 : Int32))])) t
      refine XS.ifNo X4.here hx rfl (hb hby at_86) rfl ((if0 _ _).trans (teq (by decide : (0 : Int32) = (0 : Int32))).2) ?_
      show Steps p.tables e below (T4.setTop (mkF m 89 #[.val (.int p1), .val (.int p2), .val (.int p3), .val (.int (0 : Int32)), .val (.ref (ad 0)), .val (.int (1 : Int32)), .val (.int p2), .val (.int (0 : Int32)), .unset, .unset] [])) t
      refine XS.iconst X4.here hx rfl (hb hby at_89) ?_
      show Steps p.tables e below (T4.setTop (mkF m 90 #[.val (.int p1), .val (.int p2), .val (.int p3), .val (.int (0 : Int32)), .val (.ref (ad 0)), .val (.int (1 : Int32)), .val (.int p2), .val (.int (0 : Int32)), .unset, .unset] [(.int (1 : Int32))])) t
      refine XS.goto X4.here hx rfl (pc0 := 90) (pc' := 94) rfl (hb hby at_90) (by decide) (by decide) ?_
      exact k)
  obtain ⟨fs, hr, hrun, hended, hW, hsame⟩ := X4.leave (v := some (.int (1 : Int32))) (fun h => by rw [Bd.returns] at h; cases h)
  refine ⟨_, _, ch6 _ ?_, hrun, hended, _, _, rfl, ?_, ⟨_, rfl⟩, hW, hsame.mono (by decide) (by decide)⟩
  · show Steps p.tables e below (T4.setTop (mkF m 94 #[.val (.int p1), .val (.int p2), .val (.int p3), .val (.int (0 : Int32)), .val (.ref (ad 0)), .val (.int (1 : Int32)), .val (.int p2), .val (.int (0 : Int32)), .unset, .unset] [(.int (1 : Int32))])) _
    exact retN X4 hx (t := .boolean) Bd.returns (by simp) (hb hby at_94) hr
  · show QN (some (.int (1 : Int32))) n0 _ T4.heap _
    rw [e4]
    exact ⟨rfl, N4⟩
theorem own_ef_own_law_01l (m : MethodId) {x0 : Int32} {x1 : Int32} {x2 : Int32} : entryFrame m #[(.int x0), (.int x1), (.int x2)] maxLocals = mkF m 0 #[.val (.int x0), .val (.int x1), .val (.int x2), .unset, .unset, .unset, .unset, .unset, .unset, .unset] [] := by first | (simp [entryFrame, mkF, argsToLocals, Value.category, maxLocals]; done) | rfl
set_option maxRecDepth 65536 in
set_option maxHeartbeats 40000000 in
theorem own_law_01l (l : Launch) (Z : State) (a0 : Array Value) (hw : ∀ d ∈ tables_1, d.before a0 Z = true) (ws : List Jvm.Cond) (h0 : Heap) (n0 : Nat) (Z0 : n0 ≤ h0.size) (p1 p2 p3 : Int32) (hk : (p1 &&& (2147483647 : Int32)) % (3 : Int32) = (0 : Int32)) (hm : p3 &&& (1 : Int32) = (1 : Int32)) (h1 : ¬ p2 < (0 : Int32)) (h2 : ¬ (99 : Int32) < p2) (h3 : p2 < (50 : Int32)) (ad : Nat → Addr) (W : OwnWd Z h0 ad) :
    MetFree l x (head1 (Jvm.Cond.code x code maxLocals ret :: ws) room_1) (fun a U => a = #[(.int p1), (.int p2), (.int p3)] ∧ Z.Warmed39 U.vm ∧ U.heap = h0) (fun _ _ _ _ _ => True) (fun _ U o U' => ∃ v L, o = .returned v ∧ QN (some (.int (1 : Int32))) n0 v U'.heap L ∧ FrameEnd U o U' L room_1.cells room_1.slots) := by
  refine MetFree.of_bodySF (plainFor_of_name own_pn_com_example_isolint_isolint_bench_ChangeAddedToEachValuePinLaw) hisR ?_
  intro p e s m args below meth c s₁ Bd hml0 hP hK
  obtain ⟨rfl, hZ, hh⟩ := hP
  have hx := Bd.exec
  have hby := Bd.bytes
  have hml : c.maxLocals = 10 := hml0
  have hown : s.vm.findClass "com/example/isolint/isolint/bench/ChangeAddedToEachValuePinLaw" = some m.cls := findClass_of_methodNamed Bd.named
  have hnm := (name_of_methodNamed Bd.named Bd.method).1
  have X0 : Stand p l e room_1 s m #[(.int p1), (.int p2), (.int p3)] below meth c s₁ [] 0 0 := Stand.of_body Bd
  have e0 : s₁.heap = h0 := by rw [← hh, Bd.state]; rfl
  have N0 := Fr.nil n0
  have pre0 : ∀ t, Steps p.tables e below (s₁.setTop (mkF m 0 #[.val (.int p1), .val (.int p2), .val (.int p3), .unset, .unset, .unset, .unset, .unset, .unset, .unset] [])) t → Steps p.tables e below (s₁.setTop (entryFrame m #[(.int p1), (.int p2), (.int p3)] maxLocals)) t := fun t k => castTop (own_ef_own_law_01l m) k
  obtain ⟨T1, X1, e1, st1⟩ := getS2 X0 hx hZ hown (host := "") (Or.inl (hw _ (List.mem_of_getElem? (i := 1) rfl))) Via.refl e0 (own_S_CHANGE_A W) (g := (mkF m 11 #[.val (.int p1), .val (.int p2), .val (.int p3), .val (.int (0 : Int32)), .unset, .unset, .unset, .unset, .unset, .unset] [])) rfl (hb hby at_11)
  have ch2 : ∀ t, Steps p.tables e below (T1.setTop (mkF m 14 #[.val (.int p1), .val (.int p2), .val (.int p3), .val (.int (0 : Int32)), .unset, .unset, .unset, .unset, .unset, .unset] [(.ref (ad 0))])) t → Steps p.tables e below (s₁.setTop (entryFrame m #[(.int p1), (.int p2), (.int p3)] maxLocals)) t := fun t k => pre0 t (by
      show Steps p.tables e below (s₁.setTop (mkF m 0 #[.val (.int p1), .val (.int p2), .val (.int p3), .unset, .unset, .unset, .unset, .unset, .unset, .unset] [])) t
      refine XS.iloadN X0.here hx rfl (hb hby at_0) rfl ?_
      show Steps p.tables e below (s₁.setTop (mkF m 1 #[.val (.int p1), .val (.int p2), .val (.int p3), .unset, .unset, .unset, .unset, .unset, .unset, .unset] [(.int p1)])) t
      refine X0.ldcInt hx hown (mvT hZ (hw _ (List.mem_of_getElem? (i := 0) rfl))) (g := (mkF m 1 #[.val (.int p1), .val (.int p2), .val (.int p3), .unset, .unset, .unset, .unset, .unset, .unset, .unset] [(.int p1)])) rfl (hb hby at_1) _ ?_
      show Steps p.tables e below (s₁.setTop (mkF m 3 #[.val (.int p1), .val (.int p2), .val (.int p3), .unset, .unset, .unset, .unset, .unset, .unset, .unset] [(.int (2147483647 : Int32)), (.int p1)])) t
      refine XS.iand X0.here hx rfl (hb hby at_3) rfl ?_
      show Steps p.tables e below (s₁.setTop (mkF m 4 #[.val (.int p1), .val (.int p2), .val (.int p3), .unset, .unset, .unset, .unset, .unset, .unset, .unset] [(.int (p1 &&& (2147483647 : Int32)))])) t
      refine XS.iconst X0.here hx rfl (hb hby at_4) ?_
      show Steps p.tables e below (s₁.setTop (mkF m 5 #[.val (.int p1), .val (.int p2), .val (.int p3), .unset, .unset, .unset, .unset, .unset, .unset, .unset] [(.int (3 : Int32)), (.int (p1 &&& (2147483647 : Int32)))])) t
      refine Jvm.RoadKit.iremM (g := (mkF m 5 #[.val (.int p1), .val (.int p2), .val (.int p3), .unset, .unset, .unset, .unset, .unset, .unset, .unset] [(.int (3 : Int32)), (.int (p1 &&& (2147483647 : Int32)))])) X0 hx rfl (hb hby at_5) rfl (by decide) ?_
      rw [hk]
      show Steps p.tables e below (s₁.setTop (mkF m 6 #[.val (.int p1), .val (.int p2), .val (.int p3), .unset, .unset, .unset, .unset, .unset, .unset, .unset] [(.int (0 : Int32))])) t
      refine XS.istoreN X0.here hx rfl (hb hby at_6) rfl (l' := #[.val (.int p1), .val (.int p2), .val (.int p3), .val (.int (0 : Int32)), .unset, .unset, .unset, .unset, .unset, .unset]) rfl ?_
      show Steps p.tables e below (s₁.setTop (mkF m 7 #[.val (.int p1), .val (.int p2), .val (.int p3), .val (.int (0 : Int32)), .unset, .unset, .unset, .unset, .unset, .unset] [])) t
      refine XS.iloadN X0.here hx rfl (hb hby at_7) rfl ?_
      show Steps p.tables e below (s₁.setTop (mkF m 8 #[.val (.int p1), .val (.int p2), .val (.int p3), .val (.int (0 : Int32)), .unset, .unset, .unset, .unset, .unset, .unset] [(.int (0 : Int32))])) t
      refine XS.ifNo X0.here hx rfl (hb hby at_8) rfl ((if0 _ _).trans (teq (by decide : (0 : Int32) = (0 : Int32))).2) ?_
      show Steps p.tables e below (s₁.setTop (mkF m 11 #[.val (.int p1), .val (.int p2), .val (.int p3), .val (.int (0 : Int32)), .unset, .unset, .unset, .unset, .unset, .unset] [])) t
      exact st1 t k)
  obtain ⟨cq3, kq3, qa3, qb3, qc3⟩ := isOf hZ e1 (own_E_CHANGE_A W)
  obtain ⟨vv4, _, ⟨T4, L4, kk4, nn4⟩, -, X4, ⟨Lc4, hQ4, l4, y4, z4⟩, st4⟩ := X1.virtualBack hx (y := (⟨"com/example/isolint/isolint/bench/Change", "addedToEachValue", "(I)I"⟩ : MethodName)) (z := (⟨"com/example/isolint/isolint/bench/Change", "addedToEachValue", "(I)I"⟩ : MethodName)) hown (mvT hZ (hw _ (List.mem_of_getElem? (i := 4) rfl))) (mvT hZ (hw _ (List.mem_of_getElem? (i := 5) rfl))) (notFace_of_selects (args := #[]) (mvT hZ (hw _ (List.mem_of_getElem? (i := 7) rfl)))) (mvT hZ (hw _ (List.mem_of_getElem? (i := 7) rfl))) (mvT hZ (hw _ (List.mem_of_getElem? (i := 6) rfl))) (by decide) (backOf (W := 0) (own_add_0l l Z a0 hw [] h0 n0 Z0  p2 h1 h2 h3 ad W) hZ (hw _ (List.mem_of_getElem? (i := 8) rfl)) (hw _ (List.mem_of_getElem? (i := 2) rfl)) (by decide) (by decide)) qa3 qc3 (g := (mkF m 67 #[.val (.int p1), .val (.int p2), .val (.int p3), .val (.int (0 : Int32)), .val (.ref (ad 0)), .val (.int (1 : Int32)), .val (.int p2), .unset, .unset, .unset] [(.int p2), (.ref (ad 0))])) rfl (by rw [hml]; rfl) (Steps.refl _) (argsL := [(.int p2)]) (rest := []) (lenOf own_pd__I_I rfl) rfl (by show 2 * 0 + _ ≤ _; exact Nat.le_of_eq rfl) (hb hby at_67) (fun _ _ => ⟨rfl, e1, (by decide : 0 + 0 ≤ _), (by decide : 0 + 0 ≤ _)⟩)
  dsimp only [Pt.U, Pt.locs, Pt.cells, Pt.slots] at X4 l4 y4 z4 st4 hQ4
  subst l4 y4 z4
  obtain ⟨rfl, Nq4, e4⟩ := hQ4
  have N4 := Fr.app N0 Nq4
  have ch5 : ∀ t, Steps p.tables e below (T4.setTop (mkF m 70 #[.val (.int p1), .val (.int p2), .val (.int p3), .val (.int (0 : Int32)), .val (.ref (ad 0)), .val (.int (1 : Int32)), .val (.int p2), .unset, .unset, .unset] [(.int (50 : Int32))])) t → Steps p.tables e below (s₁.setTop (entryFrame m #[(.int p1), (.int p2), (.int p3)] maxLocals)) t := fun t k => ch2 t (by
      show Steps p.tables e below (T1.setTop (mkF m 14 #[.val (.int p1), .val (.int p2), .val (.int p3), .val (.int (0 : Int32)), .unset, .unset, .unset, .unset, .unset, .unset] [(.ref (ad 0))])) t
      refine XS.astore X1.here hx rfl (hb hby at_14) rfl rfl (l' := #[.val (.int p1), .val (.int p2), .val (.int p3), .val (.int (0 : Int32)), .val (.ref (ad 0)), .unset, .unset, .unset, .unset, .unset]) rfl ?_
      show Steps p.tables e below (T1.setTop (mkF m 16 #[.val (.int p1), .val (.int p2), .val (.int p3), .val (.int (0 : Int32)), .val (.ref (ad 0)), .unset, .unset, .unset, .unset, .unset] [])) t
      refine XS.iconst X1.here hx rfl (hb hby at_16) ?_
      show Steps p.tables e below (T1.setTop (mkF m 17 #[.val (.int p1), .val (.int p2), .val (.int p3), .val (.int (0 : Int32)), .val (.ref (ad 0)), .unset, .unset, .unset, .unset, .unset] [(.int (1 : Int32))])) t
      refine XS.istore X1.here hx rfl (hb hby at_17) rfl (l' := #[.val (.int p1), .val (.int p2), .val (.int p3), .val (.int (0 : Int32)), .val (.ref (ad 0)), .val (.int (1 : Int32)), .unset, .unset, .unset, .unset]) rfl ?_
      show Steps p.tables e below (T1.setTop (mkF m 19 #[.val (.int p1), .val (.int p2), .val (.int p3), .val (.int (0 : Int32)), .val (.ref (ad 0)), .val (.int (1 : Int32)), .unset, .unset, .unset, .unset] [])) t
      refine XS.goto X1.here hx rfl (pc0 := 19) (pc' := 46) rfl (hb hby at_19) (by decide) (by decide) ?_
      show Steps p.tables e below (T1.setTop (mkF m 46 #[.val (.int p1), .val (.int p2), .val (.int p3), .val (.int (0 : Int32)), .val (.ref (ad 0)), .val (.int (1 : Int32)), .unset, .unset, .unset, .unset] [])) t
      refine XS.iloadN X1.here hx rfl (hb hby at_46) rfl ?_
      show Steps p.tables e below (T1.setTop (mkF m 47 #[.val (.int p1), .val (.int p2), .val (.int p3), .val (.int (0 : Int32)), .val (.ref (ad 0)), .val (.int (1 : Int32)), .unset, .unset, .unset, .unset] [(.int p3)])) t
      refine XS.iconst X1.here hx rfl (hb hby at_47) ?_
      show Steps p.tables e below (T1.setTop (mkF m 48 #[.val (.int p1), .val (.int p2), .val (.int p3), .val (.int (0 : Int32)), .val (.ref (ad 0)), .val (.int (1 : Int32)), .unset, .unset, .unset, .unset] [(.int (1 : Int32)), (.int p3)])) t
      refine XS.iand X1.here hx rfl (hb hby at_48) rfl ?_
      rw [hm]
      show Steps p.tables e below (T1.setTop (mkF m 49 #[.val (.int p1), .val (.int p2), .val (.int p3), .val (.int (0 : Int32)), .val (.ref (ad 0)), .val (.int (1 : Int32)), .unset, .unset, .unset, .unset] [(.int (1 : Int32))])) t
      refine XS.ifNo X1.here hx rfl (hb hby at_49) rfl ((if0 _ _).trans (feq (by decide : ¬ (1 : Int32) = (0 : Int32))).1) ?_
      show Steps p.tables e below (T1.setTop (mkF m 52 #[.val (.int p1), .val (.int p2), .val (.int p3), .val (.int (0 : Int32)), .val (.ref (ad 0)), .val (.int (1 : Int32)), .unset, .unset, .unset, .unset] [])) t
      refine XS.iloadN X1.here hx rfl (hb hby at_52) rfl ?_
      show Steps p.tables e below (T1.setTop (mkF m 53 #[.val (.int p1), .val (.int p2), .val (.int p3), .val (.int (0 : Int32)), .val (.ref (ad 0)), .val (.int (1 : Int32)), .unset, .unset, .unset, .unset] [(.int p2)])) t
      refine XS.goto X1.here hx rfl (pc0 := 53) (pc' := 61) rfl (hb hby at_53) (by decide) (by decide) ?_
      show Steps p.tables e below (T1.setTop (mkF m 61 #[.val (.int p1), .val (.int p2), .val (.int p3), .val (.int (0 : Int32)), .val (.ref (ad 0)), .val (.int (1 : Int32)), .unset, .unset, .unset, .unset] [(.int p2)])) t
      refine XS.istore X1.here hx rfl (hb hby at_61) rfl (l' := #[.val (.int p1), .val (.int p2), .val (.int p3), .val (.int (0 : Int32)), .val (.ref (ad 0)), .val (.int (1 : Int32)), .val (.int p2), .unset, .unset, .unset]) rfl ?_
      show Steps p.tables e below (T1.setTop (mkF m 63 #[.val (.int p1), .val (.int p2), .val (.int p3), .val (.int (0 : Int32)), .val (.ref (ad 0)), .val (.int (1 : Int32)), .val (.int p2), .unset, .unset, .unset] [])) t
      refine XS.aload X1.here hx rfl (hb hby at_63) rfl rfl ?_
      show Steps p.tables e below (T1.setTop (mkF m 65 #[.val (.int p1), .val (.int p2), .val (.int p3), .val (.int (0 : Int32)), .val (.ref (ad 0)), .val (.int (1 : Int32)), .val (.int p2), .unset, .unset, .unset] [(.ref (ad 0))])) t
      refine XS.iload X1.here hx rfl (hb hby at_65) rfl ?_
      show Steps p.tables e below (T1.setTop (mkF m 67 #[.val (.int p1), .val (.int p2), .val (.int p3), .val (.int (0 : Int32)), .val (.ref (ad 0)), .val (.int (1 : Int32)), .val (.int p2), .unset, .unset, .unset] [(.int p2), (.ref (ad 0))])) t
      exact st4.trans k)
  have ch6 : ∀ t, Steps p.tables e below (T4.setTop (mkF m 133 #[.val (.int p1), .val (.int p2), .val (.int p3), .val (.int (0 : Int32)), .val (.ref (ad 0)), .val (.int (1 : Int32)), .val (.int p2), .val (.int (50 : Int32)), .val (.long ((p2.toInt64) + (50 : Int64))), .second] [(.int (1 : Int32))])) t → Steps p.tables e below (s₁.setTop (entryFrame m #[(.int p1), (.int p2), (.int p3)] maxLocals)) t := fun t k => ch5 t (by
      show Steps p.tables e below (T4.setTop (mkF m 70 #[.val (.int p1), .val (.int p2), .val (.int p3), .val (.int (0 : Int32)), .val (.ref (ad 0)), .val (.int (1 : Int32)), .val (.int p2), .unset, .unset, .unset] [(.int (50 : Int32))])) t
      refine XS.istore X4.here hx rfl (hb hby at_70) rfl (l' := #[.val (.int p1), .val (.int p2), .val (.int p3), .val (.int (0 : Int32)), .val (.ref (ad 0)), .val (.int (1 : Int32)), .val (.int p2), .val (.int (50 : Int32)), .unset, .unset]) rfl ?_
      show Steps p.tables e below (T4.setTop (mkF m 72 #[.val (.int p1), .val (.int p2), .val (.int p3), .val (.int (0 : Int32)), .val (.ref (ad 0)), .val (.int (1 : Int32)), .val (.int p2), .val (.int (50 : Int32)), .unset, .unset] [])) t
      refine XS.iload X4.here hx rfl (hb hby at_72) rfl ?_
      show Steps p.tables e below (T4.setTop (mkF m 74 #[.val (.int p1), .val (.int p2), .val (.int p3), .val (.int (0 : Int32)), .val (.ref (ad 0)), .val (.int (1 : Int32)), .val (.int p2), .val (.int (50 : Int32)), .unset, .unset] [(.int p2)])) t
      refine XS.ifNo X4.here hx rfl (hb hby at_74) rfl ((if0 _ _).trans (flt h1).1) ?_
      show Steps p.tables e below (T4.setTop (mkF m 77 #[.val (.int p1), .val (.int p2), .val (.int p3), .val (.int (0 : Int32)), .val (.ref (ad 0)), .val (.int (1 : Int32)), .val (.int p2), .val (.int (50 : Int32)), .unset, .unset] [])) t
      refine XS.iload X4.here hx rfl (hb hby at_77) rfl ?_
      show Steps p.tables e below (T4.setTop (mkF m 79 #[.val (.int p1), .val (.int p2), .val (.int p3), .val (.int (0 : Int32)), .val (.ref (ad 0)), .val (.int (1 : Int32)), .val (.int p2), .val (.int (50 : Int32)), .unset, .unset] [(.int p2)])) t
      refine XS.bipush X4.here hx rfl (hb hby at_79) ?_
      show Steps p.tables e below (T4.setTop (mkF m 81 #[.val (.int p1), .val (.int p2), .val (.int p3), .val (.int (0 : Int32)), .val (.ref (ad 0)), .val (.int (1 : Int32)), .val (.int p2), .val (.int (50 : Int32)), .unset, .unset] [(.int (99 : Int32)), (.int p2)])) t
      refine XS.icmpYes X4.here hx rfl (pc0 := 81) (pc' := 95) rfl (hb hby at_81) rfl (flt h2).2.2.2 (by decide) (by decide) ?_
      show Steps p.tables e below (T4.setTop (mkF m 95 #[.val (.int p1), .val (.int p2), .val (.int p3), .val (.int (0 : Int32)), .val (.ref (ad 0)), .val (.int (1 : Int32)), .val (.int p2), .val (.int (50 : Int32)), .unset, .unset] [])) t
      refine XS.iload X4.here hx rfl (hb hby at_95) rfl ?_
      show Steps p.tables e below (T4.setTop (mkF m 97 #[.val (.int p1), .val (.int p2), .val (.int p3), .val (.int (0 : Int32)), .val (.ref (ad 0)), .val (.int (1 : Int32)), .val (.int p2), .val (.int (50 : Int32)), .unset, .unset] [(.int p2)])) t
      refine XS.i2l X4.here hx rfl (hb hby at_97) rfl ?_
      show Steps p.tables e below (T4.setTop (mkF m 98 #[.val (.int p1), .val (.int p2), .val (.int p3), .val (.int (0 : Int32)), .val (.ref (ad 0)), .val (.int (1 : Int32)), .val (.int p2), .val (.int (50 : Int32)), .unset, .unset] [(.long (p2.toInt64))])) t
      refine XS.iload X4.here hx rfl (hb hby at_98) rfl ?_
      show Steps p.tables e below (T4.setTop (mkF m 100 #[.val (.int p1), .val (.int p2), .val (.int p3), .val (.int (0 : Int32)), .val (.ref (ad 0)), .val (.int (1 : Int32)), .val (.int p2), .val (.int (50 : Int32)), .unset, .unset] [(.int (1 : Int32)), (.long (p2.toInt64))])) t
      refine XS.i2l X4.here hx rfl (hb hby at_100) rfl ?_
      rw [show ((1 : Int32).toInt64) = (1 : Int64) from by decide]
      show Steps p.tables e below (T4.setTop (mkF m 101 #[.val (.int p1), .val (.int p2), .val (.int p3), .val (.int (0 : Int32)), .val (.ref (ad 0)), .val (.int (1 : Int32)), .val (.int p2), .val (.int (50 : Int32)), .unset, .unset] [(.long (1 : Int64)), (.long (p2.toInt64))])) t
      refine XS.iload X4.here hx rfl (hb hby at_101) rfl ?_
      show Steps p.tables e below (T4.setTop (mkF m 103 #[.val (.int p1), .val (.int p2), .val (.int p3), .val (.int (0 : Int32)), .val (.ref (ad 0)), .val (.int (1 : Int32)), .val (.int p2), .val (.int (50 : Int32)), .unset, .unset] [(.int (50 : Int32)), (.long (1 : Int64)), (.long (p2.toInt64))])) t
      refine XS.i2l X4.here hx rfl (hb hby at_103) rfl ?_
      rw [show ((50 : Int32).toInt64) = (50 : Int64) from by decide]
      show Steps p.tables e below (T4.setTop (mkF m 104 #[.val (.int p1), .val (.int p2), .val (.int p3), .val (.int (0 : Int32)), .val (.ref (ad 0)), .val (.int (1 : Int32)), .val (.int p2), .val (.int (50 : Int32)), .unset, .unset] [(.long (50 : Int64)), (.long (1 : Int64)), (.long (p2.toInt64))])) t
      refine XS.lmul X4.here hx rfl (hb hby at_104) rfl ?_
      rw [show ((1 : Int64) * (50 : Int64)) = (50 : Int64) from by decide]
      show Steps p.tables e below (T4.setTop (mkF m 105 #[.val (.int p1), .val (.int p2), .val (.int p3), .val (.int (0 : Int32)), .val (.ref (ad 0)), .val (.int (1 : Int32)), .val (.int p2), .val (.int (50 : Int32)), .unset, .unset] [(.long (50 : Int64)), (.long (p2.toInt64))])) t
      refine XS.ladd X4.here hx rfl (hb hby at_105) rfl ?_
      show Steps p.tables e below (T4.setTop (mkF m 106 #[.val (.int p1), .val (.int p2), .val (.int p3), .val (.int (0 : Int32)), .val (.ref (ad 0)), .val (.int (1 : Int32)), .val (.int p2), .val (.int (50 : Int32)), .unset, .unset] [(.long ((p2.toInt64) + (50 : Int64)))])) t
      refine XS.lstore X4.here hx rfl (hb hby at_106) rfl (l' := #[.val (.int p1), .val (.int p2), .val (.int p3), .val (.int (0 : Int32)), .val (.ref (ad 0)), .val (.int (1 : Int32)), .val (.int p2), .val (.int (50 : Int32)), .val (.long ((p2.toInt64) + (50 : Int64))), .second]) rfl ?_
      show Steps p.tables e below (T4.setTop (mkF m 108 #[.val (.int p1), .val (.int p2), .val (.int p3), .val (.int (0 : Int32)), .val (.ref (ad 0)), .val (.int (1 : Int32)), .val (.int p2), .val (.int (50 : Int32)), .val (.long ((p2.toInt64) + (50 : Int64))), .second] [])) t
      refine XS.iload X4.here hx rfl (hb hby at_108) rfl ?_
      show Steps p.tables e below (T4.setTop (mkF m 110 #[.val (.int p1), .val (.int p2), .val (.int p3), .val (.int (0 : Int32)), .val (.ref (ad 0)), .val (.int (1 : Int32)), .val (.int p2), .val (.int (50 : Int32)), .val (.long ((p2.toInt64) + (50 : Int64))), .second] [(.int p2)])) t
      refine XS.bipush X4.here hx rfl (hb hby at_110) ?_
      show Steps p.tables e below (T4.setTop (mkF m 112 #[.val (.int p1), .val (.int p2), .val (.int p3), .val (.int (0 : Int32)), .val (.ref (ad 0)), .val (.int (1 : Int32)), .val (.int p2), .val (.int (50 : Int32)), .val (.long ((p2.toInt64) + (50 : Int64))), .second] [(.int (50 : Int32)), (.int p2)])) t
      refine XS.icmpNo X4.here hx rfl (hb hby at_112) rfl (tlt h3).2.1 ?_
      show Steps p.tables e below (T4.setTop (mkF m 115 #[.val (.int p1), .val (.int p2), .val (.int p3), .val (.int (0 : Int32)), .val (.ref (ad 0)), .val (.int (1 : Int32)), .val (.int p2), .val (.int (50 : Int32)), .val (.long ((p2.toInt64) + (50 : Int64))), .second] [])) t
      refine XS.lload X4.here hx rfl (hb hby at_115) rfl ?_
      show Steps p.tables e below (T4.setTop (mkF m 117 #[.val (.int p1), .val (.int p2), .val (.int p3), .val (.int (0 : Int32)), .val (.ref (ad 0)), .val (.int (1 : Int32)), .val (.int p2), .val (.int (50 : Int32)), .val (.long ((p2.toInt64) + (50 : Int64))), .second] [(.long ((p2.toInt64) + (50 : Int64)))])) t
      refine XS.iload X4.here hx rfl (hb hby at_117) rfl ?_
      show Steps p.tables e below (T4.setTop (mkF m 119 #[.val (.int p1), .val (.int p2), .val (.int p3), .val (.int (0 : Int32)), .val (.ref (ad 0)), .val (.int (1 : Int32)), .val (.int p2), .val (.int (50 : Int32)), .val (.long ((p2.toInt64) + (50 : Int64))), .second] [(.int p2), (.long ((p2.toInt64) + (50 : Int64)))])) t
      refine XS.i2l X4.here hx rfl (hb hby at_119) rfl ?_
      show Steps p.tables e below (T4.setTop (mkF m 120 #[.val (.int p1), .val (.int p2), .val (.int p3), .val (.int (0 : Int32)), .val (.ref (ad 0)), .val (.int (1 : Int32)), .val (.int p2), .val (.int (50 : Int32)), .val (.long ((p2.toInt64) + (50 : Int64))), .second] [(.long (p2.toInt64)), (.long ((p2.toInt64) + (50 : Int64)))])) t
      refine X4.ldc2Long hx hown (mvT hZ (hw _ (List.mem_of_getElem? (i := 13) rfl))) (g := (mkF m 120 #[.val (.int p1), .val (.int p2), .val (.int p3), .val (.int (0 : Int32)), .val (.ref (ad 0)), .val (.int (1 : Int32)), .val (.int p2), .val (.int (50 : Int32)), .val (.long ((p2.toInt64) + (50 : Int64))), .second] [(.long (p2.toInt64)), (.long ((p2.toInt64) + (50 : Int64)))])) rfl (hb hby at_120) _ ?_
      show Steps p.tables e below (T4.setTop (mkF m 123 #[.val (.int p1), .val (.int p2), .val (.int p3), .val (.int (0 : Int32)), .val (.ref (ad 0)), .val (.int (1 : Int32)), .val (.int p2), .val (.int (50 : Int32)), .val (.long ((p2.toInt64) + (50 : Int64))), .second] [(.long (50 : Int64)), (.long (p2.toInt64)), (.long ((p2.toInt64) + (50 : Int64)))])) t
      refine XS.ladd X4.here hx rfl (hb hby at_123) rfl ?_
      show Steps p.tables e below (T4.setTop (mkF m 124 #[.val (.int p1), .val (.int p2), .val (.int p3), .val (.int (0 : Int32)), .val (.ref (ad 0)), .val (.int (1 : Int32)), .val (.int p2), .val (.int (50 : Int32)), .val (.long ((p2.toInt64) + (50 : Int64))), .second] [(.long ((p2.toInt64) + (50 : Int64))), (.long ((p2.toInt64) + (50 : Int64)))])) t
      refine XS.lcmp X4.here hx rfl (hb hby at_124) rfl ?_
      show Steps p.tables e below (T4.setTop (mkF m 125 #[.val (.int p1), .val (.int p2), .val (.int p3), .val (.int (0 : Int32)), .val (.ref (ad 0)), .val (.int (1 : Int32)), .val (.int p2), .val (.int (50 : Int32)), .val (.long ((p2.toInt64) + (50 : Int64))), .second] [(.int (lcmpW ((p2.toInt64) + (50 : Int64)) ((p2.toInt64) + (50 : Int64))))])) t
      rw [own_lc0]
      show Steps p.tables e below (T4.setTop (mkF m 125 #[.val (.int p1), .val (.int p2), .val (.int p3), .val (.int (0 : Int32)), .val (.ref (ad 0)), .val (.int (1 : Int32)), .val (.int p2), .val (.int (50 : Int32)), .val (.long ((p2.toInt64) + (50 : Int64))), .second] [(.int (0 : Int32))])) t
      refine XS.ifNo X4.here hx rfl (hb hby at_125) rfl ((if0 _ _).trans (teq (by decide : (0 : Int32) = (0 : Int32))).2) ?_
      show Steps p.tables e below (T4.setTop (mkF m 128 #[.val (.int p1), .val (.int p2), .val (.int p3), .val (.int (0 : Int32)), .val (.ref (ad 0)), .val (.int (1 : Int32)), .val (.int p2), .val (.int (50 : Int32)), .val (.long ((p2.toInt64) + (50 : Int64))), .second] [])) t
      refine XS.iconst X4.here hx rfl (hb hby at_128) ?_
      show Steps p.tables e below (T4.setTop (mkF m 129 #[.val (.int p1), .val (.int p2), .val (.int p3), .val (.int (0 : Int32)), .val (.ref (ad 0)), .val (.int (1 : Int32)), .val (.int p2), .val (.int (50 : Int32)), .val (.long ((p2.toInt64) + (50 : Int64))), .second] [(.int (1 : Int32))])) t
      refine XS.goto X4.here hx rfl (pc0 := 129) (pc' := 133) rfl (hb hby at_129) (by decide) (by decide) ?_
      exact k)
  obtain ⟨fs, hr, hrun, hended, hW, hsame⟩ := X4.leave (v := some (.int (1 : Int32))) (fun h => by rw [Bd.returns] at h; cases h)
  refine ⟨_, _, ch6 _ ?_, hrun, hended, _, _, rfl, ?_, ⟨_, rfl⟩, hW, hsame.mono (by decide) (by decide)⟩
  · show Steps p.tables e below (T4.setTop (mkF m 133 #[.val (.int p1), .val (.int p2), .val (.int p3), .val (.int (0 : Int32)), .val (.ref (ad 0)), .val (.int (1 : Int32)), .val (.int p2), .val (.int (50 : Int32)), .val (.long ((p2.toInt64) + (50 : Int64))), .second] [(.int (1 : Int32))])) _
    exact retN X4 hx (t := .boolean) Bd.returns (by simp) (hb hby at_133) hr
  · show QN (some (.int (1 : Int32))) n0 _ T4.heap _
    rw [e4]
    exact ⟨rfl, N4⟩
theorem own_ef_own_law_01h (m : MethodId) {x0 : Int32} {x1 : Int32} {x2 : Int32} : entryFrame m #[(.int x0), (.int x1), (.int x2)] maxLocals = mkF m 0 #[.val (.int x0), .val (.int x1), .val (.int x2), .unset, .unset, .unset, .unset, .unset, .unset, .unset] [] := by first | (simp [entryFrame, mkF, argsToLocals, Value.category, maxLocals]; done) | rfl
set_option maxRecDepth 65536 in
set_option maxHeartbeats 40000000 in
theorem own_law_01h (l : Launch) (Z : State) (a0 : Array Value) (hw : ∀ d ∈ tables_1, d.before a0 Z = true) (ws : List Jvm.Cond) (h0 : Heap) (n0 : Nat) (Z0 : n0 ≤ h0.size) (p1 p2 p3 : Int32) (hk : (p1 &&& (2147483647 : Int32)) % (3 : Int32) = (0 : Int32)) (hm : p3 &&& (1 : Int32) = (1 : Int32)) (h1 : ¬ p2 < (0 : Int32)) (h2 : ¬ (99 : Int32) < p2) (h3 : ¬ p2 < (50 : Int32)) (ad : Nat → Addr) (W : OwnWd Z h0 ad) :
    MetFree l x (head1 (Jvm.Cond.code x code maxLocals ret :: ws) room_1) (fun a U => a = #[(.int p1), (.int p2), (.int p3)] ∧ Z.Warmed39 U.vm ∧ U.heap = h0) (fun _ _ _ _ _ => True) (fun _ U o U' => ∃ v L, o = .returned v ∧ QN (some (.int (1 : Int32))) n0 v U'.heap L ∧ FrameEnd U o U' L room_1.cells room_1.slots) := by
  refine MetFree.of_bodySF (plainFor_of_name own_pn_com_example_isolint_isolint_bench_ChangeAddedToEachValuePinLaw) hisR ?_
  intro p e s m args below meth c s₁ Bd hml0 hP hK
  obtain ⟨rfl, hZ, hh⟩ := hP
  have hx := Bd.exec
  have hby := Bd.bytes
  have hml : c.maxLocals = 10 := hml0
  have hown : s.vm.findClass "com/example/isolint/isolint/bench/ChangeAddedToEachValuePinLaw" = some m.cls := findClass_of_methodNamed Bd.named
  have hnm := (name_of_methodNamed Bd.named Bd.method).1
  have X0 : Stand p l e room_1 s m #[(.int p1), (.int p2), (.int p3)] below meth c s₁ [] 0 0 := Stand.of_body Bd
  have e0 : s₁.heap = h0 := by rw [← hh, Bd.state]; rfl
  have N0 := Fr.nil n0
  have pre0 : ∀ t, Steps p.tables e below (s₁.setTop (mkF m 0 #[.val (.int p1), .val (.int p2), .val (.int p3), .unset, .unset, .unset, .unset, .unset, .unset, .unset] [])) t → Steps p.tables e below (s₁.setTop (entryFrame m #[(.int p1), (.int p2), (.int p3)] maxLocals)) t := fun t k => castTop (own_ef_own_law_01h m) k
  obtain ⟨T1, X1, e1, st1⟩ := getS2 X0 hx hZ hown (host := "") (Or.inl (hw _ (List.mem_of_getElem? (i := 1) rfl))) Via.refl e0 (own_S_CHANGE_A W) (g := (mkF m 11 #[.val (.int p1), .val (.int p2), .val (.int p3), .val (.int (0 : Int32)), .unset, .unset, .unset, .unset, .unset, .unset] [])) rfl (hb hby at_11)
  have ch2 : ∀ t, Steps p.tables e below (T1.setTop (mkF m 14 #[.val (.int p1), .val (.int p2), .val (.int p3), .val (.int (0 : Int32)), .unset, .unset, .unset, .unset, .unset, .unset] [(.ref (ad 0))])) t → Steps p.tables e below (s₁.setTop (entryFrame m #[(.int p1), (.int p2), (.int p3)] maxLocals)) t := fun t k => pre0 t (by
      show Steps p.tables e below (s₁.setTop (mkF m 0 #[.val (.int p1), .val (.int p2), .val (.int p3), .unset, .unset, .unset, .unset, .unset, .unset, .unset] [])) t
      refine XS.iloadN X0.here hx rfl (hb hby at_0) rfl ?_
      show Steps p.tables e below (s₁.setTop (mkF m 1 #[.val (.int p1), .val (.int p2), .val (.int p3), .unset, .unset, .unset, .unset, .unset, .unset, .unset] [(.int p1)])) t
      refine X0.ldcInt hx hown (mvT hZ (hw _ (List.mem_of_getElem? (i := 0) rfl))) (g := (mkF m 1 #[.val (.int p1), .val (.int p2), .val (.int p3), .unset, .unset, .unset, .unset, .unset, .unset, .unset] [(.int p1)])) rfl (hb hby at_1) _ ?_
      show Steps p.tables e below (s₁.setTop (mkF m 3 #[.val (.int p1), .val (.int p2), .val (.int p3), .unset, .unset, .unset, .unset, .unset, .unset, .unset] [(.int (2147483647 : Int32)), (.int p1)])) t
      refine XS.iand X0.here hx rfl (hb hby at_3) rfl ?_
      show Steps p.tables e below (s₁.setTop (mkF m 4 #[.val (.int p1), .val (.int p2), .val (.int p3), .unset, .unset, .unset, .unset, .unset, .unset, .unset] [(.int (p1 &&& (2147483647 : Int32)))])) t
      refine XS.iconst X0.here hx rfl (hb hby at_4) ?_
      show Steps p.tables e below (s₁.setTop (mkF m 5 #[.val (.int p1), .val (.int p2), .val (.int p3), .unset, .unset, .unset, .unset, .unset, .unset, .unset] [(.int (3 : Int32)), (.int (p1 &&& (2147483647 : Int32)))])) t
      refine Jvm.RoadKit.iremM (g := (mkF m 5 #[.val (.int p1), .val (.int p2), .val (.int p3), .unset, .unset, .unset, .unset, .unset, .unset, .unset] [(.int (3 : Int32)), (.int (p1 &&& (2147483647 : Int32)))])) X0 hx rfl (hb hby at_5) rfl (by decide) ?_
      rw [hk]
      show Steps p.tables e below (s₁.setTop (mkF m 6 #[.val (.int p1), .val (.int p2), .val (.int p3), .unset, .unset, .unset, .unset, .unset, .unset, .unset] [(.int (0 : Int32))])) t
      refine XS.istoreN X0.here hx rfl (hb hby at_6) rfl (l' := #[.val (.int p1), .val (.int p2), .val (.int p3), .val (.int (0 : Int32)), .unset, .unset, .unset, .unset, .unset, .unset]) rfl ?_
      show Steps p.tables e below (s₁.setTop (mkF m 7 #[.val (.int p1), .val (.int p2), .val (.int p3), .val (.int (0 : Int32)), .unset, .unset, .unset, .unset, .unset, .unset] [])) t
      refine XS.iloadN X0.here hx rfl (hb hby at_7) rfl ?_
      show Steps p.tables e below (s₁.setTop (mkF m 8 #[.val (.int p1), .val (.int p2), .val (.int p3), .val (.int (0 : Int32)), .unset, .unset, .unset, .unset, .unset, .unset] [(.int (0 : Int32))])) t
      refine XS.ifNo X0.here hx rfl (hb hby at_8) rfl ((if0 _ _).trans (teq (by decide : (0 : Int32) = (0 : Int32))).2) ?_
      show Steps p.tables e below (s₁.setTop (mkF m 11 #[.val (.int p1), .val (.int p2), .val (.int p3), .val (.int (0 : Int32)), .unset, .unset, .unset, .unset, .unset, .unset] [])) t
      exact st1 t k)
  obtain ⟨cq3, kq3, qa3, qb3, qc3⟩ := isOf hZ e1 (own_E_CHANGE_A W)
  obtain ⟨vv4, _, ⟨T4, L4, kk4, nn4⟩, -, X4, ⟨Lc4, hQ4, l4, y4, z4⟩, st4⟩ := X1.virtualBack hx (y := (⟨"com/example/isolint/isolint/bench/Change", "addedToEachValue", "(I)I"⟩ : MethodName)) (z := (⟨"com/example/isolint/isolint/bench/Change", "addedToEachValue", "(I)I"⟩ : MethodName)) hown (mvT hZ (hw _ (List.mem_of_getElem? (i := 4) rfl))) (mvT hZ (hw _ (List.mem_of_getElem? (i := 5) rfl))) (notFace_of_selects (args := #[]) (mvT hZ (hw _ (List.mem_of_getElem? (i := 7) rfl)))) (mvT hZ (hw _ (List.mem_of_getElem? (i := 7) rfl))) (mvT hZ (hw _ (List.mem_of_getElem? (i := 6) rfl))) (by decide) (backOf (W := 0) (own_add_0h l Z a0 hw [] h0 n0 Z0  p2 h1 h2 h3 ad W) hZ (hw _ (List.mem_of_getElem? (i := 8) rfl)) (hw _ (List.mem_of_getElem? (i := 2) rfl)) (by decide) (by decide)) qa3 qc3 (g := (mkF m 67 #[.val (.int p1), .val (.int p2), .val (.int p3), .val (.int (0 : Int32)), .val (.ref (ad 0)), .val (.int (1 : Int32)), .val (.int p2), .unset, .unset, .unset] [(.int p2), (.ref (ad 0))])) rfl (by rw [hml]; rfl) (Steps.refl _) (argsL := [(.int p2)]) (rest := []) (lenOf own_pd__I_I rfl) rfl (by show 2 * 0 + _ ≤ _; exact Nat.le_of_eq rfl) (hb hby at_67) (fun _ _ => ⟨rfl, e1, (by decide : 0 + 0 ≤ _), (by decide : 0 + 0 ≤ _)⟩)
  dsimp only [Pt.U, Pt.locs, Pt.cells, Pt.slots] at X4 l4 y4 z4 st4 hQ4
  subst l4 y4 z4
  obtain ⟨rfl, Nq4, e4⟩ := hQ4
  have N4 := Fr.app N0 Nq4
  have ch5 : ∀ t, Steps p.tables e below (T4.setTop (mkF m 70 #[.val (.int p1), .val (.int p2), .val (.int p3), .val (.int (0 : Int32)), .val (.ref (ad 0)), .val (.int (1 : Int32)), .val (.int p2), .unset, .unset, .unset] [(.int (-50 : Int32))])) t → Steps p.tables e below (s₁.setTop (entryFrame m #[(.int p1), (.int p2), (.int p3)] maxLocals)) t := fun t k => ch2 t (by
      show Steps p.tables e below (T1.setTop (mkF m 14 #[.val (.int p1), .val (.int p2), .val (.int p3), .val (.int (0 : Int32)), .unset, .unset, .unset, .unset, .unset, .unset] [(.ref (ad 0))])) t
      refine XS.astore X1.here hx rfl (hb hby at_14) rfl rfl (l' := #[.val (.int p1), .val (.int p2), .val (.int p3), .val (.int (0 : Int32)), .val (.ref (ad 0)), .unset, .unset, .unset, .unset, .unset]) rfl ?_
      show Steps p.tables e below (T1.setTop (mkF m 16 #[.val (.int p1), .val (.int p2), .val (.int p3), .val (.int (0 : Int32)), .val (.ref (ad 0)), .unset, .unset, .unset, .unset, .unset] [])) t
      refine XS.iconst X1.here hx rfl (hb hby at_16) ?_
      show Steps p.tables e below (T1.setTop (mkF m 17 #[.val (.int p1), .val (.int p2), .val (.int p3), .val (.int (0 : Int32)), .val (.ref (ad 0)), .unset, .unset, .unset, .unset, .unset] [(.int (1 : Int32))])) t
      refine XS.istore X1.here hx rfl (hb hby at_17) rfl (l' := #[.val (.int p1), .val (.int p2), .val (.int p3), .val (.int (0 : Int32)), .val (.ref (ad 0)), .val (.int (1 : Int32)), .unset, .unset, .unset, .unset]) rfl ?_
      show Steps p.tables e below (T1.setTop (mkF m 19 #[.val (.int p1), .val (.int p2), .val (.int p3), .val (.int (0 : Int32)), .val (.ref (ad 0)), .val (.int (1 : Int32)), .unset, .unset, .unset, .unset] [])) t
      refine XS.goto X1.here hx rfl (pc0 := 19) (pc' := 46) rfl (hb hby at_19) (by decide) (by decide) ?_
      show Steps p.tables e below (T1.setTop (mkF m 46 #[.val (.int p1), .val (.int p2), .val (.int p3), .val (.int (0 : Int32)), .val (.ref (ad 0)), .val (.int (1 : Int32)), .unset, .unset, .unset, .unset] [])) t
      refine XS.iloadN X1.here hx rfl (hb hby at_46) rfl ?_
      show Steps p.tables e below (T1.setTop (mkF m 47 #[.val (.int p1), .val (.int p2), .val (.int p3), .val (.int (0 : Int32)), .val (.ref (ad 0)), .val (.int (1 : Int32)), .unset, .unset, .unset, .unset] [(.int p3)])) t
      refine XS.iconst X1.here hx rfl (hb hby at_47) ?_
      show Steps p.tables e below (T1.setTop (mkF m 48 #[.val (.int p1), .val (.int p2), .val (.int p3), .val (.int (0 : Int32)), .val (.ref (ad 0)), .val (.int (1 : Int32)), .unset, .unset, .unset, .unset] [(.int (1 : Int32)), (.int p3)])) t
      refine XS.iand X1.here hx rfl (hb hby at_48) rfl ?_
      rw [hm]
      show Steps p.tables e below (T1.setTop (mkF m 49 #[.val (.int p1), .val (.int p2), .val (.int p3), .val (.int (0 : Int32)), .val (.ref (ad 0)), .val (.int (1 : Int32)), .unset, .unset, .unset, .unset] [(.int (1 : Int32))])) t
      refine XS.ifNo X1.here hx rfl (hb hby at_49) rfl ((if0 _ _).trans (feq (by decide : ¬ (1 : Int32) = (0 : Int32))).1) ?_
      show Steps p.tables e below (T1.setTop (mkF m 52 #[.val (.int p1), .val (.int p2), .val (.int p3), .val (.int (0 : Int32)), .val (.ref (ad 0)), .val (.int (1 : Int32)), .unset, .unset, .unset, .unset] [])) t
      refine XS.iloadN X1.here hx rfl (hb hby at_52) rfl ?_
      show Steps p.tables e below (T1.setTop (mkF m 53 #[.val (.int p1), .val (.int p2), .val (.int p3), .val (.int (0 : Int32)), .val (.ref (ad 0)), .val (.int (1 : Int32)), .unset, .unset, .unset, .unset] [(.int p2)])) t
      refine XS.goto X1.here hx rfl (pc0 := 53) (pc' := 61) rfl (hb hby at_53) (by decide) (by decide) ?_
      show Steps p.tables e below (T1.setTop (mkF m 61 #[.val (.int p1), .val (.int p2), .val (.int p3), .val (.int (0 : Int32)), .val (.ref (ad 0)), .val (.int (1 : Int32)), .unset, .unset, .unset, .unset] [(.int p2)])) t
      refine XS.istore X1.here hx rfl (hb hby at_61) rfl (l' := #[.val (.int p1), .val (.int p2), .val (.int p3), .val (.int (0 : Int32)), .val (.ref (ad 0)), .val (.int (1 : Int32)), .val (.int p2), .unset, .unset, .unset]) rfl ?_
      show Steps p.tables e below (T1.setTop (mkF m 63 #[.val (.int p1), .val (.int p2), .val (.int p3), .val (.int (0 : Int32)), .val (.ref (ad 0)), .val (.int (1 : Int32)), .val (.int p2), .unset, .unset, .unset] [])) t
      refine XS.aload X1.here hx rfl (hb hby at_63) rfl rfl ?_
      show Steps p.tables e below (T1.setTop (mkF m 65 #[.val (.int p1), .val (.int p2), .val (.int p3), .val (.int (0 : Int32)), .val (.ref (ad 0)), .val (.int (1 : Int32)), .val (.int p2), .unset, .unset, .unset] [(.ref (ad 0))])) t
      refine XS.iload X1.here hx rfl (hb hby at_65) rfl ?_
      show Steps p.tables e below (T1.setTop (mkF m 67 #[.val (.int p1), .val (.int p2), .val (.int p3), .val (.int (0 : Int32)), .val (.ref (ad 0)), .val (.int (1 : Int32)), .val (.int p2), .unset, .unset, .unset] [(.int p2), (.ref (ad 0))])) t
      exact st4.trans k)
  have ch6 : ∀ t, Steps p.tables e below (T4.setTop (mkF m 152 #[.val (.int p1), .val (.int p2), .val (.int p3), .val (.int (0 : Int32)), .val (.ref (ad 0)), .val (.int (1 : Int32)), .val (.int p2), .val (.int (-50 : Int32)), .val (.long ((p2.toInt64) + (-50 : Int64))), .second] [(.int (1 : Int32))])) t → Steps p.tables e below (s₁.setTop (entryFrame m #[(.int p1), (.int p2), (.int p3)] maxLocals)) t := fun t k => ch5 t (by
      show Steps p.tables e below (T4.setTop (mkF m 70 #[.val (.int p1), .val (.int p2), .val (.int p3), .val (.int (0 : Int32)), .val (.ref (ad 0)), .val (.int (1 : Int32)), .val (.int p2), .unset, .unset, .unset] [(.int (-50 : Int32))])) t
      refine XS.istore X4.here hx rfl (hb hby at_70) rfl (l' := #[.val (.int p1), .val (.int p2), .val (.int p3), .val (.int (0 : Int32)), .val (.ref (ad 0)), .val (.int (1 : Int32)), .val (.int p2), .val (.int (-50 : Int32)), .unset, .unset]) rfl ?_
      show Steps p.tables e below (T4.setTop (mkF m 72 #[.val (.int p1), .val (.int p2), .val (.int p3), .val (.int (0 : Int32)), .val (.ref (ad 0)), .val (.int (1 : Int32)), .val (.int p2), .val (.int (-50 : Int32)), .unset, .unset] [])) t
      refine XS.iload X4.here hx rfl (hb hby at_72) rfl ?_
      show Steps p.tables e below (T4.setTop (mkF m 74 #[.val (.int p1), .val (.int p2), .val (.int p3), .val (.int (0 : Int32)), .val (.ref (ad 0)), .val (.int (1 : Int32)), .val (.int p2), .val (.int (-50 : Int32)), .unset, .unset] [(.int p2)])) t
      refine XS.ifNo X4.here hx rfl (hb hby at_74) rfl ((if0 _ _).trans (flt h1).1) ?_
      show Steps p.tables e below (T4.setTop (mkF m 77 #[.val (.int p1), .val (.int p2), .val (.int p3), .val (.int (0 : Int32)), .val (.ref (ad 0)), .val (.int (1 : Int32)), .val (.int p2), .val (.int (-50 : Int32)), .unset, .unset] [])) t
      refine XS.iload X4.here hx rfl (hb hby at_77) rfl ?_
      show Steps p.tables e below (T4.setTop (mkF m 79 #[.val (.int p1), .val (.int p2), .val (.int p3), .val (.int (0 : Int32)), .val (.ref (ad 0)), .val (.int (1 : Int32)), .val (.int p2), .val (.int (-50 : Int32)), .unset, .unset] [(.int p2)])) t
      refine XS.bipush X4.here hx rfl (hb hby at_79) ?_
      show Steps p.tables e below (T4.setTop (mkF m 81 #[.val (.int p1), .val (.int p2), .val (.int p3), .val (.int (0 : Int32)), .val (.ref (ad 0)), .val (.int (1 : Int32)), .val (.int p2), .val (.int (-50 : Int32)), .unset, .unset] [(.int (99 : Int32)), (.int p2)])) t
      refine XS.icmpYes X4.here hx rfl (pc0 := 81) (pc' := 95) rfl (hb hby at_81) rfl (flt h2).2.2.2 (by decide) (by decide) ?_
      show Steps p.tables e below (T4.setTop (mkF m 95 #[.val (.int p1), .val (.int p2), .val (.int p3), .val (.int (0 : Int32)), .val (.ref (ad 0)), .val (.int (1 : Int32)), .val (.int p2), .val (.int (-50 : Int32)), .unset, .unset] [])) t
      refine XS.iload X4.here hx rfl (hb hby at_95) rfl ?_
      show Steps p.tables e below (T4.setTop (mkF m 97 #[.val (.int p1), .val (.int p2), .val (.int p3), .val (.int (0 : Int32)), .val (.ref (ad 0)), .val (.int (1 : Int32)), .val (.int p2), .val (.int (-50 : Int32)), .unset, .unset] [(.int p2)])) t
      refine XS.i2l X4.here hx rfl (hb hby at_97) rfl ?_
      show Steps p.tables e below (T4.setTop (mkF m 98 #[.val (.int p1), .val (.int p2), .val (.int p3), .val (.int (0 : Int32)), .val (.ref (ad 0)), .val (.int (1 : Int32)), .val (.int p2), .val (.int (-50 : Int32)), .unset, .unset] [(.long (p2.toInt64))])) t
      refine XS.iload X4.here hx rfl (hb hby at_98) rfl ?_
      show Steps p.tables e below (T4.setTop (mkF m 100 #[.val (.int p1), .val (.int p2), .val (.int p3), .val (.int (0 : Int32)), .val (.ref (ad 0)), .val (.int (1 : Int32)), .val (.int p2), .val (.int (-50 : Int32)), .unset, .unset] [(.int (1 : Int32)), (.long (p2.toInt64))])) t
      refine XS.i2l X4.here hx rfl (hb hby at_100) rfl ?_
      rw [show ((1 : Int32).toInt64) = (1 : Int64) from by decide]
      show Steps p.tables e below (T4.setTop (mkF m 101 #[.val (.int p1), .val (.int p2), .val (.int p3), .val (.int (0 : Int32)), .val (.ref (ad 0)), .val (.int (1 : Int32)), .val (.int p2), .val (.int (-50 : Int32)), .unset, .unset] [(.long (1 : Int64)), (.long (p2.toInt64))])) t
      refine XS.iload X4.here hx rfl (hb hby at_101) rfl ?_
      show Steps p.tables e below (T4.setTop (mkF m 103 #[.val (.int p1), .val (.int p2), .val (.int p3), .val (.int (0 : Int32)), .val (.ref (ad 0)), .val (.int (1 : Int32)), .val (.int p2), .val (.int (-50 : Int32)), .unset, .unset] [(.int (-50 : Int32)), (.long (1 : Int64)), (.long (p2.toInt64))])) t
      refine XS.i2l X4.here hx rfl (hb hby at_103) rfl ?_
      rw [show ((-50 : Int32).toInt64) = (-50 : Int64) from by decide]
      show Steps p.tables e below (T4.setTop (mkF m 104 #[.val (.int p1), .val (.int p2), .val (.int p3), .val (.int (0 : Int32)), .val (.ref (ad 0)), .val (.int (1 : Int32)), .val (.int p2), .val (.int (-50 : Int32)), .unset, .unset] [(.long (-50 : Int64)), (.long (1 : Int64)), (.long (p2.toInt64))])) t
      refine XS.lmul X4.here hx rfl (hb hby at_104) rfl ?_
      rw [show ((1 : Int64) * (-50 : Int64)) = (-50 : Int64) from by decide]
      show Steps p.tables e below (T4.setTop (mkF m 105 #[.val (.int p1), .val (.int p2), .val (.int p3), .val (.int (0 : Int32)), .val (.ref (ad 0)), .val (.int (1 : Int32)), .val (.int p2), .val (.int (-50 : Int32)), .unset, .unset] [(.long (-50 : Int64)), (.long (p2.toInt64))])) t
      refine XS.ladd X4.here hx rfl (hb hby at_105) rfl ?_
      show Steps p.tables e below (T4.setTop (mkF m 106 #[.val (.int p1), .val (.int p2), .val (.int p3), .val (.int (0 : Int32)), .val (.ref (ad 0)), .val (.int (1 : Int32)), .val (.int p2), .val (.int (-50 : Int32)), .unset, .unset] [(.long ((p2.toInt64) + (-50 : Int64)))])) t
      refine XS.lstore X4.here hx rfl (hb hby at_106) rfl (l' := #[.val (.int p1), .val (.int p2), .val (.int p3), .val (.int (0 : Int32)), .val (.ref (ad 0)), .val (.int (1 : Int32)), .val (.int p2), .val (.int (-50 : Int32)), .val (.long ((p2.toInt64) + (-50 : Int64))), .second]) rfl ?_
      show Steps p.tables e below (T4.setTop (mkF m 108 #[.val (.int p1), .val (.int p2), .val (.int p3), .val (.int (0 : Int32)), .val (.ref (ad 0)), .val (.int (1 : Int32)), .val (.int p2), .val (.int (-50 : Int32)), .val (.long ((p2.toInt64) + (-50 : Int64))), .second] [])) t
      refine XS.iload X4.here hx rfl (hb hby at_108) rfl ?_
      show Steps p.tables e below (T4.setTop (mkF m 110 #[.val (.int p1), .val (.int p2), .val (.int p3), .val (.int (0 : Int32)), .val (.ref (ad 0)), .val (.int (1 : Int32)), .val (.int p2), .val (.int (-50 : Int32)), .val (.long ((p2.toInt64) + (-50 : Int64))), .second] [(.int p2)])) t
      refine XS.bipush X4.here hx rfl (hb hby at_110) ?_
      show Steps p.tables e below (T4.setTop (mkF m 112 #[.val (.int p1), .val (.int p2), .val (.int p3), .val (.int (0 : Int32)), .val (.ref (ad 0)), .val (.int (1 : Int32)), .val (.int p2), .val (.int (-50 : Int32)), .val (.long ((p2.toInt64) + (-50 : Int64))), .second] [(.int (50 : Int32)), (.int p2)])) t
      refine XS.icmpYes X4.here hx rfl (pc0 := 112) (pc' := 134) rfl (hb hby at_112) rfl (flt h3).2.1 (by decide) (by decide) ?_
      show Steps p.tables e below (T4.setTop (mkF m 134 #[.val (.int p1), .val (.int p2), .val (.int p3), .val (.int (0 : Int32)), .val (.ref (ad 0)), .val (.int (1 : Int32)), .val (.int p2), .val (.int (-50 : Int32)), .val (.long ((p2.toInt64) + (-50 : Int64))), .second] [])) t
      refine XS.lload X4.here hx rfl (hb hby at_134) rfl ?_
      show Steps p.tables e below (T4.setTop (mkF m 136 #[.val (.int p1), .val (.int p2), .val (.int p3), .val (.int (0 : Int32)), .val (.ref (ad 0)), .val (.int (1 : Int32)), .val (.int p2), .val (.int (-50 : Int32)), .val (.long ((p2.toInt64) + (-50 : Int64))), .second] [(.long ((p2.toInt64) + (-50 : Int64)))])) t
      refine XS.iload X4.here hx rfl (hb hby at_136) rfl ?_
      show Steps p.tables e below (T4.setTop (mkF m 138 #[.val (.int p1), .val (.int p2), .val (.int p3), .val (.int (0 : Int32)), .val (.ref (ad 0)), .val (.int (1 : Int32)), .val (.int p2), .val (.int (-50 : Int32)), .val (.long ((p2.toInt64) + (-50 : Int64))), .second] [(.int p2), (.long ((p2.toInt64) + (-50 : Int64)))])) t
      refine XS.i2l X4.here hx rfl (hb hby at_138) rfl ?_
      show Steps p.tables e below (T4.setTop (mkF m 139 #[.val (.int p1), .val (.int p2), .val (.int p3), .val (.int (0 : Int32)), .val (.ref (ad 0)), .val (.int (1 : Int32)), .val (.int p2), .val (.int (-50 : Int32)), .val (.long ((p2.toInt64) + (-50 : Int64))), .second] [(.long (p2.toInt64)), (.long ((p2.toInt64) + (-50 : Int64)))])) t
      refine X4.ldc2Long hx hown (mvT hZ (hw _ (List.mem_of_getElem? (i := 13) rfl))) (g := (mkF m 139 #[.val (.int p1), .val (.int p2), .val (.int p3), .val (.int (0 : Int32)), .val (.ref (ad 0)), .val (.int (1 : Int32)), .val (.int p2), .val (.int (-50 : Int32)), .val (.long ((p2.toInt64) + (-50 : Int64))), .second] [(.long (p2.toInt64)), (.long ((p2.toInt64) + (-50 : Int64)))])) rfl (hb hby at_139) _ ?_
      show Steps p.tables e below (T4.setTop (mkF m 142 #[.val (.int p1), .val (.int p2), .val (.int p3), .val (.int (0 : Int32)), .val (.ref (ad 0)), .val (.int (1 : Int32)), .val (.int p2), .val (.int (-50 : Int32)), .val (.long ((p2.toInt64) + (-50 : Int64))), .second] [(.long (50 : Int64)), (.long (p2.toInt64)), (.long ((p2.toInt64) + (-50 : Int64)))])) t
      refine XS.lsub X4.here hx rfl (hb hby at_142) rfl ?_
      show Steps p.tables e below (T4.setTop (mkF m 143 #[.val (.int p1), .val (.int p2), .val (.int p3), .val (.int (0 : Int32)), .val (.ref (ad 0)), .val (.int (1 : Int32)), .val (.int p2), .val (.int (-50 : Int32)), .val (.long ((p2.toInt64) + (-50 : Int64))), .second] [(.long ((p2.toInt64) - (50 : Int64))), (.long ((p2.toInt64) + (-50 : Int64)))])) t
      refine XS.lcmp X4.here hx rfl (hb hby at_143) rfl ?_
      show Steps p.tables e below (T4.setTop (mkF m 144 #[.val (.int p1), .val (.int p2), .val (.int p3), .val (.int (0 : Int32)), .val (.ref (ad 0)), .val (.int (1 : Int32)), .val (.int p2), .val (.int (-50 : Int32)), .val (.long ((p2.toInt64) + (-50 : Int64))), .second] [(.int (lcmpW ((p2.toInt64) + (-50 : Int64)) ((p2.toInt64) - (50 : Int64))))])) t
      rw [own_lc1]
      show Steps p.tables e below (T4.setTop (mkF m 144 #[.val (.int p1), .val (.int p2), .val (.int p3), .val (.int (0 : Int32)), .val (.ref (ad 0)), .val (.int (1 : Int32)), .val (.int p2), .val (.int (-50 : Int32)), .val (.long ((p2.toInt64) + (-50 : Int64))), .second] [(.int (0 : Int32))])) t
      refine XS.ifNo X4.here hx rfl (hb hby at_144) rfl ((if0 _ _).trans (teq (by decide : (0 : Int32) = (0 : Int32))).2) ?_
      show Steps p.tables e below (T4.setTop (mkF m 147 #[.val (.int p1), .val (.int p2), .val (.int p3), .val (.int (0 : Int32)), .val (.ref (ad 0)), .val (.int (1 : Int32)), .val (.int p2), .val (.int (-50 : Int32)), .val (.long ((p2.toInt64) + (-50 : Int64))), .second] [])) t
      refine XS.iconst X4.here hx rfl (hb hby at_147) ?_
      show Steps p.tables e below (T4.setTop (mkF m 148 #[.val (.int p1), .val (.int p2), .val (.int p3), .val (.int (0 : Int32)), .val (.ref (ad 0)), .val (.int (1 : Int32)), .val (.int p2), .val (.int (-50 : Int32)), .val (.long ((p2.toInt64) + (-50 : Int64))), .second] [(.int (1 : Int32))])) t
      refine XS.goto X4.here hx rfl (pc0 := 148) (pc' := 152) rfl (hb hby at_148) (by decide) (by decide) ?_
      exact k)
  obtain ⟨fs, hr, hrun, hended, hW, hsame⟩ := X4.leave (v := some (.int (1 : Int32))) (fun h => by rw [Bd.returns] at h; cases h)
  refine ⟨_, _, ch6 _ ?_, hrun, hended, _, _, rfl, ?_, ⟨_, rfl⟩, hW, hsame.mono (by decide) (by decide)⟩
  · show Steps p.tables e below (T4.setTop (mkF m 152 #[.val (.int p1), .val (.int p2), .val (.int p3), .val (.int (0 : Int32)), .val (.ref (ad 0)), .val (.int (1 : Int32)), .val (.int p2), .val (.int (-50 : Int32)), .val (.long ((p2.toInt64) + (-50 : Int64))), .second] [(.int (1 : Int32))])) _
    exact retN X4 hx (t := .boolean) Bd.returns (by simp) (hb hby at_152) hr
  · show QN (some (.int (1 : Int32))) n0 _ T4.heap _
    rw [e4]
    exact ⟨rfl, N4⟩
theorem own_ef_own_add_1n (m : MethodId) {x0 : Addr} {x1 : Int32} : entryFrame m #[(.ref x0), (.int x1)] 3 = mkF m 0 #[.val (.ref x0), .val (.int x1), .unset] [] := by first | (simp [entryFrame, mkF, argsToLocals, Value.category, maxLocals]; done) | rfl
set_option maxRecDepth 65536 in
set_option maxHeartbeats 40000000 in
theorem own_add_1n (l : Launch) (Z : State) (a0 : Array Value) (hw : ∀ d ∈ tables_1, d.before a0 Z = true) (ws : List Jvm.Cond) (h0 : Heap) (n0 : Nat) (Z0 : n0 ≤ h0.size) (x : Int32) (h1 : x < (0 : Int32)) (ad : Nat → Addr) (W : OwnWd Z h0 ad) :
    MetFree l (⟨"com/example/isolint/isolint/bench/Change", "addedToEachValue", "(I)I"⟩ : MethodName) (head1 (Jvm.Cond.code (⟨"com/example/isolint/isolint/bench/Change", "addedToEachValue", "(I)I"⟩ : MethodName) prog_11_method_7_code 3 (some .int) :: ws) ({ frames := 0, cells := 0, slots := 0, locals := 0 } : Room)) (fun a U => a = #[(.ref (ad 1)), (.int x)] ∧ Z.Warmed39 U.vm ∧ U.heap = h0) (fun _ _ _ _ _ => True) (fun _ U o U' => ∃ v L, o = .returned v ∧ QV (some (.int (0 : Int32))) h0 n0 v U'.heap L ∧ FrameEnd U o U' L ({ frames := 0, cells := 0, slots := 0, locals := 0 } : Room).cells ({ frames := 0, cells := 0, slots := 0, locals := 0 } : Room).slots) := by
  refine MetFree.of_bodySF (plainFor_of_name own_pn_com_example_isolint_isolint_bench_Change) hisR ?_
  intro p e s m args below meth c s₁ Bd hml0 hP hK
  obtain ⟨rfl, hZ, hh⟩ := hP
  have hx := Bd.exec
  have hby := Bd.bytes
  have hml : c.maxLocals = 3 := hml0
  have hown : s.vm.findClass "com/example/isolint/isolint/bench/Change" = some m.cls := findClass_of_methodNamed Bd.named
  have hnm := (name_of_methodNamed Bd.named Bd.method).1
  have X0 : Stand p l e ({ frames := 0, cells := 0, slots := 0, locals := 0 } : Room) s m #[(.ref (ad 1)), (.int x)] below meth c s₁ [] 0 0 := Stand.of_body Bd
  have e0 : s₁.heap = h0 := by rw [← hh, Bd.state]; rfl
  have N0 := Fr.nil n0
  have pre0 : ∀ t, Steps p.tables e below (s₁.setTop (mkF m 0 #[.val (.ref (ad 1)), .val (.int x), .unset] [])) t → Steps p.tables e below (s₁.setTop (entryFrame m #[(.ref (ad 1)), (.int x)] 3)) t := fun t k => castTop (own_ef_own_add_1n m) k
  obtain ⟨T1, X1, e1, st1⟩ := getF X0 hx hZ hown (host := "") (Or.inl (hw _ (List.mem_of_getElem? (i := 9) rfl))) Via.refl e0 (own_F_CHANGE_B_writesA W) (g := (mkF m 31 #[.val (.ref (ad 1)), .val (.int x), .val (.int (0 : Int32))] [(.ref (ad 1))])) rfl rfl (hb hby own_d_prog_11_method_7_code_31)
  have ch2 : ∀ t, Steps p.tables e below (T1.setTop (mkF m 34 #[.val (.ref (ad 1)), .val (.int x), .val (.int (0 : Int32))] [(.int (0 : Int32))])) t → Steps p.tables e below (s₁.setTop (entryFrame m #[(.ref (ad 1)), (.int x)] 3)) t := fun t k => pre0 t (by
      show Steps p.tables e below (s₁.setTop (mkF m 0 #[.val (.ref (ad 1)), .val (.int x), .unset] [])) t
      refine XS.iloadN X0.here hx rfl (hb hby own_d_prog_11_method_7_code_0) rfl ?_
      show Steps p.tables e below (s₁.setTop (mkF m 1 #[.val (.ref (ad 1)), .val (.int x), .unset] [(.int x)])) t
      refine XS.ifYes X0.here hx rfl (pc0 := 1) (pc' := 10) rfl (hb hby own_d_prog_11_method_7_code_1) rfl ((if0 _ _).trans (tlt h1).1) (by decide) (by decide) ?_
      show Steps p.tables e below (s₁.setTop (mkF m 10 #[.val (.ref (ad 1)), .val (.int x), .unset] [])) t
      refine XS.iconst X0.here hx rfl (hb hby own_d_prog_11_method_7_code_10) ?_
      show Steps p.tables e below (s₁.setTop (mkF m 11 #[.val (.ref (ad 1)), .val (.int x), .unset] [(.int (0 : Int32))])) t
      refine XS.istoreN X0.here hx rfl (hb hby own_d_prog_11_method_7_code_11) rfl (l' := #[.val (.ref (ad 1)), .val (.int x), .val (.int (0 : Int32))]) rfl ?_
      show Steps p.tables e below (s₁.setTop (mkF m 12 #[.val (.ref (ad 1)), .val (.int x), .val (.int (0 : Int32))] [])) t
      refine XS.goto X0.here hx rfl (pc0 := 12) (pc' := 30) rfl (hb hby own_d_prog_11_method_7_code_12) (by decide) (by decide) ?_
      show Steps p.tables e below (s₁.setTop (mkF m 30 #[.val (.ref (ad 1)), .val (.int x), .val (.int (0 : Int32))] [])) t
      refine XS.aloadN X0.here hx rfl (hb hby own_d_prog_11_method_7_code_30) rfl rfl ?_
      show Steps p.tables e below (s₁.setTop (mkF m 31 #[.val (.ref (ad 1)), .val (.int x), .val (.int (0 : Int32))] [(.ref (ad 1))])) t
      exact st1 t k)
  have ch3 : ∀ t, Steps p.tables e below (T1.setTop (mkF m 51 #[.val (.ref (ad 1)), .val (.int x), .val (.int (0 : Int32))] [(.int (0 : Int32))])) t → Steps p.tables e below (s₁.setTop (entryFrame m #[(.ref (ad 1)), (.int x)] 3)) t := fun t k => ch2 t (by
      show Steps p.tables e below (T1.setTop (mkF m 34 #[.val (.ref (ad 1)), .val (.int x), .val (.int (0 : Int32))] [(.int (0 : Int32))])) t
      refine XS.ifYes X1.here hx rfl (pc0 := 34) (pc' := 50) rfl (hb hby own_d_prog_11_method_7_code_34) rfl ((if0 _ _).trans (teq (by decide : (0 : Int32) = (0 : Int32))).1) (by decide) (by decide) ?_
      show Steps p.tables e below (T1.setTop (mkF m 50 #[.val (.ref (ad 1)), .val (.int x), .val (.int (0 : Int32))] [])) t
      refine XS.iloadN X1.here hx rfl (hb hby own_d_prog_11_method_7_code_50) rfl ?_
      exact k)
  obtain ⟨fs, hr, hrun, hended, hW, hsame⟩ := X1.leave (v := some (.int (0 : Int32))) (fun h => by rw [Bd.returns] at h; cases h)
  refine ⟨_, _, ch3 _ ?_, hrun, hended, _, _, rfl, ?_, ⟨_, rfl⟩, hW, hsame.mono (by decide) (by decide)⟩
  · show Steps p.tables e below (T1.setTop (mkF m 51 #[.val (.ref (ad 1)), .val (.int x), .val (.int (0 : Int32))] [(.int (0 : Int32))])) _
    exact retI X1 hx Bd.returns (hb hby own_d_prog_11_method_7_code_51) hr
  · show QV (some (.int (0 : Int32))) h0 n0 _ T1.heap _
    rw [e1]
    exact ⟨rfl, N0, rfl⟩
theorem own_ef_own_add_1g (m : MethodId) {x0 : Addr} {x1 : Int32} : entryFrame m #[(.ref x0), (.int x1)] 3 = mkF m 0 #[.val (.ref x0), .val (.int x1), .unset] [] := by first | (simp [entryFrame, mkF, argsToLocals, Value.category, maxLocals]; done) | rfl
set_option maxRecDepth 65536 in
set_option maxHeartbeats 40000000 in
theorem own_add_1g (l : Launch) (Z : State) (a0 : Array Value) (hw : ∀ d ∈ tables_1, d.before a0 Z = true) (ws : List Jvm.Cond) (h0 : Heap) (n0 : Nat) (Z0 : n0 ≤ h0.size) (x : Int32) (h1 : ¬ x < (0 : Int32)) (h2 : (99 : Int32) < x) (ad : Nat → Addr) (W : OwnWd Z h0 ad) :
    MetFree l (⟨"com/example/isolint/isolint/bench/Change", "addedToEachValue", "(I)I"⟩ : MethodName) (head1 (Jvm.Cond.code (⟨"com/example/isolint/isolint/bench/Change", "addedToEachValue", "(I)I"⟩ : MethodName) prog_11_method_7_code 3 (some .int) :: ws) ({ frames := 0, cells := 0, slots := 0, locals := 0 } : Room)) (fun a U => a = #[(.ref (ad 1)), (.int x)] ∧ Z.Warmed39 U.vm ∧ U.heap = h0) (fun _ _ _ _ _ => True) (fun _ U o U' => ∃ v L, o = .returned v ∧ QV (some (.int (0 : Int32))) h0 n0 v U'.heap L ∧ FrameEnd U o U' L ({ frames := 0, cells := 0, slots := 0, locals := 0 } : Room).cells ({ frames := 0, cells := 0, slots := 0, locals := 0 } : Room).slots) := by
  refine MetFree.of_bodySF (plainFor_of_name own_pn_com_example_isolint_isolint_bench_Change) hisR ?_
  intro p e s m args below meth c s₁ Bd hml0 hP hK
  obtain ⟨rfl, hZ, hh⟩ := hP
  have hx := Bd.exec
  have hby := Bd.bytes
  have hml : c.maxLocals = 3 := hml0
  have hown : s.vm.findClass "com/example/isolint/isolint/bench/Change" = some m.cls := findClass_of_methodNamed Bd.named
  have hnm := (name_of_methodNamed Bd.named Bd.method).1
  have X0 : Stand p l e ({ frames := 0, cells := 0, slots := 0, locals := 0 } : Room) s m #[(.ref (ad 1)), (.int x)] below meth c s₁ [] 0 0 := Stand.of_body Bd
  have e0 : s₁.heap = h0 := by rw [← hh, Bd.state]; rfl
  have N0 := Fr.nil n0
  have pre0 : ∀ t, Steps p.tables e below (s₁.setTop (mkF m 0 #[.val (.ref (ad 1)), .val (.int x), .unset] [])) t → Steps p.tables e below (s₁.setTop (entryFrame m #[(.ref (ad 1)), (.int x)] 3)) t := fun t k => castTop (own_ef_own_add_1g m) k
  obtain ⟨T1, X1, e1, st1⟩ := getF X0 hx hZ hown (host := "") (Or.inl (hw _ (List.mem_of_getElem? (i := 9) rfl))) Via.refl e0 (own_F_CHANGE_B_writesA W) (g := (mkF m 31 #[.val (.ref (ad 1)), .val (.int x), .val (.int (0 : Int32))] [(.ref (ad 1))])) rfl rfl (hb hby own_d_prog_11_method_7_code_31)
  have ch2 : ∀ t, Steps p.tables e below (T1.setTop (mkF m 34 #[.val (.ref (ad 1)), .val (.int x), .val (.int (0 : Int32))] [(.int (0 : Int32))])) t → Steps p.tables e below (s₁.setTop (entryFrame m #[(.ref (ad 1)), (.int x)] 3)) t := fun t k => pre0 t (by
      show Steps p.tables e below (s₁.setTop (mkF m 0 #[.val (.ref (ad 1)), .val (.int x), .unset] [])) t
      refine XS.iloadN X0.here hx rfl (hb hby own_d_prog_11_method_7_code_0) rfl ?_
      show Steps p.tables e below (s₁.setTop (mkF m 1 #[.val (.ref (ad 1)), .val (.int x), .unset] [(.int x)])) t
      refine XS.ifNo X0.here hx rfl (hb hby own_d_prog_11_method_7_code_1) rfl ((if0 _ _).trans (flt h1).1) ?_
      show Steps p.tables e below (s₁.setTop (mkF m 4 #[.val (.ref (ad 1)), .val (.int x), .unset] [])) t
      refine XS.iloadN X0.here hx rfl (hb hby own_d_prog_11_method_7_code_4) rfl ?_
      show Steps p.tables e below (s₁.setTop (mkF m 5 #[.val (.ref (ad 1)), .val (.int x), .unset] [(.int x)])) t
      refine XS.bipush X0.here hx rfl (hb hby own_d_prog_11_method_7_code_5) ?_
      show Steps p.tables e below (s₁.setTop (mkF m 7 #[.val (.ref (ad 1)), .val (.int x), .unset] [(.int (99 : Int32)), (.int x)])) t
      refine XS.icmpNo X0.here hx rfl (hb hby own_d_prog_11_method_7_code_7) rfl (tlt h2).2.2.2 ?_
      show Steps p.tables e below (s₁.setTop (mkF m 10 #[.val (.ref (ad 1)), .val (.int x), .unset] [])) t
      refine XS.iconst X0.here hx rfl (hb hby own_d_prog_11_method_7_code_10) ?_
      show Steps p.tables e below (s₁.setTop (mkF m 11 #[.val (.ref (ad 1)), .val (.int x), .unset] [(.int (0 : Int32))])) t
      refine XS.istoreN X0.here hx rfl (hb hby own_d_prog_11_method_7_code_11) rfl (l' := #[.val (.ref (ad 1)), .val (.int x), .val (.int (0 : Int32))]) rfl ?_
      show Steps p.tables e below (s₁.setTop (mkF m 12 #[.val (.ref (ad 1)), .val (.int x), .val (.int (0 : Int32))] [])) t
      refine XS.goto X0.here hx rfl (pc0 := 12) (pc' := 30) rfl (hb hby own_d_prog_11_method_7_code_12) (by decide) (by decide) ?_
      show Steps p.tables e below (s₁.setTop (mkF m 30 #[.val (.ref (ad 1)), .val (.int x), .val (.int (0 : Int32))] [])) t
      refine XS.aloadN X0.here hx rfl (hb hby own_d_prog_11_method_7_code_30) rfl rfl ?_
      show Steps p.tables e below (s₁.setTop (mkF m 31 #[.val (.ref (ad 1)), .val (.int x), .val (.int (0 : Int32))] [(.ref (ad 1))])) t
      exact st1 t k)
  have ch3 : ∀ t, Steps p.tables e below (T1.setTop (mkF m 51 #[.val (.ref (ad 1)), .val (.int x), .val (.int (0 : Int32))] [(.int (0 : Int32))])) t → Steps p.tables e below (s₁.setTop (entryFrame m #[(.ref (ad 1)), (.int x)] 3)) t := fun t k => ch2 t (by
      show Steps p.tables e below (T1.setTop (mkF m 34 #[.val (.ref (ad 1)), .val (.int x), .val (.int (0 : Int32))] [(.int (0 : Int32))])) t
      refine XS.ifYes X1.here hx rfl (pc0 := 34) (pc' := 50) rfl (hb hby own_d_prog_11_method_7_code_34) rfl ((if0 _ _).trans (teq (by decide : (0 : Int32) = (0 : Int32))).1) (by decide) (by decide) ?_
      show Steps p.tables e below (T1.setTop (mkF m 50 #[.val (.ref (ad 1)), .val (.int x), .val (.int (0 : Int32))] [])) t
      refine XS.iloadN X1.here hx rfl (hb hby own_d_prog_11_method_7_code_50) rfl ?_
      exact k)
  obtain ⟨fs, hr, hrun, hended, hW, hsame⟩ := X1.leave (v := some (.int (0 : Int32))) (fun h => by rw [Bd.returns] at h; cases h)
  refine ⟨_, _, ch3 _ ?_, hrun, hended, _, _, rfl, ?_, ⟨_, rfl⟩, hW, hsame.mono (by decide) (by decide)⟩
  · show Steps p.tables e below (T1.setTop (mkF m 51 #[.val (.ref (ad 1)), .val (.int x), .val (.int (0 : Int32))] [(.int (0 : Int32))])) _
    exact retI X1 hx Bd.returns (hb hby own_d_prog_11_method_7_code_51) hr
  · show QV (some (.int (0 : Int32))) h0 n0 _ T1.heap _
    rw [e1]
    exact ⟨rfl, N0, rfl⟩
theorem own_ef_own_add_1l (m : MethodId) {x0 : Addr} {x1 : Int32} : entryFrame m #[(.ref x0), (.int x1)] 3 = mkF m 0 #[.val (.ref x0), .val (.int x1), .unset] [] := by first | (simp [entryFrame, mkF, argsToLocals, Value.category, maxLocals]; done) | rfl
set_option maxRecDepth 65536 in
set_option maxHeartbeats 40000000 in
theorem own_add_1l (l : Launch) (Z : State) (a0 : Array Value) (hw : ∀ d ∈ tables_1, d.before a0 Z = true) (ws : List Jvm.Cond) (h0 : Heap) (n0 : Nat) (Z0 : n0 ≤ h0.size) (x : Int32) (h1 : ¬ x < (0 : Int32)) (h2 : ¬ (99 : Int32) < x) (h3 : x < (50 : Int32)) (ad : Nat → Addr) (W : OwnWd Z h0 ad) :
    MetFree l (⟨"com/example/isolint/isolint/bench/Change", "addedToEachValue", "(I)I"⟩ : MethodName) (head1 (Jvm.Cond.code (⟨"com/example/isolint/isolint/bench/Change", "addedToEachValue", "(I)I"⟩ : MethodName) prog_11_method_7_code 3 (some .int) :: ws) ({ frames := 0, cells := 0, slots := 0, locals := 0 } : Room)) (fun a U => a = #[(.ref (ad 1)), (.int x)] ∧ Z.Warmed39 U.vm ∧ U.heap = h0) (fun _ _ _ _ _ => True) (fun _ U o U' => ∃ v L, o = .returned v ∧ QV (some (.int (50 : Int32))) h0 n0 v U'.heap L ∧ FrameEnd U o U' L ({ frames := 0, cells := 0, slots := 0, locals := 0 } : Room).cells ({ frames := 0, cells := 0, slots := 0, locals := 0 } : Room).slots) := by
  refine MetFree.of_bodySF (plainFor_of_name own_pn_com_example_isolint_isolint_bench_Change) hisR ?_
  intro p e s m args below meth c s₁ Bd hml0 hP hK
  obtain ⟨rfl, hZ, hh⟩ := hP
  have hx := Bd.exec
  have hby := Bd.bytes
  have hml : c.maxLocals = 3 := hml0
  have hown : s.vm.findClass "com/example/isolint/isolint/bench/Change" = some m.cls := findClass_of_methodNamed Bd.named
  have hnm := (name_of_methodNamed Bd.named Bd.method).1
  have X0 : Stand p l e ({ frames := 0, cells := 0, slots := 0, locals := 0 } : Room) s m #[(.ref (ad 1)), (.int x)] below meth c s₁ [] 0 0 := Stand.of_body Bd
  have e0 : s₁.heap = h0 := by rw [← hh, Bd.state]; rfl
  have N0 := Fr.nil n0
  have pre0 : ∀ t, Steps p.tables e below (s₁.setTop (mkF m 0 #[.val (.ref (ad 1)), .val (.int x), .unset] [])) t → Steps p.tables e below (s₁.setTop (entryFrame m #[(.ref (ad 1)), (.int x)] 3)) t := fun t k => castTop (own_ef_own_add_1l m) k
  obtain ⟨T1, X1, e1, st1⟩ := getF X0 hx hZ hown (host := "") (Or.inl (hw _ (List.mem_of_getElem? (i := 9) rfl))) Via.refl e0 (own_F_CHANGE_B_writesA W) (g := (mkF m 31 #[.val (.ref (ad 1)), .val (.int x), .val (.int (50 : Int32))] [(.ref (ad 1))])) rfl rfl (hb hby own_d_prog_11_method_7_code_31)
  have ch2 : ∀ t, Steps p.tables e below (T1.setTop (mkF m 34 #[.val (.ref (ad 1)), .val (.int x), .val (.int (50 : Int32))] [(.int (0 : Int32))])) t → Steps p.tables e below (s₁.setTop (entryFrame m #[(.ref (ad 1)), (.int x)] 3)) t := fun t k => pre0 t (by
      show Steps p.tables e below (s₁.setTop (mkF m 0 #[.val (.ref (ad 1)), .val (.int x), .unset] [])) t
      refine XS.iloadN X0.here hx rfl (hb hby own_d_prog_11_method_7_code_0) rfl ?_
      show Steps p.tables e below (s₁.setTop (mkF m 1 #[.val (.ref (ad 1)), .val (.int x), .unset] [(.int x)])) t
      refine XS.ifNo X0.here hx rfl (hb hby own_d_prog_11_method_7_code_1) rfl ((if0 _ _).trans (flt h1).1) ?_
      show Steps p.tables e below (s₁.setTop (mkF m 4 #[.val (.ref (ad 1)), .val (.int x), .unset] [])) t
      refine XS.iloadN X0.here hx rfl (hb hby own_d_prog_11_method_7_code_4) rfl ?_
      show Steps p.tables e below (s₁.setTop (mkF m 5 #[.val (.ref (ad 1)), .val (.int x), .unset] [(.int x)])) t
      refine XS.bipush X0.here hx rfl (hb hby own_d_prog_11_method_7_code_5) ?_
      show Steps p.tables e below (s₁.setTop (mkF m 7 #[.val (.ref (ad 1)), .val (.int x), .unset] [(.int (99 : Int32)), (.int x)])) t
      refine XS.icmpYes X0.here hx rfl (pc0 := 7) (pc' := 15) rfl (hb hby own_d_prog_11_method_7_code_7) rfl (flt h2).2.2.2 (by decide) (by decide) ?_
      show Steps p.tables e below (s₁.setTop (mkF m 15 #[.val (.ref (ad 1)), .val (.int x), .unset] [])) t
      refine XS.iloadN X0.here hx rfl (hb hby own_d_prog_11_method_7_code_15) rfl ?_
      show Steps p.tables e below (s₁.setTop (mkF m 16 #[.val (.ref (ad 1)), .val (.int x), .unset] [(.int x)])) t
      refine XS.bipush X0.here hx rfl (hb hby own_d_prog_11_method_7_code_16) ?_
      show Steps p.tables e below (s₁.setTop (mkF m 18 #[.val (.ref (ad 1)), .val (.int x), .unset] [(.int (50 : Int32)), (.int x)])) t
      refine XS.icmpNo X0.here hx rfl (hb hby own_d_prog_11_method_7_code_18) rfl (tlt h3).2.1 ?_
      show Steps p.tables e below (s₁.setTop (mkF m 21 #[.val (.ref (ad 1)), .val (.int x), .unset] [])) t
      refine XS.bipush X0.here hx rfl (hb hby own_d_prog_11_method_7_code_21) ?_
      show Steps p.tables e below (s₁.setTop (mkF m 23 #[.val (.ref (ad 1)), .val (.int x), .unset] [(.int (50 : Int32))])) t
      refine XS.istoreN X0.here hx rfl (hb hby own_d_prog_11_method_7_code_23) rfl (l' := #[.val (.ref (ad 1)), .val (.int x), .val (.int (50 : Int32))]) rfl ?_
      show Steps p.tables e below (s₁.setTop (mkF m 24 #[.val (.ref (ad 1)), .val (.int x), .val (.int (50 : Int32))] [])) t
      refine XS.goto X0.here hx rfl (pc0 := 24) (pc' := 30) rfl (hb hby own_d_prog_11_method_7_code_24) (by decide) (by decide) ?_
      show Steps p.tables e below (s₁.setTop (mkF m 30 #[.val (.ref (ad 1)), .val (.int x), .val (.int (50 : Int32))] [])) t
      refine XS.aloadN X0.here hx rfl (hb hby own_d_prog_11_method_7_code_30) rfl rfl ?_
      show Steps p.tables e below (s₁.setTop (mkF m 31 #[.val (.ref (ad 1)), .val (.int x), .val (.int (50 : Int32))] [(.ref (ad 1))])) t
      exact st1 t k)
  have ch3 : ∀ t, Steps p.tables e below (T1.setTop (mkF m 51 #[.val (.ref (ad 1)), .val (.int x), .val (.int (50 : Int32))] [(.int (50 : Int32))])) t → Steps p.tables e below (s₁.setTop (entryFrame m #[(.ref (ad 1)), (.int x)] 3)) t := fun t k => ch2 t (by
      show Steps p.tables e below (T1.setTop (mkF m 34 #[.val (.ref (ad 1)), .val (.int x), .val (.int (50 : Int32))] [(.int (0 : Int32))])) t
      refine XS.ifYes X1.here hx rfl (pc0 := 34) (pc' := 50) rfl (hb hby own_d_prog_11_method_7_code_34) rfl ((if0 _ _).trans (teq (by decide : (0 : Int32) = (0 : Int32))).1) (by decide) (by decide) ?_
      show Steps p.tables e below (T1.setTop (mkF m 50 #[.val (.ref (ad 1)), .val (.int x), .val (.int (50 : Int32))] [])) t
      refine XS.iloadN X1.here hx rfl (hb hby own_d_prog_11_method_7_code_50) rfl ?_
      exact k)
  obtain ⟨fs, hr, hrun, hended, hW, hsame⟩ := X1.leave (v := some (.int (50 : Int32))) (fun h => by rw [Bd.returns] at h; cases h)
  refine ⟨_, _, ch3 _ ?_, hrun, hended, _, _, rfl, ?_, ⟨_, rfl⟩, hW, hsame.mono (by decide) (by decide)⟩
  · show Steps p.tables e below (T1.setTop (mkF m 51 #[.val (.ref (ad 1)), .val (.int x), .val (.int (50 : Int32))] [(.int (50 : Int32))])) _
    exact retI X1 hx Bd.returns (hb hby own_d_prog_11_method_7_code_51) hr
  · show QV (some (.int (50 : Int32))) h0 n0 _ T1.heap _
    rw [e1]
    exact ⟨rfl, N0, rfl⟩
theorem own_ef_own_add_1h (m : MethodId) {x0 : Addr} {x1 : Int32} : entryFrame m #[(.ref x0), (.int x1)] 3 = mkF m 0 #[.val (.ref x0), .val (.int x1), .unset] [] := by first | (simp [entryFrame, mkF, argsToLocals, Value.category, maxLocals]; done) | rfl
set_option maxRecDepth 65536 in
set_option maxHeartbeats 40000000 in
theorem own_add_1h (l : Launch) (Z : State) (a0 : Array Value) (hw : ∀ d ∈ tables_1, d.before a0 Z = true) (ws : List Jvm.Cond) (h0 : Heap) (n0 : Nat) (Z0 : n0 ≤ h0.size) (x : Int32) (h1 : ¬ x < (0 : Int32)) (h2 : ¬ (99 : Int32) < x) (h3 : ¬ x < (50 : Int32)) (ad : Nat → Addr) (W : OwnWd Z h0 ad) :
    MetFree l (⟨"com/example/isolint/isolint/bench/Change", "addedToEachValue", "(I)I"⟩ : MethodName) (head1 (Jvm.Cond.code (⟨"com/example/isolint/isolint/bench/Change", "addedToEachValue", "(I)I"⟩ : MethodName) prog_11_method_7_code 3 (some .int) :: ws) ({ frames := 0, cells := 0, slots := 0, locals := 0 } : Room)) (fun a U => a = #[(.ref (ad 1)), (.int x)] ∧ Z.Warmed39 U.vm ∧ U.heap = h0) (fun _ _ _ _ _ => True) (fun _ U o U' => ∃ v L, o = .returned v ∧ QV (some (.int (-50 : Int32))) h0 n0 v U'.heap L ∧ FrameEnd U o U' L ({ frames := 0, cells := 0, slots := 0, locals := 0 } : Room).cells ({ frames := 0, cells := 0, slots := 0, locals := 0 } : Room).slots) := by
  refine MetFree.of_bodySF (plainFor_of_name own_pn_com_example_isolint_isolint_bench_Change) hisR ?_
  intro p e s m args below meth c s₁ Bd hml0 hP hK
  obtain ⟨rfl, hZ, hh⟩ := hP
  have hx := Bd.exec
  have hby := Bd.bytes
  have hml : c.maxLocals = 3 := hml0
  have hown : s.vm.findClass "com/example/isolint/isolint/bench/Change" = some m.cls := findClass_of_methodNamed Bd.named
  have hnm := (name_of_methodNamed Bd.named Bd.method).1
  have X0 : Stand p l e ({ frames := 0, cells := 0, slots := 0, locals := 0 } : Room) s m #[(.ref (ad 1)), (.int x)] below meth c s₁ [] 0 0 := Stand.of_body Bd
  have e0 : s₁.heap = h0 := by rw [← hh, Bd.state]; rfl
  have N0 := Fr.nil n0
  have pre0 : ∀ t, Steps p.tables e below (s₁.setTop (mkF m 0 #[.val (.ref (ad 1)), .val (.int x), .unset] [])) t → Steps p.tables e below (s₁.setTop (entryFrame m #[(.ref (ad 1)), (.int x)] 3)) t := fun t k => castTop (own_ef_own_add_1h m) k
  obtain ⟨T1, X1, e1, st1⟩ := getF X0 hx hZ hown (host := "") (Or.inl (hw _ (List.mem_of_getElem? (i := 9) rfl))) Via.refl e0 (own_F_CHANGE_B_writesA W) (g := (mkF m 31 #[.val (.ref (ad 1)), .val (.int x), .val (.int (-50 : Int32))] [(.ref (ad 1))])) rfl rfl (hb hby own_d_prog_11_method_7_code_31)
  have ch2 : ∀ t, Steps p.tables e below (T1.setTop (mkF m 34 #[.val (.ref (ad 1)), .val (.int x), .val (.int (-50 : Int32))] [(.int (0 : Int32))])) t → Steps p.tables e below (s₁.setTop (entryFrame m #[(.ref (ad 1)), (.int x)] 3)) t := fun t k => pre0 t (by
      show Steps p.tables e below (s₁.setTop (mkF m 0 #[.val (.ref (ad 1)), .val (.int x), .unset] [])) t
      refine XS.iloadN X0.here hx rfl (hb hby own_d_prog_11_method_7_code_0) rfl ?_
      show Steps p.tables e below (s₁.setTop (mkF m 1 #[.val (.ref (ad 1)), .val (.int x), .unset] [(.int x)])) t
      refine XS.ifNo X0.here hx rfl (hb hby own_d_prog_11_method_7_code_1) rfl ((if0 _ _).trans (flt h1).1) ?_
      show Steps p.tables e below (s₁.setTop (mkF m 4 #[.val (.ref (ad 1)), .val (.int x), .unset] [])) t
      refine XS.iloadN X0.here hx rfl (hb hby own_d_prog_11_method_7_code_4) rfl ?_
      show Steps p.tables e below (s₁.setTop (mkF m 5 #[.val (.ref (ad 1)), .val (.int x), .unset] [(.int x)])) t
      refine XS.bipush X0.here hx rfl (hb hby own_d_prog_11_method_7_code_5) ?_
      show Steps p.tables e below (s₁.setTop (mkF m 7 #[.val (.ref (ad 1)), .val (.int x), .unset] [(.int (99 : Int32)), (.int x)])) t
      refine XS.icmpYes X0.here hx rfl (pc0 := 7) (pc' := 15) rfl (hb hby own_d_prog_11_method_7_code_7) rfl (flt h2).2.2.2 (by decide) (by decide) ?_
      show Steps p.tables e below (s₁.setTop (mkF m 15 #[.val (.ref (ad 1)), .val (.int x), .unset] [])) t
      refine XS.iloadN X0.here hx rfl (hb hby own_d_prog_11_method_7_code_15) rfl ?_
      show Steps p.tables e below (s₁.setTop (mkF m 16 #[.val (.ref (ad 1)), .val (.int x), .unset] [(.int x)])) t
      refine XS.bipush X0.here hx rfl (hb hby own_d_prog_11_method_7_code_16) ?_
      show Steps p.tables e below (s₁.setTop (mkF m 18 #[.val (.ref (ad 1)), .val (.int x), .unset] [(.int (50 : Int32)), (.int x)])) t
      refine XS.icmpYes X0.here hx rfl (pc0 := 18) (pc' := 27) rfl (hb hby own_d_prog_11_method_7_code_18) rfl (flt h3).2.1 (by decide) (by decide) ?_
      show Steps p.tables e below (s₁.setTop (mkF m 27 #[.val (.ref (ad 1)), .val (.int x), .unset] [])) t
      refine XS.bipush X0.here hx rfl (hb hby own_d_prog_11_method_7_code_27) ?_
      show Steps p.tables e below (s₁.setTop (mkF m 29 #[.val (.ref (ad 1)), .val (.int x), .unset] [(.int (-50 : Int32))])) t
      refine XS.istoreN X0.here hx rfl (hb hby own_d_prog_11_method_7_code_29) rfl (l' := #[.val (.ref (ad 1)), .val (.int x), .val (.int (-50 : Int32))]) rfl ?_
      show Steps p.tables e below (s₁.setTop (mkF m 30 #[.val (.ref (ad 1)), .val (.int x), .val (.int (-50 : Int32))] [])) t
      refine XS.aloadN X0.here hx rfl (hb hby own_d_prog_11_method_7_code_30) rfl rfl ?_
      show Steps p.tables e below (s₁.setTop (mkF m 31 #[.val (.ref (ad 1)), .val (.int x), .val (.int (-50 : Int32))] [(.ref (ad 1))])) t
      exact st1 t k)
  have ch3 : ∀ t, Steps p.tables e below (T1.setTop (mkF m 51 #[.val (.ref (ad 1)), .val (.int x), .val (.int (-50 : Int32))] [(.int (-50 : Int32))])) t → Steps p.tables e below (s₁.setTop (entryFrame m #[(.ref (ad 1)), (.int x)] 3)) t := fun t k => ch2 t (by
      show Steps p.tables e below (T1.setTop (mkF m 34 #[.val (.ref (ad 1)), .val (.int x), .val (.int (-50 : Int32))] [(.int (0 : Int32))])) t
      refine XS.ifYes X1.here hx rfl (pc0 := 34) (pc' := 50) rfl (hb hby own_d_prog_11_method_7_code_34) rfl ((if0 _ _).trans (teq (by decide : (0 : Int32) = (0 : Int32))).1) (by decide) (by decide) ?_
      show Steps p.tables e below (T1.setTop (mkF m 50 #[.val (.ref (ad 1)), .val (.int x), .val (.int (-50 : Int32))] [])) t
      refine XS.iloadN X1.here hx rfl (hb hby own_d_prog_11_method_7_code_50) rfl ?_
      exact k)
  obtain ⟨fs, hr, hrun, hended, hW, hsame⟩ := X1.leave (v := some (.int (-50 : Int32))) (fun h => by rw [Bd.returns] at h; cases h)
  refine ⟨_, _, ch3 _ ?_, hrun, hended, _, _, rfl, ?_, ⟨_, rfl⟩, hW, hsame.mono (by decide) (by decide)⟩
  · show Steps p.tables e below (T1.setTop (mkF m 51 #[.val (.ref (ad 1)), .val (.int x), .val (.int (-50 : Int32))] [(.int (-50 : Int32))])) _
    exact retI X1 hx Bd.returns (hb hby own_d_prog_11_method_7_code_51) hr
  · show QV (some (.int (-50 : Int32))) h0 n0 _ T1.heap _
    rw [e1]
    exact ⟨rfl, N0, rfl⟩
theorem own_ef_own_law_10n (m : MethodId) {x0 : Int32} {x1 : Int32} {x2 : Int32} : entryFrame m #[(.int x0), (.int x1), (.int x2)] maxLocals = mkF m 0 #[.val (.int x0), .val (.int x1), .val (.int x2), .unset, .unset, .unset, .unset, .unset, .unset, .unset] [] := by first | (simp [entryFrame, mkF, argsToLocals, Value.category, maxLocals]; done) | rfl
set_option maxRecDepth 65536 in
set_option maxHeartbeats 40000000 in
theorem own_law_10n (l : Launch) (Z : State) (a0 : Array Value) (hw : ∀ d ∈ tables_1, d.before a0 Z = true) (ws : List Jvm.Cond) (h0 : Heap) (n0 : Nat) (Z0 : n0 ≤ h0.size) (p1 p2 p3 : Int32) (hk : (p1 &&& (2147483647 : Int32)) % (3 : Int32) = (1 : Int32)) (hm : p3 &&& (1 : Int32) = (0 : Int32)) (h1 : (p2 % (128 : Int32)) < (0 : Int32)) (ad : Nat → Addr) (W : OwnWd Z h0 ad) :
    MetFree l x (head1 (Jvm.Cond.code x code maxLocals ret :: ws) room_1) (fun a U => a = #[(.int p1), (.int p2), (.int p3)] ∧ Z.Warmed39 U.vm ∧ U.heap = h0) (fun _ _ _ _ _ => True) (fun _ U o U' => ∃ v L, o = .returned v ∧ QN (some (.int (1 : Int32))) n0 v U'.heap L ∧ FrameEnd U o U' L room_1.cells room_1.slots) := by
  refine MetFree.of_bodySF (plainFor_of_name own_pn_com_example_isolint_isolint_bench_ChangeAddedToEachValuePinLaw) hisR ?_
  intro p e s m args below meth c s₁ Bd hml0 hP hK
  obtain ⟨rfl, hZ, hh⟩ := hP
  have hx := Bd.exec
  have hby := Bd.bytes
  have hml : c.maxLocals = 10 := hml0
  have hown : s.vm.findClass "com/example/isolint/isolint/bench/ChangeAddedToEachValuePinLaw" = some m.cls := findClass_of_methodNamed Bd.named
  have hnm := (name_of_methodNamed Bd.named Bd.method).1
  have X0 : Stand p l e room_1 s m #[(.int p1), (.int p2), (.int p3)] below meth c s₁ [] 0 0 := Stand.of_body Bd
  have e0 : s₁.heap = h0 := by rw [← hh, Bd.state]; rfl
  have N0 := Fr.nil n0
  have pre0 : ∀ t, Steps p.tables e below (s₁.setTop (mkF m 0 #[.val (.int p1), .val (.int p2), .val (.int p3), .unset, .unset, .unset, .unset, .unset, .unset, .unset] [])) t → Steps p.tables e below (s₁.setTop (entryFrame m #[(.int p1), (.int p2), (.int p3)] maxLocals)) t := fun t k => castTop (own_ef_own_law_10n m) k
  obtain ⟨T1, X1, e1, st1⟩ := getS2 X0 hx hZ hown (host := "") (Or.inl (hw _ (List.mem_of_getElem? (i := 14) rfl))) Via.refl e0 (own_S_CHANGE_B W) (g := (mkF m 27 #[.val (.int p1), .val (.int p2), .val (.int p3), .val (.int (1 : Int32)), .unset, .unset, .unset, .unset, .unset, .unset] [])) rfl (hb hby at_27)
  have ch2 : ∀ t, Steps p.tables e below (T1.setTop (mkF m 30 #[.val (.int p1), .val (.int p2), .val (.int p3), .val (.int (1 : Int32)), .unset, .unset, .unset, .unset, .unset, .unset] [(.ref (ad 1))])) t → Steps p.tables e below (s₁.setTop (entryFrame m #[(.int p1), (.int p2), (.int p3)] maxLocals)) t := fun t k => pre0 t (by
      show Steps p.tables e below (s₁.setTop (mkF m 0 #[.val (.int p1), .val (.int p2), .val (.int p3), .unset, .unset, .unset, .unset, .unset, .unset, .unset] [])) t
      refine XS.iloadN X0.here hx rfl (hb hby at_0) rfl ?_
      show Steps p.tables e below (s₁.setTop (mkF m 1 #[.val (.int p1), .val (.int p2), .val (.int p3), .unset, .unset, .unset, .unset, .unset, .unset, .unset] [(.int p1)])) t
      refine X0.ldcInt hx hown (mvT hZ (hw _ (List.mem_of_getElem? (i := 0) rfl))) (g := (mkF m 1 #[.val (.int p1), .val (.int p2), .val (.int p3), .unset, .unset, .unset, .unset, .unset, .unset, .unset] [(.int p1)])) rfl (hb hby at_1) _ ?_
      show Steps p.tables e below (s₁.setTop (mkF m 3 #[.val (.int p1), .val (.int p2), .val (.int p3), .unset, .unset, .unset, .unset, .unset, .unset, .unset] [(.int (2147483647 : Int32)), (.int p1)])) t
      refine XS.iand X0.here hx rfl (hb hby at_3) rfl ?_
      show Steps p.tables e below (s₁.setTop (mkF m 4 #[.val (.int p1), .val (.int p2), .val (.int p3), .unset, .unset, .unset, .unset, .unset, .unset, .unset] [(.int (p1 &&& (2147483647 : Int32)))])) t
      refine XS.iconst X0.here hx rfl (hb hby at_4) ?_
      show Steps p.tables e below (s₁.setTop (mkF m 5 #[.val (.int p1), .val (.int p2), .val (.int p3), .unset, .unset, .unset, .unset, .unset, .unset, .unset] [(.int (3 : Int32)), (.int (p1 &&& (2147483647 : Int32)))])) t
      refine Jvm.RoadKit.iremM (g := (mkF m 5 #[.val (.int p1), .val (.int p2), .val (.int p3), .unset, .unset, .unset, .unset, .unset, .unset, .unset] [(.int (3 : Int32)), (.int (p1 &&& (2147483647 : Int32)))])) X0 hx rfl (hb hby at_5) rfl (by decide) ?_
      rw [hk]
      show Steps p.tables e below (s₁.setTop (mkF m 6 #[.val (.int p1), .val (.int p2), .val (.int p3), .unset, .unset, .unset, .unset, .unset, .unset, .unset] [(.int (1 : Int32))])) t
      refine XS.istoreN X0.here hx rfl (hb hby at_6) rfl (l' := #[.val (.int p1), .val (.int p2), .val (.int p3), .val (.int (1 : Int32)), .unset, .unset, .unset, .unset, .unset, .unset]) rfl ?_
      show Steps p.tables e below (s₁.setTop (mkF m 7 #[.val (.int p1), .val (.int p2), .val (.int p3), .val (.int (1 : Int32)), .unset, .unset, .unset, .unset, .unset, .unset] [])) t
      refine XS.iloadN X0.here hx rfl (hb hby at_7) rfl ?_
      show Steps p.tables e below (s₁.setTop (mkF m 8 #[.val (.int p1), .val (.int p2), .val (.int p3), .val (.int (1 : Int32)), .unset, .unset, .unset, .unset, .unset, .unset] [(.int (1 : Int32))])) t
      refine XS.ifYes X0.here hx rfl (pc0 := 8) (pc' := 22) rfl (hb hby at_8) rfl ((if0 _ _).trans (feq (by decide : ¬ (1 : Int32) = (0 : Int32))).2) (by decide) (by decide) ?_
      show Steps p.tables e below (s₁.setTop (mkF m 22 #[.val (.int p1), .val (.int p2), .val (.int p3), .val (.int (1 : Int32)), .unset, .unset, .unset, .unset, .unset, .unset] [])) t
      refine XS.iloadN X0.here hx rfl (hb hby at_22) rfl ?_
      show Steps p.tables e below (s₁.setTop (mkF m 23 #[.val (.int p1), .val (.int p2), .val (.int p3), .val (.int (1 : Int32)), .unset, .unset, .unset, .unset, .unset, .unset] [(.int (1 : Int32))])) t
      refine XS.iconst X0.here hx rfl (hb hby at_23) ?_
      show Steps p.tables e below (s₁.setTop (mkF m 24 #[.val (.int p1), .val (.int p2), .val (.int p3), .val (.int (1 : Int32)), .unset, .unset, .unset, .unset, .unset, .unset] [(.int (1 : Int32)), (.int (1 : Int32))])) t
      refine XS.icmpNo X0.here hx rfl (hb hby at_24) rfl (teq (by decide : (1 : Int32) = (1 : Int32))).2 ?_
      show Steps p.tables e below (s₁.setTop (mkF m 27 #[.val (.int p1), .val (.int p2), .val (.int p3), .val (.int (1 : Int32)), .unset, .unset, .unset, .unset, .unset, .unset] [])) t
      exact st1 t k)
  obtain ⟨cq3, kq3, qa3, qb3, qc3⟩ := isOf hZ e1 (own_E_CHANGE_B W)
  obtain ⟨vv4, _, ⟨T4, L4, kk4, nn4⟩, -, X4, ⟨Lc4, hQ4, l4, y4, z4⟩, st4⟩ := X1.virtualBack hx (y := (⟨"com/example/isolint/isolint/bench/Change", "addedToEachValue", "(I)I"⟩ : MethodName)) (z := (⟨"com/example/isolint/isolint/bench/Change", "addedToEachValue", "(I)I"⟩ : MethodName)) hown (mvT hZ (hw _ (List.mem_of_getElem? (i := 4) rfl))) (mvT hZ (hw _ (List.mem_of_getElem? (i := 5) rfl))) (notFace_of_selects (args := #[]) (mvT hZ (hw _ (List.mem_of_getElem? (i := 7) rfl)))) (mvT hZ (hw _ (List.mem_of_getElem? (i := 7) rfl))) (mvT hZ (hw _ (List.mem_of_getElem? (i := 6) rfl))) (by decide) (backOf (W := 0) (own_add_1n l Z a0 hw [] h0 n0 Z0  (p2 % (128 : Int32)) h1 ad W) hZ (hw _ (List.mem_of_getElem? (i := 8) rfl)) (hw _ (List.mem_of_getElem? (i := 2) rfl)) (by decide) (by decide)) qa3 qc3 (g := (mkF m 67 #[.val (.int p1), .val (.int p2), .val (.int p3), .val (.int (1 : Int32)), .val (.ref (ad 1)), .val (.int (1 : Int32)), .val (.int (p2 % (128 : Int32))), .unset, .unset, .unset] [(.int (p2 % (128 : Int32))), (.ref (ad 1))])) rfl (by rw [hml]; rfl) (Steps.refl _) (argsL := [(.int (p2 % (128 : Int32)))]) (rest := []) (lenOf own_pd__I_I rfl) rfl (by show 2 * 0 + _ ≤ _; exact Nat.le_of_eq rfl) (hb hby at_67) (fun _ _ => ⟨rfl, e1, (by decide : 0 + 0 ≤ _), (by decide : 0 + 0 ≤ _)⟩)
  dsimp only [Pt.U, Pt.locs, Pt.cells, Pt.slots] at X4 l4 y4 z4 st4 hQ4
  subst l4 y4 z4
  obtain ⟨rfl, Nq4, e4⟩ := hQ4
  have N4 := Fr.app N0 Nq4
  have ch5 : ∀ t, Steps p.tables e below (T4.setTop (mkF m 70 #[.val (.int p1), .val (.int p2), .val (.int p3), .val (.int (1 : Int32)), .val (.ref (ad 1)), .val (.int (1 : Int32)), .val (.int (p2 % (128 : Int32))), .unset, .unset, .unset] [(.int (0 : Int32))])) t → Steps p.tables e below (s₁.setTop (entryFrame m #[(.int p1), (.int p2), (.int p3)] maxLocals)) t := fun t k => ch2 t (by
      show Steps p.tables e below (T1.setTop (mkF m 30 #[.val (.int p1), .val (.int p2), .val (.int p3), .val (.int (1 : Int32)), .unset, .unset, .unset, .unset, .unset, .unset] [(.ref (ad 1))])) t
      refine XS.astore X1.here hx rfl (hb hby at_30) rfl rfl (l' := #[.val (.int p1), .val (.int p2), .val (.int p3), .val (.int (1 : Int32)), .val (.ref (ad 1)), .unset, .unset, .unset, .unset, .unset]) rfl ?_
      show Steps p.tables e below (T1.setTop (mkF m 32 #[.val (.int p1), .val (.int p2), .val (.int p3), .val (.int (1 : Int32)), .val (.ref (ad 1)), .unset, .unset, .unset, .unset, .unset] [])) t
      refine XS.iconst X1.here hx rfl (hb hby at_32) ?_
      show Steps p.tables e below (T1.setTop (mkF m 33 #[.val (.int p1), .val (.int p2), .val (.int p3), .val (.int (1 : Int32)), .val (.ref (ad 1)), .unset, .unset, .unset, .unset, .unset] [(.int (1 : Int32))])) t
      refine XS.istore X1.here hx rfl (hb hby at_33) rfl (l' := #[.val (.int p1), .val (.int p2), .val (.int p3), .val (.int (1 : Int32)), .val (.ref (ad 1)), .val (.int (1 : Int32)), .unset, .unset, .unset, .unset]) rfl ?_
      show Steps p.tables e below (T1.setTop (mkF m 35 #[.val (.int p1), .val (.int p2), .val (.int p3), .val (.int (1 : Int32)), .val (.ref (ad 1)), .val (.int (1 : Int32)), .unset, .unset, .unset, .unset] [])) t
      refine XS.goto X1.here hx rfl (pc0 := 35) (pc' := 46) rfl (hb hby at_35) (by decide) (by decide) ?_
      show Steps p.tables e below (T1.setTop (mkF m 46 #[.val (.int p1), .val (.int p2), .val (.int p3), .val (.int (1 : Int32)), .val (.ref (ad 1)), .val (.int (1 : Int32)), .unset, .unset, .unset, .unset] [])) t
      refine XS.iloadN X1.here hx rfl (hb hby at_46) rfl ?_
      show Steps p.tables e below (T1.setTop (mkF m 47 #[.val (.int p1), .val (.int p2), .val (.int p3), .val (.int (1 : Int32)), .val (.ref (ad 1)), .val (.int (1 : Int32)), .unset, .unset, .unset, .unset] [(.int p3)])) t
      refine XS.iconst X1.here hx rfl (hb hby at_47) ?_
      show Steps p.tables e below (T1.setTop (mkF m 48 #[.val (.int p1), .val (.int p2), .val (.int p3), .val (.int (1 : Int32)), .val (.ref (ad 1)), .val (.int (1 : Int32)), .unset, .unset, .unset, .unset] [(.int (1 : Int32)), (.int p3)])) t
      refine XS.iand X1.here hx rfl (hb hby at_48) rfl ?_
      rw [hm]
      show Steps p.tables e below (T1.setTop (mkF m 49 #[.val (.int p1), .val (.int p2), .val (.int p3), .val (.int (1 : Int32)), .val (.ref (ad 1)), .val (.int (1 : Int32)), .unset, .unset, .unset, .unset] [(.int (0 : Int32))])) t
      refine XS.ifYes X1.here hx rfl (pc0 := 49) (pc' := 56) rfl (hb hby at_49) rfl ((if0 _ _).trans (teq (by decide : (0 : Int32) = (0 : Int32))).1) (by decide) (by decide) ?_
      show Steps p.tables e below (T1.setTop (mkF m 56 #[.val (.int p1), .val (.int p2), .val (.int p3), .val (.int (1 : Int32)), .val (.ref (ad 1)), .val (.int (1 : Int32)), .unset, .unset, .unset, .unset] [])) t
      refine XS.iloadN X1.here hx rfl (hb hby at_56) rfl ?_
      show Steps p.tables e below (T1.setTop (mkF m 57 #[.val (.int p1), .val (.int p2), .val (.int p3), .val (.int (1 : Int32)), .val (.ref (ad 1)), .val (.int (1 : Int32)), .unset, .unset, .unset, .unset] [(.int p2)])) t
      refine XS.sipush X1.here hx rfl (hb hby at_57) ?_
      show Steps p.tables e below (T1.setTop (mkF m 60 #[.val (.int p1), .val (.int p2), .val (.int p3), .val (.int (1 : Int32)), .val (.ref (ad 1)), .val (.int (1 : Int32)), .unset, .unset, .unset, .unset] [(.int (128 : Int32)), (.int p2)])) t
      refine Jvm.RoadKit.iremM (g := (mkF m 60 #[.val (.int p1), .val (.int p2), .val (.int p3), .val (.int (1 : Int32)), .val (.ref (ad 1)), .val (.int (1 : Int32)), .unset, .unset, .unset, .unset] [(.int (128 : Int32)), (.int p2)])) X1 hx rfl (hb hby at_60) rfl (by decide) ?_
      show Steps p.tables e below (T1.setTop (mkF m 61 #[.val (.int p1), .val (.int p2), .val (.int p3), .val (.int (1 : Int32)), .val (.ref (ad 1)), .val (.int (1 : Int32)), .unset, .unset, .unset, .unset] [(.int (p2 % (128 : Int32)))])) t
      refine XS.istore X1.here hx rfl (hb hby at_61) rfl (l' := #[.val (.int p1), .val (.int p2), .val (.int p3), .val (.int (1 : Int32)), .val (.ref (ad 1)), .val (.int (1 : Int32)), .val (.int (p2 % (128 : Int32))), .unset, .unset, .unset]) rfl ?_
      show Steps p.tables e below (T1.setTop (mkF m 63 #[.val (.int p1), .val (.int p2), .val (.int p3), .val (.int (1 : Int32)), .val (.ref (ad 1)), .val (.int (1 : Int32)), .val (.int (p2 % (128 : Int32))), .unset, .unset, .unset] [])) t
      refine XS.aload X1.here hx rfl (hb hby at_63) rfl rfl ?_
      show Steps p.tables e below (T1.setTop (mkF m 65 #[.val (.int p1), .val (.int p2), .val (.int p3), .val (.int (1 : Int32)), .val (.ref (ad 1)), .val (.int (1 : Int32)), .val (.int (p2 % (128 : Int32))), .unset, .unset, .unset] [(.ref (ad 1))])) t
      refine XS.iload X1.here hx rfl (hb hby at_65) rfl ?_
      show Steps p.tables e below (T1.setTop (mkF m 67 #[.val (.int p1), .val (.int p2), .val (.int p3), .val (.int (1 : Int32)), .val (.ref (ad 1)), .val (.int (1 : Int32)), .val (.int (p2 % (128 : Int32))), .unset, .unset, .unset] [(.int (p2 % (128 : Int32))), (.ref (ad 1))])) t
      exact st4.trans k)
  have ch6 : ∀ t, Steps p.tables e below (T4.setTop (mkF m 94 #[.val (.int p1), .val (.int p2), .val (.int p3), .val (.int (1 : Int32)), .val (.ref (ad 1)), .val (.int (1 : Int32)), .val (.int (p2 % (128 : Int32))), .val (.int (0 : Int32)), .unset, .unset] [(.int (1 : Int32))])) t → Steps p.tables e below (s₁.setTop (entryFrame m #[(.int p1), (.int p2), (.int p3)] maxLocals)) t := fun t k => ch5 t (by
      show Steps p.tables e below (T4.setTop (mkF m 70 #[.val (.int p1), .val (.int p2), .val (.int p3), .val (.int (1 : Int32)), .val (.ref (ad 1)), .val (.int (1 : Int32)), .val (.int (p2 % (128 : Int32))), .unset, .unset, .unset] [(.int (0 : Int32))])) t
      refine XS.istore X4.here hx rfl (hb hby at_70) rfl (l' := #[.val (.int p1), .val (.int p2), .val (.int p3), .val (.int (1 : Int32)), .val (.ref (ad 1)), .val (.int (1 : Int32)), .val (.int (p2 % (128 : Int32))), .val (.int (0 : Int32)), .unset, .unset]) rfl ?_
      show Steps p.tables e below (T4.setTop (mkF m 72 #[.val (.int p1), .val (.int p2), .val (.int p3), .val (.int (1 : Int32)), .val (.ref (ad 1)), .val (.int (1 : Int32)), .val (.int (p2 % (128 : Int32))), .val (.int (0 : Int32)), .unset, .unset] [])) t
      refine XS.iload X4.here hx rfl (hb hby at_72) rfl ?_
      show Steps p.tables e below (T4.setTop (mkF m 74 #[.val (.int p1), .val (.int p2), .val (.int p3), .val (.int (1 : Int32)), .val (.ref (ad 1)), .val (.int (1 : Int32)), .val (.int (p2 % (128 : Int32))), .val (.int (0 : Int32)), .unset, .unset] [(.int (p2 % (128 : Int32)))])) t
      refine XS.ifYes X4.here hx rfl (pc0 := 74) (pc' := 84) rfl (hb hby at_74) rfl ((if0 _ _).trans (tlt h1).1) (by decide) (by decide) ?_
      show Steps p.tables e below (T4.setTop (mkF m 84 #[.val (.int p1), .val (.int p2), .val (.int p3), .val (.int (1 : Int32)), .val (.ref (ad 1)), .val (.int (1 : Int32)), .val (.int (p2 % (128 : Int32))), .val (.int (0 : Int32)), .unset, .unset] [])) t
      refine XS.iload X4.here hx rfl (hb hby at_84) rfl ?_
      show Steps p.tables e below (T4.setTop (mkF m 86 #[.val (.int p1), .val (.int p2), .val (.int p3), .val (.int (1 : Int32)), .val (.ref (ad 1)), .val (.int (1 : Int32)), .val (.int (p2 % (128 : Int32))), .val (.int (0 : Int32)), .unset, .unset] [(.int (0 : Int32))])) t
      refine XS.ifNo X4.here hx rfl (hb hby at_86) rfl ((if0 _ _).trans (teq (by decide : (0 : Int32) = (0 : Int32))).2) ?_
      show Steps p.tables e below (T4.setTop (mkF m 89 #[.val (.int p1), .val (.int p2), .val (.int p3), .val (.int (1 : Int32)), .val (.ref (ad 1)), .val (.int (1 : Int32)), .val (.int (p2 % (128 : Int32))), .val (.int (0 : Int32)), .unset, .unset] [])) t
      refine XS.iconst X4.here hx rfl (hb hby at_89) ?_
      show Steps p.tables e below (T4.setTop (mkF m 90 #[.val (.int p1), .val (.int p2), .val (.int p3), .val (.int (1 : Int32)), .val (.ref (ad 1)), .val (.int (1 : Int32)), .val (.int (p2 % (128 : Int32))), .val (.int (0 : Int32)), .unset, .unset] [(.int (1 : Int32))])) t
      refine XS.goto X4.here hx rfl (pc0 := 90) (pc' := 94) rfl (hb hby at_90) (by decide) (by decide) ?_
      exact k)
  obtain ⟨fs, hr, hrun, hended, hW, hsame⟩ := X4.leave (v := some (.int (1 : Int32))) (fun h => by rw [Bd.returns] at h; cases h)
  refine ⟨_, _, ch6 _ ?_, hrun, hended, _, _, rfl, ?_, ⟨_, rfl⟩, hW, hsame.mono (by decide) (by decide)⟩
  · show Steps p.tables e below (T4.setTop (mkF m 94 #[.val (.int p1), .val (.int p2), .val (.int p3), .val (.int (1 : Int32)), .val (.ref (ad 1)), .val (.int (1 : Int32)), .val (.int (p2 % (128 : Int32))), .val (.int (0 : Int32)), .unset, .unset] [(.int (1 : Int32))])) _
    exact retN X4 hx (t := .boolean) Bd.returns (by simp) (hb hby at_94) hr
  · show QN (some (.int (1 : Int32))) n0 _ T4.heap _
    rw [e4]
    exact ⟨rfl, N4⟩
theorem own_ef_own_law_10g (m : MethodId) {x0 : Int32} {x1 : Int32} {x2 : Int32} : entryFrame m #[(.int x0), (.int x1), (.int x2)] maxLocals = mkF m 0 #[.val (.int x0), .val (.int x1), .val (.int x2), .unset, .unset, .unset, .unset, .unset, .unset, .unset] [] := by first | (simp [entryFrame, mkF, argsToLocals, Value.category, maxLocals]; done) | rfl
set_option maxRecDepth 65536 in
set_option maxHeartbeats 40000000 in
theorem own_law_10g (l : Launch) (Z : State) (a0 : Array Value) (hw : ∀ d ∈ tables_1, d.before a0 Z = true) (ws : List Jvm.Cond) (h0 : Heap) (n0 : Nat) (Z0 : n0 ≤ h0.size) (p1 p2 p3 : Int32) (hk : (p1 &&& (2147483647 : Int32)) % (3 : Int32) = (1 : Int32)) (hm : p3 &&& (1 : Int32) = (0 : Int32)) (h1 : ¬ (p2 % (128 : Int32)) < (0 : Int32)) (h2 : (99 : Int32) < (p2 % (128 : Int32))) (ad : Nat → Addr) (W : OwnWd Z h0 ad) :
    MetFree l x (head1 (Jvm.Cond.code x code maxLocals ret :: ws) room_1) (fun a U => a = #[(.int p1), (.int p2), (.int p3)] ∧ Z.Warmed39 U.vm ∧ U.heap = h0) (fun _ _ _ _ _ => True) (fun _ U o U' => ∃ v L, o = .returned v ∧ QN (some (.int (1 : Int32))) n0 v U'.heap L ∧ FrameEnd U o U' L room_1.cells room_1.slots) := by
  refine MetFree.of_bodySF (plainFor_of_name own_pn_com_example_isolint_isolint_bench_ChangeAddedToEachValuePinLaw) hisR ?_
  intro p e s m args below meth c s₁ Bd hml0 hP hK
  obtain ⟨rfl, hZ, hh⟩ := hP
  have hx := Bd.exec
  have hby := Bd.bytes
  have hml : c.maxLocals = 10 := hml0
  have hown : s.vm.findClass "com/example/isolint/isolint/bench/ChangeAddedToEachValuePinLaw" = some m.cls := findClass_of_methodNamed Bd.named
  have hnm := (name_of_methodNamed Bd.named Bd.method).1
  have X0 : Stand p l e room_1 s m #[(.int p1), (.int p2), (.int p3)] below meth c s₁ [] 0 0 := Stand.of_body Bd
  have e0 : s₁.heap = h0 := by rw [← hh, Bd.state]; rfl
  have N0 := Fr.nil n0
  have pre0 : ∀ t, Steps p.tables e below (s₁.setTop (mkF m 0 #[.val (.int p1), .val (.int p2), .val (.int p3), .unset, .unset, .unset, .unset, .unset, .unset, .unset] [])) t → Steps p.tables e below (s₁.setTop (entryFrame m #[(.int p1), (.int p2), (.int p3)] maxLocals)) t := fun t k => castTop (own_ef_own_law_10g m) k
  obtain ⟨T1, X1, e1, st1⟩ := getS2 X0 hx hZ hown (host := "") (Or.inl (hw _ (List.mem_of_getElem? (i := 14) rfl))) Via.refl e0 (own_S_CHANGE_B W) (g := (mkF m 27 #[.val (.int p1), .val (.int p2), .val (.int p3), .val (.int (1 : Int32)), .unset, .unset, .unset, .unset, .unset, .unset] [])) rfl (hb hby at_27)
  have ch2 : ∀ t, Steps p.tables e below (T1.setTop (mkF m 30 #[.val (.int p1), .val (.int p2), .val (.int p3), .val (.int (1 : Int32)), .unset, .unset, .unset, .unset, .unset, .unset] [(.ref (ad 1))])) t → Steps p.tables e below (s₁.setTop (entryFrame m #[(.int p1), (.int p2), (.int p3)] maxLocals)) t := fun t k => pre0 t (by
      show Steps p.tables e below (s₁.setTop (mkF m 0 #[.val (.int p1), .val (.int p2), .val (.int p3), .unset, .unset, .unset, .unset, .unset, .unset, .unset] [])) t
      refine XS.iloadN X0.here hx rfl (hb hby at_0) rfl ?_
      show Steps p.tables e below (s₁.setTop (mkF m 1 #[.val (.int p1), .val (.int p2), .val (.int p3), .unset, .unset, .unset, .unset, .unset, .unset, .unset] [(.int p1)])) t
      refine X0.ldcInt hx hown (mvT hZ (hw _ (List.mem_of_getElem? (i := 0) rfl))) (g := (mkF m 1 #[.val (.int p1), .val (.int p2), .val (.int p3), .unset, .unset, .unset, .unset, .unset, .unset, .unset] [(.int p1)])) rfl (hb hby at_1) _ ?_
      show Steps p.tables e below (s₁.setTop (mkF m 3 #[.val (.int p1), .val (.int p2), .val (.int p3), .unset, .unset, .unset, .unset, .unset, .unset, .unset] [(.int (2147483647 : Int32)), (.int p1)])) t
      refine XS.iand X0.here hx rfl (hb hby at_3) rfl ?_
      show Steps p.tables e below (s₁.setTop (mkF m 4 #[.val (.int p1), .val (.int p2), .val (.int p3), .unset, .unset, .unset, .unset, .unset, .unset, .unset] [(.int (p1 &&& (2147483647 : Int32)))])) t
      refine XS.iconst X0.here hx rfl (hb hby at_4) ?_
      show Steps p.tables e below (s₁.setTop (mkF m 5 #[.val (.int p1), .val (.int p2), .val (.int p3), .unset, .unset, .unset, .unset, .unset, .unset, .unset] [(.int (3 : Int32)), (.int (p1 &&& (2147483647 : Int32)))])) t
      refine Jvm.RoadKit.iremM (g := (mkF m 5 #[.val (.int p1), .val (.int p2), .val (.int p3), .unset, .unset, .unset, .unset, .unset, .unset, .unset] [(.int (3 : Int32)), (.int (p1 &&& (2147483647 : Int32)))])) X0 hx rfl (hb hby at_5) rfl (by decide) ?_
      rw [hk]
      show Steps p.tables e below (s₁.setTop (mkF m 6 #[.val (.int p1), .val (.int p2), .val (.int p3), .unset, .unset, .unset, .unset, .unset, .unset, .unset] [(.int (1 : Int32))])) t
      refine XS.istoreN X0.here hx rfl (hb hby at_6) rfl (l' := #[.val (.int p1), .val (.int p2), .val (.int p3), .val (.int (1 : Int32)), .unset, .unset, .unset, .unset, .unset, .unset]) rfl ?_
      show Steps p.tables e below (s₁.setTop (mkF m 7 #[.val (.int p1), .val (.int p2), .val (.int p3), .val (.int (1 : Int32)), .unset, .unset, .unset, .unset, .unset, .unset] [])) t
      refine XS.iloadN X0.here hx rfl (hb hby at_7) rfl ?_
      show Steps p.tables e below (s₁.setTop (mkF m 8 #[.val (.int p1), .val (.int p2), .val (.int p3), .val (.int (1 : Int32)), .unset, .unset, .unset, .unset, .unset, .unset] [(.int (1 : Int32))])) t
      refine XS.ifYes X0.here hx rfl (pc0 := 8) (pc' := 22) rfl (hb hby at_8) rfl ((if0 _ _).trans (feq (by decide : ¬ (1 : Int32) = (0 : Int32))).2) (by decide) (by decide) ?_
      show Steps p.tables e below (s₁.setTop (mkF m 22 #[.val (.int p1), .val (.int p2), .val (.int p3), .val (.int (1 : Int32)), .unset, .unset, .unset, .unset, .unset, .unset] [])) t
      refine XS.iloadN X0.here hx rfl (hb hby at_22) rfl ?_
      show Steps p.tables e below (s₁.setTop (mkF m 23 #[.val (.int p1), .val (.int p2), .val (.int p3), .val (.int (1 : Int32)), .unset, .unset, .unset, .unset, .unset, .unset] [(.int (1 : Int32))])) t
      refine XS.iconst X0.here hx rfl (hb hby at_23) ?_
      show Steps p.tables e below (s₁.setTop (mkF m 24 #[.val (.int p1), .val (.int p2), .val (.int p3), .val (.int (1 : Int32)), .unset, .unset, .unset, .unset, .unset, .unset] [(.int (1 : Int32)), (.int (1 : Int32))])) t
      refine XS.icmpNo X0.here hx rfl (hb hby at_24) rfl (teq (by decide : (1 : Int32) = (1 : Int32))).2 ?_
      show Steps p.tables e below (s₁.setTop (mkF m 27 #[.val (.int p1), .val (.int p2), .val (.int p3), .val (.int (1 : Int32)), .unset, .unset, .unset, .unset, .unset, .unset] [])) t
      exact st1 t k)
  obtain ⟨cq3, kq3, qa3, qb3, qc3⟩ := isOf hZ e1 (own_E_CHANGE_B W)
  obtain ⟨vv4, _, ⟨T4, L4, kk4, nn4⟩, -, X4, ⟨Lc4, hQ4, l4, y4, z4⟩, st4⟩ := X1.virtualBack hx (y := (⟨"com/example/isolint/isolint/bench/Change", "addedToEachValue", "(I)I"⟩ : MethodName)) (z := (⟨"com/example/isolint/isolint/bench/Change", "addedToEachValue", "(I)I"⟩ : MethodName)) hown (mvT hZ (hw _ (List.mem_of_getElem? (i := 4) rfl))) (mvT hZ (hw _ (List.mem_of_getElem? (i := 5) rfl))) (notFace_of_selects (args := #[]) (mvT hZ (hw _ (List.mem_of_getElem? (i := 7) rfl)))) (mvT hZ (hw _ (List.mem_of_getElem? (i := 7) rfl))) (mvT hZ (hw _ (List.mem_of_getElem? (i := 6) rfl))) (by decide) (backOf (W := 0) (own_add_1g l Z a0 hw [] h0 n0 Z0  (p2 % (128 : Int32)) h1 h2 ad W) hZ (hw _ (List.mem_of_getElem? (i := 8) rfl)) (hw _ (List.mem_of_getElem? (i := 2) rfl)) (by decide) (by decide)) qa3 qc3 (g := (mkF m 67 #[.val (.int p1), .val (.int p2), .val (.int p3), .val (.int (1 : Int32)), .val (.ref (ad 1)), .val (.int (1 : Int32)), .val (.int (p2 % (128 : Int32))), .unset, .unset, .unset] [(.int (p2 % (128 : Int32))), (.ref (ad 1))])) rfl (by rw [hml]; rfl) (Steps.refl _) (argsL := [(.int (p2 % (128 : Int32)))]) (rest := []) (lenOf own_pd__I_I rfl) rfl (by show 2 * 0 + _ ≤ _; exact Nat.le_of_eq rfl) (hb hby at_67) (fun _ _ => ⟨rfl, e1, (by decide : 0 + 0 ≤ _), (by decide : 0 + 0 ≤ _)⟩)
  dsimp only [Pt.U, Pt.locs, Pt.cells, Pt.slots] at X4 l4 y4 z4 st4 hQ4
  subst l4 y4 z4
  obtain ⟨rfl, Nq4, e4⟩ := hQ4
  have N4 := Fr.app N0 Nq4
  have ch5 : ∀ t, Steps p.tables e below (T4.setTop (mkF m 70 #[.val (.int p1), .val (.int p2), .val (.int p3), .val (.int (1 : Int32)), .val (.ref (ad 1)), .val (.int (1 : Int32)), .val (.int (p2 % (128 : Int32))), .unset, .unset, .unset] [(.int (0 : Int32))])) t → Steps p.tables e below (s₁.setTop (entryFrame m #[(.int p1), (.int p2), (.int p3)] maxLocals)) t := fun t k => ch2 t (by
      show Steps p.tables e below (T1.setTop (mkF m 30 #[.val (.int p1), .val (.int p2), .val (.int p3), .val (.int (1 : Int32)), .unset, .unset, .unset, .unset, .unset, .unset] [(.ref (ad 1))])) t
      refine XS.astore X1.here hx rfl (hb hby at_30) rfl rfl (l' := #[.val (.int p1), .val (.int p2), .val (.int p3), .val (.int (1 : Int32)), .val (.ref (ad 1)), .unset, .unset, .unset, .unset, .unset]) rfl ?_
      show Steps p.tables e below (T1.setTop (mkF m 32 #[.val (.int p1), .val (.int p2), .val (.int p3), .val (.int (1 : Int32)), .val (.ref (ad 1)), .unset, .unset, .unset, .unset, .unset] [])) t
      refine XS.iconst X1.here hx rfl (hb hby at_32) ?_
      show Steps p.tables e below (T1.setTop (mkF m 33 #[.val (.int p1), .val (.int p2), .val (.int p3), .val (.int (1 : Int32)), .val (.ref (ad 1)), .unset, .unset, .unset, .unset, .unset] [(.int (1 : Int32))])) t
      refine XS.istore X1.here hx rfl (hb hby at_33) rfl (l' := #[.val (.int p1), .val (.int p2), .val (.int p3), .val (.int (1 : Int32)), .val (.ref (ad 1)), .val (.int (1 : Int32)), .unset, .unset, .unset, .unset]) rfl ?_
      show Steps p.tables e below (T1.setTop (mkF m 35 #[.val (.int p1), .val (.int p2), .val (.int p3), .val (.int (1 : Int32)), .val (.ref (ad 1)), .val (.int (1 : Int32)), .unset, .unset, .unset, .unset] [])) t
      refine XS.goto X1.here hx rfl (pc0 := 35) (pc' := 46) rfl (hb hby at_35) (by decide) (by decide) ?_
      show Steps p.tables e below (T1.setTop (mkF m 46 #[.val (.int p1), .val (.int p2), .val (.int p3), .val (.int (1 : Int32)), .val (.ref (ad 1)), .val (.int (1 : Int32)), .unset, .unset, .unset, .unset] [])) t
      refine XS.iloadN X1.here hx rfl (hb hby at_46) rfl ?_
      show Steps p.tables e below (T1.setTop (mkF m 47 #[.val (.int p1), .val (.int p2), .val (.int p3), .val (.int (1 : Int32)), .val (.ref (ad 1)), .val (.int (1 : Int32)), .unset, .unset, .unset, .unset] [(.int p3)])) t
      refine XS.iconst X1.here hx rfl (hb hby at_47) ?_
      show Steps p.tables e below (T1.setTop (mkF m 48 #[.val (.int p1), .val (.int p2), .val (.int p3), .val (.int (1 : Int32)), .val (.ref (ad 1)), .val (.int (1 : Int32)), .unset, .unset, .unset, .unset] [(.int (1 : Int32)), (.int p3)])) t
      refine XS.iand X1.here hx rfl (hb hby at_48) rfl ?_
      rw [hm]
      show Steps p.tables e below (T1.setTop (mkF m 49 #[.val (.int p1), .val (.int p2), .val (.int p3), .val (.int (1 : Int32)), .val (.ref (ad 1)), .val (.int (1 : Int32)), .unset, .unset, .unset, .unset] [(.int (0 : Int32))])) t
      refine XS.ifYes X1.here hx rfl (pc0 := 49) (pc' := 56) rfl (hb hby at_49) rfl ((if0 _ _).trans (teq (by decide : (0 : Int32) = (0 : Int32))).1) (by decide) (by decide) ?_
      show Steps p.tables e below (T1.setTop (mkF m 56 #[.val (.int p1), .val (.int p2), .val (.int p3), .val (.int (1 : Int32)), .val (.ref (ad 1)), .val (.int (1 : Int32)), .unset, .unset, .unset, .unset] [])) t
      refine XS.iloadN X1.here hx rfl (hb hby at_56) rfl ?_
      show Steps p.tables e below (T1.setTop (mkF m 57 #[.val (.int p1), .val (.int p2), .val (.int p3), .val (.int (1 : Int32)), .val (.ref (ad 1)), .val (.int (1 : Int32)), .unset, .unset, .unset, .unset] [(.int p2)])) t
      refine XS.sipush X1.here hx rfl (hb hby at_57) ?_
      show Steps p.tables e below (T1.setTop (mkF m 60 #[.val (.int p1), .val (.int p2), .val (.int p3), .val (.int (1 : Int32)), .val (.ref (ad 1)), .val (.int (1 : Int32)), .unset, .unset, .unset, .unset] [(.int (128 : Int32)), (.int p2)])) t
      refine Jvm.RoadKit.iremM (g := (mkF m 60 #[.val (.int p1), .val (.int p2), .val (.int p3), .val (.int (1 : Int32)), .val (.ref (ad 1)), .val (.int (1 : Int32)), .unset, .unset, .unset, .unset] [(.int (128 : Int32)), (.int p2)])) X1 hx rfl (hb hby at_60) rfl (by decide) ?_
      show Steps p.tables e below (T1.setTop (mkF m 61 #[.val (.int p1), .val (.int p2), .val (.int p3), .val (.int (1 : Int32)), .val (.ref (ad 1)), .val (.int (1 : Int32)), .unset, .unset, .unset, .unset] [(.int (p2 % (128 : Int32)))])) t
      refine XS.istore X1.here hx rfl (hb hby at_61) rfl (l' := #[.val (.int p1), .val (.int p2), .val (.int p3), .val (.int (1 : Int32)), .val (.ref (ad 1)), .val (.int (1 : Int32)), .val (.int (p2 % (128 : Int32))), .unset, .unset, .unset]) rfl ?_
      show Steps p.tables e below (T1.setTop (mkF m 63 #[.val (.int p1), .val (.int p2), .val (.int p3), .val (.int (1 : Int32)), .val (.ref (ad 1)), .val (.int (1 : Int32)), .val (.int (p2 % (128 : Int32))), .unset, .unset, .unset] [])) t
      refine XS.aload X1.here hx rfl (hb hby at_63) rfl rfl ?_
      show Steps p.tables e below (T1.setTop (mkF m 65 #[.val (.int p1), .val (.int p2), .val (.int p3), .val (.int (1 : Int32)), .val (.ref (ad 1)), .val (.int (1 : Int32)), .val (.int (p2 % (128 : Int32))), .unset, .unset, .unset] [(.ref (ad 1))])) t
      refine XS.iload X1.here hx rfl (hb hby at_65) rfl ?_
      show Steps p.tables e below (T1.setTop (mkF m 67 #[.val (.int p1), .val (.int p2), .val (.int p3), .val (.int (1 : Int32)), .val (.ref (ad 1)), .val (.int (1 : Int32)), .val (.int (p2 % (128 : Int32))), .unset, .unset, .unset] [(.int (p2 % (128 : Int32))), (.ref (ad 1))])) t
      exact st4.trans k)
  have ch6 : ∀ t, Steps p.tables e below (T4.setTop (mkF m 94 #[.val (.int p1), .val (.int p2), .val (.int p3), .val (.int (1 : Int32)), .val (.ref (ad 1)), .val (.int (1 : Int32)), .val (.int (p2 % (128 : Int32))), .val (.int (0 : Int32)), .unset, .unset] [(.int (1 : Int32))])) t → Steps p.tables e below (s₁.setTop (entryFrame m #[(.int p1), (.int p2), (.int p3)] maxLocals)) t := fun t k => ch5 t (by
      show Steps p.tables e below (T4.setTop (mkF m 70 #[.val (.int p1), .val (.int p2), .val (.int p3), .val (.int (1 : Int32)), .val (.ref (ad 1)), .val (.int (1 : Int32)), .val (.int (p2 % (128 : Int32))), .unset, .unset, .unset] [(.int (0 : Int32))])) t
      refine XS.istore X4.here hx rfl (hb hby at_70) rfl (l' := #[.val (.int p1), .val (.int p2), .val (.int p3), .val (.int (1 : Int32)), .val (.ref (ad 1)), .val (.int (1 : Int32)), .val (.int (p2 % (128 : Int32))), .val (.int (0 : Int32)), .unset, .unset]) rfl ?_
      show Steps p.tables e below (T4.setTop (mkF m 72 #[.val (.int p1), .val (.int p2), .val (.int p3), .val (.int (1 : Int32)), .val (.ref (ad 1)), .val (.int (1 : Int32)), .val (.int (p2 % (128 : Int32))), .val (.int (0 : Int32)), .unset, .unset] [])) t
      refine XS.iload X4.here hx rfl (hb hby at_72) rfl ?_
      show Steps p.tables e below (T4.setTop (mkF m 74 #[.val (.int p1), .val (.int p2), .val (.int p3), .val (.int (1 : Int32)), .val (.ref (ad 1)), .val (.int (1 : Int32)), .val (.int (p2 % (128 : Int32))), .val (.int (0 : Int32)), .unset, .unset] [(.int (p2 % (128 : Int32)))])) t
      refine XS.ifNo X4.here hx rfl (hb hby at_74) rfl ((if0 _ _).trans (flt h1).1) ?_
      show Steps p.tables e below (T4.setTop (mkF m 77 #[.val (.int p1), .val (.int p2), .val (.int p3), .val (.int (1 : Int32)), .val (.ref (ad 1)), .val (.int (1 : Int32)), .val (.int (p2 % (128 : Int32))), .val (.int (0 : Int32)), .unset, .unset] [])) t
      refine XS.iload X4.here hx rfl (hb hby at_77) rfl ?_
      show Steps p.tables e below (T4.setTop (mkF m 79 #[.val (.int p1), .val (.int p2), .val (.int p3), .val (.int (1 : Int32)), .val (.ref (ad 1)), .val (.int (1 : Int32)), .val (.int (p2 % (128 : Int32))), .val (.int (0 : Int32)), .unset, .unset] [(.int (p2 % (128 : Int32)))])) t
      refine XS.bipush X4.here hx rfl (hb hby at_79) ?_
      show Steps p.tables e below (T4.setTop (mkF m 81 #[.val (.int p1), .val (.int p2), .val (.int p3), .val (.int (1 : Int32)), .val (.ref (ad 1)), .val (.int (1 : Int32)), .val (.int (p2 % (128 : Int32))), .val (.int (0 : Int32)), .unset, .unset] [(.int (99 : Int32)), (.int (p2 % (128 : Int32)))])) t
      refine XS.icmpNo X4.here hx rfl (hb hby at_81) rfl (tlt h2).2.2.2 ?_
      show Steps p.tables e below (T4.setTop (mkF m 84 #[.val (.int p1), .val (.int p2), .val (.int p3), .val (.int (1 : Int32)), .val (.ref (ad 1)), .val (.int (1 : Int32)), .val (.int (p2 % (128 : Int32))), .val (.int (0 : Int32)), .unset, .unset] [])) t
      refine XS.iload X4.here hx rfl (hb hby at_84) rfl ?_
      show Steps p.tables e below (T4.setTop (mkF m 86 #[.val (.int p1), .val (.int p2), .val (.int p3), .val (.int (1 : Int32)), .val (.ref (ad 1)), .val (.int (1 : Int32)), .val (.int (p2 % (128 : Int32))), .val (.int (0 : Int32)), .unset, .unset] [(.int (0 : Int32))])) t
      refine XS.ifNo X4.here hx rfl (hb hby at_86) rfl ((if0 _ _).trans (teq (by decide : (0 : Int32) = (0 : Int32))).2) ?_
      show Steps p.tables e below (T4.setTop (mkF m 89 #[.val (.int p1), .val (.int p2), .val (.int p3), .val (.int (1 : Int32)), .val (.ref (ad 1)), .val (.int (1 : Int32)), .val (.int (p2 % (128 : Int32))), .val (.int (0 : Int32)), .unset, .unset] [])) t
      refine XS.iconst X4.here hx rfl (hb hby at_89) ?_
      show Steps p.tables e below (T4.setTop (mkF m 90 #[.val (.int p1), .val (.int p2), .val (.int p3), .val (.int (1 : Int32)), .val (.ref (ad 1)), .val (.int (1 : Int32)), .val (.int (p2 % (128 : Int32))), .val (.int (0 : Int32)), .unset, .unset] [(.int (1 : Int32))])) t
      refine XS.goto X4.here hx rfl (pc0 := 90) (pc' := 94) rfl (hb hby at_90) (by decide) (by decide) ?_
      exact k)
  obtain ⟨fs, hr, hrun, hended, hW, hsame⟩ := X4.leave (v := some (.int (1 : Int32))) (fun h => by rw [Bd.returns] at h; cases h)
  refine ⟨_, _, ch6 _ ?_, hrun, hended, _, _, rfl, ?_, ⟨_, rfl⟩, hW, hsame.mono (by decide) (by decide)⟩
  · show Steps p.tables e below (T4.setTop (mkF m 94 #[.val (.int p1), .val (.int p2), .val (.int p3), .val (.int (1 : Int32)), .val (.ref (ad 1)), .val (.int (1 : Int32)), .val (.int (p2 % (128 : Int32))), .val (.int (0 : Int32)), .unset, .unset] [(.int (1 : Int32))])) _
    exact retN X4 hx (t := .boolean) Bd.returns (by simp) (hb hby at_94) hr
  · show QN (some (.int (1 : Int32))) n0 _ T4.heap _
    rw [e4]
    exact ⟨rfl, N4⟩
theorem own_ef_own_law_10l (m : MethodId) {x0 : Int32} {x1 : Int32} {x2 : Int32} : entryFrame m #[(.int x0), (.int x1), (.int x2)] maxLocals = mkF m 0 #[.val (.int x0), .val (.int x1), .val (.int x2), .unset, .unset, .unset, .unset, .unset, .unset, .unset] [] := by first | (simp [entryFrame, mkF, argsToLocals, Value.category, maxLocals]; done) | rfl
set_option maxRecDepth 65536 in
set_option maxHeartbeats 40000000 in
theorem own_law_10l (l : Launch) (Z : State) (a0 : Array Value) (hw : ∀ d ∈ tables_1, d.before a0 Z = true) (ws : List Jvm.Cond) (h0 : Heap) (n0 : Nat) (Z0 : n0 ≤ h0.size) (p1 p2 p3 : Int32) (hk : (p1 &&& (2147483647 : Int32)) % (3 : Int32) = (1 : Int32)) (hm : p3 &&& (1 : Int32) = (0 : Int32)) (h1 : ¬ (p2 % (128 : Int32)) < (0 : Int32)) (h2 : ¬ (99 : Int32) < (p2 % (128 : Int32))) (h3 : (p2 % (128 : Int32)) < (50 : Int32)) (ad : Nat → Addr) (W : OwnWd Z h0 ad) :
    MetFree l x (head1 (Jvm.Cond.code x code maxLocals ret :: ws) room_1) (fun a U => a = #[(.int p1), (.int p2), (.int p3)] ∧ Z.Warmed39 U.vm ∧ U.heap = h0) (fun _ _ _ _ _ => True) (fun _ U o U' => ∃ v L, o = .returned v ∧ QN (some (.int (1 : Int32))) n0 v U'.heap L ∧ FrameEnd U o U' L room_1.cells room_1.slots) := by
  refine MetFree.of_bodySF (plainFor_of_name own_pn_com_example_isolint_isolint_bench_ChangeAddedToEachValuePinLaw) hisR ?_
  intro p e s m args below meth c s₁ Bd hml0 hP hK
  obtain ⟨rfl, hZ, hh⟩ := hP
  have hx := Bd.exec
  have hby := Bd.bytes
  have hml : c.maxLocals = 10 := hml0
  have hown : s.vm.findClass "com/example/isolint/isolint/bench/ChangeAddedToEachValuePinLaw" = some m.cls := findClass_of_methodNamed Bd.named
  have hnm := (name_of_methodNamed Bd.named Bd.method).1
  have X0 : Stand p l e room_1 s m #[(.int p1), (.int p2), (.int p3)] below meth c s₁ [] 0 0 := Stand.of_body Bd
  have e0 : s₁.heap = h0 := by rw [← hh, Bd.state]; rfl
  have N0 := Fr.nil n0
  have pre0 : ∀ t, Steps p.tables e below (s₁.setTop (mkF m 0 #[.val (.int p1), .val (.int p2), .val (.int p3), .unset, .unset, .unset, .unset, .unset, .unset, .unset] [])) t → Steps p.tables e below (s₁.setTop (entryFrame m #[(.int p1), (.int p2), (.int p3)] maxLocals)) t := fun t k => castTop (own_ef_own_law_10l m) k
  obtain ⟨T1, X1, e1, st1⟩ := getS2 X0 hx hZ hown (host := "") (Or.inl (hw _ (List.mem_of_getElem? (i := 14) rfl))) Via.refl e0 (own_S_CHANGE_B W) (g := (mkF m 27 #[.val (.int p1), .val (.int p2), .val (.int p3), .val (.int (1 : Int32)), .unset, .unset, .unset, .unset, .unset, .unset] [])) rfl (hb hby at_27)
  have ch2 : ∀ t, Steps p.tables e below (T1.setTop (mkF m 30 #[.val (.int p1), .val (.int p2), .val (.int p3), .val (.int (1 : Int32)), .unset, .unset, .unset, .unset, .unset, .unset] [(.ref (ad 1))])) t → Steps p.tables e below (s₁.setTop (entryFrame m #[(.int p1), (.int p2), (.int p3)] maxLocals)) t := fun t k => pre0 t (by
      show Steps p.tables e below (s₁.setTop (mkF m 0 #[.val (.int p1), .val (.int p2), .val (.int p3), .unset, .unset, .unset, .unset, .unset, .unset, .unset] [])) t
      refine XS.iloadN X0.here hx rfl (hb hby at_0) rfl ?_
      show Steps p.tables e below (s₁.setTop (mkF m 1 #[.val (.int p1), .val (.int p2), .val (.int p3), .unset, .unset, .unset, .unset, .unset, .unset, .unset] [(.int p1)])) t
      refine X0.ldcInt hx hown (mvT hZ (hw _ (List.mem_of_getElem? (i := 0) rfl))) (g := (mkF m 1 #[.val (.int p1), .val (.int p2), .val (.int p3), .unset, .unset, .unset, .unset, .unset, .unset, .unset] [(.int p1)])) rfl (hb hby at_1) _ ?_
      show Steps p.tables e below (s₁.setTop (mkF m 3 #[.val (.int p1), .val (.int p2), .val (.int p3), .unset, .unset, .unset, .unset, .unset, .unset, .unset] [(.int (2147483647 : Int32)), (.int p1)])) t
      refine XS.iand X0.here hx rfl (hb hby at_3) rfl ?_
      show Steps p.tables e below (s₁.setTop (mkF m 4 #[.val (.int p1), .val (.int p2), .val (.int p3), .unset, .unset, .unset, .unset, .unset, .unset, .unset] [(.int (p1 &&& (2147483647 : Int32)))])) t
      refine XS.iconst X0.here hx rfl (hb hby at_4) ?_
      show Steps p.tables e below (s₁.setTop (mkF m 5 #[.val (.int p1), .val (.int p2), .val (.int p3), .unset, .unset, .unset, .unset, .unset, .unset, .unset] [(.int (3 : Int32)), (.int (p1 &&& (2147483647 : Int32)))])) t
      refine Jvm.RoadKit.iremM (g := (mkF m 5 #[.val (.int p1), .val (.int p2), .val (.int p3), .unset, .unset, .unset, .unset, .unset, .unset, .unset] [(.int (3 : Int32)), (.int (p1 &&& (2147483647 : Int32)))])) X0 hx rfl (hb hby at_5) rfl (by decide) ?_
      rw [hk]
      show Steps p.tables e below (s₁.setTop (mkF m 6 #[.val (.int p1), .val (.int p2), .val (.int p3), .unset, .unset, .unset, .unset, .unset, .unset, .unset] [(.int (1 : Int32))])) t
      refine XS.istoreN X0.here hx rfl (hb hby at_6) rfl (l' := #[.val (.int p1), .val (.int p2), .val (.int p3), .val (.int (1 : Int32)), .unset, .unset, .unset, .unset, .unset, .unset]) rfl ?_
      show Steps p.tables e below (s₁.setTop (mkF m 7 #[.val (.int p1), .val (.int p2), .val (.int p3), .val (.int (1 : Int32)), .unset, .unset, .unset, .unset, .unset, .unset] [])) t
      refine XS.iloadN X0.here hx rfl (hb hby at_7) rfl ?_
      show Steps p.tables e below (s₁.setTop (mkF m 8 #[.val (.int p1), .val (.int p2), .val (.int p3), .val (.int (1 : Int32)), .unset, .unset, .unset, .unset, .unset, .unset] [(.int (1 : Int32))])) t
      refine XS.ifYes X0.here hx rfl (pc0 := 8) (pc' := 22) rfl (hb hby at_8) rfl ((if0 _ _).trans (feq (by decide : ¬ (1 : Int32) = (0 : Int32))).2) (by decide) (by decide) ?_
      show Steps p.tables e below (s₁.setTop (mkF m 22 #[.val (.int p1), .val (.int p2), .val (.int p3), .val (.int (1 : Int32)), .unset, .unset, .unset, .unset, .unset, .unset] [])) t
      refine XS.iloadN X0.here hx rfl (hb hby at_22) rfl ?_
      show Steps p.tables e below (s₁.setTop (mkF m 23 #[.val (.int p1), .val (.int p2), .val (.int p3), .val (.int (1 : Int32)), .unset, .unset, .unset, .unset, .unset, .unset] [(.int (1 : Int32))])) t
      refine XS.iconst X0.here hx rfl (hb hby at_23) ?_
      show Steps p.tables e below (s₁.setTop (mkF m 24 #[.val (.int p1), .val (.int p2), .val (.int p3), .val (.int (1 : Int32)), .unset, .unset, .unset, .unset, .unset, .unset] [(.int (1 : Int32)), (.int (1 : Int32))])) t
      refine XS.icmpNo X0.here hx rfl (hb hby at_24) rfl (teq (by decide : (1 : Int32) = (1 : Int32))).2 ?_
      show Steps p.tables e below (s₁.setTop (mkF m 27 #[.val (.int p1), .val (.int p2), .val (.int p3), .val (.int (1 : Int32)), .unset, .unset, .unset, .unset, .unset, .unset] [])) t
      exact st1 t k)
  obtain ⟨cq3, kq3, qa3, qb3, qc3⟩ := isOf hZ e1 (own_E_CHANGE_B W)
  obtain ⟨vv4, _, ⟨T4, L4, kk4, nn4⟩, -, X4, ⟨Lc4, hQ4, l4, y4, z4⟩, st4⟩ := X1.virtualBack hx (y := (⟨"com/example/isolint/isolint/bench/Change", "addedToEachValue", "(I)I"⟩ : MethodName)) (z := (⟨"com/example/isolint/isolint/bench/Change", "addedToEachValue", "(I)I"⟩ : MethodName)) hown (mvT hZ (hw _ (List.mem_of_getElem? (i := 4) rfl))) (mvT hZ (hw _ (List.mem_of_getElem? (i := 5) rfl))) (notFace_of_selects (args := #[]) (mvT hZ (hw _ (List.mem_of_getElem? (i := 7) rfl)))) (mvT hZ (hw _ (List.mem_of_getElem? (i := 7) rfl))) (mvT hZ (hw _ (List.mem_of_getElem? (i := 6) rfl))) (by decide) (backOf (W := 0) (own_add_1l l Z a0 hw [] h0 n0 Z0  (p2 % (128 : Int32)) h1 h2 h3 ad W) hZ (hw _ (List.mem_of_getElem? (i := 8) rfl)) (hw _ (List.mem_of_getElem? (i := 2) rfl)) (by decide) (by decide)) qa3 qc3 (g := (mkF m 67 #[.val (.int p1), .val (.int p2), .val (.int p3), .val (.int (1 : Int32)), .val (.ref (ad 1)), .val (.int (1 : Int32)), .val (.int (p2 % (128 : Int32))), .unset, .unset, .unset] [(.int (p2 % (128 : Int32))), (.ref (ad 1))])) rfl (by rw [hml]; rfl) (Steps.refl _) (argsL := [(.int (p2 % (128 : Int32)))]) (rest := []) (lenOf own_pd__I_I rfl) rfl (by show 2 * 0 + _ ≤ _; exact Nat.le_of_eq rfl) (hb hby at_67) (fun _ _ => ⟨rfl, e1, (by decide : 0 + 0 ≤ _), (by decide : 0 + 0 ≤ _)⟩)
  dsimp only [Pt.U, Pt.locs, Pt.cells, Pt.slots] at X4 l4 y4 z4 st4 hQ4
  subst l4 y4 z4
  obtain ⟨rfl, Nq4, e4⟩ := hQ4
  have N4 := Fr.app N0 Nq4
  have ch5 : ∀ t, Steps p.tables e below (T4.setTop (mkF m 70 #[.val (.int p1), .val (.int p2), .val (.int p3), .val (.int (1 : Int32)), .val (.ref (ad 1)), .val (.int (1 : Int32)), .val (.int (p2 % (128 : Int32))), .unset, .unset, .unset] [(.int (50 : Int32))])) t → Steps p.tables e below (s₁.setTop (entryFrame m #[(.int p1), (.int p2), (.int p3)] maxLocals)) t := fun t k => ch2 t (by
      show Steps p.tables e below (T1.setTop (mkF m 30 #[.val (.int p1), .val (.int p2), .val (.int p3), .val (.int (1 : Int32)), .unset, .unset, .unset, .unset, .unset, .unset] [(.ref (ad 1))])) t
      refine XS.astore X1.here hx rfl (hb hby at_30) rfl rfl (l' := #[.val (.int p1), .val (.int p2), .val (.int p3), .val (.int (1 : Int32)), .val (.ref (ad 1)), .unset, .unset, .unset, .unset, .unset]) rfl ?_
      show Steps p.tables e below (T1.setTop (mkF m 32 #[.val (.int p1), .val (.int p2), .val (.int p3), .val (.int (1 : Int32)), .val (.ref (ad 1)), .unset, .unset, .unset, .unset, .unset] [])) t
      refine XS.iconst X1.here hx rfl (hb hby at_32) ?_
      show Steps p.tables e below (T1.setTop (mkF m 33 #[.val (.int p1), .val (.int p2), .val (.int p3), .val (.int (1 : Int32)), .val (.ref (ad 1)), .unset, .unset, .unset, .unset, .unset] [(.int (1 : Int32))])) t
      refine XS.istore X1.here hx rfl (hb hby at_33) rfl (l' := #[.val (.int p1), .val (.int p2), .val (.int p3), .val (.int (1 : Int32)), .val (.ref (ad 1)), .val (.int (1 : Int32)), .unset, .unset, .unset, .unset]) rfl ?_
      show Steps p.tables e below (T1.setTop (mkF m 35 #[.val (.int p1), .val (.int p2), .val (.int p3), .val (.int (1 : Int32)), .val (.ref (ad 1)), .val (.int (1 : Int32)), .unset, .unset, .unset, .unset] [])) t
      refine XS.goto X1.here hx rfl (pc0 := 35) (pc' := 46) rfl (hb hby at_35) (by decide) (by decide) ?_
      show Steps p.tables e below (T1.setTop (mkF m 46 #[.val (.int p1), .val (.int p2), .val (.int p3), .val (.int (1 : Int32)), .val (.ref (ad 1)), .val (.int (1 : Int32)), .unset, .unset, .unset, .unset] [])) t
      refine XS.iloadN X1.here hx rfl (hb hby at_46) rfl ?_
      show Steps p.tables e below (T1.setTop (mkF m 47 #[.val (.int p1), .val (.int p2), .val (.int p3), .val (.int (1 : Int32)), .val (.ref (ad 1)), .val (.int (1 : Int32)), .unset, .unset, .unset, .unset] [(.int p3)])) t
      refine XS.iconst X1.here hx rfl (hb hby at_47) ?_
      show Steps p.tables e below (T1.setTop (mkF m 48 #[.val (.int p1), .val (.int p2), .val (.int p3), .val (.int (1 : Int32)), .val (.ref (ad 1)), .val (.int (1 : Int32)), .unset, .unset, .unset, .unset] [(.int (1 : Int32)), (.int p3)])) t
      refine XS.iand X1.here hx rfl (hb hby at_48) rfl ?_
      rw [hm]
      show Steps p.tables e below (T1.setTop (mkF m 49 #[.val (.int p1), .val (.int p2), .val (.int p3), .val (.int (1 : Int32)), .val (.ref (ad 1)), .val (.int (1 : Int32)), .unset, .unset, .unset, .unset] [(.int (0 : Int32))])) t
      refine XS.ifYes X1.here hx rfl (pc0 := 49) (pc' := 56) rfl (hb hby at_49) rfl ((if0 _ _).trans (teq (by decide : (0 : Int32) = (0 : Int32))).1) (by decide) (by decide) ?_
      show Steps p.tables e below (T1.setTop (mkF m 56 #[.val (.int p1), .val (.int p2), .val (.int p3), .val (.int (1 : Int32)), .val (.ref (ad 1)), .val (.int (1 : Int32)), .unset, .unset, .unset, .unset] [])) t
      refine XS.iloadN X1.here hx rfl (hb hby at_56) rfl ?_
      show Steps p.tables e below (T1.setTop (mkF m 57 #[.val (.int p1), .val (.int p2), .val (.int p3), .val (.int (1 : Int32)), .val (.ref (ad 1)), .val (.int (1 : Int32)), .unset, .unset, .unset, .unset] [(.int p2)])) t
      refine XS.sipush X1.here hx rfl (hb hby at_57) ?_
      show Steps p.tables e below (T1.setTop (mkF m 60 #[.val (.int p1), .val (.int p2), .val (.int p3), .val (.int (1 : Int32)), .val (.ref (ad 1)), .val (.int (1 : Int32)), .unset, .unset, .unset, .unset] [(.int (128 : Int32)), (.int p2)])) t
      refine Jvm.RoadKit.iremM (g := (mkF m 60 #[.val (.int p1), .val (.int p2), .val (.int p3), .val (.int (1 : Int32)), .val (.ref (ad 1)), .val (.int (1 : Int32)), .unset, .unset, .unset, .unset] [(.int (128 : Int32)), (.int p2)])) X1 hx rfl (hb hby at_60) rfl (by decide) ?_
      show Steps p.tables e below (T1.setTop (mkF m 61 #[.val (.int p1), .val (.int p2), .val (.int p3), .val (.int (1 : Int32)), .val (.ref (ad 1)), .val (.int (1 : Int32)), .unset, .unset, .unset, .unset] [(.int (p2 % (128 : Int32)))])) t
      refine XS.istore X1.here hx rfl (hb hby at_61) rfl (l' := #[.val (.int p1), .val (.int p2), .val (.int p3), .val (.int (1 : Int32)), .val (.ref (ad 1)), .val (.int (1 : Int32)), .val (.int (p2 % (128 : Int32))), .unset, .unset, .unset]) rfl ?_
      show Steps p.tables e below (T1.setTop (mkF m 63 #[.val (.int p1), .val (.int p2), .val (.int p3), .val (.int (1 : Int32)), .val (.ref (ad 1)), .val (.int (1 : Int32)), .val (.int (p2 % (128 : Int32))), .unset, .unset, .unset] [])) t
      refine XS.aload X1.here hx rfl (hb hby at_63) rfl rfl ?_
      show Steps p.tables e below (T1.setTop (mkF m 65 #[.val (.int p1), .val (.int p2), .val (.int p3), .val (.int (1 : Int32)), .val (.ref (ad 1)), .val (.int (1 : Int32)), .val (.int (p2 % (128 : Int32))), .unset, .unset, .unset] [(.ref (ad 1))])) t
      refine XS.iload X1.here hx rfl (hb hby at_65) rfl ?_
      show Steps p.tables e below (T1.setTop (mkF m 67 #[.val (.int p1), .val (.int p2), .val (.int p3), .val (.int (1 : Int32)), .val (.ref (ad 1)), .val (.int (1 : Int32)), .val (.int (p2 % (128 : Int32))), .unset, .unset, .unset] [(.int (p2 % (128 : Int32))), (.ref (ad 1))])) t
      exact st4.trans k)
  have ch6 : ∀ t, Steps p.tables e below (T4.setTop (mkF m 133 #[.val (.int p1), .val (.int p2), .val (.int p3), .val (.int (1 : Int32)), .val (.ref (ad 1)), .val (.int (1 : Int32)), .val (.int (p2 % (128 : Int32))), .val (.int (50 : Int32)), .val (.long (((p2 % (128 : Int32)).toInt64) + (50 : Int64))), .second] [(.int (1 : Int32))])) t → Steps p.tables e below (s₁.setTop (entryFrame m #[(.int p1), (.int p2), (.int p3)] maxLocals)) t := fun t k => ch5 t (by
      show Steps p.tables e below (T4.setTop (mkF m 70 #[.val (.int p1), .val (.int p2), .val (.int p3), .val (.int (1 : Int32)), .val (.ref (ad 1)), .val (.int (1 : Int32)), .val (.int (p2 % (128 : Int32))), .unset, .unset, .unset] [(.int (50 : Int32))])) t
      refine XS.istore X4.here hx rfl (hb hby at_70) rfl (l' := #[.val (.int p1), .val (.int p2), .val (.int p3), .val (.int (1 : Int32)), .val (.ref (ad 1)), .val (.int (1 : Int32)), .val (.int (p2 % (128 : Int32))), .val (.int (50 : Int32)), .unset, .unset]) rfl ?_
      show Steps p.tables e below (T4.setTop (mkF m 72 #[.val (.int p1), .val (.int p2), .val (.int p3), .val (.int (1 : Int32)), .val (.ref (ad 1)), .val (.int (1 : Int32)), .val (.int (p2 % (128 : Int32))), .val (.int (50 : Int32)), .unset, .unset] [])) t
      refine XS.iload X4.here hx rfl (hb hby at_72) rfl ?_
      show Steps p.tables e below (T4.setTop (mkF m 74 #[.val (.int p1), .val (.int p2), .val (.int p3), .val (.int (1 : Int32)), .val (.ref (ad 1)), .val (.int (1 : Int32)), .val (.int (p2 % (128 : Int32))), .val (.int (50 : Int32)), .unset, .unset] [(.int (p2 % (128 : Int32)))])) t
      refine XS.ifNo X4.here hx rfl (hb hby at_74) rfl ((if0 _ _).trans (flt h1).1) ?_
      show Steps p.tables e below (T4.setTop (mkF m 77 #[.val (.int p1), .val (.int p2), .val (.int p3), .val (.int (1 : Int32)), .val (.ref (ad 1)), .val (.int (1 : Int32)), .val (.int (p2 % (128 : Int32))), .val (.int (50 : Int32)), .unset, .unset] [])) t
      refine XS.iload X4.here hx rfl (hb hby at_77) rfl ?_
      show Steps p.tables e below (T4.setTop (mkF m 79 #[.val (.int p1), .val (.int p2), .val (.int p3), .val (.int (1 : Int32)), .val (.ref (ad 1)), .val (.int (1 : Int32)), .val (.int (p2 % (128 : Int32))), .val (.int (50 : Int32)), .unset, .unset] [(.int (p2 % (128 : Int32)))])) t
      refine XS.bipush X4.here hx rfl (hb hby at_79) ?_
      show Steps p.tables e below (T4.setTop (mkF m 81 #[.val (.int p1), .val (.int p2), .val (.int p3), .val (.int (1 : Int32)), .val (.ref (ad 1)), .val (.int (1 : Int32)), .val (.int (p2 % (128 : Int32))), .val (.int (50 : Int32)), .unset, .unset] [(.int (99 : Int32)), (.int (p2 % (128 : Int32)))])) t
      refine XS.icmpYes X4.here hx rfl (pc0 := 81) (pc' := 95) rfl (hb hby at_81) rfl (flt h2).2.2.2 (by decide) (by decide) ?_
      show Steps p.tables e below (T4.setTop (mkF m 95 #[.val (.int p1), .val (.int p2), .val (.int p3), .val (.int (1 : Int32)), .val (.ref (ad 1)), .val (.int (1 : Int32)), .val (.int (p2 % (128 : Int32))), .val (.int (50 : Int32)), .unset, .unset] [])) t
      refine XS.iload X4.here hx rfl (hb hby at_95) rfl ?_
      show Steps p.tables e below (T4.setTop (mkF m 97 #[.val (.int p1), .val (.int p2), .val (.int p3), .val (.int (1 : Int32)), .val (.ref (ad 1)), .val (.int (1 : Int32)), .val (.int (p2 % (128 : Int32))), .val (.int (50 : Int32)), .unset, .unset] [(.int (p2 % (128 : Int32)))])) t
      refine XS.i2l X4.here hx rfl (hb hby at_97) rfl ?_
      show Steps p.tables e below (T4.setTop (mkF m 98 #[.val (.int p1), .val (.int p2), .val (.int p3), .val (.int (1 : Int32)), .val (.ref (ad 1)), .val (.int (1 : Int32)), .val (.int (p2 % (128 : Int32))), .val (.int (50 : Int32)), .unset, .unset] [(.long ((p2 % (128 : Int32)).toInt64))])) t
      refine XS.iload X4.here hx rfl (hb hby at_98) rfl ?_
      show Steps p.tables e below (T4.setTop (mkF m 100 #[.val (.int p1), .val (.int p2), .val (.int p3), .val (.int (1 : Int32)), .val (.ref (ad 1)), .val (.int (1 : Int32)), .val (.int (p2 % (128 : Int32))), .val (.int (50 : Int32)), .unset, .unset] [(.int (1 : Int32)), (.long ((p2 % (128 : Int32)).toInt64))])) t
      refine XS.i2l X4.here hx rfl (hb hby at_100) rfl ?_
      rw [show ((1 : Int32).toInt64) = (1 : Int64) from by decide]
      show Steps p.tables e below (T4.setTop (mkF m 101 #[.val (.int p1), .val (.int p2), .val (.int p3), .val (.int (1 : Int32)), .val (.ref (ad 1)), .val (.int (1 : Int32)), .val (.int (p2 % (128 : Int32))), .val (.int (50 : Int32)), .unset, .unset] [(.long (1 : Int64)), (.long ((p2 % (128 : Int32)).toInt64))])) t
      refine XS.iload X4.here hx rfl (hb hby at_101) rfl ?_
      show Steps p.tables e below (T4.setTop (mkF m 103 #[.val (.int p1), .val (.int p2), .val (.int p3), .val (.int (1 : Int32)), .val (.ref (ad 1)), .val (.int (1 : Int32)), .val (.int (p2 % (128 : Int32))), .val (.int (50 : Int32)), .unset, .unset] [(.int (50 : Int32)), (.long (1 : Int64)), (.long ((p2 % (128 : Int32)).toInt64))])) t
      refine XS.i2l X4.here hx rfl (hb hby at_103) rfl ?_
      rw [show ((50 : Int32).toInt64) = (50 : Int64) from by decide]
      show Steps p.tables e below (T4.setTop (mkF m 104 #[.val (.int p1), .val (.int p2), .val (.int p3), .val (.int (1 : Int32)), .val (.ref (ad 1)), .val (.int (1 : Int32)), .val (.int (p2 % (128 : Int32))), .val (.int (50 : Int32)), .unset, .unset] [(.long (50 : Int64)), (.long (1 : Int64)), (.long ((p2 % (128 : Int32)).toInt64))])) t
      refine XS.lmul X4.here hx rfl (hb hby at_104) rfl ?_
      rw [show ((1 : Int64) * (50 : Int64)) = (50 : Int64) from by decide]
      show Steps p.tables e below (T4.setTop (mkF m 105 #[.val (.int p1), .val (.int p2), .val (.int p3), .val (.int (1 : Int32)), .val (.ref (ad 1)), .val (.int (1 : Int32)), .val (.int (p2 % (128 : Int32))), .val (.int (50 : Int32)), .unset, .unset] [(.long (50 : Int64)), (.long ((p2 % (128 : Int32)).toInt64))])) t
      refine XS.ladd X4.here hx rfl (hb hby at_105) rfl ?_
      show Steps p.tables e below (T4.setTop (mkF m 106 #[.val (.int p1), .val (.int p2), .val (.int p3), .val (.int (1 : Int32)), .val (.ref (ad 1)), .val (.int (1 : Int32)), .val (.int (p2 % (128 : Int32))), .val (.int (50 : Int32)), .unset, .unset] [(.long (((p2 % (128 : Int32)).toInt64) + (50 : Int64)))])) t
      refine XS.lstore X4.here hx rfl (hb hby at_106) rfl (l' := #[.val (.int p1), .val (.int p2), .val (.int p3), .val (.int (1 : Int32)), .val (.ref (ad 1)), .val (.int (1 : Int32)), .val (.int (p2 % (128 : Int32))), .val (.int (50 : Int32)), .val (.long (((p2 % (128 : Int32)).toInt64) + (50 : Int64))), .second]) rfl ?_
      show Steps p.tables e below (T4.setTop (mkF m 108 #[.val (.int p1), .val (.int p2), .val (.int p3), .val (.int (1 : Int32)), .val (.ref (ad 1)), .val (.int (1 : Int32)), .val (.int (p2 % (128 : Int32))), .val (.int (50 : Int32)), .val (.long (((p2 % (128 : Int32)).toInt64) + (50 : Int64))), .second] [])) t
      refine XS.iload X4.here hx rfl (hb hby at_108) rfl ?_
      show Steps p.tables e below (T4.setTop (mkF m 110 #[.val (.int p1), .val (.int p2), .val (.int p3), .val (.int (1 : Int32)), .val (.ref (ad 1)), .val (.int (1 : Int32)), .val (.int (p2 % (128 : Int32))), .val (.int (50 : Int32)), .val (.long (((p2 % (128 : Int32)).toInt64) + (50 : Int64))), .second] [(.int (p2 % (128 : Int32)))])) t
      refine XS.bipush X4.here hx rfl (hb hby at_110) ?_
      show Steps p.tables e below (T4.setTop (mkF m 112 #[.val (.int p1), .val (.int p2), .val (.int p3), .val (.int (1 : Int32)), .val (.ref (ad 1)), .val (.int (1 : Int32)), .val (.int (p2 % (128 : Int32))), .val (.int (50 : Int32)), .val (.long (((p2 % (128 : Int32)).toInt64) + (50 : Int64))), .second] [(.int (50 : Int32)), (.int (p2 % (128 : Int32)))])) t
      refine XS.icmpNo X4.here hx rfl (hb hby at_112) rfl (tlt h3).2.1 ?_
      show Steps p.tables e below (T4.setTop (mkF m 115 #[.val (.int p1), .val (.int p2), .val (.int p3), .val (.int (1 : Int32)), .val (.ref (ad 1)), .val (.int (1 : Int32)), .val (.int (p2 % (128 : Int32))), .val (.int (50 : Int32)), .val (.long (((p2 % (128 : Int32)).toInt64) + (50 : Int64))), .second] [])) t
      refine XS.lload X4.here hx rfl (hb hby at_115) rfl ?_
      show Steps p.tables e below (T4.setTop (mkF m 117 #[.val (.int p1), .val (.int p2), .val (.int p3), .val (.int (1 : Int32)), .val (.ref (ad 1)), .val (.int (1 : Int32)), .val (.int (p2 % (128 : Int32))), .val (.int (50 : Int32)), .val (.long (((p2 % (128 : Int32)).toInt64) + (50 : Int64))), .second] [(.long (((p2 % (128 : Int32)).toInt64) + (50 : Int64)))])) t
      refine XS.iload X4.here hx rfl (hb hby at_117) rfl ?_
      show Steps p.tables e below (T4.setTop (mkF m 119 #[.val (.int p1), .val (.int p2), .val (.int p3), .val (.int (1 : Int32)), .val (.ref (ad 1)), .val (.int (1 : Int32)), .val (.int (p2 % (128 : Int32))), .val (.int (50 : Int32)), .val (.long (((p2 % (128 : Int32)).toInt64) + (50 : Int64))), .second] [(.int (p2 % (128 : Int32))), (.long (((p2 % (128 : Int32)).toInt64) + (50 : Int64)))])) t
      refine XS.i2l X4.here hx rfl (hb hby at_119) rfl ?_
      show Steps p.tables e below (T4.setTop (mkF m 120 #[.val (.int p1), .val (.int p2), .val (.int p3), .val (.int (1 : Int32)), .val (.ref (ad 1)), .val (.int (1 : Int32)), .val (.int (p2 % (128 : Int32))), .val (.int (50 : Int32)), .val (.long (((p2 % (128 : Int32)).toInt64) + (50 : Int64))), .second] [(.long ((p2 % (128 : Int32)).toInt64)), (.long (((p2 % (128 : Int32)).toInt64) + (50 : Int64)))])) t
      refine X4.ldc2Long hx hown (mvT hZ (hw _ (List.mem_of_getElem? (i := 13) rfl))) (g := (mkF m 120 #[.val (.int p1), .val (.int p2), .val (.int p3), .val (.int (1 : Int32)), .val (.ref (ad 1)), .val (.int (1 : Int32)), .val (.int (p2 % (128 : Int32))), .val (.int (50 : Int32)), .val (.long (((p2 % (128 : Int32)).toInt64) + (50 : Int64))), .second] [(.long ((p2 % (128 : Int32)).toInt64)), (.long (((p2 % (128 : Int32)).toInt64) + (50 : Int64)))])) rfl (hb hby at_120) _ ?_
      show Steps p.tables e below (T4.setTop (mkF m 123 #[.val (.int p1), .val (.int p2), .val (.int p3), .val (.int (1 : Int32)), .val (.ref (ad 1)), .val (.int (1 : Int32)), .val (.int (p2 % (128 : Int32))), .val (.int (50 : Int32)), .val (.long (((p2 % (128 : Int32)).toInt64) + (50 : Int64))), .second] [(.long (50 : Int64)), (.long ((p2 % (128 : Int32)).toInt64)), (.long (((p2 % (128 : Int32)).toInt64) + (50 : Int64)))])) t
      refine XS.ladd X4.here hx rfl (hb hby at_123) rfl ?_
      show Steps p.tables e below (T4.setTop (mkF m 124 #[.val (.int p1), .val (.int p2), .val (.int p3), .val (.int (1 : Int32)), .val (.ref (ad 1)), .val (.int (1 : Int32)), .val (.int (p2 % (128 : Int32))), .val (.int (50 : Int32)), .val (.long (((p2 % (128 : Int32)).toInt64) + (50 : Int64))), .second] [(.long (((p2 % (128 : Int32)).toInt64) + (50 : Int64))), (.long (((p2 % (128 : Int32)).toInt64) + (50 : Int64)))])) t
      refine XS.lcmp X4.here hx rfl (hb hby at_124) rfl ?_
      show Steps p.tables e below (T4.setTop (mkF m 125 #[.val (.int p1), .val (.int p2), .val (.int p3), .val (.int (1 : Int32)), .val (.ref (ad 1)), .val (.int (1 : Int32)), .val (.int (p2 % (128 : Int32))), .val (.int (50 : Int32)), .val (.long (((p2 % (128 : Int32)).toInt64) + (50 : Int64))), .second] [(.int (lcmpW (((p2 % (128 : Int32)).toInt64) + (50 : Int64)) (((p2 % (128 : Int32)).toInt64) + (50 : Int64))))])) t
      rw [own_lc0]
      show Steps p.tables e below (T4.setTop (mkF m 125 #[.val (.int p1), .val (.int p2), .val (.int p3), .val (.int (1 : Int32)), .val (.ref (ad 1)), .val (.int (1 : Int32)), .val (.int (p2 % (128 : Int32))), .val (.int (50 : Int32)), .val (.long (((p2 % (128 : Int32)).toInt64) + (50 : Int64))), .second] [(.int (0 : Int32))])) t
      refine XS.ifNo X4.here hx rfl (hb hby at_125) rfl ((if0 _ _).trans (teq (by decide : (0 : Int32) = (0 : Int32))).2) ?_
      show Steps p.tables e below (T4.setTop (mkF m 128 #[.val (.int p1), .val (.int p2), .val (.int p3), .val (.int (1 : Int32)), .val (.ref (ad 1)), .val (.int (1 : Int32)), .val (.int (p2 % (128 : Int32))), .val (.int (50 : Int32)), .val (.long (((p2 % (128 : Int32)).toInt64) + (50 : Int64))), .second] [])) t
      refine XS.iconst X4.here hx rfl (hb hby at_128) ?_
      show Steps p.tables e below (T4.setTop (mkF m 129 #[.val (.int p1), .val (.int p2), .val (.int p3), .val (.int (1 : Int32)), .val (.ref (ad 1)), .val (.int (1 : Int32)), .val (.int (p2 % (128 : Int32))), .val (.int (50 : Int32)), .val (.long (((p2 % (128 : Int32)).toInt64) + (50 : Int64))), .second] [(.int (1 : Int32))])) t
      refine XS.goto X4.here hx rfl (pc0 := 129) (pc' := 133) rfl (hb hby at_129) (by decide) (by decide) ?_
      exact k)
  obtain ⟨fs, hr, hrun, hended, hW, hsame⟩ := X4.leave (v := some (.int (1 : Int32))) (fun h => by rw [Bd.returns] at h; cases h)
  refine ⟨_, _, ch6 _ ?_, hrun, hended, _, _, rfl, ?_, ⟨_, rfl⟩, hW, hsame.mono (by decide) (by decide)⟩
  · show Steps p.tables e below (T4.setTop (mkF m 133 #[.val (.int p1), .val (.int p2), .val (.int p3), .val (.int (1 : Int32)), .val (.ref (ad 1)), .val (.int (1 : Int32)), .val (.int (p2 % (128 : Int32))), .val (.int (50 : Int32)), .val (.long (((p2 % (128 : Int32)).toInt64) + (50 : Int64))), .second] [(.int (1 : Int32))])) _
    exact retN X4 hx (t := .boolean) Bd.returns (by simp) (hb hby at_133) hr
  · show QN (some (.int (1 : Int32))) n0 _ T4.heap _
    rw [e4]
    exact ⟨rfl, N4⟩
theorem own_ef_own_law_10h (m : MethodId) {x0 : Int32} {x1 : Int32} {x2 : Int32} : entryFrame m #[(.int x0), (.int x1), (.int x2)] maxLocals = mkF m 0 #[.val (.int x0), .val (.int x1), .val (.int x2), .unset, .unset, .unset, .unset, .unset, .unset, .unset] [] := by first | (simp [entryFrame, mkF, argsToLocals, Value.category, maxLocals]; done) | rfl
set_option maxRecDepth 65536 in
set_option maxHeartbeats 40000000 in
theorem own_law_10h (l : Launch) (Z : State) (a0 : Array Value) (hw : ∀ d ∈ tables_1, d.before a0 Z = true) (ws : List Jvm.Cond) (h0 : Heap) (n0 : Nat) (Z0 : n0 ≤ h0.size) (p1 p2 p3 : Int32) (hk : (p1 &&& (2147483647 : Int32)) % (3 : Int32) = (1 : Int32)) (hm : p3 &&& (1 : Int32) = (0 : Int32)) (h1 : ¬ (p2 % (128 : Int32)) < (0 : Int32)) (h2 : ¬ (99 : Int32) < (p2 % (128 : Int32))) (h3 : ¬ (p2 % (128 : Int32)) < (50 : Int32)) (ad : Nat → Addr) (W : OwnWd Z h0 ad) :
    MetFree l x (head1 (Jvm.Cond.code x code maxLocals ret :: ws) room_1) (fun a U => a = #[(.int p1), (.int p2), (.int p3)] ∧ Z.Warmed39 U.vm ∧ U.heap = h0) (fun _ _ _ _ _ => True) (fun _ U o U' => ∃ v L, o = .returned v ∧ QN (some (.int (1 : Int32))) n0 v U'.heap L ∧ FrameEnd U o U' L room_1.cells room_1.slots) := by
  refine MetFree.of_bodySF (plainFor_of_name own_pn_com_example_isolint_isolint_bench_ChangeAddedToEachValuePinLaw) hisR ?_
  intro p e s m args below meth c s₁ Bd hml0 hP hK
  obtain ⟨rfl, hZ, hh⟩ := hP
  have hx := Bd.exec
  have hby := Bd.bytes
  have hml : c.maxLocals = 10 := hml0
  have hown : s.vm.findClass "com/example/isolint/isolint/bench/ChangeAddedToEachValuePinLaw" = some m.cls := findClass_of_methodNamed Bd.named
  have hnm := (name_of_methodNamed Bd.named Bd.method).1
  have X0 : Stand p l e room_1 s m #[(.int p1), (.int p2), (.int p3)] below meth c s₁ [] 0 0 := Stand.of_body Bd
  have e0 : s₁.heap = h0 := by rw [← hh, Bd.state]; rfl
  have N0 := Fr.nil n0
  have pre0 : ∀ t, Steps p.tables e below (s₁.setTop (mkF m 0 #[.val (.int p1), .val (.int p2), .val (.int p3), .unset, .unset, .unset, .unset, .unset, .unset, .unset] [])) t → Steps p.tables e below (s₁.setTop (entryFrame m #[(.int p1), (.int p2), (.int p3)] maxLocals)) t := fun t k => castTop (own_ef_own_law_10h m) k
  obtain ⟨T1, X1, e1, st1⟩ := getS2 X0 hx hZ hown (host := "") (Or.inl (hw _ (List.mem_of_getElem? (i := 14) rfl))) Via.refl e0 (own_S_CHANGE_B W) (g := (mkF m 27 #[.val (.int p1), .val (.int p2), .val (.int p3), .val (.int (1 : Int32)), .unset, .unset, .unset, .unset, .unset, .unset] [])) rfl (hb hby at_27)
  have ch2 : ∀ t, Steps p.tables e below (T1.setTop (mkF m 30 #[.val (.int p1), .val (.int p2), .val (.int p3), .val (.int (1 : Int32)), .unset, .unset, .unset, .unset, .unset, .unset] [(.ref (ad 1))])) t → Steps p.tables e below (s₁.setTop (entryFrame m #[(.int p1), (.int p2), (.int p3)] maxLocals)) t := fun t k => pre0 t (by
      show Steps p.tables e below (s₁.setTop (mkF m 0 #[.val (.int p1), .val (.int p2), .val (.int p3), .unset, .unset, .unset, .unset, .unset, .unset, .unset] [])) t
      refine XS.iloadN X0.here hx rfl (hb hby at_0) rfl ?_
      show Steps p.tables e below (s₁.setTop (mkF m 1 #[.val (.int p1), .val (.int p2), .val (.int p3), .unset, .unset, .unset, .unset, .unset, .unset, .unset] [(.int p1)])) t
      refine X0.ldcInt hx hown (mvT hZ (hw _ (List.mem_of_getElem? (i := 0) rfl))) (g := (mkF m 1 #[.val (.int p1), .val (.int p2), .val (.int p3), .unset, .unset, .unset, .unset, .unset, .unset, .unset] [(.int p1)])) rfl (hb hby at_1) _ ?_
      show Steps p.tables e below (s₁.setTop (mkF m 3 #[.val (.int p1), .val (.int p2), .val (.int p3), .unset, .unset, .unset, .unset, .unset, .unset, .unset] [(.int (2147483647 : Int32)), (.int p1)])) t
      refine XS.iand X0.here hx rfl (hb hby at_3) rfl ?_
      show Steps p.tables e below (s₁.setTop (mkF m 4 #[.val (.int p1), .val (.int p2), .val (.int p3), .unset, .unset, .unset, .unset, .unset, .unset, .unset] [(.int (p1 &&& (2147483647 : Int32)))])) t
      refine XS.iconst X0.here hx rfl (hb hby at_4) ?_
      show Steps p.tables e below (s₁.setTop (mkF m 5 #[.val (.int p1), .val (.int p2), .val (.int p3), .unset, .unset, .unset, .unset, .unset, .unset, .unset] [(.int (3 : Int32)), (.int (p1 &&& (2147483647 : Int32)))])) t
      refine Jvm.RoadKit.iremM (g := (mkF m 5 #[.val (.int p1), .val (.int p2), .val (.int p3), .unset, .unset, .unset, .unset, .unset, .unset, .unset] [(.int (3 : Int32)), (.int (p1 &&& (2147483647 : Int32)))])) X0 hx rfl (hb hby at_5) rfl (by decide) ?_
      rw [hk]
      show Steps p.tables e below (s₁.setTop (mkF m 6 #[.val (.int p1), .val (.int p2), .val (.int p3), .unset, .unset, .unset, .unset, .unset, .unset, .unset] [(.int (1 : Int32))])) t
      refine XS.istoreN X0.here hx rfl (hb hby at_6) rfl (l' := #[.val (.int p1), .val (.int p2), .val (.int p3), .val (.int (1 : Int32)), .unset, .unset, .unset, .unset, .unset, .unset]) rfl ?_
      show Steps p.tables e below (s₁.setTop (mkF m 7 #[.val (.int p1), .val (.int p2), .val (.int p3), .val (.int (1 : Int32)), .unset, .unset, .unset, .unset, .unset, .unset] [])) t
      refine XS.iloadN X0.here hx rfl (hb hby at_7) rfl ?_
      show Steps p.tables e below (s₁.setTop (mkF m 8 #[.val (.int p1), .val (.int p2), .val (.int p3), .val (.int (1 : Int32)), .unset, .unset, .unset, .unset, .unset, .unset] [(.int (1 : Int32))])) t
      refine XS.ifYes X0.here hx rfl (pc0 := 8) (pc' := 22) rfl (hb hby at_8) rfl ((if0 _ _).trans (feq (by decide : ¬ (1 : Int32) = (0 : Int32))).2) (by decide) (by decide) ?_
      show Steps p.tables e below (s₁.setTop (mkF m 22 #[.val (.int p1), .val (.int p2), .val (.int p3), .val (.int (1 : Int32)), .unset, .unset, .unset, .unset, .unset, .unset] [])) t
      refine XS.iloadN X0.here hx rfl (hb hby at_22) rfl ?_
      show Steps p.tables e below (s₁.setTop (mkF m 23 #[.val (.int p1), .val (.int p2), .val (.int p3), .val (.int (1 : Int32)), .unset, .unset, .unset, .unset, .unset, .unset] [(.int (1 : Int32))])) t
      refine XS.iconst X0.here hx rfl (hb hby at_23) ?_
      show Steps p.tables e below (s₁.setTop (mkF m 24 #[.val (.int p1), .val (.int p2), .val (.int p3), .val (.int (1 : Int32)), .unset, .unset, .unset, .unset, .unset, .unset] [(.int (1 : Int32)), (.int (1 : Int32))])) t
      refine XS.icmpNo X0.here hx rfl (hb hby at_24) rfl (teq (by decide : (1 : Int32) = (1 : Int32))).2 ?_
      show Steps p.tables e below (s₁.setTop (mkF m 27 #[.val (.int p1), .val (.int p2), .val (.int p3), .val (.int (1 : Int32)), .unset, .unset, .unset, .unset, .unset, .unset] [])) t
      exact st1 t k)
  obtain ⟨cq3, kq3, qa3, qb3, qc3⟩ := isOf hZ e1 (own_E_CHANGE_B W)
  obtain ⟨vv4, _, ⟨T4, L4, kk4, nn4⟩, -, X4, ⟨Lc4, hQ4, l4, y4, z4⟩, st4⟩ := X1.virtualBack hx (y := (⟨"com/example/isolint/isolint/bench/Change", "addedToEachValue", "(I)I"⟩ : MethodName)) (z := (⟨"com/example/isolint/isolint/bench/Change", "addedToEachValue", "(I)I"⟩ : MethodName)) hown (mvT hZ (hw _ (List.mem_of_getElem? (i := 4) rfl))) (mvT hZ (hw _ (List.mem_of_getElem? (i := 5) rfl))) (notFace_of_selects (args := #[]) (mvT hZ (hw _ (List.mem_of_getElem? (i := 7) rfl)))) (mvT hZ (hw _ (List.mem_of_getElem? (i := 7) rfl))) (mvT hZ (hw _ (List.mem_of_getElem? (i := 6) rfl))) (by decide) (backOf (W := 0) (own_add_1h l Z a0 hw [] h0 n0 Z0  (p2 % (128 : Int32)) h1 h2 h3 ad W) hZ (hw _ (List.mem_of_getElem? (i := 8) rfl)) (hw _ (List.mem_of_getElem? (i := 2) rfl)) (by decide) (by decide)) qa3 qc3 (g := (mkF m 67 #[.val (.int p1), .val (.int p2), .val (.int p3), .val (.int (1 : Int32)), .val (.ref (ad 1)), .val (.int (1 : Int32)), .val (.int (p2 % (128 : Int32))), .unset, .unset, .unset] [(.int (p2 % (128 : Int32))), (.ref (ad 1))])) rfl (by rw [hml]; rfl) (Steps.refl _) (argsL := [(.int (p2 % (128 : Int32)))]) (rest := []) (lenOf own_pd__I_I rfl) rfl (by show 2 * 0 + _ ≤ _; exact Nat.le_of_eq rfl) (hb hby at_67) (fun _ _ => ⟨rfl, e1, (by decide : 0 + 0 ≤ _), (by decide : 0 + 0 ≤ _)⟩)
  dsimp only [Pt.U, Pt.locs, Pt.cells, Pt.slots] at X4 l4 y4 z4 st4 hQ4
  subst l4 y4 z4
  obtain ⟨rfl, Nq4, e4⟩ := hQ4
  have N4 := Fr.app N0 Nq4
  have ch5 : ∀ t, Steps p.tables e below (T4.setTop (mkF m 70 #[.val (.int p1), .val (.int p2), .val (.int p3), .val (.int (1 : Int32)), .val (.ref (ad 1)), .val (.int (1 : Int32)), .val (.int (p2 % (128 : Int32))), .unset, .unset, .unset] [(.int (-50 : Int32))])) t → Steps p.tables e below (s₁.setTop (entryFrame m #[(.int p1), (.int p2), (.int p3)] maxLocals)) t := fun t k => ch2 t (by
      show Steps p.tables e below (T1.setTop (mkF m 30 #[.val (.int p1), .val (.int p2), .val (.int p3), .val (.int (1 : Int32)), .unset, .unset, .unset, .unset, .unset, .unset] [(.ref (ad 1))])) t
      refine XS.astore X1.here hx rfl (hb hby at_30) rfl rfl (l' := #[.val (.int p1), .val (.int p2), .val (.int p3), .val (.int (1 : Int32)), .val (.ref (ad 1)), .unset, .unset, .unset, .unset, .unset]) rfl ?_
      show Steps p.tables e below (T1.setTop (mkF m 32 #[.val (.int p1), .val (.int p2), .val (.int p3), .val (.int (1 : Int32)), .val (.ref (ad 1)), .unset, .unset, .unset, .unset, .unset] [])) t
      refine XS.iconst X1.here hx rfl (hb hby at_32) ?_
      show Steps p.tables e below (T1.setTop (mkF m 33 #[.val (.int p1), .val (.int p2), .val (.int p3), .val (.int (1 : Int32)), .val (.ref (ad 1)), .unset, .unset, .unset, .unset, .unset] [(.int (1 : Int32))])) t
      refine XS.istore X1.here hx rfl (hb hby at_33) rfl (l' := #[.val (.int p1), .val (.int p2), .val (.int p3), .val (.int (1 : Int32)), .val (.ref (ad 1)), .val (.int (1 : Int32)), .unset, .unset, .unset, .unset]) rfl ?_
      show Steps p.tables e below (T1.setTop (mkF m 35 #[.val (.int p1), .val (.int p2), .val (.int p3), .val (.int (1 : Int32)), .val (.ref (ad 1)), .val (.int (1 : Int32)), .unset, .unset, .unset, .unset] [])) t
      refine XS.goto X1.here hx rfl (pc0 := 35) (pc' := 46) rfl (hb hby at_35) (by decide) (by decide) ?_
      show Steps p.tables e below (T1.setTop (mkF m 46 #[.val (.int p1), .val (.int p2), .val (.int p3), .val (.int (1 : Int32)), .val (.ref (ad 1)), .val (.int (1 : Int32)), .unset, .unset, .unset, .unset] [])) t
      refine XS.iloadN X1.here hx rfl (hb hby at_46) rfl ?_
      show Steps p.tables e below (T1.setTop (mkF m 47 #[.val (.int p1), .val (.int p2), .val (.int p3), .val (.int (1 : Int32)), .val (.ref (ad 1)), .val (.int (1 : Int32)), .unset, .unset, .unset, .unset] [(.int p3)])) t
      refine XS.iconst X1.here hx rfl (hb hby at_47) ?_
      show Steps p.tables e below (T1.setTop (mkF m 48 #[.val (.int p1), .val (.int p2), .val (.int p3), .val (.int (1 : Int32)), .val (.ref (ad 1)), .val (.int (1 : Int32)), .unset, .unset, .unset, .unset] [(.int (1 : Int32)), (.int p3)])) t
      refine XS.iand X1.here hx rfl (hb hby at_48) rfl ?_
      rw [hm]
      show Steps p.tables e below (T1.setTop (mkF m 49 #[.val (.int p1), .val (.int p2), .val (.int p3), .val (.int (1 : Int32)), .val (.ref (ad 1)), .val (.int (1 : Int32)), .unset, .unset, .unset, .unset] [(.int (0 : Int32))])) t
      refine XS.ifYes X1.here hx rfl (pc0 := 49) (pc' := 56) rfl (hb hby at_49) rfl ((if0 _ _).trans (teq (by decide : (0 : Int32) = (0 : Int32))).1) (by decide) (by decide) ?_
      show Steps p.tables e below (T1.setTop (mkF m 56 #[.val (.int p1), .val (.int p2), .val (.int p3), .val (.int (1 : Int32)), .val (.ref (ad 1)), .val (.int (1 : Int32)), .unset, .unset, .unset, .unset] [])) t
      refine XS.iloadN X1.here hx rfl (hb hby at_56) rfl ?_
      show Steps p.tables e below (T1.setTop (mkF m 57 #[.val (.int p1), .val (.int p2), .val (.int p3), .val (.int (1 : Int32)), .val (.ref (ad 1)), .val (.int (1 : Int32)), .unset, .unset, .unset, .unset] [(.int p2)])) t
      refine XS.sipush X1.here hx rfl (hb hby at_57) ?_
      show Steps p.tables e below (T1.setTop (mkF m 60 #[.val (.int p1), .val (.int p2), .val (.int p3), .val (.int (1 : Int32)), .val (.ref (ad 1)), .val (.int (1 : Int32)), .unset, .unset, .unset, .unset] [(.int (128 : Int32)), (.int p2)])) t
      refine Jvm.RoadKit.iremM (g := (mkF m 60 #[.val (.int p1), .val (.int p2), .val (.int p3), .val (.int (1 : Int32)), .val (.ref (ad 1)), .val (.int (1 : Int32)), .unset, .unset, .unset, .unset] [(.int (128 : Int32)), (.int p2)])) X1 hx rfl (hb hby at_60) rfl (by decide) ?_
      show Steps p.tables e below (T1.setTop (mkF m 61 #[.val (.int p1), .val (.int p2), .val (.int p3), .val (.int (1 : Int32)), .val (.ref (ad 1)), .val (.int (1 : Int32)), .unset, .unset, .unset, .unset] [(.int (p2 % (128 : Int32)))])) t
      refine XS.istore X1.here hx rfl (hb hby at_61) rfl (l' := #[.val (.int p1), .val (.int p2), .val (.int p3), .val (.int (1 : Int32)), .val (.ref (ad 1)), .val (.int (1 : Int32)), .val (.int (p2 % (128 : Int32))), .unset, .unset, .unset]) rfl ?_
      show Steps p.tables e below (T1.setTop (mkF m 63 #[.val (.int p1), .val (.int p2), .val (.int p3), .val (.int (1 : Int32)), .val (.ref (ad 1)), .val (.int (1 : Int32)), .val (.int (p2 % (128 : Int32))), .unset, .unset, .unset] [])) t
      refine XS.aload X1.here hx rfl (hb hby at_63) rfl rfl ?_
      show Steps p.tables e below (T1.setTop (mkF m 65 #[.val (.int p1), .val (.int p2), .val (.int p3), .val (.int (1 : Int32)), .val (.ref (ad 1)), .val (.int (1 : Int32)), .val (.int (p2 % (128 : Int32))), .unset, .unset, .unset] [(.ref (ad 1))])) t
      refine XS.iload X1.here hx rfl (hb hby at_65) rfl ?_
      show Steps p.tables e below (T1.setTop (mkF m 67 #[.val (.int p1), .val (.int p2), .val (.int p3), .val (.int (1 : Int32)), .val (.ref (ad 1)), .val (.int (1 : Int32)), .val (.int (p2 % (128 : Int32))), .unset, .unset, .unset] [(.int (p2 % (128 : Int32))), (.ref (ad 1))])) t
      exact st4.trans k)
  have ch6 : ∀ t, Steps p.tables e below (T4.setTop (mkF m 152 #[.val (.int p1), .val (.int p2), .val (.int p3), .val (.int (1 : Int32)), .val (.ref (ad 1)), .val (.int (1 : Int32)), .val (.int (p2 % (128 : Int32))), .val (.int (-50 : Int32)), .val (.long (((p2 % (128 : Int32)).toInt64) + (-50 : Int64))), .second] [(.int (1 : Int32))])) t → Steps p.tables e below (s₁.setTop (entryFrame m #[(.int p1), (.int p2), (.int p3)] maxLocals)) t := fun t k => ch5 t (by
      show Steps p.tables e below (T4.setTop (mkF m 70 #[.val (.int p1), .val (.int p2), .val (.int p3), .val (.int (1 : Int32)), .val (.ref (ad 1)), .val (.int (1 : Int32)), .val (.int (p2 % (128 : Int32))), .unset, .unset, .unset] [(.int (-50 : Int32))])) t
      refine XS.istore X4.here hx rfl (hb hby at_70) rfl (l' := #[.val (.int p1), .val (.int p2), .val (.int p3), .val (.int (1 : Int32)), .val (.ref (ad 1)), .val (.int (1 : Int32)), .val (.int (p2 % (128 : Int32))), .val (.int (-50 : Int32)), .unset, .unset]) rfl ?_
      show Steps p.tables e below (T4.setTop (mkF m 72 #[.val (.int p1), .val (.int p2), .val (.int p3), .val (.int (1 : Int32)), .val (.ref (ad 1)), .val (.int (1 : Int32)), .val (.int (p2 % (128 : Int32))), .val (.int (-50 : Int32)), .unset, .unset] [])) t
      refine XS.iload X4.here hx rfl (hb hby at_72) rfl ?_
      show Steps p.tables e below (T4.setTop (mkF m 74 #[.val (.int p1), .val (.int p2), .val (.int p3), .val (.int (1 : Int32)), .val (.ref (ad 1)), .val (.int (1 : Int32)), .val (.int (p2 % (128 : Int32))), .val (.int (-50 : Int32)), .unset, .unset] [(.int (p2 % (128 : Int32)))])) t
      refine XS.ifNo X4.here hx rfl (hb hby at_74) rfl ((if0 _ _).trans (flt h1).1) ?_
      show Steps p.tables e below (T4.setTop (mkF m 77 #[.val (.int p1), .val (.int p2), .val (.int p3), .val (.int (1 : Int32)), .val (.ref (ad 1)), .val (.int (1 : Int32)), .val (.int (p2 % (128 : Int32))), .val (.int (-50 : Int32)), .unset, .unset] [])) t
      refine XS.iload X4.here hx rfl (hb hby at_77) rfl ?_
      show Steps p.tables e below (T4.setTop (mkF m 79 #[.val (.int p1), .val (.int p2), .val (.int p3), .val (.int (1 : Int32)), .val (.ref (ad 1)), .val (.int (1 : Int32)), .val (.int (p2 % (128 : Int32))), .val (.int (-50 : Int32)), .unset, .unset] [(.int (p2 % (128 : Int32)))])) t
      refine XS.bipush X4.here hx rfl (hb hby at_79) ?_
      show Steps p.tables e below (T4.setTop (mkF m 81 #[.val (.int p1), .val (.int p2), .val (.int p3), .val (.int (1 : Int32)), .val (.ref (ad 1)), .val (.int (1 : Int32)), .val (.int (p2 % (128 : Int32))), .val (.int (-50 : Int32)), .unset, .unset] [(.int (99 : Int32)), (.int (p2 % (128 : Int32)))])) t
      refine XS.icmpYes X4.here hx rfl (pc0 := 81) (pc' := 95) rfl (hb hby at_81) rfl (flt h2).2.2.2 (by decide) (by decide) ?_
      show Steps p.tables e below (T4.setTop (mkF m 95 #[.val (.int p1), .val (.int p2), .val (.int p3), .val (.int (1 : Int32)), .val (.ref (ad 1)), .val (.int (1 : Int32)), .val (.int (p2 % (128 : Int32))), .val (.int (-50 : Int32)), .unset, .unset] [])) t
      refine XS.iload X4.here hx rfl (hb hby at_95) rfl ?_
      show Steps p.tables e below (T4.setTop (mkF m 97 #[.val (.int p1), .val (.int p2), .val (.int p3), .val (.int (1 : Int32)), .val (.ref (ad 1)), .val (.int (1 : Int32)), .val (.int (p2 % (128 : Int32))), .val (.int (-50 : Int32)), .unset, .unset] [(.int (p2 % (128 : Int32)))])) t
      refine XS.i2l X4.here hx rfl (hb hby at_97) rfl ?_
      show Steps p.tables e below (T4.setTop (mkF m 98 #[.val (.int p1), .val (.int p2), .val (.int p3), .val (.int (1 : Int32)), .val (.ref (ad 1)), .val (.int (1 : Int32)), .val (.int (p2 % (128 : Int32))), .val (.int (-50 : Int32)), .unset, .unset] [(.long ((p2 % (128 : Int32)).toInt64))])) t
      refine XS.iload X4.here hx rfl (hb hby at_98) rfl ?_
      show Steps p.tables e below (T4.setTop (mkF m 100 #[.val (.int p1), .val (.int p2), .val (.int p3), .val (.int (1 : Int32)), .val (.ref (ad 1)), .val (.int (1 : Int32)), .val (.int (p2 % (128 : Int32))), .val (.int (-50 : Int32)), .unset, .unset] [(.int (1 : Int32)), (.long ((p2 % (128 : Int32)).toInt64))])) t
      refine XS.i2l X4.here hx rfl (hb hby at_100) rfl ?_
      rw [show ((1 : Int32).toInt64) = (1 : Int64) from by decide]
      show Steps p.tables e below (T4.setTop (mkF m 101 #[.val (.int p1), .val (.int p2), .val (.int p3), .val (.int (1 : Int32)), .val (.ref (ad 1)), .val (.int (1 : Int32)), .val (.int (p2 % (128 : Int32))), .val (.int (-50 : Int32)), .unset, .unset] [(.long (1 : Int64)), (.long ((p2 % (128 : Int32)).toInt64))])) t
      refine XS.iload X4.here hx rfl (hb hby at_101) rfl ?_
      show Steps p.tables e below (T4.setTop (mkF m 103 #[.val (.int p1), .val (.int p2), .val (.int p3), .val (.int (1 : Int32)), .val (.ref (ad 1)), .val (.int (1 : Int32)), .val (.int (p2 % (128 : Int32))), .val (.int (-50 : Int32)), .unset, .unset] [(.int (-50 : Int32)), (.long (1 : Int64)), (.long ((p2 % (128 : Int32)).toInt64))])) t
      refine XS.i2l X4.here hx rfl (hb hby at_103) rfl ?_
      rw [show ((-50 : Int32).toInt64) = (-50 : Int64) from by decide]
      show Steps p.tables e below (T4.setTop (mkF m 104 #[.val (.int p1), .val (.int p2), .val (.int p3), .val (.int (1 : Int32)), .val (.ref (ad 1)), .val (.int (1 : Int32)), .val (.int (p2 % (128 : Int32))), .val (.int (-50 : Int32)), .unset, .unset] [(.long (-50 : Int64)), (.long (1 : Int64)), (.long ((p2 % (128 : Int32)).toInt64))])) t
      refine XS.lmul X4.here hx rfl (hb hby at_104) rfl ?_
      rw [show ((1 : Int64) * (-50 : Int64)) = (-50 : Int64) from by decide]
      show Steps p.tables e below (T4.setTop (mkF m 105 #[.val (.int p1), .val (.int p2), .val (.int p3), .val (.int (1 : Int32)), .val (.ref (ad 1)), .val (.int (1 : Int32)), .val (.int (p2 % (128 : Int32))), .val (.int (-50 : Int32)), .unset, .unset] [(.long (-50 : Int64)), (.long ((p2 % (128 : Int32)).toInt64))])) t
      refine XS.ladd X4.here hx rfl (hb hby at_105) rfl ?_
      show Steps p.tables e below (T4.setTop (mkF m 106 #[.val (.int p1), .val (.int p2), .val (.int p3), .val (.int (1 : Int32)), .val (.ref (ad 1)), .val (.int (1 : Int32)), .val (.int (p2 % (128 : Int32))), .val (.int (-50 : Int32)), .unset, .unset] [(.long (((p2 % (128 : Int32)).toInt64) + (-50 : Int64)))])) t
      refine XS.lstore X4.here hx rfl (hb hby at_106) rfl (l' := #[.val (.int p1), .val (.int p2), .val (.int p3), .val (.int (1 : Int32)), .val (.ref (ad 1)), .val (.int (1 : Int32)), .val (.int (p2 % (128 : Int32))), .val (.int (-50 : Int32)), .val (.long (((p2 % (128 : Int32)).toInt64) + (-50 : Int64))), .second]) rfl ?_
      show Steps p.tables e below (T4.setTop (mkF m 108 #[.val (.int p1), .val (.int p2), .val (.int p3), .val (.int (1 : Int32)), .val (.ref (ad 1)), .val (.int (1 : Int32)), .val (.int (p2 % (128 : Int32))), .val (.int (-50 : Int32)), .val (.long (((p2 % (128 : Int32)).toInt64) + (-50 : Int64))), .second] [])) t
      refine XS.iload X4.here hx rfl (hb hby at_108) rfl ?_
      show Steps p.tables e below (T4.setTop (mkF m 110 #[.val (.int p1), .val (.int p2), .val (.int p3), .val (.int (1 : Int32)), .val (.ref (ad 1)), .val (.int (1 : Int32)), .val (.int (p2 % (128 : Int32))), .val (.int (-50 : Int32)), .val (.long (((p2 % (128 : Int32)).toInt64) + (-50 : Int64))), .second] [(.int (p2 % (128 : Int32)))])) t
      refine XS.bipush X4.here hx rfl (hb hby at_110) ?_
      show Steps p.tables e below (T4.setTop (mkF m 112 #[.val (.int p1), .val (.int p2), .val (.int p3), .val (.int (1 : Int32)), .val (.ref (ad 1)), .val (.int (1 : Int32)), .val (.int (p2 % (128 : Int32))), .val (.int (-50 : Int32)), .val (.long (((p2 % (128 : Int32)).toInt64) + (-50 : Int64))), .second] [(.int (50 : Int32)), (.int (p2 % (128 : Int32)))])) t
      refine XS.icmpYes X4.here hx rfl (pc0 := 112) (pc' := 134) rfl (hb hby at_112) rfl (flt h3).2.1 (by decide) (by decide) ?_
      show Steps p.tables e below (T4.setTop (mkF m 134 #[.val (.int p1), .val (.int p2), .val (.int p3), .val (.int (1 : Int32)), .val (.ref (ad 1)), .val (.int (1 : Int32)), .val (.int (p2 % (128 : Int32))), .val (.int (-50 : Int32)), .val (.long (((p2 % (128 : Int32)).toInt64) + (-50 : Int64))), .second] [])) t
      refine XS.lload X4.here hx rfl (hb hby at_134) rfl ?_
      show Steps p.tables e below (T4.setTop (mkF m 136 #[.val (.int p1), .val (.int p2), .val (.int p3), .val (.int (1 : Int32)), .val (.ref (ad 1)), .val (.int (1 : Int32)), .val (.int (p2 % (128 : Int32))), .val (.int (-50 : Int32)), .val (.long (((p2 % (128 : Int32)).toInt64) + (-50 : Int64))), .second] [(.long (((p2 % (128 : Int32)).toInt64) + (-50 : Int64)))])) t
      refine XS.iload X4.here hx rfl (hb hby at_136) rfl ?_
      show Steps p.tables e below (T4.setTop (mkF m 138 #[.val (.int p1), .val (.int p2), .val (.int p3), .val (.int (1 : Int32)), .val (.ref (ad 1)), .val (.int (1 : Int32)), .val (.int (p2 % (128 : Int32))), .val (.int (-50 : Int32)), .val (.long (((p2 % (128 : Int32)).toInt64) + (-50 : Int64))), .second] [(.int (p2 % (128 : Int32))), (.long (((p2 % (128 : Int32)).toInt64) + (-50 : Int64)))])) t
      refine XS.i2l X4.here hx rfl (hb hby at_138) rfl ?_
      show Steps p.tables e below (T4.setTop (mkF m 139 #[.val (.int p1), .val (.int p2), .val (.int p3), .val (.int (1 : Int32)), .val (.ref (ad 1)), .val (.int (1 : Int32)), .val (.int (p2 % (128 : Int32))), .val (.int (-50 : Int32)), .val (.long (((p2 % (128 : Int32)).toInt64) + (-50 : Int64))), .second] [(.long ((p2 % (128 : Int32)).toInt64)), (.long (((p2 % (128 : Int32)).toInt64) + (-50 : Int64)))])) t
      refine X4.ldc2Long hx hown (mvT hZ (hw _ (List.mem_of_getElem? (i := 13) rfl))) (g := (mkF m 139 #[.val (.int p1), .val (.int p2), .val (.int p3), .val (.int (1 : Int32)), .val (.ref (ad 1)), .val (.int (1 : Int32)), .val (.int (p2 % (128 : Int32))), .val (.int (-50 : Int32)), .val (.long (((p2 % (128 : Int32)).toInt64) + (-50 : Int64))), .second] [(.long ((p2 % (128 : Int32)).toInt64)), (.long (((p2 % (128 : Int32)).toInt64) + (-50 : Int64)))])) rfl (hb hby at_139) _ ?_
      show Steps p.tables e below (T4.setTop (mkF m 142 #[.val (.int p1), .val (.int p2), .val (.int p3), .val (.int (1 : Int32)), .val (.ref (ad 1)), .val (.int (1 : Int32)), .val (.int (p2 % (128 : Int32))), .val (.int (-50 : Int32)), .val (.long (((p2 % (128 : Int32)).toInt64) + (-50 : Int64))), .second] [(.long (50 : Int64)), (.long ((p2 % (128 : Int32)).toInt64)), (.long (((p2 % (128 : Int32)).toInt64) + (-50 : Int64)))])) t
      refine XS.lsub X4.here hx rfl (hb hby at_142) rfl ?_
      show Steps p.tables e below (T4.setTop (mkF m 143 #[.val (.int p1), .val (.int p2), .val (.int p3), .val (.int (1 : Int32)), .val (.ref (ad 1)), .val (.int (1 : Int32)), .val (.int (p2 % (128 : Int32))), .val (.int (-50 : Int32)), .val (.long (((p2 % (128 : Int32)).toInt64) + (-50 : Int64))), .second] [(.long (((p2 % (128 : Int32)).toInt64) - (50 : Int64))), (.long (((p2 % (128 : Int32)).toInt64) + (-50 : Int64)))])) t
      refine XS.lcmp X4.here hx rfl (hb hby at_143) rfl ?_
      show Steps p.tables e below (T4.setTop (mkF m 144 #[.val (.int p1), .val (.int p2), .val (.int p3), .val (.int (1 : Int32)), .val (.ref (ad 1)), .val (.int (1 : Int32)), .val (.int (p2 % (128 : Int32))), .val (.int (-50 : Int32)), .val (.long (((p2 % (128 : Int32)).toInt64) + (-50 : Int64))), .second] [(.int (lcmpW (((p2 % (128 : Int32)).toInt64) + (-50 : Int64)) (((p2 % (128 : Int32)).toInt64) - (50 : Int64))))])) t
      rw [own_lc1]
      show Steps p.tables e below (T4.setTop (mkF m 144 #[.val (.int p1), .val (.int p2), .val (.int p3), .val (.int (1 : Int32)), .val (.ref (ad 1)), .val (.int (1 : Int32)), .val (.int (p2 % (128 : Int32))), .val (.int (-50 : Int32)), .val (.long (((p2 % (128 : Int32)).toInt64) + (-50 : Int64))), .second] [(.int (0 : Int32))])) t
      refine XS.ifNo X4.here hx rfl (hb hby at_144) rfl ((if0 _ _).trans (teq (by decide : (0 : Int32) = (0 : Int32))).2) ?_
      show Steps p.tables e below (T4.setTop (mkF m 147 #[.val (.int p1), .val (.int p2), .val (.int p3), .val (.int (1 : Int32)), .val (.ref (ad 1)), .val (.int (1 : Int32)), .val (.int (p2 % (128 : Int32))), .val (.int (-50 : Int32)), .val (.long (((p2 % (128 : Int32)).toInt64) + (-50 : Int64))), .second] [])) t
      refine XS.iconst X4.here hx rfl (hb hby at_147) ?_
      show Steps p.tables e below (T4.setTop (mkF m 148 #[.val (.int p1), .val (.int p2), .val (.int p3), .val (.int (1 : Int32)), .val (.ref (ad 1)), .val (.int (1 : Int32)), .val (.int (p2 % (128 : Int32))), .val (.int (-50 : Int32)), .val (.long (((p2 % (128 : Int32)).toInt64) + (-50 : Int64))), .second] [(.int (1 : Int32))])) t
      refine XS.goto X4.here hx rfl (pc0 := 148) (pc' := 152) rfl (hb hby at_148) (by decide) (by decide) ?_
      exact k)
  obtain ⟨fs, hr, hrun, hended, hW, hsame⟩ := X4.leave (v := some (.int (1 : Int32))) (fun h => by rw [Bd.returns] at h; cases h)
  refine ⟨_, _, ch6 _ ?_, hrun, hended, _, _, rfl, ?_, ⟨_, rfl⟩, hW, hsame.mono (by decide) (by decide)⟩
  · show Steps p.tables e below (T4.setTop (mkF m 152 #[.val (.int p1), .val (.int p2), .val (.int p3), .val (.int (1 : Int32)), .val (.ref (ad 1)), .val (.int (1 : Int32)), .val (.int (p2 % (128 : Int32))), .val (.int (-50 : Int32)), .val (.long (((p2 % (128 : Int32)).toInt64) + (-50 : Int64))), .second] [(.int (1 : Int32))])) _
    exact retN X4 hx (t := .boolean) Bd.returns (by simp) (hb hby at_152) hr
  · show QN (some (.int (1 : Int32))) n0 _ T4.heap _
    rw [e4]
    exact ⟨rfl, N4⟩
theorem own_ef_own_law_11n (m : MethodId) {x0 : Int32} {x1 : Int32} {x2 : Int32} : entryFrame m #[(.int x0), (.int x1), (.int x2)] maxLocals = mkF m 0 #[.val (.int x0), .val (.int x1), .val (.int x2), .unset, .unset, .unset, .unset, .unset, .unset, .unset] [] := by first | (simp [entryFrame, mkF, argsToLocals, Value.category, maxLocals]; done) | rfl
set_option maxRecDepth 65536 in
set_option maxHeartbeats 40000000 in
theorem own_law_11n (l : Launch) (Z : State) (a0 : Array Value) (hw : ∀ d ∈ tables_1, d.before a0 Z = true) (ws : List Jvm.Cond) (h0 : Heap) (n0 : Nat) (Z0 : n0 ≤ h0.size) (p1 p2 p3 : Int32) (hk : (p1 &&& (2147483647 : Int32)) % (3 : Int32) = (1 : Int32)) (hm : p3 &&& (1 : Int32) = (1 : Int32)) (h1 : p2 < (0 : Int32)) (ad : Nat → Addr) (W : OwnWd Z h0 ad) :
    MetFree l x (head1 (Jvm.Cond.code x code maxLocals ret :: ws) room_1) (fun a U => a = #[(.int p1), (.int p2), (.int p3)] ∧ Z.Warmed39 U.vm ∧ U.heap = h0) (fun _ _ _ _ _ => True) (fun _ U o U' => ∃ v L, o = .returned v ∧ QN (some (.int (1 : Int32))) n0 v U'.heap L ∧ FrameEnd U o U' L room_1.cells room_1.slots) := by
  refine MetFree.of_bodySF (plainFor_of_name own_pn_com_example_isolint_isolint_bench_ChangeAddedToEachValuePinLaw) hisR ?_
  intro p e s m args below meth c s₁ Bd hml0 hP hK
  obtain ⟨rfl, hZ, hh⟩ := hP
  have hx := Bd.exec
  have hby := Bd.bytes
  have hml : c.maxLocals = 10 := hml0
  have hown : s.vm.findClass "com/example/isolint/isolint/bench/ChangeAddedToEachValuePinLaw" = some m.cls := findClass_of_methodNamed Bd.named
  have hnm := (name_of_methodNamed Bd.named Bd.method).1
  have X0 : Stand p l e room_1 s m #[(.int p1), (.int p2), (.int p3)] below meth c s₁ [] 0 0 := Stand.of_body Bd
  have e0 : s₁.heap = h0 := by rw [← hh, Bd.state]; rfl
  have N0 := Fr.nil n0
  have pre0 : ∀ t, Steps p.tables e below (s₁.setTop (mkF m 0 #[.val (.int p1), .val (.int p2), .val (.int p3), .unset, .unset, .unset, .unset, .unset, .unset, .unset] [])) t → Steps p.tables e below (s₁.setTop (entryFrame m #[(.int p1), (.int p2), (.int p3)] maxLocals)) t := fun t k => castTop (own_ef_own_law_11n m) k
  obtain ⟨T1, X1, e1, st1⟩ := getS2 X0 hx hZ hown (host := "") (Or.inl (hw _ (List.mem_of_getElem? (i := 14) rfl))) Via.refl e0 (own_S_CHANGE_B W) (g := (mkF m 27 #[.val (.int p1), .val (.int p2), .val (.int p3), .val (.int (1 : Int32)), .unset, .unset, .unset, .unset, .unset, .unset] [])) rfl (hb hby at_27)
  have ch2 : ∀ t, Steps p.tables e below (T1.setTop (mkF m 30 #[.val (.int p1), .val (.int p2), .val (.int p3), .val (.int (1 : Int32)), .unset, .unset, .unset, .unset, .unset, .unset] [(.ref (ad 1))])) t → Steps p.tables e below (s₁.setTop (entryFrame m #[(.int p1), (.int p2), (.int p3)] maxLocals)) t := fun t k => pre0 t (by
      show Steps p.tables e below (s₁.setTop (mkF m 0 #[.val (.int p1), .val (.int p2), .val (.int p3), .unset, .unset, .unset, .unset, .unset, .unset, .unset] [])) t
      refine XS.iloadN X0.here hx rfl (hb hby at_0) rfl ?_
      show Steps p.tables e below (s₁.setTop (mkF m 1 #[.val (.int p1), .val (.int p2), .val (.int p3), .unset, .unset, .unset, .unset, .unset, .unset, .unset] [(.int p1)])) t
      refine X0.ldcInt hx hown (mvT hZ (hw _ (List.mem_of_getElem? (i := 0) rfl))) (g := (mkF m 1 #[.val (.int p1), .val (.int p2), .val (.int p3), .unset, .unset, .unset, .unset, .unset, .unset, .unset] [(.int p1)])) rfl (hb hby at_1) _ ?_
      show Steps p.tables e below (s₁.setTop (mkF m 3 #[.val (.int p1), .val (.int p2), .val (.int p3), .unset, .unset, .unset, .unset, .unset, .unset, .unset] [(.int (2147483647 : Int32)), (.int p1)])) t
      refine XS.iand X0.here hx rfl (hb hby at_3) rfl ?_
      show Steps p.tables e below (s₁.setTop (mkF m 4 #[.val (.int p1), .val (.int p2), .val (.int p3), .unset, .unset, .unset, .unset, .unset, .unset, .unset] [(.int (p1 &&& (2147483647 : Int32)))])) t
      refine XS.iconst X0.here hx rfl (hb hby at_4) ?_
      show Steps p.tables e below (s₁.setTop (mkF m 5 #[.val (.int p1), .val (.int p2), .val (.int p3), .unset, .unset, .unset, .unset, .unset, .unset, .unset] [(.int (3 : Int32)), (.int (p1 &&& (2147483647 : Int32)))])) t
      refine Jvm.RoadKit.iremM (g := (mkF m 5 #[.val (.int p1), .val (.int p2), .val (.int p3), .unset, .unset, .unset, .unset, .unset, .unset, .unset] [(.int (3 : Int32)), (.int (p1 &&& (2147483647 : Int32)))])) X0 hx rfl (hb hby at_5) rfl (by decide) ?_
      rw [hk]
      show Steps p.tables e below (s₁.setTop (mkF m 6 #[.val (.int p1), .val (.int p2), .val (.int p3), .unset, .unset, .unset, .unset, .unset, .unset, .unset] [(.int (1 : Int32))])) t
      refine XS.istoreN X0.here hx rfl (hb hby at_6) rfl (l' := #[.val (.int p1), .val (.int p2), .val (.int p3), .val (.int (1 : Int32)), .unset, .unset, .unset, .unset, .unset, .unset]) rfl ?_
      show Steps p.tables e below (s₁.setTop (mkF m 7 #[.val (.int p1), .val (.int p2), .val (.int p3), .val (.int (1 : Int32)), .unset, .unset, .unset, .unset, .unset, .unset] [])) t
      refine XS.iloadN X0.here hx rfl (hb hby at_7) rfl ?_
      show Steps p.tables e below (s₁.setTop (mkF m 8 #[.val (.int p1), .val (.int p2), .val (.int p3), .val (.int (1 : Int32)), .unset, .unset, .unset, .unset, .unset, .unset] [(.int (1 : Int32))])) t
      refine XS.ifYes X0.here hx rfl (pc0 := 8) (pc' := 22) rfl (hb hby at_8) rfl ((if0 _ _).trans (feq (by decide : ¬ (1 : Int32) = (0 : Int32))).2) (by decide) (by decide) ?_
      show Steps p.tables e below (s₁.setTop (mkF m 22 #[.val (.int p1), .val (.int p2), .val (.int p3), .val (.int (1 : Int32)), .unset, .unset, .unset, .unset, .unset, .unset] [])) t
      refine XS.iloadN X0.here hx rfl (hb hby at_22) rfl ?_
      show Steps p.tables e below (s₁.setTop (mkF m 23 #[.val (.int p1), .val (.int p2), .val (.int p3), .val (.int (1 : Int32)), .unset, .unset, .unset, .unset, .unset, .unset] [(.int (1 : Int32))])) t
      refine XS.iconst X0.here hx rfl (hb hby at_23) ?_
      show Steps p.tables e below (s₁.setTop (mkF m 24 #[.val (.int p1), .val (.int p2), .val (.int p3), .val (.int (1 : Int32)), .unset, .unset, .unset, .unset, .unset, .unset] [(.int (1 : Int32)), (.int (1 : Int32))])) t
      refine XS.icmpNo X0.here hx rfl (hb hby at_24) rfl (teq (by decide : (1 : Int32) = (1 : Int32))).2 ?_
      show Steps p.tables e below (s₁.setTop (mkF m 27 #[.val (.int p1), .val (.int p2), .val (.int p3), .val (.int (1 : Int32)), .unset, .unset, .unset, .unset, .unset, .unset] [])) t
      exact st1 t k)
  obtain ⟨cq3, kq3, qa3, qb3, qc3⟩ := isOf hZ e1 (own_E_CHANGE_B W)
  obtain ⟨vv4, _, ⟨T4, L4, kk4, nn4⟩, -, X4, ⟨Lc4, hQ4, l4, y4, z4⟩, st4⟩ := X1.virtualBack hx (y := (⟨"com/example/isolint/isolint/bench/Change", "addedToEachValue", "(I)I"⟩ : MethodName)) (z := (⟨"com/example/isolint/isolint/bench/Change", "addedToEachValue", "(I)I"⟩ : MethodName)) hown (mvT hZ (hw _ (List.mem_of_getElem? (i := 4) rfl))) (mvT hZ (hw _ (List.mem_of_getElem? (i := 5) rfl))) (notFace_of_selects (args := #[]) (mvT hZ (hw _ (List.mem_of_getElem? (i := 7) rfl)))) (mvT hZ (hw _ (List.mem_of_getElem? (i := 7) rfl))) (mvT hZ (hw _ (List.mem_of_getElem? (i := 6) rfl))) (by decide) (backOf (W := 0) (own_add_1n l Z a0 hw [] h0 n0 Z0  p2 h1 ad W) hZ (hw _ (List.mem_of_getElem? (i := 8) rfl)) (hw _ (List.mem_of_getElem? (i := 2) rfl)) (by decide) (by decide)) qa3 qc3 (g := (mkF m 67 #[.val (.int p1), .val (.int p2), .val (.int p3), .val (.int (1 : Int32)), .val (.ref (ad 1)), .val (.int (1 : Int32)), .val (.int p2), .unset, .unset, .unset] [(.int p2), (.ref (ad 1))])) rfl (by rw [hml]; rfl) (Steps.refl _) (argsL := [(.int p2)]) (rest := []) (lenOf own_pd__I_I rfl) rfl (by show 2 * 0 + _ ≤ _; exact Nat.le_of_eq rfl) (hb hby at_67) (fun _ _ => ⟨rfl, e1, (by decide : 0 + 0 ≤ _), (by decide : 0 + 0 ≤ _)⟩)
  dsimp only [Pt.U, Pt.locs, Pt.cells, Pt.slots] at X4 l4 y4 z4 st4 hQ4
  subst l4 y4 z4
  obtain ⟨rfl, Nq4, e4⟩ := hQ4
  have N4 := Fr.app N0 Nq4
  have ch5 : ∀ t, Steps p.tables e below (T4.setTop (mkF m 70 #[.val (.int p1), .val (.int p2), .val (.int p3), .val (.int (1 : Int32)), .val (.ref (ad 1)), .val (.int (1 : Int32)), .val (.int p2), .unset, .unset, .unset] [(.int (0 : Int32))])) t → Steps p.tables e below (s₁.setTop (entryFrame m #[(.int p1), (.int p2), (.int p3)] maxLocals)) t := fun t k => ch2 t (by
      show Steps p.tables e below (T1.setTop (mkF m 30 #[.val (.int p1), .val (.int p2), .val (.int p3), .val (.int (1 : Int32)), .unset, .unset, .unset, .unset, .unset, .unset] [(.ref (ad 1))])) t
      refine XS.astore X1.here hx rfl (hb hby at_30) rfl rfl (l' := #[.val (.int p1), .val (.int p2), .val (.int p3), .val (.int (1 : Int32)), .val (.ref (ad 1)), .unset, .unset, .unset, .unset, .unset]) rfl ?_
      show Steps p.tables e below (T1.setTop (mkF m 32 #[.val (.int p1), .val (.int p2), .val (.int p3), .val (.int (1 : Int32)), .val (.ref (ad 1)), .unset, .unset, .unset, .unset, .unset] [])) t
      refine XS.iconst X1.here hx rfl (hb hby at_32) ?_
      show Steps p.tables e below (T1.setTop (mkF m 33 #[.val (.int p1), .val (.int p2), .val (.int p3), .val (.int (1 : Int32)), .val (.ref (ad 1)), .unset, .unset, .unset, .unset, .unset] [(.int (1 : Int32))])) t
      refine XS.istore X1.here hx rfl (hb hby at_33) rfl (l' := #[.val (.int p1), .val (.int p2), .val (.int p3), .val (.int (1 : Int32)), .val (.ref (ad 1)), .val (.int (1 : Int32)), .unset, .unset, .unset, .unset]) rfl ?_
      show Steps p.tables e below (T1.setTop (mkF m 35 #[.val (.int p1), .val (.int p2), .val (.int p3), .val (.int (1 : Int32)), .val (.ref (ad 1)), .val (.int (1 : Int32)), .unset, .unset, .unset, .unset] [])) t
      refine XS.goto X1.here hx rfl (pc0 := 35) (pc' := 46) rfl (hb hby at_35) (by decide) (by decide) ?_
      show Steps p.tables e below (T1.setTop (mkF m 46 #[.val (.int p1), .val (.int p2), .val (.int p3), .val (.int (1 : Int32)), .val (.ref (ad 1)), .val (.int (1 : Int32)), .unset, .unset, .unset, .unset] [])) t
      refine XS.iloadN X1.here hx rfl (hb hby at_46) rfl ?_
      show Steps p.tables e below (T1.setTop (mkF m 47 #[.val (.int p1), .val (.int p2), .val (.int p3), .val (.int (1 : Int32)), .val (.ref (ad 1)), .val (.int (1 : Int32)), .unset, .unset, .unset, .unset] [(.int p3)])) t
      refine XS.iconst X1.here hx rfl (hb hby at_47) ?_
      show Steps p.tables e below (T1.setTop (mkF m 48 #[.val (.int p1), .val (.int p2), .val (.int p3), .val (.int (1 : Int32)), .val (.ref (ad 1)), .val (.int (1 : Int32)), .unset, .unset, .unset, .unset] [(.int (1 : Int32)), (.int p3)])) t
      refine XS.iand X1.here hx rfl (hb hby at_48) rfl ?_
      rw [hm]
      show Steps p.tables e below (T1.setTop (mkF m 49 #[.val (.int p1), .val (.int p2), .val (.int p3), .val (.int (1 : Int32)), .val (.ref (ad 1)), .val (.int (1 : Int32)), .unset, .unset, .unset, .unset] [(.int (1 : Int32))])) t
      refine XS.ifNo X1.here hx rfl (hb hby at_49) rfl ((if0 _ _).trans (feq (by decide : ¬ (1 : Int32) = (0 : Int32))).1) ?_
      show Steps p.tables e below (T1.setTop (mkF m 52 #[.val (.int p1), .val (.int p2), .val (.int p3), .val (.int (1 : Int32)), .val (.ref (ad 1)), .val (.int (1 : Int32)), .unset, .unset, .unset, .unset] [])) t
      refine XS.iloadN X1.here hx rfl (hb hby at_52) rfl ?_
      show Steps p.tables e below (T1.setTop (mkF m 53 #[.val (.int p1), .val (.int p2), .val (.int p3), .val (.int (1 : Int32)), .val (.ref (ad 1)), .val (.int (1 : Int32)), .unset, .unset, .unset, .unset] [(.int p2)])) t
      refine XS.goto X1.here hx rfl (pc0 := 53) (pc' := 61) rfl (hb hby at_53) (by decide) (by decide) ?_
      show Steps p.tables e below (T1.setTop (mkF m 61 #[.val (.int p1), .val (.int p2), .val (.int p3), .val (.int (1 : Int32)), .val (.ref (ad 1)), .val (.int (1 : Int32)), .unset, .unset, .unset, .unset] [(.int p2)])) t
      refine XS.istore X1.here hx rfl (hb hby at_61) rfl (l' := #[.val (.int p1), .val (.int p2), .val (.int p3), .val (.int (1 : Int32)), .val (.ref (ad 1)), .val (.int (1 : Int32)), .val (.int p2), .unset, .unset, .unset]) rfl ?_
      show Steps p.tables e below (T1.setTop (mkF m 63 #[.val (.int p1), .val (.int p2), .val (.int p3), .val (.int (1 : Int32)), .val (.ref (ad 1)), .val (.int (1 : Int32)), .val (.int p2), .unset, .unset, .unset] [])) t
      refine XS.aload X1.here hx rfl (hb hby at_63) rfl rfl ?_
      show Steps p.tables e below (T1.setTop (mkF m 65 #[.val (.int p1), .val (.int p2), .val (.int p3), .val (.int (1 : Int32)), .val (.ref (ad 1)), .val (.int (1 : Int32)), .val (.int p2), .unset, .unset, .unset] [(.ref (ad 1))])) t
      refine XS.iload X1.here hx rfl (hb hby at_65) rfl ?_
      show Steps p.tables e below (T1.setTop (mkF m 67 #[.val (.int p1), .val (.int p2), .val (.int p3), .val (.int (1 : Int32)), .val (.ref (ad 1)), .val (.int (1 : Int32)), .val (.int p2), .unset, .unset, .unset] [(.int p2), (.ref (ad 1))])) t
      exact st4.trans k)
  have ch6 : ∀ t, Steps p.tables e below (T4.setTop (mkF m 94 #[.val (.int p1), .val (.int p2), .val (.int p3), .val (.int (1 : Int32)), .val (.ref (ad 1)), .val (.int (1 : Int32)), .val (.int p2), .val (.int (0 : Int32)), .unset, .unset] [(.int (1 : Int32))])) t → Steps p.tables e below (s₁.setTop (entryFrame m #[(.int p1), (.int p2), (.int p3)] maxLocals)) t := fun t k => ch5 t (by
      show Steps p.tables e below (T4.setTop (mkF m 70 #[.val (.int p1), .val (.int p2), .val (.int p3), .val (.int (1 : Int32)), .val (.ref (ad 1)), .val (.int (1 : Int32)), .val (.int p2), .unset, .unset, .unset] [(.int (0 : Int32))])) t
      refine XS.istore X4.here hx rfl (hb hby at_70) rfl (l' := #[.val (.int p1), .val (.int p2), .val (.int p3), .val (.int (1 : Int32)), .val (.ref (ad 1)), .val (.int (1 : Int32)), .val (.int p2), .val (.int (0 : Int32)), .unset, .unset]) rfl ?_
      show Steps p.tables e below (T4.setTop (mkF m 72 #[.val (.int p1), .val (.int p2), .val (.int p3), .val (.int (1 : Int32)), .val (.ref (ad 1)), .val (.int (1 : Int32)), .val (.int p2), .val (.int (0 : Int32)), .unset, .unset] [])) t
      refine XS.iload X4.here hx rfl (hb hby at_72) rfl ?_
      show Steps p.tables e below (T4.setTop (mkF m 74 #[.val (.int p1), .val (.int p2), .val (.int p3), .val (.int (1 : Int32)), .val (.ref (ad 1)), .val (.int (1 : Int32)), .val (.int p2), .val (.int (0 : Int32)), .unset, .unset] [(.int p2)])) t
      refine XS.ifYes X4.here hx rfl (pc0 := 74) (pc' := 84) rfl (hb hby at_74) rfl ((if0 _ _).trans (tlt h1).1) (by decide) (by decide) ?_
      show Steps p.tables e below (T4.setTop (mkF m 84 #[.val (.int p1), .val (.int p2), .val (.int p3), .val (.int (1 : Int32)), .val (.ref (ad 1)), .val (.int (1 : Int32)), .val (.int p2), .val (.int (0 : Int32)), .unset, .unset] [])) t
      refine XS.iload X4.here hx rfl (hb hby at_84) rfl ?_
      show Steps p.tables e below (T4.setTop (mkF m 86 #[.val (.int p1), .val (.int p2), .val (.int p3), .val (.int (1 : Int32)), .val (.ref (ad 1)), .val (.int (1 : Int32)), .val (.int p2), .val (.int (0 : Int32)), .unset, .unset] [(.int (0 : Int32))])) t
      refine XS.ifNo X4.here hx rfl (hb hby at_86) rfl ((if0 _ _).trans (teq (by decide : (0 : Int32) = (0 : Int32))).2) ?_
      show Steps p.tables e below (T4.setTop (mkF m 89 #[.val (.int p1), .val (.int p2), .val (.int p3), .val (.int (1 : Int32)), .val (.ref (ad 1)), .val (.int (1 : Int32)), .val (.int p2), .val (.int (0 : Int32)), .unset, .unset] [])) t
      refine XS.iconst X4.here hx rfl (hb hby at_89) ?_
      show Steps p.tables e below (T4.setTop (mkF m 90 #[.val (.int p1), .val (.int p2), .val (.int p3), .val (.int (1 : Int32)), .val (.ref (ad 1)), .val (.int (1 : Int32)), .val (.int p2), .val (.int (0 : Int32)), .unset, .unset] [(.int (1 : Int32))])) t
      refine XS.goto X4.here hx rfl (pc0 := 90) (pc' := 94) rfl (hb hby at_90) (by decide) (by decide) ?_
      exact k)
  obtain ⟨fs, hr, hrun, hended, hW, hsame⟩ := X4.leave (v := some (.int (1 : Int32))) (fun h => by rw [Bd.returns] at h; cases h)
  refine ⟨_, _, ch6 _ ?_, hrun, hended, _, _, rfl, ?_, ⟨_, rfl⟩, hW, hsame.mono (by decide) (by decide)⟩
  · show Steps p.tables e below (T4.setTop (mkF m 94 #[.val (.int p1), .val (.int p2), .val (.int p3), .val (.int (1 : Int32)), .val (.ref (ad 1)), .val (.int (1 : Int32)), .val (.int p2), .val (.int (0 : Int32)), .unset, .unset] [(.int (1 : Int32))])) _
    exact retN X4 hx (t := .boolean) Bd.returns (by simp) (hb hby at_94) hr
  · show QN (some (.int (1 : Int32))) n0 _ T4.heap _
    rw [e4]
    exact ⟨rfl, N4⟩
theorem own_ef_own_law_11g (m : MethodId) {x0 : Int32} {x1 : Int32} {x2 : Int32} : entryFrame m #[(.int x0), (.int x1), (.int x2)] maxLocals = mkF m 0 #[.val (.int x0), .val (.int x1), .val (.int x2), .unset, .unset, .unset, .unset, .unset, .unset, .unset] [] := by first | (simp [entryFrame, mkF, argsToLocals, Value.category, maxLocals]; done) | rfl
set_option maxRecDepth 65536 in
set_option maxHeartbeats 40000000 in
theorem own_law_11g (l : Launch) (Z : State) (a0 : Array Value) (hw : ∀ d ∈ tables_1, d.before a0 Z = true) (ws : List Jvm.Cond) (h0 : Heap) (n0 : Nat) (Z0 : n0 ≤ h0.size) (p1 p2 p3 : Int32) (hk : (p1 &&& (2147483647 : Int32)) % (3 : Int32) = (1 : Int32)) (hm : p3 &&& (1 : Int32) = (1 : Int32)) (h1 : ¬ p2 < (0 : Int32)) (h2 : (99 : Int32) < p2) (ad : Nat → Addr) (W : OwnWd Z h0 ad) :
    MetFree l x (head1 (Jvm.Cond.code x code maxLocals ret :: ws) room_1) (fun a U => a = #[(.int p1), (.int p2), (.int p3)] ∧ Z.Warmed39 U.vm ∧ U.heap = h0) (fun _ _ _ _ _ => True) (fun _ U o U' => ∃ v L, o = .returned v ∧ QN (some (.int (1 : Int32))) n0 v U'.heap L ∧ FrameEnd U o U' L room_1.cells room_1.slots) := by
  refine MetFree.of_bodySF (plainFor_of_name own_pn_com_example_isolint_isolint_bench_ChangeAddedToEachValuePinLaw) hisR ?_
  intro p e s m args below meth c s₁ Bd hml0 hP hK
  obtain ⟨rfl, hZ, hh⟩ := hP
  have hx := Bd.exec
  have hby := Bd.bytes
  have hml : c.maxLocals = 10 := hml0
  have hown : s.vm.findClass "com/example/isolint/isolint/bench/ChangeAddedToEachValuePinLaw" = some m.cls := findClass_of_methodNamed Bd.named
  have hnm := (name_of_methodNamed Bd.named Bd.method).1
  have X0 : Stand p l e room_1 s m #[(.int p1), (.int p2), (.int p3)] below meth c s₁ [] 0 0 := Stand.of_body Bd
  have e0 : s₁.heap = h0 := by rw [← hh, Bd.state]; rfl
  have N0 := Fr.nil n0
  have pre0 : ∀ t, Steps p.tables e below (s₁.setTop (mkF m 0 #[.val (.int p1), .val (.int p2), .val (.int p3), .unset, .unset, .unset, .unset, .unset, .unset, .unset] [])) t → Steps p.tables e below (s₁.setTop (entryFrame m #[(.int p1), (.int p2), (.int p3)] maxLocals)) t := fun t k => castTop (own_ef_own_law_11g m) k
  obtain ⟨T1, X1, e1, st1⟩ := getS2 X0 hx hZ hown (host := "") (Or.inl (hw _ (List.mem_of_getElem? (i := 14) rfl))) Via.refl e0 (own_S_CHANGE_B W) (g := (mkF m 27 #[.val (.int p1), .val (.int p2), .val (.int p3), .val (.int (1 : Int32)), .unset, .unset, .unset, .unset, .unset, .unset] [])) rfl (hb hby at_27)
  have ch2 : ∀ t, Steps p.tables e below (T1.setTop (mkF m 30 #[.val (.int p1), .val (.int p2), .val (.int p3), .val (.int (1 : Int32)), .unset, .unset, .unset, .unset, .unset, .unset] [(.ref (ad 1))])) t → Steps p.tables e below (s₁.setTop (entryFrame m #[(.int p1), (.int p2), (.int p3)] maxLocals)) t := fun t k => pre0 t (by
      show Steps p.tables e below (s₁.setTop (mkF m 0 #[.val (.int p1), .val (.int p2), .val (.int p3), .unset, .unset, .unset, .unset, .unset, .unset, .unset] [])) t
      refine XS.iloadN X0.here hx rfl (hb hby at_0) rfl ?_
      show Steps p.tables e below (s₁.setTop (mkF m 1 #[.val (.int p1), .val (.int p2), .val (.int p3), .unset, .unset, .unset, .unset, .unset, .unset, .unset] [(.int p1)])) t
      refine X0.ldcInt hx hown (mvT hZ (hw _ (List.mem_of_getElem? (i := 0) rfl))) (g := (mkF m 1 #[.val (.int p1), .val (.int p2), .val (.int p3), .unset, .unset, .unset, .unset, .unset, .unset, .unset] [(.int p1)])) rfl (hb hby at_1) _ ?_
      show Steps p.tables e below (s₁.setTop (mkF m 3 #[.val (.int p1), .val (.int p2), .val (.int p3), .unset, .unset, .unset, .unset, .unset, .unset, .unset] [(.int (2147483647 : Int32)), (.int p1)])) t
      refine XS.iand X0.here hx rfl (hb hby at_3) rfl ?_
      show Steps p.tables e below (s₁.setTop (mkF m 4 #[.val (.int p1), .val (.int p2), .val (.int p3), .unset, .unset, .unset, .unset, .unset, .unset, .unset] [(.int (p1 &&& (2147483647 : Int32)))])) t
      refine XS.iconst X0.here hx rfl (hb hby at_4) ?_
      show Steps p.tables e below (s₁.setTop (mkF m 5 #[.val (.int p1), .val (.int p2), .val (.int p3), .unset, .unset, .unset, .unset, .unset, .unset, .unset] [(.int (3 : Int32)), (.int (p1 &&& (2147483647 : Int32)))])) t
      refine Jvm.RoadKit.iremM (g := (mkF m 5 #[.val (.int p1), .val (.int p2), .val (.int p3), .unset, .unset, .unset, .unset, .unset, .unset, .unset] [(.int (3 : Int32)), (.int (p1 &&& (2147483647 : Int32)))])) X0 hx rfl (hb hby at_5) rfl (by decide) ?_
      rw [hk]
      show Steps p.tables e below (s₁.setTop (mkF m 6 #[.val (.int p1), .val (.int p2), .val (.int p3), .unset, .unset, .unset, .unset, .unset, .unset, .unset] [(.int (1 : Int32))])) t
      refine XS.istoreN X0.here hx rfl (hb hby at_6) rfl (l' := #[.val (.int p1), .val (.int p2), .val (.int p3), .val (.int (1 : Int32)), .unset, .unset, .unset, .unset, .unset, .unset]) rfl ?_
      show Steps p.tables e below (s₁.setTop (mkF m 7 #[.val (.int p1), .val (.int p2), .val (.int p3), .val (.int (1 : Int32)), .unset, .unset, .unset, .unset, .unset, .unset] [])) t
      refine XS.iloadN X0.here hx rfl (hb hby at_7) rfl ?_
      show Steps p.tables e below (s₁.setTop (mkF m 8 #[.val (.int p1), .val (.int p2), .val (.int p3), .val (.int (1 : Int32)), .unset, .unset, .unset, .unset, .unset, .unset] [(.int (1 : Int32))])) t
      refine XS.ifYes X0.here hx rfl (pc0 := 8) (pc' := 22) rfl (hb hby at_8) rfl ((if0 _ _).trans (feq (by decide : ¬ (1 : Int32) = (0 : Int32))).2) (by decide) (by decide) ?_
      show Steps p.tables e below (s₁.setTop (mkF m 22 #[.val (.int p1), .val (.int p2), .val (.int p3), .val (.int (1 : Int32)), .unset, .unset, .unset, .unset, .unset, .unset] [])) t
      refine XS.iloadN X0.here hx rfl (hb hby at_22) rfl ?_
      show Steps p.tables e below (s₁.setTop (mkF m 23 #[.val (.int p1), .val (.int p2), .val (.int p3), .val (.int (1 : Int32)), .unset, .unset, .unset, .unset, .unset, .unset] [(.int (1 : Int32))])) t
      refine XS.iconst X0.here hx rfl (hb hby at_23) ?_
      show Steps p.tables e below (s₁.setTop (mkF m 24 #[.val (.int p1), .val (.int p2), .val (.int p3), .val (.int (1 : Int32)), .unset, .unset, .unset, .unset, .unset, .unset] [(.int (1 : Int32)), (.int (1 : Int32))])) t
      refine XS.icmpNo X0.here hx rfl (hb hby at_24) rfl (teq (by decide : (1 : Int32) = (1 : Int32))).2 ?_
      show Steps p.tables e below (s₁.setTop (mkF m 27 #[.val (.int p1), .val (.int p2), .val (.int p3), .val (.int (1 : Int32)), .unset, .unset, .unset, .unset, .unset, .unset] [])) t
      exact st1 t k)
  obtain ⟨cq3, kq3, qa3, qb3, qc3⟩ := isOf hZ e1 (own_E_CHANGE_B W)
  obtain ⟨vv4, _, ⟨T4, L4, kk4, nn4⟩, -, X4, ⟨Lc4, hQ4, l4, y4, z4⟩, st4⟩ := X1.virtualBack hx (y := (⟨"com/example/isolint/isolint/bench/Change", "addedToEachValue", "(I)I"⟩ : MethodName)) (z := (⟨"com/example/isolint/isolint/bench/Change", "addedToEachValue", "(I)I"⟩ : MethodName)) hown (mvT hZ (hw _ (List.mem_of_getElem? (i := 4) rfl))) (mvT hZ (hw _ (List.mem_of_getElem? (i := 5) rfl))) (notFace_of_selects (args := #[]) (mvT hZ (hw _ (List.mem_of_getElem? (i := 7) rfl)))) (mvT hZ (hw _ (List.mem_of_getElem? (i := 7) rfl))) (mvT hZ (hw _ (List.mem_of_getElem? (i := 6) rfl))) (by decide) (backOf (W := 0) (own_add_1g l Z a0 hw [] h0 n0 Z0  p2 h1 h2 ad W) hZ (hw _ (List.mem_of_getElem? (i := 8) rfl)) (hw _ (List.mem_of_getElem? (i := 2) rfl)) (by decide) (by decide)) qa3 qc3 (g := (mkF m 67 #[.val (.int p1), .val (.int p2), .val (.int p3), .val (.int (1 : Int32)), .val (.ref (ad 1)), .val (.int (1 : Int32)), .val (.int p2), .unset, .unset, .unset] [(.int p2), (.ref (ad 1))])) rfl (by rw [hml]; rfl) (Steps.refl _) (argsL := [(.int p2)]) (rest := []) (lenOf own_pd__I_I rfl) rfl (by show 2 * 0 + _ ≤ _; exact Nat.le_of_eq rfl) (hb hby at_67) (fun _ _ => ⟨rfl, e1, (by decide : 0 + 0 ≤ _), (by decide : 0 + 0 ≤ _)⟩)
  dsimp only [Pt.U, Pt.locs, Pt.cells, Pt.slots] at X4 l4 y4 z4 st4 hQ4
  subst l4 y4 z4
  obtain ⟨rfl, Nq4, e4⟩ := hQ4
  have N4 := Fr.app N0 Nq4
  have ch5 : ∀ t, Steps p.tables e below (T4.setTop (mkF m 70 #[.val (.int p1), .val (.int p2), .val (.int p3), .val (.int (1 : Int32)), .val (.ref (ad 1)), .val (.int (1 : Int32)), .val (.int p2), .unset, .unset, .unset] [(.int (0 : Int32))])) t → Steps p.tables e below (s₁.setTop (entryFrame m #[(.int p1), (.int p2), (.int p3)] maxLocals)) t := fun t k => ch2 t (by
      show Steps p.tables e below (T1.setTop (mkF m 30 #[.val (.int p1), .val (.int p2), .val (.int p3), .val (.int (1 : Int32)), .unset, .unset, .unset, .unset, .unset, .unset] [(.ref (ad 1))])) t
      refine XS.astore X1.here hx rfl (hb hby at_30) rfl rfl (l' := #[.val (.int p1), .val (.int p2), .val (.int p3), .val (.int (1 : Int32)), .val (.ref (ad 1)), .unset, .unset, .unset, .unset, .unset]) rfl ?_
      show Steps p.tables e below (T1.setTop (mkF m 32 #[.val (.int p1), .val (.int p2), .val (.int p3), .val (.int (1 : Int32)), .val (.ref (ad 1)), .unset, .unset, .unset, .unset, .unset] [])) t
      refine XS.iconst X1.here hx rfl (hb hby at_32) ?_
      show Steps p.tables e below (T1.setTop (mkF m 33 #[.val (.int p1), .val (.int p2), .val (.int p3), .val (.int (1 : Int32)), .val (.ref (ad 1)), .unset, .unset, .unset, .unset, .unset] [(.int (1 : Int32))])) t
      refine XS.istore X1.here hx rfl (hb hby at_33) rfl (l' := #[.val (.int p1), .val (.int p2), .val (.int p3), .val (.int (1 : Int32)), .val (.ref (ad 1)), .val (.int (1 : Int32)), .unset, .unset, .unset, .unset]) rfl ?_
      show Steps p.tables e below (T1.setTop (mkF m 35 #[.val (.int p1), .val (.int p2), .val (.int p3), .val (.int (1 : Int32)), .val (.ref (ad 1)), .val (.int (1 : Int32)), .unset, .unset, .unset, .unset] [])) t
      refine XS.goto X1.here hx rfl (pc0 := 35) (pc' := 46) rfl (hb hby at_35) (by decide) (by decide) ?_
      show Steps p.tables e below (T1.setTop (mkF m 46 #[.val (.int p1), .val (.int p2), .val (.int p3), .val (.int (1 : Int32)), .val (.ref (ad 1)), .val (.int (1 : Int32)), .unset, .unset, .unset, .unset] [])) t
      refine XS.iloadN X1.here hx rfl (hb hby at_46) rfl ?_
      show Steps p.tables e below (T1.setTop (mkF m 47 #[.val (.int p1), .val (.int p2), .val (.int p3), .val (.int (1 : Int32)), .val (.ref (ad 1)), .val (.int (1 : Int32)), .unset, .unset, .unset, .unset] [(.int p3)])) t
      refine XS.iconst X1.here hx rfl (hb hby at_47) ?_
      show Steps p.tables e below (T1.setTop (mkF m 48 #[.val (.int p1), .val (.int p2), .val (.int p3), .val (.int (1 : Int32)), .val (.ref (ad 1)), .val (.int (1 : Int32)), .unset, .unset, .unset, .unset] [(.int (1 : Int32)), (.int p3)])) t
      refine XS.iand X1.here hx rfl (hb hby at_48) rfl ?_
      rw [hm]
      show Steps p.tables e below (T1.setTop (mkF m 49 #[.val (.int p1), .val (.int p2), .val (.int p3), .val (.int (1 : Int32)), .val (.ref (ad 1)), .val (.int (1 : Int32)), .unset, .unset, .unset, .unset] [(.int (1 : Int32))])) t
      refine XS.ifNo X1.here hx rfl (hb hby at_49) rfl ((if0 _ _).trans (feq (by decide : ¬ (1 : Int32) = (0 : Int32))).1) ?_
      show Steps p.tables e below (T1.setTop (mkF m 52 #[.val (.int p1), .val (.int p2), .val (.int p3), .val (.int (1 : Int32)), .val (.ref (ad 1)), .val (.int (1 : Int32)), .unset, .unset, .unset, .unset] [])) t
      refine XS.iloadN X1.here hx rfl (hb hby at_52) rfl ?_
      show Steps p.tables e below (T1.setTop (mkF m 53 #[.val (.int p1), .val (.int p2), .val (.int p3), .val (.int (1 : Int32)), .val (.ref (ad 1)), .val (.int (1 : Int32)), .unset, .unset, .unset, .unset] [(.int p2)])) t
      refine XS.goto X1.here hx rfl (pc0 := 53) (pc' := 61) rfl (hb hby at_53) (by decide) (by decide) ?_
      show Steps p.tables e below (T1.setTop (mkF m 61 #[.val (.int p1), .val (.int p2), .val (.int p3), .val (.int (1 : Int32)), .val (.ref (ad 1)), .val (.int (1 : Int32)), .unset, .unset, .unset, .unset] [(.int p2)])) t
      refine XS.istore X1.here hx rfl (hb hby at_61) rfl (l' := #[.val (.int p1), .val (.int p2), .val (.int p3), .val (.int (1 : Int32)), .val (.ref (ad 1)), .val (.int (1 : Int32)), .val (.int p2), .unset, .unset, .unset]) rfl ?_
      show Steps p.tables e below (T1.setTop (mkF m 63 #[.val (.int p1), .val (.int p2), .val (.int p3), .val (.int (1 : Int32)), .val (.ref (ad 1)), .val (.int (1 : Int32)), .val (.int p2), .unset, .unset, .unset] [])) t
      refine XS.aload X1.here hx rfl (hb hby at_63) rfl rfl ?_
      show Steps p.tables e below (T1.setTop (mkF m 65 #[.val (.int p1), .val (.int p2), .val (.int p3), .val (.int (1 : Int32)), .val (.ref (ad 1)), .val (.int (1 : Int32)), .val (.int p2), .unset, .unset, .unset] [(.ref (ad 1))])) t
      refine XS.iload X1.here hx rfl (hb hby at_65) rfl ?_
      show Steps p.tables e below (T1.setTop (mkF m 67 #[.val (.int p1), .val (.int p2), .val (.int p3), .val (.int (1 : Int32)), .val (.ref (ad 1)), .val (.int (1 : Int32)), .val (.int p2), .unset, .unset, .unset] [(.int p2), (.ref (ad 1))])) t
      exact st4.trans k)
  have ch6 : ∀ t, Steps p.tables e below (T4.setTop (mkF m 94 #[.val (.int p1), .val (.int p2), .val (.int p3), .val (.int (1 : Int32)), .val (.ref (ad 1)), .val (.int (1 : Int32)), .val (.int p2), .val (.int (0 : Int32)), .unset, .unset] [(.int (1 : Int32))])) t → Steps p.tables e below (s₁.setTop (entryFrame m #[(.int p1), (.int p2), (.int p3)] maxLocals)) t := fun t k => ch5 t (by
      show Steps p.tables e below (T4.setTop (mkF m 70 #[.val (.int p1), .val (.int p2), .val (.int p3), .val (.int (1 : Int32)), .val (.ref (ad 1)), .val (.int (1 : Int32)), .val (.int p2), .unset, .unset, .unset] [(.int (0 : Int32))])) t
      refine XS.istore X4.here hx rfl (hb hby at_70) rfl (l' := #[.val (.int p1), .val (.int p2), .val (.int p3), .val (.int (1 : Int32)), .val (.ref (ad 1)), .val (.int (1 : Int32)), .val (.int p2), .val (.int (0 : Int32)), .unset, .unset]) rfl ?_
      show Steps p.tables e below (T4.setTop (mkF m 72 #[.val (.int p1), .val (.int p2), .val (.int p3), .val (.int (1 : Int32)), .val (.ref (ad 1)), .val (.int (1 : Int32)), .val (.int p2), .val (.int (0 : Int32)), .unset, .unset] [])) t
      refine XS.iload X4.here hx rfl (hb hby at_72) rfl ?_
      show Steps p.tables e below (T4.setTop (mkF m 74 #[.val (.int p1), .val (.int p2), .val (.int p3), .val (.int (1 : Int32)), .val (.ref (ad 1)), .val (.int (1 : Int32)), .val (.int p2), .val (.int (0 : Int32)), .unset, .unset] [(.int p2)])) t
      refine XS.ifNo X4.here hx rfl (hb hby at_74) rfl ((if0 _ _).trans (flt h1).1) ?_
      show Steps p.tables e below (T4.setTop (mkF m 77 #[.val (.int p1), .val (.int p2), .val (.int p3), .val (.int (1 : Int32)), .val (.ref (ad 1)), .val (.int (1 : Int32)), .val (.int p2), .val (.int (0 : Int32)), .unset, .unset] [])) t
      refine XS.iload X4.here hx rfl (hb hby at_77) rfl ?_
      show Steps p.tables e below (T4.setTop (mkF m 79 #[.val (.int p1), .val (.int p2), .val (.int p3), .val (.int (1 : Int32)), .val (.ref (ad 1)), .val (.int (1 : Int32)), .val (.int p2), .val (.int (0 : Int32)), .unset, .unset] [(.int p2)])) t
      refine XS.bipush X4.here hx rfl (hb hby at_79) ?_
      show Steps p.tables e below (T4.setTop (mkF m 81 #[.val (.int p1), .val (.int p2), .val (.int p3), .val (.int (1 : Int32)), .val (.ref (ad 1)), .val (.int (1 : Int32)), .val (.int p2), .val (.int (0 : Int32)), .unset, .unset] [(.int (99 : Int32)), (.int p2)])) t
      refine XS.icmpNo X4.here hx rfl (hb hby at_81) rfl (tlt h2).2.2.2 ?_
      show Steps p.tables e below (T4.setTop (mkF m 84 #[.val (.int p1), .val (.int p2), .val (.int p3), .val (.int (1 : Int32)), .val (.ref (ad 1)), .val (.int (1 : Int32)), .val (.int p2), .val (.int (0 : Int32)), .unset, .unset] [])) t
      refine XS.iload X4.here hx rfl (hb hby at_84) rfl ?_
      show Steps p.tables e below (T4.setTop (mkF m 86 #[.val (.int p1), .val (.int p2), .val (.int p3), .val (.int (1 : Int32)), .val (.ref (ad 1)), .val (.int (1 : Int32)), .val (.int p2), .val (.int (0 : Int32)), .unset, .unset] [(.int (0 : Int32))])) t
      refine XS.ifNo X4.here hx rfl (hb hby at_86) rfl ((if0 _ _).trans (teq (by decide : (0 : Int32) = (0 : Int32))).2) ?_
      show Steps p.tables e below (T4.setTop (mkF m 89 #[.val (.int p1), .val (.int p2), .val (.int p3), .val (.int (1 : Int32)), .val (.ref (ad 1)), .val (.int (1 : Int32)), .val (.int p2), .val (.int (0 : Int32)), .unset, .unset] [])) t
      refine XS.iconst X4.here hx rfl (hb hby at_89) ?_
      show Steps p.tables e below (T4.setTop (mkF m 90 #[.val (.int p1), .val (.int p2), .val (.int p3), .val (.int (1 : Int32)), .val (.ref (ad 1)), .val (.int (1 : Int32)), .val (.int p2), .val (.int (0 : Int32)), .unset, .unset] [(.int (1 : Int32))])) t
      refine XS.goto X4.here hx rfl (pc0 := 90) (pc' := 94) rfl (hb hby at_90) (by decide) (by decide) ?_
      exact k)
  obtain ⟨fs, hr, hrun, hended, hW, hsame⟩ := X4.leave (v := some (.int (1 : Int32))) (fun h => by rw [Bd.returns] at h; cases h)
  refine ⟨_, _, ch6 _ ?_, hrun, hended, _, _, rfl, ?_, ⟨_, rfl⟩, hW, hsame.mono (by decide) (by decide)⟩
  · show Steps p.tables e below (T4.setTop (mkF m 94 #[.val (.int p1), .val (.int p2), .val (.int p3), .val (.int (1 : Int32)), .val (.ref (ad 1)), .val (.int (1 : Int32)), .val (.int p2), .val (.int (0 : Int32)), .unset, .unset] [(.int (1 : Int32))])) _
    exact retN X4 hx (t := .boolean) Bd.returns (by simp) (hb hby at_94) hr
  · show QN (some (.int (1 : Int32))) n0 _ T4.heap _
    rw [e4]
    exact ⟨rfl, N4⟩
theorem own_ef_own_law_11l (m : MethodId) {x0 : Int32} {x1 : Int32} {x2 : Int32} : entryFrame m #[(.int x0), (.int x1), (.int x2)] maxLocals = mkF m 0 #[.val (.int x0), .val (.int x1), .val (.int x2), .unset, .unset, .unset, .unset, .unset, .unset, .unset] [] := by first | (simp [entryFrame, mkF, argsToLocals, Value.category, maxLocals]; done) | rfl
set_option maxRecDepth 65536 in
set_option maxHeartbeats 40000000 in
theorem own_law_11l (l : Launch) (Z : State) (a0 : Array Value) (hw : ∀ d ∈ tables_1, d.before a0 Z = true) (ws : List Jvm.Cond) (h0 : Heap) (n0 : Nat) (Z0 : n0 ≤ h0.size) (p1 p2 p3 : Int32) (hk : (p1 &&& (2147483647 : Int32)) % (3 : Int32) = (1 : Int32)) (hm : p3 &&& (1 : Int32) = (1 : Int32)) (h1 : ¬ p2 < (0 : Int32)) (h2 : ¬ (99 : Int32) < p2) (h3 : p2 < (50 : Int32)) (ad : Nat → Addr) (W : OwnWd Z h0 ad) :
    MetFree l x (head1 (Jvm.Cond.code x code maxLocals ret :: ws) room_1) (fun a U => a = #[(.int p1), (.int p2), (.int p3)] ∧ Z.Warmed39 U.vm ∧ U.heap = h0) (fun _ _ _ _ _ => True) (fun _ U o U' => ∃ v L, o = .returned v ∧ QN (some (.int (1 : Int32))) n0 v U'.heap L ∧ FrameEnd U o U' L room_1.cells room_1.slots) := by
  refine MetFree.of_bodySF (plainFor_of_name own_pn_com_example_isolint_isolint_bench_ChangeAddedToEachValuePinLaw) hisR ?_
  intro p e s m args below meth c s₁ Bd hml0 hP hK
  obtain ⟨rfl, hZ, hh⟩ := hP
  have hx := Bd.exec
  have hby := Bd.bytes
  have hml : c.maxLocals = 10 := hml0
  have hown : s.vm.findClass "com/example/isolint/isolint/bench/ChangeAddedToEachValuePinLaw" = some m.cls := findClass_of_methodNamed Bd.named
  have hnm := (name_of_methodNamed Bd.named Bd.method).1
  have X0 : Stand p l e room_1 s m #[(.int p1), (.int p2), (.int p3)] below meth c s₁ [] 0 0 := Stand.of_body Bd
  have e0 : s₁.heap = h0 := by rw [← hh, Bd.state]; rfl
  have N0 := Fr.nil n0
  have pre0 : ∀ t, Steps p.tables e below (s₁.setTop (mkF m 0 #[.val (.int p1), .val (.int p2), .val (.int p3), .unset, .unset, .unset, .unset, .unset, .unset, .unset] [])) t → Steps p.tables e below (s₁.setTop (entryFrame m #[(.int p1), (.int p2), (.int p3)] maxLocals)) t := fun t k => castTop (own_ef_own_law_11l m) k
  obtain ⟨T1, X1, e1, st1⟩ := getS2 X0 hx hZ hown (host := "") (Or.inl (hw _ (List.mem_of_getElem? (i := 14) rfl))) Via.refl e0 (own_S_CHANGE_B W) (g := (mkF m 27 #[.val (.int p1), .val (.int p2), .val (.int p3), .val (.int (1 : Int32)), .unset, .unset, .unset, .unset, .unset, .unset] [])) rfl (hb hby at_27)
  have ch2 : ∀ t, Steps p.tables e below (T1.setTop (mkF m 30 #[.val (.int p1), .val (.int p2), .val (.int p3), .val (.int (1 : Int32)), .unset, .unset, .unset, .unset, .unset, .unset] [(.ref (ad 1))])) t → Steps p.tables e below (s₁.setTop (entryFrame m #[(.int p1), (.int p2), (.int p3)] maxLocals)) t := fun t k => pre0 t (by
      show Steps p.tables e below (s₁.setTop (mkF m 0 #[.val (.int p1), .val (.int p2), .val (.int p3), .unset, .unset, .unset, .unset, .unset, .unset, .unset] [])) t
      refine XS.iloadN X0.here hx rfl (hb hby at_0) rfl ?_
      show Steps p.tables e below (s₁.setTop (mkF m 1 #[.val (.int p1), .val (.int p2), .val (.int p3), .unset, .unset, .unset, .unset, .unset, .unset, .unset] [(.int p1)])) t
      refine X0.ldcInt hx hown (mvT hZ (hw _ (List.mem_of_getElem? (i := 0) rfl))) (g := (mkF m 1 #[.val (.int p1), .val (.int p2), .val (.int p3), .unset, .unset, .unset, .unset, .unset, .unset, .unset] [(.int p1)])) rfl (hb hby at_1) _ ?_
      show Steps p.tables e below (s₁.setTop (mkF m 3 #[.val (.int p1), .val (.int p2), .val (.int p3), .unset, .unset, .unset, .unset, .unset, .unset, .unset] [(.int (2147483647 : Int32)), (.int p1)])) t
      refine XS.iand X0.here hx rfl (hb hby at_3) rfl ?_
      show Steps p.tables e below (s₁.setTop (mkF m 4 #[.val (.int p1), .val (.int p2), .val (.int p3), .unset, .unset, .unset, .unset, .unset, .unset, .unset] [(.int (p1 &&& (2147483647 : Int32)))])) t
      refine XS.iconst X0.here hx rfl (hb hby at_4) ?_
      show Steps p.tables e below (s₁.setTop (mkF m 5 #[.val (.int p1), .val (.int p2), .val (.int p3), .unset, .unset, .unset, .unset, .unset, .unset, .unset] [(.int (3 : Int32)), (.int (p1 &&& (2147483647 : Int32)))])) t
      refine Jvm.RoadKit.iremM (g := (mkF m 5 #[.val (.int p1), .val (.int p2), .val (.int p3), .unset, .unset, .unset, .unset, .unset, .unset, .unset] [(.int (3 : Int32)), (.int (p1 &&& (2147483647 : Int32)))])) X0 hx rfl (hb hby at_5) rfl (by decide) ?_
      rw [hk]
      show Steps p.tables e below (s₁.setTop (mkF m 6 #[.val (.int p1), .val (.int p2), .val (.int p3), .unset, .unset, .unset, .unset, .unset, .unset, .unset] [(.int (1 : Int32))])) t
      refine XS.istoreN X0.here hx rfl (hb hby at_6) rfl (l' := #[.val (.int p1), .val (.int p2), .val (.int p3), .val (.int (1 : Int32)), .unset, .unset, .unset, .unset, .unset, .unset]) rfl ?_
      show Steps p.tables e below (s₁.setTop (mkF m 7 #[.val (.int p1), .val (.int p2), .val (.int p3), .val (.int (1 : Int32)), .unset, .unset, .unset, .unset, .unset, .unset] [])) t
      refine XS.iloadN X0.here hx rfl (hb hby at_7) rfl ?_
      show Steps p.tables e below (s₁.setTop (mkF m 8 #[.val (.int p1), .val (.int p2), .val (.int p3), .val (.int (1 : Int32)), .unset, .unset, .unset, .unset, .unset, .unset] [(.int (1 : Int32))])) t
      refine XS.ifYes X0.here hx rfl (pc0 := 8) (pc' := 22) rfl (hb hby at_8) rfl ((if0 _ _).trans (feq (by decide : ¬ (1 : Int32) = (0 : Int32))).2) (by decide) (by decide) ?_
      show Steps p.tables e below (s₁.setTop (mkF m 22 #[.val (.int p1), .val (.int p2), .val (.int p3), .val (.int (1 : Int32)), .unset, .unset, .unset, .unset, .unset, .unset] [])) t
      refine XS.iloadN X0.here hx rfl (hb hby at_22) rfl ?_
      show Steps p.tables e below (s₁.setTop (mkF m 23 #[.val (.int p1), .val (.int p2), .val (.int p3), .val (.int (1 : Int32)), .unset, .unset, .unset, .unset, .unset, .unset] [(.int (1 : Int32))])) t
      refine XS.iconst X0.here hx rfl (hb hby at_23) ?_
      show Steps p.tables e below (s₁.setTop (mkF m 24 #[.val (.int p1), .val (.int p2), .val (.int p3), .val (.int (1 : Int32)), .unset, .unset, .unset, .unset, .unset, .unset] [(.int (1 : Int32)), (.int (1 : Int32))])) t
      refine XS.icmpNo X0.here hx rfl (hb hby at_24) rfl (teq (by decide : (1 : Int32) = (1 : Int32))).2 ?_
      show Steps p.tables e below (s₁.setTop (mkF m 27 #[.val (.int p1), .val (.int p2), .val (.int p3), .val (.int (1 : Int32)), .unset, .unset, .unset, .unset, .unset, .unset] [])) t
      exact st1 t k)
  obtain ⟨cq3, kq3, qa3, qb3, qc3⟩ := isOf hZ e1 (own_E_CHANGE_B W)
  obtain ⟨vv4, _, ⟨T4, L4, kk4, nn4⟩, -, X4, ⟨Lc4, hQ4, l4, y4, z4⟩, st4⟩ := X1.virtualBack hx (y := (⟨"com/example/isolint/isolint/bench/Change", "addedToEachValue", "(I)I"⟩ : MethodName)) (z := (⟨"com/example/isolint/isolint/bench/Change", "addedToEachValue", "(I)I"⟩ : MethodName)) hown (mvT hZ (hw _ (List.mem_of_getElem? (i := 4) rfl))) (mvT hZ (hw _ (List.mem_of_getElem? (i := 5) rfl))) (notFace_of_selects (args := #[]) (mvT hZ (hw _ (List.mem_of_getElem? (i := 7) rfl)))) (mvT hZ (hw _ (List.mem_of_getElem? (i := 7) rfl))) (mvT hZ (hw _ (List.mem_of_getElem? (i := 6) rfl))) (by decide) (backOf (W := 0) (own_add_1l l Z a0 hw [] h0 n0 Z0  p2 h1 h2 h3 ad W) hZ (hw _ (List.mem_of_getElem? (i := 8) rfl)) (hw _ (List.mem_of_getElem? (i := 2) rfl)) (by decide) (by decide)) qa3 qc3 (g := (mkF m 67 #[.val (.int p1), .val (.int p2), .val (.int p3), .val (.int (1 : Int32)), .val (.ref (ad 1)), .val (.int (1 : Int32)), .val (.int p2), .unset, .unset, .unset] [(.int p2), (.ref (ad 1))])) rfl (by rw [hml]; rfl) (Steps.refl _) (argsL := [(.int p2)]) (rest := []) (lenOf own_pd__I_I rfl) rfl (by show 2 * 0 + _ ≤ _; exact Nat.le_of_eq rfl) (hb hby at_67) (fun _ _ => ⟨rfl, e1, (by decide : 0 + 0 ≤ _), (by decide : 0 + 0 ≤ _)⟩)
  dsimp only [Pt.U, Pt.locs, Pt.cells, Pt.slots] at X4 l4 y4 z4 st4 hQ4
  subst l4 y4 z4
  obtain ⟨rfl, Nq4, e4⟩ := hQ4
  have N4 := Fr.app N0 Nq4
  have ch5 : ∀ t, Steps p.tables e below (T4.setTop (mkF m 70 #[.val (.int p1), .val (.int p2), .val (.int p3), .val (.int (1 : Int32)), .val (.ref (ad 1)), .val (.int (1 : Int32)), .val (.int p2), .unset, .unset, .unset] [(.int (50 : Int32))])) t → Steps p.tables e below (s₁.setTop (entryFrame m #[(.int p1), (.int p2), (.int p3)] maxLocals)) t := fun t k => ch2 t (by
      show Steps p.tables e below (T1.setTop (mkF m 30 #[.val (.int p1), .val (.int p2), .val (.int p3), .val (.int (1 : Int32)), .unset, .unset, .unset, .unset, .unset, .unset] [(.ref (ad 1))])) t
      refine XS.astore X1.here hx rfl (hb hby at_30) rfl rfl (l' := #[.val (.int p1), .val (.int p2), .val (.int p3), .val (.int (1 : Int32)), .val (.ref (ad 1)), .unset, .unset, .unset, .unset, .unset]) rfl ?_
      show Steps p.tables e below (T1.setTop (mkF m 32 #[.val (.int p1), .val (.int p2), .val (.int p3), .val (.int (1 : Int32)), .val (.ref (ad 1)), .unset, .unset, .unset, .unset, .unset] [])) t
      refine XS.iconst X1.here hx rfl (hb hby at_32) ?_
      show Steps p.tables e below (T1.setTop (mkF m 33 #[.val (.int p1), .val (.int p2), .val (.int p3), .val (.int (1 : Int32)), .val (.ref (ad 1)), .unset, .unset, .unset, .unset, .unset] [(.int (1 : Int32))])) t
      refine XS.istore X1.here hx rfl (hb hby at_33) rfl (l' := #[.val (.int p1), .val (.int p2), .val (.int p3), .val (.int (1 : Int32)), .val (.ref (ad 1)), .val (.int (1 : Int32)), .unset, .unset, .unset, .unset]) rfl ?_
      show Steps p.tables e below (T1.setTop (mkF m 35 #[.val (.int p1), .val (.int p2), .val (.int p3), .val (.int (1 : Int32)), .val (.ref (ad 1)), .val (.int (1 : Int32)), .unset, .unset, .unset, .unset] [])) t
      refine XS.goto X1.here hx rfl (pc0 := 35) (pc' := 46) rfl (hb hby at_35) (by decide) (by decide) ?_
      show Steps p.tables e below (T1.setTop (mkF m 46 #[.val (.int p1), .val (.int p2), .val (.int p3), .val (.int (1 : Int32)), .val (.ref (ad 1)), .val (.int (1 : Int32)), .unset, .unset, .unset, .unset] [])) t
      refine XS.iloadN X1.here hx rfl (hb hby at_46) rfl ?_
      show Steps p.tables e below (T1.setTop (mkF m 47 #[.val (.int p1), .val (.int p2), .val (.int p3), .val (.int (1 : Int32)), .val (.ref (ad 1)), .val (.int (1 : Int32)), .unset, .unset, .unset, .unset] [(.int p3)])) t
      refine XS.iconst X1.here hx rfl (hb hby at_47) ?_
      show Steps p.tables e below (T1.setTop (mkF m 48 #[.val (.int p1), .val (.int p2), .val (.int p3), .val (.int (1 : Int32)), .val (.ref (ad 1)), .val (.int (1 : Int32)), .unset, .unset, .unset, .unset] [(.int (1 : Int32)), (.int p3)])) t
      refine XS.iand X1.here hx rfl (hb hby at_48) rfl ?_
      rw [hm]
      show Steps p.tables e below (T1.setTop (mkF m 49 #[.val (.int p1), .val (.int p2), .val (.int p3), .val (.int (1 : Int32)), .val (.ref (ad 1)), .val (.int (1 : Int32)), .unset, .unset, .unset, .unset] [(.int (1 : Int32))])) t
      refine XS.ifNo X1.here hx rfl (hb hby at_49) rfl ((if0 _ _).trans (feq (by decide : ¬ (1 : Int32) = (0 : Int32))).1) ?_
      show Steps p.tables e below (T1.setTop (mkF m 52 #[.val (.int p1), .val (.int p2), .val (.int p3), .val (.int (1 : Int32)), .val (.ref (ad 1)), .val (.int (1 : Int32)), .unset, .unset, .unset, .unset] [])) t
      refine XS.iloadN X1.here hx rfl (hb hby at_52) rfl ?_
      show Steps p.tables e below (T1.setTop (mkF m 53 #[.val (.int p1), .val (.int p2), .val (.int p3), .val (.int (1 : Int32)), .val (.ref (ad 1)), .val (.int (1 : Int32)), .unset, .unset, .unset, .unset] [(.int p2)])) t
      refine XS.goto X1.here hx rfl (pc0 := 53) (pc' := 61) rfl (hb hby at_53) (by decide) (by decide) ?_
      show Steps p.tables e below (T1.setTop (mkF m 61 #[.val (.int p1), .val (.int p2), .val (.int p3), .val (.int (1 : Int32)), .val (.ref (ad 1)), .val (.int (1 : Int32)), .unset, .unset, .unset, .unset] [(.int p2)])) t
      refine XS.istore X1.here hx rfl (hb hby at_61) rfl (l' := #[.val (.int p1), .val (.int p2), .val (.int p3), .val (.int (1 : Int32)), .val (.ref (ad 1)), .val (.int (1 : Int32)), .val (.int p2), .unset, .unset, .unset]) rfl ?_
      show Steps p.tables e below (T1.setTop (mkF m 63 #[.val (.int p1), .val (.int p2), .val (.int p3), .val (.int (1 : Int32)), .val (.ref (ad 1)), .val (.int (1 : Int32)), .val (.int p2), .unset, .unset, .unset] [])) t
      refine XS.aload X1.here hx rfl (hb hby at_63) rfl rfl ?_
      show Steps p.tables e below (T1.setTop (mkF m 65 #[.val (.int p1), .val (.int p2), .val (.int p3), .val (.int (1 : Int32)), .val (.ref (ad 1)), .val (.int (1 : Int32)), .val (.int p2), .unset, .unset, .unset] [(.ref (ad 1))])) t
      refine XS.iload X1.here hx rfl (hb hby at_65) rfl ?_
      show Steps p.tables e below (T1.setTop (mkF m 67 #[.val (.int p1), .val (.int p2), .val (.int p3), .val (.int (1 : Int32)), .val (.ref (ad 1)), .val (.int (1 : Int32)), .val (.int p2), .unset, .unset, .unset] [(.int p2), (.ref (ad 1))])) t
      exact st4.trans k)
  have ch6 : ∀ t, Steps p.tables e below (T4.setTop (mkF m 133 #[.val (.int p1), .val (.int p2), .val (.int p3), .val (.int (1 : Int32)), .val (.ref (ad 1)), .val (.int (1 : Int32)), .val (.int p2), .val (.int (50 : Int32)), .val (.long ((p2.toInt64) + (50 : Int64))), .second] [(.int (1 : Int32))])) t → Steps p.tables e below (s₁.setTop (entryFrame m #[(.int p1), (.int p2), (.int p3)] maxLocals)) t := fun t k => ch5 t (by
      show Steps p.tables e below (T4.setTop (mkF m 70 #[.val (.int p1), .val (.int p2), .val (.int p3), .val (.int (1 : Int32)), .val (.ref (ad 1)), .val (.int (1 : Int32)), .val (.int p2), .unset, .unset, .unset] [(.int (50 : Int32))])) t
      refine XS.istore X4.here hx rfl (hb hby at_70) rfl (l' := #[.val (.int p1), .val (.int p2), .val (.int p3), .val (.int (1 : Int32)), .val (.ref (ad 1)), .val (.int (1 : Int32)), .val (.int p2), .val (.int (50 : Int32)), .unset, .unset]) rfl ?_
      show Steps p.tables e below (T4.setTop (mkF m 72 #[.val (.int p1), .val (.int p2), .val (.int p3), .val (.int (1 : Int32)), .val (.ref (ad 1)), .val (.int (1 : Int32)), .val (.int p2), .val (.int (50 : Int32)), .unset, .unset] [])) t
      refine XS.iload X4.here hx rfl (hb hby at_72) rfl ?_
      show Steps p.tables e below (T4.setTop (mkF m 74 #[.val (.int p1), .val (.int p2), .val (.int p3), .val (.int (1 : Int32)), .val (.ref (ad 1)), .val (.int (1 : Int32)), .val (.int p2), .val (.int (50 : Int32)), .unset, .unset] [(.int p2)])) t
      refine XS.ifNo X4.here hx rfl (hb hby at_74) rfl ((if0 _ _).trans (flt h1).1) ?_
      show Steps p.tables e below (T4.setTop (mkF m 77 #[.val (.int p1), .val (.int p2), .val (.int p3), .val (.int (1 : Int32)), .val (.ref (ad 1)), .val (.int (1 : Int32)), .val (.int p2), .val (.int (50 : Int32)), .unset, .unset] [])) t
      refine XS.iload X4.here hx rfl (hb hby at_77) rfl ?_
      show Steps p.tables e below (T4.setTop (mkF m 79 #[.val (.int p1), .val (.int p2), .val (.int p3), .val (.int (1 : Int32)), .val (.ref (ad 1)), .val (.int (1 : Int32)), .val (.int p2), .val (.int (50 : Int32)), .unset, .unset] [(.int p2)])) t
      refine XS.bipush X4.here hx rfl (hb hby at_79) ?_
      show Steps p.tables e below (T4.setTop (mkF m 81 #[.val (.int p1), .val (.int p2), .val (.int p3), .val (.int (1 : Int32)), .val (.ref (ad 1)), .val (.int (1 : Int32)), .val (.int p2), .val (.int (50 : Int32)), .unset, .unset] [(.int (99 : Int32)), (.int p2)])) t
      refine XS.icmpYes X4.here hx rfl (pc0 := 81) (pc' := 95) rfl (hb hby at_81) rfl (flt h2).2.2.2 (by decide) (by decide) ?_
      show Steps p.tables e below (T4.setTop (mkF m 95 #[.val (.int p1), .val (.int p2), .val (.int p3), .val (.int (1 : Int32)), .val (.ref (ad 1)), .val (.int (1 : Int32)), .val (.int p2), .val (.int (50 : Int32)), .unset, .unset] [])) t
      refine XS.iload X4.here hx rfl (hb hby at_95) rfl ?_
      show Steps p.tables e below (T4.setTop (mkF m 97 #[.val (.int p1), .val (.int p2), .val (.int p3), .val (.int (1 : Int32)), .val (.ref (ad 1)), .val (.int (1 : Int32)), .val (.int p2), .val (.int (50 : Int32)), .unset, .unset] [(.int p2)])) t
      refine XS.i2l X4.here hx rfl (hb hby at_97) rfl ?_
      show Steps p.tables e below (T4.setTop (mkF m 98 #[.val (.int p1), .val (.int p2), .val (.int p3), .val (.int (1 : Int32)), .val (.ref (ad 1)), .val (.int (1 : Int32)), .val (.int p2), .val (.int (50 : Int32)), .unset, .unset] [(.long (p2.toInt64))])) t
      refine XS.iload X4.here hx rfl (hb hby at_98) rfl ?_
      show Steps p.tables e below (T4.setTop (mkF m 100 #[.val (.int p1), .val (.int p2), .val (.int p3), .val (.int (1 : Int32)), .val (.ref (ad 1)), .val (.int (1 : Int32)), .val (.int p2), .val (.int (50 : Int32)), .unset, .unset] [(.int (1 : Int32)), (.long (p2.toInt64))])) t
      refine XS.i2l X4.here hx rfl (hb hby at_100) rfl ?_
      rw [show ((1 : Int32).toInt64) = (1 : Int64) from by decide]
      show Steps p.tables e below (T4.setTop (mkF m 101 #[.val (.int p1), .val (.int p2), .val (.int p3), .val (.int (1 : Int32)), .val (.ref (ad 1)), .val (.int (1 : Int32)), .val (.int p2), .val (.int (50 : Int32)), .unset, .unset] [(.long (1 : Int64)), (.long (p2.toInt64))])) t
      refine XS.iload X4.here hx rfl (hb hby at_101) rfl ?_
      show Steps p.tables e below (T4.setTop (mkF m 103 #[.val (.int p1), .val (.int p2), .val (.int p3), .val (.int (1 : Int32)), .val (.ref (ad 1)), .val (.int (1 : Int32)), .val (.int p2), .val (.int (50 : Int32)), .unset, .unset] [(.int (50 : Int32)), (.long (1 : Int64)), (.long (p2.toInt64))])) t
      refine XS.i2l X4.here hx rfl (hb hby at_103) rfl ?_
      rw [show ((50 : Int32).toInt64) = (50 : Int64) from by decide]
      show Steps p.tables e below (T4.setTop (mkF m 104 #[.val (.int p1), .val (.int p2), .val (.int p3), .val (.int (1 : Int32)), .val (.ref (ad 1)), .val (.int (1 : Int32)), .val (.int p2), .val (.int (50 : Int32)), .unset, .unset] [(.long (50 : Int64)), (.long (1 : Int64)), (.long (p2.toInt64))])) t
      refine XS.lmul X4.here hx rfl (hb hby at_104) rfl ?_
      rw [show ((1 : Int64) * (50 : Int64)) = (50 : Int64) from by decide]
      show Steps p.tables e below (T4.setTop (mkF m 105 #[.val (.int p1), .val (.int p2), .val (.int p3), .val (.int (1 : Int32)), .val (.ref (ad 1)), .val (.int (1 : Int32)), .val (.int p2), .val (.int (50 : Int32)), .unset, .unset] [(.long (50 : Int64)), (.long (p2.toInt64))])) t
      refine XS.ladd X4.here hx rfl (hb hby at_105) rfl ?_
      show Steps p.tables e below (T4.setTop (mkF m 106 #[.val (.int p1), .val (.int p2), .val (.int p3), .val (.int (1 : Int32)), .val (.ref (ad 1)), .val (.int (1 : Int32)), .val (.int p2), .val (.int (50 : Int32)), .unset, .unset] [(.long ((p2.toInt64) + (50 : Int64)))])) t
      refine XS.lstore X4.here hx rfl (hb hby at_106) rfl (l' := #[.val (.int p1), .val (.int p2), .val (.int p3), .val (.int (1 : Int32)), .val (.ref (ad 1)), .val (.int (1 : Int32)), .val (.int p2), .val (.int (50 : Int32)), .val (.long ((p2.toInt64) + (50 : Int64))), .second]) rfl ?_
      show Steps p.tables e below (T4.setTop (mkF m 108 #[.val (.int p1), .val (.int p2), .val (.int p3), .val (.int (1 : Int32)), .val (.ref (ad 1)), .val (.int (1 : Int32)), .val (.int p2), .val (.int (50 : Int32)), .val (.long ((p2.toInt64) + (50 : Int64))), .second] [])) t
      refine XS.iload X4.here hx rfl (hb hby at_108) rfl ?_
      show Steps p.tables e below (T4.setTop (mkF m 110 #[.val (.int p1), .val (.int p2), .val (.int p3), .val (.int (1 : Int32)), .val (.ref (ad 1)), .val (.int (1 : Int32)), .val (.int p2), .val (.int (50 : Int32)), .val (.long ((p2.toInt64) + (50 : Int64))), .second] [(.int p2)])) t
      refine XS.bipush X4.here hx rfl (hb hby at_110) ?_
      show Steps p.tables e below (T4.setTop (mkF m 112 #[.val (.int p1), .val (.int p2), .val (.int p3), .val (.int (1 : Int32)), .val (.ref (ad 1)), .val (.int (1 : Int32)), .val (.int p2), .val (.int (50 : Int32)), .val (.long ((p2.toInt64) + (50 : Int64))), .second] [(.int (50 : Int32)), (.int p2)])) t
      refine XS.icmpNo X4.here hx rfl (hb hby at_112) rfl (tlt h3).2.1 ?_
      show Steps p.tables e below (T4.setTop (mkF m 115 #[.val (.int p1), .val (.int p2), .val (.int p3), .val (.int (1 : Int32)), .val (.ref (ad 1)), .val (.int (1 : Int32)), .val (.int p2), .val (.int (50 : Int32)), .val (.long ((p2.toInt64) + (50 : Int64))), .second] [])) t
      refine XS.lload X4.here hx rfl (hb hby at_115) rfl ?_
      show Steps p.tables e below (T4.setTop (mkF m 117 #[.val (.int p1), .val (.int p2), .val (.int p3), .val (.int (1 : Int32)), .val (.ref (ad 1)), .val (.int (1 : Int32)), .val (.int p2), .val (.int (50 : Int32)), .val (.long ((p2.toInt64) + (50 : Int64))), .second] [(.long ((p2.toInt64) + (50 : Int64)))])) t
      refine XS.iload X4.here hx rfl (hb hby at_117) rfl ?_
      show Steps p.tables e below (T4.setTop (mkF m 119 #[.val (.int p1), .val (.int p2), .val (.int p3), .val (.int (1 : Int32)), .val (.ref (ad 1)), .val (.int (1 : Int32)), .val (.int p2), .val (.int (50 : Int32)), .val (.long ((p2.toInt64) + (50 : Int64))), .second] [(.int p2), (.long ((p2.toInt64) + (50 : Int64)))])) t
      refine XS.i2l X4.here hx rfl (hb hby at_119) rfl ?_
      show Steps p.tables e below (T4.setTop (mkF m 120 #[.val (.int p1), .val (.int p2), .val (.int p3), .val (.int (1 : Int32)), .val (.ref (ad 1)), .val (.int (1 : Int32)), .val (.int p2), .val (.int (50 : Int32)), .val (.long ((p2.toInt64) + (50 : Int64))), .second] [(.long (p2.toInt64)), (.long ((p2.toInt64) + (50 : Int64)))])) t
      refine X4.ldc2Long hx hown (mvT hZ (hw _ (List.mem_of_getElem? (i := 13) rfl))) (g := (mkF m 120 #[.val (.int p1), .val (.int p2), .val (.int p3), .val (.int (1 : Int32)), .val (.ref (ad 1)), .val (.int (1 : Int32)), .val (.int p2), .val (.int (50 : Int32)), .val (.long ((p2.toInt64) + (50 : Int64))), .second] [(.long (p2.toInt64)), (.long ((p2.toInt64) + (50 : Int64)))])) rfl (hb hby at_120) _ ?_
      show Steps p.tables e below (T4.setTop (mkF m 123 #[.val (.int p1), .val (.int p2), .val (.int p3), .val (.int (1 : Int32)), .val (.ref (ad 1)), .val (.int (1 : Int32)), .val (.int p2), .val (.int (50 : Int32)), .val (.long ((p2.toInt64) + (50 : Int64))), .second] [(.long (50 : Int64)), (.long (p2.toInt64)), (.long ((p2.toInt64) + (50 : Int64)))])) t
      refine XS.ladd X4.here hx rfl (hb hby at_123) rfl ?_
      show Steps p.tables e below (T4.setTop (mkF m 124 #[.val (.int p1), .val (.int p2), .val (.int p3), .val (.int (1 : Int32)), .val (.ref (ad 1)), .val (.int (1 : Int32)), .val (.int p2), .val (.int (50 : Int32)), .val (.long ((p2.toInt64) + (50 : Int64))), .second] [(.long ((p2.toInt64) + (50 : Int64))), (.long ((p2.toInt64) + (50 : Int64)))])) t
      refine XS.lcmp X4.here hx rfl (hb hby at_124) rfl ?_
      show Steps p.tables e below (T4.setTop (mkF m 125 #[.val (.int p1), .val (.int p2), .val (.int p3), .val (.int (1 : Int32)), .val (.ref (ad 1)), .val (.int (1 : Int32)), .val (.int p2), .val (.int (50 : Int32)), .val (.long ((p2.toInt64) + (50 : Int64))), .second] [(.int (lcmpW ((p2.toInt64) + (50 : Int64)) ((p2.toInt64) + (50 : Int64))))])) t
      rw [own_lc0]
      show Steps p.tables e below (T4.setTop (mkF m 125 #[.val (.int p1), .val (.int p2), .val (.int p3), .val (.int (1 : Int32)), .val (.ref (ad 1)), .val (.int (1 : Int32)), .val (.int p2), .val (.int (50 : Int32)), .val (.long ((p2.toInt64) + (50 : Int64))), .second] [(.int (0 : Int32))])) t
      refine XS.ifNo X4.here hx rfl (hb hby at_125) rfl ((if0 _ _).trans (teq (by decide : (0 : Int32) = (0 : Int32))).2) ?_
      show Steps p.tables e below (T4.setTop (mkF m 128 #[.val (.int p1), .val (.int p2), .val (.int p3), .val (.int (1 : Int32)), .val (.ref (ad 1)), .val (.int (1 : Int32)), .val (.int p2), .val (.int (50 : Int32)), .val (.long ((p2.toInt64) + (50 : Int64))), .second] [])) t
      refine XS.iconst X4.here hx rfl (hb hby at_128) ?_
      show Steps p.tables e below (T4.setTop (mkF m 129 #[.val (.int p1), .val (.int p2), .val (.int p3), .val (.int (1 : Int32)), .val (.ref (ad 1)), .val (.int (1 : Int32)), .val (.int p2), .val (.int (50 : Int32)), .val (.long ((p2.toInt64) + (50 : Int64))), .second] [(.int (1 : Int32))])) t
      refine XS.goto X4.here hx rfl (pc0 := 129) (pc' := 133) rfl (hb hby at_129) (by decide) (by decide) ?_
      exact k)
  obtain ⟨fs, hr, hrun, hended, hW, hsame⟩ := X4.leave (v := some (.int (1 : Int32))) (fun h => by rw [Bd.returns] at h; cases h)
  refine ⟨_, _, ch6 _ ?_, hrun, hended, _, _, rfl, ?_, ⟨_, rfl⟩, hW, hsame.mono (by decide) (by decide)⟩
  · show Steps p.tables e below (T4.setTop (mkF m 133 #[.val (.int p1), .val (.int p2), .val (.int p3), .val (.int (1 : Int32)), .val (.ref (ad 1)), .val (.int (1 : Int32)), .val (.int p2), .val (.int (50 : Int32)), .val (.long ((p2.toInt64) + (50 : Int64))), .second] [(.int (1 : Int32))])) _
    exact retN X4 hx (t := .boolean) Bd.returns (by simp) (hb hby at_133) hr
  · show QN (some (.int (1 : Int32))) n0 _ T4.heap _
    rw [e4]
    exact ⟨rfl, N4⟩
theorem own_ef_own_law_11h (m : MethodId) {x0 : Int32} {x1 : Int32} {x2 : Int32} : entryFrame m #[(.int x0), (.int x1), (.int x2)] maxLocals = mkF m 0 #[.val (.int x0), .val (.int x1), .val (.int x2), .unset, .unset, .unset, .unset, .unset, .unset, .unset] [] := by first | (simp [entryFrame, mkF, argsToLocals, Value.category, maxLocals]; done) | rfl
set_option maxRecDepth 65536 in
set_option maxHeartbeats 40000000 in
theorem own_law_11h (l : Launch) (Z : State) (a0 : Array Value) (hw : ∀ d ∈ tables_1, d.before a0 Z = true) (ws : List Jvm.Cond) (h0 : Heap) (n0 : Nat) (Z0 : n0 ≤ h0.size) (p1 p2 p3 : Int32) (hk : (p1 &&& (2147483647 : Int32)) % (3 : Int32) = (1 : Int32)) (hm : p3 &&& (1 : Int32) = (1 : Int32)) (h1 : ¬ p2 < (0 : Int32)) (h2 : ¬ (99 : Int32) < p2) (h3 : ¬ p2 < (50 : Int32)) (ad : Nat → Addr) (W : OwnWd Z h0 ad) :
    MetFree l x (head1 (Jvm.Cond.code x code maxLocals ret :: ws) room_1) (fun a U => a = #[(.int p1), (.int p2), (.int p3)] ∧ Z.Warmed39 U.vm ∧ U.heap = h0) (fun _ _ _ _ _ => True) (fun _ U o U' => ∃ v L, o = .returned v ∧ QN (some (.int (1 : Int32))) n0 v U'.heap L ∧ FrameEnd U o U' L room_1.cells room_1.slots) := by
  refine MetFree.of_bodySF (plainFor_of_name own_pn_com_example_isolint_isolint_bench_ChangeAddedToEachValuePinLaw) hisR ?_
  intro p e s m args below meth c s₁ Bd hml0 hP hK
  obtain ⟨rfl, hZ, hh⟩ := hP
  have hx := Bd.exec
  have hby := Bd.bytes
  have hml : c.maxLocals = 10 := hml0
  have hown : s.vm.findClass "com/example/isolint/isolint/bench/ChangeAddedToEachValuePinLaw" = some m.cls := findClass_of_methodNamed Bd.named
  have hnm := (name_of_methodNamed Bd.named Bd.method).1
  have X0 : Stand p l e room_1 s m #[(.int p1), (.int p2), (.int p3)] below meth c s₁ [] 0 0 := Stand.of_body Bd
  have e0 : s₁.heap = h0 := by rw [← hh, Bd.state]; rfl
  have N0 := Fr.nil n0
  have pre0 : ∀ t, Steps p.tables e below (s₁.setTop (mkF m 0 #[.val (.int p1), .val (.int p2), .val (.int p3), .unset, .unset, .unset, .unset, .unset, .unset, .unset] [])) t → Steps p.tables e below (s₁.setTop (entryFrame m #[(.int p1), (.int p2), (.int p3)] maxLocals)) t := fun t k => castTop (own_ef_own_law_11h m) k
  obtain ⟨T1, X1, e1, st1⟩ := getS2 X0 hx hZ hown (host := "") (Or.inl (hw _ (List.mem_of_getElem? (i := 14) rfl))) Via.refl e0 (own_S_CHANGE_B W) (g := (mkF m 27 #[.val (.int p1), .val (.int p2), .val (.int p3), .val (.int (1 : Int32)), .unset, .unset, .unset, .unset, .unset, .unset] [])) rfl (hb hby at_27)
  have ch2 : ∀ t, Steps p.tables e below (T1.setTop (mkF m 30 #[.val (.int p1), .val (.int p2), .val (.int p3), .val (.int (1 : Int32)), .unset, .unset, .unset, .unset, .unset, .unset] [(.ref (ad 1))])) t → Steps p.tables e below (s₁.setTop (entryFrame m #[(.int p1), (.int p2), (.int p3)] maxLocals)) t := fun t k => pre0 t (by
      show Steps p.tables e below (s₁.setTop (mkF m 0 #[.val (.int p1), .val (.int p2), .val (.int p3), .unset, .unset, .unset, .unset, .unset, .unset, .unset] [])) t
      refine XS.iloadN X0.here hx rfl (hb hby at_0) rfl ?_
      show Steps p.tables e below (s₁.setTop (mkF m 1 #[.val (.int p1), .val (.int p2), .val (.int p3), .unset, .unset, .unset, .unset, .unset, .unset, .unset] [(.int p1)])) t
      refine X0.ldcInt hx hown (mvT hZ (hw _ (List.mem_of_getElem? (i := 0) rfl))) (g := (mkF m 1 #[.val (.int p1), .val (.int p2), .val (.int p3), .unset, .unset, .unset, .unset, .unset, .unset, .unset] [(.int p1)])) rfl (hb hby at_1) _ ?_
      show Steps p.tables e below (s₁.setTop (mkF m 3 #[.val (.int p1), .val (.int p2), .val (.int p3), .unset, .unset, .unset, .unset, .unset, .unset, .unset] [(.int (2147483647 : Int32)), (.int p1)])) t
      refine XS.iand X0.here hx rfl (hb hby at_3) rfl ?_
      show Steps p.tables e below (s₁.setTop (mkF m 4 #[.val (.int p1), .val (.int p2), .val (.int p3), .unset, .unset, .unset, .unset, .unset, .unset, .unset] [(.int (p1 &&& (2147483647 : Int32)))])) t
      refine XS.iconst X0.here hx rfl (hb hby at_4) ?_
      show Steps p.tables e below (s₁.setTop (mkF m 5 #[.val (.int p1), .val (.int p2), .val (.int p3), .unset, .unset, .unset, .unset, .unset, .unset, .unset] [(.int (3 : Int32)), (.int (p1 &&& (2147483647 : Int32)))])) t
      refine Jvm.RoadKit.iremM (g := (mkF m 5 #[.val (.int p1), .val (.int p2), .val (.int p3), .unset, .unset, .unset, .unset, .unset, .unset, .unset] [(.int (3 : Int32)), (.int (p1 &&& (2147483647 : Int32)))])) X0 hx rfl (hb hby at_5) rfl (by decide) ?_
      rw [hk]
      show Steps p.tables e below (s₁.setTop (mkF m 6 #[.val (.int p1), .val (.int p2), .val (.int p3), .unset, .unset, .unset, .unset, .unset, .unset, .unset] [(.int (1 : Int32))])) t
      refine XS.istoreN X0.here hx rfl (hb hby at_6) rfl (l' := #[.val (.int p1), .val (.int p2), .val (.int p3), .val (.int (1 : Int32)), .unset, .unset, .unset, .unset, .unset, .unset]) rfl ?_
      show Steps p.tables e below (s₁.setTop (mkF m 7 #[.val (.int p1), .val (.int p2), .val (.int p3), .val (.int (1 : Int32)), .unset, .unset, .unset, .unset, .unset, .unset] [])) t
      refine XS.iloadN X0.here hx rfl (hb hby at_7) rfl ?_
      show Steps p.tables e below (s₁.setTop (mkF m 8 #[.val (.int p1), .val (.int p2), .val (.int p3), .val (.int (1 : Int32)), .unset, .unset, .unset, .unset, .unset, .unset] [(.int (1 : Int32))])) t
      refine XS.ifYes X0.here hx rfl (pc0 := 8) (pc' := 22) rfl (hb hby at_8) rfl ((if0 _ _).trans (feq (by decide : ¬ (1 : Int32) = (0 : Int32))).2) (by decide) (by decide) ?_
      show Steps p.tables e below (s₁.setTop (mkF m 22 #[.val (.int p1), .val (.int p2), .val (.int p3), .val (.int (1 : Int32)), .unset, .unset, .unset, .unset, .unset, .unset] [])) t
      refine XS.iloadN X0.here hx rfl (hb hby at_22) rfl ?_
      show Steps p.tables e below (s₁.setTop (mkF m 23 #[.val (.int p1), .val (.int p2), .val (.int p3), .val (.int (1 : Int32)), .unset, .unset, .unset, .unset, .unset, .unset] [(.int (1 : Int32))])) t
      refine XS.iconst X0.here hx rfl (hb hby at_23) ?_
      show Steps p.tables e below (s₁.setTop (mkF m 24 #[.val (.int p1), .val (.int p2), .val (.int p3), .val (.int (1 : Int32)), .unset, .unset, .unset, .unset, .unset, .unset] [(.int (1 : Int32)), (.int (1 : Int32))])) t
      refine XS.icmpNo X0.here hx rfl (hb hby at_24) rfl (teq (by decide : (1 : Int32) = (1 : Int32))).2 ?_
      show Steps p.tables e below (s₁.setTop (mkF m 27 #[.val (.int p1), .val (.int p2), .val (.int p3), .val (.int (1 : Int32)), .unset, .unset, .unset, .unset, .unset, .unset] [])) t
      exact st1 t k)
  obtain ⟨cq3, kq3, qa3, qb3, qc3⟩ := isOf hZ e1 (own_E_CHANGE_B W)
  obtain ⟨vv4, _, ⟨T4, L4, kk4, nn4⟩, -, X4, ⟨Lc4, hQ4, l4, y4, z4⟩, st4⟩ := X1.virtualBack hx (y := (⟨"com/example/isolint/isolint/bench/Change", "addedToEachValue", "(I)I"⟩ : MethodName)) (z := (⟨"com/example/isolint/isolint/bench/Change", "addedToEachValue", "(I)I"⟩ : MethodName)) hown (mvT hZ (hw _ (List.mem_of_getElem? (i := 4) rfl))) (mvT hZ (hw _ (List.mem_of_getElem? (i := 5) rfl))) (notFace_of_selects (args := #[]) (mvT hZ (hw _ (List.mem_of_getElem? (i := 7) rfl)))) (mvT hZ (hw _ (List.mem_of_getElem? (i := 7) rfl))) (mvT hZ (hw _ (List.mem_of_getElem? (i := 6) rfl))) (by decide) (backOf (W := 0) (own_add_1h l Z a0 hw [] h0 n0 Z0  p2 h1 h2 h3 ad W) hZ (hw _ (List.mem_of_getElem? (i := 8) rfl)) (hw _ (List.mem_of_getElem? (i := 2) rfl)) (by decide) (by decide)) qa3 qc3 (g := (mkF m 67 #[.val (.int p1), .val (.int p2), .val (.int p3), .val (.int (1 : Int32)), .val (.ref (ad 1)), .val (.int (1 : Int32)), .val (.int p2), .unset, .unset, .unset] [(.int p2), (.ref (ad 1))])) rfl (by rw [hml]; rfl) (Steps.refl _) (argsL := [(.int p2)]) (rest := []) (lenOf own_pd__I_I rfl) rfl (by show 2 * 0 + _ ≤ _; exact Nat.le_of_eq rfl) (hb hby at_67) (fun _ _ => ⟨rfl, e1, (by decide : 0 + 0 ≤ _), (by decide : 0 + 0 ≤ _)⟩)
  dsimp only [Pt.U, Pt.locs, Pt.cells, Pt.slots] at X4 l4 y4 z4 st4 hQ4
  subst l4 y4 z4
  obtain ⟨rfl, Nq4, e4⟩ := hQ4
  have N4 := Fr.app N0 Nq4
  have ch5 : ∀ t, Steps p.tables e below (T4.setTop (mkF m 70 #[.val (.int p1), .val (.int p2), .val (.int p3), .val (.int (1 : Int32)), .val (.ref (ad 1)), .val (.int (1 : Int32)), .val (.int p2), .unset, .unset, .unset] [(.int (-50 : Int32))])) t → Steps p.tables e below (s₁.setTop (entryFrame m #[(.int p1), (.int p2), (.int p3)] maxLocals)) t := fun t k => ch2 t (by
      show Steps p.tables e below (T1.setTop (mkF m 30 #[.val (.int p1), .val (.int p2), .val (.int p3), .val (.int (1 : Int32)), .unset, .unset, .unset, .unset, .unset, .unset] [(.ref (ad 1))])) t
      refine XS.astore X1.here hx rfl (hb hby at_30) rfl rfl (l' := #[.val (.int p1), .val (.int p2), .val (.int p3), .val (.int (1 : Int32)), .val (.ref (ad 1)), .unset, .unset, .unset, .unset, .unset]) rfl ?_
      show Steps p.tables e below (T1.setTop (mkF m 32 #[.val (.int p1), .val (.int p2), .val (.int p3), .val (.int (1 : Int32)), .val (.ref (ad 1)), .unset, .unset, .unset, .unset, .unset] [])) t
      refine XS.iconst X1.here hx rfl (hb hby at_32) ?_
      show Steps p.tables e below (T1.setTop (mkF m 33 #[.val (.int p1), .val (.int p2), .val (.int p3), .val (.int (1 : Int32)), .val (.ref (ad 1)), .unset, .unset, .unset, .unset, .unset] [(.int (1 : Int32))])) t
      refine XS.istore X1.here hx rfl (hb hby at_33) rfl (l' := #[.val (.int p1), .val (.int p2), .val (.int p3), .val (.int (1 : Int32)), .val (.ref (ad 1)), .val (.int (1 : Int32)), .unset, .unset, .unset, .unset]) rfl ?_
      show Steps p.tables e below (T1.setTop (mkF m 35 #[.val (.int p1), .val (.int p2), .val (.int p3), .val (.int (1 : Int32)), .val (.ref (ad 1)), .val (.int (1 : Int32)), .unset, .unset, .unset, .unset] [])) t
      refine XS.goto X1.here hx rfl (pc0 := 35) (pc' := 46) rfl (hb hby at_35) (by decide) (by decide) ?_
      show Steps p.tables e below (T1.setTop (mkF m 46 #[.val (.int p1), .val (.int p2), .val (.int p3), .val (.int (1 : Int32)), .val (.ref (ad 1)), .val (.int (1 : Int32)), .unset, .unset, .unset, .unset] [])) t
      refine XS.iloadN X1.here hx rfl (hb hby at_46) rfl ?_
      show Steps p.tables e below (T1.setTop (mkF m 47 #[.val (.int p1), .val (.int p2), .val (.int p3), .val (.int (1 : Int32)), .val (.ref (ad 1)), .val (.int (1 : Int32)), .unset, .unset, .unset, .unset] [(.int p3)])) t
      refine XS.iconst X1.here hx rfl (hb hby at_47) ?_
      show Steps p.tables e below (T1.setTop (mkF m 48 #[.val (.int p1), .val (.int p2), .val (.int p3), .val (.int (1 : Int32)), .val (.ref (ad 1)), .val (.int (1 : Int32)), .unset, .unset, .unset, .unset] [(.int (1 : Int32)), (.int p3)])) t
      refine XS.iand X1.here hx rfl (hb hby at_48) rfl ?_
      rw [hm]
      show Steps p.tables e below (T1.setTop (mkF m 49 #[.val (.int p1), .val (.int p2), .val (.int p3), .val (.int (1 : Int32)), .val (.ref (ad 1)), .val (.int (1 : Int32)), .unset, .unset, .unset, .unset] [(.int (1 : Int32))])) t
      refine XS.ifNo X1.here hx rfl (hb hby at_49) rfl ((if0 _ _).trans (feq (by decide : ¬ (1 : Int32) = (0 : Int32))).1) ?_
      show Steps p.tables e below (T1.setTop (mkF m 52 #[.val (.int p1), .val (.int p2), .val (.int p3), .val (.int (1 : Int32)), .val (.ref (ad 1)), .val (.int (1 : Int32)), .unset, .unset, .unset, .unset] [])) t
      refine XS.iloadN X1.here hx rfl (hb hby at_52) rfl ?_
      show Steps p.tables e below (T1.setTop (mkF m 53 #[.val (.int p1), .val (.int p2), .val (.int p3), .val (.int (1 : Int32)), .val (.ref (ad 1)), .val (.int (1 : Int32)), .unset, .unset, .unset, .unset] [(.int p2)])) t
      refine XS.goto X1.here hx rfl (pc0 := 53) (pc' := 61) rfl (hb hby at_53) (by decide) (by decide) ?_
      show Steps p.tables e below (T1.setTop (mkF m 61 #[.val (.int p1), .val (.int p2), .val (.int p3), .val (.int (1 : Int32)), .val (.ref (ad 1)), .val (.int (1 : Int32)), .unset, .unset, .unset, .unset] [(.int p2)])) t
      refine XS.istore X1.here hx rfl (hb hby at_61) rfl (l' := #[.val (.int p1), .val (.int p2), .val (.int p3), .val (.int (1 : Int32)), .val (.ref (ad 1)), .val (.int (1 : Int32)), .val (.int p2), .unset, .unset, .unset]) rfl ?_
      show Steps p.tables e below (T1.setTop (mkF m 63 #[.val (.int p1), .val (.int p2), .val (.int p3), .val (.int (1 : Int32)), .val (.ref (ad 1)), .val (.int (1 : Int32)), .val (.int p2), .unset, .unset, .unset] [])) t
      refine XS.aload X1.here hx rfl (hb hby at_63) rfl rfl ?_
      show Steps p.tables e below (T1.setTop (mkF m 65 #[.val (.int p1), .val (.int p2), .val (.int p3), .val (.int (1 : Int32)), .val (.ref (ad 1)), .val (.int (1 : Int32)), .val (.int p2), .unset, .unset, .unset] [(.ref (ad 1))])) t
      refine XS.iload X1.here hx rfl (hb hby at_65) rfl ?_
      show Steps p.tables e below (T1.setTop (mkF m 67 #[.val (.int p1), .val (.int p2), .val (.int p3), .val (.int (1 : Int32)), .val (.ref (ad 1)), .val (.int (1 : Int32)), .val (.int p2), .unset, .unset, .unset] [(.int p2), (.ref (ad 1))])) t
      exact st4.trans k)
  have ch6 : ∀ t, Steps p.tables e below (T4.setTop (mkF m 152 #[.val (.int p1), .val (.int p2), .val (.int p3), .val (.int (1 : Int32)), .val (.ref (ad 1)), .val (.int (1 : Int32)), .val (.int p2), .val (.int (-50 : Int32)), .val (.long ((p2.toInt64) + (-50 : Int64))), .second] [(.int (1 : Int32))])) t → Steps p.tables e below (s₁.setTop (entryFrame m #[(.int p1), (.int p2), (.int p3)] maxLocals)) t := fun t k => ch5 t (by
      show Steps p.tables e below (T4.setTop (mkF m 70 #[.val (.int p1), .val (.int p2), .val (.int p3), .val (.int (1 : Int32)), .val (.ref (ad 1)), .val (.int (1 : Int32)), .val (.int p2), .unset, .unset, .unset] [(.int (-50 : Int32))])) t
      refine XS.istore X4.here hx rfl (hb hby at_70) rfl (l' := #[.val (.int p1), .val (.int p2), .val (.int p3), .val (.int (1 : Int32)), .val (.ref (ad 1)), .val (.int (1 : Int32)), .val (.int p2), .val (.int (-50 : Int32)), .unset, .unset]) rfl ?_
      show Steps p.tables e below (T4.setTop (mkF m 72 #[.val (.int p1), .val (.int p2), .val (.int p3), .val (.int (1 : Int32)), .val (.ref (ad 1)), .val (.int (1 : Int32)), .val (.int p2), .val (.int (-50 : Int32)), .unset, .unset] [])) t
      refine XS.iload X4.here hx rfl (hb hby at_72) rfl ?_
      show Steps p.tables e below (T4.setTop (mkF m 74 #[.val (.int p1), .val (.int p2), .val (.int p3), .val (.int (1 : Int32)), .val (.ref (ad 1)), .val (.int (1 : Int32)), .val (.int p2), .val (.int (-50 : Int32)), .unset, .unset] [(.int p2)])) t
      refine XS.ifNo X4.here hx rfl (hb hby at_74) rfl ((if0 _ _).trans (flt h1).1) ?_
      show Steps p.tables e below (T4.setTop (mkF m 77 #[.val (.int p1), .val (.int p2), .val (.int p3), .val (.int (1 : Int32)), .val (.ref (ad 1)), .val (.int (1 : Int32)), .val (.int p2), .val (.int (-50 : Int32)), .unset, .unset] [])) t
      refine XS.iload X4.here hx rfl (hb hby at_77) rfl ?_
      show Steps p.tables e below (T4.setTop (mkF m 79 #[.val (.int p1), .val (.int p2), .val (.int p3), .val (.int (1 : Int32)), .val (.ref (ad 1)), .val (.int (1 : Int32)), .val (.int p2), .val (.int (-50 : Int32)), .unset, .unset] [(.int p2)])) t
      refine XS.bipush X4.here hx rfl (hb hby at_79) ?_
      show Steps p.tables e below (T4.setTop (mkF m 81 #[.val (.int p1), .val (.int p2), .val (.int p3), .val (.int (1 : Int32)), .val (.ref (ad 1)), .val (.int (1 : Int32)), .val (.int p2), .val (.int (-50 : Int32)), .unset, .unset] [(.int (99 : Int32)), (.int p2)])) t
      refine XS.icmpYes X4.here hx rfl (pc0 := 81) (pc' := 95) rfl (hb hby at_81) rfl (flt h2).2.2.2 (by decide) (by decide) ?_
      show Steps p.tables e below (T4.setTop (mkF m 95 #[.val (.int p1), .val (.int p2), .val (.int p3), .val (.int (1 : Int32)), .val (.ref (ad 1)), .val (.int (1 : Int32)), .val (.int p2), .val (.int (-50 : Int32)), .unset, .unset] [])) t
      refine XS.iload X4.here hx rfl (hb hby at_95) rfl ?_
      show Steps p.tables e below (T4.setTop (mkF m 97 #[.val (.int p1), .val (.int p2), .val (.int p3), .val (.int (1 : Int32)), .val (.ref (ad 1)), .val (.int (1 : Int32)), .val (.int p2), .val (.int (-50 : Int32)), .unset, .unset] [(.int p2)])) t
      refine XS.i2l X4.here hx rfl (hb hby at_97) rfl ?_
      show Steps p.tables e below (T4.setTop (mkF m 98 #[.val (.int p1), .val (.int p2), .val (.int p3), .val (.int (1 : Int32)), .val (.ref (ad 1)), .val (.int (1 : Int32)), .val (.int p2), .val (.int (-50 : Int32)), .unset, .unset] [(.long (p2.toInt64))])) t
      refine XS.iload X4.here hx rfl (hb hby at_98) rfl ?_
      show Steps p.tables e below (T4.setTop (mkF m 100 #[.val (.int p1), .val (.int p2), .val (.int p3), .val (.int (1 : Int32)), .val (.ref (ad 1)), .val (.int (1 : Int32)), .val (.int p2), .val (.int (-50 : Int32)), .unset, .unset] [(.int (1 : Int32)), (.long (p2.toInt64))])) t
      refine XS.i2l X4.here hx rfl (hb hby at_100) rfl ?_
      rw [show ((1 : Int32).toInt64) = (1 : Int64) from by decide]
      show Steps p.tables e below (T4.setTop (mkF m 101 #[.val (.int p1), .val (.int p2), .val (.int p3), .val (.int (1 : Int32)), .val (.ref (ad 1)), .val (.int (1 : Int32)), .val (.int p2), .val (.int (-50 : Int32)), .unset, .unset] [(.long (1 : Int64)), (.long (p2.toInt64))])) t
      refine XS.iload X4.here hx rfl (hb hby at_101) rfl ?_
      show Steps p.tables e below (T4.setTop (mkF m 103 #[.val (.int p1), .val (.int p2), .val (.int p3), .val (.int (1 : Int32)), .val (.ref (ad 1)), .val (.int (1 : Int32)), .val (.int p2), .val (.int (-50 : Int32)), .unset, .unset] [(.int (-50 : Int32)), (.long (1 : Int64)), (.long (p2.toInt64))])) t
      refine XS.i2l X4.here hx rfl (hb hby at_103) rfl ?_
      rw [show ((-50 : Int32).toInt64) = (-50 : Int64) from by decide]
      show Steps p.tables e below (T4.setTop (mkF m 104 #[.val (.int p1), .val (.int p2), .val (.int p3), .val (.int (1 : Int32)), .val (.ref (ad 1)), .val (.int (1 : Int32)), .val (.int p2), .val (.int (-50 : Int32)), .unset, .unset] [(.long (-50 : Int64)), (.long (1 : Int64)), (.long (p2.toInt64))])) t
      refine XS.lmul X4.here hx rfl (hb hby at_104) rfl ?_
      rw [show ((1 : Int64) * (-50 : Int64)) = (-50 : Int64) from by decide]
      show Steps p.tables e below (T4.setTop (mkF m 105 #[.val (.int p1), .val (.int p2), .val (.int p3), .val (.int (1 : Int32)), .val (.ref (ad 1)), .val (.int (1 : Int32)), .val (.int p2), .val (.int (-50 : Int32)), .unset, .unset] [(.long (-50 : Int64)), (.long (p2.toInt64))])) t
      refine XS.ladd X4.here hx rfl (hb hby at_105) rfl ?_
      show Steps p.tables e below (T4.setTop (mkF m 106 #[.val (.int p1), .val (.int p2), .val (.int p3), .val (.int (1 : Int32)), .val (.ref (ad 1)), .val (.int (1 : Int32)), .val (.int p2), .val (.int (-50 : Int32)), .unset, .unset] [(.long ((p2.toInt64) + (-50 : Int64)))])) t
      refine XS.lstore X4.here hx rfl (hb hby at_106) rfl (l' := #[.val (.int p1), .val (.int p2), .val (.int p3), .val (.int (1 : Int32)), .val (.ref (ad 1)), .val (.int (1 : Int32)), .val (.int p2), .val (.int (-50 : Int32)), .val (.long ((p2.toInt64) + (-50 : Int64))), .second]) rfl ?_
      show Steps p.tables e below (T4.setTop (mkF m 108 #[.val (.int p1), .val (.int p2), .val (.int p3), .val (.int (1 : Int32)), .val (.ref (ad 1)), .val (.int (1 : Int32)), .val (.int p2), .val (.int (-50 : Int32)), .val (.long ((p2.toInt64) + (-50 : Int64))), .second] [])) t
      refine XS.iload X4.here hx rfl (hb hby at_108) rfl ?_
      show Steps p.tables e below (T4.setTop (mkF m 110 #[.val (.int p1), .val (.int p2), .val (.int p3), .val (.int (1 : Int32)), .val (.ref (ad 1)), .val (.int (1 : Int32)), .val (.int p2), .val (.int (-50 : Int32)), .val (.long ((p2.toInt64) + (-50 : Int64))), .second] [(.int p2)])) t
      refine XS.bipush X4.here hx rfl (hb hby at_110) ?_
      show Steps p.tables e below (T4.setTop (mkF m 112 #[.val (.int p1), .val (.int p2), .val (.int p3), .val (.int (1 : Int32)), .val (.ref (ad 1)), .val (.int (1 : Int32)), .val (.int p2), .val (.int (-50 : Int32)), .val (.long ((p2.toInt64) + (-50 : Int64))), .second] [(.int (50 : Int32)), (.int p2)])) t
      refine XS.icmpYes X4.here hx rfl (pc0 := 112) (pc' := 134) rfl (hb hby at_112) rfl (flt h3).2.1 (by decide) (by decide) ?_
      show Steps p.tables e below (T4.setTop (mkF m 134 #[.val (.int p1), .val (.int p2), .val (.int p3), .val (.int (1 : Int32)), .val (.ref (ad 1)), .val (.int (1 : Int32)), .val (.int p2), .val (.int (-50 : Int32)), .val (.long ((p2.toInt64) + (-50 : Int64))), .second] [])) t
      refine XS.lload X4.here hx rfl (hb hby at_134) rfl ?_
      show Steps p.tables e below (T4.setTop (mkF m 136 #[.val (.int p1), .val (.int p2), .val (.int p3), .val (.int (1 : Int32)), .val (.ref (ad 1)), .val (.int (1 : Int32)), .val (.int p2), .val (.int (-50 : Int32)), .val (.long ((p2.toInt64) + (-50 : Int64))), .second] [(.long ((p2.toInt64) + (-50 : Int64)))])) t
      refine XS.iload X4.here hx rfl (hb hby at_136) rfl ?_
      show Steps p.tables e below (T4.setTop (mkF m 138 #[.val (.int p1), .val (.int p2), .val (.int p3), .val (.int (1 : Int32)), .val (.ref (ad 1)), .val (.int (1 : Int32)), .val (.int p2), .val (.int (-50 : Int32)), .val (.long ((p2.toInt64) + (-50 : Int64))), .second] [(.int p2), (.long ((p2.toInt64) + (-50 : Int64)))])) t
      refine XS.i2l X4.here hx rfl (hb hby at_138) rfl ?_
      show Steps p.tables e below (T4.setTop (mkF m 139 #[.val (.int p1), .val (.int p2), .val (.int p3), .val (.int (1 : Int32)), .val (.ref (ad 1)), .val (.int (1 : Int32)), .val (.int p2), .val (.int (-50 : Int32)), .val (.long ((p2.toInt64) + (-50 : Int64))), .second] [(.long (p2.toInt64)), (.long ((p2.toInt64) + (-50 : Int64)))])) t
      refine X4.ldc2Long hx hown (mvT hZ (hw _ (List.mem_of_getElem? (i := 13) rfl))) (g := (mkF m 139 #[.val (.int p1), .val (.int p2), .val (.int p3), .val (.int (1 : Int32)), .val (.ref (ad 1)), .val (.int (1 : Int32)), .val (.int p2), .val (.int (-50 : Int32)), .val (.long ((p2.toInt64) + (-50 : Int64))), .second] [(.long (p2.toInt64)), (.long ((p2.toInt64) + (-50 : Int64)))])) rfl (hb hby at_139) _ ?_
      show Steps p.tables e below (T4.setTop (mkF m 142 #[.val (.int p1), .val (.int p2), .val (.int p3), .val (.int (1 : Int32)), .val (.ref (ad 1)), .val (.int (1 : Int32)), .val (.int p2), .val (.int (-50 : Int32)), .val (.long ((p2.toInt64) + (-50 : Int64))), .second] [(.long (50 : Int64)), (.long (p2.toInt64)), (.long ((p2.toInt64) + (-50 : Int64)))])) t
      refine XS.lsub X4.here hx rfl (hb hby at_142) rfl ?_
      show Steps p.tables e below (T4.setTop (mkF m 143 #[.val (.int p1), .val (.int p2), .val (.int p3), .val (.int (1 : Int32)), .val (.ref (ad 1)), .val (.int (1 : Int32)), .val (.int p2), .val (.int (-50 : Int32)), .val (.long ((p2.toInt64) + (-50 : Int64))), .second] [(.long ((p2.toInt64) - (50 : Int64))), (.long ((p2.toInt64) + (-50 : Int64)))])) t
      refine XS.lcmp X4.here hx rfl (hb hby at_143) rfl ?_
      show Steps p.tables e below (T4.setTop (mkF m 144 #[.val (.int p1), .val (.int p2), .val (.int p3), .val (.int (1 : Int32)), .val (.ref (ad 1)), .val (.int (1 : Int32)), .val (.int p2), .val (.int (-50 : Int32)), .val (.long ((p2.toInt64) + (-50 : Int64))), .second] [(.int (lcmpW ((p2.toInt64) + (-50 : Int64)) ((p2.toInt64) - (50 : Int64))))])) t
      rw [own_lc1]
      show Steps p.tables e below (T4.setTop (mkF m 144 #[.val (.int p1), .val (.int p2), .val (.int p3), .val (.int (1 : Int32)), .val (.ref (ad 1)), .val (.int (1 : Int32)), .val (.int p2), .val (.int (-50 : Int32)), .val (.long ((p2.toInt64) + (-50 : Int64))), .second] [(.int (0 : Int32))])) t
      refine XS.ifNo X4.here hx rfl (hb hby at_144) rfl ((if0 _ _).trans (teq (by decide : (0 : Int32) = (0 : Int32))).2) ?_
      show Steps p.tables e below (T4.setTop (mkF m 147 #[.val (.int p1), .val (.int p2), .val (.int p3), .val (.int (1 : Int32)), .val (.ref (ad 1)), .val (.int (1 : Int32)), .val (.int p2), .val (.int (-50 : Int32)), .val (.long ((p2.toInt64) + (-50 : Int64))), .second] [])) t
      refine XS.iconst X4.here hx rfl (hb hby at_147) ?_
      show Steps p.tables e below (T4.setTop (mkF m 148 #[.val (.int p1), .val (.int p2), .val (.int p3), .val (.int (1 : Int32)), .val (.ref (ad 1)), .val (.int (1 : Int32)), .val (.int p2), .val (.int (-50 : Int32)), .val (.long ((p2.toInt64) + (-50 : Int64))), .second] [(.int (1 : Int32))])) t
      refine XS.goto X4.here hx rfl (pc0 := 148) (pc' := 152) rfl (hb hby at_148) (by decide) (by decide) ?_
      exact k)
  obtain ⟨fs, hr, hrun, hended, hW, hsame⟩ := X4.leave (v := some (.int (1 : Int32))) (fun h => by rw [Bd.returns] at h; cases h)
  refine ⟨_, _, ch6 _ ?_, hrun, hended, _, _, rfl, ?_, ⟨_, rfl⟩, hW, hsame.mono (by decide) (by decide)⟩
  · show Steps p.tables e below (T4.setTop (mkF m 152 #[.val (.int p1), .val (.int p2), .val (.int p3), .val (.int (1 : Int32)), .val (.ref (ad 1)), .val (.int (1 : Int32)), .val (.int p2), .val (.int (-50 : Int32)), .val (.long ((p2.toInt64) + (-50 : Int64))), .second] [(.int (1 : Int32))])) _
    exact retN X4 hx (t := .boolean) Bd.returns (by simp) (hb hby at_152) hr
  · show QN (some (.int (1 : Int32))) n0 _ T4.heap _
    rw [e4]
    exact ⟨rfl, N4⟩
theorem own_ef_own_add_2n (m : MethodId) {x0 : Addr} {x1 : Int32} : entryFrame m #[(.ref x0), (.int x1)] 3 = mkF m 0 #[.val (.ref x0), .val (.int x1), .unset] [] := by first | (simp [entryFrame, mkF, argsToLocals, Value.category, maxLocals]; done) | rfl
set_option maxRecDepth 65536 in
set_option maxHeartbeats 40000000 in
theorem own_add_2n (l : Launch) (Z : State) (a0 : Array Value) (hw : ∀ d ∈ tables_1, d.before a0 Z = true) (ws : List Jvm.Cond) (h0 : Heap) (n0 : Nat) (Z0 : n0 ≤ h0.size) (x : Int32) (h1 : x < (0 : Int32)) (ad : Nat → Addr) (W : OwnWd Z h0 ad) :
    MetFree l (⟨"com/example/isolint/isolint/bench/Change", "addedToEachValue", "(I)I"⟩ : MethodName) (head1 (Jvm.Cond.code (⟨"com/example/isolint/isolint/bench/Change", "addedToEachValue", "(I)I"⟩ : MethodName) prog_11_method_7_code 3 (some .int) :: ws) ({ frames := 0, cells := 0, slots := 0, locals := 0 } : Room)) (fun a U => a = #[(.ref (ad 2)), (.int x)] ∧ Z.Warmed39 U.vm ∧ U.heap = h0) (fun _ _ _ _ _ => True) (fun _ U o U' => ∃ v L, o = .returned v ∧ QV (some (.int (0 : Int32))) h0 n0 v U'.heap L ∧ FrameEnd U o U' L ({ frames := 0, cells := 0, slots := 0, locals := 0 } : Room).cells ({ frames := 0, cells := 0, slots := 0, locals := 0 } : Room).slots) := by
  refine MetFree.of_bodySF (plainFor_of_name own_pn_com_example_isolint_isolint_bench_Change) hisR ?_
  intro p e s m args below meth c s₁ Bd hml0 hP hK
  obtain ⟨rfl, hZ, hh⟩ := hP
  have hx := Bd.exec
  have hby := Bd.bytes
  have hml : c.maxLocals = 3 := hml0
  have hown : s.vm.findClass "com/example/isolint/isolint/bench/Change" = some m.cls := findClass_of_methodNamed Bd.named
  have hnm := (name_of_methodNamed Bd.named Bd.method).1
  have X0 : Stand p l e ({ frames := 0, cells := 0, slots := 0, locals := 0 } : Room) s m #[(.ref (ad 2)), (.int x)] below meth c s₁ [] 0 0 := Stand.of_body Bd
  have e0 : s₁.heap = h0 := by rw [← hh, Bd.state]; rfl
  have N0 := Fr.nil n0
  have pre0 : ∀ t, Steps p.tables e below (s₁.setTop (mkF m 0 #[.val (.ref (ad 2)), .val (.int x), .unset] [])) t → Steps p.tables e below (s₁.setTop (entryFrame m #[(.ref (ad 2)), (.int x)] 3)) t := fun t k => castTop (own_ef_own_add_2n m) k
  obtain ⟨T1, X1, e1, st1⟩ := getF X0 hx hZ hown (host := "") (Or.inl (hw _ (List.mem_of_getElem? (i := 9) rfl))) Via.refl e0 (own_F_CHANGE_AB_writesA W) (g := (mkF m 31 #[.val (.ref (ad 2)), .val (.int x), .val (.int (0 : Int32))] [(.ref (ad 2))])) rfl rfl (hb hby own_d_prog_11_method_7_code_31)
  have ch2 : ∀ t, Steps p.tables e below (T1.setTop (mkF m 34 #[.val (.ref (ad 2)), .val (.int x), .val (.int (0 : Int32))] [(.int (1 : Int32))])) t → Steps p.tables e below (s₁.setTop (entryFrame m #[(.ref (ad 2)), (.int x)] 3)) t := fun t k => pre0 t (by
      show Steps p.tables e below (s₁.setTop (mkF m 0 #[.val (.ref (ad 2)), .val (.int x), .unset] [])) t
      refine XS.iloadN X0.here hx rfl (hb hby own_d_prog_11_method_7_code_0) rfl ?_
      show Steps p.tables e below (s₁.setTop (mkF m 1 #[.val (.ref (ad 2)), .val (.int x), .unset] [(.int x)])) t
      refine XS.ifYes X0.here hx rfl (pc0 := 1) (pc' := 10) rfl (hb hby own_d_prog_11_method_7_code_1) rfl ((if0 _ _).trans (tlt h1).1) (by decide) (by decide) ?_
      show Steps p.tables e below (s₁.setTop (mkF m 10 #[.val (.ref (ad 2)), .val (.int x), .unset] [])) t
      refine XS.iconst X0.here hx rfl (hb hby own_d_prog_11_method_7_code_10) ?_
      show Steps p.tables e below (s₁.setTop (mkF m 11 #[.val (.ref (ad 2)), .val (.int x), .unset] [(.int (0 : Int32))])) t
      refine XS.istoreN X0.here hx rfl (hb hby own_d_prog_11_method_7_code_11) rfl (l' := #[.val (.ref (ad 2)), .val (.int x), .val (.int (0 : Int32))]) rfl ?_
      show Steps p.tables e below (s₁.setTop (mkF m 12 #[.val (.ref (ad 2)), .val (.int x), .val (.int (0 : Int32))] [])) t
      refine XS.goto X0.here hx rfl (pc0 := 12) (pc' := 30) rfl (hb hby own_d_prog_11_method_7_code_12) (by decide) (by decide) ?_
      show Steps p.tables e below (s₁.setTop (mkF m 30 #[.val (.ref (ad 2)), .val (.int x), .val (.int (0 : Int32))] [])) t
      refine XS.aloadN X0.here hx rfl (hb hby own_d_prog_11_method_7_code_30) rfl rfl ?_
      show Steps p.tables e below (s₁.setTop (mkF m 31 #[.val (.ref (ad 2)), .val (.int x), .val (.int (0 : Int32))] [(.ref (ad 2))])) t
      exact st1 t k)
  obtain ⟨T3, X3, e3, st3⟩ := getF X1 hx hZ hown (host := "") (Or.inl (hw _ (List.mem_of_getElem? (i := 11) rfl))) Via.refl e1 (own_F_CHANGE_AB_writesB W) (g := (mkF m 38 #[.val (.ref (ad 2)), .val (.int x), .val (.int (0 : Int32))] [(.ref (ad 2))])) rfl rfl (hb hby own_d_prog_11_method_7_code_38)
  have ch4 : ∀ t, Steps p.tables e below (T3.setTop (mkF m 41 #[.val (.ref (ad 2)), .val (.int x), .val (.int (0 : Int32))] [(.int (1 : Int32))])) t → Steps p.tables e below (s₁.setTop (entryFrame m #[(.ref (ad 2)), (.int x)] 3)) t := fun t k => ch2 t (by
      show Steps p.tables e below (T1.setTop (mkF m 34 #[.val (.ref (ad 2)), .val (.int x), .val (.int (0 : Int32))] [(.int (1 : Int32))])) t
      refine XS.ifNo X1.here hx rfl (hb hby own_d_prog_11_method_7_code_34) rfl ((if0 _ _).trans (feq (by decide : ¬ (1 : Int32) = (0 : Int32))).1) ?_
      show Steps p.tables e below (T1.setTop (mkF m 37 #[.val (.ref (ad 2)), .val (.int x), .val (.int (0 : Int32))] [])) t
      refine XS.aloadN X1.here hx rfl (hb hby own_d_prog_11_method_7_code_37) rfl rfl ?_
      show Steps p.tables e below (T1.setTop (mkF m 38 #[.val (.ref (ad 2)), .val (.int x), .val (.int (0 : Int32))] [(.ref (ad 2))])) t
      exact st3 t k)
  have ch5 : ∀ t, Steps p.tables e below (T3.setTop (mkF m 51 #[.val (.ref (ad 2)), .val (.int x), .val (.int (0 : Int32))] [(.int (0 : Int32))])) t → Steps p.tables e below (s₁.setTop (entryFrame m #[(.ref (ad 2)), (.int x)] 3)) t := fun t k => ch4 t (by
      show Steps p.tables e below (T3.setTop (mkF m 41 #[.val (.ref (ad 2)), .val (.int x), .val (.int (0 : Int32))] [(.int (1 : Int32))])) t
      refine XS.ifNo X3.here hx rfl (hb hby own_d_prog_11_method_7_code_41) rfl ((if0 _ _).trans (feq (by decide : ¬ (1 : Int32) = (0 : Int32))).1) ?_
      show Steps p.tables e below (T3.setTop (mkF m 44 #[.val (.ref (ad 2)), .val (.int x), .val (.int (0 : Int32))] [])) t
      refine XS.iloadN X3.here hx rfl (hb hby own_d_prog_11_method_7_code_44) rfl ?_
      show Steps p.tables e below (T3.setTop (mkF m 45 #[.val (.ref (ad 2)), .val (.int x), .val (.int (0 : Int32))] [(.int (0 : Int32))])) t
      refine XS.iconst X3.here hx rfl (hb hby own_d_prog_11_method_7_code_45) ?_
      show Steps p.tables e below (T3.setTop (mkF m 46 #[.val (.ref (ad 2)), .val (.int x), .val (.int (0 : Int32))] [(.int (2 : Int32)), (.int (0 : Int32))])) t
      refine XS.idiv X3.here hx rfl (hb hby own_d_prog_11_method_7_code_46) rfl (by decide) ?_
      rw [show ((0 : Int32) / (2 : Int32)) = (0 : Int32) from by decide]
      show Steps p.tables e below (T3.setTop (mkF m 47 #[.val (.ref (ad 2)), .val (.int x), .val (.int (0 : Int32))] [(.int (0 : Int32))])) t
      refine XS.goto X3.here hx rfl (pc0 := 47) (pc' := 51) rfl (hb hby own_d_prog_11_method_7_code_47) (by decide) (by decide) ?_
      exact k)
  obtain ⟨fs, hr, hrun, hended, hW, hsame⟩ := X3.leave (v := some (.int (0 : Int32))) (fun h => by rw [Bd.returns] at h; cases h)
  refine ⟨_, _, ch5 _ ?_, hrun, hended, _, _, rfl, ?_, ⟨_, rfl⟩, hW, hsame.mono (by decide) (by decide)⟩
  · show Steps p.tables e below (T3.setTop (mkF m 51 #[.val (.ref (ad 2)), .val (.int x), .val (.int (0 : Int32))] [(.int (0 : Int32))])) _
    exact retI X3 hx Bd.returns (hb hby own_d_prog_11_method_7_code_51) hr
  · show QV (some (.int (0 : Int32))) h0 n0 _ T3.heap _
    rw [e3]
    exact ⟨rfl, N0, rfl⟩
theorem own_ef_own_add_2g (m : MethodId) {x0 : Addr} {x1 : Int32} : entryFrame m #[(.ref x0), (.int x1)] 3 = mkF m 0 #[.val (.ref x0), .val (.int x1), .unset] [] := by first | (simp [entryFrame, mkF, argsToLocals, Value.category, maxLocals]; done) | rfl
set_option maxRecDepth 65536 in
set_option maxHeartbeats 40000000 in
theorem own_add_2g (l : Launch) (Z : State) (a0 : Array Value) (hw : ∀ d ∈ tables_1, d.before a0 Z = true) (ws : List Jvm.Cond) (h0 : Heap) (n0 : Nat) (Z0 : n0 ≤ h0.size) (x : Int32) (h1 : ¬ x < (0 : Int32)) (h2 : (99 : Int32) < x) (ad : Nat → Addr) (W : OwnWd Z h0 ad) :
    MetFree l (⟨"com/example/isolint/isolint/bench/Change", "addedToEachValue", "(I)I"⟩ : MethodName) (head1 (Jvm.Cond.code (⟨"com/example/isolint/isolint/bench/Change", "addedToEachValue", "(I)I"⟩ : MethodName) prog_11_method_7_code 3 (some .int) :: ws) ({ frames := 0, cells := 0, slots := 0, locals := 0 } : Room)) (fun a U => a = #[(.ref (ad 2)), (.int x)] ∧ Z.Warmed39 U.vm ∧ U.heap = h0) (fun _ _ _ _ _ => True) (fun _ U o U' => ∃ v L, o = .returned v ∧ QV (some (.int (0 : Int32))) h0 n0 v U'.heap L ∧ FrameEnd U o U' L ({ frames := 0, cells := 0, slots := 0, locals := 0 } : Room).cells ({ frames := 0, cells := 0, slots := 0, locals := 0 } : Room).slots) := by
  refine MetFree.of_bodySF (plainFor_of_name own_pn_com_example_isolint_isolint_bench_Change) hisR ?_
  intro p e s m args below meth c s₁ Bd hml0 hP hK
  obtain ⟨rfl, hZ, hh⟩ := hP
  have hx := Bd.exec
  have hby := Bd.bytes
  have hml : c.maxLocals = 3 := hml0
  have hown : s.vm.findClass "com/example/isolint/isolint/bench/Change" = some m.cls := findClass_of_methodNamed Bd.named
  have hnm := (name_of_methodNamed Bd.named Bd.method).1
  have X0 : Stand p l e ({ frames := 0, cells := 0, slots := 0, locals := 0 } : Room) s m #[(.ref (ad 2)), (.int x)] below meth c s₁ [] 0 0 := Stand.of_body Bd
  have e0 : s₁.heap = h0 := by rw [← hh, Bd.state]; rfl
  have N0 := Fr.nil n0
  have pre0 : ∀ t, Steps p.tables e below (s₁.setTop (mkF m 0 #[.val (.ref (ad 2)), .val (.int x), .unset] [])) t → Steps p.tables e below (s₁.setTop (entryFrame m #[(.ref (ad 2)), (.int x)] 3)) t := fun t k => castTop (own_ef_own_add_2g m) k
  obtain ⟨T1, X1, e1, st1⟩ := getF X0 hx hZ hown (host := "") (Or.inl (hw _ (List.mem_of_getElem? (i := 9) rfl))) Via.refl e0 (own_F_CHANGE_AB_writesA W) (g := (mkF m 31 #[.val (.ref (ad 2)), .val (.int x), .val (.int (0 : Int32))] [(.ref (ad 2))])) rfl rfl (hb hby own_d_prog_11_method_7_code_31)
  have ch2 : ∀ t, Steps p.tables e below (T1.setTop (mkF m 34 #[.val (.ref (ad 2)), .val (.int x), .val (.int (0 : Int32))] [(.int (1 : Int32))])) t → Steps p.tables e below (s₁.setTop (entryFrame m #[(.ref (ad 2)), (.int x)] 3)) t := fun t k => pre0 t (by
      show Steps p.tables e below (s₁.setTop (mkF m 0 #[.val (.ref (ad 2)), .val (.int x), .unset] [])) t
      refine XS.iloadN X0.here hx rfl (hb hby own_d_prog_11_method_7_code_0) rfl ?_
      show Steps p.tables e below (s₁.setTop (mkF m 1 #[.val (.ref (ad 2)), .val (.int x), .unset] [(.int x)])) t
      refine XS.ifNo X0.here hx rfl (hb hby own_d_prog_11_method_7_code_1) rfl ((if0 _ _).trans (flt h1).1) ?_
      show Steps p.tables e below (s₁.setTop (mkF m 4 #[.val (.ref (ad 2)), .val (.int x), .unset] [])) t
      refine XS.iloadN X0.here hx rfl (hb hby own_d_prog_11_method_7_code_4) rfl ?_
      show Steps p.tables e below (s₁.setTop (mkF m 5 #[.val (.ref (ad 2)), .val (.int x), .unset] [(.int x)])) t
      refine XS.bipush X0.here hx rfl (hb hby own_d_prog_11_method_7_code_5) ?_
      show Steps p.tables e below (s₁.setTop (mkF m 7 #[.val (.ref (ad 2)), .val (.int x), .unset] [(.int (99 : Int32)), (.int x)])) t
      refine XS.icmpNo X0.here hx rfl (hb hby own_d_prog_11_method_7_code_7) rfl (tlt h2).2.2.2 ?_
      show Steps p.tables e below (s₁.setTop (mkF m 10 #[.val (.ref (ad 2)), .val (.int x), .unset] [])) t
      refine XS.iconst X0.here hx rfl (hb hby own_d_prog_11_method_7_code_10) ?_
      show Steps p.tables e below (s₁.setTop (mkF m 11 #[.val (.ref (ad 2)), .val (.int x), .unset] [(.int (0 : Int32))])) t
      refine XS.istoreN X0.here hx rfl (hb hby own_d_prog_11_method_7_code_11) rfl (l' := #[.val (.ref (ad 2)), .val (.int x), .val (.int (0 : Int32))]) rfl ?_
      show Steps p.tables e below (s₁.setTop (mkF m 12 #[.val (.ref (ad 2)), .val (.int x), .val (.int (0 : Int32))] [])) t
      refine XS.goto X0.here hx rfl (pc0 := 12) (pc' := 30) rfl (hb hby own_d_prog_11_method_7_code_12) (by decide) (by decide) ?_
      show Steps p.tables e below (s₁.setTop (mkF m 30 #[.val (.ref (ad 2)), .val (.int x), .val (.int (0 : Int32))] [])) t
      refine XS.aloadN X0.here hx rfl (hb hby own_d_prog_11_method_7_code_30) rfl rfl ?_
      show Steps p.tables e below (s₁.setTop (mkF m 31 #[.val (.ref (ad 2)), .val (.int x), .val (.int (0 : Int32))] [(.ref (ad 2))])) t
      exact st1 t k)
  obtain ⟨T3, X3, e3, st3⟩ := getF X1 hx hZ hown (host := "") (Or.inl (hw _ (List.mem_of_getElem? (i := 11) rfl))) Via.refl e1 (own_F_CHANGE_AB_writesB W) (g := (mkF m 38 #[.val (.ref (ad 2)), .val (.int x), .val (.int (0 : Int32))] [(.ref (ad 2))])) rfl rfl (hb hby own_d_prog_11_method_7_code_38)
  have ch4 : ∀ t, Steps p.tables e below (T3.setTop (mkF m 41 #[.val (.ref (ad 2)), .val (.int x), .val (.int (0 : Int32))] [(.int (1 : Int32))])) t → Steps p.tables e below (s₁.setTop (entryFrame m #[(.ref (ad 2)), (.int x)] 3)) t := fun t k => ch2 t (by
      show Steps p.tables e below (T1.setTop (mkF m 34 #[.val (.ref (ad 2)), .val (.int x), .val (.int (0 : Int32))] [(.int (1 : Int32))])) t
      refine XS.ifNo X1.here hx rfl (hb hby own_d_prog_11_method_7_code_34) rfl ((if0 _ _).trans (feq (by decide : ¬ (1 : Int32) = (0 : Int32))).1) ?_
      show Steps p.tables e below (T1.setTop (mkF m 37 #[.val (.ref (ad 2)), .val (.int x), .val (.int (0 : Int32))] [])) t
      refine XS.aloadN X1.here hx rfl (hb hby own_d_prog_11_method_7_code_37) rfl rfl ?_
      show Steps p.tables e below (T1.setTop (mkF m 38 #[.val (.ref (ad 2)), .val (.int x), .val (.int (0 : Int32))] [(.ref (ad 2))])) t
      exact st3 t k)
  have ch5 : ∀ t, Steps p.tables e below (T3.setTop (mkF m 51 #[.val (.ref (ad 2)), .val (.int x), .val (.int (0 : Int32))] [(.int (0 : Int32))])) t → Steps p.tables e below (s₁.setTop (entryFrame m #[(.ref (ad 2)), (.int x)] 3)) t := fun t k => ch4 t (by
      show Steps p.tables e below (T3.setTop (mkF m 41 #[.val (.ref (ad 2)), .val (.int x), .val (.int (0 : Int32))] [(.int (1 : Int32))])) t
      refine XS.ifNo X3.here hx rfl (hb hby own_d_prog_11_method_7_code_41) rfl ((if0 _ _).trans (feq (by decide : ¬ (1 : Int32) = (0 : Int32))).1) ?_
      show Steps p.tables e below (T3.setTop (mkF m 44 #[.val (.ref (ad 2)), .val (.int x), .val (.int (0 : Int32))] [])) t
      refine XS.iloadN X3.here hx rfl (hb hby own_d_prog_11_method_7_code_44) rfl ?_
      show Steps p.tables e below (T3.setTop (mkF m 45 #[.val (.ref (ad 2)), .val (.int x), .val (.int (0 : Int32))] [(.int (0 : Int32))])) t
      refine XS.iconst X3.here hx rfl (hb hby own_d_prog_11_method_7_code_45) ?_
      show Steps p.tables e below (T3.setTop (mkF m 46 #[.val (.ref (ad 2)), .val (.int x), .val (.int (0 : Int32))] [(.int (2 : Int32)), (.int (0 : Int32))])) t
      refine XS.idiv X3.here hx rfl (hb hby own_d_prog_11_method_7_code_46) rfl (by decide) ?_
      rw [show ((0 : Int32) / (2 : Int32)) = (0 : Int32) from by decide]
      show Steps p.tables e below (T3.setTop (mkF m 47 #[.val (.ref (ad 2)), .val (.int x), .val (.int (0 : Int32))] [(.int (0 : Int32))])) t
      refine XS.goto X3.here hx rfl (pc0 := 47) (pc' := 51) rfl (hb hby own_d_prog_11_method_7_code_47) (by decide) (by decide) ?_
      exact k)
  obtain ⟨fs, hr, hrun, hended, hW, hsame⟩ := X3.leave (v := some (.int (0 : Int32))) (fun h => by rw [Bd.returns] at h; cases h)
  refine ⟨_, _, ch5 _ ?_, hrun, hended, _, _, rfl, ?_, ⟨_, rfl⟩, hW, hsame.mono (by decide) (by decide)⟩
  · show Steps p.tables e below (T3.setTop (mkF m 51 #[.val (.ref (ad 2)), .val (.int x), .val (.int (0 : Int32))] [(.int (0 : Int32))])) _
    exact retI X3 hx Bd.returns (hb hby own_d_prog_11_method_7_code_51) hr
  · show QV (some (.int (0 : Int32))) h0 n0 _ T3.heap _
    rw [e3]
    exact ⟨rfl, N0, rfl⟩
theorem own_ef_own_add_2l (m : MethodId) {x0 : Addr} {x1 : Int32} : entryFrame m #[(.ref x0), (.int x1)] 3 = mkF m 0 #[.val (.ref x0), .val (.int x1), .unset] [] := by first | (simp [entryFrame, mkF, argsToLocals, Value.category, maxLocals]; done) | rfl
set_option maxRecDepth 65536 in
set_option maxHeartbeats 40000000 in
theorem own_add_2l (l : Launch) (Z : State) (a0 : Array Value) (hw : ∀ d ∈ tables_1, d.before a0 Z = true) (ws : List Jvm.Cond) (h0 : Heap) (n0 : Nat) (Z0 : n0 ≤ h0.size) (x : Int32) (h1 : ¬ x < (0 : Int32)) (h2 : ¬ (99 : Int32) < x) (h3 : x < (50 : Int32)) (ad : Nat → Addr) (W : OwnWd Z h0 ad) :
    MetFree l (⟨"com/example/isolint/isolint/bench/Change", "addedToEachValue", "(I)I"⟩ : MethodName) (head1 (Jvm.Cond.code (⟨"com/example/isolint/isolint/bench/Change", "addedToEachValue", "(I)I"⟩ : MethodName) prog_11_method_7_code 3 (some .int) :: ws) ({ frames := 0, cells := 0, slots := 0, locals := 0 } : Room)) (fun a U => a = #[(.ref (ad 2)), (.int x)] ∧ Z.Warmed39 U.vm ∧ U.heap = h0) (fun _ _ _ _ _ => True) (fun _ U o U' => ∃ v L, o = .returned v ∧ QV (some (.int (25 : Int32))) h0 n0 v U'.heap L ∧ FrameEnd U o U' L ({ frames := 0, cells := 0, slots := 0, locals := 0 } : Room).cells ({ frames := 0, cells := 0, slots := 0, locals := 0 } : Room).slots) := by
  refine MetFree.of_bodySF (plainFor_of_name own_pn_com_example_isolint_isolint_bench_Change) hisR ?_
  intro p e s m args below meth c s₁ Bd hml0 hP hK
  obtain ⟨rfl, hZ, hh⟩ := hP
  have hx := Bd.exec
  have hby := Bd.bytes
  have hml : c.maxLocals = 3 := hml0
  have hown : s.vm.findClass "com/example/isolint/isolint/bench/Change" = some m.cls := findClass_of_methodNamed Bd.named
  have hnm := (name_of_methodNamed Bd.named Bd.method).1
  have X0 : Stand p l e ({ frames := 0, cells := 0, slots := 0, locals := 0 } : Room) s m #[(.ref (ad 2)), (.int x)] below meth c s₁ [] 0 0 := Stand.of_body Bd
  have e0 : s₁.heap = h0 := by rw [← hh, Bd.state]; rfl
  have N0 := Fr.nil n0
  have pre0 : ∀ t, Steps p.tables e below (s₁.setTop (mkF m 0 #[.val (.ref (ad 2)), .val (.int x), .unset] [])) t → Steps p.tables e below (s₁.setTop (entryFrame m #[(.ref (ad 2)), (.int x)] 3)) t := fun t k => castTop (own_ef_own_add_2l m) k
  obtain ⟨T1, X1, e1, st1⟩ := getF X0 hx hZ hown (host := "") (Or.inl (hw _ (List.mem_of_getElem? (i := 9) rfl))) Via.refl e0 (own_F_CHANGE_AB_writesA W) (g := (mkF m 31 #[.val (.ref (ad 2)), .val (.int x), .val (.int (50 : Int32))] [(.ref (ad 2))])) rfl rfl (hb hby own_d_prog_11_method_7_code_31)
  have ch2 : ∀ t, Steps p.tables e below (T1.setTop (mkF m 34 #[.val (.ref (ad 2)), .val (.int x), .val (.int (50 : Int32))] [(.int (1 : Int32))])) t → Steps p.tables e below (s₁.setTop (entryFrame m #[(.ref (ad 2)), (.int x)] 3)) t := fun t k => pre0 t (by
      show Steps p.tables e below (s₁.setTop (mkF m 0 #[.val (.ref (ad 2)), .val (.int x), .unset] [])) t
      refine XS.iloadN X0.here hx rfl (hb hby own_d_prog_11_method_7_code_0) rfl ?_
      show Steps p.tables e below (s₁.setTop (mkF m 1 #[.val (.ref (ad 2)), .val (.int x), .unset] [(.int x)])) t
      refine XS.ifNo X0.here hx rfl (hb hby own_d_prog_11_method_7_code_1) rfl ((if0 _ _).trans (flt h1).1) ?_
      show Steps p.tables e below (s₁.setTop (mkF m 4 #[.val (.ref (ad 2)), .val (.int x), .unset] [])) t
      refine XS.iloadN X0.here hx rfl (hb hby own_d_prog_11_method_7_code_4) rfl ?_
      show Steps p.tables e below (s₁.setTop (mkF m 5 #[.val (.ref (ad 2)), .val (.int x), .unset] [(.int x)])) t
      refine XS.bipush X0.here hx rfl (hb hby own_d_prog_11_method_7_code_5) ?_
      show Steps p.tables e below (s₁.setTop (mkF m 7 #[.val (.ref (ad 2)), .val (.int x), .unset] [(.int (99 : Int32)), (.int x)])) t
      refine XS.icmpYes X0.here hx rfl (pc0 := 7) (pc' := 15) rfl (hb hby own_d_prog_11_method_7_code_7) rfl (flt h2).2.2.2 (by decide) (by decide) ?_
      show Steps p.tables e below (s₁.setTop (mkF m 15 #[.val (.ref (ad 2)), .val (.int x), .unset] [])) t
      refine XS.iloadN X0.here hx rfl (hb hby own_d_prog_11_method_7_code_15) rfl ?_
      show Steps p.tables e below (s₁.setTop (mkF m 16 #[.val (.ref (ad 2)), .val (.int x), .unset] [(.int x)])) t
      refine XS.bipush X0.here hx rfl (hb hby own_d_prog_11_method_7_code_16) ?_
      show Steps p.tables e below (s₁.setTop (mkF m 18 #[.val (.ref (ad 2)), .val (.int x), .unset] [(.int (50 : Int32)), (.int x)])) t
      refine XS.icmpNo X0.here hx rfl (hb hby own_d_prog_11_method_7_code_18) rfl (tlt h3).2.1 ?_
      show Steps p.tables e below (s₁.setTop (mkF m 21 #[.val (.ref (ad 2)), .val (.int x), .unset] [])) t
      refine XS.bipush X0.here hx rfl (hb hby own_d_prog_11_method_7_code_21) ?_
      show Steps p.tables e below (s₁.setTop (mkF m 23 #[.val (.ref (ad 2)), .val (.int x), .unset] [(.int (50 : Int32))])) t
      refine XS.istoreN X0.here hx rfl (hb hby own_d_prog_11_method_7_code_23) rfl (l' := #[.val (.ref (ad 2)), .val (.int x), .val (.int (50 : Int32))]) rfl ?_
      show Steps p.tables e below (s₁.setTop (mkF m 24 #[.val (.ref (ad 2)), .val (.int x), .val (.int (50 : Int32))] [])) t
      refine XS.goto X0.here hx rfl (pc0 := 24) (pc' := 30) rfl (hb hby own_d_prog_11_method_7_code_24) (by decide) (by decide) ?_
      show Steps p.tables e below (s₁.setTop (mkF m 30 #[.val (.ref (ad 2)), .val (.int x), .val (.int (50 : Int32))] [])) t
      refine XS.aloadN X0.here hx rfl (hb hby own_d_prog_11_method_7_code_30) rfl rfl ?_
      show Steps p.tables e below (s₁.setTop (mkF m 31 #[.val (.ref (ad 2)), .val (.int x), .val (.int (50 : Int32))] [(.ref (ad 2))])) t
      exact st1 t k)
  obtain ⟨T3, X3, e3, st3⟩ := getF X1 hx hZ hown (host := "") (Or.inl (hw _ (List.mem_of_getElem? (i := 11) rfl))) Via.refl e1 (own_F_CHANGE_AB_writesB W) (g := (mkF m 38 #[.val (.ref (ad 2)), .val (.int x), .val (.int (50 : Int32))] [(.ref (ad 2))])) rfl rfl (hb hby own_d_prog_11_method_7_code_38)
  have ch4 : ∀ t, Steps p.tables e below (T3.setTop (mkF m 41 #[.val (.ref (ad 2)), .val (.int x), .val (.int (50 : Int32))] [(.int (1 : Int32))])) t → Steps p.tables e below (s₁.setTop (entryFrame m #[(.ref (ad 2)), (.int x)] 3)) t := fun t k => ch2 t (by
      show Steps p.tables e below (T1.setTop (mkF m 34 #[.val (.ref (ad 2)), .val (.int x), .val (.int (50 : Int32))] [(.int (1 : Int32))])) t
      refine XS.ifNo X1.here hx rfl (hb hby own_d_prog_11_method_7_code_34) rfl ((if0 _ _).trans (feq (by decide : ¬ (1 : Int32) = (0 : Int32))).1) ?_
      show Steps p.tables e below (T1.setTop (mkF m 37 #[.val (.ref (ad 2)), .val (.int x), .val (.int (50 : Int32))] [])) t
      refine XS.aloadN X1.here hx rfl (hb hby own_d_prog_11_method_7_code_37) rfl rfl ?_
      show Steps p.tables e below (T1.setTop (mkF m 38 #[.val (.ref (ad 2)), .val (.int x), .val (.int (50 : Int32))] [(.ref (ad 2))])) t
      exact st3 t k)
  have ch5 : ∀ t, Steps p.tables e below (T3.setTop (mkF m 51 #[.val (.ref (ad 2)), .val (.int x), .val (.int (50 : Int32))] [(.int (25 : Int32))])) t → Steps p.tables e below (s₁.setTop (entryFrame m #[(.ref (ad 2)), (.int x)] 3)) t := fun t k => ch4 t (by
      show Steps p.tables e below (T3.setTop (mkF m 41 #[.val (.ref (ad 2)), .val (.int x), .val (.int (50 : Int32))] [(.int (1 : Int32))])) t
      refine XS.ifNo X3.here hx rfl (hb hby own_d_prog_11_method_7_code_41) rfl ((if0 _ _).trans (feq (by decide : ¬ (1 : Int32) = (0 : Int32))).1) ?_
      show Steps p.tables e below (T3.setTop (mkF m 44 #[.val (.ref (ad 2)), .val (.int x), .val (.int (50 : Int32))] [])) t
      refine XS.iloadN X3.here hx rfl (hb hby own_d_prog_11_method_7_code_44) rfl ?_
      show Steps p.tables e below (T3.setTop (mkF m 45 #[.val (.ref (ad 2)), .val (.int x), .val (.int (50 : Int32))] [(.int (50 : Int32))])) t
      refine XS.iconst X3.here hx rfl (hb hby own_d_prog_11_method_7_code_45) ?_
      show Steps p.tables e below (T3.setTop (mkF m 46 #[.val (.ref (ad 2)), .val (.int x), .val (.int (50 : Int32))] [(.int (2 : Int32)), (.int (50 : Int32))])) t
      refine XS.idiv X3.here hx rfl (hb hby own_d_prog_11_method_7_code_46) rfl (by decide) ?_
      rw [show ((50 : Int32) / (2 : Int32)) = (25 : Int32) from by decide]
      show Steps p.tables e below (T3.setTop (mkF m 47 #[.val (.ref (ad 2)), .val (.int x), .val (.int (50 : Int32))] [(.int (25 : Int32))])) t
      refine XS.goto X3.here hx rfl (pc0 := 47) (pc' := 51) rfl (hb hby own_d_prog_11_method_7_code_47) (by decide) (by decide) ?_
      exact k)
  obtain ⟨fs, hr, hrun, hended, hW, hsame⟩ := X3.leave (v := some (.int (25 : Int32))) (fun h => by rw [Bd.returns] at h; cases h)
  refine ⟨_, _, ch5 _ ?_, hrun, hended, _, _, rfl, ?_, ⟨_, rfl⟩, hW, hsame.mono (by decide) (by decide)⟩
  · show Steps p.tables e below (T3.setTop (mkF m 51 #[.val (.ref (ad 2)), .val (.int x), .val (.int (50 : Int32))] [(.int (25 : Int32))])) _
    exact retI X3 hx Bd.returns (hb hby own_d_prog_11_method_7_code_51) hr
  · show QV (some (.int (25 : Int32))) h0 n0 _ T3.heap _
    rw [e3]
    exact ⟨rfl, N0, rfl⟩
theorem own_ef_own_add_2h (m : MethodId) {x0 : Addr} {x1 : Int32} : entryFrame m #[(.ref x0), (.int x1)] 3 = mkF m 0 #[.val (.ref x0), .val (.int x1), .unset] [] := by first | (simp [entryFrame, mkF, argsToLocals, Value.category, maxLocals]; done) | rfl
set_option maxRecDepth 65536 in
set_option maxHeartbeats 40000000 in
theorem own_add_2h (l : Launch) (Z : State) (a0 : Array Value) (hw : ∀ d ∈ tables_1, d.before a0 Z = true) (ws : List Jvm.Cond) (h0 : Heap) (n0 : Nat) (Z0 : n0 ≤ h0.size) (x : Int32) (h1 : ¬ x < (0 : Int32)) (h2 : ¬ (99 : Int32) < x) (h3 : ¬ x < (50 : Int32)) (ad : Nat → Addr) (W : OwnWd Z h0 ad) :
    MetFree l (⟨"com/example/isolint/isolint/bench/Change", "addedToEachValue", "(I)I"⟩ : MethodName) (head1 (Jvm.Cond.code (⟨"com/example/isolint/isolint/bench/Change", "addedToEachValue", "(I)I"⟩ : MethodName) prog_11_method_7_code 3 (some .int) :: ws) ({ frames := 0, cells := 0, slots := 0, locals := 0 } : Room)) (fun a U => a = #[(.ref (ad 2)), (.int x)] ∧ Z.Warmed39 U.vm ∧ U.heap = h0) (fun _ _ _ _ _ => True) (fun _ U o U' => ∃ v L, o = .returned v ∧ QV (some (.int (-25 : Int32))) h0 n0 v U'.heap L ∧ FrameEnd U o U' L ({ frames := 0, cells := 0, slots := 0, locals := 0 } : Room).cells ({ frames := 0, cells := 0, slots := 0, locals := 0 } : Room).slots) := by
  refine MetFree.of_bodySF (plainFor_of_name own_pn_com_example_isolint_isolint_bench_Change) hisR ?_
  intro p e s m args below meth c s₁ Bd hml0 hP hK
  obtain ⟨rfl, hZ, hh⟩ := hP
  have hx := Bd.exec
  have hby := Bd.bytes
  have hml : c.maxLocals = 3 := hml0
  have hown : s.vm.findClass "com/example/isolint/isolint/bench/Change" = some m.cls := findClass_of_methodNamed Bd.named
  have hnm := (name_of_methodNamed Bd.named Bd.method).1
  have X0 : Stand p l e ({ frames := 0, cells := 0, slots := 0, locals := 0 } : Room) s m #[(.ref (ad 2)), (.int x)] below meth c s₁ [] 0 0 := Stand.of_body Bd
  have e0 : s₁.heap = h0 := by rw [← hh, Bd.state]; rfl
  have N0 := Fr.nil n0
  have pre0 : ∀ t, Steps p.tables e below (s₁.setTop (mkF m 0 #[.val (.ref (ad 2)), .val (.int x), .unset] [])) t → Steps p.tables e below (s₁.setTop (entryFrame m #[(.ref (ad 2)), (.int x)] 3)) t := fun t k => castTop (own_ef_own_add_2h m) k
  obtain ⟨T1, X1, e1, st1⟩ := getF X0 hx hZ hown (host := "") (Or.inl (hw _ (List.mem_of_getElem? (i := 9) rfl))) Via.refl e0 (own_F_CHANGE_AB_writesA W) (g := (mkF m 31 #[.val (.ref (ad 2)), .val (.int x), .val (.int (-50 : Int32))] [(.ref (ad 2))])) rfl rfl (hb hby own_d_prog_11_method_7_code_31)
  have ch2 : ∀ t, Steps p.tables e below (T1.setTop (mkF m 34 #[.val (.ref (ad 2)), .val (.int x), .val (.int (-50 : Int32))] [(.int (1 : Int32))])) t → Steps p.tables e below (s₁.setTop (entryFrame m #[(.ref (ad 2)), (.int x)] 3)) t := fun t k => pre0 t (by
      show Steps p.tables e below (s₁.setTop (mkF m 0 #[.val (.ref (ad 2)), .val (.int x), .unset] [])) t
      refine XS.iloadN X0.here hx rfl (hb hby own_d_prog_11_method_7_code_0) rfl ?_
      show Steps p.tables e below (s₁.setTop (mkF m 1 #[.val (.ref (ad 2)), .val (.int x), .unset] [(.int x)])) t
      refine XS.ifNo X0.here hx rfl (hb hby own_d_prog_11_method_7_code_1) rfl ((if0 _ _).trans (flt h1).1) ?_
      show Steps p.tables e below (s₁.setTop (mkF m 4 #[.val (.ref (ad 2)), .val (.int x), .unset] [])) t
      refine XS.iloadN X0.here hx rfl (hb hby own_d_prog_11_method_7_code_4) rfl ?_
      show Steps p.tables e below (s₁.setTop (mkF m 5 #[.val (.ref (ad 2)), .val (.int x), .unset] [(.int x)])) t
      refine XS.bipush X0.here hx rfl (hb hby own_d_prog_11_method_7_code_5) ?_
      show Steps p.tables e below (s₁.setTop (mkF m 7 #[.val (.ref (ad 2)), .val (.int x), .unset] [(.int (99 : Int32)), (.int x)])) t
      refine XS.icmpYes X0.here hx rfl (pc0 := 7) (pc' := 15) rfl (hb hby own_d_prog_11_method_7_code_7) rfl (flt h2).2.2.2 (by decide) (by decide) ?_
      show Steps p.tables e below (s₁.setTop (mkF m 15 #[.val (.ref (ad 2)), .val (.int x), .unset] [])) t
      refine XS.iloadN X0.here hx rfl (hb hby own_d_prog_11_method_7_code_15) rfl ?_
      show Steps p.tables e below (s₁.setTop (mkF m 16 #[.val (.ref (ad 2)), .val (.int x), .unset] [(.int x)])) t
      refine XS.bipush X0.here hx rfl (hb hby own_d_prog_11_method_7_code_16) ?_
      show Steps p.tables e below (s₁.setTop (mkF m 18 #[.val (.ref (ad 2)), .val (.int x), .unset] [(.int (50 : Int32)), (.int x)])) t
      refine XS.icmpYes X0.here hx rfl (pc0 := 18) (pc' := 27) rfl (hb hby own_d_prog_11_method_7_code_18) rfl (flt h3).2.1 (by decide) (by decide) ?_
      show Steps p.tables e below (s₁.setTop (mkF m 27 #[.val (.ref (ad 2)), .val (.int x), .unset] [])) t
      refine XS.bipush X0.here hx rfl (hb hby own_d_prog_11_method_7_code_27) ?_
      show Steps p.tables e below (s₁.setTop (mkF m 29 #[.val (.ref (ad 2)), .val (.int x), .unset] [(.int (-50 : Int32))])) t
      refine XS.istoreN X0.here hx rfl (hb hby own_d_prog_11_method_7_code_29) rfl (l' := #[.val (.ref (ad 2)), .val (.int x), .val (.int (-50 : Int32))]) rfl ?_
      show Steps p.tables e below (s₁.setTop (mkF m 30 #[.val (.ref (ad 2)), .val (.int x), .val (.int (-50 : Int32))] [])) t
      refine XS.aloadN X0.here hx rfl (hb hby own_d_prog_11_method_7_code_30) rfl rfl ?_
      show Steps p.tables e below (s₁.setTop (mkF m 31 #[.val (.ref (ad 2)), .val (.int x), .val (.int (-50 : Int32))] [(.ref (ad 2))])) t
      exact st1 t k)
  obtain ⟨T3, X3, e3, st3⟩ := getF X1 hx hZ hown (host := "") (Or.inl (hw _ (List.mem_of_getElem? (i := 11) rfl))) Via.refl e1 (own_F_CHANGE_AB_writesB W) (g := (mkF m 38 #[.val (.ref (ad 2)), .val (.int x), .val (.int (-50 : Int32))] [(.ref (ad 2))])) rfl rfl (hb hby own_d_prog_11_method_7_code_38)
  have ch4 : ∀ t, Steps p.tables e below (T3.setTop (mkF m 41 #[.val (.ref (ad 2)), .val (.int x), .val (.int (-50 : Int32))] [(.int (1 : Int32))])) t → Steps p.tables e below (s₁.setTop (entryFrame m #[(.ref (ad 2)), (.int x)] 3)) t := fun t k => ch2 t (by
      show Steps p.tables e below (T1.setTop (mkF m 34 #[.val (.ref (ad 2)), .val (.int x), .val (.int (-50 : Int32))] [(.int (1 : Int32))])) t
      refine XS.ifNo X1.here hx rfl (hb hby own_d_prog_11_method_7_code_34) rfl ((if0 _ _).trans (feq (by decide : ¬ (1 : Int32) = (0 : Int32))).1) ?_
      show Steps p.tables e below (T1.setTop (mkF m 37 #[.val (.ref (ad 2)), .val (.int x), .val (.int (-50 : Int32))] [])) t
      refine XS.aloadN X1.here hx rfl (hb hby own_d_prog_11_method_7_code_37) rfl rfl ?_
      show Steps p.tables e below (T1.setTop (mkF m 38 #[.val (.ref (ad 2)), .val (.int x), .val (.int (-50 : Int32))] [(.ref (ad 2))])) t
      exact st3 t k)
  have ch5 : ∀ t, Steps p.tables e below (T3.setTop (mkF m 51 #[.val (.ref (ad 2)), .val (.int x), .val (.int (-50 : Int32))] [(.int (-25 : Int32))])) t → Steps p.tables e below (s₁.setTop (entryFrame m #[(.ref (ad 2)), (.int x)] 3)) t := fun t k => ch4 t (by
      show Steps p.tables e below (T3.setTop (mkF m 41 #[.val (.ref (ad 2)), .val (.int x), .val (.int (-50 : Int32))] [(.int (1 : Int32))])) t
      refine XS.ifNo X3.here hx rfl (hb hby own_d_prog_11_method_7_code_41) rfl ((if0 _ _).trans (feq (by decide : ¬ (1 : Int32) = (0 : Int32))).1) ?_
      show Steps p.tables e below (T3.setTop (mkF m 44 #[.val (.ref (ad 2)), .val (.int x), .val (.int (-50 : Int32))] [])) t
      refine XS.iloadN X3.here hx rfl (hb hby own_d_prog_11_method_7_code_44) rfl ?_
      show Steps p.tables e below (T3.setTop (mkF m 45 #[.val (.ref (ad 2)), .val (.int x), .val (.int (-50 : Int32))] [(.int (-50 : Int32))])) t
      refine XS.iconst X3.here hx rfl (hb hby own_d_prog_11_method_7_code_45) ?_
      show Steps p.tables e below (T3.setTop (mkF m 46 #[.val (.ref (ad 2)), .val (.int x), .val (.int (-50 : Int32))] [(.int (2 : Int32)), (.int (-50 : Int32))])) t
      refine XS.idiv X3.here hx rfl (hb hby own_d_prog_11_method_7_code_46) rfl (by decide) ?_
      rw [show ((-50 : Int32) / (2 : Int32)) = (-25 : Int32) from by decide]
      show Steps p.tables e below (T3.setTop (mkF m 47 #[.val (.ref (ad 2)), .val (.int x), .val (.int (-50 : Int32))] [(.int (-25 : Int32))])) t
      refine XS.goto X3.here hx rfl (pc0 := 47) (pc' := 51) rfl (hb hby own_d_prog_11_method_7_code_47) (by decide) (by decide) ?_
      exact k)
  obtain ⟨fs, hr, hrun, hended, hW, hsame⟩ := X3.leave (v := some (.int (-25 : Int32))) (fun h => by rw [Bd.returns] at h; cases h)
  refine ⟨_, _, ch5 _ ?_, hrun, hended, _, _, rfl, ?_, ⟨_, rfl⟩, hW, hsame.mono (by decide) (by decide)⟩
  · show Steps p.tables e below (T3.setTop (mkF m 51 #[.val (.ref (ad 2)), .val (.int x), .val (.int (-50 : Int32))] [(.int (-25 : Int32))])) _
    exact retI X3 hx Bd.returns (hb hby own_d_prog_11_method_7_code_51) hr
  · show QV (some (.int (-25 : Int32))) h0 n0 _ T3.heap _
    rw [e3]
    exact ⟨rfl, N0, rfl⟩
theorem own_ef_own_law_20n (m : MethodId) {x0 : Int32} {x1 : Int32} {x2 : Int32} : entryFrame m #[(.int x0), (.int x1), (.int x2)] maxLocals = mkF m 0 #[.val (.int x0), .val (.int x1), .val (.int x2), .unset, .unset, .unset, .unset, .unset, .unset, .unset] [] := by first | (simp [entryFrame, mkF, argsToLocals, Value.category, maxLocals]; done) | rfl
set_option maxRecDepth 65536 in
set_option maxHeartbeats 40000000 in
theorem own_law_20n (l : Launch) (Z : State) (a0 : Array Value) (hw : ∀ d ∈ tables_1, d.before a0 Z = true) (ws : List Jvm.Cond) (h0 : Heap) (n0 : Nat) (Z0 : n0 ≤ h0.size) (p1 p2 p3 : Int32) (hk : (p1 &&& (2147483647 : Int32)) % (3 : Int32) = (2 : Int32)) (hm : p3 &&& (1 : Int32) = (0 : Int32)) (h1 : (p2 % (128 : Int32)) < (0 : Int32)) (ad : Nat → Addr) (W : OwnWd Z h0 ad) :
    MetFree l x (head1 (Jvm.Cond.code x code maxLocals ret :: ws) room_1) (fun a U => a = #[(.int p1), (.int p2), (.int p3)] ∧ Z.Warmed39 U.vm ∧ U.heap = h0) (fun _ _ _ _ _ => True) (fun _ U o U' => ∃ v L, o = .returned v ∧ QN (some (.int (1 : Int32))) n0 v U'.heap L ∧ FrameEnd U o U' L room_1.cells room_1.slots) := by
  refine MetFree.of_bodySF (plainFor_of_name own_pn_com_example_isolint_isolint_bench_ChangeAddedToEachValuePinLaw) hisR ?_
  intro p e s m args below meth c s₁ Bd hml0 hP hK
  obtain ⟨rfl, hZ, hh⟩ := hP
  have hx := Bd.exec
  have hby := Bd.bytes
  have hml : c.maxLocals = 10 := hml0
  have hown : s.vm.findClass "com/example/isolint/isolint/bench/ChangeAddedToEachValuePinLaw" = some m.cls := findClass_of_methodNamed Bd.named
  have hnm := (name_of_methodNamed Bd.named Bd.method).1
  have X0 : Stand p l e room_1 s m #[(.int p1), (.int p2), (.int p3)] below meth c s₁ [] 0 0 := Stand.of_body Bd
  have e0 : s₁.heap = h0 := by rw [← hh, Bd.state]; rfl
  have N0 := Fr.nil n0
  have pre0 : ∀ t, Steps p.tables e below (s₁.setTop (mkF m 0 #[.val (.int p1), .val (.int p2), .val (.int p3), .unset, .unset, .unset, .unset, .unset, .unset, .unset] [])) t → Steps p.tables e below (s₁.setTop (entryFrame m #[(.int p1), (.int p2), (.int p3)] maxLocals)) t := fun t k => castTop (own_ef_own_law_20n m) k
  obtain ⟨T1, X1, e1, st1⟩ := getS2 X0 hx hZ hown (host := "") (Or.inl (hw _ (List.mem_of_getElem? (i := 16) rfl))) Via.refl e0 (own_S_CHANGE_AB W) (g := (mkF m 38 #[.val (.int p1), .val (.int p2), .val (.int p3), .val (.int (2 : Int32)), .unset, .unset, .unset, .unset, .unset, .unset] [])) rfl (hb hby at_38)
  have ch2 : ∀ t, Steps p.tables e below (T1.setTop (mkF m 41 #[.val (.int p1), .val (.int p2), .val (.int p3), .val (.int (2 : Int32)), .unset, .unset, .unset, .unset, .unset, .unset] [(.ref (ad 2))])) t → Steps p.tables e below (s₁.setTop (entryFrame m #[(.int p1), (.int p2), (.int p3)] maxLocals)) t := fun t k => pre0 t (by
      show Steps p.tables e below (s₁.setTop (mkF m 0 #[.val (.int p1), .val (.int p2), .val (.int p3), .unset, .unset, .unset, .unset, .unset, .unset, .unset] [])) t
      refine XS.iloadN X0.here hx rfl (hb hby at_0) rfl ?_
      show Steps p.tables e below (s₁.setTop (mkF m 1 #[.val (.int p1), .val (.int p2), .val (.int p3), .unset, .unset, .unset, .unset, .unset, .unset, .unset] [(.int p1)])) t
      refine X0.ldcInt hx hown (mvT hZ (hw _ (List.mem_of_getElem? (i := 0) rfl))) (g := (mkF m 1 #[.val (.int p1), .val (.int p2), .val (.int p3), .unset, .unset, .unset, .unset, .unset, .unset, .unset] [(.int p1)])) rfl (hb hby at_1) _ ?_
      show Steps p.tables e below (s₁.setTop (mkF m 3 #[.val (.int p1), .val (.int p2), .val (.int p3), .unset, .unset, .unset, .unset, .unset, .unset, .unset] [(.int (2147483647 : Int32)), (.int p1)])) t
      refine XS.iand X0.here hx rfl (hb hby at_3) rfl ?_
      show Steps p.tables e below (s₁.setTop (mkF m 4 #[.val (.int p1), .val (.int p2), .val (.int p3), .unset, .unset, .unset, .unset, .unset, .unset, .unset] [(.int (p1 &&& (2147483647 : Int32)))])) t
      refine XS.iconst X0.here hx rfl (hb hby at_4) ?_
      show Steps p.tables e below (s₁.setTop (mkF m 5 #[.val (.int p1), .val (.int p2), .val (.int p3), .unset, .unset, .unset, .unset, .unset, .unset, .unset] [(.int (3 : Int32)), (.int (p1 &&& (2147483647 : Int32)))])) t
      refine Jvm.RoadKit.iremM (g := (mkF m 5 #[.val (.int p1), .val (.int p2), .val (.int p3), .unset, .unset, .unset, .unset, .unset, .unset, .unset] [(.int (3 : Int32)), (.int (p1 &&& (2147483647 : Int32)))])) X0 hx rfl (hb hby at_5) rfl (by decide) ?_
      rw [hk]
      show Steps p.tables e below (s₁.setTop (mkF m 6 #[.val (.int p1), .val (.int p2), .val (.int p3), .unset, .unset, .unset, .unset, .unset, .unset, .unset] [(.int (2 : Int32))])) t
      refine XS.istoreN X0.here hx rfl (hb hby at_6) rfl (l' := #[.val (.int p1), .val (.int p2), .val (.int p3), .val (.int (2 : Int32)), .unset, .unset, .unset, .unset, .unset, .unset]) rfl ?_
      show Steps p.tables e below (s₁.setTop (mkF m 7 #[.val (.int p1), .val (.int p2), .val (.int p3), .val (.int (2 : Int32)), .unset, .unset, .unset, .unset, .unset, .unset] [])) t
      refine XS.iloadN X0.here hx rfl (hb hby at_7) rfl ?_
      show Steps p.tables e below (s₁.setTop (mkF m 8 #[.val (.int p1), .val (.int p2), .val (.int p3), .val (.int (2 : Int32)), .unset, .unset, .unset, .unset, .unset, .unset] [(.int (2 : Int32))])) t
      refine XS.ifYes X0.here hx rfl (pc0 := 8) (pc' := 22) rfl (hb hby at_8) rfl ((if0 _ _).trans (feq (by decide : ¬ (2 : Int32) = (0 : Int32))).2) (by decide) (by decide) ?_
      show Steps p.tables e below (s₁.setTop (mkF m 22 #[.val (.int p1), .val (.int p2), .val (.int p3), .val (.int (2 : Int32)), .unset, .unset, .unset, .unset, .unset, .unset] [])) t
      refine XS.iloadN X0.here hx rfl (hb hby at_22) rfl ?_
      show Steps p.tables e below (s₁.setTop (mkF m 23 #[.val (.int p1), .val (.int p2), .val (.int p3), .val (.int (2 : Int32)), .unset, .unset, .unset, .unset, .unset, .unset] [(.int (2 : Int32))])) t
      refine XS.iconst X0.here hx rfl (hb hby at_23) ?_
      show Steps p.tables e below (s₁.setTop (mkF m 24 #[.val (.int p1), .val (.int p2), .val (.int p3), .val (.int (2 : Int32)), .unset, .unset, .unset, .unset, .unset, .unset] [(.int (1 : Int32)), (.int (2 : Int32))])) t
      refine XS.icmpYes X0.here hx rfl (pc0 := 24) (pc' := 38) rfl (hb hby at_24) rfl (feq (by decide : ¬ (2 : Int32) = (1 : Int32))).2 (by decide) (by decide) ?_
      show Steps p.tables e below (s₁.setTop (mkF m 38 #[.val (.int p1), .val (.int p2), .val (.int p3), .val (.int (2 : Int32)), .unset, .unset, .unset, .unset, .unset, .unset] [])) t
      exact st1 t k)
  obtain ⟨cq3, kq3, qa3, qb3, qc3⟩ := isOf hZ e1 (own_E_CHANGE_AB W)
  obtain ⟨vv4, _, ⟨T4, L4, kk4, nn4⟩, -, X4, ⟨Lc4, hQ4, l4, y4, z4⟩, st4⟩ := X1.virtualBack hx (y := (⟨"com/example/isolint/isolint/bench/Change", "addedToEachValue", "(I)I"⟩ : MethodName)) (z := (⟨"com/example/isolint/isolint/bench/Change", "addedToEachValue", "(I)I"⟩ : MethodName)) hown (mvT hZ (hw _ (List.mem_of_getElem? (i := 4) rfl))) (mvT hZ (hw _ (List.mem_of_getElem? (i := 5) rfl))) (notFace_of_selects (args := #[]) (mvT hZ (hw _ (List.mem_of_getElem? (i := 7) rfl)))) (mvT hZ (hw _ (List.mem_of_getElem? (i := 7) rfl))) (mvT hZ (hw _ (List.mem_of_getElem? (i := 6) rfl))) (by decide) (backOf (W := 0) (own_add_2n l Z a0 hw [] h0 n0 Z0  (p2 % (128 : Int32)) h1 ad W) hZ (hw _ (List.mem_of_getElem? (i := 8) rfl)) (hw _ (List.mem_of_getElem? (i := 2) rfl)) (by decide) (by decide)) qa3 qc3 (g := (mkF m 67 #[.val (.int p1), .val (.int p2), .val (.int p3), .val (.int (2 : Int32)), .val (.ref (ad 2)), .val (.int (2 : Int32)), .val (.int (p2 % (128 : Int32))), .unset, .unset, .unset] [(.int (p2 % (128 : Int32))), (.ref (ad 2))])) rfl (by rw [hml]; rfl) (Steps.refl _) (argsL := [(.int (p2 % (128 : Int32)))]) (rest := []) (lenOf own_pd__I_I rfl) rfl (by show 2 * 0 + _ ≤ _; exact Nat.le_of_eq rfl) (hb hby at_67) (fun _ _ => ⟨rfl, e1, (by decide : 0 + 0 ≤ _), (by decide : 0 + 0 ≤ _)⟩)
  dsimp only [Pt.U, Pt.locs, Pt.cells, Pt.slots] at X4 l4 y4 z4 st4 hQ4
  subst l4 y4 z4
  obtain ⟨rfl, Nq4, e4⟩ := hQ4
  have N4 := Fr.app N0 Nq4
  have ch5 : ∀ t, Steps p.tables e below (T4.setTop (mkF m 70 #[.val (.int p1), .val (.int p2), .val (.int p3), .val (.int (2 : Int32)), .val (.ref (ad 2)), .val (.int (2 : Int32)), .val (.int (p2 % (128 : Int32))), .unset, .unset, .unset] [(.int (0 : Int32))])) t → Steps p.tables e below (s₁.setTop (entryFrame m #[(.int p1), (.int p2), (.int p3)] maxLocals)) t := fun t k => ch2 t (by
      show Steps p.tables e below (T1.setTop (mkF m 41 #[.val (.int p1), .val (.int p2), .val (.int p3), .val (.int (2 : Int32)), .unset, .unset, .unset, .unset, .unset, .unset] [(.ref (ad 2))])) t
      refine XS.astore X1.here hx rfl (hb hby at_41) rfl rfl (l' := #[.val (.int p1), .val (.int p2), .val (.int p3), .val (.int (2 : Int32)), .val (.ref (ad 2)), .unset, .unset, .unset, .unset, .unset]) rfl ?_
      show Steps p.tables e below (T1.setTop (mkF m 43 #[.val (.int p1), .val (.int p2), .val (.int p3), .val (.int (2 : Int32)), .val (.ref (ad 2)), .unset, .unset, .unset, .unset, .unset] [])) t
      refine XS.iconst X1.here hx rfl (hb hby at_43) ?_
      show Steps p.tables e below (T1.setTop (mkF m 44 #[.val (.int p1), .val (.int p2), .val (.int p3), .val (.int (2 : Int32)), .val (.ref (ad 2)), .unset, .unset, .unset, .unset, .unset] [(.int (2 : Int32))])) t
      refine XS.istore X1.here hx rfl (hb hby at_44) rfl (l' := #[.val (.int p1), .val (.int p2), .val (.int p3), .val (.int (2 : Int32)), .val (.ref (ad 2)), .val (.int (2 : Int32)), .unset, .unset, .unset, .unset]) rfl ?_
      show Steps p.tables e below (T1.setTop (mkF m 46 #[.val (.int p1), .val (.int p2), .val (.int p3), .val (.int (2 : Int32)), .val (.ref (ad 2)), .val (.int (2 : Int32)), .unset, .unset, .unset, .unset] [])) t
      refine XS.iloadN X1.here hx rfl (hb hby at_46) rfl ?_
      show Steps p.tables e below (T1.setTop (mkF m 47 #[.val (.int p1), .val (.int p2), .val (.int p3), .val (.int (2 : Int32)), .val (.ref (ad 2)), .val (.int (2 : Int32)), .unset, .unset, .unset, .unset] [(.int p3)])) t
      refine XS.iconst X1.here hx rfl (hb hby at_47) ?_
      show Steps p.tables e below (T1.setTop (mkF m 48 #[.val (.int p1), .val (.int p2), .val (.int p3), .val (.int (2 : Int32)), .val (.ref (ad 2)), .val (.int (2 : Int32)), .unset, .unset, .unset, .unset] [(.int (1 : Int32)), (.int p3)])) t
      refine XS.iand X1.here hx rfl (hb hby at_48) rfl ?_
      rw [hm]
      show Steps p.tables e below (T1.setTop (mkF m 49 #[.val (.int p1), .val (.int p2), .val (.int p3), .val (.int (2 : Int32)), .val (.ref (ad 2)), .val (.int (2 : Int32)), .unset, .unset, .unset, .unset] [(.int (0 : Int32))])) t
      refine XS.ifYes X1.here hx rfl (pc0 := 49) (pc' := 56) rfl (hb hby at_49) rfl ((if0 _ _).trans (teq (by decide : (0 : Int32) = (0 : Int32))).1) (by decide) (by decide) ?_
      show Steps p.tables e below (T1.setTop (mkF m 56 #[.val (.int p1), .val (.int p2), .val (.int p3), .val (.int (2 : Int32)), .val (.ref (ad 2)), .val (.int (2 : Int32)), .unset, .unset, .unset, .unset] [])) t
      refine XS.iloadN X1.here hx rfl (hb hby at_56) rfl ?_
      show Steps p.tables e below (T1.setTop (mkF m 57 #[.val (.int p1), .val (.int p2), .val (.int p3), .val (.int (2 : Int32)), .val (.ref (ad 2)), .val (.int (2 : Int32)), .unset, .unset, .unset, .unset] [(.int p2)])) t
      refine XS.sipush X1.here hx rfl (hb hby at_57) ?_
      show Steps p.tables e below (T1.setTop (mkF m 60 #[.val (.int p1), .val (.int p2), .val (.int p3), .val (.int (2 : Int32)), .val (.ref (ad 2)), .val (.int (2 : Int32)), .unset, .unset, .unset, .unset] [(.int (128 : Int32)), (.int p2)])) t
      refine Jvm.RoadKit.iremM (g := (mkF m 60 #[.val (.int p1), .val (.int p2), .val (.int p3), .val (.int (2 : Int32)), .val (.ref (ad 2)), .val (.int (2 : Int32)), .unset, .unset, .unset, .unset] [(.int (128 : Int32)), (.int p2)])) X1 hx rfl (hb hby at_60) rfl (by decide) ?_
      show Steps p.tables e below (T1.setTop (mkF m 61 #[.val (.int p1), .val (.int p2), .val (.int p3), .val (.int (2 : Int32)), .val (.ref (ad 2)), .val (.int (2 : Int32)), .unset, .unset, .unset, .unset] [(.int (p2 % (128 : Int32)))])) t
      refine XS.istore X1.here hx rfl (hb hby at_61) rfl (l' := #[.val (.int p1), .val (.int p2), .val (.int p3), .val (.int (2 : Int32)), .val (.ref (ad 2)), .val (.int (2 : Int32)), .val (.int (p2 % (128 : Int32))), .unset, .unset, .unset]) rfl ?_
      show Steps p.tables e below (T1.setTop (mkF m 63 #[.val (.int p1), .val (.int p2), .val (.int p3), .val (.int (2 : Int32)), .val (.ref (ad 2)), .val (.int (2 : Int32)), .val (.int (p2 % (128 : Int32))), .unset, .unset, .unset] [])) t
      refine XS.aload X1.here hx rfl (hb hby at_63) rfl rfl ?_
      show Steps p.tables e below (T1.setTop (mkF m 65 #[.val (.int p1), .val (.int p2), .val (.int p3), .val (.int (2 : Int32)), .val (.ref (ad 2)), .val (.int (2 : Int32)), .val (.int (p2 % (128 : Int32))), .unset, .unset, .unset] [(.ref (ad 2))])) t
      refine XS.iload X1.here hx rfl (hb hby at_65) rfl ?_
      show Steps p.tables e below (T1.setTop (mkF m 67 #[.val (.int p1), .val (.int p2), .val (.int p3), .val (.int (2 : Int32)), .val (.ref (ad 2)), .val (.int (2 : Int32)), .val (.int (p2 % (128 : Int32))), .unset, .unset, .unset] [(.int (p2 % (128 : Int32))), (.ref (ad 2))])) t
      exact st4.trans k)
  have ch6 : ∀ t, Steps p.tables e below (T4.setTop (mkF m 94 #[.val (.int p1), .val (.int p2), .val (.int p3), .val (.int (2 : Int32)), .val (.ref (ad 2)), .val (.int (2 : Int32)), .val (.int (p2 % (128 : Int32))), .val (.int (0 : Int32)), .unset, .unset] [(.int (1 : Int32))])) t → Steps p.tables e below (s₁.setTop (entryFrame m #[(.int p1), (.int p2), (.int p3)] maxLocals)) t := fun t k => ch5 t (by
      show Steps p.tables e below (T4.setTop (mkF m 70 #[.val (.int p1), .val (.int p2), .val (.int p3), .val (.int (2 : Int32)), .val (.ref (ad 2)), .val (.int (2 : Int32)), .val (.int (p2 % (128 : Int32))), .unset, .unset, .unset] [(.int (0 : Int32))])) t
      refine XS.istore X4.here hx rfl (hb hby at_70) rfl (l' := #[.val (.int p1), .val (.int p2), .val (.int p3), .val (.int (2 : Int32)), .val (.ref (ad 2)), .val (.int (2 : Int32)), .val (.int (p2 % (128 : Int32))), .val (.int (0 : Int32)), .unset, .unset]) rfl ?_
      show Steps p.tables e below (T4.setTop (mkF m 72 #[.val (.int p1), .val (.int p2), .val (.int p3), .val (.int (2 : Int32)), .val (.ref (ad 2)), .val (.int (2 : Int32)), .val (.int (p2 % (128 : Int32))), .val (.int (0 : Int32)), .unset, .unset] [])) t
      refine XS.iload X4.here hx rfl (hb hby at_72) rfl ?_
      show Steps p.tables e below (T4.setTop (mkF m 74 #[.val (.int p1), .val (.int p2), .val (.int p3), .val (.int (2 : Int32)), .val (.ref (ad 2)), .val (.int (2 : Int32)), .val (.int (p2 % (128 : Int32))), .val (.int (0 : Int32)), .unset, .unset] [(.int (p2 % (128 : Int32)))])) t
      refine XS.ifYes X4.here hx rfl (pc0 := 74) (pc' := 84) rfl (hb hby at_74) rfl ((if0 _ _).trans (tlt h1).1) (by decide) (by decide) ?_
      show Steps p.tables e below (T4.setTop (mkF m 84 #[.val (.int p1), .val (.int p2), .val (.int p3), .val (.int (2 : Int32)), .val (.ref (ad 2)), .val (.int (2 : Int32)), .val (.int (p2 % (128 : Int32))), .val (.int (0 : Int32)), .unset, .unset] [])) t
      refine XS.iload X4.here hx rfl (hb hby at_84) rfl ?_
      show Steps p.tables e below (T4.setTop (mkF m 86 #[.val (.int p1), .val (.int p2), .val (.int p3), .val (.int (2 : Int32)), .val (.ref (ad 2)), .val (.int (2 : Int32)), .val (.int (p2 % (128 : Int32))), .val (.int (0 : Int32)), .unset, .unset] [(.int (0 : Int32))])) t
      refine XS.ifNo X4.here hx rfl (hb hby at_86) rfl ((if0 _ _).trans (teq (by decide : (0 : Int32) = (0 : Int32))).2) ?_
      show Steps p.tables e below (T4.setTop (mkF m 89 #[.val (.int p1), .val (.int p2), .val (.int p3), .val (.int (2 : Int32)), .val (.ref (ad 2)), .val (.int (2 : Int32)), .val (.int (p2 % (128 : Int32))), .val (.int (0 : Int32)), .unset, .unset] [])) t
      refine XS.iconst X4.here hx rfl (hb hby at_89) ?_
      show Steps p.tables e below (T4.setTop (mkF m 90 #[.val (.int p1), .val (.int p2), .val (.int p3), .val (.int (2 : Int32)), .val (.ref (ad 2)), .val (.int (2 : Int32)), .val (.int (p2 % (128 : Int32))), .val (.int (0 : Int32)), .unset, .unset] [(.int (1 : Int32))])) t
      refine XS.goto X4.here hx rfl (pc0 := 90) (pc' := 94) rfl (hb hby at_90) (by decide) (by decide) ?_
      exact k)
  obtain ⟨fs, hr, hrun, hended, hW, hsame⟩ := X4.leave (v := some (.int (1 : Int32))) (fun h => by rw [Bd.returns] at h; cases h)
  refine ⟨_, _, ch6 _ ?_, hrun, hended, _, _, rfl, ?_, ⟨_, rfl⟩, hW, hsame.mono (by decide) (by decide)⟩
  · show Steps p.tables e below (T4.setTop (mkF m 94 #[.val (.int p1), .val (.int p2), .val (.int p3), .val (.int (2 : Int32)), .val (.ref (ad 2)), .val (.int (2 : Int32)), .val (.int (p2 % (128 : Int32))), .val (.int (0 : Int32)), .unset, .unset] [(.int (1 : Int32))])) _
    exact retN X4 hx (t := .boolean) Bd.returns (by simp) (hb hby at_94) hr
  · show QN (some (.int (1 : Int32))) n0 _ T4.heap _
    rw [e4]
    exact ⟨rfl, N4⟩
theorem own_ef_own_law_20g (m : MethodId) {x0 : Int32} {x1 : Int32} {x2 : Int32} : entryFrame m #[(.int x0), (.int x1), (.int x2)] maxLocals = mkF m 0 #[.val (.int x0), .val (.int x1), .val (.int x2), .unset, .unset, .unset, .unset, .unset, .unset, .unset] [] := by first | (simp [entryFrame, mkF, argsToLocals, Value.category, maxLocals]; done) | rfl
set_option maxRecDepth 65536 in
set_option maxHeartbeats 40000000 in
theorem own_law_20g (l : Launch) (Z : State) (a0 : Array Value) (hw : ∀ d ∈ tables_1, d.before a0 Z = true) (ws : List Jvm.Cond) (h0 : Heap) (n0 : Nat) (Z0 : n0 ≤ h0.size) (p1 p2 p3 : Int32) (hk : (p1 &&& (2147483647 : Int32)) % (3 : Int32) = (2 : Int32)) (hm : p3 &&& (1 : Int32) = (0 : Int32)) (h1 : ¬ (p2 % (128 : Int32)) < (0 : Int32)) (h2 : (99 : Int32) < (p2 % (128 : Int32))) (ad : Nat → Addr) (W : OwnWd Z h0 ad) :
    MetFree l x (head1 (Jvm.Cond.code x code maxLocals ret :: ws) room_1) (fun a U => a = #[(.int p1), (.int p2), (.int p3)] ∧ Z.Warmed39 U.vm ∧ U.heap = h0) (fun _ _ _ _ _ => True) (fun _ U o U' => ∃ v L, o = .returned v ∧ QN (some (.int (1 : Int32))) n0 v U'.heap L ∧ FrameEnd U o U' L room_1.cells room_1.slots) := by
  refine MetFree.of_bodySF (plainFor_of_name own_pn_com_example_isolint_isolint_bench_ChangeAddedToEachValuePinLaw) hisR ?_
  intro p e s m args below meth c s₁ Bd hml0 hP hK
  obtain ⟨rfl, hZ, hh⟩ := hP
  have hx := Bd.exec
  have hby := Bd.bytes
  have hml : c.maxLocals = 10 := hml0
  have hown : s.vm.findClass "com/example/isolint/isolint/bench/ChangeAddedToEachValuePinLaw" = some m.cls := findClass_of_methodNamed Bd.named
  have hnm := (name_of_methodNamed Bd.named Bd.method).1
  have X0 : Stand p l e room_1 s m #[(.int p1), (.int p2), (.int p3)] below meth c s₁ [] 0 0 := Stand.of_body Bd
  have e0 : s₁.heap = h0 := by rw [← hh, Bd.state]; rfl
  have N0 := Fr.nil n0
  have pre0 : ∀ t, Steps p.tables e below (s₁.setTop (mkF m 0 #[.val (.int p1), .val (.int p2), .val (.int p3), .unset, .unset, .unset, .unset, .unset, .unset, .unset] [])) t → Steps p.tables e below (s₁.setTop (entryFrame m #[(.int p1), (.int p2), (.int p3)] maxLocals)) t := fun t k => castTop (own_ef_own_law_20g m) k
  obtain ⟨T1, X1, e1, st1⟩ := getS2 X0 hx hZ hown (host := "") (Or.inl (hw _ (List.mem_of_getElem? (i := 16) rfl))) Via.refl e0 (own_S_CHANGE_AB W) (g := (mkF m 38 #[.val (.int p1), .val (.int p2), .val (.int p3), .val (.int (2 : Int32)), .unset, .unset, .unset, .unset, .unset, .unset] [])) rfl (hb hby at_38)
  have ch2 : ∀ t, Steps p.tables e below (T1.setTop (mkF m 41 #[.val (.int p1), .val (.int p2), .val (.int p3), .val (.int (2 : Int32)), .unset, .unset, .unset, .unset, .unset, .unset] [(.ref (ad 2))])) t → Steps p.tables e below (s₁.setTop (entryFrame m #[(.int p1), (.int p2), (.int p3)] maxLocals)) t := fun t k => pre0 t (by
      show Steps p.tables e below (s₁.setTop (mkF m 0 #[.val (.int p1), .val (.int p2), .val (.int p3), .unset, .unset, .unset, .unset, .unset, .unset, .unset] [])) t
      refine XS.iloadN X0.here hx rfl (hb hby at_0) rfl ?_
      show Steps p.tables e below (s₁.setTop (mkF m 1 #[.val (.int p1), .val (.int p2), .val (.int p3), .unset, .unset, .unset, .unset, .unset, .unset, .unset] [(.int p1)])) t
      refine X0.ldcInt hx hown (mvT hZ (hw _ (List.mem_of_getElem? (i := 0) rfl))) (g := (mkF m 1 #[.val (.int p1), .val (.int p2), .val (.int p3), .unset, .unset, .unset, .unset, .unset, .unset, .unset] [(.int p1)])) rfl (hb hby at_1) _ ?_
      show Steps p.tables e below (s₁.setTop (mkF m 3 #[.val (.int p1), .val (.int p2), .val (.int p3), .unset, .unset, .unset, .unset, .unset, .unset, .unset] [(.int (2147483647 : Int32)), (.int p1)])) t
      refine XS.iand X0.here hx rfl (hb hby at_3) rfl ?_
      show Steps p.tables e below (s₁.setTop (mkF m 4 #[.val (.int p1), .val (.int p2), .val (.int p3), .unset, .unset, .unset, .unset, .unset, .unset, .unset] [(.int (p1 &&& (2147483647 : Int32)))])) t
      refine XS.iconst X0.here hx rfl (hb hby at_4) ?_
      show Steps p.tables e below (s₁.setTop (mkF m 5 #[.val (.int p1), .val (.int p2), .val (.int p3), .unset, .unset, .unset, .unset, .unset, .unset, .unset] [(.int (3 : Int32)), (.int (p1 &&& (2147483647 : Int32)))])) t
      refine Jvm.RoadKit.iremM (g := (mkF m 5 #[.val (.int p1), .val (.int p2), .val (.int p3), .unset, .unset, .unset, .unset, .unset, .unset, .unset] [(.int (3 : Int32)), (.int (p1 &&& (2147483647 : Int32)))])) X0 hx rfl (hb hby at_5) rfl (by decide) ?_
      rw [hk]
      show Steps p.tables e below (s₁.setTop (mkF m 6 #[.val (.int p1), .val (.int p2), .val (.int p3), .unset, .unset, .unset, .unset, .unset, .unset, .unset] [(.int (2 : Int32))])) t
      refine XS.istoreN X0.here hx rfl (hb hby at_6) rfl (l' := #[.val (.int p1), .val (.int p2), .val (.int p3), .val (.int (2 : Int32)), .unset, .unset, .unset, .unset, .unset, .unset]) rfl ?_
      show Steps p.tables e below (s₁.setTop (mkF m 7 #[.val (.int p1), .val (.int p2), .val (.int p3), .val (.int (2 : Int32)), .unset, .unset, .unset, .unset, .unset, .unset] [])) t
      refine XS.iloadN X0.here hx rfl (hb hby at_7) rfl ?_
      show Steps p.tables e below (s₁.setTop (mkF m 8 #[.val (.int p1), .val (.int p2), .val (.int p3), .val (.int (2 : Int32)), .unset, .unset, .unset, .unset, .unset, .unset] [(.int (2 : Int32))])) t
      refine XS.ifYes X0.here hx rfl (pc0 := 8) (pc' := 22) rfl (hb hby at_8) rfl ((if0 _ _).trans (feq (by decide : ¬ (2 : Int32) = (0 : Int32))).2) (by decide) (by decide) ?_
      show Steps p.tables e below (s₁.setTop (mkF m 22 #[.val (.int p1), .val (.int p2), .val (.int p3), .val (.int (2 : Int32)), .unset, .unset, .unset, .unset, .unset, .unset] [])) t
      refine XS.iloadN X0.here hx rfl (hb hby at_22) rfl ?_
      show Steps p.tables e below (s₁.setTop (mkF m 23 #[.val (.int p1), .val (.int p2), .val (.int p3), .val (.int (2 : Int32)), .unset, .unset, .unset, .unset, .unset, .unset] [(.int (2 : Int32))])) t
      refine XS.iconst X0.here hx rfl (hb hby at_23) ?_
      show Steps p.tables e below (s₁.setTop (mkF m 24 #[.val (.int p1), .val (.int p2), .val (.int p3), .val (.int (2 : Int32)), .unset, .unset, .unset, .unset, .unset, .unset] [(.int (1 : Int32)), (.int (2 : Int32))])) t
      refine XS.icmpYes X0.here hx rfl (pc0 := 24) (pc' := 38) rfl (hb hby at_24) rfl (feq (by decide : ¬ (2 : Int32) = (1 : Int32))).2 (by decide) (by decide) ?_
      show Steps p.tables e below (s₁.setTop (mkF m 38 #[.val (.int p1), .val (.int p2), .val (.int p3), .val (.int (2 : Int32)), .unset, .unset, .unset, .unset, .unset, .unset] [])) t
      exact st1 t k)
  obtain ⟨cq3, kq3, qa3, qb3, qc3⟩ := isOf hZ e1 (own_E_CHANGE_AB W)
  obtain ⟨vv4, _, ⟨T4, L4, kk4, nn4⟩, -, X4, ⟨Lc4, hQ4, l4, y4, z4⟩, st4⟩ := X1.virtualBack hx (y := (⟨"com/example/isolint/isolint/bench/Change", "addedToEachValue", "(I)I"⟩ : MethodName)) (z := (⟨"com/example/isolint/isolint/bench/Change", "addedToEachValue", "(I)I"⟩ : MethodName)) hown (mvT hZ (hw _ (List.mem_of_getElem? (i := 4) rfl))) (mvT hZ (hw _ (List.mem_of_getElem? (i := 5) rfl))) (notFace_of_selects (args := #[]) (mvT hZ (hw _ (List.mem_of_getElem? (i := 7) rfl)))) (mvT hZ (hw _ (List.mem_of_getElem? (i := 7) rfl))) (mvT hZ (hw _ (List.mem_of_getElem? (i := 6) rfl))) (by decide) (backOf (W := 0) (own_add_2g l Z a0 hw [] h0 n0 Z0  (p2 % (128 : Int32)) h1 h2 ad W) hZ (hw _ (List.mem_of_getElem? (i := 8) rfl)) (hw _ (List.mem_of_getElem? (i := 2) rfl)) (by decide) (by decide)) qa3 qc3 (g := (mkF m 67 #[.val (.int p1), .val (.int p2), .val (.int p3), .val (.int (2 : Int32)), .val (.ref (ad 2)), .val (.int (2 : Int32)), .val (.int (p2 % (128 : Int32))), .unset, .unset, .unset] [(.int (p2 % (128 : Int32))), (.ref (ad 2))])) rfl (by rw [hml]; rfl) (Steps.refl _) (argsL := [(.int (p2 % (128 : Int32)))]) (rest := []) (lenOf own_pd__I_I rfl) rfl (by show 2 * 0 + _ ≤ _; exact Nat.le_of_eq rfl) (hb hby at_67) (fun _ _ => ⟨rfl, e1, (by decide : 0 + 0 ≤ _), (by decide : 0 + 0 ≤ _)⟩)
  dsimp only [Pt.U, Pt.locs, Pt.cells, Pt.slots] at X4 l4 y4 z4 st4 hQ4
  subst l4 y4 z4
  obtain ⟨rfl, Nq4, e4⟩ := hQ4
  have N4 := Fr.app N0 Nq4
  have ch5 : ∀ t, Steps p.tables e below (T4.setTop (mkF m 70 #[.val (.int p1), .val (.int p2), .val (.int p3), .val (.int (2 : Int32)), .val (.ref (ad 2)), .val (.int (2 : Int32)), .val (.int (p2 % (128 : Int32))), .unset, .unset, .unset] [(.int (0 : Int32))])) t → Steps p.tables e below (s₁.setTop (entryFrame m #[(.int p1), (.int p2), (.int p3)] maxLocals)) t := fun t k => ch2 t (by
      show Steps p.tables e below (T1.setTop (mkF m 41 #[.val (.int p1), .val (.int p2), .val (.int p3), .val (.int (2 : Int32)), .unset, .unset, .unset, .unset, .unset, .unset] [(.ref (ad 2))])) t
      refine XS.astore X1.here hx rfl (hb hby at_41) rfl rfl (l' := #[.val (.int p1), .val (.int p2), .val (.int p3), .val (.int (2 : Int32)), .val (.ref (ad 2)), .unset, .unset, .unset, .unset, .unset]) rfl ?_
      show Steps p.tables e below (T1.setTop (mkF m 43 #[.val (.int p1), .val (.int p2), .val (.int p3), .val (.int (2 : Int32)), .val (.ref (ad 2)), .unset, .unset, .unset, .unset, .unset] [])) t
      refine XS.iconst X1.here hx rfl (hb hby at_43) ?_
      show Steps p.tables e below (T1.setTop (mkF m 44 #[.val (.int p1), .val (.int p2), .val (.int p3), .val (.int (2 : Int32)), .val (.ref (ad 2)), .unset, .unset, .unset, .unset, .unset] [(.int (2 : Int32))])) t
      refine XS.istore X1.here hx rfl (hb hby at_44) rfl (l' := #[.val (.int p1), .val (.int p2), .val (.int p3), .val (.int (2 : Int32)), .val (.ref (ad 2)), .val (.int (2 : Int32)), .unset, .unset, .unset, .unset]) rfl ?_
      show Steps p.tables e below (T1.setTop (mkF m 46 #[.val (.int p1), .val (.int p2), .val (.int p3), .val (.int (2 : Int32)), .val (.ref (ad 2)), .val (.int (2 : Int32)), .unset, .unset, .unset, .unset] [])) t
      refine XS.iloadN X1.here hx rfl (hb hby at_46) rfl ?_
      show Steps p.tables e below (T1.setTop (mkF m 47 #[.val (.int p1), .val (.int p2), .val (.int p3), .val (.int (2 : Int32)), .val (.ref (ad 2)), .val (.int (2 : Int32)), .unset, .unset, .unset, .unset] [(.int p3)])) t
      refine XS.iconst X1.here hx rfl (hb hby at_47) ?_
      show Steps p.tables e below (T1.setTop (mkF m 48 #[.val (.int p1), .val (.int p2), .val (.int p3), .val (.int (2 : Int32)), .val (.ref (ad 2)), .val (.int (2 : Int32)), .unset, .unset, .unset, .unset] [(.int (1 : Int32)), (.int p3)])) t
      refine XS.iand X1.here hx rfl (hb hby at_48) rfl ?_
      rw [hm]
      show Steps p.tables e below (T1.setTop (mkF m 49 #[.val (.int p1), .val (.int p2), .val (.int p3), .val (.int (2 : Int32)), .val (.ref (ad 2)), .val (.int (2 : Int32)), .unset, .unset, .unset, .unset] [(.int (0 : Int32))])) t
      refine XS.ifYes X1.here hx rfl (pc0 := 49) (pc' := 56) rfl (hb hby at_49) rfl ((if0 _ _).trans (teq (by decide : (0 : Int32) = (0 : Int32))).1) (by decide) (by decide) ?_
      show Steps p.tables e below (T1.setTop (mkF m 56 #[.val (.int p1), .val (.int p2), .val (.int p3), .val (.int (2 : Int32)), .val (.ref (ad 2)), .val (.int (2 : Int32)), .unset, .unset, .unset, .unset] [])) t
      refine XS.iloadN X1.here hx rfl (hb hby at_56) rfl ?_
      show Steps p.tables e below (T1.setTop (mkF m 57 #[.val (.int p1), .val (.int p2), .val (.int p3), .val (.int (2 : Int32)), .val (.ref (ad 2)), .val (.int (2 : Int32)), .unset, .unset, .unset, .unset] [(.int p2)])) t
      refine XS.sipush X1.here hx rfl (hb hby at_57) ?_
      show Steps p.tables e below (T1.setTop (mkF m 60 #[.val (.int p1), .val (.int p2), .val (.int p3), .val (.int (2 : Int32)), .val (.ref (ad 2)), .val (.int (2 : Int32)), .unset, .unset, .unset, .unset] [(.int (128 : Int32)), (.int p2)])) t
      refine Jvm.RoadKit.iremM (g := (mkF m 60 #[.val (.int p1), .val (.int p2), .val (.int p3), .val (.int (2 : Int32)), .val (.ref (ad 2)), .val (.int (2 : Int32)), .unset, .unset, .unset, .unset] [(.int (128 : Int32)), (.int p2)])) X1 hx rfl (hb hby at_60) rfl (by decide) ?_
      show Steps p.tables e below (T1.setTop (mkF m 61 #[.val (.int p1), .val (.int p2), .val (.int p3), .val (.int (2 : Int32)), .val (.ref (ad 2)), .val (.int (2 : Int32)), .unset, .unset, .unset, .unset] [(.int (p2 % (128 : Int32)))])) t
      refine XS.istore X1.here hx rfl (hb hby at_61) rfl (l' := #[.val (.int p1), .val (.int p2), .val (.int p3), .val (.int (2 : Int32)), .val (.ref (ad 2)), .val (.int (2 : Int32)), .val (.int (p2 % (128 : Int32))), .unset, .unset, .unset]) rfl ?_
      show Steps p.tables e below (T1.setTop (mkF m 63 #[.val (.int p1), .val (.int p2), .val (.int p3), .val (.int (2 : Int32)), .val (.ref (ad 2)), .val (.int (2 : Int32)), .val (.int (p2 % (128 : Int32))), .unset, .unset, .unset] [])) t
      refine XS.aload X1.here hx rfl (hb hby at_63) rfl rfl ?_
      show Steps p.tables e below (T1.setTop (mkF m 65 #[.val (.int p1), .val (.int p2), .val (.int p3), .val (.int (2 : Int32)), .val (.ref (ad 2)), .val (.int (2 : Int32)), .val (.int (p2 % (128 : Int32))), .unset, .unset, .unset] [(.ref (ad 2))])) t
      refine XS.iload X1.here hx rfl (hb hby at_65) rfl ?_
      show Steps p.tables e below (T1.setTop (mkF m 67 #[.val (.int p1), .val (.int p2), .val (.int p3), .val (.int (2 : Int32)), .val (.ref (ad 2)), .val (.int (2 : Int32)), .val (.int (p2 % (128 : Int32))), .unset, .unset, .unset] [(.int (p2 % (128 : Int32))), (.ref (ad 2))])) t
      exact st4.trans k)
  have ch6 : ∀ t, Steps p.tables e below (T4.setTop (mkF m 94 #[.val (.int p1), .val (.int p2), .val (.int p3), .val (.int (2 : Int32)), .val (.ref (ad 2)), .val (.int (2 : Int32)), .val (.int (p2 % (128 : Int32))), .val (.int (0 : Int32)), .unset, .unset] [(.int (1 : Int32))])) t → Steps p.tables e below (s₁.setTop (entryFrame m #[(.int p1), (.int p2), (.int p3)] maxLocals)) t := fun t k => ch5 t (by
      show Steps p.tables e below (T4.setTop (mkF m 70 #[.val (.int p1), .val (.int p2), .val (.int p3), .val (.int (2 : Int32)), .val (.ref (ad 2)), .val (.int (2 : Int32)), .val (.int (p2 % (128 : Int32))), .unset, .unset, .unset] [(.int (0 : Int32))])) t
      refine XS.istore X4.here hx rfl (hb hby at_70) rfl (l' := #[.val (.int p1), .val (.int p2), .val (.int p3), .val (.int (2 : Int32)), .val (.ref (ad 2)), .val (.int (2 : Int32)), .val (.int (p2 % (128 : Int32))), .val (.int (0 : Int32)), .unset, .unset]) rfl ?_
      show Steps p.tables e below (T4.setTop (mkF m 72 #[.val (.int p1), .val (.int p2), .val (.int p3), .val (.int (2 : Int32)), .val (.ref (ad 2)), .val (.int (2 : Int32)), .val (.int (p2 % (128 : Int32))), .val (.int (0 : Int32)), .unset, .unset] [])) t
      refine XS.iload X4.here hx rfl (hb hby at_72) rfl ?_
      show Steps p.tables e below (T4.setTop (mkF m 74 #[.val (.int p1), .val (.int p2), .val (.int p3), .val (.int (2 : Int32)), .val (.ref (ad 2)), .val (.int (2 : Int32)), .val (.int (p2 % (128 : Int32))), .val (.int (0 : Int32)), .unset, .unset] [(.int (p2 % (128 : Int32)))])) t
      refine XS.ifNo X4.here hx rfl (hb hby at_74) rfl ((if0 _ _).trans (flt h1).1) ?_
      show Steps p.tables e below (T4.setTop (mkF m 77 #[.val (.int p1), .val (.int p2), .val (.int p3), .val (.int (2 : Int32)), .val (.ref (ad 2)), .val (.int (2 : Int32)), .val (.int (p2 % (128 : Int32))), .val (.int (0 : Int32)), .unset, .unset] [])) t
      refine XS.iload X4.here hx rfl (hb hby at_77) rfl ?_
      show Steps p.tables e below (T4.setTop (mkF m 79 #[.val (.int p1), .val (.int p2), .val (.int p3), .val (.int (2 : Int32)), .val (.ref (ad 2)), .val (.int (2 : Int32)), .val (.int (p2 % (128 : Int32))), .val (.int (0 : Int32)), .unset, .unset] [(.int (p2 % (128 : Int32)))])) t
      refine XS.bipush X4.here hx rfl (hb hby at_79) ?_
      show Steps p.tables e below (T4.setTop (mkF m 81 #[.val (.int p1), .val (.int p2), .val (.int p3), .val (.int (2 : Int32)), .val (.ref (ad 2)), .val (.int (2 : Int32)), .val (.int (p2 % (128 : Int32))), .val (.int (0 : Int32)), .unset, .unset] [(.int (99 : Int32)), (.int (p2 % (128 : Int32)))])) t
      refine XS.icmpNo X4.here hx rfl (hb hby at_81) rfl (tlt h2).2.2.2 ?_
      show Steps p.tables e below (T4.setTop (mkF m 84 #[.val (.int p1), .val (.int p2), .val (.int p3), .val (.int (2 : Int32)), .val (.ref (ad 2)), .val (.int (2 : Int32)), .val (.int (p2 % (128 : Int32))), .val (.int (0 : Int32)), .unset, .unset] [])) t
      refine XS.iload X4.here hx rfl (hb hby at_84) rfl ?_
      show Steps p.tables e below (T4.setTop (mkF m 86 #[.val (.int p1), .val (.int p2), .val (.int p3), .val (.int (2 : Int32)), .val (.ref (ad 2)), .val (.int (2 : Int32)), .val (.int (p2 % (128 : Int32))), .val (.int (0 : Int32)), .unset, .unset] [(.int (0 : Int32))])) t
      refine XS.ifNo X4.here hx rfl (hb hby at_86) rfl ((if0 _ _).trans (teq (by decide : (0 : Int32) = (0 : Int32))).2) ?_
      show Steps p.tables e below (T4.setTop (mkF m 89 #[.val (.int p1), .val (.int p2), .val (.int p3), .val (.int (2 : Int32)), .val (.ref (ad 2)), .val (.int (2 : Int32)), .val (.int (p2 % (128 : Int32))), .val (.int (0 : Int32)), .unset, .unset] [])) t
      refine XS.iconst X4.here hx rfl (hb hby at_89) ?_
      show Steps p.tables e below (T4.setTop (mkF m 90 #[.val (.int p1), .val (.int p2), .val (.int p3), .val (.int (2 : Int32)), .val (.ref (ad 2)), .val (.int (2 : Int32)), .val (.int (p2 % (128 : Int32))), .val (.int (0 : Int32)), .unset, .unset] [(.int (1 : Int32))])) t
      refine XS.goto X4.here hx rfl (pc0 := 90) (pc' := 94) rfl (hb hby at_90) (by decide) (by decide) ?_
      exact k)
  obtain ⟨fs, hr, hrun, hended, hW, hsame⟩ := X4.leave (v := some (.int (1 : Int32))) (fun h => by rw [Bd.returns] at h; cases h)
  refine ⟨_, _, ch6 _ ?_, hrun, hended, _, _, rfl, ?_, ⟨_, rfl⟩, hW, hsame.mono (by decide) (by decide)⟩
  · show Steps p.tables e below (T4.setTop (mkF m 94 #[.val (.int p1), .val (.int p2), .val (.int p3), .val (.int (2 : Int32)), .val (.ref (ad 2)), .val (.int (2 : Int32)), .val (.int (p2 % (128 : Int32))), .val (.int (0 : Int32)), .unset, .unset] [(.int (1 : Int32))])) _
    exact retN X4 hx (t := .boolean) Bd.returns (by simp) (hb hby at_94) hr
  · show QN (some (.int (1 : Int32))) n0 _ T4.heap _
    rw [e4]
    exact ⟨rfl, N4⟩
theorem own_ef_own_law_20l (m : MethodId) {x0 : Int32} {x1 : Int32} {x2 : Int32} : entryFrame m #[(.int x0), (.int x1), (.int x2)] maxLocals = mkF m 0 #[.val (.int x0), .val (.int x1), .val (.int x2), .unset, .unset, .unset, .unset, .unset, .unset, .unset] [] := by first | (simp [entryFrame, mkF, argsToLocals, Value.category, maxLocals]; done) | rfl
set_option maxRecDepth 65536 in
set_option maxHeartbeats 40000000 in
theorem own_law_20l (l : Launch) (Z : State) (a0 : Array Value) (hw : ∀ d ∈ tables_1, d.before a0 Z = true) (ws : List Jvm.Cond) (h0 : Heap) (n0 : Nat) (Z0 : n0 ≤ h0.size) (p1 p2 p3 : Int32) (hk : (p1 &&& (2147483647 : Int32)) % (3 : Int32) = (2 : Int32)) (hm : p3 &&& (1 : Int32) = (0 : Int32)) (h1 : ¬ (p2 % (128 : Int32)) < (0 : Int32)) (h2 : ¬ (99 : Int32) < (p2 % (128 : Int32))) (h3 : (p2 % (128 : Int32)) < (50 : Int32)) (ad : Nat → Addr) (W : OwnWd Z h0 ad) :
    MetFree l x (head1 (Jvm.Cond.code x code maxLocals ret :: ws) room_1) (fun a U => a = #[(.int p1), (.int p2), (.int p3)] ∧ Z.Warmed39 U.vm ∧ U.heap = h0) (fun _ _ _ _ _ => True) (fun _ U o U' => ∃ v L, o = .returned v ∧ QN (some (.int (1 : Int32))) n0 v U'.heap L ∧ FrameEnd U o U' L room_1.cells room_1.slots) := by
  refine MetFree.of_bodySF (plainFor_of_name own_pn_com_example_isolint_isolint_bench_ChangeAddedToEachValuePinLaw) hisR ?_
  intro p e s m args below meth c s₁ Bd hml0 hP hK
  obtain ⟨rfl, hZ, hh⟩ := hP
  have hx := Bd.exec
  have hby := Bd.bytes
  have hml : c.maxLocals = 10 := hml0
  have hown : s.vm.findClass "com/example/isolint/isolint/bench/ChangeAddedToEachValuePinLaw" = some m.cls := findClass_of_methodNamed Bd.named
  have hnm := (name_of_methodNamed Bd.named Bd.method).1
  have X0 : Stand p l e room_1 s m #[(.int p1), (.int p2), (.int p3)] below meth c s₁ [] 0 0 := Stand.of_body Bd
  have e0 : s₁.heap = h0 := by rw [← hh, Bd.state]; rfl
  have N0 := Fr.nil n0
  have pre0 : ∀ t, Steps p.tables e below (s₁.setTop (mkF m 0 #[.val (.int p1), .val (.int p2), .val (.int p3), .unset, .unset, .unset, .unset, .unset, .unset, .unset] [])) t → Steps p.tables e below (s₁.setTop (entryFrame m #[(.int p1), (.int p2), (.int p3)] maxLocals)) t := fun t k => castTop (own_ef_own_law_20l m) k
  obtain ⟨T1, X1, e1, st1⟩ := getS2 X0 hx hZ hown (host := "") (Or.inl (hw _ (List.mem_of_getElem? (i := 16) rfl))) Via.refl e0 (own_S_CHANGE_AB W) (g := (mkF m 38 #[.val (.int p1), .val (.int p2), .val (.int p3), .val (.int (2 : Int32)), .unset, .unset, .unset, .unset, .unset, .unset] [])) rfl (hb hby at_38)
  have ch2 : ∀ t, Steps p.tables e below (T1.setTop (mkF m 41 #[.val (.int p1), .val (.int p2), .val (.int p3), .val (.int (2 : Int32)), .unset, .unset, .unset, .unset, .unset, .unset] [(.ref (ad 2))])) t → Steps p.tables e below (s₁.setTop (entryFrame m #[(.int p1), (.int p2), (.int p3)] maxLocals)) t := fun t k => pre0 t (by
      show Steps p.tables e below (s₁.setTop (mkF m 0 #[.val (.int p1), .val (.int p2), .val (.int p3), .unset, .unset, .unset, .unset, .unset, .unset, .unset] [])) t
      refine XS.iloadN X0.here hx rfl (hb hby at_0) rfl ?_
      show Steps p.tables e below (s₁.setTop (mkF m 1 #[.val (.int p1), .val (.int p2), .val (.int p3), .unset, .unset, .unset, .unset, .unset, .unset, .unset] [(.int p1)])) t
      refine X0.ldcInt hx hown (mvT hZ (hw _ (List.mem_of_getElem? (i := 0) rfl))) (g := (mkF m 1 #[.val (.int p1), .val (.int p2), .val (.int p3), .unset, .unset, .unset, .unset, .unset, .unset, .unset] [(.int p1)])) rfl (hb hby at_1) _ ?_
      show Steps p.tables e below (s₁.setTop (mkF m 3 #[.val (.int p1), .val (.int p2), .val (.int p3), .unset, .unset, .unset, .unset, .unset, .unset, .unset] [(.int (2147483647 : Int32)), (.int p1)])) t
      refine XS.iand X0.here hx rfl (hb hby at_3) rfl ?_
      show Steps p.tables e below (s₁.setTop (mkF m 4 #[.val (.int p1), .val (.int p2), .val (.int p3), .unset, .unset, .unset, .unset, .unset, .unset, .unset] [(.int (p1 &&& (2147483647 : Int32)))])) t
      refine XS.iconst X0.here hx rfl (hb hby at_4) ?_
      show Steps p.tables e below (s₁.setTop (mkF m 5 #[.val (.int p1), .val (.int p2), .val (.int p3), .unset, .unset, .unset, .unset, .unset, .unset, .unset] [(.int (3 : Int32)), (.int (p1 &&& (2147483647 : Int32)))])) t
      refine Jvm.RoadKit.iremM (g := (mkF m 5 #[.val (.int p1), .val (.int p2), .val (.int p3), .unset, .unset, .unset, .unset, .unset, .unset, .unset] [(.int (3 : Int32)), (.int (p1 &&& (2147483647 : Int32)))])) X0 hx rfl (hb hby at_5) rfl (by decide) ?_
      rw [hk]
      show Steps p.tables e below (s₁.setTop (mkF m 6 #[.val (.int p1), .val (.int p2), .val (.int p3), .unset, .unset, .unset, .unset, .unset, .unset, .unset] [(.int (2 : Int32))])) t
      refine XS.istoreN X0.here hx rfl (hb hby at_6) rfl (l' := #[.val (.int p1), .val (.int p2), .val (.int p3), .val (.int (2 : Int32)), .unset, .unset, .unset, .unset, .unset, .unset]) rfl ?_
      show Steps p.tables e below (s₁.setTop (mkF m 7 #[.val (.int p1), .val (.int p2), .val (.int p3), .val (.int (2 : Int32)), .unset, .unset, .unset, .unset, .unset, .unset] [])) t
      refine XS.iloadN X0.here hx rfl (hb hby at_7) rfl ?_
      show Steps p.tables e below (s₁.setTop (mkF m 8 #[.val (.int p1), .val (.int p2), .val (.int p3), .val (.int (2 : Int32)), .unset, .unset, .unset, .unset, .unset, .unset] [(.int (2 : Int32))])) t
      refine XS.ifYes X0.here hx rfl (pc0 := 8) (pc' := 22) rfl (hb hby at_8) rfl ((if0 _ _).trans (feq (by decide : ¬ (2 : Int32) = (0 : Int32))).2) (by decide) (by decide) ?_
      show Steps p.tables e below (s₁.setTop (mkF m 22 #[.val (.int p1), .val (.int p2), .val (.int p3), .val (.int (2 : Int32)), .unset, .unset, .unset, .unset, .unset, .unset] [])) t
      refine XS.iloadN X0.here hx rfl (hb hby at_22) rfl ?_
      show Steps p.tables e below (s₁.setTop (mkF m 23 #[.val (.int p1), .val (.int p2), .val (.int p3), .val (.int (2 : Int32)), .unset, .unset, .unset, .unset, .unset, .unset] [(.int (2 : Int32))])) t
      refine XS.iconst X0.here hx rfl (hb hby at_23) ?_
      show Steps p.tables e below (s₁.setTop (mkF m 24 #[.val (.int p1), .val (.int p2), .val (.int p3), .val (.int (2 : Int32)), .unset, .unset, .unset, .unset, .unset, .unset] [(.int (1 : Int32)), (.int (2 : Int32))])) t
      refine XS.icmpYes X0.here hx rfl (pc0 := 24) (pc' := 38) rfl (hb hby at_24) rfl (feq (by decide : ¬ (2 : Int32) = (1 : Int32))).2 (by decide) (by decide) ?_
      show Steps p.tables e below (s₁.setTop (mkF m 38 #[.val (.int p1), .val (.int p2), .val (.int p3), .val (.int (2 : Int32)), .unset, .unset, .unset, .unset, .unset, .unset] [])) t
      exact st1 t k)
  obtain ⟨cq3, kq3, qa3, qb3, qc3⟩ := isOf hZ e1 (own_E_CHANGE_AB W)
  obtain ⟨vv4, _, ⟨T4, L4, kk4, nn4⟩, -, X4, ⟨Lc4, hQ4, l4, y4, z4⟩, st4⟩ := X1.virtualBack hx (y := (⟨"com/example/isolint/isolint/bench/Change", "addedToEachValue", "(I)I"⟩ : MethodName)) (z := (⟨"com/example/isolint/isolint/bench/Change", "addedToEachValue", "(I)I"⟩ : MethodName)) hown (mvT hZ (hw _ (List.mem_of_getElem? (i := 4) rfl))) (mvT hZ (hw _ (List.mem_of_getElem? (i := 5) rfl))) (notFace_of_selects (args := #[]) (mvT hZ (hw _ (List.mem_of_getElem? (i := 7) rfl)))) (mvT hZ (hw _ (List.mem_of_getElem? (i := 7) rfl))) (mvT hZ (hw _ (List.mem_of_getElem? (i := 6) rfl))) (by decide) (backOf (W := 0) (own_add_2l l Z a0 hw [] h0 n0 Z0  (p2 % (128 : Int32)) h1 h2 h3 ad W) hZ (hw _ (List.mem_of_getElem? (i := 8) rfl)) (hw _ (List.mem_of_getElem? (i := 2) rfl)) (by decide) (by decide)) qa3 qc3 (g := (mkF m 67 #[.val (.int p1), .val (.int p2), .val (.int p3), .val (.int (2 : Int32)), .val (.ref (ad 2)), .val (.int (2 : Int32)), .val (.int (p2 % (128 : Int32))), .unset, .unset, .unset] [(.int (p2 % (128 : Int32))), (.ref (ad 2))])) rfl (by rw [hml]; rfl) (Steps.refl _) (argsL := [(.int (p2 % (128 : Int32)))]) (rest := []) (lenOf own_pd__I_I rfl) rfl (by show 2 * 0 + _ ≤ _; exact Nat.le_of_eq rfl) (hb hby at_67) (fun _ _ => ⟨rfl, e1, (by decide : 0 + 0 ≤ _), (by decide : 0 + 0 ≤ _)⟩)
  dsimp only [Pt.U, Pt.locs, Pt.cells, Pt.slots] at X4 l4 y4 z4 st4 hQ4
  subst l4 y4 z4
  obtain ⟨rfl, Nq4, e4⟩ := hQ4
  have N4 := Fr.app N0 Nq4
  have ch5 : ∀ t, Steps p.tables e below (T4.setTop (mkF m 70 #[.val (.int p1), .val (.int p2), .val (.int p3), .val (.int (2 : Int32)), .val (.ref (ad 2)), .val (.int (2 : Int32)), .val (.int (p2 % (128 : Int32))), .unset, .unset, .unset] [(.int (25 : Int32))])) t → Steps p.tables e below (s₁.setTop (entryFrame m #[(.int p1), (.int p2), (.int p3)] maxLocals)) t := fun t k => ch2 t (by
      show Steps p.tables e below (T1.setTop (mkF m 41 #[.val (.int p1), .val (.int p2), .val (.int p3), .val (.int (2 : Int32)), .unset, .unset, .unset, .unset, .unset, .unset] [(.ref (ad 2))])) t
      refine XS.astore X1.here hx rfl (hb hby at_41) rfl rfl (l' := #[.val (.int p1), .val (.int p2), .val (.int p3), .val (.int (2 : Int32)), .val (.ref (ad 2)), .unset, .unset, .unset, .unset, .unset]) rfl ?_
      show Steps p.tables e below (T1.setTop (mkF m 43 #[.val (.int p1), .val (.int p2), .val (.int p3), .val (.int (2 : Int32)), .val (.ref (ad 2)), .unset, .unset, .unset, .unset, .unset] [])) t
      refine XS.iconst X1.here hx rfl (hb hby at_43) ?_
      show Steps p.tables e below (T1.setTop (mkF m 44 #[.val (.int p1), .val (.int p2), .val (.int p3), .val (.int (2 : Int32)), .val (.ref (ad 2)), .unset, .unset, .unset, .unset, .unset] [(.int (2 : Int32))])) t
      refine XS.istore X1.here hx rfl (hb hby at_44) rfl (l' := #[.val (.int p1), .val (.int p2), .val (.int p3), .val (.int (2 : Int32)), .val (.ref (ad 2)), .val (.int (2 : Int32)), .unset, .unset, .unset, .unset]) rfl ?_
      show Steps p.tables e below (T1.setTop (mkF m 46 #[.val (.int p1), .val (.int p2), .val (.int p3), .val (.int (2 : Int32)), .val (.ref (ad 2)), .val (.int (2 : Int32)), .unset, .unset, .unset, .unset] [])) t
      refine XS.iloadN X1.here hx rfl (hb hby at_46) rfl ?_
      show Steps p.tables e below (T1.setTop (mkF m 47 #[.val (.int p1), .val (.int p2), .val (.int p3), .val (.int (2 : Int32)), .val (.ref (ad 2)), .val (.int (2 : Int32)), .unset, .unset, .unset, .unset] [(.int p3)])) t
      refine XS.iconst X1.here hx rfl (hb hby at_47) ?_
      show Steps p.tables e below (T1.setTop (mkF m 48 #[.val (.int p1), .val (.int p2), .val (.int p3), .val (.int (2 : Int32)), .val (.ref (ad 2)), .val (.int (2 : Int32)), .unset, .unset, .unset, .unset] [(.int (1 : Int32)), (.int p3)])) t
      refine XS.iand X1.here hx rfl (hb hby at_48) rfl ?_
      rw [hm]
      show Steps p.tables e below (T1.setTop (mkF m 49 #[.val (.int p1), .val (.int p2), .val (.int p3), .val (.int (2 : Int32)), .val (.ref (ad 2)), .val (.int (2 : Int32)), .unset, .unset, .unset, .unset] [(.int (0 : Int32))])) t
      refine XS.ifYes X1.here hx rfl (pc0 := 49) (pc' := 56) rfl (hb hby at_49) rfl ((if0 _ _).trans (teq (by decide : (0 : Int32) = (0 : Int32))).1) (by decide) (by decide) ?_
      show Steps p.tables e below (T1.setTop (mkF m 56 #[.val (.int p1), .val (.int p2), .val (.int p3), .val (.int (2 : Int32)), .val (.ref (ad 2)), .val (.int (2 : Int32)), .unset, .unset, .unset, .unset] [])) t
      refine XS.iloadN X1.here hx rfl (hb hby at_56) rfl ?_
      show Steps p.tables e below (T1.setTop (mkF m 57 #[.val (.int p1), .val (.int p2), .val (.int p3), .val (.int (2 : Int32)), .val (.ref (ad 2)), .val (.int (2 : Int32)), .unset, .unset, .unset, .unset] [(.int p2)])) t
      refine XS.sipush X1.here hx rfl (hb hby at_57) ?_
      show Steps p.tables e below (T1.setTop (mkF m 60 #[.val (.int p1), .val (.int p2), .val (.int p3), .val (.int (2 : Int32)), .val (.ref (ad 2)), .val (.int (2 : Int32)), .unset, .unset, .unset, .unset] [(.int (128 : Int32)), (.int p2)])) t
      refine Jvm.RoadKit.iremM (g := (mkF m 60 #[.val (.int p1), .val (.int p2), .val (.int p3), .val (.int (2 : Int32)), .val (.ref (ad 2)), .val (.int (2 : Int32)), .unset, .unset, .unset, .unset] [(.int (128 : Int32)), (.int p2)])) X1 hx rfl (hb hby at_60) rfl (by decide) ?_
      show Steps p.tables e below (T1.setTop (mkF m 61 #[.val (.int p1), .val (.int p2), .val (.int p3), .val (.int (2 : Int32)), .val (.ref (ad 2)), .val (.int (2 : Int32)), .unset, .unset, .unset, .unset] [(.int (p2 % (128 : Int32)))])) t
      refine XS.istore X1.here hx rfl (hb hby at_61) rfl (l' := #[.val (.int p1), .val (.int p2), .val (.int p3), .val (.int (2 : Int32)), .val (.ref (ad 2)), .val (.int (2 : Int32)), .val (.int (p2 % (128 : Int32))), .unset, .unset, .unset]) rfl ?_
      show Steps p.tables e below (T1.setTop (mkF m 63 #[.val (.int p1), .val (.int p2), .val (.int p3), .val (.int (2 : Int32)), .val (.ref (ad 2)), .val (.int (2 : Int32)), .val (.int (p2 % (128 : Int32))), .unset, .unset, .unset] [])) t
      refine XS.aload X1.here hx rfl (hb hby at_63) rfl rfl ?_
      show Steps p.tables e below (T1.setTop (mkF m 65 #[.val (.int p1), .val (.int p2), .val (.int p3), .val (.int (2 : Int32)), .val (.ref (ad 2)), .val (.int (2 : Int32)), .val (.int (p2 % (128 : Int32))), .unset, .unset, .unset] [(.ref (ad 2))])) t
      refine XS.iload X1.here hx rfl (hb hby at_65) rfl ?_
      show Steps p.tables e below (T1.setTop (mkF m 67 #[.val (.int p1), .val (.int p2), .val (.int p3), .val (.int (2 : Int32)), .val (.ref (ad 2)), .val (.int (2 : Int32)), .val (.int (p2 % (128 : Int32))), .unset, .unset, .unset] [(.int (p2 % (128 : Int32))), (.ref (ad 2))])) t
      exact st4.trans k)
  have ch6 : ∀ t, Steps p.tables e below (T4.setTop (mkF m 133 #[.val (.int p1), .val (.int p2), .val (.int p3), .val (.int (2 : Int32)), .val (.ref (ad 2)), .val (.int (2 : Int32)), .val (.int (p2 % (128 : Int32))), .val (.int (25 : Int32)), .val (.long (((p2 % (128 : Int32)).toInt64) + (50 : Int64))), .second] [(.int (1 : Int32))])) t → Steps p.tables e below (s₁.setTop (entryFrame m #[(.int p1), (.int p2), (.int p3)] maxLocals)) t := fun t k => ch5 t (by
      show Steps p.tables e below (T4.setTop (mkF m 70 #[.val (.int p1), .val (.int p2), .val (.int p3), .val (.int (2 : Int32)), .val (.ref (ad 2)), .val (.int (2 : Int32)), .val (.int (p2 % (128 : Int32))), .unset, .unset, .unset] [(.int (25 : Int32))])) t
      refine XS.istore X4.here hx rfl (hb hby at_70) rfl (l' := #[.val (.int p1), .val (.int p2), .val (.int p3), .val (.int (2 : Int32)), .val (.ref (ad 2)), .val (.int (2 : Int32)), .val (.int (p2 % (128 : Int32))), .val (.int (25 : Int32)), .unset, .unset]) rfl ?_
      show Steps p.tables e below (T4.setTop (mkF m 72 #[.val (.int p1), .val (.int p2), .val (.int p3), .val (.int (2 : Int32)), .val (.ref (ad 2)), .val (.int (2 : Int32)), .val (.int (p2 % (128 : Int32))), .val (.int (25 : Int32)), .unset, .unset] [])) t
      refine XS.iload X4.here hx rfl (hb hby at_72) rfl ?_
      show Steps p.tables e below (T4.setTop (mkF m 74 #[.val (.int p1), .val (.int p2), .val (.int p3), .val (.int (2 : Int32)), .val (.ref (ad 2)), .val (.int (2 : Int32)), .val (.int (p2 % (128 : Int32))), .val (.int (25 : Int32)), .unset, .unset] [(.int (p2 % (128 : Int32)))])) t
      refine XS.ifNo X4.here hx rfl (hb hby at_74) rfl ((if0 _ _).trans (flt h1).1) ?_
      show Steps p.tables e below (T4.setTop (mkF m 77 #[.val (.int p1), .val (.int p2), .val (.int p3), .val (.int (2 : Int32)), .val (.ref (ad 2)), .val (.int (2 : Int32)), .val (.int (p2 % (128 : Int32))), .val (.int (25 : Int32)), .unset, .unset] [])) t
      refine XS.iload X4.here hx rfl (hb hby at_77) rfl ?_
      show Steps p.tables e below (T4.setTop (mkF m 79 #[.val (.int p1), .val (.int p2), .val (.int p3), .val (.int (2 : Int32)), .val (.ref (ad 2)), .val (.int (2 : Int32)), .val (.int (p2 % (128 : Int32))), .val (.int (25 : Int32)), .unset, .unset] [(.int (p2 % (128 : Int32)))])) t
      refine XS.bipush X4.here hx rfl (hb hby at_79) ?_
      show Steps p.tables e below (T4.setTop (mkF m 81 #[.val (.int p1), .val (.int p2), .val (.int p3), .val (.int (2 : Int32)), .val (.ref (ad 2)), .val (.int (2 : Int32)), .val (.int (p2 % (128 : Int32))), .val (.int (25 : Int32)), .unset, .unset] [(.int (99 : Int32)), (.int (p2 % (128 : Int32)))])) t
      refine XS.icmpYes X4.here hx rfl (pc0 := 81) (pc' := 95) rfl (hb hby at_81) rfl (flt h2).2.2.2 (by decide) (by decide) ?_
      show Steps p.tables e below (T4.setTop (mkF m 95 #[.val (.int p1), .val (.int p2), .val (.int p3), .val (.int (2 : Int32)), .val (.ref (ad 2)), .val (.int (2 : Int32)), .val (.int (p2 % (128 : Int32))), .val (.int (25 : Int32)), .unset, .unset] [])) t
      refine XS.iload X4.here hx rfl (hb hby at_95) rfl ?_
      show Steps p.tables e below (T4.setTop (mkF m 97 #[.val (.int p1), .val (.int p2), .val (.int p3), .val (.int (2 : Int32)), .val (.ref (ad 2)), .val (.int (2 : Int32)), .val (.int (p2 % (128 : Int32))), .val (.int (25 : Int32)), .unset, .unset] [(.int (p2 % (128 : Int32)))])) t
      refine XS.i2l X4.here hx rfl (hb hby at_97) rfl ?_
      show Steps p.tables e below (T4.setTop (mkF m 98 #[.val (.int p1), .val (.int p2), .val (.int p3), .val (.int (2 : Int32)), .val (.ref (ad 2)), .val (.int (2 : Int32)), .val (.int (p2 % (128 : Int32))), .val (.int (25 : Int32)), .unset, .unset] [(.long ((p2 % (128 : Int32)).toInt64))])) t
      refine XS.iload X4.here hx rfl (hb hby at_98) rfl ?_
      show Steps p.tables e below (T4.setTop (mkF m 100 #[.val (.int p1), .val (.int p2), .val (.int p3), .val (.int (2 : Int32)), .val (.ref (ad 2)), .val (.int (2 : Int32)), .val (.int (p2 % (128 : Int32))), .val (.int (25 : Int32)), .unset, .unset] [(.int (2 : Int32)), (.long ((p2 % (128 : Int32)).toInt64))])) t
      refine XS.i2l X4.here hx rfl (hb hby at_100) rfl ?_
      rw [show ((2 : Int32).toInt64) = (2 : Int64) from by decide]
      show Steps p.tables e below (T4.setTop (mkF m 101 #[.val (.int p1), .val (.int p2), .val (.int p3), .val (.int (2 : Int32)), .val (.ref (ad 2)), .val (.int (2 : Int32)), .val (.int (p2 % (128 : Int32))), .val (.int (25 : Int32)), .unset, .unset] [(.long (2 : Int64)), (.long ((p2 % (128 : Int32)).toInt64))])) t
      refine XS.iload X4.here hx rfl (hb hby at_101) rfl ?_
      show Steps p.tables e below (T4.setTop (mkF m 103 #[.val (.int p1), .val (.int p2), .val (.int p3), .val (.int (2 : Int32)), .val (.ref (ad 2)), .val (.int (2 : Int32)), .val (.int (p2 % (128 : Int32))), .val (.int (25 : Int32)), .unset, .unset] [(.int (25 : Int32)), (.long (2 : Int64)), (.long ((p2 % (128 : Int32)).toInt64))])) t
      refine XS.i2l X4.here hx rfl (hb hby at_103) rfl ?_
      rw [show ((25 : Int32).toInt64) = (25 : Int64) from by decide]
      show Steps p.tables e below (T4.setTop (mkF m 104 #[.val (.int p1), .val (.int p2), .val (.int p3), .val (.int (2 : Int32)), .val (.ref (ad 2)), .val (.int (2 : Int32)), .val (.int (p2 % (128 : Int32))), .val (.int (25 : Int32)), .unset, .unset] [(.long (25 : Int64)), (.long (2 : Int64)), (.long ((p2 % (128 : Int32)).toInt64))])) t
      refine XS.lmul X4.here hx rfl (hb hby at_104) rfl ?_
      rw [show ((2 : Int64) * (25 : Int64)) = (50 : Int64) from by decide]
      show Steps p.tables e below (T4.setTop (mkF m 105 #[.val (.int p1), .val (.int p2), .val (.int p3), .val (.int (2 : Int32)), .val (.ref (ad 2)), .val (.int (2 : Int32)), .val (.int (p2 % (128 : Int32))), .val (.int (25 : Int32)), .unset, .unset] [(.long (50 : Int64)), (.long ((p2 % (128 : Int32)).toInt64))])) t
      refine XS.ladd X4.here hx rfl (hb hby at_105) rfl ?_
      show Steps p.tables e below (T4.setTop (mkF m 106 #[.val (.int p1), .val (.int p2), .val (.int p3), .val (.int (2 : Int32)), .val (.ref (ad 2)), .val (.int (2 : Int32)), .val (.int (p2 % (128 : Int32))), .val (.int (25 : Int32)), .unset, .unset] [(.long (((p2 % (128 : Int32)).toInt64) + (50 : Int64)))])) t
      refine XS.lstore X4.here hx rfl (hb hby at_106) rfl (l' := #[.val (.int p1), .val (.int p2), .val (.int p3), .val (.int (2 : Int32)), .val (.ref (ad 2)), .val (.int (2 : Int32)), .val (.int (p2 % (128 : Int32))), .val (.int (25 : Int32)), .val (.long (((p2 % (128 : Int32)).toInt64) + (50 : Int64))), .second]) rfl ?_
      show Steps p.tables e below (T4.setTop (mkF m 108 #[.val (.int p1), .val (.int p2), .val (.int p3), .val (.int (2 : Int32)), .val (.ref (ad 2)), .val (.int (2 : Int32)), .val (.int (p2 % (128 : Int32))), .val (.int (25 : Int32)), .val (.long (((p2 % (128 : Int32)).toInt64) + (50 : Int64))), .second] [])) t
      refine XS.iload X4.here hx rfl (hb hby at_108) rfl ?_
      show Steps p.tables e below (T4.setTop (mkF m 110 #[.val (.int p1), .val (.int p2), .val (.int p3), .val (.int (2 : Int32)), .val (.ref (ad 2)), .val (.int (2 : Int32)), .val (.int (p2 % (128 : Int32))), .val (.int (25 : Int32)), .val (.long (((p2 % (128 : Int32)).toInt64) + (50 : Int64))), .second] [(.int (p2 % (128 : Int32)))])) t
      refine XS.bipush X4.here hx rfl (hb hby at_110) ?_
      show Steps p.tables e below (T4.setTop (mkF m 112 #[.val (.int p1), .val (.int p2), .val (.int p3), .val (.int (2 : Int32)), .val (.ref (ad 2)), .val (.int (2 : Int32)), .val (.int (p2 % (128 : Int32))), .val (.int (25 : Int32)), .val (.long (((p2 % (128 : Int32)).toInt64) + (50 : Int64))), .second] [(.int (50 : Int32)), (.int (p2 % (128 : Int32)))])) t
      refine XS.icmpNo X4.here hx rfl (hb hby at_112) rfl (tlt h3).2.1 ?_
      show Steps p.tables e below (T4.setTop (mkF m 115 #[.val (.int p1), .val (.int p2), .val (.int p3), .val (.int (2 : Int32)), .val (.ref (ad 2)), .val (.int (2 : Int32)), .val (.int (p2 % (128 : Int32))), .val (.int (25 : Int32)), .val (.long (((p2 % (128 : Int32)).toInt64) + (50 : Int64))), .second] [])) t
      refine XS.lload X4.here hx rfl (hb hby at_115) rfl ?_
      show Steps p.tables e below (T4.setTop (mkF m 117 #[.val (.int p1), .val (.int p2), .val (.int p3), .val (.int (2 : Int32)), .val (.ref (ad 2)), .val (.int (2 : Int32)), .val (.int (p2 % (128 : Int32))), .val (.int (25 : Int32)), .val (.long (((p2 % (128 : Int32)).toInt64) + (50 : Int64))), .second] [(.long (((p2 % (128 : Int32)).toInt64) + (50 : Int64)))])) t
      refine XS.iload X4.here hx rfl (hb hby at_117) rfl ?_
      show Steps p.tables e below (T4.setTop (mkF m 119 #[.val (.int p1), .val (.int p2), .val (.int p3), .val (.int (2 : Int32)), .val (.ref (ad 2)), .val (.int (2 : Int32)), .val (.int (p2 % (128 : Int32))), .val (.int (25 : Int32)), .val (.long (((p2 % (128 : Int32)).toInt64) + (50 : Int64))), .second] [(.int (p2 % (128 : Int32))), (.long (((p2 % (128 : Int32)).toInt64) + (50 : Int64)))])) t
      refine XS.i2l X4.here hx rfl (hb hby at_119) rfl ?_
      show Steps p.tables e below (T4.setTop (mkF m 120 #[.val (.int p1), .val (.int p2), .val (.int p3), .val (.int (2 : Int32)), .val (.ref (ad 2)), .val (.int (2 : Int32)), .val (.int (p2 % (128 : Int32))), .val (.int (25 : Int32)), .val (.long (((p2 % (128 : Int32)).toInt64) + (50 : Int64))), .second] [(.long ((p2 % (128 : Int32)).toInt64)), (.long (((p2 % (128 : Int32)).toInt64) + (50 : Int64)))])) t
      refine X4.ldc2Long hx hown (mvT hZ (hw _ (List.mem_of_getElem? (i := 13) rfl))) (g := (mkF m 120 #[.val (.int p1), .val (.int p2), .val (.int p3), .val (.int (2 : Int32)), .val (.ref (ad 2)), .val (.int (2 : Int32)), .val (.int (p2 % (128 : Int32))), .val (.int (25 : Int32)), .val (.long (((p2 % (128 : Int32)).toInt64) + (50 : Int64))), .second] [(.long ((p2 % (128 : Int32)).toInt64)), (.long (((p2 % (128 : Int32)).toInt64) + (50 : Int64)))])) rfl (hb hby at_120) _ ?_
      show Steps p.tables e below (T4.setTop (mkF m 123 #[.val (.int p1), .val (.int p2), .val (.int p3), .val (.int (2 : Int32)), .val (.ref (ad 2)), .val (.int (2 : Int32)), .val (.int (p2 % (128 : Int32))), .val (.int (25 : Int32)), .val (.long (((p2 % (128 : Int32)).toInt64) + (50 : Int64))), .second] [(.long (50 : Int64)), (.long ((p2 % (128 : Int32)).toInt64)), (.long (((p2 % (128 : Int32)).toInt64) + (50 : Int64)))])) t
      refine XS.ladd X4.here hx rfl (hb hby at_123) rfl ?_
      show Steps p.tables e below (T4.setTop (mkF m 124 #[.val (.int p1), .val (.int p2), .val (.int p3), .val (.int (2 : Int32)), .val (.ref (ad 2)), .val (.int (2 : Int32)), .val (.int (p2 % (128 : Int32))), .val (.int (25 : Int32)), .val (.long (((p2 % (128 : Int32)).toInt64) + (50 : Int64))), .second] [(.long (((p2 % (128 : Int32)).toInt64) + (50 : Int64))), (.long (((p2 % (128 : Int32)).toInt64) + (50 : Int64)))])) t
      refine XS.lcmp X4.here hx rfl (hb hby at_124) rfl ?_
      show Steps p.tables e below (T4.setTop (mkF m 125 #[.val (.int p1), .val (.int p2), .val (.int p3), .val (.int (2 : Int32)), .val (.ref (ad 2)), .val (.int (2 : Int32)), .val (.int (p2 % (128 : Int32))), .val (.int (25 : Int32)), .val (.long (((p2 % (128 : Int32)).toInt64) + (50 : Int64))), .second] [(.int (lcmpW (((p2 % (128 : Int32)).toInt64) + (50 : Int64)) (((p2 % (128 : Int32)).toInt64) + (50 : Int64))))])) t
      rw [own_lc0]
      show Steps p.tables e below (T4.setTop (mkF m 125 #[.val (.int p1), .val (.int p2), .val (.int p3), .val (.int (2 : Int32)), .val (.ref (ad 2)), .val (.int (2 : Int32)), .val (.int (p2 % (128 : Int32))), .val (.int (25 : Int32)), .val (.long (((p2 % (128 : Int32)).toInt64) + (50 : Int64))), .second] [(.int (0 : Int32))])) t
      refine XS.ifNo X4.here hx rfl (hb hby at_125) rfl ((if0 _ _).trans (teq (by decide : (0 : Int32) = (0 : Int32))).2) ?_
      show Steps p.tables e below (T4.setTop (mkF m 128 #[.val (.int p1), .val (.int p2), .val (.int p3), .val (.int (2 : Int32)), .val (.ref (ad 2)), .val (.int (2 : Int32)), .val (.int (p2 % (128 : Int32))), .val (.int (25 : Int32)), .val (.long (((p2 % (128 : Int32)).toInt64) + (50 : Int64))), .second] [])) t
      refine XS.iconst X4.here hx rfl (hb hby at_128) ?_
      show Steps p.tables e below (T4.setTop (mkF m 129 #[.val (.int p1), .val (.int p2), .val (.int p3), .val (.int (2 : Int32)), .val (.ref (ad 2)), .val (.int (2 : Int32)), .val (.int (p2 % (128 : Int32))), .val (.int (25 : Int32)), .val (.long (((p2 % (128 : Int32)).toInt64) + (50 : Int64))), .second] [(.int (1 : Int32))])) t
      refine XS.goto X4.here hx rfl (pc0 := 129) (pc' := 133) rfl (hb hby at_129) (by decide) (by decide) ?_
      exact k)
  obtain ⟨fs, hr, hrun, hended, hW, hsame⟩ := X4.leave (v := some (.int (1 : Int32))) (fun h => by rw [Bd.returns] at h; cases h)
  refine ⟨_, _, ch6 _ ?_, hrun, hended, _, _, rfl, ?_, ⟨_, rfl⟩, hW, hsame.mono (by decide) (by decide)⟩
  · show Steps p.tables e below (T4.setTop (mkF m 133 #[.val (.int p1), .val (.int p2), .val (.int p3), .val (.int (2 : Int32)), .val (.ref (ad 2)), .val (.int (2 : Int32)), .val (.int (p2 % (128 : Int32))), .val (.int (25 : Int32)), .val (.long (((p2 % (128 : Int32)).toInt64) + (50 : Int64))), .second] [(.int (1 : Int32))])) _
    exact retN X4 hx (t := .boolean) Bd.returns (by simp) (hb hby at_133) hr
  · show QN (some (.int (1 : Int32))) n0 _ T4.heap _
    rw [e4]
    exact ⟨rfl, N4⟩
theorem own_ef_own_law_20h (m : MethodId) {x0 : Int32} {x1 : Int32} {x2 : Int32} : entryFrame m #[(.int x0), (.int x1), (.int x2)] maxLocals = mkF m 0 #[.val (.int x0), .val (.int x1), .val (.int x2), .unset, .unset, .unset, .unset, .unset, .unset, .unset] [] := by first | (simp [entryFrame, mkF, argsToLocals, Value.category, maxLocals]; done) | rfl
set_option maxRecDepth 65536 in
set_option maxHeartbeats 40000000 in
theorem own_law_20h (l : Launch) (Z : State) (a0 : Array Value) (hw : ∀ d ∈ tables_1, d.before a0 Z = true) (ws : List Jvm.Cond) (h0 : Heap) (n0 : Nat) (Z0 : n0 ≤ h0.size) (p1 p2 p3 : Int32) (hk : (p1 &&& (2147483647 : Int32)) % (3 : Int32) = (2 : Int32)) (hm : p3 &&& (1 : Int32) = (0 : Int32)) (h1 : ¬ (p2 % (128 : Int32)) < (0 : Int32)) (h2 : ¬ (99 : Int32) < (p2 % (128 : Int32))) (h3 : ¬ (p2 % (128 : Int32)) < (50 : Int32)) (ad : Nat → Addr) (W : OwnWd Z h0 ad) :
    MetFree l x (head1 (Jvm.Cond.code x code maxLocals ret :: ws) room_1) (fun a U => a = #[(.int p1), (.int p2), (.int p3)] ∧ Z.Warmed39 U.vm ∧ U.heap = h0) (fun _ _ _ _ _ => True) (fun _ U o U' => ∃ v L, o = .returned v ∧ QN (some (.int (1 : Int32))) n0 v U'.heap L ∧ FrameEnd U o U' L room_1.cells room_1.slots) := by
  refine MetFree.of_bodySF (plainFor_of_name own_pn_com_example_isolint_isolint_bench_ChangeAddedToEachValuePinLaw) hisR ?_
  intro p e s m args below meth c s₁ Bd hml0 hP hK
  obtain ⟨rfl, hZ, hh⟩ := hP
  have hx := Bd.exec
  have hby := Bd.bytes
  have hml : c.maxLocals = 10 := hml0
  have hown : s.vm.findClass "com/example/isolint/isolint/bench/ChangeAddedToEachValuePinLaw" = some m.cls := findClass_of_methodNamed Bd.named
  have hnm := (name_of_methodNamed Bd.named Bd.method).1
  have X0 : Stand p l e room_1 s m #[(.int p1), (.int p2), (.int p3)] below meth c s₁ [] 0 0 := Stand.of_body Bd
  have e0 : s₁.heap = h0 := by rw [← hh, Bd.state]; rfl
  have N0 := Fr.nil n0
  have pre0 : ∀ t, Steps p.tables e below (s₁.setTop (mkF m 0 #[.val (.int p1), .val (.int p2), .val (.int p3), .unset, .unset, .unset, .unset, .unset, .unset, .unset] [])) t → Steps p.tables e below (s₁.setTop (entryFrame m #[(.int p1), (.int p2), (.int p3)] maxLocals)) t := fun t k => castTop (own_ef_own_law_20h m) k
  obtain ⟨T1, X1, e1, st1⟩ := getS2 X0 hx hZ hown (host := "") (Or.inl (hw _ (List.mem_of_getElem? (i := 16) rfl))) Via.refl e0 (own_S_CHANGE_AB W) (g := (mkF m 38 #[.val (.int p1), .val (.int p2), .val (.int p3), .val (.int (2 : Int32)), .unset, .unset, .unset, .unset, .unset, .unset] [])) rfl (hb hby at_38)
  have ch2 : ∀ t, Steps p.tables e below (T1.setTop (mkF m 41 #[.val (.int p1), .val (.int p2), .val (.int p3), .val (.int (2 : Int32)), .unset, .unset, .unset, .unset, .unset, .unset] [(.ref (ad 2))])) t → Steps p.tables e below (s₁.setTop (entryFrame m #[(.int p1), (.int p2), (.int p3)] maxLocals)) t := fun t k => pre0 t (by
      show Steps p.tables e below (s₁.setTop (mkF m 0 #[.val (.int p1), .val (.int p2), .val (.int p3), .unset, .unset, .unset, .unset, .unset, .unset, .unset] [])) t
      refine XS.iloadN X0.here hx rfl (hb hby at_0) rfl ?_
      show Steps p.tables e below (s₁.setTop (mkF m 1 #[.val (.int p1), .val (.int p2), .val (.int p3), .unset, .unset, .unset, .unset, .unset, .unset, .unset] [(.int p1)])) t
      refine X0.ldcInt hx hown (mvT hZ (hw _ (List.mem_of_getElem? (i := 0) rfl))) (g := (mkF m 1 #[.val (.int p1), .val (.int p2), .val (.int p3), .unset, .unset, .unset, .unset, .unset, .unset, .unset] [(.int p1)])) rfl (hb hby at_1) _ ?_
      show Steps p.tables e below (s₁.setTop (mkF m 3 #[.val (.int p1), .val (.int p2), .val (.int p3), .unset, .unset, .unset, .unset, .unset, .unset, .unset] [(.int (2147483647 : Int32)), (.int p1)])) t
      refine XS.iand X0.here hx rfl (hb hby at_3) rfl ?_
      show Steps p.tables e below (s₁.setTop (mkF m 4 #[.val (.int p1), .val (.int p2), .val (.int p3), .unset, .unset, .unset, .unset, .unset, .unset, .unset] [(.int (p1 &&& (2147483647 : Int32)))])) t
      refine XS.iconst X0.here hx rfl (hb hby at_4) ?_
      show Steps p.tables e below (s₁.setTop (mkF m 5 #[.val (.int p1), .val (.int p2), .val (.int p3), .unset, .unset, .unset, .unset, .unset, .unset, .unset] [(.int (3 : Int32)), (.int (p1 &&& (2147483647 : Int32)))])) t
      refine Jvm.RoadKit.iremM (g := (mkF m 5 #[.val (.int p1), .val (.int p2), .val (.int p3), .unset, .unset, .unset, .unset, .unset, .unset, .unset] [(.int (3 : Int32)), (.int (p1 &&& (2147483647 : Int32)))])) X0 hx rfl (hb hby at_5) rfl (by decide) ?_
      rw [hk]
      show Steps p.tables e below (s₁.setTop (mkF m 6 #[.val (.int p1), .val (.int p2), .val (.int p3), .unset, .unset, .unset, .unset, .unset, .unset, .unset] [(.int (2 : Int32))])) t
      refine XS.istoreN X0.here hx rfl (hb hby at_6) rfl (l' := #[.val (.int p1), .val (.int p2), .val (.int p3), .val (.int (2 : Int32)), .unset, .unset, .unset, .unset, .unset, .unset]) rfl ?_
      show Steps p.tables e below (s₁.setTop (mkF m 7 #[.val (.int p1), .val (.int p2), .val (.int p3), .val (.int (2 : Int32)), .unset, .unset, .unset, .unset, .unset, .unset] [])) t
      refine XS.iloadN X0.here hx rfl (hb hby at_7) rfl ?_
      show Steps p.tables e below (s₁.setTop (mkF m 8 #[.val (.int p1), .val (.int p2), .val (.int p3), .val (.int (2 : Int32)), .unset, .unset, .unset, .unset, .unset, .unset] [(.int (2 : Int32))])) t
      refine XS.ifYes X0.here hx rfl (pc0 := 8) (pc' := 22) rfl (hb hby at_8) rfl ((if0 _ _).trans (feq (by decide : ¬ (2 : Int32) = (0 : Int32))).2) (by decide) (by decide) ?_
      show Steps p.tables e below (s₁.setTop (mkF m 22 #[.val (.int p1), .val (.int p2), .val (.int p3), .val (.int (2 : Int32)), .unset, .unset, .unset, .unset, .unset, .unset] [])) t
      refine XS.iloadN X0.here hx rfl (hb hby at_22) rfl ?_
      show Steps p.tables e below (s₁.setTop (mkF m 23 #[.val (.int p1), .val (.int p2), .val (.int p3), .val (.int (2 : Int32)), .unset, .unset, .unset, .unset, .unset, .unset] [(.int (2 : Int32))])) t
      refine XS.iconst X0.here hx rfl (hb hby at_23) ?_
      show Steps p.tables e below (s₁.setTop (mkF m 24 #[.val (.int p1), .val (.int p2), .val (.int p3), .val (.int (2 : Int32)), .unset, .unset, .unset, .unset, .unset, .unset] [(.int (1 : Int32)), (.int (2 : Int32))])) t
      refine XS.icmpYes X0.here hx rfl (pc0 := 24) (pc' := 38) rfl (hb hby at_24) rfl (feq (by decide : ¬ (2 : Int32) = (1 : Int32))).2 (by decide) (by decide) ?_
      show Steps p.tables e below (s₁.setTop (mkF m 38 #[.val (.int p1), .val (.int p2), .val (.int p3), .val (.int (2 : Int32)), .unset, .unset, .unset, .unset, .unset, .unset] [])) t
      exact st1 t k)
  obtain ⟨cq3, kq3, qa3, qb3, qc3⟩ := isOf hZ e1 (own_E_CHANGE_AB W)
  obtain ⟨vv4, _, ⟨T4, L4, kk4, nn4⟩, -, X4, ⟨Lc4, hQ4, l4, y4, z4⟩, st4⟩ := X1.virtualBack hx (y := (⟨"com/example/isolint/isolint/bench/Change", "addedToEachValue", "(I)I"⟩ : MethodName)) (z := (⟨"com/example/isolint/isolint/bench/Change", "addedToEachValue", "(I)I"⟩ : MethodName)) hown (mvT hZ (hw _ (List.mem_of_getElem? (i := 4) rfl))) (mvT hZ (hw _ (List.mem_of_getElem? (i := 5) rfl))) (notFace_of_selects (args := #[]) (mvT hZ (hw _ (List.mem_of_getElem? (i := 7) rfl)))) (mvT hZ (hw _ (List.mem_of_getElem? (i := 7) rfl))) (mvT hZ (hw _ (List.mem_of_getElem? (i := 6) rfl))) (by decide) (backOf (W := 0) (own_add_2h l Z a0 hw [] h0 n0 Z0  (p2 % (128 : Int32)) h1 h2 h3 ad W) hZ (hw _ (List.mem_of_getElem? (i := 8) rfl)) (hw _ (List.mem_of_getElem? (i := 2) rfl)) (by decide) (by decide)) qa3 qc3 (g := (mkF m 67 #[.val (.int p1), .val (.int p2), .val (.int p3), .val (.int (2 : Int32)), .val (.ref (ad 2)), .val (.int (2 : Int32)), .val (.int (p2 % (128 : Int32))), .unset, .unset, .unset] [(.int (p2 % (128 : Int32))), (.ref (ad 2))])) rfl (by rw [hml]; rfl) (Steps.refl _) (argsL := [(.int (p2 % (128 : Int32)))]) (rest := []) (lenOf own_pd__I_I rfl) rfl (by show 2 * 0 + _ ≤ _; exact Nat.le_of_eq rfl) (hb hby at_67) (fun _ _ => ⟨rfl, e1, (by decide : 0 + 0 ≤ _), (by decide : 0 + 0 ≤ _)⟩)
  dsimp only [Pt.U, Pt.locs, Pt.cells, Pt.slots] at X4 l4 y4 z4 st4 hQ4
  subst l4 y4 z4
  obtain ⟨rfl, Nq4, e4⟩ := hQ4
  have N4 := Fr.app N0 Nq4
  have ch5 : ∀ t, Steps p.tables e below (T4.setTop (mkF m 70 #[.val (.int p1), .val (.int p2), .val (.int p3), .val (.int (2 : Int32)), .val (.ref (ad 2)), .val (.int (2 : Int32)), .val (.int (p2 % (128 : Int32))), .unset, .unset, .unset] [(.int (-25 : Int32))])) t → Steps p.tables e below (s₁.setTop (entryFrame m #[(.int p1), (.int p2), (.int p3)] maxLocals)) t := fun t k => ch2 t (by
      show Steps p.tables e below (T1.setTop (mkF m 41 #[.val (.int p1), .val (.int p2), .val (.int p3), .val (.int (2 : Int32)), .unset, .unset, .unset, .unset, .unset, .unset] [(.ref (ad 2))])) t
      refine XS.astore X1.here hx rfl (hb hby at_41) rfl rfl (l' := #[.val (.int p1), .val (.int p2), .val (.int p3), .val (.int (2 : Int32)), .val (.ref (ad 2)), .unset, .unset, .unset, .unset, .unset]) rfl ?_
      show Steps p.tables e below (T1.setTop (mkF m 43 #[.val (.int p1), .val (.int p2), .val (.int p3), .val (.int (2 : Int32)), .val (.ref (ad 2)), .unset, .unset, .unset, .unset, .unset] [])) t
      refine XS.iconst X1.here hx rfl (hb hby at_43) ?_
      show Steps p.tables e below (T1.setTop (mkF m 44 #[.val (.int p1), .val (.int p2), .val (.int p3), .val (.int (2 : Int32)), .val (.ref (ad 2)), .unset, .unset, .unset, .unset, .unset] [(.int (2 : Int32))])) t
      refine XS.istore X1.here hx rfl (hb hby at_44) rfl (l' := #[.val (.int p1), .val (.int p2), .val (.int p3), .val (.int (2 : Int32)), .val (.ref (ad 2)), .val (.int (2 : Int32)), .unset, .unset, .unset, .unset]) rfl ?_
      show Steps p.tables e below (T1.setTop (mkF m 46 #[.val (.int p1), .val (.int p2), .val (.int p3), .val (.int (2 : Int32)), .val (.ref (ad 2)), .val (.int (2 : Int32)), .unset, .unset, .unset, .unset] [])) t
      refine XS.iloadN X1.here hx rfl (hb hby at_46) rfl ?_
      show Steps p.tables e below (T1.setTop (mkF m 47 #[.val (.int p1), .val (.int p2), .val (.int p3), .val (.int (2 : Int32)), .val (.ref (ad 2)), .val (.int (2 : Int32)), .unset, .unset, .unset, .unset] [(.int p3)])) t
      refine XS.iconst X1.here hx rfl (hb hby at_47) ?_
      show Steps p.tables e below (T1.setTop (mkF m 48 #[.val (.int p1), .val (.int p2), .val (.int p3), .val (.int (2 : Int32)), .val (.ref (ad 2)), .val (.int (2 : Int32)), .unset, .unset, .unset, .unset] [(.int (1 : Int32)), (.int p3)])) t
      refine XS.iand X1.here hx rfl (hb hby at_48) rfl ?_
      rw [hm]
      show Steps p.tables e below (T1.setTop (mkF m 49 #[.val (.int p1), .val (.int p2), .val (.int p3), .val (.int (2 : Int32)), .val (.ref (ad 2)), .val (.int (2 : Int32)), .unset, .unset, .unset, .unset] [(.int (0 : Int32))])) t
      refine XS.ifYes X1.here hx rfl (pc0 := 49) (pc' := 56) rfl (hb hby at_49) rfl ((if0 _ _).trans (teq (by decide : (0 : Int32) = (0 : Int32))).1) (by decide) (by decide) ?_
      show Steps p.tables e below (T1.setTop (mkF m 56 #[.val (.int p1), .val (.int p2), .val (.int p3), .val (.int (2 : Int32)), .val (.ref (ad 2)), .val (.int (2 : Int32)), .unset, .unset, .unset, .unset] [])) t
      refine XS.iloadN X1.here hx rfl (hb hby at_56) rfl ?_
      show Steps p.tables e below (T1.setTop (mkF m 57 #[.val (.int p1), .val (.int p2), .val (.int p3), .val (.int (2 : Int32)), .val (.ref (ad 2)), .val (.int (2 : Int32)), .unset, .unset, .unset, .unset] [(.int p2)])) t
      refine XS.sipush X1.here hx rfl (hb hby at_57) ?_
      show Steps p.tables e below (T1.setTop (mkF m 60 #[.val (.int p1), .val (.int p2), .val (.int p3), .val (.int (2 : Int32)), .val (.ref (ad 2)), .val (.int (2 : Int32)), .unset, .unset, .unset, .unset] [(.int (128 : Int32)), (.int p2)])) t
      refine Jvm.RoadKit.iremM (g := (mkF m 60 #[.val (.int p1), .val (.int p2), .val (.int p3), .val (.int (2 : Int32)), .val (.ref (ad 2)), .val (.int (2 : Int32)), .unset, .unset, .unset, .unset] [(.int (128 : Int32)), (.int p2)])) X1 hx rfl (hb hby at_60) rfl (by decide) ?_
      show Steps p.tables e below (T1.setTop (mkF m 61 #[.val (.int p1), .val (.int p2), .val (.int p3), .val (.int (2 : Int32)), .val (.ref (ad 2)), .val (.int (2 : Int32)), .unset, .unset, .unset, .unset] [(.int (p2 % (128 : Int32)))])) t
      refine XS.istore X1.here hx rfl (hb hby at_61) rfl (l' := #[.val (.int p1), .val (.int p2), .val (.int p3), .val (.int (2 : Int32)), .val (.ref (ad 2)), .val (.int (2 : Int32)), .val (.int (p2 % (128 : Int32))), .unset, .unset, .unset]) rfl ?_
      show Steps p.tables e below (T1.setTop (mkF m 63 #[.val (.int p1), .val (.int p2), .val (.int p3), .val (.int (2 : Int32)), .val (.ref (ad 2)), .val (.int (2 : Int32)), .val (.int (p2 % (128 : Int32))), .unset, .unset, .unset] [])) t
      refine XS.aload X1.here hx rfl (hb hby at_63) rfl rfl ?_
      show Steps p.tables e below (T1.setTop (mkF m 65 #[.val (.int p1), .val (.int p2), .val (.int p3), .val (.int (2 : Int32)), .val (.ref (ad 2)), .val (.int (2 : Int32)), .val (.int (p2 % (128 : Int32))), .unset, .unset, .unset] [(.ref (ad 2))])) t
      refine XS.iload X1.here hx rfl (hb hby at_65) rfl ?_
      show Steps p.tables e below (T1.setTop (mkF m 67 #[.val (.int p1), .val (.int p2), .val (.int p3), .val (.int (2 : Int32)), .val (.ref (ad 2)), .val (.int (2 : Int32)), .val (.int (p2 % (128 : Int32))), .unset, .unset, .unset] [(.int (p2 % (128 : Int32))), (.ref (ad 2))])) t
      exact st4.trans k)
  have ch6 : ∀ t, Steps p.tables e below (T4.setTop (mkF m 152 #[.val (.int p1), .val (.int p2), .val (.int p3), .val (.int (2 : Int32)), .val (.ref (ad 2)), .val (.int (2 : Int32)), .val (.int (p2 % (128 : Int32))), .val (.int (-25 : Int32)), .val (.long (((p2 % (128 : Int32)).toInt64) + (-50 : Int64))), .second] [(.int (1 : Int32))])) t → Steps p.tables e below (s₁.setTop (entryFrame m #[(.int p1), (.int p2), (.int p3)] maxLocals)) t := fun t k => ch5 t (by
      show Steps p.tables e below (T4.setTop (mkF m 70 #[.val (.int p1), .val (.int p2), .val (.int p3), .val (.int (2 : Int32)), .val (.ref (ad 2)), .val (.int (2 : Int32)), .val (.int (p2 % (128 : Int32))), .unset, .unset, .unset] [(.int (-25 : Int32))])) t
      refine XS.istore X4.here hx rfl (hb hby at_70) rfl (l' := #[.val (.int p1), .val (.int p2), .val (.int p3), .val (.int (2 : Int32)), .val (.ref (ad 2)), .val (.int (2 : Int32)), .val (.int (p2 % (128 : Int32))), .val (.int (-25 : Int32)), .unset, .unset]) rfl ?_
      show Steps p.tables e below (T4.setTop (mkF m 72 #[.val (.int p1), .val (.int p2), .val (.int p3), .val (.int (2 : Int32)), .val (.ref (ad 2)), .val (.int (2 : Int32)), .val (.int (p2 % (128 : Int32))), .val (.int (-25 : Int32)), .unset, .unset] [])) t
      refine XS.iload X4.here hx rfl (hb hby at_72) rfl ?_
      show Steps p.tables e below (T4.setTop (mkF m 74 #[.val (.int p1), .val (.int p2), .val (.int p3), .val (.int (2 : Int32)), .val (.ref (ad 2)), .val (.int (2 : Int32)), .val (.int (p2 % (128 : Int32))), .val (.int (-25 : Int32)), .unset, .unset] [(.int (p2 % (128 : Int32)))])) t
      refine XS.ifNo X4.here hx rfl (hb hby at_74) rfl ((if0 _ _).trans (flt h1).1) ?_
      show Steps p.tables e below (T4.setTop (mkF m 77 #[.val (.int p1), .val (.int p2), .val (.int p3), .val (.int (2 : Int32)), .val (.ref (ad 2)), .val (.int (2 : Int32)), .val (.int (p2 % (128 : Int32))), .val (.int (-25 : Int32)), .unset, .unset] [])) t
      refine XS.iload X4.here hx rfl (hb hby at_77) rfl ?_
      show Steps p.tables e below (T4.setTop (mkF m 79 #[.val (.int p1), .val (.int p2), .val (.int p3), .val (.int (2 : Int32)), .val (.ref (ad 2)), .val (.int (2 : Int32)), .val (.int (p2 % (128 : Int32))), .val (.int (-25 : Int32)), .unset, .unset] [(.int (p2 % (128 : Int32)))])) t
      refine XS.bipush X4.here hx rfl (hb hby at_79) ?_
      show Steps p.tables e below (T4.setTop (mkF m 81 #[.val (.int p1), .val (.int p2), .val (.int p3), .val (.int (2 : Int32)), .val (.ref (ad 2)), .val (.int (2 : Int32)), .val (.int (p2 % (128 : Int32))), .val (.int (-25 : Int32)), .unset, .unset] [(.int (99 : Int32)), (.int (p2 % (128 : Int32)))])) t
      refine XS.icmpYes X4.here hx rfl (pc0 := 81) (pc' := 95) rfl (hb hby at_81) rfl (flt h2).2.2.2 (by decide) (by decide) ?_
      show Steps p.tables e below (T4.setTop (mkF m 95 #[.val (.int p1), .val (.int p2), .val (.int p3), .val (.int (2 : Int32)), .val (.ref (ad 2)), .val (.int (2 : Int32)), .val (.int (p2 % (128 : Int32))), .val (.int (-25 : Int32)), .unset, .unset] [])) t
      refine XS.iload X4.here hx rfl (hb hby at_95) rfl ?_
      show Steps p.tables e below (T4.setTop (mkF m 97 #[.val (.int p1), .val (.int p2), .val (.int p3), .val (.int (2 : Int32)), .val (.ref (ad 2)), .val (.int (2 : Int32)), .val (.int (p2 % (128 : Int32))), .val (.int (-25 : Int32)), .unset, .unset] [(.int (p2 % (128 : Int32)))])) t
      refine XS.i2l X4.here hx rfl (hb hby at_97) rfl ?_
      show Steps p.tables e below (T4.setTop (mkF m 98 #[.val (.int p1), .val (.int p2), .val (.int p3), .val (.int (2 : Int32)), .val (.ref (ad 2)), .val (.int (2 : Int32)), .val (.int (p2 % (128 : Int32))), .val (.int (-25 : Int32)), .unset, .unset] [(.long ((p2 % (128 : Int32)).toInt64))])) t
      refine XS.iload X4.here hx rfl (hb hby at_98) rfl ?_
      show Steps p.tables e below (T4.setTop (mkF m 100 #[.val (.int p1), .val (.int p2), .val (.int p3), .val (.int (2 : Int32)), .val (.ref (ad 2)), .val (.int (2 : Int32)), .val (.int (p2 % (128 : Int32))), .val (.int (-25 : Int32)), .unset, .unset] [(.int (2 : Int32)), (.long ((p2 % (128 : Int32)).toInt64))])) t
      refine XS.i2l X4.here hx rfl (hb hby at_100) rfl ?_
      rw [show ((2 : Int32).toInt64) = (2 : Int64) from by decide]
      show Steps p.tables e below (T4.setTop (mkF m 101 #[.val (.int p1), .val (.int p2), .val (.int p3), .val (.int (2 : Int32)), .val (.ref (ad 2)), .val (.int (2 : Int32)), .val (.int (p2 % (128 : Int32))), .val (.int (-25 : Int32)), .unset, .unset] [(.long (2 : Int64)), (.long ((p2 % (128 : Int32)).toInt64))])) t
      refine XS.iload X4.here hx rfl (hb hby at_101) rfl ?_
      show Steps p.tables e below (T4.setTop (mkF m 103 #[.val (.int p1), .val (.int p2), .val (.int p3), .val (.int (2 : Int32)), .val (.ref (ad 2)), .val (.int (2 : Int32)), .val (.int (p2 % (128 : Int32))), .val (.int (-25 : Int32)), .unset, .unset] [(.int (-25 : Int32)), (.long (2 : Int64)), (.long ((p2 % (128 : Int32)).toInt64))])) t
      refine XS.i2l X4.here hx rfl (hb hby at_103) rfl ?_
      rw [show ((-25 : Int32).toInt64) = (-25 : Int64) from by decide]
      show Steps p.tables e below (T4.setTop (mkF m 104 #[.val (.int p1), .val (.int p2), .val (.int p3), .val (.int (2 : Int32)), .val (.ref (ad 2)), .val (.int (2 : Int32)), .val (.int (p2 % (128 : Int32))), .val (.int (-25 : Int32)), .unset, .unset] [(.long (-25 : Int64)), (.long (2 : Int64)), (.long ((p2 % (128 : Int32)).toInt64))])) t
      refine XS.lmul X4.here hx rfl (hb hby at_104) rfl ?_
      rw [show ((2 : Int64) * (-25 : Int64)) = (-50 : Int64) from by decide]
      show Steps p.tables e below (T4.setTop (mkF m 105 #[.val (.int p1), .val (.int p2), .val (.int p3), .val (.int (2 : Int32)), .val (.ref (ad 2)), .val (.int (2 : Int32)), .val (.int (p2 % (128 : Int32))), .val (.int (-25 : Int32)), .unset, .unset] [(.long (-50 : Int64)), (.long ((p2 % (128 : Int32)).toInt64))])) t
      refine XS.ladd X4.here hx rfl (hb hby at_105) rfl ?_
      show Steps p.tables e below (T4.setTop (mkF m 106 #[.val (.int p1), .val (.int p2), .val (.int p3), .val (.int (2 : Int32)), .val (.ref (ad 2)), .val (.int (2 : Int32)), .val (.int (p2 % (128 : Int32))), .val (.int (-25 : Int32)), .unset, .unset] [(.long (((p2 % (128 : Int32)).toInt64) + (-50 : Int64)))])) t
      refine XS.lstore X4.here hx rfl (hb hby at_106) rfl (l' := #[.val (.int p1), .val (.int p2), .val (.int p3), .val (.int (2 : Int32)), .val (.ref (ad 2)), .val (.int (2 : Int32)), .val (.int (p2 % (128 : Int32))), .val (.int (-25 : Int32)), .val (.long (((p2 % (128 : Int32)).toInt64) + (-50 : Int64))), .second]) rfl ?_
      show Steps p.tables e below (T4.setTop (mkF m 108 #[.val (.int p1), .val (.int p2), .val (.int p3), .val (.int (2 : Int32)), .val (.ref (ad 2)), .val (.int (2 : Int32)), .val (.int (p2 % (128 : Int32))), .val (.int (-25 : Int32)), .val (.long (((p2 % (128 : Int32)).toInt64) + (-50 : Int64))), .second] [])) t
      refine XS.iload X4.here hx rfl (hb hby at_108) rfl ?_
      show Steps p.tables e below (T4.setTop (mkF m 110 #[.val (.int p1), .val (.int p2), .val (.int p3), .val (.int (2 : Int32)), .val (.ref (ad 2)), .val (.int (2 : Int32)), .val (.int (p2 % (128 : Int32))), .val (.int (-25 : Int32)), .val (.long (((p2 % (128 : Int32)).toInt64) + (-50 : Int64))), .second] [(.int (p2 % (128 : Int32)))])) t
      refine XS.bipush X4.here hx rfl (hb hby at_110) ?_
      show Steps p.tables e below (T4.setTop (mkF m 112 #[.val (.int p1), .val (.int p2), .val (.int p3), .val (.int (2 : Int32)), .val (.ref (ad 2)), .val (.int (2 : Int32)), .val (.int (p2 % (128 : Int32))), .val (.int (-25 : Int32)), .val (.long (((p2 % (128 : Int32)).toInt64) + (-50 : Int64))), .second] [(.int (50 : Int32)), (.int (p2 % (128 : Int32)))])) t
      refine XS.icmpYes X4.here hx rfl (pc0 := 112) (pc' := 134) rfl (hb hby at_112) rfl (flt h3).2.1 (by decide) (by decide) ?_
      show Steps p.tables e below (T4.setTop (mkF m 134 #[.val (.int p1), .val (.int p2), .val (.int p3), .val (.int (2 : Int32)), .val (.ref (ad 2)), .val (.int (2 : Int32)), .val (.int (p2 % (128 : Int32))), .val (.int (-25 : Int32)), .val (.long (((p2 % (128 : Int32)).toInt64) + (-50 : Int64))), .second] [])) t
      refine XS.lload X4.here hx rfl (hb hby at_134) rfl ?_
      show Steps p.tables e below (T4.setTop (mkF m 136 #[.val (.int p1), .val (.int p2), .val (.int p3), .val (.int (2 : Int32)), .val (.ref (ad 2)), .val (.int (2 : Int32)), .val (.int (p2 % (128 : Int32))), .val (.int (-25 : Int32)), .val (.long (((p2 % (128 : Int32)).toInt64) + (-50 : Int64))), .second] [(.long (((p2 % (128 : Int32)).toInt64) + (-50 : Int64)))])) t
      refine XS.iload X4.here hx rfl (hb hby at_136) rfl ?_
      show Steps p.tables e below (T4.setTop (mkF m 138 #[.val (.int p1), .val (.int p2), .val (.int p3), .val (.int (2 : Int32)), .val (.ref (ad 2)), .val (.int (2 : Int32)), .val (.int (p2 % (128 : Int32))), .val (.int (-25 : Int32)), .val (.long (((p2 % (128 : Int32)).toInt64) + (-50 : Int64))), .second] [(.int (p2 % (128 : Int32))), (.long (((p2 % (128 : Int32)).toInt64) + (-50 : Int64)))])) t
      refine XS.i2l X4.here hx rfl (hb hby at_138) rfl ?_
      show Steps p.tables e below (T4.setTop (mkF m 139 #[.val (.int p1), .val (.int p2), .val (.int p3), .val (.int (2 : Int32)), .val (.ref (ad 2)), .val (.int (2 : Int32)), .val (.int (p2 % (128 : Int32))), .val (.int (-25 : Int32)), .val (.long (((p2 % (128 : Int32)).toInt64) + (-50 : Int64))), .second] [(.long ((p2 % (128 : Int32)).toInt64)), (.long (((p2 % (128 : Int32)).toInt64) + (-50 : Int64)))])) t
      refine X4.ldc2Long hx hown (mvT hZ (hw _ (List.mem_of_getElem? (i := 13) rfl))) (g := (mkF m 139 #[.val (.int p1), .val (.int p2), .val (.int p3), .val (.int (2 : Int32)), .val (.ref (ad 2)), .val (.int (2 : Int32)), .val (.int (p2 % (128 : Int32))), .val (.int (-25 : Int32)), .val (.long (((p2 % (128 : Int32)).toInt64) + (-50 : Int64))), .second] [(.long ((p2 % (128 : Int32)).toInt64)), (.long (((p2 % (128 : Int32)).toInt64) + (-50 : Int64)))])) rfl (hb hby at_139) _ ?_
      show Steps p.tables e below (T4.setTop (mkF m 142 #[.val (.int p1), .val (.int p2), .val (.int p3), .val (.int (2 : Int32)), .val (.ref (ad 2)), .val (.int (2 : Int32)), .val (.int (p2 % (128 : Int32))), .val (.int (-25 : Int32)), .val (.long (((p2 % (128 : Int32)).toInt64) + (-50 : Int64))), .second] [(.long (50 : Int64)), (.long ((p2 % (128 : Int32)).toInt64)), (.long (((p2 % (128 : Int32)).toInt64) + (-50 : Int64)))])) t
      refine XS.lsub X4.here hx rfl (hb hby at_142) rfl ?_
      show Steps p.tables e below (T4.setTop (mkF m 143 #[.val (.int p1), .val (.int p2), .val (.int p3), .val (.int (2 : Int32)), .val (.ref (ad 2)), .val (.int (2 : Int32)), .val (.int (p2 % (128 : Int32))), .val (.int (-25 : Int32)), .val (.long (((p2 % (128 : Int32)).toInt64) + (-50 : Int64))), .second] [(.long (((p2 % (128 : Int32)).toInt64) - (50 : Int64))), (.long (((p2 % (128 : Int32)).toInt64) + (-50 : Int64)))])) t
      refine XS.lcmp X4.here hx rfl (hb hby at_143) rfl ?_
      show Steps p.tables e below (T4.setTop (mkF m 144 #[.val (.int p1), .val (.int p2), .val (.int p3), .val (.int (2 : Int32)), .val (.ref (ad 2)), .val (.int (2 : Int32)), .val (.int (p2 % (128 : Int32))), .val (.int (-25 : Int32)), .val (.long (((p2 % (128 : Int32)).toInt64) + (-50 : Int64))), .second] [(.int (lcmpW (((p2 % (128 : Int32)).toInt64) + (-50 : Int64)) (((p2 % (128 : Int32)).toInt64) - (50 : Int64))))])) t
      rw [own_lc1]
      show Steps p.tables e below (T4.setTop (mkF m 144 #[.val (.int p1), .val (.int p2), .val (.int p3), .val (.int (2 : Int32)), .val (.ref (ad 2)), .val (.int (2 : Int32)), .val (.int (p2 % (128 : Int32))), .val (.int (-25 : Int32)), .val (.long (((p2 % (128 : Int32)).toInt64) + (-50 : Int64))), .second] [(.int (0 : Int32))])) t
      refine XS.ifNo X4.here hx rfl (hb hby at_144) rfl ((if0 _ _).trans (teq (by decide : (0 : Int32) = (0 : Int32))).2) ?_
      show Steps p.tables e below (T4.setTop (mkF m 147 #[.val (.int p1), .val (.int p2), .val (.int p3), .val (.int (2 : Int32)), .val (.ref (ad 2)), .val (.int (2 : Int32)), .val (.int (p2 % (128 : Int32))), .val (.int (-25 : Int32)), .val (.long (((p2 % (128 : Int32)).toInt64) + (-50 : Int64))), .second] [])) t
      refine XS.iconst X4.here hx rfl (hb hby at_147) ?_
      show Steps p.tables e below (T4.setTop (mkF m 148 #[.val (.int p1), .val (.int p2), .val (.int p3), .val (.int (2 : Int32)), .val (.ref (ad 2)), .val (.int (2 : Int32)), .val (.int (p2 % (128 : Int32))), .val (.int (-25 : Int32)), .val (.long (((p2 % (128 : Int32)).toInt64) + (-50 : Int64))), .second] [(.int (1 : Int32))])) t
      refine XS.goto X4.here hx rfl (pc0 := 148) (pc' := 152) rfl (hb hby at_148) (by decide) (by decide) ?_
      exact k)
  obtain ⟨fs, hr, hrun, hended, hW, hsame⟩ := X4.leave (v := some (.int (1 : Int32))) (fun h => by rw [Bd.returns] at h; cases h)
  refine ⟨_, _, ch6 _ ?_, hrun, hended, _, _, rfl, ?_, ⟨_, rfl⟩, hW, hsame.mono (by decide) (by decide)⟩
  · show Steps p.tables e below (T4.setTop (mkF m 152 #[.val (.int p1), .val (.int p2), .val (.int p3), .val (.int (2 : Int32)), .val (.ref (ad 2)), .val (.int (2 : Int32)), .val (.int (p2 % (128 : Int32))), .val (.int (-25 : Int32)), .val (.long (((p2 % (128 : Int32)).toInt64) + (-50 : Int64))), .second] [(.int (1 : Int32))])) _
    exact retN X4 hx (t := .boolean) Bd.returns (by simp) (hb hby at_152) hr
  · show QN (some (.int (1 : Int32))) n0 _ T4.heap _
    rw [e4]
    exact ⟨rfl, N4⟩
theorem own_ef_own_law_21n (m : MethodId) {x0 : Int32} {x1 : Int32} {x2 : Int32} : entryFrame m #[(.int x0), (.int x1), (.int x2)] maxLocals = mkF m 0 #[.val (.int x0), .val (.int x1), .val (.int x2), .unset, .unset, .unset, .unset, .unset, .unset, .unset] [] := by first | (simp [entryFrame, mkF, argsToLocals, Value.category, maxLocals]; done) | rfl
set_option maxRecDepth 65536 in
set_option maxHeartbeats 40000000 in
theorem own_law_21n (l : Launch) (Z : State) (a0 : Array Value) (hw : ∀ d ∈ tables_1, d.before a0 Z = true) (ws : List Jvm.Cond) (h0 : Heap) (n0 : Nat) (Z0 : n0 ≤ h0.size) (p1 p2 p3 : Int32) (hk : (p1 &&& (2147483647 : Int32)) % (3 : Int32) = (2 : Int32)) (hm : p3 &&& (1 : Int32) = (1 : Int32)) (h1 : p2 < (0 : Int32)) (ad : Nat → Addr) (W : OwnWd Z h0 ad) :
    MetFree l x (head1 (Jvm.Cond.code x code maxLocals ret :: ws) room_1) (fun a U => a = #[(.int p1), (.int p2), (.int p3)] ∧ Z.Warmed39 U.vm ∧ U.heap = h0) (fun _ _ _ _ _ => True) (fun _ U o U' => ∃ v L, o = .returned v ∧ QN (some (.int (1 : Int32))) n0 v U'.heap L ∧ FrameEnd U o U' L room_1.cells room_1.slots) := by
  refine MetFree.of_bodySF (plainFor_of_name own_pn_com_example_isolint_isolint_bench_ChangeAddedToEachValuePinLaw) hisR ?_
  intro p e s m args below meth c s₁ Bd hml0 hP hK
  obtain ⟨rfl, hZ, hh⟩ := hP
  have hx := Bd.exec
  have hby := Bd.bytes
  have hml : c.maxLocals = 10 := hml0
  have hown : s.vm.findClass "com/example/isolint/isolint/bench/ChangeAddedToEachValuePinLaw" = some m.cls := findClass_of_methodNamed Bd.named
  have hnm := (name_of_methodNamed Bd.named Bd.method).1
  have X0 : Stand p l e room_1 s m #[(.int p1), (.int p2), (.int p3)] below meth c s₁ [] 0 0 := Stand.of_body Bd
  have e0 : s₁.heap = h0 := by rw [← hh, Bd.state]; rfl
  have N0 := Fr.nil n0
  have pre0 : ∀ t, Steps p.tables e below (s₁.setTop (mkF m 0 #[.val (.int p1), .val (.int p2), .val (.int p3), .unset, .unset, .unset, .unset, .unset, .unset, .unset] [])) t → Steps p.tables e below (s₁.setTop (entryFrame m #[(.int p1), (.int p2), (.int p3)] maxLocals)) t := fun t k => castTop (own_ef_own_law_21n m) k
  obtain ⟨T1, X1, e1, st1⟩ := getS2 X0 hx hZ hown (host := "") (Or.inl (hw _ (List.mem_of_getElem? (i := 16) rfl))) Via.refl e0 (own_S_CHANGE_AB W) (g := (mkF m 38 #[.val (.int p1), .val (.int p2), .val (.int p3), .val (.int (2 : Int32)), .unset, .unset, .unset, .unset, .unset, .unset] [])) rfl (hb hby at_38)
  have ch2 : ∀ t, Steps p.tables e below (T1.setTop (mkF m 41 #[.val (.int p1), .val (.int p2), .val (.int p3), .val (.int (2 : Int32)), .unset, .unset, .unset, .unset, .unset, .unset] [(.ref (ad 2))])) t → Steps p.tables e below (s₁.setTop (entryFrame m #[(.int p1), (.int p2), (.int p3)] maxLocals)) t := fun t k => pre0 t (by
      show Steps p.tables e below (s₁.setTop (mkF m 0 #[.val (.int p1), .val (.int p2), .val (.int p3), .unset, .unset, .unset, .unset, .unset, .unset, .unset] [])) t
      refine XS.iloadN X0.here hx rfl (hb hby at_0) rfl ?_
      show Steps p.tables e below (s₁.setTop (mkF m 1 #[.val (.int p1), .val (.int p2), .val (.int p3), .unset, .unset, .unset, .unset, .unset, .unset, .unset] [(.int p1)])) t
      refine X0.ldcInt hx hown (mvT hZ (hw _ (List.mem_of_getElem? (i := 0) rfl))) (g := (mkF m 1 #[.val (.int p1), .val (.int p2), .val (.int p3), .unset, .unset, .unset, .unset, .unset, .unset, .unset] [(.int p1)])) rfl (hb hby at_1) _ ?_
      show Steps p.tables e below (s₁.setTop (mkF m 3 #[.val (.int p1), .val (.int p2), .val (.int p3), .unset, .unset, .unset, .unset, .unset, .unset, .unset] [(.int (2147483647 : Int32)), (.int p1)])) t
      refine XS.iand X0.here hx rfl (hb hby at_3) rfl ?_
      show Steps p.tables e below (s₁.setTop (mkF m 4 #[.val (.int p1), .val (.int p2), .val (.int p3), .unset, .unset, .unset, .unset, .unset, .unset, .unset] [(.int (p1 &&& (2147483647 : Int32)))])) t
      refine XS.iconst X0.here hx rfl (hb hby at_4) ?_
      show Steps p.tables e below (s₁.setTop (mkF m 5 #[.val (.int p1), .val (.int p2), .val (.int p3), .unset, .unset, .unset, .unset, .unset, .unset, .unset] [(.int (3 : Int32)), (.int (p1 &&& (2147483647 : Int32)))])) t
      refine Jvm.RoadKit.iremM (g := (mkF m 5 #[.val (.int p1), .val (.int p2), .val (.int p3), .unset, .unset, .unset, .unset, .unset, .unset, .unset] [(.int (3 : Int32)), (.int (p1 &&& (2147483647 : Int32)))])) X0 hx rfl (hb hby at_5) rfl (by decide) ?_
      rw [hk]
      show Steps p.tables e below (s₁.setTop (mkF m 6 #[.val (.int p1), .val (.int p2), .val (.int p3), .unset, .unset, .unset, .unset, .unset, .unset, .unset] [(.int (2 : Int32))])) t
      refine XS.istoreN X0.here hx rfl (hb hby at_6) rfl (l' := #[.val (.int p1), .val (.int p2), .val (.int p3), .val (.int (2 : Int32)), .unset, .unset, .unset, .unset, .unset, .unset]) rfl ?_
      show Steps p.tables e below (s₁.setTop (mkF m 7 #[.val (.int p1), .val (.int p2), .val (.int p3), .val (.int (2 : Int32)), .unset, .unset, .unset, .unset, .unset, .unset] [])) t
      refine XS.iloadN X0.here hx rfl (hb hby at_7) rfl ?_
      show Steps p.tables e below (s₁.setTop (mkF m 8 #[.val (.int p1), .val (.int p2), .val (.int p3), .val (.int (2 : Int32)), .unset, .unset, .unset, .unset, .unset, .unset] [(.int (2 : Int32))])) t
      refine XS.ifYes X0.here hx rfl (pc0 := 8) (pc' := 22) rfl (hb hby at_8) rfl ((if0 _ _).trans (feq (by decide : ¬ (2 : Int32) = (0 : Int32))).2) (by decide) (by decide) ?_
      show Steps p.tables e below (s₁.setTop (mkF m 22 #[.val (.int p1), .val (.int p2), .val (.int p3), .val (.int (2 : Int32)), .unset, .unset, .unset, .unset, .unset, .unset] [])) t
      refine XS.iloadN X0.here hx rfl (hb hby at_22) rfl ?_
      show Steps p.tables e below (s₁.setTop (mkF m 23 #[.val (.int p1), .val (.int p2), .val (.int p3), .val (.int (2 : Int32)), .unset, .unset, .unset, .unset, .unset, .unset] [(.int (2 : Int32))])) t
      refine XS.iconst X0.here hx rfl (hb hby at_23) ?_
      show Steps p.tables e below (s₁.setTop (mkF m 24 #[.val (.int p1), .val (.int p2), .val (.int p3), .val (.int (2 : Int32)), .unset, .unset, .unset, .unset, .unset, .unset] [(.int (1 : Int32)), (.int (2 : Int32))])) t
      refine XS.icmpYes X0.here hx rfl (pc0 := 24) (pc' := 38) rfl (hb hby at_24) rfl (feq (by decide : ¬ (2 : Int32) = (1 : Int32))).2 (by decide) (by decide) ?_
      show Steps p.tables e below (s₁.setTop (mkF m 38 #[.val (.int p1), .val (.int p2), .val (.int p3), .val (.int (2 : Int32)), .unset, .unset, .unset, .unset, .unset, .unset] [])) t
      exact st1 t k)
  obtain ⟨cq3, kq3, qa3, qb3, qc3⟩ := isOf hZ e1 (own_E_CHANGE_AB W)
  obtain ⟨vv4, _, ⟨T4, L4, kk4, nn4⟩, -, X4, ⟨Lc4, hQ4, l4, y4, z4⟩, st4⟩ := X1.virtualBack hx (y := (⟨"com/example/isolint/isolint/bench/Change", "addedToEachValue", "(I)I"⟩ : MethodName)) (z := (⟨"com/example/isolint/isolint/bench/Change", "addedToEachValue", "(I)I"⟩ : MethodName)) hown (mvT hZ (hw _ (List.mem_of_getElem? (i := 4) rfl))) (mvT hZ (hw _ (List.mem_of_getElem? (i := 5) rfl))) (notFace_of_selects (args := #[]) (mvT hZ (hw _ (List.mem_of_getElem? (i := 7) rfl)))) (mvT hZ (hw _ (List.mem_of_getElem? (i := 7) rfl))) (mvT hZ (hw _ (List.mem_of_getElem? (i := 6) rfl))) (by decide) (backOf (W := 0) (own_add_2n l Z a0 hw [] h0 n0 Z0  p2 h1 ad W) hZ (hw _ (List.mem_of_getElem? (i := 8) rfl)) (hw _ (List.mem_of_getElem? (i := 2) rfl)) (by decide) (by decide)) qa3 qc3 (g := (mkF m 67 #[.val (.int p1), .val (.int p2), .val (.int p3), .val (.int (2 : Int32)), .val (.ref (ad 2)), .val (.int (2 : Int32)), .val (.int p2), .unset, .unset, .unset] [(.int p2), (.ref (ad 2))])) rfl (by rw [hml]; rfl) (Steps.refl _) (argsL := [(.int p2)]) (rest := []) (lenOf own_pd__I_I rfl) rfl (by show 2 * 0 + _ ≤ _; exact Nat.le_of_eq rfl) (hb hby at_67) (fun _ _ => ⟨rfl, e1, (by decide : 0 + 0 ≤ _), (by decide : 0 + 0 ≤ _)⟩)
  dsimp only [Pt.U, Pt.locs, Pt.cells, Pt.slots] at X4 l4 y4 z4 st4 hQ4
  subst l4 y4 z4
  obtain ⟨rfl, Nq4, e4⟩ := hQ4
  have N4 := Fr.app N0 Nq4
  have ch5 : ∀ t, Steps p.tables e below (T4.setTop (mkF m 70 #[.val (.int p1), .val (.int p2), .val (.int p3), .val (.int (2 : Int32)), .val (.ref (ad 2)), .val (.int (2 : Int32)), .val (.int p2), .unset, .unset, .unset] [(.int (0 : Int32))])) t → Steps p.tables e below (s₁.setTop (entryFrame m #[(.int p1), (.int p2), (.int p3)] maxLocals)) t := fun t k => ch2 t (by
      show Steps p.tables e below (T1.setTop (mkF m 41 #[.val (.int p1), .val (.int p2), .val (.int p3), .val (.int (2 : Int32)), .unset, .unset, .unset, .unset, .unset, .unset] [(.ref (ad 2))])) t
      refine XS.astore X1.here hx rfl (hb hby at_41) rfl rfl (l' := #[.val (.int p1), .val (.int p2), .val (.int p3), .val (.int (2 : Int32)), .val (.ref (ad 2)), .unset, .unset, .unset, .unset, .unset]) rfl ?_
      show Steps p.tables e below (T1.setTop (mkF m 43 #[.val (.int p1), .val (.int p2), .val (.int p3), .val (.int (2 : Int32)), .val (.ref (ad 2)), .unset, .unset, .unset, .unset, .unset] [])) t
      refine XS.iconst X1.here hx rfl (hb hby at_43) ?_
      show Steps p.tables e below (T1.setTop (mkF m 44 #[.val (.int p1), .val (.int p2), .val (.int p3), .val (.int (2 : Int32)), .val (.ref (ad 2)), .unset, .unset, .unset, .unset, .unset] [(.int (2 : Int32))])) t
      refine XS.istore X1.here hx rfl (hb hby at_44) rfl (l' := #[.val (.int p1), .val (.int p2), .val (.int p3), .val (.int (2 : Int32)), .val (.ref (ad 2)), .val (.int (2 : Int32)), .unset, .unset, .unset, .unset]) rfl ?_
      show Steps p.tables e below (T1.setTop (mkF m 46 #[.val (.int p1), .val (.int p2), .val (.int p3), .val (.int (2 : Int32)), .val (.ref (ad 2)), .val (.int (2 : Int32)), .unset, .unset, .unset, .unset] [])) t
      refine XS.iloadN X1.here hx rfl (hb hby at_46) rfl ?_
      show Steps p.tables e below (T1.setTop (mkF m 47 #[.val (.int p1), .val (.int p2), .val (.int p3), .val (.int (2 : Int32)), .val (.ref (ad 2)), .val (.int (2 : Int32)), .unset, .unset, .unset, .unset] [(.int p3)])) t
      refine XS.iconst X1.here hx rfl (hb hby at_47) ?_
      show Steps p.tables e below (T1.setTop (mkF m 48 #[.val (.int p1), .val (.int p2), .val (.int p3), .val (.int (2 : Int32)), .val (.ref (ad 2)), .val (.int (2 : Int32)), .unset, .unset, .unset, .unset] [(.int (1 : Int32)), (.int p3)])) t
      refine XS.iand X1.here hx rfl (hb hby at_48) rfl ?_
      rw [hm]
      show Steps p.tables e below (T1.setTop (mkF m 49 #[.val (.int p1), .val (.int p2), .val (.int p3), .val (.int (2 : Int32)), .val (.ref (ad 2)), .val (.int (2 : Int32)), .unset, .unset, .unset, .unset] [(.int (1 : Int32))])) t
      refine XS.ifNo X1.here hx rfl (hb hby at_49) rfl ((if0 _ _).trans (feq (by decide : ¬ (1 : Int32) = (0 : Int32))).1) ?_
      show Steps p.tables e below (T1.setTop (mkF m 52 #[.val (.int p1), .val (.int p2), .val (.int p3), .val (.int (2 : Int32)), .val (.ref (ad 2)), .val (.int (2 : Int32)), .unset, .unset, .unset, .unset] [])) t
      refine XS.iloadN X1.here hx rfl (hb hby at_52) rfl ?_
      show Steps p.tables e below (T1.setTop (mkF m 53 #[.val (.int p1), .val (.int p2), .val (.int p3), .val (.int (2 : Int32)), .val (.ref (ad 2)), .val (.int (2 : Int32)), .unset, .unset, .unset, .unset] [(.int p2)])) t
      refine XS.goto X1.here hx rfl (pc0 := 53) (pc' := 61) rfl (hb hby at_53) (by decide) (by decide) ?_
      show Steps p.tables e below (T1.setTop (mkF m 61 #[.val (.int p1), .val (.int p2), .val (.int p3), .val (.int (2 : Int32)), .val (.ref (ad 2)), .val (.int (2 : Int32)), .unset, .unset, .unset, .unset] [(.int p2)])) t
      refine XS.istore X1.here hx rfl (hb hby at_61) rfl (l' := #[.val (.int p1), .val (.int p2), .val (.int p3), .val (.int (2 : Int32)), .val (.ref (ad 2)), .val (.int (2 : Int32)), .val (.int p2), .unset, .unset, .unset]) rfl ?_
      show Steps p.tables e below (T1.setTop (mkF m 63 #[.val (.int p1), .val (.int p2), .val (.int p3), .val (.int (2 : Int32)), .val (.ref (ad 2)), .val (.int (2 : Int32)), .val (.int p2), .unset, .unset, .unset] [])) t
      refine XS.aload X1.here hx rfl (hb hby at_63) rfl rfl ?_
      show Steps p.tables e below (T1.setTop (mkF m 65 #[.val (.int p1), .val (.int p2), .val (.int p3), .val (.int (2 : Int32)), .val (.ref (ad 2)), .val (.int (2 : Int32)), .val (.int p2), .unset, .unset, .unset] [(.ref (ad 2))])) t
      refine XS.iload X1.here hx rfl (hb hby at_65) rfl ?_
      show Steps p.tables e below (T1.setTop (mkF m 67 #[.val (.int p1), .val (.int p2), .val (.int p3), .val (.int (2 : Int32)), .val (.ref (ad 2)), .val (.int (2 : Int32)), .val (.int p2), .unset, .unset, .unset] [(.int p2), (.ref (ad 2))])) t
      exact st4.trans k)
  have ch6 : ∀ t, Steps p.tables e below (T4.setTop (mkF m 94 #[.val (.int p1), .val (.int p2), .val (.int p3), .val (.int (2 : Int32)), .val (.ref (ad 2)), .val (.int (2 : Int32)), .val (.int p2), .val (.int (0 : Int32)), .unset, .unset] [(.int (1 : Int32))])) t → Steps p.tables e below (s₁.setTop (entryFrame m #[(.int p1), (.int p2), (.int p3)] maxLocals)) t := fun t k => ch5 t (by
      show Steps p.tables e below (T4.setTop (mkF m 70 #[.val (.int p1), .val (.int p2), .val (.int p3), .val (.int (2 : Int32)), .val (.ref (ad 2)), .val (.int (2 : Int32)), .val (.int p2), .unset, .unset, .unset] [(.int (0 : Int32))])) t
      refine XS.istore X4.here hx rfl (hb hby at_70) rfl (l' := #[.val (.int p1), .val (.int p2), .val (.int p3), .val (.int (2 : Int32)), .val (.ref (ad 2)), .val (.int (2 : Int32)), .val (.int p2), .val (.int (0 : Int32)), .unset, .unset]) rfl ?_
      show Steps p.tables e below (T4.setTop (mkF m 72 #[.val (.int p1), .val (.int p2), .val (.int p3), .val (.int (2 : Int32)), .val (.ref (ad 2)), .val (.int (2 : Int32)), .val (.int p2), .val (.int (0 : Int32)), .unset, .unset] [])) t
      refine XS.iload X4.here hx rfl (hb hby at_72) rfl ?_
      show Steps p.tables e below (T4.setTop (mkF m 74 #[.val (.int p1), .val (.int p2), .val (.int p3), .val (.int (2 : Int32)), .val (.ref (ad 2)), .val (.int (2 : Int32)), .val (.int p2), .val (.int (0 : Int32)), .unset, .unset] [(.int p2)])) t
      refine XS.ifYes X4.here hx rfl (pc0 := 74) (pc' := 84) rfl (hb hby at_74) rfl ((if0 _ _).trans (tlt h1).1) (by decide) (by decide) ?_
      show Steps p.tables e below (T4.setTop (mkF m 84 #[.val (.int p1), .val (.int p2), .val (.int p3), .val (.int (2 : Int32)), .val (.ref (ad 2)), .val (.int (2 : Int32)), .val (.int p2), .val (.int (0 : Int32)), .unset, .unset] [])) t
      refine XS.iload X4.here hx rfl (hb hby at_84) rfl ?_
      show Steps p.tables e below (T4.setTop (mkF m 86 #[.val (.int p1), .val (.int p2), .val (.int p3), .val (.int (2 : Int32)), .val (.ref (ad 2)), .val (.int (2 : Int32)), .val (.int p2), .val (.int (0 : Int32)), .unset, .unset] [(.int (0 : Int32))])) t
      refine XS.ifNo X4.here hx rfl (hb hby at_86) rfl ((if0 _ _).trans (teq (by decide : (0 : Int32) = (0 : Int32))).2) ?_
      show Steps p.tables e below (T4.setTop (mkF m 89 #[.val (.int p1), .val (.int p2), .val (.int p3), .val (.int (2 : Int32)), .val (.ref (ad 2)), .val (.int (2 : Int32)), .val (.int p2), .val (.int (0 : Int32)), .unset, .unset] [])) t
      refine XS.iconst X4.here hx rfl (hb hby at_89) ?_
      show Steps p.tables e below (T4.setTop (mkF m 90 #[.val (.int p1), .val (.int p2), .val (.int p3), .val (.int (2 : Int32)), .val (.ref (ad 2)), .val (.int (2 : Int32)), .val (.int p2), .val (.int (0 : Int32)), .unset, .unset] [(.int (1 : Int32))])) t
      refine XS.goto X4.here hx rfl (pc0 := 90) (pc' := 94) rfl (hb hby at_90) (by decide) (by decide) ?_
      exact k)
  obtain ⟨fs, hr, hrun, hended, hW, hsame⟩ := X4.leave (v := some (.int (1 : Int32))) (fun h => by rw [Bd.returns] at h; cases h)
  refine ⟨_, _, ch6 _ ?_, hrun, hended, _, _, rfl, ?_, ⟨_, rfl⟩, hW, hsame.mono (by decide) (by decide)⟩
  · show Steps p.tables e below (T4.setTop (mkF m 94 #[.val (.int p1), .val (.int p2), .val (.int p3), .val (.int (2 : Int32)), .val (.ref (ad 2)), .val (.int (2 : Int32)), .val (.int p2), .val (.int (0 : Int32)), .unset, .unset] [(.int (1 : Int32))])) _
    exact retN X4 hx (t := .boolean) Bd.returns (by simp) (hb hby at_94) hr
  · show QN (some (.int (1 : Int32))) n0 _ T4.heap _
    rw [e4]
    exact ⟨rfl, N4⟩
theorem own_ef_own_law_21g (m : MethodId) {x0 : Int32} {x1 : Int32} {x2 : Int32} : entryFrame m #[(.int x0), (.int x1), (.int x2)] maxLocals = mkF m 0 #[.val (.int x0), .val (.int x1), .val (.int x2), .unset, .unset, .unset, .unset, .unset, .unset, .unset] [] := by first | (simp [entryFrame, mkF, argsToLocals, Value.category, maxLocals]; done) | rfl
set_option maxRecDepth 65536 in
set_option maxHeartbeats 40000000 in
theorem own_law_21g (l : Launch) (Z : State) (a0 : Array Value) (hw : ∀ d ∈ tables_1, d.before a0 Z = true) (ws : List Jvm.Cond) (h0 : Heap) (n0 : Nat) (Z0 : n0 ≤ h0.size) (p1 p2 p3 : Int32) (hk : (p1 &&& (2147483647 : Int32)) % (3 : Int32) = (2 : Int32)) (hm : p3 &&& (1 : Int32) = (1 : Int32)) (h1 : ¬ p2 < (0 : Int32)) (h2 : (99 : Int32) < p2) (ad : Nat → Addr) (W : OwnWd Z h0 ad) :
    MetFree l x (head1 (Jvm.Cond.code x code maxLocals ret :: ws) room_1) (fun a U => a = #[(.int p1), (.int p2), (.int p3)] ∧ Z.Warmed39 U.vm ∧ U.heap = h0) (fun _ _ _ _ _ => True) (fun _ U o U' => ∃ v L, o = .returned v ∧ QN (some (.int (1 : Int32))) n0 v U'.heap L ∧ FrameEnd U o U' L room_1.cells room_1.slots) := by
  refine MetFree.of_bodySF (plainFor_of_name own_pn_com_example_isolint_isolint_bench_ChangeAddedToEachValuePinLaw) hisR ?_
  intro p e s m args below meth c s₁ Bd hml0 hP hK
  obtain ⟨rfl, hZ, hh⟩ := hP
  have hx := Bd.exec
  have hby := Bd.bytes
  have hml : c.maxLocals = 10 := hml0
  have hown : s.vm.findClass "com/example/isolint/isolint/bench/ChangeAddedToEachValuePinLaw" = some m.cls := findClass_of_methodNamed Bd.named
  have hnm := (name_of_methodNamed Bd.named Bd.method).1
  have X0 : Stand p l e room_1 s m #[(.int p1), (.int p2), (.int p3)] below meth c s₁ [] 0 0 := Stand.of_body Bd
  have e0 : s₁.heap = h0 := by rw [← hh, Bd.state]; rfl
  have N0 := Fr.nil n0
  have pre0 : ∀ t, Steps p.tables e below (s₁.setTop (mkF m 0 #[.val (.int p1), .val (.int p2), .val (.int p3), .unset, .unset, .unset, .unset, .unset, .unset, .unset] [])) t → Steps p.tables e below (s₁.setTop (entryFrame m #[(.int p1), (.int p2), (.int p3)] maxLocals)) t := fun t k => castTop (own_ef_own_law_21g m) k
  obtain ⟨T1, X1, e1, st1⟩ := getS2 X0 hx hZ hown (host := "") (Or.inl (hw _ (List.mem_of_getElem? (i := 16) rfl))) Via.refl e0 (own_S_CHANGE_AB W) (g := (mkF m 38 #[.val (.int p1), .val (.int p2), .val (.int p3), .val (.int (2 : Int32)), .unset, .unset, .unset, .unset, .unset, .unset] [])) rfl (hb hby at_38)
  have ch2 : ∀ t, Steps p.tables e below (T1.setTop (mkF m 41 #[.val (.int p1), .val (.int p2), .val (.int p3), .val (.int (2 : Int32)), .unset, .unset, .unset, .unset, .unset, .unset] [(.ref (ad 2))])) t → Steps p.tables e below (s₁.setTop (entryFrame m #[(.int p1), (.int p2), (.int p3)] maxLocals)) t := fun t k => pre0 t (by
      show Steps p.tables e below (s₁.setTop (mkF m 0 #[.val (.int p1), .val (.int p2), .val (.int p3), .unset, .unset, .unset, .unset, .unset, .unset, .unset] [])) t
      refine XS.iloadN X0.here hx rfl (hb hby at_0) rfl ?_
      show Steps p.tables e below (s₁.setTop (mkF m 1 #[.val (.int p1), .val (.int p2), .val (.int p3), .unset, .unset, .unset, .unset, .unset, .unset, .unset] [(.int p1)])) t
      refine X0.ldcInt hx hown (mvT hZ (hw _ (List.mem_of_getElem? (i := 0) rfl))) (g := (mkF m 1 #[.val (.int p1), .val (.int p2), .val (.int p3), .unset, .unset, .unset, .unset, .unset, .unset, .unset] [(.int p1)])) rfl (hb hby at_1) _ ?_
      show Steps p.tables e below (s₁.setTop (mkF m 3 #[.val (.int p1), .val (.int p2), .val (.int p3), .unset, .unset, .unset, .unset, .unset, .unset, .unset] [(.int (2147483647 : Int32)), (.int p1)])) t
      refine XS.iand X0.here hx rfl (hb hby at_3) rfl ?_
      show Steps p.tables e below (s₁.setTop (mkF m 4 #[.val (.int p1), .val (.int p2), .val (.int p3), .unset, .unset, .unset, .unset, .unset, .unset, .unset] [(.int (p1 &&& (2147483647 : Int32)))])) t
      refine XS.iconst X0.here hx rfl (hb hby at_4) ?_
      show Steps p.tables e below (s₁.setTop (mkF m 5 #[.val (.int p1), .val (.int p2), .val (.int p3), .unset, .unset, .unset, .unset, .unset, .unset, .unset] [(.int (3 : Int32)), (.int (p1 &&& (2147483647 : Int32)))])) t
      refine Jvm.RoadKit.iremM (g := (mkF m 5 #[.val (.int p1), .val (.int p2), .val (.int p3), .unset, .unset, .unset, .unset, .unset, .unset, .unset] [(.int (3 : Int32)), (.int (p1 &&& (2147483647 : Int32)))])) X0 hx rfl (hb hby at_5) rfl (by decide) ?_
      rw [hk]
      show Steps p.tables e below (s₁.setTop (mkF m 6 #[.val (.int p1), .val (.int p2), .val (.int p3), .unset, .unset, .unset, .unset, .unset, .unset, .unset] [(.int (2 : Int32))])) t
      refine XS.istoreN X0.here hx rfl (hb hby at_6) rfl (l' := #[.val (.int p1), .val (.int p2), .val (.int p3), .val (.int (2 : Int32)), .unset, .unset, .unset, .unset, .unset, .unset]) rfl ?_
      show Steps p.tables e below (s₁.setTop (mkF m 7 #[.val (.int p1), .val (.int p2), .val (.int p3), .val (.int (2 : Int32)), .unset, .unset, .unset, .unset, .unset, .unset] [])) t
      refine XS.iloadN X0.here hx rfl (hb hby at_7) rfl ?_
      show Steps p.tables e below (s₁.setTop (mkF m 8 #[.val (.int p1), .val (.int p2), .val (.int p3), .val (.int (2 : Int32)), .unset, .unset, .unset, .unset, .unset, .unset] [(.int (2 : Int32))])) t
      refine XS.ifYes X0.here hx rfl (pc0 := 8) (pc' := 22) rfl (hb hby at_8) rfl ((if0 _ _).trans (feq (by decide : ¬ (2 : Int32) = (0 : Int32))).2) (by decide) (by decide) ?_
      show Steps p.tables e below (s₁.setTop (mkF m 22 #[.val (.int p1), .val (.int p2), .val (.int p3), .val (.int (2 : Int32)), .unset, .unset, .unset, .unset, .unset, .unset] [])) t
      refine XS.iloadN X0.here hx rfl (hb hby at_22) rfl ?_
      show Steps p.tables e below (s₁.setTop (mkF m 23 #[.val (.int p1), .val (.int p2), .val (.int p3), .val (.int (2 : Int32)), .unset, .unset, .unset, .unset, .unset, .unset] [(.int (2 : Int32))])) t
      refine XS.iconst X0.here hx rfl (hb hby at_23) ?_
      show Steps p.tables e below (s₁.setTop (mkF m 24 #[.val (.int p1), .val (.int p2), .val (.int p3), .val (.int (2 : Int32)), .unset, .unset, .unset, .unset, .unset, .unset] [(.int (1 : Int32)), (.int (2 : Int32))])) t
      refine XS.icmpYes X0.here hx rfl (pc0 := 24) (pc' := 38) rfl (hb hby at_24) rfl (feq (by decide : ¬ (2 : Int32) = (1 : Int32))).2 (by decide) (by decide) ?_
      show Steps p.tables e below (s₁.setTop (mkF m 38 #[.val (.int p1), .val (.int p2), .val (.int p3), .val (.int (2 : Int32)), .unset, .unset, .unset, .unset, .unset, .unset] [])) t
      exact st1 t k)
  obtain ⟨cq3, kq3, qa3, qb3, qc3⟩ := isOf hZ e1 (own_E_CHANGE_AB W)
  obtain ⟨vv4, _, ⟨T4, L4, kk4, nn4⟩, -, X4, ⟨Lc4, hQ4, l4, y4, z4⟩, st4⟩ := X1.virtualBack hx (y := (⟨"com/example/isolint/isolint/bench/Change", "addedToEachValue", "(I)I"⟩ : MethodName)) (z := (⟨"com/example/isolint/isolint/bench/Change", "addedToEachValue", "(I)I"⟩ : MethodName)) hown (mvT hZ (hw _ (List.mem_of_getElem? (i := 4) rfl))) (mvT hZ (hw _ (List.mem_of_getElem? (i := 5) rfl))) (notFace_of_selects (args := #[]) (mvT hZ (hw _ (List.mem_of_getElem? (i := 7) rfl)))) (mvT hZ (hw _ (List.mem_of_getElem? (i := 7) rfl))) (mvT hZ (hw _ (List.mem_of_getElem? (i := 6) rfl))) (by decide) (backOf (W := 0) (own_add_2g l Z a0 hw [] h0 n0 Z0  p2 h1 h2 ad W) hZ (hw _ (List.mem_of_getElem? (i := 8) rfl)) (hw _ (List.mem_of_getElem? (i := 2) rfl)) (by decide) (by decide)) qa3 qc3 (g := (mkF m 67 #[.val (.int p1), .val (.int p2), .val (.int p3), .val (.int (2 : Int32)), .val (.ref (ad 2)), .val (.int (2 : Int32)), .val (.int p2), .unset, .unset, .unset] [(.int p2), (.ref (ad 2))])) rfl (by rw [hml]; rfl) (Steps.refl _) (argsL := [(.int p2)]) (rest := []) (lenOf own_pd__I_I rfl) rfl (by show 2 * 0 + _ ≤ _; exact Nat.le_of_eq rfl) (hb hby at_67) (fun _ _ => ⟨rfl, e1, (by decide : 0 + 0 ≤ _), (by decide : 0 + 0 ≤ _)⟩)
  dsimp only [Pt.U, Pt.locs, Pt.cells, Pt.slots] at X4 l4 y4 z4 st4 hQ4
  subst l4 y4 z4
  obtain ⟨rfl, Nq4, e4⟩ := hQ4
  have N4 := Fr.app N0 Nq4
  have ch5 : ∀ t, Steps p.tables e below (T4.setTop (mkF m 70 #[.val (.int p1), .val (.int p2), .val (.int p3), .val (.int (2 : Int32)), .val (.ref (ad 2)), .val (.int (2 : Int32)), .val (.int p2), .unset, .unset, .unset] [(.int (0 : Int32))])) t → Steps p.tables e below (s₁.setTop (entryFrame m #[(.int p1), (.int p2), (.int p3)] maxLocals)) t := fun t k => ch2 t (by
      show Steps p.tables e below (T1.setTop (mkF m 41 #[.val (.int p1), .val (.int p2), .val (.int p3), .val (.int (2 : Int32)), .unset, .unset, .unset, .unset, .unset, .unset] [(.ref (ad 2))])) t
      refine XS.astore X1.here hx rfl (hb hby at_41) rfl rfl (l' := #[.val (.int p1), .val (.int p2), .val (.int p3), .val (.int (2 : Int32)), .val (.ref (ad 2)), .unset, .unset, .unset, .unset, .unset]) rfl ?_
      show Steps p.tables e below (T1.setTop (mkF m 43 #[.val (.int p1), .val (.int p2), .val (.int p3), .val (.int (2 : Int32)), .val (.ref (ad 2)), .unset, .unset, .unset, .unset, .unset] [])) t
      refine XS.iconst X1.here hx rfl (hb hby at_43) ?_
      show Steps p.tables e below (T1.setTop (mkF m 44 #[.val (.int p1), .val (.int p2), .val (.int p3), .val (.int (2 : Int32)), .val (.ref (ad 2)), .unset, .unset, .unset, .unset, .unset] [(.int (2 : Int32))])) t
      refine XS.istore X1.here hx rfl (hb hby at_44) rfl (l' := #[.val (.int p1), .val (.int p2), .val (.int p3), .val (.int (2 : Int32)), .val (.ref (ad 2)), .val (.int (2 : Int32)), .unset, .unset, .unset, .unset]) rfl ?_
      show Steps p.tables e below (T1.setTop (mkF m 46 #[.val (.int p1), .val (.int p2), .val (.int p3), .val (.int (2 : Int32)), .val (.ref (ad 2)), .val (.int (2 : Int32)), .unset, .unset, .unset, .unset] [])) t
      refine XS.iloadN X1.here hx rfl (hb hby at_46) rfl ?_
      show Steps p.tables e below (T1.setTop (mkF m 47 #[.val (.int p1), .val (.int p2), .val (.int p3), .val (.int (2 : Int32)), .val (.ref (ad 2)), .val (.int (2 : Int32)), .unset, .unset, .unset, .unset] [(.int p3)])) t
      refine XS.iconst X1.here hx rfl (hb hby at_47) ?_
      show Steps p.tables e below (T1.setTop (mkF m 48 #[.val (.int p1), .val (.int p2), .val (.int p3), .val (.int (2 : Int32)), .val (.ref (ad 2)), .val (.int (2 : Int32)), .unset, .unset, .unset, .unset] [(.int (1 : Int32)), (.int p3)])) t
      refine XS.iand X1.here hx rfl (hb hby at_48) rfl ?_
      rw [hm]
      show Steps p.tables e below (T1.setTop (mkF m 49 #[.val (.int p1), .val (.int p2), .val (.int p3), .val (.int (2 : Int32)), .val (.ref (ad 2)), .val (.int (2 : Int32)), .unset, .unset, .unset, .unset] [(.int (1 : Int32))])) t
      refine XS.ifNo X1.here hx rfl (hb hby at_49) rfl ((if0 _ _).trans (feq (by decide : ¬ (1 : Int32) = (0 : Int32))).1) ?_
      show Steps p.tables e below (T1.setTop (mkF m 52 #[.val (.int p1), .val (.int p2), .val (.int p3), .val (.int (2 : Int32)), .val (.ref (ad 2)), .val (.int (2 : Int32)), .unset, .unset, .unset, .unset] [])) t
      refine XS.iloadN X1.here hx rfl (hb hby at_52) rfl ?_
      show Steps p.tables e below (T1.setTop (mkF m 53 #[.val (.int p1), .val (.int p2), .val (.int p3), .val (.int (2 : Int32)), .val (.ref (ad 2)), .val (.int (2 : Int32)), .unset, .unset, .unset, .unset] [(.int p2)])) t
      refine XS.goto X1.here hx rfl (pc0 := 53) (pc' := 61) rfl (hb hby at_53) (by decide) (by decide) ?_
      show Steps p.tables e below (T1.setTop (mkF m 61 #[.val (.int p1), .val (.int p2), .val (.int p3), .val (.int (2 : Int32)), .val (.ref (ad 2)), .val (.int (2 : Int32)), .unset, .unset, .unset, .unset] [(.int p2)])) t
      refine XS.istore X1.here hx rfl (hb hby at_61) rfl (l' := #[.val (.int p1), .val (.int p2), .val (.int p3), .val (.int (2 : Int32)), .val (.ref (ad 2)), .val (.int (2 : Int32)), .val (.int p2), .unset, .unset, .unset]) rfl ?_
      show Steps p.tables e below (T1.setTop (mkF m 63 #[.val (.int p1), .val (.int p2), .val (.int p3), .val (.int (2 : Int32)), .val (.ref (ad 2)), .val (.int (2 : Int32)), .val (.int p2), .unset, .unset, .unset] [])) t
      refine XS.aload X1.here hx rfl (hb hby at_63) rfl rfl ?_
      show Steps p.tables e below (T1.setTop (mkF m 65 #[.val (.int p1), .val (.int p2), .val (.int p3), .val (.int (2 : Int32)), .val (.ref (ad 2)), .val (.int (2 : Int32)), .val (.int p2), .unset, .unset, .unset] [(.ref (ad 2))])) t
      refine XS.iload X1.here hx rfl (hb hby at_65) rfl ?_
      show Steps p.tables e below (T1.setTop (mkF m 67 #[.val (.int p1), .val (.int p2), .val (.int p3), .val (.int (2 : Int32)), .val (.ref (ad 2)), .val (.int (2 : Int32)), .val (.int p2), .unset, .unset, .unset] [(.int p2), (.ref (ad 2))])) t
      exact st4.trans k)
  have ch6 : ∀ t, Steps p.tables e below (T4.setTop (mkF m 94 #[.val (.int p1), .val (.int p2), .val (.int p3), .val (.int (2 : Int32)), .val (.ref (ad 2)), .val (.int (2 : Int32)), .val (.int p2), .val (.int (0 : Int32)), .unset, .unset] [(.int (1 : Int32))])) t → Steps p.tables e below (s₁.setTop (entryFrame m #[(.int p1), (.int p2), (.int p3)] maxLocals)) t := fun t k => ch5 t (by
      show Steps p.tables e below (T4.setTop (mkF m 70 #[.val (.int p1), .val (.int p2), .val (.int p3), .val (.int (2 : Int32)), .val (.ref (ad 2)), .val (.int (2 : Int32)), .val (.int p2), .unset, .unset, .unset] [(.int (0 : Int32))])) t
      refine XS.istore X4.here hx rfl (hb hby at_70) rfl (l' := #[.val (.int p1), .val (.int p2), .val (.int p3), .val (.int (2 : Int32)), .val (.ref (ad 2)), .val (.int (2 : Int32)), .val (.int p2), .val (.int (0 : Int32)), .unset, .unset]) rfl ?_
      show Steps p.tables e below (T4.setTop (mkF m 72 #[.val (.int p1), .val (.int p2), .val (.int p3), .val (.int (2 : Int32)), .val (.ref (ad 2)), .val (.int (2 : Int32)), .val (.int p2), .val (.int (0 : Int32)), .unset, .unset] [])) t
      refine XS.iload X4.here hx rfl (hb hby at_72) rfl ?_
      show Steps p.tables e below (T4.setTop (mkF m 74 #[.val (.int p1), .val (.int p2), .val (.int p3), .val (.int (2 : Int32)), .val (.ref (ad 2)), .val (.int (2 : Int32)), .val (.int p2), .val (.int (0 : Int32)), .unset, .unset] [(.int p2)])) t
      refine XS.ifNo X4.here hx rfl (hb hby at_74) rfl ((if0 _ _).trans (flt h1).1) ?_
      show Steps p.tables e below (T4.setTop (mkF m 77 #[.val (.int p1), .val (.int p2), .val (.int p3), .val (.int (2 : Int32)), .val (.ref (ad 2)), .val (.int (2 : Int32)), .val (.int p2), .val (.int (0 : Int32)), .unset, .unset] [])) t
      refine XS.iload X4.here hx rfl (hb hby at_77) rfl ?_
      show Steps p.tables e below (T4.setTop (mkF m 79 #[.val (.int p1), .val (.int p2), .val (.int p3), .val (.int (2 : Int32)), .val (.ref (ad 2)), .val (.int (2 : Int32)), .val (.int p2), .val (.int (0 : Int32)), .unset, .unset] [(.int p2)])) t
      refine XS.bipush X4.here hx rfl (hb hby at_79) ?_
      show Steps p.tables e below (T4.setTop (mkF m 81 #[.val (.int p1), .val (.int p2), .val (.int p3), .val (.int (2 : Int32)), .val (.ref (ad 2)), .val (.int (2 : Int32)), .val (.int p2), .val (.int (0 : Int32)), .unset, .unset] [(.int (99 : Int32)), (.int p2)])) t
      refine XS.icmpNo X4.here hx rfl (hb hby at_81) rfl (tlt h2).2.2.2 ?_
      show Steps p.tables e below (T4.setTop (mkF m 84 #[.val (.int p1), .val (.int p2), .val (.int p3), .val (.int (2 : Int32)), .val (.ref (ad 2)), .val (.int (2 : Int32)), .val (.int p2), .val (.int (0 : Int32)), .unset, .unset] [])) t
      refine XS.iload X4.here hx rfl (hb hby at_84) rfl ?_
      show Steps p.tables e below (T4.setTop (mkF m 86 #[.val (.int p1), .val (.int p2), .val (.int p3), .val (.int (2 : Int32)), .val (.ref (ad 2)), .val (.int (2 : Int32)), .val (.int p2), .val (.int (0 : Int32)), .unset, .unset] [(.int (0 : Int32))])) t
      refine XS.ifNo X4.here hx rfl (hb hby at_86) rfl ((if0 _ _).trans (teq (by decide : (0 : Int32) = (0 : Int32))).2) ?_
      show Steps p.tables e below (T4.setTop (mkF m 89 #[.val (.int p1), .val (.int p2), .val (.int p3), .val (.int (2 : Int32)), .val (.ref (ad 2)), .val (.int (2 : Int32)), .val (.int p2), .val (.int (0 : Int32)), .unset, .unset] [])) t
      refine XS.iconst X4.here hx rfl (hb hby at_89) ?_
      show Steps p.tables e below (T4.setTop (mkF m 90 #[.val (.int p1), .val (.int p2), .val (.int p3), .val (.int (2 : Int32)), .val (.ref (ad 2)), .val (.int (2 : Int32)), .val (.int p2), .val (.int (0 : Int32)), .unset, .unset] [(.int (1 : Int32))])) t
      refine XS.goto X4.here hx rfl (pc0 := 90) (pc' := 94) rfl (hb hby at_90) (by decide) (by decide) ?_
      exact k)
  obtain ⟨fs, hr, hrun, hended, hW, hsame⟩ := X4.leave (v := some (.int (1 : Int32))) (fun h => by rw [Bd.returns] at h; cases h)
  refine ⟨_, _, ch6 _ ?_, hrun, hended, _, _, rfl, ?_, ⟨_, rfl⟩, hW, hsame.mono (by decide) (by decide)⟩
  · show Steps p.tables e below (T4.setTop (mkF m 94 #[.val (.int p1), .val (.int p2), .val (.int p3), .val (.int (2 : Int32)), .val (.ref (ad 2)), .val (.int (2 : Int32)), .val (.int p2), .val (.int (0 : Int32)), .unset, .unset] [(.int (1 : Int32))])) _
    exact retN X4 hx (t := .boolean) Bd.returns (by simp) (hb hby at_94) hr
  · show QN (some (.int (1 : Int32))) n0 _ T4.heap _
    rw [e4]
    exact ⟨rfl, N4⟩
theorem own_ef_own_law_21l (m : MethodId) {x0 : Int32} {x1 : Int32} {x2 : Int32} : entryFrame m #[(.int x0), (.int x1), (.int x2)] maxLocals = mkF m 0 #[.val (.int x0), .val (.int x1), .val (.int x2), .unset, .unset, .unset, .unset, .unset, .unset, .unset] [] := by first | (simp [entryFrame, mkF, argsToLocals, Value.category, maxLocals]; done) | rfl
set_option maxRecDepth 65536 in
set_option maxHeartbeats 40000000 in
theorem own_law_21l (l : Launch) (Z : State) (a0 : Array Value) (hw : ∀ d ∈ tables_1, d.before a0 Z = true) (ws : List Jvm.Cond) (h0 : Heap) (n0 : Nat) (Z0 : n0 ≤ h0.size) (p1 p2 p3 : Int32) (hk : (p1 &&& (2147483647 : Int32)) % (3 : Int32) = (2 : Int32)) (hm : p3 &&& (1 : Int32) = (1 : Int32)) (h1 : ¬ p2 < (0 : Int32)) (h2 : ¬ (99 : Int32) < p2) (h3 : p2 < (50 : Int32)) (ad : Nat → Addr) (W : OwnWd Z h0 ad) :
    MetFree l x (head1 (Jvm.Cond.code x code maxLocals ret :: ws) room_1) (fun a U => a = #[(.int p1), (.int p2), (.int p3)] ∧ Z.Warmed39 U.vm ∧ U.heap = h0) (fun _ _ _ _ _ => True) (fun _ U o U' => ∃ v L, o = .returned v ∧ QN (some (.int (1 : Int32))) n0 v U'.heap L ∧ FrameEnd U o U' L room_1.cells room_1.slots) := by
  refine MetFree.of_bodySF (plainFor_of_name own_pn_com_example_isolint_isolint_bench_ChangeAddedToEachValuePinLaw) hisR ?_
  intro p e s m args below meth c s₁ Bd hml0 hP hK
  obtain ⟨rfl, hZ, hh⟩ := hP
  have hx := Bd.exec
  have hby := Bd.bytes
  have hml : c.maxLocals = 10 := hml0
  have hown : s.vm.findClass "com/example/isolint/isolint/bench/ChangeAddedToEachValuePinLaw" = some m.cls := findClass_of_methodNamed Bd.named
  have hnm := (name_of_methodNamed Bd.named Bd.method).1
  have X0 : Stand p l e room_1 s m #[(.int p1), (.int p2), (.int p3)] below meth c s₁ [] 0 0 := Stand.of_body Bd
  have e0 : s₁.heap = h0 := by rw [← hh, Bd.state]; rfl
  have N0 := Fr.nil n0
  have pre0 : ∀ t, Steps p.tables e below (s₁.setTop (mkF m 0 #[.val (.int p1), .val (.int p2), .val (.int p3), .unset, .unset, .unset, .unset, .unset, .unset, .unset] [])) t → Steps p.tables e below (s₁.setTop (entryFrame m #[(.int p1), (.int p2), (.int p3)] maxLocals)) t := fun t k => castTop (own_ef_own_law_21l m) k
  obtain ⟨T1, X1, e1, st1⟩ := getS2 X0 hx hZ hown (host := "") (Or.inl (hw _ (List.mem_of_getElem? (i := 16) rfl))) Via.refl e0 (own_S_CHANGE_AB W) (g := (mkF m 38 #[.val (.int p1), .val (.int p2), .val (.int p3), .val (.int (2 : Int32)), .unset, .unset, .unset, .unset, .unset, .unset] [])) rfl (hb hby at_38)
  have ch2 : ∀ t, Steps p.tables e below (T1.setTop (mkF m 41 #[.val (.int p1), .val (.int p2), .val (.int p3), .val (.int (2 : Int32)), .unset, .unset, .unset, .unset, .unset, .unset] [(.ref (ad 2))])) t → Steps p.tables e below (s₁.setTop (entryFrame m #[(.int p1), (.int p2), (.int p3)] maxLocals)) t := fun t k => pre0 t (by
      show Steps p.tables e below (s₁.setTop (mkF m 0 #[.val (.int p1), .val (.int p2), .val (.int p3), .unset, .unset, .unset, .unset, .unset, .unset, .unset] [])) t
      refine XS.iloadN X0.here hx rfl (hb hby at_0) rfl ?_
      show Steps p.tables e below (s₁.setTop (mkF m 1 #[.val (.int p1), .val (.int p2), .val (.int p3), .unset, .unset, .unset, .unset, .unset, .unset, .unset] [(.int p1)])) t
      refine X0.ldcInt hx hown (mvT hZ (hw _ (List.mem_of_getElem? (i := 0) rfl))) (g := (mkF m 1 #[.val (.int p1), .val (.int p2), .val (.int p3), .unset, .unset, .unset, .unset, .unset, .unset, .unset] [(.int p1)])) rfl (hb hby at_1) _ ?_
      show Steps p.tables e below (s₁.setTop (mkF m 3 #[.val (.int p1), .val (.int p2), .val (.int p3), .unset, .unset, .unset, .unset, .unset, .unset, .unset] [(.int (2147483647 : Int32)), (.int p1)])) t
      refine XS.iand X0.here hx rfl (hb hby at_3) rfl ?_
      show Steps p.tables e below (s₁.setTop (mkF m 4 #[.val (.int p1), .val (.int p2), .val (.int p3), .unset, .unset, .unset, .unset, .unset, .unset, .unset] [(.int (p1 &&& (2147483647 : Int32)))])) t
      refine XS.iconst X0.here hx rfl (hb hby at_4) ?_
      show Steps p.tables e below (s₁.setTop (mkF m 5 #[.val (.int p1), .val (.int p2), .val (.int p3), .unset, .unset, .unset, .unset, .unset, .unset, .unset] [(.int (3 : Int32)), (.int (p1 &&& (2147483647 : Int32)))])) t
      refine Jvm.RoadKit.iremM (g := (mkF m 5 #[.val (.int p1), .val (.int p2), .val (.int p3), .unset, .unset, .unset, .unset, .unset, .unset, .unset] [(.int (3 : Int32)), (.int (p1 &&& (2147483647 : Int32)))])) X0 hx rfl (hb hby at_5) rfl (by decide) ?_
      rw [hk]
      show Steps p.tables e below (s₁.setTop (mkF m 6 #[.val (.int p1), .val (.int p2), .val (.int p3), .unset, .unset, .unset, .unset, .unset, .unset, .unset] [(.int (2 : Int32))])) t
      refine XS.istoreN X0.here hx rfl (hb hby at_6) rfl (l' := #[.val (.int p1), .val (.int p2), .val (.int p3), .val (.int (2 : Int32)), .unset, .unset, .unset, .unset, .unset, .unset]) rfl ?_
      show Steps p.tables e below (s₁.setTop (mkF m 7 #[.val (.int p1), .val (.int p2), .val (.int p3), .val (.int (2 : Int32)), .unset, .unset, .unset, .unset, .unset, .unset] [])) t
      refine XS.iloadN X0.here hx rfl (hb hby at_7) rfl ?_
      show Steps p.tables e below (s₁.setTop (mkF m 8 #[.val (.int p1), .val (.int p2), .val (.int p3), .val (.int (2 : Int32)), .unset, .unset, .unset, .unset, .unset, .unset] [(.int (2 : Int32))])) t
      refine XS.ifYes X0.here hx rfl (pc0 := 8) (pc' := 22) rfl (hb hby at_8) rfl ((if0 _ _).trans (feq (by decide : ¬ (2 : Int32) = (0 : Int32))).2) (by decide) (by decide) ?_
      show Steps p.tables e below (s₁.setTop (mkF m 22 #[.val (.int p1), .val (.int p2), .val (.int p3), .val (.int (2 : Int32)), .unset, .unset, .unset, .unset, .unset, .unset] [])) t
      refine XS.iloadN X0.here hx rfl (hb hby at_22) rfl ?_
      show Steps p.tables e below (s₁.setTop (mkF m 23 #[.val (.int p1), .val (.int p2), .val (.int p3), .val (.int (2 : Int32)), .unset, .unset, .unset, .unset, .unset, .unset] [(.int (2 : Int32))])) t
      refine XS.iconst X0.here hx rfl (hb hby at_23) ?_
      show Steps p.tables e below (s₁.setTop (mkF m 24 #[.val (.int p1), .val (.int p2), .val (.int p3), .val (.int (2 : Int32)), .unset, .unset, .unset, .unset, .unset, .unset] [(.int (1 : Int32)), (.int (2 : Int32))])) t
      refine XS.icmpYes X0.here hx rfl (pc0 := 24) (pc' := 38) rfl (hb hby at_24) rfl (feq (by decide : ¬ (2 : Int32) = (1 : Int32))).2 (by decide) (by decide) ?_
      show Steps p.tables e below (s₁.setTop (mkF m 38 #[.val (.int p1), .val (.int p2), .val (.int p3), .val (.int (2 : Int32)), .unset, .unset, .unset, .unset, .unset, .unset] [])) t
      exact st1 t k)
  obtain ⟨cq3, kq3, qa3, qb3, qc3⟩ := isOf hZ e1 (own_E_CHANGE_AB W)
  obtain ⟨vv4, _, ⟨T4, L4, kk4, nn4⟩, -, X4, ⟨Lc4, hQ4, l4, y4, z4⟩, st4⟩ := X1.virtualBack hx (y := (⟨"com/example/isolint/isolint/bench/Change", "addedToEachValue", "(I)I"⟩ : MethodName)) (z := (⟨"com/example/isolint/isolint/bench/Change", "addedToEachValue", "(I)I"⟩ : MethodName)) hown (mvT hZ (hw _ (List.mem_of_getElem? (i := 4) rfl))) (mvT hZ (hw _ (List.mem_of_getElem? (i := 5) rfl))) (notFace_of_selects (args := #[]) (mvT hZ (hw _ (List.mem_of_getElem? (i := 7) rfl)))) (mvT hZ (hw _ (List.mem_of_getElem? (i := 7) rfl))) (mvT hZ (hw _ (List.mem_of_getElem? (i := 6) rfl))) (by decide) (backOf (W := 0) (own_add_2l l Z a0 hw [] h0 n0 Z0  p2 h1 h2 h3 ad W) hZ (hw _ (List.mem_of_getElem? (i := 8) rfl)) (hw _ (List.mem_of_getElem? (i := 2) rfl)) (by decide) (by decide)) qa3 qc3 (g := (mkF m 67 #[.val (.int p1), .val (.int p2), .val (.int p3), .val (.int (2 : Int32)), .val (.ref (ad 2)), .val (.int (2 : Int32)), .val (.int p2), .unset, .unset, .unset] [(.int p2), (.ref (ad 2))])) rfl (by rw [hml]; rfl) (Steps.refl _) (argsL := [(.int p2)]) (rest := []) (lenOf own_pd__I_I rfl) rfl (by show 2 * 0 + _ ≤ _; exact Nat.le_of_eq rfl) (hb hby at_67) (fun _ _ => ⟨rfl, e1, (by decide : 0 + 0 ≤ _), (by decide : 0 + 0 ≤ _)⟩)
  dsimp only [Pt.U, Pt.locs, Pt.cells, Pt.slots] at X4 l4 y4 z4 st4 hQ4
  subst l4 y4 z4
  obtain ⟨rfl, Nq4, e4⟩ := hQ4
  have N4 := Fr.app N0 Nq4
  have ch5 : ∀ t, Steps p.tables e below (T4.setTop (mkF m 70 #[.val (.int p1), .val (.int p2), .val (.int p3), .val (.int (2 : Int32)), .val (.ref (ad 2)), .val (.int (2 : Int32)), .val (.int p2), .unset, .unset, .unset] [(.int (25 : Int32))])) t → Steps p.tables e below (s₁.setTop (entryFrame m #[(.int p1), (.int p2), (.int p3)] maxLocals)) t := fun t k => ch2 t (by
      show Steps p.tables e below (T1.setTop (mkF m 41 #[.val (.int p1), .val (.int p2), .val (.int p3), .val (.int (2 : Int32)), .unset, .unset, .unset, .unset, .unset, .unset] [(.ref (ad 2))])) t
      refine XS.astore X1.here hx rfl (hb hby at_41) rfl rfl (l' := #[.val (.int p1), .val (.int p2), .val (.int p3), .val (.int (2 : Int32)), .val (.ref (ad 2)), .unset, .unset, .unset, .unset, .unset]) rfl ?_
      show Steps p.tables e below (T1.setTop (mkF m 43 #[.val (.int p1), .val (.int p2), .val (.int p3), .val (.int (2 : Int32)), .val (.ref (ad 2)), .unset, .unset, .unset, .unset, .unset] [])) t
      refine XS.iconst X1.here hx rfl (hb hby at_43) ?_
      show Steps p.tables e below (T1.setTop (mkF m 44 #[.val (.int p1), .val (.int p2), .val (.int p3), .val (.int (2 : Int32)), .val (.ref (ad 2)), .unset, .unset, .unset, .unset, .unset] [(.int (2 : Int32))])) t
      refine XS.istore X1.here hx rfl (hb hby at_44) rfl (l' := #[.val (.int p1), .val (.int p2), .val (.int p3), .val (.int (2 : Int32)), .val (.ref (ad 2)), .val (.int (2 : Int32)), .unset, .unset, .unset, .unset]) rfl ?_
      show Steps p.tables e below (T1.setTop (mkF m 46 #[.val (.int p1), .val (.int p2), .val (.int p3), .val (.int (2 : Int32)), .val (.ref (ad 2)), .val (.int (2 : Int32)), .unset, .unset, .unset, .unset] [])) t
      refine XS.iloadN X1.here hx rfl (hb hby at_46) rfl ?_
      show Steps p.tables e below (T1.setTop (mkF m 47 #[.val (.int p1), .val (.int p2), .val (.int p3), .val (.int (2 : Int32)), .val (.ref (ad 2)), .val (.int (2 : Int32)), .unset, .unset, .unset, .unset] [(.int p3)])) t
      refine XS.iconst X1.here hx rfl (hb hby at_47) ?_
      show Steps p.tables e below (T1.setTop (mkF m 48 #[.val (.int p1), .val (.int p2), .val (.int p3), .val (.int (2 : Int32)), .val (.ref (ad 2)), .val (.int (2 : Int32)), .unset, .unset, .unset, .unset] [(.int (1 : Int32)), (.int p3)])) t
      refine XS.iand X1.here hx rfl (hb hby at_48) rfl ?_
      rw [hm]
      show Steps p.tables e below (T1.setTop (mkF m 49 #[.val (.int p1), .val (.int p2), .val (.int p3), .val (.int (2 : Int32)), .val (.ref (ad 2)), .val (.int (2 : Int32)), .unset, .unset, .unset, .unset] [(.int (1 : Int32))])) t
      refine XS.ifNo X1.here hx rfl (hb hby at_49) rfl ((if0 _ _).trans (feq (by decide : ¬ (1 : Int32) = (0 : Int32))).1) ?_
      show Steps p.tables e below (T1.setTop (mkF m 52 #[.val (.int p1), .val (.int p2), .val (.int p3), .val (.int (2 : Int32)), .val (.ref (ad 2)), .val (.int (2 : Int32)), .unset, .unset, .unset, .unset] [])) t
      refine XS.iloadN X1.here hx rfl (hb hby at_52) rfl ?_
      show Steps p.tables e below (T1.setTop (mkF m 53 #[.val (.int p1), .val (.int p2), .val (.int p3), .val (.int (2 : Int32)), .val (.ref (ad 2)), .val (.int (2 : Int32)), .unset, .unset, .unset, .unset] [(.int p2)])) t
      refine XS.goto X1.here hx rfl (pc0 := 53) (pc' := 61) rfl (hb hby at_53) (by decide) (by decide) ?_
      show Steps p.tables e below (T1.setTop (mkF m 61 #[.val (.int p1), .val (.int p2), .val (.int p3), .val (.int (2 : Int32)), .val (.ref (ad 2)), .val (.int (2 : Int32)), .unset, .unset, .unset, .unset] [(.int p2)])) t
      refine XS.istore X1.here hx rfl (hb hby at_61) rfl (l' := #[.val (.int p1), .val (.int p2), .val (.int p3), .val (.int (2 : Int32)), .val (.ref (ad 2)), .val (.int (2 : Int32)), .val (.int p2), .unset, .unset, .unset]) rfl ?_
      show Steps p.tables e below (T1.setTop (mkF m 63 #[.val (.int p1), .val (.int p2), .val (.int p3), .val (.int (2 : Int32)), .val (.ref (ad 2)), .val (.int (2 : Int32)), .val (.int p2), .unset, .unset, .unset] [])) t
      refine XS.aload X1.here hx rfl (hb hby at_63) rfl rfl ?_
      show Steps p.tables e below (T1.setTop (mkF m 65 #[.val (.int p1), .val (.int p2), .val (.int p3), .val (.int (2 : Int32)), .val (.ref (ad 2)), .val (.int (2 : Int32)), .val (.int p2), .unset, .unset, .unset] [(.ref (ad 2))])) t
      refine XS.iload X1.here hx rfl (hb hby at_65) rfl ?_
      show Steps p.tables e below (T1.setTop (mkF m 67 #[.val (.int p1), .val (.int p2), .val (.int p3), .val (.int (2 : Int32)), .val (.ref (ad 2)), .val (.int (2 : Int32)), .val (.int p2), .unset, .unset, .unset] [(.int p2), (.ref (ad 2))])) t
      exact st4.trans k)
  have ch6 : ∀ t, Steps p.tables e below (T4.setTop (mkF m 133 #[.val (.int p1), .val (.int p2), .val (.int p3), .val (.int (2 : Int32)), .val (.ref (ad 2)), .val (.int (2 : Int32)), .val (.int p2), .val (.int (25 : Int32)), .val (.long ((p2.toInt64) + (50 : Int64))), .second] [(.int (1 : Int32))])) t → Steps p.tables e below (s₁.setTop (entryFrame m #[(.int p1), (.int p2), (.int p3)] maxLocals)) t := fun t k => ch5 t (by
      show Steps p.tables e below (T4.setTop (mkF m 70 #[.val (.int p1), .val (.int p2), .val (.int p3), .val (.int (2 : Int32)), .val (.ref (ad 2)), .val (.int (2 : Int32)), .val (.int p2), .unset, .unset, .unset] [(.int (25 : Int32))])) t
      refine XS.istore X4.here hx rfl (hb hby at_70) rfl (l' := #[.val (.int p1), .val (.int p2), .val (.int p3), .val (.int (2 : Int32)), .val (.ref (ad 2)), .val (.int (2 : Int32)), .val (.int p2), .val (.int (25 : Int32)), .unset, .unset]) rfl ?_
      show Steps p.tables e below (T4.setTop (mkF m 72 #[.val (.int p1), .val (.int p2), .val (.int p3), .val (.int (2 : Int32)), .val (.ref (ad 2)), .val (.int (2 : Int32)), .val (.int p2), .val (.int (25 : Int32)), .unset, .unset] [])) t
      refine XS.iload X4.here hx rfl (hb hby at_72) rfl ?_
      show Steps p.tables e below (T4.setTop (mkF m 74 #[.val (.int p1), .val (.int p2), .val (.int p3), .val (.int (2 : Int32)), .val (.ref (ad 2)), .val (.int (2 : Int32)), .val (.int p2), .val (.int (25 : Int32)), .unset, .unset] [(.int p2)])) t
      refine XS.ifNo X4.here hx rfl (hb hby at_74) rfl ((if0 _ _).trans (flt h1).1) ?_
      show Steps p.tables e below (T4.setTop (mkF m 77 #[.val (.int p1), .val (.int p2), .val (.int p3), .val (.int (2 : Int32)), .val (.ref (ad 2)), .val (.int (2 : Int32)), .val (.int p2), .val (.int (25 : Int32)), .unset, .unset] [])) t
      refine XS.iload X4.here hx rfl (hb hby at_77) rfl ?_
      show Steps p.tables e below (T4.setTop (mkF m 79 #[.val (.int p1), .val (.int p2), .val (.int p3), .val (.int (2 : Int32)), .val (.ref (ad 2)), .val (.int (2 : Int32)), .val (.int p2), .val (.int (25 : Int32)), .unset, .unset] [(.int p2)])) t
      refine XS.bipush X4.here hx rfl (hb hby at_79) ?_
      show Steps p.tables e below (T4.setTop (mkF m 81 #[.val (.int p1), .val (.int p2), .val (.int p3), .val (.int (2 : Int32)), .val (.ref (ad 2)), .val (.int (2 : Int32)), .val (.int p2), .val (.int (25 : Int32)), .unset, .unset] [(.int (99 : Int32)), (.int p2)])) t
      refine XS.icmpYes X4.here hx rfl (pc0 := 81) (pc' := 95) rfl (hb hby at_81) rfl (flt h2).2.2.2 (by decide) (by decide) ?_
      show Steps p.tables e below (T4.setTop (mkF m 95 #[.val (.int p1), .val (.int p2), .val (.int p3), .val (.int (2 : Int32)), .val (.ref (ad 2)), .val (.int (2 : Int32)), .val (.int p2), .val (.int (25 : Int32)), .unset, .unset] [])) t
      refine XS.iload X4.here hx rfl (hb hby at_95) rfl ?_
      show Steps p.tables e below (T4.setTop (mkF m 97 #[.val (.int p1), .val (.int p2), .val (.int p3), .val (.int (2 : Int32)), .val (.ref (ad 2)), .val (.int (2 : Int32)), .val (.int p2), .val (.int (25 : Int32)), .unset, .unset] [(.int p2)])) t
      refine XS.i2l X4.here hx rfl (hb hby at_97) rfl ?_
      show Steps p.tables e below (T4.setTop (mkF m 98 #[.val (.int p1), .val (.int p2), .val (.int p3), .val (.int (2 : Int32)), .val (.ref (ad 2)), .val (.int (2 : Int32)), .val (.int p2), .val (.int (25 : Int32)), .unset, .unset] [(.long (p2.toInt64))])) t
      refine XS.iload X4.here hx rfl (hb hby at_98) rfl ?_
      show Steps p.tables e below (T4.setTop (mkF m 100 #[.val (.int p1), .val (.int p2), .val (.int p3), .val (.int (2 : Int32)), .val (.ref (ad 2)), .val (.int (2 : Int32)), .val (.int p2), .val (.int (25 : Int32)), .unset, .unset] [(.int (2 : Int32)), (.long (p2.toInt64))])) t
      refine XS.i2l X4.here hx rfl (hb hby at_100) rfl ?_
      rw [show ((2 : Int32).toInt64) = (2 : Int64) from by decide]
      show Steps p.tables e below (T4.setTop (mkF m 101 #[.val (.int p1), .val (.int p2), .val (.int p3), .val (.int (2 : Int32)), .val (.ref (ad 2)), .val (.int (2 : Int32)), .val (.int p2), .val (.int (25 : Int32)), .unset, .unset] [(.long (2 : Int64)), (.long (p2.toInt64))])) t
      refine XS.iload X4.here hx rfl (hb hby at_101) rfl ?_
      show Steps p.tables e below (T4.setTop (mkF m 103 #[.val (.int p1), .val (.int p2), .val (.int p3), .val (.int (2 : Int32)), .val (.ref (ad 2)), .val (.int (2 : Int32)), .val (.int p2), .val (.int (25 : Int32)), .unset, .unset] [(.int (25 : Int32)), (.long (2 : Int64)), (.long (p2.toInt64))])) t
      refine XS.i2l X4.here hx rfl (hb hby at_103) rfl ?_
      rw [show ((25 : Int32).toInt64) = (25 : Int64) from by decide]
      show Steps p.tables e below (T4.setTop (mkF m 104 #[.val (.int p1), .val (.int p2), .val (.int p3), .val (.int (2 : Int32)), .val (.ref (ad 2)), .val (.int (2 : Int32)), .val (.int p2), .val (.int (25 : Int32)), .unset, .unset] [(.long (25 : Int64)), (.long (2 : Int64)), (.long (p2.toInt64))])) t
      refine XS.lmul X4.here hx rfl (hb hby at_104) rfl ?_
      rw [show ((2 : Int64) * (25 : Int64)) = (50 : Int64) from by decide]
      show Steps p.tables e below (T4.setTop (mkF m 105 #[.val (.int p1), .val (.int p2), .val (.int p3), .val (.int (2 : Int32)), .val (.ref (ad 2)), .val (.int (2 : Int32)), .val (.int p2), .val (.int (25 : Int32)), .unset, .unset] [(.long (50 : Int64)), (.long (p2.toInt64))])) t
      refine XS.ladd X4.here hx rfl (hb hby at_105) rfl ?_
      show Steps p.tables e below (T4.setTop (mkF m 106 #[.val (.int p1), .val (.int p2), .val (.int p3), .val (.int (2 : Int32)), .val (.ref (ad 2)), .val (.int (2 : Int32)), .val (.int p2), .val (.int (25 : Int32)), .unset, .unset] [(.long ((p2.toInt64) + (50 : Int64)))])) t
      refine XS.lstore X4.here hx rfl (hb hby at_106) rfl (l' := #[.val (.int p1), .val (.int p2), .val (.int p3), .val (.int (2 : Int32)), .val (.ref (ad 2)), .val (.int (2 : Int32)), .val (.int p2), .val (.int (25 : Int32)), .val (.long ((p2.toInt64) + (50 : Int64))), .second]) rfl ?_
      show Steps p.tables e below (T4.setTop (mkF m 108 #[.val (.int p1), .val (.int p2), .val (.int p3), .val (.int (2 : Int32)), .val (.ref (ad 2)), .val (.int (2 : Int32)), .val (.int p2), .val (.int (25 : Int32)), .val (.long ((p2.toInt64) + (50 : Int64))), .second] [])) t
      refine XS.iload X4.here hx rfl (hb hby at_108) rfl ?_
      show Steps p.tables e below (T4.setTop (mkF m 110 #[.val (.int p1), .val (.int p2), .val (.int p3), .val (.int (2 : Int32)), .val (.ref (ad 2)), .val (.int (2 : Int32)), .val (.int p2), .val (.int (25 : Int32)), .val (.long ((p2.toInt64) + (50 : Int64))), .second] [(.int p2)])) t
      refine XS.bipush X4.here hx rfl (hb hby at_110) ?_
      show Steps p.tables e below (T4.setTop (mkF m 112 #[.val (.int p1), .val (.int p2), .val (.int p3), .val (.int (2 : Int32)), .val (.ref (ad 2)), .val (.int (2 : Int32)), .val (.int p2), .val (.int (25 : Int32)), .val (.long ((p2.toInt64) + (50 : Int64))), .second] [(.int (50 : Int32)), (.int p2)])) t
      refine XS.icmpNo X4.here hx rfl (hb hby at_112) rfl (tlt h3).2.1 ?_
      show Steps p.tables e below (T4.setTop (mkF m 115 #[.val (.int p1), .val (.int p2), .val (.int p3), .val (.int (2 : Int32)), .val (.ref (ad 2)), .val (.int (2 : Int32)), .val (.int p2), .val (.int (25 : Int32)), .val (.long ((p2.toInt64) + (50 : Int64))), .second] [])) t
      refine XS.lload X4.here hx rfl (hb hby at_115) rfl ?_
      show Steps p.tables e below (T4.setTop (mkF m 117 #[.val (.int p1), .val (.int p2), .val (.int p3), .val (.int (2 : Int32)), .val (.ref (ad 2)), .val (.int (2 : Int32)), .val (.int p2), .val (.int (25 : Int32)), .val (.long ((p2.toInt64) + (50 : Int64))), .second] [(.long ((p2.toInt64) + (50 : Int64)))])) t
      refine XS.iload X4.here hx rfl (hb hby at_117) rfl ?_
      show Steps p.tables e below (T4.setTop (mkF m 119 #[.val (.int p1), .val (.int p2), .val (.int p3), .val (.int (2 : Int32)), .val (.ref (ad 2)), .val (.int (2 : Int32)), .val (.int p2), .val (.int (25 : Int32)), .val (.long ((p2.toInt64) + (50 : Int64))), .second] [(.int p2), (.long ((p2.toInt64) + (50 : Int64)))])) t
      refine XS.i2l X4.here hx rfl (hb hby at_119) rfl ?_
      show Steps p.tables e below (T4.setTop (mkF m 120 #[.val (.int p1), .val (.int p2), .val (.int p3), .val (.int (2 : Int32)), .val (.ref (ad 2)), .val (.int (2 : Int32)), .val (.int p2), .val (.int (25 : Int32)), .val (.long ((p2.toInt64) + (50 : Int64))), .second] [(.long (p2.toInt64)), (.long ((p2.toInt64) + (50 : Int64)))])) t
      refine X4.ldc2Long hx hown (mvT hZ (hw _ (List.mem_of_getElem? (i := 13) rfl))) (g := (mkF m 120 #[.val (.int p1), .val (.int p2), .val (.int p3), .val (.int (2 : Int32)), .val (.ref (ad 2)), .val (.int (2 : Int32)), .val (.int p2), .val (.int (25 : Int32)), .val (.long ((p2.toInt64) + (50 : Int64))), .second] [(.long (p2.toInt64)), (.long ((p2.toInt64) + (50 : Int64)))])) rfl (hb hby at_120) _ ?_
      show Steps p.tables e below (T4.setTop (mkF m 123 #[.val (.int p1), .val (.int p2), .val (.int p3), .val (.int (2 : Int32)), .val (.ref (ad 2)), .val (.int (2 : Int32)), .val (.int p2), .val (.int (25 : Int32)), .val (.long ((p2.toInt64) + (50 : Int64))), .second] [(.long (50 : Int64)), (.long (p2.toInt64)), (.long ((p2.toInt64) + (50 : Int64)))])) t
      refine XS.ladd X4.here hx rfl (hb hby at_123) rfl ?_
      show Steps p.tables e below (T4.setTop (mkF m 124 #[.val (.int p1), .val (.int p2), .val (.int p3), .val (.int (2 : Int32)), .val (.ref (ad 2)), .val (.int (2 : Int32)), .val (.int p2), .val (.int (25 : Int32)), .val (.long ((p2.toInt64) + (50 : Int64))), .second] [(.long ((p2.toInt64) + (50 : Int64))), (.long ((p2.toInt64) + (50 : Int64)))])) t
      refine XS.lcmp X4.here hx rfl (hb hby at_124) rfl ?_
      show Steps p.tables e below (T4.setTop (mkF m 125 #[.val (.int p1), .val (.int p2), .val (.int p3), .val (.int (2 : Int32)), .val (.ref (ad 2)), .val (.int (2 : Int32)), .val (.int p2), .val (.int (25 : Int32)), .val (.long ((p2.toInt64) + (50 : Int64))), .second] [(.int (lcmpW ((p2.toInt64) + (50 : Int64)) ((p2.toInt64) + (50 : Int64))))])) t
      rw [own_lc0]
      show Steps p.tables e below (T4.setTop (mkF m 125 #[.val (.int p1), .val (.int p2), .val (.int p3), .val (.int (2 : Int32)), .val (.ref (ad 2)), .val (.int (2 : Int32)), .val (.int p2), .val (.int (25 : Int32)), .val (.long ((p2.toInt64) + (50 : Int64))), .second] [(.int (0 : Int32))])) t
      refine XS.ifNo X4.here hx rfl (hb hby at_125) rfl ((if0 _ _).trans (teq (by decide : (0 : Int32) = (0 : Int32))).2) ?_
      show Steps p.tables e below (T4.setTop (mkF m 128 #[.val (.int p1), .val (.int p2), .val (.int p3), .val (.int (2 : Int32)), .val (.ref (ad 2)), .val (.int (2 : Int32)), .val (.int p2), .val (.int (25 : Int32)), .val (.long ((p2.toInt64) + (50 : Int64))), .second] [])) t
      refine XS.iconst X4.here hx rfl (hb hby at_128) ?_
      show Steps p.tables e below (T4.setTop (mkF m 129 #[.val (.int p1), .val (.int p2), .val (.int p3), .val (.int (2 : Int32)), .val (.ref (ad 2)), .val (.int (2 : Int32)), .val (.int p2), .val (.int (25 : Int32)), .val (.long ((p2.toInt64) + (50 : Int64))), .second] [(.int (1 : Int32))])) t
      refine XS.goto X4.here hx rfl (pc0 := 129) (pc' := 133) rfl (hb hby at_129) (by decide) (by decide) ?_
      exact k)
  obtain ⟨fs, hr, hrun, hended, hW, hsame⟩ := X4.leave (v := some (.int (1 : Int32))) (fun h => by rw [Bd.returns] at h; cases h)
  refine ⟨_, _, ch6 _ ?_, hrun, hended, _, _, rfl, ?_, ⟨_, rfl⟩, hW, hsame.mono (by decide) (by decide)⟩
  · show Steps p.tables e below (T4.setTop (mkF m 133 #[.val (.int p1), .val (.int p2), .val (.int p3), .val (.int (2 : Int32)), .val (.ref (ad 2)), .val (.int (2 : Int32)), .val (.int p2), .val (.int (25 : Int32)), .val (.long ((p2.toInt64) + (50 : Int64))), .second] [(.int (1 : Int32))])) _
    exact retN X4 hx (t := .boolean) Bd.returns (by simp) (hb hby at_133) hr
  · show QN (some (.int (1 : Int32))) n0 _ T4.heap _
    rw [e4]
    exact ⟨rfl, N4⟩
theorem own_ef_own_law_21h (m : MethodId) {x0 : Int32} {x1 : Int32} {x2 : Int32} : entryFrame m #[(.int x0), (.int x1), (.int x2)] maxLocals = mkF m 0 #[.val (.int x0), .val (.int x1), .val (.int x2), .unset, .unset, .unset, .unset, .unset, .unset, .unset] [] := by first | (simp [entryFrame, mkF, argsToLocals, Value.category, maxLocals]; done) | rfl
set_option maxRecDepth 65536 in
set_option maxHeartbeats 40000000 in
theorem own_law_21h (l : Launch) (Z : State) (a0 : Array Value) (hw : ∀ d ∈ tables_1, d.before a0 Z = true) (ws : List Jvm.Cond) (h0 : Heap) (n0 : Nat) (Z0 : n0 ≤ h0.size) (p1 p2 p3 : Int32) (hk : (p1 &&& (2147483647 : Int32)) % (3 : Int32) = (2 : Int32)) (hm : p3 &&& (1 : Int32) = (1 : Int32)) (h1 : ¬ p2 < (0 : Int32)) (h2 : ¬ (99 : Int32) < p2) (h3 : ¬ p2 < (50 : Int32)) (ad : Nat → Addr) (W : OwnWd Z h0 ad) :
    MetFree l x (head1 (Jvm.Cond.code x code maxLocals ret :: ws) room_1) (fun a U => a = #[(.int p1), (.int p2), (.int p3)] ∧ Z.Warmed39 U.vm ∧ U.heap = h0) (fun _ _ _ _ _ => True) (fun _ U o U' => ∃ v L, o = .returned v ∧ QN (some (.int (1 : Int32))) n0 v U'.heap L ∧ FrameEnd U o U' L room_1.cells room_1.slots) := by
  refine MetFree.of_bodySF (plainFor_of_name own_pn_com_example_isolint_isolint_bench_ChangeAddedToEachValuePinLaw) hisR ?_
  intro p e s m args below meth c s₁ Bd hml0 hP hK
  obtain ⟨rfl, hZ, hh⟩ := hP
  have hx := Bd.exec
  have hby := Bd.bytes
  have hml : c.maxLocals = 10 := hml0
  have hown : s.vm.findClass "com/example/isolint/isolint/bench/ChangeAddedToEachValuePinLaw" = some m.cls := findClass_of_methodNamed Bd.named
  have hnm := (name_of_methodNamed Bd.named Bd.method).1
  have X0 : Stand p l e room_1 s m #[(.int p1), (.int p2), (.int p3)] below meth c s₁ [] 0 0 := Stand.of_body Bd
  have e0 : s₁.heap = h0 := by rw [← hh, Bd.state]; rfl
  have N0 := Fr.nil n0
  have pre0 : ∀ t, Steps p.tables e below (s₁.setTop (mkF m 0 #[.val (.int p1), .val (.int p2), .val (.int p3), .unset, .unset, .unset, .unset, .unset, .unset, .unset] [])) t → Steps p.tables e below (s₁.setTop (entryFrame m #[(.int p1), (.int p2), (.int p3)] maxLocals)) t := fun t k => castTop (own_ef_own_law_21h m) k
  obtain ⟨T1, X1, e1, st1⟩ := getS2 X0 hx hZ hown (host := "") (Or.inl (hw _ (List.mem_of_getElem? (i := 16) rfl))) Via.refl e0 (own_S_CHANGE_AB W) (g := (mkF m 38 #[.val (.int p1), .val (.int p2), .val (.int p3), .val (.int (2 : Int32)), .unset, .unset, .unset, .unset, .unset, .unset] [])) rfl (hb hby at_38)
  have ch2 : ∀ t, Steps p.tables e below (T1.setTop (mkF m 41 #[.val (.int p1), .val (.int p2), .val (.int p3), .val (.int (2 : Int32)), .unset, .unset, .unset, .unset, .unset, .unset] [(.ref (ad 2))])) t → Steps p.tables e below (s₁.setTop (entryFrame m #[(.int p1), (.int p2), (.int p3)] maxLocals)) t := fun t k => pre0 t (by
      show Steps p.tables e below (s₁.setTop (mkF m 0 #[.val (.int p1), .val (.int p2), .val (.int p3), .unset, .unset, .unset, .unset, .unset, .unset, .unset] [])) t
      refine XS.iloadN X0.here hx rfl (hb hby at_0) rfl ?_
      show Steps p.tables e below (s₁.setTop (mkF m 1 #[.val (.int p1), .val (.int p2), .val (.int p3), .unset, .unset, .unset, .unset, .unset, .unset, .unset] [(.int p1)])) t
      refine X0.ldcInt hx hown (mvT hZ (hw _ (List.mem_of_getElem? (i := 0) rfl))) (g := (mkF m 1 #[.val (.int p1), .val (.int p2), .val (.int p3), .unset, .unset, .unset, .unset, .unset, .unset, .unset] [(.int p1)])) rfl (hb hby at_1) _ ?_
      show Steps p.tables e below (s₁.setTop (mkF m 3 #[.val (.int p1), .val (.int p2), .val (.int p3), .unset, .unset, .unset, .unset, .unset, .unset, .unset] [(.int (2147483647 : Int32)), (.int p1)])) t
      refine XS.iand X0.here hx rfl (hb hby at_3) rfl ?_
      show Steps p.tables e below (s₁.setTop (mkF m 4 #[.val (.int p1), .val (.int p2), .val (.int p3), .unset, .unset, .unset, .unset, .unset, .unset, .unset] [(.int (p1 &&& (2147483647 : Int32)))])) t
      refine XS.iconst X0.here hx rfl (hb hby at_4) ?_
      show Steps p.tables e below (s₁.setTop (mkF m 5 #[.val (.int p1), .val (.int p2), .val (.int p3), .unset, .unset, .unset, .unset, .unset, .unset, .unset] [(.int (3 : Int32)), (.int (p1 &&& (2147483647 : Int32)))])) t
      refine Jvm.RoadKit.iremM (g := (mkF m 5 #[.val (.int p1), .val (.int p2), .val (.int p3), .unset, .unset, .unset, .unset, .unset, .unset, .unset] [(.int (3 : Int32)), (.int (p1 &&& (2147483647 : Int32)))])) X0 hx rfl (hb hby at_5) rfl (by decide) ?_
      rw [hk]
      show Steps p.tables e below (s₁.setTop (mkF m 6 #[.val (.int p1), .val (.int p2), .val (.int p3), .unset, .unset, .unset, .unset, .unset, .unset, .unset] [(.int (2 : Int32))])) t
      refine XS.istoreN X0.here hx rfl (hb hby at_6) rfl (l' := #[.val (.int p1), .val (.int p2), .val (.int p3), .val (.int (2 : Int32)), .unset, .unset, .unset, .unset, .unset, .unset]) rfl ?_
      show Steps p.tables e below (s₁.setTop (mkF m 7 #[.val (.int p1), .val (.int p2), .val (.int p3), .val (.int (2 : Int32)), .unset, .unset, .unset, .unset, .unset, .unset] [])) t
      refine XS.iloadN X0.here hx rfl (hb hby at_7) rfl ?_
      show Steps p.tables e below (s₁.setTop (mkF m 8 #[.val (.int p1), .val (.int p2), .val (.int p3), .val (.int (2 : Int32)), .unset, .unset, .unset, .unset, .unset, .unset] [(.int (2 : Int32))])) t
      refine XS.ifYes X0.here hx rfl (pc0 := 8) (pc' := 22) rfl (hb hby at_8) rfl ((if0 _ _).trans (feq (by decide : ¬ (2 : Int32) = (0 : Int32))).2) (by decide) (by decide) ?_
      show Steps p.tables e below (s₁.setTop (mkF m 22 #[.val (.int p1), .val (.int p2), .val (.int p3), .val (.int (2 : Int32)), .unset, .unset, .unset, .unset, .unset, .unset] [])) t
      refine XS.iloadN X0.here hx rfl (hb hby at_22) rfl ?_
      show Steps p.tables e below (s₁.setTop (mkF m 23 #[.val (.int p1), .val (.int p2), .val (.int p3), .val (.int (2 : Int32)), .unset, .unset, .unset, .unset, .unset, .unset] [(.int (2 : Int32))])) t
      refine XS.iconst X0.here hx rfl (hb hby at_23) ?_
      show Steps p.tables e below (s₁.setTop (mkF m 24 #[.val (.int p1), .val (.int p2), .val (.int p3), .val (.int (2 : Int32)), .unset, .unset, .unset, .unset, .unset, .unset] [(.int (1 : Int32)), (.int (2 : Int32))])) t
      refine XS.icmpYes X0.here hx rfl (pc0 := 24) (pc' := 38) rfl (hb hby at_24) rfl (feq (by decide : ¬ (2 : Int32) = (1 : Int32))).2 (by decide) (by decide) ?_
      show Steps p.tables e below (s₁.setTop (mkF m 38 #[.val (.int p1), .val (.int p2), .val (.int p3), .val (.int (2 : Int32)), .unset, .unset, .unset, .unset, .unset, .unset] [])) t
      exact st1 t k)
  obtain ⟨cq3, kq3, qa3, qb3, qc3⟩ := isOf hZ e1 (own_E_CHANGE_AB W)
  obtain ⟨vv4, _, ⟨T4, L4, kk4, nn4⟩, -, X4, ⟨Lc4, hQ4, l4, y4, z4⟩, st4⟩ := X1.virtualBack hx (y := (⟨"com/example/isolint/isolint/bench/Change", "addedToEachValue", "(I)I"⟩ : MethodName)) (z := (⟨"com/example/isolint/isolint/bench/Change", "addedToEachValue", "(I)I"⟩ : MethodName)) hown (mvT hZ (hw _ (List.mem_of_getElem? (i := 4) rfl))) (mvT hZ (hw _ (List.mem_of_getElem? (i := 5) rfl))) (notFace_of_selects (args := #[]) (mvT hZ (hw _ (List.mem_of_getElem? (i := 7) rfl)))) (mvT hZ (hw _ (List.mem_of_getElem? (i := 7) rfl))) (mvT hZ (hw _ (List.mem_of_getElem? (i := 6) rfl))) (by decide) (backOf (W := 0) (own_add_2h l Z a0 hw [] h0 n0 Z0  p2 h1 h2 h3 ad W) hZ (hw _ (List.mem_of_getElem? (i := 8) rfl)) (hw _ (List.mem_of_getElem? (i := 2) rfl)) (by decide) (by decide)) qa3 qc3 (g := (mkF m 67 #[.val (.int p1), .val (.int p2), .val (.int p3), .val (.int (2 : Int32)), .val (.ref (ad 2)), .val (.int (2 : Int32)), .val (.int p2), .unset, .unset, .unset] [(.int p2), (.ref (ad 2))])) rfl (by rw [hml]; rfl) (Steps.refl _) (argsL := [(.int p2)]) (rest := []) (lenOf own_pd__I_I rfl) rfl (by show 2 * 0 + _ ≤ _; exact Nat.le_of_eq rfl) (hb hby at_67) (fun _ _ => ⟨rfl, e1, (by decide : 0 + 0 ≤ _), (by decide : 0 + 0 ≤ _)⟩)
  dsimp only [Pt.U, Pt.locs, Pt.cells, Pt.slots] at X4 l4 y4 z4 st4 hQ4
  subst l4 y4 z4
  obtain ⟨rfl, Nq4, e4⟩ := hQ4
  have N4 := Fr.app N0 Nq4
  have ch5 : ∀ t, Steps p.tables e below (T4.setTop (mkF m 70 #[.val (.int p1), .val (.int p2), .val (.int p3), .val (.int (2 : Int32)), .val (.ref (ad 2)), .val (.int (2 : Int32)), .val (.int p2), .unset, .unset, .unset] [(.int (-25 : Int32))])) t → Steps p.tables e below (s₁.setTop (entryFrame m #[(.int p1), (.int p2), (.int p3)] maxLocals)) t := fun t k => ch2 t (by
      show Steps p.tables e below (T1.setTop (mkF m 41 #[.val (.int p1), .val (.int p2), .val (.int p3), .val (.int (2 : Int32)), .unset, .unset, .unset, .unset, .unset, .unset] [(.ref (ad 2))])) t
      refine XS.astore X1.here hx rfl (hb hby at_41) rfl rfl (l' := #[.val (.int p1), .val (.int p2), .val (.int p3), .val (.int (2 : Int32)), .val (.ref (ad 2)), .unset, .unset, .unset, .unset, .unset]) rfl ?_
      show Steps p.tables e below (T1.setTop (mkF m 43 #[.val (.int p1), .val (.int p2), .val (.int p3), .val (.int (2 : Int32)), .val (.ref (ad 2)), .unset, .unset, .unset, .unset, .unset] [])) t
      refine XS.iconst X1.here hx rfl (hb hby at_43) ?_
      show Steps p.tables e below (T1.setTop (mkF m 44 #[.val (.int p1), .val (.int p2), .val (.int p3), .val (.int (2 : Int32)), .val (.ref (ad 2)), .unset, .unset, .unset, .unset, .unset] [(.int (2 : Int32))])) t
      refine XS.istore X1.here hx rfl (hb hby at_44) rfl (l' := #[.val (.int p1), .val (.int p2), .val (.int p3), .val (.int (2 : Int32)), .val (.ref (ad 2)), .val (.int (2 : Int32)), .unset, .unset, .unset, .unset]) rfl ?_
      show Steps p.tables e below (T1.setTop (mkF m 46 #[.val (.int p1), .val (.int p2), .val (.int p3), .val (.int (2 : Int32)), .val (.ref (ad 2)), .val (.int (2 : Int32)), .unset, .unset, .unset, .unset] [])) t
      refine XS.iloadN X1.here hx rfl (hb hby at_46) rfl ?_
      show Steps p.tables e below (T1.setTop (mkF m 47 #[.val (.int p1), .val (.int p2), .val (.int p3), .val (.int (2 : Int32)), .val (.ref (ad 2)), .val (.int (2 : Int32)), .unset, .unset, .unset, .unset] [(.int p3)])) t
      refine XS.iconst X1.here hx rfl (hb hby at_47) ?_
      show Steps p.tables e below (T1.setTop (mkF m 48 #[.val (.int p1), .val (.int p2), .val (.int p3), .val (.int (2 : Int32)), .val (.ref (ad 2)), .val (.int (2 : Int32)), .unset, .unset, .unset, .unset] [(.int (1 : Int32)), (.int p3)])) t
      refine XS.iand X1.here hx rfl (hb hby at_48) rfl ?_
      rw [hm]
      show Steps p.tables e below (T1.setTop (mkF m 49 #[.val (.int p1), .val (.int p2), .val (.int p3), .val (.int (2 : Int32)), .val (.ref (ad 2)), .val (.int (2 : Int32)), .unset, .unset, .unset, .unset] [(.int (1 : Int32))])) t
      refine XS.ifNo X1.here hx rfl (hb hby at_49) rfl ((if0 _ _).trans (feq (by decide : ¬ (1 : Int32) = (0 : Int32))).1) ?_
      show Steps p.tables e below (T1.setTop (mkF m 52 #[.val (.int p1), .val (.int p2), .val (.int p3), .val (.int (2 : Int32)), .val (.ref (ad 2)), .val (.int (2 : Int32)), .unset, .unset, .unset, .unset] [])) t
      refine XS.iloadN X1.here hx rfl (hb hby at_52) rfl ?_
      show Steps p.tables e below (T1.setTop (mkF m 53 #[.val (.int p1), .val (.int p2), .val (.int p3), .val (.int (2 : Int32)), .val (.ref (ad 2)), .val (.int (2 : Int32)), .unset, .unset, .unset, .unset] [(.int p2)])) t
      refine XS.goto X1.here hx rfl (pc0 := 53) (pc' := 61) rfl (hb hby at_53) (by decide) (by decide) ?_
      show Steps p.tables e below (T1.setTop (mkF m 61 #[.val (.int p1), .val (.int p2), .val (.int p3), .val (.int (2 : Int32)), .val (.ref (ad 2)), .val (.int (2 : Int32)), .unset, .unset, .unset, .unset] [(.int p2)])) t
      refine XS.istore X1.here hx rfl (hb hby at_61) rfl (l' := #[.val (.int p1), .val (.int p2), .val (.int p3), .val (.int (2 : Int32)), .val (.ref (ad 2)), .val (.int (2 : Int32)), .val (.int p2), .unset, .unset, .unset]) rfl ?_
      show Steps p.tables e below (T1.setTop (mkF m 63 #[.val (.int p1), .val (.int p2), .val (.int p3), .val (.int (2 : Int32)), .val (.ref (ad 2)), .val (.int (2 : Int32)), .val (.int p2), .unset, .unset, .unset] [])) t
      refine XS.aload X1.here hx rfl (hb hby at_63) rfl rfl ?_
      show Steps p.tables e below (T1.setTop (mkF m 65 #[.val (.int p1), .val (.int p2), .val (.int p3), .val (.int (2 : Int32)), .val (.ref (ad 2)), .val (.int (2 : Int32)), .val (.int p2), .unset, .unset, .unset] [(.ref (ad 2))])) t
      refine XS.iload X1.here hx rfl (hb hby at_65) rfl ?_
      show Steps p.tables e below (T1.setTop (mkF m 67 #[.val (.int p1), .val (.int p2), .val (.int p3), .val (.int (2 : Int32)), .val (.ref (ad 2)), .val (.int (2 : Int32)), .val (.int p2), .unset, .unset, .unset] [(.int p2), (.ref (ad 2))])) t
      exact st4.trans k)
  have ch6 : ∀ t, Steps p.tables e below (T4.setTop (mkF m 152 #[.val (.int p1), .val (.int p2), .val (.int p3), .val (.int (2 : Int32)), .val (.ref (ad 2)), .val (.int (2 : Int32)), .val (.int p2), .val (.int (-25 : Int32)), .val (.long ((p2.toInt64) + (-50 : Int64))), .second] [(.int (1 : Int32))])) t → Steps p.tables e below (s₁.setTop (entryFrame m #[(.int p1), (.int p2), (.int p3)] maxLocals)) t := fun t k => ch5 t (by
      show Steps p.tables e below (T4.setTop (mkF m 70 #[.val (.int p1), .val (.int p2), .val (.int p3), .val (.int (2 : Int32)), .val (.ref (ad 2)), .val (.int (2 : Int32)), .val (.int p2), .unset, .unset, .unset] [(.int (-25 : Int32))])) t
      refine XS.istore X4.here hx rfl (hb hby at_70) rfl (l' := #[.val (.int p1), .val (.int p2), .val (.int p3), .val (.int (2 : Int32)), .val (.ref (ad 2)), .val (.int (2 : Int32)), .val (.int p2), .val (.int (-25 : Int32)), .unset, .unset]) rfl ?_
      show Steps p.tables e below (T4.setTop (mkF m 72 #[.val (.int p1), .val (.int p2), .val (.int p3), .val (.int (2 : Int32)), .val (.ref (ad 2)), .val (.int (2 : Int32)), .val (.int p2), .val (.int (-25 : Int32)), .unset, .unset] [])) t
      refine XS.iload X4.here hx rfl (hb hby at_72) rfl ?_
      show Steps p.tables e below (T4.setTop (mkF m 74 #[.val (.int p1), .val (.int p2), .val (.int p3), .val (.int (2 : Int32)), .val (.ref (ad 2)), .val (.int (2 : Int32)), .val (.int p2), .val (.int (-25 : Int32)), .unset, .unset] [(.int p2)])) t
      refine XS.ifNo X4.here hx rfl (hb hby at_74) rfl ((if0 _ _).trans (flt h1).1) ?_
      show Steps p.tables e below (T4.setTop (mkF m 77 #[.val (.int p1), .val (.int p2), .val (.int p3), .val (.int (2 : Int32)), .val (.ref (ad 2)), .val (.int (2 : Int32)), .val (.int p2), .val (.int (-25 : Int32)), .unset, .unset] [])) t
      refine XS.iload X4.here hx rfl (hb hby at_77) rfl ?_
      show Steps p.tables e below (T4.setTop (mkF m 79 #[.val (.int p1), .val (.int p2), .val (.int p3), .val (.int (2 : Int32)), .val (.ref (ad 2)), .val (.int (2 : Int32)), .val (.int p2), .val (.int (-25 : Int32)), .unset, .unset] [(.int p2)])) t
      refine XS.bipush X4.here hx rfl (hb hby at_79) ?_
      show Steps p.tables e below (T4.setTop (mkF m 81 #[.val (.int p1), .val (.int p2), .val (.int p3), .val (.int (2 : Int32)), .val (.ref (ad 2)), .val (.int (2 : Int32)), .val (.int p2), .val (.int (-25 : Int32)), .unset, .unset] [(.int (99 : Int32)), (.int p2)])) t
      refine XS.icmpYes X4.here hx rfl (pc0 := 81) (pc' := 95) rfl (hb hby at_81) rfl (flt h2).2.2.2 (by decide) (by decide) ?_
      show Steps p.tables e below (T4.setTop (mkF m 95 #[.val (.int p1), .val (.int p2), .val (.int p3), .val (.int (2 : Int32)), .val (.ref (ad 2)), .val (.int (2 : Int32)), .val (.int p2), .val (.int (-25 : Int32)), .unset, .unset] [])) t
      refine XS.iload X4.here hx rfl (hb hby at_95) rfl ?_
      show Steps p.tables e below (T4.setTop (mkF m 97 #[.val (.int p1), .val (.int p2), .val (.int p3), .val (.int (2 : Int32)), .val (.ref (ad 2)), .val (.int (2 : Int32)), .val (.int p2), .val (.int (-25 : Int32)), .unset, .unset] [(.int p2)])) t
      refine XS.i2l X4.here hx rfl (hb hby at_97) rfl ?_
      show Steps p.tables e below (T4.setTop (mkF m 98 #[.val (.int p1), .val (.int p2), .val (.int p3), .val (.int (2 : Int32)), .val (.ref (ad 2)), .val (.int (2 : Int32)), .val (.int p2), .val (.int (-25 : Int32)), .unset, .unset] [(.long (p2.toInt64))])) t
      refine XS.iload X4.here hx rfl (hb hby at_98) rfl ?_
      show Steps p.tables e below (T4.setTop (mkF m 100 #[.val (.int p1), .val (.int p2), .val (.int p3), .val (.int (2 : Int32)), .val (.ref (ad 2)), .val (.int (2 : Int32)), .val (.int p2), .val (.int (-25 : Int32)), .unset, .unset] [(.int (2 : Int32)), (.long (p2.toInt64))])) t
      refine XS.i2l X4.here hx rfl (hb hby at_100) rfl ?_
      rw [show ((2 : Int32).toInt64) = (2 : Int64) from by decide]
      show Steps p.tables e below (T4.setTop (mkF m 101 #[.val (.int p1), .val (.int p2), .val (.int p3), .val (.int (2 : Int32)), .val (.ref (ad 2)), .val (.int (2 : Int32)), .val (.int p2), .val (.int (-25 : Int32)), .unset, .unset] [(.long (2 : Int64)), (.long (p2.toInt64))])) t
      refine XS.iload X4.here hx rfl (hb hby at_101) rfl ?_
      show Steps p.tables e below (T4.setTop (mkF m 103 #[.val (.int p1), .val (.int p2), .val (.int p3), .val (.int (2 : Int32)), .val (.ref (ad 2)), .val (.int (2 : Int32)), .val (.int p2), .val (.int (-25 : Int32)), .unset, .unset] [(.int (-25 : Int32)), (.long (2 : Int64)), (.long (p2.toInt64))])) t
      refine XS.i2l X4.here hx rfl (hb hby at_103) rfl ?_
      rw [show ((-25 : Int32).toInt64) = (-25 : Int64) from by decide]
      show Steps p.tables e below (T4.setTop (mkF m 104 #[.val (.int p1), .val (.int p2), .val (.int p3), .val (.int (2 : Int32)), .val (.ref (ad 2)), .val (.int (2 : Int32)), .val (.int p2), .val (.int (-25 : Int32)), .unset, .unset] [(.long (-25 : Int64)), (.long (2 : Int64)), (.long (p2.toInt64))])) t
      refine XS.lmul X4.here hx rfl (hb hby at_104) rfl ?_
      rw [show ((2 : Int64) * (-25 : Int64)) = (-50 : Int64) from by decide]
      show Steps p.tables e below (T4.setTop (mkF m 105 #[.val (.int p1), .val (.int p2), .val (.int p3), .val (.int (2 : Int32)), .val (.ref (ad 2)), .val (.int (2 : Int32)), .val (.int p2), .val (.int (-25 : Int32)), .unset, .unset] [(.long (-50 : Int64)), (.long (p2.toInt64))])) t
      refine XS.ladd X4.here hx rfl (hb hby at_105) rfl ?_
      show Steps p.tables e below (T4.setTop (mkF m 106 #[.val (.int p1), .val (.int p2), .val (.int p3), .val (.int (2 : Int32)), .val (.ref (ad 2)), .val (.int (2 : Int32)), .val (.int p2), .val (.int (-25 : Int32)), .unset, .unset] [(.long ((p2.toInt64) + (-50 : Int64)))])) t
      refine XS.lstore X4.here hx rfl (hb hby at_106) rfl (l' := #[.val (.int p1), .val (.int p2), .val (.int p3), .val (.int (2 : Int32)), .val (.ref (ad 2)), .val (.int (2 : Int32)), .val (.int p2), .val (.int (-25 : Int32)), .val (.long ((p2.toInt64) + (-50 : Int64))), .second]) rfl ?_
      show Steps p.tables e below (T4.setTop (mkF m 108 #[.val (.int p1), .val (.int p2), .val (.int p3), .val (.int (2 : Int32)), .val (.ref (ad 2)), .val (.int (2 : Int32)), .val (.int p2), .val (.int (-25 : Int32)), .val (.long ((p2.toInt64) + (-50 : Int64))), .second] [])) t
      refine XS.iload X4.here hx rfl (hb hby at_108) rfl ?_
      show Steps p.tables e below (T4.setTop (mkF m 110 #[.val (.int p1), .val (.int p2), .val (.int p3), .val (.int (2 : Int32)), .val (.ref (ad 2)), .val (.int (2 : Int32)), .val (.int p2), .val (.int (-25 : Int32)), .val (.long ((p2.toInt64) + (-50 : Int64))), .second] [(.int p2)])) t
      refine XS.bipush X4.here hx rfl (hb hby at_110) ?_
      show Steps p.tables e below (T4.setTop (mkF m 112 #[.val (.int p1), .val (.int p2), .val (.int p3), .val (.int (2 : Int32)), .val (.ref (ad 2)), .val (.int (2 : Int32)), .val (.int p2), .val (.int (-25 : Int32)), .val (.long ((p2.toInt64) + (-50 : Int64))), .second] [(.int (50 : Int32)), (.int p2)])) t
      refine XS.icmpYes X4.here hx rfl (pc0 := 112) (pc' := 134) rfl (hb hby at_112) rfl (flt h3).2.1 (by decide) (by decide) ?_
      show Steps p.tables e below (T4.setTop (mkF m 134 #[.val (.int p1), .val (.int p2), .val (.int p3), .val (.int (2 : Int32)), .val (.ref (ad 2)), .val (.int (2 : Int32)), .val (.int p2), .val (.int (-25 : Int32)), .val (.long ((p2.toInt64) + (-50 : Int64))), .second] [])) t
      refine XS.lload X4.here hx rfl (hb hby at_134) rfl ?_
      show Steps p.tables e below (T4.setTop (mkF m 136 #[.val (.int p1), .val (.int p2), .val (.int p3), .val (.int (2 : Int32)), .val (.ref (ad 2)), .val (.int (2 : Int32)), .val (.int p2), .val (.int (-25 : Int32)), .val (.long ((p2.toInt64) + (-50 : Int64))), .second] [(.long ((p2.toInt64) + (-50 : Int64)))])) t
      refine XS.iload X4.here hx rfl (hb hby at_136) rfl ?_
      show Steps p.tables e below (T4.setTop (mkF m 138 #[.val (.int p1), .val (.int p2), .val (.int p3), .val (.int (2 : Int32)), .val (.ref (ad 2)), .val (.int (2 : Int32)), .val (.int p2), .val (.int (-25 : Int32)), .val (.long ((p2.toInt64) + (-50 : Int64))), .second] [(.int p2), (.long ((p2.toInt64) + (-50 : Int64)))])) t
      refine XS.i2l X4.here hx rfl (hb hby at_138) rfl ?_
      show Steps p.tables e below (T4.setTop (mkF m 139 #[.val (.int p1), .val (.int p2), .val (.int p3), .val (.int (2 : Int32)), .val (.ref (ad 2)), .val (.int (2 : Int32)), .val (.int p2), .val (.int (-25 : Int32)), .val (.long ((p2.toInt64) + (-50 : Int64))), .second] [(.long (p2.toInt64)), (.long ((p2.toInt64) + (-50 : Int64)))])) t
      refine X4.ldc2Long hx hown (mvT hZ (hw _ (List.mem_of_getElem? (i := 13) rfl))) (g := (mkF m 139 #[.val (.int p1), .val (.int p2), .val (.int p3), .val (.int (2 : Int32)), .val (.ref (ad 2)), .val (.int (2 : Int32)), .val (.int p2), .val (.int (-25 : Int32)), .val (.long ((p2.toInt64) + (-50 : Int64))), .second] [(.long (p2.toInt64)), (.long ((p2.toInt64) + (-50 : Int64)))])) rfl (hb hby at_139) _ ?_
      show Steps p.tables e below (T4.setTop (mkF m 142 #[.val (.int p1), .val (.int p2), .val (.int p3), .val (.int (2 : Int32)), .val (.ref (ad 2)), .val (.int (2 : Int32)), .val (.int p2), .val (.int (-25 : Int32)), .val (.long ((p2.toInt64) + (-50 : Int64))), .second] [(.long (50 : Int64)), (.long (p2.toInt64)), (.long ((p2.toInt64) + (-50 : Int64)))])) t
      refine XS.lsub X4.here hx rfl (hb hby at_142) rfl ?_
      show Steps p.tables e below (T4.setTop (mkF m 143 #[.val (.int p1), .val (.int p2), .val (.int p3), .val (.int (2 : Int32)), .val (.ref (ad 2)), .val (.int (2 : Int32)), .val (.int p2), .val (.int (-25 : Int32)), .val (.long ((p2.toInt64) + (-50 : Int64))), .second] [(.long ((p2.toInt64) - (50 : Int64))), (.long ((p2.toInt64) + (-50 : Int64)))])) t
      refine XS.lcmp X4.here hx rfl (hb hby at_143) rfl ?_
      show Steps p.tables e below (T4.setTop (mkF m 144 #[.val (.int p1), .val (.int p2), .val (.int p3), .val (.int (2 : Int32)), .val (.ref (ad 2)), .val (.int (2 : Int32)), .val (.int p2), .val (.int (-25 : Int32)), .val (.long ((p2.toInt64) + (-50 : Int64))), .second] [(.int (lcmpW ((p2.toInt64) + (-50 : Int64)) ((p2.toInt64) - (50 : Int64))))])) t
      rw [own_lc1]
      show Steps p.tables e below (T4.setTop (mkF m 144 #[.val (.int p1), .val (.int p2), .val (.int p3), .val (.int (2 : Int32)), .val (.ref (ad 2)), .val (.int (2 : Int32)), .val (.int p2), .val (.int (-25 : Int32)), .val (.long ((p2.toInt64) + (-50 : Int64))), .second] [(.int (0 : Int32))])) t
      refine XS.ifNo X4.here hx rfl (hb hby at_144) rfl ((if0 _ _).trans (teq (by decide : (0 : Int32) = (0 : Int32))).2) ?_
      show Steps p.tables e below (T4.setTop (mkF m 147 #[.val (.int p1), .val (.int p2), .val (.int p3), .val (.int (2 : Int32)), .val (.ref (ad 2)), .val (.int (2 : Int32)), .val (.int p2), .val (.int (-25 : Int32)), .val (.long ((p2.toInt64) + (-50 : Int64))), .second] [])) t
      refine XS.iconst X4.here hx rfl (hb hby at_147) ?_
      show Steps p.tables e below (T4.setTop (mkF m 148 #[.val (.int p1), .val (.int p2), .val (.int p3), .val (.int (2 : Int32)), .val (.ref (ad 2)), .val (.int (2 : Int32)), .val (.int p2), .val (.int (-25 : Int32)), .val (.long ((p2.toInt64) + (-50 : Int64))), .second] [(.int (1 : Int32))])) t
      refine XS.goto X4.here hx rfl (pc0 := 148) (pc' := 152) rfl (hb hby at_148) (by decide) (by decide) ?_
      exact k)
  obtain ⟨fs, hr, hrun, hended, hW, hsame⟩ := X4.leave (v := some (.int (1 : Int32))) (fun h => by rw [Bd.returns] at h; cases h)
  refine ⟨_, _, ch6 _ ?_, hrun, hended, _, _, rfl, ?_, ⟨_, rfl⟩, hW, hsame.mono (by decide) (by decide)⟩
  · show Steps p.tables e below (T4.setTop (mkF m 152 #[.val (.int p1), .val (.int p2), .val (.int p3), .val (.int (2 : Int32)), .val (.ref (ad 2)), .val (.int (2 : Int32)), .val (.int p2), .val (.int (-25 : Int32)), .val (.long ((p2.toInt64) + (-50 : Int64))), .second] [(.int (1 : Int32))])) _
    exact retN X4 hx (t := .boolean) Bd.returns (by simp) (hb hby at_152) hr
  · show QN (some (.int (1 : Int32))) n0 _ T4.heap _
    rw [e4]
    exact ⟨rfl, N4⟩
set_option maxRecDepth 65536 in
set_option maxHeartbeats 40000000 in
theorem comes_1 {Post : Tables → Env → Array Value → State → Outcome → State → Prop} (hpost : ∀ tb e args s v u, (limb_1_1.after args s (.returned v) u = true ∧ limb_1_2.after args s (.returned v) u = true ∧ True) → FrameEnd s (.returned v) u (Jvm.fieldLocs frame_1_writes args s ++ Jvm.arrayLocs frame_1_arrays args s ++ Jvm.staticLocs frame_1_statics s) 0 0 → Post tb e args s (.returned v) u) :
    ArmFor flags0 classFile x code maxLocals ret World_1 tables_1 room_1 Calls_1 rest_1 Pre_1 Post := by
  intro l hfl _ _ p e ha hc hk s m args below hf hA hF happ hP
  obtain ⟨hcalls, hrest, hpre⟩ := hP
  obtain ⟨-, -, -, hnamed, -, -, -, hat⟩ := (Spec.applies_iff hf).mp happ
  obtain ⟨hg, hn⟩ := and_e (Cond.before_iff.mp (show (Jvm.Cond.and given_1 narrow_1).before args s = true from hpre))
  obtain ⟨gc, hg⟩ := and_e hg
  obtain ⟨w0, w1, w2, rfl⟩ : ∃ w0 w1 w2 : Value, args = #[w0, w1, w2] := by
    have hs : args.size = 3 := by simpa [Cond.value, given_1] using gc
    obtain ⟨L⟩ := args
    match L, hs with
    | [w0, w1, w2], _ => exact ⟨w0, w1, w2, rfl⟩
  have hw := fun d (hd : d ∈ tables_1) => atoms_spec (ws := Jvm.Cond.code x code maxLocals ret :: tables_1) hat d (List.mem_cons_of_mem _ hd)
  have hfit : Fit s := fun {y c} hc i hi => by
    obtain ⟨ha, rfl⟩ := Array.getElem?_eq_some_iff.mp hc
    have q := List.all_eq_true.mp ((Array.all_eq_true_iff_forall_mem.mp hF) _ (Array.getElem_mem ha)) i (List.mem_range.mpr hi)
    simpa [Array.getElem?_eq_getElem hi] using q
  obtain ⟨ga0, hg⟩ := and_e hg
  obtain ⟨i0, ei0⟩ := is_v ga0
  obtain rfl : w0 = (.int i0) := Option.some.inj ei0
  obtain ⟨ga1, hg⟩ := and_e hg
  obtain ⟨i1, ei1⟩ := is_v ga1
  obtain rfl : w1 = (.int i1) := Option.some.inj ei1
  obtain ⟨i2, ei2⟩ := is_v hg
  obtain rfl : w2 = (.int i2) := Option.some.inj ei2
  obtain ⟨hn0, hn⟩ := and_e hn
  obtain ⟨hn1, hn⟩ := and_e hn
  obtain ⟨hn2, hn⟩ := and_e hn
  obtain ⟨hn3, hn⟩ := and_e hn
  obtain ⟨hn4, hn⟩ := and_e hn
  obtain ⟨hn5, hn⟩ := and_e hn
  obtain ⟨hn6, hn⟩ := and_e hn
  obtain ⟨hn7, hn⟩ := and_e hn
  have hn8 := hn
  obtain ⟨a_CHANGE_A, ev_CHANGE_A⟩ := exa_v hn0
  have S_CHANGE_A : Sta s s.heap "com/example/isolint/isolint/bench/Change" "CHANGE_A" "Lcom/example/isolint/isolint/bench/Change;" (.ref a_CHANGE_A) := Sta.start ev_CHANGE_A (Or.inr ⟨(hw _ (List.mem_of_getElem? (i := 2) rfl)), (hw _ (List.mem_of_getElem? (i := 3) rfl))⟩)
  have E_CHANGE_A : Exa s s.heap a_CHANGE_A "com/example/isolint/isolint/bench/Change" := Exa.start ev_CHANGE_A hn0
  obtain ⟨a_CHANGE_B, ev_CHANGE_B⟩ := exa_v hn3
  have S_CHANGE_B : Sta s s.heap "com/example/isolint/isolint/bench/Change" "CHANGE_B" "Lcom/example/isolint/isolint/bench/Change;" (.ref a_CHANGE_B) := Sta.start ev_CHANGE_B (Or.inr ⟨(hw _ (List.mem_of_getElem? (i := 2) rfl)), (hw _ (List.mem_of_getElem? (i := 15) rfl))⟩)
  have E_CHANGE_B : Exa s s.heap a_CHANGE_B "com/example/isolint/isolint/bench/Change" := Exa.start ev_CHANGE_B hn3
  obtain ⟨a_CHANGE_AB, ev_CHANGE_AB⟩ := exa_v hn5
  have S_CHANGE_AB : Sta s s.heap "com/example/isolint/isolint/bench/Change" "CHANGE_AB" "Lcom/example/isolint/isolint/bench/Change;" (.ref a_CHANGE_AB) := Sta.start ev_CHANGE_AB (Or.inr ⟨(hw _ (List.mem_of_getElem? (i := 2) rfl)), (hw _ (List.mem_of_getElem? (i := 17) rfl))⟩)
  have E_CHANGE_AB : Exa s s.heap a_CHANGE_AB "com/example/isolint/isolint/bench/Change" := Exa.start ev_CHANGE_AB hn5
  have F_CHANGE_A_writesA : Fld s s.heap a_CHANGE_A "com/example/isolint/isolint/bench/Change" "writesA" "Z" (.int (1 : Int32)) := Fld.start ((fld_at ev_CHANGE_A).symm.trans (own_eqI hn1))
  have F_CHANGE_A_writesB : Fld s s.heap a_CHANGE_A "com/example/isolint/isolint/bench/Change" "writesB" "Z" (.int (0 : Int32)) := Fld.start ((fld_at ev_CHANGE_A).symm.trans (own_eqI hn2))
  have F_CHANGE_B_writesA : Fld s s.heap a_CHANGE_B "com/example/isolint/isolint/bench/Change" "writesA" "Z" (.int (0 : Int32)) := Fld.start ((fld_at ev_CHANGE_B).symm.trans (own_eqI hn4))
  have F_CHANGE_AB_writesA : Fld s s.heap a_CHANGE_AB "com/example/isolint/isolint/bench/Change" "writesA" "Z" (.int (1 : Int32)) := Fld.start ((fld_at ev_CHANGE_AB).symm.trans (own_eqI hn6))
  have F_CHANGE_AB_writesB : Fld s s.heap a_CHANGE_AB "com/example/isolint/isolint/bench/Change" "writesB" "Z" (.int (1 : Int32)) := Fld.start ((fld_at ev_CHANGE_AB).symm.trans (own_eqI hn7))
  have F_CHANGE_B_writesB : Fld s s.heap a_CHANGE_B "com/example/isolint/isolint/bench/Change" "writesB" "Z" (.int (1 : Int32)) := Fld.start ((fld_at ev_CHANGE_B).symm.trans (own_eqI hn8))
  have W : OwnWd s s.heap (fun i => [a_CHANGE_A, a_CHANGE_B, a_CHANGE_AB].getD i 0) := ⟨S_CHANGE_A, E_CHANGE_A, F_CHANGE_A_writesA, F_CHANGE_A_writesB, S_CHANGE_B, E_CHANGE_B, F_CHANGE_B_writesA, F_CHANGE_B_writesB, S_CHANGE_AB, E_CHANGE_AB, F_CHANGE_AB_writesA, F_CHANGE_AB_writesB⟩
  have hm_i0 := c_mask i0 (2147483647 : Int32) 31 (by decide) (by decide)
  have hr_i0 := (c_irem (i0 &&& (2147483647 : Int32)) (3 : Int32) 3 (by decide)).1 (by omega)
  have hcA : ((i0 &&& (2147483647 : Int32)) % (3 : Int32)).toInt = 0 ∨ ((i0 &&& (2147483647 : Int32)) % (3 : Int32)).toInt = 1 ∨ ((i0 &&& (2147483647 : Int32)) % (3 : Int32)).toInt = 2 := by omega
  have hm_i2 := c_mask i2 (1 : Int32) 1 (by decide) (by decide)
  have hcB : (i2 &&& (1 : Int32)).toInt = 0 ∨ (i2 &&& (1 : Int32)).toInt = 1 := by omega
  have H : MetFree l x (head1 (Jvm.Cond.code x code maxLocals ret :: tables_1) room_1) (fun a U => a = #[(.int i0), (.int i1), (.int i2)] ∧ s.Warmed39 U.vm ∧ U.heap = s.heap) (fun _ _ _ _ _ => True) (fun _ U o U' => ∃ v L, o = .returned v ∧ QN (some (.int (1 : Int32))) s.heap.size v U'.heap L ∧ FrameEnd U o U' L room_1.cells room_1.slots) := by
    rcases hcA with hk | hk | hk <;> rcases hcB with hm | hm
    · by_cases h1 : (i1 % (128 : Int32)) < (0 : Int32)
      · exact own_law_00n l s _ hw tables_1 s.heap s.heap.size (Nat.le_refl _)  i0 i1 i2 (Int32.toInt_inj.mp (hk.trans (by decide))) (Int32.toInt_inj.mp (hm.trans (by decide))) h1 (fun i => [a_CHANGE_A, a_CHANGE_B, a_CHANGE_AB].getD i 0) W
      · by_cases h2 : (99 : Int32) < (i1 % (128 : Int32))
        · exact own_law_00g l s _ hw tables_1 s.heap s.heap.size (Nat.le_refl _)  i0 i1 i2 (Int32.toInt_inj.mp (hk.trans (by decide))) (Int32.toInt_inj.mp (hm.trans (by decide))) h1 h2 (fun i => [a_CHANGE_A, a_CHANGE_B, a_CHANGE_AB].getD i 0) W
        · by_cases h3 : (i1 % (128 : Int32)) < (50 : Int32)
          · exact own_law_00l l s _ hw tables_1 s.heap s.heap.size (Nat.le_refl _)  i0 i1 i2 (Int32.toInt_inj.mp (hk.trans (by decide))) (Int32.toInt_inj.mp (hm.trans (by decide))) h1 h2 h3 (fun i => [a_CHANGE_A, a_CHANGE_B, a_CHANGE_AB].getD i 0) W
          · exact own_law_00h l s _ hw tables_1 s.heap s.heap.size (Nat.le_refl _)  i0 i1 i2 (Int32.toInt_inj.mp (hk.trans (by decide))) (Int32.toInt_inj.mp (hm.trans (by decide))) h1 h2 h3 (fun i => [a_CHANGE_A, a_CHANGE_B, a_CHANGE_AB].getD i 0) W
    · by_cases h1 : i1 < (0 : Int32)
      · exact own_law_01n l s _ hw tables_1 s.heap s.heap.size (Nat.le_refl _)  i0 i1 i2 (Int32.toInt_inj.mp (hk.trans (by decide))) (Int32.toInt_inj.mp (hm.trans (by decide))) h1 (fun i => [a_CHANGE_A, a_CHANGE_B, a_CHANGE_AB].getD i 0) W
      · by_cases h2 : (99 : Int32) < i1
        · exact own_law_01g l s _ hw tables_1 s.heap s.heap.size (Nat.le_refl _)  i0 i1 i2 (Int32.toInt_inj.mp (hk.trans (by decide))) (Int32.toInt_inj.mp (hm.trans (by decide))) h1 h2 (fun i => [a_CHANGE_A, a_CHANGE_B, a_CHANGE_AB].getD i 0) W
        · by_cases h3 : i1 < (50 : Int32)
          · exact own_law_01l l s _ hw tables_1 s.heap s.heap.size (Nat.le_refl _)  i0 i1 i2 (Int32.toInt_inj.mp (hk.trans (by decide))) (Int32.toInt_inj.mp (hm.trans (by decide))) h1 h2 h3 (fun i => [a_CHANGE_A, a_CHANGE_B, a_CHANGE_AB].getD i 0) W
          · exact own_law_01h l s _ hw tables_1 s.heap s.heap.size (Nat.le_refl _)  i0 i1 i2 (Int32.toInt_inj.mp (hk.trans (by decide))) (Int32.toInt_inj.mp (hm.trans (by decide))) h1 h2 h3 (fun i => [a_CHANGE_A, a_CHANGE_B, a_CHANGE_AB].getD i 0) W
    · by_cases h1 : (i1 % (128 : Int32)) < (0 : Int32)
      · exact own_law_10n l s _ hw tables_1 s.heap s.heap.size (Nat.le_refl _)  i0 i1 i2 (Int32.toInt_inj.mp (hk.trans (by decide))) (Int32.toInt_inj.mp (hm.trans (by decide))) h1 (fun i => [a_CHANGE_A, a_CHANGE_B, a_CHANGE_AB].getD i 0) W
      · by_cases h2 : (99 : Int32) < (i1 % (128 : Int32))
        · exact own_law_10g l s _ hw tables_1 s.heap s.heap.size (Nat.le_refl _)  i0 i1 i2 (Int32.toInt_inj.mp (hk.trans (by decide))) (Int32.toInt_inj.mp (hm.trans (by decide))) h1 h2 (fun i => [a_CHANGE_A, a_CHANGE_B, a_CHANGE_AB].getD i 0) W
        · by_cases h3 : (i1 % (128 : Int32)) < (50 : Int32)
          · exact own_law_10l l s _ hw tables_1 s.heap s.heap.size (Nat.le_refl _)  i0 i1 i2 (Int32.toInt_inj.mp (hk.trans (by decide))) (Int32.toInt_inj.mp (hm.trans (by decide))) h1 h2 h3 (fun i => [a_CHANGE_A, a_CHANGE_B, a_CHANGE_AB].getD i 0) W
          · exact own_law_10h l s _ hw tables_1 s.heap s.heap.size (Nat.le_refl _)  i0 i1 i2 (Int32.toInt_inj.mp (hk.trans (by decide))) (Int32.toInt_inj.mp (hm.trans (by decide))) h1 h2 h3 (fun i => [a_CHANGE_A, a_CHANGE_B, a_CHANGE_AB].getD i 0) W
    · by_cases h1 : i1 < (0 : Int32)
      · exact own_law_11n l s _ hw tables_1 s.heap s.heap.size (Nat.le_refl _)  i0 i1 i2 (Int32.toInt_inj.mp (hk.trans (by decide))) (Int32.toInt_inj.mp (hm.trans (by decide))) h1 (fun i => [a_CHANGE_A, a_CHANGE_B, a_CHANGE_AB].getD i 0) W
      · by_cases h2 : (99 : Int32) < i1
        · exact own_law_11g l s _ hw tables_1 s.heap s.heap.size (Nat.le_refl _)  i0 i1 i2 (Int32.toInt_inj.mp (hk.trans (by decide))) (Int32.toInt_inj.mp (hm.trans (by decide))) h1 h2 (fun i => [a_CHANGE_A, a_CHANGE_B, a_CHANGE_AB].getD i 0) W
        · by_cases h3 : i1 < (50 : Int32)
          · exact own_law_11l l s _ hw tables_1 s.heap s.heap.size (Nat.le_refl _)  i0 i1 i2 (Int32.toInt_inj.mp (hk.trans (by decide))) (Int32.toInt_inj.mp (hm.trans (by decide))) h1 h2 h3 (fun i => [a_CHANGE_A, a_CHANGE_B, a_CHANGE_AB].getD i 0) W
          · exact own_law_11h l s _ hw tables_1 s.heap s.heap.size (Nat.le_refl _)  i0 i1 i2 (Int32.toInt_inj.mp (hk.trans (by decide))) (Int32.toInt_inj.mp (hm.trans (by decide))) h1 h2 h3 (fun i => [a_CHANGE_A, a_CHANGE_B, a_CHANGE_AB].getD i 0) W
    · by_cases h1 : (i1 % (128 : Int32)) < (0 : Int32)
      · exact own_law_20n l s _ hw tables_1 s.heap s.heap.size (Nat.le_refl _)  i0 i1 i2 (Int32.toInt_inj.mp (hk.trans (by decide))) (Int32.toInt_inj.mp (hm.trans (by decide))) h1 (fun i => [a_CHANGE_A, a_CHANGE_B, a_CHANGE_AB].getD i 0) W
      · by_cases h2 : (99 : Int32) < (i1 % (128 : Int32))
        · exact own_law_20g l s _ hw tables_1 s.heap s.heap.size (Nat.le_refl _)  i0 i1 i2 (Int32.toInt_inj.mp (hk.trans (by decide))) (Int32.toInt_inj.mp (hm.trans (by decide))) h1 h2 (fun i => [a_CHANGE_A, a_CHANGE_B, a_CHANGE_AB].getD i 0) W
        · by_cases h3 : (i1 % (128 : Int32)) < (50 : Int32)
          · exact own_law_20l l s _ hw tables_1 s.heap s.heap.size (Nat.le_refl _)  i0 i1 i2 (Int32.toInt_inj.mp (hk.trans (by decide))) (Int32.toInt_inj.mp (hm.trans (by decide))) h1 h2 h3 (fun i => [a_CHANGE_A, a_CHANGE_B, a_CHANGE_AB].getD i 0) W
          · exact own_law_20h l s _ hw tables_1 s.heap s.heap.size (Nat.le_refl _)  i0 i1 i2 (Int32.toInt_inj.mp (hk.trans (by decide))) (Int32.toInt_inj.mp (hm.trans (by decide))) h1 h2 h3 (fun i => [a_CHANGE_A, a_CHANGE_B, a_CHANGE_AB].getD i 0) W
    · by_cases h1 : i1 < (0 : Int32)
      · exact own_law_21n l s _ hw tables_1 s.heap s.heap.size (Nat.le_refl _)  i0 i1 i2 (Int32.toInt_inj.mp (hk.trans (by decide))) (Int32.toInt_inj.mp (hm.trans (by decide))) h1 (fun i => [a_CHANGE_A, a_CHANGE_B, a_CHANGE_AB].getD i 0) W
      · by_cases h2 : (99 : Int32) < i1
        · exact own_law_21g l s _ hw tables_1 s.heap s.heap.size (Nat.le_refl _)  i0 i1 i2 (Int32.toInt_inj.mp (hk.trans (by decide))) (Int32.toInt_inj.mp (hm.trans (by decide))) h1 h2 (fun i => [a_CHANGE_A, a_CHANGE_B, a_CHANGE_AB].getD i 0) W
        · by_cases h3 : i1 < (50 : Int32)
          · exact own_law_21l l s _ hw tables_1 s.heap s.heap.size (Nat.le_refl _)  i0 i1 i2 (Int32.toInt_inj.mp (hk.trans (by decide))) (Int32.toInt_inj.mp (hm.trans (by decide))) h1 h2 h3 (fun i => [a_CHANGE_A, a_CHANGE_B, a_CHANGE_AB].getD i 0) W
          · exact own_law_21h l s _ hw tables_1 s.heap s.heap.size (Nat.le_refl _)  i0 i1 i2 (Int32.toInt_inj.mp (hk.trans (by decide))) (Int32.toInt_inj.mp (hm.trans (by decide))) h1 h2 h3 (fun i => [a_CHANGE_A, a_CHANGE_B, a_CHANGE_AB].getD i 0) W
  obtain ⟨n, o, h1, h2, h3, _, L, rfl, ⟨rfl, N⟩, hq⟩ := H p e ha hc hk s m _ below hf ((Spec.applies_iff_loose hf).mp happ).1 ⟨rfl, State.Warmed39.refl s, rfl⟩ trivial
  refine ⟨n, _, h1, h2, h3, hpost _ _ _ _ _ _ ⟨Cond.after_iff.mpr rfl, Cond.after_iff.mpr (eq_i res_at (Term.int_eval (1)) rfl), trivial⟩ ⟨hq.1, hq.2.1, (hq.2.2.sift fun y hy => Or.inr (N y hy)).mono (by decide) (by decide)⟩⟩
theorem main_1_1 : Claimed_1_1 := comes_1 fun _ _ _ _ _ _ h hF => ⟨h.1, hF⟩
theorem main_1_2 : Claimed_1_2 := comes_1 fun _ _ _ _ _ _ h hF => ⟨h.2.1, hF⟩
end Jvm.Pilot.@@N@@
namespace Jvm.Pilot.@@N@@
open Jvm Jvm.ClassFile Sem Op Lib Jvm.Free Jvm.Stand Jvm.Pilot.@@N@@.Jvm.D
/-! MADE BY PROGRAM (witnessworld.py) out of the Statement's table words and the real class files: 12 classes; the members and pool entries that the words name. The judged class is class 1, her method 1. -/
namespace start1
open Jvm.ClassFile
def u (s : String) : CpInfo := .utf8 (stringToUtf16 s)
/-- a pool by its gaps: so many unusable entries, then the entry; so many at the end -/
def gap : Nat → List CpInfo → List CpInfo
  | 0, r => r
  | n + 1, r => .unusable :: gap n r
def poolList (es : List (Nat × CpInfo)) (last : Nat) : List CpInfo := es.foldr (fun e r => gap e.1 (e.2 :: r)) (gap last [])
def pool (es : List (Nat × CpInfo)) (last : Nat) : Array CpInfo := ⟨poolList es last⟩
def fileOf (pool : Array CpInfo) (this : Nat) (attrs : Array Attribute := #[]) (ms : Array MethodInfo := #[]) (fl : Nat := 33) (sup : Nat := 0) (ifs : Array Nat := #[]) (fds : Array FieldInfo := #[]) : ClassFile where
  minorVersion := 0
  majorVersion := 65
  constantPool := pool
  accessFlags := fl
  thisClass := this
  superClass := sup
  interfaces := ifs
  fields := fds
  methods := ms
  attributes := attrs
def plain (name : String) (sup : Option ClassId) : Class where
  name := name
  kind := .ordinary
  loader := none
  accessFlags := 33
  super := sup
  interfaces := #[]
  cf := none
  fields := #[]
  methods := #[]
  instanceTypes := #[]
  staticTypes := #[]
  resolved := #[]
  callSites := []
  init := .initialized
  statics := none
  mirror := none

def pool0 : Array CpInfo := pool [(5, u "<init>"), (0, u "()V"), (1, .class_ 10), (1, u "java/lang/Object")] 113

def k0m0 : Method := { name := "<init>", desc := "()V", sig := { parameters := [], returnType := none }, accessFlags := 1, code := none }
/-- java/lang/Object -/
def k0 : Class := { plain "java/lang/Object" none with
  accessFlags := 33
  interfaces := #[]
  cf := some (fileOf pool0 8 #[] #[{ accessFlags := 1, nameIndex := 5, descriptorIndex := 6, attributes := #[] }] 33 0 #[] #[])
  fields := #[]
  methods := #[k0m0]
  instanceTypes := #[]
  staticTypes := #[]
  resolved := Array.replicate 124 none
  statics := none }

def pool1 : Array CpInfo := pool [(2, .class_ 4), (1, u "java/lang/Object"), (0, u "<init>"), (0, u "()V"), (0, .integer 2147483647), (0, .fieldref 9 10), (0, .class_ 11), (0, .nameAndType 12 13), (0, u "com/example/isolint/isolint/bench/Change"), (0, u "CHANGE_A"), (0, u "Lcom/example/isolint/isolint/bench/Change;"), (0, .fieldref 9 15), (0, .nameAndType 16 13), (0, u "CHANGE_B"), (0, .fieldref 9 18), (0, .nameAndType 19 13), (0, u "CHANGE_AB"), (0, .methodref 9 21), (0, .nameAndType 22 23), (0, u "addedToEachValue"), (0, u "(I)I"), (0, .long 50), (1, .class_ 27), (0, u "com/example/isolint/isolint/bench/ChangeAddedToEachValuePinLaw"), (2, u "law"), (0, u "(III)Z")] 3

def k1m0 : Method := { name := "<init>", desc := "()V", sig := { parameters := [], returnType := none }, accessFlags := 1, code := none }
def k1c1 : Code := { maxStack := 6, maxLocals := 10, code := code, exceptionTable := #[], attributes := #[] }
def k1m1 : Method := { name := "law", desc := "(III)Z", sig := { parameters := [.int, .int, .int], returnType := some .boolean }, accessFlags := 9, code := some k1c1 }
/-- com/example/isolint/isolint/bench/ChangeAddedToEachValuePinLaw -/
def k1 : Class := { plain "com/example/isolint/isolint/bench/ChangeAddedToEachValuePinLaw" (some 0) with
  accessFlags := 49
  interfaces := #[]
  cf := some (fileOf pool1 26 #[] #[{ accessFlags := 1, nameIndex := 5, descriptorIndex := 6, attributes := #[] }, { accessFlags := 9, nameIndex := 30, descriptorIndex := 31, attributes := #[] }] 49 2 #[] #[])
  fields := #[]
  methods := #[k1m0, k1m1]
  instanceTypes := #[]
  staticTypes := #[]
  resolved := Array.replicate 35 none
  statics := none }

def pool2 : Array CpInfo := pool [(1, .class_ 2), (0, u "java/lang/constant/Constable"), (0, .class_ 4), (0, u "java/lang/Object")] 6

/-- java/lang/constant/Constable -/
def k2 : Class := { plain "java/lang/constant/Constable" (some 0) with
  accessFlags := 1537
  interfaces := #[]
  cf := some (fileOf pool2 1 #[] #[] 1537 3 #[] #[])
  fields := #[]
  methods := #[]
  instanceTypes := #[]
  staticTypes := #[]
  resolved := Array.replicate 11 none
  statics := none }

def pool3 : Array CpInfo := pool [(1, .class_ 2), (0, u "java/lang/Comparable"), (0, .class_ 4), (0, u "java/lang/Object")] 7

/-- java/lang/Comparable -/
def k3 : Class := { plain "java/lang/Comparable" (some 0) with
  accessFlags := 1537
  interfaces := #[]
  cf := some (fileOf pool3 1 #[] #[] 1537 3 #[] #[])
  fields := #[]
  methods := #[]
  instanceTypes := #[]
  staticTypes := #[]
  resolved := Array.replicate 12 none
  statics := none }

def pool4 : Array CpInfo := pool [(1, .class_ 2), (0, u "java/io/Serializable"), (0, .class_ 4), (0, u "java/lang/Object")] 2

/-- java/io/Serializable -/
def k4 : Class := { plain "java/io/Serializable" (some 0) with
  accessFlags := 1537
  interfaces := #[]
  cf := some (fileOf pool4 1 #[] #[] 1537 3 #[] #[])
  fields := #[]
  methods := #[]
  instanceTypes := #[]
  staticTypes := #[]
  resolved := Array.replicate 7 none
  statics := none }

def pool5 : Array CpInfo := pool [(2, .class_ 4), (1, u "java/lang/Enum"), (0, u "name"), (0, u "Ljava/lang/String;"), (2, u "ordinal"), (0, u "I"), (1, .class_ 14), (1, u "java/lang/Object"), (4, u "hash"), (86, .class_ 108), (1, u "java/lang/Enum$EnumDesc"), (2, .class_ 112), (0, u "java/lang/constant/Constable"), (0, .class_ 114), (0, u "java/lang/Comparable"), (0, .class_ 116), (0, u "java/io/Serializable")] 87

/-- java/lang/Enum -/
def k5 : Class := { plain "java/lang/Enum" (some 0) with
  accessFlags := 1057
  interfaces := #[2, 3, 4]
  cf := some (fileOf pool5 2 #[.nestMembers #[106]] #[] 1057 12 #[111, 113, 115] #[{ accessFlags := 18, nameIndex := 5, descriptorIndex := 6, attributes := #[] }, { accessFlags := 18, nameIndex := 9, descriptorIndex := 10, attributes := #[] }, { accessFlags := 2, nameIndex := 19, descriptorIndex := 10, attributes := #[] }])
  fields := #[{ name := "name", type := (.object "java/lang/String"), accessFlags := 18, slot := 0, constantValue := 0 }, { name := "ordinal", type := .int, accessFlags := 18, slot := 1, constantValue := 0 }, { name := "hash", type := .int, accessFlags := 2, slot := 2, constantValue := 0 }]
  methods := #[]
  instanceTypes := #[(.object "java/lang/String"), .int, .int]
  staticTypes := #[]
  resolved := Array.replicate 204 none
  statics := none }

def pool6 : Array CpInfo := pool [(1, .class_ 2), (0, u "com/example/isolint/isolint/bench/Change"), (2, u "CHANGE_A"), (0, u "Lcom/example/isolint/isolint/bench/Change;"), (2, u "CHANGE_B"), (2, u "CHANGE_AB"), (2, u "$VALUES"), (0, u "[Lcom/example/isolint/isolint/bench/Change;"), (6, .class_ 25), (1, u "java/lang/Enum"), (8, u "method"), (0, u "Ljava/lang/String;"), (0, .fieldref 1 37), (0, .nameAndType 38 39), (0, u "writesA"), (0, u "Z"), (0, .fieldref 1 41), (0, .nameAndType 42 39), (0, u "writesB"), (16, u "LEAST_SUM"), (0, u "I"), (2, u "MOST_SUM"), (1, u "STEP"), (10, u "addedToEachValue"), (0, u "(I)I")] 6

def k6c0 : Code := { maxStack := 2, maxLocals := 3, code := prog_11_method_7_code, exceptionTable := #[], attributes := #[] }
def k6m0 : Method := { name := "addedToEachValue", desc := "(I)I", sig := { parameters := [.int], returnType := some .int }, accessFlags := 0, code := some k6c0 }
/-- com/example/isolint/isolint/bench/Change -/
def k6 : Class := { plain "com/example/isolint/isolint/bench/Change" (some 5) with
  accessFlags := 16432
  interfaces := #[]
  cf := some (fileOf pool6 1 #[] #[{ accessFlags := 0, nameIndex := 76, descriptorIndex := 77, attributes := #[] }] 16432 23 #[] #[{ accessFlags := 16409, nameIndex := 5, descriptorIndex := 6, attributes := #[] }, { accessFlags := 16409, nameIndex := 9, descriptorIndex := 6, attributes := #[] }, { accessFlags := 16409, nameIndex := 12, descriptorIndex := 6, attributes := #[] }, { accessFlags := 24, nameIndex := 59, descriptorIndex := 60, attributes := #[] }, { accessFlags := 24, nameIndex := 63, descriptorIndex := 60, attributes := #[] }, { accessFlags := 26, nameIndex := 65, descriptorIndex := 60, attributes := #[] }, { accessFlags := 18, nameIndex := 34, descriptorIndex := 35, attributes := #[] }, { accessFlags := 18, nameIndex := 38, descriptorIndex := 39, attributes := #[] }, { accessFlags := 18, nameIndex := 42, descriptorIndex := 39, attributes := #[] }, { accessFlags := 4122, nameIndex := 15, descriptorIndex := 16, attributes := #[] }])
  fields := #[{ name := "CHANGE_A", type := (.object "com/example/isolint/isolint/bench/Change"), accessFlags := 16409, slot := 0, constantValue := 0 }, { name := "CHANGE_B", type := (.object "com/example/isolint/isolint/bench/Change"), accessFlags := 16409, slot := 1, constantValue := 0 }, { name := "CHANGE_AB", type := (.object "com/example/isolint/isolint/bench/Change"), accessFlags := 16409, slot := 2, constantValue := 0 }, { name := "LEAST_SUM", type := .int, accessFlags := 24, slot := 3, constantValue := 0 }, { name := "MOST_SUM", type := .int, accessFlags := 24, slot := 4, constantValue := 0 }, { name := "STEP", type := .int, accessFlags := 26, slot := 5, constantValue := 0 }, { name := "method", type := (.object "java/lang/String"), accessFlags := 18, slot := 3, constantValue := 0 }, { name := "writesA", type := .boolean, accessFlags := 18, slot := 4, constantValue := 0 }, { name := "writesB", type := .boolean, accessFlags := 18, slot := 5, constantValue := 0 }, { name := "$VALUES", type := (.array (.object "com/example/isolint/isolint/bench/Change")), accessFlags := 4122, slot := 6, constantValue := 0 }]
  methods := #[k6m0]
  instanceTypes := #[(.object "java/lang/String"), .int, .int, (.object "java/lang/String"), .boolean, .boolean]
  staticTypes := #[(.object "com/example/isolint/isolint/bench/Change"), (.object "com/example/isolint/isolint/bench/Change"), (.object "com/example/isolint/isolint/bench/Change"), .int, .int, .int, (.array (.object "com/example/isolint/isolint/bench/Change"))]
  resolved := Array.replicate 84 none
  statics := some 0 }

def pool7 : Array CpInfo := pool [(1, u "java/lang/Cloneable"), (0, .class_ 1), (0, u "java/lang/Object"), (0, .class_ 3)] 3

/-- java/lang/Cloneable -/
def k7 : Class := { plain "java/lang/Cloneable" (some 0) with
  accessFlags := 1537
  interfaces := #[]
  cf := some (fileOf pool7 2 #[] #[] 1537 4 #[] #[])
  fields := #[]
  methods := #[]
  instanceTypes := #[]
  staticTypes := #[]
  resolved := Array.replicate 8 none
  statics := none }

/-- the primitive byte -/
def k8 : Class := { plain "byte" none with kind := .primitive 'B', accessFlags := 0x411 }
/-- [B -/
def k9 : Class := { plain "[B" (some 0) with kind := .array 8 .byte, interfaces := #[7, 4], accessFlags := 1041 }

/-- the primitive int -/
def k10 : Class := { plain "int" none with kind := .primitive 'I', accessFlags := 0x411 }
/-- [I -/
def k11 : Class := { plain "[I" (some 0) with kind := .array 10 .int, interfaces := #[7, 4], accessFlags := 1041 }

def heap : Heap := #[{ cls := 6, slots := #[.ref 1, .ref 2, .ref 3, .int 0, .int 0, .int 0, .null], vm := .statics 6 },
  { cls := 6, slots := #[.null, .int 0, .int 0, .null, .int 1, .int 0], vm := .none },
  { cls := 6, slots := #[.null, .int 0, .int 0, .null, .int 0, .int 1], vm := .none },
  { cls := 6, slots := #[.null, .int 0, .int 0, .null, .int 1, .int 1], vm := .none }]
def classes : Array Class := #[k0, k1, k2, k3, k4, k5, k6, k7, k8, k9, k10, k11]
def interned : List (Array UInt16 × Addr) := []
def slotsUsed : Nat := 25
def theMethod : MethodId := ⟨1, 1⟩
def args0 : Array Value := #[.int 1, .int 30, .int 1]
def aboutOver (below : List Frame) : State where
  vm := { classes := classes, interned := interned.toArray }
  heap := heap
  slotsUsed := slotsUsed
  threads := #[{ frames := .invoking theMethod args0 :: below }]
def below0 : List Frame := [.native { method := ⟨0, 0⟩, args := #[] }]
def about1 : State := aboutOver below0
def p0 : Program := .bare "" "" ""
def e0 : Env := launch0.env 0 0 0
theorem w_frames : about1.frames = Frame.invoking theMethod args0 :: below0 := rfl
set_option maxRecDepth 65536 in
theorem w_args : argsFit about1.vm theMethod args0 = true := by decide +kernel
set_option maxRecDepth 65536 in
theorem w_heap : heapFits about1 = true := by decide +kernel
set_option maxRecDepth 65536 in
theorem w_runnable : about1.curStatus? = some .runnable := by decide +kernel
set_option maxRecDepth 65536 in
theorem w_alone : about1.alone = true := by decide +kernel
set_option maxRecDepth 65536 in
theorem w_named : about1.methodNamed? x = some theMethod := by decide +kernel
set_option maxRecDepth 65536 in
theorem w_hears : about1.hears theMethod below0 = true := by decide +kernel
set_option maxRecDepth 65536 in
theorem w_ripe : about1.ripe theMethod args0 below0 = true := by decide +kernel
theorem w_running : about1.status = .running := rfl
set_option maxRecDepth 65536 in
theorem w_room : about1.hasRoom e0.platform room_1 = true :=
  launch0.hasRoom_least _ room_1 (by decide +kernel) (by decide +kernel) (by decide +kernel) (by decide +kernel) (by decide +kernel) (by decide +kernel)
theorem allAtoms_all (ts : List Jvm.Cond) (a : Array Jvm.Value) (st : Jvm.State) : (allAtoms ts).before a st = ts.all (fun c => c.before a st) := by
  induction ts with
  | nil => rfl
  | cons c t ih =>
    show (Jvm.Cond.and c (allAtoms t)).before a st = _
    rw [Jvm.Cond.before_and, ih, List.all_cons]
def words1 : List Jvm.Cond := Jvm.Cond.code x code maxLocals ret :: tables_1
/-- a 'code' word, met by the world's own term for the bytes: nothing is compared byte by byte -/
theorem code_word {y : MethodName} {bytes : ByteArray} {mx : Nat} {rt : Option FieldType} {a : Array Value} {s : State} {m : MethodId} {meth : Method} {c : Code} (h1 : s.methodNamed? y = some m) (h2 : s.vm.method? m = some meth) (h3 : meth.code = some c) (h4 : c.code = bytes)
    (h5 : (c.maxLocals == mx && c.exceptionTable.isEmpty && decide (c.maxStack ≤ mostOperands) && decide (meth.sig.returnType = rt) && !meth.locks && decide (parseMethodDescriptor y.desc = some meth.sig)) = true) : (Jvm.Cond.code y bytes mx rt).before a s = true := by
  simp only [Bool.and_eq_true, beq_iff_eq, Bool.not_eq_true', decide_eq_true_eq] at h5
  obtain ⟨⟨⟨⟨⟨g1, g2⟩, g3⟩, g4⟩, g5⟩, g6⟩ := h5
  simp [Cond.before, Cond.holds, Cond.value, h1, h2, h3, h4, g1, g2, g3, g4, g5, g6]
def isCode : Jvm.Cond → Bool
  | .code _ _ _ _ => true
  | _ => false
theorem all_split {L : List Jvm.Cond} {P : Jvm.Cond → Bool} (h1 : L.all (fun c => isCode c || P c) = true) (h2 : ∀ c ∈ L.filter isCode, P c = true) : L.all P = true := by
  refine List.all_eq_true.mpr fun c hc => ?_
  have h := List.all_eq_true.mp h1 c hc
  rcases Bool.eq_false_or_eq_true (isCode c) with hi | hi
  · exact h2 c (List.mem_filter.mpr ⟨hc, hi⟩)
  · simpa [hi] using h
set_option maxRecDepth 65536 in
theorem w_c0 : (Jvm.Cond.code x code maxLocals ret).before args0 about1 = true := code_word (m := ⟨1, 1⟩) (meth := k1m1) (c := k1c1) (by decide +kernel) rfl rfl rfl (by decide +kernel)
set_option maxRecDepth 65536 in
theorem w_c1 : (Jvm.Cond.code ({ cls := "com/example/isolint/isolint/bench/Change", name := "addedToEachValue", desc := "(I)I" } : Jvm.MethodName) prog_11_method_7_code (3 : Nat) (Option.some Jvm.ClassFile.FieldType.int)).before args0 about1 = true := code_word (m := ⟨6, 0⟩) (meth := k6m0) (c := k6c0) (by decide +kernel) rfl rfl rfl (by decide +kernel)
def codes1 : List Jvm.Cond := [Jvm.Cond.code x code maxLocals ret, Jvm.Cond.code ({ cls := "com/example/isolint/isolint/bench/Change", name := "addedToEachValue", desc := "(I)I" } : Jvm.MethodName) prog_11_method_7_code (3 : Nat) (Option.some Jvm.ClassFile.FieldType.int)]
set_option maxRecDepth 65536 in
theorem codes_eq : words1.filter isCode = codes1 := rfl
theorem w_codes : ∀ c ∈ words1.filter isCode, c.before args0 about1 = true := by
  rw [codes_eq]
  intro c hc
  simp only [codes1, List.mem_cons, List.not_mem_nil, or_false] at hc
  rcases hc with rfl | rfl
  · exact w_c0
  · exact w_c1
set_option maxRecDepth 65536 in
theorem w_t1 : words1.all (fun c => isCode c || c.before args0 about1) = true := by decide +kernel
theorem w_tables : (allAtoms (Jvm.Cond.code x code maxLocals ret :: tables_1)).before args0 about1 = true := by
  rw [allAtoms_all]
  show words1.all (fun c => c.before args0 about1) = true
  refine all_split ?_ w_codes
  rw [w_t1]
set_option maxRecDepth 65536 in
theorem w_case : (Jvm.Cond.and given_1 narrow_1).before args0 about1 = true := by decide +kernel
theorem w_applies : (headSpec (Jvm.Cond.code x code maxLocals ret :: tables_1) room_1).applies x e0.platform about1 = true :=
  (Spec.applies_iff w_frames).mpr ⟨w_running, w_runnable, w_alone, w_named, w_hears, w_ripe, w_room, w_tables⟩
theorem atStart : AtStart classFile x code maxLocals ret World_1 tables_1 room_1 Calls_1 rest_1 Pre_1 launch0 p0 e0 about1 theMethod args0 below0 :=
  ⟨lists_1, trivial, launch0.admits_env _ _ _, launch0.least_env, fairChoices_fair.cas, fairChoices_fair.clock, w_frames, w_args, w_heap, w_applies, trivial, trivial, w_case⟩
end start1
theorem witness_1 : WitnessClaimed_1 := ⟨start1.p0, start1.e0, start1.about1, start1.theMethod, start1.args0, start1.below0, start1.atStart⟩
end Jvm.Pilot.@@N@@
