import JvmDerived
import JvmDerived.Pilot.@@N@@Statement
import JvmDerived.Pilot.@@N@@Code
set_option linter.unusedVariables false
set_option linter.unusedSimpArgs false
namespace Jvm.RoadKit
open Sem ClassFile Op Lib Jvm.Stand Jvm.Free Jvm.LawKit
section New
variable {p : Program} {l : Launch} {e : Env} {R : Room} {s : State} {m : MethodId} {args : Array Value} {below : List Frame} {meth : Method} {c : Code} {T : State} {locs : List Loc} {cells slots : Nat}
theorem retI (X : Stand p l e R s m args below meth c T locs cells slots) (hx : p.tables.exec = Jvm.exec) {pc : Nat} {Ls : Array Slot} {z : Int32} {rest : List Value} (hret : meth.sig.returnType = some .int) (hd : decode c.code pc = .ok (.ireturn, 1)) {fs : List Frame}
    (hl : ∀ (f : JFrame) (acts : List Action), f.method = m → f.locked = none → f.entered = [] → (doReturn e (T.setTop f) acts (some (.int z))).1 = T.setFrames fs) : Steps p.tables e below (T.setTop (mkF m pc Ls (.int z :: rest))) (T.setFrames fs) := by
  have hm' : T.vm.method? m = some meth := X.method'
  have hn : narrow .int (.int z) = .int z := rfl
  show Steps p.tables e below (T.setTop { method := m, pc := pc, locals := Ls, stack := _ :: rest, locked := none }) _
  jvm_step X.here [X.here.top, hx, hd, hm', hret, hn]
  first | (intro acts; rw [hl _ acts rfl rfl rfl]) | rw [hl _ _ rfl rfl rfl]
  exact Steps.refl _
end New
end Jvm.RoadKit
/- laws to paste: Road.backV, Road.eqW, Road.codOf (cut by pick.py; bodies as the Statement names them) -/
namespace Jvm.Pilot.@@N@@
namespace StrChars
open Jvm Sem ClassFile Op Lib Jvm.Stand Jvm.Free.XT Jvm.Free.ALB Jvm.Free.JM Jvm.Free
open Jvm.Lib.Cold (StaticIs)
/-- a char array whose places are chars -/
def Ch (a : Addr) (A : Cell) (U : State) : Prop := Arr .char a A U ∧ Typed .char A
theorem Ch.mv {a : Addr} {A : Cell} {U U' : State} (h : Ch a A U) (hal : U.vm.Alike U'.vm) (hh : U'.heap = U.heap) : Ch a A U' := ⟨h.1.mv hal hh, h.2⟩
theorem Ch.keep {a : Addr} {A : Cell} {U U' : State} (h : Ch a A U) (hal : U.vm.Alike U'.vm) (hk : U'.heap[a]? = some A) : Ch a A U' := ⟨h.1.keep hal hk, h.2⟩
/-- what place i of a char[]'s cell holds -/
def cv (A : Cell) (i : Nat) : Int32 := match A.slots[i]? with | some (.int x) => x | _ => 0
theorem Ch.get {a : Addr} {A : Cell} {U : State} (h : Ch a A U) {i : Nat} (hi : i < A.slots.size) : A.slots[i]? = some (.int (cv A i)) := by
  have e := Array.getElem?_eq_getElem hi
  have f := h.2 i _ e
  unfold cv; rw [e]
  generalize A.slots[i] = v at f
  cases v <;> simp [fits] at f ⊢
/-- the byte that i2b leaves of a char -/
def lo8 (x : Int32) : Int32 := x.toInt8.toInt32
theorem fits_lo8 (y : Int32) : fits .byte (.int (lo8 y)) = true := by
  have h1 := y.toInt8.le_toInt
  have h2 := y.toInt8.toInt_lt
  simp only [lo8, fits, Bool.and_eq_true, decide_eq_true_eq, Int32.le_iff_toInt_le, Int8.toInt_toInt32, show (-128 : Int32).toInt = -128 from by decide, show (127 : Int32).toInt = 127 from by decide]
  omega
/-- A' is A but that each place j of lo .. hi - 1 holds f j -/
def Laid (A A' : Cell) (lo hi : Nat) (f : Nat → Value) : Prop := A'.cls = A.cls ∧ A'.vm = A.vm ∧ A'.slots.size = A.slots.size ∧ ∀ i, A'.slots[i]? = if lo ≤ i ∧ i < hi then some (f i) else A.slots[i]?
theorem Laid.zero (A : Cell) (lo : Nat) (f : Nat → Value) : Laid A A lo (lo + 0) f := ⟨rfl, rfl, rfl, fun i => by rw [if_neg (by omega)]⟩
theorem Laid.step {A Ak : Cell} {lo k : Nat} {f : Nat → Value} {v : Value} (h : Laid A Ak lo k f) (hlo : lo ≤ k) (hk : k < Ak.slots.size) (hv : v = f k) : Laid A (Ak.setSlot k v) lo (k + 1) f := by
  refine ⟨h.1, h.2.1, by simpa [Cell.setSlot] using h.2.2.1, fun i => ?_⟩
  by_cases e : k = i
  · subst e; rw [Cell.slots_setSlot_self v hk, if_pos (by omega), hv]
  · rw [Cell.slots_setSlot_ne v e, h.2.2.2 i]
    by_cases q : lo ≤ i ∧ i < k
    · rw [if_pos q, if_pos (by omega)]
    · rw [if_neg q, if_neg (by omega)]
def U16 : String := "java/lang/StringUTF16"
namespace Cmp5
def yN : MethodName := ⟨"java/lang/StringUTF16", "compress", "([CI[BII)I"⟩
abbrev yB : ByteArray := jdk_52_method_21_code
theorem d0 : decode yB 0 = .ok (.iconst 0, 1) := by decide +kernel
theorem d1 : decode yB 1 = .ok (.istore 5, 2) := by decide +kernel
theorem d3 : decode yB 3 = .ok (.iload 5, 2) := by decide +kernel
theorem d5 : decode yB 5 = .ok (.iload 4, 2) := by decide +kernel
theorem d7 : decode yB 7 = .ok (.if_icmp (.ge) 37, 3) := by decide +kernel
theorem d10 : decode yB 10 = .ok (.aload_n 0, 1) := by decide +kernel
theorem d11 : decode yB 11 = .ok (.iload_n 1, 1) := by decide +kernel
theorem d12 : decode yB 12 = .ok (.caload, 1) := by decide +kernel
theorem d13 : decode yB 13 = .ok (.istore 6, 2) := by decide +kernel
theorem d15 : decode yB 15 = .ok (.iload 6, 2) := by decide +kernel
theorem d17 : decode yB 17 = .ok (.sipush 255, 3) := by decide +kernel
theorem d20 : decode yB 20 = .ok (.if_icmp (.le) 6, 3) := by decide +kernel
theorem d26 : decode yB 26 = .ok (.aload_n 2, 1) := by decide +kernel
theorem d27 : decode yB 27 = .ok (.iload_n 3, 1) := by decide +kernel
theorem d28 : decode yB 28 = .ok (.iload 6, 2) := by decide +kernel
theorem d30 : decode yB 30 = .ok (.i2b, 1) := by decide +kernel
theorem d31 : decode yB 31 = .ok (.bastore, 1) := by decide +kernel
theorem d32 : decode yB 32 = .ok (.iinc 1 1, 3) := by decide +kernel
theorem d35 : decode yB 35 = .ok (.iinc 3 1, 3) := by decide +kernel
theorem d38 : decode yB 38 = .ok (.iinc 5 1, 3) := by decide +kernel
theorem d41 : decode yB 41 = .ok (.goto (-38), 3) := by decide +kernel
theorem d44 : decode yB 44 = .ok (.iload 4, 2) := by decide +kernel
theorem d46 : decode yB 46 = .ok (.ireturn, 1) := by decide +kernel
def site : List Cond := []
def tab : Cond := tabOf yN yB 7 (some .int) site
def P (b : Addr) (A : Cell) (d : Addr) (B : Cell) (o q len : Nat) (args : Array Value) (s : State) : Prop := args = #[.ref b, .int (Int32.ofNat o), .ref d, .int (Int32.ofNat q), .int (Int32.ofNat len)] ∧ Ch b A s ∧ Arr .byte d B s ∧ b ≠ d ∧ o + len ≤ A.slots.size ∧ q + len ≤ B.slots.size ∧ ∀ i, i < len → ¬ 255 < cv A (o + i)
def E (b : Addr) (A : Cell) (d : Addr) (B : Cell) (o q len : Nat) (r : Option Value) (s u : State) : Prop := r = some (.int (Int32.ofNat len)) ∧ ∃ B', Put d B' s u ∧ Laid B B' q (q + len) (fun j => Value.int (lo8 (cv A (o + (j - q)))))
/-- no char of the range above 255: len; the places written hold each char's low byte -/
theorem law (l : Launch) (b : Addr) (A : Cell) (d : Addr) (B : Cell) (o q len : Nat) : Law l yN 5 5 0 0 yB 7 (some .int) site (P b A d B o q len) (E b A d B o q len) (copyLocs d q len) 0 0 := by
  refine Law.of_walk (plainFor_of_name (by decide +kernel)) (by decide +kernel) (by decide +kernel) (by decide) (fun _ _ h => by rw [h.1]; rfl) (fun _ U U' hal hh h => ⟨h.1, h.2.1.mv hal hh, h.2.2.1.mv hal hh, h.2.2.2⟩) (fun r U U' V V' h1 hal h2 h => ⟨h.1, h.2.elim fun B' q => ⟨B', q.1.mv h1 h2, q.2⟩⟩) ?_
  intro p e s m args below meth c s₁ X0 hexec hbytes hml hret hlk hnm hown hh0 W hP
  obtain ⟨rfl, hA, hB, hne, l1, l2, hp⟩ := hP
  have c1 : Steps p.tables e below (s₁.setTop (entryFrame m #[.ref b, .int (Int32.ofNat o), .ref d, .int (Int32.ofNat q), .int (Int32.ofNat len)] 7)) (s₁.setTop (mkF m 0 #[.val (.ref b), .val (.int (Int32.ofNat o)), .val (.ref d), .val (.int (Int32.ofNat q)), .val (.int (Int32.ofNat len)), .unset, .unset] [])) := entry rfl
  have hA0 := hA.1.mv X0.warmed.alike hh0
  have hB0 := hB.mv X0.warmed.alike hh0
  have a31 := hA.1.2.2.2
  have c2 : Steps p.tables e below (s₁.setTop (entryFrame m #[.ref b, .int (Int32.ofNat o), .ref d, .int (Int32.ofNat q), .int (Int32.ofNat len)] 7)) (s₁.setTop (mkF m 3 #[.val (.ref b), .val (.int (Int32.ofNat o)), .val (.ref d), .val (.int (Int32.ofNat q)), .val (.int (Int32.ofNat len)), .val (.int 0), .unset] [])) := c1.trans (by
    refine iconstV X0.here hexec rfl 0 (hb hbytes d0) (by decide) ?_
    refine XS.istore X0.here hexec rfl (hb hbytes d1) rfl rfl ?_
    exact Steps.refl _)
  have loop : ∀ (r i : Nat), i + r = len → ∀ (z : Slot), (z = .unset ∨ ∃ w, z = .val w ∧ w.category = 1) → ∀ (Tl : State) (Bk : Cell), Stand p l e { frames := 0, locals := 0, cells := 0, slots := 0 } s m #[.ref b, .int (Int32.ofNat o), .ref d, .int (Int32.ofNat q), .int (Int32.ofNat len)] below meth c Tl ([] ++ copyLocs d q i) 0 0 → Put d Bk s₁ Tl → Laid B Bk q (q + i) (fun j => Value.int (lo8 (cv A (o + (j - q))))) →
      Steps p.tables e below (s₁.setTop (entryFrame m #[.ref b, .int (Int32.ofNat o), .ref d, .int (Int32.ofNat q), .int (Int32.ofNat len)] 7)) (Tl.setTop (mkF m 3 #[.val (.ref b), .val (.int (Int32.ofNat (o + i))), .val (.ref d), .val (.int (Int32.ofNat (q + i))), .val (.int (Int32.ofNat len)), .val (.int (Int32.ofNat i)), z] [])) → ∃ (T' : State) (B' : Cell) (z' : Slot), Stand p l e { frames := 0, locals := 0, cells := 0, slots := 0 } s m #[.ref b, .int (Int32.ofNat o), .ref d, .int (Int32.ofNat q), .int (Int32.ofNat len)] below meth c T' ([] ++ copyLocs d q len) 0 0 ∧ Put d B' s₁ T' ∧ Laid B B' q (q + len) (fun j => Value.int (lo8 (cv A (o + (j - q))))) ∧
      Steps p.tables e below (s₁.setTop (entryFrame m #[.ref b, .int (Int32.ofNat o), .ref d, .int (Int32.ofNat q), .int (Int32.ofNat len)] 7)) (T'.setTop (mkF m 3 #[.val (.ref b), .val (.int (Int32.ofNat (o + len))), .val (.ref d), .val (.int (Int32.ofNat (q + len))), .val (.int (Int32.ofNat len)), .val (.int (Int32.ofNat len)), z'] [])) := by
    intro r
    induction r with
    | zero =>
      intro i hi z hz Tl Bk Xl pl fl cl
      have hil : i = len := by omega
      rw [hil] at Xl fl cl
      exact ⟨Tl, Bk, z, Xl, pl, fl, cl⟩
    | succ r ih =>
      intro i hi z hz Tl Bk Xl pl fl cl
      have all := X0.warmed.alike.symm.trans Xl.warmed.alike
      have hAl := hA0.keep all (pl.other hne hA0.1)
      have hBk := hB0.like all pl.1 fl.1 fl.2.1 fl.2.2.1
      have hlt : q + i < Bk.slots.size := by rw [fl.2.2.1]; omega
      have c3 : Steps p.tables e below (s₁.setTop (entryFrame m #[.ref b, .int (Int32.ofNat o), .ref d, .int (Int32.ofNat q), .int (Int32.ofNat len)] 7)) (Tl.setTop (mkF m 12 #[.val (.ref b), .val (.int (Int32.ofNat (o + i))), .val (.ref d), .val (.int (Int32.ofNat (q + i))), .val (.int (Int32.ofNat len)), .val (.int (Int32.ofNat i)), z] [.int (Int32.ofNat (o + i)), .ref b])) := cl.trans (by
        refine XS.iload Xl.here hexec rfl (hb hbytes d3) rfl ?_
        refine XS.iload Xl.here hexec rfl (hb hbytes d5) rfl ?_
        refine XS.icmpNo Xl.here hexec rfl (hb hbytes d7) rfl (ii_ge_f (lt32 (by omega) (by omega))) ?_
        refine XS.aloadN Xl.here hexec rfl (hb hbytes d10) rfl rfl ?_
        refine XS.iloadN Xl.here hexec rfl (hb hbytes d11) rfl ?_
        exact Steps.refl _)
      have c4 : Steps p.tables e below (s₁.setTop (entryFrame m #[.ref b, .int (Int32.ofNat o), .ref d, .int (Int32.ofNat q), .int (Int32.ofNat len)] 7)) (Tl.setTop (mkF m 13 #[.val (.ref b), .val (.int (Int32.ofNat (o + i))), .val (.ref d), .val (.int (Int32.ofNat (q + i))), .val (.int (Int32.ofNat len)), .val (.int (Int32.ofNat i)), z] [.int (cv A (o + i))])) := c3.trans (by
        refine Xl.aget hexec hAl rfl (hA.get (i := o + i) (by omega)) rfl rfl (hb hbytes d12) ?_
        exact Steps.refl _)
      have c5 : Steps p.tables e below (s₁.setTop (entryFrame m #[.ref b, .int (Int32.ofNat o), .ref d, .int (Int32.ofNat q), .int (Int32.ofNat len)] 7)) (Tl.setTop (mkF m 15 #[.val (.ref b), .val (.int (Int32.ofNat (o + i))), .val (.ref d), .val (.int (Int32.ofNat (q + i))), .val (.int (Int32.ofNat len)), .val (.int (Int32.ofNat i)), .val (.int (cv A (o + i)))] [])) := c4.trans (by
        refine XS.istoreS Xl.here hexec rfl (hb hbytes d13) rfl rfl hz ?_
        exact Steps.refl _)
      have c6 : Steps p.tables e below (s₁.setTop (entryFrame m #[.ref b, .int (Int32.ofNat o), .ref d, .int (Int32.ofNat q), .int (Int32.ofNat len)] 7)) (Tl.setTop (mkF m 31 #[.val (.ref b), .val (.int (Int32.ofNat (o + i))), .val (.ref d), .val (.int (Int32.ofNat (q + i))), .val (.int (Int32.ofNat len)), .val (.int (Int32.ofNat i)), .val (.int (cv A (o + i)))] [.int (lo8 (cv A (o + i))), .int (Int32.ofNat (q + i)), .ref d])) := c5.trans (by
        refine XS.iload Xl.here hexec rfl (hb hbytes d15) rfl ?_
        refine sipushV Xl.here hexec rfl 255 (hb hbytes d17) (by decide) ?_
        refine XS.icmpYes Xl.here hexec rfl (pc0 := 20) rfl (hb hbytes d20) rfl (ii_le_t (hp i (by omega))) (by decide) rfl ?_
        refine XS.aloadN Xl.here hexec rfl (hb hbytes d26) rfl rfl ?_
        refine XS.iloadN Xl.here hexec rfl (hb hbytes d27) rfl ?_
        refine XS.iload Xl.here hexec rfl (hb hbytes d28) rfl ?_
        refine i2b Xl.here hexec rfl (hb hbytes d30) rfl ?_
        exact Steps.refl _)
      obtain ⟨T7, X7, p7, st7⟩ := Xl.aput hexec hBk rfl hlt rfl (fits_lo8 (cv A (o + i))) (g := (mkF m 31 #[.val (.ref b), .val (.int (Int32.ofNat (o + i))), .val (.ref d), .val (.int (Int32.ofNat (q + i))), .val (.int (Int32.ofNat len)), .val (.int (Int32.ofNat i)), .val (.int (cv A (o + i)))] [.int (lo8 (cv A (o + i))), .int (Int32.ofNat (q + i)), .ref d])) rfl (rest := []) rfl (hb hbytes d31)
      have c8 : Steps p.tables e below (s₁.setTop (entryFrame m #[.ref b, .int (Int32.ofNat o), .ref d, .int (Int32.ofNat q), .int (Int32.ofNat len)] 7)) (T7.setTop (mkF m 32 #[.val (.ref b), .val (.int (Int32.ofNat (o + i))), .val (.ref d), .val (.int (Int32.ofNat (q + i))), .val (.int (Int32.ofNat len)), .val (.int (Int32.ofNat i)), .val (.int (cv A (o + i)))] [])) := c6.trans (st7 _ (Steps.refl _))
      have c9 : Steps p.tables e below (s₁.setTop (entryFrame m #[.ref b, .int (Int32.ofNat o), .ref d, .int (Int32.ofNat q), .int (Int32.ofNat len)] 7)) (T7.setTop (mkF m 3 #[.val (.ref b), .val (.int (Int32.ofNat (o + i) + 1)), .val (.ref d), .val (.int (Int32.ofNat (q + i) + 1)), .val (.int (Int32.ofNat len)), .val (.int (Int32.ofNat i + 1)), .val (.int (cv A (o + i)))] [])) := c8.trans (by
        refine iincV X7.here hexec rfl 1 (hb hbytes d32) (by decide) rfl rfl ?_
        refine iincV X7.here hexec rfl 1 (hb hbytes d35) (by decide) rfl rfl ?_
        refine iincV X7.here hexec rfl 1 (hb hbytes d38) (by decide) rfl rfl ?_
        refine XS.goto X7.here hexec rfl (pc0 := 41) rfl (hb hbytes d41) (by decide) rfl ?_
        exact Steps.refl _)
      have c10 : Steps p.tables e below (s₁.setTop (entryFrame m #[.ref b, .int (Int32.ofNat o), .ref d, .int (Int32.ofNat q), .int (Int32.ofNat len)] 7)) (T7.setTop (mkF m 3 #[.val (.ref b), .val (.int (Int32.ofNat (o + (i + 1)))), .val (.ref d), .val (.int (Int32.ofNat (q + (i + 1)))), .val (.int (Int32.ofNat len)), .val (.int (Int32.ofNat (i + 1))), .val (.int (cv A (o + i)))] [])) := by
        have := c9
        rw [succ32, succ32, succ32] at this
        exact this
      exact ih (i + 1) (by omega) _ (Or.inr ⟨_, rfl, rfl⟩) T7 _ (by rw [copyLocs_step, ← List.append_assoc]; exact X7) (pl.trans p7) (fl.step (by omega) hlt (by simp)) c10
  obtain ⟨T9, B9, z9, X9, p9, f9, g9⟩ := loop len 0 (by omega) .unset (Or.inl rfl) s₁ B (by simpa [copyLocs] using X0) ⟨hB0.1, fun _ _ => rfl, rfl⟩ (Laid.zero _ _ _) c2
  have c11 : Steps p.tables e below (s₁.setTop (entryFrame m #[.ref b, .int (Int32.ofNat o), .ref d, .int (Int32.ofNat q), .int (Int32.ofNat len)] 7)) (T9.setTop (mkF m 46 #[.val (.ref b), .val (.int (Int32.ofNat (o + len))), .val (.ref d), .val (.int (Int32.ofNat (q + len))), .val (.int (Int32.ofNat len)), .val (.int (Int32.ofNat len)), z9] [.int (Int32.ofNat len)])) := g9.trans (by
    refine XS.iload X9.here hexec rfl (hb hbytes d3) rfl ?_
    refine XS.iload X9.here hexec rfl (hb hbytes d5) rfl ?_
    refine XS.icmpYes X9.here hexec rfl (pc0 := 7) rfl (hb hbytes d7) rfl (ii_ge_t (nlt32 (by omega) (Nat.le_refl _))) (by decide) rfl ?_
    refine XS.iload X9.here hexec rfl (hb hbytes d44) rfl ?_
    exact Steps.refl _)
  exact ⟨T9, some (.int (Int32.ofNat len)), _, _, _, X9, by simp, rfl, rfl, (fun h => by cases h), ⟨rfl, B9, p9.from hh0, f9⟩, fun fs hl => c11.trans (X9.ireturnOut hexec hret rfl (Or.inl rfl) (hb hbytes d46) hl)⟩
end Cmp5
namespace Cmp3
def yN : MethodName := ⟨"java/lang/StringUTF16", "compress", "([CII)[B"⟩
abbrev yB : ByteArray := jdk_52_method_16_code
theorem d0 : decode yB 0 = .ok (.iload_n 2, 1) := by decide +kernel
theorem d1 : decode yB 1 = .ok (.newarray .byte, 2) := by decide +kernel
theorem d3 : decode yB 3 = .ok (.astore_n 3, 1) := by decide +kernel
theorem d4 : decode yB 4 = .ok (.aload_n 0, 1) := by decide +kernel
theorem d5 : decode yB 5 = .ok (.iload_n 1, 1) := by decide +kernel
theorem d6 : decode yB 6 = .ok (.aload_n 3, 1) := by decide +kernel
theorem d7 : decode yB 7 = .ok (.iconst 0, 1) := by decide +kernel
theorem d8 : decode yB 8 = .ok (.iload_n 2, 1) := by decide +kernel
theorem d9 : decode yB 9 = .ok (.invokestatic 115, 3) := by decide +kernel
theorem d12 : decode yB 12 = .ok (.istore 4, 2) := by decide +kernel
theorem d14 : decode yB 14 = .ok (.iload 4, 2) := by decide +kernel
theorem d16 : decode yB 16 = .ok (.iload_n 2, 1) := by decide +kernel
theorem d17 : decode yB 17 = .ok (.if_icmp (.eq) 40, 3) := by decide +kernel
theorem d57 : decode yB 57 = .ok (.aload_n 3, 1) := by decide +kernel
theorem d58 : decode yB 58 = .ok (.areturn, 1) := by decide +kernel
def site : List Cond := [.arrayClass .byte, Cmp5.tab] ++ staticW U16 115 Cmp5.yN
def tab : Cond := tabOf yN yB 6 (some (.array .byte)) site
def P (b : Addr) (A : Cell) (o len : Nat) (args : Array Value) (s : State) : Prop := args = #[.ref b, .int (Int32.ofNat o), .int (Int32.ofNat len)] ∧ Ch b A s ∧ o + len ≤ A.slots.size ∧ len ≤ 536870912 ∧ ∀ i, i < len → ¬ 255 < cv A (o + i)
def E (b : Addr) (A : Cell) (o len : Nat) (r : Option Value) (s u : State) : Prop := NewArr .byte "[B" len (fun j => .int (lo8 (cv A (o + j)))) r s u ∧ u.heap.size = s.heap.size + 1
/-- no char of the range above 255: a new byte[] of their low bytes -/
theorem law (l : Launch) (b : Addr) (A : Cell) (o len : Nat) : Law l yN 3 3 1 18 yB 6 (some (.array .byte)) site (P b A o len) (E b A o len) [] 1 len := by
  refine Law.of_walk (plainFor_of_name (by decide +kernel)) (by decide +kernel) (by decide +kernel) (by decide) (fun _ _ h => by rw [h.1]; rfl) (fun _ U U' hal hh h => ⟨h.1, h.2.1.mv hal hh, h.2.2⟩) (fun r U U' V V' h1 hal h2 h => ⟨NewArr.mv r U U' V V' h1 hal h2 h.1, by rw [h1, h2]; exact h.2⟩) ?_
  intro p e s m args below meth c s₁ X0 hexec hbytes hml hret hlk hnm hown hh0 W hP
  obtain ⟨rfl, hA, l1, l2, hp⟩ := hP
  have a31 := hA.1.2.2.2
  have c1 : Steps p.tables e below (s₁.setTop (entryFrame m #[.ref b, .int (Int32.ofNat o), .int (Int32.ofNat len)] 6)) (s₁.setTop (mkF m 0 #[.val (.ref b), .val (.int (Int32.ofNat o)), .val (.int (Int32.ofNat len)), .unset, .unset, .unset] [])) := entry rfl
  have c2 : Steps p.tables e below (s₁.setTop (entryFrame m #[.ref b, .int (Int32.ofNat o), .int (Int32.ofNat len)] 6)) (s₁.setTop (mkF m 1 #[.val (.ref b), .val (.int (Int32.ofNat o)), .val (.int (Int32.ofNat len)), .unset, .unset, .unset] [.int (Int32.ofNat len)])) := c1.trans (by
    refine XS.iloadN X0.here hexec rfl (hb hbytes d0) rfl ?_
    exact Steps.refl _)
  obtain ⟨T3, B3, X3, ba3, bs3, bv3, bh3, bf3, st3⟩ := X0.anew hexec (atype := .byte) (wk W (.arrayClass .byte)) rfl (by show len * 1 ≤ _; omega) (by omega) (g := (mkF m 1 #[.val (.ref b), .val (.int (Int32.ofNat o)), .val (.int (Int32.ofNat len)), .unset, .unset, .unset] [.int (Int32.ofNat len)])) rfl (hb hbytes d1) (rest := []) rfl (Nat.le_refl _) (by show 0 + len ≤ len; omega)
  rw [hh0] at ba3 st3
  have kp3 : XT.Kept s T3 := (XT.Kept.of_eq hh0).push bh3
  have hA3 := hA.keep X3.warmed.alike (kp3 _ _ hA.1.1)
  have hne : b ≠ s.heap.size := hA.1.ne
  have c4 : Steps p.tables e below (s₁.setTop (entryFrame m #[.ref b, .int (Int32.ofNat o), .int (Int32.ofNat len)] 6)) (T3.setTop (mkF m 3 #[.val (.ref b), .val (.int (Int32.ofNat o)), .val (.int (Int32.ofNat len)), .unset, .unset, .unset] [.ref s.heap.size])) := c2.trans (st3 _ (Steps.refl _))
  have c5 : Steps p.tables e below (s₁.setTop (entryFrame m #[.ref b, .int (Int32.ofNat o), .int (Int32.ofNat len)] 6)) (T3.setTop (mkF m 9 #[.val (.ref b), .val (.int (Int32.ofNat o)), .val (.int (Int32.ofNat len)), .val (.ref s.heap.size), .unset, .unset] [.int (Int32.ofNat len), .int 0, .ref s.heap.size, .int (Int32.ofNat o), .ref b])) := c4.trans (by
    refine XS.astoreN X3.here hexec rfl (hb hbytes d3) rfl rfl rfl ?_
    refine XS.aloadN X3.here hexec rfl (hb hbytes d4) rfl rfl ?_
    refine XS.iloadN X3.here hexec rfl (hb hbytes d5) rfl ?_
    refine XS.aloadN X3.here hexec rfl (hb hbytes d6) rfl rfl ?_
    refine iconstV X3.here hexec rfl 0 (hb hbytes d7) (by decide) ?_
    refine XS.iloadN X3.here hexec rfl (hb hbytes d8) rfl ?_
    exact Steps.refl _)
  obtain ⟨v6, T6, X6, E6, g6⟩ := X3.callS hexec (Cmp5.law l b A s.heap.size B3 o 0 len) hown (wks W (staticW U16 115 Cmp5.yN)) (wk W Cmp5.tab) (W := 0) (Nat.le_of_ble_eq_true rfl) (Nat.le_of_ble_eq_true rfl) (Nat.le_refl _) (by show 0 + len + 0 ≤ len; omega) (g := (mkF m 9 #[.val (.ref b), .val (.int (Int32.ofNat o)), .val (.int (Int32.ofNat len)), .val (.ref s.heap.size), .unset, .unset] [.int (Int32.ofNat len), .int (Int32.ofNat 0), .ref s.heap.size, .int (Int32.ofNat o), .ref b])) rfl (by rw [hml]; rfl) c5 (argsL := [.ref b, .int (Int32.ofNat o), .ref s.heap.size, .int (Int32.ofNat 0), .int (Int32.ofNat len)]) (rest := []) rfl rfl (by show 2 * 0 + 0 ≤ _; decide) (hb hbytes d9) (⟨rfl, hA3, ba3, hne, l1, by rw [bs3]; simp, hp⟩)
  obtain ⟨rfl, B6, p6, f6⟩ := E6
  have c7 : Steps p.tables e below (s₁.setTop (entryFrame m #[.ref b, .int (Int32.ofNat o), .int (Int32.ofNat len)] 6)) (T6.setTop (mkF m 12 #[.val (.ref b), .val (.int (Int32.ofNat o)), .val (.int (Int32.ofNat len)), .val (.ref s.heap.size), .unset, .unset] [.int (Int32.ofNat len)])) := g6
  have c8 : Steps p.tables e below (s₁.setTop (entryFrame m #[.ref b, .int (Int32.ofNat o), .int (Int32.ofNat len)] 6)) (T6.setTop (mkF m 58 #[.val (.ref b), .val (.int (Int32.ofNat o)), .val (.int (Int32.ofNat len)), .val (.ref s.heap.size), .val (.int (Int32.ofNat len)), .unset] [.ref s.heap.size])) := c7.trans (by
    refine XS.istore X6.here hexec rfl (hb hbytes d12) rfl rfl ?_
    refine XS.iload X6.here hexec rfl (hb hbytes d14) rfl ?_
    refine XS.iloadN X6.here hexec rfl (hb hbytes d16) rfl ?_
    refine XS.icmpYes X6.here hexec rfl (pc0 := 17) rfl (hb hbytes d17) rfl (ii_eq_t rfl) (by decide) rfl ?_
    refine XS.aloadN X6.here hexec rfl (hb hbytes d57) rfl rfl ?_
    exact Steps.refl _)
  have X8 := X6.wide (L' := []) (cells' := 1) (slots' := len) (fun x hx hlt => by
    simp only [List.nil_append, copyLocs, List.mem_map, List.mem_range] at hx
    obtain ⟨i, -, rfl⟩ := hx
    exact absurd hlt (Nat.lt_irrefl _)) (Nat.le_refl _) (by omega)
  exact ⟨T6, some (.ref s.heap.size), _, _, _, X8, rfl, rfl, rfl, (fun h => by cases h), ⟨⟨rfl, B6, ba3.like (X3.warmed.alike.symm.trans X6.warmed.alike) p6.1 f6.1 f6.2.1 f6.2.2.1, f6.2.1.trans bv3, by rw [X6.warmed.alike.findClass, f6.1]; exact bf3, by rw [f6.2.2.1, bs3]; simp, fun j hj => by rw [f6.2.2.2 j, if_pos (by omega)]; rfl, kp3.put p6 (Nat.le_refl _)⟩, by rw [p6.2.2, bh3, hh0]; simp⟩, fun fs hl => c8.trans (X8.areturnOut hexec rfl hret rfl (hb hbytes d58) hl)⟩
end Cmp3
namespace CodL
def yN : MethodName := ⟨"java/lang/StringUTF16", "coderFromArrayLen", "([BI)B"⟩
abbrev yB : ByteArray := jdk_52_method_15_code
theorem d0 : decode yB 0 = .ok (.iload_n 1, 1) := by decide +kernel
theorem d1 : decode yB 1 = .ok (.aload_n 0, 1) := by decide +kernel
theorem d2 : decode yB 2 = .ok (.arraylength, 1) := by decide +kernel
theorem d3 : decode yB 3 = .ok (.isub, 1) := by decide +kernel
theorem d4 : decode yB 4 = .ok (.bipush 31, 2) := by decide +kernel
theorem d6 : decode yB 6 = .ok (.iushr, 1) := by decide +kernel
theorem d7 : decode yB 7 = .ok (.i2b, 1) := by decide +kernel
theorem d8 : decode yB 8 = .ok (.ireturn, 1) := by decide +kernel
def site : List Cond := []
def tab : Cond := tabOf yN yB 2 (some .byte) site
def P (d : Addr) (B : Cell) (args : Array Value) (s : State) : Prop := args = #[.ref d, .int (Int32.ofNat B.slots.size)] ∧ Arr .byte d B s
def E (r : Option Value) (s u : State) : Prop := XT.PureE (some (.int 0)) r s u
/-- an array as long as the number of chars: LATIN1 -/
theorem law (l : Launch) (d : Addr) (B : Cell) : Law l yN 2 2 0 0 yB 2 (some .byte) site (P d B) E [] 0 0 := by
  refine Law.of_walk (plainFor_of_name (by decide +kernel)) (by decide +kernel) (by decide +kernel) (by decide) (fun _ _ h => by rw [h.1]; rfl) (fun _ U U' hal hh h => ⟨h.1, h.2.mv hal hh⟩) (fun r U U' V V' h1 hal h2 h => XT.PureE.mv r U U' V V' h1 hal h2 h) ?_
  intro p e s m args below meth c s₁ X0 hexec hbytes hml hret hlk hnm hown hh0 W hP
  obtain ⟨rfl, hB⟩ := hP
  have hB0 := hB.mv X0.warmed.alike hh0
  have c1 : Steps p.tables e below (s₁.setTop (entryFrame m #[.ref d, .int (Int32.ofNat B.slots.size)] 2)) (s₁.setTop (mkF m 0 #[.val (.ref d), .val (.int (Int32.ofNat B.slots.size))] [])) := entry rfl
  have c2 : Steps p.tables e below (s₁.setTop (entryFrame m #[.ref d, .int (Int32.ofNat B.slots.size)] 2)) (s₁.setTop (mkF m 2 #[.val (.ref d), .val (.int (Int32.ofNat B.slots.size))] [.ref d, .int (Int32.ofNat B.slots.size)])) := c1.trans (by
    refine XS.iloadN X0.here hexec rfl (hb hbytes d0) rfl ?_
    refine XS.aloadN X0.here hexec rfl (hb hbytes d1) rfl rfl ?_
    exact Steps.refl _)
  have c3 : Steps p.tables e below (s₁.setTop (entryFrame m #[.ref d, .int (Int32.ofNat B.slots.size)] 2)) (s₁.setTop (mkF m 8 #[.val (.ref d), .val (.int (Int32.ofNat B.slots.size))] [.int (lo8 (ushr (Int32.ofNat B.slots.size - Int32.ofNat B.slots.size) 31))])) := c2.trans (by
    refine X0.alen hexec hB0 rfl rfl (hb hbytes d2) ?_
    refine XS.isub X0.here hexec rfl (hb hbytes d3) rfl ?_
    refine bipushV X0.here hexec rfl 31 (hb hbytes d4) (by decide) ?_
    refine iushr X0.here hexec rfl (hb hbytes d6) rfl ?_
    refine i2b X0.here hexec rfl (hb hbytes d7) rfl ?_
    exact Steps.refl _)
  have e0 : lo8 (ushr (Int32.ofNat B.slots.size - Int32.ofNat B.slots.size) 31) = 0 := by rw [Int32.sub_self]; decide
  rw [e0] at c3
  exact ⟨s₁, some (.int 0), _, _, _, X0, rfl, rfl, rfl, (fun h => by cases h), ⟨rfl, hh0⟩, fun fs hl => c3.trans (X0.ireturnOut hexec hret rfl (Or.inr (Or.inr (Or.inl rfl))) (hb hbytes d8) hl)⟩
end CodL
/-- the String at a is Latin-1 over a new byte[] (the heap's one new cell): the low bytes of the len chars of A from o on; every cell but a is kept -/
def Got (a : Addr) (D : Cell) (fV fC : Field) (A : Cell) (o len : Nat) (r : Option Value) (s u : State) : Prop := r = none ∧ ∃ D' V : Cell, Blank "java/lang/String" a D' u ∧ Same D D' [fV.slot, fC.slot] ∧ D'.slots[fV.slot]? = some (.ref s.heap.size) ∧ D'.slots[fC.slot]? = some (.int 0) ∧ Arr .byte s.heap.size V u ∧ V.vm = .none ∧ u.vm.findClass "[B" = some V.cls ∧ V.slots.size = len ∧ (∀ j, j < len → V.slots[j]? = some (.int (lo8 (cv A (o + j))))) ∧ (∀ (y : Addr) (c : Cell), y ≠ a → s.heap[y]? = some c → u.heap[y]? = some c) ∧ u.heap.size = s.heap.size + 1
theorem Got.mv {a : Addr} {D A : Cell} {fV fC : Field} {o len : Nat} : ∀ r (U U' V V' : State), U'.heap = U.heap → V.vm.Alike V'.vm → V'.heap = V.heap → Got a D fV fC A o len r U V → Got a D fV fC A o len r U' V' :=
  fun r U U' V V' h1 hal h2 ⟨e0, D', X, a1, a2, a3, a4, a5, a6, a7, a8, a9, a10, a11⟩ => ⟨e0, D', X, a1.mv hal h2, a2, by rw [h1]; exact a3, a4, by rw [h1]; exact a5.mv hal h2, a6, by rw [hal.findClass]; exact a7, a8, a9, by rw [h1, h2]; exact a10, by rw [h1, h2]; exact a11⟩
namespace New4
def yN : MethodName := ⟨"java/lang/String", "<init>", "([CIILjava/lang/Void;)V"⟩
abbrev yB : ByteArray := jdk_42_method_149_code
theorem d0 : decode yB 0 = .ok (.aload_n 0, 1) := by decide +kernel
theorem d1 : decode yB 1 = .ok (.invokespecial 1, 3) := by decide +kernel
theorem d4 : decode yB 4 = .ok (.iload_n 3, 1) := by decide +kernel
theorem d5 : decode yB 5 = .ok (.ifCond (.ne) 22, 3) := by decide +kernel
theorem d27 : decode yB 27 = .ok (.getstatic 38, 3) := by decide +kernel
theorem d30 : decode yB 30 = .ok (.ifCond (.eq) 28, 3) := by decide +kernel
theorem d33 : decode yB 33 = .ok (.aload_n 1, 1) := by decide +kernel
theorem d34 : decode yB 34 = .ok (.iload_n 2, 1) := by decide +kernel
theorem d35 : decode yB 35 = .ok (.iload_n 3, 1) := by decide +kernel
theorem d36 : decode yB 36 = .ok (.invokestatic 177, 3) := by decide +kernel
theorem d39 : decode yB 39 = .ok (.astore 5, 2) := by decide +kernel
theorem d41 : decode yB 41 = .ok (.aload_n 0, 1) := by decide +kernel
theorem d42 : decode yB 42 = .ok (.aload 5, 2) := by decide +kernel
theorem d44 : decode yB 44 = .ok (.iload_n 3, 1) := by decide +kernel
theorem d45 : decode yB 45 = .ok (.invokestatic 47, 3) := by decide +kernel
theorem d48 : decode yB 48 = .ok (.putfield 15, 3) := by decide +kernel
theorem d51 : decode yB 51 = .ok (.aload_n 0, 1) := by decide +kernel
theorem d52 : decode yB 52 = .ok (.aload 5, 2) := by decide +kernel
theorem d54 : decode yB 54 = .ok (.putfield 9, 3) := by decide +kernel
theorem d57 : decode yB 57 = .ok (.return_, 1) := by decide +kernel
def site : List Cond := [.fieldLink "java/lang/String" 38 "java/lang/String" "COMPACT_STRINGS" "Z", Cmp3.tab, CodL.tab, .laysFinal "java/lang/String" "java/lang/String" "value" "[B", .fieldLink "java/lang/String" 9 "java/lang/String" "value" "[B", .laysFinal "java/lang/String" "java/lang/String" "coder" "B", .fieldLink "java/lang/String" 15 "java/lang/String" "coder" "B"] ++ objW "java/lang/String" 1 ++ staticW "java/lang/String" 177 Cmp3.yN ++ staticW "java/lang/String" 47 CodL.yN
def tab : Cond := tabOf yN yB 6 none site
def P (a : Addr) (D : Cell) (fV fC : Field) (b : Addr) (A : Cell) (z : Int32) (o len : Nat) (args : Array Value) (s : State) : Prop := args = #[.ref a, .ref b, .int (Int32.ofNat o), .int (Int32.ofNat len), .null] ∧ Blank "java/lang/String" a D s ∧ Found "java/lang/String" "value" "[B" fV s ∧ Found "java/lang/String" "coder" "B" fC s ∧ Ch b A s ∧ StaticIs s "java/lang/String" "COMPACT_STRINGS" "Z" (.int z) ∧ ¬ z = 0 ∧ 0 < len ∧ o + len ≤ A.slots.size ∧ len ≤ 536870912 ∧ ∀ i, i < len → ¬ 255 < cv A (o + i)
def E (a : Addr) (D : Cell) (fV fC : Field) (A : Cell) (o len : Nat) (r : Option Value) (s u : State) : Prop := Got a D fV fC A o len r s u
/-- len > 0, no char of the range above 255: a Latin-1 String of their low bytes -/
theorem law (l : Launch) (a : Addr) (D : Cell) (fV fC : Field) (b : Addr) (A : Cell) (z : Int32) (o len : Nat) : Law l yN 5 4 2 35 yB 6 none site (P a D fV fC b A z o len) (E a D fV fC A o len) [⟨a, fC.slot⟩, ⟨a, fV.slot⟩] 1 len := by
  refine Law.of_walk (plainFor_of_name (by decide +kernel)) (by decide +kernel) (by decide +kernel) (by decide) (fun _ _ h => by rw [h.1]; rfl) (fun _ U U' hal hh h => ⟨h.1, h.2.1.mv hal hh, h.2.2.1.al hal, h.2.2.2.1.al hal, h.2.2.2.2.1.mv hal hh, h.2.2.2.2.2.1.there hal hh, h.2.2.2.2.2.2⟩) (fun r U U' V V' h1 hal h2 h => Got.mv r U U' V V' h1 hal h2 h) ?_
  intro p e s m args below meth c s₁ X0 hexec hbytes hml hret hlk hnm hown hh0 W hP
  obtain ⟨rfl, hB, f1, f2, hA, s1, hz, l0, l1, l2, hp⟩ := hP
  have a31 := hA.1.2.2.2
  have c1 : Steps p.tables e below (s₁.setTop (entryFrame m #[.ref a, .ref b, .int (Int32.ofNat o), .int (Int32.ofNat len), .null] 6)) (s₁.setTop (mkF m 0 #[.val (.ref a), .val (.ref b), .val (.int (Int32.ofNat o)), .val (.int (Int32.ofNat len)), .val .null, .unset] [])) := entry rfl
  have c2 : Steps p.tables e below (s₁.setTop (entryFrame m #[.ref a, .ref b, .int (Int32.ofNat o), .int (Int32.ofNat len), .null] 6)) (s₁.setTop (mkF m 1 #[.val (.ref a), .val (.ref b), .val (.int (Int32.ofNat o)), .val (.int (Int32.ofNat len)), .val .null, .unset] [.ref a])) := c1.trans (by
    refine XS.aloadN X0.here hexec rfl (hb hbytes d0) rfl rfl ?_
    exact Steps.refl _)
  obtain ⟨T3, X3, q3, st3⟩ := X0.oinit hexec hown (wks W (objW "java/lang/String" 1)) (g := (mkF m 1 #[.val (.ref a), .val (.ref b), .val (.int (Int32.ofNat o)), .val (.int (Int32.ofNat len)), .val .null, .unset] [.ref a])) rfl (by rw [hml]; rfl) (rest := []) rfl (hb hbytes d1) (W := 0) (by show 2 * 0 + 0 ≤ _; decide) (Nat.le_of_ble_eq_true rfl) (Nat.le_of_ble_eq_true rfl)
  have hh3 := q3.trans hh0
  have c4 : Steps p.tables e below (s₁.setTop (entryFrame m #[.ref a, .ref b, .int (Int32.ofNat o), .int (Int32.ofNat len), .null] 6)) (T3.setTop (mkF m 27 #[.val (.ref a), .val (.ref b), .val (.int (Int32.ofNat o)), .val (.int (Int32.ofNat len)), .val .null, .unset] [])) := (c2.trans (st3 _ (Steps.refl _))).trans (by
    refine XS.iloadN X3.here hexec rfl (hb hbytes d4) rfl ?_
    refine XS.ifYes X3.here hexec rfl (pc0 := 5) rfl (hb hbytes d5) rfl (i0_ne_t (nz32 (by omega) l0)) (by decide) rfl ?_
    exact Steps.refl _)
  obtain ⟨T5, X5, q5, st5⟩ := X3.sget hexec hown (wk W (.fieldLink "java/lang/String" 38 "java/lang/String" "COMPACT_STRINGS" "Z")) s1 (fun _ _ h => by rw [hh3]; exact h) (g := (mkF m 27 #[.val (.ref a), .val (.ref b), .val (.int (Int32.ofNat o)), .val (.int (Int32.ofNat len)), .val .null, .unset] [])) rfl (hb hbytes d27)
  have hh5 := q5.trans hh3
  have c6 : Steps p.tables e below (s₁.setTop (entryFrame m #[.ref a, .ref b, .int (Int32.ofNat o), .int (Int32.ofNat len), .null] 6)) (T5.setTop (mkF m 30 #[.val (.ref a), .val (.ref b), .val (.int (Int32.ofNat o)), .val (.int (Int32.ofNat len)), .val .null, .unset] [.int z])) := c4.trans (st5 _ (Steps.refl _))
  have c7 : Steps p.tables e below (s₁.setTop (entryFrame m #[.ref a, .ref b, .int (Int32.ofNat o), .int (Int32.ofNat len), .null] 6)) (T5.setTop (mkF m 36 #[.val (.ref a), .val (.ref b), .val (.int (Int32.ofNat o)), .val (.int (Int32.ofNat len)), .val .null, .unset] [.int (Int32.ofNat len), .int (Int32.ofNat o), .ref b])) := c6.trans (by
    refine XS.ifNo X5.here hexec rfl (hb hbytes d30) rfl (i0_eq_f hz) ?_
    refine XS.aloadN X5.here hexec rfl (hb hbytes d33) rfl rfl ?_
    refine XS.iloadN X5.here hexec rfl (hb hbytes d34) rfl ?_
    refine XS.iloadN X5.here hexec rfl (hb hbytes d35) rfl ?_
    exact Steps.refl _)
  obtain ⟨v8, T8, X8, E8, g8⟩ := X5.callS hexec (Cmp3.law l b A o len) hown (wks W (staticW "java/lang/String" 177 Cmp3.yN)) (wk W Cmp3.tab) (W := 0) (Nat.le_of_ble_eq_true rfl) (Nat.le_of_ble_eq_true rfl) (Nat.le_refl _) (by show 0 + len ≤ len; omega) (g := (mkF m 36 #[.val (.ref a), .val (.ref b), .val (.int (Int32.ofNat o)), .val (.int (Int32.ofNat len)), .val .null, .unset] [.int (Int32.ofNat len), .int (Int32.ofNat o), .ref b])) rfl (by rw [hml]; rfl) c7 (argsL := [.ref b, .int (Int32.ofNat o), .int (Int32.ofNat len)]) (rest := []) rfl rfl (by show 2 * 0 + 0 ≤ _; decide) (hb hbytes d36) (⟨rfl, hA.mv X5.warmed.alike hh5, l1, l2, hp⟩)
  obtain ⟨e8, z8⟩ := E8
  obtain ⟨rfl, N, n1, n2, n3, n4, n5, n6⟩ := NewArr.mv _ T5 s _ _ hh5.symm (Vm.Alike.refl _) rfl e8
  rw [hh5] at z8
  have hB1 := hB.keep X8.warmed.alike (n6 _ _ hB.1)
  have hne : s.heap.size ≠ a := (Nat.ne_of_lt (Array.getElem?_eq_some_iff.mp hB.1).1).symm
  have c9 : Steps p.tables e below (s₁.setTop (entryFrame m #[.ref a, .ref b, .int (Int32.ofNat o), .int (Int32.ofNat len), .null] 6)) (T8.setTop (mkF m 39 #[.val (.ref a), .val (.ref b), .val (.int (Int32.ofNat o)), .val (.int (Int32.ofNat len)), .val .null, .unset] [.ref s.heap.size])) := g8
  have c10 : Steps p.tables e below (s₁.setTop (entryFrame m #[.ref a, .ref b, .int (Int32.ofNat o), .int (Int32.ofNat len), .null] 6)) (T8.setTop (mkF m 45 #[.val (.ref a), .val (.ref b), .val (.int (Int32.ofNat o)), .val (.int (Int32.ofNat len)), .val .null, .val (.ref s.heap.size)] [.int (Int32.ofNat N.slots.size), .ref s.heap.size, .ref a])) := by
    have hc : Steps p.tables e below (s₁.setTop (entryFrame m #[.ref a, .ref b, .int (Int32.ofNat o), .int (Int32.ofNat len), .null] 6)) (T8.setTop (mkF m 45 #[.val (.ref a), .val (.ref b), .val (.int (Int32.ofNat o)), .val (.int (Int32.ofNat len)), .val .null, .val (.ref s.heap.size)] [.int (Int32.ofNat len), .ref s.heap.size, .ref a])) := c9.trans (by
      refine XS.astore X8.here hexec rfl (hb hbytes d39) rfl rfl rfl ?_
      refine XS.aloadN X8.here hexec rfl (hb hbytes d41) rfl rfl ?_
      refine XS.aload X8.here hexec rfl (hb hbytes d42) rfl rfl ?_
      refine XS.iloadN X8.here hexec rfl (hb hbytes d44) rfl ?_
      exact Steps.refl _)
    rw [n4]; exact hc
  obtain ⟨v11, T11, X11, E11, g11⟩ := X8.callS hexec (CodL.law l s.heap.size N) hown (wks W (staticW "java/lang/String" 47 CodL.yN)) (wk W CodL.tab) (W := 1) (Nat.le_of_ble_eq_true rfl) (Nat.le_of_ble_eq_true rfl) (Nat.le_refl _) (by show 0 + len + 0 ≤ len; omega) (g := (mkF m 45 #[.val (.ref a), .val (.ref b), .val (.int (Int32.ofNat o)), .val (.int (Int32.ofNat len)), .val .null, .val (.ref s.heap.size)] [.int (Int32.ofNat N.slots.size), .ref s.heap.size, .ref a])) rfl (by rw [hml]; rfl) c10 (argsL := [.ref s.heap.size, .int (Int32.ofNat N.slots.size)]) (rest := [.ref a]) rfl rfl (by show 2 * 0 + (1 + 0) ≤ _; decide) (hb hbytes d45) (⟨rfl, n1⟩)
  obtain ⟨rfl, q11⟩ := E11
  have hB11 := hB1.mv (X8.warmed.alike.symm.trans X11.warmed.alike) q11
  have c12 : Steps p.tables e below (s₁.setTop (entryFrame m #[.ref a, .ref b, .int (Int32.ofNat o), .int (Int32.ofNat len), .null] 6)) (T11.setTop (mkF m 48 #[.val (.ref a), .val (.ref b), .val (.int (Int32.ofNat o)), .val (.int (Int32.ofNat len)), .val .null, .val (.ref s.heap.size)] [.int 0, .ref a])) := g11
  obtain ⟨T13, X13, p13, bl13, sl13, st13⟩ := X11.finit hexec hown (wk W (.fieldLink "java/lang/String" 15 "java/lang/String" "coder" "B")) (Or.inr ⟨_, (wk W (.laysFinal "java/lang/String" "java/lang/String" "coder" "B"))⟩) (Or.inl ⟨rfl, hnm⟩) f2 (Or.inl rfl) hB11 (t := .byte) (by decide +kernel) rfl (g := (mkF m 48 #[.val (.ref a), .val (.ref b), .val (.int (Int32.ofNat o)), .val (.int (Int32.ofNat len)), .val .null, .val (.ref s.heap.size)] [.int 0, .ref a])) rfl (rest := []) rfl (hb hbytes d48)
  have c14 : Steps p.tables e below (s₁.setTop (entryFrame m #[.ref a, .ref b, .int (Int32.ofNat o), .int (Int32.ofNat len), .null] 6)) (T13.setTop (mkF m 54 #[.val (.ref a), .val (.ref b), .val (.int (Int32.ofNat o)), .val (.int (Int32.ofNat len)), .val .null, .val (.ref s.heap.size)] [.ref s.heap.size, .ref a])) := (c12.trans (st13 _ (Steps.refl _))).trans (by
    refine XS.aloadN X13.here hexec rfl (hb hbytes d51) rfl rfl ?_
    refine XS.aload X13.here hexec rfl (hb hbytes d52) rfl rfl ?_
    exact Steps.refl _)
  obtain ⟨T15, X15, p15, bl15, sl15, st15⟩ := X13.finit hexec hown (wk W (.fieldLink "java/lang/String" 9 "java/lang/String" "value" "[B")) (Or.inr ⟨_, (wk W (.laysFinal "java/lang/String" "java/lang/String" "value" "[B"))⟩) (Or.inl ⟨rfl, hnm⟩) f1 (Or.inl rfl) bl13 (t := (.array .byte)) (by decide +kernel) rfl (g := (mkF m 54 #[.val (.ref a), .val (.ref b), .val (.int (Int32.ofNat o)), .val (.int (Int32.ofNat len)), .val .null, .val (.ref s.heap.size)] [.ref s.heap.size, .ref a])) rfl (rest := []) rfl (hb hbytes d54)
  have c16 : Steps p.tables e below (s₁.setTop (entryFrame m #[.ref a, .ref b, .int (Int32.ofNat o), .int (Int32.ofNat len), .null] 6)) (T15.setTop (mkF m 57 #[.val (.ref a), .val (.ref b), .val (.int (Int32.ofNat o)), .val (.int (Int32.ofNat len)), .val .null, .val (.ref s.heap.size)] [])) := c14.trans (st15 _ (Steps.refl _))
  have ap := apart (Or.inr ⟨_, (wk W (.laysFinal "java/lang/String" "java/lang/String" "value" "[B"))⟩) (Or.inr ⟨_, (wk W (.laysFinal "java/lang/String" "java/lang/String" "coder" "B"))⟩) f1 f2 (t₁ := .array .byte) (t₂ := .byte) (by decide +kernel) (by decide +kernel) (by decide)
  have al := X8.warmed.alike.symm.trans X15.warmed.alike
  have n7 : T11.heap[s.heap.size]? = some N := by rw [q11]; exact n1.1
  exact ⟨T15, none, _, _, _, X15, by simp, rfl, by omega, (fun _ => rfl), ⟨rfl, _, N, bl15, ((Same.refl D _).set _ (by simp)).set _ (by simp), sl15, (Cell.slots_setSlot_ne _ ap).trans sl13, n1.keep al (p15.other hne (p13.other hne n7)), n2, by rw [al.findClass]; exact n3, n4, n5, fun y c h1 h2 => p15.other h1 (p13.other h1 (by rw [q11]; exact n6 y c h2)), by rw [p15.2.2, p13.2.2, q11]; exact z8⟩, fun fs hl => c16.trans (X15.returnOut hexec hret (hb hbytes d57) hl)⟩
end New4
namespace New1
def yN : MethodName := ⟨"java/lang/String", "<init>", "([C)V"⟩
abbrev yB : ByteArray := jdk_42_method_3_code
theorem d0 : decode yB 0 = .ok (.aload_n 0, 1) := by decide +kernel
theorem d1 : decode yB 1 = .ok (.aload_n 1, 1) := by decide +kernel
theorem d2 : decode yB 2 = .ok (.iconst 0, 1) := by decide +kernel
theorem d3 : decode yB 3 = .ok (.aload_n 1, 1) := by decide +kernel
theorem d4 : decode yB 4 = .ok (.arraylength, 1) := by decide +kernel
theorem d5 : decode yB 5 = .ok (.aconst_null, 1) := by decide +kernel
theorem d6 : decode yB 6 = .ok (.invokespecial 27, 3) := by decide +kernel
theorem d9 : decode yB 9 = .ok (.return_, 1) := by decide +kernel
def site : List Cond := [New4.tab] ++ initW "java/lang/String" 27 New4.yN
def tab : Cond := tabOf yN yB 2 none site
def P (a : Addr) (D : Cell) (fV fC : Field) (b : Addr) (A : Cell) (z : Int32) (args : Array Value) (s : State) : Prop := args = #[.ref a, .ref b] ∧ Blank "java/lang/String" a D s ∧ Found "java/lang/String" "value" "[B" fV s ∧ Found "java/lang/String" "coder" "B" fC s ∧ Ch b A s ∧ StaticIs s "java/lang/String" "COMPACT_STRINGS" "Z" (.int z) ∧ ¬ z = 0 ∧ 0 < A.slots.size ∧ A.slots.size ≤ 536870912 ∧ ∀ i, i < A.slots.size → ¬ 255 < cv A i
def E (a : Addr) (D : Cell) (fV fC : Field) (A : Cell) (r : Option Value) (s u : State) : Prop := Got a D fV fC A 0 A.slots.size r s u
/-- new String(chars), not empty, no char above 255: a Latin-1 String of their low bytes -/
theorem law (l : Launch) (a : Addr) (D : Cell) (fV fC : Field) (b : Addr) (A : Cell) (z : Int32) : Law l yN 2 1 3 52 yB 2 none site (P a D fV fC b A z) (E a D fV fC A) [⟨a, fC.slot⟩, ⟨a, fV.slot⟩] 1 A.slots.size := by
  refine Law.of_walk (plainFor_of_name (by decide +kernel)) (by decide +kernel) (by decide +kernel) (by decide) (fun _ _ h => by rw [h.1]; rfl) (fun _ U U' hal hh h => ⟨h.1, h.2.1.mv hal hh, h.2.2.1.al hal, h.2.2.2.1.al hal, h.2.2.2.2.1.mv hal hh, h.2.2.2.2.2.1.there hal hh, h.2.2.2.2.2.2⟩) (fun r U U' V V' h1 hal h2 h => Got.mv r U U' V V' h1 hal h2 h) ?_
  intro p e s m args below meth c s₁ X0 hexec hbytes hml hret hlk hnm hown hh0 W hP
  obtain ⟨rfl, hB, f1, f2, hA, s1, hz, l0, l2, hp⟩ := hP
  have c1 : Steps p.tables e below (s₁.setTop (entryFrame m #[.ref a, .ref b] 2)) (s₁.setTop (mkF m 0 #[.val (.ref a), .val (.ref b)] [])) := entry rfl
  have c2 : Steps p.tables e below (s₁.setTop (entryFrame m #[.ref a, .ref b] 2)) (s₁.setTop (mkF m 6 #[.val (.ref a), .val (.ref b)] [.null, .int (Int32.ofNat A.slots.size), .int 0, .ref b, .ref a])) := c1.trans (by
    refine XS.aloadN X0.here hexec rfl (hb hbytes d0) rfl rfl ?_
    refine XS.aloadN X0.here hexec rfl (hb hbytes d1) rfl rfl ?_
    refine iconstV X0.here hexec rfl 0 (hb hbytes d2) (by decide) ?_
    refine XS.aloadN X0.here hexec rfl (hb hbytes d3) rfl rfl ?_
    refine X0.alen hexec (hA.1.mv X0.warmed.alike hh0) rfl rfl (hb hbytes d4) ?_
    refine XS.aconstNull X0.here hexec rfl (hb hbytes d5) ?_
    exact Steps.refl _)
  obtain ⟨v3, T3, X3, E3, g3⟩ := X0.callN hexec (New4.law l a D fV fC b A z 0 A.slots.size) rfl hown (wks W (initW "java/lang/String" 27 New4.yN)) (W New4.tab (by simp only [site, List.mem_cons, List.mem_append, true_or, or_true])) (W := 0) (Nat.le_of_ble_eq_true rfl) (Nat.le_of_ble_eq_true rfl) (Nat.le_refl _) (by show 0 + A.slots.size ≤ A.slots.size; omega) (g := (mkF m 6 #[.val (.ref a), .val (.ref b)] [.null, .int (Int32.ofNat A.slots.size), .int (Int32.ofNat 0), .ref b, .ref a])) rfl (by rw [hml]; rfl) c2 (argsL := [.ref b, .int (Int32.ofNat 0), .int (Int32.ofNat A.slots.size), .null]) (rest := []) rfl rfl (by show 2 * 0 + 0 ≤ _; decide) (hb hbytes d6) (⟨rfl, hB.mv X0.warmed.alike hh0, f1.al X0.warmed.alike, f2.al X0.warmed.alike, hA.mv X0.warmed.alike hh0, s1.there X0.warmed.alike hh0, hz, l0, by omega, l2, fun i hi => by rw [Nat.zero_add]; exact hp i hi⟩)
  have e0 := Got.mv _ s₁ s _ _ hh0.symm (Vm.Alike.refl _) rfl E3
  obtain rfl := e0.1
  have c4 : Steps p.tables e below (s₁.setTop (entryFrame m #[.ref a, .ref b] 2)) (T3.setTop (mkF m 9 #[.val (.ref a), .val (.ref b)] [])) := g3
  exact ⟨T3, none, _, _, _, X3, by simp, rfl, by omega, (fun _ => rfl), e0, fun fs hl => c4.trans (X3.returnOut hexec hret (hb hbytes d9) hl)⟩
theorem pays {l : Launch} {R : Room} {p : Program} {e : Env} {below : List Frame} {s : State} {sargs : Array Value} {len W : Nat} (a : Addr) (D : Cell) (fV fC : Field) (b : Addr) (A : Cell) (z : Int32) (htab : tab.before sargs s = true) (hfr : 4 ≤ R.frames) (hlo : W + 65 ≤ R.locals) :
    Back l R p e below s sargs yN len W (fun A₁ a₁ => A₁.cells + 1 ≤ R.cells ∧ A₁.slots + A.slots.size ≤ R.slots ∧ P a D fV fC b A z a₁ A₁.U) (fun A₁ _ v₁ B₁ => E a D fV fC A v₁ A₁.U B₁.U ∧ B₁.locs = A₁.locs ++ [⟨a, fC.slot⟩, ⟨a, fV.slot⟩] ∧ B₁.cells = A₁.cells + 1 ∧ B₁.slots = A₁.slots + A.slots.size) :=
  (law l a D fV fC b A z).pays htab hfr (by omega)
end New1
/-- the byte, read back as charAt reads it, is the char -/
theorem lo8_mask {x : Int32} (h0 : ¬ x < 0) (h1 : ¬ 255 < x) : lo8 x &&& 255 = x := by
  have t : ∀ k : Fin 256, lo8 (Int32.ofNat k.val) &&& 255 = Int32.ofNat k.val := by decide +kernel
  rw [Int32.lt_iff_toInt_lt] at h0 h1
  have e0 : (0 : Int32).toInt = 0 := rfl
  have e1 : (255 : Int32).toInt = 255 := rfl
  obtain ⟨k, hk⟩ : ∃ k : Nat, x.toInt = k := ⟨x.toInt.toNat, by omega⟩
  have hx : x = Int32.ofNat k := Int32.toInt_inj.mp (by rw [hk, Int32.toInt_ofNat_small (by omega)])
  rw [hx]
  exact t ⟨k, by omega⟩
end StrChars
namespace StrChars.Road
open Jvm Sem ClassFile Op Lib Jvm.Stand Jvm.Free Jvm.Free.XT
open Jvm.Lib.Cold (StaticIs)
abbrev ST : String := "java/lang/String"
/-- every table word that New1's law asks, flat -/
abbrev words : List Jvm.Cond := [.code New1.yN New1.yB 2 none, .initialized ST, .methodLink ST 27 New4.yN, .instanceMethod New4.yN,
  .code New4.yN New4.yB 6 none, .fieldLink ST 38 ST "COMPACT_STRINGS" "Z", .laysFinal ST ST "value" "[B", .fieldLink ST 9 ST "value" "[B", .laysFinal ST ST "coder" "B", .fieldLink ST 15 ST "coder" "B",
  .methodLink ST 1 Lib.objectInit, .instanceMethod Lib.objectInit, .code Lib.objectInit ⟨#[0xb1]⟩ 1 none, .methodLink ST 177 Cmp3.yN, .static Cmp3.yN, .methodLink ST 47 CodL.yN, .static CodL.yN,
  .code Cmp3.yN Cmp3.yB 6 (some (.array .byte)), .initialized U16, .arrayClass .byte, .methodLink U16 115 Cmp5.yN, .static Cmp5.yN, .code Cmp5.yN Cmp5.yB 7 (some .int), .code CodL.yN CodL.yB 2 (some .byte)]
theorem tab_of {a : Array Value} {s : State} (h : ∀ w ∈ words, w.before a s = true) : New1.tab.before a s = true := by
  have h5 : Cmp5.tab.before a s = true := unparts (wk h (.code Cmp5.yN Cmp5.yB 7 (some .int))) (wks h (.initialized Cmp5.yN.cls :: Cmp5.site))
  have hc : CodL.tab.before a s = true := unparts (wk h (.code CodL.yN CodL.yB 2 (some .byte))) (wks h (.initialized CodL.yN.cls :: CodL.site))
  have q5 : ∀ w ∈ Cmp5.tab :: words, w.before a s = true := fun w hw => (List.mem_cons.mp hw).elim (fun e => e ▸ h5) (h w)
  have h3 : Cmp3.tab.before a s = true := unparts (wk q5 (.code Cmp3.yN Cmp3.yB 6 (some (.array .byte)))) (wks q5 (.initialized Cmp3.yN.cls :: Cmp3.site))
  have q3 : ∀ w ∈ Cmp3.tab :: CodL.tab :: words, w.before a s = true := fun w hw => (List.mem_cons.mp hw).elim (fun e => e ▸ h3) fun hw => (List.mem_cons.mp hw).elim (fun e => e ▸ hc) (h w)
  have h4 : New4.tab.before a s = true := unparts (wk q3 (.code New4.yN New4.yB 6 none)) (wks q3 (.initialized New4.yN.cls :: New4.site))
  have q4 : ∀ w ∈ New4.tab :: words, w.before a s = true := fun w hw => (List.mem_cons.mp hw).elim (fun e => e ▸ h4) (h w)
  exact unparts (wk q4 (.code New1.yN New1.yB 2 none)) (wks q4 (.initialized New1.yN.cls :: New1.site))
/-- the words ride from the start Z to the walk's own state -/
theorem moved {Z s : State} {a0 args : Array Value} (hZ : Z.Warmed39 s.vm) (hw : ∀ d ∈ words, d.before a0 Z = true) : ∀ d ∈ words, d.before args s = true := fun d hd => by
  have q := hw d hd
  have t : ∀ d ∈ words, d = .arrayClass .byte ∨ (d.onTables && d.keepsFace) = true := by decide +kernel
  rcases t d hd with rfl | t
  · exact RoadKit.mvA hZ q
  · exact RoadKit.mv hZ q t
/-- WHAT COMES BACK, over the tables of the start Z: h the heap at the call, h' behind it -/
def Q (Z : State) (x : Addr) (A : Cell) (h : Heap) (v : Option Value) (h' : Heap) (L : List Loc) : Prop := v = none ∧ (∀ y ∈ L, y.base = x) ∧ RoadKit.Keep h h' [x] ∧ h'.size = h.size + 1 ∧ RoadKit.Exa Z h' x ST ∧ RoadKit.Fld Z h' x ST "value" "[B" (.ref h.size) ∧ RoadKit.Fld Z h' x ST "coder" "B" (.int 0) ∧
  (∃ V : Cell, RoadKit.Arr Z h' h.size V .byte ∧ V.vm = .none ∧ Z.vm.findClass "[B" = some V.cls ∧ V.slots.size = A.slots.size ∧ ∀ j, j < A.slots.size → V.slots[j]? = some (.int (lo8 (cv A j)))) ∧
  ∀ (O n d : String) (w : Value), RoadKit.Fld Z h x O n d w → RoadKit.slotOf Z O n d ≠ RoadKit.slotOf Z ST "value" "[B" → RoadKit.slotOf Z O n d ≠ RoadKit.slotOf Z ST "coder" "B" → RoadKit.Fld Z h' x O n d w
/-- **new String(chars) AT A CALL, IN THE ROAD'S FORM**: for specialBack behind newO: x the fresh String, b the char[] with the cell A -/
theorem back {p : Program} {l : Launch} {e : Env} {R : Room} {s : State} {args : Array Value} {below : List Frame} {len W : Nat} {Z : State} {a0 : Array Value} {h : Heap} (hZ : Z.Warmed39 s.vm) (hw : ∀ d ∈ words, d.before a0 Z = true) {kI : Nat} (wi : (Jvm.Cond.instantiable ST kI).before a0 Z = true)
    {x b : Addr} {A : Cell} {z : Int32} {v0 c0 : Value} (E : RoadKit.Exa Z h x ST) (V : RoadKit.Fld Z h x ST "value" "[B" v0) (C : RoadKit.Fld Z h x ST "coder" "B" c0) (K : RoadKit.Arr Z h b A .char) (hty : Typed .char A) (S : RoadKit.Sta Z h ST "COMPACT_STRINGS" "Z" (.int z)) (hz : ¬ z = 0)
    (l0 : 0 < A.slots.size) (l2 : A.slots.size ≤ 536870912) (hp : ∀ i, i < A.slots.size → ¬ 255 < cv A i) (hfr : 4 ≤ R.frames) (hlo : W + 65 ≤ R.locals) :
    Back l R p e below s args New1.yN len W (fun P a => a = #[.ref x, .ref b] ∧ P.U.heap = h ∧ P.cells + 1 ≤ R.cells ∧ P.slots + A.slots.size ≤ R.slots)
      (fun P _ v B => ∃ L, Q Z x A h v B.U.heap L ∧ B.locs = P.locs ++ L ∧ B.cells = P.cells + 1 ∧ B.slots = P.slots + A.slots.size) := by
  intro m meth c P g ig mk a X hg hsize hdg hW hn hp'
  obtain ⟨rfl, rfl, r1, r2⟩ := hp'
  have al : Z.vm.Alike P.U.vm := hZ.alike.trans X.warmed.alike
  obtain ⟨D, cfV, kV, iV, fV, hD, gV, stV, knV, obV, asV, slV⟩ := id V
  obtain ⟨D', cfC, kC, iC, fC, hD', gC, stC, -, -, asC, slC⟩ := id C
  cases hD.symm.trans hD'
  obtain ⟨D2, kD, e1, e2, e3, e4, e5⟩ := id E
  cases hD.symm.trans e1
  obtain ⟨c2, k2, i1, i2, i3, -⟩ := Cond.instantiable_spec wi
  cases e2.symm.trans i1
  cases e3.symm.trans i2
  obtain ⟨kU, u1, u2⟩ := al.2.2 _ _ e3
  have hB : Blank ST x D P.U := ⟨hD, ⟨knV, fun q hq => by rw [hq] at obV; cases obV⟩, by rw [al.findClass]; exact e2, kU, u1, by rw [u2]; exact i3, by rw [u2]; exact e5 i3⟩
  have F1 : Found ST "value" "[B" fV P.U := ⟨SBG.found_only al ⟨cfV, kV, iV, gV⟩, stV⟩
  have F2 : Found ST "coder" "B" fC P.U := ⟨SBG.found_only al ⟨cfC, kC, iC, gC⟩, stC⟩
  have hA : Ch b A P.U := ⟨⟨K.1, State.isArrayOf_alike al K.2.1, K.2.2, by omega⟩, hty⟩
  have hS : StaticIs P.U ST "COMPACT_STRINGS" "Z" (.int z) := by
    obtain ⟨cfS, iS, kS, fS, st, cS, t1, t2, t3, t4, t5, t6, t7⟩ := S
    exact StaticIs.there (s := { Z with heap := P.U.heap }) ⟨cfS, iS, kS, fS, st, cS, t1, t2, t3, t4, t5, (fun q => by rw [q] at t6; cases t6), t7⟩ al rfl
  obtain ⟨v, B, X', ⟨⟨hv, E', V', q1, q2, q3, q4, q5, q6, q7, q8, q9, q10, q11⟩, hl, hc, hs⟩, st⟩ := New1.pays x D fV fC b A z (tab_of (moved hZ hw)) hfr hlo m meth c P g ig mk _ X hg hsize hdg hW hn ⟨r1, r2, rfl, hB, F1, F2, hA, hS, hz, l0, l2, hp⟩
  have al' : Z.vm.Alike B.U.vm := hZ.alike.trans X'.warmed.alike
  have hsz : E'.slots.size = D.slots.size := by
    obtain ⟨-, -, -, kB, w1, w2, w3⟩ := q1
    obtain ⟨kB', y1, y2⟩ := al'.2.2 _ _ e3
    rw [q2.2.1] at w1
    cases w1.symm.trans y1
    rw [w3, e5 i3, y2]
  refine ⟨v, B, X', ⟨_, ⟨hv, ?_, ⟨by omega, fun y cy hy hn' => q10 y cy (by simpa using hn') hy, fun y cy hy => ?_⟩, q11, ⟨E', _, q1.1, by rw [q2.2.1]; exact e2, by rw [q2.2.1]; exact e3, by rw [q2.1]; exact obV, fun _ => by rw [hsz]; exact e5 i3⟩,
    ⟨E', cfV, kV, iV, fV, q1.1, gV, stV, by rw [q2.1]; exact knV, by rw [q2.1]; exact obV, by rw [q2.2.1]; exact asV, q3⟩, ⟨E', cfC, kC, iC, fC, q1.1, gC, stC, by rw [q2.1]; exact knV, by rw [q2.1]; exact obV, by rw [q2.2.1]; exact asC, q4⟩,
    ⟨V', ⟨q5.1, State.isArrayOf_alike al'.symm q5.2.1, q5.2.2.1⟩, q6, by rw [← al'.findClass]; exact q7, q8, fun j hj => by have := q9 j hj; rwa [Nat.zero_add] at this⟩, fun O n d w F n1 n2 => ?_⟩, hl, hc, hs⟩, st⟩
  · intro y hy
    simp only [List.mem_cons, List.not_mem_nil, or_false] at hy
    rcases hy with rfl | rfl <;> rfl
  · by_cases q : y = x
    · subst q
      cases hD.symm.trans hy
      exact ⟨E', q1.1, q2.2.1, q2.1, hsz⟩
    · exact ⟨cy, q10 y cy q hy, rfl, rfl, rfl⟩
  · obtain ⟨D3, cf, k, i, f, g1, g2, g3, g4, g5, g6, g7⟩ := F
    cases hD.symm.trans g1
    simp only [RoadKit.slotOf, g2, gV, gC, Option.map_some, Option.getD_some] at n1 n2
    exact ⟨E', cf, k, i, f, q1.1, g2, g3, by rw [q2.1]; exact g4, by rw [q2.1]; exact g5, by rw [q2.2.1]; exact g6, by rw [q2.2.2 f.slot (by simp [n1, n2])]; exact g7⟩
end StrChars.Road
namespace StrChars.Road
open Jvm Sem ClassFile Op Lib Jvm.Stand Jvm.Free Jvm.Free.XT
/-- WHAT COMES BACK, the byte[] as a list of values -/
def QA (Z : State) (x : Addr) (zn : Int32) (cs : List Int32) (h : Heap) (v : Option Value) (h' : Heap) (L : List Loc) : Prop := v = none ∧ (∀ y ∈ L, y.base = x) ∧ RoadKit.Keep h h' [x] ∧ h'.size = h.size + 1 ∧ RoadKit.Exa Z h' x ST ∧ RoadKit.Fld Z h' x ST "value" "[B" (.ref h.size) ∧ RoadKit.Fld Z h' x ST "coder" "B" (.int 0) ∧
  (∃ kb, Z.vm.findClass "[B" = some kb ∧ RoadKit.Arv Z h' h.size kb .byte zn (cs.map fun c => .int (lo8 c)) (.int 0)) ∧
  ∀ (O n d : String) (w : Value), RoadKit.Fld Z h x O n d w → RoadKit.slotOf Z O n d ≠ RoadKit.slotOf Z ST "value" "[B" → RoadKit.slotOf Z O n d ≠ RoadKit.slotOf Z ST "coder" "B" → RoadKit.Fld Z h' x O n d w
/-- **new String(chars) AT A CALL, THE ARRAYS AS LISTS**: the char[] at b holds cs, not empty, no char above 255 -/
theorem backArv {p : Program} {l : Launch} {e : Env} {R : Room} {s : State} {args : Array Value} {below : List Frame} {len W : Nat} {Z : State} {a0 : Array Value} {h : Heap} (hZ : Z.Warmed39 s.vm) (hw : ∀ d ∈ words, d.before a0 Z = true) {kI : Nat} (wi : (Jvm.Cond.instantiable ST kI).before a0 Z = true)
    {x b : Addr} {k : ClassId} {zn z : Int32} {cs : List Int32} {dv v0 c0 : Value} (E : RoadKit.Exa Z h x ST) (V : RoadKit.Fld Z h x ST "value" "[B" v0) (C : RoadKit.Fld Z h x ST "coder" "B" c0) (K : RoadKit.Arv Z h b k .char zn (cs.map Value.int) dv) (S : RoadKit.Sta Z h ST "COMPACT_STRINGS" "Z" (.int z)) (hz : ¬ z = 0)
    (hlen : zn.toNatClampNeg = cs.length) (h0 : 0 < cs.length) (hbig : cs.length ≤ 536870912) (hall : ∀ c ∈ cs, ¬ 255 < c) (hfr : 4 ≤ R.frames) (hlo : W + 65 ≤ R.locals) :
    Back l R p e below s args New1.yN len W (fun P a => a = #[.ref x, .ref b] ∧ P.U.heap = h ∧ P.cells + 1 ≤ R.cells ∧ P.slots + cs.length ≤ R.slots)
      (fun P _ v B => ∃ L, QA Z x zn cs h v B.U.heap L ∧ B.locs = P.locs ++ L ∧ B.cells = P.cells + 1 ∧ B.slots = P.slots + cs.length) := by
  obtain ⟨A, K1, K2, K3, K4, K5, K6⟩ := K
  have e : A.slots.size = cs.length := K3.trans hlen
  have hat : ∀ (i : Nat) (hi : i < cs.length), A.slots[i]? = some (.int cs[i]) := fun i hi => by rw [K5 i (by omega)]; simp [List.getD_eq_getElem?_getD, hi]
  have hcv : ∀ (i : Nat) (hi : i < cs.length), cv A i = cs[i] := fun i hi => by unfold cv; rw [hat i hi]
  have hty : Typed .char A := fun i v hv => by
    have hi : i < A.slots.size := (Array.getElem?_eq_some_iff.mp hv).1
    have q := K5 i hi
    rw [hv] at q
    rw [Option.some.inj q]
    exact K6 i hi
  refine Back.mono (back hZ hw wi E V C K1 hty S hz (by omega) (by omega) (fun i hi => by rw [hcv i (by omega)]; exact hall _ (List.getElem_mem _)) hfr hlo) (fun P a hp => ⟨hp.1, hp.2.1, hp.2.2.1, by rw [e]; exact hp.2.2.2⟩) (fun P a v B hp hq => ?_)
  obtain ⟨L, ⟨q1, q2, q3, q4, q5, q6, q7, ⟨V', v1, v2, v3, v4, v5⟩, q9⟩, hl, hc, hs⟩ := hq
  refine ⟨L, ⟨q1, q2, q3, q4, q5, q6, q7, ⟨V'.cls, v3, V', v1, rfl, by rw [v4, e, hlen], K4, fun i hi => ?_, fun i hi => ?_⟩, q9⟩, hl, hc, by rw [hs, e]⟩
  · have hi' : i < cs.length := by omega
    rw [v5 i (by omega), hcv i hi']; simp [List.getD_eq_getElem?_getD, hi']
  · have hi' : i < cs.length := by omega
    simp only [List.getD_eq_getElem?_getD, List.getElem?_map, List.getElem?_eq_getElem hi', Option.map_some, Option.getD_some]
    exact fits_lo8 _
end StrChars.Road
namespace StrChars.Road
open Jvm Sem ClassFile Op Lib Jvm.Stand Jvm.Free Jvm.Free.XT
/-- WHAT COMES BACK, in the writer's own shape -/
def QV (Z : State) (x : Addr) (N : Int32) (bs : List Int32) (h : Heap) (n0 : Nat) (v : Option Value) (h' : Heap) (L : List Loc) : Prop := v = none ∧ RoadKit.Fr n0 L ∧ RoadKit.Keep h h' [x] ∧ RoadKit.Exa Z h' x ST ∧ RoadKit.Fld Z h' x ST "coder" "B" (.int 0) ∧
  ∃ (t : Addr) (kb : ClassId), n0 ≤ t ∧ h.size ≤ t ∧ ¬ t = x ∧ RoadKit.Fld Z h' x ST "value" "[B" (.ref t) ∧ RoadKit.Arv Z h' t kb .byte N (bs.map Value.int) (.int 0)
/-- **new String(chars) AT A CALL, FOR THE WRITER**: a char[] of n known ints, each 0 to 255 -/
theorem backV {p : Program} {l : Launch} {e : Env} {R : Room} {s : State} {args : Array Value} {below : List Frame} {len W : Nat} {Z : State} {a0 : Array Value} {h : Heap} (hZ : Z.Warmed39 s.vm) (hw : ∀ d ∈ words, d.before a0 Z = true) {kI : Nat} (wi : (Jvm.Cond.instantiable ST kI).before a0 Z = true)
    {x b : Addr} {kC : ClassId} {cs bs : List Int32} {d v0 c0 : Value} {z N : Int32} {n n0 : Nat} (hx0 : n0 ≤ x) (hh0 : n0 ≤ h.size) (E : RoadKit.Exa Z h x ST) (V : RoadKit.Fld Z h x ST "value" "[B" v0) (C : RoadKit.Fld Z h x ST "coder" "B" c0) (K : RoadKit.Arv Z h b kC .char N (cs.map Value.int) d) (S : RoadKit.Sta Z h ST "COMPACT_STRINGS" "Z" (.int z)) (hz : ¬ z = 0)
    (hn : cs.length = n) (hN : N = Int32.ofNat n) (l0 : 0 < n) (l2 : n ≤ 4000) (hp : ∀ c ∈ cs, ¬ c < 0 ∧ ¬ (255 : Int32) < c) (hb : bs = cs.map (fun c => c.toInt8.toInt32)) (hfr : 4 ≤ R.frames) (hlo : W + 65 ≤ R.locals) :
    Back l R p e below s args (⟨"java/lang/String", "<init>", "([C)V"⟩ : MethodName) len W (fun P a => a = #[.ref x, .ref b] ∧ P.U.heap = h ∧ P.cells + 1 ≤ R.cells ∧ P.slots + n ≤ R.slots)
      (fun P _ v B => ∃ L, QV Z x N bs h n0 v B.U.heap L ∧ B.locs = P.locs ++ L ∧ B.cells = P.cells + 1 ∧ B.slots = P.slots + n) := by
  subst hn hN hb
  refine Back.mono (backArv hZ hw wi E V C K S hz (n32 (by omega)) l0 (by omega) (fun c hc => (hp c hc).2) hfr hlo) (fun P a hp => hp) (fun P a v B hp hq => ?_)
  obtain ⟨L, ⟨q1, q2, q3, q4, q5, q6, q7, ⟨kb, v1, v2⟩, q9⟩, hl, hc, hs⟩ := hq
  exact ⟨L, ⟨q1, fun y hy => by rw [q2 y hy]; exact hx0, q3, q5, q7, h.size, kb, hh0, Nat.le_refl _, Nat.ne_of_gt E.lt, q6, by rw [List.map_map]; exact v2⟩, hl, hc, hs⟩
end StrChars.Road
namespace StrChars
open Jvm Sem ClassFile Op Lib Jvm.Stand Jvm.Free.XT Jvm.Free.ALB Jvm.Free.JM Jvm.Free
open Jvm.Lib.Cold (StaticIs)
def hi8 (x : Int32) : Int32 := lo8 (x >>> ((8 : Int32) &&& 31))
/-- what StringUTF16.getChar makes of two bytes -/
def pairCh (u v : Int32) : Int32 := (((u &&& 255) <<< ((0 : Int32) &&& 31)) ||| ((v &&& 255) <<< ((8 : Int32) &&& 31))).toUInt32.toUInt16.toUInt32.toInt32
theorem lo8_and (x : Int32) : (lo8 x &&& 255).toBitVec.toNat = x.toBitVec.toNat % 256 := by
  have h : (lo8 x).toBitVec = (x.toBitVec.signExtend 8).signExtend 32 := by rw [lo8, Int8.toBitVec_toInt32, Int32.toBitVec_toInt8]
  rw [Int32.toBitVec_and, BitVec.toNat_and, h]
  have e : ((x.toBitVec.signExtend 8).signExtend 32).toNat % 256 = x.toBitVec.toNat % 256 := by
    rw [BitVec.toNat_signExtend]
    have hlt := x.toBitVec.isLt
    simp only [BitVec.toNat_setWidth, BitVec.toNat_signExtend]
    split <;> split <;> omega
  rw [← e]
  exact Nat.and_two_pow_sub_one_eq_mod _ 8
theorem pair_says {c : Int32} (h0 : ¬ c < 0) (h1 : ¬ 65535 < c) : pairCh (lo8 c) (hi8 c) = c := by
  rw [Int32.lt_iff_toInt_lt] at h0 h1
  have e0 : (0 : Int32).toInt = 0 := rfl
  have e1 : (65535 : Int32).toInt = 65535 := rfl
  have hc : c.toInt = c.toBitVec.toNat := by
    have := c.toBitVec.isLt
    have e : c.toInt = c.toBitVec.toInt := rfl
    rw [e] at h0 h1
    rw [e]
    rw [BitVec.toInt_eq_toNat_cond] at h0 h1 ⊢
    split at h0 <;> split <;> omega
  have hn : c.toBitVec.toNat < 65536 := by omega
  have a1 := lo8_and c
  have a2 : (hi8 c &&& 255).toBitVec.toNat = c.toBitVec.toNat / 256 := by
    rw [hi8, lo8_and]
    have e : ((8 : Int32) &&& 31) = 8 := by decide
    rw [e, Int32.toBitVec_shiftRight]
    have e2 : ((8 : Int32).toBitVec.smod 32) = 8#32 := by decide
    rw [e2, BitVec.sshiftRight_eq', BitVec.toNat_sshiftRight_of_msb_false (by rw [BitVec.msb_eq_false_iff_two_mul_lt]; omega)]
    show c.toBitVec.toNat >>> 8 % 256 = _
    rw [Nat.shiftRight_eq_div_pow]
    omega
  unfold pairCh
  apply Int32.toBitVec_inj.mp
  apply BitVec.eq_of_toNat_eq
  have f0 : ((0 : Int32) &&& 31) = 0 := by decide
  have f8 : ((8 : Int32) &&& 31) = 8 := by decide
  rw [f0, f8]
  have g : (((lo8 c &&& 255) <<< (0 : Int32)) ||| ((hi8 c &&& 255) <<< (8 : Int32))).toBitVec.toNat = c.toBitVec.toNat := by
    rw [Int32.toBitVec_or, Int32.toBitVec_shiftLeft, Int32.toBitVec_shiftLeft]
    have s0 : ((0 : Int32).toBitVec.smod 32) = 0#32 := by decide
    have s8 : ((8 : Int32).toBitVec.smod 32) = 8#32 := by decide
    rw [s0, s8, BitVec.toNat_or]
    simp only [BitVec.shiftLeft_eq', BitVec.toNat_shiftLeft, a1, a2]
    show (c.toBitVec.toNat % 256) <<< 0 % 2 ^ 32 ||| (c.toBitVec.toNat / 256) <<< 8 % 2 ^ 32 = _
    rw [Nat.shiftLeft_zero, Nat.mod_eq_of_lt (show c.toBitVec.toNat % 256 < 2 ^ 32 by omega), Nat.mod_eq_of_lt (show (c.toBitVec.toNat / 256) <<< 8 < 2 ^ 32 by rw [Nat.shiftLeft_eq]; omega), Nat.or_comm, ← Nat.shiftLeft_add_eq_or_of_lt (by omega), Nat.shiftLeft_eq]
    omega
  show BitVec.toNat (((((lo8 c &&& 255) <<< (0 : Int32)) ||| ((hi8 c &&& 255) <<< (8 : Int32))).toBitVec.setWidth 16).setWidth 32) = _
  rw [BitVec.toNat_setWidth, BitVec.toNat_setWidth, g]
  omega
end StrChars
namespace StrChars
open Jvm Sem ClassFile Op Lib Jvm.Stand Jvm.Free.XT Jvm.Free.ALB Jvm.Free.JM Jvm.Free
open Jvm.Lib.Cold (StaticIs)
/-- the array's cell V codes the n chars f 0 .. f (n - 1) by the coder cd, as the JDK does: coder 1 just where some char is above 255 -/
def Cod (cd : Int32) (n : Nat) (f : Nat → Int32) (V : Cell) : Prop := (cd = 0 ∧ V.slots.size = n ∧ ∀ j, j < n → V.slots[j]? = some (.int (lo8 (f j))) ∧ ¬ 255 < f j) ∨ (cd = 1 ∧ V.slots.size = 2 * n ∧ (∀ j, j < n → V.slots[2 * j]? = some (.int (lo8 (f j))) ∧ V.slots[2 * j + 1]? = some (.int (hi8 (f j)))) ∧ ∃ j, j < n ∧ 255 < f j)
/-- **x is a String of the n chars f 0 .. f (n - 1)**, Latin-1 or UTF-16; its array at t has the cell V -/
def Txt (x t : Addr) (V : Cell) (cd : Int32) (n : Nat) (f : Nat → Int32) (U : State) : Prop := Exact "java/lang/String" x U ∧ Has x "java/lang/String" "value" "[B" (.ref t) U ∧ Has x "java/lang/String" "coder" "B" (.int cd) U ∧ XT.Arr .byte t V U ∧ Cod cd n f V ∧ ∀ j, j < n → ¬ f j < 0 ∧ ¬ 65535 < f j
theorem Txt.mv {x t : Addr} {V : Cell} {cd : Int32} {n : Nat} {f : Nat → Int32} {U U' : State} (h : Txt x t V cd n f U) (hal : U.vm.Alike U'.vm) (hh : U'.heap = U.heap) : Txt x t V cd n f U' := ⟨h.1.mv hal hh, h.2.1.mv hal hh, h.2.2.1.mv hal hh, h.2.2.2.1.mv hal hh, h.2.2.2.2⟩
end StrChars
namespace StrChars.Road
open Jvm Sem ClassFile Op Lib Jvm.Stand Jvm.Free Jvm.Free.XT
open Jvm.Lib.Cold (StaticIs)
theorem consq {a : Array Value} {s : State} {c : Jvm.Cond} {L : List Jvm.Cond} (h0 : c.before a s = true) (h : ∀ w ∈ L, w.before a s = true) : ∀ w ∈ c :: L, w.before a s = true := fun w hw => (List.mem_cons.mp hw).elim (fun e => e ▸ h0) (h w)
/-- the bytes of the chars cs, low before high -/
def wideBytes : List Int32 → List Value
  | [] => []
  | c :: cs => .int (lo8 c) :: .int (hi8 c) :: wideBytes cs
theorem wide_lo (d : Value) : ∀ (cs : List Int32) (j : Nat), j < cs.length → (wideBytes cs).getD (2 * j) d = .int (lo8 (cs.getD j 0))
  | [], j, h => absurd h (Nat.not_lt_zero j)
  | c :: cs, 0, _ => rfl
  | c :: cs, j + 1, h => by
    have q := wide_lo d cs j (by simpa using h)
    rw [show 2 * (j + 1) = 2 * j + 1 + 1 from by omega]
    simpa [wideBytes] using q
theorem wide_hi (d : Value) : ∀ (cs : List Int32) (j : Nat), j < cs.length → (wideBytes cs).getD (2 * j + 1) d = .int (hi8 (cs.getD j 0))
  | [], j, h => absurd h (Nat.not_lt_zero j)
  | c :: cs, 0, _ => rfl
  | c :: cs, j + 1, h => by
    have q := wide_hi d cs j (by simpa using h)
    rw [show 2 * (j + 1) + 1 = 2 * j + 1 + 1 + 1 from by omega]
    simpa [wideBytes] using q
theorem low_at (d : Value) (cs : List Int32) (j : Nat) (h : j < cs.length) : (cs.map fun c => Value.int (lo8 c)).getD j d = .int (lo8 (cs.getD j 0)) := by
  simp [List.getD_eq_getElem?_getD, h]
/-- an array of N2 bytes vs codes the chars cs by the coder cd -/
def CodA (cs : List Int32) (cd N2 : Int32) (vs : List Value) : Prop := (cd = 0 ∧ N2 = Int32.ofNat cs.length ∧ vs = (cs.map fun c => Value.int (lo8 c)) ∧ ∀ c ∈ cs, ¬ 255 < c) ∨ (cd = 1 ∧ N2 = Int32.ofNat (2 * cs.length) ∧ vs = wideBytes cs ∧ ∃ c ∈ cs, 255 < c)
theorem CodA.cod {cs : List Int32} {cd N2 : Int32} {vs : List Value} {V : Cell} (h : CodA cs cd N2 vs) (hn : 2 * cs.length < 2 ^ 31) (hs : V.slots.size = N2.toNatClampNeg) (hv : RoadKit.Has V vs (.int 0)) : Cod cd cs.length (fun j => cs.getD j 0) V := by
  rcases h with ⟨rfl, rfl, rfl, h⟩ | ⟨rfl, rfl, rfl, c, hc, hw⟩
  · rw [n32 (by omega)] at hs
    exact Or.inl ⟨rfl, hs, fun j hj => ⟨by rw [hv j (by omega), low_at _ _ _ hj], by
      have e : cs.getD j 0 = cs[j] := by simp [List.getD_eq_getElem?_getD, hj]
      show ¬ 255 < cs.getD j 0
      rw [e]; exact h _ (List.getElem_mem _)⟩⟩
  · rw [n32 (by omega)] at hs
    obtain ⟨j, hj, rfl⟩ := List.getElem_of_mem hc
    exact Or.inr ⟨rfl, hs, fun j hj => ⟨by rw [hv _ (by omega), wide_lo _ _ _ hj], by rw [hv _ (by omega), wide_hi _ _ _ hj]⟩, j, hj, by
      have e : cs.getD j 0 = cs[j] := by simp [List.getD_eq_getElem?_getD, hj]
      show 255 < cs.getD j 0
      rw [e]; exact hw⟩
/-- an object of exactly java/lang/String, its two fields found: as the laws ask it -/
theorem strObj {Z U : State} {a0 : Array Value} {kI : Nat} (wi : (Jvm.Cond.instantiable ST kI).before a0 Z = true) (al : Z.vm.Alike U.vm) {x : Addr} {v0 c0 : Value} (E : RoadKit.Exa Z U.heap x ST) (V : RoadKit.Fld Z U.heap x ST "value" "[B" v0) (C : RoadKit.Fld Z U.heap x ST "coder" "B" c0) :
    ∃ (D : Cell) (fV fC : Field), Blank ST x D U ∧ Found ST "value" "[B" fV U ∧ Found ST "coder" "B" fC U ∧ D.slots[fV.slot]? = some v0 ∧ D.slots[fC.slot]? = some c0 ∧ RoadKit.slotOf Z ST "value" "[B" = fV.slot ∧ RoadKit.slotOf Z ST "coder" "B" = fC.slot := by
  obtain ⟨D, cfV, kV, iV, fV, hD, gV, stV, knV, obV, asV, slV⟩ := V
  obtain ⟨D', cfC, kC, iC, fC, hD', gC, stC, -, -, asC, slC⟩ := C
  cases hD.symm.trans hD'
  obtain ⟨D2, kD, e1, e2, e3, e4, e5⟩ := E
  cases hD.symm.trans e1
  obtain ⟨c2, k2, i1, i2, i3, -⟩ := Cond.instantiable_spec wi
  cases e2.symm.trans i1
  cases e3.symm.trans i2
  obtain ⟨kU, u1, u2⟩ := al.2.2 _ _ e3
  exact ⟨D, fV, fC, ⟨hD, ⟨knV, fun q hq => by rw [hq] at obV; cases obV⟩, by rw [al.findClass]; exact e2, kU, u1, by rw [u2]; exact i3, by rw [u2]; exact e5 i3⟩, ⟨SBG.found_only al ⟨cfV, kV, iV, gV⟩, stV⟩, ⟨SBG.found_only al ⟨cfC, kC, iC, gC⟩, stC⟩, slV, slC, by simp [RoadKit.slotOf, gV], by simp [RoadKit.slotOf, gC]⟩
theorem sta_is {Z U : State} (al : Z.vm.Alike U.vm) {C n d : String} {v : Value} (S : RoadKit.Sta Z U.heap C n d v) : StaticIs U C n d v := by
  obtain ⟨cfS, iS, kS, fS, st, cS, t1, t2, t3, t4, t5, t6, t7⟩ := S
  exact StaticIs.there (s := { Z with heap := U.heap }) ⟨cfS, iS, kS, fS, st, cS, t1, t2, t3, t4, t5, (fun q => by rw [q] at t6; cases t6), t7⟩ al rfl
end StrChars.Road
namespace StrChars
open Jvm Sem ClassFile Op Lib Jvm.Stand Jvm.Free.XT Jvm.Free.ALB Jvm.Free.JM Jvm.Free
open Jvm.Lib.Cold (StaticIs)
/-- what place i of a byte[]'s cell holds -/
def yv (A : Cell) (i : Nat) : Int32 := match A.slots[i]? with | some (.int x) => x | _ => 0
theorem yv_get {a : Addr} {A : Cell} {U : State} (h : XT.Arr .byte a A U) (ht : Typed .byte A) {i : Nat} (hi : i < A.slots.size) : A.slots[i]? = some (.int (yv A i)) := by
  have e := Array.getElem?_eq_getElem hi
  have f := ht i _ e
  unfold yv; rw [e]
  generalize A.slots[i] = v at f
  cases v <;> simp [fits] at f ⊢
/-- the two arrays are equal, place for place -/
def EqC (A B : Cell) : Prop := A.slots.size = B.slots.size ∧ ∀ i, i < A.slots.size → yv A i = yv B i
/-- a boolean that says whether p -/
def Says01 (q : Prop) (r : Option Value) (s u : State) : Prop := ∃ v : Int32, r = some (.int v) ∧ u.heap = s.heap ∧ ((v = 1 ∧ q) ∨ (v = 0 ∧ ¬ q))
theorem Says01.mv {q : Prop} : ∀ r (U U' V V' : State), U'.heap = U.heap → V.vm.Alike V'.vm → V'.heap = V.heap → Says01 q r U V → Says01 q r U' V' :=
  fun r U U' V V' h1 _ h2 ⟨v, a, b, c⟩ => ⟨v, a, by rw [h1, h2]; exact b, c⟩
namespace LEq
def yN : MethodName := ⟨"java/lang/StringLatin1", "equals", "([B[B)Z"⟩
abbrev yB : ByteArray := jdk_43_method_13_code
theorem d0 : decode yB 0 = .ok (.aload_n 0, 1) := by decide +kernel
theorem d1 : decode yB 1 = .ok (.arraylength, 1) := by decide +kernel
theorem d2 : decode yB 2 = .ok (.aload_n 1, 1) := by decide +kernel
theorem d3 : decode yB 3 = .ok (.arraylength, 1) := by decide +kernel
theorem d4 : decode yB 4 = .ok (.if_icmp (.ne) 30, 3) := by decide +kernel
theorem d7 : decode yB 7 = .ok (.iconst 0, 1) := by decide +kernel
theorem d8 : decode yB 8 = .ok (.istore_n 2, 1) := by decide +kernel
theorem d9 : decode yB 9 = .ok (.iload_n 2, 1) := by decide +kernel
theorem d10 : decode yB 10 = .ok (.aload_n 0, 1) := by decide +kernel
theorem d11 : decode yB 11 = .ok (.arraylength, 1) := by decide +kernel
theorem d12 : decode yB 12 = .ok (.if_icmp (.ge) 20, 3) := by decide +kernel
theorem d15 : decode yB 15 = .ok (.aload_n 0, 1) := by decide +kernel
theorem d16 : decode yB 16 = .ok (.iload_n 2, 1) := by decide +kernel
theorem d17 : decode yB 17 = .ok (.baload, 1) := by decide +kernel
theorem d18 : decode yB 18 = .ok (.aload_n 1, 1) := by decide +kernel
theorem d19 : decode yB 19 = .ok (.iload_n 2, 1) := by decide +kernel
theorem d20 : decode yB 20 = .ok (.baload, 1) := by decide +kernel
theorem d21 : decode yB 21 = .ok (.if_icmp (.eq) 5, 3) := by decide +kernel
theorem d24 : decode yB 24 = .ok (.iconst 0, 1) := by decide +kernel
theorem d25 : decode yB 25 = .ok (.ireturn, 1) := by decide +kernel
theorem d26 : decode yB 26 = .ok (.iinc 2 1, 3) := by decide +kernel
theorem d29 : decode yB 29 = .ok (.goto (-20), 3) := by decide +kernel
theorem d32 : decode yB 32 = .ok (.iconst 1, 1) := by decide +kernel
theorem d33 : decode yB 33 = .ok (.ireturn, 1) := by decide +kernel
theorem d34 : decode yB 34 = .ok (.iconst 0, 1) := by decide +kernel
theorem d35 : decode yB 35 = .ok (.ireturn, 1) := by decide +kernel
def site : List Cond := []
def tab : Cond := tabOf yN yB 3 (some .boolean) site
def P (a : Addr) (A : Cell) (b : Addr) (B : Cell) (args : Array Value) (s : State) : Prop := args = #[.ref a, .ref b] ∧ XT.Arr .byte a A s ∧ Typed .byte A ∧ XT.Arr .byte b B s ∧ Typed .byte B
/-- whether two byte[] are equal, place for place -/
theorem law (l : Launch) (a : Addr) (A : Cell) (b : Addr) (B : Cell) : Law l yN 2 2 0 0 yB 3 (some .boolean) site (P a A b B) (Says01 (EqC A B)) [] 0 0 := by
  refine Law.of_walk (plainFor_of_name (by decide +kernel)) (by decide +kernel) (by decide +kernel) (by decide) (fun _ _ h => by rw [h.1]; rfl) (fun _ U U' hal hh h => ⟨h.1, h.2.1.mv hal hh, h.2.2.1, h.2.2.2.1.mv hal hh, h.2.2.2.2⟩) (fun r U U' V V' h1 hal h2 h => Says01.mv r U U' V V' h1 hal h2 h) ?_
  intro p e s m args below meth c s₁ X0 hexec hbytes hml hret hlk hnm hown hh0 W hP
  obtain ⟨rfl, hA, tA, hB, tB⟩ := hP
  have a31 := hA.2.2.2
  have b31 := hB.2.2.2
  have hA0 := hA.mv X0.warmed.alike hh0
  have hB0 := hB.mv X0.warmed.alike hh0
  have c1 : Steps p.tables e below (s₁.setTop (entryFrame m #[.ref a, .ref b] 3)) (s₁.setTop (mkF m 0 #[.val (.ref a), .val (.ref b), .unset] [])) := entry rfl
  have c2 : Steps p.tables e below (s₁.setTop (entryFrame m #[.ref a, .ref b] 3)) (s₁.setTop (mkF m 4 #[.val (.ref a), .val (.ref b), .unset] [.int (Int32.ofNat B.slots.size), .int (Int32.ofNat A.slots.size)])) := c1.trans (by
    refine XS.aloadN X0.here hexec rfl (hb hbytes d0) rfl rfl ?_
    refine X0.alen hexec hA0 rfl rfl (hb hbytes d1) ?_
    refine XS.aloadN X0.here hexec rfl (hb hbytes d2) rfl rfl ?_
    refine X0.alen hexec hB0 rfl rfl (hb hbytes d3) ?_
    exact Steps.refl _)
  by_cases hs : A.slots.size = B.slots.size
  · have c3 : Steps p.tables e below (s₁.setTop (entryFrame m #[.ref a, .ref b] 3)) (s₁.setTop (mkF m 9 #[.val (.ref a), .val (.ref b), .val (.int 0)] [])) := c2.trans (by
      refine XS.icmpNo X0.here hexec rfl (hb hbytes d4) rfl (ii_ne_f (by rw [hs])) ?_
      refine iconstV X0.here hexec rfl 0 (hb hbytes d7) (by decide) ?_
      refine XS.istoreN X0.here hexec rfl (hb hbytes d8) rfl rfl ?_
      exact Steps.refl _)
    have loop : ∀ (r i : Nat), i + r = A.slots.size → (∀ j, j < i → yv A j = yv B j) → Steps p.tables e below (s₁.setTop (entryFrame m #[.ref a, .ref b] 3)) (s₁.setTop (mkF m 9 #[.val (.ref a), .val (.ref b), .val (.int (Int32.ofNat i))] [])) → ∃ (pc : Nat) (Ls : Array Slot) (v : Int32), (pc = 25 ∨ pc = 33) ∧ ((v = 1 ∧ EqC A B) ∨ (v = 0 ∧ ¬ EqC A B)) ∧ Steps p.tables e below (s₁.setTop (entryFrame m #[.ref a, .ref b] 3)) (s₁.setTop (mkF m pc Ls [.int v])) := by
      intro r
      induction r with
      | zero =>
        intro i hi he cl
        exact ⟨33, _, 1, Or.inr rfl, Or.inl ⟨rfl, hs, fun j hj => he j (by omega)⟩, cl.trans (by
          refine XS.iloadN X0.here hexec rfl (hb hbytes d9) rfl ?_
          refine XS.aloadN X0.here hexec rfl (hb hbytes d10) rfl rfl ?_
          refine X0.alen hexec hA0 rfl rfl (hb hbytes d11) ?_
          refine XS.icmpYes X0.here hexec rfl (pc0 := 12) rfl (hb hbytes d12) rfl (ii_ge_t (nlt32 (by omega) (by omega))) (by decide) rfl ?_
          refine iconstV X0.here hexec rfl 1 (hb hbytes d32) (by decide) ?_
          exact Steps.refl _)⟩
      | succ r ih =>
        intro i hi he cl
        have c4 : Steps p.tables e below (s₁.setTop (entryFrame m #[.ref a, .ref b] 3)) (s₁.setTop (mkF m 21 #[.val (.ref a), .val (.ref b), .val (.int (Int32.ofNat i))] [.int (yv B i), .int (yv A i)])) := cl.trans (by
          refine XS.iloadN X0.here hexec rfl (hb hbytes d9) rfl ?_
          refine XS.aloadN X0.here hexec rfl (hb hbytes d10) rfl rfl ?_
          refine X0.alen hexec hA0 rfl rfl (hb hbytes d11) ?_
          refine XS.icmpNo X0.here hexec rfl (hb hbytes d12) rfl (ii_ge_f (lt32 (by omega) (by omega))) ?_
          refine XS.aloadN X0.here hexec rfl (hb hbytes d15) rfl rfl ?_
          refine XS.iloadN X0.here hexec rfl (hb hbytes d16) rfl ?_
          refine X0.aget hexec hA0 rfl (yv_get hA tA (i := i) (by omega)) rfl rfl (hb hbytes d17) ?_
          refine XS.aloadN X0.here hexec rfl (hb hbytes d18) rfl rfl ?_
          refine XS.iloadN X0.here hexec rfl (hb hbytes d19) rfl ?_
          refine X0.aget hexec hB0 rfl (yv_get hB tB (i := i) (by omega)) rfl rfl (hb hbytes d20) ?_
          exact Steps.refl _)
        by_cases hv : yv A i = yv B i
        · have c5 : Steps p.tables e below (s₁.setTop (entryFrame m #[.ref a, .ref b] 3)) (s₁.setTop (mkF m 9 #[.val (.ref a), .val (.ref b), .val (.int (Int32.ofNat i + 1))] [])) := c4.trans (by
            refine XS.icmpYes X0.here hexec rfl (pc0 := 21) rfl (hb hbytes d21) rfl (ii_eq_t hv) (by decide) rfl ?_
            refine iincV X0.here hexec rfl 1 (hb hbytes d26) (by decide) rfl rfl ?_
            refine XS.goto X0.here hexec rfl (pc0 := 29) rfl (hb hbytes d29) (by decide) rfl ?_
            exact Steps.refl _)
          rw [succ32] at c5
          exact ih (i + 1) (by omega) (fun j hj => by
            by_cases e : j = i
            · rw [e]; exact hv
            · exact he j (by omega)) c5
        · exact ⟨25, _, 0, Or.inl rfl, Or.inr ⟨rfl, fun q => hv (q.2 i (by omega))⟩, c4.trans (by
            refine XS.icmpNo X0.here hexec rfl (hb hbytes d21) rfl (ii_eq_f hv) ?_
            refine iconstV X0.here hexec rfl 0 (hb hbytes d24) (by decide) ?_
            exact Steps.refl _)⟩
    obtain ⟨pc, Ls, v, hpc, hv, cz⟩ := loop A.slots.size 0 (by omega) (fun j hj => absurd hj (Nat.not_lt_zero j)) c3
    have nv : narrow .boolean (.int v) = .int v := by rcases hv with ⟨rfl, -⟩ | ⟨rfl, -⟩ <;> rfl
    rcases hpc with rfl | rfl
    · exact ⟨s₁, some (.int v), _, _, _, X0, rfl, rfl, rfl, (fun h => by cases h), ⟨v, rfl, hh0, hv⟩, fun fs hl => cz.trans (X0.ireturnOut hexec hret nv (Or.inr (Or.inl rfl)) (hb hbytes d25) hl)⟩
    · exact ⟨s₁, some (.int v), _, _, _, X0, rfl, rfl, rfl, (fun h => by cases h), ⟨v, rfl, hh0, hv⟩, fun fs hl => cz.trans (X0.ireturnOut hexec hret nv (Or.inr (Or.inl rfl)) (hb hbytes d33) hl)⟩
  · have c3 : Steps p.tables e below (s₁.setTop (entryFrame m #[.ref a, .ref b] 3)) (s₁.setTop (mkF m 35 #[.val (.ref a), .val (.ref b), .unset] [.int 0])) := c2.trans (by
      refine XS.icmpYes X0.here hexec rfl (pc0 := 4) rfl (hb hbytes d4) rfl (ii_ne_t (ne32 a31 b31 hs)) (by decide) rfl ?_
      refine iconstV X0.here hexec rfl 0 (hb hbytes d34) (by decide) ?_
      exact Steps.refl _)
    exact ⟨s₁, some (.int 0), _, _, _, X0, rfl, rfl, rfl, (fun h => by cases h), ⟨0, rfl, hh0, Or.inr ⟨rfl, fun q => hs q.1⟩⟩, fun fs hl => c3.trans (X0.ireturnOut hexec hret rfl (Or.inr (Or.inl rfl)) (hb hbytes d35) hl)⟩
end LEq
theorem Cod.ty {cd : Int32} {n : Nat} {f : Nat → Int32} {V : Cell} (h : Cod cd n f V) : Typed .byte V := fun i v hv => by
  have hi : i < V.slots.size := (Array.getElem?_eq_some_iff.mp hv).1
  rcases h with ⟨-, k1, k2⟩ | ⟨-, k1, k2, -⟩
  · rw [(k2 i (by omega)).1] at hv; cases hv; exact fits_lo8 _
  · rcases Nat.mod_two_eq_zero_or_one i with e | e
    · obtain ⟨j, rfl⟩ : ∃ j, i = 2 * j := ⟨i / 2, by omega⟩
      rw [(k2 j (by omega)).1] at hv; cases hv; exact fits_lo8 _
    · obtain ⟨j, rfl⟩ : ∃ j, i = 2 * j + 1 := ⟨i / 2, by omega⟩
      rw [(k2 j (by omega)).2] at hv; cases hv; exact fits_lo8 _
/-- the same text -/
def SameT (n : Nat) (f : Nat → Int32) (k : Nat) (g : Nat → Int32) : Prop := n = k ∧ ∀ j, j < n → f j = g j
theorem lo8_inj {x y : Int32} (h0 : ¬ x < 0) (h1 : ¬ 255 < x) (k0 : ¬ y < 0) (k1 : ¬ 255 < y) (h : lo8 x = lo8 y) : x = y := by
  rw [← lo8_mask h0 h1, ← lo8_mask k0 k1, h]
/-- arrays coded by one coder are equal just where the texts are -/
theorem Cod.eqv {cd : Int32} {n k : Nat} {f g : Nat → Int32} {V V' : Cell} (h : Cod cd n f V) (h' : Cod cd k g V') (hf : ∀ j, j < n → ¬ f j < 0 ∧ ¬ 65535 < f j) (hg : ∀ j, j < k → ¬ g j < 0 ∧ ¬ 65535 < g j) : EqC V V' ↔ SameT n f k g := by
  have yvv : ∀ {W : Cell} {i : Nat} {x : Int32}, W.slots[i]? = some (.int x) → yv W i = x := fun q => by unfold yv; rw [q]
  rcases h with ⟨rfl, k1, k2⟩ | ⟨rfl, k1, k2, -⟩
  · rcases h' with ⟨-, m1, m2⟩ | ⟨e, -⟩
    · constructor
      · rintro ⟨e1, e2⟩
        refine ⟨by omega, fun j hj => ?_⟩
        have q := e2 j (by omega)
        rw [yvv (k2 j hj).1, yvv (m2 j (by omega)).1] at q
        exact lo8_inj (hf j hj).1 (k2 j hj).2 (hg j (by omega)).1 (m2 j (by omega)).2 q
      · rintro ⟨rfl, e2⟩
        refine ⟨by omega, fun j hj => ?_⟩
        rw [yvv (k2 j (by omega)).1, yvv (m2 j (by omega)).1, e2 j (by omega)]
    · exact absurd e (by decide)
  · rcases h' with ⟨e, -⟩ | ⟨-, m1, m2, -⟩
    · exact absurd e (by decide)
    · constructor
      · rintro ⟨e1, e2⟩
        refine ⟨by omega, fun j hj => ?_⟩
        have q1 := e2 (2 * j) (by omega)
        have q2 := e2 (2 * j + 1) (by omega)
        rw [yvv (k2 j hj).1, yvv (m2 j (by omega)).1] at q1
        rw [yvv (k2 j hj).2, yvv (m2 j (by omega)).2] at q2
        rw [← pair_says (hf j hj).1 (hf j hj).2, ← pair_says (hg j (by omega)).1 (hg j (by omega)).2, q1, q2]
      · rintro ⟨rfl, e2⟩
        refine ⟨by omega, fun i hi => ?_⟩
        rcases Nat.mod_two_eq_zero_or_one i with e | e
        · obtain ⟨j, rfl⟩ : ∃ j, i = 2 * j := ⟨i / 2, by omega⟩
          rw [yvv (k2 j (by omega)).1, yvv (m2 j (by omega)).1, e2 j (by omega)]
        · obtain ⟨j, rfl⟩ : ∃ j, i = 2 * j + 1 := ⟨i / 2, by omega⟩
          rw [yvv (k2 j (by omega)).2, yvv (m2 j (by omega)).2, e2 j (by omega)]
/-- two codings differ: so do the texts -/
theorem Cod.dif {cd cd' : Int32} {n k : Nat} {f g : Nat → Int32} {V V' : Cell} (h : Cod cd n f V) (h' : Cod cd' k g V') (hne : ¬ cd = cd') : ¬ SameT n f k g := by
  rintro ⟨rfl, e⟩
  rcases h with ⟨rfl, -, k2⟩ | ⟨rfl, -, -, j, hj, hw⟩
  · rcases h' with ⟨rfl, -⟩ | ⟨-, -, -, j, hj, hw⟩
    · exact hne rfl
    · exact (k2 j hj).2 (by rw [e j hj]; exact hw)
  · rcases h' with ⟨-, -, m2⟩ | ⟨rfl, -⟩
    · exact (m2 j hj).2 (by rw [← e j hj]; exact hw)
    · exact hne rfl
/-- an object of exactly C is an instance of C -/
theorem cinst {p : Program} {l : Launch} {e : Env} {R : Room} {s : State} {m : MethodId} {args : Array Value} {below : List Frame} {meth : Method} {c : Code} {T : State} {locs : List Loc} {cells slots : Nat} (X : Stand p l e R s m args below meth c T locs cells slots) (hexec : p.tables.exec = Jvm.exec) {own C : String} {index : Nat} (hown : s.vm.findClass own = some m.cls) (hlink : (Cond.classLink own index C).before args s = true) {a : Addr} (hE : Exact C a T)
    {g : JFrame} (hg : g.method = m) {rest : List Value} (hstack : g.stack = .ref a :: rest) (hdg : decode c.code g.pc = .ok (.instanceof index, 3)) :
    ∃ T', Stand p l e R s m args below meth c T' locs cells slots ∧ T'.heap = T.heap ∧ ∀ target, Steps p.tables e below (T'.setTop { g with pc := g.pc + 3, stack := .int 1 :: rest }) target → Steps p.tables e below (T.setTop g) target := by
  obtain ⟨cB, h1, D, h2, h3, h4⟩ := hE
  have h1' : s.vm.findClass C = some cB := by rw [← X.warmed.alike.findClass]; exact h1
  obtain ⟨vm', X', st⟩ := X.instanceofYes hexec hown hlink h2 h4 h1' (by rw [h3]; exact Jvm.Free.SB.assignable_self _ _) hg hstack hdg
  exact ⟨_, X', rfl, st⟩
theorem cself {p : Program} {l : Launch} {e : Env} {R : Room} {s : State} {m : MethodId} {args : Array Value} {below : List Frame} {meth : Method} {c : Code} {T : State} {locs : List Loc} {cells slots : Nat} (X : Stand p l e R s m args below meth c T locs cells slots) (hexec : p.tables.exec = Jvm.exec) {own C : String} {index : Nat} (hown : s.vm.findClass own = some m.cls) (hlink : (Cond.classLink own index C).before args s = true) {a : Addr} (hE : Exact C a T)
    {g : JFrame} (hg : g.method = m) {rest : List Value} (hstack : g.stack = .ref a :: rest) (hdg : decode c.code g.pc = .ok (.checkcast index, 3)) :
    ∃ T', Stand p l e R s m args below meth c T' locs cells slots ∧ T'.heap = T.heap ∧ ∀ target, Steps p.tables e below (T'.setTop { g with pc := g.pc + 3, stack := .ref a :: rest }) target → Steps p.tables e below (T.setTop g) target := by
  obtain ⟨cB, h1, D, h2, h3, h4⟩ := hE
  have h1' : s.vm.findClass C = some cB := by rw [← X.warmed.alike.findClass]; exact h1
  obtain ⟨vm', X', st⟩ := X.checkcastYes hexec hown hlink h2 h4 h1' (by rw [h3]; exact Jvm.Free.SB.assignable_self _ _) hg hstack hdg
  exact ⟨_, X', rfl, fun t h => st t (by rw [← hstack] at h; exact h)⟩
namespace SEq
def yN : MethodName := ⟨"java/lang/String", "equals", "(Ljava/lang/Object;)Z"⟩
abbrev yB : ByteArray := jdk_42_method_66_code
theorem d0 : decode yB 0 = .ok (.aload_n 0, 1) := by decide +kernel
theorem d1 : decode yB 1 = .ok (.aload_n 1, 1) := by decide +kernel
theorem d2 : decode yB 2 = .ok (.if_acmp (.ne) 5, 3) := by decide +kernel
theorem d5 : decode yB 5 = .ok (.iconst 1, 1) := by decide +kernel
theorem d6 : decode yB 6 = .ok (.ireturn, 1) := by decide +kernel
theorem d7 : decode yB 7 = .ok (.aload_n 1, 1) := by decide +kernel
theorem d8 : decode yB 8 = .ok (.instanceof 10, 3) := by decide +kernel
theorem d11 : decode yB 11 = .ok (.ifCond (.eq) 43, 3) := by decide +kernel
theorem d14 : decode yB 14 = .ok (.aload_n 1, 1) := by decide +kernel
theorem d15 : decode yB 15 = .ok (.checkcast 10, 3) := by decide +kernel
theorem d18 : decode yB 18 = .ok (.astore_n 2, 1) := by decide +kernel
theorem d19 : decode yB 19 = .ok (.getstatic 38, 3) := by decide +kernel
theorem d22 : decode yB 22 = .ok (.ifCond (.eq) 14, 3) := by decide +kernel
theorem d25 : decode yB 25 = .ok (.aload_n 0, 1) := by decide +kernel
theorem d26 : decode yB 26 = .ok (.getfield 15, 3) := by decide +kernel
theorem d29 : decode yB 29 = .ok (.aload_n 2, 1) := by decide +kernel
theorem d30 : decode yB 30 = .ok (.getfield 15, 3) := by decide +kernel
theorem d33 : decode yB 33 = .ok (.if_icmp (.ne) 21, 3) := by decide +kernel
theorem d36 : decode yB 36 = .ok (.aload_n 0, 1) := by decide +kernel
theorem d37 : decode yB 37 = .ok (.getfield 9, 3) := by decide +kernel
theorem d40 : decode yB 40 = .ok (.aload_n 2, 1) := by decide +kernel
theorem d41 : decode yB 41 = .ok (.getfield 9, 3) := by decide +kernel
theorem d44 : decode yB 44 = .ok (.invokestatic 541, 3) := by decide +kernel
theorem d47 : decode yB 47 = .ok (.ifCond (.eq) 7, 3) := by decide +kernel
theorem d50 : decode yB 50 = .ok (.iconst 1, 1) := by decide +kernel
theorem d51 : decode yB 51 = .ok (.goto 4, 3) := by decide +kernel
theorem d54 : decode yB 54 = .ok (.iconst 0, 1) := by decide +kernel
theorem d55 : decode yB 55 = .ok (.ireturn, 1) := by decide +kernel
def site : List Cond := [.classLink "java/lang/String" 10 "java/lang/String", .fieldLink "java/lang/String" 38 "java/lang/String" "COMPACT_STRINGS" "Z", .fieldLink "java/lang/String" 15 "java/lang/String" "coder" "B", .fieldLink "java/lang/String" 9 "java/lang/String" "value" "[B", LEq.tab] ++ staticW "java/lang/String" 541 LEq.yN
def tab : Cond := tabOf yN yB 3 (some .boolean) site
def P (x t : Addr) (V : Cell) (cd : Int32) (n : Nat) (f : Nat → Int32) (y t' : Addr) (V' : Cell) (cd' : Int32) (k : Nat) (g : Nat → Int32) (z : Int32) (args : Array Value) (s : State) : Prop := args = #[.ref x, .ref y] ∧ Txt x t V cd n f s ∧ Txt y t' V' cd' k g s ∧ StaticIs s "java/lang/String" "COMPACT_STRINGS" "Z" (.int z) ∧ ¬ z = 0
/-- equals(Object) of two Strings: whether the texts are the same -/
theorem law (l : Launch) (x t : Addr) (V : Cell) (cd : Int32) (n : Nat) (f : Nat → Int32) (y t' : Addr) (V' : Cell) (cd' : Int32) (k : Nat) (g : Nat → Int32) (z : Int32) : Law l yN 2 1 1 14 yB 3 (some .boolean) site (P x t V cd n f y t' V' cd' k g z) (Says01 (SameT n f k g)) [] 0 0 := by
  refine Law.of_walk (plainFor_of_name (by decide +kernel)) (by decide +kernel) (by decide +kernel) (by decide) (fun _ _ h => by rw [h.1]; rfl) (fun _ U U' hal hh h => ⟨h.1, h.2.1.mv hal hh, h.2.2.1.mv hal hh, h.2.2.2.1.there hal hh, h.2.2.2.2⟩) (fun r U U' V V' h1 hal h2 h => Says01.mv r U U' V V' h1 hal h2 h) ?_
  intro p e s m args below meth c s₁ X0 hexec hbytes hml hret hlk hnm hown hh0 W hP
  obtain ⟨rfl, hx, hy, s1, hz⟩ := hP
  have c1 : Steps p.tables e below (s₁.setTop (entryFrame m #[.ref x, .ref y] 3)) (s₁.setTop (mkF m 2 #[.val (.ref x), .val (.ref y), .unset] [.ref y, .ref x])) := Steps.trans (entry rfl) (by
    show Steps p.tables e below (s₁.setTop (mkF m 0 #[.val (.ref x), .val (.ref y), .unset] [])) _
    refine XS.aloadN X0.here hexec rfl (hb hbytes d0) rfl rfl ?_
    refine XS.aloadN X0.here hexec rfl (hb hbytes d1) rfl rfl ?_
    exact Steps.refl _)
  by_cases hxy : x = y
  · have c2 : Steps p.tables e below (s₁.setTop (entryFrame m #[.ref x, .ref y] 3)) (s₁.setTop (mkF m 6 #[.val (.ref x), .val (.ref y), .unset] [.int 1])) := c1.trans (by
      refine acmpNo X0.here hexec rfl (hb hbytes d2) rfl rfl rfl (by simp [acmp, hxy]) ?_
      refine iconstV X0.here hexec rfl 1 (hb hbytes d5) (by decide) ?_
      exact Steps.refl _)
    subst hxy
    have ec : cd = cd' := by
      obtain ⟨D, fd, a1, a2, a3⟩ := hx.2.2.1
      obtain ⟨D', fd', b1, b2, b3⟩ := hy.2.2.1
      cases a1.symm.trans b1
      obtain ⟨q1, q2, q3, q4⟩ := a2.1
      obtain ⟨r1, r2, r3, r4⟩ := b2.1
      cases q4.symm.trans r4
      cases a3.symm.trans b3; rfl
    have et : t = t' := by
      obtain ⟨D, fd, a1, a2, a3⟩ := hx.2.1
      obtain ⟨D', fd', b1, b2, b3⟩ := hy.2.1
      cases a1.symm.trans b1
      obtain ⟨q1, q2, q3, q4⟩ := a2.1
      obtain ⟨r1, r2, r3, r4⟩ := b2.1
      cases q4.symm.trans r4
      cases a3.symm.trans b3; rfl
    subst ec et
    have ev : V = V' := by cases hx.2.2.2.1.1.symm.trans hy.2.2.2.1.1; rfl
    subst ev
    have hs : SameT n f k g := (Cod.eqv hx.2.2.2.2.1 hy.2.2.2.2.1 hx.2.2.2.2.2 hy.2.2.2.2.2).mp ⟨rfl, fun _ _ => rfl⟩
    exact ⟨s₁, some (.int 1), _, _, _, X0, rfl, rfl, rfl, (fun h => by cases h), ⟨1, rfl, hh0, Or.inl ⟨rfl, hs⟩⟩, fun fs hl => c2.trans (X0.ireturnOut hexec hret rfl (Or.inr (Or.inl rfl)) (hb hbytes d6) hl)⟩
  · have c2 : Steps p.tables e below (s₁.setTop (entryFrame m #[.ref x, .ref y] 3)) (s₁.setTop (mkF m 8 #[.val (.ref x), .val (.ref y), .unset] [.ref y])) := c1.trans (by
      refine acmpYes X0.here hexec rfl (pc0 := 2) rfl (hb hbytes d2) rfl rfl rfl (by simp [acmp, hxy]) (by decide) rfl ?_
      refine XS.aloadN X0.here hexec rfl (hb hbytes d7) rfl rfl ?_
      exact Steps.refl _)
    obtain ⟨T3, X3, q3, st3⟩ := cinst X0 hexec hown (wk W (.classLink "java/lang/String" 10 "java/lang/String")) (hy.mv X0.warmed.alike hh0).1 (g := (mkF m 8 #[.val (.ref x), .val (.ref y), .unset] [.ref y])) rfl (rest := []) rfl (hb hbytes d8)
    have hh3 := q3.trans hh0
    have c4 : Steps p.tables e below (s₁.setTop (entryFrame m #[.ref x, .ref y] 3)) (T3.setTop (mkF m 15 #[.val (.ref x), .val (.ref y), .unset] [.ref y])) := (c2.trans (st3 _ (Steps.refl _))).trans (by
      refine XS.ifNo X3.here hexec rfl (hb hbytes d11) rfl (i0_eq_f (by decide)) ?_
      refine XS.aloadN X3.here hexec rfl (hb hbytes d14) rfl rfl ?_
      exact Steps.refl _)
    obtain ⟨T5, X5, q5, st5⟩ := cself X3 hexec hown (wk W (.classLink "java/lang/String" 10 "java/lang/String")) (hy.mv X3.warmed.alike hh3).1 (g := (mkF m 15 #[.val (.ref x), .val (.ref y), .unset] [.ref y])) rfl (rest := []) rfl (hb hbytes d15)
    have hh5 := q5.trans hh3
    have c6 : Steps p.tables e below (s₁.setTop (entryFrame m #[.ref x, .ref y] 3)) (T5.setTop (mkF m 19 #[.val (.ref x), .val (.ref y), .val (.ref y)] [])) := (c4.trans (st5 _ (Steps.refl _))).trans (by
      refine XS.astoreN X5.here hexec rfl (hb hbytes d18) rfl rfl rfl ?_
      exact Steps.refl _)
    obtain ⟨T7, X7, q7, st7⟩ := X5.sget hexec hown (wk W (.fieldLink "java/lang/String" 38 "java/lang/String" "COMPACT_STRINGS" "Z")) s1 (fun _ _ h => by rw [hh5]; exact h) (g := (mkF m 19 #[.val (.ref x), .val (.ref y), .val (.ref y)] [])) rfl (hb hbytes d19)
    have hh7 := q7.trans hh5
    have c8 : Steps p.tables e below (s₁.setTop (entryFrame m #[.ref x, .ref y] 3)) (T7.setTop (mkF m 26 #[.val (.ref x), .val (.ref y), .val (.ref y)] [.ref x])) := (c6.trans (st7 _ (Steps.refl _))).trans (by
      refine XS.ifNo X7.here hexec rfl (hb hbytes d22) rfl (i0_eq_f hz) ?_
      refine XS.aloadN X7.here hexec rfl (hb hbytes d25) rfl rfl ?_
      exact Steps.refl _)
    obtain ⟨T9, X9, q9, st9⟩ := X7.hget hexec hown (wk W (.fieldLink "java/lang/String" 15 "java/lang/String" "coder" "B")) (hx.mv X7.warmed.alike hh7).2.2.1 (g := (mkF m 26 #[.val (.ref x), .val (.ref y), .val (.ref y)] [.ref x])) rfl (rest := []) rfl (hb hbytes d26)
    have hh9 := q9.trans hh7
    have c10 : Steps p.tables e below (s₁.setTop (entryFrame m #[.ref x, .ref y] 3)) (T9.setTop (mkF m 30 #[.val (.ref x), .val (.ref y), .val (.ref y)] [.ref y, .int cd])) := (c8.trans (st9 _ (Steps.refl _))).trans (by
      refine XS.aloadN X9.here hexec rfl (hb hbytes d29) rfl rfl ?_
      exact Steps.refl _)
    obtain ⟨T11, X11, q11, st11⟩ := X9.hget hexec hown (wk W (.fieldLink "java/lang/String" 15 "java/lang/String" "coder" "B")) (hy.mv X9.warmed.alike hh9).2.2.1 (g := (mkF m 30 #[.val (.ref x), .val (.ref y), .val (.ref y)] [.ref y, .int cd])) rfl (rest := [.int cd]) rfl (hb hbytes d30)
    have hh11 := q11.trans hh9
    have c12 : Steps p.tables e below (s₁.setTop (entryFrame m #[.ref x, .ref y] 3)) (T11.setTop (mkF m 33 #[.val (.ref x), .val (.ref y), .val (.ref y)] [.int cd', .int cd])) := c10.trans (st11 _ (Steps.refl _))
    by_cases hcd : cd = cd'
    · subst hcd
      have c13 : Steps p.tables e below (s₁.setTop (entryFrame m #[.ref x, .ref y] 3)) (T11.setTop (mkF m 37 #[.val (.ref x), .val (.ref y), .val (.ref y)] [.ref x])) := c12.trans (by
        refine XS.icmpNo X11.here hexec rfl (hb hbytes d33) rfl (ii_ne_f rfl) ?_
        refine XS.aloadN X11.here hexec rfl (hb hbytes d36) rfl rfl ?_
        exact Steps.refl _)
      obtain ⟨T14, X14, q14, st14⟩ := X11.hget hexec hown (wk W (.fieldLink "java/lang/String" 9 "java/lang/String" "value" "[B")) (hx.mv X11.warmed.alike hh11).2.1 (g := (mkF m 37 #[.val (.ref x), .val (.ref y), .val (.ref y)] [.ref x])) rfl (rest := []) rfl (hb hbytes d37)
      have hh14 := q14.trans hh11
      have c15 : Steps p.tables e below (s₁.setTop (entryFrame m #[.ref x, .ref y] 3)) (T14.setTop (mkF m 41 #[.val (.ref x), .val (.ref y), .val (.ref y)] [.ref y, .ref t])) := (c13.trans (st14 _ (Steps.refl _))).trans (by
        refine XS.aloadN X14.here hexec rfl (hb hbytes d40) rfl rfl ?_
        exact Steps.refl _)
      obtain ⟨T16, X16, q16, st16⟩ := X14.hget hexec hown (wk W (.fieldLink "java/lang/String" 9 "java/lang/String" "value" "[B")) (hy.mv X14.warmed.alike hh14).2.1 (g := (mkF m 41 #[.val (.ref x), .val (.ref y), .val (.ref y)] [.ref y, .ref t])) rfl (rest := [.ref t]) rfl (hb hbytes d41)
      have hh16 := q16.trans hh14
      have c17 : Steps p.tables e below (s₁.setTop (entryFrame m #[.ref x, .ref y] 3)) (T16.setTop (mkF m 44 #[.val (.ref x), .val (.ref y), .val (.ref y)] [.ref t', .ref t])) := c15.trans (st16 _ (Steps.refl _))
      obtain ⟨v18, T18, X18, E18, g18⟩ := X16.callS hexec (LEq.law l t V t' V') hown (wks W (staticW "java/lang/String" 541 LEq.yN)) (wk W LEq.tab) (W := 0) (Nat.le_of_ble_eq_true rfl) (Nat.le_of_ble_eq_true rfl) (Nat.le_refl _) (Nat.le_refl _) (g := (mkF m 44 #[.val (.ref x), .val (.ref y), .val (.ref y)] [.ref t', .ref t])) rfl (by rw [hml]; rfl) c17 (argsL := [.ref t, .ref t']) (rest := []) rfl rfl (by show 2 * 0 + 0 ≤ _; decide) (hb hbytes d44) (⟨rfl, hx.2.2.2.1.mv X16.warmed.alike hh16, hx.2.2.2.2.1.ty, hy.2.2.2.1.mv X16.warmed.alike hh16, hy.2.2.2.2.1.ty⟩)
      obtain ⟨v, rfl, q18, hv⟩ := E18
      have iff := Cod.eqv hx.2.2.2.2.1 hy.2.2.2.2.1 hx.2.2.2.2.2 hy.2.2.2.2.2
      rcases hv with ⟨rfl, he⟩ | ⟨rfl, he⟩
      · have c19 : Steps p.tables e below (s₁.setTop (entryFrame m #[.ref x, .ref y] 3)) (T18.setTop (mkF m 55 #[.val (.ref x), .val (.ref y), .val (.ref y)] [.int 1])) := Steps.trans g18 (by
          refine XS.ifNo X18.here hexec rfl (hb hbytes d47) rfl (i0_eq_f (by decide)) ?_
          refine iconstV X18.here hexec rfl 1 (hb hbytes d50) (by decide) ?_
          refine XS.goto X18.here hexec rfl (pc0 := 51) rfl (hb hbytes d51) (by decide) rfl ?_
          exact Steps.refl _)
        exact ⟨T18, some (.int 1), _, _, _, X18, rfl, rfl, rfl, (fun h => by cases h), ⟨1, rfl, q18.trans hh16, Or.inl ⟨rfl, iff.mp he⟩⟩, fun fs hl => c19.trans (X18.ireturnOut hexec hret rfl (Or.inr (Or.inl rfl)) (hb hbytes d55) hl)⟩
      · have c19 : Steps p.tables e below (s₁.setTop (entryFrame m #[.ref x, .ref y] 3)) (T18.setTop (mkF m 55 #[.val (.ref x), .val (.ref y), .val (.ref y)] [.int 0])) := Steps.trans g18 (by
          refine XS.ifYes X18.here hexec rfl (pc0 := 47) rfl (hb hbytes d47) rfl (i0_eq_t rfl) (by decide) rfl ?_
          refine iconstV X18.here hexec rfl 0 (hb hbytes d54) (by decide) ?_
          exact Steps.refl _)
        exact ⟨T18, some (.int 0), _, _, _, X18, rfl, rfl, rfl, (fun h => by cases h), ⟨0, rfl, q18.trans hh16, Or.inr ⟨rfl, fun q => he (iff.mpr q)⟩⟩, fun fs hl => c19.trans (X18.ireturnOut hexec hret rfl (Or.inr (Or.inl rfl)) (hb hbytes d55) hl)⟩
    · have c13 : Steps p.tables e below (s₁.setTop (entryFrame m #[.ref x, .ref y] 3)) (T11.setTop (mkF m 55 #[.val (.ref x), .val (.ref y), .val (.ref y)] [.int 0])) := c12.trans (by
        refine XS.icmpYes X11.here hexec rfl (pc0 := 33) rfl (hb hbytes d33) rfl (ii_ne_t hcd) (by decide) rfl ?_
        refine iconstV X11.here hexec rfl 0 (hb hbytes d54) (by decide) ?_
        exact Steps.refl _)
      exact ⟨T11, some (.int 0), _, _, _, X11, rfl, rfl, rfl, (fun h => by cases h), ⟨0, rfl, hh11, Or.inr ⟨rfl, Cod.dif hx.2.2.2.2.1 hy.2.2.2.2.1 hcd⟩⟩, fun fs hl => c13.trans (X11.ireturnOut hexec hret rfl (Or.inr (Or.inl rfl)) (hb hbytes d55) hl)⟩
theorem pays {l : Launch} {R : Room} {p : Program} {e : Env} {below : List Frame} {s : State} {sargs : Array Value} {len W : Nat} (x t : Addr) (V : Cell) (cd : Int32) (n : Nat) (f : Nat → Int32) (y t' : Addr) (V' : Cell) (cd' : Int32) (k : Nat) (g : Nat → Int32) (z : Int32) (htab : tab.before sargs s = true) (hfr : 2 ≤ R.frames) (hlo : W + 28 ≤ R.locals) :
    Back l R p e below s sargs yN len W (fun A₁ a₁ => A₁.cells + 0 ≤ R.cells ∧ A₁.slots + 0 ≤ R.slots ∧ P x t V cd n f y t' V' cd' k g z a₁ A₁.U) (fun A₁ _ v₁ B₁ => Says01 (SameT n f k g) v₁ A₁.U B₁.U ∧ B₁.locs = A₁.locs ++ [] ∧ B₁.cells = A₁.cells + 0 ∧ B₁.slots = A₁.slots + 0) :=
  (law l x t V cd n f y t' V' cd' k g z).pays htab hfr (by omega)
end SEq
end StrChars
namespace StrChars.Road
open Jvm Sem ClassFile Op Lib Jvm.Stand Jvm.Free Jvm.Free.XT
open Jvm.Lib.Cold (StaticIs)
/-- the words of String.equals(Object) -/
abbrev wordsEq : List Jvm.Cond := [.code SEq.yN SEq.yB 3 (some .boolean), .initialized ST, .classLink ST 10 ST, .fieldLink ST 38 ST "COMPACT_STRINGS" "Z", .fieldLink ST 15 ST "coder" "B", .fieldLink ST 9 ST "value" "[B", .methodLink ST 541 LEq.yN, .static LEq.yN, .code LEq.yN LEq.yB 3 (some .boolean), .initialized "java/lang/StringLatin1"]
theorem tabEq_of {a : Array Value} {s : State} (h : ∀ w ∈ wordsEq, w.before a s = true) : SEq.tab.before a s = true := by
  have hl : LEq.tab.before a s = true := unparts (wk h (.code LEq.yN LEq.yB 3 (some .boolean))) (wks h (.initialized LEq.yN.cls :: LEq.site))
  have q := consq hl h
  exact unparts (wk q (.code SEq.yN SEq.yB 3 (some .boolean))) (wks q (.initialized SEq.yN.cls :: SEq.site))
theorem movedEq {Z s : State} {a0 args : Array Value} (hZ : Z.Warmed39 s.vm) (hw : ∀ d ∈ wordsEq, d.before a0 Z = true) : ∀ d ∈ wordsEq, d.before args s = true := fun d hd => by
  have t : ∀ d ∈ wordsEq, (d.onTables && d.keepsFace) = true := by decide +kernel
  exact RoadKit.mv hZ (hw d hd) (t d hd)
/-- the road's facts of a String, as the laws ask it -/
theorem txt_of {Z U : State} {a0 : Array Value} {kI : Nat} (wi : (Jvm.Cond.instantiable ST kI).before a0 Z = true) (al : Z.vm.Alike U.vm) {x t : Addr} {kb : ClassId} {cs : List Int32} {cd N2 : Int32} {vs : List Value} (E : RoadKit.Exa Z U.heap x ST) (V : RoadKit.Fld Z U.heap x ST "value" "[B" (.ref t)) (C : RoadKit.Fld Z U.heap x ST "coder" "B" (.int cd)) (K : RoadKit.Arv Z U.heap t kb .byte N2 vs (.int 0)) (hc : CodA cs cd N2 vs) (hb : ∀ c ∈ cs, ¬ c < 0 ∧ ¬ (65535 : Int32) < c) (l2 : cs.length ≤ 4000) :
    ∃ A, Txt x t A cd cs.length (fun j => cs.getD j 0) U := by
  obtain ⟨A, K1, K2, K3, K4, K5, K6⟩ := K
  have hcod := hc.cod (by omega) K3 K5
  obtain ⟨D, fV, fC, hB, F1, F2, g1, g2, -, -⟩ := strObj wi al E V C
  exact ⟨A, ⟨_, hB.2.2.1, D, hB.1, rfl, by cases q : D.vm <;> first | rfl | exact absurd q (hB.2.1.2 _)⟩, Has.of hB F1 g1, Has.of hB F2 g2, ⟨K1.1, State.isArrayOf_alike al K1.2.1, K1.2.2, by rcases hcod with ⟨-, q, -⟩ | ⟨-, q, -⟩ <;> omega⟩, hcod, fun j hj => by
    have e : cs.getD j 0 = cs[j] := by simp [List.getD_eq_getElem?_getD, hj]
    show ¬ cs.getD j 0 < 0 ∧ ¬ 65535 < cs.getD j 0
    rw [e]; exact hb _ (List.getElem_mem _)⟩
theorem same_list (cs ds : List Int32) : SameT cs.length (fun j => cs.getD j 0) ds.length (fun j => ds.getD j 0) ↔ cs = ds := by
  constructor
  · rintro ⟨e, q⟩
    refine List.ext_getElem e fun j h1 h2 => ?_
    have := q j h1
    simpa [List.getD_eq_getElem?_getD, h1, h2] using this
  · rintro rfl
    exact ⟨rfl, fun _ _ => rfl⟩
/-- **equals(Object) OF TWO SUCH STRINGS**: 1 just where the chars are the same -/
theorem eqW {p : Program} {l : Launch} {e : Env} {R : Room} {s : State} {args : Array Value} {below : List Frame} {len W : Nat} {Z : State} {a0 : Array Value} {h : Heap} (hZ : Z.Warmed39 s.vm) (hw : ∀ d ∈ wordsEq, d.before a0 Z = true) {kI : Nat} (wi : (Jvm.Cond.instantiable ST kI).before a0 Z = true)
    {x t : Addr} {kb : ClassId} {cs : List Int32} {cd N2 : Int32} {vs : List Value} (E : RoadKit.Exa Z h x ST) (V : RoadKit.Fld Z h x ST "value" "[B" (.ref t)) (C : RoadKit.Fld Z h x ST "coder" "B" (.int cd)) (K : RoadKit.Arv Z h t kb .byte N2 vs (.int 0)) (hc : CodA cs cd N2 vs) (hb : ∀ c ∈ cs, ¬ c < 0 ∧ ¬ (65535 : Int32) < c) (l2 : cs.length ≤ 4000)
    {y t' : Addr} {kb' : ClassId} {ds : List Int32} {cd' N2' : Int32} {vs' : List Value} (E' : RoadKit.Exa Z h y ST) (V' : RoadKit.Fld Z h y ST "value" "[B" (.ref t')) (C' : RoadKit.Fld Z h y ST "coder" "B" (.int cd')) (K' : RoadKit.Arv Z h t' kb' .byte N2' vs' (.int 0)) (hc' : CodA ds cd' N2' vs') (hb' : ∀ c ∈ ds, ¬ c < 0 ∧ ¬ (65535 : Int32) < c) (l2' : ds.length ≤ 4000)
    {z : Int32} (S : RoadKit.Sta Z h ST "COMPACT_STRINGS" "Z" (.int z)) (hz : ¬ z = 0) (hfr : 2 ≤ R.frames) (hlo : W + 28 ≤ R.locals) :
    Back l R p e below s args (⟨"java/lang/String", "equals", "(Ljava/lang/Object;)Z"⟩ : MethodName) len W (fun P a => a = #[.ref x, .ref y] ∧ P.U.heap = h ∧ P.cells + 0 ≤ R.cells ∧ P.slots + 0 ≤ R.slots)
      (fun P _ v B => ∃ L, (((v = some (.int 1) ∧ cs = ds) ∨ (v = some (.int 0) ∧ ¬ cs = ds)) ∧ L = [] ∧ B.U.heap = h) ∧ B.locs = P.locs ++ L ∧ B.cells = P.cells + 0 ∧ B.slots = P.slots + 0) := by
  intro m meth c P g ig mk a X hg hsize hdg hW hn hp'
  obtain ⟨rfl, rfl, r1, r2⟩ := hp'
  have al : Z.vm.Alike P.U.vm := hZ.alike.trans X.warmed.alike
  obtain ⟨A, hx⟩ := txt_of wi al E V C K hc hb l2
  obtain ⟨A', hy⟩ := txt_of wi al E' V' C' K' hc' hb' l2'
  obtain ⟨v, B, X', ⟨⟨w, hv, hh, hq⟩, hl, hk, hs⟩, st⟩ := SEq.pays x t A cd cs.length (fun j => cs.getD j 0) y t' A' cd' ds.length (fun j => ds.getD j 0) z (tabEq_of (movedEq hZ hw)) hfr hlo m meth c P g ig mk _ X hg hsize hdg hW hn ⟨r1, r2, rfl, hx, hy, sta_is al S, hz⟩
  refine ⟨v, B, X', ⟨[], ⟨?_, rfl, hh⟩, hl, hk, hs⟩, st⟩
  rcases hq with ⟨rfl, q⟩ | ⟨rfl, q⟩
  · exact Or.inl ⟨hv, (same_list cs ds).mp q⟩
  · exact Or.inr ⟨hv, fun e => q ((same_list cs ds).mpr e)⟩
end StrChars.Road
namespace StrChars.Road
open Jvm Sem ClassFile Op Lib Jvm.Stand Jvm.Free Jvm.Free.XT
open Jvm.Lib.Cold (StaticIs)
/-- what backV says of its String, as the contracts of this text ask it: cs's low bytes, coder 0 -/
theorem codOf {cs : List Int32} {n : Nat} (hn : cs.length = n) (hb : ∀ c ∈ cs, ¬ 255 < c) : CodA cs 0 (Int32.ofNat n) ((cs.map lo8).map Value.int) := Or.inl ⟨rfl, by rw [hn], by simp [List.map_map, Function.comp_def], hb⟩
end StrChars.Road
end Jvm.Pilot.@@N@@
namespace Jvm.Pilot.@@N@@
open Jvm Jvm.ClassFile Sem Op Lib Jvm.Free Jvm.Stand Jvm.LawKit Jvm.RoadKit Bundle Jvm.Pilot.@@N@@.Jvm.D
def QV (r : Option Value) (h0 : Heap) (n0 : Nat) (v : Option Value) (h : Heap) (L : List Loc) : Prop := v = r ∧ Fr n0 L ∧ h = h0
def QN (r : Option Value) (n0 : Nat) (v : Option Value) (h : Heap) (L : List Loc) : Prop := v = r ∧ Fr n0 L
section OwnWords
variable {args : Array Value} {first s : State} {o : Option Outcome} {idx : List Nat} {t : Term}
theorem own_eqI {k : Int32} (h : (Jvm.Cond.eq t (.int k)).value args first o s idx = some true) : t.eval args first o idx s = some (.int k) := by
  simp only [Jvm.Cond.value, Term.eval] at h; cases ht : t.eval args first o idx s with | none => simp [ht] at h | some x => cases x <;> simp [ht] at h ⊢; exact h
end OwnWords
theorem own_exa_plain {Z : State} {h : Heap} {a : Addr} {C : String} (F : Exa Z h a C) (c : Cell) (hc : h[a]? = some c) : c.vm.isStatics = false := by
  obtain ⟨cell, k, h1, h2, h3, h4, h5⟩ := F; cases h1.symm.trans hc; exact h4
theorem own_arv_plain {Z : State} {h : Heap} {a : Addr} {k : ClassId} {ty : FieldType} {n : Int32} {vs : List Value} {d : Value} (F : Arv Z h a k ty n vs d) (c : Cell) (hc : h[a]? = some c) : c.vm.isStatics = false := by
  obtain ⟨cell, A, -⟩ := F; cases A.1.symm.trans hc; exact A.plain
theorem own_ext_of_keep {h h' : Heap} {ws : List Addr} (K : Keep h h' ws) (q : ∀ x ∈ ws, h.size ≤ x) : Ext h h' := ⟨K.1, fun a c hc => K.2.1 a c hc fun hm => absurd (Array.getElem?_eq_some_iff.mp hc).1 (Nat.not_lt.mpr (q a hm))⟩
theorem own_fitc {Z : State} {h : Heap} {a : Addr} {c : Cell} {ty : FieldType} {vs : List Value} {d : Value} (A : Arr Z h a c ty) (H : Has c vs d) (G : ∀ i, i < c.slots.size → fits ty (vs.getD i d) = true) : FitC Z c := fun i v hv => by
  obtain ⟨hi, -⟩ := Array.getElem?_eq_some_iff.mp hv
  obtain ⟨hs, k, hk, comp, hkind⟩ := A.2.1
  have e : Z.slotType? c.cls .none i = some ty := by simp [State.slotType?, hk, hkind]
  have ev : v = vs.getD i d := Option.some.inj (hv.symm.trans (H i hi))
  simp only [State.fitsSlot, e]
  rw [ev]; exact G i hi
theorem own_sta_keep {Z : State} {h h' : Heap} {C n d : String} {w : Value} {ws : List Addr} (F : Sta Z h C n d w) (K : Keep h h' ws) (q : ∀ x ∈ ws, ∀ c : Cell, h[x]? = some c → c.vm.isStatics = false) : Sta Z h' C n d w := by
  obtain ⟨cf, i, k, f, st, cell, h1, h2, h3, h4, h5, h6, h7⟩ := F
  exact ⟨cf, i, k, f, st, cell, h1, h2, h3, h4, K.2.1 _ _ h5 (fun hx => by rw [q _ hx _ h5] at h6; cases h6), h6, h7⟩
section OwnWords2
variable {args : Array Value} {s : State} {t u : Term}
theorem own_eqR {a : Addr} (h : (Jvm.Cond.eq t u).value args s none s [] = some true) (hu : u.eval args s none [] s = some (.ref a)) : t.eval args s none [] s = some (.ref a) := by
  simp only [Jvm.Cond.value, hu] at h; cases ht : t.eval args s none [] s with | none => simp [ht] at h | some x => cases x <;> simp [ht] at h ⊢; exact h
theorem own_len {a : Addr} {cl : Cell} {ty : FieldType} {k : Int32} (ev : t.eval args s none [] s = some (.ref a)) (A : Arr s s.heap a cl ty) (h : (Term.length t).eval args s none [] s = some (.int k)) : cl.slots.size < 2 ^ 31 ∧ cl.slots.size.toInt32 = k := by
  have ha := A.fin (Vm.Alike.refl _)
  by_cases hl : cl.slots.size < 2 ^ 31
  · rw [len_f ev ha hl] at h; exact ⟨hl, Value.int.inj (Option.some.inj h)⟩
  · simp [Term.eval, ev, ha, hl] at h
theorem own_elem {a : Addr} {cl : Cell} {ty : FieldType} {k : Int32} {v : Value} (ev : t.eval args s none [] s = some (.ref a)) (A : Arr s s.heap a cl ty) (h : (Term.elem t (.int k)).eval args s none [] s = some v) : cl.slots[k.toNatClampNeg]? = some v := (elem_in h ev (Term.int_eval k) A.1).2
end OwnWords2
theorem own_d_jdk_31_method_11_code_0 : decode jdk_31_method_11_code 0 = .ok (.aload_n 0, 1) := by decide +kernel
theorem own_d_jdk_31_method_11_code_1 : decode jdk_31_method_11_code 1 = .ok (.ifnonnull 12, 3) := by decide +kernel
theorem own_d_jdk_31_method_11_code_13 : decode jdk_31_method_11_code 13 = .ok (.aload_n 0, 1) := by decide +kernel
theorem own_d_jdk_31_method_11_code_14 : decode jdk_31_method_11_code 14 = .ok (.areturn, 1) := by decide +kernel
theorem own_pn_java_util_Objects : plainName "java/util/Objects" = true := by first | (simp [plainName, overriddenIn]; done) | decide +kernel
theorem own_d_prog_7_method_2_code_0 : decode prog_7_method_2_code 0 = .ok (.aload_n 0, 1) := by decide +kernel
theorem own_d_prog_7_method_2_code_1 : decode prog_7_method_2_code 1 = .ok (.invokespecial 7, 3) := by decide +kernel
theorem own_d_prog_7_method_2_code_4 : decode prog_7_method_2_code 4 = .ok (.aload_n 0, 1) := by decide +kernel
theorem own_d_prog_7_method_2_code_5 : decode prog_7_method_2_code 5 = .ok (.aload_n 1, 1) := by decide +kernel
theorem own_d_prog_7_method_2_code_6 : decode prog_7_method_2_code 6 = .ok (.ldc 12, 2) := by decide +kernel
theorem own_d_prog_7_method_2_code_8 : decode prog_7_method_2_code 8 = .ok (.invokestatic 14, 3) := by decide +kernel
theorem own_pd__Ljava_lang_Object_Ljava_lang_String__Ljava_lang_Object_ : parseMethodDescriptor "(Ljava/lang/Object;Ljava/lang/String;)Ljava/lang/Object;" = some ⟨[(.object "java/lang/Object"), (.object "java/lang/String")], some (.object "java/lang/Object")⟩ := by decide +kernel
theorem own_d_prog_7_method_2_code_11 : decode prog_7_method_2_code 11 = .ok (.checkcast 20, 3) := by decide +kernel
theorem own_d_prog_7_method_2_code_14 : decode prog_7_method_2_code 14 = .ok (.putfield 22, 3) := by decide +kernel
theorem own_d_prog_7_method_2_code_17 : decode prog_7_method_2_code 17 = .ok (.aload_n 0, 1) := by decide +kernel
theorem own_d_prog_7_method_2_code_18 : decode prog_7_method_2_code 18 = .ok (.aload_n 2, 1) := by decide +kernel
theorem own_d_prog_7_method_2_code_19 : decode prog_7_method_2_code 19 = .ok (.ldc 25, 2) := by decide +kernel
theorem own_d_prog_7_method_2_code_21 : decode prog_7_method_2_code 21 = .ok (.invokestatic 14, 3) := by decide +kernel
theorem own_d_prog_7_method_2_code_24 : decode prog_7_method_2_code 24 = .ok (.checkcast 20, 3) := by decide +kernel
theorem own_d_prog_7_method_2_code_27 : decode prog_7_method_2_code 27 = .ok (.putfield 27, 3) := by decide +kernel
theorem own_d_prog_7_method_2_code_30 : decode prog_7_method_2_code 30 = .ok (.aload_n 0, 1) := by decide +kernel
theorem own_d_prog_7_method_2_code_31 : decode prog_7_method_2_code 31 = .ok (.iload_n 3, 1) := by decide +kernel
theorem own_d_prog_7_method_2_code_32 : decode prog_7_method_2_code 32 = .ok (.putfield 29, 3) := by decide +kernel
theorem own_d_prog_7_method_2_code_35 : decode prog_7_method_2_code 35 = .ok (.aload_n 0, 1) := by decide +kernel
theorem own_d_prog_7_method_2_code_36 : decode prog_7_method_2_code 36 = .ok (.iload 4, 2) := by decide +kernel
theorem own_d_prog_7_method_2_code_38 : decode prog_7_method_2_code 38 = .ok (.putfield 33, 3) := by decide +kernel
theorem own_d_prog_7_method_2_code_41 : decode prog_7_method_2_code 41 = .ok (.return_, 1) := by decide +kernel
theorem own_pn_com_example_nokkel_nokkel_core_ClientRecord : plainName "com/example/nokkel/nokkel/core/ClientRecord" = true := by first | (simp [plainName, overriddenIn]; done) | decide +kernel
theorem own_d_prog_7_method_10_code_0 : decode prog_7_method_10_code 0 = .ok (.aload_n 1, 1) := by decide +kernel
theorem own_d_prog_7_method_10_code_1 : decode prog_7_method_10_code 1 = .ok (.instanceof 2, 3) := by decide +kernel
theorem own_d_prog_7_method_10_code_4 : decode prog_7_method_10_code 4 = .ok (.ifCond .eq 62, 3) := by decide +kernel
theorem own_d_prog_7_method_10_code_7 : decode prog_7_method_10_code 7 = .ok (.aload_n 1, 1) := by decide +kernel
theorem own_d_prog_7_method_10_code_8 : decode prog_7_method_10_code 8 = .ok (.checkcast 2, 3) := by decide +kernel
theorem own_d_prog_7_method_10_code_11 : decode prog_7_method_10_code 11 = .ok (.astore_n 2, 1) := by decide +kernel
theorem own_d_prog_7_method_10_code_12 : decode prog_7_method_10_code 12 = .ok (.aload_n 0, 1) := by decide +kernel
theorem own_d_prog_7_method_10_code_13 : decode prog_7_method_10_code 13 = .ok (.getfield 22, 3) := by decide +kernel
theorem own_d_prog_7_method_10_code_16 : decode prog_7_method_10_code 16 = .ok (.aload_n 2, 1) := by decide +kernel
theorem own_d_prog_7_method_10_code_17 : decode prog_7_method_10_code 17 = .ok (.getfield 22, 3) := by decide +kernel
theorem own_d_prog_7_method_10_code_20 : decode prog_7_method_10_code 20 = .ok (.invokevirtual 36, 3) := by decide +kernel
theorem own_pd__Ljava_lang_Object__Z : parseMethodDescriptor "(Ljava/lang/Object;)Z" = some ⟨[(.object "java/lang/Object")], some .boolean⟩ := by decide +kernel
theorem own_d_prog_7_method_10_code_23 : decode prog_7_method_10_code 23 = .ok (.ifCond .eq 43, 3) := by decide +kernel
theorem own_d_prog_7_method_10_code_66 : decode prog_7_method_10_code 66 = .ok (.iconst 0, 1) := by decide +kernel
theorem own_d_prog_7_method_10_code_67 : decode prog_7_method_10_code 67 = .ok (.ireturn, 1) := by decide +kernel
theorem own_d_prog_7_method_10_code_26 : decode prog_7_method_10_code 26 = .ok (.aload_n 0, 1) := by decide +kernel
theorem own_d_prog_7_method_10_code_27 : decode prog_7_method_10_code 27 = .ok (.getfield 27, 3) := by decide +kernel
theorem own_d_prog_7_method_10_code_30 : decode prog_7_method_10_code 30 = .ok (.aload_n 2, 1) := by decide +kernel
theorem own_d_prog_7_method_10_code_31 : decode prog_7_method_10_code 31 = .ok (.getfield 27, 3) := by decide +kernel
theorem own_d_prog_7_method_10_code_34 : decode prog_7_method_10_code 34 = .ok (.invokevirtual 36, 3) := by decide +kernel
theorem own_d_prog_7_method_10_code_37 : decode prog_7_method_10_code 37 = .ok (.ifCond .eq 29, 3) := by decide +kernel
theorem own_d_prog_7_method_10_code_40 : decode prog_7_method_10_code 40 = .ok (.aload_n 0, 1) := by decide +kernel
theorem own_d_prog_7_method_10_code_41 : decode prog_7_method_10_code 41 = .ok (.getfield 29, 3) := by decide +kernel
theorem own_d_prog_7_method_10_code_44 : decode prog_7_method_10_code 44 = .ok (.aload_n 2, 1) := by decide +kernel
theorem own_d_prog_7_method_10_code_45 : decode prog_7_method_10_code 45 = .ok (.getfield 29, 3) := by decide +kernel
theorem own_d_prog_7_method_10_code_48 : decode prog_7_method_10_code 48 = .ok (.if_icmp .ne 18, 3) := by decide +kernel
theorem own_d_prog_7_method_10_code_51 : decode prog_7_method_10_code 51 = .ok (.aload_n 0, 1) := by decide +kernel
theorem own_d_prog_7_method_10_code_52 : decode prog_7_method_10_code 52 = .ok (.getfield 33, 3) := by decide +kernel
theorem own_d_prog_7_method_10_code_55 : decode prog_7_method_10_code 55 = .ok (.aload_n 2, 1) := by decide +kernel
theorem own_d_prog_7_method_10_code_56 : decode prog_7_method_10_code 56 = .ok (.getfield 33, 3) := by decide +kernel
theorem own_d_prog_7_method_10_code_59 : decode prog_7_method_10_code 59 = .ok (.if_icmp .ne 7, 3) := by decide +kernel
theorem own_d_prog_7_method_10_code_62 : decode prog_7_method_10_code 62 = .ok (.iconst 1, 1) := by decide +kernel
theorem own_d_prog_7_method_10_code_63 : decode prog_7_method_10_code 63 = .ok (.goto 4, 3) := by decide +kernel
theorem own_pd___C_V : parseMethodDescriptor "([C)V" = some ⟨[(.array .char)], none⟩ := by decide +kernel
theorem own_pd__Ljava_lang_String_Ljava_lang_String_ZZ_V : parseMethodDescriptor "(Ljava/lang/String;Ljava/lang/String;ZZ)V" = some ⟨[(.object "java/lang/String"), (.object "java/lang/String"), .boolean, .boolean], none⟩ := by decide +kernel
theorem own_pn_com_example_nokkel_nokkel_core_ClientRecordEqualsPinLaw : plainName "com/example/nokkel/nokkel/core/ClientRecordEqualsPinLaw" = true := by first | (simp [plainName, overriddenIn]; done) | decide +kernel
theorem own_wS {Z : State} {a0 : Array Value} (hw : ∀ d ∈ tables_1, d.before a0 Z = true) : ∀ a ∈ Bundle.stringAtoms, a.before a0 Z = true := fun d hd => by
  simp only [Bundle.stringAtoms, List.mem_cons, List.not_mem_nil, or_false] at hd
  rcases hd with rfl | rfl | rfl | rfl | rfl | rfl | rfl
  · exact (hw _ (List.mem_of_getElem? (i := 5) rfl))
  · exact (hw _ (List.mem_of_getElem? (i := 4) rfl))
  · exact (hw _ (List.mem_of_getElem? (i := 22) rfl))
  · exact (hw _ (List.mem_of_getElem? (i := 32) rfl))
  · exact (hw _ (List.mem_of_getElem? (i := 30) rfl))
  · exact (hw _ (List.mem_of_getElem? (i := 38) rfl))
  · exact (hw _ (List.mem_of_getElem? (i := 39) rfl))
theorem own_words {Z : State} {a0 : Array Value} (hw : ∀ d ∈ tables_1, d.before a0 Z = true) : ∀ d ∈ StrChars.Road.words, d.before a0 Z = true := fun d hd => hw d ((by decide +kernel : ∀ d ∈ StrChars.Road.words, d ∈ tables_1) d hd)
theorem own_wordsEq {Z : State} {a0 : Array Value} (hw : ∀ d ∈ tables_1, d.before a0 Z = true) : ∀ d ∈ StrChars.Road.wordsEq, d.before a0 Z = true := fun d hd => hw d ((by decide +kernel : ∀ d ∈ StrChars.Road.wordsEq, d ∈ tables_1) d hd)
theorem own_nb {x : Int32} (h : x = (0 : Int32) ∨ x = (1 : Int32)) : narrow .boolean (.int x) = .int x := by rcases h with rfl | rfl <;> first | rfl | decide
theorem own_fb {x : Int32} (h : x = (0 : Int32) ∨ x = (1 : Int32)) : fits .boolean (.int x) = true := by rcases h with rfl | rfl <;> first | rfl | decide
theorem own_narc {x : Int32} (h : ¬ x < 0 ∧ ¬ (255 : Int32) < x) : nar .char x = x := by
  have e : x &&& 255 = x := by
    have hm := c_mask x (255 : Int32) 8 (by decide) (by decide)
    obtain ⟨h1, h2⟩ := h
    rw [Int32.lt_iff_toInt_lt] at h1 h2
    simp at h1 h2
    exact Int32.toInt_inj.mp (by omega)
  show x.toUInt32.toUInt16.toUInt32.toInt32 = x
  rw [← e]; exact i2c_mask x
theorem own_i2c (x : Int32) : ¬ ((x &&& (255 : Int32)).toUInt32.toUInt16.toUInt32.toInt32) < 0 ∧ ¬ (255 : Int32) < ((x &&& (255 : Int32)).toUInt32.toUInt16.toUInt32.toInt32) := by
  rw [i2c_mask]
  have := c_mask x (255 : Int32) 8 (by decide) (by decide)
  constructor <;> rw [Int32.lt_iff_toInt_lt] <;> simp <;> omega
theorem own_insN {Z : State} {a0 : Array Value} (hw : ∀ d ∈ tables_1, d.before a0 Z = true) {h : Heap} {a : Addr} (E : Exa Z h a "java/lang/String") : Ins Z h a "com/example/nokkel/nokkel/core/ClientRecord" false := by
  obtain ⟨cell, k, h1, h2, h3, h4, -⟩ := E
  obtain ⟨c2, k2, i1, i2, i3, i4⟩ := Cond.instantiable_spec (hw _ (List.mem_of_getElem? (i := 1) rfl))
  have hn := Vm.notAssignable_of_chain (args := a0) (t := ["java/lang/Object"]) h2 i1 i2 i3 (by have q := i4.1; simp only [Bool.or_eq_false_iff] at q; exact q.1) (fun w hm => by
    simp only [Cond.chainWords, List.mem_cons, List.not_mem_nil, or_false] at hm
    rcases hm with rfl | rfl
    · exact (hw _ (List.mem_of_getElem? (i := 71) rfl))
    · exact (hw _ (List.mem_of_getElem? (i := 72) rfl))) (by decide)
  exact ⟨cell, c2, h1, i1, by simp [h4, hn]⟩
def QCi (Z : State) (b o v : Addr) (x y : Int32) (h0 : Heap) (n0 : Nat) (w : Option Value) (h : Heap) (L : List Loc) : Prop := w = none ∧ Fr n0 L ∧ Keep h0 h [b] ∧ Exa Z h b "com/example/nokkel/nokkel/core/ClientRecord" ∧ Fld Z h b "com/example/nokkel/nokkel/core/ClientRecord" "owner" "Ljava/lang/String;" (.ref o) ∧ Fld Z h b "com/example/nokkel/nokkel/core/ClientRecord" "verifier" "Ljava/lang/String;" (.ref v) ∧ Fld Z h b "com/example/nokkel/nokkel/core/ClientRecord" "locksRevoked" "Z" (.int x) ∧ Fld Z h b "com/example/nokkel/nokkel/core/ClientRecord" "graceMissed" "Z" (.int y)
theorem own_ef_own_rnn (m : MethodId) {x0 : Addr} {x1 : Addr} : entryFrame m #[(.ref x0), (.ref x1)] 2 = mkF m 0 #[.val (.ref x0), .val (.ref x1)] [] := by first | (simp [entryFrame, mkF, argsToLocals, Value.category, maxLocals]; done) | rfl
set_option maxRecDepth 65536 in
set_option maxHeartbeats 40000000 in
theorem own_rnn (l : Launch) (Z : State) (a0 : Array Value) (hw : ∀ d ∈ tables_1, d.before a0 Z = true) (ws : List Jvm.Cond) (h0 : Heap) (n0 : Nat) (Z0 : n0 ≤ h0.size) (b cm : Addr) :
    MetFree l (⟨"java/util/Objects", "requireNonNull", "(Ljava/lang/Object;Ljava/lang/String;)Ljava/lang/Object;"⟩ : MethodName) (head1 (Jvm.Cond.code (⟨"java/util/Objects", "requireNonNull", "(Ljava/lang/Object;Ljava/lang/String;)Ljava/lang/Object;"⟩ : MethodName) jdk_31_method_11_code 2 (some (.object "java/lang/Object")) :: ws) ({ frames := 0, cells := 0, slots := 0, locals := 0 } : Room)) (fun a U => a = #[(.ref b), (.ref cm)] ∧ Z.Warmed39 U.vm ∧ U.heap = h0) (fun _ _ _ _ _ => True) (fun _ U o U' => ∃ v L, o = .returned v ∧ QV (some (.ref b)) h0 n0 v U'.heap L ∧ FrameEnd U o U' L ({ frames := 0, cells := 0, slots := 0, locals := 0 } : Room).cells ({ frames := 0, cells := 0, slots := 0, locals := 0 } : Room).slots) := by
  refine MetFree.of_bodySF (plainFor_of_name own_pn_java_util_Objects) hisR ?_
  intro p e s m args below meth c s₁ Bd hml0 hP hK
  obtain ⟨rfl, hZ, hh⟩ := hP
  have hx := Bd.exec
  have hby := Bd.bytes
  have hml : c.maxLocals = 2 := hml0
  have hown : s.vm.findClass "java/util/Objects" = some m.cls := (findClass_of_methodNamed Bd.named :)
  have hnm := (name_of_methodNamed Bd.named Bd.method).1
  have X0 : Stand p l e ({ frames := 0, cells := 0, slots := 0, locals := 0 } : Room) s m #[(.ref b), (.ref cm)] below meth c s₁ [] 0 0 := Stand.of_body Bd
  have e0 : s₁.heap = h0 := by rw [← hh, Bd.state]; rfl
  have N0 := Fr.nil n0
  have pre0 : ∀ t, Steps p.tables e below (s₁.setTop (mkF m 0 #[.val (.ref b), .val (.ref cm)] [])) t → Steps p.tables e below (s₁.setTop (entryFrame m #[(.ref b), (.ref cm)] 2)) t := fun t k => castTop (own_ef_own_rnn m) k
  have ch1 : ∀ t, Steps p.tables e below (s₁.setTop (mkF m 14 #[.val (.ref b), .val (.ref cm)] [(.ref b)])) t → Steps p.tables e below (s₁.setTop (entryFrame m #[(.ref b), (.ref cm)] 2)) t := fun t k => pre0 t (by
      show Steps p.tables e below (s₁.setTop (mkF m 0 #[.val (.ref b), .val (.ref cm)] [])) t
      refine XS.aloadN X0.here hx rfl (hb hby own_d_jdk_31_method_11_code_0) rfl rfl ?_
      show Steps p.tables e below (s₁.setTop (mkF m 1 #[.val (.ref b), .val (.ref cm)] [(.ref b)])) t
      refine XS.ifnonnullYes X0.here hx rfl (pc0 := 1) (pc' := 13) rfl (hb hby own_d_jdk_31_method_11_code_1) rfl (by decide) (by decide) ?_
      show Steps p.tables e below (s₁.setTop (mkF m 13 #[.val (.ref b), .val (.ref cm)] [])) t
      refine XS.aloadN X0.here hx rfl (hb hby own_d_jdk_31_method_11_code_13) rfl rfl ?_
      exact k)
  obtain ⟨fs, hr, hrun, hended, hW, hsame⟩ := X0.leave (v := some (.ref b)) (fun h => by rw [Bd.returns] at h; cases h)
  refine ⟨_, _, ch1 _ ?_, hrun, hended, _, _, rfl, ?_, ⟨_, rfl⟩, hW, hsame.mono (by decide) (by decide)⟩
  · show Steps p.tables e below (s₁.setTop (mkF m 14 #[.val (.ref b), .val (.ref cm)] [(.ref b)])) _
    jvm_step X0.here [X0.here.top, hx, (hb hby own_d_jdk_31_method_11_code_14), X0.method', Bd.returns, Value.isRef, FieldType.isReference]
    first | (intro acts; rw [hr _ acts rfl rfl rfl]) | rw [hr _ _ rfl rfl rfl]
    exact Steps.refl _
  · show QV (some (.ref b)) h0 n0 _ s₁.heap _
    rw [e0]
    exact ⟨rfl, N0, rfl⟩
theorem own_ef_own_ini (m : MethodId) {x0 : Addr} {x1 : Addr} {x2 : Addr} {x3 : Int32} {x4 : Int32} : entryFrame m #[(.ref x0), (.ref x1), (.ref x2), (.int x3), (.int x4)] 5 = mkF m 0 #[.val (.ref x0), .val (.ref x1), .val (.ref x2), .val (.int x3), .val (.int x4)] [] := by first | (simp [entryFrame, mkF, argsToLocals, Value.category, maxLocals]; done) | rfl
set_option maxRecDepth 65536 in
set_option maxHeartbeats 40000000 in
theorem own_ini (l : Launch) (Z : State) (a0 : Array Value) (hw : ∀ d ∈ tables_1, d.before a0 Z = true) (ws : List Jvm.Cond) (h0 : Heap) (n0 : Nat) (Z0 : n0 ≤ h0.size) (b ow ve : Addr) (x y : Int32) (E : Exa Z h0 b "com/example/nokkel/nokkel/core/ClientRecord") (F_owner : Fld Z h0 b "com/example/nokkel/nokkel/core/ClientRecord" "owner" "Ljava/lang/String;" .null) (F_verifier : Fld Z h0 b "com/example/nokkel/nokkel/core/ClientRecord" "verifier" "Ljava/lang/String;" .null) (F_locksRevoked : Fld Z h0 b "com/example/nokkel/nokkel/core/ClientRecord" "locksRevoked" "Z" (.int (0 : Int32))) (F_graceMissed : Fld Z h0 b "com/example/nokkel/nokkel/core/ClientRecord" "graceMissed" "Z" (.int (0 : Int32))) (g : n0 ≤ b) (Eo : Exa Z h0 ow "java/lang/String") (Ev : Exa Z h0 ve "java/lang/String") (bx : x = (0 : Int32) ∨ x = (1 : Int32)) (byy : y = (0 : Int32) ∨ y = (1 : Int32)) :
    MetFree l (⟨"com/example/nokkel/nokkel/core/ClientRecord", "<init>", "(Ljava/lang/String;Ljava/lang/String;ZZ)V"⟩ : MethodName) (head1 (Jvm.Cond.code (⟨"com/example/nokkel/nokkel/core/ClientRecord", "<init>", "(Ljava/lang/String;Ljava/lang/String;ZZ)V"⟩ : MethodName) prog_7_method_2_code 5 none :: ws) ({ frames := 1, cells := 4, slots := 60, locals := 14 } : Room)) (fun a U => a = #[(.ref b), (.ref ow), (.ref ve), (.int x), (.int y)] ∧ Z.Warmed39 U.vm ∧ U.heap = h0) (fun _ _ _ _ _ => True) (fun _ U o U' => ∃ v L, o = .returned v ∧ QCi Z b ow ve x y h0 n0 v U'.heap L ∧ ReturnedEndW U o U' L ({ frames := 1, cells := 4, slots := 60, locals := 14 } : Room).cells ({ frames := 1, cells := 4, slots := 60, locals := 14 } : Room).slots) := by
  refine MetFree.of_bodySF (plainFor_of_name own_pn_com_example_nokkel_nokkel_core_ClientRecord) hisR ?_
  intro p e s m args below meth c s₁ Bd hml0 hP hK
  obtain ⟨rfl, hZ, hh⟩ := hP
  have hx := Bd.exec
  have hby := Bd.bytes
  have hml : c.maxLocals = 5 := hml0
  have hown : s.vm.findClass "com/example/nokkel/nokkel/core/ClientRecord" = some m.cls := (findClass_of_methodNamed Bd.named :)
  have hnm := (name_of_methodNamed Bd.named Bd.method).1
  have X0 : Stand p l e ({ frames := 1, cells := 4, slots := 60, locals := 14 } : Room) (s.setVm s.vm) m #[(.ref b), (.ref ow), (.ref ve), (.int x), (.int y)] below meth c s₁ [] 0 0 := Stand.of_body Bd
  have hZ : Z.Warmed39 (s.setVm s.vm).vm := hZ
  have hown : (s.setVm s.vm).vm.findClass "com/example/nokkel/nokkel/core/ClientRecord" = some m.cls := hown
  have hS : s.Since s.vm 0 := (State.WarmedH.refl s).since 0
  have hk : 0 ≤ h0.size := Nat.zero_le _
  have e0 : s₁.heap = h0 := by rw [← hh, Bd.state]; rfl
  have N0 := Fr.nil n0
  have pre0 : ∀ t, Steps p.tables e below (s₁.setTop (mkF m 0 #[.val (.ref b), .val (.ref ow), .val (.ref ve), .val (.int x), .val (.int y)] [])) t → Steps p.tables e below (s₁.setTop (entryFrame m #[(.ref b), (.ref ow), (.ref ve), (.int x), (.int y)] 5)) t := fun t k => castTop (own_ef_own_ini m) k
  obtain ⟨T1, X1, e1, st1⟩ := initO X0 hx hZ hown (hw _ (List.mem_of_getElem? (i := 36) rfl)) (hw _ (List.mem_of_getElem? (i := 15) rfl)) (hw _ (List.mem_of_getElem? (i := 16) rfl)) e0 (g := (mkF m 1 #[.val (.ref b), .val (.ref ow), .val (.ref ve), .val (.int x), .val (.int y)] [(.ref b)])) rfl (by rw [hml]; rfl) rfl (hb hby own_d_prog_7_method_2_code_1) (by decide) (W := 0) (by show 2 * 0 + _ ≤ _; exact Nat.le_of_eq rfl) (by decide)
  have ch2 : ∀ t, Steps p.tables e below (T1.setTop (mkF m 4 #[.val (.ref b), .val (.ref ow), .val (.ref ve), .val (.int x), .val (.int y)] [])) t → Steps p.tables e below (s₁.setTop (entryFrame m #[(.ref b), (.ref ow), (.ref ve), (.int x), (.int y)] 5)) t := fun t k => pre0 t (by
      show Steps p.tables e below (s₁.setTop (mkF m 0 #[.val (.ref b), .val (.ref ow), .val (.ref ve), .val (.int x), .val (.int y)] [])) t
      refine XS.aloadN X0.here hx rfl (hb hby own_d_prog_7_method_2_code_0) rfl rfl ?_
      show Steps p.tables e below (s₁.setTop (mkF m 1 #[.val (.ref b), .val (.ref ow), .val (.ref ve), .val (.int x), .val (.int y)] [(.ref b)])) t
      exact st1 t k)
  obtain ⟨ls3, T3, hp3, ks3, X3, e3, E3, hS, hk, hZ, hown, st3⟩ := ldcS X1 hx hZ hown (hw _ (List.mem_of_getElem? (i := 37) rfl)) (own_wS hw) e1 hS hk (g := (mkF m 6 #[.val (.ref b), .val (.ref ow), .val (.ref ve), .val (.int x), .val (.int y)] [(.ref ow), (.ref b)])) rfl (hb hby own_d_prog_7_method_2_code_6) (n := 20) (by decide) (by decide) (by decide) (by decide)
  have Kp3 := Keep.ext (Keep.refl h0 [b]) E3
  have ch4 : ∀ t, Steps p.tables e below (T3.setTop (mkF m 8 #[.val (.ref b), .val (.ref ow), .val (.ref ve), .val (.int x), .val (.int y)] [(.ref ls3), (.ref ow), (.ref b)])) t → Steps p.tables e below (s₁.setTop (entryFrame m #[(.ref b), (.ref ow), (.ref ve), (.int x), (.int y)] 5)) t := fun t k => ch2 t (by
      show Steps p.tables e below (T1.setTop (mkF m 4 #[.val (.ref b), .val (.ref ow), .val (.ref ve), .val (.int x), .val (.int y)] [])) t
      refine XS.aloadN X1.here hx rfl (hb hby own_d_prog_7_method_2_code_4) rfl rfl ?_
      show Steps p.tables e below (T1.setTop (mkF m 5 #[.val (.ref b), .val (.ref ow), .val (.ref ve), .val (.int x), .val (.int y)] [(.ref b)])) t
      refine XS.aloadN X1.here hx rfl (hb hby own_d_prog_7_method_2_code_5) rfl rfl ?_
      show Steps p.tables e below (T1.setTop (mkF m 6 #[.val (.ref b), .val (.ref ow), .val (.ref ve), .val (.int x), .val (.int y)] [(.ref ow), (.ref b)])) t
      exact st3 t k)
  obtain ⟨vv5, _, ⟨T5, L5, kk5, nn5⟩, -, X5, ⟨Lc5, hQ5, l5, y5, z5⟩, st5⟩ := Jvm.LawKit.callS X3 hx (y := (⟨"java/util/Objects", "requireNonNull", "(Ljava/lang/Object;Ljava/lang/String;)Ljava/lang/Object;"⟩ : MethodName)) hown (mvT hZ (hw _ (List.mem_of_getElem? (i := 40) rfl))) (mvT hZ (hw _ (List.mem_of_getElem? (i := 41) rfl))) (mvT hZ (hw _ (List.mem_of_getElem? (i := 42) rfl))) (mvT hZ (hw _ (List.mem_of_getElem? (i := 43) rfl))) (by decide) (backOf (W := 1) (own_rnn l Z a0 hw [] hp3 n0 (Nat.le_trans Z0 Kp3.1) ow ls3) hZ (hw _ (List.mem_of_getElem? (i := 43) rfl)) (hw _ (List.mem_of_getElem? (i := 42) rfl)) (by decide) (by decide)) (g := (mkF m 8 #[.val (.ref b), .val (.ref ow), .val (.ref ve), .val (.int x), .val (.int y)] [(.ref ls3), (.ref ow), (.ref b)])) rfl (by rw [hml]; rfl) (argsL := [(.ref ow), (.ref ls3)]) (rest := [(.ref b)]) (lenOf own_pd__Ljava_lang_Object_Ljava_lang_String__Ljava_lang_Object_ rfl) rfl (by show 2 * 0 + _ ≤ _; exact Nat.le_of_eq rfl) (hb hby own_d_prog_7_method_2_code_8) (fun _ _ => ⟨rfl, e3, (by decide : 2 + 0 ≤ _), (by decide : 24 + 0 ≤ _)⟩)
  dsimp only [Pt.U, Pt.locs, Pt.cells, Pt.slots] at X5 l5 y5 z5 st5 hQ5
  subst l5 y5 z5
  obtain ⟨rfl, Nq5, e5⟩ := hQ5
  have N5 := Fr.app N0 Nq5
  have ch6 : ∀ t, Steps p.tables e below (T5.setTop (mkF m 11 #[.val (.ref b), .val (.ref ow), .val (.ref ve), .val (.int x), .val (.int y)] [(.ref ow), (.ref b)])) t → Steps p.tables e below (s₁.setTop (entryFrame m #[(.ref b), (.ref ow), (.ref ve), (.int x), (.int y)] 5)) t := fun t k => ch4 t (by
      show Steps p.tables e below (T3.setTop (mkF m 8 #[.val (.ref b), .val (.ref ow), .val (.ref ve), .val (.int x), .val (.int y)] [(.ref ls3), (.ref ow), (.ref b)])) t
      exact st5 t k)
  have cf7 := (Eo.ext E3)
  obtain ⟨T8, X8, e8, st8⟩ := castY X5 hx hZ hown (hw _ (List.mem_of_getElem? (i := 44) rfl)) e5 (Ins.self cf7) (g := (mkF m 11 #[.val (.ref b), .val (.ref ow), .val (.ref ve), .val (.int x), .val (.int y)] [(.ref ow), (.ref b)])) rfl rfl (hb hby own_d_prog_7_method_2_code_11)
  have ch9 : ∀ t, Steps p.tables e below (T8.setTop (mkF m 14 #[.val (.ref b), .val (.ref ow), .val (.ref ve), .val (.int x), .val (.int y)] [(.ref ow), (.ref b)])) t → Steps p.tables e below (s₁.setTop (entryFrame m #[(.ref b), (.ref ow), (.ref ve), (.int x), (.int y)] 5)) t := fun t k => ch6 t (by
      show Steps p.tables e below (T5.setTop (mkF m 11 #[.val (.ref b), .val (.ref ow), .val (.ref ve), .val (.int x), .val (.int y)] [(.ref ow), (.ref b)])) t
      exact st8 t k)
  have cf10 := (F_owner.ext E3)
  have cf11 := (E.ext E3)
  obtain ⟨T12, hp12, X12, e12, W12, st12⟩ := putF X8 hx hZ hown (host := "") (Or.inl (hw _ (List.mem_of_getElem? (i := 45) rfl))) Via.refl e8 cf10 cf11 (Or.inr ⟨(hw _ (List.mem_of_getElem? (i := 46) rfl)), rfl, hnm⟩) (hw _ (List.mem_of_getElem? (i := 1) rfl)) (ty := (.object "java/lang/String")) (by decide) rfl rfl (g := (mkF m 14 #[.val (.ref b), .val (.ref ow), .val (.ref ve), .val (.int x), .val (.int y)] [(.ref ow), (.ref b)])) rfl rfl (hb hby own_d_prog_7_method_2_code_14)
  have ch13 : ∀ t, Steps p.tables e below (T12.setTop (mkF m 17 #[.val (.ref b), .val (.ref ow), .val (.ref ve), .val (.int x), .val (.int y)] [])) t → Steps p.tables e below (s₁.setTop (entryFrame m #[(.ref b), (.ref ow), (.ref ve), (.int x), (.int y)] 5)) t := fun t k => ch9 t (by
      show Steps p.tables e below (T8.setTop (mkF m 14 #[.val (.ref b), .val (.ref ow), .val (.ref ve), .val (.int x), .val (.int y)] [(.ref ow), (.ref b)])) t
      exact st12 t k)
  have Fw12 := Fld.same W12 cf10
  have hk := Nat.le_trans hk (Keep.of_wr W12).1
  have N12 := Fr.snoc X12 N5 g
  have Kp12 := Keep.wr Kp3 W12 (Or.inl (List.mem_of_getElem? (i := 0) rfl))
  obtain ⟨ls14, T14, hp14, ks14, X14, e14, E14, hS, hk, hZ, hown, st14⟩ := ldcS X12 hx hZ hown (hw _ (List.mem_of_getElem? (i := 47) rfl)) (own_wS hw) e12 hS hk (g := (mkF m 19 #[.val (.ref b), .val (.ref ow), .val (.ref ve), .val (.int x), .val (.int y)] [(.ref ve), (.ref b)])) rfl (hb hby own_d_prog_7_method_2_code_19) (n := 32) (by decide) (by decide) (by decide) (by decide)
  have Kp14 := Keep.ext Kp12 E14
  have ch15 : ∀ t, Steps p.tables e below (T14.setTop (mkF m 21 #[.val (.ref b), .val (.ref ow), .val (.ref ve), .val (.int x), .val (.int y)] [(.ref ls14), (.ref ve), (.ref b)])) t → Steps p.tables e below (s₁.setTop (entryFrame m #[(.ref b), (.ref ow), (.ref ve), (.int x), (.int y)] 5)) t := fun t k => ch13 t (by
      show Steps p.tables e below (T12.setTop (mkF m 17 #[.val (.ref b), .val (.ref ow), .val (.ref ve), .val (.int x), .val (.int y)] [])) t
      refine XS.aloadN X12.here hx rfl (hb hby own_d_prog_7_method_2_code_17) rfl rfl ?_
      show Steps p.tables e below (T12.setTop (mkF m 18 #[.val (.ref b), .val (.ref ow), .val (.ref ve), .val (.int x), .val (.int y)] [(.ref b)])) t
      refine XS.aloadN X12.here hx rfl (hb hby own_d_prog_7_method_2_code_18) rfl rfl ?_
      show Steps p.tables e below (T12.setTop (mkF m 19 #[.val (.ref b), .val (.ref ow), .val (.ref ve), .val (.int x), .val (.int y)] [(.ref ve), (.ref b)])) t
      exact st14 t k)
  obtain ⟨vv16, _, ⟨T16, L16, kk16, nn16⟩, -, X16, ⟨Lc16, hQ16, l16, y16, z16⟩, st16⟩ := Jvm.LawKit.callS X14 hx (y := (⟨"java/util/Objects", "requireNonNull", "(Ljava/lang/Object;Ljava/lang/String;)Ljava/lang/Object;"⟩ : MethodName)) hown (mvT hZ (hw _ (List.mem_of_getElem? (i := 40) rfl))) (mvT hZ (hw _ (List.mem_of_getElem? (i := 41) rfl))) (mvT hZ (hw _ (List.mem_of_getElem? (i := 42) rfl))) (mvT hZ (hw _ (List.mem_of_getElem? (i := 43) rfl))) (by decide) (backOf (W := 1) (own_rnn l Z a0 hw [] hp14 n0 (Nat.le_trans Z0 Kp14.1) ve ls14) hZ (hw _ (List.mem_of_getElem? (i := 43) rfl)) (hw _ (List.mem_of_getElem? (i := 42) rfl)) (by decide) (by decide)) (g := (mkF m 21 #[.val (.ref b), .val (.ref ow), .val (.ref ve), .val (.int x), .val (.int y)] [(.ref ls14), (.ref ve), (.ref b)])) rfl (by rw [hml]; rfl) (argsL := [(.ref ve), (.ref ls14)]) (rest := [(.ref b)]) (lenOf own_pd__Ljava_lang_Object_Ljava_lang_String__Ljava_lang_Object_ rfl) rfl (by show 2 * 0 + _ ≤ _; exact Nat.le_of_eq rfl) (hb hby own_d_prog_7_method_2_code_21) (fun _ _ => ⟨rfl, e14, (by decide : 4 + 0 ≤ _), (by decide : 60 + 0 ≤ _)⟩)
  dsimp only [Pt.U, Pt.locs, Pt.cells, Pt.slots] at X16 l16 y16 z16 st16 hQ16
  subst l16 y16 z16
  obtain ⟨rfl, Nq16, e16⟩ := hQ16
  have N16 := Fr.app N12 Nq16
  have ch17 : ∀ t, Steps p.tables e below (T16.setTop (mkF m 24 #[.val (.ref b), .val (.ref ow), .val (.ref ve), .val (.int x), .val (.int y)] [(.ref ve), (.ref b)])) t → Steps p.tables e below (s₁.setTop (entryFrame m #[(.ref b), (.ref ow), (.ref ve), (.int x), (.int y)] 5)) t := fun t k => ch15 t (by
      show Steps p.tables e below (T14.setTop (mkF m 21 #[.val (.ref b), .val (.ref ow), .val (.ref ve), .val (.int x), .val (.int y)] [(.ref ls14), (.ref ve), (.ref b)])) t
      exact st16 t k)
  have cf18 := ((Exa.wr W12 (Ev.ext E3)).ext E14)
  obtain ⟨T19, X19, e19, st19⟩ := castY X16 hx hZ hown (hw _ (List.mem_of_getElem? (i := 44) rfl)) e16 (Ins.self cf18) (g := (mkF m 24 #[.val (.ref b), .val (.ref ow), .val (.ref ve), .val (.int x), .val (.int y)] [(.ref ve), (.ref b)])) rfl rfl (hb hby own_d_prog_7_method_2_code_24)
  have ch20 : ∀ t, Steps p.tables e below (T19.setTop (mkF m 27 #[.val (.ref b), .val (.ref ow), .val (.ref ve), .val (.int x), .val (.int y)] [(.ref ve), (.ref b)])) t → Steps p.tables e below (s₁.setTop (entryFrame m #[(.ref b), (.ref ow), (.ref ve), (.int x), (.int y)] 5)) t := fun t k => ch17 t (by
      show Steps p.tables e below (T16.setTop (mkF m 24 #[.val (.ref b), .val (.ref ow), .val (.ref ve), .val (.int x), .val (.int y)] [(.ref ve), (.ref b)])) t
      exact st19 t k)
  have cf21 := ((Fld.other W12 (F_verifier.ext E3) (Or.inr (slot_ne (Or.inr (hw _ (List.mem_of_getElem? (i := 49) rfl))) (Or.inr (hw _ (List.mem_of_getElem? (i := 46) rfl))) (by decide) (t := (.object "java/lang/String")) (t' := (.object "java/lang/String")) (by decide) (by decide)))).ext E14)
  have cf22 := ((Exa.wr W12 cf11).ext E14)
  obtain ⟨T23, hp23, X23, e23, W23, st23⟩ := putF X19 hx hZ hown (host := "") (Or.inl (hw _ (List.mem_of_getElem? (i := 48) rfl))) Via.refl e19 cf21 cf22 (Or.inr ⟨(hw _ (List.mem_of_getElem? (i := 49) rfl)), rfl, hnm⟩) (hw _ (List.mem_of_getElem? (i := 1) rfl)) (ty := (.object "java/lang/String")) (by decide) rfl rfl (g := (mkF m 27 #[.val (.ref b), .val (.ref ow), .val (.ref ve), .val (.int x), .val (.int y)] [(.ref ve), (.ref b)])) rfl rfl (hb hby own_d_prog_7_method_2_code_27)
  have ch24 : ∀ t, Steps p.tables e below (T23.setTop (mkF m 30 #[.val (.ref b), .val (.ref ow), .val (.ref ve), .val (.int x), .val (.int y)] [])) t → Steps p.tables e below (s₁.setTop (entryFrame m #[(.ref b), (.ref ow), (.ref ve), (.int x), (.int y)] 5)) t := fun t k => ch20 t (by
      show Steps p.tables e below (T19.setTop (mkF m 27 #[.val (.ref b), .val (.ref ow), .val (.ref ve), .val (.int x), .val (.int y)] [(.ref ve), (.ref b)])) t
      exact st23 t k)
  have Fw23 := Fld.same W23 cf21
  have hk := Nat.le_trans hk (Keep.of_wr W23).1
  have N23 := Fr.snoc X23 N16 g
  have Kp23 := Keep.wr Kp14 W23 (Or.inl (List.mem_of_getElem? (i := 0) rfl))
  have cf25 := (Fld.other W23 ((Fld.other W12 (F_locksRevoked.ext E3) (Or.inr (slot_ne (Or.inr (hw _ (List.mem_of_getElem? (i := 51) rfl))) (Or.inr (hw _ (List.mem_of_getElem? (i := 46) rfl))) (by decide) (t := .boolean) (t' := (.object "java/lang/String")) (by decide) (by decide)))).ext E14) (Or.inr (slot_ne (Or.inr (hw _ (List.mem_of_getElem? (i := 51) rfl))) (Or.inr (hw _ (List.mem_of_getElem? (i := 49) rfl))) (by decide) (t := .boolean) (t' := (.object "java/lang/String")) (by decide) (by decide))))
  have cf26 := (Exa.wr W23 cf22)
  obtain ⟨T27, hp27, X27, e27, W27, st27⟩ := putFN X23 hx hZ hown (hw _ (List.mem_of_getElem? (i := 50) rfl)) Via.refl e23 cf25 cf26 (Or.inr ⟨(hw _ (List.mem_of_getElem? (i := 51) rfl)), rfl, hnm⟩) (hw _ (List.mem_of_getElem? (i := 1) rfl)) (ty := .boolean) (v' := (.int x)) (by decide) (own_nb bx) (own_fb bx) (g := (mkF m 32 #[.val (.ref b), .val (.ref ow), .val (.ref ve), .val (.int x), .val (.int y)] [(.int x), (.ref b)])) rfl rfl (hb hby own_d_prog_7_method_2_code_32)
  have ch28 : ∀ t, Steps p.tables e below (T27.setTop (mkF m 35 #[.val (.ref b), .val (.ref ow), .val (.ref ve), .val (.int x), .val (.int y)] [])) t → Steps p.tables e below (s₁.setTop (entryFrame m #[(.ref b), (.ref ow), (.ref ve), (.int x), (.int y)] 5)) t := fun t k => ch24 t (by
      show Steps p.tables e below (T23.setTop (mkF m 30 #[.val (.ref b), .val (.ref ow), .val (.ref ve), .val (.int x), .val (.int y)] [])) t
      refine XS.aloadN X23.here hx rfl (hb hby own_d_prog_7_method_2_code_30) rfl rfl ?_
      show Steps p.tables e below (T23.setTop (mkF m 31 #[.val (.ref b), .val (.ref ow), .val (.ref ve), .val (.int x), .val (.int y)] [(.ref b)])) t
      refine XS.iloadN X23.here hx rfl (hb hby own_d_prog_7_method_2_code_31) rfl ?_
      show Steps p.tables e below (T23.setTop (mkF m 32 #[.val (.ref b), .val (.ref ow), .val (.ref ve), .val (.int x), .val (.int y)] [(.int x), (.ref b)])) t
      exact st27 t k)
  have Fw27 := Fld.same W27 cf25
  have hk := Nat.le_trans hk (Keep.of_wr W27).1
  have N27 := Fr.snoc X27 N23 g
  have Kp27 := Keep.wr Kp23 W27 (Or.inl (List.mem_of_getElem? (i := 0) rfl))
  have cf29 := (Fld.other W27 (Fld.other W23 ((Fld.other W12 (F_graceMissed.ext E3) (Or.inr (slot_ne (Or.inr (hw _ (List.mem_of_getElem? (i := 53) rfl))) (Or.inr (hw _ (List.mem_of_getElem? (i := 46) rfl))) (by decide) (t := .boolean) (t' := (.object "java/lang/String")) (by decide) (by decide)))).ext E14) (Or.inr (slot_ne (Or.inr (hw _ (List.mem_of_getElem? (i := 53) rfl))) (Or.inr (hw _ (List.mem_of_getElem? (i := 49) rfl))) (by decide) (t := .boolean) (t' := (.object "java/lang/String")) (by decide) (by decide)))) (Or.inr (slot_ne (Or.inr (hw _ (List.mem_of_getElem? (i := 53) rfl))) (Or.inr (hw _ (List.mem_of_getElem? (i := 51) rfl))) (by decide) (t := .boolean) (t' := .boolean) (by decide) (by decide))))
  have cf30 := (Exa.wr W27 cf26)
  obtain ⟨T31, hp31, X31, e31, W31, st31⟩ := putFN X27 hx hZ hown (hw _ (List.mem_of_getElem? (i := 52) rfl)) Via.refl e27 cf29 cf30 (Or.inr ⟨(hw _ (List.mem_of_getElem? (i := 53) rfl)), rfl, hnm⟩) (hw _ (List.mem_of_getElem? (i := 1) rfl)) (ty := .boolean) (v' := (.int y)) (by decide) (own_nb byy) (own_fb byy) (g := (mkF m 38 #[.val (.ref b), .val (.ref ow), .val (.ref ve), .val (.int x), .val (.int y)] [(.int y), (.ref b)])) rfl rfl (hb hby own_d_prog_7_method_2_code_38)
  have ch32 : ∀ t, Steps p.tables e below (T31.setTop (mkF m 41 #[.val (.ref b), .val (.ref ow), .val (.ref ve), .val (.int x), .val (.int y)] [])) t → Steps p.tables e below (s₁.setTop (entryFrame m #[(.ref b), (.ref ow), (.ref ve), (.int x), (.int y)] 5)) t := fun t k => ch28 t (by
      show Steps p.tables e below (T27.setTop (mkF m 35 #[.val (.ref b), .val (.ref ow), .val (.ref ve), .val (.int x), .val (.int y)] [])) t
      refine XS.aloadN X27.here hx rfl (hb hby own_d_prog_7_method_2_code_35) rfl rfl ?_
      show Steps p.tables e below (T27.setTop (mkF m 36 #[.val (.ref b), .val (.ref ow), .val (.ref ve), .val (.int x), .val (.int y)] [(.ref b)])) t
      refine XS.iload X27.here hx rfl (hb hby own_d_prog_7_method_2_code_36) rfl ?_
      show Steps p.tables e below (T27.setTop (mkF m 38 #[.val (.ref b), .val (.ref ow), .val (.ref ve), .val (.int x), .val (.int y)] [(.int y), (.ref b)])) t
      exact st31 t k)
  have Fw31 := Fld.same W31 cf29
  have hk := Nat.le_trans hk (Keep.of_wr W31).1
  have N31 := Fr.snoc X31 N27 g
  have Kp31 := Keep.wr Kp27 W31 (Or.inl (List.mem_of_getElem? (i := 0) rfl))
  have cf33 := (Exa.wr W31 cf30)
  have cf34 := (Fld.other W31 (Fld.other W27 (Fld.other W23 (Fw12.ext E14) (Or.inr (slot_ne (Or.inr (hw _ (List.mem_of_getElem? (i := 46) rfl))) (Or.inr (hw _ (List.mem_of_getElem? (i := 49) rfl))) (by decide) (t := (.object "java/lang/String")) (t' := (.object "java/lang/String")) (by decide) (by decide)))) (Or.inr (slot_ne (Or.inr (hw _ (List.mem_of_getElem? (i := 46) rfl))) (Or.inr (hw _ (List.mem_of_getElem? (i := 51) rfl))) (by decide) (t := (.object "java/lang/String")) (t' := .boolean) (by decide) (by decide)))) (Or.inr (slot_ne (Or.inr (hw _ (List.mem_of_getElem? (i := 46) rfl))) (Or.inr (hw _ (List.mem_of_getElem? (i := 53) rfl))) (by decide) (t := (.object "java/lang/String")) (t' := .boolean) (by decide) (by decide))))
  have cf35 := (Fld.other W31 (Fld.other W27 Fw23 (Or.inr (slot_ne (Or.inr (hw _ (List.mem_of_getElem? (i := 49) rfl))) (Or.inr (hw _ (List.mem_of_getElem? (i := 51) rfl))) (by decide) (t := (.object "java/lang/String")) (t' := .boolean) (by decide) (by decide)))) (Or.inr (slot_ne (Or.inr (hw _ (List.mem_of_getElem? (i := 49) rfl))) (Or.inr (hw _ (List.mem_of_getElem? (i := 53) rfl))) (by decide) (t := (.object "java/lang/String")) (t' := .boolean) (by decide) (by decide))))
  have cf36 := (Fld.other W31 Fw27 (Or.inr (slot_ne (Or.inr (hw _ (List.mem_of_getElem? (i := 51) rfl))) (Or.inr (hw _ (List.mem_of_getElem? (i := 53) rfl))) (by decide) (t := .boolean) (t' := .boolean) (by decide) (by decide))))
  obtain ⟨fs, hr, hrun, hended, hend⟩ := X31.leaveW hS (by rw [e31]; exact hk) (v := none) (fun _ => rfl)
  refine ⟨_, _, ch32 _ ?_, hrun, hended, _, _, rfl, ?_, hend.1, hend.2.1, hend.2.2.1, hend.2.2.2.mono (by decide) (by decide)⟩
  · show Steps p.tables e below (T31.setTop (mkF m 41 #[.val (.ref b), .val (.ref ow), .val (.ref ve), .val (.int x), .val (.int y)] [])) _
    exact X31.returnOut hx Bd.returns (hb hby own_d_prog_7_method_2_code_41) hr
  · show QCi Z b ow ve x y h0 n0 _ T31.heap _
    rw [e31]
    exact ⟨rfl, N31, Kp31, cf33, cf34, cf35, cf36, Fw31⟩
theorem own_frnil {L : List Loc} {n0 : Nat} (h : L = []) : Fr n0 L := by subst h; exact Fr.nil _
theorem own_bd {x : Int32} (h : ¬ x < 0 ∧ ¬ (255 : Int32) < x) : ∀ c ∈ ([x] : List Int32), ¬ c < 0 ∧ ¬ (65535 : Int32) < c := by
  intro c hc
  cases List.mem_singleton.mp hc
  refine ⟨h.1, fun q => h.2 ?_⟩
  rw [Int32.lt_iff_toInt_lt] at q ⊢
  simp at q ⊢
  omega
theorem own_ef_own_eq_c (m : MethodId) {x0 : Addr} {x1 : Addr} : entryFrame m #[(.ref x0), (.ref x1)] 3 = mkF m 0 #[.val (.ref x0), .val (.ref x1), .unset] [] := by first | (simp [entryFrame, mkF, argsToLocals, Value.category, maxLocals]; done) | rfl
set_option maxRecDepth 65536 in
set_option maxHeartbeats 40000000 in
theorem own_eq_c (l : Launch) (Z : State) (a0 : Array Value) (hw : ∀ d ∈ tables_1, d.before a0 Z = true) (ws : List Jvm.Cond) (h0 : Heap) (n0 : Nat) (Z0 : n0 ≤ h0.size) (b ow ve : Addr) (x y ca da : Int32) (Eb : Exa Z h0 b "com/example/nokkel/nokkel/core/ClientRecord") (Fb_owner : Fld Z h0 b "com/example/nokkel/nokkel/core/ClientRecord" "owner" "Ljava/lang/String;" (.ref ow)) (Fb_verifier : Fld Z h0 b "com/example/nokkel/nokkel/core/ClientRecord" "verifier" "Ljava/lang/String;" (.ref ve)) (Fb_locksRevoked : Fld Z h0 b "com/example/nokkel/nokkel/core/ClientRecord" "locksRevoked" "Z" (.int x)) (Fb_graceMissed : Fld Z h0 b "com/example/nokkel/nokkel/core/ClientRecord" "graceMissed" "Z" (.int y)) (t1 : Addr) (k1 : ClassId) (E1 : Exa Z h0 ow "java/lang/String") (V1 : Fld Z h0 ow "java/lang/String" "value" "[B" (.ref t1)) (C1 : Fld Z h0 ow "java/lang/String" "coder" "B" (.int 0)) (A1 : Arv Z h0 t1 k1 .byte (1 : Int32) (((([ca] : List Int32)).map (fun c => c.toInt8.toInt32)).map Value.int) (.int 0)) (P1 : ¬ ca < 0 ∧ ¬ (255 : Int32) < ca) (t2 : Addr) (k2 : ClassId) (E2 : Exa Z h0 ve "java/lang/String") (V2 : Fld Z h0 ve "java/lang/String" "value" "[B" (.ref t2)) (C2 : Fld Z h0 ve "java/lang/String" "coder" "B" (.int 0)) (A2 : Arv Z h0 t2 k2 .byte (1 : Int32) (((([da] : List Int32)).map (fun c => c.toInt8.toInt32)).map Value.int) (.int 0)) (P2 : ¬ da < 0 ∧ ¬ (255 : Int32) < da) (zC : Int32) (S_CS : Sta Z h0 "java/lang/String" "COMPACT_STRINGS" "Z" (.int zC)) (P5 : ¬ (zC = (0 : Int32))) (b2 o2 v2 : Addr) (x2 y2 ca2 da2 : Int32) (Eb2 : Exa Z h0 b2 "com/example/nokkel/nokkel/core/ClientRecord") (Fb2_owner : Fld Z h0 b2 "com/example/nokkel/nokkel/core/ClientRecord" "owner" "Ljava/lang/String;" (.ref o2)) (Fb2_verifier : Fld Z h0 b2 "com/example/nokkel/nokkel/core/ClientRecord" "verifier" "Ljava/lang/String;" (.ref v2)) (Fb2_locksRevoked : Fld Z h0 b2 "com/example/nokkel/nokkel/core/ClientRecord" "locksRevoked" "Z" (.int x2)) (Fb2_graceMissed : Fld Z h0 b2 "com/example/nokkel/nokkel/core/ClientRecord" "graceMissed" "Z" (.int y2)) (t3 : Addr) (k3 : ClassId) (E3 : Exa Z h0 o2 "java/lang/String") (V3 : Fld Z h0 o2 "java/lang/String" "value" "[B" (.ref t3)) (C3 : Fld Z h0 o2 "java/lang/String" "coder" "B" (.int 0)) (A3 : Arv Z h0 t3 k3 .byte (1 : Int32) (((([ca2] : List Int32)).map (fun c => c.toInt8.toInt32)).map Value.int) (.int 0)) (P3 : ¬ ca2 < 0 ∧ ¬ (255 : Int32) < ca2) (t4 : Addr) (k4 : ClassId) (E4 : Exa Z h0 v2 "java/lang/String") (V4 : Fld Z h0 v2 "java/lang/String" "value" "[B" (.ref t4)) (C4 : Fld Z h0 v2 "java/lang/String" "coder" "B" (.int 0)) (A4 : Arv Z h0 t4 k4 .byte (1 : Int32) (((([da2] : List Int32)).map (fun c => c.toInt8.toInt32)).map Value.int) (.int 0)) (P4 : ¬ da2 < 0 ∧ ¬ (255 : Int32) < da2) (qca : ¬ ca = ca2) :
    MetFree l (⟨"com/example/nokkel/nokkel/core/ClientRecord", "equals", "(Ljava/lang/Object;)Z"⟩ : MethodName) (head1 (Jvm.Cond.code (⟨"com/example/nokkel/nokkel/core/ClientRecord", "equals", "(Ljava/lang/Object;)Z"⟩ : MethodName) prog_7_method_10_code 3 (some .boolean) :: ws) ({ frames := 2, cells := 0, slots := 0, locals := 28 } : Room)) (fun a U => a = #[(.ref b), (.ref b2)] ∧ Z.Warmed39 U.vm ∧ U.heap = h0) (fun _ _ _ _ _ => True) (fun _ U o U' => ∃ v L, o = .returned v ∧ QV (some (.int (0 : Int32))) h0 n0 v U'.heap L ∧ FrameEnd U o U' L ({ frames := 2, cells := 0, slots := 0, locals := 28 } : Room).cells ({ frames := 2, cells := 0, slots := 0, locals := 28 } : Room).slots) := by
  refine MetFree.of_bodySF (plainFor_of_name own_pn_com_example_nokkel_nokkel_core_ClientRecord) hisR ?_
  intro p e s m args below meth c s₁ Bd hml0 hP hK
  obtain ⟨rfl, hZ, hh⟩ := hP
  have hx := Bd.exec
  have hby := Bd.bytes
  have hml : c.maxLocals = 3 := hml0
  have hown : s.vm.findClass "com/example/nokkel/nokkel/core/ClientRecord" = some m.cls := (findClass_of_methodNamed Bd.named :)
  have hnm := (name_of_methodNamed Bd.named Bd.method).1
  have X0 : Stand p l e ({ frames := 2, cells := 0, slots := 0, locals := 28 } : Room) s m #[(.ref b), (.ref b2)] below meth c s₁ [] 0 0 := Stand.of_body Bd
  have e0 : s₁.heap = h0 := by rw [← hh, Bd.state]; rfl
  have N0 := Fr.nil n0
  have pre0 : ∀ t, Steps p.tables e below (s₁.setTop (mkF m 0 #[.val (.ref b), .val (.ref b2), .unset] [])) t → Steps p.tables e below (s₁.setTop (entryFrame m #[(.ref b), (.ref b2)] 3)) t := fun t k => castTop (own_ef_own_eq_c m) k
  obtain ⟨T1, X1, e1, st1⟩ := instY X0 hx hZ hown (hw _ (List.mem_of_getElem? (i := 59) rfl)) e0 (Ins.self Eb2) (g := (mkF m 1 #[.val (.ref b), .val (.ref b2), .unset] [(.ref b2)])) rfl rfl (hb hby own_d_prog_7_method_10_code_1)
  have ch2 : ∀ t, Steps p.tables e below (T1.setTop (mkF m 4 #[.val (.ref b), .val (.ref b2), .unset] [(.int (1 : Int32))])) t → Steps p.tables e below (s₁.setTop (entryFrame m #[(.ref b), (.ref b2)] 3)) t := fun t k => pre0 t (by
      show Steps p.tables e below (s₁.setTop (mkF m 0 #[.val (.ref b), .val (.ref b2), .unset] [])) t
      refine XS.aloadN X0.here hx rfl (hb hby own_d_prog_7_method_10_code_0) rfl rfl ?_
      show Steps p.tables e below (s₁.setTop (mkF m 1 #[.val (.ref b), .val (.ref b2), .unset] [(.ref b2)])) t
      exact st1 t k)
  obtain ⟨T3, X3, e3, st3⟩ := castY X1 hx hZ hown (hw _ (List.mem_of_getElem? (i := 59) rfl)) e1 (Ins.self Eb2) (g := (mkF m 8 #[.val (.ref b), .val (.ref b2), .unset] [(.ref b2)])) rfl rfl (hb hby own_d_prog_7_method_10_code_8)
  have ch4 : ∀ t, Steps p.tables e below (T3.setTop (mkF m 11 #[.val (.ref b), .val (.ref b2), .unset] [(.ref b2)])) t → Steps p.tables e below (s₁.setTop (entryFrame m #[(.ref b), (.ref b2)] 3)) t := fun t k => ch2 t (by
      show Steps p.tables e below (T1.setTop (mkF m 4 #[.val (.ref b), .val (.ref b2), .unset] [(.int (1 : Int32))])) t
      refine XS.ifNo X1.here hx rfl (hb hby own_d_prog_7_method_10_code_4) rfl ((if0 _ _).trans (feq (by decide : ¬ (1 : Int32) = (0 : Int32))).1) ?_
      show Steps p.tables e below (T1.setTop (mkF m 7 #[.val (.ref b), .val (.ref b2), .unset] [])) t
      refine XS.aloadN X1.here hx rfl (hb hby own_d_prog_7_method_10_code_7) rfl rfl ?_
      show Steps p.tables e below (T1.setTop (mkF m 8 #[.val (.ref b), .val (.ref b2), .unset] [(.ref b2)])) t
      exact st3 t k)
  obtain ⟨T5, X5, e5, st5⟩ := getF X3 hx hZ hown (host := "") (Or.inl (hw _ (List.mem_of_getElem? (i := 45) rfl))) Via.refl e3 Fb_owner (g := (mkF m 13 #[.val (.ref b), .val (.ref b2), .val (.ref b2)] [(.ref b)])) rfl rfl (hb hby own_d_prog_7_method_10_code_13)
  have ch6 : ∀ t, Steps p.tables e below (T5.setTop (mkF m 16 #[.val (.ref b), .val (.ref b2), .val (.ref b2)] [(.ref ow)])) t → Steps p.tables e below (s₁.setTop (entryFrame m #[(.ref b), (.ref b2)] 3)) t := fun t k => ch4 t (by
      show Steps p.tables e below (T3.setTop (mkF m 11 #[.val (.ref b), .val (.ref b2), .unset] [(.ref b2)])) t
      refine XS.astoreN X3.here hx rfl (hb hby own_d_prog_7_method_10_code_11) rfl rfl (l' := #[.val (.ref b), .val (.ref b2), .val (.ref b2)]) rfl ?_
      show Steps p.tables e below (T3.setTop (mkF m 12 #[.val (.ref b), .val (.ref b2), .val (.ref b2)] [])) t
      refine XS.aloadN X3.here hx rfl (hb hby own_d_prog_7_method_10_code_12) rfl rfl ?_
      show Steps p.tables e below (T3.setTop (mkF m 13 #[.val (.ref b), .val (.ref b2), .val (.ref b2)] [(.ref b)])) t
      exact st5 t k)
  obtain ⟨T7, X7, e7, st7⟩ := getF X5 hx hZ hown (host := "") (Or.inl (hw _ (List.mem_of_getElem? (i := 45) rfl))) Via.refl e5 Fb2_owner (g := (mkF m 17 #[.val (.ref b), .val (.ref b2), .val (.ref b2)] [(.ref b2), (.ref ow)])) rfl rfl (hb hby own_d_prog_7_method_10_code_17)
  have ch8 : ∀ t, Steps p.tables e below (T7.setTop (mkF m 20 #[.val (.ref b), .val (.ref b2), .val (.ref b2)] [(.ref o2), (.ref ow)])) t → Steps p.tables e below (s₁.setTop (entryFrame m #[(.ref b), (.ref b2)] 3)) t := fun t k => ch6 t (by
      show Steps p.tables e below (T5.setTop (mkF m 16 #[.val (.ref b), .val (.ref b2), .val (.ref b2)] [(.ref ow)])) t
      refine XS.aloadN X5.here hx rfl (hb hby own_d_prog_7_method_10_code_16) rfl rfl ?_
      show Steps p.tables e below (T5.setTop (mkF m 17 #[.val (.ref b), .val (.ref b2), .val (.ref b2)] [(.ref b2), (.ref ow)])) t
      exact st7 t k)
  obtain ⟨cq9, kq9, qa9, qb9, qc9⟩ := isOf hZ e7 E1
  obtain ⟨vv10, _, ⟨T10, L10, kk10, nn10⟩, -, X10, ⟨Lc10, hQ10, l10, y10, z10⟩, st10⟩ := X7.virtualBack hx (y := (⟨"java/lang/String", "equals", "(Ljava/lang/Object;)Z"⟩ : MethodName)) (z := (⟨"java/lang/String", "equals", "(Ljava/lang/Object;)Z"⟩ : MethodName)) hown (mvT hZ (hw _ (List.mem_of_getElem? (i := 61) rfl))) (mvT hZ (hw _ (List.mem_of_getElem? (i := 62) rfl))) (notFace_of_selects (args := #[]) (mvT hZ (hw _ (List.mem_of_getElem? (i := 64) rfl)))) (mvT hZ (hw _ (List.mem_of_getElem? (i := 64) rfl))) (mvT hZ (hw _ (List.mem_of_getElem? (i := 63) rfl))) (by decide) (StrChars.Road.eqW (W := 0) hZ (own_wordsEq hw) (kI := 4) (hw _ (List.mem_of_getElem? (i := 4) rfl)) E1 V1 C1 A1 (StrChars.Road.codOf (n := 1) rfl (fun c hc => by cases List.mem_singleton.mp hc; exact P1.2)) (own_bd P1) (Nat.le_of_ble_eq_true rfl) E3 V3 C3 A3 (StrChars.Road.codOf (n := 1) rfl (fun c hc => by cases List.mem_singleton.mp hc; exact P3.2)) (own_bd P3) (Nat.le_of_ble_eq_true rfl) S_CS P5 (by decide) (by decide)) qa9 qc9 (g := (mkF m 20 #[.val (.ref b), .val (.ref b2), .val (.ref b2)] [(.ref o2), (.ref ow)])) rfl (by rw [hml]; rfl) (Steps.refl _) (argsL := [(.ref o2)]) (rest := []) (lenOf own_pd__Ljava_lang_Object__Z rfl) rfl (by show 2 * 0 + _ ≤ _; exact Nat.le_of_eq rfl) (hb hby own_d_prog_7_method_10_code_20) (fun _ _ => ⟨rfl, e7, (by decide : 0 + 0 ≤ _), (by decide : 0 + 0 ≤ _)⟩)
  dsimp only [Pt.U, Pt.locs, Pt.cells, Pt.slots] at X10 l10 y10 z10 st10 hQ10
  subst l10 y10 z10
  obtain rfl : vv10 = some (.int (0 : Int32)) := hQ10.1.elim (fun q => absurd (List.cons.inj q.2).1 qca) (fun q => q.1)
  have Nq10 := own_frnil (n0 := n0) hQ10.2.1
  have e10 := hQ10.2.2
  have N10 := Fr.app N0 Nq10
  have ch11 : ∀ t, Steps p.tables e below (T10.setTop (mkF m 23 #[.val (.ref b), .val (.ref b2), .val (.ref b2)] [(.int (0 : Int32))])) t → Steps p.tables e below (s₁.setTop (entryFrame m #[(.ref b), (.ref b2)] 3)) t := fun t k => ch8 t (by
      show Steps p.tables e below (T7.setTop (mkF m 20 #[.val (.ref b), .val (.ref b2), .val (.ref b2)] [(.ref o2), (.ref ow)])) t
      exact st10.trans k)
  have ch12 : ∀ t, Steps p.tables e below (T10.setTop (mkF m 67 #[.val (.ref b), .val (.ref b2), .val (.ref b2)] [(.int (0 : Int32))])) t → Steps p.tables e below (s₁.setTop (entryFrame m #[(.ref b), (.ref b2)] 3)) t := fun t k => ch11 t (by
      show Steps p.tables e below (T10.setTop (mkF m 23 #[.val (.ref b), .val (.ref b2), .val (.ref b2)] [(.int (0 : Int32))])) t
      refine XS.ifYes X10.here hx rfl (pc0 := 23) (pc' := 66) rfl (hb hby own_d_prog_7_method_10_code_23) rfl ((if0 _ _).trans (teq (by decide : (0 : Int32) = (0 : Int32))).1) (by decide) (by decide) ?_
      show Steps p.tables e below (T10.setTop (mkF m 66 #[.val (.ref b), .val (.ref b2), .val (.ref b2)] [])) t
      refine XS.iconst X10.here hx rfl (hb hby own_d_prog_7_method_10_code_66) ?_
      exact k)
  obtain ⟨fs, hr, hrun, hended, hW, hsame⟩ := X10.leave (v := some (.int (0 : Int32))) (fun h => by rw [Bd.returns] at h; cases h)
  refine ⟨_, _, ch12 _ ?_, hrun, hended, _, _, rfl, ?_, ⟨_, rfl⟩, hW, hsame.mono (by decide) (by decide)⟩
  · show Steps p.tables e below (T10.setTop (mkF m 67 #[.val (.ref b), .val (.ref b2), .val (.ref b2)] [(.int (0 : Int32))])) _
    exact retN X10 hx (t := .boolean) Bd.returns (by simp) (hb hby own_d_prog_7_method_10_code_67) hr
  · show QV (some (.int (0 : Int32))) h0 n0 _ T10.heap _
    rw [e10]
    exact ⟨rfl, N10, rfl⟩
theorem own_ef_own_eq_d (m : MethodId) {x0 : Addr} {x1 : Addr} : entryFrame m #[(.ref x0), (.ref x1)] 3 = mkF m 0 #[.val (.ref x0), .val (.ref x1), .unset] [] := by first | (simp [entryFrame, mkF, argsToLocals, Value.category, maxLocals]; done) | rfl
set_option maxRecDepth 65536 in
set_option maxHeartbeats 40000000 in
theorem own_eq_d (l : Launch) (Z : State) (a0 : Array Value) (hw : ∀ d ∈ tables_1, d.before a0 Z = true) (ws : List Jvm.Cond) (h0 : Heap) (n0 : Nat) (Z0 : n0 ≤ h0.size) (b ow ve : Addr) (x y ca da : Int32) (Eb : Exa Z h0 b "com/example/nokkel/nokkel/core/ClientRecord") (Fb_owner : Fld Z h0 b "com/example/nokkel/nokkel/core/ClientRecord" "owner" "Ljava/lang/String;" (.ref ow)) (Fb_verifier : Fld Z h0 b "com/example/nokkel/nokkel/core/ClientRecord" "verifier" "Ljava/lang/String;" (.ref ve)) (Fb_locksRevoked : Fld Z h0 b "com/example/nokkel/nokkel/core/ClientRecord" "locksRevoked" "Z" (.int x)) (Fb_graceMissed : Fld Z h0 b "com/example/nokkel/nokkel/core/ClientRecord" "graceMissed" "Z" (.int y)) (t1 : Addr) (k1 : ClassId) (E1 : Exa Z h0 ow "java/lang/String") (V1 : Fld Z h0 ow "java/lang/String" "value" "[B" (.ref t1)) (C1 : Fld Z h0 ow "java/lang/String" "coder" "B" (.int 0)) (A1 : Arv Z h0 t1 k1 .byte (1 : Int32) (((([ca] : List Int32)).map (fun c => c.toInt8.toInt32)).map Value.int) (.int 0)) (P1 : ¬ ca < 0 ∧ ¬ (255 : Int32) < ca) (t2 : Addr) (k2 : ClassId) (E2 : Exa Z h0 ve "java/lang/String") (V2 : Fld Z h0 ve "java/lang/String" "value" "[B" (.ref t2)) (C2 : Fld Z h0 ve "java/lang/String" "coder" "B" (.int 0)) (A2 : Arv Z h0 t2 k2 .byte (1 : Int32) (((([da] : List Int32)).map (fun c => c.toInt8.toInt32)).map Value.int) (.int 0)) (P2 : ¬ da < 0 ∧ ¬ (255 : Int32) < da) (zC : Int32) (S_CS : Sta Z h0 "java/lang/String" "COMPACT_STRINGS" "Z" (.int zC)) (P5 : ¬ (zC = (0 : Int32))) (b2 o2 v2 : Addr) (x2 y2 ca2 da2 : Int32) (Eb2 : Exa Z h0 b2 "com/example/nokkel/nokkel/core/ClientRecord") (Fb2_owner : Fld Z h0 b2 "com/example/nokkel/nokkel/core/ClientRecord" "owner" "Ljava/lang/String;" (.ref o2)) (Fb2_verifier : Fld Z h0 b2 "com/example/nokkel/nokkel/core/ClientRecord" "verifier" "Ljava/lang/String;" (.ref v2)) (Fb2_locksRevoked : Fld Z h0 b2 "com/example/nokkel/nokkel/core/ClientRecord" "locksRevoked" "Z" (.int x2)) (Fb2_graceMissed : Fld Z h0 b2 "com/example/nokkel/nokkel/core/ClientRecord" "graceMissed" "Z" (.int y2)) (t3 : Addr) (k3 : ClassId) (E3 : Exa Z h0 o2 "java/lang/String") (V3 : Fld Z h0 o2 "java/lang/String" "value" "[B" (.ref t3)) (C3 : Fld Z h0 o2 "java/lang/String" "coder" "B" (.int 0)) (A3 : Arv Z h0 t3 k3 .byte (1 : Int32) (((([ca2] : List Int32)).map (fun c => c.toInt8.toInt32)).map Value.int) (.int 0)) (P3 : ¬ ca2 < 0 ∧ ¬ (255 : Int32) < ca2) (t4 : Addr) (k4 : ClassId) (E4 : Exa Z h0 v2 "java/lang/String") (V4 : Fld Z h0 v2 "java/lang/String" "value" "[B" (.ref t4)) (C4 : Fld Z h0 v2 "java/lang/String" "coder" "B" (.int 0)) (A4 : Arv Z h0 t4 k4 .byte (1 : Int32) (((([da2] : List Int32)).map (fun c => c.toInt8.toInt32)).map Value.int) (.int 0)) (P4 : ¬ da2 < 0 ∧ ¬ (255 : Int32) < da2) (qca : ca = ca2) (qda : ¬ da = da2) :
    MetFree l (⟨"com/example/nokkel/nokkel/core/ClientRecord", "equals", "(Ljava/lang/Object;)Z"⟩ : MethodName) (head1 (Jvm.Cond.code (⟨"com/example/nokkel/nokkel/core/ClientRecord", "equals", "(Ljava/lang/Object;)Z"⟩ : MethodName) prog_7_method_10_code 3 (some .boolean) :: ws) ({ frames := 2, cells := 0, slots := 0, locals := 28 } : Room)) (fun a U => a = #[(.ref b), (.ref b2)] ∧ Z.Warmed39 U.vm ∧ U.heap = h0) (fun _ _ _ _ _ => True) (fun _ U o U' => ∃ v L, o = .returned v ∧ QV (some (.int (0 : Int32))) h0 n0 v U'.heap L ∧ FrameEnd U o U' L ({ frames := 2, cells := 0, slots := 0, locals := 28 } : Room).cells ({ frames := 2, cells := 0, slots := 0, locals := 28 } : Room).slots) := by
  refine MetFree.of_bodySF (plainFor_of_name own_pn_com_example_nokkel_nokkel_core_ClientRecord) hisR ?_
  intro p e s m args below meth c s₁ Bd hml0 hP hK
  obtain ⟨rfl, hZ, hh⟩ := hP
  have hx := Bd.exec
  have hby := Bd.bytes
  have hml : c.maxLocals = 3 := hml0
  have hown : s.vm.findClass "com/example/nokkel/nokkel/core/ClientRecord" = some m.cls := (findClass_of_methodNamed Bd.named :)
  have hnm := (name_of_methodNamed Bd.named Bd.method).1
  have X0 : Stand p l e ({ frames := 2, cells := 0, slots := 0, locals := 28 } : Room) s m #[(.ref b), (.ref b2)] below meth c s₁ [] 0 0 := Stand.of_body Bd
  have e0 : s₁.heap = h0 := by rw [← hh, Bd.state]; rfl
  have N0 := Fr.nil n0
  have pre0 : ∀ t, Steps p.tables e below (s₁.setTop (mkF m 0 #[.val (.ref b), .val (.ref b2), .unset] [])) t → Steps p.tables e below (s₁.setTop (entryFrame m #[(.ref b), (.ref b2)] 3)) t := fun t k => castTop (own_ef_own_eq_d m) k
  obtain ⟨T1, X1, e1, st1⟩ := instY X0 hx hZ hown (hw _ (List.mem_of_getElem? (i := 59) rfl)) e0 (Ins.self Eb2) (g := (mkF m 1 #[.val (.ref b), .val (.ref b2), .unset] [(.ref b2)])) rfl rfl (hb hby own_d_prog_7_method_10_code_1)
  have ch2 : ∀ t, Steps p.tables e below (T1.setTop (mkF m 4 #[.val (.ref b), .val (.ref b2), .unset] [(.int (1 : Int32))])) t → Steps p.tables e below (s₁.setTop (entryFrame m #[(.ref b), (.ref b2)] 3)) t := fun t k => pre0 t (by
      show Steps p.tables e below (s₁.setTop (mkF m 0 #[.val (.ref b), .val (.ref b2), .unset] [])) t
      refine XS.aloadN X0.here hx rfl (hb hby own_d_prog_7_method_10_code_0) rfl rfl ?_
      show Steps p.tables e below (s₁.setTop (mkF m 1 #[.val (.ref b), .val (.ref b2), .unset] [(.ref b2)])) t
      exact st1 t k)
  obtain ⟨T3, X3, e3, st3⟩ := castY X1 hx hZ hown (hw _ (List.mem_of_getElem? (i := 59) rfl)) e1 (Ins.self Eb2) (g := (mkF m 8 #[.val (.ref b), .val (.ref b2), .unset] [(.ref b2)])) rfl rfl (hb hby own_d_prog_7_method_10_code_8)
  have ch4 : ∀ t, Steps p.tables e below (T3.setTop (mkF m 11 #[.val (.ref b), .val (.ref b2), .unset] [(.ref b2)])) t → Steps p.tables e below (s₁.setTop (entryFrame m #[(.ref b), (.ref b2)] 3)) t := fun t k => ch2 t (by
      show Steps p.tables e below (T1.setTop (mkF m 4 #[.val (.ref b), .val (.ref b2), .unset] [(.int (1 : Int32))])) t
      refine XS.ifNo X1.here hx rfl (hb hby own_d_prog_7_method_10_code_4) rfl ((if0 _ _).trans (feq (by decide : ¬ (1 : Int32) = (0 : Int32))).1) ?_
      show Steps p.tables e below (T1.setTop (mkF m 7 #[.val (.ref b), .val (.ref b2), .unset] [])) t
      refine XS.aloadN X1.here hx rfl (hb hby own_d_prog_7_method_10_code_7) rfl rfl ?_
      show Steps p.tables e below (T1.setTop (mkF m 8 #[.val (.ref b), .val (.ref b2), .unset] [(.ref b2)])) t
      exact st3 t k)
  obtain ⟨T5, X5, e5, st5⟩ := getF X3 hx hZ hown (host := "") (Or.inl (hw _ (List.mem_of_getElem? (i := 45) rfl))) Via.refl e3 Fb_owner (g := (mkF m 13 #[.val (.ref b), .val (.ref b2), .val (.ref b2)] [(.ref b)])) rfl rfl (hb hby own_d_prog_7_method_10_code_13)
  have ch6 : ∀ t, Steps p.tables e below (T5.setTop (mkF m 16 #[.val (.ref b), .val (.ref b2), .val (.ref b2)] [(.ref ow)])) t → Steps p.tables e below (s₁.setTop (entryFrame m #[(.ref b), (.ref b2)] 3)) t := fun t k => ch4 t (by
      show Steps p.tables e below (T3.setTop (mkF m 11 #[.val (.ref b), .val (.ref b2), .unset] [(.ref b2)])) t
      refine XS.astoreN X3.here hx rfl (hb hby own_d_prog_7_method_10_code_11) rfl rfl (l' := #[.val (.ref b), .val (.ref b2), .val (.ref b2)]) rfl ?_
      show Steps p.tables e below (T3.setTop (mkF m 12 #[.val (.ref b), .val (.ref b2), .val (.ref b2)] [])) t
      refine XS.aloadN X3.here hx rfl (hb hby own_d_prog_7_method_10_code_12) rfl rfl ?_
      show Steps p.tables e below (T3.setTop (mkF m 13 #[.val (.ref b), .val (.ref b2), .val (.ref b2)] [(.ref b)])) t
      exact st5 t k)
  obtain ⟨T7, X7, e7, st7⟩ := getF X5 hx hZ hown (host := "") (Or.inl (hw _ (List.mem_of_getElem? (i := 45) rfl))) Via.refl e5 Fb2_owner (g := (mkF m 17 #[.val (.ref b), .val (.ref b2), .val (.ref b2)] [(.ref b2), (.ref ow)])) rfl rfl (hb hby own_d_prog_7_method_10_code_17)
  have ch8 : ∀ t, Steps p.tables e below (T7.setTop (mkF m 20 #[.val (.ref b), .val (.ref b2), .val (.ref b2)] [(.ref o2), (.ref ow)])) t → Steps p.tables e below (s₁.setTop (entryFrame m #[(.ref b), (.ref b2)] 3)) t := fun t k => ch6 t (by
      show Steps p.tables e below (T5.setTop (mkF m 16 #[.val (.ref b), .val (.ref b2), .val (.ref b2)] [(.ref ow)])) t
      refine XS.aloadN X5.here hx rfl (hb hby own_d_prog_7_method_10_code_16) rfl rfl ?_
      show Steps p.tables e below (T5.setTop (mkF m 17 #[.val (.ref b), .val (.ref b2), .val (.ref b2)] [(.ref b2), (.ref ow)])) t
      exact st7 t k)
  obtain ⟨cq9, kq9, qa9, qb9, qc9⟩ := isOf hZ e7 E1
  obtain ⟨vv10, _, ⟨T10, L10, kk10, nn10⟩, -, X10, ⟨Lc10, hQ10, l10, y10, z10⟩, st10⟩ := X7.virtualBack hx (y := (⟨"java/lang/String", "equals", "(Ljava/lang/Object;)Z"⟩ : MethodName)) (z := (⟨"java/lang/String", "equals", "(Ljava/lang/Object;)Z"⟩ : MethodName)) hown (mvT hZ (hw _ (List.mem_of_getElem? (i := 61) rfl))) (mvT hZ (hw _ (List.mem_of_getElem? (i := 62) rfl))) (notFace_of_selects (args := #[]) (mvT hZ (hw _ (List.mem_of_getElem? (i := 64) rfl)))) (mvT hZ (hw _ (List.mem_of_getElem? (i := 64) rfl))) (mvT hZ (hw _ (List.mem_of_getElem? (i := 63) rfl))) (by decide) (StrChars.Road.eqW (W := 0) hZ (own_wordsEq hw) (kI := 4) (hw _ (List.mem_of_getElem? (i := 4) rfl)) E1 V1 C1 A1 (StrChars.Road.codOf (n := 1) rfl (fun c hc => by cases List.mem_singleton.mp hc; exact P1.2)) (own_bd P1) (Nat.le_of_ble_eq_true rfl) E3 V3 C3 A3 (StrChars.Road.codOf (n := 1) rfl (fun c hc => by cases List.mem_singleton.mp hc; exact P3.2)) (own_bd P3) (Nat.le_of_ble_eq_true rfl) S_CS P5 (by decide) (by decide)) qa9 qc9 (g := (mkF m 20 #[.val (.ref b), .val (.ref b2), .val (.ref b2)] [(.ref o2), (.ref ow)])) rfl (by rw [hml]; rfl) (Steps.refl _) (argsL := [(.ref o2)]) (rest := []) (lenOf own_pd__Ljava_lang_Object__Z rfl) rfl (by show 2 * 0 + _ ≤ _; exact Nat.le_of_eq rfl) (hb hby own_d_prog_7_method_10_code_20) (fun _ _ => ⟨rfl, e7, (by decide : 0 + 0 ≤ _), (by decide : 0 + 0 ≤ _)⟩)
  dsimp only [Pt.U, Pt.locs, Pt.cells, Pt.slots] at X10 l10 y10 z10 st10 hQ10
  subst l10 y10 z10
  obtain rfl : vv10 = some (.int (1 : Int32)) := hQ10.1.elim (fun q => q.1) (fun q => absurd (congrArg (fun c => [c]) qca) q.2)
  have Nq10 := own_frnil (n0 := n0) hQ10.2.1
  have e10 := hQ10.2.2
  have N10 := Fr.app N0 Nq10
  have ch11 : ∀ t, Steps p.tables e below (T10.setTop (mkF m 23 #[.val (.ref b), .val (.ref b2), .val (.ref b2)] [(.int (1 : Int32))])) t → Steps p.tables e below (s₁.setTop (entryFrame m #[(.ref b), (.ref b2)] 3)) t := fun t k => ch8 t (by
      show Steps p.tables e below (T7.setTop (mkF m 20 #[.val (.ref b), .val (.ref b2), .val (.ref b2)] [(.ref o2), (.ref ow)])) t
      exact st10.trans k)
  obtain ⟨T12, X12, e12, st12⟩ := getF X10 hx hZ hown (host := "") (Or.inl (hw _ (List.mem_of_getElem? (i := 48) rfl))) Via.refl e10 Fb_verifier (g := (mkF m 27 #[.val (.ref b), .val (.ref b2), .val (.ref b2)] [(.ref b)])) rfl rfl (hb hby own_d_prog_7_method_10_code_27)
  have ch13 : ∀ t, Steps p.tables e below (T12.setTop (mkF m 30 #[.val (.ref b), .val (.ref b2), .val (.ref b2)] [(.ref ve)])) t → Steps p.tables e below (s₁.setTop (entryFrame m #[(.ref b), (.ref b2)] 3)) t := fun t k => ch11 t (by
      show Steps p.tables e below (T10.setTop (mkF m 23 #[.val (.ref b), .val (.ref b2), .val (.ref b2)] [(.int (1 : Int32))])) t
      refine XS.ifNo X10.here hx rfl (hb hby own_d_prog_7_method_10_code_23) rfl ((if0 _ _).trans (feq (by decide : ¬ (1 : Int32) = (0 : Int32))).1) ?_
      show Steps p.tables e below (T10.setTop (mkF m 26 #[.val (.ref b), .val (.ref b2), .val (.ref b2)] [])) t
      refine XS.aloadN X10.here hx rfl (hb hby own_d_prog_7_method_10_code_26) rfl rfl ?_
      show Steps p.tables e below (T10.setTop (mkF m 27 #[.val (.ref b), .val (.ref b2), .val (.ref b2)] [(.ref b)])) t
      exact st12 t k)
  obtain ⟨T14, X14, e14, st14⟩ := getF X12 hx hZ hown (host := "") (Or.inl (hw _ (List.mem_of_getElem? (i := 48) rfl))) Via.refl e12 Fb2_verifier (g := (mkF m 31 #[.val (.ref b), .val (.ref b2), .val (.ref b2)] [(.ref b2), (.ref ve)])) rfl rfl (hb hby own_d_prog_7_method_10_code_31)
  have ch15 : ∀ t, Steps p.tables e below (T14.setTop (mkF m 34 #[.val (.ref b), .val (.ref b2), .val (.ref b2)] [(.ref v2), (.ref ve)])) t → Steps p.tables e below (s₁.setTop (entryFrame m #[(.ref b), (.ref b2)] 3)) t := fun t k => ch13 t (by
      show Steps p.tables e below (T12.setTop (mkF m 30 #[.val (.ref b), .val (.ref b2), .val (.ref b2)] [(.ref ve)])) t
      refine XS.aloadN X12.here hx rfl (hb hby own_d_prog_7_method_10_code_30) rfl rfl ?_
      show Steps p.tables e below (T12.setTop (mkF m 31 #[.val (.ref b), .val (.ref b2), .val (.ref b2)] [(.ref b2), (.ref ve)])) t
      exact st14 t k)
  obtain ⟨cq16, kq16, qa16, qb16, qc16⟩ := isOf hZ e14 E2
  obtain ⟨vv17, _, ⟨T17, L17, kk17, nn17⟩, -, X17, ⟨Lc17, hQ17, l17, y17, z17⟩, st17⟩ := X14.virtualBack hx (y := (⟨"java/lang/String", "equals", "(Ljava/lang/Object;)Z"⟩ : MethodName)) (z := (⟨"java/lang/String", "equals", "(Ljava/lang/Object;)Z"⟩ : MethodName)) hown (mvT hZ (hw _ (List.mem_of_getElem? (i := 61) rfl))) (mvT hZ (hw _ (List.mem_of_getElem? (i := 62) rfl))) (notFace_of_selects (args := #[]) (mvT hZ (hw _ (List.mem_of_getElem? (i := 64) rfl)))) (mvT hZ (hw _ (List.mem_of_getElem? (i := 64) rfl))) (mvT hZ (hw _ (List.mem_of_getElem? (i := 63) rfl))) (by decide) (StrChars.Road.eqW (W := 0) hZ (own_wordsEq hw) (kI := 4) (hw _ (List.mem_of_getElem? (i := 4) rfl)) E2 V2 C2 A2 (StrChars.Road.codOf (n := 1) rfl (fun c hc => by cases List.mem_singleton.mp hc; exact P2.2)) (own_bd P2) (Nat.le_of_ble_eq_true rfl) E4 V4 C4 A4 (StrChars.Road.codOf (n := 1) rfl (fun c hc => by cases List.mem_singleton.mp hc; exact P4.2)) (own_bd P4) (Nat.le_of_ble_eq_true rfl) S_CS P5 (by decide) (by decide)) qa16 qc16 (g := (mkF m 34 #[.val (.ref b), .val (.ref b2), .val (.ref b2)] [(.ref v2), (.ref ve)])) rfl (by rw [hml]; rfl) (Steps.refl _) (argsL := [(.ref v2)]) (rest := []) (lenOf own_pd__Ljava_lang_Object__Z rfl) rfl (by show 2 * 0 + _ ≤ _; exact Nat.le_of_eq rfl) (hb hby own_d_prog_7_method_10_code_34) (fun _ _ => ⟨rfl, e14, (by decide : 0 + 0 ≤ _), (by decide : 0 + 0 ≤ _)⟩)
  dsimp only [Pt.U, Pt.locs, Pt.cells, Pt.slots] at X17 l17 y17 z17 st17 hQ17
  subst l17 y17 z17
  obtain rfl : vv17 = some (.int (0 : Int32)) := hQ17.1.elim (fun q => absurd (List.cons.inj q.2).1 qda) (fun q => q.1)
  have Nq17 := own_frnil (n0 := n0) hQ17.2.1
  have e17 := hQ17.2.2
  have N17 := Fr.app N10 Nq17
  have ch18 : ∀ t, Steps p.tables e below (T17.setTop (mkF m 37 #[.val (.ref b), .val (.ref b2), .val (.ref b2)] [(.int (0 : Int32))])) t → Steps p.tables e below (s₁.setTop (entryFrame m #[(.ref b), (.ref b2)] 3)) t := fun t k => ch15 t (by
      show Steps p.tables e below (T14.setTop (mkF m 34 #[.val (.ref b), .val (.ref b2), .val (.ref b2)] [(.ref v2), (.ref ve)])) t
      exact st17.trans k)
  have ch19 : ∀ t, Steps p.tables e below (T17.setTop (mkF m 67 #[.val (.ref b), .val (.ref b2), .val (.ref b2)] [(.int (0 : Int32))])) t → Steps p.tables e below (s₁.setTop (entryFrame m #[(.ref b), (.ref b2)] 3)) t := fun t k => ch18 t (by
      show Steps p.tables e below (T17.setTop (mkF m 37 #[.val (.ref b), .val (.ref b2), .val (.ref b2)] [(.int (0 : Int32))])) t
      refine XS.ifYes X17.here hx rfl (pc0 := 37) (pc' := 66) rfl (hb hby own_d_prog_7_method_10_code_37) rfl ((if0 _ _).trans (teq (by decide : (0 : Int32) = (0 : Int32))).1) (by decide) (by decide) ?_
      show Steps p.tables e below (T17.setTop (mkF m 66 #[.val (.ref b), .val (.ref b2), .val (.ref b2)] [])) t
      refine XS.iconst X17.here hx rfl (hb hby own_d_prog_7_method_10_code_66) ?_
      exact k)
  obtain ⟨fs, hr, hrun, hended, hW, hsame⟩ := X17.leave (v := some (.int (0 : Int32))) (fun h => by rw [Bd.returns] at h; cases h)
  refine ⟨_, _, ch19 _ ?_, hrun, hended, _, _, rfl, ?_, ⟨_, rfl⟩, hW, hsame.mono (by decide) (by decide)⟩
  · show Steps p.tables e below (T17.setTop (mkF m 67 #[.val (.ref b), .val (.ref b2), .val (.ref b2)] [(.int (0 : Int32))])) _
    exact retN X17 hx (t := .boolean) Bd.returns (by simp) (hb hby own_d_prog_7_method_10_code_67) hr
  · show QV (some (.int (0 : Int32))) h0 n0 _ T17.heap _
    rw [e17]
    exact ⟨rfl, N17, rfl⟩
theorem own_ef_own_eq_x (m : MethodId) {x0 : Addr} {x1 : Addr} : entryFrame m #[(.ref x0), (.ref x1)] 3 = mkF m 0 #[.val (.ref x0), .val (.ref x1), .unset] [] := by first | (simp [entryFrame, mkF, argsToLocals, Value.category, maxLocals]; done) | rfl
set_option maxRecDepth 65536 in
set_option maxHeartbeats 40000000 in
theorem own_eq_x (l : Launch) (Z : State) (a0 : Array Value) (hw : ∀ d ∈ tables_1, d.before a0 Z = true) (ws : List Jvm.Cond) (h0 : Heap) (n0 : Nat) (Z0 : n0 ≤ h0.size) (b ow ve : Addr) (x y ca da : Int32) (Eb : Exa Z h0 b "com/example/nokkel/nokkel/core/ClientRecord") (Fb_owner : Fld Z h0 b "com/example/nokkel/nokkel/core/ClientRecord" "owner" "Ljava/lang/String;" (.ref ow)) (Fb_verifier : Fld Z h0 b "com/example/nokkel/nokkel/core/ClientRecord" "verifier" "Ljava/lang/String;" (.ref ve)) (Fb_locksRevoked : Fld Z h0 b "com/example/nokkel/nokkel/core/ClientRecord" "locksRevoked" "Z" (.int x)) (Fb_graceMissed : Fld Z h0 b "com/example/nokkel/nokkel/core/ClientRecord" "graceMissed" "Z" (.int y)) (t1 : Addr) (k1 : ClassId) (E1 : Exa Z h0 ow "java/lang/String") (V1 : Fld Z h0 ow "java/lang/String" "value" "[B" (.ref t1)) (C1 : Fld Z h0 ow "java/lang/String" "coder" "B" (.int 0)) (A1 : Arv Z h0 t1 k1 .byte (1 : Int32) (((([ca] : List Int32)).map (fun c => c.toInt8.toInt32)).map Value.int) (.int 0)) (P1 : ¬ ca < 0 ∧ ¬ (255 : Int32) < ca) (t2 : Addr) (k2 : ClassId) (E2 : Exa Z h0 ve "java/lang/String") (V2 : Fld Z h0 ve "java/lang/String" "value" "[B" (.ref t2)) (C2 : Fld Z h0 ve "java/lang/String" "coder" "B" (.int 0)) (A2 : Arv Z h0 t2 k2 .byte (1 : Int32) (((([da] : List Int32)).map (fun c => c.toInt8.toInt32)).map Value.int) (.int 0)) (P2 : ¬ da < 0 ∧ ¬ (255 : Int32) < da) (zC : Int32) (S_CS : Sta Z h0 "java/lang/String" "COMPACT_STRINGS" "Z" (.int zC)) (P5 : ¬ (zC = (0 : Int32))) (b2 o2 v2 : Addr) (x2 y2 ca2 da2 : Int32) (Eb2 : Exa Z h0 b2 "com/example/nokkel/nokkel/core/ClientRecord") (Fb2_owner : Fld Z h0 b2 "com/example/nokkel/nokkel/core/ClientRecord" "owner" "Ljava/lang/String;" (.ref o2)) (Fb2_verifier : Fld Z h0 b2 "com/example/nokkel/nokkel/core/ClientRecord" "verifier" "Ljava/lang/String;" (.ref v2)) (Fb2_locksRevoked : Fld Z h0 b2 "com/example/nokkel/nokkel/core/ClientRecord" "locksRevoked" "Z" (.int x2)) (Fb2_graceMissed : Fld Z h0 b2 "com/example/nokkel/nokkel/core/ClientRecord" "graceMissed" "Z" (.int y2)) (t3 : Addr) (k3 : ClassId) (E3 : Exa Z h0 o2 "java/lang/String") (V3 : Fld Z h0 o2 "java/lang/String" "value" "[B" (.ref t3)) (C3 : Fld Z h0 o2 "java/lang/String" "coder" "B" (.int 0)) (A3 : Arv Z h0 t3 k3 .byte (1 : Int32) (((([ca2] : List Int32)).map (fun c => c.toInt8.toInt32)).map Value.int) (.int 0)) (P3 : ¬ ca2 < 0 ∧ ¬ (255 : Int32) < ca2) (t4 : Addr) (k4 : ClassId) (E4 : Exa Z h0 v2 "java/lang/String") (V4 : Fld Z h0 v2 "java/lang/String" "value" "[B" (.ref t4)) (C4 : Fld Z h0 v2 "java/lang/String" "coder" "B" (.int 0)) (A4 : Arv Z h0 t4 k4 .byte (1 : Int32) (((([da2] : List Int32)).map (fun c => c.toInt8.toInt32)).map Value.int) (.int 0)) (P4 : ¬ da2 < 0 ∧ ¬ (255 : Int32) < da2) (qca : ca = ca2) (qda : da = da2) (qx : ¬ x = x2) :
    MetFree l (⟨"com/example/nokkel/nokkel/core/ClientRecord", "equals", "(Ljava/lang/Object;)Z"⟩ : MethodName) (head1 (Jvm.Cond.code (⟨"com/example/nokkel/nokkel/core/ClientRecord", "equals", "(Ljava/lang/Object;)Z"⟩ : MethodName) prog_7_method_10_code 3 (some .boolean) :: ws) ({ frames := 2, cells := 0, slots := 0, locals := 28 } : Room)) (fun a U => a = #[(.ref b), (.ref b2)] ∧ Z.Warmed39 U.vm ∧ U.heap = h0) (fun _ _ _ _ _ => True) (fun _ U o U' => ∃ v L, o = .returned v ∧ QV (some (.int (0 : Int32))) h0 n0 v U'.heap L ∧ FrameEnd U o U' L ({ frames := 2, cells := 0, slots := 0, locals := 28 } : Room).cells ({ frames := 2, cells := 0, slots := 0, locals := 28 } : Room).slots) := by
  refine MetFree.of_bodySF (plainFor_of_name own_pn_com_example_nokkel_nokkel_core_ClientRecord) hisR ?_
  intro p e s m args below meth c s₁ Bd hml0 hP hK
  obtain ⟨rfl, hZ, hh⟩ := hP
  have hx := Bd.exec
  have hby := Bd.bytes
  have hml : c.maxLocals = 3 := hml0
  have hown : s.vm.findClass "com/example/nokkel/nokkel/core/ClientRecord" = some m.cls := (findClass_of_methodNamed Bd.named :)
  have hnm := (name_of_methodNamed Bd.named Bd.method).1
  have X0 : Stand p l e ({ frames := 2, cells := 0, slots := 0, locals := 28 } : Room) s m #[(.ref b), (.ref b2)] below meth c s₁ [] 0 0 := Stand.of_body Bd
  have e0 : s₁.heap = h0 := by rw [← hh, Bd.state]; rfl
  have N0 := Fr.nil n0
  have pre0 : ∀ t, Steps p.tables e below (s₁.setTop (mkF m 0 #[.val (.ref b), .val (.ref b2), .unset] [])) t → Steps p.tables e below (s₁.setTop (entryFrame m #[(.ref b), (.ref b2)] 3)) t := fun t k => castTop (own_ef_own_eq_x m) k
  obtain ⟨T1, X1, e1, st1⟩ := instY X0 hx hZ hown (hw _ (List.mem_of_getElem? (i := 59) rfl)) e0 (Ins.self Eb2) (g := (mkF m 1 #[.val (.ref b), .val (.ref b2), .unset] [(.ref b2)])) rfl rfl (hb hby own_d_prog_7_method_10_code_1)
  have ch2 : ∀ t, Steps p.tables e below (T1.setTop (mkF m 4 #[.val (.ref b), .val (.ref b2), .unset] [(.int (1 : Int32))])) t → Steps p.tables e below (s₁.setTop (entryFrame m #[(.ref b), (.ref b2)] 3)) t := fun t k => pre0 t (by
      show Steps p.tables e below (s₁.setTop (mkF m 0 #[.val (.ref b), .val (.ref b2), .unset] [])) t
      refine XS.aloadN X0.here hx rfl (hb hby own_d_prog_7_method_10_code_0) rfl rfl ?_
      show Steps p.tables e below (s₁.setTop (mkF m 1 #[.val (.ref b), .val (.ref b2), .unset] [(.ref b2)])) t
      exact st1 t k)
  obtain ⟨T3, X3, e3, st3⟩ := castY X1 hx hZ hown (hw _ (List.mem_of_getElem? (i := 59) rfl)) e1 (Ins.self Eb2) (g := (mkF m 8 #[.val (.ref b), .val (.ref b2), .unset] [(.ref b2)])) rfl rfl (hb hby own_d_prog_7_method_10_code_8)
  have ch4 : ∀ t, Steps p.tables e below (T3.setTop (mkF m 11 #[.val (.ref b), .val (.ref b2), .unset] [(.ref b2)])) t → Steps p.tables e below (s₁.setTop (entryFrame m #[(.ref b), (.ref b2)] 3)) t := fun t k => ch2 t (by
      show Steps p.tables e below (T1.setTop (mkF m 4 #[.val (.ref b), .val (.ref b2), .unset] [(.int (1 : Int32))])) t
      refine XS.ifNo X1.here hx rfl (hb hby own_d_prog_7_method_10_code_4) rfl ((if0 _ _).trans (feq (by decide : ¬ (1 : Int32) = (0 : Int32))).1) ?_
      show Steps p.tables e below (T1.setTop (mkF m 7 #[.val (.ref b), .val (.ref b2), .unset] [])) t
      refine XS.aloadN X1.here hx rfl (hb hby own_d_prog_7_method_10_code_7) rfl rfl ?_
      show Steps p.tables e below (T1.setTop (mkF m 8 #[.val (.ref b), .val (.ref b2), .unset] [(.ref b2)])) t
      exact st3 t k)
  obtain ⟨T5, X5, e5, st5⟩ := getF X3 hx hZ hown (host := "") (Or.inl (hw _ (List.mem_of_getElem? (i := 45) rfl))) Via.refl e3 Fb_owner (g := (mkF m 13 #[.val (.ref b), .val (.ref b2), .val (.ref b2)] [(.ref b)])) rfl rfl (hb hby own_d_prog_7_method_10_code_13)
  have ch6 : ∀ t, Steps p.tables e below (T5.setTop (mkF m 16 #[.val (.ref b), .val (.ref b2), .val (.ref b2)] [(.ref ow)])) t → Steps p.tables e below (s₁.setTop (entryFrame m #[(.ref b), (.ref b2)] 3)) t := fun t k => ch4 t (by
      show Steps p.tables e below (T3.setTop (mkF m 11 #[.val (.ref b), .val (.ref b2), .unset] [(.ref b2)])) t
      refine XS.astoreN X3.here hx rfl (hb hby own_d_prog_7_method_10_code_11) rfl rfl (l' := #[.val (.ref b), .val (.ref b2), .val (.ref b2)]) rfl ?_
      show Steps p.tables e below (T3.setTop (mkF m 12 #[.val (.ref b), .val (.ref b2), .val (.ref b2)] [])) t
      refine XS.aloadN X3.here hx rfl (hb hby own_d_prog_7_method_10_code_12) rfl rfl ?_
      show Steps p.tables e below (T3.setTop (mkF m 13 #[.val (.ref b), .val (.ref b2), .val (.ref b2)] [(.ref b)])) t
      exact st5 t k)
  obtain ⟨T7, X7, e7, st7⟩ := getF X5 hx hZ hown (host := "") (Or.inl (hw _ (List.mem_of_getElem? (i := 45) rfl))) Via.refl e5 Fb2_owner (g := (mkF m 17 #[.val (.ref b), .val (.ref b2), .val (.ref b2)] [(.ref b2), (.ref ow)])) rfl rfl (hb hby own_d_prog_7_method_10_code_17)
  have ch8 : ∀ t, Steps p.tables e below (T7.setTop (mkF m 20 #[.val (.ref b), .val (.ref b2), .val (.ref b2)] [(.ref o2), (.ref ow)])) t → Steps p.tables e below (s₁.setTop (entryFrame m #[(.ref b), (.ref b2)] 3)) t := fun t k => ch6 t (by
      show Steps p.tables e below (T5.setTop (mkF m 16 #[.val (.ref b), .val (.ref b2), .val (.ref b2)] [(.ref ow)])) t
      refine XS.aloadN X5.here hx rfl (hb hby own_d_prog_7_method_10_code_16) rfl rfl ?_
      show Steps p.tables e below (T5.setTop (mkF m 17 #[.val (.ref b), .val (.ref b2), .val (.ref b2)] [(.ref b2), (.ref ow)])) t
      exact st7 t k)
  obtain ⟨cq9, kq9, qa9, qb9, qc9⟩ := isOf hZ e7 E1
  obtain ⟨vv10, _, ⟨T10, L10, kk10, nn10⟩, -, X10, ⟨Lc10, hQ10, l10, y10, z10⟩, st10⟩ := X7.virtualBack hx (y := (⟨"java/lang/String", "equals", "(Ljava/lang/Object;)Z"⟩ : MethodName)) (z := (⟨"java/lang/String", "equals", "(Ljava/lang/Object;)Z"⟩ : MethodName)) hown (mvT hZ (hw _ (List.mem_of_getElem? (i := 61) rfl))) (mvT hZ (hw _ (List.mem_of_getElem? (i := 62) rfl))) (notFace_of_selects (args := #[]) (mvT hZ (hw _ (List.mem_of_getElem? (i := 64) rfl)))) (mvT hZ (hw _ (List.mem_of_getElem? (i := 64) rfl))) (mvT hZ (hw _ (List.mem_of_getElem? (i := 63) rfl))) (by decide) (StrChars.Road.eqW (W := 0) hZ (own_wordsEq hw) (kI := 4) (hw _ (List.mem_of_getElem? (i := 4) rfl)) E1 V1 C1 A1 (StrChars.Road.codOf (n := 1) rfl (fun c hc => by cases List.mem_singleton.mp hc; exact P1.2)) (own_bd P1) (Nat.le_of_ble_eq_true rfl) E3 V3 C3 A3 (StrChars.Road.codOf (n := 1) rfl (fun c hc => by cases List.mem_singleton.mp hc; exact P3.2)) (own_bd P3) (Nat.le_of_ble_eq_true rfl) S_CS P5 (by decide) (by decide)) qa9 qc9 (g := (mkF m 20 #[.val (.ref b), .val (.ref b2), .val (.ref b2)] [(.ref o2), (.ref ow)])) rfl (by rw [hml]; rfl) (Steps.refl _) (argsL := [(.ref o2)]) (rest := []) (lenOf own_pd__Ljava_lang_Object__Z rfl) rfl (by show 2 * 0 + _ ≤ _; exact Nat.le_of_eq rfl) (hb hby own_d_prog_7_method_10_code_20) (fun _ _ => ⟨rfl, e7, (by decide : 0 + 0 ≤ _), (by decide : 0 + 0 ≤ _)⟩)
  dsimp only [Pt.U, Pt.locs, Pt.cells, Pt.slots] at X10 l10 y10 z10 st10 hQ10
  subst l10 y10 z10
  obtain rfl : vv10 = some (.int (1 : Int32)) := hQ10.1.elim (fun q => q.1) (fun q => absurd (congrArg (fun c => [c]) qca) q.2)
  have Nq10 := own_frnil (n0 := n0) hQ10.2.1
  have e10 := hQ10.2.2
  have N10 := Fr.app N0 Nq10
  have ch11 : ∀ t, Steps p.tables e below (T10.setTop (mkF m 23 #[.val (.ref b), .val (.ref b2), .val (.ref b2)] [(.int (1 : Int32))])) t → Steps p.tables e below (s₁.setTop (entryFrame m #[(.ref b), (.ref b2)] 3)) t := fun t k => ch8 t (by
      show Steps p.tables e below (T7.setTop (mkF m 20 #[.val (.ref b), .val (.ref b2), .val (.ref b2)] [(.ref o2), (.ref ow)])) t
      exact st10.trans k)
  obtain ⟨T12, X12, e12, st12⟩ := getF X10 hx hZ hown (host := "") (Or.inl (hw _ (List.mem_of_getElem? (i := 48) rfl))) Via.refl e10 Fb_verifier (g := (mkF m 27 #[.val (.ref b), .val (.ref b2), .val (.ref b2)] [(.ref b)])) rfl rfl (hb hby own_d_prog_7_method_10_code_27)
  have ch13 : ∀ t, Steps p.tables e below (T12.setTop (mkF m 30 #[.val (.ref b), .val (.ref b2), .val (.ref b2)] [(.ref ve)])) t → Steps p.tables e below (s₁.setTop (entryFrame m #[(.ref b), (.ref b2)] 3)) t := fun t k => ch11 t (by
      show Steps p.tables e below (T10.setTop (mkF m 23 #[.val (.ref b), .val (.ref b2), .val (.ref b2)] [(.int (1 : Int32))])) t
      refine XS.ifNo X10.here hx rfl (hb hby own_d_prog_7_method_10_code_23) rfl ((if0 _ _).trans (feq (by decide : ¬ (1 : Int32) = (0 : Int32))).1) ?_
      show Steps p.tables e below (T10.setTop (mkF m 26 #[.val (.ref b), .val (.ref b2), .val (.ref b2)] [])) t
      refine XS.aloadN X10.here hx rfl (hb hby own_d_prog_7_method_10_code_26) rfl rfl ?_
      show Steps p.tables e below (T10.setTop (mkF m 27 #[.val (.ref b), .val (.ref b2), .val (.ref b2)] [(.ref b)])) t
      exact st12 t k)
  obtain ⟨T14, X14, e14, st14⟩ := getF X12 hx hZ hown (host := "") (Or.inl (hw _ (List.mem_of_getElem? (i := 48) rfl))) Via.refl e12 Fb2_verifier (g := (mkF m 31 #[.val (.ref b), .val (.ref b2), .val (.ref b2)] [(.ref b2), (.ref ve)])) rfl rfl (hb hby own_d_prog_7_method_10_code_31)
  have ch15 : ∀ t, Steps p.tables e below (T14.setTop (mkF m 34 #[.val (.ref b), .val (.ref b2), .val (.ref b2)] [(.ref v2), (.ref ve)])) t → Steps p.tables e below (s₁.setTop (entryFrame m #[(.ref b), (.ref b2)] 3)) t := fun t k => ch13 t (by
      show Steps p.tables e below (T12.setTop (mkF m 30 #[.val (.ref b), .val (.ref b2), .val (.ref b2)] [(.ref ve)])) t
      refine XS.aloadN X12.here hx rfl (hb hby own_d_prog_7_method_10_code_30) rfl rfl ?_
      show Steps p.tables e below (T12.setTop (mkF m 31 #[.val (.ref b), .val (.ref b2), .val (.ref b2)] [(.ref b2), (.ref ve)])) t
      exact st14 t k)
  obtain ⟨cq16, kq16, qa16, qb16, qc16⟩ := isOf hZ e14 E2
  obtain ⟨vv17, _, ⟨T17, L17, kk17, nn17⟩, -, X17, ⟨Lc17, hQ17, l17, y17, z17⟩, st17⟩ := X14.virtualBack hx (y := (⟨"java/lang/String", "equals", "(Ljava/lang/Object;)Z"⟩ : MethodName)) (z := (⟨"java/lang/String", "equals", "(Ljava/lang/Object;)Z"⟩ : MethodName)) hown (mvT hZ (hw _ (List.mem_of_getElem? (i := 61) rfl))) (mvT hZ (hw _ (List.mem_of_getElem? (i := 62) rfl))) (notFace_of_selects (args := #[]) (mvT hZ (hw _ (List.mem_of_getElem? (i := 64) rfl)))) (mvT hZ (hw _ (List.mem_of_getElem? (i := 64) rfl))) (mvT hZ (hw _ (List.mem_of_getElem? (i := 63) rfl))) (by decide) (StrChars.Road.eqW (W := 0) hZ (own_wordsEq hw) (kI := 4) (hw _ (List.mem_of_getElem? (i := 4) rfl)) E2 V2 C2 A2 (StrChars.Road.codOf (n := 1) rfl (fun c hc => by cases List.mem_singleton.mp hc; exact P2.2)) (own_bd P2) (Nat.le_of_ble_eq_true rfl) E4 V4 C4 A4 (StrChars.Road.codOf (n := 1) rfl (fun c hc => by cases List.mem_singleton.mp hc; exact P4.2)) (own_bd P4) (Nat.le_of_ble_eq_true rfl) S_CS P5 (by decide) (by decide)) qa16 qc16 (g := (mkF m 34 #[.val (.ref b), .val (.ref b2), .val (.ref b2)] [(.ref v2), (.ref ve)])) rfl (by rw [hml]; rfl) (Steps.refl _) (argsL := [(.ref v2)]) (rest := []) (lenOf own_pd__Ljava_lang_Object__Z rfl) rfl (by show 2 * 0 + _ ≤ _; exact Nat.le_of_eq rfl) (hb hby own_d_prog_7_method_10_code_34) (fun _ _ => ⟨rfl, e14, (by decide : 0 + 0 ≤ _), (by decide : 0 + 0 ≤ _)⟩)
  dsimp only [Pt.U, Pt.locs, Pt.cells, Pt.slots] at X17 l17 y17 z17 st17 hQ17
  subst l17 y17 z17
  obtain rfl : vv17 = some (.int (1 : Int32)) := hQ17.1.elim (fun q => q.1) (fun q => absurd (congrArg (fun c => [c]) qda) q.2)
  have Nq17 := own_frnil (n0 := n0) hQ17.2.1
  have e17 := hQ17.2.2
  have N17 := Fr.app N10 Nq17
  have ch18 : ∀ t, Steps p.tables e below (T17.setTop (mkF m 37 #[.val (.ref b), .val (.ref b2), .val (.ref b2)] [(.int (1 : Int32))])) t → Steps p.tables e below (s₁.setTop (entryFrame m #[(.ref b), (.ref b2)] 3)) t := fun t k => ch15 t (by
      show Steps p.tables e below (T14.setTop (mkF m 34 #[.val (.ref b), .val (.ref b2), .val (.ref b2)] [(.ref v2), (.ref ve)])) t
      exact st17.trans k)
  obtain ⟨T19, X19, e19, st19⟩ := getF X17 hx hZ hown (host := "") (Or.inl (hw _ (List.mem_of_getElem? (i := 50) rfl))) Via.refl e17 Fb_locksRevoked (g := (mkF m 41 #[.val (.ref b), .val (.ref b2), .val (.ref b2)] [(.ref b)])) rfl rfl (hb hby own_d_prog_7_method_10_code_41)
  have ch20 : ∀ t, Steps p.tables e below (T19.setTop (mkF m 44 #[.val (.ref b), .val (.ref b2), .val (.ref b2)] [(.int x)])) t → Steps p.tables e below (s₁.setTop (entryFrame m #[(.ref b), (.ref b2)] 3)) t := fun t k => ch18 t (by
      show Steps p.tables e below (T17.setTop (mkF m 37 #[.val (.ref b), .val (.ref b2), .val (.ref b2)] [(.int (1 : Int32))])) t
      refine XS.ifNo X17.here hx rfl (hb hby own_d_prog_7_method_10_code_37) rfl ((if0 _ _).trans (feq (by decide : ¬ (1 : Int32) = (0 : Int32))).1) ?_
      show Steps p.tables e below (T17.setTop (mkF m 40 #[.val (.ref b), .val (.ref b2), .val (.ref b2)] [])) t
      refine XS.aloadN X17.here hx rfl (hb hby own_d_prog_7_method_10_code_40) rfl rfl ?_
      show Steps p.tables e below (T17.setTop (mkF m 41 #[.val (.ref b), .val (.ref b2), .val (.ref b2)] [(.ref b)])) t
      exact st19 t k)
  obtain ⟨T21, X21, e21, st21⟩ := getF X19 hx hZ hown (host := "") (Or.inl (hw _ (List.mem_of_getElem? (i := 50) rfl))) Via.refl e19 Fb2_locksRevoked (g := (mkF m 45 #[.val (.ref b), .val (.ref b2), .val (.ref b2)] [(.ref b2), (.int x)])) rfl rfl (hb hby own_d_prog_7_method_10_code_45)
  have ch22 : ∀ t, Steps p.tables e below (T21.setTop (mkF m 48 #[.val (.ref b), .val (.ref b2), .val (.ref b2)] [(.int x2), (.int x)])) t → Steps p.tables e below (s₁.setTop (entryFrame m #[(.ref b), (.ref b2)] 3)) t := fun t k => ch20 t (by
      show Steps p.tables e below (T19.setTop (mkF m 44 #[.val (.ref b), .val (.ref b2), .val (.ref b2)] [(.int x)])) t
      refine XS.aloadN X19.here hx rfl (hb hby own_d_prog_7_method_10_code_44) rfl rfl ?_
      show Steps p.tables e below (T19.setTop (mkF m 45 #[.val (.ref b), .val (.ref b2), .val (.ref b2)] [(.ref b2), (.int x)])) t
      exact st21 t k)
  have ch23 : ∀ t, Steps p.tables e below (T21.setTop (mkF m 67 #[.val (.ref b), .val (.ref b2), .val (.ref b2)] [(.int (0 : Int32))])) t → Steps p.tables e below (s₁.setTop (entryFrame m #[(.ref b), (.ref b2)] 3)) t := fun t k => ch22 t (by
      show Steps p.tables e below (T21.setTop (mkF m 48 #[.val (.ref b), .val (.ref b2), .val (.ref b2)] [(.int x2), (.int x)])) t
      refine XS.icmpYes X21.here hx rfl (pc0 := 48) (pc' := 66) rfl (hb hby own_d_prog_7_method_10_code_48) rfl (feq qx).2 (by decide) (by decide) ?_
      show Steps p.tables e below (T21.setTop (mkF m 66 #[.val (.ref b), .val (.ref b2), .val (.ref b2)] [])) t
      refine XS.iconst X21.here hx rfl (hb hby own_d_prog_7_method_10_code_66) ?_
      exact k)
  obtain ⟨fs, hr, hrun, hended, hW, hsame⟩ := X21.leave (v := some (.int (0 : Int32))) (fun h => by rw [Bd.returns] at h; cases h)
  refine ⟨_, _, ch23 _ ?_, hrun, hended, _, _, rfl, ?_, ⟨_, rfl⟩, hW, hsame.mono (by decide) (by decide)⟩
  · show Steps p.tables e below (T21.setTop (mkF m 67 #[.val (.ref b), .val (.ref b2), .val (.ref b2)] [(.int (0 : Int32))])) _
    exact retN X21 hx (t := .boolean) Bd.returns (by simp) (hb hby own_d_prog_7_method_10_code_67) hr
  · show QV (some (.int (0 : Int32))) h0 n0 _ T21.heap _
    rw [e21]
    exact ⟨rfl, N17, rfl⟩
theorem own_ef_own_eq_y (m : MethodId) {x0 : Addr} {x1 : Addr} : entryFrame m #[(.ref x0), (.ref x1)] 3 = mkF m 0 #[.val (.ref x0), .val (.ref x1), .unset] [] := by first | (simp [entryFrame, mkF, argsToLocals, Value.category, maxLocals]; done) | rfl
set_option maxRecDepth 65536 in
set_option maxHeartbeats 40000000 in
theorem own_eq_y (l : Launch) (Z : State) (a0 : Array Value) (hw : ∀ d ∈ tables_1, d.before a0 Z = true) (ws : List Jvm.Cond) (h0 : Heap) (n0 : Nat) (Z0 : n0 ≤ h0.size) (b ow ve : Addr) (x y ca da : Int32) (Eb : Exa Z h0 b "com/example/nokkel/nokkel/core/ClientRecord") (Fb_owner : Fld Z h0 b "com/example/nokkel/nokkel/core/ClientRecord" "owner" "Ljava/lang/String;" (.ref ow)) (Fb_verifier : Fld Z h0 b "com/example/nokkel/nokkel/core/ClientRecord" "verifier" "Ljava/lang/String;" (.ref ve)) (Fb_locksRevoked : Fld Z h0 b "com/example/nokkel/nokkel/core/ClientRecord" "locksRevoked" "Z" (.int x)) (Fb_graceMissed : Fld Z h0 b "com/example/nokkel/nokkel/core/ClientRecord" "graceMissed" "Z" (.int y)) (t1 : Addr) (k1 : ClassId) (E1 : Exa Z h0 ow "java/lang/String") (V1 : Fld Z h0 ow "java/lang/String" "value" "[B" (.ref t1)) (C1 : Fld Z h0 ow "java/lang/String" "coder" "B" (.int 0)) (A1 : Arv Z h0 t1 k1 .byte (1 : Int32) (((([ca] : List Int32)).map (fun c => c.toInt8.toInt32)).map Value.int) (.int 0)) (P1 : ¬ ca < 0 ∧ ¬ (255 : Int32) < ca) (t2 : Addr) (k2 : ClassId) (E2 : Exa Z h0 ve "java/lang/String") (V2 : Fld Z h0 ve "java/lang/String" "value" "[B" (.ref t2)) (C2 : Fld Z h0 ve "java/lang/String" "coder" "B" (.int 0)) (A2 : Arv Z h0 t2 k2 .byte (1 : Int32) (((([da] : List Int32)).map (fun c => c.toInt8.toInt32)).map Value.int) (.int 0)) (P2 : ¬ da < 0 ∧ ¬ (255 : Int32) < da) (zC : Int32) (S_CS : Sta Z h0 "java/lang/String" "COMPACT_STRINGS" "Z" (.int zC)) (P5 : ¬ (zC = (0 : Int32))) (b2 o2 v2 : Addr) (x2 y2 ca2 da2 : Int32) (Eb2 : Exa Z h0 b2 "com/example/nokkel/nokkel/core/ClientRecord") (Fb2_owner : Fld Z h0 b2 "com/example/nokkel/nokkel/core/ClientRecord" "owner" "Ljava/lang/String;" (.ref o2)) (Fb2_verifier : Fld Z h0 b2 "com/example/nokkel/nokkel/core/ClientRecord" "verifier" "Ljava/lang/String;" (.ref v2)) (Fb2_locksRevoked : Fld Z h0 b2 "com/example/nokkel/nokkel/core/ClientRecord" "locksRevoked" "Z" (.int x2)) (Fb2_graceMissed : Fld Z h0 b2 "com/example/nokkel/nokkel/core/ClientRecord" "graceMissed" "Z" (.int y2)) (t3 : Addr) (k3 : ClassId) (E3 : Exa Z h0 o2 "java/lang/String") (V3 : Fld Z h0 o2 "java/lang/String" "value" "[B" (.ref t3)) (C3 : Fld Z h0 o2 "java/lang/String" "coder" "B" (.int 0)) (A3 : Arv Z h0 t3 k3 .byte (1 : Int32) (((([ca2] : List Int32)).map (fun c => c.toInt8.toInt32)).map Value.int) (.int 0)) (P3 : ¬ ca2 < 0 ∧ ¬ (255 : Int32) < ca2) (t4 : Addr) (k4 : ClassId) (E4 : Exa Z h0 v2 "java/lang/String") (V4 : Fld Z h0 v2 "java/lang/String" "value" "[B" (.ref t4)) (C4 : Fld Z h0 v2 "java/lang/String" "coder" "B" (.int 0)) (A4 : Arv Z h0 t4 k4 .byte (1 : Int32) (((([da2] : List Int32)).map (fun c => c.toInt8.toInt32)).map Value.int) (.int 0)) (P4 : ¬ da2 < 0 ∧ ¬ (255 : Int32) < da2) (qca : ca = ca2) (qda : da = da2) (qx : x = x2) (qy : ¬ y = y2) :
    MetFree l (⟨"com/example/nokkel/nokkel/core/ClientRecord", "equals", "(Ljava/lang/Object;)Z"⟩ : MethodName) (head1 (Jvm.Cond.code (⟨"com/example/nokkel/nokkel/core/ClientRecord", "equals", "(Ljava/lang/Object;)Z"⟩ : MethodName) prog_7_method_10_code 3 (some .boolean) :: ws) ({ frames := 2, cells := 0, slots := 0, locals := 28 } : Room)) (fun a U => a = #[(.ref b), (.ref b2)] ∧ Z.Warmed39 U.vm ∧ U.heap = h0) (fun _ _ _ _ _ => True) (fun _ U o U' => ∃ v L, o = .returned v ∧ QV (some (.int (0 : Int32))) h0 n0 v U'.heap L ∧ FrameEnd U o U' L ({ frames := 2, cells := 0, slots := 0, locals := 28 } : Room).cells ({ frames := 2, cells := 0, slots := 0, locals := 28 } : Room).slots) := by
  refine MetFree.of_bodySF (plainFor_of_name own_pn_com_example_nokkel_nokkel_core_ClientRecord) hisR ?_
  intro p e s m args below meth c s₁ Bd hml0 hP hK
  obtain ⟨rfl, hZ, hh⟩ := hP
  have hx := Bd.exec
  have hby := Bd.bytes
  have hml : c.maxLocals = 3 := hml0
  have hown : s.vm.findClass "com/example/nokkel/nokkel/core/ClientRecord" = some m.cls := (findClass_of_methodNamed Bd.named :)
  have hnm := (name_of_methodNamed Bd.named Bd.method).1
  have X0 : Stand p l e ({ frames := 2, cells := 0, slots := 0, locals := 28 } : Room) s m #[(.ref b), (.ref b2)] below meth c s₁ [] 0 0 := Stand.of_body Bd
  have e0 : s₁.heap = h0 := by rw [← hh, Bd.state]; rfl
  have N0 := Fr.nil n0
  have pre0 : ∀ t, Steps p.tables e below (s₁.setTop (mkF m 0 #[.val (.ref b), .val (.ref b2), .unset] [])) t → Steps p.tables e below (s₁.setTop (entryFrame m #[(.ref b), (.ref b2)] 3)) t := fun t k => castTop (own_ef_own_eq_y m) k
  obtain ⟨T1, X1, e1, st1⟩ := instY X0 hx hZ hown (hw _ (List.mem_of_getElem? (i := 59) rfl)) e0 (Ins.self Eb2) (g := (mkF m 1 #[.val (.ref b), .val (.ref b2), .unset] [(.ref b2)])) rfl rfl (hb hby own_d_prog_7_method_10_code_1)
  have ch2 : ∀ t, Steps p.tables e below (T1.setTop (mkF m 4 #[.val (.ref b), .val (.ref b2), .unset] [(.int (1 : Int32))])) t → Steps p.tables e below (s₁.setTop (entryFrame m #[(.ref b), (.ref b2)] 3)) t := fun t k => pre0 t (by
      show Steps p.tables e below (s₁.setTop (mkF m 0 #[.val (.ref b), .val (.ref b2), .unset] [])) t
      refine XS.aloadN X0.here hx rfl (hb hby own_d_prog_7_method_10_code_0) rfl rfl ?_
      show Steps p.tables e below (s₁.setTop (mkF m 1 #[.val (.ref b), .val (.ref b2), .unset] [(.ref b2)])) t
      exact st1 t k)
  obtain ⟨T3, X3, e3, st3⟩ := castY X1 hx hZ hown (hw _ (List.mem_of_getElem? (i := 59) rfl)) e1 (Ins.self Eb2) (g := (mkF m 8 #[.val (.ref b), .val (.ref b2), .unset] [(.ref b2)])) rfl rfl (hb hby own_d_prog_7_method_10_code_8)
  have ch4 : ∀ t, Steps p.tables e below (T3.setTop (mkF m 11 #[.val (.ref b), .val (.ref b2), .unset] [(.ref b2)])) t → Steps p.tables e below (s₁.setTop (entryFrame m #[(.ref b), (.ref b2)] 3)) t := fun t k => ch2 t (by
      show Steps p.tables e below (T1.setTop (mkF m 4 #[.val (.ref b), .val (.ref b2), .unset] [(.int (1 : Int32))])) t
      refine XS.ifNo X1.here hx rfl (hb hby own_d_prog_7_method_10_code_4) rfl ((if0 _ _).trans (feq (by decide : ¬ (1 : Int32) = (0 : Int32))).1) ?_
      show Steps p.tables e below (T1.setTop (mkF m 7 #[.val (.ref b), .val (.ref b2), .unset] [])) t
      refine XS.aloadN X1.here hx rfl (hb hby own_d_prog_7_method_10_code_7) rfl rfl ?_
      show Steps p.tables e below (T1.setTop (mkF m 8 #[.val (.ref b), .val (.ref b2), .unset] [(.ref b2)])) t
      exact st3 t k)
  obtain ⟨T5, X5, e5, st5⟩ := getF X3 hx hZ hown (host := "") (Or.inl (hw _ (List.mem_of_getElem? (i := 45) rfl))) Via.refl e3 Fb_owner (g := (mkF m 13 #[.val (.ref b), .val (.ref b2), .val (.ref b2)] [(.ref b)])) rfl rfl (hb hby own_d_prog_7_method_10_code_13)
  have ch6 : ∀ t, Steps p.tables e below (T5.setTop (mkF m 16 #[.val (.ref b), .val (.ref b2), .val (.ref b2)] [(.ref ow)])) t → Steps p.tables e below (s₁.setTop (entryFrame m #[(.ref b), (.ref b2)] 3)) t := fun t k => ch4 t (by
      show Steps p.tables e below (T3.setTop (mkF m 11 #[.val (.ref b), .val (.ref b2), .unset] [(.ref b2)])) t
      refine XS.astoreN X3.here hx rfl (hb hby own_d_prog_7_method_10_code_11) rfl rfl (l' := #[.val (.ref b), .val (.ref b2), .val (.ref b2)]) rfl ?_
      show Steps p.tables e below (T3.setTop (mkF m 12 #[.val (.ref b), .val (.ref b2), .val (.ref b2)] [])) t
      refine XS.aloadN X3.here hx rfl (hb hby own_d_prog_7_method_10_code_12) rfl rfl ?_
      show Steps p.tables e below (T3.setTop (mkF m 13 #[.val (.ref b), .val (.ref b2), .val (.ref b2)] [(.ref b)])) t
      exact st5 t k)
  obtain ⟨T7, X7, e7, st7⟩ := getF X5 hx hZ hown (host := "") (Or.inl (hw _ (List.mem_of_getElem? (i := 45) rfl))) Via.refl e5 Fb2_owner (g := (mkF m 17 #[.val (.ref b), .val (.ref b2), .val (.ref b2)] [(.ref b2), (.ref ow)])) rfl rfl (hb hby own_d_prog_7_method_10_code_17)
  have ch8 : ∀ t, Steps p.tables e below (T7.setTop (mkF m 20 #[.val (.ref b), .val (.ref b2), .val (.ref b2)] [(.ref o2), (.ref ow)])) t → Steps p.tables e below (s₁.setTop (entryFrame m #[(.ref b), (.ref b2)] 3)) t := fun t k => ch6 t (by
      show Steps p.tables e below (T5.setTop (mkF m 16 #[.val (.ref b), .val (.ref b2), .val (.ref b2)] [(.ref ow)])) t
      refine XS.aloadN X5.here hx rfl (hb hby own_d_prog_7_method_10_code_16) rfl rfl ?_
      show Steps p.tables e below (T5.setTop (mkF m 17 #[.val (.ref b), .val (.ref b2), .val (.ref b2)] [(.ref b2), (.ref ow)])) t
      exact st7 t k)
  obtain ⟨cq9, kq9, qa9, qb9, qc9⟩ := isOf hZ e7 E1
  obtain ⟨vv10, _, ⟨T10, L10, kk10, nn10⟩, -, X10, ⟨Lc10, hQ10, l10, y10, z10⟩, st10⟩ := X7.virtualBack hx (y := (⟨"java/lang/String", "equals", "(Ljava/lang/Object;)Z"⟩ : MethodName)) (z := (⟨"java/lang/String", "equals", "(Ljava/lang/Object;)Z"⟩ : MethodName)) hown (mvT hZ (hw _ (List.mem_of_getElem? (i := 61) rfl))) (mvT hZ (hw _ (List.mem_of_getElem? (i := 62) rfl))) (notFace_of_selects (args := #[]) (mvT hZ (hw _ (List.mem_of_getElem? (i := 64) rfl)))) (mvT hZ (hw _ (List.mem_of_getElem? (i := 64) rfl))) (mvT hZ (hw _ (List.mem_of_getElem? (i := 63) rfl))) (by decide) (StrChars.Road.eqW (W := 0) hZ (own_wordsEq hw) (kI := 4) (hw _ (List.mem_of_getElem? (i := 4) rfl)) E1 V1 C1 A1 (StrChars.Road.codOf (n := 1) rfl (fun c hc => by cases List.mem_singleton.mp hc; exact P1.2)) (own_bd P1) (Nat.le_of_ble_eq_true rfl) E3 V3 C3 A3 (StrChars.Road.codOf (n := 1) rfl (fun c hc => by cases List.mem_singleton.mp hc; exact P3.2)) (own_bd P3) (Nat.le_of_ble_eq_true rfl) S_CS P5 (by decide) (by decide)) qa9 qc9 (g := (mkF m 20 #[.val (.ref b), .val (.ref b2), .val (.ref b2)] [(.ref o2), (.ref ow)])) rfl (by rw [hml]; rfl) (Steps.refl _) (argsL := [(.ref o2)]) (rest := []) (lenOf own_pd__Ljava_lang_Object__Z rfl) rfl (by show 2 * 0 + _ ≤ _; exact Nat.le_of_eq rfl) (hb hby own_d_prog_7_method_10_code_20) (fun _ _ => ⟨rfl, e7, (by decide : 0 + 0 ≤ _), (by decide : 0 + 0 ≤ _)⟩)
  dsimp only [Pt.U, Pt.locs, Pt.cells, Pt.slots] at X10 l10 y10 z10 st10 hQ10
  subst l10 y10 z10
  obtain rfl : vv10 = some (.int (1 : Int32)) := hQ10.1.elim (fun q => q.1) (fun q => absurd (congrArg (fun c => [c]) qca) q.2)
  have Nq10 := own_frnil (n0 := n0) hQ10.2.1
  have e10 := hQ10.2.2
  have N10 := Fr.app N0 Nq10
  have ch11 : ∀ t, Steps p.tables e below (T10.setTop (mkF m 23 #[.val (.ref b), .val (.ref b2), .val (.ref b2)] [(.int (1 : Int32))])) t → Steps p.tables e below (s₁.setTop (entryFrame m #[(.ref b), (.ref b2)] 3)) t := fun t k => ch8 t (by
      show Steps p.tables e below (T7.setTop (mkF m 20 #[.val (.ref b), .val (.ref b2), .val (.ref b2)] [(.ref o2), (.ref ow)])) t
      exact st10.trans k)
  obtain ⟨T12, X12, e12, st12⟩ := getF X10 hx hZ hown (host := "") (Or.inl (hw _ (List.mem_of_getElem? (i := 48) rfl))) Via.refl e10 Fb_verifier (g := (mkF m 27 #[.val (.ref b), .val (.ref b2), .val (.ref b2)] [(.ref b)])) rfl rfl (hb hby own_d_prog_7_method_10_code_27)
  have ch13 : ∀ t, Steps p.tables e below (T12.setTop (mkF m 30 #[.val (.ref b), .val (.ref b2), .val (.ref b2)] [(.ref ve)])) t → Steps p.tables e below (s₁.setTop (entryFrame m #[(.ref b), (.ref b2)] 3)) t := fun t k => ch11 t (by
      show Steps p.tables e below (T10.setTop (mkF m 23 #[.val (.ref b), .val (.ref b2), .val (.ref b2)] [(.int (1 : Int32))])) t
      refine XS.ifNo X10.here hx rfl (hb hby own_d_prog_7_method_10_code_23) rfl ((if0 _ _).trans (feq (by decide : ¬ (1 : Int32) = (0 : Int32))).1) ?_
      show Steps p.tables e below (T10.setTop (mkF m 26 #[.val (.ref b), .val (.ref b2), .val (.ref b2)] [])) t
      refine XS.aloadN X10.here hx rfl (hb hby own_d_prog_7_method_10_code_26) rfl rfl ?_
      show Steps p.tables e below (T10.setTop (mkF m 27 #[.val (.ref b), .val (.ref b2), .val (.ref b2)] [(.ref b)])) t
      exact st12 t k)
  obtain ⟨T14, X14, e14, st14⟩ := getF X12 hx hZ hown (host := "") (Or.inl (hw _ (List.mem_of_getElem? (i := 48) rfl))) Via.refl e12 Fb2_verifier (g := (mkF m 31 #[.val (.ref b), .val (.ref b2), .val (.ref b2)] [(.ref b2), (.ref ve)])) rfl rfl (hb hby own_d_prog_7_method_10_code_31)
  have ch15 : ∀ t, Steps p.tables e below (T14.setTop (mkF m 34 #[.val (.ref b), .val (.ref b2), .val (.ref b2)] [(.ref v2), (.ref ve)])) t → Steps p.tables e below (s₁.setTop (entryFrame m #[(.ref b), (.ref b2)] 3)) t := fun t k => ch13 t (by
      show Steps p.tables e below (T12.setTop (mkF m 30 #[.val (.ref b), .val (.ref b2), .val (.ref b2)] [(.ref ve)])) t
      refine XS.aloadN X12.here hx rfl (hb hby own_d_prog_7_method_10_code_30) rfl rfl ?_
      show Steps p.tables e below (T12.setTop (mkF m 31 #[.val (.ref b), .val (.ref b2), .val (.ref b2)] [(.ref b2), (.ref ve)])) t
      exact st14 t k)
  obtain ⟨cq16, kq16, qa16, qb16, qc16⟩ := isOf hZ e14 E2
  obtain ⟨vv17, _, ⟨T17, L17, kk17, nn17⟩, -, X17, ⟨Lc17, hQ17, l17, y17, z17⟩, st17⟩ := X14.virtualBack hx (y := (⟨"java/lang/String", "equals", "(Ljava/lang/Object;)Z"⟩ : MethodName)) (z := (⟨"java/lang/String", "equals", "(Ljava/lang/Object;)Z"⟩ : MethodName)) hown (mvT hZ (hw _ (List.mem_of_getElem? (i := 61) rfl))) (mvT hZ (hw _ (List.mem_of_getElem? (i := 62) rfl))) (notFace_of_selects (args := #[]) (mvT hZ (hw _ (List.mem_of_getElem? (i := 64) rfl)))) (mvT hZ (hw _ (List.mem_of_getElem? (i := 64) rfl))) (mvT hZ (hw _ (List.mem_of_getElem? (i := 63) rfl))) (by decide) (StrChars.Road.eqW (W := 0) hZ (own_wordsEq hw) (kI := 4) (hw _ (List.mem_of_getElem? (i := 4) rfl)) E2 V2 C2 A2 (StrChars.Road.codOf (n := 1) rfl (fun c hc => by cases List.mem_singleton.mp hc; exact P2.2)) (own_bd P2) (Nat.le_of_ble_eq_true rfl) E4 V4 C4 A4 (StrChars.Road.codOf (n := 1) rfl (fun c hc => by cases List.mem_singleton.mp hc; exact P4.2)) (own_bd P4) (Nat.le_of_ble_eq_true rfl) S_CS P5 (by decide) (by decide)) qa16 qc16 (g := (mkF m 34 #[.val (.ref b), .val (.ref b2), .val (.ref b2)] [(.ref v2), (.ref ve)])) rfl (by rw [hml]; rfl) (Steps.refl _) (argsL := [(.ref v2)]) (rest := []) (lenOf own_pd__Ljava_lang_Object__Z rfl) rfl (by show 2 * 0 + _ ≤ _; exact Nat.le_of_eq rfl) (hb hby own_d_prog_7_method_10_code_34) (fun _ _ => ⟨rfl, e14, (by decide : 0 + 0 ≤ _), (by decide : 0 + 0 ≤ _)⟩)
  dsimp only [Pt.U, Pt.locs, Pt.cells, Pt.slots] at X17 l17 y17 z17 st17 hQ17
  subst l17 y17 z17
  obtain rfl : vv17 = some (.int (1 : Int32)) := hQ17.1.elim (fun q => q.1) (fun q => absurd (congrArg (fun c => [c]) qda) q.2)
  have Nq17 := own_frnil (n0 := n0) hQ17.2.1
  have e17 := hQ17.2.2
  have N17 := Fr.app N10 Nq17
  have ch18 : ∀ t, Steps p.tables e below (T17.setTop (mkF m 37 #[.val (.ref b), .val (.ref b2), .val (.ref b2)] [(.int (1 : Int32))])) t → Steps p.tables e below (s₁.setTop (entryFrame m #[(.ref b), (.ref b2)] 3)) t := fun t k => ch15 t (by
      show Steps p.tables e below (T14.setTop (mkF m 34 #[.val (.ref b), .val (.ref b2), .val (.ref b2)] [(.ref v2), (.ref ve)])) t
      exact st17.trans k)
  obtain ⟨T19, X19, e19, st19⟩ := getF X17 hx hZ hown (host := "") (Or.inl (hw _ (List.mem_of_getElem? (i := 50) rfl))) Via.refl e17 Fb_locksRevoked (g := (mkF m 41 #[.val (.ref b), .val (.ref b2), .val (.ref b2)] [(.ref b)])) rfl rfl (hb hby own_d_prog_7_method_10_code_41)
  have ch20 : ∀ t, Steps p.tables e below (T19.setTop (mkF m 44 #[.val (.ref b), .val (.ref b2), .val (.ref b2)] [(.int x)])) t → Steps p.tables e below (s₁.setTop (entryFrame m #[(.ref b), (.ref b2)] 3)) t := fun t k => ch18 t (by
      show Steps p.tables e below (T17.setTop (mkF m 37 #[.val (.ref b), .val (.ref b2), .val (.ref b2)] [(.int (1 : Int32))])) t
      refine XS.ifNo X17.here hx rfl (hb hby own_d_prog_7_method_10_code_37) rfl ((if0 _ _).trans (feq (by decide : ¬ (1 : Int32) = (0 : Int32))).1) ?_
      show Steps p.tables e below (T17.setTop (mkF m 40 #[.val (.ref b), .val (.ref b2), .val (.ref b2)] [])) t
      refine XS.aloadN X17.here hx rfl (hb hby own_d_prog_7_method_10_code_40) rfl rfl ?_
      show Steps p.tables e below (T17.setTop (mkF m 41 #[.val (.ref b), .val (.ref b2), .val (.ref b2)] [(.ref b)])) t
      exact st19 t k)
  obtain ⟨T21, X21, e21, st21⟩ := getF X19 hx hZ hown (host := "") (Or.inl (hw _ (List.mem_of_getElem? (i := 50) rfl))) Via.refl e19 Fb2_locksRevoked (g := (mkF m 45 #[.val (.ref b), .val (.ref b2), .val (.ref b2)] [(.ref b2), (.int x)])) rfl rfl (hb hby own_d_prog_7_method_10_code_45)
  have ch22 : ∀ t, Steps p.tables e below (T21.setTop (mkF m 48 #[.val (.ref b), .val (.ref b2), .val (.ref b2)] [(.int x2), (.int x)])) t → Steps p.tables e below (s₁.setTop (entryFrame m #[(.ref b), (.ref b2)] 3)) t := fun t k => ch20 t (by
      show Steps p.tables e below (T19.setTop (mkF m 44 #[.val (.ref b), .val (.ref b2), .val (.ref b2)] [(.int x)])) t
      refine XS.aloadN X19.here hx rfl (hb hby own_d_prog_7_method_10_code_44) rfl rfl ?_
      show Steps p.tables e below (T19.setTop (mkF m 45 #[.val (.ref b), .val (.ref b2), .val (.ref b2)] [(.ref b2), (.int x)])) t
      exact st21 t k)
  obtain ⟨T23, X23, e23, st23⟩ := getF X21 hx hZ hown (host := "") (Or.inl (hw _ (List.mem_of_getElem? (i := 52) rfl))) Via.refl e21 Fb_graceMissed (g := (mkF m 52 #[.val (.ref b), .val (.ref b2), .val (.ref b2)] [(.ref b)])) rfl rfl (hb hby own_d_prog_7_method_10_code_52)
  have ch24 : ∀ t, Steps p.tables e below (T23.setTop (mkF m 55 #[.val (.ref b), .val (.ref b2), .val (.ref b2)] [(.int y)])) t → Steps p.tables e below (s₁.setTop (entryFrame m #[(.ref b), (.ref b2)] 3)) t := fun t k => ch22 t (by
      show Steps p.tables e below (T21.setTop (mkF m 48 #[.val (.ref b), .val (.ref b2), .val (.ref b2)] [(.int x2), (.int x)])) t
      refine XS.icmpNo X21.here hx rfl (hb hby own_d_prog_7_method_10_code_48) rfl (teq qx).2 ?_
      show Steps p.tables e below (T21.setTop (mkF m 51 #[.val (.ref b), .val (.ref b2), .val (.ref b2)] [])) t
      refine XS.aloadN X21.here hx rfl (hb hby own_d_prog_7_method_10_code_51) rfl rfl ?_
      show Steps p.tables e below (T21.setTop (mkF m 52 #[.val (.ref b), .val (.ref b2), .val (.ref b2)] [(.ref b)])) t
      exact st23 t k)
  obtain ⟨T25, X25, e25, st25⟩ := getF X23 hx hZ hown (host := "") (Or.inl (hw _ (List.mem_of_getElem? (i := 52) rfl))) Via.refl e23 Fb2_graceMissed (g := (mkF m 56 #[.val (.ref b), .val (.ref b2), .val (.ref b2)] [(.ref b2), (.int y)])) rfl rfl (hb hby own_d_prog_7_method_10_code_56)
  have ch26 : ∀ t, Steps p.tables e below (T25.setTop (mkF m 59 #[.val (.ref b), .val (.ref b2), .val (.ref b2)] [(.int y2), (.int y)])) t → Steps p.tables e below (s₁.setTop (entryFrame m #[(.ref b), (.ref b2)] 3)) t := fun t k => ch24 t (by
      show Steps p.tables e below (T23.setTop (mkF m 55 #[.val (.ref b), .val (.ref b2), .val (.ref b2)] [(.int y)])) t
      refine XS.aloadN X23.here hx rfl (hb hby own_d_prog_7_method_10_code_55) rfl rfl ?_
      show Steps p.tables e below (T23.setTop (mkF m 56 #[.val (.ref b), .val (.ref b2), .val (.ref b2)] [(.ref b2), (.int y)])) t
      exact st25 t k)
  have ch27 : ∀ t, Steps p.tables e below (T25.setTop (mkF m 67 #[.val (.ref b), .val (.ref b2), .val (.ref b2)] [(.int (0 : Int32))])) t → Steps p.tables e below (s₁.setTop (entryFrame m #[(.ref b), (.ref b2)] 3)) t := fun t k => ch26 t (by
      show Steps p.tables e below (T25.setTop (mkF m 59 #[.val (.ref b), .val (.ref b2), .val (.ref b2)] [(.int y2), (.int y)])) t
      refine XS.icmpYes X25.here hx rfl (pc0 := 59) (pc' := 66) rfl (hb hby own_d_prog_7_method_10_code_59) rfl (feq qy).2 (by decide) (by decide) ?_
      show Steps p.tables e below (T25.setTop (mkF m 66 #[.val (.ref b), .val (.ref b2), .val (.ref b2)] [])) t
      refine XS.iconst X25.here hx rfl (hb hby own_d_prog_7_method_10_code_66) ?_
      exact k)
  obtain ⟨fs, hr, hrun, hended, hW, hsame⟩ := X25.leave (v := some (.int (0 : Int32))) (fun h => by rw [Bd.returns] at h; cases h)
  refine ⟨_, _, ch27 _ ?_, hrun, hended, _, _, rfl, ?_, ⟨_, rfl⟩, hW, hsame.mono (by decide) (by decide)⟩
  · show Steps p.tables e below (T25.setTop (mkF m 67 #[.val (.ref b), .val (.ref b2), .val (.ref b2)] [(.int (0 : Int32))])) _
    exact retN X25 hx (t := .boolean) Bd.returns (by simp) (hb hby own_d_prog_7_method_10_code_67) hr
  · show QV (some (.int (0 : Int32))) h0 n0 _ T25.heap _
    rw [e25]
    exact ⟨rfl, N17, rfl⟩
theorem own_ef_own_eq_e (m : MethodId) {x0 : Addr} {x1 : Addr} : entryFrame m #[(.ref x0), (.ref x1)] 3 = mkF m 0 #[.val (.ref x0), .val (.ref x1), .unset] [] := by first | (simp [entryFrame, mkF, argsToLocals, Value.category, maxLocals]; done) | rfl
set_option maxRecDepth 65536 in
set_option maxHeartbeats 40000000 in
theorem own_eq_e (l : Launch) (Z : State) (a0 : Array Value) (hw : ∀ d ∈ tables_1, d.before a0 Z = true) (ws : List Jvm.Cond) (h0 : Heap) (n0 : Nat) (Z0 : n0 ≤ h0.size) (b ow ve : Addr) (x y ca da : Int32) (Eb : Exa Z h0 b "com/example/nokkel/nokkel/core/ClientRecord") (Fb_owner : Fld Z h0 b "com/example/nokkel/nokkel/core/ClientRecord" "owner" "Ljava/lang/String;" (.ref ow)) (Fb_verifier : Fld Z h0 b "com/example/nokkel/nokkel/core/ClientRecord" "verifier" "Ljava/lang/String;" (.ref ve)) (Fb_locksRevoked : Fld Z h0 b "com/example/nokkel/nokkel/core/ClientRecord" "locksRevoked" "Z" (.int x)) (Fb_graceMissed : Fld Z h0 b "com/example/nokkel/nokkel/core/ClientRecord" "graceMissed" "Z" (.int y)) (t1 : Addr) (k1 : ClassId) (E1 : Exa Z h0 ow "java/lang/String") (V1 : Fld Z h0 ow "java/lang/String" "value" "[B" (.ref t1)) (C1 : Fld Z h0 ow "java/lang/String" "coder" "B" (.int 0)) (A1 : Arv Z h0 t1 k1 .byte (1 : Int32) (((([ca] : List Int32)).map (fun c => c.toInt8.toInt32)).map Value.int) (.int 0)) (P1 : ¬ ca < 0 ∧ ¬ (255 : Int32) < ca) (t2 : Addr) (k2 : ClassId) (E2 : Exa Z h0 ve "java/lang/String") (V2 : Fld Z h0 ve "java/lang/String" "value" "[B" (.ref t2)) (C2 : Fld Z h0 ve "java/lang/String" "coder" "B" (.int 0)) (A2 : Arv Z h0 t2 k2 .byte (1 : Int32) (((([da] : List Int32)).map (fun c => c.toInt8.toInt32)).map Value.int) (.int 0)) (P2 : ¬ da < 0 ∧ ¬ (255 : Int32) < da) (zC : Int32) (S_CS : Sta Z h0 "java/lang/String" "COMPACT_STRINGS" "Z" (.int zC)) (P5 : ¬ (zC = (0 : Int32))) (b2 o2 v2 : Addr) (x2 y2 ca2 da2 : Int32) (Eb2 : Exa Z h0 b2 "com/example/nokkel/nokkel/core/ClientRecord") (Fb2_owner : Fld Z h0 b2 "com/example/nokkel/nokkel/core/ClientRecord" "owner" "Ljava/lang/String;" (.ref o2)) (Fb2_verifier : Fld Z h0 b2 "com/example/nokkel/nokkel/core/ClientRecord" "verifier" "Ljava/lang/String;" (.ref v2)) (Fb2_locksRevoked : Fld Z h0 b2 "com/example/nokkel/nokkel/core/ClientRecord" "locksRevoked" "Z" (.int x2)) (Fb2_graceMissed : Fld Z h0 b2 "com/example/nokkel/nokkel/core/ClientRecord" "graceMissed" "Z" (.int y2)) (t3 : Addr) (k3 : ClassId) (E3 : Exa Z h0 o2 "java/lang/String") (V3 : Fld Z h0 o2 "java/lang/String" "value" "[B" (.ref t3)) (C3 : Fld Z h0 o2 "java/lang/String" "coder" "B" (.int 0)) (A3 : Arv Z h0 t3 k3 .byte (1 : Int32) (((([ca2] : List Int32)).map (fun c => c.toInt8.toInt32)).map Value.int) (.int 0)) (P3 : ¬ ca2 < 0 ∧ ¬ (255 : Int32) < ca2) (t4 : Addr) (k4 : ClassId) (E4 : Exa Z h0 v2 "java/lang/String") (V4 : Fld Z h0 v2 "java/lang/String" "value" "[B" (.ref t4)) (C4 : Fld Z h0 v2 "java/lang/String" "coder" "B" (.int 0)) (A4 : Arv Z h0 t4 k4 .byte (1 : Int32) (((([da2] : List Int32)).map (fun c => c.toInt8.toInt32)).map Value.int) (.int 0)) (P4 : ¬ da2 < 0 ∧ ¬ (255 : Int32) < da2) (qca : ca = ca2) (qda : da = da2) (qx : x = x2) (qy : y = y2) :
    MetFree l (⟨"com/example/nokkel/nokkel/core/ClientRecord", "equals", "(Ljava/lang/Object;)Z"⟩ : MethodName) (head1 (Jvm.Cond.code (⟨"com/example/nokkel/nokkel/core/ClientRecord", "equals", "(Ljava/lang/Object;)Z"⟩ : MethodName) prog_7_method_10_code 3 (some .boolean) :: ws) ({ frames := 2, cells := 0, slots := 0, locals := 28 } : Room)) (fun a U => a = #[(.ref b), (.ref b2)] ∧ Z.Warmed39 U.vm ∧ U.heap = h0) (fun _ _ _ _ _ => True) (fun _ U o U' => ∃ v L, o = .returned v ∧ QV (some (.int (1 : Int32))) h0 n0 v U'.heap L ∧ FrameEnd U o U' L ({ frames := 2, cells := 0, slots := 0, locals := 28 } : Room).cells ({ frames := 2, cells := 0, slots := 0, locals := 28 } : Room).slots) := by
  refine MetFree.of_bodySF (plainFor_of_name own_pn_com_example_nokkel_nokkel_core_ClientRecord) hisR ?_
  intro p e s m args below meth c s₁ Bd hml0 hP hK
  obtain ⟨rfl, hZ, hh⟩ := hP
  have hx := Bd.exec
  have hby := Bd.bytes
  have hml : c.maxLocals = 3 := hml0
  have hown : s.vm.findClass "com/example/nokkel/nokkel/core/ClientRecord" = some m.cls := (findClass_of_methodNamed Bd.named :)
  have hnm := (name_of_methodNamed Bd.named Bd.method).1
  have X0 : Stand p l e ({ frames := 2, cells := 0, slots := 0, locals := 28 } : Room) s m #[(.ref b), (.ref b2)] below meth c s₁ [] 0 0 := Stand.of_body Bd
  have e0 : s₁.heap = h0 := by rw [← hh, Bd.state]; rfl
  have N0 := Fr.nil n0
  have pre0 : ∀ t, Steps p.tables e below (s₁.setTop (mkF m 0 #[.val (.ref b), .val (.ref b2), .unset] [])) t → Steps p.tables e below (s₁.setTop (entryFrame m #[(.ref b), (.ref b2)] 3)) t := fun t k => castTop (own_ef_own_eq_e m) k
  obtain ⟨T1, X1, e1, st1⟩ := instY X0 hx hZ hown (hw _ (List.mem_of_getElem? (i := 59) rfl)) e0 (Ins.self Eb2) (g := (mkF m 1 #[.val (.ref b), .val (.ref b2), .unset] [(.ref b2)])) rfl rfl (hb hby own_d_prog_7_method_10_code_1)
  have ch2 : ∀ t, Steps p.tables e below (T1.setTop (mkF m 4 #[.val (.ref b), .val (.ref b2), .unset] [(.int (1 : Int32))])) t → Steps p.tables e below (s₁.setTop (entryFrame m #[(.ref b), (.ref b2)] 3)) t := fun t k => pre0 t (by
      show Steps p.tables e below (s₁.setTop (mkF m 0 #[.val (.ref b), .val (.ref b2), .unset] [])) t
      refine XS.aloadN X0.here hx rfl (hb hby own_d_prog_7_method_10_code_0) rfl rfl ?_
      show Steps p.tables e below (s₁.setTop (mkF m 1 #[.val (.ref b), .val (.ref b2), .unset] [(.ref b2)])) t
      exact st1 t k)
  obtain ⟨T3, X3, e3, st3⟩ := castY X1 hx hZ hown (hw _ (List.mem_of_getElem? (i := 59) rfl)) e1 (Ins.self Eb2) (g := (mkF m 8 #[.val (.ref b), .val (.ref b2), .unset] [(.ref b2)])) rfl rfl (hb hby own_d_prog_7_method_10_code_8)
  have ch4 : ∀ t, Steps p.tables e below (T3.setTop (mkF m 11 #[.val (.ref b), .val (.ref b2), .unset] [(.ref b2)])) t → Steps p.tables e below (s₁.setTop (entryFrame m #[(.ref b), (.ref b2)] 3)) t := fun t k => ch2 t (by
      show Steps p.tables e below (T1.setTop (mkF m 4 #[.val (.ref b), .val (.ref b2), .unset] [(.int (1 : Int32))])) t
      refine XS.ifNo X1.here hx rfl (hb hby own_d_prog_7_method_10_code_4) rfl ((if0 _ _).trans (feq (by decide : ¬ (1 : Int32) = (0 : Int32))).1) ?_
      show Steps p.tables e below (T1.setTop (mkF m 7 #[.val (.ref b), .val (.ref b2), .unset] [])) t
      refine XS.aloadN X1.here hx rfl (hb hby own_d_prog_7_method_10_code_7) rfl rfl ?_
      show Steps p.tables e below (T1.setTop (mkF m 8 #[.val (.ref b), .val (.ref b2), .unset] [(.ref b2)])) t
      exact st3 t k)
  obtain ⟨T5, X5, e5, st5⟩ := getF X3 hx hZ hown (host := "") (Or.inl (hw _ (List.mem_of_getElem? (i := 45) rfl))) Via.refl e3 Fb_owner (g := (mkF m 13 #[.val (.ref b), .val (.ref b2), .val (.ref b2)] [(.ref b)])) rfl rfl (hb hby own_d_prog_7_method_10_code_13)
  have ch6 : ∀ t, Steps p.tables e below (T5.setTop (mkF m 16 #[.val (.ref b), .val (.ref b2), .val (.ref b2)] [(.ref ow)])) t → Steps p.tables e below (s₁.setTop (entryFrame m #[(.ref b), (.ref b2)] 3)) t := fun t k => ch4 t (by
      show Steps p.tables e below (T3.setTop (mkF m 11 #[.val (.ref b), .val (.ref b2), .unset] [(.ref b2)])) t
      refine XS.astoreN X3.here hx rfl (hb hby own_d_prog_7_method_10_code_11) rfl rfl (l' := #[.val (.ref b), .val (.ref b2), .val (.ref b2)]) rfl ?_
      show Steps p.tables e below (T3.setTop (mkF m 12 #[.val (.ref b), .val (.ref b2), .val (.ref b2)] [])) t
      refine XS.aloadN X3.here hx rfl (hb hby own_d_prog_7_method_10_code_12) rfl rfl ?_
      show Steps p.tables e below (T3.setTop (mkF m 13 #[.val (.ref b), .val (.ref b2), .val (.ref b2)] [(.ref b)])) t
      exact st5 t k)
  obtain ⟨T7, X7, e7, st7⟩ := getF X5 hx hZ hown (host := "") (Or.inl (hw _ (List.mem_of_getElem? (i := 45) rfl))) Via.refl e5 Fb2_owner (g := (mkF m 17 #[.val (.ref b), .val (.ref b2), .val (.ref b2)] [(.ref b2), (.ref ow)])) rfl rfl (hb hby own_d_prog_7_method_10_code_17)
  have ch8 : ∀ t, Steps p.tables e below (T7.setTop (mkF m 20 #[.val (.ref b), .val (.ref b2), .val (.ref b2)] [(.ref o2), (.ref ow)])) t → Steps p.tables e below (s₁.setTop (entryFrame m #[(.ref b), (.ref b2)] 3)) t := fun t k => ch6 t (by
      show Steps p.tables e below (T5.setTop (mkF m 16 #[.val (.ref b), .val (.ref b2), .val (.ref b2)] [(.ref ow)])) t
      refine XS.aloadN X5.here hx rfl (hb hby own_d_prog_7_method_10_code_16) rfl rfl ?_
      show Steps p.tables e below (T5.setTop (mkF m 17 #[.val (.ref b), .val (.ref b2), .val (.ref b2)] [(.ref b2), (.ref ow)])) t
      exact st7 t k)
  obtain ⟨cq9, kq9, qa9, qb9, qc9⟩ := isOf hZ e7 E1
  obtain ⟨vv10, _, ⟨T10, L10, kk10, nn10⟩, -, X10, ⟨Lc10, hQ10, l10, y10, z10⟩, st10⟩ := X7.virtualBack hx (y := (⟨"java/lang/String", "equals", "(Ljava/lang/Object;)Z"⟩ : MethodName)) (z := (⟨"java/lang/String", "equals", "(Ljava/lang/Object;)Z"⟩ : MethodName)) hown (mvT hZ (hw _ (List.mem_of_getElem? (i := 61) rfl))) (mvT hZ (hw _ (List.mem_of_getElem? (i := 62) rfl))) (notFace_of_selects (args := #[]) (mvT hZ (hw _ (List.mem_of_getElem? (i := 64) rfl)))) (mvT hZ (hw _ (List.mem_of_getElem? (i := 64) rfl))) (mvT hZ (hw _ (List.mem_of_getElem? (i := 63) rfl))) (by decide) (StrChars.Road.eqW (W := 0) hZ (own_wordsEq hw) (kI := 4) (hw _ (List.mem_of_getElem? (i := 4) rfl)) E1 V1 C1 A1 (StrChars.Road.codOf (n := 1) rfl (fun c hc => by cases List.mem_singleton.mp hc; exact P1.2)) (own_bd P1) (Nat.le_of_ble_eq_true rfl) E3 V3 C3 A3 (StrChars.Road.codOf (n := 1) rfl (fun c hc => by cases List.mem_singleton.mp hc; exact P3.2)) (own_bd P3) (Nat.le_of_ble_eq_true rfl) S_CS P5 (by decide) (by decide)) qa9 qc9 (g := (mkF m 20 #[.val (.ref b), .val (.ref b2), .val (.ref b2)] [(.ref o2), (.ref ow)])) rfl (by rw [hml]; rfl) (Steps.refl _) (argsL := [(.ref o2)]) (rest := []) (lenOf own_pd__Ljava_lang_Object__Z rfl) rfl (by show 2 * 0 + _ ≤ _; exact Nat.le_of_eq rfl) (hb hby own_d_prog_7_method_10_code_20) (fun _ _ => ⟨rfl, e7, (by decide : 0 + 0 ≤ _), (by decide : 0 + 0 ≤ _)⟩)
  dsimp only [Pt.U, Pt.locs, Pt.cells, Pt.slots] at X10 l10 y10 z10 st10 hQ10
  subst l10 y10 z10
  obtain rfl : vv10 = some (.int (1 : Int32)) := hQ10.1.elim (fun q => q.1) (fun q => absurd (congrArg (fun c => [c]) qca) q.2)
  have Nq10 := own_frnil (n0 := n0) hQ10.2.1
  have e10 := hQ10.2.2
  have N10 := Fr.app N0 Nq10
  have ch11 : ∀ t, Steps p.tables e below (T10.setTop (mkF m 23 #[.val (.ref b), .val (.ref b2), .val (.ref b2)] [(.int (1 : Int32))])) t → Steps p.tables e below (s₁.setTop (entryFrame m #[(.ref b), (.ref b2)] 3)) t := fun t k => ch8 t (by
      show Steps p.tables e below (T7.setTop (mkF m 20 #[.val (.ref b), .val (.ref b2), .val (.ref b2)] [(.ref o2), (.ref ow)])) t
      exact st10.trans k)
  obtain ⟨T12, X12, e12, st12⟩ := getF X10 hx hZ hown (host := "") (Or.inl (hw _ (List.mem_of_getElem? (i := 48) rfl))) Via.refl e10 Fb_verifier (g := (mkF m 27 #[.val (.ref b), .val (.ref b2), .val (.ref b2)] [(.ref b)])) rfl rfl (hb hby own_d_prog_7_method_10_code_27)
  have ch13 : ∀ t, Steps p.tables e below (T12.setTop (mkF m 30 #[.val (.ref b), .val (.ref b2), .val (.ref b2)] [(.ref ve)])) t → Steps p.tables e below (s₁.setTop (entryFrame m #[(.ref b), (.ref b2)] 3)) t := fun t k => ch11 t (by
      show Steps p.tables e below (T10.setTop (mkF m 23 #[.val (.ref b), .val (.ref b2), .val (.ref b2)] [(.int (1 : Int32))])) t
      refine XS.ifNo X10.here hx rfl (hb hby own_d_prog_7_method_10_code_23) rfl ((if0 _ _).trans (feq (by decide : ¬ (1 : Int32) = (0 : Int32))).1) ?_
      show Steps p.tables e below (T10.setTop (mkF m 26 #[.val (.ref b), .val (.ref b2), .val (.ref b2)] [])) t
      refine XS.aloadN X10.here hx rfl (hb hby own_d_prog_7_method_10_code_26) rfl rfl ?_
      show Steps p.tables e below (T10.setTop (mkF m 27 #[.val (.ref b), .val (.ref b2), .val (.ref b2)] [(.ref b)])) t
      exact st12 t k)
  obtain ⟨T14, X14, e14, st14⟩ := getF X12 hx hZ hown (host := "") (Or.inl (hw _ (List.mem_of_getElem? (i := 48) rfl))) Via.refl e12 Fb2_verifier (g := (mkF m 31 #[.val (.ref b), .val (.ref b2), .val (.ref b2)] [(.ref b2), (.ref ve)])) rfl rfl (hb hby own_d_prog_7_method_10_code_31)
  have ch15 : ∀ t, Steps p.tables e below (T14.setTop (mkF m 34 #[.val (.ref b), .val (.ref b2), .val (.ref b2)] [(.ref v2), (.ref ve)])) t → Steps p.tables e below (s₁.setTop (entryFrame m #[(.ref b), (.ref b2)] 3)) t := fun t k => ch13 t (by
      show Steps p.tables e below (T12.setTop (mkF m 30 #[.val (.ref b), .val (.ref b2), .val (.ref b2)] [(.ref ve)])) t
      refine XS.aloadN X12.here hx rfl (hb hby own_d_prog_7_method_10_code_30) rfl rfl ?_
      show Steps p.tables e below (T12.setTop (mkF m 31 #[.val (.ref b), .val (.ref b2), .val (.ref b2)] [(.ref b2), (.ref ve)])) t
      exact st14 t k)
  obtain ⟨cq16, kq16, qa16, qb16, qc16⟩ := isOf hZ e14 E2
  obtain ⟨vv17, _, ⟨T17, L17, kk17, nn17⟩, -, X17, ⟨Lc17, hQ17, l17, y17, z17⟩, st17⟩ := X14.virtualBack hx (y := (⟨"java/lang/String", "equals", "(Ljava/lang/Object;)Z"⟩ : MethodName)) (z := (⟨"java/lang/String", "equals", "(Ljava/lang/Object;)Z"⟩ : MethodName)) hown (mvT hZ (hw _ (List.mem_of_getElem? (i := 61) rfl))) (mvT hZ (hw _ (List.mem_of_getElem? (i := 62) rfl))) (notFace_of_selects (args := #[]) (mvT hZ (hw _ (List.mem_of_getElem? (i := 64) rfl)))) (mvT hZ (hw _ (List.mem_of_getElem? (i := 64) rfl))) (mvT hZ (hw _ (List.mem_of_getElem? (i := 63) rfl))) (by decide) (StrChars.Road.eqW (W := 0) hZ (own_wordsEq hw) (kI := 4) (hw _ (List.mem_of_getElem? (i := 4) rfl)) E2 V2 C2 A2 (StrChars.Road.codOf (n := 1) rfl (fun c hc => by cases List.mem_singleton.mp hc; exact P2.2)) (own_bd P2) (Nat.le_of_ble_eq_true rfl) E4 V4 C4 A4 (StrChars.Road.codOf (n := 1) rfl (fun c hc => by cases List.mem_singleton.mp hc; exact P4.2)) (own_bd P4) (Nat.le_of_ble_eq_true rfl) S_CS P5 (by decide) (by decide)) qa16 qc16 (g := (mkF m 34 #[.val (.ref b), .val (.ref b2), .val (.ref b2)] [(.ref v2), (.ref ve)])) rfl (by rw [hml]; rfl) (Steps.refl _) (argsL := [(.ref v2)]) (rest := []) (lenOf own_pd__Ljava_lang_Object__Z rfl) rfl (by show 2 * 0 + _ ≤ _; exact Nat.le_of_eq rfl) (hb hby own_d_prog_7_method_10_code_34) (fun _ _ => ⟨rfl, e14, (by decide : 0 + 0 ≤ _), (by decide : 0 + 0 ≤ _)⟩)
  dsimp only [Pt.U, Pt.locs, Pt.cells, Pt.slots] at X17 l17 y17 z17 st17 hQ17
  subst l17 y17 z17
  obtain rfl : vv17 = some (.int (1 : Int32)) := hQ17.1.elim (fun q => q.1) (fun q => absurd (congrArg (fun c => [c]) qda) q.2)
  have Nq17 := own_frnil (n0 := n0) hQ17.2.1
  have e17 := hQ17.2.2
  have N17 := Fr.app N10 Nq17
  have ch18 : ∀ t, Steps p.tables e below (T17.setTop (mkF m 37 #[.val (.ref b), .val (.ref b2), .val (.ref b2)] [(.int (1 : Int32))])) t → Steps p.tables e below (s₁.setTop (entryFrame m #[(.ref b), (.ref b2)] 3)) t := fun t k => ch15 t (by
      show Steps p.tables e below (T14.setTop (mkF m 34 #[.val (.ref b), .val (.ref b2), .val (.ref b2)] [(.ref v2), (.ref ve)])) t
      exact st17.trans k)
  obtain ⟨T19, X19, e19, st19⟩ := getF X17 hx hZ hown (host := "") (Or.inl (hw _ (List.mem_of_getElem? (i := 50) rfl))) Via.refl e17 Fb_locksRevoked (g := (mkF m 41 #[.val (.ref b), .val (.ref b2), .val (.ref b2)] [(.ref b)])) rfl rfl (hb hby own_d_prog_7_method_10_code_41)
  have ch20 : ∀ t, Steps p.tables e below (T19.setTop (mkF m 44 #[.val (.ref b), .val (.ref b2), .val (.ref b2)] [(.int x)])) t → Steps p.tables e below (s₁.setTop (entryFrame m #[(.ref b), (.ref b2)] 3)) t := fun t k => ch18 t (by
      show Steps p.tables e below (T17.setTop (mkF m 37 #[.val (.ref b), .val (.ref b2), .val (.ref b2)] [(.int (1 : Int32))])) t
      refine XS.ifNo X17.here hx rfl (hb hby own_d_prog_7_method_10_code_37) rfl ((if0 _ _).trans (feq (by decide : ¬ (1 : Int32) = (0 : Int32))).1) ?_
      show Steps p.tables e below (T17.setTop (mkF m 40 #[.val (.ref b), .val (.ref b2), .val (.ref b2)] [])) t
      refine XS.aloadN X17.here hx rfl (hb hby own_d_prog_7_method_10_code_40) rfl rfl ?_
      show Steps p.tables e below (T17.setTop (mkF m 41 #[.val (.ref b), .val (.ref b2), .val (.ref b2)] [(.ref b)])) t
      exact st19 t k)
  obtain ⟨T21, X21, e21, st21⟩ := getF X19 hx hZ hown (host := "") (Or.inl (hw _ (List.mem_of_getElem? (i := 50) rfl))) Via.refl e19 Fb2_locksRevoked (g := (mkF m 45 #[.val (.ref b), .val (.ref b2), .val (.ref b2)] [(.ref b2), (.int x)])) rfl rfl (hb hby own_d_prog_7_method_10_code_45)
  have ch22 : ∀ t, Steps p.tables e below (T21.setTop (mkF m 48 #[.val (.ref b), .val (.ref b2), .val (.ref b2)] [(.int x2), (.int x)])) t → Steps p.tables e below (s₁.setTop (entryFrame m #[(.ref b), (.ref b2)] 3)) t := fun t k => ch20 t (by
      show Steps p.tables e below (T19.setTop (mkF m 44 #[.val (.ref b), .val (.ref b2), .val (.ref b2)] [(.int x)])) t
      refine XS.aloadN X19.here hx rfl (hb hby own_d_prog_7_method_10_code_44) rfl rfl ?_
      show Steps p.tables e below (T19.setTop (mkF m 45 #[.val (.ref b), .val (.ref b2), .val (.ref b2)] [(.ref b2), (.int x)])) t
      exact st21 t k)
  obtain ⟨T23, X23, e23, st23⟩ := getF X21 hx hZ hown (host := "") (Or.inl (hw _ (List.mem_of_getElem? (i := 52) rfl))) Via.refl e21 Fb_graceMissed (g := (mkF m 52 #[.val (.ref b), .val (.ref b2), .val (.ref b2)] [(.ref b)])) rfl rfl (hb hby own_d_prog_7_method_10_code_52)
  have ch24 : ∀ t, Steps p.tables e below (T23.setTop (mkF m 55 #[.val (.ref b), .val (.ref b2), .val (.ref b2)] [(.int y)])) t → Steps p.tables e below (s₁.setTop (entryFrame m #[(.ref b), (.ref b2)] 3)) t := fun t k => ch22 t (by
      show Steps p.tables e below (T21.setTop (mkF m 48 #[.val (.ref b), .val (.ref b2), .val (.ref b2)] [(.int x2), (.int x)])) t
      refine XS.icmpNo X21.here hx rfl (hb hby own_d_prog_7_method_10_code_48) rfl (teq qx).2 ?_
      show Steps p.tables e below (T21.setTop (mkF m 51 #[.val (.ref b), .val (.ref b2), .val (.ref b2)] [])) t
      refine XS.aloadN X21.here hx rfl (hb hby own_d_prog_7_method_10_code_51) rfl rfl ?_
      show Steps p.tables e below (T21.setTop (mkF m 52 #[.val (.ref b), .val (.ref b2), .val (.ref b2)] [(.ref b)])) t
      exact st23 t k)
  obtain ⟨T25, X25, e25, st25⟩ := getF X23 hx hZ hown (host := "") (Or.inl (hw _ (List.mem_of_getElem? (i := 52) rfl))) Via.refl e23 Fb2_graceMissed (g := (mkF m 56 #[.val (.ref b), .val (.ref b2), .val (.ref b2)] [(.ref b2), (.int y)])) rfl rfl (hb hby own_d_prog_7_method_10_code_56)
  have ch26 : ∀ t, Steps p.tables e below (T25.setTop (mkF m 59 #[.val (.ref b), .val (.ref b2), .val (.ref b2)] [(.int y2), (.int y)])) t → Steps p.tables e below (s₁.setTop (entryFrame m #[(.ref b), (.ref b2)] 3)) t := fun t k => ch24 t (by
      show Steps p.tables e below (T23.setTop (mkF m 55 #[.val (.ref b), .val (.ref b2), .val (.ref b2)] [(.int y)])) t
      refine XS.aloadN X23.here hx rfl (hb hby own_d_prog_7_method_10_code_55) rfl rfl ?_
      show Steps p.tables e below (T23.setTop (mkF m 56 #[.val (.ref b), .val (.ref b2), .val (.ref b2)] [(.ref b2), (.int y)])) t
      exact st25 t k)
  have ch27 : ∀ t, Steps p.tables e below (T25.setTop (mkF m 67 #[.val (.ref b), .val (.ref b2), .val (.ref b2)] [(.int (1 : Int32))])) t → Steps p.tables e below (s₁.setTop (entryFrame m #[(.ref b), (.ref b2)] 3)) t := fun t k => ch26 t (by
      show Steps p.tables e below (T25.setTop (mkF m 59 #[.val (.ref b), .val (.ref b2), .val (.ref b2)] [(.int y2), (.int y)])) t
      refine XS.icmpNo X25.here hx rfl (hb hby own_d_prog_7_method_10_code_59) rfl (teq qy).2 ?_
      show Steps p.tables e below (T25.setTop (mkF m 62 #[.val (.ref b), .val (.ref b2), .val (.ref b2)] [])) t
      refine XS.iconst X25.here hx rfl (hb hby own_d_prog_7_method_10_code_62) ?_
      show Steps p.tables e below (T25.setTop (mkF m 63 #[.val (.ref b), .val (.ref b2), .val (.ref b2)] [(.int (1 : Int32))])) t
      refine XS.goto X25.here hx rfl (pc0 := 63) (pc' := 67) rfl (hb hby own_d_prog_7_method_10_code_63) (by decide) (by decide) ?_
      exact k)
  obtain ⟨fs, hr, hrun, hended, hW, hsame⟩ := X25.leave (v := some (.int (1 : Int32))) (fun h => by rw [Bd.returns] at h; cases h)
  refine ⟨_, _, ch27 _ ?_, hrun, hended, _, _, rfl, ?_, ⟨_, rfl⟩, hW, hsame.mono (by decide) (by decide)⟩
  · show Steps p.tables e below (T25.setTop (mkF m 67 #[.val (.ref b), .val (.ref b2), .val (.ref b2)] [(.int (1 : Int32))])) _
    exact retN X25 hx (t := .boolean) Bd.returns (by simp) (hb hby own_d_prog_7_method_10_code_67) hr
  · show QV (some (.int (1 : Int32))) h0 n0 _ T25.heap _
    rw [e25]
    exact ⟨rfl, N17, rfl⟩
theorem own_ef_own_eq_self (m : MethodId) {x0 : Addr} {x1 : Addr} : entryFrame m #[(.ref x0), (.ref x1)] 3 = mkF m 0 #[.val (.ref x0), .val (.ref x1), .unset] [] := by first | (simp [entryFrame, mkF, argsToLocals, Value.category, maxLocals]; done) | rfl
set_option maxRecDepth 65536 in
set_option maxHeartbeats 40000000 in
theorem own_eq_self (l : Launch) (Z : State) (a0 : Array Value) (hw : ∀ d ∈ tables_1, d.before a0 Z = true) (ws : List Jvm.Cond) (h0 : Heap) (n0 : Nat) (Z0 : n0 ≤ h0.size) (b ow ve : Addr) (x y ca da : Int32) (Eb : Exa Z h0 b "com/example/nokkel/nokkel/core/ClientRecord") (Fb_owner : Fld Z h0 b "com/example/nokkel/nokkel/core/ClientRecord" "owner" "Ljava/lang/String;" (.ref ow)) (Fb_verifier : Fld Z h0 b "com/example/nokkel/nokkel/core/ClientRecord" "verifier" "Ljava/lang/String;" (.ref ve)) (Fb_locksRevoked : Fld Z h0 b "com/example/nokkel/nokkel/core/ClientRecord" "locksRevoked" "Z" (.int x)) (Fb_graceMissed : Fld Z h0 b "com/example/nokkel/nokkel/core/ClientRecord" "graceMissed" "Z" (.int y)) (t1 : Addr) (k1 : ClassId) (E1 : Exa Z h0 ow "java/lang/String") (V1 : Fld Z h0 ow "java/lang/String" "value" "[B" (.ref t1)) (C1 : Fld Z h0 ow "java/lang/String" "coder" "B" (.int 0)) (A1 : Arv Z h0 t1 k1 .byte (1 : Int32) (((([ca] : List Int32)).map (fun c => c.toInt8.toInt32)).map Value.int) (.int 0)) (P1 : ¬ ca < 0 ∧ ¬ (255 : Int32) < ca) (t2 : Addr) (k2 : ClassId) (E2 : Exa Z h0 ve "java/lang/String") (V2 : Fld Z h0 ve "java/lang/String" "value" "[B" (.ref t2)) (C2 : Fld Z h0 ve "java/lang/String" "coder" "B" (.int 0)) (A2 : Arv Z h0 t2 k2 .byte (1 : Int32) (((([da] : List Int32)).map (fun c => c.toInt8.toInt32)).map Value.int) (.int 0)) (P2 : ¬ da < 0 ∧ ¬ (255 : Int32) < da) (zC : Int32) (S_CS : Sta Z h0 "java/lang/String" "COMPACT_STRINGS" "Z" (.int zC)) (P5 : ¬ (zC = (0 : Int32))) :
    MetFree l (⟨"com/example/nokkel/nokkel/core/ClientRecord", "equals", "(Ljava/lang/Object;)Z"⟩ : MethodName) (head1 (Jvm.Cond.code (⟨"com/example/nokkel/nokkel/core/ClientRecord", "equals", "(Ljava/lang/Object;)Z"⟩ : MethodName) prog_7_method_10_code 3 (some .boolean) :: ws) ({ frames := 2, cells := 0, slots := 0, locals := 28 } : Room)) (fun a U => a = #[(.ref b), (.ref b)] ∧ Z.Warmed39 U.vm ∧ U.heap = h0) (fun _ _ _ _ _ => True) (fun _ U o U' => ∃ v L, o = .returned v ∧ QV (some (.int (1 : Int32))) h0 n0 v U'.heap L ∧ FrameEnd U o U' L ({ frames := 2, cells := 0, slots := 0, locals := 28 } : Room).cells ({ frames := 2, cells := 0, slots := 0, locals := 28 } : Room).slots) := by
  refine MetFree.of_bodySF (plainFor_of_name own_pn_com_example_nokkel_nokkel_core_ClientRecord) hisR ?_
  intro p e s m args below meth c s₁ Bd hml0 hP hK
  obtain ⟨rfl, hZ, hh⟩ := hP
  have hx := Bd.exec
  have hby := Bd.bytes
  have hml : c.maxLocals = 3 := hml0
  have hown : s.vm.findClass "com/example/nokkel/nokkel/core/ClientRecord" = some m.cls := (findClass_of_methodNamed Bd.named :)
  have hnm := (name_of_methodNamed Bd.named Bd.method).1
  have X0 : Stand p l e ({ frames := 2, cells := 0, slots := 0, locals := 28 } : Room) s m #[(.ref b), (.ref b)] below meth c s₁ [] 0 0 := Stand.of_body Bd
  have e0 : s₁.heap = h0 := by rw [← hh, Bd.state]; rfl
  have N0 := Fr.nil n0
  have pre0 : ∀ t, Steps p.tables e below (s₁.setTop (mkF m 0 #[.val (.ref b), .val (.ref b), .unset] [])) t → Steps p.tables e below (s₁.setTop (entryFrame m #[(.ref b), (.ref b)] 3)) t := fun t k => castTop (own_ef_own_eq_self m) k
  obtain ⟨T1, X1, e1, st1⟩ := instY X0 hx hZ hown (hw _ (List.mem_of_getElem? (i := 59) rfl)) e0 (Ins.self Eb) (g := (mkF m 1 #[.val (.ref b), .val (.ref b), .unset] [(.ref b)])) rfl rfl (hb hby own_d_prog_7_method_10_code_1)
  have ch2 : ∀ t, Steps p.tables e below (T1.setTop (mkF m 4 #[.val (.ref b), .val (.ref b), .unset] [(.int (1 : Int32))])) t → Steps p.tables e below (s₁.setTop (entryFrame m #[(.ref b), (.ref b)] 3)) t := fun t k => pre0 t (by
      show Steps p.tables e below (s₁.setTop (mkF m 0 #[.val (.ref b), .val (.ref b), .unset] [])) t
      refine XS.aloadN X0.here hx rfl (hb hby own_d_prog_7_method_10_code_0) rfl rfl ?_
      show Steps p.tables e below (s₁.setTop (mkF m 1 #[.val (.ref b), .val (.ref b), .unset] [(.ref b)])) t
      exact st1 t k)
  obtain ⟨T3, X3, e3, st3⟩ := castY X1 hx hZ hown (hw _ (List.mem_of_getElem? (i := 59) rfl)) e1 (Ins.self Eb) (g := (mkF m 8 #[.val (.ref b), .val (.ref b), .unset] [(.ref b)])) rfl rfl (hb hby own_d_prog_7_method_10_code_8)
  have ch4 : ∀ t, Steps p.tables e below (T3.setTop (mkF m 11 #[.val (.ref b), .val (.ref b), .unset] [(.ref b)])) t → Steps p.tables e below (s₁.setTop (entryFrame m #[(.ref b), (.ref b)] 3)) t := fun t k => ch2 t (by
      show Steps p.tables e below (T1.setTop (mkF m 4 #[.val (.ref b), .val (.ref b), .unset] [(.int (1 : Int32))])) t
      refine XS.ifNo X1.here hx rfl (hb hby own_d_prog_7_method_10_code_4) rfl ((if0 _ _).trans (feq (by decide : ¬ (1 : Int32) = (0 : Int32))).1) ?_
      show Steps p.tables e below (T1.setTop (mkF m 7 #[.val (.ref b), .val (.ref b), .unset] [])) t
      refine XS.aloadN X1.here hx rfl (hb hby own_d_prog_7_method_10_code_7) rfl rfl ?_
      show Steps p.tables e below (T1.setTop (mkF m 8 #[.val (.ref b), .val (.ref b), .unset] [(.ref b)])) t
      exact st3 t k)
  obtain ⟨T5, X5, e5, st5⟩ := getF X3 hx hZ hown (host := "") (Or.inl (hw _ (List.mem_of_getElem? (i := 45) rfl))) Via.refl e3 Fb_owner (g := (mkF m 13 #[.val (.ref b), .val (.ref b), .val (.ref b)] [(.ref b)])) rfl rfl (hb hby own_d_prog_7_method_10_code_13)
  have ch6 : ∀ t, Steps p.tables e below (T5.setTop (mkF m 16 #[.val (.ref b), .val (.ref b), .val (.ref b)] [(.ref ow)])) t → Steps p.tables e below (s₁.setTop (entryFrame m #[(.ref b), (.ref b)] 3)) t := fun t k => ch4 t (by
      show Steps p.tables e below (T3.setTop (mkF m 11 #[.val (.ref b), .val (.ref b), .unset] [(.ref b)])) t
      refine XS.astoreN X3.here hx rfl (hb hby own_d_prog_7_method_10_code_11) rfl rfl (l' := #[.val (.ref b), .val (.ref b), .val (.ref b)]) rfl ?_
      show Steps p.tables e below (T3.setTop (mkF m 12 #[.val (.ref b), .val (.ref b), .val (.ref b)] [])) t
      refine XS.aloadN X3.here hx rfl (hb hby own_d_prog_7_method_10_code_12) rfl rfl ?_
      show Steps p.tables e below (T3.setTop (mkF m 13 #[.val (.ref b), .val (.ref b), .val (.ref b)] [(.ref b)])) t
      exact st5 t k)
  obtain ⟨T7, X7, e7, st7⟩ := getF X5 hx hZ hown (host := "") (Or.inl (hw _ (List.mem_of_getElem? (i := 45) rfl))) Via.refl e5 Fb_owner (g := (mkF m 17 #[.val (.ref b), .val (.ref b), .val (.ref b)] [(.ref b), (.ref ow)])) rfl rfl (hb hby own_d_prog_7_method_10_code_17)
  have ch8 : ∀ t, Steps p.tables e below (T7.setTop (mkF m 20 #[.val (.ref b), .val (.ref b), .val (.ref b)] [(.ref ow), (.ref ow)])) t → Steps p.tables e below (s₁.setTop (entryFrame m #[(.ref b), (.ref b)] 3)) t := fun t k => ch6 t (by
      show Steps p.tables e below (T5.setTop (mkF m 16 #[.val (.ref b), .val (.ref b), .val (.ref b)] [(.ref ow)])) t
      refine XS.aloadN X5.here hx rfl (hb hby own_d_prog_7_method_10_code_16) rfl rfl ?_
      show Steps p.tables e below (T5.setTop (mkF m 17 #[.val (.ref b), .val (.ref b), .val (.ref b)] [(.ref b), (.ref ow)])) t
      exact st7 t k)
  obtain ⟨cq9, kq9, qa9, qb9, qc9⟩ := isOf hZ e7 E1
  obtain ⟨vv10, _, ⟨T10, L10, kk10, nn10⟩, -, X10, ⟨Lc10, hQ10, l10, y10, z10⟩, st10⟩ := X7.virtualBack hx (y := (⟨"java/lang/String", "equals", "(Ljava/lang/Object;)Z"⟩ : MethodName)) (z := (⟨"java/lang/String", "equals", "(Ljava/lang/Object;)Z"⟩ : MethodName)) hown (mvT hZ (hw _ (List.mem_of_getElem? (i := 61) rfl))) (mvT hZ (hw _ (List.mem_of_getElem? (i := 62) rfl))) (notFace_of_selects (args := #[]) (mvT hZ (hw _ (List.mem_of_getElem? (i := 64) rfl)))) (mvT hZ (hw _ (List.mem_of_getElem? (i := 64) rfl))) (mvT hZ (hw _ (List.mem_of_getElem? (i := 63) rfl))) (by decide) (StrChars.Road.eqW (W := 0) hZ (own_wordsEq hw) (kI := 4) (hw _ (List.mem_of_getElem? (i := 4) rfl)) E1 V1 C1 A1 (StrChars.Road.codOf (n := 1) rfl (fun c hc => by cases List.mem_singleton.mp hc; exact P1.2)) (own_bd P1) (Nat.le_of_ble_eq_true rfl) E1 V1 C1 A1 (StrChars.Road.codOf (n := 1) rfl (fun c hc => by cases List.mem_singleton.mp hc; exact P1.2)) (own_bd P1) (Nat.le_of_ble_eq_true rfl) S_CS P5 (by decide) (by decide)) qa9 qc9 (g := (mkF m 20 #[.val (.ref b), .val (.ref b), .val (.ref b)] [(.ref ow), (.ref ow)])) rfl (by rw [hml]; rfl) (Steps.refl _) (argsL := [(.ref ow)]) (rest := []) (lenOf own_pd__Ljava_lang_Object__Z rfl) rfl (by show 2 * 0 + _ ≤ _; exact Nat.le_of_eq rfl) (hb hby own_d_prog_7_method_10_code_20) (fun _ _ => ⟨rfl, e7, (by decide : 0 + 0 ≤ _), (by decide : 0 + 0 ≤ _)⟩)
  dsimp only [Pt.U, Pt.locs, Pt.cells, Pt.slots] at X10 l10 y10 z10 st10 hQ10
  subst l10 y10 z10
  obtain rfl : vv10 = some (.int (1 : Int32)) := hQ10.1.elim (fun q => q.1) (fun q => absurd (congrArg (fun c => [c]) (rfl : ca = ca)) q.2)
  have Nq10 := own_frnil (n0 := n0) hQ10.2.1
  have e10 := hQ10.2.2
  have N10 := Fr.app N0 Nq10
  have ch11 : ∀ t, Steps p.tables e below (T10.setTop (mkF m 23 #[.val (.ref b), .val (.ref b), .val (.ref b)] [(.int (1 : Int32))])) t → Steps p.tables e below (s₁.setTop (entryFrame m #[(.ref b), (.ref b)] 3)) t := fun t k => ch8 t (by
      show Steps p.tables e below (T7.setTop (mkF m 20 #[.val (.ref b), .val (.ref b), .val (.ref b)] [(.ref ow), (.ref ow)])) t
      exact st10.trans k)
  obtain ⟨T12, X12, e12, st12⟩ := getF X10 hx hZ hown (host := "") (Or.inl (hw _ (List.mem_of_getElem? (i := 48) rfl))) Via.refl e10 Fb_verifier (g := (mkF m 27 #[.val (.ref b), .val (.ref b), .val (.ref b)] [(.ref b)])) rfl rfl (hb hby own_d_prog_7_method_10_code_27)
  have ch13 : ∀ t, Steps p.tables e below (T12.setTop (mkF m 30 #[.val (.ref b), .val (.ref b), .val (.ref b)] [(.ref ve)])) t → Steps p.tables e below (s₁.setTop (entryFrame m #[(.ref b), (.ref b)] 3)) t := fun t k => ch11 t (by
      show Steps p.tables e below (T10.setTop (mkF m 23 #[.val (.ref b), .val (.ref b), .val (.ref b)] [(.int (1 : Int32))])) t
      refine XS.ifNo X10.here hx rfl (hb hby own_d_prog_7_method_10_code_23) rfl ((if0 _ _).trans (feq (by decide : ¬ (1 : Int32) = (0 : Int32))).1) ?_
      show Steps p.tables e below (T10.setTop (mkF m 26 #[.val (.ref b), .val (.ref b), .val (.ref b)] [])) t
      refine XS.aloadN X10.here hx rfl (hb hby own_d_prog_7_method_10_code_26) rfl rfl ?_
      show Steps p.tables e below (T10.setTop (mkF m 27 #[.val (.ref b), .val (.ref b), .val (.ref b)] [(.ref b)])) t
      exact st12 t k)
  obtain ⟨T14, X14, e14, st14⟩ := getF X12 hx hZ hown (host := "") (Or.inl (hw _ (List.mem_of_getElem? (i := 48) rfl))) Via.refl e12 Fb_verifier (g := (mkF m 31 #[.val (.ref b), .val (.ref b), .val (.ref b)] [(.ref b), (.ref ve)])) rfl rfl (hb hby own_d_prog_7_method_10_code_31)
  have ch15 : ∀ t, Steps p.tables e below (T14.setTop (mkF m 34 #[.val (.ref b), .val (.ref b), .val (.ref b)] [(.ref ve), (.ref ve)])) t → Steps p.tables e below (s₁.setTop (entryFrame m #[(.ref b), (.ref b)] 3)) t := fun t k => ch13 t (by
      show Steps p.tables e below (T12.setTop (mkF m 30 #[.val (.ref b), .val (.ref b), .val (.ref b)] [(.ref ve)])) t
      refine XS.aloadN X12.here hx rfl (hb hby own_d_prog_7_method_10_code_30) rfl rfl ?_
      show Steps p.tables e below (T12.setTop (mkF m 31 #[.val (.ref b), .val (.ref b), .val (.ref b)] [(.ref b), (.ref ve)])) t
      exact st14 t k)
  obtain ⟨cq16, kq16, qa16, qb16, qc16⟩ := isOf hZ e14 E2
  obtain ⟨vv17, _, ⟨T17, L17, kk17, nn17⟩, -, X17, ⟨Lc17, hQ17, l17, y17, z17⟩, st17⟩ := X14.virtualBack hx (y := (⟨"java/lang/String", "equals", "(Ljava/lang/Object;)Z"⟩ : MethodName)) (z := (⟨"java/lang/String", "equals", "(Ljava/lang/Object;)Z"⟩ : MethodName)) hown (mvT hZ (hw _ (List.mem_of_getElem? (i := 61) rfl))) (mvT hZ (hw _ (List.mem_of_getElem? (i := 62) rfl))) (notFace_of_selects (args := #[]) (mvT hZ (hw _ (List.mem_of_getElem? (i := 64) rfl)))) (mvT hZ (hw _ (List.mem_of_getElem? (i := 64) rfl))) (mvT hZ (hw _ (List.mem_of_getElem? (i := 63) rfl))) (by decide) (StrChars.Road.eqW (W := 0) hZ (own_wordsEq hw) (kI := 4) (hw _ (List.mem_of_getElem? (i := 4) rfl)) E2 V2 C2 A2 (StrChars.Road.codOf (n := 1) rfl (fun c hc => by cases List.mem_singleton.mp hc; exact P2.2)) (own_bd P2) (Nat.le_of_ble_eq_true rfl) E2 V2 C2 A2 (StrChars.Road.codOf (n := 1) rfl (fun c hc => by cases List.mem_singleton.mp hc; exact P2.2)) (own_bd P2) (Nat.le_of_ble_eq_true rfl) S_CS P5 (by decide) (by decide)) qa16 qc16 (g := (mkF m 34 #[.val (.ref b), .val (.ref b), .val (.ref b)] [(.ref ve), (.ref ve)])) rfl (by rw [hml]; rfl) (Steps.refl _) (argsL := [(.ref ve)]) (rest := []) (lenOf own_pd__Ljava_lang_Object__Z rfl) rfl (by show 2 * 0 + _ ≤ _; exact Nat.le_of_eq rfl) (hb hby own_d_prog_7_method_10_code_34) (fun _ _ => ⟨rfl, e14, (by decide : 0 + 0 ≤ _), (by decide : 0 + 0 ≤ _)⟩)
  dsimp only [Pt.U, Pt.locs, Pt.cells, Pt.slots] at X17 l17 y17 z17 st17 hQ17
  subst l17 y17 z17
  obtain rfl : vv17 = some (.int (1 : Int32)) := hQ17.1.elim (fun q => q.1) (fun q => absurd (congrArg (fun c => [c]) (rfl : da = da)) q.2)
  have Nq17 := own_frnil (n0 := n0) hQ17.2.1
  have e17 := hQ17.2.2
  have N17 := Fr.app N10 Nq17
  have ch18 : ∀ t, Steps p.tables e below (T17.setTop (mkF m 37 #[.val (.ref b), .val (.ref b), .val (.ref b)] [(.int (1 : Int32))])) t → Steps p.tables e below (s₁.setTop (entryFrame m #[(.ref b), (.ref b)] 3)) t := fun t k => ch15 t (by
      show Steps p.tables e below (T14.setTop (mkF m 34 #[.val (.ref b), .val (.ref b), .val (.ref b)] [(.ref ve), (.ref ve)])) t
      exact st17.trans k)
  obtain ⟨T19, X19, e19, st19⟩ := getF X17 hx hZ hown (host := "") (Or.inl (hw _ (List.mem_of_getElem? (i := 50) rfl))) Via.refl e17 Fb_locksRevoked (g := (mkF m 41 #[.val (.ref b), .val (.ref b), .val (.ref b)] [(.ref b)])) rfl rfl (hb hby own_d_prog_7_method_10_code_41)
  have ch20 : ∀ t, Steps p.tables e below (T19.setTop (mkF m 44 #[.val (.ref b), .val (.ref b), .val (.ref b)] [(.int x)])) t → Steps p.tables e below (s₁.setTop (entryFrame m #[(.ref b), (.ref b)] 3)) t := fun t k => ch18 t (by
      show Steps p.tables e below (T17.setTop (mkF m 37 #[.val (.ref b), .val (.ref b), .val (.ref b)] [(.int (1 : Int32))])) t
      refine XS.ifNo X17.here hx rfl (hb hby own_d_prog_7_method_10_code_37) rfl ((if0 _ _).trans (feq (by decide : ¬ (1 : Int32) = (0 : Int32))).1) ?_
      show Steps p.tables e below (T17.setTop (mkF m 40 #[.val (.ref b), .val (.ref b), .val (.ref b)] [])) t
      refine XS.aloadN X17.here hx rfl (hb hby own_d_prog_7_method_10_code_40) rfl rfl ?_
      show Steps p.tables e below (T17.setTop (mkF m 41 #[.val (.ref b), .val (.ref b), .val (.ref b)] [(.ref b)])) t
      exact st19 t k)
  obtain ⟨T21, X21, e21, st21⟩ := getF X19 hx hZ hown (host := "") (Or.inl (hw _ (List.mem_of_getElem? (i := 50) rfl))) Via.refl e19 Fb_locksRevoked (g := (mkF m 45 #[.val (.ref b), .val (.ref b), .val (.ref b)] [(.ref b), (.int x)])) rfl rfl (hb hby own_d_prog_7_method_10_code_45)
  have ch22 : ∀ t, Steps p.tables e below (T21.setTop (mkF m 48 #[.val (.ref b), .val (.ref b), .val (.ref b)] [(.int x), (.int x)])) t → Steps p.tables e below (s₁.setTop (entryFrame m #[(.ref b), (.ref b)] 3)) t := fun t k => ch20 t (by
      show Steps p.tables e below (T19.setTop (mkF m 44 #[.val (.ref b), .val (.ref b), .val (.ref b)] [(.int x)])) t
      refine XS.aloadN X19.here hx rfl (hb hby own_d_prog_7_method_10_code_44) rfl rfl ?_
      show Steps p.tables e below (T19.setTop (mkF m 45 #[.val (.ref b), .val (.ref b), .val (.ref b)] [(.ref b), (.int x)])) t
      exact st21 t k)
  obtain ⟨T23, X23, e23, st23⟩ := getF X21 hx hZ hown (host := "") (Or.inl (hw _ (List.mem_of_getElem? (i := 52) rfl))) Via.refl e21 Fb_graceMissed (g := (mkF m 52 #[.val (.ref b), .val (.ref b), .val (.ref b)] [(.ref b)])) rfl rfl (hb hby own_d_prog_7_method_10_code_52)
  have ch24 : ∀ t, Steps p.tables e below (T23.setTop (mkF m 55 #[.val (.ref b), .val (.ref b), .val (.ref b)] [(.int y)])) t → Steps p.tables e below (s₁.setTop (entryFrame m #[(.ref b), (.ref b)] 3)) t := fun t k => ch22 t (by
      show Steps p.tables e below (T21.setTop (mkF m 48 #[.val (.ref b), .val (.ref b), .val (.ref b)] [(.int x), (.int x)])) t
      refine XS.icmpNo X21.here hx rfl (hb hby own_d_prog_7_method_10_code_48) rfl (teq (rfl : x = x)).2 ?_
      show Steps p.tables e below (T21.setTop (mkF m 51 #[.val (.ref b), .val (.ref b), .val (.ref b)] [])) t
      refine XS.aloadN X21.here hx rfl (hb hby own_d_prog_7_method_10_code_51) rfl rfl ?_
      show Steps p.tables e below (T21.setTop (mkF m 52 #[.val (.ref b), .val (.ref b), .val (.ref b)] [(.ref b)])) t
      exact st23 t k)
  obtain ⟨T25, X25, e25, st25⟩ := getF X23 hx hZ hown (host := "") (Or.inl (hw _ (List.mem_of_getElem? (i := 52) rfl))) Via.refl e23 Fb_graceMissed (g := (mkF m 56 #[.val (.ref b), .val (.ref b), .val (.ref b)] [(.ref b), (.int y)])) rfl rfl (hb hby own_d_prog_7_method_10_code_56)
  have ch26 : ∀ t, Steps p.tables e below (T25.setTop (mkF m 59 #[.val (.ref b), .val (.ref b), .val (.ref b)] [(.int y), (.int y)])) t → Steps p.tables e below (s₁.setTop (entryFrame m #[(.ref b), (.ref b)] 3)) t := fun t k => ch24 t (by
      show Steps p.tables e below (T23.setTop (mkF m 55 #[.val (.ref b), .val (.ref b), .val (.ref b)] [(.int y)])) t
      refine XS.aloadN X23.here hx rfl (hb hby own_d_prog_7_method_10_code_55) rfl rfl ?_
      show Steps p.tables e below (T23.setTop (mkF m 56 #[.val (.ref b), .val (.ref b), .val (.ref b)] [(.ref b), (.int y)])) t
      exact st25 t k)
  have ch27 : ∀ t, Steps p.tables e below (T25.setTop (mkF m 67 #[.val (.ref b), .val (.ref b), .val (.ref b)] [(.int (1 : Int32))])) t → Steps p.tables e below (s₁.setTop (entryFrame m #[(.ref b), (.ref b)] 3)) t := fun t k => ch26 t (by
      show Steps p.tables e below (T25.setTop (mkF m 59 #[.val (.ref b), .val (.ref b), .val (.ref b)] [(.int y), (.int y)])) t
      refine XS.icmpNo X25.here hx rfl (hb hby own_d_prog_7_method_10_code_59) rfl (teq (rfl : y = y)).2 ?_
      show Steps p.tables e below (T25.setTop (mkF m 62 #[.val (.ref b), .val (.ref b), .val (.ref b)] [])) t
      refine XS.iconst X25.here hx rfl (hb hby own_d_prog_7_method_10_code_62) ?_
      show Steps p.tables e below (T25.setTop (mkF m 63 #[.val (.ref b), .val (.ref b), .val (.ref b)] [(.int (1 : Int32))])) t
      refine XS.goto X25.here hx rfl (pc0 := 63) (pc' := 67) rfl (hb hby own_d_prog_7_method_10_code_63) (by decide) (by decide) ?_
      exact k)
  obtain ⟨fs, hr, hrun, hended, hW, hsame⟩ := X25.leave (v := some (.int (1 : Int32))) (fun h => by rw [Bd.returns] at h; cases h)
  refine ⟨_, _, ch27 _ ?_, hrun, hended, _, _, rfl, ?_, ⟨_, rfl⟩, hW, hsame.mono (by decide) (by decide)⟩
  · show Steps p.tables e below (T25.setTop (mkF m 67 #[.val (.ref b), .val (.ref b), .val (.ref b)] [(.int (1 : Int32))])) _
    exact retN X25 hx (t := .boolean) Bd.returns (by simp) (hb hby own_d_prog_7_method_10_code_67) hr
  · show QV (some (.int (1 : Int32))) h0 n0 _ T25.heap _
    rw [e25]
    exact ⟨rfl, N17, rfl⟩
theorem own_ef_own_eq_null (m : MethodId) {x0 : Addr} : entryFrame m #[(.ref x0), .null] 3 = mkF m 0 #[.val (.ref x0), .val .null, .unset] [] := by first | (simp [entryFrame, mkF, argsToLocals, Value.category, maxLocals]; done) | rfl
set_option maxRecDepth 65536 in
set_option maxHeartbeats 40000000 in
theorem own_eq_null (l : Launch) (Z : State) (a0 : Array Value) (hw : ∀ d ∈ tables_1, d.before a0 Z = true) (ws : List Jvm.Cond) (h0 : Heap) (n0 : Nat) (Z0 : n0 ≤ h0.size) (b : Addr) :
    MetFree l (⟨"com/example/nokkel/nokkel/core/ClientRecord", "equals", "(Ljava/lang/Object;)Z"⟩ : MethodName) (head1 (Jvm.Cond.code (⟨"com/example/nokkel/nokkel/core/ClientRecord", "equals", "(Ljava/lang/Object;)Z"⟩ : MethodName) prog_7_method_10_code 3 (some .boolean) :: ws) ({ frames := 0, cells := 0, slots := 0, locals := 0 } : Room)) (fun a U => a = #[(.ref b), .null] ∧ Z.Warmed39 U.vm ∧ U.heap = h0) (fun _ _ _ _ _ => True) (fun _ U o U' => ∃ v L, o = .returned v ∧ QV (some (.int (0 : Int32))) h0 n0 v U'.heap L ∧ FrameEnd U o U' L ({ frames := 0, cells := 0, slots := 0, locals := 0 } : Room).cells ({ frames := 0, cells := 0, slots := 0, locals := 0 } : Room).slots) := by
  refine MetFree.of_bodySF (plainFor_of_name own_pn_com_example_nokkel_nokkel_core_ClientRecord) hisR ?_
  intro p e s m args below meth c s₁ Bd hml0 hP hK
  obtain ⟨rfl, hZ, hh⟩ := hP
  have hx := Bd.exec
  have hby := Bd.bytes
  have hml : c.maxLocals = 3 := hml0
  have hown : s.vm.findClass "com/example/nokkel/nokkel/core/ClientRecord" = some m.cls := (findClass_of_methodNamed Bd.named :)
  have hnm := (name_of_methodNamed Bd.named Bd.method).1
  have X0 : Stand p l e ({ frames := 0, cells := 0, slots := 0, locals := 0 } : Room) s m #[(.ref b), .null] below meth c s₁ [] 0 0 := Stand.of_body Bd
  have e0 : s₁.heap = h0 := by rw [← hh, Bd.state]; rfl
  have N0 := Fr.nil n0
  have pre0 : ∀ t, Steps p.tables e below (s₁.setTop (mkF m 0 #[.val (.ref b), .val .null, .unset] [])) t → Steps p.tables e below (s₁.setTop (entryFrame m #[(.ref b), .null] 3)) t := fun t k => castTop (own_ef_own_eq_null m) k
  have ch1 : ∀ t, Steps p.tables e below (s₁.setTop (mkF m 67 #[.val (.ref b), .val .null, .unset] [(.int (0 : Int32))])) t → Steps p.tables e below (s₁.setTop (entryFrame m #[(.ref b), .null] 3)) t := fun t k => pre0 t (by
      show Steps p.tables e below (s₁.setTop (mkF m 0 #[.val (.ref b), .val .null, .unset] [])) t
      refine XS.aloadN X0.here hx rfl (hb hby own_d_prog_7_method_10_code_0) rfl rfl ?_
      show Steps p.tables e below (s₁.setTop (mkF m 1 #[.val (.ref b), .val .null, .unset] [.null])) t
      refine X0.instanceofNull hx (g := (mkF m 1 #[.val (.ref b), .val .null, .unset] [.null])) rfl rfl (hb hby own_d_prog_7_method_10_code_1) _ ?_
      show Steps p.tables e below (s₁.setTop (mkF m 4 #[.val (.ref b), .val .null, .unset] [(.int (0 : Int32))])) t
      refine XS.ifYes X0.here hx rfl (pc0 := 4) (pc' := 66) rfl (hb hby own_d_prog_7_method_10_code_4) rfl ((if0 _ _).trans (teq (by decide : (0 : Int32) = (0 : Int32))).1) (by decide) (by decide) ?_
      show Steps p.tables e below (s₁.setTop (mkF m 66 #[.val (.ref b), .val .null, .unset] [])) t
      refine XS.iconst X0.here hx rfl (hb hby own_d_prog_7_method_10_code_66) ?_
      exact k)
  obtain ⟨fs, hr, hrun, hended, hW, hsame⟩ := X0.leave (v := some (.int (0 : Int32))) (fun h => by rw [Bd.returns] at h; cases h)
  refine ⟨_, _, ch1 _ ?_, hrun, hended, _, _, rfl, ?_, ⟨_, rfl⟩, hW, hsame.mono (by decide) (by decide)⟩
  · show Steps p.tables e below (s₁.setTop (mkF m 67 #[.val (.ref b), .val .null, .unset] [(.int (0 : Int32))])) _
    exact retN X0 hx (t := .boolean) Bd.returns (by simp) (hb hby own_d_prog_7_method_10_code_67) hr
  · show QV (some (.int (0 : Int32))) h0 n0 _ s₁.heap _
    rw [e0]
    exact ⟨rfl, N0, rfl⟩
theorem own_ef_own_eq_str (m : MethodId) {x0 : Addr} {x1 : Addr} : entryFrame m #[(.ref x0), (.ref x1)] 3 = mkF m 0 #[.val (.ref x0), .val (.ref x1), .unset] [] := by first | (simp [entryFrame, mkF, argsToLocals, Value.category, maxLocals]; done) | rfl
set_option maxRecDepth 65536 in
set_option maxHeartbeats 40000000 in
theorem own_eq_str (l : Launch) (Z : State) (a0 : Array Value) (hw : ∀ d ∈ tables_1, d.before a0 Z = true) (ws : List Jvm.Cond) (h0 : Heap) (n0 : Nat) (Z0 : n0 ≤ h0.size) (b ao : Addr) (Ea : Exa Z h0 ao "java/lang/String") :
    MetFree l (⟨"com/example/nokkel/nokkel/core/ClientRecord", "equals", "(Ljava/lang/Object;)Z"⟩ : MethodName) (head1 (Jvm.Cond.code (⟨"com/example/nokkel/nokkel/core/ClientRecord", "equals", "(Ljava/lang/Object;)Z"⟩ : MethodName) prog_7_method_10_code 3 (some .boolean) :: ws) ({ frames := 0, cells := 0, slots := 0, locals := 0 } : Room)) (fun a U => a = #[(.ref b), (.ref ao)] ∧ Z.Warmed39 U.vm ∧ U.heap = h0) (fun _ _ _ _ _ => True) (fun _ U o U' => ∃ v L, o = .returned v ∧ QV (some (.int (0 : Int32))) h0 n0 v U'.heap L ∧ FrameEnd U o U' L ({ frames := 0, cells := 0, slots := 0, locals := 0 } : Room).cells ({ frames := 0, cells := 0, slots := 0, locals := 0 } : Room).slots) := by
  refine MetFree.of_bodySF (plainFor_of_name own_pn_com_example_nokkel_nokkel_core_ClientRecord) hisR ?_
  intro p e s m args below meth c s₁ Bd hml0 hP hK
  obtain ⟨rfl, hZ, hh⟩ := hP
  have hx := Bd.exec
  have hby := Bd.bytes
  have hml : c.maxLocals = 3 := hml0
  have hown : s.vm.findClass "com/example/nokkel/nokkel/core/ClientRecord" = some m.cls := (findClass_of_methodNamed Bd.named :)
  have hnm := (name_of_methodNamed Bd.named Bd.method).1
  have X0 : Stand p l e ({ frames := 0, cells := 0, slots := 0, locals := 0 } : Room) s m #[(.ref b), (.ref ao)] below meth c s₁ [] 0 0 := Stand.of_body Bd
  have e0 : s₁.heap = h0 := by rw [← hh, Bd.state]; rfl
  have N0 := Fr.nil n0
  have pre0 : ∀ t, Steps p.tables e below (s₁.setTop (mkF m 0 #[.val (.ref b), .val (.ref ao), .unset] [])) t → Steps p.tables e below (s₁.setTop (entryFrame m #[(.ref b), (.ref ao)] 3)) t := fun t k => castTop (own_ef_own_eq_str m) k
  obtain ⟨T1, X1, e1, st1⟩ := instN X0 hx hZ hown (hw _ (List.mem_of_getElem? (i := 59) rfl)) e0 (by rw [hh]; exact own_insN hw Ea) (by rw [hh]; exact Ea) (g := (mkF m 1 #[.val (.ref b), .val (.ref ao), .unset] [(.ref ao)])) rfl rfl (hb hby own_d_prog_7_method_10_code_1)
  have ch2 : ∀ t, Steps p.tables e below (T1.setTop (mkF m 4 #[.val (.ref b), .val (.ref ao), .unset] [(.int (0 : Int32))])) t → Steps p.tables e below (s₁.setTop (entryFrame m #[(.ref b), (.ref ao)] 3)) t := fun t k => pre0 t (by
      show Steps p.tables e below (s₁.setTop (mkF m 0 #[.val (.ref b), .val (.ref ao), .unset] [])) t
      refine XS.aloadN X0.here hx rfl (hb hby own_d_prog_7_method_10_code_0) rfl rfl ?_
      show Steps p.tables e below (s₁.setTop (mkF m 1 #[.val (.ref b), .val (.ref ao), .unset] [(.ref ao)])) t
      exact st1 t k)
  have ch3 : ∀ t, Steps p.tables e below (T1.setTop (mkF m 67 #[.val (.ref b), .val (.ref ao), .unset] [(.int (0 : Int32))])) t → Steps p.tables e below (s₁.setTop (entryFrame m #[(.ref b), (.ref ao)] 3)) t := fun t k => ch2 t (by
      show Steps p.tables e below (T1.setTop (mkF m 4 #[.val (.ref b), .val (.ref ao), .unset] [(.int (0 : Int32))])) t
      refine XS.ifYes X1.here hx rfl (pc0 := 4) (pc' := 66) rfl (hb hby own_d_prog_7_method_10_code_4) rfl ((if0 _ _).trans (teq (by decide : (0 : Int32) = (0 : Int32))).1) (by decide) (by decide) ?_
      show Steps p.tables e below (T1.setTop (mkF m 66 #[.val (.ref b), .val (.ref ao), .unset] [])) t
      refine XS.iconst X1.here hx rfl (hb hby own_d_prog_7_method_10_code_66) ?_
      exact k)
  obtain ⟨fs, hr, hrun, hended, hW, hsame⟩ := X1.leave (v := some (.int (0 : Int32))) (fun h => by rw [Bd.returns] at h; cases h)
  refine ⟨_, _, ch3 _ ?_, hrun, hended, _, _, rfl, ?_, ⟨_, rfl⟩, hW, hsame.mono (by decide) (by decide)⟩
  · show Steps p.tables e below (T1.setTop (mkF m 67 #[.val (.ref b), .val (.ref ao), .unset] [(.int (0 : Int32))])) _
    exact retN X1 hx (t := .boolean) Bd.returns (by simp) (hb hby own_d_prog_7_method_10_code_67) hr
  · show QV (some (.int (0 : Int32))) h0 n0 _ T1.heap _
    rw [e1]
    exact ⟨rfl, N0, rfl⟩
theorem own_ef_own_law_0 (m : MethodId) {x0 : Int32} {x1 : Int32} {x2 : Int32} : entryFrame m #[(.int x0), (.int x1), (.int x2)] maxLocals = mkF m 0 #[.val (.int x0), .val (.int x1), .val (.int x2), .unset, .unset, .unset, .unset, .unset, .unset, .unset, .unset, .unset, .unset, .unset, .unset] [] := by first | (simp [entryFrame, mkF, argsToLocals, Value.category, maxLocals]; done) | rfl
set_option maxRecDepth 65536 in
set_option maxHeartbeats 40000000 in
theorem own_law_0 (l : Launch) (Z : State) (a0 : Array Value) (hw : ∀ d ∈ tables_1, d.before a0 Z = true) (ws : List Jvm.Cond) (h0 : Heap) (n0 : Nat) (Z0 : n0 ≤ h0.size) (p1 p2 p3 c1 d1 : Int32) (hE1 : ((p1 &&& (255 : Int32)).toUInt32.toUInt16.toUInt32.toInt32) = c1) (hE2 : ((p2 &&& (255 : Int32)).toUInt32.toUInt16.toUInt32.toInt32) = d1) (hx_c1 : ¬ c1 < 0 ∧ ¬ (255 : Int32) < c1) (hx_d1 : ¬ d1 < 0 ∧ ¬ (255 : Int32) < d1) (hKk : (((p3.toUInt32 >>> ((6 : Int32) &&& 31).toUInt32).toInt32) &&& (3 : Int32)) = (0 : Int32)) (zC : Int32) (S_CS : Sta Z h0 "java/lang/String" "COMPACT_STRINGS" "Z" (.int zC)) (P5 : ¬ (zC = (0 : Int32))) :
    MetFree l x (head1 (Jvm.Cond.code x code maxLocals ret :: ws) room_1) (fun a U => a = #[(.int p1), (.int p2), (.int p3)] ∧ Z.Warmed39 U.vm ∧ U.heap = h0) (fun _ _ _ _ _ => True) (fun _ U o U' => ∃ v L, o = .returned v ∧ QN (some (.int (1 : Int32))) n0 v U'.heap L ∧ ReturnedEndW U o U' L room_1.cells room_1.slots) := by
  refine MetFree.of_bodySF (plainFor_of_name own_pn_com_example_nokkel_nokkel_core_ClientRecordEqualsPinLaw) hisR ?_
  intro p e s m args below meth c s₁ Bd hml0 hP hK
  obtain ⟨rfl, hZ, hh⟩ := hP
  have hx := Bd.exec
  have hby := Bd.bytes
  have hml : c.maxLocals = 15 := hml0
  have hown : s.vm.findClass "com/example/nokkel/nokkel/core/ClientRecordEqualsPinLaw" = some m.cls := (findClass_of_methodNamed Bd.named :)
  have hnm := (name_of_methodNamed Bd.named Bd.method).1
  have X0 : Stand p l e room_1 (s.setVm s.vm) m #[(.int p1), (.int p2), (.int p3)] below meth c s₁ [] 0 0 := Stand.of_body Bd
  have hZ : Z.Warmed39 (s.setVm s.vm).vm := hZ
  have hown : (s.setVm s.vm).vm.findClass "com/example/nokkel/nokkel/core/ClientRecordEqualsPinLaw" = some m.cls := hown
  have hS : s.Since s.vm 0 := (State.WarmedH.refl s).since 0
  have hk : 0 ≤ h0.size := Nat.zero_le _
  have e0 : s₁.heap = h0 := by rw [← hh, Bd.state]; rfl
  have N0 := Fr.nil n0
  have pre0 : ∀ t, Steps p.tables e below (s₁.setTop (mkF m 0 #[.val (.int p1), .val (.int p2), .val (.int p3), .unset, .unset, .unset, .unset, .unset, .unset, .unset, .unset, .unset, .unset, .unset, .unset] [])) t → Steps p.tables e below (s₁.setTop (entryFrame m #[(.int p1), (.int p2), (.int p3)] maxLocals)) t := fun t k => castTop (own_ef_own_law_0 m) k
  have ch1 : ∀ t, Steps p.tables e below (s₁.setTop (mkF m 7 #[.val (.int p1), .val (.int p2), .val (.int p3), .val (.int c1), .unset, .unset, .unset, .unset, .unset, .unset, .unset, .unset, .unset, .unset, .unset] [])) t → Steps p.tables e below (s₁.setTop (entryFrame m #[(.int p1), (.int p2), (.int p3)] maxLocals)) t := fun t k => pre0 t (by
      show Steps p.tables e below (s₁.setTop (mkF m 0 #[.val (.int p1), .val (.int p2), .val (.int p3), .unset, .unset, .unset, .unset, .unset, .unset, .unset, .unset, .unset, .unset, .unset, .unset] [])) t
      refine XS.iloadN X0.here hx rfl (hb hby at_0) rfl ?_
      show Steps p.tables e below (s₁.setTop (mkF m 1 #[.val (.int p1), .val (.int p2), .val (.int p3), .unset, .unset, .unset, .unset, .unset, .unset, .unset, .unset, .unset, .unset, .unset, .unset] [(.int p1)])) t
      refine XS.sipush X0.here hx rfl (hb hby at_1) ?_
      show Steps p.tables e below (s₁.setTop (mkF m 4 #[.val (.int p1), .val (.int p2), .val (.int p3), .unset, .unset, .unset, .unset, .unset, .unset, .unset, .unset, .unset, .unset, .unset, .unset] [(.int (255 : Int32)), (.int p1)])) t
      refine XS.iand X0.here hx rfl (hb hby at_4) rfl ?_
      show Steps p.tables e below (s₁.setTop (mkF m 5 #[.val (.int p1), .val (.int p2), .val (.int p3), .unset, .unset, .unset, .unset, .unset, .unset, .unset, .unset, .unset, .unset, .unset, .unset] [(.int (p1 &&& (255 : Int32)))])) t
      refine XS.i2c X0.here hx rfl (hb hby at_5) rfl ?_
      rw [hE1]
      show Steps p.tables e below (s₁.setTop (mkF m 6 #[.val (.int p1), .val (.int p2), .val (.int p3), .unset, .unset, .unset, .unset, .unset, .unset, .unset, .unset, .unset, .unset, .unset, .unset] [(.int c1)])) t
      refine XS.istoreN X0.here hx rfl (hb hby at_6) rfl (l' := #[.val (.int p1), .val (.int p2), .val (.int p3), .val (.int c1), .unset, .unset, .unset, .unset, .unset, .unset, .unset, .unset, .unset, .unset, .unset]) rfl ?_
      exact k)
  obtain ⟨c2, hx_c2, sj2⟩ : ∃ c2 : Int32, (¬ c2 < 0 ∧ ¬ (255 : Int32) < c2) ∧ ∀ t, Steps p.tables e below (s₁.setTop (mkF m 28 #[.val (.int p1), .val (.int p2), .val (.int p3), .val (.int c1), .unset, .unset, .unset, .unset, .unset, .unset, .unset, .unset, .unset, .unset, .unset] [(.int c2)])) t → Steps p.tables e below (s₁.setTop (mkF m 7 #[.val (.int p1), .val (.int p2), .val (.int p3), .val (.int c1), .unset, .unset, .unset, .unset, .unset, .unset, .unset, .unset, .unset, .unset, .unset] [])) t := by
    by_cases hq3 : (((p3.toUInt32 >>> ((4 : Int32) &&& 31).toUInt32).toInt32) &&& (1 : Int32)) = (0 : Int32)
    · skip
      refine ⟨((((p1.toUInt32 >>> ((8 : Int32) &&& 31).toUInt32).toInt32) &&& (255 : Int32)).toUInt32.toUInt16.toUInt32.toInt32), own_i2c _, fun t k => ?_⟩
      show Steps p.tables e below (s₁.setTop (mkF m 7 #[.val (.int p1), .val (.int p2), .val (.int p3), .val (.int c1), .unset, .unset, .unset, .unset, .unset, .unset, .unset, .unset, .unset, .unset, .unset] [])) t
      refine XS.iloadN X0.here hx rfl (hb hby at_7) rfl ?_
      show Steps p.tables e below (s₁.setTop (mkF m 8 #[.val (.int p1), .val (.int p2), .val (.int p3), .val (.int c1), .unset, .unset, .unset, .unset, .unset, .unset, .unset, .unset, .unset, .unset, .unset] [(.int p3)])) t
      refine XS.iconst X0.here hx rfl (hb hby at_8) ?_
      show Steps p.tables e below (s₁.setTop (mkF m 9 #[.val (.int p1), .val (.int p2), .val (.int p3), .val (.int c1), .unset, .unset, .unset, .unset, .unset, .unset, .unset, .unset, .unset, .unset, .unset] [(.int (4 : Int32)), (.int p3)])) t
      refine XS.iushr X0.here hx rfl (hb hby at_9) rfl ?_
      show Steps p.tables e below (s₁.setTop (mkF m 10 #[.val (.int p1), .val (.int p2), .val (.int p3), .val (.int c1), .unset, .unset, .unset, .unset, .unset, .unset, .unset, .unset, .unset, .unset, .unset] [(.int ((p3.toUInt32 >>> ((4 : Int32) &&& 31).toUInt32).toInt32))])) t
      refine XS.iconst X0.here hx rfl (hb hby at_10) ?_
      show Steps p.tables e below (s₁.setTop (mkF m 11 #[.val (.int p1), .val (.int p2), .val (.int p3), .val (.int c1), .unset, .unset, .unset, .unset, .unset, .unset, .unset, .unset, .unset, .unset, .unset] [(.int (1 : Int32)), (.int ((p3.toUInt32 >>> ((4 : Int32) &&& 31).toUInt32).toInt32))])) t
      refine XS.iand X0.here hx rfl (hb hby at_11) rfl ?_
      show Steps p.tables e below (s₁.setTop (mkF m 12 #[.val (.int p1), .val (.int p2), .val (.int p3), .val (.int c1), .unset, .unset, .unset, .unset, .unset, .unset, .unset, .unset, .unset, .unset, .unset] [(.int (((p3.toUInt32 >>> ((4 : Int32) &&& 31).toUInt32).toInt32) &&& (1 : Int32)))])) t
      refine XS.ifYes X0.here hx rfl (pc0 := 12) (pc' := 19) rfl (hb hby at_12) rfl ((if0 _ _).trans (teq hq3).1) (by decide) (by decide) ?_
      show Steps p.tables e below (s₁.setTop (mkF m 19 #[.val (.int p1), .val (.int p2), .val (.int p3), .val (.int c1), .unset, .unset, .unset, .unset, .unset, .unset, .unset, .unset, .unset, .unset, .unset] [])) t
      refine XS.iloadN X0.here hx rfl (hb hby at_19) rfl ?_
      show Steps p.tables e below (s₁.setTop (mkF m 20 #[.val (.int p1), .val (.int p2), .val (.int p3), .val (.int c1), .unset, .unset, .unset, .unset, .unset, .unset, .unset, .unset, .unset, .unset, .unset] [(.int p1)])) t
      refine XS.bipush X0.here hx rfl (hb hby at_20) ?_
      show Steps p.tables e below (s₁.setTop (mkF m 22 #[.val (.int p1), .val (.int p2), .val (.int p3), .val (.int c1), .unset, .unset, .unset, .unset, .unset, .unset, .unset, .unset, .unset, .unset, .unset] [(.int (8 : Int32)), (.int p1)])) t
      refine XS.iushr X0.here hx rfl (hb hby at_22) rfl ?_
      show Steps p.tables e below (s₁.setTop (mkF m 23 #[.val (.int p1), .val (.int p2), .val (.int p3), .val (.int c1), .unset, .unset, .unset, .unset, .unset, .unset, .unset, .unset, .unset, .unset, .unset] [(.int ((p1.toUInt32 >>> ((8 : Int32) &&& 31).toUInt32).toInt32))])) t
      refine XS.sipush X0.here hx rfl (hb hby at_23) ?_
      show Steps p.tables e below (s₁.setTop (mkF m 26 #[.val (.int p1), .val (.int p2), .val (.int p3), .val (.int c1), .unset, .unset, .unset, .unset, .unset, .unset, .unset, .unset, .unset, .unset, .unset] [(.int (255 : Int32)), (.int ((p1.toUInt32 >>> ((8 : Int32) &&& 31).toUInt32).toInt32))])) t
      refine XS.iand X0.here hx rfl (hb hby at_26) rfl ?_
      show Steps p.tables e below (s₁.setTop (mkF m 27 #[.val (.int p1), .val (.int p2), .val (.int p3), .val (.int c1), .unset, .unset, .unset, .unset, .unset, .unset, .unset, .unset, .unset, .unset, .unset] [(.int (((p1.toUInt32 >>> ((8 : Int32) &&& 31).toUInt32).toInt32) &&& (255 : Int32)))])) t
      refine XS.i2c X0.here hx rfl (hb hby at_27) rfl ?_
      exact k
    · skip
      refine ⟨c1, hx_c1, fun t k => ?_⟩
      show Steps p.tables e below (s₁.setTop (mkF m 7 #[.val (.int p1), .val (.int p2), .val (.int p3), .val (.int c1), .unset, .unset, .unset, .unset, .unset, .unset, .unset, .unset, .unset, .unset, .unset] [])) t
      refine XS.iloadN X0.here hx rfl (hb hby at_7) rfl ?_
      show Steps p.tables e below (s₁.setTop (mkF m 8 #[.val (.int p1), .val (.int p2), .val (.int p3), .val (.int c1), .unset, .unset, .unset, .unset, .unset, .unset, .unset, .unset, .unset, .unset, .unset] [(.int p3)])) t
      refine XS.iconst X0.here hx rfl (hb hby at_8) ?_
      show Steps p.tables e below (s₁.setTop (mkF m 9 #[.val (.int p1), .val (.int p2), .val (.int p3), .val (.int c1), .unset, .unset, .unset, .unset, .unset, .unset, .unset, .unset, .unset, .unset, .unset] [(.int (4 : Int32)), (.int p3)])) t
      refine XS.iushr X0.here hx rfl (hb hby at_9) rfl ?_
      show Steps p.tables e below (s₁.setTop (mkF m 10 #[.val (.int p1), .val (.int p2), .val (.int p3), .val (.int c1), .unset, .unset, .unset, .unset, .unset, .unset, .unset, .unset, .unset, .unset, .unset] [(.int ((p3.toUInt32 >>> ((4 : Int32) &&& 31).toUInt32).toInt32))])) t
      refine XS.iconst X0.here hx rfl (hb hby at_10) ?_
      show Steps p.tables e below (s₁.setTop (mkF m 11 #[.val (.int p1), .val (.int p2), .val (.int p3), .val (.int c1), .unset, .unset, .unset, .unset, .unset, .unset, .unset, .unset, .unset, .unset, .unset] [(.int (1 : Int32)), (.int ((p3.toUInt32 >>> ((4 : Int32) &&& 31).toUInt32).toInt32))])) t
      refine XS.iand X0.here hx rfl (hb hby at_11) rfl ?_
      show Steps p.tables e below (s₁.setTop (mkF m 12 #[.val (.int p1), .val (.int p2), .val (.int p3), .val (.int c1), .unset, .unset, .unset, .unset, .unset, .unset, .unset, .unset, .unset, .unset, .unset] [(.int (((p3.toUInt32 >>> ((4 : Int32) &&& 31).toUInt32).toInt32) &&& (1 : Int32)))])) t
      refine XS.ifNo X0.here hx rfl (hb hby at_12) rfl ((if0 _ _).trans (feq hq3).1) ?_
      show Steps p.tables e below (s₁.setTop (mkF m 15 #[.val (.int p1), .val (.int p2), .val (.int p3), .val (.int c1), .unset, .unset, .unset, .unset, .unset, .unset, .unset, .unset, .unset, .unset, .unset] [])) t
      refine XS.iloadN X0.here hx rfl (hb hby at_15) rfl ?_
      show Steps p.tables e below (s₁.setTop (mkF m 16 #[.val (.int p1), .val (.int p2), .val (.int p3), .val (.int c1), .unset, .unset, .unset, .unset, .unset, .unset, .unset, .unset, .unset, .unset, .unset] [(.int c1)])) t
      refine XS.goto X0.here hx rfl (pc0 := 16) (pc' := 28) rfl (hb hby at_16) (by decide) (by decide) ?_
      exact k
  have ch4 : ∀ t, Steps p.tables e below (s₁.setTop (mkF m 28 #[.val (.int p1), .val (.int p2), .val (.int p3), .val (.int c1), .unset, .unset, .unset, .unset, .unset, .unset, .unset, .unset, .unset, .unset, .unset] [(.int c2)])) t → Steps p.tables e below (s₁.setTop (entryFrame m #[(.int p1), (.int p2), (.int p3)] maxLocals)) t := fun t k => ch1 t (sj2 t k)
  have ch5 : ∀ t, Steps p.tables e below (s₁.setTop (mkF m 38 #[.val (.int p1), .val (.int p2), .val (.int p3), .val (.int c1), .val (.int c2), .val (.int d1), .unset, .unset, .unset, .unset, .unset, .unset, .unset, .unset, .unset] [])) t → Steps p.tables e below (s₁.setTop (entryFrame m #[(.int p1), (.int p2), (.int p3)] maxLocals)) t := fun t k => ch4 t (by
      show Steps p.tables e below (s₁.setTop (mkF m 28 #[.val (.int p1), .val (.int p2), .val (.int p3), .val (.int c1), .unset, .unset, .unset, .unset, .unset, .unset, .unset, .unset, .unset, .unset, .unset] [(.int c2)])) t
      refine XS.istore X0.here hx rfl (hb hby at_28) rfl (l' := #[.val (.int p1), .val (.int p2), .val (.int p3), .val (.int c1), .val (.int c2), .unset, .unset, .unset, .unset, .unset, .unset, .unset, .unset, .unset, .unset]) rfl ?_
      show Steps p.tables e below (s₁.setTop (mkF m 30 #[.val (.int p1), .val (.int p2), .val (.int p3), .val (.int c1), .val (.int c2), .unset, .unset, .unset, .unset, .unset, .unset, .unset, .unset, .unset, .unset] [])) t
      refine XS.iloadN X0.here hx rfl (hb hby at_30) rfl ?_
      show Steps p.tables e below (s₁.setTop (mkF m 31 #[.val (.int p1), .val (.int p2), .val (.int p3), .val (.int c1), .val (.int c2), .unset, .unset, .unset, .unset, .unset, .unset, .unset, .unset, .unset, .unset] [(.int p2)])) t
      refine XS.sipush X0.here hx rfl (hb hby at_31) ?_
      show Steps p.tables e below (s₁.setTop (mkF m 34 #[.val (.int p1), .val (.int p2), .val (.int p3), .val (.int c1), .val (.int c2), .unset, .unset, .unset, .unset, .unset, .unset, .unset, .unset, .unset, .unset] [(.int (255 : Int32)), (.int p2)])) t
      refine XS.iand X0.here hx rfl (hb hby at_34) rfl ?_
      show Steps p.tables e below (s₁.setTop (mkF m 35 #[.val (.int p1), .val (.int p2), .val (.int p3), .val (.int c1), .val (.int c2), .unset, .unset, .unset, .unset, .unset, .unset, .unset, .unset, .unset, .unset] [(.int (p2 &&& (255 : Int32)))])) t
      refine XS.i2c X0.here hx rfl (hb hby at_35) rfl ?_
      rw [hE2]
      show Steps p.tables e below (s₁.setTop (mkF m 36 #[.val (.int p1), .val (.int p2), .val (.int p3), .val (.int c1), .val (.int c2), .unset, .unset, .unset, .unset, .unset, .unset, .unset, .unset, .unset, .unset] [(.int d1)])) t
      refine XS.istore X0.here hx rfl (hb hby at_36) rfl (l' := #[.val (.int p1), .val (.int p2), .val (.int p3), .val (.int c1), .val (.int c2), .val (.int d1), .unset, .unset, .unset, .unset, .unset, .unset, .unset, .unset, .unset]) rfl ?_
      exact k)
  obtain ⟨d2, hx_d2, sj6⟩ : ∃ d2 : Int32, (¬ d2 < 0 ∧ ¬ (255 : Int32) < d2) ∧ ∀ t, Steps p.tables e below (s₁.setTop (mkF m 60 #[.val (.int p1), .val (.int p2), .val (.int p3), .val (.int c1), .val (.int c2), .val (.int d1), .unset, .unset, .unset, .unset, .unset, .unset, .unset, .unset, .unset] [(.int d2)])) t → Steps p.tables e below (s₁.setTop (mkF m 38 #[.val (.int p1), .val (.int p2), .val (.int p3), .val (.int c1), .val (.int c2), .val (.int d1), .unset, .unset, .unset, .unset, .unset, .unset, .unset, .unset, .unset] [])) t := by
    by_cases hq7 : (((p3.toUInt32 >>> ((5 : Int32) &&& 31).toUInt32).toInt32) &&& (1 : Int32)) = (0 : Int32)
    · skip
      refine ⟨((((p2.toUInt32 >>> ((8 : Int32) &&& 31).toUInt32).toInt32) &&& (255 : Int32)).toUInt32.toUInt16.toUInt32.toInt32), own_i2c _, fun t k => ?_⟩
      show Steps p.tables e below (s₁.setTop (mkF m 38 #[.val (.int p1), .val (.int p2), .val (.int p3), .val (.int c1), .val (.int c2), .val (.int d1), .unset, .unset, .unset, .unset, .unset, .unset, .unset, .unset, .unset] [])) t
      refine XS.iloadN X0.here hx rfl (hb hby at_38) rfl ?_
      show Steps p.tables e below (s₁.setTop (mkF m 39 #[.val (.int p1), .val (.int p2), .val (.int p3), .val (.int c1), .val (.int c2), .val (.int d1), .unset, .unset, .unset, .unset, .unset, .unset, .unset, .unset, .unset] [(.int p3)])) t
      refine XS.iconst X0.here hx rfl (hb hby at_39) ?_
      show Steps p.tables e below (s₁.setTop (mkF m 40 #[.val (.int p1), .val (.int p2), .val (.int p3), .val (.int c1), .val (.int c2), .val (.int d1), .unset, .unset, .unset, .unset, .unset, .unset, .unset, .unset, .unset] [(.int (5 : Int32)), (.int p3)])) t
      refine XS.iushr X0.here hx rfl (hb hby at_40) rfl ?_
      show Steps p.tables e below (s₁.setTop (mkF m 41 #[.val (.int p1), .val (.int p2), .val (.int p3), .val (.int c1), .val (.int c2), .val (.int d1), .unset, .unset, .unset, .unset, .unset, .unset, .unset, .unset, .unset] [(.int ((p3.toUInt32 >>> ((5 : Int32) &&& 31).toUInt32).toInt32))])) t
      refine XS.iconst X0.here hx rfl (hb hby at_41) ?_
      show Steps p.tables e below (s₁.setTop (mkF m 42 #[.val (.int p1), .val (.int p2), .val (.int p3), .val (.int c1), .val (.int c2), .val (.int d1), .unset, .unset, .unset, .unset, .unset, .unset, .unset, .unset, .unset] [(.int (1 : Int32)), (.int ((p3.toUInt32 >>> ((5 : Int32) &&& 31).toUInt32).toInt32))])) t
      refine XS.iand X0.here hx rfl (hb hby at_42) rfl ?_
      show Steps p.tables e below (s₁.setTop (mkF m 43 #[.val (.int p1), .val (.int p2), .val (.int p3), .val (.int c1), .val (.int c2), .val (.int d1), .unset, .unset, .unset, .unset, .unset, .unset, .unset, .unset, .unset] [(.int (((p3.toUInt32 >>> ((5 : Int32) &&& 31).toUInt32).toInt32) &&& (1 : Int32)))])) t
      refine XS.ifYes X0.here hx rfl (pc0 := 43) (pc' := 51) rfl (hb hby at_43) rfl ((if0 _ _).trans (teq hq7).1) (by decide) (by decide) ?_
      show Steps p.tables e below (s₁.setTop (mkF m 51 #[.val (.int p1), .val (.int p2), .val (.int p3), .val (.int c1), .val (.int c2), .val (.int d1), .unset, .unset, .unset, .unset, .unset, .unset, .unset, .unset, .unset] [])) t
      refine XS.iloadN X0.here hx rfl (hb hby at_51) rfl ?_
      show Steps p.tables e below (s₁.setTop (mkF m 52 #[.val (.int p1), .val (.int p2), .val (.int p3), .val (.int c1), .val (.int c2), .val (.int d1), .unset, .unset, .unset, .unset, .unset, .unset, .unset, .unset, .unset] [(.int p2)])) t
      refine XS.bipush X0.here hx rfl (hb hby at_52) ?_
      show Steps p.tables e below (s₁.setTop (mkF m 54 #[.val (.int p1), .val (.int p2), .val (.int p3), .val (.int c1), .val (.int c2), .val (.int d1), .unset, .unset, .unset, .unset, .unset, .unset, .unset, .unset, .unset] [(.int (8 : Int32)), (.int p2)])) t
      refine XS.iushr X0.here hx rfl (hb hby at_54) rfl ?_
      show Steps p.tables e below (s₁.setTop (mkF m 55 #[.val (.int p1), .val (.int p2), .val (.int p3), .val (.int c1), .val (.int c2), .val (.int d1), .unset, .unset, .unset, .unset, .unset, .unset, .unset, .unset, .unset] [(.int ((p2.toUInt32 >>> ((8 : Int32) &&& 31).toUInt32).toInt32))])) t
      refine XS.sipush X0.here hx rfl (hb hby at_55) ?_
      show Steps p.tables e below (s₁.setTop (mkF m 58 #[.val (.int p1), .val (.int p2), .val (.int p3), .val (.int c1), .val (.int c2), .val (.int d1), .unset, .unset, .unset, .unset, .unset, .unset, .unset, .unset, .unset] [(.int (255 : Int32)), (.int ((p2.toUInt32 >>> ((8 : Int32) &&& 31).toUInt32).toInt32))])) t
      refine XS.iand X0.here hx rfl (hb hby at_58) rfl ?_
      show Steps p.tables e below (s₁.setTop (mkF m 59 #[.val (.int p1), .val (.int p2), .val (.int p3), .val (.int c1), .val (.int c2), .val (.int d1), .unset, .unset, .unset, .unset, .unset, .unset, .unset, .unset, .unset] [(.int (((p2.toUInt32 >>> ((8 : Int32) &&& 31).toUInt32).toInt32) &&& (255 : Int32)))])) t
      refine XS.i2c X0.here hx rfl (hb hby at_59) rfl ?_
      exact k
    · skip
      refine ⟨d1, hx_d1, fun t k => ?_⟩
      show Steps p.tables e below (s₁.setTop (mkF m 38 #[.val (.int p1), .val (.int p2), .val (.int p3), .val (.int c1), .val (.int c2), .val (.int d1), .unset, .unset, .unset, .unset, .unset, .unset, .unset, .unset, .unset] [])) t
      refine XS.iloadN X0.here hx rfl (hb hby at_38) rfl ?_
      show Steps p.tables e below (s₁.setTop (mkF m 39 #[.val (.int p1), .val (.int p2), .val (.int p3), .val (.int c1), .val (.int c2), .val (.int d1), .unset, .unset, .unset, .unset, .unset, .unset, .unset, .unset, .unset] [(.int p3)])) t
      refine XS.iconst X0.here hx rfl (hb hby at_39) ?_
      show Steps p.tables e below (s₁.setTop (mkF m 40 #[.val (.int p1), .val (.int p2), .val (.int p3), .val (.int c1), .val (.int c2), .val (.int d1), .unset, .unset, .unset, .unset, .unset, .unset, .unset, .unset, .unset] [(.int (5 : Int32)), (.int p3)])) t
      refine XS.iushr X0.here hx rfl (hb hby at_40) rfl ?_
      show Steps p.tables e below (s₁.setTop (mkF m 41 #[.val (.int p1), .val (.int p2), .val (.int p3), .val (.int c1), .val (.int c2), .val (.int d1), .unset, .unset, .unset, .unset, .unset, .unset, .unset, .unset, .unset] [(.int ((p3.toUInt32 >>> ((5 : Int32) &&& 31).toUInt32).toInt32))])) t
      refine XS.iconst X0.here hx rfl (hb hby at_41) ?_
      show Steps p.tables e below (s₁.setTop (mkF m 42 #[.val (.int p1), .val (.int p2), .val (.int p3), .val (.int c1), .val (.int c2), .val (.int d1), .unset, .unset, .unset, .unset, .unset, .unset, .unset, .unset, .unset] [(.int (1 : Int32)), (.int ((p3.toUInt32 >>> ((5 : Int32) &&& 31).toUInt32).toInt32))])) t
      refine XS.iand X0.here hx rfl (hb hby at_42) rfl ?_
      show Steps p.tables e below (s₁.setTop (mkF m 43 #[.val (.int p1), .val (.int p2), .val (.int p3), .val (.int c1), .val (.int c2), .val (.int d1), .unset, .unset, .unset, .unset, .unset, .unset, .unset, .unset, .unset] [(.int (((p3.toUInt32 >>> ((5 : Int32) &&& 31).toUInt32).toInt32) &&& (1 : Int32)))])) t
      refine XS.ifNo X0.here hx rfl (hb hby at_43) rfl ((if0 _ _).trans (feq hq7).1) ?_
      show Steps p.tables e below (s₁.setTop (mkF m 46 #[.val (.int p1), .val (.int p2), .val (.int p3), .val (.int c1), .val (.int c2), .val (.int d1), .unset, .unset, .unset, .unset, .unset, .unset, .unset, .unset, .unset] [])) t
      refine XS.iload X0.here hx rfl (hb hby at_46) rfl ?_
      show Steps p.tables e below (s₁.setTop (mkF m 48 #[.val (.int p1), .val (.int p2), .val (.int p3), .val (.int c1), .val (.int c2), .val (.int d1), .unset, .unset, .unset, .unset, .unset, .unset, .unset, .unset, .unset] [(.int d1)])) t
      refine XS.goto X0.here hx rfl (pc0 := 48) (pc' := 60) rfl (hb hby at_48) (by decide) (by decide) ?_
      exact k
  have ch8 : ∀ t, Steps p.tables e below (s₁.setTop (mkF m 60 #[.val (.int p1), .val (.int p2), .val (.int p3), .val (.int c1), .val (.int c2), .val (.int d1), .unset, .unset, .unset, .unset, .unset, .unset, .unset, .unset, .unset] [(.int d2)])) t → Steps p.tables e below (s₁.setTop (entryFrame m #[(.int p1), (.int p2), (.int p3)] maxLocals)) t := fun t k => ch5 t (sj6 t k)
  have ch9 : ∀ t, Steps p.tables e below (s₁.setTop (mkF m 62 #[.val (.int p1), .val (.int p2), .val (.int p3), .val (.int c1), .val (.int c2), .val (.int d1), .val (.int d2), .unset, .unset, .unset, .unset, .unset, .unset, .unset, .unset] [])) t → Steps p.tables e below (s₁.setTop (entryFrame m #[(.int p1), (.int p2), (.int p3)] maxLocals)) t := fun t k => ch8 t (by
      show Steps p.tables e below (s₁.setTop (mkF m 60 #[.val (.int p1), .val (.int p2), .val (.int p3), .val (.int c1), .val (.int c2), .val (.int d1), .unset, .unset, .unset, .unset, .unset, .unset, .unset, .unset, .unset] [(.int d2)])) t
      refine XS.istore X0.here hx rfl (hb hby at_60) rfl (l' := #[.val (.int p1), .val (.int p2), .val (.int p3), .val (.int c1), .val (.int c2), .val (.int d1), .val (.int d2), .unset, .unset, .unset, .unset, .unset, .unset, .unset, .unset]) rfl ?_
      exact k)
  obtain ⟨x1, hx_x1, sj10⟩ : ∃ x1 : Int32, (x1 = (0 : Int32) ∨ x1 = (1 : Int32)) ∧ ∀ t, Steps p.tables e below (s₁.setTop (mkF m 73 #[.val (.int p1), .val (.int p2), .val (.int p3), .val (.int c1), .val (.int c2), .val (.int d1), .val (.int d2), .unset, .unset, .unset, .unset, .unset, .unset, .unset, .unset] [(.int x1)])) t → Steps p.tables e below (s₁.setTop (mkF m 62 #[.val (.int p1), .val (.int p2), .val (.int p3), .val (.int c1), .val (.int c2), .val (.int d1), .val (.int d2), .unset, .unset, .unset, .unset, .unset, .unset, .unset, .unset] [])) t := by
    by_cases hq11 : (p3 &&& (1 : Int32)) = (0 : Int32)
    · skip
      refine ⟨(0 : Int32), (Or.inl rfl), fun t k => ?_⟩
      show Steps p.tables e below (s₁.setTop (mkF m 62 #[.val (.int p1), .val (.int p2), .val (.int p3), .val (.int c1), .val (.int c2), .val (.int d1), .val (.int d2), .unset, .unset, .unset, .unset, .unset, .unset, .unset, .unset] [])) t
      refine XS.iloadN X0.here hx rfl (hb hby at_62) rfl ?_
      show Steps p.tables e below (s₁.setTop (mkF m 63 #[.val (.int p1), .val (.int p2), .val (.int p3), .val (.int c1), .val (.int c2), .val (.int d1), .val (.int d2), .unset, .unset, .unset, .unset, .unset, .unset, .unset, .unset] [(.int p3)])) t
      refine XS.iconst X0.here hx rfl (hb hby at_63) ?_
      show Steps p.tables e below (s₁.setTop (mkF m 64 #[.val (.int p1), .val (.int p2), .val (.int p3), .val (.int c1), .val (.int c2), .val (.int d1), .val (.int d2), .unset, .unset, .unset, .unset, .unset, .unset, .unset, .unset] [(.int (1 : Int32)), (.int p3)])) t
      refine XS.iand X0.here hx rfl (hb hby at_64) rfl ?_
      show Steps p.tables e below (s₁.setTop (mkF m 65 #[.val (.int p1), .val (.int p2), .val (.int p3), .val (.int c1), .val (.int c2), .val (.int d1), .val (.int d2), .unset, .unset, .unset, .unset, .unset, .unset, .unset, .unset] [(.int (p3 &&& (1 : Int32)))])) t
      refine XS.ifYes X0.here hx rfl (pc0 := 65) (pc' := 72) rfl (hb hby at_65) rfl ((if0 _ _).trans (teq hq11).1) (by decide) (by decide) ?_
      show Steps p.tables e below (s₁.setTop (mkF m 72 #[.val (.int p1), .val (.int p2), .val (.int p3), .val (.int c1), .val (.int c2), .val (.int d1), .val (.int d2), .unset, .unset, .unset, .unset, .unset, .unset, .unset, .unset] [])) t
      refine XS.iconst X0.here hx rfl (hb hby at_72) ?_
      exact k
    · skip
      refine ⟨(1 : Int32), (Or.inr rfl), fun t k => ?_⟩
      show Steps p.tables e below (s₁.setTop (mkF m 62 #[.val (.int p1), .val (.int p2), .val (.int p3), .val (.int c1), .val (.int c2), .val (.int d1), .val (.int d2), .unset, .unset, .unset, .unset, .unset, .unset, .unset, .unset] [])) t
      refine XS.iloadN X0.here hx rfl (hb hby at_62) rfl ?_
      show Steps p.tables e below (s₁.setTop (mkF m 63 #[.val (.int p1), .val (.int p2), .val (.int p3), .val (.int c1), .val (.int c2), .val (.int d1), .val (.int d2), .unset, .unset, .unset, .unset, .unset, .unset, .unset, .unset] [(.int p3)])) t
      refine XS.iconst X0.here hx rfl (hb hby at_63) ?_
      show Steps p.tables e below (s₁.setTop (mkF m 64 #[.val (.int p1), .val (.int p2), .val (.int p3), .val (.int c1), .val (.int c2), .val (.int d1), .val (.int d2), .unset, .unset, .unset, .unset, .unset, .unset, .unset, .unset] [(.int (1 : Int32)), (.int p3)])) t
      refine XS.iand X0.here hx rfl (hb hby at_64) rfl ?_
      show Steps p.tables e below (s₁.setTop (mkF m 65 #[.val (.int p1), .val (.int p2), .val (.int p3), .val (.int c1), .val (.int c2), .val (.int d1), .val (.int d2), .unset, .unset, .unset, .unset, .unset, .unset, .unset, .unset] [(.int (p3 &&& (1 : Int32)))])) t
      refine XS.ifNo X0.here hx rfl (hb hby at_65) rfl ((if0 _ _).trans (feq hq11).1) ?_
      show Steps p.tables e below (s₁.setTop (mkF m 68 #[.val (.int p1), .val (.int p2), .val (.int p3), .val (.int c1), .val (.int c2), .val (.int d1), .val (.int d2), .unset, .unset, .unset, .unset, .unset, .unset, .unset, .unset] [])) t
      refine XS.iconst X0.here hx rfl (hb hby at_68) ?_
      show Steps p.tables e below (s₁.setTop (mkF m 69 #[.val (.int p1), .val (.int p2), .val (.int p3), .val (.int c1), .val (.int c2), .val (.int d1), .val (.int d2), .unset, .unset, .unset, .unset, .unset, .unset, .unset, .unset] [(.int (1 : Int32))])) t
      refine XS.goto X0.here hx rfl (pc0 := 69) (pc' := 73) rfl (hb hby at_69) (by decide) (by decide) ?_
      exact k
  have ch12 : ∀ t, Steps p.tables e below (s₁.setTop (mkF m 73 #[.val (.int p1), .val (.int p2), .val (.int p3), .val (.int c1), .val (.int c2), .val (.int d1), .val (.int d2), .unset, .unset, .unset, .unset, .unset, .unset, .unset, .unset] [(.int x1)])) t → Steps p.tables e below (s₁.setTop (entryFrame m #[(.int p1), (.int p2), (.int p3)] maxLocals)) t := fun t k => ch9 t (sj10 t k)
  have ch13 : ∀ t, Steps p.tables e below (s₁.setTop (mkF m 75 #[.val (.int p1), .val (.int p2), .val (.int p3), .val (.int c1), .val (.int c2), .val (.int d1), .val (.int d2), .val (.int x1), .unset, .unset, .unset, .unset, .unset, .unset, .unset] [])) t → Steps p.tables e below (s₁.setTop (entryFrame m #[(.int p1), (.int p2), (.int p3)] maxLocals)) t := fun t k => ch12 t (by
      show Steps p.tables e below (s₁.setTop (mkF m 73 #[.val (.int p1), .val (.int p2), .val (.int p3), .val (.int c1), .val (.int c2), .val (.int d1), .val (.int d2), .unset, .unset, .unset, .unset, .unset, .unset, .unset, .unset] [(.int x1)])) t
      refine XS.istore X0.here hx rfl (hb hby at_73) rfl (l' := #[.val (.int p1), .val (.int p2), .val (.int p3), .val (.int c1), .val (.int c2), .val (.int d1), .val (.int d2), .val (.int x1), .unset, .unset, .unset, .unset, .unset, .unset, .unset]) rfl ?_
      exact k)
  obtain ⟨y1, hx_y1, sj14⟩ : ∃ y1 : Int32, (y1 = (0 : Int32) ∨ y1 = (1 : Int32)) ∧ ∀ t, Steps p.tables e below (s₁.setTop (mkF m 86 #[.val (.int p1), .val (.int p2), .val (.int p3), .val (.int c1), .val (.int c2), .val (.int d1), .val (.int d2), .val (.int x1), .unset, .unset, .unset, .unset, .unset, .unset, .unset] [(.int y1)])) t → Steps p.tables e below (s₁.setTop (mkF m 75 #[.val (.int p1), .val (.int p2), .val (.int p3), .val (.int c1), .val (.int c2), .val (.int d1), .val (.int d2), .val (.int x1), .unset, .unset, .unset, .unset, .unset, .unset, .unset] [])) t := by
    by_cases hq15 : (p3 &&& (2 : Int32)) = (0 : Int32)
    · skip
      refine ⟨(0 : Int32), (Or.inl rfl), fun t k => ?_⟩
      show Steps p.tables e below (s₁.setTop (mkF m 75 #[.val (.int p1), .val (.int p2), .val (.int p3), .val (.int c1), .val (.int c2), .val (.int d1), .val (.int d2), .val (.int x1), .unset, .unset, .unset, .unset, .unset, .unset, .unset] [])) t
      refine XS.iloadN X0.here hx rfl (hb hby at_75) rfl ?_
      show Steps p.tables e below (s₁.setTop (mkF m 76 #[.val (.int p1), .val (.int p2), .val (.int p3), .val (.int c1), .val (.int c2), .val (.int d1), .val (.int d2), .val (.int x1), .unset, .unset, .unset, .unset, .unset, .unset, .unset] [(.int p3)])) t
      refine XS.iconst X0.here hx rfl (hb hby at_76) ?_
      show Steps p.tables e below (s₁.setTop (mkF m 77 #[.val (.int p1), .val (.int p2), .val (.int p3), .val (.int c1), .val (.int c2), .val (.int d1), .val (.int d2), .val (.int x1), .unset, .unset, .unset, .unset, .unset, .unset, .unset] [(.int (2 : Int32)), (.int p3)])) t
      refine XS.iand X0.here hx rfl (hb hby at_77) rfl ?_
      show Steps p.tables e below (s₁.setTop (mkF m 78 #[.val (.int p1), .val (.int p2), .val (.int p3), .val (.int c1), .val (.int c2), .val (.int d1), .val (.int d2), .val (.int x1), .unset, .unset, .unset, .unset, .unset, .unset, .unset] [(.int (p3 &&& (2 : Int32)))])) t
      refine XS.ifYes X0.here hx rfl (pc0 := 78) (pc' := 85) rfl (hb hby at_78) rfl ((if0 _ _).trans (teq hq15).1) (by decide) (by decide) ?_
      show Steps p.tables e below (s₁.setTop (mkF m 85 #[.val (.int p1), .val (.int p2), .val (.int p3), .val (.int c1), .val (.int c2), .val (.int d1), .val (.int d2), .val (.int x1), .unset, .unset, .unset, .unset, .unset, .unset, .unset] [])) t
      refine XS.iconst X0.here hx rfl (hb hby at_85) ?_
      exact k
    · skip
      refine ⟨(1 : Int32), (Or.inr rfl), fun t k => ?_⟩
      show Steps p.tables e below (s₁.setTop (mkF m 75 #[.val (.int p1), .val (.int p2), .val (.int p3), .val (.int c1), .val (.int c2), .val (.int d1), .val (.int d2), .val (.int x1), .unset, .unset, .unset, .unset, .unset, .unset, .unset] [])) t
      refine XS.iloadN X0.here hx rfl (hb hby at_75) rfl ?_
      show Steps p.tables e below (s₁.setTop (mkF m 76 #[.val (.int p1), .val (.int p2), .val (.int p3), .val (.int c1), .val (.int c2), .val (.int d1), .val (.int d2), .val (.int x1), .unset, .unset, .unset, .unset, .unset, .unset, .unset] [(.int p3)])) t
      refine XS.iconst X0.here hx rfl (hb hby at_76) ?_
      show Steps p.tables e below (s₁.setTop (mkF m 77 #[.val (.int p1), .val (.int p2), .val (.int p3), .val (.int c1), .val (.int c2), .val (.int d1), .val (.int d2), .val (.int x1), .unset, .unset, .unset, .unset, .unset, .unset, .unset] [(.int (2 : Int32)), (.int p3)])) t
      refine XS.iand X0.here hx rfl (hb hby at_77) rfl ?_
      show Steps p.tables e below (s₁.setTop (mkF m 78 #[.val (.int p1), .val (.int p2), .val (.int p3), .val (.int c1), .val (.int c2), .val (.int d1), .val (.int d2), .val (.int x1), .unset, .unset, .unset, .unset, .unset, .unset, .unset] [(.int (p3 &&& (2 : Int32)))])) t
      refine XS.ifNo X0.here hx rfl (hb hby at_78) rfl ((if0 _ _).trans (feq hq15).1) ?_
      show Steps p.tables e below (s₁.setTop (mkF m 81 #[.val (.int p1), .val (.int p2), .val (.int p3), .val (.int c1), .val (.int c2), .val (.int d1), .val (.int d2), .val (.int x1), .unset, .unset, .unset, .unset, .unset, .unset, .unset] [])) t
      refine XS.iconst X0.here hx rfl (hb hby at_81) ?_
      show Steps p.tables e below (s₁.setTop (mkF m 82 #[.val (.int p1), .val (.int p2), .val (.int p3), .val (.int c1), .val (.int c2), .val (.int d1), .val (.int d2), .val (.int x1), .unset, .unset, .unset, .unset, .unset, .unset, .unset] [(.int (1 : Int32))])) t
      refine XS.goto X0.here hx rfl (pc0 := 82) (pc' := 86) rfl (hb hby at_82) (by decide) (by decide) ?_
      exact k
  have ch16 : ∀ t, Steps p.tables e below (s₁.setTop (mkF m 86 #[.val (.int p1), .val (.int p2), .val (.int p3), .val (.int c1), .val (.int c2), .val (.int d1), .val (.int d2), .val (.int x1), .unset, .unset, .unset, .unset, .unset, .unset, .unset] [(.int y1)])) t → Steps p.tables e below (s₁.setTop (entryFrame m #[(.int p1), (.int p2), (.int p3)] maxLocals)) t := fun t k => ch13 t (sj14 t k)
  have ch17 : ∀ t, Steps p.tables e below (s₁.setTop (mkF m 88 #[.val (.int p1), .val (.int p2), .val (.int p3), .val (.int c1), .val (.int c2), .val (.int d1), .val (.int d2), .val (.int x1), .val (.int y1), .unset, .unset, .unset, .unset, .unset, .unset] [])) t → Steps p.tables e below (s₁.setTop (entryFrame m #[(.int p1), (.int p2), (.int p3)] maxLocals)) t := fun t k => ch16 t (by
      show Steps p.tables e below (s₁.setTop (mkF m 86 #[.val (.int p1), .val (.int p2), .val (.int p3), .val (.int c1), .val (.int c2), .val (.int d1), .val (.int d2), .val (.int x1), .unset, .unset, .unset, .unset, .unset, .unset, .unset] [(.int y1)])) t
      refine XS.istore X0.here hx rfl (hb hby at_86) rfl (l' := #[.val (.int p1), .val (.int p2), .val (.int p3), .val (.int c1), .val (.int c2), .val (.int d1), .val (.int d2), .val (.int x1), .val (.int y1), .unset, .unset, .unset, .unset, .unset, .unset]) rfl ?_
      exact k)
  obtain ⟨x2, hx_x2, sj18⟩ : ∃ x2 : Int32, (x2 = (0 : Int32) ∨ x2 = (1 : Int32)) ∧ ∀ t, Steps p.tables e below (s₁.setTop (mkF m 99 #[.val (.int p1), .val (.int p2), .val (.int p3), .val (.int c1), .val (.int c2), .val (.int d1), .val (.int d2), .val (.int x1), .val (.int y1), .unset, .unset, .unset, .unset, .unset, .unset] [(.int x2)])) t → Steps p.tables e below (s₁.setTop (mkF m 88 #[.val (.int p1), .val (.int p2), .val (.int p3), .val (.int c1), .val (.int c2), .val (.int d1), .val (.int d2), .val (.int x1), .val (.int y1), .unset, .unset, .unset, .unset, .unset, .unset] [])) t := by
    by_cases hq19 : (p3 &&& (4 : Int32)) = (0 : Int32)
    · skip
      refine ⟨(0 : Int32), (Or.inl rfl), fun t k => ?_⟩
      show Steps p.tables e below (s₁.setTop (mkF m 88 #[.val (.int p1), .val (.int p2), .val (.int p3), .val (.int c1), .val (.int c2), .val (.int d1), .val (.int d2), .val (.int x1), .val (.int y1), .unset, .unset, .unset, .unset, .unset, .unset] [])) t
      refine XS.iloadN X0.here hx rfl (hb hby at_88) rfl ?_
      show Steps p.tables e below (s₁.setTop (mkF m 89 #[.val (.int p1), .val (.int p2), .val (.int p3), .val (.int c1), .val (.int c2), .val (.int d1), .val (.int d2), .val (.int x1), .val (.int y1), .unset, .unset, .unset, .unset, .unset, .unset] [(.int p3)])) t
      refine XS.iconst X0.here hx rfl (hb hby at_89) ?_
      show Steps p.tables e below (s₁.setTop (mkF m 90 #[.val (.int p1), .val (.int p2), .val (.int p3), .val (.int c1), .val (.int c2), .val (.int d1), .val (.int d2), .val (.int x1), .val (.int y1), .unset, .unset, .unset, .unset, .unset, .unset] [(.int (4 : Int32)), (.int p3)])) t
      refine XS.iand X0.here hx rfl (hb hby at_90) rfl ?_
      show Steps p.tables e below (s₁.setTop (mkF m 91 #[.val (.int p1), .val (.int p2), .val (.int p3), .val (.int c1), .val (.int c2), .val (.int d1), .val (.int d2), .val (.int x1), .val (.int y1), .unset, .unset, .unset, .unset, .unset, .unset] [(.int (p3 &&& (4 : Int32)))])) t
      refine XS.ifYes X0.here hx rfl (pc0 := 91) (pc' := 98) rfl (hb hby at_91) rfl ((if0 _ _).trans (teq hq19).1) (by decide) (by decide) ?_
      show Steps p.tables e below (s₁.setTop (mkF m 98 #[.val (.int p1), .val (.int p2), .val (.int p3), .val (.int c1), .val (.int c2), .val (.int d1), .val (.int d2), .val (.int x1), .val (.int y1), .unset, .unset, .unset, .unset, .unset, .unset] [])) t
      refine XS.iconst X0.here hx rfl (hb hby at_98) ?_
      exact k
    · skip
      refine ⟨(1 : Int32), (Or.inr rfl), fun t k => ?_⟩
      show Steps p.tables e below (s₁.setTop (mkF m 88 #[.val (.int p1), .val (.int p2), .val (.int p3), .val (.int c1), .val (.int c2), .val (.int d1), .val (.int d2), .val (.int x1), .val (.int y1), .unset, .unset, .unset, .unset, .unset, .unset] [])) t
      refine XS.iloadN X0.here hx rfl (hb hby at_88) rfl ?_
      show Steps p.tables e below (s₁.setTop (mkF m 89 #[.val (.int p1), .val (.int p2), .val (.int p3), .val (.int c1), .val (.int c2), .val (.int d1), .val (.int d2), .val (.int x1), .val (.int y1), .unset, .unset, .unset, .unset, .unset, .unset] [(.int p3)])) t
      refine XS.iconst X0.here hx rfl (hb hby at_89) ?_
      show Steps p.tables e below (s₁.setTop (mkF m 90 #[.val (.int p1), .val (.int p2), .val (.int p3), .val (.int c1), .val (.int c2), .val (.int d1), .val (.int d2), .val (.int x1), .val (.int y1), .unset, .unset, .unset, .unset, .unset, .unset] [(.int (4 : Int32)), (.int p3)])) t
      refine XS.iand X0.here hx rfl (hb hby at_90) rfl ?_
      show Steps p.tables e below (s₁.setTop (mkF m 91 #[.val (.int p1), .val (.int p2), .val (.int p3), .val (.int c1), .val (.int c2), .val (.int d1), .val (.int d2), .val (.int x1), .val (.int y1), .unset, .unset, .unset, .unset, .unset, .unset] [(.int (p3 &&& (4 : Int32)))])) t
      refine XS.ifNo X0.here hx rfl (hb hby at_91) rfl ((if0 _ _).trans (feq hq19).1) ?_
      show Steps p.tables e below (s₁.setTop (mkF m 94 #[.val (.int p1), .val (.int p2), .val (.int p3), .val (.int c1), .val (.int c2), .val (.int d1), .val (.int d2), .val (.int x1), .val (.int y1), .unset, .unset, .unset, .unset, .unset, .unset] [])) t
      refine XS.iconst X0.here hx rfl (hb hby at_94) ?_
      show Steps p.tables e below (s₁.setTop (mkF m 95 #[.val (.int p1), .val (.int p2), .val (.int p3), .val (.int c1), .val (.int c2), .val (.int d1), .val (.int d2), .val (.int x1), .val (.int y1), .unset, .unset, .unset, .unset, .unset, .unset] [(.int (1 : Int32))])) t
      refine XS.goto X0.here hx rfl (pc0 := 95) (pc' := 99) rfl (hb hby at_95) (by decide) (by decide) ?_
      exact k
  have ch20 : ∀ t, Steps p.tables e below (s₁.setTop (mkF m 99 #[.val (.int p1), .val (.int p2), .val (.int p3), .val (.int c1), .val (.int c2), .val (.int d1), .val (.int d2), .val (.int x1), .val (.int y1), .unset, .unset, .unset, .unset, .unset, .unset] [(.int x2)])) t → Steps p.tables e below (s₁.setTop (entryFrame m #[(.int p1), (.int p2), (.int p3)] maxLocals)) t := fun t k => ch17 t (sj18 t k)
  have ch21 : ∀ t, Steps p.tables e below (s₁.setTop (mkF m 101 #[.val (.int p1), .val (.int p2), .val (.int p3), .val (.int c1), .val (.int c2), .val (.int d1), .val (.int d2), .val (.int x1), .val (.int y1), .val (.int x2), .unset, .unset, .unset, .unset, .unset] [])) t → Steps p.tables e below (s₁.setTop (entryFrame m #[(.int p1), (.int p2), (.int p3)] maxLocals)) t := fun t k => ch20 t (by
      show Steps p.tables e below (s₁.setTop (mkF m 99 #[.val (.int p1), .val (.int p2), .val (.int p3), .val (.int c1), .val (.int c2), .val (.int d1), .val (.int d2), .val (.int x1), .val (.int y1), .unset, .unset, .unset, .unset, .unset, .unset] [(.int x2)])) t
      refine XS.istore X0.here hx rfl (hb hby at_99) rfl (l' := #[.val (.int p1), .val (.int p2), .val (.int p3), .val (.int c1), .val (.int c2), .val (.int d1), .val (.int d2), .val (.int x1), .val (.int y1), .val (.int x2), .unset, .unset, .unset, .unset, .unset]) rfl ?_
      exact k)
  obtain ⟨y2, hx_y2, sj22⟩ : ∃ y2 : Int32, (y2 = (0 : Int32) ∨ y2 = (1 : Int32)) ∧ ∀ t, Steps p.tables e below (s₁.setTop (mkF m 113 #[.val (.int p1), .val (.int p2), .val (.int p3), .val (.int c1), .val (.int c2), .val (.int d1), .val (.int d2), .val (.int x1), .val (.int y1), .val (.int x2), .unset, .unset, .unset, .unset, .unset] [(.int y2)])) t → Steps p.tables e below (s₁.setTop (mkF m 101 #[.val (.int p1), .val (.int p2), .val (.int p3), .val (.int c1), .val (.int c2), .val (.int d1), .val (.int d2), .val (.int x1), .val (.int y1), .val (.int x2), .unset, .unset, .unset, .unset, .unset] [])) t := by
    by_cases hq23 : (p3 &&& (8 : Int32)) = (0 : Int32)
    · skip
      refine ⟨(0 : Int32), (Or.inl rfl), fun t k => ?_⟩
      show Steps p.tables e below (s₁.setTop (mkF m 101 #[.val (.int p1), .val (.int p2), .val (.int p3), .val (.int c1), .val (.int c2), .val (.int d1), .val (.int d2), .val (.int x1), .val (.int y1), .val (.int x2), .unset, .unset, .unset, .unset, .unset] [])) t
      refine XS.iloadN X0.here hx rfl (hb hby at_101) rfl ?_
      show Steps p.tables e below (s₁.setTop (mkF m 102 #[.val (.int p1), .val (.int p2), .val (.int p3), .val (.int c1), .val (.int c2), .val (.int d1), .val (.int d2), .val (.int x1), .val (.int y1), .val (.int x2), .unset, .unset, .unset, .unset, .unset] [(.int p3)])) t
      refine XS.bipush X0.here hx rfl (hb hby at_102) ?_
      show Steps p.tables e below (s₁.setTop (mkF m 104 #[.val (.int p1), .val (.int p2), .val (.int p3), .val (.int c1), .val (.int c2), .val (.int d1), .val (.int d2), .val (.int x1), .val (.int y1), .val (.int x2), .unset, .unset, .unset, .unset, .unset] [(.int (8 : Int32)), (.int p3)])) t
      refine XS.iand X0.here hx rfl (hb hby at_104) rfl ?_
      show Steps p.tables e below (s₁.setTop (mkF m 105 #[.val (.int p1), .val (.int p2), .val (.int p3), .val (.int c1), .val (.int c2), .val (.int d1), .val (.int d2), .val (.int x1), .val (.int y1), .val (.int x2), .unset, .unset, .unset, .unset, .unset] [(.int (p3 &&& (8 : Int32)))])) t
      refine XS.ifYes X0.here hx rfl (pc0 := 105) (pc' := 112) rfl (hb hby at_105) rfl ((if0 _ _).trans (teq hq23).1) (by decide) (by decide) ?_
      show Steps p.tables e below (s₁.setTop (mkF m 112 #[.val (.int p1), .val (.int p2), .val (.int p3), .val (.int c1), .val (.int c2), .val (.int d1), .val (.int d2), .val (.int x1), .val (.int y1), .val (.int x2), .unset, .unset, .unset, .unset, .unset] [])) t
      refine XS.iconst X0.here hx rfl (hb hby at_112) ?_
      exact k
    · skip
      refine ⟨(1 : Int32), (Or.inr rfl), fun t k => ?_⟩
      show Steps p.tables e below (s₁.setTop (mkF m 101 #[.val (.int p1), .val (.int p2), .val (.int p3), .val (.int c1), .val (.int c2), .val (.int d1), .val (.int d2), .val (.int x1), .val (.int y1), .val (.int x2), .unset, .unset, .unset, .unset, .unset] [])) t
      refine XS.iloadN X0.here hx rfl (hb hby at_101) rfl ?_
      show Steps p.tables e below (s₁.setTop (mkF m 102 #[.val (.int p1), .val (.int p2), .val (.int p3), .val (.int c1), .val (.int c2), .val (.int d1), .val (.int d2), .val (.int x1), .val (.int y1), .val (.int x2), .unset, .unset, .unset, .unset, .unset] [(.int p3)])) t
      refine XS.bipush X0.here hx rfl (hb hby at_102) ?_
      show Steps p.tables e below (s₁.setTop (mkF m 104 #[.val (.int p1), .val (.int p2), .val (.int p3), .val (.int c1), .val (.int c2), .val (.int d1), .val (.int d2), .val (.int x1), .val (.int y1), .val (.int x2), .unset, .unset, .unset, .unset, .unset] [(.int (8 : Int32)), (.int p3)])) t
      refine XS.iand X0.here hx rfl (hb hby at_104) rfl ?_
      show Steps p.tables e below (s₁.setTop (mkF m 105 #[.val (.int p1), .val (.int p2), .val (.int p3), .val (.int c1), .val (.int c2), .val (.int d1), .val (.int d2), .val (.int x1), .val (.int y1), .val (.int x2), .unset, .unset, .unset, .unset, .unset] [(.int (p3 &&& (8 : Int32)))])) t
      refine XS.ifNo X0.here hx rfl (hb hby at_105) rfl ((if0 _ _).trans (feq hq23).1) ?_
      show Steps p.tables e below (s₁.setTop (mkF m 108 #[.val (.int p1), .val (.int p2), .val (.int p3), .val (.int c1), .val (.int c2), .val (.int d1), .val (.int d2), .val (.int x1), .val (.int y1), .val (.int x2), .unset, .unset, .unset, .unset, .unset] [])) t
      refine XS.iconst X0.here hx rfl (hb hby at_108) ?_
      show Steps p.tables e below (s₁.setTop (mkF m 109 #[.val (.int p1), .val (.int p2), .val (.int p3), .val (.int c1), .val (.int c2), .val (.int d1), .val (.int d2), .val (.int x1), .val (.int y1), .val (.int x2), .unset, .unset, .unset, .unset, .unset] [(.int (1 : Int32))])) t
      refine XS.goto X0.here hx rfl (pc0 := 109) (pc' := 113) rfl (hb hby at_109) (by decide) (by decide) ?_
      exact k
  have ch24 : ∀ t, Steps p.tables e below (s₁.setTop (mkF m 113 #[.val (.int p1), .val (.int p2), .val (.int p3), .val (.int c1), .val (.int c2), .val (.int d1), .val (.int d2), .val (.int x1), .val (.int y1), .val (.int x2), .unset, .unset, .unset, .unset, .unset] [(.int y2)])) t → Steps p.tables e below (s₁.setTop (entryFrame m #[(.int p1), (.int p2), (.int p3)] maxLocals)) t := fun t k => ch21 t (sj22 t k)
  obtain ⟨T25, hp25, X25, e25, E25, A25, D25, -, st25⟩ := newO X0 hx hZ hown (hw _ (List.mem_of_getElem? (i := 0) rfl)) (hw _ (List.mem_of_getElem? (i := 1) rfl)) (hw _ (List.mem_of_getElem? (i := 2) rfl)) e0 (g := (mkF m 123 #[.val (.int p1), .val (.int p2), .val (.int p3), .val (.int c1), .val (.int c2), .val (.int d1), .val (.int d2), .val (.int x1), .val (.int y1), .val (.int x2), .val (.int y2), .val (.int (0 : Int32)), .unset, .unset, .unset] [])) rfl (hb hby at_123) (by decide) (by decide)
  obtain ⟨b25, g25⟩ : ∃ z, z = h0.size := ⟨_, rfl⟩
  rw [← g25] at A25 D25 st25
  have g_b25 : n0 ≤ b25 := Nat.le_trans (Nat.le_trans Z0 (Keep.refl h0 []).1) (Nat.le_of_eq g25.symm)
  have sz_b25 : h0.size ≤ b25 := Nat.le_trans (Keep.refl h0 []).1 (Nat.le_of_eq g25.symm)
  have hk := Nat.le_trans hk E25.1
  have Kp25 := Keep.ext (Keep.refl h0 []) E25
  have F25_46 : Fld Z hp25 b25 "com/example/nokkel/nokkel/core/ClientRecord" "owner" "Ljava/lang/String;" .null := D25 (Or.inr (hw _ (List.mem_of_getElem? (i := 46) rfl))) (ty := (.object "java/lang/String")) (by decide)
  have F25_49 : Fld Z hp25 b25 "com/example/nokkel/nokkel/core/ClientRecord" "verifier" "Ljava/lang/String;" .null := D25 (Or.inr (hw _ (List.mem_of_getElem? (i := 49) rfl))) (ty := (.object "java/lang/String")) (by decide)
  have F25_51 : Fld Z hp25 b25 "com/example/nokkel/nokkel/core/ClientRecord" "locksRevoked" "Z" (.int (0 : Int32)) := D25 (Or.inr (hw _ (List.mem_of_getElem? (i := 51) rfl))) (ty := .boolean) (by decide)
  have F25_53 : Fld Z hp25 b25 "com/example/nokkel/nokkel/core/ClientRecord" "graceMissed" "Z" (.int (0 : Int32)) := D25 (Or.inr (hw _ (List.mem_of_getElem? (i := 53) rfl))) (ty := .boolean) (by decide)
  have ch26 : ∀ t, Steps p.tables e below (T25.setTop (mkF m 126 #[.val (.int p1), .val (.int p2), .val (.int p3), .val (.int c1), .val (.int c2), .val (.int d1), .val (.int d2), .val (.int x1), .val (.int y1), .val (.int x2), .val (.int y2), .val (.int (0 : Int32)), .unset, .unset, .unset] [(.ref b25)])) t → Steps p.tables e below (s₁.setTop (entryFrame m #[(.int p1), (.int p2), (.int p3)] maxLocals)) t := fun t k => ch24 t (by
      show Steps p.tables e below (s₁.setTop (mkF m 113 #[.val (.int p1), .val (.int p2), .val (.int p3), .val (.int c1), .val (.int c2), .val (.int d1), .val (.int d2), .val (.int x1), .val (.int y1), .val (.int x2), .unset, .unset, .unset, .unset, .unset] [(.int y2)])) t
      refine XS.istore X0.here hx rfl (hb hby at_113) rfl (l' := #[.val (.int p1), .val (.int p2), .val (.int p3), .val (.int c1), .val (.int c2), .val (.int d1), .val (.int d2), .val (.int x1), .val (.int y1), .val (.int x2), .val (.int y2), .unset, .unset, .unset, .unset]) rfl ?_
      show Steps p.tables e below (s₁.setTop (mkF m 115 #[.val (.int p1), .val (.int p2), .val (.int p3), .val (.int c1), .val (.int c2), .val (.int d1), .val (.int d2), .val (.int x1), .val (.int y1), .val (.int x2), .val (.int y2), .unset, .unset, .unset, .unset] [])) t
      refine XS.iloadN X0.here hx rfl (hb hby at_115) rfl ?_
      show Steps p.tables e below (s₁.setTop (mkF m 116 #[.val (.int p1), .val (.int p2), .val (.int p3), .val (.int c1), .val (.int c2), .val (.int d1), .val (.int d2), .val (.int x1), .val (.int y1), .val (.int x2), .val (.int y2), .unset, .unset, .unset, .unset] [(.int p3)])) t
      refine XS.bipush X0.here hx rfl (hb hby at_116) ?_
      show Steps p.tables e below (s₁.setTop (mkF m 118 #[.val (.int p1), .val (.int p2), .val (.int p3), .val (.int c1), .val (.int c2), .val (.int d1), .val (.int d2), .val (.int x1), .val (.int y1), .val (.int x2), .val (.int y2), .unset, .unset, .unset, .unset] [(.int (6 : Int32)), (.int p3)])) t
      refine XS.iushr X0.here hx rfl (hb hby at_118) rfl ?_
      show Steps p.tables e below (s₁.setTop (mkF m 119 #[.val (.int p1), .val (.int p2), .val (.int p3), .val (.int c1), .val (.int c2), .val (.int d1), .val (.int d2), .val (.int x1), .val (.int y1), .val (.int x2), .val (.int y2), .unset, .unset, .unset, .unset] [(.int ((p3.toUInt32 >>> ((6 : Int32) &&& 31).toUInt32).toInt32))])) t
      refine XS.iconst X0.here hx rfl (hb hby at_119) ?_
      show Steps p.tables e below (s₁.setTop (mkF m 120 #[.val (.int p1), .val (.int p2), .val (.int p3), .val (.int c1), .val (.int c2), .val (.int d1), .val (.int d2), .val (.int x1), .val (.int y1), .val (.int x2), .val (.int y2), .unset, .unset, .unset, .unset] [(.int (3 : Int32)), (.int ((p3.toUInt32 >>> ((6 : Int32) &&& 31).toUInt32).toInt32))])) t
      refine XS.iand X0.here hx rfl (hb hby at_120) rfl ?_
      rw [hKk]
      show Steps p.tables e below (s₁.setTop (mkF m 121 #[.val (.int p1), .val (.int p2), .val (.int p3), .val (.int c1), .val (.int c2), .val (.int d1), .val (.int d2), .val (.int x1), .val (.int y1), .val (.int x2), .val (.int y2), .unset, .unset, .unset, .unset] [(.int (0 : Int32))])) t
      refine XS.istore X0.here hx rfl (hb hby at_121) rfl (l' := #[.val (.int p1), .val (.int p2), .val (.int p3), .val (.int c1), .val (.int c2), .val (.int d1), .val (.int d2), .val (.int x1), .val (.int y1), .val (.int x2), .val (.int y2), .val (.int (0 : Int32)), .unset, .unset, .unset]) rfl ?_
      show Steps p.tables e below (s₁.setTop (mkF m 123 #[.val (.int p1), .val (.int p2), .val (.int p3), .val (.int c1), .val (.int c2), .val (.int d1), .val (.int d2), .val (.int x1), .val (.int y1), .val (.int x2), .val (.int y2), .val (.int (0 : Int32)), .unset, .unset, .unset] [])) t
      exact st25 t k)
  obtain ⟨T27, hp27, X27, e27, E27, A27, D27, -, st27⟩ := newO X25 hx hZ hown (hw _ (List.mem_of_getElem? (i := 3) rfl)) (hw _ (List.mem_of_getElem? (i := 4) rfl)) (hw _ (List.mem_of_getElem? (i := 5) rfl)) e25 (g := (mkF m 127 #[.val (.int p1), .val (.int p2), .val (.int p3), .val (.int c1), .val (.int c2), .val (.int d1), .val (.int d2), .val (.int x1), .val (.int y1), .val (.int x2), .val (.int y2), .val (.int (0 : Int32)), .unset, .unset, .unset] [(.ref b25), (.ref b25)])) rfl (hb hby at_127) (by decide) (by decide)
  obtain ⟨b27, g27⟩ : ∃ z, z = hp25.size := ⟨_, rfl⟩
  rw [← g27] at A27 D27 st27
  have ne_b25_b27 : b25 ≠ b27 := Nat.ne_of_lt (Nat.lt_of_lt_of_le A25.lt (Nat.le_of_eq g27.symm))
  have g_b27 : n0 ≤ b27 := Nat.le_trans (Nat.le_trans Z0 Kp25.1) (Nat.le_of_eq g27.symm)
  have sz_b27 : h0.size ≤ b27 := Nat.le_trans Kp25.1 (Nat.le_of_eq g27.symm)
  have hk := Nat.le_trans hk E27.1
  have Kp27 := Keep.ext Kp25 E27
  have F27_30 : Fld Z hp27 b27 "java/lang/String" "coder" "B" (.int (0 : Int32)) := D27 (Or.inr (hw _ (List.mem_of_getElem? (i := 30) rfl))) (ty := .byte) (by decide)
  have F27_32 : Fld Z hp27 b27 "java/lang/String" "value" "[B" .null := D27 (Or.inr (hw _ (List.mem_of_getElem? (i := 32) rfl))) (ty := (.array .byte)) (by decide)
  have ch28 : ∀ t, Steps p.tables e below (T27.setTop (mkF m 130 #[.val (.int p1), .val (.int p2), .val (.int p3), .val (.int c1), .val (.int c2), .val (.int d1), .val (.int d2), .val (.int x1), .val (.int y1), .val (.int x2), .val (.int y2), .val (.int (0 : Int32)), .unset, .unset, .unset] [(.ref b27), (.ref b25), (.ref b25)])) t → Steps p.tables e below (s₁.setTop (entryFrame m #[(.int p1), (.int p2), (.int p3)] maxLocals)) t := fun t k => ch26 t (by
      show Steps p.tables e below (T25.setTop (mkF m 126 #[.val (.int p1), .val (.int p2), .val (.int p3), .val (.int c1), .val (.int c2), .val (.int d1), .val (.int d2), .val (.int x1), .val (.int y1), .val (.int x2), .val (.int y2), .val (.int (0 : Int32)), .unset, .unset, .unset] [(.ref b25)])) t
      refine XS.dup X25.here hx rfl (hb hby at_126) rfl rfl ?_
      show Steps p.tables e below (T25.setTop (mkF m 127 #[.val (.int p1), .val (.int p2), .val (.int p3), .val (.int c1), .val (.int c2), .val (.int d1), .val (.int d2), .val (.int x1), .val (.int y1), .val (.int x2), .val (.int y2), .val (.int (0 : Int32)), .unset, .unset, .unset] [(.ref b25), (.ref b25)])) t
      exact st27 t k)
  obtain ⟨T29, hp29, k29, X29, e29, E29, A29, st29⟩ := newP X27 hx hZ (hw _ (List.mem_of_getElem? (i := 6) rfl)) e27 (g := (mkF m 132 #[.val (.int p1), .val (.int p2), .val (.int p3), .val (.int c1), .val (.int c2), .val (.int d1), .val (.int d2), .val (.int x1), .val (.int y1), .val (.int x2), .val (.int y2), .val (.int (0 : Int32)), .unset, .unset, .unset] [(.int (1 : Int32)), (.ref b27), (.ref b27), (.ref b25), (.ref b25)])) rfl (hb hby at_132) rfl (by decide) (cap := 1) (by decide) (by decide) (by decide) (by decide)
  obtain ⟨b29, g29⟩ : ∃ z, z = hp27.size := ⟨_, rfl⟩
  rw [← g29] at A29 st29
  have cf30 := (A25.ext E27)
  have ne_b25_b29 : b25 ≠ b29 := Nat.ne_of_lt (Nat.lt_of_lt_of_le cf30.lt (Nat.le_of_eq g29.symm))
  have ne_b27_b29 : b27 ≠ b29 := Nat.ne_of_lt (Nat.lt_of_lt_of_le A27.lt (Nat.le_of_eq g29.symm))
  have g_b29 : n0 ≤ b29 := Nat.le_trans (Nat.le_trans Z0 Kp27.1) (Nat.le_of_eq g29.symm)
  have sz_b29 : h0.size ≤ b29 := Nat.le_trans Kp27.1 (Nat.le_of_eq g29.symm)
  have hk := Nat.le_trans hk E29.1
  have Kp29 := Keep.ext Kp27 E29
  have V29 : Arv Z hp29 b29 k29 .char (1 : Int32) [(.int (0 : Int32))] (.int (0 : Int32)) := (Arv.new A29 (by decide)).pad (pad_rep [] (.int (0 : Int32)) 1)
  have ch31 : ∀ t, Steps p.tables e below (T29.setTop (mkF m 134 #[.val (.int p1), .val (.int p2), .val (.int p3), .val (.int c1), .val (.int c2), .val (.int d1), .val (.int d2), .val (.int x1), .val (.int y1), .val (.int x2), .val (.int y2), .val (.int (0 : Int32)), .unset, .unset, .unset] [(.ref b29), (.ref b27), (.ref b27), (.ref b25), (.ref b25)])) t → Steps p.tables e below (s₁.setTop (entryFrame m #[(.int p1), (.int p2), (.int p3)] maxLocals)) t := fun t k => ch28 t (by
      show Steps p.tables e below (T27.setTop (mkF m 130 #[.val (.int p1), .val (.int p2), .val (.int p3), .val (.int c1), .val (.int c2), .val (.int d1), .val (.int d2), .val (.int x1), .val (.int y1), .val (.int x2), .val (.int y2), .val (.int (0 : Int32)), .unset, .unset, .unset] [(.ref b27), (.ref b25), (.ref b25)])) t
      refine XS.dup X27.here hx rfl (hb hby at_130) rfl rfl ?_
      show Steps p.tables e below (T27.setTop (mkF m 131 #[.val (.int p1), .val (.int p2), .val (.int p3), .val (.int c1), .val (.int c2), .val (.int d1), .val (.int d2), .val (.int x1), .val (.int y1), .val (.int x2), .val (.int y2), .val (.int (0 : Int32)), .unset, .unset, .unset] [(.ref b27), (.ref b27), (.ref b25), (.ref b25)])) t
      refine XS.iconst X27.here hx rfl (hb hby at_131) ?_
      show Steps p.tables e below (T27.setTop (mkF m 132 #[.val (.int p1), .val (.int p2), .val (.int p3), .val (.int c1), .val (.int c2), .val (.int d1), .val (.int d2), .val (.int x1), .val (.int y1), .val (.int x2), .val (.int y2), .val (.int (0 : Int32)), .unset, .unset, .unset] [(.int (1 : Int32)), (.ref b27), (.ref b27), (.ref b25), (.ref b25)])) t
      exact st29 t k)
  obtain ⟨cl32, Ar32, qq32, Sz32, Ng32, Ha32, Ga32⟩ := id V29
  have hin32 : ¬ ((0 : Int32) < 0 ∨ cl32.slots.size ≤ ((0 : Int32)).toNatClampNeg) := inb_of Sz32 (by decide)
  obtain ⟨T33, hp33, X33, e33, W33, st33⟩ := stC X29 hx hZ e29 Ar32 (j := (0 : Int32)) hin32 (g := (mkF m 137 #[.val (.int p1), .val (.int p2), .val (.int p3), .val (.int c1), .val (.int c2), .val (.int d1), .val (.int d2), .val (.int x1), .val (.int y1), .val (.int x2), .val (.int y2), .val (.int (0 : Int32)), .unset, .unset, .unset] [(.int c1), (.int (0 : Int32)), (.ref b29), (.ref b29), (.ref b27), (.ref b27), (.ref b25), (.ref b25)])) rfl rfl (hb hby at_137)
  have ch34 : ∀ t, Steps p.tables e below (T33.setTop (mkF m 138 #[.val (.int p1), .val (.int p2), .val (.int p3), .val (.int c1), .val (.int c2), .val (.int d1), .val (.int d2), .val (.int x1), .val (.int y1), .val (.int x2), .val (.int y2), .val (.int (0 : Int32)), .unset, .unset, .unset] [(.ref b29), (.ref b27), (.ref b27), (.ref b25), (.ref b25)])) t → Steps p.tables e below (s₁.setTop (entryFrame m #[(.int p1), (.int p2), (.int p3)] maxLocals)) t := fun t k => ch31 t (by
      show Steps p.tables e below (T29.setTop (mkF m 134 #[.val (.int p1), .val (.int p2), .val (.int p3), .val (.int c1), .val (.int c2), .val (.int d1), .val (.int d2), .val (.int x1), .val (.int y1), .val (.int x2), .val (.int y2), .val (.int (0 : Int32)), .unset, .unset, .unset] [(.ref b29), (.ref b27), (.ref b27), (.ref b25), (.ref b25)])) t
      refine XS.dup X29.here hx rfl (hb hby at_134) rfl rfl ?_
      show Steps p.tables e below (T29.setTop (mkF m 135 #[.val (.int p1), .val (.int p2), .val (.int p3), .val (.int c1), .val (.int c2), .val (.int d1), .val (.int d2), .val (.int x1), .val (.int y1), .val (.int x2), .val (.int y2), .val (.int (0 : Int32)), .unset, .unset, .unset] [(.ref b29), (.ref b29), (.ref b27), (.ref b27), (.ref b25), (.ref b25)])) t
      refine XS.iconst X29.here hx rfl (hb hby at_135) ?_
      show Steps p.tables e below (T29.setTop (mkF m 136 #[.val (.int p1), .val (.int p2), .val (.int p3), .val (.int c1), .val (.int c2), .val (.int d1), .val (.int d2), .val (.int x1), .val (.int y1), .val (.int x2), .val (.int y2), .val (.int (0 : Int32)), .unset, .unset, .unset] [(.int (0 : Int32)), (.ref b29), (.ref b29), (.ref b27), (.ref b27), (.ref b25), (.ref b25)])) t
      refine XS.iloadN X29.here hx rfl (hb hby at_136) rfl ?_
      show Steps p.tables e below (T29.setTop (mkF m 137 #[.val (.int p1), .val (.int p2), .val (.int p3), .val (.int c1), .val (.int c2), .val (.int d1), .val (.int d2), .val (.int x1), .val (.int y1), .val (.int x2), .val (.int y2), .val (.int (0 : Int32)), .unset, .unset, .unset] [(.int c1), (.int (0 : Int32)), (.ref b29), (.ref b29), (.ref b27), (.ref b27), (.ref b25), (.ref b25)])) t
      exact st33 t k)
  have V33 : Arv Z hp33 b29 k29 .char (1 : Int32) [(.int (nar .char c1))] (.int (0 : Int32)) := Arv.set Ar32 qq32 Sz32 Ng32 Ha32 Ga32 (fits_nar_char _) W33 0 rfl (Nat.le_of_ble_eq_true rfl)
  rw [own_narc hx_c1] at V33
  have hk := Nat.le_trans hk (Keep.of_wr W33).1
  have N33 := Fr.snoc X33 N0 g_b29
  have Kp33 := Keep.wr Kp29 W33 (Or.inr sz_b29)
  have hp35 : ∀ c ∈ ([c1] : List Int32), ¬ c < 0 ∧ ¬ (255 : Int32) < c := by
    intro c hc
    simp only [List.mem_cons, List.not_mem_nil, or_false] at hc
    rcases hc with rfl
    · exact hx_c1
  have cf36 := (Exa.wr W33 (A27.ext E29))
  have cf37 := (Fld.other W33 (F27_32.ext E29) (Or.inl ne_b27_b29))
  have cf38 := (Fld.other W33 (F27_30.ext E29) (Or.inl ne_b27_b29))
  have cf39 := (own_sta_keep S_CS Kp33 all0)
  have cf40 := (Exa.wr W33 (cf30.ext E29))
  obtain ⟨vv41, _, ⟨T41, L41, kk41, nn41⟩, -, X41, ⟨Lc41, hQ41, l41, y41, z41⟩, st41⟩ := X33.specialBack hx (y := (⟨"java/lang/String", "<init>", "([C)V"⟩ : MethodName)) rfl hown (mvT hZ (hw _ (List.mem_of_getElem? (i := 7) rfl))) (mvT hZ (hw _ (List.mem_of_getElem? (i := 8) rfl))) (mvT hZ (hw _ (List.mem_of_getElem? (i := 9) rfl))) (by decide) (StrChars.Road.backV (W := 3) hZ (own_words hw) (kI := 4) (hw _ (List.mem_of_getElem? (i := 4) rfl)) (cs := ([c1] : List Int32)) (bs := (([c1] : List Int32)).map (fun c => c.toInt8.toInt32)) (n := 1) g_b27 (Nat.le_trans Z0 Kp33.1) cf36 cf37 cf38 V33 cf39 P5 rfl rfl (by decide) (by decide) hp35 rfl (by decide) (by decide)) (g := (mkF m 138 #[.val (.int p1), .val (.int p2), .val (.int p3), .val (.int c1), .val (.int c2), .val (.int d1), .val (.int d2), .val (.int x1), .val (.int y1), .val (.int x2), .val (.int y2), .val (.int (0 : Int32)), .unset, .unset, .unset] [(.ref b29), (.ref b27), (.ref b27), (.ref b25), (.ref b25)])) rfl (by rw [hml]; rfl) (Steps.refl _) (a := b27) (argsL := [(.ref b29)]) (rest := [(.ref b27), (.ref b25), (.ref b25)]) (lenOf own_pd___C_V rfl) rfl (by show 2 * 0 + _ ≤ _; exact Nat.le_of_eq rfl) (hb hby at_138) (fun _ _ => ⟨rfl, e33, (by decide : 3 + 1 ≤ _), (by decide : 9 + 1 ≤ _)⟩)
  dsimp only [Pt.U, Pt.locs, Pt.cells, Pt.slots] at X41 l41 y41 z41 st41 hQ41
  subst l41 y41 z41
  obtain ⟨hh41, eh41⟩ : ∃ h, T41.heap = h := ⟨_, rfl⟩
  rw [eh41] at hQ41
  obtain ⟨rfl, Nq41, Kq41, fq41_0, fq41_1⟩ := hQ41
  have N41 := Fr.app N33 Nq41
  have hk := Nat.le_trans hk Kq41.1
  have Kp41 := Keep.trans Kp33 Kq41 (allS (Or.inr sz_b27) all0)
  obtain ⟨fc41, tb41, kb41, ut41, vt41, wt41, fv41, av41⟩ := fq41_1
  have ne_b25_tb41 : b25 ≠ tb41 := Nat.ne_of_lt (Nat.lt_of_lt_of_le cf40.lt vt41)
  have ne_b27_tb41 : b27 ≠ tb41 := Nat.ne_of_lt (Nat.lt_of_lt_of_le cf36.lt vt41)
  have ne_b29_tb41 : b29 ≠ tb41 := Nat.ne_of_lt (Nat.lt_of_lt_of_le V33.lt vt41)
  have ch42 : ∀ t, Steps p.tables e below (T41.setTop (mkF m 141 #[.val (.int p1), .val (.int p2), .val (.int p3), .val (.int c1), .val (.int c2), .val (.int d1), .val (.int d2), .val (.int x1), .val (.int y1), .val (.int x2), .val (.int y2), .val (.int (0 : Int32)), .unset, .unset, .unset] [(.ref b27), (.ref b25), (.ref b25)])) t → Steps p.tables e below (s₁.setTop (entryFrame m #[(.int p1), (.int p2), (.int p3)] maxLocals)) t := fun t k => ch34 t (by
      show Steps p.tables e below (T33.setTop (mkF m 138 #[.val (.int p1), .val (.int p2), .val (.int p3), .val (.int c1), .val (.int c2), .val (.int d1), .val (.int d2), .val (.int x1), .val (.int y1), .val (.int x2), .val (.int y2), .val (.int (0 : Int32)), .unset, .unset, .unset] [(.ref b29), (.ref b27), (.ref b27), (.ref b25), (.ref b25)])) t
      exact st41.trans k)
  obtain ⟨T43, hp43, X43, e43, E43, A43, D43, -, st43⟩ := newO X41 hx hZ hown (hw _ (List.mem_of_getElem? (i := 3) rfl)) (hw _ (List.mem_of_getElem? (i := 4) rfl)) (hw _ (List.mem_of_getElem? (i := 5) rfl)) eh41 (g := (mkF m 141 #[.val (.int p1), .val (.int p2), .val (.int p3), .val (.int c1), .val (.int c2), .val (.int d1), .val (.int d2), .val (.int x1), .val (.int y1), .val (.int x2), .val (.int y2), .val (.int (0 : Int32)), .unset, .unset, .unset] [(.ref b27), (.ref b25), (.ref b25)])) rfl (hb hby at_141) (by decide) (by decide)
  obtain ⟨b43, g43⟩ : ∃ z, z = hh41.size := ⟨_, rfl⟩
  rw [← g43] at A43 D43 st43
  have cf44 := (cf40.keep Kq41)
  have ne_b25_b43 : b25 ≠ b43 := Nat.ne_of_lt (Nat.lt_of_lt_of_le cf44.lt (Nat.le_of_eq g43.symm))
  have ne_b27_b43 : b27 ≠ b43 := Nat.ne_of_lt (Nat.lt_of_lt_of_le fq41_0.lt (Nat.le_of_eq g43.symm))
  have cf45 := (V33.keep Kq41 (ninS (Ne.symm ne_b27_b29) nin0))
  have ne_b29_b43 : b29 ≠ b43 := Nat.ne_of_lt (Nat.lt_of_lt_of_le cf45.lt (Nat.le_of_eq g43.symm))
  have ne_tb41_b43 : tb41 ≠ b43 := Nat.ne_of_lt (Nat.lt_of_lt_of_le av41.lt (Nat.le_of_eq g43.symm))
  have g_b43 : n0 ≤ b43 := Nat.le_trans (Nat.le_trans Z0 Kp41.1) (Nat.le_of_eq g43.symm)
  have sz_b43 : h0.size ≤ b43 := Nat.le_trans Kp41.1 (Nat.le_of_eq g43.symm)
  have hk := Nat.le_trans hk E43.1
  have Kp43 := Keep.ext Kp41 E43
  have F43_30 : Fld Z hp43 b43 "java/lang/String" "coder" "B" (.int (0 : Int32)) := D43 (Or.inr (hw _ (List.mem_of_getElem? (i := 30) rfl))) (ty := .byte) (by decide)
  have F43_32 : Fld Z hp43 b43 "java/lang/String" "value" "[B" .null := D43 (Or.inr (hw _ (List.mem_of_getElem? (i := 32) rfl))) (ty := (.array .byte)) (by decide)
  have ch46 : ∀ t, Steps p.tables e below (T43.setTop (mkF m 144 #[.val (.int p1), .val (.int p2), .val (.int p3), .val (.int c1), .val (.int c2), .val (.int d1), .val (.int d2), .val (.int x1), .val (.int y1), .val (.int x2), .val (.int y2), .val (.int (0 : Int32)), .unset, .unset, .unset] [(.ref b43), (.ref b27), (.ref b25), (.ref b25)])) t → Steps p.tables e below (s₁.setTop (entryFrame m #[(.int p1), (.int p2), (.int p3)] maxLocals)) t := fun t k => ch42 t (by
      show Steps p.tables e below (T41.setTop (mkF m 141 #[.val (.int p1), .val (.int p2), .val (.int p3), .val (.int c1), .val (.int c2), .val (.int d1), .val (.int d2), .val (.int x1), .val (.int y1), .val (.int x2), .val (.int y2), .val (.int (0 : Int32)), .unset, .unset, .unset] [(.ref b27), (.ref b25), (.ref b25)])) t
      exact st43 t k)
  obtain ⟨T47, hp47, k47, X47, e47, E47, A47, st47⟩ := newP X43 hx hZ (hw _ (List.mem_of_getElem? (i := 6) rfl)) e43 (g := (mkF m 146 #[.val (.int p1), .val (.int p2), .val (.int p3), .val (.int c1), .val (.int c2), .val (.int d1), .val (.int d2), .val (.int x1), .val (.int y1), .val (.int x2), .val (.int y2), .val (.int (0 : Int32)), .unset, .unset, .unset] [(.int (1 : Int32)), (.ref b43), (.ref b43), (.ref b27), (.ref b25), (.ref b25)])) rfl (hb hby at_146) rfl (by decide) (cap := 1) (by decide) (by decide) (by decide) (by decide)
  obtain ⟨b47, g47⟩ : ∃ z, z = hp43.size := ⟨_, rfl⟩
  rw [← g47] at A47 st47
  have cf48 := (cf44.ext E43)
  have ne_b25_b47 : b25 ≠ b47 := Nat.ne_of_lt (Nat.lt_of_lt_of_le cf48.lt (Nat.le_of_eq g47.symm))
  have cf49 := (fq41_0.ext E43)
  have ne_b27_b47 : b27 ≠ b47 := Nat.ne_of_lt (Nat.lt_of_lt_of_le cf49.lt (Nat.le_of_eq g47.symm))
  have cf50 := (cf45.ext E43)
  have ne_b29_b47 : b29 ≠ b47 := Nat.ne_of_lt (Nat.lt_of_lt_of_le cf50.lt (Nat.le_of_eq g47.symm))
  have cf51 := (av41.ext E43)
  have ne_tb41_b47 : tb41 ≠ b47 := Nat.ne_of_lt (Nat.lt_of_lt_of_le cf51.lt (Nat.le_of_eq g47.symm))
  have ne_b43_b47 : b43 ≠ b47 := Nat.ne_of_lt (Nat.lt_of_lt_of_le A43.lt (Nat.le_of_eq g47.symm))
  have g_b47 : n0 ≤ b47 := Nat.le_trans (Nat.le_trans Z0 Kp43.1) (Nat.le_of_eq g47.symm)
  have sz_b47 : h0.size ≤ b47 := Nat.le_trans Kp43.1 (Nat.le_of_eq g47.symm)
  have hk := Nat.le_trans hk E47.1
  have Kp47 := Keep.ext Kp43 E47
  have V47 : Arv Z hp47 b47 k47 .char (1 : Int32) [(.int (0 : Int32))] (.int (0 : Int32)) := (Arv.new A47 (by decide)).pad (pad_rep [] (.int (0 : Int32)) 1)
  have ch52 : ∀ t, Steps p.tables e below (T47.setTop (mkF m 148 #[.val (.int p1), .val (.int p2), .val (.int p3), .val (.int c1), .val (.int c2), .val (.int d1), .val (.int d2), .val (.int x1), .val (.int y1), .val (.int x2), .val (.int y2), .val (.int (0 : Int32)), .unset, .unset, .unset] [(.ref b47), (.ref b43), (.ref b43), (.ref b27), (.ref b25), (.ref b25)])) t → Steps p.tables e below (s₁.setTop (entryFrame m #[(.int p1), (.int p2), (.int p3)] maxLocals)) t := fun t k => ch46 t (by
      show Steps p.tables e below (T43.setTop (mkF m 144 #[.val (.int p1), .val (.int p2), .val (.int p3), .val (.int c1), .val (.int c2), .val (.int d1), .val (.int d2), .val (.int x1), .val (.int y1), .val (.int x2), .val (.int y2), .val (.int (0 : Int32)), .unset, .unset, .unset] [(.ref b43), (.ref b27), (.ref b25), (.ref b25)])) t
      refine XS.dup X43.here hx rfl (hb hby at_144) rfl rfl ?_
      show Steps p.tables e below (T43.setTop (mkF m 145 #[.val (.int p1), .val (.int p2), .val (.int p3), .val (.int c1), .val (.int c2), .val (.int d1), .val (.int d2), .val (.int x1), .val (.int y1), .val (.int x2), .val (.int y2), .val (.int (0 : Int32)), .unset, .unset, .unset] [(.ref b43), (.ref b43), (.ref b27), (.ref b25), (.ref b25)])) t
      refine XS.iconst X43.here hx rfl (hb hby at_145) ?_
      show Steps p.tables e below (T43.setTop (mkF m 146 #[.val (.int p1), .val (.int p2), .val (.int p3), .val (.int c1), .val (.int c2), .val (.int d1), .val (.int d2), .val (.int x1), .val (.int y1), .val (.int x2), .val (.int y2), .val (.int (0 : Int32)), .unset, .unset, .unset] [(.int (1 : Int32)), (.ref b43), (.ref b43), (.ref b27), (.ref b25), (.ref b25)])) t
      exact st47 t k)
  obtain ⟨cl53, Ar53, qq53, Sz53, Ng53, Ha53, Ga53⟩ := id V47
  have hin53 : ¬ ((0 : Int32) < 0 ∨ cl53.slots.size ≤ ((0 : Int32)).toNatClampNeg) := inb_of Sz53 (by decide)
  obtain ⟨T54, hp54, X54, e54, W54, st54⟩ := stC X47 hx hZ e47 Ar53 (j := (0 : Int32)) hin53 (g := (mkF m 152 #[.val (.int p1), .val (.int p2), .val (.int p3), .val (.int c1), .val (.int c2), .val (.int d1), .val (.int d2), .val (.int x1), .val (.int y1), .val (.int x2), .val (.int y2), .val (.int (0 : Int32)), .unset, .unset, .unset] [(.int d1), (.int (0 : Int32)), (.ref b47), (.ref b47), (.ref b43), (.ref b43), (.ref b27), (.ref b25), (.ref b25)])) rfl rfl (hb hby at_152)
  have ch55 : ∀ t, Steps p.tables e below (T54.setTop (mkF m 153 #[.val (.int p1), .val (.int p2), .val (.int p3), .val (.int c1), .val (.int c2), .val (.int d1), .val (.int d2), .val (.int x1), .val (.int y1), .val (.int x2), .val (.int y2), .val (.int (0 : Int32)), .unset, .unset, .unset] [(.ref b47), (.ref b43), (.ref b43), (.ref b27), (.ref b25), (.ref b25)])) t → Steps p.tables e below (s₁.setTop (entryFrame m #[(.int p1), (.int p2), (.int p3)] maxLocals)) t := fun t k => ch52 t (by
      show Steps p.tables e below (T47.setTop (mkF m 148 #[.val (.int p1), .val (.int p2), .val (.int p3), .val (.int c1), .val (.int c2), .val (.int d1), .val (.int d2), .val (.int x1), .val (.int y1), .val (.int x2), .val (.int y2), .val (.int (0 : Int32)), .unset, .unset, .unset] [(.ref b47), (.ref b43), (.ref b43), (.ref b27), (.ref b25), (.ref b25)])) t
      refine XS.dup X47.here hx rfl (hb hby at_148) rfl rfl ?_
      show Steps p.tables e below (T47.setTop (mkF m 149 #[.val (.int p1), .val (.int p2), .val (.int p3), .val (.int c1), .val (.int c2), .val (.int d1), .val (.int d2), .val (.int x1), .val (.int y1), .val (.int x2), .val (.int y2), .val (.int (0 : Int32)), .unset, .unset, .unset] [(.ref b47), (.ref b47), (.ref b43), (.ref b43), (.ref b27), (.ref b25), (.ref b25)])) t
      refine XS.iconst X47.here hx rfl (hb hby at_149) ?_
      show Steps p.tables e below (T47.setTop (mkF m 150 #[.val (.int p1), .val (.int p2), .val (.int p3), .val (.int c1), .val (.int c2), .val (.int d1), .val (.int d2), .val (.int x1), .val (.int y1), .val (.int x2), .val (.int y2), .val (.int (0 : Int32)), .unset, .unset, .unset] [(.int (0 : Int32)), (.ref b47), (.ref b47), (.ref b43), (.ref b43), (.ref b27), (.ref b25), (.ref b25)])) t
      refine XS.iload X47.here hx rfl (hb hby at_150) rfl ?_
      show Steps p.tables e below (T47.setTop (mkF m 152 #[.val (.int p1), .val (.int p2), .val (.int p3), .val (.int c1), .val (.int c2), .val (.int d1), .val (.int d2), .val (.int x1), .val (.int y1), .val (.int x2), .val (.int y2), .val (.int (0 : Int32)), .unset, .unset, .unset] [(.int d1), (.int (0 : Int32)), (.ref b47), (.ref b47), (.ref b43), (.ref b43), (.ref b27), (.ref b25), (.ref b25)])) t
      exact st54 t k)
  have V54 : Arv Z hp54 b47 k47 .char (1 : Int32) [(.int (nar .char d1))] (.int (0 : Int32)) := Arv.set Ar53 qq53 Sz53 Ng53 Ha53 Ga53 (fits_nar_char _) W54 0 rfl (Nat.le_of_ble_eq_true rfl)
  rw [own_narc hx_d1] at V54
  have hk := Nat.le_trans hk (Keep.of_wr W54).1
  have N54 := Fr.snoc X54 N41 g_b47
  have Kp54 := Keep.wr Kp47 W54 (Or.inr sz_b47)
  have hp56 : ∀ c ∈ ([d1] : List Int32), ¬ c < 0 ∧ ¬ (255 : Int32) < c := by
    intro c hc
    simp only [List.mem_cons, List.not_mem_nil, or_false] at hc
    rcases hc with rfl
    · exact hx_d1
  have cf57 := (Exa.wr W54 (A43.ext E47))
  have cf58 := (Fld.other W54 (F43_32.ext E47) (Or.inl ne_b43_b47))
  have cf59 := (Fld.other W54 (F43_30.ext E47) (Or.inl ne_b43_b47))
  have cf60 := ((((own_sta_keep cf39 Kq41 (allS (fun c hc => own_exa_plain cf36 c hc) all0)).ext E43).ext E47).wr W54)
  have cf61 := (Exa.wr W54 (cf48.ext E47))
  have cf62 := (Exa.wr W54 (cf49.ext E47))
  have cf63 := ((cf50.ext E47).other W54 ne_b29_b47)
  have cf64 := ((cf51.ext E47).other W54 ne_tb41_b47)
  obtain ⟨vv65, _, ⟨T65, L65, kk65, nn65⟩, -, X65, ⟨Lc65, hQ65, l65, y65, z65⟩, st65⟩ := X54.specialBack hx (y := (⟨"java/lang/String", "<init>", "([C)V"⟩ : MethodName)) rfl hown (mvT hZ (hw _ (List.mem_of_getElem? (i := 7) rfl))) (mvT hZ (hw _ (List.mem_of_getElem? (i := 8) rfl))) (mvT hZ (hw _ (List.mem_of_getElem? (i := 9) rfl))) (by decide) (StrChars.Road.backV (W := 4) hZ (own_words hw) (kI := 4) (hw _ (List.mem_of_getElem? (i := 4) rfl)) (cs := ([d1] : List Int32)) (bs := (([d1] : List Int32)).map (fun c => c.toInt8.toInt32)) (n := 1) g_b43 (Nat.le_trans Z0 Kp54.1) cf57 cf58 cf59 V54 cf60 P5 rfl rfl (by decide) (by decide) hp56 rfl (by decide) (by decide)) (g := (mkF m 153 #[.val (.int p1), .val (.int p2), .val (.int p3), .val (.int c1), .val (.int c2), .val (.int d1), .val (.int d2), .val (.int x1), .val (.int y1), .val (.int x2), .val (.int y2), .val (.int (0 : Int32)), .unset, .unset, .unset] [(.ref b47), (.ref b43), (.ref b43), (.ref b27), (.ref b25), (.ref b25)])) rfl (by rw [hml]; rfl) (Steps.refl _) (a := b43) (argsL := [(.ref b47)]) (rest := [(.ref b43), (.ref b27), (.ref b25), (.ref b25)]) (lenOf own_pd___C_V rfl) rfl (by show 2 * 0 + _ ≤ _; exact Nat.le_of_eq rfl) (hb hby at_153) (fun _ _ => ⟨rfl, e54, (by decide : 6 + 1 ≤ _), (by decide : 15 + 1 ≤ _)⟩)
  dsimp only [Pt.U, Pt.locs, Pt.cells, Pt.slots] at X65 l65 y65 z65 st65 hQ65
  subst l65 y65 z65
  obtain ⟨hh65, eh65⟩ : ∃ h, T65.heap = h := ⟨_, rfl⟩
  rw [eh65] at hQ65
  obtain ⟨rfl, Nq65, Kq65, fq65_0, fq65_1⟩ := hQ65
  have N65 := Fr.app N54 Nq65
  have hk := Nat.le_trans hk Kq65.1
  have Kp65 := Keep.trans Kp54 Kq65 (allS (Or.inr sz_b43) all0)
  obtain ⟨fc65, tb65, kb65, ut65, vt65, wt65, fv65, av65⟩ := fq65_1
  have ne_b25_tb65 : b25 ≠ tb65 := Nat.ne_of_lt (Nat.lt_of_lt_of_le cf61.lt vt65)
  have ne_b27_tb65 : b27 ≠ tb65 := Nat.ne_of_lt (Nat.lt_of_lt_of_le cf62.lt vt65)
  have ne_b29_tb65 : b29 ≠ tb65 := Nat.ne_of_lt (Nat.lt_of_lt_of_le cf63.lt vt65)
  have ne_tb41_tb65 : tb41 ≠ tb65 := Nat.ne_of_lt (Nat.lt_of_lt_of_le cf64.lt vt65)
  have ne_b43_tb65 : b43 ≠ tb65 := Nat.ne_of_lt (Nat.lt_of_lt_of_le cf57.lt vt65)
  have ne_b47_tb65 : b47 ≠ tb65 := Nat.ne_of_lt (Nat.lt_of_lt_of_le V54.lt vt65)
  have ch66 : ∀ t, Steps p.tables e below (T65.setTop (mkF m 156 #[.val (.int p1), .val (.int p2), .val (.int p3), .val (.int c1), .val (.int c2), .val (.int d1), .val (.int d2), .val (.int x1), .val (.int y1), .val (.int x2), .val (.int y2), .val (.int (0 : Int32)), .unset, .unset, .unset] [(.ref b43), (.ref b27), (.ref b25), (.ref b25)])) t → Steps p.tables e below (s₁.setTop (entryFrame m #[(.int p1), (.int p2), (.int p3)] maxLocals)) t := fun t k => ch55 t (by
      show Steps p.tables e below (T54.setTop (mkF m 153 #[.val (.int p1), .val (.int p2), .val (.int p3), .val (.int c1), .val (.int c2), .val (.int d1), .val (.int d2), .val (.int x1), .val (.int y1), .val (.int x2), .val (.int y2), .val (.int (0 : Int32)), .unset, .unset, .unset] [(.ref b47), (.ref b43), (.ref b43), (.ref b27), (.ref b25), (.ref b25)])) t
      exact st65.trans k)
  have cf67 := (cf61.keep Kq65)
  have cf68 := ((Fld.other W54 ((((Fld.other W33 ((F25_46.ext E27).ext E29) (Or.inl ne_b25_b29)).keep Kq41 (ninS ne_b25_b27 nin0)).ext E43).ext E47) (Or.inl ne_b25_b47)).keep Kq65 (ninS ne_b25_b43 nin0))
  have cf69 := ((Fld.other W54 ((((Fld.other W33 ((F25_49.ext E27).ext E29) (Or.inl ne_b25_b29)).keep Kq41 (ninS ne_b25_b27 nin0)).ext E43).ext E47) (Or.inl ne_b25_b47)).keep Kq65 (ninS ne_b25_b43 nin0))
  have cf70 := ((Fld.other W54 ((((Fld.other W33 ((F25_51.ext E27).ext E29) (Or.inl ne_b25_b29)).keep Kq41 (ninS ne_b25_b27 nin0)).ext E43).ext E47) (Or.inl ne_b25_b47)).keep Kq65 (ninS ne_b25_b43 nin0))
  have cf71 := ((Fld.other W54 ((((Fld.other W33 ((F25_53.ext E27).ext E29) (Or.inl ne_b25_b29)).keep Kq41 (ninS ne_b25_b27 nin0)).ext E43).ext E47) (Or.inl ne_b25_b47)).keep Kq65 (ninS ne_b25_b43 nin0))
  have cf72 := (cf62.keep Kq65)
  obtain ⟨vv73, _, ⟨T73, L73, kk73, nn73⟩, -, X73, hS2, hgr, ⟨Lc73, hQ73, l73, y73, z73⟩, st73⟩ := X65.specialBackS hx (y := (⟨"com/example/nokkel/nokkel/core/ClientRecord", "<init>", "(Ljava/lang/String;Ljava/lang/String;ZZ)V"⟩ : MethodName)) rfl hown (mvT hZ (hw _ (List.mem_of_getElem? (i := 33) rfl))) (mvT hZ (hw _ (List.mem_of_getElem? (i := 34) rfl))) (mvT hZ (hw _ (List.mem_of_getElem? (i := 35) rfl))) (by decide) (backOfS (W := 1) (own_ini l Z a0 hw [] hh65 n0 (Nat.le_trans Z0 Kp65.1) b25 b27 b43 x1 y1 cf67 cf68 cf69 cf70 cf71 g_b25 cf72 fq65_0 hx_x1 hx_y1) hZ (hw _ (List.mem_of_getElem? (i := 35) rfl)) (hw _ (List.mem_of_getElem? (i := 2) rfl)) (by decide) (by decide)) (g := (mkF m 160 #[.val (.int p1), .val (.int p2), .val (.int p3), .val (.int c1), .val (.int c2), .val (.int d1), .val (.int d2), .val (.int x1), .val (.int y1), .val (.int x2), .val (.int y2), .val (.int (0 : Int32)), .unset, .unset, .unset] [(.int y1), (.int x1), (.ref b43), (.ref b27), (.ref b25), (.ref b25)])) rfl (by rw [hml]; rfl) (Steps.refl _) (a := b25) (argsL := [(.ref b27), (.ref b43), (.int x1), (.int y1)]) (rest := [(.ref b25)]) (lenOf own_pd__Ljava_lang_String_Ljava_lang_String_ZZ_V rfl) rfl (by show 2 * 0 + _ ≤ _; exact Nat.le_of_eq rfl) (hb hby at_160) (fun _ _ => ⟨rfl, eh65, (by decide : 7 + 4 ≤ _), (by decide : 16 + 60 ≤ _)⟩)
  dsimp only [Pt.U, Pt.locs, Pt.cells, Pt.slots] at X73 l73 y73 z73 st73 hQ73 hS2 hgr
  subst l73 y73 z73
  obtain ⟨X73, hS, hZ, hown⟩ := rebS hS (by rw [eh65]; exact hk) X73 hS2 hgr hZ hown
  obtain ⟨hh73, eh73⟩ : ∃ h, T73.heap = h := ⟨_, rfl⟩
  rw [eh73] at hQ73
  rw [eh73] at hS
  have hk : hh73.size ≤ hh73.size := Nat.le_refl _
  obtain ⟨rfl, Nq73, Kq73, fq73_0, fq73_1, fq73_2, fq73_3, fq73_4⟩ := hQ73
  have N73 := Fr.app N65 Nq73
  have Kp73 := Keep.trans Kp65 Kq73 (allS (Or.inr sz_b25) all0)
  have ch74 : ∀ t, Steps p.tables e below (T73.setTop (mkF m 163 #[.val (.int p1), .val (.int p2), .val (.int p3), .val (.int c1), .val (.int c2), .val (.int d1), .val (.int d2), .val (.int x1), .val (.int y1), .val (.int x2), .val (.int y2), .val (.int (0 : Int32)), .unset, .unset, .unset] [(.ref b25)])) t → Steps p.tables e below (s₁.setTop (entryFrame m #[(.int p1), (.int p2), (.int p3)] maxLocals)) t := fun t k => ch66 t (by
      show Steps p.tables e below (T65.setTop (mkF m 156 #[.val (.int p1), .val (.int p2), .val (.int p3), .val (.int c1), .val (.int c2), .val (.int d1), .val (.int d2), .val (.int x1), .val (.int y1), .val (.int x2), .val (.int y2), .val (.int (0 : Int32)), .unset, .unset, .unset] [(.ref b43), (.ref b27), (.ref b25), (.ref b25)])) t
      refine XS.iload X65.here hx rfl (hb hby at_156) rfl ?_
      show Steps p.tables e below (T65.setTop (mkF m 158 #[.val (.int p1), .val (.int p2), .val (.int p3), .val (.int c1), .val (.int c2), .val (.int d1), .val (.int d2), .val (.int x1), .val (.int y1), .val (.int x2), .val (.int y2), .val (.int (0 : Int32)), .unset, .unset, .unset] [(.int x1), (.ref b43), (.ref b27), (.ref b25), (.ref b25)])) t
      refine XS.iload X65.here hx rfl (hb hby at_158) rfl ?_
      show Steps p.tables e below (T65.setTop (mkF m 160 #[.val (.int p1), .val (.int p2), .val (.int p3), .val (.int c1), .val (.int c2), .val (.int d1), .val (.int d2), .val (.int x1), .val (.int y1), .val (.int x2), .val (.int y2), .val (.int (0 : Int32)), .unset, .unset, .unset] [(.int y1), (.int x1), (.ref b43), (.ref b27), (.ref b25), (.ref b25)])) t
      exact st73.trans k)
  obtain ⟨T75, hp75, X75, e75, E75, A75, D75, -, st75⟩ := newO X73 hx hZ hown (hw _ (List.mem_of_getElem? (i := 0) rfl)) (hw _ (List.mem_of_getElem? (i := 1) rfl)) (hw _ (List.mem_of_getElem? (i := 2) rfl)) eh73 (g := (mkF m 170 #[.val (.int p1), .val (.int p2), .val (.int p3), .val (.int c1), .val (.int c2), .val (.int d1), .val (.int d2), .val (.int x1), .val (.int y1), .val (.int x2), .val (.int y2), .val (.int (0 : Int32)), .val (.ref b25), .unset, .unset] [])) rfl (hb hby at_170) (by decide) (by decide)
  obtain ⟨b75, g75⟩ : ∃ z, z = hh73.size := ⟨_, rfl⟩
  rw [← g75] at A75 D75 st75
  have ne_b25_b75 : b25 ≠ b75 := Nat.ne_of_lt (Nat.lt_of_lt_of_le fq73_0.lt (Nat.le_of_eq g75.symm))
  have cf76 := (cf72.keep Kq73)
  have ne_b27_b75 : b27 ≠ b75 := Nat.ne_of_lt (Nat.lt_of_lt_of_le cf76.lt (Nat.le_of_eq g75.symm))
  have cf77 := ((cf63.keep Kq65 (ninS ne_b29_b43 nin0)).keep Kq73 (ninS (Ne.symm ne_b25_b29) nin0))
  have ne_b29_b75 : b29 ≠ b75 := Nat.ne_of_lt (Nat.lt_of_lt_of_le cf77.lt (Nat.le_of_eq g75.symm))
  have cf78 := ((cf64.keep Kq65 (ninS ne_tb41_b43 nin0)).keep Kq73 (ninS (Ne.symm ne_b25_tb41) nin0))
  have ne_tb41_b75 : tb41 ≠ b75 := Nat.ne_of_lt (Nat.lt_of_lt_of_le cf78.lt (Nat.le_of_eq g75.symm))
  have cf79 := (fq65_0.keep Kq73)
  have ne_b43_b75 : b43 ≠ b75 := Nat.ne_of_lt (Nat.lt_of_lt_of_le cf79.lt (Nat.le_of_eq g75.symm))
  have cf80 := ((V54.keep Kq65 (ninS (Ne.symm ne_b43_b47) nin0)).keep Kq73 (ninS (Ne.symm ne_b25_b47) nin0))
  have ne_b47_b75 : b47 ≠ b75 := Nat.ne_of_lt (Nat.lt_of_lt_of_le cf80.lt (Nat.le_of_eq g75.symm))
  have cf81 := (av65.keep Kq73 (ninS (Ne.symm ne_b25_tb65) nin0))
  have ne_tb65_b75 : tb65 ≠ b75 := Nat.ne_of_lt (Nat.lt_of_lt_of_le cf81.lt (Nat.le_of_eq g75.symm))
  have g_b75 : n0 ≤ b75 := Nat.le_trans (Nat.le_trans Z0 Kp73.1) (Nat.le_of_eq g75.symm)
  have sz_b75 : h0.size ≤ b75 := Nat.le_trans Kp73.1 (Nat.le_of_eq g75.symm)
  have hk := Nat.le_trans hk E75.1
  have Kp75 := Keep.ext Kp73 E75
  have F75_46 : Fld Z hp75 b75 "com/example/nokkel/nokkel/core/ClientRecord" "owner" "Ljava/lang/String;" .null := D75 (Or.inr (hw _ (List.mem_of_getElem? (i := 46) rfl))) (ty := (.object "java/lang/String")) (by decide)
  have F75_49 : Fld Z hp75 b75 "com/example/nokkel/nokkel/core/ClientRecord" "verifier" "Ljava/lang/String;" .null := D75 (Or.inr (hw _ (List.mem_of_getElem? (i := 49) rfl))) (ty := (.object "java/lang/String")) (by decide)
  have F75_51 : Fld Z hp75 b75 "com/example/nokkel/nokkel/core/ClientRecord" "locksRevoked" "Z" (.int (0 : Int32)) := D75 (Or.inr (hw _ (List.mem_of_getElem? (i := 51) rfl))) (ty := .boolean) (by decide)
  have F75_53 : Fld Z hp75 b75 "com/example/nokkel/nokkel/core/ClientRecord" "graceMissed" "Z" (.int (0 : Int32)) := D75 (Or.inr (hw _ (List.mem_of_getElem? (i := 53) rfl))) (ty := .boolean) (by decide)
  have ch82 : ∀ t, Steps p.tables e below (T75.setTop (mkF m 173 #[.val (.int p1), .val (.int p2), .val (.int p3), .val (.int c1), .val (.int c2), .val (.int d1), .val (.int d2), .val (.int x1), .val (.int y1), .val (.int x2), .val (.int y2), .val (.int (0 : Int32)), .val (.ref b25), .unset, .unset] [(.ref b75)])) t → Steps p.tables e below (s₁.setTop (entryFrame m #[(.int p1), (.int p2), (.int p3)] maxLocals)) t := fun t k => ch74 t (by
      show Steps p.tables e below (T73.setTop (mkF m 163 #[.val (.int p1), .val (.int p2), .val (.int p3), .val (.int c1), .val (.int c2), .val (.int d1), .val (.int d2), .val (.int x1), .val (.int y1), .val (.int x2), .val (.int y2), .val (.int (0 : Int32)), .unset, .unset, .unset] [(.ref b25)])) t
      refine XS.astore X73.here hx rfl (hb hby at_163) rfl rfl (l' := #[.val (.int p1), .val (.int p2), .val (.int p3), .val (.int c1), .val (.int c2), .val (.int d1), .val (.int d2), .val (.int x1), .val (.int y1), .val (.int x2), .val (.int y2), .val (.int (0 : Int32)), .val (.ref b25), .unset, .unset]) rfl ?_
      show Steps p.tables e below (T73.setTop (mkF m 165 #[.val (.int p1), .val (.int p2), .val (.int p3), .val (.int c1), .val (.int c2), .val (.int d1), .val (.int d2), .val (.int x1), .val (.int y1), .val (.int x2), .val (.int y2), .val (.int (0 : Int32)), .val (.ref b25), .unset, .unset] [])) t
      refine XS.iload X73.here hx rfl (hb hby at_165) rfl ?_
      show Steps p.tables e below (T73.setTop (mkF m 167 #[.val (.int p1), .val (.int p2), .val (.int p3), .val (.int c1), .val (.int c2), .val (.int d1), .val (.int d2), .val (.int x1), .val (.int y1), .val (.int x2), .val (.int y2), .val (.int (0 : Int32)), .val (.ref b25), .unset, .unset] [(.int (0 : Int32))])) t
      refine XS.ifNo X73.here hx rfl (hb hby at_167) rfl ((if0 _ _).trans (teq (by decide : (0 : Int32) = (0 : Int32))).2) ?_
      show Steps p.tables e below (T73.setTop (mkF m 170 #[.val (.int p1), .val (.int p2), .val (.int p3), .val (.int c1), .val (.int c2), .val (.int d1), .val (.int d2), .val (.int x1), .val (.int y1), .val (.int x2), .val (.int y2), .val (.int (0 : Int32)), .val (.ref b25), .unset, .unset] [])) t
      exact st75 t k)
  obtain ⟨T83, hp83, X83, e83, E83, A83, D83, -, st83⟩ := newO X75 hx hZ hown (hw _ (List.mem_of_getElem? (i := 3) rfl)) (hw _ (List.mem_of_getElem? (i := 4) rfl)) (hw _ (List.mem_of_getElem? (i := 5) rfl)) e75 (g := (mkF m 174 #[.val (.int p1), .val (.int p2), .val (.int p3), .val (.int c1), .val (.int c2), .val (.int d1), .val (.int d2), .val (.int x1), .val (.int y1), .val (.int x2), .val (.int y2), .val (.int (0 : Int32)), .val (.ref b25), .unset, .unset] [(.ref b75), (.ref b75)])) rfl (hb hby at_174) (by decide) (by decide)
  obtain ⟨b83, g83⟩ : ∃ z, z = hp75.size := ⟨_, rfl⟩
  rw [← g83] at A83 D83 st83
  have cf84 := (fq73_0.ext E75)
  have ne_b25_b83 : b25 ≠ b83 := Nat.ne_of_lt (Nat.lt_of_lt_of_le cf84.lt (Nat.le_of_eq g83.symm))
  have cf85 := (cf76.ext E75)
  have ne_b27_b83 : b27 ≠ b83 := Nat.ne_of_lt (Nat.lt_of_lt_of_le cf85.lt (Nat.le_of_eq g83.symm))
  have cf86 := (cf77.ext E75)
  have ne_b29_b83 : b29 ≠ b83 := Nat.ne_of_lt (Nat.lt_of_lt_of_le cf86.lt (Nat.le_of_eq g83.symm))
  have cf87 := (cf78.ext E75)
  have ne_tb41_b83 : tb41 ≠ b83 := Nat.ne_of_lt (Nat.lt_of_lt_of_le cf87.lt (Nat.le_of_eq g83.symm))
  have cf88 := (cf79.ext E75)
  have ne_b43_b83 : b43 ≠ b83 := Nat.ne_of_lt (Nat.lt_of_lt_of_le cf88.lt (Nat.le_of_eq g83.symm))
  have cf89 := (cf80.ext E75)
  have ne_b47_b83 : b47 ≠ b83 := Nat.ne_of_lt (Nat.lt_of_lt_of_le cf89.lt (Nat.le_of_eq g83.symm))
  have cf90 := (cf81.ext E75)
  have ne_tb65_b83 : tb65 ≠ b83 := Nat.ne_of_lt (Nat.lt_of_lt_of_le cf90.lt (Nat.le_of_eq g83.symm))
  have ne_b75_b83 : b75 ≠ b83 := Nat.ne_of_lt (Nat.lt_of_lt_of_le A75.lt (Nat.le_of_eq g83.symm))
  have g_b83 : n0 ≤ b83 := Nat.le_trans (Nat.le_trans Z0 Kp75.1) (Nat.le_of_eq g83.symm)
  have sz_b83 : h0.size ≤ b83 := Nat.le_trans Kp75.1 (Nat.le_of_eq g83.symm)
  have hk := Nat.le_trans hk E83.1
  have Kp83 := Keep.ext Kp75 E83
  have F83_30 : Fld Z hp83 b83 "java/lang/String" "coder" "B" (.int (0 : Int32)) := D83 (Or.inr (hw _ (List.mem_of_getElem? (i := 30) rfl))) (ty := .byte) (by decide)
  have F83_32 : Fld Z hp83 b83 "java/lang/String" "value" "[B" .null := D83 (Or.inr (hw _ (List.mem_of_getElem? (i := 32) rfl))) (ty := (.array .byte)) (by decide)
  have ch91 : ∀ t, Steps p.tables e below (T83.setTop (mkF m 177 #[.val (.int p1), .val (.int p2), .val (.int p3), .val (.int c1), .val (.int c2), .val (.int d1), .val (.int d2), .val (.int x1), .val (.int y1), .val (.int x2), .val (.int y2), .val (.int (0 : Int32)), .val (.ref b25), .unset, .unset] [(.ref b83), (.ref b75), (.ref b75)])) t → Steps p.tables e below (s₁.setTop (entryFrame m #[(.int p1), (.int p2), (.int p3)] maxLocals)) t := fun t k => ch82 t (by
      show Steps p.tables e below (T75.setTop (mkF m 173 #[.val (.int p1), .val (.int p2), .val (.int p3), .val (.int c1), .val (.int c2), .val (.int d1), .val (.int d2), .val (.int x1), .val (.int y1), .val (.int x2), .val (.int y2), .val (.int (0 : Int32)), .val (.ref b25), .unset, .unset] [(.ref b75)])) t
      refine XS.dup X75.here hx rfl (hb hby at_173) rfl rfl ?_
      show Steps p.tables e below (T75.setTop (mkF m 174 #[.val (.int p1), .val (.int p2), .val (.int p3), .val (.int c1), .val (.int c2), .val (.int d1), .val (.int d2), .val (.int x1), .val (.int y1), .val (.int x2), .val (.int y2), .val (.int (0 : Int32)), .val (.ref b25), .unset, .unset] [(.ref b75), (.ref b75)])) t
      exact st83 t k)
  obtain ⟨T92, hp92, k92, X92, e92, E92, A92, st92⟩ := newP X83 hx hZ (hw _ (List.mem_of_getElem? (i := 6) rfl)) e83 (g := (mkF m 179 #[.val (.int p1), .val (.int p2), .val (.int p3), .val (.int c1), .val (.int c2), .val (.int d1), .val (.int d2), .val (.int x1), .val (.int y1), .val (.int x2), .val (.int y2), .val (.int (0 : Int32)), .val (.ref b25), .unset, .unset] [(.int (1 : Int32)), (.ref b83), (.ref b83), (.ref b75), (.ref b75)])) rfl (hb hby at_179) rfl (by decide) (cap := 1) (by decide) (by decide) (by decide) (by decide)
  obtain ⟨b92, g92⟩ : ∃ z, z = hp83.size := ⟨_, rfl⟩
  rw [← g92] at A92 st92
  have cf93 := (cf84.ext E83)
  have ne_b25_b92 : b25 ≠ b92 := Nat.ne_of_lt (Nat.lt_of_lt_of_le cf93.lt (Nat.le_of_eq g92.symm))
  have cf94 := (cf85.ext E83)
  have ne_b27_b92 : b27 ≠ b92 := Nat.ne_of_lt (Nat.lt_of_lt_of_le cf94.lt (Nat.le_of_eq g92.symm))
  have cf95 := (cf86.ext E83)
  have ne_b29_b92 : b29 ≠ b92 := Nat.ne_of_lt (Nat.lt_of_lt_of_le cf95.lt (Nat.le_of_eq g92.symm))
  have cf96 := (cf87.ext E83)
  have ne_tb41_b92 : tb41 ≠ b92 := Nat.ne_of_lt (Nat.lt_of_lt_of_le cf96.lt (Nat.le_of_eq g92.symm))
  have cf97 := (cf88.ext E83)
  have ne_b43_b92 : b43 ≠ b92 := Nat.ne_of_lt (Nat.lt_of_lt_of_le cf97.lt (Nat.le_of_eq g92.symm))
  have cf98 := (cf89.ext E83)
  have ne_b47_b92 : b47 ≠ b92 := Nat.ne_of_lt (Nat.lt_of_lt_of_le cf98.lt (Nat.le_of_eq g92.symm))
  have cf99 := (cf90.ext E83)
  have ne_tb65_b92 : tb65 ≠ b92 := Nat.ne_of_lt (Nat.lt_of_lt_of_le cf99.lt (Nat.le_of_eq g92.symm))
  have cf100 := (A75.ext E83)
  have ne_b75_b92 : b75 ≠ b92 := Nat.ne_of_lt (Nat.lt_of_lt_of_le cf100.lt (Nat.le_of_eq g92.symm))
  have ne_b83_b92 : b83 ≠ b92 := Nat.ne_of_lt (Nat.lt_of_lt_of_le A83.lt (Nat.le_of_eq g92.symm))
  have g_b92 : n0 ≤ b92 := Nat.le_trans (Nat.le_trans Z0 Kp83.1) (Nat.le_of_eq g92.symm)
  have sz_b92 : h0.size ≤ b92 := Nat.le_trans Kp83.1 (Nat.le_of_eq g92.symm)
  have hk := Nat.le_trans hk E92.1
  have Kp92 := Keep.ext Kp83 E92
  have V92 : Arv Z hp92 b92 k92 .char (1 : Int32) [(.int (0 : Int32))] (.int (0 : Int32)) := (Arv.new A92 (by decide)).pad (pad_rep [] (.int (0 : Int32)) 1)
  have ch101 : ∀ t, Steps p.tables e below (T92.setTop (mkF m 181 #[.val (.int p1), .val (.int p2), .val (.int p3), .val (.int c1), .val (.int c2), .val (.int d1), .val (.int d2), .val (.int x1), .val (.int y1), .val (.int x2), .val (.int y2), .val (.int (0 : Int32)), .val (.ref b25), .unset, .unset] [(.ref b92), (.ref b83), (.ref b83), (.ref b75), (.ref b75)])) t → Steps p.tables e below (s₁.setTop (entryFrame m #[(.int p1), (.int p2), (.int p3)] maxLocals)) t := fun t k => ch91 t (by
      show Steps p.tables e below (T83.setTop (mkF m 177 #[.val (.int p1), .val (.int p2), .val (.int p3), .val (.int c1), .val (.int c2), .val (.int d1), .val (.int d2), .val (.int x1), .val (.int y1), .val (.int x2), .val (.int y2), .val (.int (0 : Int32)), .val (.ref b25), .unset, .unset] [(.ref b83), (.ref b75), (.ref b75)])) t
      refine XS.dup X83.here hx rfl (hb hby at_177) rfl rfl ?_
      show Steps p.tables e below (T83.setTop (mkF m 178 #[.val (.int p1), .val (.int p2), .val (.int p3), .val (.int c1), .val (.int c2), .val (.int d1), .val (.int d2), .val (.int x1), .val (.int y1), .val (.int x2), .val (.int y2), .val (.int (0 : Int32)), .val (.ref b25), .unset, .unset] [(.ref b83), (.ref b83), (.ref b75), (.ref b75)])) t
      refine XS.iconst X83.here hx rfl (hb hby at_178) ?_
      show Steps p.tables e below (T83.setTop (mkF m 179 #[.val (.int p1), .val (.int p2), .val (.int p3), .val (.int c1), .val (.int c2), .val (.int d1), .val (.int d2), .val (.int x1), .val (.int y1), .val (.int x2), .val (.int y2), .val (.int (0 : Int32)), .val (.ref b25), .unset, .unset] [(.int (1 : Int32)), (.ref b83), (.ref b83), (.ref b75), (.ref b75)])) t
      exact st92 t k)
  obtain ⟨cl102, Ar102, qq102, Sz102, Ng102, Ha102, Ga102⟩ := id V92
  have hin102 : ¬ ((0 : Int32) < 0 ∨ cl102.slots.size ≤ ((0 : Int32)).toNatClampNeg) := inb_of Sz102 (by decide)
  obtain ⟨T103, hp103, X103, e103, W103, st103⟩ := stC X92 hx hZ e92 Ar102 (j := (0 : Int32)) hin102 (g := (mkF m 185 #[.val (.int p1), .val (.int p2), .val (.int p3), .val (.int c1), .val (.int c2), .val (.int d1), .val (.int d2), .val (.int x1), .val (.int y1), .val (.int x2), .val (.int y2), .val (.int (0 : Int32)), .val (.ref b25), .unset, .unset] [(.int c2), (.int (0 : Int32)), (.ref b92), (.ref b92), (.ref b83), (.ref b83), (.ref b75), (.ref b75)])) rfl rfl (hb hby at_185)
  have ch104 : ∀ t, Steps p.tables e below (T103.setTop (mkF m 186 #[.val (.int p1), .val (.int p2), .val (.int p3), .val (.int c1), .val (.int c2), .val (.int d1), .val (.int d2), .val (.int x1), .val (.int y1), .val (.int x2), .val (.int y2), .val (.int (0 : Int32)), .val (.ref b25), .unset, .unset] [(.ref b92), (.ref b83), (.ref b83), (.ref b75), (.ref b75)])) t → Steps p.tables e below (s₁.setTop (entryFrame m #[(.int p1), (.int p2), (.int p3)] maxLocals)) t := fun t k => ch101 t (by
      show Steps p.tables e below (T92.setTop (mkF m 181 #[.val (.int p1), .val (.int p2), .val (.int p3), .val (.int c1), .val (.int c2), .val (.int d1), .val (.int d2), .val (.int x1), .val (.int y1), .val (.int x2), .val (.int y2), .val (.int (0 : Int32)), .val (.ref b25), .unset, .unset] [(.ref b92), (.ref b83), (.ref b83), (.ref b75), (.ref b75)])) t
      refine XS.dup X92.here hx rfl (hb hby at_181) rfl rfl ?_
      show Steps p.tables e below (T92.setTop (mkF m 182 #[.val (.int p1), .val (.int p2), .val (.int p3), .val (.int c1), .val (.int c2), .val (.int d1), .val (.int d2), .val (.int x1), .val (.int y1), .val (.int x2), .val (.int y2), .val (.int (0 : Int32)), .val (.ref b25), .unset, .unset] [(.ref b92), (.ref b92), (.ref b83), (.ref b83), (.ref b75), (.ref b75)])) t
      refine XS.iconst X92.here hx rfl (hb hby at_182) ?_
      show Steps p.tables e below (T92.setTop (mkF m 183 #[.val (.int p1), .val (.int p2), .val (.int p3), .val (.int c1), .val (.int c2), .val (.int d1), .val (.int d2), .val (.int x1), .val (.int y1), .val (.int x2), .val (.int y2), .val (.int (0 : Int32)), .val (.ref b25), .unset, .unset] [(.int (0 : Int32)), (.ref b92), (.ref b92), (.ref b83), (.ref b83), (.ref b75), (.ref b75)])) t
      refine XS.iload X92.here hx rfl (hb hby at_183) rfl ?_
      show Steps p.tables e below (T92.setTop (mkF m 185 #[.val (.int p1), .val (.int p2), .val (.int p3), .val (.int c1), .val (.int c2), .val (.int d1), .val (.int d2), .val (.int x1), .val (.int y1), .val (.int x2), .val (.int y2), .val (.int (0 : Int32)), .val (.ref b25), .unset, .unset] [(.int c2), (.int (0 : Int32)), (.ref b92), (.ref b92), (.ref b83), (.ref b83), (.ref b75), (.ref b75)])) t
      exact st103 t k)
  have V103 : Arv Z hp103 b92 k92 .char (1 : Int32) [(.int (nar .char c2))] (.int (0 : Int32)) := Arv.set Ar102 qq102 Sz102 Ng102 Ha102 Ga102 (fits_nar_char _) W103 0 rfl (Nat.le_of_ble_eq_true rfl)
  rw [own_narc hx_c2] at V103
  have hk := Nat.le_trans hk (Keep.of_wr W103).1
  have N103 := Fr.snoc X103 N73 g_b92
  have Kp103 := Keep.wr Kp92 W103 (Or.inr sz_b92)
  have hp105 : ∀ c ∈ ([c2] : List Int32), ¬ c < 0 ∧ ¬ (255 : Int32) < c := by
    intro c hc
    simp only [List.mem_cons, List.not_mem_nil, or_false] at hc
    rcases hc with rfl
    · exact hx_c2
  have cf106 := (Exa.wr W103 (A83.ext E92))
  have cf107 := (Fld.other W103 (F83_32.ext E92) (Or.inl ne_b83_b92))
  have cf108 := (Fld.other W103 (F83_30.ext E92) (Or.inl ne_b83_b92))
  have cf109 := (((((own_sta_keep (own_sta_keep cf60 Kq65 (allS (fun c hc => own_exa_plain cf57 c hc) all0)) Kq73 (allS (fun c hc => own_exa_plain cf67 c hc) all0)).ext E75).ext E83).ext E92).wr W103)
  have cf110 := (Exa.wr W103 (cf93.ext E92))
  have cf111 := (Exa.wr W103 (cf94.ext E92))
  have cf112 := ((cf95.ext E92).other W103 ne_b29_b92)
  have cf113 := ((cf96.ext E92).other W103 ne_tb41_b92)
  have cf114 := (Exa.wr W103 (cf97.ext E92))
  have cf115 := ((cf98.ext E92).other W103 ne_b47_b92)
  have cf116 := ((cf99.ext E92).other W103 ne_tb65_b92)
  have cf117 := (Exa.wr W103 (cf100.ext E92))
  obtain ⟨vv118, _, ⟨T118, L118, kk118, nn118⟩, -, X118, ⟨Lc118, hQ118, l118, y118, z118⟩, st118⟩ := X103.specialBack hx (y := (⟨"java/lang/String", "<init>", "([C)V"⟩ : MethodName)) rfl hown (mvT hZ (hw _ (List.mem_of_getElem? (i := 7) rfl))) (mvT hZ (hw _ (List.mem_of_getElem? (i := 8) rfl))) (mvT hZ (hw _ (List.mem_of_getElem? (i := 9) rfl))) (by decide) (StrChars.Road.backV (W := 3) hZ (own_words hw) (kI := 4) (hw _ (List.mem_of_getElem? (i := 4) rfl)) (cs := ([c2] : List Int32)) (bs := (([c2] : List Int32)).map (fun c => c.toInt8.toInt32)) (n := 1) g_b83 (Nat.le_trans Z0 Kp103.1) cf106 cf107 cf108 V103 cf109 P5 rfl rfl (by decide) (by decide) hp105 rfl (by decide) (by decide)) (g := (mkF m 186 #[.val (.int p1), .val (.int p2), .val (.int p3), .val (.int c1), .val (.int c2), .val (.int d1), .val (.int d2), .val (.int x1), .val (.int y1), .val (.int x2), .val (.int y2), .val (.int (0 : Int32)), .val (.ref b25), .unset, .unset] [(.ref b92), (.ref b83), (.ref b83), (.ref b75), (.ref b75)])) rfl (by rw [hml]; rfl) (Steps.refl _) (a := b83) (argsL := [(.ref b92)]) (rest := [(.ref b83), (.ref b75), (.ref b75)]) (lenOf own_pd___C_V rfl) rfl (by show 2 * 0 + _ ≤ _; exact Nat.le_of_eq rfl) (hb hby at_186) (fun _ _ => ⟨rfl, e103, (by decide : 14 + 1 ≤ _), (by decide : 85 + 1 ≤ _)⟩)
  dsimp only [Pt.U, Pt.locs, Pt.cells, Pt.slots] at X118 l118 y118 z118 st118 hQ118
  subst l118 y118 z118
  obtain ⟨hh118, eh118⟩ : ∃ h, T118.heap = h := ⟨_, rfl⟩
  rw [eh118] at hQ118
  obtain ⟨rfl, Nq118, Kq118, fq118_0, fq118_1⟩ := hQ118
  have N118 := Fr.app N103 Nq118
  have hk := Nat.le_trans hk Kq118.1
  have Kp118 := Keep.trans Kp103 Kq118 (allS (Or.inr sz_b83) all0)
  obtain ⟨fc118, tb118, kb118, ut118, vt118, wt118, fv118, av118⟩ := fq118_1
  have ne_b25_tb118 : b25 ≠ tb118 := Nat.ne_of_lt (Nat.lt_of_lt_of_le cf110.lt vt118)
  have ne_b27_tb118 : b27 ≠ tb118 := Nat.ne_of_lt (Nat.lt_of_lt_of_le cf111.lt vt118)
  have ne_b29_tb118 : b29 ≠ tb118 := Nat.ne_of_lt (Nat.lt_of_lt_of_le cf112.lt vt118)
  have ne_tb41_tb118 : tb41 ≠ tb118 := Nat.ne_of_lt (Nat.lt_of_lt_of_le cf113.lt vt118)
  have ne_b43_tb118 : b43 ≠ tb118 := Nat.ne_of_lt (Nat.lt_of_lt_of_le cf114.lt vt118)
  have ne_b47_tb118 : b47 ≠ tb118 := Nat.ne_of_lt (Nat.lt_of_lt_of_le cf115.lt vt118)
  have ne_tb65_tb118 : tb65 ≠ tb118 := Nat.ne_of_lt (Nat.lt_of_lt_of_le cf116.lt vt118)
  have ne_b75_tb118 : b75 ≠ tb118 := Nat.ne_of_lt (Nat.lt_of_lt_of_le cf117.lt vt118)
  have ne_b83_tb118 : b83 ≠ tb118 := Nat.ne_of_lt (Nat.lt_of_lt_of_le cf106.lt vt118)
  have ne_b92_tb118 : b92 ≠ tb118 := Nat.ne_of_lt (Nat.lt_of_lt_of_le V103.lt vt118)
  have ch119 : ∀ t, Steps p.tables e below (T118.setTop (mkF m 189 #[.val (.int p1), .val (.int p2), .val (.int p3), .val (.int c1), .val (.int c2), .val (.int d1), .val (.int d2), .val (.int x1), .val (.int y1), .val (.int x2), .val (.int y2), .val (.int (0 : Int32)), .val (.ref b25), .unset, .unset] [(.ref b83), (.ref b75), (.ref b75)])) t → Steps p.tables e below (s₁.setTop (entryFrame m #[(.int p1), (.int p2), (.int p3)] maxLocals)) t := fun t k => ch104 t (by
      show Steps p.tables e below (T103.setTop (mkF m 186 #[.val (.int p1), .val (.int p2), .val (.int p3), .val (.int c1), .val (.int c2), .val (.int d1), .val (.int d2), .val (.int x1), .val (.int y1), .val (.int x2), .val (.int y2), .val (.int (0 : Int32)), .val (.ref b25), .unset, .unset] [(.ref b92), (.ref b83), (.ref b83), (.ref b75), (.ref b75)])) t
      exact st118.trans k)
  obtain ⟨T120, hp120, X120, e120, E120, A120, D120, -, st120⟩ := newO X118 hx hZ hown (hw _ (List.mem_of_getElem? (i := 3) rfl)) (hw _ (List.mem_of_getElem? (i := 4) rfl)) (hw _ (List.mem_of_getElem? (i := 5) rfl)) eh118 (g := (mkF m 189 #[.val (.int p1), .val (.int p2), .val (.int p3), .val (.int c1), .val (.int c2), .val (.int d1), .val (.int d2), .val (.int x1), .val (.int y1), .val (.int x2), .val (.int y2), .val (.int (0 : Int32)), .val (.ref b25), .unset, .unset] [(.ref b83), (.ref b75), (.ref b75)])) rfl (hb hby at_189) (by decide) (by decide)
  obtain ⟨b120, g120⟩ : ∃ z, z = hh118.size := ⟨_, rfl⟩
  rw [← g120] at A120 D120 st120
  have cf121 := (cf110.keep Kq118)
  have ne_b25_b120 : b25 ≠ b120 := Nat.ne_of_lt (Nat.lt_of_lt_of_le cf121.lt (Nat.le_of_eq g120.symm))
  have cf122 := (cf111.keep Kq118)
  have ne_b27_b120 : b27 ≠ b120 := Nat.ne_of_lt (Nat.lt_of_lt_of_le cf122.lt (Nat.le_of_eq g120.symm))
  have cf123 := (cf112.keep Kq118 (ninS ne_b29_b83 nin0))
  have ne_b29_b120 : b29 ≠ b120 := Nat.ne_of_lt (Nat.lt_of_lt_of_le cf123.lt (Nat.le_of_eq g120.symm))
  have cf124 := (cf113.keep Kq118 (ninS ne_tb41_b83 nin0))
  have ne_tb41_b120 : tb41 ≠ b120 := Nat.ne_of_lt (Nat.lt_of_lt_of_le cf124.lt (Nat.le_of_eq g120.symm))
  have cf125 := (cf114.keep Kq118)
  have ne_b43_b120 : b43 ≠ b120 := Nat.ne_of_lt (Nat.lt_of_lt_of_le cf125.lt (Nat.le_of_eq g120.symm))
  have cf126 := (cf115.keep Kq118 (ninS ne_b47_b83 nin0))
  have ne_b47_b120 : b47 ≠ b120 := Nat.ne_of_lt (Nat.lt_of_lt_of_le cf126.lt (Nat.le_of_eq g120.symm))
  have cf127 := (cf116.keep Kq118 (ninS ne_tb65_b83 nin0))
  have ne_tb65_b120 : tb65 ≠ b120 := Nat.ne_of_lt (Nat.lt_of_lt_of_le cf127.lt (Nat.le_of_eq g120.symm))
  have cf128 := (cf117.keep Kq118)
  have ne_b75_b120 : b75 ≠ b120 := Nat.ne_of_lt (Nat.lt_of_lt_of_le cf128.lt (Nat.le_of_eq g120.symm))
  have ne_b83_b120 : b83 ≠ b120 := Nat.ne_of_lt (Nat.lt_of_lt_of_le fq118_0.lt (Nat.le_of_eq g120.symm))
  have cf129 := (V103.keep Kq118 (ninS (Ne.symm ne_b83_b92) nin0))
  have ne_b92_b120 : b92 ≠ b120 := Nat.ne_of_lt (Nat.lt_of_lt_of_le cf129.lt (Nat.le_of_eq g120.symm))
  have ne_tb118_b120 : tb118 ≠ b120 := Nat.ne_of_lt (Nat.lt_of_lt_of_le av118.lt (Nat.le_of_eq g120.symm))
  have g_b120 : n0 ≤ b120 := Nat.le_trans (Nat.le_trans Z0 Kp118.1) (Nat.le_of_eq g120.symm)
  have sz_b120 : h0.size ≤ b120 := Nat.le_trans Kp118.1 (Nat.le_of_eq g120.symm)
  have hk := Nat.le_trans hk E120.1
  have Kp120 := Keep.ext Kp118 E120
  have F120_30 : Fld Z hp120 b120 "java/lang/String" "coder" "B" (.int (0 : Int32)) := D120 (Or.inr (hw _ (List.mem_of_getElem? (i := 30) rfl))) (ty := .byte) (by decide)
  have F120_32 : Fld Z hp120 b120 "java/lang/String" "value" "[B" .null := D120 (Or.inr (hw _ (List.mem_of_getElem? (i := 32) rfl))) (ty := (.array .byte)) (by decide)
  have ch130 : ∀ t, Steps p.tables e below (T120.setTop (mkF m 192 #[.val (.int p1), .val (.int p2), .val (.int p3), .val (.int c1), .val (.int c2), .val (.int d1), .val (.int d2), .val (.int x1), .val (.int y1), .val (.int x2), .val (.int y2), .val (.int (0 : Int32)), .val (.ref b25), .unset, .unset] [(.ref b120), (.ref b83), (.ref b75), (.ref b75)])) t → Steps p.tables e below (s₁.setTop (entryFrame m #[(.int p1), (.int p2), (.int p3)] maxLocals)) t := fun t k => ch119 t (by
      show Steps p.tables e below (T118.setTop (mkF m 189 #[.val (.int p1), .val (.int p2), .val (.int p3), .val (.int c1), .val (.int c2), .val (.int d1), .val (.int d2), .val (.int x1), .val (.int y1), .val (.int x2), .val (.int y2), .val (.int (0 : Int32)), .val (.ref b25), .unset, .unset] [(.ref b83), (.ref b75), (.ref b75)])) t
      exact st120 t k)
  obtain ⟨T131, hp131, k131, X131, e131, E131, A131, st131⟩ := newP X120 hx hZ (hw _ (List.mem_of_getElem? (i := 6) rfl)) e120 (g := (mkF m 194 #[.val (.int p1), .val (.int p2), .val (.int p3), .val (.int c1), .val (.int c2), .val (.int d1), .val (.int d2), .val (.int x1), .val (.int y1), .val (.int x2), .val (.int y2), .val (.int (0 : Int32)), .val (.ref b25), .unset, .unset] [(.int (1 : Int32)), (.ref b120), (.ref b120), (.ref b83), (.ref b75), (.ref b75)])) rfl (hb hby at_194) rfl (by decide) (cap := 1) (by decide) (by decide) (by decide) (by decide)
  obtain ⟨b131, g131⟩ : ∃ z, z = hp120.size := ⟨_, rfl⟩
  rw [← g131] at A131 st131
  have cf132 := (cf121.ext E120)
  have ne_b25_b131 : b25 ≠ b131 := Nat.ne_of_lt (Nat.lt_of_lt_of_le cf132.lt (Nat.le_of_eq g131.symm))
  have cf133 := (cf122.ext E120)
  have ne_b27_b131 : b27 ≠ b131 := Nat.ne_of_lt (Nat.lt_of_lt_of_le cf133.lt (Nat.le_of_eq g131.symm))
  have cf134 := (cf123.ext E120)
  have ne_b29_b131 : b29 ≠ b131 := Nat.ne_of_lt (Nat.lt_of_lt_of_le cf134.lt (Nat.le_of_eq g131.symm))
  have cf135 := (cf124.ext E120)
  have ne_tb41_b131 : tb41 ≠ b131 := Nat.ne_of_lt (Nat.lt_of_lt_of_le cf135.lt (Nat.le_of_eq g131.symm))
  have cf136 := (cf125.ext E120)
  have ne_b43_b131 : b43 ≠ b131 := Nat.ne_of_lt (Nat.lt_of_lt_of_le cf136.lt (Nat.le_of_eq g131.symm))
  have cf137 := (cf126.ext E120)
  have ne_b47_b131 : b47 ≠ b131 := Nat.ne_of_lt (Nat.lt_of_lt_of_le cf137.lt (Nat.le_of_eq g131.symm))
  have cf138 := (cf127.ext E120)
  have ne_tb65_b131 : tb65 ≠ b131 := Nat.ne_of_lt (Nat.lt_of_lt_of_le cf138.lt (Nat.le_of_eq g131.symm))
  have cf139 := (cf128.ext E120)
  have ne_b75_b131 : b75 ≠ b131 := Nat.ne_of_lt (Nat.lt_of_lt_of_le cf139.lt (Nat.le_of_eq g131.symm))
  have cf140 := (fq118_0.ext E120)
  have ne_b83_b131 : b83 ≠ b131 := Nat.ne_of_lt (Nat.lt_of_lt_of_le cf140.lt (Nat.le_of_eq g131.symm))
  have cf141 := (cf129.ext E120)
  have ne_b92_b131 : b92 ≠ b131 := Nat.ne_of_lt (Nat.lt_of_lt_of_le cf141.lt (Nat.le_of_eq g131.symm))
  have cf142 := (av118.ext E120)
  have ne_tb118_b131 : tb118 ≠ b131 := Nat.ne_of_lt (Nat.lt_of_lt_of_le cf142.lt (Nat.le_of_eq g131.symm))
  have ne_b120_b131 : b120 ≠ b131 := Nat.ne_of_lt (Nat.lt_of_lt_of_le A120.lt (Nat.le_of_eq g131.symm))
  have g_b131 : n0 ≤ b131 := Nat.le_trans (Nat.le_trans Z0 Kp120.1) (Nat.le_of_eq g131.symm)
  have sz_b131 : h0.size ≤ b131 := Nat.le_trans Kp120.1 (Nat.le_of_eq g131.symm)
  have hk := Nat.le_trans hk E131.1
  have Kp131 := Keep.ext Kp120 E131
  have V131 : Arv Z hp131 b131 k131 .char (1 : Int32) [(.int (0 : Int32))] (.int (0 : Int32)) := (Arv.new A131 (by decide)).pad (pad_rep [] (.int (0 : Int32)) 1)
  have ch143 : ∀ t, Steps p.tables e below (T131.setTop (mkF m 196 #[.val (.int p1), .val (.int p2), .val (.int p3), .val (.int c1), .val (.int c2), .val (.int d1), .val (.int d2), .val (.int x1), .val (.int y1), .val (.int x2), .val (.int y2), .val (.int (0 : Int32)), .val (.ref b25), .unset, .unset] [(.ref b131), (.ref b120), (.ref b120), (.ref b83), (.ref b75), (.ref b75)])) t → Steps p.tables e below (s₁.setTop (entryFrame m #[(.int p1), (.int p2), (.int p3)] maxLocals)) t := fun t k => ch130 t (by
      show Steps p.tables e below (T120.setTop (mkF m 192 #[.val (.int p1), .val (.int p2), .val (.int p3), .val (.int c1), .val (.int c2), .val (.int d1), .val (.int d2), .val (.int x1), .val (.int y1), .val (.int x2), .val (.int y2), .val (.int (0 : Int32)), .val (.ref b25), .unset, .unset] [(.ref b120), (.ref b83), (.ref b75), (.ref b75)])) t
      refine XS.dup X120.here hx rfl (hb hby at_192) rfl rfl ?_
      show Steps p.tables e below (T120.setTop (mkF m 193 #[.val (.int p1), .val (.int p2), .val (.int p3), .val (.int c1), .val (.int c2), .val (.int d1), .val (.int d2), .val (.int x1), .val (.int y1), .val (.int x2), .val (.int y2), .val (.int (0 : Int32)), .val (.ref b25), .unset, .unset] [(.ref b120), (.ref b120), (.ref b83), (.ref b75), (.ref b75)])) t
      refine XS.iconst X120.here hx rfl (hb hby at_193) ?_
      show Steps p.tables e below (T120.setTop (mkF m 194 #[.val (.int p1), .val (.int p2), .val (.int p3), .val (.int c1), .val (.int c2), .val (.int d1), .val (.int d2), .val (.int x1), .val (.int y1), .val (.int x2), .val (.int y2), .val (.int (0 : Int32)), .val (.ref b25), .unset, .unset] [(.int (1 : Int32)), (.ref b120), (.ref b120), (.ref b83), (.ref b75), (.ref b75)])) t
      exact st131 t k)
  obtain ⟨cl144, Ar144, qq144, Sz144, Ng144, Ha144, Ga144⟩ := id V131
  have hin144 : ¬ ((0 : Int32) < 0 ∨ cl144.slots.size ≤ ((0 : Int32)).toNatClampNeg) := inb_of Sz144 (by decide)
  obtain ⟨T145, hp145, X145, e145, W145, st145⟩ := stC X131 hx hZ e131 Ar144 (j := (0 : Int32)) hin144 (g := (mkF m 200 #[.val (.int p1), .val (.int p2), .val (.int p3), .val (.int c1), .val (.int c2), .val (.int d1), .val (.int d2), .val (.int x1), .val (.int y1), .val (.int x2), .val (.int y2), .val (.int (0 : Int32)), .val (.ref b25), .unset, .unset] [(.int d2), (.int (0 : Int32)), (.ref b131), (.ref b131), (.ref b120), (.ref b120), (.ref b83), (.ref b75), (.ref b75)])) rfl rfl (hb hby at_200)
  have ch146 : ∀ t, Steps p.tables e below (T145.setTop (mkF m 201 #[.val (.int p1), .val (.int p2), .val (.int p3), .val (.int c1), .val (.int c2), .val (.int d1), .val (.int d2), .val (.int x1), .val (.int y1), .val (.int x2), .val (.int y2), .val (.int (0 : Int32)), .val (.ref b25), .unset, .unset] [(.ref b131), (.ref b120), (.ref b120), (.ref b83), (.ref b75), (.ref b75)])) t → Steps p.tables e below (s₁.setTop (entryFrame m #[(.int p1), (.int p2), (.int p3)] maxLocals)) t := fun t k => ch143 t (by
      show Steps p.tables e below (T131.setTop (mkF m 196 #[.val (.int p1), .val (.int p2), .val (.int p3), .val (.int c1), .val (.int c2), .val (.int d1), .val (.int d2), .val (.int x1), .val (.int y1), .val (.int x2), .val (.int y2), .val (.int (0 : Int32)), .val (.ref b25), .unset, .unset] [(.ref b131), (.ref b120), (.ref b120), (.ref b83), (.ref b75), (.ref b75)])) t
      refine XS.dup X131.here hx rfl (hb hby at_196) rfl rfl ?_
      show Steps p.tables e below (T131.setTop (mkF m 197 #[.val (.int p1), .val (.int p2), .val (.int p3), .val (.int c1), .val (.int c2), .val (.int d1), .val (.int d2), .val (.int x1), .val (.int y1), .val (.int x2), .val (.int y2), .val (.int (0 : Int32)), .val (.ref b25), .unset, .unset] [(.ref b131), (.ref b131), (.ref b120), (.ref b120), (.ref b83), (.ref b75), (.ref b75)])) t
      refine XS.iconst X131.here hx rfl (hb hby at_197) ?_
      show Steps p.tables e below (T131.setTop (mkF m 198 #[.val (.int p1), .val (.int p2), .val (.int p3), .val (.int c1), .val (.int c2), .val (.int d1), .val (.int d2), .val (.int x1), .val (.int y1), .val (.int x2), .val (.int y2), .val (.int (0 : Int32)), .val (.ref b25), .unset, .unset] [(.int (0 : Int32)), (.ref b131), (.ref b131), (.ref b120), (.ref b120), (.ref b83), (.ref b75), (.ref b75)])) t
      refine XS.iload X131.here hx rfl (hb hby at_198) rfl ?_
      show Steps p.tables e below (T131.setTop (mkF m 200 #[.val (.int p1), .val (.int p2), .val (.int p3), .val (.int c1), .val (.int c2), .val (.int d1), .val (.int d2), .val (.int x1), .val (.int y1), .val (.int x2), .val (.int y2), .val (.int (0 : Int32)), .val (.ref b25), .unset, .unset] [(.int d2), (.int (0 : Int32)), (.ref b131), (.ref b131), (.ref b120), (.ref b120), (.ref b83), (.ref b75), (.ref b75)])) t
      exact st145 t k)
  have V145 : Arv Z hp145 b131 k131 .char (1 : Int32) [(.int (nar .char d2))] (.int (0 : Int32)) := Arv.set Ar144 qq144 Sz144 Ng144 Ha144 Ga144 (fits_nar_char _) W145 0 rfl (Nat.le_of_ble_eq_true rfl)
  rw [own_narc hx_d2] at V145
  have hk := Nat.le_trans hk (Keep.of_wr W145).1
  have N145 := Fr.snoc X145 N118 g_b131
  have Kp145 := Keep.wr Kp131 W145 (Or.inr sz_b131)
  have hp147 : ∀ c ∈ ([d2] : List Int32), ¬ c < 0 ∧ ¬ (255 : Int32) < c := by
    intro c hc
    simp only [List.mem_cons, List.not_mem_nil, or_false] at hc
    rcases hc with rfl
    · exact hx_d2
  have cf148 := (Exa.wr W145 (A120.ext E131))
  have cf149 := (Fld.other W145 (F120_32.ext E131) (Or.inl ne_b120_b131))
  have cf150 := (Fld.other W145 (F120_30.ext E131) (Or.inl ne_b120_b131))
  have cf151 := ((((own_sta_keep cf109 Kq118 (allS (fun c hc => own_exa_plain cf106 c hc) all0)).ext E120).ext E131).wr W145)
  have cf152 := (Exa.wr W145 (cf132.ext E131))
  have cf153 := (Exa.wr W145 (cf133.ext E131))
  have cf154 := ((cf134.ext E131).other W145 ne_b29_b131)
  have cf155 := ((cf135.ext E131).other W145 ne_tb41_b131)
  have cf156 := (Exa.wr W145 (cf136.ext E131))
  have cf157 := ((cf137.ext E131).other W145 ne_b47_b131)
  have cf158 := ((cf138.ext E131).other W145 ne_tb65_b131)
  have cf159 := (Exa.wr W145 (cf139.ext E131))
  have cf160 := (Exa.wr W145 (cf140.ext E131))
  have cf161 := ((cf141.ext E131).other W145 ne_b92_b131)
  have cf162 := ((cf142.ext E131).other W145 ne_tb118_b131)
  obtain ⟨vv163, _, ⟨T163, L163, kk163, nn163⟩, -, X163, ⟨Lc163, hQ163, l163, y163, z163⟩, st163⟩ := X145.specialBack hx (y := (⟨"java/lang/String", "<init>", "([C)V"⟩ : MethodName)) rfl hown (mvT hZ (hw _ (List.mem_of_getElem? (i := 7) rfl))) (mvT hZ (hw _ (List.mem_of_getElem? (i := 8) rfl))) (mvT hZ (hw _ (List.mem_of_getElem? (i := 9) rfl))) (by decide) (StrChars.Road.backV (W := 4) hZ (own_words hw) (kI := 4) (hw _ (List.mem_of_getElem? (i := 4) rfl)) (cs := ([d2] : List Int32)) (bs := (([d2] : List Int32)).map (fun c => c.toInt8.toInt32)) (n := 1) g_b120 (Nat.le_trans Z0 Kp145.1) cf148 cf149 cf150 V145 cf151 P5 rfl rfl (by decide) (by decide) hp147 rfl (by decide) (by decide)) (g := (mkF m 201 #[.val (.int p1), .val (.int p2), .val (.int p3), .val (.int c1), .val (.int c2), .val (.int d1), .val (.int d2), .val (.int x1), .val (.int y1), .val (.int x2), .val (.int y2), .val (.int (0 : Int32)), .val (.ref b25), .unset, .unset] [(.ref b131), (.ref b120), (.ref b120), (.ref b83), (.ref b75), (.ref b75)])) rfl (by rw [hml]; rfl) (Steps.refl _) (a := b120) (argsL := [(.ref b131)]) (rest := [(.ref b120), (.ref b83), (.ref b75), (.ref b75)]) (lenOf own_pd___C_V rfl) rfl (by show 2 * 0 + _ ≤ _; exact Nat.le_of_eq rfl) (hb hby at_201) (fun _ _ => ⟨rfl, e145, (by decide : 17 + 1 ≤ _), (by decide : 91 + 1 ≤ _)⟩)
  dsimp only [Pt.U, Pt.locs, Pt.cells, Pt.slots] at X163 l163 y163 z163 st163 hQ163
  subst l163 y163 z163
  obtain ⟨hh163, eh163⟩ : ∃ h, T163.heap = h := ⟨_, rfl⟩
  rw [eh163] at hQ163
  obtain ⟨rfl, Nq163, Kq163, fq163_0, fq163_1⟩ := hQ163
  have N163 := Fr.app N145 Nq163
  have hk := Nat.le_trans hk Kq163.1
  have Kp163 := Keep.trans Kp145 Kq163 (allS (Or.inr sz_b120) all0)
  obtain ⟨fc163, tb163, kb163, ut163, vt163, wt163, fv163, av163⟩ := fq163_1
  have ne_b25_tb163 : b25 ≠ tb163 := Nat.ne_of_lt (Nat.lt_of_lt_of_le cf152.lt vt163)
  have ne_b27_tb163 : b27 ≠ tb163 := Nat.ne_of_lt (Nat.lt_of_lt_of_le cf153.lt vt163)
  have ne_b29_tb163 : b29 ≠ tb163 := Nat.ne_of_lt (Nat.lt_of_lt_of_le cf154.lt vt163)
  have ne_tb41_tb163 : tb41 ≠ tb163 := Nat.ne_of_lt (Nat.lt_of_lt_of_le cf155.lt vt163)
  have ne_b43_tb163 : b43 ≠ tb163 := Nat.ne_of_lt (Nat.lt_of_lt_of_le cf156.lt vt163)
  have ne_b47_tb163 : b47 ≠ tb163 := Nat.ne_of_lt (Nat.lt_of_lt_of_le cf157.lt vt163)
  have ne_tb65_tb163 : tb65 ≠ tb163 := Nat.ne_of_lt (Nat.lt_of_lt_of_le cf158.lt vt163)
  have ne_b75_tb163 : b75 ≠ tb163 := Nat.ne_of_lt (Nat.lt_of_lt_of_le cf159.lt vt163)
  have ne_b83_tb163 : b83 ≠ tb163 := Nat.ne_of_lt (Nat.lt_of_lt_of_le cf160.lt vt163)
  have ne_b92_tb163 : b92 ≠ tb163 := Nat.ne_of_lt (Nat.lt_of_lt_of_le cf161.lt vt163)
  have ne_tb118_tb163 : tb118 ≠ tb163 := Nat.ne_of_lt (Nat.lt_of_lt_of_le cf162.lt vt163)
  have ne_b120_tb163 : b120 ≠ tb163 := Nat.ne_of_lt (Nat.lt_of_lt_of_le cf148.lt vt163)
  have ne_b131_tb163 : b131 ≠ tb163 := Nat.ne_of_lt (Nat.lt_of_lt_of_le V145.lt vt163)
  have ch164 : ∀ t, Steps p.tables e below (T163.setTop (mkF m 204 #[.val (.int p1), .val (.int p2), .val (.int p3), .val (.int c1), .val (.int c2), .val (.int d1), .val (.int d2), .val (.int x1), .val (.int y1), .val (.int x2), .val (.int y2), .val (.int (0 : Int32)), .val (.ref b25), .unset, .unset] [(.ref b120), (.ref b83), (.ref b75), (.ref b75)])) t → Steps p.tables e below (s₁.setTop (entryFrame m #[(.int p1), (.int p2), (.int p3)] maxLocals)) t := fun t k => ch146 t (by
      show Steps p.tables e below (T145.setTop (mkF m 201 #[.val (.int p1), .val (.int p2), .val (.int p3), .val (.int c1), .val (.int c2), .val (.int d1), .val (.int d2), .val (.int x1), .val (.int y1), .val (.int x2), .val (.int y2), .val (.int (0 : Int32)), .val (.ref b25), .unset, .unset] [(.ref b131), (.ref b120), (.ref b120), (.ref b83), (.ref b75), (.ref b75)])) t
      exact st163.trans k)
  have cf165 := (cf159.keep Kq163)
  have cf166 := ((Fld.other W145 ((((Fld.other W103 ((F75_46.ext E83).ext E92) (Or.inl ne_b75_b92)).keep Kq118 (ninS ne_b75_b83 nin0)).ext E120).ext E131) (Or.inl ne_b75_b131)).keep Kq163 (ninS ne_b75_b120 nin0))
  have cf167 := ((Fld.other W145 ((((Fld.other W103 ((F75_49.ext E83).ext E92) (Or.inl ne_b75_b92)).keep Kq118 (ninS ne_b75_b83 nin0)).ext E120).ext E131) (Or.inl ne_b75_b131)).keep Kq163 (ninS ne_b75_b120 nin0))
  have cf168 := ((Fld.other W145 ((((Fld.other W103 ((F75_51.ext E83).ext E92) (Or.inl ne_b75_b92)).keep Kq118 (ninS ne_b75_b83 nin0)).ext E120).ext E131) (Or.inl ne_b75_b131)).keep Kq163 (ninS ne_b75_b120 nin0))
  have cf169 := ((Fld.other W145 ((((Fld.other W103 ((F75_53.ext E83).ext E92) (Or.inl ne_b75_b92)).keep Kq118 (ninS ne_b75_b83 nin0)).ext E120).ext E131) (Or.inl ne_b75_b131)).keep Kq163 (ninS ne_b75_b120 nin0))
  have cf170 := (cf160.keep Kq163)
  obtain ⟨vv171, _, ⟨T171, L171, kk171, nn171⟩, -, X171, hS2, hgr, ⟨Lc171, hQ171, l171, y171, z171⟩, st171⟩ := X163.specialBackS hx (y := (⟨"com/example/nokkel/nokkel/core/ClientRecord", "<init>", "(Ljava/lang/String;Ljava/lang/String;ZZ)V"⟩ : MethodName)) rfl hown (mvT hZ (hw _ (List.mem_of_getElem? (i := 33) rfl))) (mvT hZ (hw _ (List.mem_of_getElem? (i := 34) rfl))) (mvT hZ (hw _ (List.mem_of_getElem? (i := 35) rfl))) (by decide) (backOfS (W := 1) (own_ini l Z a0 hw [] hh163 n0 (Nat.le_trans Z0 Kp163.1) b75 b83 b120 x2 y2 cf165 cf166 cf167 cf168 cf169 g_b75 cf170 fq163_0 hx_x2 hx_y2) hZ (hw _ (List.mem_of_getElem? (i := 35) rfl)) (hw _ (List.mem_of_getElem? (i := 2) rfl)) (by decide) (by decide)) (g := (mkF m 208 #[.val (.int p1), .val (.int p2), .val (.int p3), .val (.int c1), .val (.int c2), .val (.int d1), .val (.int d2), .val (.int x1), .val (.int y1), .val (.int x2), .val (.int y2), .val (.int (0 : Int32)), .val (.ref b25), .unset, .unset] [(.int y2), (.int x2), (.ref b120), (.ref b83), (.ref b75), (.ref b75)])) rfl (by rw [hml]; rfl) (Steps.refl _) (a := b75) (argsL := [(.ref b83), (.ref b120), (.int x2), (.int y2)]) (rest := [(.ref b75)]) (lenOf own_pd__Ljava_lang_String_Ljava_lang_String_ZZ_V rfl) rfl (by show 2 * 0 + _ ≤ _; exact Nat.le_of_eq rfl) (hb hby at_208) (fun _ _ => ⟨rfl, eh163, (by decide : 18 + 4 ≤ _), (by decide : 92 + 60 ≤ _)⟩)
  dsimp only [Pt.U, Pt.locs, Pt.cells, Pt.slots] at X171 l171 y171 z171 st171 hQ171 hS2 hgr
  subst l171 y171 z171
  obtain ⟨X171, hS, hZ, hown⟩ := rebS hS (by rw [eh163]; exact hk) X171 hS2 hgr hZ hown
  obtain ⟨hh171, eh171⟩ : ∃ h, T171.heap = h := ⟨_, rfl⟩
  rw [eh171] at hQ171
  rw [eh171] at hS
  have hk : hh171.size ≤ hh171.size := Nat.le_refl _
  obtain ⟨rfl, Nq171, Kq171, fq171_0, fq171_1, fq171_2, fq171_3, fq171_4⟩ := hQ171
  have N171 := Fr.app N163 Nq171
  have Kp171 := Keep.trans Kp163 Kq171 (allS (Or.inr sz_b75) all0)
  have ch172 : ∀ t, Steps p.tables e below (T171.setTop (mkF m 211 #[.val (.int p1), .val (.int p2), .val (.int p3), .val (.int c1), .val (.int c2), .val (.int d1), .val (.int d2), .val (.int x1), .val (.int y1), .val (.int x2), .val (.int y2), .val (.int (0 : Int32)), .val (.ref b25), .unset, .unset] [(.ref b75)])) t → Steps p.tables e below (s₁.setTop (entryFrame m #[(.int p1), (.int p2), (.int p3)] maxLocals)) t := fun t k => ch164 t (by
      show Steps p.tables e below (T163.setTop (mkF m 204 #[.val (.int p1), .val (.int p2), .val (.int p3), .val (.int c1), .val (.int c2), .val (.int d1), .val (.int d2), .val (.int x1), .val (.int y1), .val (.int x2), .val (.int y2), .val (.int (0 : Int32)), .val (.ref b25), .unset, .unset] [(.ref b120), (.ref b83), (.ref b75), (.ref b75)])) t
      refine XS.iload X163.here hx rfl (hb hby at_204) rfl ?_
      show Steps p.tables e below (T163.setTop (mkF m 206 #[.val (.int p1), .val (.int p2), .val (.int p3), .val (.int c1), .val (.int c2), .val (.int d1), .val (.int d2), .val (.int x1), .val (.int y1), .val (.int x2), .val (.int y2), .val (.int (0 : Int32)), .val (.ref b25), .unset, .unset] [(.int x2), (.ref b120), (.ref b83), (.ref b75), (.ref b75)])) t
      refine XS.iload X163.here hx rfl (hb hby at_206) rfl ?_
      show Steps p.tables e below (T163.setTop (mkF m 208 #[.val (.int p1), .val (.int p2), .val (.int p3), .val (.int c1), .val (.int c2), .val (.int d1), .val (.int d2), .val (.int x1), .val (.int y1), .val (.int x2), .val (.int y2), .val (.int (0 : Int32)), .val (.ref b25), .unset, .unset] [(.int y2), (.int x2), (.ref b120), (.ref b83), (.ref b75), (.ref b75)])) t
      exact st171.trans k)
  have ch174 : ∀ t, Steps p.tables e below (T171.setTop (mkF m 216 #[.val (.int p1), .val (.int p2), .val (.int p3), .val (.int c1), .val (.int c2), .val (.int d1), .val (.int d2), .val (.int x1), .val (.int y1), .val (.int x2), .val (.int y2), .val (.int (0 : Int32)), .val (.ref b25), .val (.ref b75), .unset] [(.int c2), (.int c1)])) t → Steps p.tables e below (s₁.setTop (entryFrame m #[(.int p1), (.int p2), (.int p3)] maxLocals)) t := fun t k => ch172 t (by
      show Steps p.tables e below (T171.setTop (mkF m 211 #[.val (.int p1), .val (.int p2), .val (.int p3), .val (.int c1), .val (.int c2), .val (.int d1), .val (.int d2), .val (.int x1), .val (.int y1), .val (.int x2), .val (.int y2), .val (.int (0 : Int32)), .val (.ref b25), .unset, .unset] [(.ref b75)])) t
      refine XS.astore X171.here hx rfl (hb hby at_211) rfl rfl (l' := #[.val (.int p1), .val (.int p2), .val (.int p3), .val (.int c1), .val (.int c2), .val (.int d1), .val (.int d2), .val (.int x1), .val (.int y1), .val (.int x2), .val (.int y2), .val (.int (0 : Int32)), .val (.ref b25), .val (.ref b75), .unset]) rfl ?_
      show Steps p.tables e below (T171.setTop (mkF m 213 #[.val (.int p1), .val (.int p2), .val (.int p3), .val (.int c1), .val (.int c2), .val (.int d1), .val (.int d2), .val (.int x1), .val (.int y1), .val (.int x2), .val (.int y2), .val (.int (0 : Int32)), .val (.ref b25), .val (.ref b75), .unset] [])) t
      refine XS.iloadN X171.here hx rfl (hb hby at_213) rfl ?_
      show Steps p.tables e below (T171.setTop (mkF m 214 #[.val (.int p1), .val (.int p2), .val (.int p3), .val (.int c1), .val (.int c2), .val (.int d1), .val (.int d2), .val (.int x1), .val (.int y1), .val (.int x2), .val (.int y2), .val (.int (0 : Int32)), .val (.ref b25), .val (.ref b75), .unset] [(.int c1)])) t
      refine XS.iload X171.here hx rfl (hb hby at_214) rfl ?_
      exact k)
  by_cases hq173 : c1 = c2
  · skip
    have ch176 : ∀ t, Steps p.tables e below (T171.setTop (mkF m 223 #[.val (.int p1), .val (.int p2), .val (.int p3), .val (.int c1), .val (.int c2), .val (.int d1), .val (.int d2), .val (.int x1), .val (.int y1), .val (.int x2), .val (.int y2), .val (.int (0 : Int32)), .val (.ref b25), .val (.ref b75), .unset] [(.int d2), (.int d1)])) t → Steps p.tables e below (s₁.setTop (entryFrame m #[(.int p1), (.int p2), (.int p3)] maxLocals)) t := fun t k => ch174 t (by
        show Steps p.tables e below (T171.setTop (mkF m 216 #[.val (.int p1), .val (.int p2), .val (.int p3), .val (.int c1), .val (.int c2), .val (.int d1), .val (.int d2), .val (.int x1), .val (.int y1), .val (.int x2), .val (.int y2), .val (.int (0 : Int32)), .val (.ref b25), .val (.ref b75), .unset] [(.int c2), (.int c1)])) t
        refine XS.icmpNo X171.here hx rfl (hb hby at_216) rfl (teq hq173).2 ?_
        show Steps p.tables e below (T171.setTop (mkF m 219 #[.val (.int p1), .val (.int p2), .val (.int p3), .val (.int c1), .val (.int c2), .val (.int d1), .val (.int d2), .val (.int x1), .val (.int y1), .val (.int x2), .val (.int y2), .val (.int (0 : Int32)), .val (.ref b25), .val (.ref b75), .unset] [])) t
        refine XS.iload X171.here hx rfl (hb hby at_219) rfl ?_
        show Steps p.tables e below (T171.setTop (mkF m 221 #[.val (.int p1), .val (.int p2), .val (.int p3), .val (.int c1), .val (.int c2), .val (.int d1), .val (.int d2), .val (.int x1), .val (.int y1), .val (.int x2), .val (.int y2), .val (.int (0 : Int32)), .val (.ref b25), .val (.ref b75), .unset] [(.int d1)])) t
        refine XS.iload X171.here hx rfl (hb hby at_221) rfl ?_
        exact k)
    by_cases hq175 : d1 = d2
    · skip
      have ch178 : ∀ t, Steps p.tables e below (T171.setTop (mkF m 230 #[.val (.int p1), .val (.int p2), .val (.int p3), .val (.int c1), .val (.int c2), .val (.int d1), .val (.int d2), .val (.int x1), .val (.int y1), .val (.int x2), .val (.int y2), .val (.int (0 : Int32)), .val (.ref b25), .val (.ref b75), .unset] [(.int x2), (.int x1)])) t → Steps p.tables e below (s₁.setTop (entryFrame m #[(.int p1), (.int p2), (.int p3)] maxLocals)) t := fun t k => ch176 t (by
          show Steps p.tables e below (T171.setTop (mkF m 223 #[.val (.int p1), .val (.int p2), .val (.int p3), .val (.int c1), .val (.int c2), .val (.int d1), .val (.int d2), .val (.int x1), .val (.int y1), .val (.int x2), .val (.int y2), .val (.int (0 : Int32)), .val (.ref b25), .val (.ref b75), .unset] [(.int d2), (.int d1)])) t
          refine XS.icmpNo X171.here hx rfl (hb hby at_223) rfl (teq hq175).2 ?_
          show Steps p.tables e below (T171.setTop (mkF m 226 #[.val (.int p1), .val (.int p2), .val (.int p3), .val (.int c1), .val (.int c2), .val (.int d1), .val (.int d2), .val (.int x1), .val (.int y1), .val (.int x2), .val (.int y2), .val (.int (0 : Int32)), .val (.ref b25), .val (.ref b75), .unset] [])) t
          refine XS.iload X171.here hx rfl (hb hby at_226) rfl ?_
          show Steps p.tables e below (T171.setTop (mkF m 228 #[.val (.int p1), .val (.int p2), .val (.int p3), .val (.int c1), .val (.int c2), .val (.int d1), .val (.int d2), .val (.int x1), .val (.int y1), .val (.int x2), .val (.int y2), .val (.int (0 : Int32)), .val (.ref b25), .val (.ref b75), .unset] [(.int x1)])) t
          refine XS.iload X171.here hx rfl (hb hby at_228) rfl ?_
          exact k)
      by_cases hq177 : x1 = x2
      · skip
        have ch180 : ∀ t, Steps p.tables e below (T171.setTop (mkF m 237 #[.val (.int p1), .val (.int p2), .val (.int p3), .val (.int c1), .val (.int c2), .val (.int d1), .val (.int d2), .val (.int x1), .val (.int y1), .val (.int x2), .val (.int y2), .val (.int (0 : Int32)), .val (.ref b25), .val (.ref b75), .unset] [(.int y2), (.int y1)])) t → Steps p.tables e below (s₁.setTop (entryFrame m #[(.int p1), (.int p2), (.int p3)] maxLocals)) t := fun t k => ch178 t (by
            show Steps p.tables e below (T171.setTop (mkF m 230 #[.val (.int p1), .val (.int p2), .val (.int p3), .val (.int c1), .val (.int c2), .val (.int d1), .val (.int d2), .val (.int x1), .val (.int y1), .val (.int x2), .val (.int y2), .val (.int (0 : Int32)), .val (.ref b25), .val (.ref b75), .unset] [(.int x2), (.int x1)])) t
            refine XS.icmpNo X171.here hx rfl (hb hby at_230) rfl (teq hq177).2 ?_
            show Steps p.tables e below (T171.setTop (mkF m 233 #[.val (.int p1), .val (.int p2), .val (.int p3), .val (.int c1), .val (.int c2), .val (.int d1), .val (.int d2), .val (.int x1), .val (.int y1), .val (.int x2), .val (.int y2), .val (.int (0 : Int32)), .val (.ref b25), .val (.ref b75), .unset] [])) t
            refine XS.iload X171.here hx rfl (hb hby at_233) rfl ?_
            show Steps p.tables e below (T171.setTop (mkF m 235 #[.val (.int p1), .val (.int p2), .val (.int p3), .val (.int c1), .val (.int c2), .val (.int d1), .val (.int d2), .val (.int x1), .val (.int y1), .val (.int x2), .val (.int y2), .val (.int (0 : Int32)), .val (.ref b25), .val (.ref b75), .unset] [(.int y1)])) t
            refine XS.iload X171.here hx rfl (hb hby at_235) rfl ?_
            exact k)
        by_cases hq179 : y1 = y2
        · skip
          have cf181 := ((cf152.keep Kq163).keep Kq171)
          have cf182 := (((Fld.other W145 ((((Fld.other W103 (((fq73_1.ext E75).ext E83).ext E92) (Or.inl ne_b25_b92)).keep Kq118 (ninS ne_b25_b83 nin0)).ext E120).ext E131) (Or.inl ne_b25_b131)).keep Kq163 (ninS ne_b25_b120 nin0)).keep Kq171 (ninS ne_b25_b75 nin0))
          have cf183 := (((Fld.other W145 ((((Fld.other W103 (((fq73_2.ext E75).ext E83).ext E92) (Or.inl ne_b25_b92)).keep Kq118 (ninS ne_b25_b83 nin0)).ext E120).ext E131) (Or.inl ne_b25_b131)).keep Kq163 (ninS ne_b25_b120 nin0)).keep Kq171 (ninS ne_b25_b75 nin0))
          have cf184 := (((Fld.other W145 ((((Fld.other W103 (((fq73_3.ext E75).ext E83).ext E92) (Or.inl ne_b25_b92)).keep Kq118 (ninS ne_b25_b83 nin0)).ext E120).ext E131) (Or.inl ne_b25_b131)).keep Kq163 (ninS ne_b25_b120 nin0)).keep Kq171 (ninS ne_b25_b75 nin0))
          have cf185 := (((Fld.other W145 ((((Fld.other W103 (((fq73_4.ext E75).ext E83).ext E92) (Or.inl ne_b25_b92)).keep Kq118 (ninS ne_b25_b83 nin0)).ext E120).ext E131) (Or.inl ne_b25_b131)).keep Kq163 (ninS ne_b25_b120 nin0)).keep Kq171 (ninS ne_b25_b75 nin0))
          have cf186 := ((cf153.keep Kq163).keep Kq171)
          have cf187 := (((Fld.other W145 ((((Fld.other W103 ((((((Fld.other W54 ((fv41.ext E43).ext E47) (Or.inl ne_b27_b47)).keep Kq65 (ninS ne_b27_b43 nin0)).keep Kq73 (ninS (Ne.symm ne_b25_b27) nin0)).ext E75).ext E83).ext E92) (Or.inl ne_b27_b92)).keep Kq118 (ninS ne_b27_b83 nin0)).ext E120).ext E131) (Or.inl ne_b27_b131)).keep Kq163 (ninS ne_b27_b120 nin0)).keep Kq171 (ninS ne_b27_b75 nin0))
          have cf188 := (((Fld.other W145 ((((Fld.other W103 ((((((Fld.other W54 ((fc41.ext E43).ext E47) (Or.inl ne_b27_b47)).keep Kq65 (ninS ne_b27_b43 nin0)).keep Kq73 (ninS (Ne.symm ne_b25_b27) nin0)).ext E75).ext E83).ext E92) (Or.inl ne_b27_b92)).keep Kq118 (ninS ne_b27_b83 nin0)).ext E120).ext E131) (Or.inl ne_b27_b131)).keep Kq163 (ninS ne_b27_b120 nin0)).keep Kq171 (ninS ne_b27_b75 nin0))
          have cf189 := ((cf155.keep Kq163 (ninS ne_tb41_b120 nin0)).keep Kq171 (ninS ne_tb41_b75 nin0))
          have cf190 := ((cf156.keep Kq163).keep Kq171)
          have cf191 := (((Fld.other W145 ((((Fld.other W103 ((((fv65.keep Kq73 (ninS (Ne.symm ne_b25_b43) nin0)).ext E75).ext E83).ext E92) (Or.inl ne_b43_b92)).keep Kq118 (ninS ne_b43_b83 nin0)).ext E120).ext E131) (Or.inl ne_b43_b131)).keep Kq163 (ninS ne_b43_b120 nin0)).keep Kq171 (ninS ne_b43_b75 nin0))
          have cf192 := (((Fld.other W145 ((((Fld.other W103 ((((fc65.keep Kq73 (ninS (Ne.symm ne_b25_b43) nin0)).ext E75).ext E83).ext E92) (Or.inl ne_b43_b92)).keep Kq118 (ninS ne_b43_b83 nin0)).ext E120).ext E131) (Or.inl ne_b43_b131)).keep Kq163 (ninS ne_b43_b120 nin0)).keep Kq171 (ninS ne_b43_b75 nin0))
          have cf193 := ((cf158.keep Kq163 (ninS ne_tb65_b120 nin0)).keep Kq171 (ninS ne_tb65_b75 nin0))
          have cf194 := (own_sta_keep (own_sta_keep cf151 Kq163 (allS (fun c hc => own_exa_plain cf148 c hc) all0)) Kq171 (allS (fun c hc => own_exa_plain cf165 c hc) all0))
          have cf195 := (cf170.keep Kq171)
          have cf196 := (((Fld.other W145 ((fv118.ext E120).ext E131) (Or.inl ne_b83_b131)).keep Kq163 (ninS ne_b83_b120 nin0)).keep Kq171 (ninS (Ne.symm ne_b75_b83) nin0))
          have cf197 := (((Fld.other W145 ((fc118.ext E120).ext E131) (Or.inl ne_b83_b131)).keep Kq163 (ninS ne_b83_b120 nin0)).keep Kq171 (ninS (Ne.symm ne_b75_b83) nin0))
          have cf198 := ((cf162.keep Kq163 (ninS ne_tb118_b120 nin0)).keep Kq171 (ninS (Ne.symm ne_b75_tb118) nin0))
          have cf199 := (fq163_0.keep Kq171)
          have cf200 := (fv163.keep Kq171 (ninS (Ne.symm ne_b75_b120) nin0))
          have cf201 := (fc163.keep Kq171 (ninS (Ne.symm ne_b75_b120) nin0))
          have cf202 := (av163.keep Kq171 (ninS (Ne.symm ne_b75_tb163) nin0))
          obtain ⟨cq203, kq203, qa203, qb203, qc203⟩ := isOf hZ eh171 cf181
          obtain ⟨vv204, _, ⟨T204, L204, kk204, nn204⟩, -, X204, ⟨Lc204, hQ204, l204, y204, z204⟩, st204⟩ := X171.virtualBack hx (y := (⟨"com/example/nokkel/nokkel/core/ClientRecord", "equals", "(Ljava/lang/Object;)Z"⟩ : MethodName)) (z := (⟨"com/example/nokkel/nokkel/core/ClientRecord", "equals", "(Ljava/lang/Object;)Z"⟩ : MethodName)) hown (mvT hZ (hw _ (List.mem_of_getElem? (i := 54) rfl))) (mvT hZ (hw _ (List.mem_of_getElem? (i := 55) rfl))) (notFace_of_selects (args := #[]) (mvT hZ (hw _ (List.mem_of_getElem? (i := 57) rfl)))) (mvT hZ (hw _ (List.mem_of_getElem? (i := 57) rfl))) (mvT hZ (hw _ (List.mem_of_getElem? (i := 56) rfl))) (by decide) (backOf (W := 0) (own_eq_e l Z a0 hw [] hh171 n0 (Nat.le_trans Z0 Kp171.1) b25 b27 b43 x1 y1 c1 d1 cf181 cf182 cf183 cf184 cf185 tb41 kb41 cf186 cf187 cf188 cf189 hx_c1 tb65 kb65 cf190 cf191 cf192 cf193 hx_d1 zC cf194 P5 b75 b83 b120 x2 y2 c2 d2 fq171_0 fq171_1 fq171_2 fq171_3 fq171_4 tb118 kb118 cf195 cf196 cf197 cf198 hx_c2 tb163 kb163 cf199 cf200 cf201 cf202 hx_d2 hq173 hq175 hq177 hq179) hZ (hw _ (List.mem_of_getElem? (i := 58) rfl)) (hw _ (List.mem_of_getElem? (i := 2) rfl)) (by decide) (by decide)) qa203 qc203 (g := (mkF m 304 #[.val (.int p1), .val (.int p2), .val (.int p3), .val (.int c1), .val (.int c2), .val (.int d1), .val (.int d2), .val (.int x1), .val (.int y1), .val (.int x2), .val (.int y2), .val (.int (0 : Int32)), .val (.ref b25), .val (.ref b75), .val (.int (1 : Int32))] [(.ref b75), (.ref b25)])) rfl (by rw [hml]; rfl) (Steps.refl _) (argsL := [(.ref b75)]) (rest := []) (lenOf own_pd__Ljava_lang_Object__Z rfl) rfl (by show 2 * 0 + _ ≤ _; exact Nat.le_of_eq rfl) (hb hby at_304) (fun _ _ => ⟨rfl, eh171, (by decide : 22 + 0 ≤ _), (by decide : 152 + 0 ≤ _)⟩)
          dsimp only [Pt.U, Pt.locs, Pt.cells, Pt.slots] at X204 l204 y204 z204 st204 hQ204
          subst l204 y204 z204
          obtain ⟨rfl, Nq204, e204⟩ := hQ204
          have N204 := Fr.app N171 Nq204
          have ch205 : ∀ t, Steps p.tables e below (T204.setTop (mkF m 307 #[.val (.int p1), .val (.int p2), .val (.int p3), .val (.int c1), .val (.int c2), .val (.int d1), .val (.int d2), .val (.int x1), .val (.int y1), .val (.int x2), .val (.int y2), .val (.int (0 : Int32)), .val (.ref b25), .val (.ref b75), .val (.int (1 : Int32))] [(.int (1 : Int32))])) t → Steps p.tables e below (s₁.setTop (entryFrame m #[(.int p1), (.int p2), (.int p3)] maxLocals)) t := fun t k => ch180 t (by
              show Steps p.tables e below (T171.setTop (mkF m 237 #[.val (.int p1), .val (.int p2), .val (.int p3), .val (.int c1), .val (.int c2), .val (.int d1), .val (.int d2), .val (.int x1), .val (.int y1), .val (.int x2), .val (.int y2), .val (.int (0 : Int32)), .val (.ref b25), .val (.ref b75), .unset] [(.int y2), (.int y1)])) t
              refine XS.icmpNo X171.here hx rfl (hb hby at_237) rfl (teq hq179).2 ?_
              show Steps p.tables e below (T171.setTop (mkF m 240 #[.val (.int p1), .val (.int p2), .val (.int p3), .val (.int c1), .val (.int c2), .val (.int d1), .val (.int d2), .val (.int x1), .val (.int y1), .val (.int x2), .val (.int y2), .val (.int (0 : Int32)), .val (.ref b25), .val (.ref b75), .unset] [])) t
              refine XS.iconst X171.here hx rfl (hb hby at_240) ?_
              show Steps p.tables e below (T171.setTop (mkF m 241 #[.val (.int p1), .val (.int p2), .val (.int p3), .val (.int c1), .val (.int c2), .val (.int d1), .val (.int d2), .val (.int x1), .val (.int y1), .val (.int x2), .val (.int y2), .val (.int (0 : Int32)), .val (.ref b25), .val (.ref b75), .unset] [(.int (1 : Int32))])) t
              refine XS.goto X171.here hx rfl (pc0 := 241) (pc' := 245) rfl (hb hby at_241) (by decide) (by decide) ?_
              show Steps p.tables e below (T171.setTop (mkF m 245 #[.val (.int p1), .val (.int p2), .val (.int p3), .val (.int c1), .val (.int c2), .val (.int d1), .val (.int d2), .val (.int x1), .val (.int y1), .val (.int x2), .val (.int y2), .val (.int (0 : Int32)), .val (.ref b25), .val (.ref b75), .unset] [(.int (1 : Int32))])) t
              refine XS.istore X171.here hx rfl (hb hby at_245) rfl (l' := #[.val (.int p1), .val (.int p2), .val (.int p3), .val (.int c1), .val (.int c2), .val (.int d1), .val (.int d2), .val (.int x1), .val (.int y1), .val (.int x2), .val (.int y2), .val (.int (0 : Int32)), .val (.ref b25), .val (.ref b75), .val (.int (1 : Int32))]) rfl ?_
              show Steps p.tables e below (T171.setTop (mkF m 247 #[.val (.int p1), .val (.int p2), .val (.int p3), .val (.int c1), .val (.int c2), .val (.int d1), .val (.int d2), .val (.int x1), .val (.int y1), .val (.int x2), .val (.int y2), .val (.int (0 : Int32)), .val (.ref b25), .val (.ref b75), .val (.int (1 : Int32))] [])) t
              refine XS.goto X171.here hx rfl (pc0 := 247) (pc' := 300) rfl (hb hby at_247) (by decide) (by decide) ?_
              show Steps p.tables e below (T171.setTop (mkF m 300 #[.val (.int p1), .val (.int p2), .val (.int p3), .val (.int c1), .val (.int c2), .val (.int d1), .val (.int d2), .val (.int x1), .val (.int y1), .val (.int x2), .val (.int y2), .val (.int (0 : Int32)), .val (.ref b25), .val (.ref b75), .val (.int (1 : Int32))] [])) t
              refine XS.aload X171.here hx rfl (hb hby at_300) rfl rfl ?_
              show Steps p.tables e below (T171.setTop (mkF m 302 #[.val (.int p1), .val (.int p2), .val (.int p3), .val (.int c1), .val (.int c2), .val (.int d1), .val (.int d2), .val (.int x1), .val (.int y1), .val (.int x2), .val (.int y2), .val (.int (0 : Int32)), .val (.ref b25), .val (.ref b75), .val (.int (1 : Int32))] [(.ref b25)])) t
              refine XS.aload X171.here hx rfl (hb hby at_302) rfl rfl ?_
              show Steps p.tables e below (T171.setTop (mkF m 304 #[.val (.int p1), .val (.int p2), .val (.int p3), .val (.int c1), .val (.int c2), .val (.int d1), .val (.int d2), .val (.int x1), .val (.int y1), .val (.int x2), .val (.int y2), .val (.int (0 : Int32)), .val (.ref b25), .val (.ref b75), .val (.int (1 : Int32))] [(.ref b75), (.ref b25)])) t
              exact st204.trans k)
          have ch206 : ∀ t, Steps p.tables e below (T204.setTop (mkF m 317 #[.val (.int p1), .val (.int p2), .val (.int p3), .val (.int c1), .val (.int c2), .val (.int d1), .val (.int d2), .val (.int x1), .val (.int y1), .val (.int x2), .val (.int y2), .val (.int (0 : Int32)), .val (.ref b25), .val (.ref b75), .val (.int (1 : Int32))] [(.int (1 : Int32))])) t → Steps p.tables e below (s₁.setTop (entryFrame m #[(.int p1), (.int p2), (.int p3)] maxLocals)) t := fun t k => ch205 t (by
              show Steps p.tables e below (T204.setTop (mkF m 307 #[.val (.int p1), .val (.int p2), .val (.int p3), .val (.int c1), .val (.int c2), .val (.int d1), .val (.int d2), .val (.int x1), .val (.int y1), .val (.int x2), .val (.int y2), .val (.int (0 : Int32)), .val (.ref b25), .val (.ref b75), .val (.int (1 : Int32))] [(.int (1 : Int32))])) t
              refine XS.iload X204.here hx rfl (hb hby at_307) rfl ?_
              show Steps p.tables e below (T204.setTop (mkF m 309 #[.val (.int p1), .val (.int p2), .val (.int p3), .val (.int c1), .val (.int c2), .val (.int d1), .val (.int d2), .val (.int x1), .val (.int y1), .val (.int x2), .val (.int y2), .val (.int (0 : Int32)), .val (.ref b25), .val (.ref b75), .val (.int (1 : Int32))] [(.int (1 : Int32)), (.int (1 : Int32))])) t
              refine XS.icmpNo X204.here hx rfl (hb hby at_309) rfl (teq (by decide : (1 : Int32) = (1 : Int32))).2 ?_
              show Steps p.tables e below (T204.setTop (mkF m 312 #[.val (.int p1), .val (.int p2), .val (.int p3), .val (.int c1), .val (.int c2), .val (.int d1), .val (.int d2), .val (.int x1), .val (.int y1), .val (.int x2), .val (.int y2), .val (.int (0 : Int32)), .val (.ref b25), .val (.ref b75), .val (.int (1 : Int32))] [])) t
              refine XS.iconst X204.here hx rfl (hb hby at_312) ?_
              show Steps p.tables e below (T204.setTop (mkF m 313 #[.val (.int p1), .val (.int p2), .val (.int p3), .val (.int c1), .val (.int c2), .val (.int d1), .val (.int d2), .val (.int x1), .val (.int y1), .val (.int x2), .val (.int y2), .val (.int (0 : Int32)), .val (.ref b25), .val (.ref b75), .val (.int (1 : Int32))] [(.int (1 : Int32))])) t
              refine XS.goto X204.here hx rfl (pc0 := 313) (pc' := 317) rfl (hb hby at_313) (by decide) (by decide) ?_
              exact k)
          obtain ⟨fs, hr, hrun, hended, hend⟩ := X204.leaveW hS (by rw [e204]; exact hk) (v := some (.int (1 : Int32))) (fun h => by rw [Bd.returns] at h; cases h)
          refine ⟨_, _, ch206 _ ?_, hrun, hended, _, _, rfl, ?_, hend.1, hend.2.1, hend.2.2.1, hend.2.2.2.mono (by decide) (by decide)⟩
          · show Steps p.tables e below (T204.setTop (mkF m 317 #[.val (.int p1), .val (.int p2), .val (.int p3), .val (.int c1), .val (.int c2), .val (.int d1), .val (.int d2), .val (.int x1), .val (.int y1), .val (.int x2), .val (.int y2), .val (.int (0 : Int32)), .val (.ref b25), .val (.ref b75), .val (.int (1 : Int32))] [(.int (1 : Int32))])) _
            exact retN X204 hx (t := .boolean) Bd.returns (by simp) (hb hby at_317) hr
          · show QN (some (.int (1 : Int32))) n0 _ T204.heap _
            rw [e204]
            exact ⟨rfl, N204⟩
        · skip
          have cf207 := ((cf152.keep Kq163).keep Kq171)
          have cf208 := (((Fld.other W145 ((((Fld.other W103 (((fq73_1.ext E75).ext E83).ext E92) (Or.inl ne_b25_b92)).keep Kq118 (ninS ne_b25_b83 nin0)).ext E120).ext E131) (Or.inl ne_b25_b131)).keep Kq163 (ninS ne_b25_b120 nin0)).keep Kq171 (ninS ne_b25_b75 nin0))
          have cf209 := (((Fld.other W145 ((((Fld.other W103 (((fq73_2.ext E75).ext E83).ext E92) (Or.inl ne_b25_b92)).keep Kq118 (ninS ne_b25_b83 nin0)).ext E120).ext E131) (Or.inl ne_b25_b131)).keep Kq163 (ninS ne_b25_b120 nin0)).keep Kq171 (ninS ne_b25_b75 nin0))
          have cf210 := (((Fld.other W145 ((((Fld.other W103 (((fq73_3.ext E75).ext E83).ext E92) (Or.inl ne_b25_b92)).keep Kq118 (ninS ne_b25_b83 nin0)).ext E120).ext E131) (Or.inl ne_b25_b131)).keep Kq163 (ninS ne_b25_b120 nin0)).keep Kq171 (ninS ne_b25_b75 nin0))
          have cf211 := (((Fld.other W145 ((((Fld.other W103 (((fq73_4.ext E75).ext E83).ext E92) (Or.inl ne_b25_b92)).keep Kq118 (ninS ne_b25_b83 nin0)).ext E120).ext E131) (Or.inl ne_b25_b131)).keep Kq163 (ninS ne_b25_b120 nin0)).keep Kq171 (ninS ne_b25_b75 nin0))
          have cf212 := ((cf153.keep Kq163).keep Kq171)
          have cf213 := (((Fld.other W145 ((((Fld.other W103 ((((((Fld.other W54 ((fv41.ext E43).ext E47) (Or.inl ne_b27_b47)).keep Kq65 (ninS ne_b27_b43 nin0)).keep Kq73 (ninS (Ne.symm ne_b25_b27) nin0)).ext E75).ext E83).ext E92) (Or.inl ne_b27_b92)).keep Kq118 (ninS ne_b27_b83 nin0)).ext E120).ext E131) (Or.inl ne_b27_b131)).keep Kq163 (ninS ne_b27_b120 nin0)).keep Kq171 (ninS ne_b27_b75 nin0))
          have cf214 := (((Fld.other W145 ((((Fld.other W103 ((((((Fld.other W54 ((fc41.ext E43).ext E47) (Or.inl ne_b27_b47)).keep Kq65 (ninS ne_b27_b43 nin0)).keep Kq73 (ninS (Ne.symm ne_b25_b27) nin0)).ext E75).ext E83).ext E92) (Or.inl ne_b27_b92)).keep Kq118 (ninS ne_b27_b83 nin0)).ext E120).ext E131) (Or.inl ne_b27_b131)).keep Kq163 (ninS ne_b27_b120 nin0)).keep Kq171 (ninS ne_b27_b75 nin0))
          have cf215 := ((cf155.keep Kq163 (ninS ne_tb41_b120 nin0)).keep Kq171 (ninS ne_tb41_b75 nin0))
          have cf216 := ((cf156.keep Kq163).keep Kq171)
          have cf217 := (((Fld.other W145 ((((Fld.other W103 ((((fv65.keep Kq73 (ninS (Ne.symm ne_b25_b43) nin0)).ext E75).ext E83).ext E92) (Or.inl ne_b43_b92)).keep Kq118 (ninS ne_b43_b83 nin0)).ext E120).ext E131) (Or.inl ne_b43_b131)).keep Kq163 (ninS ne_b43_b120 nin0)).keep Kq171 (ninS ne_b43_b75 nin0))
          have cf218 := (((Fld.other W145 ((((Fld.other W103 ((((fc65.keep Kq73 (ninS (Ne.symm ne_b25_b43) nin0)).ext E75).ext E83).ext E92) (Or.inl ne_b43_b92)).keep Kq118 (ninS ne_b43_b83 nin0)).ext E120).ext E131) (Or.inl ne_b43_b131)).keep Kq163 (ninS ne_b43_b120 nin0)).keep Kq171 (ninS ne_b43_b75 nin0))
          have cf219 := ((cf158.keep Kq163 (ninS ne_tb65_b120 nin0)).keep Kq171 (ninS ne_tb65_b75 nin0))
          have cf220 := (own_sta_keep (own_sta_keep cf151 Kq163 (allS (fun c hc => own_exa_plain cf148 c hc) all0)) Kq171 (allS (fun c hc => own_exa_plain cf165 c hc) all0))
          have cf221 := (cf170.keep Kq171)
          have cf222 := (((Fld.other W145 ((fv118.ext E120).ext E131) (Or.inl ne_b83_b131)).keep Kq163 (ninS ne_b83_b120 nin0)).keep Kq171 (ninS (Ne.symm ne_b75_b83) nin0))
          have cf223 := (((Fld.other W145 ((fc118.ext E120).ext E131) (Or.inl ne_b83_b131)).keep Kq163 (ninS ne_b83_b120 nin0)).keep Kq171 (ninS (Ne.symm ne_b75_b83) nin0))
          have cf224 := ((cf162.keep Kq163 (ninS ne_tb118_b120 nin0)).keep Kq171 (ninS (Ne.symm ne_b75_tb118) nin0))
          have cf225 := (fq163_0.keep Kq171)
          have cf226 := (fv163.keep Kq171 (ninS (Ne.symm ne_b75_b120) nin0))
          have cf227 := (fc163.keep Kq171 (ninS (Ne.symm ne_b75_b120) nin0))
          have cf228 := (av163.keep Kq171 (ninS (Ne.symm ne_b75_tb163) nin0))
          obtain ⟨cq229, kq229, qa229, qb229, qc229⟩ := isOf hZ eh171 cf207
          obtain ⟨vv230, _, ⟨T230, L230, kk230, nn230⟩, -, X230, ⟨Lc230, hQ230, l230, y230, z230⟩, st230⟩ := X171.virtualBack hx (y := (⟨"com/example/nokkel/nokkel/core/ClientRecord", "equals", "(Ljava/lang/Object;)Z"⟩ : MethodName)) (z := (⟨"com/example/nokkel/nokkel/core/ClientRecord", "equals", "(Ljava/lang/Object;)Z"⟩ : MethodName)) hown (mvT hZ (hw _ (List.mem_of_getElem? (i := 54) rfl))) (mvT hZ (hw _ (List.mem_of_getElem? (i := 55) rfl))) (notFace_of_selects (args := #[]) (mvT hZ (hw _ (List.mem_of_getElem? (i := 57) rfl)))) (mvT hZ (hw _ (List.mem_of_getElem? (i := 57) rfl))) (mvT hZ (hw _ (List.mem_of_getElem? (i := 56) rfl))) (by decide) (backOf (W := 0) (own_eq_y l Z a0 hw [] hh171 n0 (Nat.le_trans Z0 Kp171.1) b25 b27 b43 x1 y1 c1 d1 cf207 cf208 cf209 cf210 cf211 tb41 kb41 cf212 cf213 cf214 cf215 hx_c1 tb65 kb65 cf216 cf217 cf218 cf219 hx_d1 zC cf220 P5 b75 b83 b120 x2 y2 c2 d2 fq171_0 fq171_1 fq171_2 fq171_3 fq171_4 tb118 kb118 cf221 cf222 cf223 cf224 hx_c2 tb163 kb163 cf225 cf226 cf227 cf228 hx_d2 hq173 hq175 hq177 hq179) hZ (hw _ (List.mem_of_getElem? (i := 58) rfl)) (hw _ (List.mem_of_getElem? (i := 2) rfl)) (by decide) (by decide)) qa229 qc229 (g := (mkF m 304 #[.val (.int p1), .val (.int p2), .val (.int p3), .val (.int c1), .val (.int c2), .val (.int d1), .val (.int d2), .val (.int x1), .val (.int y1), .val (.int x2), .val (.int y2), .val (.int (0 : Int32)), .val (.ref b25), .val (.ref b75), .val (.int (0 : Int32))] [(.ref b75), (.ref b25)])) rfl (by rw [hml]; rfl) (Steps.refl _) (argsL := [(.ref b75)]) (rest := []) (lenOf own_pd__Ljava_lang_Object__Z rfl) rfl (by show 2 * 0 + _ ≤ _; exact Nat.le_of_eq rfl) (hb hby at_304) (fun _ _ => ⟨rfl, eh171, (by decide : 22 + 0 ≤ _), (by decide : 152 + 0 ≤ _)⟩)
          dsimp only [Pt.U, Pt.locs, Pt.cells, Pt.slots] at X230 l230 y230 z230 st230 hQ230
          subst l230 y230 z230
          obtain ⟨rfl, Nq230, e230⟩ := hQ230
          have N230 := Fr.app N171 Nq230
          have ch231 : ∀ t, Steps p.tables e below (T230.setTop (mkF m 307 #[.val (.int p1), .val (.int p2), .val (.int p3), .val (.int c1), .val (.int c2), .val (.int d1), .val (.int d2), .val (.int x1), .val (.int y1), .val (.int x2), .val (.int y2), .val (.int (0 : Int32)), .val (.ref b25), .val (.ref b75), .val (.int (0 : Int32))] [(.int (0 : Int32))])) t → Steps p.tables e below (s₁.setTop (entryFrame m #[(.int p1), (.int p2), (.int p3)] maxLocals)) t := fun t k => ch180 t (by
              show Steps p.tables e below (T171.setTop (mkF m 237 #[.val (.int p1), .val (.int p2), .val (.int p3), .val (.int c1), .val (.int c2), .val (.int d1), .val (.int d2), .val (.int x1), .val (.int y1), .val (.int x2), .val (.int y2), .val (.int (0 : Int32)), .val (.ref b25), .val (.ref b75), .unset] [(.int y2), (.int y1)])) t
              refine XS.icmpYes X171.here hx rfl (pc0 := 237) (pc' := 244) rfl (hb hby at_237) rfl (feq hq179).2 (by decide) (by decide) ?_
              show Steps p.tables e below (T171.setTop (mkF m 244 #[.val (.int p1), .val (.int p2), .val (.int p3), .val (.int c1), .val (.int c2), .val (.int d1), .val (.int d2), .val (.int x1), .val (.int y1), .val (.int x2), .val (.int y2), .val (.int (0 : Int32)), .val (.ref b25), .val (.ref b75), .unset] [])) t
              refine XS.iconst X171.here hx rfl (hb hby at_244) ?_
              show Steps p.tables e below (T171.setTop (mkF m 245 #[.val (.int p1), .val (.int p2), .val (.int p3), .val (.int c1), .val (.int c2), .val (.int d1), .val (.int d2), .val (.int x1), .val (.int y1), .val (.int x2), .val (.int y2), .val (.int (0 : Int32)), .val (.ref b25), .val (.ref b75), .unset] [(.int (0 : Int32))])) t
              refine XS.istore X171.here hx rfl (hb hby at_245) rfl (l' := #[.val (.int p1), .val (.int p2), .val (.int p3), .val (.int c1), .val (.int c2), .val (.int d1), .val (.int d2), .val (.int x1), .val (.int y1), .val (.int x2), .val (.int y2), .val (.int (0 : Int32)), .val (.ref b25), .val (.ref b75), .val (.int (0 : Int32))]) rfl ?_
              show Steps p.tables e below (T171.setTop (mkF m 247 #[.val (.int p1), .val (.int p2), .val (.int p3), .val (.int c1), .val (.int c2), .val (.int d1), .val (.int d2), .val (.int x1), .val (.int y1), .val (.int x2), .val (.int y2), .val (.int (0 : Int32)), .val (.ref b25), .val (.ref b75), .val (.int (0 : Int32))] [])) t
              refine XS.goto X171.here hx rfl (pc0 := 247) (pc' := 300) rfl (hb hby at_247) (by decide) (by decide) ?_
              show Steps p.tables e below (T171.setTop (mkF m 300 #[.val (.int p1), .val (.int p2), .val (.int p3), .val (.int c1), .val (.int c2), .val (.int d1), .val (.int d2), .val (.int x1), .val (.int y1), .val (.int x2), .val (.int y2), .val (.int (0 : Int32)), .val (.ref b25), .val (.ref b75), .val (.int (0 : Int32))] [])) t
              refine XS.aload X171.here hx rfl (hb hby at_300) rfl rfl ?_
              show Steps p.tables e below (T171.setTop (mkF m 302 #[.val (.int p1), .val (.int p2), .val (.int p3), .val (.int c1), .val (.int c2), .val (.int d1), .val (.int d2), .val (.int x1), .val (.int y1), .val (.int x2), .val (.int y2), .val (.int (0 : Int32)), .val (.ref b25), .val (.ref b75), .val (.int (0 : Int32))] [(.ref b25)])) t
              refine XS.aload X171.here hx rfl (hb hby at_302) rfl rfl ?_
              show Steps p.tables e below (T171.setTop (mkF m 304 #[.val (.int p1), .val (.int p2), .val (.int p3), .val (.int c1), .val (.int c2), .val (.int d1), .val (.int d2), .val (.int x1), .val (.int y1), .val (.int x2), .val (.int y2), .val (.int (0 : Int32)), .val (.ref b25), .val (.ref b75), .val (.int (0 : Int32))] [(.ref b75), (.ref b25)])) t
              exact st230.trans k)
          have ch232 : ∀ t, Steps p.tables e below (T230.setTop (mkF m 317 #[.val (.int p1), .val (.int p2), .val (.int p3), .val (.int c1), .val (.int c2), .val (.int d1), .val (.int d2), .val (.int x1), .val (.int y1), .val (.int x2), .val (.int y2), .val (.int (0 : Int32)), .val (.ref b25), .val (.ref b75), .val (.int (0 : Int32))] [(.int (1 : Int32))])) t → Steps p.tables e below (s₁.setTop (entryFrame m #[(.int p1), (.int p2), (.int p3)] maxLocals)) t := fun t k => ch231 t (by
              show Steps p.tables e below (T230.setTop (mkF m 307 #[.val (.int p1), .val (.int p2), .val (.int p3), .val (.int c1), .val (.int c2), .val (.int d1), .val (.int d2), .val (.int x1), .val (.int y1), .val (.int x2), .val (.int y2), .val (.int (0 : Int32)), .val (.ref b25), .val (.ref b75), .val (.int (0 : Int32))] [(.int (0 : Int32))])) t
              refine XS.iload X230.here hx rfl (hb hby at_307) rfl ?_
              show Steps p.tables e below (T230.setTop (mkF m 309 #[.val (.int p1), .val (.int p2), .val (.int p3), .val (.int c1), .val (.int c2), .val (.int d1), .val (.int d2), .val (.int x1), .val (.int y1), .val (.int x2), .val (.int y2), .val (.int (0 : Int32)), .val (.ref b25), .val (.ref b75), .val (.int (0 : Int32))] [(.int (0 : Int32)), (.int (0 : Int32))])) t
              refine XS.icmpNo X230.here hx rfl (hb hby at_309) rfl (teq (by decide : (0 : Int32) = (0 : Int32))).2 ?_
              show Steps p.tables e below (T230.setTop (mkF m 312 #[.val (.int p1), .val (.int p2), .val (.int p3), .val (.int c1), .val (.int c2), .val (.int d1), .val (.int d2), .val (.int x1), .val (.int y1), .val (.int x2), .val (.int y2), .val (.int (0 : Int32)), .val (.ref b25), .val (.ref b75), .val (.int (0 : Int32))] [])) t
              refine XS.iconst X230.here hx rfl (hb hby at_312) ?_
              show Steps p.tables e below (T230.setTop (mkF m 313 #[.val (.int p1), .val (.int p2), .val (.int p3), .val (.int c1), .val (.int c2), .val (.int d1), .val (.int d2), .val (.int x1), .val (.int y1), .val (.int x2), .val (.int y2), .val (.int (0 : Int32)), .val (.ref b25), .val (.ref b75), .val (.int (0 : Int32))] [(.int (1 : Int32))])) t
              refine XS.goto X230.here hx rfl (pc0 := 313) (pc' := 317) rfl (hb hby at_313) (by decide) (by decide) ?_
              exact k)
          obtain ⟨fs, hr, hrun, hended, hend⟩ := X230.leaveW hS (by rw [e230]; exact hk) (v := some (.int (1 : Int32))) (fun h => by rw [Bd.returns] at h; cases h)
          refine ⟨_, _, ch232 _ ?_, hrun, hended, _, _, rfl, ?_, hend.1, hend.2.1, hend.2.2.1, hend.2.2.2.mono (by decide) (by decide)⟩
          · show Steps p.tables e below (T230.setTop (mkF m 317 #[.val (.int p1), .val (.int p2), .val (.int p3), .val (.int c1), .val (.int c2), .val (.int d1), .val (.int d2), .val (.int x1), .val (.int y1), .val (.int x2), .val (.int y2), .val (.int (0 : Int32)), .val (.ref b25), .val (.ref b75), .val (.int (0 : Int32))] [(.int (1 : Int32))])) _
            exact retN X230 hx (t := .boolean) Bd.returns (by simp) (hb hby at_317) hr
          · show QN (some (.int (1 : Int32))) n0 _ T230.heap _
            rw [e230]
            exact ⟨rfl, N230⟩
      · skip
        have cf233 := ((cf152.keep Kq163).keep Kq171)
        have cf234 := (((Fld.other W145 ((((Fld.other W103 (((fq73_1.ext E75).ext E83).ext E92) (Or.inl ne_b25_b92)).keep Kq118 (ninS ne_b25_b83 nin0)).ext E120).ext E131) (Or.inl ne_b25_b131)).keep Kq163 (ninS ne_b25_b120 nin0)).keep Kq171 (ninS ne_b25_b75 nin0))
        have cf235 := (((Fld.other W145 ((((Fld.other W103 (((fq73_2.ext E75).ext E83).ext E92) (Or.inl ne_b25_b92)).keep Kq118 (ninS ne_b25_b83 nin0)).ext E120).ext E131) (Or.inl ne_b25_b131)).keep Kq163 (ninS ne_b25_b120 nin0)).keep Kq171 (ninS ne_b25_b75 nin0))
        have cf236 := (((Fld.other W145 ((((Fld.other W103 (((fq73_3.ext E75).ext E83).ext E92) (Or.inl ne_b25_b92)).keep Kq118 (ninS ne_b25_b83 nin0)).ext E120).ext E131) (Or.inl ne_b25_b131)).keep Kq163 (ninS ne_b25_b120 nin0)).keep Kq171 (ninS ne_b25_b75 nin0))
        have cf237 := (((Fld.other W145 ((((Fld.other W103 (((fq73_4.ext E75).ext E83).ext E92) (Or.inl ne_b25_b92)).keep Kq118 (ninS ne_b25_b83 nin0)).ext E120).ext E131) (Or.inl ne_b25_b131)).keep Kq163 (ninS ne_b25_b120 nin0)).keep Kq171 (ninS ne_b25_b75 nin0))
        have cf238 := ((cf153.keep Kq163).keep Kq171)
        have cf239 := (((Fld.other W145 ((((Fld.other W103 ((((((Fld.other W54 ((fv41.ext E43).ext E47) (Or.inl ne_b27_b47)).keep Kq65 (ninS ne_b27_b43 nin0)).keep Kq73 (ninS (Ne.symm ne_b25_b27) nin0)).ext E75).ext E83).ext E92) (Or.inl ne_b27_b92)).keep Kq118 (ninS ne_b27_b83 nin0)).ext E120).ext E131) (Or.inl ne_b27_b131)).keep Kq163 (ninS ne_b27_b120 nin0)).keep Kq171 (ninS ne_b27_b75 nin0))
        have cf240 := (((Fld.other W145 ((((Fld.other W103 ((((((Fld.other W54 ((fc41.ext E43).ext E47) (Or.inl ne_b27_b47)).keep Kq65 (ninS ne_b27_b43 nin0)).keep Kq73 (ninS (Ne.symm ne_b25_b27) nin0)).ext E75).ext E83).ext E92) (Or.inl ne_b27_b92)).keep Kq118 (ninS ne_b27_b83 nin0)).ext E120).ext E131) (Or.inl ne_b27_b131)).keep Kq163 (ninS ne_b27_b120 nin0)).keep Kq171 (ninS ne_b27_b75 nin0))
        have cf241 := ((cf155.keep Kq163 (ninS ne_tb41_b120 nin0)).keep Kq171 (ninS ne_tb41_b75 nin0))
        have cf242 := ((cf156.keep Kq163).keep Kq171)
        have cf243 := (((Fld.other W145 ((((Fld.other W103 ((((fv65.keep Kq73 (ninS (Ne.symm ne_b25_b43) nin0)).ext E75).ext E83).ext E92) (Or.inl ne_b43_b92)).keep Kq118 (ninS ne_b43_b83 nin0)).ext E120).ext E131) (Or.inl ne_b43_b131)).keep Kq163 (ninS ne_b43_b120 nin0)).keep Kq171 (ninS ne_b43_b75 nin0))
        have cf244 := (((Fld.other W145 ((((Fld.other W103 ((((fc65.keep Kq73 (ninS (Ne.symm ne_b25_b43) nin0)).ext E75).ext E83).ext E92) (Or.inl ne_b43_b92)).keep Kq118 (ninS ne_b43_b83 nin0)).ext E120).ext E131) (Or.inl ne_b43_b131)).keep Kq163 (ninS ne_b43_b120 nin0)).keep Kq171 (ninS ne_b43_b75 nin0))
        have cf245 := ((cf158.keep Kq163 (ninS ne_tb65_b120 nin0)).keep Kq171 (ninS ne_tb65_b75 nin0))
        have cf246 := (own_sta_keep (own_sta_keep cf151 Kq163 (allS (fun c hc => own_exa_plain cf148 c hc) all0)) Kq171 (allS (fun c hc => own_exa_plain cf165 c hc) all0))
        have cf247 := (cf170.keep Kq171)
        have cf248 := (((Fld.other W145 ((fv118.ext E120).ext E131) (Or.inl ne_b83_b131)).keep Kq163 (ninS ne_b83_b120 nin0)).keep Kq171 (ninS (Ne.symm ne_b75_b83) nin0))
        have cf249 := (((Fld.other W145 ((fc118.ext E120).ext E131) (Or.inl ne_b83_b131)).keep Kq163 (ninS ne_b83_b120 nin0)).keep Kq171 (ninS (Ne.symm ne_b75_b83) nin0))
        have cf250 := ((cf162.keep Kq163 (ninS ne_tb118_b120 nin0)).keep Kq171 (ninS (Ne.symm ne_b75_tb118) nin0))
        have cf251 := (fq163_0.keep Kq171)
        have cf252 := (fv163.keep Kq171 (ninS (Ne.symm ne_b75_b120) nin0))
        have cf253 := (fc163.keep Kq171 (ninS (Ne.symm ne_b75_b120) nin0))
        have cf254 := (av163.keep Kq171 (ninS (Ne.symm ne_b75_tb163) nin0))
        obtain ⟨cq255, kq255, qa255, qb255, qc255⟩ := isOf hZ eh171 cf233
        obtain ⟨vv256, _, ⟨T256, L256, kk256, nn256⟩, -, X256, ⟨Lc256, hQ256, l256, y256, z256⟩, st256⟩ := X171.virtualBack hx (y := (⟨"com/example/nokkel/nokkel/core/ClientRecord", "equals", "(Ljava/lang/Object;)Z"⟩ : MethodName)) (z := (⟨"com/example/nokkel/nokkel/core/ClientRecord", "equals", "(Ljava/lang/Object;)Z"⟩ : MethodName)) hown (mvT hZ (hw _ (List.mem_of_getElem? (i := 54) rfl))) (mvT hZ (hw _ (List.mem_of_getElem? (i := 55) rfl))) (notFace_of_selects (args := #[]) (mvT hZ (hw _ (List.mem_of_getElem? (i := 57) rfl)))) (mvT hZ (hw _ (List.mem_of_getElem? (i := 57) rfl))) (mvT hZ (hw _ (List.mem_of_getElem? (i := 56) rfl))) (by decide) (backOf (W := 0) (own_eq_x l Z a0 hw [] hh171 n0 (Nat.le_trans Z0 Kp171.1) b25 b27 b43 x1 y1 c1 d1 cf233 cf234 cf235 cf236 cf237 tb41 kb41 cf238 cf239 cf240 cf241 hx_c1 tb65 kb65 cf242 cf243 cf244 cf245 hx_d1 zC cf246 P5 b75 b83 b120 x2 y2 c2 d2 fq171_0 fq171_1 fq171_2 fq171_3 fq171_4 tb118 kb118 cf247 cf248 cf249 cf250 hx_c2 tb163 kb163 cf251 cf252 cf253 cf254 hx_d2 hq173 hq175 hq177) hZ (hw _ (List.mem_of_getElem? (i := 58) rfl)) (hw _ (List.mem_of_getElem? (i := 2) rfl)) (by decide) (by decide)) qa255 qc255 (g := (mkF m 304 #[.val (.int p1), .val (.int p2), .val (.int p3), .val (.int c1), .val (.int c2), .val (.int d1), .val (.int d2), .val (.int x1), .val (.int y1), .val (.int x2), .val (.int y2), .val (.int (0 : Int32)), .val (.ref b25), .val (.ref b75), .val (.int (0 : Int32))] [(.ref b75), (.ref b25)])) rfl (by rw [hml]; rfl) (Steps.refl _) (argsL := [(.ref b75)]) (rest := []) (lenOf own_pd__Ljava_lang_Object__Z rfl) rfl (by show 2 * 0 + _ ≤ _; exact Nat.le_of_eq rfl) (hb hby at_304) (fun _ _ => ⟨rfl, eh171, (by decide : 22 + 0 ≤ _), (by decide : 152 + 0 ≤ _)⟩)
        dsimp only [Pt.U, Pt.locs, Pt.cells, Pt.slots] at X256 l256 y256 z256 st256 hQ256
        subst l256 y256 z256
        obtain ⟨rfl, Nq256, e256⟩ := hQ256
        have N256 := Fr.app N171 Nq256
        have ch257 : ∀ t, Steps p.tables e below (T256.setTop (mkF m 307 #[.val (.int p1), .val (.int p2), .val (.int p3), .val (.int c1), .val (.int c2), .val (.int d1), .val (.int d2), .val (.int x1), .val (.int y1), .val (.int x2), .val (.int y2), .val (.int (0 : Int32)), .val (.ref b25), .val (.ref b75), .val (.int (0 : Int32))] [(.int (0 : Int32))])) t → Steps p.tables e below (s₁.setTop (entryFrame m #[(.int p1), (.int p2), (.int p3)] maxLocals)) t := fun t k => ch178 t (by
            show Steps p.tables e below (T171.setTop (mkF m 230 #[.val (.int p1), .val (.int p2), .val (.int p3), .val (.int c1), .val (.int c2), .val (.int d1), .val (.int d2), .val (.int x1), .val (.int y1), .val (.int x2), .val (.int y2), .val (.int (0 : Int32)), .val (.ref b25), .val (.ref b75), .unset] [(.int x2), (.int x1)])) t
            refine XS.icmpYes X171.here hx rfl (pc0 := 230) (pc' := 244) rfl (hb hby at_230) rfl (feq hq177).2 (by decide) (by decide) ?_
            show Steps p.tables e below (T171.setTop (mkF m 244 #[.val (.int p1), .val (.int p2), .val (.int p3), .val (.int c1), .val (.int c2), .val (.int d1), .val (.int d2), .val (.int x1), .val (.int y1), .val (.int x2), .val (.int y2), .val (.int (0 : Int32)), .val (.ref b25), .val (.ref b75), .unset] [])) t
            refine XS.iconst X171.here hx rfl (hb hby at_244) ?_
            show Steps p.tables e below (T171.setTop (mkF m 245 #[.val (.int p1), .val (.int p2), .val (.int p3), .val (.int c1), .val (.int c2), .val (.int d1), .val (.int d2), .val (.int x1), .val (.int y1), .val (.int x2), .val (.int y2), .val (.int (0 : Int32)), .val (.ref b25), .val (.ref b75), .unset] [(.int (0 : Int32))])) t
            refine XS.istore X171.here hx rfl (hb hby at_245) rfl (l' := #[.val (.int p1), .val (.int p2), .val (.int p3), .val (.int c1), .val (.int c2), .val (.int d1), .val (.int d2), .val (.int x1), .val (.int y1), .val (.int x2), .val (.int y2), .val (.int (0 : Int32)), .val (.ref b25), .val (.ref b75), .val (.int (0 : Int32))]) rfl ?_
            show Steps p.tables e below (T171.setTop (mkF m 247 #[.val (.int p1), .val (.int p2), .val (.int p3), .val (.int c1), .val (.int c2), .val (.int d1), .val (.int d2), .val (.int x1), .val (.int y1), .val (.int x2), .val (.int y2), .val (.int (0 : Int32)), .val (.ref b25), .val (.ref b75), .val (.int (0 : Int32))] [])) t
            refine XS.goto X171.here hx rfl (pc0 := 247) (pc' := 300) rfl (hb hby at_247) (by decide) (by decide) ?_
            show Steps p.tables e below (T171.setTop (mkF m 300 #[.val (.int p1), .val (.int p2), .val (.int p3), .val (.int c1), .val (.int c2), .val (.int d1), .val (.int d2), .val (.int x1), .val (.int y1), .val (.int x2), .val (.int y2), .val (.int (0 : Int32)), .val (.ref b25), .val (.ref b75), .val (.int (0 : Int32))] [])) t
            refine XS.aload X171.here hx rfl (hb hby at_300) rfl rfl ?_
            show Steps p.tables e below (T171.setTop (mkF m 302 #[.val (.int p1), .val (.int p2), .val (.int p3), .val (.int c1), .val (.int c2), .val (.int d1), .val (.int d2), .val (.int x1), .val (.int y1), .val (.int x2), .val (.int y2), .val (.int (0 : Int32)), .val (.ref b25), .val (.ref b75), .val (.int (0 : Int32))] [(.ref b25)])) t
            refine XS.aload X171.here hx rfl (hb hby at_302) rfl rfl ?_
            show Steps p.tables e below (T171.setTop (mkF m 304 #[.val (.int p1), .val (.int p2), .val (.int p3), .val (.int c1), .val (.int c2), .val (.int d1), .val (.int d2), .val (.int x1), .val (.int y1), .val (.int x2), .val (.int y2), .val (.int (0 : Int32)), .val (.ref b25), .val (.ref b75), .val (.int (0 : Int32))] [(.ref b75), (.ref b25)])) t
            exact st256.trans k)
        have ch258 : ∀ t, Steps p.tables e below (T256.setTop (mkF m 317 #[.val (.int p1), .val (.int p2), .val (.int p3), .val (.int c1), .val (.int c2), .val (.int d1), .val (.int d2), .val (.int x1), .val (.int y1), .val (.int x2), .val (.int y2), .val (.int (0 : Int32)), .val (.ref b25), .val (.ref b75), .val (.int (0 : Int32))] [(.int (1 : Int32))])) t → Steps p.tables e below (s₁.setTop (entryFrame m #[(.int p1), (.int p2), (.int p3)] maxLocals)) t := fun t k => ch257 t (by
            show Steps p.tables e below (T256.setTop (mkF m 307 #[.val (.int p1), .val (.int p2), .val (.int p3), .val (.int c1), .val (.int c2), .val (.int d1), .val (.int d2), .val (.int x1), .val (.int y1), .val (.int x2), .val (.int y2), .val (.int (0 : Int32)), .val (.ref b25), .val (.ref b75), .val (.int (0 : Int32))] [(.int (0 : Int32))])) t
            refine XS.iload X256.here hx rfl (hb hby at_307) rfl ?_
            show Steps p.tables e below (T256.setTop (mkF m 309 #[.val (.int p1), .val (.int p2), .val (.int p3), .val (.int c1), .val (.int c2), .val (.int d1), .val (.int d2), .val (.int x1), .val (.int y1), .val (.int x2), .val (.int y2), .val (.int (0 : Int32)), .val (.ref b25), .val (.ref b75), .val (.int (0 : Int32))] [(.int (0 : Int32)), (.int (0 : Int32))])) t
            refine XS.icmpNo X256.here hx rfl (hb hby at_309) rfl (teq (by decide : (0 : Int32) = (0 : Int32))).2 ?_
            show Steps p.tables e below (T256.setTop (mkF m 312 #[.val (.int p1), .val (.int p2), .val (.int p3), .val (.int c1), .val (.int c2), .val (.int d1), .val (.int d2), .val (.int x1), .val (.int y1), .val (.int x2), .val (.int y2), .val (.int (0 : Int32)), .val (.ref b25), .val (.ref b75), .val (.int (0 : Int32))] [])) t
            refine XS.iconst X256.here hx rfl (hb hby at_312) ?_
            show Steps p.tables e below (T256.setTop (mkF m 313 #[.val (.int p1), .val (.int p2), .val (.int p3), .val (.int c1), .val (.int c2), .val (.int d1), .val (.int d2), .val (.int x1), .val (.int y1), .val (.int x2), .val (.int y2), .val (.int (0 : Int32)), .val (.ref b25), .val (.ref b75), .val (.int (0 : Int32))] [(.int (1 : Int32))])) t
            refine XS.goto X256.here hx rfl (pc0 := 313) (pc' := 317) rfl (hb hby at_313) (by decide) (by decide) ?_
            exact k)
        obtain ⟨fs, hr, hrun, hended, hend⟩ := X256.leaveW hS (by rw [e256]; exact hk) (v := some (.int (1 : Int32))) (fun h => by rw [Bd.returns] at h; cases h)
        refine ⟨_, _, ch258 _ ?_, hrun, hended, _, _, rfl, ?_, hend.1, hend.2.1, hend.2.2.1, hend.2.2.2.mono (by decide) (by decide)⟩
        · show Steps p.tables e below (T256.setTop (mkF m 317 #[.val (.int p1), .val (.int p2), .val (.int p3), .val (.int c1), .val (.int c2), .val (.int d1), .val (.int d2), .val (.int x1), .val (.int y1), .val (.int x2), .val (.int y2), .val (.int (0 : Int32)), .val (.ref b25), .val (.ref b75), .val (.int (0 : Int32))] [(.int (1 : Int32))])) _
          exact retN X256 hx (t := .boolean) Bd.returns (by simp) (hb hby at_317) hr
        · show QN (some (.int (1 : Int32))) n0 _ T256.heap _
          rw [e256]
          exact ⟨rfl, N256⟩
    · skip
      have cf259 := ((cf152.keep Kq163).keep Kq171)
      have cf260 := (((Fld.other W145 ((((Fld.other W103 (((fq73_1.ext E75).ext E83).ext E92) (Or.inl ne_b25_b92)).keep Kq118 (ninS ne_b25_b83 nin0)).ext E120).ext E131) (Or.inl ne_b25_b131)).keep Kq163 (ninS ne_b25_b120 nin0)).keep Kq171 (ninS ne_b25_b75 nin0))
      have cf261 := (((Fld.other W145 ((((Fld.other W103 (((fq73_2.ext E75).ext E83).ext E92) (Or.inl ne_b25_b92)).keep Kq118 (ninS ne_b25_b83 nin0)).ext E120).ext E131) (Or.inl ne_b25_b131)).keep Kq163 (ninS ne_b25_b120 nin0)).keep Kq171 (ninS ne_b25_b75 nin0))
      have cf262 := (((Fld.other W145 ((((Fld.other W103 (((fq73_3.ext E75).ext E83).ext E92) (Or.inl ne_b25_b92)).keep Kq118 (ninS ne_b25_b83 nin0)).ext E120).ext E131) (Or.inl ne_b25_b131)).keep Kq163 (ninS ne_b25_b120 nin0)).keep Kq171 (ninS ne_b25_b75 nin0))
      have cf263 := (((Fld.other W145 ((((Fld.other W103 (((fq73_4.ext E75).ext E83).ext E92) (Or.inl ne_b25_b92)).keep Kq118 (ninS ne_b25_b83 nin0)).ext E120).ext E131) (Or.inl ne_b25_b131)).keep Kq163 (ninS ne_b25_b120 nin0)).keep Kq171 (ninS ne_b25_b75 nin0))
      have cf264 := ((cf153.keep Kq163).keep Kq171)
      have cf265 := (((Fld.other W145 ((((Fld.other W103 ((((((Fld.other W54 ((fv41.ext E43).ext E47) (Or.inl ne_b27_b47)).keep Kq65 (ninS ne_b27_b43 nin0)).keep Kq73 (ninS (Ne.symm ne_b25_b27) nin0)).ext E75).ext E83).ext E92) (Or.inl ne_b27_b92)).keep Kq118 (ninS ne_b27_b83 nin0)).ext E120).ext E131) (Or.inl ne_b27_b131)).keep Kq163 (ninS ne_b27_b120 nin0)).keep Kq171 (ninS ne_b27_b75 nin0))
      have cf266 := (((Fld.other W145 ((((Fld.other W103 ((((((Fld.other W54 ((fc41.ext E43).ext E47) (Or.inl ne_b27_b47)).keep Kq65 (ninS ne_b27_b43 nin0)).keep Kq73 (ninS (Ne.symm ne_b25_b27) nin0)).ext E75).ext E83).ext E92) (Or.inl ne_b27_b92)).keep Kq118 (ninS ne_b27_b83 nin0)).ext E120).ext E131) (Or.inl ne_b27_b131)).keep Kq163 (ninS ne_b27_b120 nin0)).keep Kq171 (ninS ne_b27_b75 nin0))
      have cf267 := ((cf155.keep Kq163 (ninS ne_tb41_b120 nin0)).keep Kq171 (ninS ne_tb41_b75 nin0))
      have cf268 := ((cf156.keep Kq163).keep Kq171)
      have cf269 := (((Fld.other W145 ((((Fld.other W103 ((((fv65.keep Kq73 (ninS (Ne.symm ne_b25_b43) nin0)).ext E75).ext E83).ext E92) (Or.inl ne_b43_b92)).keep Kq118 (ninS ne_b43_b83 nin0)).ext E120).ext E131) (Or.inl ne_b43_b131)).keep Kq163 (ninS ne_b43_b120 nin0)).keep Kq171 (ninS ne_b43_b75 nin0))
      have cf270 := (((Fld.other W145 ((((Fld.other W103 ((((fc65.keep Kq73 (ninS (Ne.symm ne_b25_b43) nin0)).ext E75).ext E83).ext E92) (Or.inl ne_b43_b92)).keep Kq118 (ninS ne_b43_b83 nin0)).ext E120).ext E131) (Or.inl ne_b43_b131)).keep Kq163 (ninS ne_b43_b120 nin0)).keep Kq171 (ninS ne_b43_b75 nin0))
      have cf271 := ((cf158.keep Kq163 (ninS ne_tb65_b120 nin0)).keep Kq171 (ninS ne_tb65_b75 nin0))
      have cf272 := (own_sta_keep (own_sta_keep cf151 Kq163 (allS (fun c hc => own_exa_plain cf148 c hc) all0)) Kq171 (allS (fun c hc => own_exa_plain cf165 c hc) all0))
      have cf273 := (cf170.keep Kq171)
      have cf274 := (((Fld.other W145 ((fv118.ext E120).ext E131) (Or.inl ne_b83_b131)).keep Kq163 (ninS ne_b83_b120 nin0)).keep Kq171 (ninS (Ne.symm ne_b75_b83) nin0))
      have cf275 := (((Fld.other W145 ((fc118.ext E120).ext E131) (Or.inl ne_b83_b131)).keep Kq163 (ninS ne_b83_b120 nin0)).keep Kq171 (ninS (Ne.symm ne_b75_b83) nin0))
      have cf276 := ((cf162.keep Kq163 (ninS ne_tb118_b120 nin0)).keep Kq171 (ninS (Ne.symm ne_b75_tb118) nin0))
      have cf277 := (fq163_0.keep Kq171)
      have cf278 := (fv163.keep Kq171 (ninS (Ne.symm ne_b75_b120) nin0))
      have cf279 := (fc163.keep Kq171 (ninS (Ne.symm ne_b75_b120) nin0))
      have cf280 := (av163.keep Kq171 (ninS (Ne.symm ne_b75_tb163) nin0))
      obtain ⟨cq281, kq281, qa281, qb281, qc281⟩ := isOf hZ eh171 cf259
      obtain ⟨vv282, _, ⟨T282, L282, kk282, nn282⟩, -, X282, ⟨Lc282, hQ282, l282, y282, z282⟩, st282⟩ := X171.virtualBack hx (y := (⟨"com/example/nokkel/nokkel/core/ClientRecord", "equals", "(Ljava/lang/Object;)Z"⟩ : MethodName)) (z := (⟨"com/example/nokkel/nokkel/core/ClientRecord", "equals", "(Ljava/lang/Object;)Z"⟩ : MethodName)) hown (mvT hZ (hw _ (List.mem_of_getElem? (i := 54) rfl))) (mvT hZ (hw _ (List.mem_of_getElem? (i := 55) rfl))) (notFace_of_selects (args := #[]) (mvT hZ (hw _ (List.mem_of_getElem? (i := 57) rfl)))) (mvT hZ (hw _ (List.mem_of_getElem? (i := 57) rfl))) (mvT hZ (hw _ (List.mem_of_getElem? (i := 56) rfl))) (by decide) (backOf (W := 0) (own_eq_d l Z a0 hw [] hh171 n0 (Nat.le_trans Z0 Kp171.1) b25 b27 b43 x1 y1 c1 d1 cf259 cf260 cf261 cf262 cf263 tb41 kb41 cf264 cf265 cf266 cf267 hx_c1 tb65 kb65 cf268 cf269 cf270 cf271 hx_d1 zC cf272 P5 b75 b83 b120 x2 y2 c2 d2 fq171_0 fq171_1 fq171_2 fq171_3 fq171_4 tb118 kb118 cf273 cf274 cf275 cf276 hx_c2 tb163 kb163 cf277 cf278 cf279 cf280 hx_d2 hq173 hq175) hZ (hw _ (List.mem_of_getElem? (i := 58) rfl)) (hw _ (List.mem_of_getElem? (i := 2) rfl)) (by decide) (by decide)) qa281 qc281 (g := (mkF m 304 #[.val (.int p1), .val (.int p2), .val (.int p3), .val (.int c1), .val (.int c2), .val (.int d1), .val (.int d2), .val (.int x1), .val (.int y1), .val (.int x2), .val (.int y2), .val (.int (0 : Int32)), .val (.ref b25), .val (.ref b75), .val (.int (0 : Int32))] [(.ref b75), (.ref b25)])) rfl (by rw [hml]; rfl) (Steps.refl _) (argsL := [(.ref b75)]) (rest := []) (lenOf own_pd__Ljava_lang_Object__Z rfl) rfl (by show 2 * 0 + _ ≤ _; exact Nat.le_of_eq rfl) (hb hby at_304) (fun _ _ => ⟨rfl, eh171, (by decide : 22 + 0 ≤ _), (by decide : 152 + 0 ≤ _)⟩)
      dsimp only [Pt.U, Pt.locs, Pt.cells, Pt.slots] at X282 l282 y282 z282 st282 hQ282
      subst l282 y282 z282
      obtain ⟨rfl, Nq282, e282⟩ := hQ282
      have N282 := Fr.app N171 Nq282
      have ch283 : ∀ t, Steps p.tables e below (T282.setTop (mkF m 307 #[.val (.int p1), .val (.int p2), .val (.int p3), .val (.int c1), .val (.int c2), .val (.int d1), .val (.int d2), .val (.int x1), .val (.int y1), .val (.int x2), .val (.int y2), .val (.int (0 : Int32)), .val (.ref b25), .val (.ref b75), .val (.int (0 : Int32))] [(.int (0 : Int32))])) t → Steps p.tables e below (s₁.setTop (entryFrame m #[(.int p1), (.int p2), (.int p3)] maxLocals)) t := fun t k => ch176 t (by
          show Steps p.tables e below (T171.setTop (mkF m 223 #[.val (.int p1), .val (.int p2), .val (.int p3), .val (.int c1), .val (.int c2), .val (.int d1), .val (.int d2), .val (.int x1), .val (.int y1), .val (.int x2), .val (.int y2), .val (.int (0 : Int32)), .val (.ref b25), .val (.ref b75), .unset] [(.int d2), (.int d1)])) t
          refine XS.icmpYes X171.here hx rfl (pc0 := 223) (pc' := 244) rfl (hb hby at_223) rfl (feq hq175).2 (by decide) (by decide) ?_
          show Steps p.tables e below (T171.setTop (mkF m 244 #[.val (.int p1), .val (.int p2), .val (.int p3), .val (.int c1), .val (.int c2), .val (.int d1), .val (.int d2), .val (.int x1), .val (.int y1), .val (.int x2), .val (.int y2), .val (.int (0 : Int32)), .val (.ref b25), .val (.ref b75), .unset] [])) t
          refine XS.iconst X171.here hx rfl (hb hby at_244) ?_
          show Steps p.tables e below (T171.setTop (mkF m 245 #[.val (.int p1), .val (.int p2), .val (.int p3), .val (.int c1), .val (.int c2), .val (.int d1), .val (.int d2), .val (.int x1), .val (.int y1), .val (.int x2), .val (.int y2), .val (.int (0 : Int32)), .val (.ref b25), .val (.ref b75), .unset] [(.int (0 : Int32))])) t
          refine XS.istore X171.here hx rfl (hb hby at_245) rfl (l' := #[.val (.int p1), .val (.int p2), .val (.int p3), .val (.int c1), .val (.int c2), .val (.int d1), .val (.int d2), .val (.int x1), .val (.int y1), .val (.int x2), .val (.int y2), .val (.int (0 : Int32)), .val (.ref b25), .val (.ref b75), .val (.int (0 : Int32))]) rfl ?_
          show Steps p.tables e below (T171.setTop (mkF m 247 #[.val (.int p1), .val (.int p2), .val (.int p3), .val (.int c1), .val (.int c2), .val (.int d1), .val (.int d2), .val (.int x1), .val (.int y1), .val (.int x2), .val (.int y2), .val (.int (0 : Int32)), .val (.ref b25), .val (.ref b75), .val (.int (0 : Int32))] [])) t
          refine XS.goto X171.here hx rfl (pc0 := 247) (pc' := 300) rfl (hb hby at_247) (by decide) (by decide) ?_
          show Steps p.tables e below (T171.setTop (mkF m 300 #[.val (.int p1), .val (.int p2), .val (.int p3), .val (.int c1), .val (.int c2), .val (.int d1), .val (.int d2), .val (.int x1), .val (.int y1), .val (.int x2), .val (.int y2), .val (.int (0 : Int32)), .val (.ref b25), .val (.ref b75), .val (.int (0 : Int32))] [])) t
          refine XS.aload X171.here hx rfl (hb hby at_300) rfl rfl ?_
          show Steps p.tables e below (T171.setTop (mkF m 302 #[.val (.int p1), .val (.int p2), .val (.int p3), .val (.int c1), .val (.int c2), .val (.int d1), .val (.int d2), .val (.int x1), .val (.int y1), .val (.int x2), .val (.int y2), .val (.int (0 : Int32)), .val (.ref b25), .val (.ref b75), .val (.int (0 : Int32))] [(.ref b25)])) t
          refine XS.aload X171.here hx rfl (hb hby at_302) rfl rfl ?_
          show Steps p.tables e below (T171.setTop (mkF m 304 #[.val (.int p1), .val (.int p2), .val (.int p3), .val (.int c1), .val (.int c2), .val (.int d1), .val (.int d2), .val (.int x1), .val (.int y1), .val (.int x2), .val (.int y2), .val (.int (0 : Int32)), .val (.ref b25), .val (.ref b75), .val (.int (0 : Int32))] [(.ref b75), (.ref b25)])) t
          exact st282.trans k)
      have ch284 : ∀ t, Steps p.tables e below (T282.setTop (mkF m 317 #[.val (.int p1), .val (.int p2), .val (.int p3), .val (.int c1), .val (.int c2), .val (.int d1), .val (.int d2), .val (.int x1), .val (.int y1), .val (.int x2), .val (.int y2), .val (.int (0 : Int32)), .val (.ref b25), .val (.ref b75), .val (.int (0 : Int32))] [(.int (1 : Int32))])) t → Steps p.tables e below (s₁.setTop (entryFrame m #[(.int p1), (.int p2), (.int p3)] maxLocals)) t := fun t k => ch283 t (by
          show Steps p.tables e below (T282.setTop (mkF m 307 #[.val (.int p1), .val (.int p2), .val (.int p3), .val (.int c1), .val (.int c2), .val (.int d1), .val (.int d2), .val (.int x1), .val (.int y1), .val (.int x2), .val (.int y2), .val (.int (0 : Int32)), .val (.ref b25), .val (.ref b75), .val (.int (0 : Int32))] [(.int (0 : Int32))])) t
          refine XS.iload X282.here hx rfl (hb hby at_307) rfl ?_
          show Steps p.tables e below (T282.setTop (mkF m 309 #[.val (.int p1), .val (.int p2), .val (.int p3), .val (.int c1), .val (.int c2), .val (.int d1), .val (.int d2), .val (.int x1), .val (.int y1), .val (.int x2), .val (.int y2), .val (.int (0 : Int32)), .val (.ref b25), .val (.ref b75), .val (.int (0 : Int32))] [(.int (0 : Int32)), (.int (0 : Int32))])) t
          refine XS.icmpNo X282.here hx rfl (hb hby at_309) rfl (teq (by decide : (0 : Int32) = (0 : Int32))).2 ?_
          show Steps p.tables e below (T282.setTop (mkF m 312 #[.val (.int p1), .val (.int p2), .val (.int p3), .val (.int c1), .val (.int c2), .val (.int d1), .val (.int d2), .val (.int x1), .val (.int y1), .val (.int x2), .val (.int y2), .val (.int (0 : Int32)), .val (.ref b25), .val (.ref b75), .val (.int (0 : Int32))] [])) t
          refine XS.iconst X282.here hx rfl (hb hby at_312) ?_
          show Steps p.tables e below (T282.setTop (mkF m 313 #[.val (.int p1), .val (.int p2), .val (.int p3), .val (.int c1), .val (.int c2), .val (.int d1), .val (.int d2), .val (.int x1), .val (.int y1), .val (.int x2), .val (.int y2), .val (.int (0 : Int32)), .val (.ref b25), .val (.ref b75), .val (.int (0 : Int32))] [(.int (1 : Int32))])) t
          refine XS.goto X282.here hx rfl (pc0 := 313) (pc' := 317) rfl (hb hby at_313) (by decide) (by decide) ?_
          exact k)
      obtain ⟨fs, hr, hrun, hended, hend⟩ := X282.leaveW hS (by rw [e282]; exact hk) (v := some (.int (1 : Int32))) (fun h => by rw [Bd.returns] at h; cases h)
      refine ⟨_, _, ch284 _ ?_, hrun, hended, _, _, rfl, ?_, hend.1, hend.2.1, hend.2.2.1, hend.2.2.2.mono (by decide) (by decide)⟩
      · show Steps p.tables e below (T282.setTop (mkF m 317 #[.val (.int p1), .val (.int p2), .val (.int p3), .val (.int c1), .val (.int c2), .val (.int d1), .val (.int d2), .val (.int x1), .val (.int y1), .val (.int x2), .val (.int y2), .val (.int (0 : Int32)), .val (.ref b25), .val (.ref b75), .val (.int (0 : Int32))] [(.int (1 : Int32))])) _
        exact retN X282 hx (t := .boolean) Bd.returns (by simp) (hb hby at_317) hr
      · show QN (some (.int (1 : Int32))) n0 _ T282.heap _
        rw [e282]
        exact ⟨rfl, N282⟩
  · skip
    have cf285 := ((cf152.keep Kq163).keep Kq171)
    have cf286 := (((Fld.other W145 ((((Fld.other W103 (((fq73_1.ext E75).ext E83).ext E92) (Or.inl ne_b25_b92)).keep Kq118 (ninS ne_b25_b83 nin0)).ext E120).ext E131) (Or.inl ne_b25_b131)).keep Kq163 (ninS ne_b25_b120 nin0)).keep Kq171 (ninS ne_b25_b75 nin0))
    have cf287 := (((Fld.other W145 ((((Fld.other W103 (((fq73_2.ext E75).ext E83).ext E92) (Or.inl ne_b25_b92)).keep Kq118 (ninS ne_b25_b83 nin0)).ext E120).ext E131) (Or.inl ne_b25_b131)).keep Kq163 (ninS ne_b25_b120 nin0)).keep Kq171 (ninS ne_b25_b75 nin0))
    have cf288 := (((Fld.other W145 ((((Fld.other W103 (((fq73_3.ext E75).ext E83).ext E92) (Or.inl ne_b25_b92)).keep Kq118 (ninS ne_b25_b83 nin0)).ext E120).ext E131) (Or.inl ne_b25_b131)).keep Kq163 (ninS ne_b25_b120 nin0)).keep Kq171 (ninS ne_b25_b75 nin0))
    have cf289 := (((Fld.other W145 ((((Fld.other W103 (((fq73_4.ext E75).ext E83).ext E92) (Or.inl ne_b25_b92)).keep Kq118 (ninS ne_b25_b83 nin0)).ext E120).ext E131) (Or.inl ne_b25_b131)).keep Kq163 (ninS ne_b25_b120 nin0)).keep Kq171 (ninS ne_b25_b75 nin0))
    have cf290 := ((cf153.keep Kq163).keep Kq171)
    have cf291 := (((Fld.other W145 ((((Fld.other W103 ((((((Fld.other W54 ((fv41.ext E43).ext E47) (Or.inl ne_b27_b47)).keep Kq65 (ninS ne_b27_b43 nin0)).keep Kq73 (ninS (Ne.symm ne_b25_b27) nin0)).ext E75).ext E83).ext E92) (Or.inl ne_b27_b92)).keep Kq118 (ninS ne_b27_b83 nin0)).ext E120).ext E131) (Or.inl ne_b27_b131)).keep Kq163 (ninS ne_b27_b120 nin0)).keep Kq171 (ninS ne_b27_b75 nin0))
    have cf292 := (((Fld.other W145 ((((Fld.other W103 ((((((Fld.other W54 ((fc41.ext E43).ext E47) (Or.inl ne_b27_b47)).keep Kq65 (ninS ne_b27_b43 nin0)).keep Kq73 (ninS (Ne.symm ne_b25_b27) nin0)).ext E75).ext E83).ext E92) (Or.inl ne_b27_b92)).keep Kq118 (ninS ne_b27_b83 nin0)).ext E120).ext E131) (Or.inl ne_b27_b131)).keep Kq163 (ninS ne_b27_b120 nin0)).keep Kq171 (ninS ne_b27_b75 nin0))
    have cf293 := ((cf155.keep Kq163 (ninS ne_tb41_b120 nin0)).keep Kq171 (ninS ne_tb41_b75 nin0))
    have cf294 := ((cf156.keep Kq163).keep Kq171)
    have cf295 := (((Fld.other W145 ((((Fld.other W103 ((((fv65.keep Kq73 (ninS (Ne.symm ne_b25_b43) nin0)).ext E75).ext E83).ext E92) (Or.inl ne_b43_b92)).keep Kq118 (ninS ne_b43_b83 nin0)).ext E120).ext E131) (Or.inl ne_b43_b131)).keep Kq163 (ninS ne_b43_b120 nin0)).keep Kq171 (ninS ne_b43_b75 nin0))
    have cf296 := (((Fld.other W145 ((((Fld.other W103 ((((fc65.keep Kq73 (ninS (Ne.symm ne_b25_b43) nin0)).ext E75).ext E83).ext E92) (Or.inl ne_b43_b92)).keep Kq118 (ninS ne_b43_b83 nin0)).ext E120).ext E131) (Or.inl ne_b43_b131)).keep Kq163 (ninS ne_b43_b120 nin0)).keep Kq171 (ninS ne_b43_b75 nin0))
    have cf297 := ((cf158.keep Kq163 (ninS ne_tb65_b120 nin0)).keep Kq171 (ninS ne_tb65_b75 nin0))
    have cf298 := (own_sta_keep (own_sta_keep cf151 Kq163 (allS (fun c hc => own_exa_plain cf148 c hc) all0)) Kq171 (allS (fun c hc => own_exa_plain cf165 c hc) all0))
    have cf299 := (cf170.keep Kq171)
    have cf300 := (((Fld.other W145 ((fv118.ext E120).ext E131) (Or.inl ne_b83_b131)).keep Kq163 (ninS ne_b83_b120 nin0)).keep Kq171 (ninS (Ne.symm ne_b75_b83) nin0))
    have cf301 := (((Fld.other W145 ((fc118.ext E120).ext E131) (Or.inl ne_b83_b131)).keep Kq163 (ninS ne_b83_b120 nin0)).keep Kq171 (ninS (Ne.symm ne_b75_b83) nin0))
    have cf302 := ((cf162.keep Kq163 (ninS ne_tb118_b120 nin0)).keep Kq171 (ninS (Ne.symm ne_b75_tb118) nin0))
    have cf303 := (fq163_0.keep Kq171)
    have cf304 := (fv163.keep Kq171 (ninS (Ne.symm ne_b75_b120) nin0))
    have cf305 := (fc163.keep Kq171 (ninS (Ne.symm ne_b75_b120) nin0))
    have cf306 := (av163.keep Kq171 (ninS (Ne.symm ne_b75_tb163) nin0))
    obtain ⟨cq307, kq307, qa307, qb307, qc307⟩ := isOf hZ eh171 cf285
    obtain ⟨vv308, _, ⟨T308, L308, kk308, nn308⟩, -, X308, ⟨Lc308, hQ308, l308, y308, z308⟩, st308⟩ := X171.virtualBack hx (y := (⟨"com/example/nokkel/nokkel/core/ClientRecord", "equals", "(Ljava/lang/Object;)Z"⟩ : MethodName)) (z := (⟨"com/example/nokkel/nokkel/core/ClientRecord", "equals", "(Ljava/lang/Object;)Z"⟩ : MethodName)) hown (mvT hZ (hw _ (List.mem_of_getElem? (i := 54) rfl))) (mvT hZ (hw _ (List.mem_of_getElem? (i := 55) rfl))) (notFace_of_selects (args := #[]) (mvT hZ (hw _ (List.mem_of_getElem? (i := 57) rfl)))) (mvT hZ (hw _ (List.mem_of_getElem? (i := 57) rfl))) (mvT hZ (hw _ (List.mem_of_getElem? (i := 56) rfl))) (by decide) (backOf (W := 0) (own_eq_c l Z a0 hw [] hh171 n0 (Nat.le_trans Z0 Kp171.1) b25 b27 b43 x1 y1 c1 d1 cf285 cf286 cf287 cf288 cf289 tb41 kb41 cf290 cf291 cf292 cf293 hx_c1 tb65 kb65 cf294 cf295 cf296 cf297 hx_d1 zC cf298 P5 b75 b83 b120 x2 y2 c2 d2 fq171_0 fq171_1 fq171_2 fq171_3 fq171_4 tb118 kb118 cf299 cf300 cf301 cf302 hx_c2 tb163 kb163 cf303 cf304 cf305 cf306 hx_d2 hq173) hZ (hw _ (List.mem_of_getElem? (i := 58) rfl)) (hw _ (List.mem_of_getElem? (i := 2) rfl)) (by decide) (by decide)) qa307 qc307 (g := (mkF m 304 #[.val (.int p1), .val (.int p2), .val (.int p3), .val (.int c1), .val (.int c2), .val (.int d1), .val (.int d2), .val (.int x1), .val (.int y1), .val (.int x2), .val (.int y2), .val (.int (0 : Int32)), .val (.ref b25), .val (.ref b75), .val (.int (0 : Int32))] [(.ref b75), (.ref b25)])) rfl (by rw [hml]; rfl) (Steps.refl _) (argsL := [(.ref b75)]) (rest := []) (lenOf own_pd__Ljava_lang_Object__Z rfl) rfl (by show 2 * 0 + _ ≤ _; exact Nat.le_of_eq rfl) (hb hby at_304) (fun _ _ => ⟨rfl, eh171, (by decide : 22 + 0 ≤ _), (by decide : 152 + 0 ≤ _)⟩)
    dsimp only [Pt.U, Pt.locs, Pt.cells, Pt.slots] at X308 l308 y308 z308 st308 hQ308
    subst l308 y308 z308
    obtain ⟨rfl, Nq308, e308⟩ := hQ308
    have N308 := Fr.app N171 Nq308
    have ch309 : ∀ t, Steps p.tables e below (T308.setTop (mkF m 307 #[.val (.int p1), .val (.int p2), .val (.int p3), .val (.int c1), .val (.int c2), .val (.int d1), .val (.int d2), .val (.int x1), .val (.int y1), .val (.int x2), .val (.int y2), .val (.int (0 : Int32)), .val (.ref b25), .val (.ref b75), .val (.int (0 : Int32))] [(.int (0 : Int32))])) t → Steps p.tables e below (s₁.setTop (entryFrame m #[(.int p1), (.int p2), (.int p3)] maxLocals)) t := fun t k => ch174 t (by
        show Steps p.tables e below (T171.setTop (mkF m 216 #[.val (.int p1), .val (.int p2), .val (.int p3), .val (.int c1), .val (.int c2), .val (.int d1), .val (.int d2), .val (.int x1), .val (.int y1), .val (.int x2), .val (.int y2), .val (.int (0 : Int32)), .val (.ref b25), .val (.ref b75), .unset] [(.int c2), (.int c1)])) t
        refine XS.icmpYes X171.here hx rfl (pc0 := 216) (pc' := 244) rfl (hb hby at_216) rfl (feq hq173).2 (by decide) (by decide) ?_
        show Steps p.tables e below (T171.setTop (mkF m 244 #[.val (.int p1), .val (.int p2), .val (.int p3), .val (.int c1), .val (.int c2), .val (.int d1), .val (.int d2), .val (.int x1), .val (.int y1), .val (.int x2), .val (.int y2), .val (.int (0 : Int32)), .val (.ref b25), .val (.ref b75), .unset] [])) t
        refine XS.iconst X171.here hx rfl (hb hby at_244) ?_
        show Steps p.tables e below (T171.setTop (mkF m 245 #[.val (.int p1), .val (.int p2), .val (.int p3), .val (.int c1), .val (.int c2), .val (.int d1), .val (.int d2), .val (.int x1), .val (.int y1), .val (.int x2), .val (.int y2), .val (.int (0 : Int32)), .val (.ref b25), .val (.ref b75), .unset] [(.int (0 : Int32))])) t
        refine XS.istore X171.here hx rfl (hb hby at_245) rfl (l' := #[.val (.int p1), .val (.int p2), .val (.int p3), .val (.int c1), .val (.int c2), .val (.int d1), .val (.int d2), .val (.int x1), .val (.int y1), .val (.int x2), .val (.int y2), .val (.int (0 : Int32)), .val (.ref b25), .val (.ref b75), .val (.int (0 : Int32))]) rfl ?_
        show Steps p.tables e below (T171.setTop (mkF m 247 #[.val (.int p1), .val (.int p2), .val (.int p3), .val (.int c1), .val (.int c2), .val (.int d1), .val (.int d2), .val (.int x1), .val (.int y1), .val (.int x2), .val (.int y2), .val (.int (0 : Int32)), .val (.ref b25), .val (.ref b75), .val (.int (0 : Int32))] [])) t
        refine XS.goto X171.here hx rfl (pc0 := 247) (pc' := 300) rfl (hb hby at_247) (by decide) (by decide) ?_
        show Steps p.tables e below (T171.setTop (mkF m 300 #[.val (.int p1), .val (.int p2), .val (.int p3), .val (.int c1), .val (.int c2), .val (.int d1), .val (.int d2), .val (.int x1), .val (.int y1), .val (.int x2), .val (.int y2), .val (.int (0 : Int32)), .val (.ref b25), .val (.ref b75), .val (.int (0 : Int32))] [])) t
        refine XS.aload X171.here hx rfl (hb hby at_300) rfl rfl ?_
        show Steps p.tables e below (T171.setTop (mkF m 302 #[.val (.int p1), .val (.int p2), .val (.int p3), .val (.int c1), .val (.int c2), .val (.int d1), .val (.int d2), .val (.int x1), .val (.int y1), .val (.int x2), .val (.int y2), .val (.int (0 : Int32)), .val (.ref b25), .val (.ref b75), .val (.int (0 : Int32))] [(.ref b25)])) t
        refine XS.aload X171.here hx rfl (hb hby at_302) rfl rfl ?_
        show Steps p.tables e below (T171.setTop (mkF m 304 #[.val (.int p1), .val (.int p2), .val (.int p3), .val (.int c1), .val (.int c2), .val (.int d1), .val (.int d2), .val (.int x1), .val (.int y1), .val (.int x2), .val (.int y2), .val (.int (0 : Int32)), .val (.ref b25), .val (.ref b75), .val (.int (0 : Int32))] [(.ref b75), (.ref b25)])) t
        exact st308.trans k)
    have ch310 : ∀ t, Steps p.tables e below (T308.setTop (mkF m 317 #[.val (.int p1), .val (.int p2), .val (.int p3), .val (.int c1), .val (.int c2), .val (.int d1), .val (.int d2), .val (.int x1), .val (.int y1), .val (.int x2), .val (.int y2), .val (.int (0 : Int32)), .val (.ref b25), .val (.ref b75), .val (.int (0 : Int32))] [(.int (1 : Int32))])) t → Steps p.tables e below (s₁.setTop (entryFrame m #[(.int p1), (.int p2), (.int p3)] maxLocals)) t := fun t k => ch309 t (by
        show Steps p.tables e below (T308.setTop (mkF m 307 #[.val (.int p1), .val (.int p2), .val (.int p3), .val (.int c1), .val (.int c2), .val (.int d1), .val (.int d2), .val (.int x1), .val (.int y1), .val (.int x2), .val (.int y2), .val (.int (0 : Int32)), .val (.ref b25), .val (.ref b75), .val (.int (0 : Int32))] [(.int (0 : Int32))])) t
        refine XS.iload X308.here hx rfl (hb hby at_307) rfl ?_
        show Steps p.tables e below (T308.setTop (mkF m 309 #[.val (.int p1), .val (.int p2), .val (.int p3), .val (.int c1), .val (.int c2), .val (.int d1), .val (.int d2), .val (.int x1), .val (.int y1), .val (.int x2), .val (.int y2), .val (.int (0 : Int32)), .val (.ref b25), .val (.ref b75), .val (.int (0 : Int32))] [(.int (0 : Int32)), (.int (0 : Int32))])) t
        refine XS.icmpNo X308.here hx rfl (hb hby at_309) rfl (teq (by decide : (0 : Int32) = (0 : Int32))).2 ?_
        show Steps p.tables e below (T308.setTop (mkF m 312 #[.val (.int p1), .val (.int p2), .val (.int p3), .val (.int c1), .val (.int c2), .val (.int d1), .val (.int d2), .val (.int x1), .val (.int y1), .val (.int x2), .val (.int y2), .val (.int (0 : Int32)), .val (.ref b25), .val (.ref b75), .val (.int (0 : Int32))] [])) t
        refine XS.iconst X308.here hx rfl (hb hby at_312) ?_
        show Steps p.tables e below (T308.setTop (mkF m 313 #[.val (.int p1), .val (.int p2), .val (.int p3), .val (.int c1), .val (.int c2), .val (.int d1), .val (.int d2), .val (.int x1), .val (.int y1), .val (.int x2), .val (.int y2), .val (.int (0 : Int32)), .val (.ref b25), .val (.ref b75), .val (.int (0 : Int32))] [(.int (1 : Int32))])) t
        refine XS.goto X308.here hx rfl (pc0 := 313) (pc' := 317) rfl (hb hby at_313) (by decide) (by decide) ?_
        exact k)
    obtain ⟨fs, hr, hrun, hended, hend⟩ := X308.leaveW hS (by rw [e308]; exact hk) (v := some (.int (1 : Int32))) (fun h => by rw [Bd.returns] at h; cases h)
    refine ⟨_, _, ch310 _ ?_, hrun, hended, _, _, rfl, ?_, hend.1, hend.2.1, hend.2.2.1, hend.2.2.2.mono (by decide) (by decide)⟩
    · show Steps p.tables e below (T308.setTop (mkF m 317 #[.val (.int p1), .val (.int p2), .val (.int p3), .val (.int c1), .val (.int c2), .val (.int d1), .val (.int d2), .val (.int x1), .val (.int y1), .val (.int x2), .val (.int y2), .val (.int (0 : Int32)), .val (.ref b25), .val (.ref b75), .val (.int (0 : Int32))] [(.int (1 : Int32))])) _
      exact retN X308 hx (t := .boolean) Bd.returns (by simp) (hb hby at_317) hr
    · show QN (some (.int (1 : Int32))) n0 _ T308.heap _
      rw [e308]
      exact ⟨rfl, N308⟩
theorem own_ef_own_law_1 (m : MethodId) {x0 : Int32} {x1 : Int32} {x2 : Int32} : entryFrame m #[(.int x0), (.int x1), (.int x2)] maxLocals = mkF m 0 #[.val (.int x0), .val (.int x1), .val (.int x2), .unset, .unset, .unset, .unset, .unset, .unset, .unset, .unset, .unset, .unset, .unset, .unset] [] := by first | (simp [entryFrame, mkF, argsToLocals, Value.category, maxLocals]; done) | rfl
set_option maxRecDepth 65536 in
set_option maxHeartbeats 40000000 in
theorem own_law_1 (l : Launch) (Z : State) (a0 : Array Value) (hw : ∀ d ∈ tables_1, d.before a0 Z = true) (ws : List Jvm.Cond) (h0 : Heap) (n0 : Nat) (Z0 : n0 ≤ h0.size) (p1 p2 p3 c1 d1 : Int32) (hE1 : ((p1 &&& (255 : Int32)).toUInt32.toUInt16.toUInt32.toInt32) = c1) (hE2 : ((p2 &&& (255 : Int32)).toUInt32.toUInt16.toUInt32.toInt32) = d1) (hx_c1 : ¬ c1 < 0 ∧ ¬ (255 : Int32) < c1) (hx_d1 : ¬ d1 < 0 ∧ ¬ (255 : Int32) < d1) (hKk : (((p3.toUInt32 >>> ((6 : Int32) &&& 31).toUInt32).toInt32) &&& (3 : Int32)) = (1 : Int32)) (zC : Int32) (S_CS : Sta Z h0 "java/lang/String" "COMPACT_STRINGS" "Z" (.int zC)) (P5 : ¬ (zC = (0 : Int32))) :
    MetFree l x (head1 (Jvm.Cond.code x code maxLocals ret :: ws) room_1) (fun a U => a = #[(.int p1), (.int p2), (.int p3)] ∧ Z.Warmed39 U.vm ∧ U.heap = h0) (fun _ _ _ _ _ => True) (fun _ U o U' => ∃ v L, o = .returned v ∧ QN (some (.int (1 : Int32))) n0 v U'.heap L ∧ ReturnedEndW U o U' L room_1.cells room_1.slots) := by
  refine MetFree.of_bodySF (plainFor_of_name own_pn_com_example_nokkel_nokkel_core_ClientRecordEqualsPinLaw) hisR ?_
  intro p e s m args below meth c s₁ Bd hml0 hP hK
  obtain ⟨rfl, hZ, hh⟩ := hP
  have hx := Bd.exec
  have hby := Bd.bytes
  have hml : c.maxLocals = 15 := hml0
  have hown : s.vm.findClass "com/example/nokkel/nokkel/core/ClientRecordEqualsPinLaw" = some m.cls := (findClass_of_methodNamed Bd.named :)
  have hnm := (name_of_methodNamed Bd.named Bd.method).1
  have X0 : Stand p l e room_1 (s.setVm s.vm) m #[(.int p1), (.int p2), (.int p3)] below meth c s₁ [] 0 0 := Stand.of_body Bd
  have hZ : Z.Warmed39 (s.setVm s.vm).vm := hZ
  have hown : (s.setVm s.vm).vm.findClass "com/example/nokkel/nokkel/core/ClientRecordEqualsPinLaw" = some m.cls := hown
  have hS : s.Since s.vm 0 := (State.WarmedH.refl s).since 0
  have hk : 0 ≤ h0.size := Nat.zero_le _
  have e0 : s₁.heap = h0 := by rw [← hh, Bd.state]; rfl
  have N0 := Fr.nil n0
  have pre0 : ∀ t, Steps p.tables e below (s₁.setTop (mkF m 0 #[.val (.int p1), .val (.int p2), .val (.int p3), .unset, .unset, .unset, .unset, .unset, .unset, .unset, .unset, .unset, .unset, .unset, .unset] [])) t → Steps p.tables e below (s₁.setTop (entryFrame m #[(.int p1), (.int p2), (.int p3)] maxLocals)) t := fun t k => castTop (own_ef_own_law_1 m) k
  have ch1 : ∀ t, Steps p.tables e below (s₁.setTop (mkF m 7 #[.val (.int p1), .val (.int p2), .val (.int p3), .val (.int c1), .unset, .unset, .unset, .unset, .unset, .unset, .unset, .unset, .unset, .unset, .unset] [])) t → Steps p.tables e below (s₁.setTop (entryFrame m #[(.int p1), (.int p2), (.int p3)] maxLocals)) t := fun t k => pre0 t (by
      show Steps p.tables e below (s₁.setTop (mkF m 0 #[.val (.int p1), .val (.int p2), .val (.int p3), .unset, .unset, .unset, .unset, .unset, .unset, .unset, .unset, .unset, .unset, .unset, .unset] [])) t
      refine XS.iloadN X0.here hx rfl (hb hby at_0) rfl ?_
      show Steps p.tables e below (s₁.setTop (mkF m 1 #[.val (.int p1), .val (.int p2), .val (.int p3), .unset, .unset, .unset, .unset, .unset, .unset, .unset, .unset, .unset, .unset, .unset, .unset] [(.int p1)])) t
      refine XS.sipush X0.here hx rfl (hb hby at_1) ?_
      show Steps p.tables e below (s₁.setTop (mkF m 4 #[.val (.int p1), .val (.int p2), .val (.int p3), .unset, .unset, .unset, .unset, .unset, .unset, .unset, .unset, .unset, .unset, .unset, .unset] [(.int (255 : Int32)), (.int p1)])) t
      refine XS.iand X0.here hx rfl (hb hby at_4) rfl ?_
      show Steps p.tables e below (s₁.setTop (mkF m 5 #[.val (.int p1), .val (.int p2), .val (.int p3), .unset, .unset, .unset, .unset, .unset, .unset, .unset, .unset, .unset, .unset, .unset, .unset] [(.int (p1 &&& (255 : Int32)))])) t
      refine XS.i2c X0.here hx rfl (hb hby at_5) rfl ?_
      rw [hE1]
      show Steps p.tables e below (s₁.setTop (mkF m 6 #[.val (.int p1), .val (.int p2), .val (.int p3), .unset, .unset, .unset, .unset, .unset, .unset, .unset, .unset, .unset, .unset, .unset, .unset] [(.int c1)])) t
      refine XS.istoreN X0.here hx rfl (hb hby at_6) rfl (l' := #[.val (.int p1), .val (.int p2), .val (.int p3), .val (.int c1), .unset, .unset, .unset, .unset, .unset, .unset, .unset, .unset, .unset, .unset, .unset]) rfl ?_
      exact k)
  obtain ⟨c2, hx_c2, sj2⟩ : ∃ c2 : Int32, (¬ c2 < 0 ∧ ¬ (255 : Int32) < c2) ∧ ∀ t, Steps p.tables e below (s₁.setTop (mkF m 28 #[.val (.int p1), .val (.int p2), .val (.int p3), .val (.int c1), .unset, .unset, .unset, .unset, .unset, .unset, .unset, .unset, .unset, .unset, .unset] [(.int c2)])) t → Steps p.tables e below (s₁.setTop (mkF m 7 #[.val (.int p1), .val (.int p2), .val (.int p3), .val (.int c1), .unset, .unset, .unset, .unset, .unset, .unset, .unset, .unset, .unset, .unset, .unset] [])) t := by
    by_cases hq3 : (((p3.toUInt32 >>> ((4 : Int32) &&& 31).toUInt32).toInt32) &&& (1 : Int32)) = (0 : Int32)
    · skip
      refine ⟨((((p1.toUInt32 >>> ((8 : Int32) &&& 31).toUInt32).toInt32) &&& (255 : Int32)).toUInt32.toUInt16.toUInt32.toInt32), own_i2c _, fun t k => ?_⟩
      show Steps p.tables e below (s₁.setTop (mkF m 7 #[.val (.int p1), .val (.int p2), .val (.int p3), .val (.int c1), .unset, .unset, .unset, .unset, .unset, .unset, .unset, .unset, .unset, .unset, .unset] [])) t
      refine XS.iloadN X0.here hx rfl (hb hby at_7) rfl ?_
      show Steps p.tables e below (s₁.setTop (mkF m 8 #[.val (.int p1), .val (.int p2), .val (.int p3), .val (.int c1), .unset, .unset, .unset, .unset, .unset, .unset, .unset, .unset, .unset, .unset, .unset] [(.int p3)])) t
      refine XS.iconst X0.here hx rfl (hb hby at_8) ?_
      show Steps p.tables e below (s₁.setTop (mkF m 9 #[.val (.int p1), .val (.int p2), .val (.int p3), .val (.int c1), .unset, .unset, .unset, .unset, .unset, .unset, .unset, .unset, .unset, .unset, .unset] [(.int (4 : Int32)), (.int p3)])) t
      refine XS.iushr X0.here hx rfl (hb hby at_9) rfl ?_
      show Steps p.tables e below (s₁.setTop (mkF m 10 #[.val (.int p1), .val (.int p2), .val (.int p3), .val (.int c1), .unset, .unset, .unset, .unset, .unset, .unset, .unset, .unset, .unset, .unset, .unset] [(.int ((p3.toUInt32 >>> ((4 : Int32) &&& 31).toUInt32).toInt32))])) t
      refine XS.iconst X0.here hx rfl (hb hby at_10) ?_
      show Steps p.tables e below (s₁.setTop (mkF m 11 #[.val (.int p1), .val (.int p2), .val (.int p3), .val (.int c1), .unset, .unset, .unset, .unset, .unset, .unset, .unset, .unset, .unset, .unset, .unset] [(.int (1 : Int32)), (.int ((p3.toUInt32 >>> ((4 : Int32) &&& 31).toUInt32).toInt32))])) t
      refine XS.iand X0.here hx rfl (hb hby at_11) rfl ?_
      show Steps p.tables e below (s₁.setTop (mkF m 12 #[.val (.int p1), .val (.int p2), .val (.int p3), .val (.int c1), .unset, .unset, .unset, .unset, .unset, .unset, .unset, .unset, .unset, .unset, .unset] [(.int (((p3.toUInt32 >>> ((4 : Int32) &&& 31).toUInt32).toInt32) &&& (1 : Int32)))])) t
      refine XS.ifYes X0.here hx rfl (pc0 := 12) (pc' := 19) rfl (hb hby at_12) rfl ((if0 _ _).trans (teq hq3).1) (by decide) (by decide) ?_
      show Steps p.tables e below (s₁.setTop (mkF m 19 #[.val (.int p1), .val (.int p2), .val (.int p3), .val (.int c1), .unset, .unset, .unset, .unset, .unset, .unset, .unset, .unset, .unset, .unset, .unset] [])) t
      refine XS.iloadN X0.here hx rfl (hb hby at_19) rfl ?_
      show Steps p.tables e below (s₁.setTop (mkF m 20 #[.val (.int p1), .val (.int p2), .val (.int p3), .val (.int c1), .unset, .unset, .unset, .unset, .unset, .unset, .unset, .unset, .unset, .unset, .unset] [(.int p1)])) t
      refine XS.bipush X0.here hx rfl (hb hby at_20) ?_
      show Steps p.tables e below (s₁.setTop (mkF m 22 #[.val (.int p1), .val (.int p2), .val (.int p3), .val (.int c1), .unset, .unset, .unset, .unset, .unset, .unset, .unset, .unset, .unset, .unset, .unset] [(.int (8 : Int32)), (.int p1)])) t
      refine XS.iushr X0.here hx rfl (hb hby at_22) rfl ?_
      show Steps p.tables e below (s₁.setTop (mkF m 23 #[.val (.int p1), .val (.int p2), .val (.int p3), .val (.int c1), .unset, .unset, .unset, .unset, .unset, .unset, .unset, .unset, .unset, .unset, .unset] [(.int ((p1.toUInt32 >>> ((8 : Int32) &&& 31).toUInt32).toInt32))])) t
      refine XS.sipush X0.here hx rfl (hb hby at_23) ?_
      show Steps p.tables e below (s₁.setTop (mkF m 26 #[.val (.int p1), .val (.int p2), .val (.int p3), .val (.int c1), .unset, .unset, .unset, .unset, .unset, .unset, .unset, .unset, .unset, .unset, .unset] [(.int (255 : Int32)), (.int ((p1.toUInt32 >>> ((8 : Int32) &&& 31).toUInt32).toInt32))])) t
      refine XS.iand X0.here hx rfl (hb hby at_26) rfl ?_
      show Steps p.tables e below (s₁.setTop (mkF m 27 #[.val (.int p1), .val (.int p2), .val (.int p3), .val (.int c1), .unset, .unset, .unset, .unset, .unset, .unset, .unset, .unset, .unset, .unset, .unset] [(.int (((p1.toUInt32 >>> ((8 : Int32) &&& 31).toUInt32).toInt32) &&& (255 : Int32)))])) t
      refine XS.i2c X0.here hx rfl (hb hby at_27) rfl ?_
      exact k
    · skip
      refine ⟨c1, hx_c1, fun t k => ?_⟩
      show Steps p.tables e below (s₁.setTop (mkF m 7 #[.val (.int p1), .val (.int p2), .val (.int p3), .val (.int c1), .unset, .unset, .unset, .unset, .unset, .unset, .unset, .unset, .unset, .unset, .unset] [])) t
      refine XS.iloadN X0.here hx rfl (hb hby at_7) rfl ?_
      show Steps p.tables e below (s₁.setTop (mkF m 8 #[.val (.int p1), .val (.int p2), .val (.int p3), .val (.int c1), .unset, .unset, .unset, .unset, .unset, .unset, .unset, .unset, .unset, .unset, .unset] [(.int p3)])) t
      refine XS.iconst X0.here hx rfl (hb hby at_8) ?_
      show Steps p.tables e below (s₁.setTop (mkF m 9 #[.val (.int p1), .val (.int p2), .val (.int p3), .val (.int c1), .unset, .unset, .unset, .unset, .unset, .unset, .unset, .unset, .unset, .unset, .unset] [(.int (4 : Int32)), (.int p3)])) t
      refine XS.iushr X0.here hx rfl (hb hby at_9) rfl ?_
      show Steps p.tables e below (s₁.setTop (mkF m 10 #[.val (.int p1), .val (.int p2), .val (.int p3), .val (.int c1), .unset, .unset, .unset, .unset, .unset, .unset, .unset, .unset, .unset, .unset, .unset] [(.int ((p3.toUInt32 >>> ((4 : Int32) &&& 31).toUInt32).toInt32))])) t
      refine XS.iconst X0.here hx rfl (hb hby at_10) ?_
      show Steps p.tables e below (s₁.setTop (mkF m 11 #[.val (.int p1), .val (.int p2), .val (.int p3), .val (.int c1), .unset, .unset, .unset, .unset, .unset, .unset, .unset, .unset, .unset, .unset, .unset] [(.int (1 : Int32)), (.int ((p3.toUInt32 >>> ((4 : Int32) &&& 31).toUInt32).toInt32))])) t
      refine XS.iand X0.here hx rfl (hb hby at_11) rfl ?_
      show Steps p.tables e below (s₁.setTop (mkF m 12 #[.val (.int p1), .val (.int p2), .val (.int p3), .val (.int c1), .unset, .unset, .unset, .unset, .unset, .unset, .unset, .unset, .unset, .unset, .unset] [(.int (((p3.toUInt32 >>> ((4 : Int32) &&& 31).toUInt32).toInt32) &&& (1 : Int32)))])) t
      refine XS.ifNo X0.here hx rfl (hb hby at_12) rfl ((if0 _ _).trans (feq hq3).1) ?_
      show Steps p.tables e below (s₁.setTop (mkF m 15 #[.val (.int p1), .val (.int p2), .val (.int p3), .val (.int c1), .unset, .unset, .unset, .unset, .unset, .unset, .unset, .unset, .unset, .unset, .unset] [])) t
      refine XS.iloadN X0.here hx rfl (hb hby at_15) rfl ?_
      show Steps p.tables e below (s₁.setTop (mkF m 16 #[.val (.int p1), .val (.int p2), .val (.int p3), .val (.int c1), .unset, .unset, .unset, .unset, .unset, .unset, .unset, .unset, .unset, .unset, .unset] [(.int c1)])) t
      refine XS.goto X0.here hx rfl (pc0 := 16) (pc' := 28) rfl (hb hby at_16) (by decide) (by decide) ?_
      exact k
  have ch4 : ∀ t, Steps p.tables e below (s₁.setTop (mkF m 28 #[.val (.int p1), .val (.int p2), .val (.int p3), .val (.int c1), .unset, .unset, .unset, .unset, .unset, .unset, .unset, .unset, .unset, .unset, .unset] [(.int c2)])) t → Steps p.tables e below (s₁.setTop (entryFrame m #[(.int p1), (.int p2), (.int p3)] maxLocals)) t := fun t k => ch1 t (sj2 t k)
  have ch5 : ∀ t, Steps p.tables e below (s₁.setTop (mkF m 38 #[.val (.int p1), .val (.int p2), .val (.int p3), .val (.int c1), .val (.int c2), .val (.int d1), .unset, .unset, .unset, .unset, .unset, .unset, .unset, .unset, .unset] [])) t → Steps p.tables e below (s₁.setTop (entryFrame m #[(.int p1), (.int p2), (.int p3)] maxLocals)) t := fun t k => ch4 t (by
      show Steps p.tables e below (s₁.setTop (mkF m 28 #[.val (.int p1), .val (.int p2), .val (.int p3), .val (.int c1), .unset, .unset, .unset, .unset, .unset, .unset, .unset, .unset, .unset, .unset, .unset] [(.int c2)])) t
      refine XS.istore X0.here hx rfl (hb hby at_28) rfl (l' := #[.val (.int p1), .val (.int p2), .val (.int p3), .val (.int c1), .val (.int c2), .unset, .unset, .unset, .unset, .unset, .unset, .unset, .unset, .unset, .unset]) rfl ?_
      show Steps p.tables e below (s₁.setTop (mkF m 30 #[.val (.int p1), .val (.int p2), .val (.int p3), .val (.int c1), .val (.int c2), .unset, .unset, .unset, .unset, .unset, .unset, .unset, .unset, .unset, .unset] [])) t
      refine XS.iloadN X0.here hx rfl (hb hby at_30) rfl ?_
      show Steps p.tables e below (s₁.setTop (mkF m 31 #[.val (.int p1), .val (.int p2), .val (.int p3), .val (.int c1), .val (.int c2), .unset, .unset, .unset, .unset, .unset, .unset, .unset, .unset, .unset, .unset] [(.int p2)])) t
      refine XS.sipush X0.here hx rfl (hb hby at_31) ?_
      show Steps p.tables e below (s₁.setTop (mkF m 34 #[.val (.int p1), .val (.int p2), .val (.int p3), .val (.int c1), .val (.int c2), .unset, .unset, .unset, .unset, .unset, .unset, .unset, .unset, .unset, .unset] [(.int (255 : Int32)), (.int p2)])) t
      refine XS.iand X0.here hx rfl (hb hby at_34) rfl ?_
      show Steps p.tables e below (s₁.setTop (mkF m 35 #[.val (.int p1), .val (.int p2), .val (.int p3), .val (.int c1), .val (.int c2), .unset, .unset, .unset, .unset, .unset, .unset, .unset, .unset, .unset, .unset] [(.int (p2 &&& (255 : Int32)))])) t
      refine XS.i2c X0.here hx rfl (hb hby at_35) rfl ?_
      rw [hE2]
      show Steps p.tables e below (s₁.setTop (mkF m 36 #[.val (.int p1), .val (.int p2), .val (.int p3), .val (.int c1), .val (.int c2), .unset, .unset, .unset, .unset, .unset, .unset, .unset, .unset, .unset, .unset] [(.int d1)])) t
      refine XS.istore X0.here hx rfl (hb hby at_36) rfl (l' := #[.val (.int p1), .val (.int p2), .val (.int p3), .val (.int c1), .val (.int c2), .val (.int d1), .unset, .unset, .unset, .unset, .unset, .unset, .unset, .unset, .unset]) rfl ?_
      exact k)
  obtain ⟨d2, hx_d2, sj6⟩ : ∃ d2 : Int32, (¬ d2 < 0 ∧ ¬ (255 : Int32) < d2) ∧ ∀ t, Steps p.tables e below (s₁.setTop (mkF m 60 #[.val (.int p1), .val (.int p2), .val (.int p3), .val (.int c1), .val (.int c2), .val (.int d1), .unset, .unset, .unset, .unset, .unset, .unset, .unset, .unset, .unset] [(.int d2)])) t → Steps p.tables e below (s₁.setTop (mkF m 38 #[.val (.int p1), .val (.int p2), .val (.int p3), .val (.int c1), .val (.int c2), .val (.int d1), .unset, .unset, .unset, .unset, .unset, .unset, .unset, .unset, .unset] [])) t := by
    by_cases hq7 : (((p3.toUInt32 >>> ((5 : Int32) &&& 31).toUInt32).toInt32) &&& (1 : Int32)) = (0 : Int32)
    · skip
      refine ⟨((((p2.toUInt32 >>> ((8 : Int32) &&& 31).toUInt32).toInt32) &&& (255 : Int32)).toUInt32.toUInt16.toUInt32.toInt32), own_i2c _, fun t k => ?_⟩
      show Steps p.tables e below (s₁.setTop (mkF m 38 #[.val (.int p1), .val (.int p2), .val (.int p3), .val (.int c1), .val (.int c2), .val (.int d1), .unset, .unset, .unset, .unset, .unset, .unset, .unset, .unset, .unset] [])) t
      refine XS.iloadN X0.here hx rfl (hb hby at_38) rfl ?_
      show Steps p.tables e below (s₁.setTop (mkF m 39 #[.val (.int p1), .val (.int p2), .val (.int p3), .val (.int c1), .val (.int c2), .val (.int d1), .unset, .unset, .unset, .unset, .unset, .unset, .unset, .unset, .unset] [(.int p3)])) t
      refine XS.iconst X0.here hx rfl (hb hby at_39) ?_
      show Steps p.tables e below (s₁.setTop (mkF m 40 #[.val (.int p1), .val (.int p2), .val (.int p3), .val (.int c1), .val (.int c2), .val (.int d1), .unset, .unset, .unset, .unset, .unset, .unset, .unset, .unset, .unset] [(.int (5 : Int32)), (.int p3)])) t
      refine XS.iushr X0.here hx rfl (hb hby at_40) rfl ?_
      show Steps p.tables e below (s₁.setTop (mkF m 41 #[.val (.int p1), .val (.int p2), .val (.int p3), .val (.int c1), .val (.int c2), .val (.int d1), .unset, .unset, .unset, .unset, .unset, .unset, .unset, .unset, .unset] [(.int ((p3.toUInt32 >>> ((5 : Int32) &&& 31).toUInt32).toInt32))])) t
      refine XS.iconst X0.here hx rfl (hb hby at_41) ?_
      show Steps p.tables e below (s₁.setTop (mkF m 42 #[.val (.int p1), .val (.int p2), .val (.int p3), .val (.int c1), .val (.int c2), .val (.int d1), .unset, .unset, .unset, .unset, .unset, .unset, .unset, .unset, .unset] [(.int (1 : Int32)), (.int ((p3.toUInt32 >>> ((5 : Int32) &&& 31).toUInt32).toInt32))])) t
      refine XS.iand X0.here hx rfl (hb hby at_42) rfl ?_
      show Steps p.tables e below (s₁.setTop (mkF m 43 #[.val (.int p1), .val (.int p2), .val (.int p3), .val (.int c1), .val (.int c2), .val (.int d1), .unset, .unset, .unset, .unset, .unset, .unset, .unset, .unset, .unset] [(.int (((p3.toUInt32 >>> ((5 : Int32) &&& 31).toUInt32).toInt32) &&& (1 : Int32)))])) t
      refine XS.ifYes X0.here hx rfl (pc0 := 43) (pc' := 51) rfl (hb hby at_43) rfl ((if0 _ _).trans (teq hq7).1) (by decide) (by decide) ?_
      show Steps p.tables e below (s₁.setTop (mkF m 51 #[.val (.int p1), .val (.int p2), .val (.int p3), .val (.int c1), .val (.int c2), .val (.int d1), .unset, .unset, .unset, .unset, .unset, .unset, .unset, .unset, .unset] [])) t
      refine XS.iloadN X0.here hx rfl (hb hby at_51) rfl ?_
      show Steps p.tables e below (s₁.setTop (mkF m 52 #[.val (.int p1), .val (.int p2), .val (.int p3), .val (.int c1), .val (.int c2), .val (.int d1), .unset, .unset, .unset, .unset, .unset, .unset, .unset, .unset, .unset] [(.int p2)])) t
      refine XS.bipush X0.here hx rfl (hb hby at_52) ?_
      show Steps p.tables e below (s₁.setTop (mkF m 54 #[.val (.int p1), .val (.int p2), .val (.int p3), .val (.int c1), .val (.int c2), .val (.int d1), .unset, .unset, .unset, .unset, .unset, .unset, .unset, .unset, .unset] [(.int (8 : Int32)), (.int p2)])) t
      refine XS.iushr X0.here hx rfl (hb hby at_54) rfl ?_
      show Steps p.tables e below (s₁.setTop (mkF m 55 #[.val (.int p1), .val (.int p2), .val (.int p3), .val (.int c1), .val (.int c2), .val (.int d1), .unset, .unset, .unset, .unset, .unset, .unset, .unset, .unset, .unset] [(.int ((p2.toUInt32 >>> ((8 : Int32) &&& 31).toUInt32).toInt32))])) t
      refine XS.sipush X0.here hx rfl (hb hby at_55) ?_
      show Steps p.tables e below (s₁.setTop (mkF m 58 #[.val (.int p1), .val (.int p2), .val (.int p3), .val (.int c1), .val (.int c2), .val (.int d1), .unset, .unset, .unset, .unset, .unset, .unset, .unset, .unset, .unset] [(.int (255 : Int32)), (.int ((p2.toUInt32 >>> ((8 : Int32) &&& 31).toUInt32).toInt32))])) t
      refine XS.iand X0.here hx rfl (hb hby at_58) rfl ?_
      show Steps p.tables e below (s₁.setTop (mkF m 59 #[.val (.int p1), .val (.int p2), .val (.int p3), .val (.int c1), .val (.int c2), .val (.int d1), .unset, .unset, .unset, .unset, .unset, .unset, .unset, .unset, .unset] [(.int (((p2.toUInt32 >>> ((8 : Int32) &&& 31).toUInt32).toInt32) &&& (255 : Int32)))])) t
      refine XS.i2c X0.here hx rfl (hb hby at_59) rfl ?_
      exact k
    · skip
      refine ⟨d1, hx_d1, fun t k => ?_⟩
      show Steps p.tables e below (s₁.setTop (mkF m 38 #[.val (.int p1), .val (.int p2), .val (.int p3), .val (.int c1), .val (.int c2), .val (.int d1), .unset, .unset, .unset, .unset, .unset, .unset, .unset, .unset, .unset] [])) t
      refine XS.iloadN X0.here hx rfl (hb hby at_38) rfl ?_
      show Steps p.tables e below (s₁.setTop (mkF m 39 #[.val (.int p1), .val (.int p2), .val (.int p3), .val (.int c1), .val (.int c2), .val (.int d1), .unset, .unset, .unset, .unset, .unset, .unset, .unset, .unset, .unset] [(.int p3)])) t
      refine XS.iconst X0.here hx rfl (hb hby at_39) ?_
      show Steps p.tables e below (s₁.setTop (mkF m 40 #[.val (.int p1), .val (.int p2), .val (.int p3), .val (.int c1), .val (.int c2), .val (.int d1), .unset, .unset, .unset, .unset, .unset, .unset, .unset, .unset, .unset] [(.int (5 : Int32)), (.int p3)])) t
      refine XS.iushr X0.here hx rfl (hb hby at_40) rfl ?_
      show Steps p.tables e below (s₁.setTop (mkF m 41 #[.val (.int p1), .val (.int p2), .val (.int p3), .val (.int c1), .val (.int c2), .val (.int d1), .unset, .unset, .unset, .unset, .unset, .unset, .unset, .unset, .unset] [(.int ((p3.toUInt32 >>> ((5 : Int32) &&& 31).toUInt32).toInt32))])) t
      refine XS.iconst X0.here hx rfl (hb hby at_41) ?_
      show Steps p.tables e below (s₁.setTop (mkF m 42 #[.val (.int p1), .val (.int p2), .val (.int p3), .val (.int c1), .val (.int c2), .val (.int d1), .unset, .unset, .unset, .unset, .unset, .unset, .unset, .unset, .unset] [(.int (1 : Int32)), (.int ((p3.toUInt32 >>> ((5 : Int32) &&& 31).toUInt32).toInt32))])) t
      refine XS.iand X0.here hx rfl (hb hby at_42) rfl ?_
      show Steps p.tables e below (s₁.setTop (mkF m 43 #[.val (.int p1), .val (.int p2), .val (.int p3), .val (.int c1), .val (.int c2), .val (.int d1), .unset, .unset, .unset, .unset, .unset, .unset, .unset, .unset, .unset] [(.int (((p3.toUInt32 >>> ((5 : Int32) &&& 31).toUInt32).toInt32) &&& (1 : Int32)))])) t
      refine XS.ifNo X0.here hx rfl (hb hby at_43) rfl ((if0 _ _).trans (feq hq7).1) ?_
      show Steps p.tables e below (s₁.setTop (mkF m 46 #[.val (.int p1), .val (.int p2), .val (.int p3), .val (.int c1), .val (.int c2), .val (.int d1), .unset, .unset, .unset, .unset, .unset, .unset, .unset, .unset, .unset] [])) t
      refine XS.iload X0.here hx rfl (hb hby at_46) rfl ?_
      show Steps p.tables e below (s₁.setTop (mkF m 48 #[.val (.int p1), .val (.int p2), .val (.int p3), .val (.int c1), .val (.int c2), .val (.int d1), .unset, .unset, .unset, .unset, .unset, .unset, .unset, .unset, .unset] [(.int d1)])) t
      refine XS.goto X0.here hx rfl (pc0 := 48) (pc' := 60) rfl (hb hby at_48) (by decide) (by decide) ?_
      exact k
  have ch8 : ∀ t, Steps p.tables e below (s₁.setTop (mkF m 60 #[.val (.int p1), .val (.int p2), .val (.int p3), .val (.int c1), .val (.int c2), .val (.int d1), .unset, .unset, .unset, .unset, .unset, .unset, .unset, .unset, .unset] [(.int d2)])) t → Steps p.tables e below (s₁.setTop (entryFrame m #[(.int p1), (.int p2), (.int p3)] maxLocals)) t := fun t k => ch5 t (sj6 t k)
  have ch9 : ∀ t, Steps p.tables e below (s₁.setTop (mkF m 62 #[.val (.int p1), .val (.int p2), .val (.int p3), .val (.int c1), .val (.int c2), .val (.int d1), .val (.int d2), .unset, .unset, .unset, .unset, .unset, .unset, .unset, .unset] [])) t → Steps p.tables e below (s₁.setTop (entryFrame m #[(.int p1), (.int p2), (.int p3)] maxLocals)) t := fun t k => ch8 t (by
      show Steps p.tables e below (s₁.setTop (mkF m 60 #[.val (.int p1), .val (.int p2), .val (.int p3), .val (.int c1), .val (.int c2), .val (.int d1), .unset, .unset, .unset, .unset, .unset, .unset, .unset, .unset, .unset] [(.int d2)])) t
      refine XS.istore X0.here hx rfl (hb hby at_60) rfl (l' := #[.val (.int p1), .val (.int p2), .val (.int p3), .val (.int c1), .val (.int c2), .val (.int d1), .val (.int d2), .unset, .unset, .unset, .unset, .unset, .unset, .unset, .unset]) rfl ?_
      exact k)
  obtain ⟨x1, hx_x1, sj10⟩ : ∃ x1 : Int32, (x1 = (0 : Int32) ∨ x1 = (1 : Int32)) ∧ ∀ t, Steps p.tables e below (s₁.setTop (mkF m 73 #[.val (.int p1), .val (.int p2), .val (.int p3), .val (.int c1), .val (.int c2), .val (.int d1), .val (.int d2), .unset, .unset, .unset, .unset, .unset, .unset, .unset, .unset] [(.int x1)])) t → Steps p.tables e below (s₁.setTop (mkF m 62 #[.val (.int p1), .val (.int p2), .val (.int p3), .val (.int c1), .val (.int c2), .val (.int d1), .val (.int d2), .unset, .unset, .unset, .unset, .unset, .unset, .unset, .unset] [])) t := by
    by_cases hq11 : (p3 &&& (1 : Int32)) = (0 : Int32)
    · skip
      refine ⟨(0 : Int32), (Or.inl rfl), fun t k => ?_⟩
      show Steps p.tables e below (s₁.setTop (mkF m 62 #[.val (.int p1), .val (.int p2), .val (.int p3), .val (.int c1), .val (.int c2), .val (.int d1), .val (.int d2), .unset, .unset, .unset, .unset, .unset, .unset, .unset, .unset] [])) t
      refine XS.iloadN X0.here hx rfl (hb hby at_62) rfl ?_
      show Steps p.tables e below (s₁.setTop (mkF m 63 #[.val (.int p1), .val (.int p2), .val (.int p3), .val (.int c1), .val (.int c2), .val (.int d1), .val (.int d2), .unset, .unset, .unset, .unset, .unset, .unset, .unset, .unset] [(.int p3)])) t
      refine XS.iconst X0.here hx rfl (hb hby at_63) ?_
      show Steps p.tables e below (s₁.setTop (mkF m 64 #[.val (.int p1), .val (.int p2), .val (.int p3), .val (.int c1), .val (.int c2), .val (.int d1), .val (.int d2), .unset, .unset, .unset, .unset, .unset, .unset, .unset, .unset] [(.int (1 : Int32)), (.int p3)])) t
      refine XS.iand X0.here hx rfl (hb hby at_64) rfl ?_
      show Steps p.tables e below (s₁.setTop (mkF m 65 #[.val (.int p1), .val (.int p2), .val (.int p3), .val (.int c1), .val (.int c2), .val (.int d1), .val (.int d2), .unset, .unset, .unset, .unset, .unset, .unset, .unset, .unset] [(.int (p3 &&& (1 : Int32)))])) t
      refine XS.ifYes X0.here hx rfl (pc0 := 65) (pc' := 72) rfl (hb hby at_65) rfl ((if0 _ _).trans (teq hq11).1) (by decide) (by decide) ?_
      show Steps p.tables e below (s₁.setTop (mkF m 72 #[.val (.int p1), .val (.int p2), .val (.int p3), .val (.int c1), .val (.int c2), .val (.int d1), .val (.int d2), .unset, .unset, .unset, .unset, .unset, .unset, .unset, .unset] [])) t
      refine XS.iconst X0.here hx rfl (hb hby at_72) ?_
      exact k
    · skip
      refine ⟨(1 : Int32), (Or.inr rfl), fun t k => ?_⟩
      show Steps p.tables e below (s₁.setTop (mkF m 62 #[.val (.int p1), .val (.int p2), .val (.int p3), .val (.int c1), .val (.int c2), .val (.int d1), .val (.int d2), .unset, .unset, .unset, .unset, .unset, .unset, .unset, .unset] [])) t
      refine XS.iloadN X0.here hx rfl (hb hby at_62) rfl ?_
      show Steps p.tables e below (s₁.setTop (mkF m 63 #[.val (.int p1), .val (.int p2), .val (.int p3), .val (.int c1), .val (.int c2), .val (.int d1), .val (.int d2), .unset, .unset, .unset, .unset, .unset, .unset, .unset, .unset] [(.int p3)])) t
      refine XS.iconst X0.here hx rfl (hb hby at_63) ?_
      show Steps p.tables e below (s₁.setTop (mkF m 64 #[.val (.int p1), .val (.int p2), .val (.int p3), .val (.int c1), .val (.int c2), .val (.int d1), .val (.int d2), .unset, .unset, .unset, .unset, .unset, .unset, .unset, .unset] [(.int (1 : Int32)), (.int p3)])) t
      refine XS.iand X0.here hx rfl (hb hby at_64) rfl ?_
      show Steps p.tables e below (s₁.setTop (mkF m 65 #[.val (.int p1), .val (.int p2), .val (.int p3), .val (.int c1), .val (.int c2), .val (.int d1), .val (.int d2), .unset, .unset, .unset, .unset, .unset, .unset, .unset, .unset] [(.int (p3 &&& (1 : Int32)))])) t
      refine XS.ifNo X0.here hx rfl (hb hby at_65) rfl ((if0 _ _).trans (feq hq11).1) ?_
      show Steps p.tables e below (s₁.setTop (mkF m 68 #[.val (.int p1), .val (.int p2), .val (.int p3), .val (.int c1), .val (.int c2), .val (.int d1), .val (.int d2), .unset, .unset, .unset, .unset, .unset, .unset, .unset, .unset] [])) t
      refine XS.iconst X0.here hx rfl (hb hby at_68) ?_
      show Steps p.tables e below (s₁.setTop (mkF m 69 #[.val (.int p1), .val (.int p2), .val (.int p3), .val (.int c1), .val (.int c2), .val (.int d1), .val (.int d2), .unset, .unset, .unset, .unset, .unset, .unset, .unset, .unset] [(.int (1 : Int32))])) t
      refine XS.goto X0.here hx rfl (pc0 := 69) (pc' := 73) rfl (hb hby at_69) (by decide) (by decide) ?_
      exact k
  have ch12 : ∀ t, Steps p.tables e below (s₁.setTop (mkF m 73 #[.val (.int p1), .val (.int p2), .val (.int p3), .val (.int c1), .val (.int c2), .val (.int d1), .val (.int d2), .unset, .unset, .unset, .unset, .unset, .unset, .unset, .unset] [(.int x1)])) t → Steps p.tables e below (s₁.setTop (entryFrame m #[(.int p1), (.int p2), (.int p3)] maxLocals)) t := fun t k => ch9 t (sj10 t k)
  have ch13 : ∀ t, Steps p.tables e below (s₁.setTop (mkF m 75 #[.val (.int p1), .val (.int p2), .val (.int p3), .val (.int c1), .val (.int c2), .val (.int d1), .val (.int d2), .val (.int x1), .unset, .unset, .unset, .unset, .unset, .unset, .unset] [])) t → Steps p.tables e below (s₁.setTop (entryFrame m #[(.int p1), (.int p2), (.int p3)] maxLocals)) t := fun t k => ch12 t (by
      show Steps p.tables e below (s₁.setTop (mkF m 73 #[.val (.int p1), .val (.int p2), .val (.int p3), .val (.int c1), .val (.int c2), .val (.int d1), .val (.int d2), .unset, .unset, .unset, .unset, .unset, .unset, .unset, .unset] [(.int x1)])) t
      refine XS.istore X0.here hx rfl (hb hby at_73) rfl (l' := #[.val (.int p1), .val (.int p2), .val (.int p3), .val (.int c1), .val (.int c2), .val (.int d1), .val (.int d2), .val (.int x1), .unset, .unset, .unset, .unset, .unset, .unset, .unset]) rfl ?_
      exact k)
  obtain ⟨y1, hx_y1, sj14⟩ : ∃ y1 : Int32, (y1 = (0 : Int32) ∨ y1 = (1 : Int32)) ∧ ∀ t, Steps p.tables e below (s₁.setTop (mkF m 86 #[.val (.int p1), .val (.int p2), .val (.int p3), .val (.int c1), .val (.int c2), .val (.int d1), .val (.int d2), .val (.int x1), .unset, .unset, .unset, .unset, .unset, .unset, .unset] [(.int y1)])) t → Steps p.tables e below (s₁.setTop (mkF m 75 #[.val (.int p1), .val (.int p2), .val (.int p3), .val (.int c1), .val (.int c2), .val (.int d1), .val (.int d2), .val (.int x1), .unset, .unset, .unset, .unset, .unset, .unset, .unset] [])) t := by
    by_cases hq15 : (p3 &&& (2 : Int32)) = (0 : Int32)
    · skip
      refine ⟨(0 : Int32), (Or.inl rfl), fun t k => ?_⟩
      show Steps p.tables e below (s₁.setTop (mkF m 75 #[.val (.int p1), .val (.int p2), .val (.int p3), .val (.int c1), .val (.int c2), .val (.int d1), .val (.int d2), .val (.int x1), .unset, .unset, .unset, .unset, .unset, .unset, .unset] [])) t
      refine XS.iloadN X0.here hx rfl (hb hby at_75) rfl ?_
      show Steps p.tables e below (s₁.setTop (mkF m 76 #[.val (.int p1), .val (.int p2), .val (.int p3), .val (.int c1), .val (.int c2), .val (.int d1), .val (.int d2), .val (.int x1), .unset, .unset, .unset, .unset, .unset, .unset, .unset] [(.int p3)])) t
      refine XS.iconst X0.here hx rfl (hb hby at_76) ?_
      show Steps p.tables e below (s₁.setTop (mkF m 77 #[.val (.int p1), .val (.int p2), .val (.int p3), .val (.int c1), .val (.int c2), .val (.int d1), .val (.int d2), .val (.int x1), .unset, .unset, .unset, .unset, .unset, .unset, .unset] [(.int (2 : Int32)), (.int p3)])) t
      refine XS.iand X0.here hx rfl (hb hby at_77) rfl ?_
      show Steps p.tables e below (s₁.setTop (mkF m 78 #[.val (.int p1), .val (.int p2), .val (.int p3), .val (.int c1), .val (.int c2), .val (.int d1), .val (.int d2), .val (.int x1), .unset, .unset, .unset, .unset, .unset, .unset, .unset] [(.int (p3 &&& (2 : Int32)))])) t
      refine XS.ifYes X0.here hx rfl (pc0 := 78) (pc' := 85) rfl (hb hby at_78) rfl ((if0 _ _).trans (teq hq15).1) (by decide) (by decide) ?_
      show Steps p.tables e below (s₁.setTop (mkF m 85 #[.val (.int p1), .val (.int p2), .val (.int p3), .val (.int c1), .val (.int c2), .val (.int d1), .val (.int d2), .val (.int x1), .unset, .unset, .unset, .unset, .unset, .unset, .unset] [])) t
      refine XS.iconst X0.here hx rfl (hb hby at_85) ?_
      exact k
    · skip
      refine ⟨(1 : Int32), (Or.inr rfl), fun t k => ?_⟩
      show Steps p.tables e below (s₁.setTop (mkF m 75 #[.val (.int p1), .val (.int p2), .val (.int p3), .val (.int c1), .val (.int c2), .val (.int d1), .val (.int d2), .val (.int x1), .unset, .unset, .unset, .unset, .unset, .unset, .unset] [])) t
      refine XS.iloadN X0.here hx rfl (hb hby at_75) rfl ?_
      show Steps p.tables e below (s₁.setTop (mkF m 76 #[.val (.int p1), .val (.int p2), .val (.int p3), .val (.int c1), .val (.int c2), .val (.int d1), .val (.int d2), .val (.int x1), .unset, .unset, .unset, .unset, .unset, .unset, .unset] [(.int p3)])) t
      refine XS.iconst X0.here hx rfl (hb hby at_76) ?_
      show Steps p.tables e below (s₁.setTop (mkF m 77 #[.val (.int p1), .val (.int p2), .val (.int p3), .val (.int c1), .val (.int c2), .val (.int d1), .val (.int d2), .val (.int x1), .unset, .unset, .unset, .unset, .unset, .unset, .unset] [(.int (2 : Int32)), (.int p3)])) t
      refine XS.iand X0.here hx rfl (hb hby at_77) rfl ?_
      show Steps p.tables e below (s₁.setTop (mkF m 78 #[.val (.int p1), .val (.int p2), .val (.int p3), .val (.int c1), .val (.int c2), .val (.int d1), .val (.int d2), .val (.int x1), .unset, .unset, .unset, .unset, .unset, .unset, .unset] [(.int (p3 &&& (2 : Int32)))])) t
      refine XS.ifNo X0.here hx rfl (hb hby at_78) rfl ((if0 _ _).trans (feq hq15).1) ?_
      show Steps p.tables e below (s₁.setTop (mkF m 81 #[.val (.int p1), .val (.int p2), .val (.int p3), .val (.int c1), .val (.int c2), .val (.int d1), .val (.int d2), .val (.int x1), .unset, .unset, .unset, .unset, .unset, .unset, .unset] [])) t
      refine XS.iconst X0.here hx rfl (hb hby at_81) ?_
      show Steps p.tables e below (s₁.setTop (mkF m 82 #[.val (.int p1), .val (.int p2), .val (.int p3), .val (.int c1), .val (.int c2), .val (.int d1), .val (.int d2), .val (.int x1), .unset, .unset, .unset, .unset, .unset, .unset, .unset] [(.int (1 : Int32))])) t
      refine XS.goto X0.here hx rfl (pc0 := 82) (pc' := 86) rfl (hb hby at_82) (by decide) (by decide) ?_
      exact k
  have ch16 : ∀ t, Steps p.tables e below (s₁.setTop (mkF m 86 #[.val (.int p1), .val (.int p2), .val (.int p3), .val (.int c1), .val (.int c2), .val (.int d1), .val (.int d2), .val (.int x1), .unset, .unset, .unset, .unset, .unset, .unset, .unset] [(.int y1)])) t → Steps p.tables e below (s₁.setTop (entryFrame m #[(.int p1), (.int p2), (.int p3)] maxLocals)) t := fun t k => ch13 t (sj14 t k)
  have ch17 : ∀ t, Steps p.tables e below (s₁.setTop (mkF m 88 #[.val (.int p1), .val (.int p2), .val (.int p3), .val (.int c1), .val (.int c2), .val (.int d1), .val (.int d2), .val (.int x1), .val (.int y1), .unset, .unset, .unset, .unset, .unset, .unset] [])) t → Steps p.tables e below (s₁.setTop (entryFrame m #[(.int p1), (.int p2), (.int p3)] maxLocals)) t := fun t k => ch16 t (by
      show Steps p.tables e below (s₁.setTop (mkF m 86 #[.val (.int p1), .val (.int p2), .val (.int p3), .val (.int c1), .val (.int c2), .val (.int d1), .val (.int d2), .val (.int x1), .unset, .unset, .unset, .unset, .unset, .unset, .unset] [(.int y1)])) t
      refine XS.istore X0.here hx rfl (hb hby at_86) rfl (l' := #[.val (.int p1), .val (.int p2), .val (.int p3), .val (.int c1), .val (.int c2), .val (.int d1), .val (.int d2), .val (.int x1), .val (.int y1), .unset, .unset, .unset, .unset, .unset, .unset]) rfl ?_
      exact k)
  obtain ⟨x2, hx_x2, sj18⟩ : ∃ x2 : Int32, (x2 = (0 : Int32) ∨ x2 = (1 : Int32)) ∧ ∀ t, Steps p.tables e below (s₁.setTop (mkF m 99 #[.val (.int p1), .val (.int p2), .val (.int p3), .val (.int c1), .val (.int c2), .val (.int d1), .val (.int d2), .val (.int x1), .val (.int y1), .unset, .unset, .unset, .unset, .unset, .unset] [(.int x2)])) t → Steps p.tables e below (s₁.setTop (mkF m 88 #[.val (.int p1), .val (.int p2), .val (.int p3), .val (.int c1), .val (.int c2), .val (.int d1), .val (.int d2), .val (.int x1), .val (.int y1), .unset, .unset, .unset, .unset, .unset, .unset] [])) t := by
    by_cases hq19 : (p3 &&& (4 : Int32)) = (0 : Int32)
    · skip
      refine ⟨(0 : Int32), (Or.inl rfl), fun t k => ?_⟩
      show Steps p.tables e below (s₁.setTop (mkF m 88 #[.val (.int p1), .val (.int p2), .val (.int p3), .val (.int c1), .val (.int c2), .val (.int d1), .val (.int d2), .val (.int x1), .val (.int y1), .unset, .unset, .unset, .unset, .unset, .unset] [])) t
      refine XS.iloadN X0.here hx rfl (hb hby at_88) rfl ?_
      show Steps p.tables e below (s₁.setTop (mkF m 89 #[.val (.int p1), .val (.int p2), .val (.int p3), .val (.int c1), .val (.int c2), .val (.int d1), .val (.int d2), .val (.int x1), .val (.int y1), .unset, .unset, .unset, .unset, .unset, .unset] [(.int p3)])) t
      refine XS.iconst X0.here hx rfl (hb hby at_89) ?_
      show Steps p.tables e below (s₁.setTop (mkF m 90 #[.val (.int p1), .val (.int p2), .val (.int p3), .val (.int c1), .val (.int c2), .val (.int d1), .val (.int d2), .val (.int x1), .val (.int y1), .unset, .unset, .unset, .unset, .unset, .unset] [(.int (4 : Int32)), (.int p3)])) t
      refine XS.iand X0.here hx rfl (hb hby at_90) rfl ?_
      show Steps p.tables e below (s₁.setTop (mkF m 91 #[.val (.int p1), .val (.int p2), .val (.int p3), .val (.int c1), .val (.int c2), .val (.int d1), .val (.int d2), .val (.int x1), .val (.int y1), .unset, .unset, .unset, .unset, .unset, .unset] [(.int (p3 &&& (4 : Int32)))])) t
      refine XS.ifYes X0.here hx rfl (pc0 := 91) (pc' := 98) rfl (hb hby at_91) rfl ((if0 _ _).trans (teq hq19).1) (by decide) (by decide) ?_
      show Steps p.tables e below (s₁.setTop (mkF m 98 #[.val (.int p1), .val (.int p2), .val (.int p3), .val (.int c1), .val (.int c2), .val (.int d1), .val (.int d2), .val (.int x1), .val (.int y1), .unset, .unset, .unset, .unset, .unset, .unset] [])) t
      refine XS.iconst X0.here hx rfl (hb hby at_98) ?_
      exact k
    · skip
      refine ⟨(1 : Int32), (Or.inr rfl), fun t k => ?_⟩
      show Steps p.tables e below (s₁.setTop (mkF m 88 #[.val (.int p1), .val (.int p2), .val (.int p3), .val (.int c1), .val (.int c2), .val (.int d1), .val (.int d2), .val (.int x1), .val (.int y1), .unset, .unset, .unset, .unset, .unset, .unset] [])) t
      refine XS.iloadN X0.here hx rfl (hb hby at_88) rfl ?_
      show Steps p.tables e below (s₁.setTop (mkF m 89 #[.val (.int p1), .val (.int p2), .val (.int p3), .val (.int c1), .val (.int c2), .val (.int d1), .val (.int d2), .val (.int x1), .val (.int y1), .unset, .unset, .unset, .unset, .unset, .unset] [(.int p3)])) t
      refine XS.iconst X0.here hx rfl (hb hby at_89) ?_
      show Steps p.tables e below (s₁.setTop (mkF m 90 #[.val (.int p1), .val (.int p2), .val (.int p3), .val (.int c1), .val (.int c2), .val (.int d1), .val (.int d2), .val (.int x1), .val (.int y1), .unset, .unset, .unset, .unset, .unset, .unset] [(.int (4 : Int32)), (.int p3)])) t
      refine XS.iand X0.here hx rfl (hb hby at_90) rfl ?_
      show Steps p.tables e below (s₁.setTop (mkF m 91 #[.val (.int p1), .val (.int p2), .val (.int p3), .val (.int c1), .val (.int c2), .val (.int d1), .val (.int d2), .val (.int x1), .val (.int y1), .unset, .unset, .unset, .unset, .unset, .unset] [(.int (p3 &&& (4 : Int32)))])) t
      refine XS.ifNo X0.here hx rfl (hb hby at_91) rfl ((if0 _ _).trans (feq hq19).1) ?_
      show Steps p.tables e below (s₁.setTop (mkF m 94 #[.val (.int p1), .val (.int p2), .val (.int p3), .val (.int c1), .val (.int c2), .val (.int d1), .val (.int d2), .val (.int x1), .val (.int y1), .unset, .unset, .unset, .unset, .unset, .unset] [])) t
      refine XS.iconst X0.here hx rfl (hb hby at_94) ?_
      show Steps p.tables e below (s₁.setTop (mkF m 95 #[.val (.int p1), .val (.int p2), .val (.int p3), .val (.int c1), .val (.int c2), .val (.int d1), .val (.int d2), .val (.int x1), .val (.int y1), .unset, .unset, .unset, .unset, .unset, .unset] [(.int (1 : Int32))])) t
      refine XS.goto X0.here hx rfl (pc0 := 95) (pc' := 99) rfl (hb hby at_95) (by decide) (by decide) ?_
      exact k
  have ch20 : ∀ t, Steps p.tables e below (s₁.setTop (mkF m 99 #[.val (.int p1), .val (.int p2), .val (.int p3), .val (.int c1), .val (.int c2), .val (.int d1), .val (.int d2), .val (.int x1), .val (.int y1), .unset, .unset, .unset, .unset, .unset, .unset] [(.int x2)])) t → Steps p.tables e below (s₁.setTop (entryFrame m #[(.int p1), (.int p2), (.int p3)] maxLocals)) t := fun t k => ch17 t (sj18 t k)
  have ch21 : ∀ t, Steps p.tables e below (s₁.setTop (mkF m 101 #[.val (.int p1), .val (.int p2), .val (.int p3), .val (.int c1), .val (.int c2), .val (.int d1), .val (.int d2), .val (.int x1), .val (.int y1), .val (.int x2), .unset, .unset, .unset, .unset, .unset] [])) t → Steps p.tables e below (s₁.setTop (entryFrame m #[(.int p1), (.int p2), (.int p3)] maxLocals)) t := fun t k => ch20 t (by
      show Steps p.tables e below (s₁.setTop (mkF m 99 #[.val (.int p1), .val (.int p2), .val (.int p3), .val (.int c1), .val (.int c2), .val (.int d1), .val (.int d2), .val (.int x1), .val (.int y1), .unset, .unset, .unset, .unset, .unset, .unset] [(.int x2)])) t
      refine XS.istore X0.here hx rfl (hb hby at_99) rfl (l' := #[.val (.int p1), .val (.int p2), .val (.int p3), .val (.int c1), .val (.int c2), .val (.int d1), .val (.int d2), .val (.int x1), .val (.int y1), .val (.int x2), .unset, .unset, .unset, .unset, .unset]) rfl ?_
      exact k)
  obtain ⟨y2, hx_y2, sj22⟩ : ∃ y2 : Int32, (y2 = (0 : Int32) ∨ y2 = (1 : Int32)) ∧ ∀ t, Steps p.tables e below (s₁.setTop (mkF m 113 #[.val (.int p1), .val (.int p2), .val (.int p3), .val (.int c1), .val (.int c2), .val (.int d1), .val (.int d2), .val (.int x1), .val (.int y1), .val (.int x2), .unset, .unset, .unset, .unset, .unset] [(.int y2)])) t → Steps p.tables e below (s₁.setTop (mkF m 101 #[.val (.int p1), .val (.int p2), .val (.int p3), .val (.int c1), .val (.int c2), .val (.int d1), .val (.int d2), .val (.int x1), .val (.int y1), .val (.int x2), .unset, .unset, .unset, .unset, .unset] [])) t := by
    by_cases hq23 : (p3 &&& (8 : Int32)) = (0 : Int32)
    · skip
      refine ⟨(0 : Int32), (Or.inl rfl), fun t k => ?_⟩
      show Steps p.tables e below (s₁.setTop (mkF m 101 #[.val (.int p1), .val (.int p2), .val (.int p3), .val (.int c1), .val (.int c2), .val (.int d1), .val (.int d2), .val (.int x1), .val (.int y1), .val (.int x2), .unset, .unset, .unset, .unset, .unset] [])) t
      refine XS.iloadN X0.here hx rfl (hb hby at_101) rfl ?_
      show Steps p.tables e below (s₁.setTop (mkF m 102 #[.val (.int p1), .val (.int p2), .val (.int p3), .val (.int c1), .val (.int c2), .val (.int d1), .val (.int d2), .val (.int x1), .val (.int y1), .val (.int x2), .unset, .unset, .unset, .unset, .unset] [(.int p3)])) t
      refine XS.bipush X0.here hx rfl (hb hby at_102) ?_
      show Steps p.tables e below (s₁.setTop (mkF m 104 #[.val (.int p1), .val (.int p2), .val (.int p3), .val (.int c1), .val (.int c2), .val (.int d1), .val (.int d2), .val (.int x1), .val (.int y1), .val (.int x2), .unset, .unset, .unset, .unset, .unset] [(.int (8 : Int32)), (.int p3)])) t
      refine XS.iand X0.here hx rfl (hb hby at_104) rfl ?_
      show Steps p.tables e below (s₁.setTop (mkF m 105 #[.val (.int p1), .val (.int p2), .val (.int p3), .val (.int c1), .val (.int c2), .val (.int d1), .val (.int d2), .val (.int x1), .val (.int y1), .val (.int x2), .unset, .unset, .unset, .unset, .unset] [(.int (p3 &&& (8 : Int32)))])) t
      refine XS.ifYes X0.here hx rfl (pc0 := 105) (pc' := 112) rfl (hb hby at_105) rfl ((if0 _ _).trans (teq hq23).1) (by decide) (by decide) ?_
      show Steps p.tables e below (s₁.setTop (mkF m 112 #[.val (.int p1), .val (.int p2), .val (.int p3), .val (.int c1), .val (.int c2), .val (.int d1), .val (.int d2), .val (.int x1), .val (.int y1), .val (.int x2), .unset, .unset, .unset, .unset, .unset] [])) t
      refine XS.iconst X0.here hx rfl (hb hby at_112) ?_
      exact k
    · skip
      refine ⟨(1 : Int32), (Or.inr rfl), fun t k => ?_⟩
      show Steps p.tables e below (s₁.setTop (mkF m 101 #[.val (.int p1), .val (.int p2), .val (.int p3), .val (.int c1), .val (.int c2), .val (.int d1), .val (.int d2), .val (.int x1), .val (.int y1), .val (.int x2), .unset, .unset, .unset, .unset, .unset] [])) t
      refine XS.iloadN X0.here hx rfl (hb hby at_101) rfl ?_
      show Steps p.tables e below (s₁.setTop (mkF m 102 #[.val (.int p1), .val (.int p2), .val (.int p3), .val (.int c1), .val (.int c2), .val (.int d1), .val (.int d2), .val (.int x1), .val (.int y1), .val (.int x2), .unset, .unset, .unset, .unset, .unset] [(.int p3)])) t
      refine XS.bipush X0.here hx rfl (hb hby at_102) ?_
      show Steps p.tables e below (s₁.setTop (mkF m 104 #[.val (.int p1), .val (.int p2), .val (.int p3), .val (.int c1), .val (.int c2), .val (.int d1), .val (.int d2), .val (.int x1), .val (.int y1), .val (.int x2), .unset, .unset, .unset, .unset, .unset] [(.int (8 : Int32)), (.int p3)])) t
      refine XS.iand X0.here hx rfl (hb hby at_104) rfl ?_
      show Steps p.tables e below (s₁.setTop (mkF m 105 #[.val (.int p1), .val (.int p2), .val (.int p3), .val (.int c1), .val (.int c2), .val (.int d1), .val (.int d2), .val (.int x1), .val (.int y1), .val (.int x2), .unset, .unset, .unset, .unset, .unset] [(.int (p3 &&& (8 : Int32)))])) t
      refine XS.ifNo X0.here hx rfl (hb hby at_105) rfl ((if0 _ _).trans (feq hq23).1) ?_
      show Steps p.tables e below (s₁.setTop (mkF m 108 #[.val (.int p1), .val (.int p2), .val (.int p3), .val (.int c1), .val (.int c2), .val (.int d1), .val (.int d2), .val (.int x1), .val (.int y1), .val (.int x2), .unset, .unset, .unset, .unset, .unset] [])) t
      refine XS.iconst X0.here hx rfl (hb hby at_108) ?_
      show Steps p.tables e below (s₁.setTop (mkF m 109 #[.val (.int p1), .val (.int p2), .val (.int p3), .val (.int c1), .val (.int c2), .val (.int d1), .val (.int d2), .val (.int x1), .val (.int y1), .val (.int x2), .unset, .unset, .unset, .unset, .unset] [(.int (1 : Int32))])) t
      refine XS.goto X0.here hx rfl (pc0 := 109) (pc' := 113) rfl (hb hby at_109) (by decide) (by decide) ?_
      exact k
  have ch24 : ∀ t, Steps p.tables e below (s₁.setTop (mkF m 113 #[.val (.int p1), .val (.int p2), .val (.int p3), .val (.int c1), .val (.int c2), .val (.int d1), .val (.int d2), .val (.int x1), .val (.int y1), .val (.int x2), .unset, .unset, .unset, .unset, .unset] [(.int y2)])) t → Steps p.tables e below (s₁.setTop (entryFrame m #[(.int p1), (.int p2), (.int p3)] maxLocals)) t := fun t k => ch21 t (sj22 t k)
  obtain ⟨T25, hp25, X25, e25, E25, A25, D25, -, st25⟩ := newO X0 hx hZ hown (hw _ (List.mem_of_getElem? (i := 0) rfl)) (hw _ (List.mem_of_getElem? (i := 1) rfl)) (hw _ (List.mem_of_getElem? (i := 2) rfl)) e0 (g := (mkF m 123 #[.val (.int p1), .val (.int p2), .val (.int p3), .val (.int c1), .val (.int c2), .val (.int d1), .val (.int d2), .val (.int x1), .val (.int y1), .val (.int x2), .val (.int y2), .val (.int (1 : Int32)), .unset, .unset, .unset] [])) rfl (hb hby at_123) (by decide) (by decide)
  obtain ⟨b25, g25⟩ : ∃ z, z = h0.size := ⟨_, rfl⟩
  rw [← g25] at A25 D25 st25
  have g_b25 : n0 ≤ b25 := Nat.le_trans (Nat.le_trans Z0 (Keep.refl h0 []).1) (Nat.le_of_eq g25.symm)
  have sz_b25 : h0.size ≤ b25 := Nat.le_trans (Keep.refl h0 []).1 (Nat.le_of_eq g25.symm)
  have hk := Nat.le_trans hk E25.1
  have Kp25 := Keep.ext (Keep.refl h0 []) E25
  have F25_46 : Fld Z hp25 b25 "com/example/nokkel/nokkel/core/ClientRecord" "owner" "Ljava/lang/String;" .null := D25 (Or.inr (hw _ (List.mem_of_getElem? (i := 46) rfl))) (ty := (.object "java/lang/String")) (by decide)
  have F25_49 : Fld Z hp25 b25 "com/example/nokkel/nokkel/core/ClientRecord" "verifier" "Ljava/lang/String;" .null := D25 (Or.inr (hw _ (List.mem_of_getElem? (i := 49) rfl))) (ty := (.object "java/lang/String")) (by decide)
  have F25_51 : Fld Z hp25 b25 "com/example/nokkel/nokkel/core/ClientRecord" "locksRevoked" "Z" (.int (0 : Int32)) := D25 (Or.inr (hw _ (List.mem_of_getElem? (i := 51) rfl))) (ty := .boolean) (by decide)
  have F25_53 : Fld Z hp25 b25 "com/example/nokkel/nokkel/core/ClientRecord" "graceMissed" "Z" (.int (0 : Int32)) := D25 (Or.inr (hw _ (List.mem_of_getElem? (i := 53) rfl))) (ty := .boolean) (by decide)
  have ch26 : ∀ t, Steps p.tables e below (T25.setTop (mkF m 126 #[.val (.int p1), .val (.int p2), .val (.int p3), .val (.int c1), .val (.int c2), .val (.int d1), .val (.int d2), .val (.int x1), .val (.int y1), .val (.int x2), .val (.int y2), .val (.int (1 : Int32)), .unset, .unset, .unset] [(.ref b25)])) t → Steps p.tables e below (s₁.setTop (entryFrame m #[(.int p1), (.int p2), (.int p3)] maxLocals)) t := fun t k => ch24 t (by
      show Steps p.tables e below (s₁.setTop (mkF m 113 #[.val (.int p1), .val (.int p2), .val (.int p3), .val (.int c1), .val (.int c2), .val (.int d1), .val (.int d2), .val (.int x1), .val (.int y1), .val (.int x2), .unset, .unset, .unset, .unset, .unset] [(.int y2)])) t
      refine XS.istore X0.here hx rfl (hb hby at_113) rfl (l' := #[.val (.int p1), .val (.int p2), .val (.int p3), .val (.int c1), .val (.int c2), .val (.int d1), .val (.int d2), .val (.int x1), .val (.int y1), .val (.int x2), .val (.int y2), .unset, .unset, .unset, .unset]) rfl ?_
      show Steps p.tables e below (s₁.setTop (mkF m 115 #[.val (.int p1), .val (.int p2), .val (.int p3), .val (.int c1), .val (.int c2), .val (.int d1), .val (.int d2), .val (.int x1), .val (.int y1), .val (.int x2), .val (.int y2), .unset, .unset, .unset, .unset] [])) t
      refine XS.iloadN X0.here hx rfl (hb hby at_115) rfl ?_
      show Steps p.tables e below (s₁.setTop (mkF m 116 #[.val (.int p1), .val (.int p2), .val (.int p3), .val (.int c1), .val (.int c2), .val (.int d1), .val (.int d2), .val (.int x1), .val (.int y1), .val (.int x2), .val (.int y2), .unset, .unset, .unset, .unset] [(.int p3)])) t
      refine XS.bipush X0.here hx rfl (hb hby at_116) ?_
      show Steps p.tables e below (s₁.setTop (mkF m 118 #[.val (.int p1), .val (.int p2), .val (.int p3), .val (.int c1), .val (.int c2), .val (.int d1), .val (.int d2), .val (.int x1), .val (.int y1), .val (.int x2), .val (.int y2), .unset, .unset, .unset, .unset] [(.int (6 : Int32)), (.int p3)])) t
      refine XS.iushr X0.here hx rfl (hb hby at_118) rfl ?_
      show Steps p.tables e below (s₁.setTop (mkF m 119 #[.val (.int p1), .val (.int p2), .val (.int p3), .val (.int c1), .val (.int c2), .val (.int d1), .val (.int d2), .val (.int x1), .val (.int y1), .val (.int x2), .val (.int y2), .unset, .unset, .unset, .unset] [(.int ((p3.toUInt32 >>> ((6 : Int32) &&& 31).toUInt32).toInt32))])) t
      refine XS.iconst X0.here hx rfl (hb hby at_119) ?_
      show Steps p.tables e below (s₁.setTop (mkF m 120 #[.val (.int p1), .val (.int p2), .val (.int p3), .val (.int c1), .val (.int c2), .val (.int d1), .val (.int d2), .val (.int x1), .val (.int y1), .val (.int x2), .val (.int y2), .unset, .unset, .unset, .unset] [(.int (3 : Int32)), (.int ((p3.toUInt32 >>> ((6 : Int32) &&& 31).toUInt32).toInt32))])) t
      refine XS.iand X0.here hx rfl (hb hby at_120) rfl ?_
      rw [hKk]
      show Steps p.tables e below (s₁.setTop (mkF m 121 #[.val (.int p1), .val (.int p2), .val (.int p3), .val (.int c1), .val (.int c2), .val (.int d1), .val (.int d2), .val (.int x1), .val (.int y1), .val (.int x2), .val (.int y2), .unset, .unset, .unset, .unset] [(.int (1 : Int32))])) t
      refine XS.istore X0.here hx rfl (hb hby at_121) rfl (l' := #[.val (.int p1), .val (.int p2), .val (.int p3), .val (.int c1), .val (.int c2), .val (.int d1), .val (.int d2), .val (.int x1), .val (.int y1), .val (.int x2), .val (.int y2), .val (.int (1 : Int32)), .unset, .unset, .unset]) rfl ?_
      show Steps p.tables e below (s₁.setTop (mkF m 123 #[.val (.int p1), .val (.int p2), .val (.int p3), .val (.int c1), .val (.int c2), .val (.int d1), .val (.int d2), .val (.int x1), .val (.int y1), .val (.int x2), .val (.int y2), .val (.int (1 : Int32)), .unset, .unset, .unset] [])) t
      exact st25 t k)
  obtain ⟨T27, hp27, X27, e27, E27, A27, D27, -, st27⟩ := newO X25 hx hZ hown (hw _ (List.mem_of_getElem? (i := 3) rfl)) (hw _ (List.mem_of_getElem? (i := 4) rfl)) (hw _ (List.mem_of_getElem? (i := 5) rfl)) e25 (g := (mkF m 127 #[.val (.int p1), .val (.int p2), .val (.int p3), .val (.int c1), .val (.int c2), .val (.int d1), .val (.int d2), .val (.int x1), .val (.int y1), .val (.int x2), .val (.int y2), .val (.int (1 : Int32)), .unset, .unset, .unset] [(.ref b25), (.ref b25)])) rfl (hb hby at_127) (by decide) (by decide)
  obtain ⟨b27, g27⟩ : ∃ z, z = hp25.size := ⟨_, rfl⟩
  rw [← g27] at A27 D27 st27
  have ne_b25_b27 : b25 ≠ b27 := Nat.ne_of_lt (Nat.lt_of_lt_of_le A25.lt (Nat.le_of_eq g27.symm))
  have g_b27 : n0 ≤ b27 := Nat.le_trans (Nat.le_trans Z0 Kp25.1) (Nat.le_of_eq g27.symm)
  have sz_b27 : h0.size ≤ b27 := Nat.le_trans Kp25.1 (Nat.le_of_eq g27.symm)
  have hk := Nat.le_trans hk E27.1
  have Kp27 := Keep.ext Kp25 E27
  have F27_30 : Fld Z hp27 b27 "java/lang/String" "coder" "B" (.int (0 : Int32)) := D27 (Or.inr (hw _ (List.mem_of_getElem? (i := 30) rfl))) (ty := .byte) (by decide)
  have F27_32 : Fld Z hp27 b27 "java/lang/String" "value" "[B" .null := D27 (Or.inr (hw _ (List.mem_of_getElem? (i := 32) rfl))) (ty := (.array .byte)) (by decide)
  have ch28 : ∀ t, Steps p.tables e below (T27.setTop (mkF m 130 #[.val (.int p1), .val (.int p2), .val (.int p3), .val (.int c1), .val (.int c2), .val (.int d1), .val (.int d2), .val (.int x1), .val (.int y1), .val (.int x2), .val (.int y2), .val (.int (1 : Int32)), .unset, .unset, .unset] [(.ref b27), (.ref b25), (.ref b25)])) t → Steps p.tables e below (s₁.setTop (entryFrame m #[(.int p1), (.int p2), (.int p3)] maxLocals)) t := fun t k => ch26 t (by
      show Steps p.tables e below (T25.setTop (mkF m 126 #[.val (.int p1), .val (.int p2), .val (.int p3), .val (.int c1), .val (.int c2), .val (.int d1), .val (.int d2), .val (.int x1), .val (.int y1), .val (.int x2), .val (.int y2), .val (.int (1 : Int32)), .unset, .unset, .unset] [(.ref b25)])) t
      refine XS.dup X25.here hx rfl (hb hby at_126) rfl rfl ?_
      show Steps p.tables e below (T25.setTop (mkF m 127 #[.val (.int p1), .val (.int p2), .val (.int p3), .val (.int c1), .val (.int c2), .val (.int d1), .val (.int d2), .val (.int x1), .val (.int y1), .val (.int x2), .val (.int y2), .val (.int (1 : Int32)), .unset, .unset, .unset] [(.ref b25), (.ref b25)])) t
      exact st27 t k)
  obtain ⟨T29, hp29, k29, X29, e29, E29, A29, st29⟩ := newP X27 hx hZ (hw _ (List.mem_of_getElem? (i := 6) rfl)) e27 (g := (mkF m 132 #[.val (.int p1), .val (.int p2), .val (.int p3), .val (.int c1), .val (.int c2), .val (.int d1), .val (.int d2), .val (.int x1), .val (.int y1), .val (.int x2), .val (.int y2), .val (.int (1 : Int32)), .unset, .unset, .unset] [(.int (1 : Int32)), (.ref b27), (.ref b27), (.ref b25), (.ref b25)])) rfl (hb hby at_132) rfl (by decide) (cap := 1) (by decide) (by decide) (by decide) (by decide)
  obtain ⟨b29, g29⟩ : ∃ z, z = hp27.size := ⟨_, rfl⟩
  rw [← g29] at A29 st29
  have cf30 := (A25.ext E27)
  have ne_b25_b29 : b25 ≠ b29 := Nat.ne_of_lt (Nat.lt_of_lt_of_le cf30.lt (Nat.le_of_eq g29.symm))
  have ne_b27_b29 : b27 ≠ b29 := Nat.ne_of_lt (Nat.lt_of_lt_of_le A27.lt (Nat.le_of_eq g29.symm))
  have g_b29 : n0 ≤ b29 := Nat.le_trans (Nat.le_trans Z0 Kp27.1) (Nat.le_of_eq g29.symm)
  have sz_b29 : h0.size ≤ b29 := Nat.le_trans Kp27.1 (Nat.le_of_eq g29.symm)
  have hk := Nat.le_trans hk E29.1
  have Kp29 := Keep.ext Kp27 E29
  have V29 : Arv Z hp29 b29 k29 .char (1 : Int32) [(.int (0 : Int32))] (.int (0 : Int32)) := (Arv.new A29 (by decide)).pad (pad_rep [] (.int (0 : Int32)) 1)
  have ch31 : ∀ t, Steps p.tables e below (T29.setTop (mkF m 134 #[.val (.int p1), .val (.int p2), .val (.int p3), .val (.int c1), .val (.int c2), .val (.int d1), .val (.int d2), .val (.int x1), .val (.int y1), .val (.int x2), .val (.int y2), .val (.int (1 : Int32)), .unset, .unset, .unset] [(.ref b29), (.ref b27), (.ref b27), (.ref b25), (.ref b25)])) t → Steps p.tables e below (s₁.setTop (entryFrame m #[(.int p1), (.int p2), (.int p3)] maxLocals)) t := fun t k => ch28 t (by
      show Steps p.tables e below (T27.setTop (mkF m 130 #[.val (.int p1), .val (.int p2), .val (.int p3), .val (.int c1), .val (.int c2), .val (.int d1), .val (.int d2), .val (.int x1), .val (.int y1), .val (.int x2), .val (.int y2), .val (.int (1 : Int32)), .unset, .unset, .unset] [(.ref b27), (.ref b25), (.ref b25)])) t
      refine XS.dup X27.here hx rfl (hb hby at_130) rfl rfl ?_
      show Steps p.tables e below (T27.setTop (mkF m 131 #[.val (.int p1), .val (.int p2), .val (.int p3), .val (.int c1), .val (.int c2), .val (.int d1), .val (.int d2), .val (.int x1), .val (.int y1), .val (.int x2), .val (.int y2), .val (.int (1 : Int32)), .unset, .unset, .unset] [(.ref b27), (.ref b27), (.ref b25), (.ref b25)])) t
      refine XS.iconst X27.here hx rfl (hb hby at_131) ?_
      show Steps p.tables e below (T27.setTop (mkF m 132 #[.val (.int p1), .val (.int p2), .val (.int p3), .val (.int c1), .val (.int c2), .val (.int d1), .val (.int d2), .val (.int x1), .val (.int y1), .val (.int x2), .val (.int y2), .val (.int (1 : Int32)), .unset, .unset, .unset] [(.int (1 : Int32)), (.ref b27), (.ref b27), (.ref b25), (.ref b25)])) t
      exact st29 t k)
  obtain ⟨cl32, Ar32, qq32, Sz32, Ng32, Ha32, Ga32⟩ := id V29
  have hin32 : ¬ ((0 : Int32) < 0 ∨ cl32.slots.size ≤ ((0 : Int32)).toNatClampNeg) := inb_of Sz32 (by decide)
  obtain ⟨T33, hp33, X33, e33, W33, st33⟩ := stC X29 hx hZ e29 Ar32 (j := (0 : Int32)) hin32 (g := (mkF m 137 #[.val (.int p1), .val (.int p2), .val (.int p3), .val (.int c1), .val (.int c2), .val (.int d1), .val (.int d2), .val (.int x1), .val (.int y1), .val (.int x2), .val (.int y2), .val (.int (1 : Int32)), .unset, .unset, .unset] [(.int c1), (.int (0 : Int32)), (.ref b29), (.ref b29), (.ref b27), (.ref b27), (.ref b25), (.ref b25)])) rfl rfl (hb hby at_137)
  have ch34 : ∀ t, Steps p.tables e below (T33.setTop (mkF m 138 #[.val (.int p1), .val (.int p2), .val (.int p3), .val (.int c1), .val (.int c2), .val (.int d1), .val (.int d2), .val (.int x1), .val (.int y1), .val (.int x2), .val (.int y2), .val (.int (1 : Int32)), .unset, .unset, .unset] [(.ref b29), (.ref b27), (.ref b27), (.ref b25), (.ref b25)])) t → Steps p.tables e below (s₁.setTop (entryFrame m #[(.int p1), (.int p2), (.int p3)] maxLocals)) t := fun t k => ch31 t (by
      show Steps p.tables e below (T29.setTop (mkF m 134 #[.val (.int p1), .val (.int p2), .val (.int p3), .val (.int c1), .val (.int c2), .val (.int d1), .val (.int d2), .val (.int x1), .val (.int y1), .val (.int x2), .val (.int y2), .val (.int (1 : Int32)), .unset, .unset, .unset] [(.ref b29), (.ref b27), (.ref b27), (.ref b25), (.ref b25)])) t
      refine XS.dup X29.here hx rfl (hb hby at_134) rfl rfl ?_
      show Steps p.tables e below (T29.setTop (mkF m 135 #[.val (.int p1), .val (.int p2), .val (.int p3), .val (.int c1), .val (.int c2), .val (.int d1), .val (.int d2), .val (.int x1), .val (.int y1), .val (.int x2), .val (.int y2), .val (.int (1 : Int32)), .unset, .unset, .unset] [(.ref b29), (.ref b29), (.ref b27), (.ref b27), (.ref b25), (.ref b25)])) t
      refine XS.iconst X29.here hx rfl (hb hby at_135) ?_
      show Steps p.tables e below (T29.setTop (mkF m 136 #[.val (.int p1), .val (.int p2), .val (.int p3), .val (.int c1), .val (.int c2), .val (.int d1), .val (.int d2), .val (.int x1), .val (.int y1), .val (.int x2), .val (.int y2), .val (.int (1 : Int32)), .unset, .unset, .unset] [(.int (0 : Int32)), (.ref b29), (.ref b29), (.ref b27), (.ref b27), (.ref b25), (.ref b25)])) t
      refine XS.iloadN X29.here hx rfl (hb hby at_136) rfl ?_
      show Steps p.tables e below (T29.setTop (mkF m 137 #[.val (.int p1), .val (.int p2), .val (.int p3), .val (.int c1), .val (.int c2), .val (.int d1), .val (.int d2), .val (.int x1), .val (.int y1), .val (.int x2), .val (.int y2), .val (.int (1 : Int32)), .unset, .unset, .unset] [(.int c1), (.int (0 : Int32)), (.ref b29), (.ref b29), (.ref b27), (.ref b27), (.ref b25), (.ref b25)])) t
      exact st33 t k)
  have V33 : Arv Z hp33 b29 k29 .char (1 : Int32) [(.int (nar .char c1))] (.int (0 : Int32)) := Arv.set Ar32 qq32 Sz32 Ng32 Ha32 Ga32 (fits_nar_char _) W33 0 rfl (Nat.le_of_ble_eq_true rfl)
  rw [own_narc hx_c1] at V33
  have hk := Nat.le_trans hk (Keep.of_wr W33).1
  have N33 := Fr.snoc X33 N0 g_b29
  have Kp33 := Keep.wr Kp29 W33 (Or.inr sz_b29)
  have hp35 : ∀ c ∈ ([c1] : List Int32), ¬ c < 0 ∧ ¬ (255 : Int32) < c := by
    intro c hc
    simp only [List.mem_cons, List.not_mem_nil, or_false] at hc
    rcases hc with rfl
    · exact hx_c1
  have cf36 := (Exa.wr W33 (A27.ext E29))
  have cf37 := (Fld.other W33 (F27_32.ext E29) (Or.inl ne_b27_b29))
  have cf38 := (Fld.other W33 (F27_30.ext E29) (Or.inl ne_b27_b29))
  have cf39 := (own_sta_keep S_CS Kp33 all0)
  have cf40 := (Exa.wr W33 (cf30.ext E29))
  obtain ⟨vv41, _, ⟨T41, L41, kk41, nn41⟩, -, X41, ⟨Lc41, hQ41, l41, y41, z41⟩, st41⟩ := X33.specialBack hx (y := (⟨"java/lang/String", "<init>", "([C)V"⟩ : MethodName)) rfl hown (mvT hZ (hw _ (List.mem_of_getElem? (i := 7) rfl))) (mvT hZ (hw _ (List.mem_of_getElem? (i := 8) rfl))) (mvT hZ (hw _ (List.mem_of_getElem? (i := 9) rfl))) (by decide) (StrChars.Road.backV (W := 3) hZ (own_words hw) (kI := 4) (hw _ (List.mem_of_getElem? (i := 4) rfl)) (cs := ([c1] : List Int32)) (bs := (([c1] : List Int32)).map (fun c => c.toInt8.toInt32)) (n := 1) g_b27 (Nat.le_trans Z0 Kp33.1) cf36 cf37 cf38 V33 cf39 P5 rfl rfl (by decide) (by decide) hp35 rfl (by decide) (by decide)) (g := (mkF m 138 #[.val (.int p1), .val (.int p2), .val (.int p3), .val (.int c1), .val (.int c2), .val (.int d1), .val (.int d2), .val (.int x1), .val (.int y1), .val (.int x2), .val (.int y2), .val (.int (1 : Int32)), .unset, .unset, .unset] [(.ref b29), (.ref b27), (.ref b27), (.ref b25), (.ref b25)])) rfl (by rw [hml]; rfl) (Steps.refl _) (a := b27) (argsL := [(.ref b29)]) (rest := [(.ref b27), (.ref b25), (.ref b25)]) (lenOf own_pd___C_V rfl) rfl (by show 2 * 0 + _ ≤ _; exact Nat.le_of_eq rfl) (hb hby at_138) (fun _ _ => ⟨rfl, e33, (by decide : 3 + 1 ≤ _), (by decide : 9 + 1 ≤ _)⟩)
  dsimp only [Pt.U, Pt.locs, Pt.cells, Pt.slots] at X41 l41 y41 z41 st41 hQ41
  subst l41 y41 z41
  obtain ⟨hh41, eh41⟩ : ∃ h, T41.heap = h := ⟨_, rfl⟩
  rw [eh41] at hQ41
  obtain ⟨rfl, Nq41, Kq41, fq41_0, fq41_1⟩ := hQ41
  have N41 := Fr.app N33 Nq41
  have hk := Nat.le_trans hk Kq41.1
  have Kp41 := Keep.trans Kp33 Kq41 (allS (Or.inr sz_b27) all0)
  obtain ⟨fc41, tb41, kb41, ut41, vt41, wt41, fv41, av41⟩ := fq41_1
  have ne_b25_tb41 : b25 ≠ tb41 := Nat.ne_of_lt (Nat.lt_of_lt_of_le cf40.lt vt41)
  have ne_b27_tb41 : b27 ≠ tb41 := Nat.ne_of_lt (Nat.lt_of_lt_of_le cf36.lt vt41)
  have ne_b29_tb41 : b29 ≠ tb41 := Nat.ne_of_lt (Nat.lt_of_lt_of_le V33.lt vt41)
  have ch42 : ∀ t, Steps p.tables e below (T41.setTop (mkF m 141 #[.val (.int p1), .val (.int p2), .val (.int p3), .val (.int c1), .val (.int c2), .val (.int d1), .val (.int d2), .val (.int x1), .val (.int y1), .val (.int x2), .val (.int y2), .val (.int (1 : Int32)), .unset, .unset, .unset] [(.ref b27), (.ref b25), (.ref b25)])) t → Steps p.tables e below (s₁.setTop (entryFrame m #[(.int p1), (.int p2), (.int p3)] maxLocals)) t := fun t k => ch34 t (by
      show Steps p.tables e below (T33.setTop (mkF m 138 #[.val (.int p1), .val (.int p2), .val (.int p3), .val (.int c1), .val (.int c2), .val (.int d1), .val (.int d2), .val (.int x1), .val (.int y1), .val (.int x2), .val (.int y2), .val (.int (1 : Int32)), .unset, .unset, .unset] [(.ref b29), (.ref b27), (.ref b27), (.ref b25), (.ref b25)])) t
      exact st41.trans k)
  obtain ⟨T43, hp43, X43, e43, E43, A43, D43, -, st43⟩ := newO X41 hx hZ hown (hw _ (List.mem_of_getElem? (i := 3) rfl)) (hw _ (List.mem_of_getElem? (i := 4) rfl)) (hw _ (List.mem_of_getElem? (i := 5) rfl)) eh41 (g := (mkF m 141 #[.val (.int p1), .val (.int p2), .val (.int p3), .val (.int c1), .val (.int c2), .val (.int d1), .val (.int d2), .val (.int x1), .val (.int y1), .val (.int x2), .val (.int y2), .val (.int (1 : Int32)), .unset, .unset, .unset] [(.ref b27), (.ref b25), (.ref b25)])) rfl (hb hby at_141) (by decide) (by decide)
  obtain ⟨b43, g43⟩ : ∃ z, z = hh41.size := ⟨_, rfl⟩
  rw [← g43] at A43 D43 st43
  have cf44 := (cf40.keep Kq41)
  have ne_b25_b43 : b25 ≠ b43 := Nat.ne_of_lt (Nat.lt_of_lt_of_le cf44.lt (Nat.le_of_eq g43.symm))
  have ne_b27_b43 : b27 ≠ b43 := Nat.ne_of_lt (Nat.lt_of_lt_of_le fq41_0.lt (Nat.le_of_eq g43.symm))
  have cf45 := (V33.keep Kq41 (ninS (Ne.symm ne_b27_b29) nin0))
  have ne_b29_b43 : b29 ≠ b43 := Nat.ne_of_lt (Nat.lt_of_lt_of_le cf45.lt (Nat.le_of_eq g43.symm))
  have ne_tb41_b43 : tb41 ≠ b43 := Nat.ne_of_lt (Nat.lt_of_lt_of_le av41.lt (Nat.le_of_eq g43.symm))
  have g_b43 : n0 ≤ b43 := Nat.le_trans (Nat.le_trans Z0 Kp41.1) (Nat.le_of_eq g43.symm)
  have sz_b43 : h0.size ≤ b43 := Nat.le_trans Kp41.1 (Nat.le_of_eq g43.symm)
  have hk := Nat.le_trans hk E43.1
  have Kp43 := Keep.ext Kp41 E43
  have F43_30 : Fld Z hp43 b43 "java/lang/String" "coder" "B" (.int (0 : Int32)) := D43 (Or.inr (hw _ (List.mem_of_getElem? (i := 30) rfl))) (ty := .byte) (by decide)
  have F43_32 : Fld Z hp43 b43 "java/lang/String" "value" "[B" .null := D43 (Or.inr (hw _ (List.mem_of_getElem? (i := 32) rfl))) (ty := (.array .byte)) (by decide)
  have ch46 : ∀ t, Steps p.tables e below (T43.setTop (mkF m 144 #[.val (.int p1), .val (.int p2), .val (.int p3), .val (.int c1), .val (.int c2), .val (.int d1), .val (.int d2), .val (.int x1), .val (.int y1), .val (.int x2), .val (.int y2), .val (.int (1 : Int32)), .unset, .unset, .unset] [(.ref b43), (.ref b27), (.ref b25), (.ref b25)])) t → Steps p.tables e below (s₁.setTop (entryFrame m #[(.int p1), (.int p2), (.int p3)] maxLocals)) t := fun t k => ch42 t (by
      show Steps p.tables e below (T41.setTop (mkF m 141 #[.val (.int p1), .val (.int p2), .val (.int p3), .val (.int c1), .val (.int c2), .val (.int d1), .val (.int d2), .val (.int x1), .val (.int y1), .val (.int x2), .val (.int y2), .val (.int (1 : Int32)), .unset, .unset, .unset] [(.ref b27), (.ref b25), (.ref b25)])) t
      exact st43 t k)
  obtain ⟨T47, hp47, k47, X47, e47, E47, A47, st47⟩ := newP X43 hx hZ (hw _ (List.mem_of_getElem? (i := 6) rfl)) e43 (g := (mkF m 146 #[.val (.int p1), .val (.int p2), .val (.int p3), .val (.int c1), .val (.int c2), .val (.int d1), .val (.int d2), .val (.int x1), .val (.int y1), .val (.int x2), .val (.int y2), .val (.int (1 : Int32)), .unset, .unset, .unset] [(.int (1 : Int32)), (.ref b43), (.ref b43), (.ref b27), (.ref b25), (.ref b25)])) rfl (hb hby at_146) rfl (by decide) (cap := 1) (by decide) (by decide) (by decide) (by decide)
  obtain ⟨b47, g47⟩ : ∃ z, z = hp43.size := ⟨_, rfl⟩
  rw [← g47] at A47 st47
  have cf48 := (cf44.ext E43)
  have ne_b25_b47 : b25 ≠ b47 := Nat.ne_of_lt (Nat.lt_of_lt_of_le cf48.lt (Nat.le_of_eq g47.symm))
  have cf49 := (fq41_0.ext E43)
  have ne_b27_b47 : b27 ≠ b47 := Nat.ne_of_lt (Nat.lt_of_lt_of_le cf49.lt (Nat.le_of_eq g47.symm))
  have cf50 := (cf45.ext E43)
  have ne_b29_b47 : b29 ≠ b47 := Nat.ne_of_lt (Nat.lt_of_lt_of_le cf50.lt (Nat.le_of_eq g47.symm))
  have cf51 := (av41.ext E43)
  have ne_tb41_b47 : tb41 ≠ b47 := Nat.ne_of_lt (Nat.lt_of_lt_of_le cf51.lt (Nat.le_of_eq g47.symm))
  have ne_b43_b47 : b43 ≠ b47 := Nat.ne_of_lt (Nat.lt_of_lt_of_le A43.lt (Nat.le_of_eq g47.symm))
  have g_b47 : n0 ≤ b47 := Nat.le_trans (Nat.le_trans Z0 Kp43.1) (Nat.le_of_eq g47.symm)
  have sz_b47 : h0.size ≤ b47 := Nat.le_trans Kp43.1 (Nat.le_of_eq g47.symm)
  have hk := Nat.le_trans hk E47.1
  have Kp47 := Keep.ext Kp43 E47
  have V47 : Arv Z hp47 b47 k47 .char (1 : Int32) [(.int (0 : Int32))] (.int (0 : Int32)) := (Arv.new A47 (by decide)).pad (pad_rep [] (.int (0 : Int32)) 1)
  have ch52 : ∀ t, Steps p.tables e below (T47.setTop (mkF m 148 #[.val (.int p1), .val (.int p2), .val (.int p3), .val (.int c1), .val (.int c2), .val (.int d1), .val (.int d2), .val (.int x1), .val (.int y1), .val (.int x2), .val (.int y2), .val (.int (1 : Int32)), .unset, .unset, .unset] [(.ref b47), (.ref b43), (.ref b43), (.ref b27), (.ref b25), (.ref b25)])) t → Steps p.tables e below (s₁.setTop (entryFrame m #[(.int p1), (.int p2), (.int p3)] maxLocals)) t := fun t k => ch46 t (by
      show Steps p.tables e below (T43.setTop (mkF m 144 #[.val (.int p1), .val (.int p2), .val (.int p3), .val (.int c1), .val (.int c2), .val (.int d1), .val (.int d2), .val (.int x1), .val (.int y1), .val (.int x2), .val (.int y2), .val (.int (1 : Int32)), .unset, .unset, .unset] [(.ref b43), (.ref b27), (.ref b25), (.ref b25)])) t
      refine XS.dup X43.here hx rfl (hb hby at_144) rfl rfl ?_
      show Steps p.tables e below (T43.setTop (mkF m 145 #[.val (.int p1), .val (.int p2), .val (.int p3), .val (.int c1), .val (.int c2), .val (.int d1), .val (.int d2), .val (.int x1), .val (.int y1), .val (.int x2), .val (.int y2), .val (.int (1 : Int32)), .unset, .unset, .unset] [(.ref b43), (.ref b43), (.ref b27), (.ref b25), (.ref b25)])) t
      refine XS.iconst X43.here hx rfl (hb hby at_145) ?_
      show Steps p.tables e below (T43.setTop (mkF m 146 #[.val (.int p1), .val (.int p2), .val (.int p3), .val (.int c1), .val (.int c2), .val (.int d1), .val (.int d2), .val (.int x1), .val (.int y1), .val (.int x2), .val (.int y2), .val (.int (1 : Int32)), .unset, .unset, .unset] [(.int (1 : Int32)), (.ref b43), (.ref b43), (.ref b27), (.ref b25), (.ref b25)])) t
      exact st47 t k)
  obtain ⟨cl53, Ar53, qq53, Sz53, Ng53, Ha53, Ga53⟩ := id V47
  have hin53 : ¬ ((0 : Int32) < 0 ∨ cl53.slots.size ≤ ((0 : Int32)).toNatClampNeg) := inb_of Sz53 (by decide)
  obtain ⟨T54, hp54, X54, e54, W54, st54⟩ := stC X47 hx hZ e47 Ar53 (j := (0 : Int32)) hin53 (g := (mkF m 152 #[.val (.int p1), .val (.int p2), .val (.int p3), .val (.int c1), .val (.int c2), .val (.int d1), .val (.int d2), .val (.int x1), .val (.int y1), .val (.int x2), .val (.int y2), .val (.int (1 : Int32)), .unset, .unset, .unset] [(.int d1), (.int (0 : Int32)), (.ref b47), (.ref b47), (.ref b43), (.ref b43), (.ref b27), (.ref b25), (.ref b25)])) rfl rfl (hb hby at_152)
  have ch55 : ∀ t, Steps p.tables e below (T54.setTop (mkF m 153 #[.val (.int p1), .val (.int p2), .val (.int p3), .val (.int c1), .val (.int c2), .val (.int d1), .val (.int d2), .val (.int x1), .val (.int y1), .val (.int x2), .val (.int y2), .val (.int (1 : Int32)), .unset, .unset, .unset] [(.ref b47), (.ref b43), (.ref b43), (.ref b27), (.ref b25), (.ref b25)])) t → Steps p.tables e below (s₁.setTop (entryFrame m #[(.int p1), (.int p2), (.int p3)] maxLocals)) t := fun t k => ch52 t (by
      show Steps p.tables e below (T47.setTop (mkF m 148 #[.val (.int p1), .val (.int p2), .val (.int p3), .val (.int c1), .val (.int c2), .val (.int d1), .val (.int d2), .val (.int x1), .val (.int y1), .val (.int x2), .val (.int y2), .val (.int (1 : Int32)), .unset, .unset, .unset] [(.ref b47), (.ref b43), (.ref b43), (.ref b27), (.ref b25), (.ref b25)])) t
      refine XS.dup X47.here hx rfl (hb hby at_148) rfl rfl ?_
      show Steps p.tables e below (T47.setTop (mkF m 149 #[.val (.int p1), .val (.int p2), .val (.int p3), .val (.int c1), .val (.int c2), .val (.int d1), .val (.int d2), .val (.int x1), .val (.int y1), .val (.int x2), .val (.int y2), .val (.int (1 : Int32)), .unset, .unset, .unset] [(.ref b47), (.ref b47), (.ref b43), (.ref b43), (.ref b27), (.ref b25), (.ref b25)])) t
      refine XS.iconst X47.here hx rfl (hb hby at_149) ?_
      show Steps p.tables e below (T47.setTop (mkF m 150 #[.val (.int p1), .val (.int p2), .val (.int p3), .val (.int c1), .val (.int c2), .val (.int d1), .val (.int d2), .val (.int x1), .val (.int y1), .val (.int x2), .val (.int y2), .val (.int (1 : Int32)), .unset, .unset, .unset] [(.int (0 : Int32)), (.ref b47), (.ref b47), (.ref b43), (.ref b43), (.ref b27), (.ref b25), (.ref b25)])) t
      refine XS.iload X47.here hx rfl (hb hby at_150) rfl ?_
      show Steps p.tables e below (T47.setTop (mkF m 152 #[.val (.int p1), .val (.int p2), .val (.int p3), .val (.int c1), .val (.int c2), .val (.int d1), .val (.int d2), .val (.int x1), .val (.int y1), .val (.int x2), .val (.int y2), .val (.int (1 : Int32)), .unset, .unset, .unset] [(.int d1), (.int (0 : Int32)), (.ref b47), (.ref b47), (.ref b43), (.ref b43), (.ref b27), (.ref b25), (.ref b25)])) t
      exact st54 t k)
  have V54 : Arv Z hp54 b47 k47 .char (1 : Int32) [(.int (nar .char d1))] (.int (0 : Int32)) := Arv.set Ar53 qq53 Sz53 Ng53 Ha53 Ga53 (fits_nar_char _) W54 0 rfl (Nat.le_of_ble_eq_true rfl)
  rw [own_narc hx_d1] at V54
  have hk := Nat.le_trans hk (Keep.of_wr W54).1
  have N54 := Fr.snoc X54 N41 g_b47
  have Kp54 := Keep.wr Kp47 W54 (Or.inr sz_b47)
  have hp56 : ∀ c ∈ ([d1] : List Int32), ¬ c < 0 ∧ ¬ (255 : Int32) < c := by
    intro c hc
    simp only [List.mem_cons, List.not_mem_nil, or_false] at hc
    rcases hc with rfl
    · exact hx_d1
  have cf57 := (Exa.wr W54 (A43.ext E47))
  have cf58 := (Fld.other W54 (F43_32.ext E47) (Or.inl ne_b43_b47))
  have cf59 := (Fld.other W54 (F43_30.ext E47) (Or.inl ne_b43_b47))
  have cf60 := ((((own_sta_keep cf39 Kq41 (allS (fun c hc => own_exa_plain cf36 c hc) all0)).ext E43).ext E47).wr W54)
  have cf61 := (Exa.wr W54 (cf48.ext E47))
  have cf62 := (Exa.wr W54 (cf49.ext E47))
  have cf63 := ((cf50.ext E47).other W54 ne_b29_b47)
  have cf64 := ((cf51.ext E47).other W54 ne_tb41_b47)
  obtain ⟨vv65, _, ⟨T65, L65, kk65, nn65⟩, -, X65, ⟨Lc65, hQ65, l65, y65, z65⟩, st65⟩ := X54.specialBack hx (y := (⟨"java/lang/String", "<init>", "([C)V"⟩ : MethodName)) rfl hown (mvT hZ (hw _ (List.mem_of_getElem? (i := 7) rfl))) (mvT hZ (hw _ (List.mem_of_getElem? (i := 8) rfl))) (mvT hZ (hw _ (List.mem_of_getElem? (i := 9) rfl))) (by decide) (StrChars.Road.backV (W := 4) hZ (own_words hw) (kI := 4) (hw _ (List.mem_of_getElem? (i := 4) rfl)) (cs := ([d1] : List Int32)) (bs := (([d1] : List Int32)).map (fun c => c.toInt8.toInt32)) (n := 1) g_b43 (Nat.le_trans Z0 Kp54.1) cf57 cf58 cf59 V54 cf60 P5 rfl rfl (by decide) (by decide) hp56 rfl (by decide) (by decide)) (g := (mkF m 153 #[.val (.int p1), .val (.int p2), .val (.int p3), .val (.int c1), .val (.int c2), .val (.int d1), .val (.int d2), .val (.int x1), .val (.int y1), .val (.int x2), .val (.int y2), .val (.int (1 : Int32)), .unset, .unset, .unset] [(.ref b47), (.ref b43), (.ref b43), (.ref b27), (.ref b25), (.ref b25)])) rfl (by rw [hml]; rfl) (Steps.refl _) (a := b43) (argsL := [(.ref b47)]) (rest := [(.ref b43), (.ref b27), (.ref b25), (.ref b25)]) (lenOf own_pd___C_V rfl) rfl (by show 2 * 0 + _ ≤ _; exact Nat.le_of_eq rfl) (hb hby at_153) (fun _ _ => ⟨rfl, e54, (by decide : 6 + 1 ≤ _), (by decide : 15 + 1 ≤ _)⟩)
  dsimp only [Pt.U, Pt.locs, Pt.cells, Pt.slots] at X65 l65 y65 z65 st65 hQ65
  subst l65 y65 z65
  obtain ⟨hh65, eh65⟩ : ∃ h, T65.heap = h := ⟨_, rfl⟩
  rw [eh65] at hQ65
  obtain ⟨rfl, Nq65, Kq65, fq65_0, fq65_1⟩ := hQ65
  have N65 := Fr.app N54 Nq65
  have hk := Nat.le_trans hk Kq65.1
  have Kp65 := Keep.trans Kp54 Kq65 (allS (Or.inr sz_b43) all0)
  obtain ⟨fc65, tb65, kb65, ut65, vt65, wt65, fv65, av65⟩ := fq65_1
  have ne_b25_tb65 : b25 ≠ tb65 := Nat.ne_of_lt (Nat.lt_of_lt_of_le cf61.lt vt65)
  have ne_b27_tb65 : b27 ≠ tb65 := Nat.ne_of_lt (Nat.lt_of_lt_of_le cf62.lt vt65)
  have ne_b29_tb65 : b29 ≠ tb65 := Nat.ne_of_lt (Nat.lt_of_lt_of_le cf63.lt vt65)
  have ne_tb41_tb65 : tb41 ≠ tb65 := Nat.ne_of_lt (Nat.lt_of_lt_of_le cf64.lt vt65)
  have ne_b43_tb65 : b43 ≠ tb65 := Nat.ne_of_lt (Nat.lt_of_lt_of_le cf57.lt vt65)
  have ne_b47_tb65 : b47 ≠ tb65 := Nat.ne_of_lt (Nat.lt_of_lt_of_le V54.lt vt65)
  have ch66 : ∀ t, Steps p.tables e below (T65.setTop (mkF m 156 #[.val (.int p1), .val (.int p2), .val (.int p3), .val (.int c1), .val (.int c2), .val (.int d1), .val (.int d2), .val (.int x1), .val (.int y1), .val (.int x2), .val (.int y2), .val (.int (1 : Int32)), .unset, .unset, .unset] [(.ref b43), (.ref b27), (.ref b25), (.ref b25)])) t → Steps p.tables e below (s₁.setTop (entryFrame m #[(.int p1), (.int p2), (.int p3)] maxLocals)) t := fun t k => ch55 t (by
      show Steps p.tables e below (T54.setTop (mkF m 153 #[.val (.int p1), .val (.int p2), .val (.int p3), .val (.int c1), .val (.int c2), .val (.int d1), .val (.int d2), .val (.int x1), .val (.int y1), .val (.int x2), .val (.int y2), .val (.int (1 : Int32)), .unset, .unset, .unset] [(.ref b47), (.ref b43), (.ref b43), (.ref b27), (.ref b25), (.ref b25)])) t
      exact st65.trans k)
  have cf67 := (cf61.keep Kq65)
  have cf68 := ((Fld.other W54 ((((Fld.other W33 ((F25_46.ext E27).ext E29) (Or.inl ne_b25_b29)).keep Kq41 (ninS ne_b25_b27 nin0)).ext E43).ext E47) (Or.inl ne_b25_b47)).keep Kq65 (ninS ne_b25_b43 nin0))
  have cf69 := ((Fld.other W54 ((((Fld.other W33 ((F25_49.ext E27).ext E29) (Or.inl ne_b25_b29)).keep Kq41 (ninS ne_b25_b27 nin0)).ext E43).ext E47) (Or.inl ne_b25_b47)).keep Kq65 (ninS ne_b25_b43 nin0))
  have cf70 := ((Fld.other W54 ((((Fld.other W33 ((F25_51.ext E27).ext E29) (Or.inl ne_b25_b29)).keep Kq41 (ninS ne_b25_b27 nin0)).ext E43).ext E47) (Or.inl ne_b25_b47)).keep Kq65 (ninS ne_b25_b43 nin0))
  have cf71 := ((Fld.other W54 ((((Fld.other W33 ((F25_53.ext E27).ext E29) (Or.inl ne_b25_b29)).keep Kq41 (ninS ne_b25_b27 nin0)).ext E43).ext E47) (Or.inl ne_b25_b47)).keep Kq65 (ninS ne_b25_b43 nin0))
  have cf72 := (cf62.keep Kq65)
  obtain ⟨vv73, _, ⟨T73, L73, kk73, nn73⟩, -, X73, hS2, hgr, ⟨Lc73, hQ73, l73, y73, z73⟩, st73⟩ := X65.specialBackS hx (y := (⟨"com/example/nokkel/nokkel/core/ClientRecord", "<init>", "(Ljava/lang/String;Ljava/lang/String;ZZ)V"⟩ : MethodName)) rfl hown (mvT hZ (hw _ (List.mem_of_getElem? (i := 33) rfl))) (mvT hZ (hw _ (List.mem_of_getElem? (i := 34) rfl))) (mvT hZ (hw _ (List.mem_of_getElem? (i := 35) rfl))) (by decide) (backOfS (W := 1) (own_ini l Z a0 hw [] hh65 n0 (Nat.le_trans Z0 Kp65.1) b25 b27 b43 x1 y1 cf67 cf68 cf69 cf70 cf71 g_b25 cf72 fq65_0 hx_x1 hx_y1) hZ (hw _ (List.mem_of_getElem? (i := 35) rfl)) (hw _ (List.mem_of_getElem? (i := 2) rfl)) (by decide) (by decide)) (g := (mkF m 160 #[.val (.int p1), .val (.int p2), .val (.int p3), .val (.int c1), .val (.int c2), .val (.int d1), .val (.int d2), .val (.int x1), .val (.int y1), .val (.int x2), .val (.int y2), .val (.int (1 : Int32)), .unset, .unset, .unset] [(.int y1), (.int x1), (.ref b43), (.ref b27), (.ref b25), (.ref b25)])) rfl (by rw [hml]; rfl) (Steps.refl _) (a := b25) (argsL := [(.ref b27), (.ref b43), (.int x1), (.int y1)]) (rest := [(.ref b25)]) (lenOf own_pd__Ljava_lang_String_Ljava_lang_String_ZZ_V rfl) rfl (by show 2 * 0 + _ ≤ _; exact Nat.le_of_eq rfl) (hb hby at_160) (fun _ _ => ⟨rfl, eh65, (by decide : 7 + 4 ≤ _), (by decide : 16 + 60 ≤ _)⟩)
  dsimp only [Pt.U, Pt.locs, Pt.cells, Pt.slots] at X73 l73 y73 z73 st73 hQ73 hS2 hgr
  subst l73 y73 z73
  obtain ⟨X73, hS, hZ, hown⟩ := rebS hS (by rw [eh65]; exact hk) X73 hS2 hgr hZ hown
  obtain ⟨hh73, eh73⟩ : ∃ h, T73.heap = h := ⟨_, rfl⟩
  rw [eh73] at hQ73
  rw [eh73] at hS
  have hk : hh73.size ≤ hh73.size := Nat.le_refl _
  obtain ⟨rfl, Nq73, Kq73, fq73_0, fq73_1, fq73_2, fq73_3, fq73_4⟩ := hQ73
  have N73 := Fr.app N65 Nq73
  have Kp73 := Keep.trans Kp65 Kq73 (allS (Or.inr sz_b25) all0)
  have ch74 : ∀ t, Steps p.tables e below (T73.setTop (mkF m 163 #[.val (.int p1), .val (.int p2), .val (.int p3), .val (.int c1), .val (.int c2), .val (.int d1), .val (.int d2), .val (.int x1), .val (.int y1), .val (.int x2), .val (.int y2), .val (.int (1 : Int32)), .unset, .unset, .unset] [(.ref b25)])) t → Steps p.tables e below (s₁.setTop (entryFrame m #[(.int p1), (.int p2), (.int p3)] maxLocals)) t := fun t k => ch66 t (by
      show Steps p.tables e below (T65.setTop (mkF m 156 #[.val (.int p1), .val (.int p2), .val (.int p3), .val (.int c1), .val (.int c2), .val (.int d1), .val (.int d2), .val (.int x1), .val (.int y1), .val (.int x2), .val (.int y2), .val (.int (1 : Int32)), .unset, .unset, .unset] [(.ref b43), (.ref b27), (.ref b25), (.ref b25)])) t
      refine XS.iload X65.here hx rfl (hb hby at_156) rfl ?_
      show Steps p.tables e below (T65.setTop (mkF m 158 #[.val (.int p1), .val (.int p2), .val (.int p3), .val (.int c1), .val (.int c2), .val (.int d1), .val (.int d2), .val (.int x1), .val (.int y1), .val (.int x2), .val (.int y2), .val (.int (1 : Int32)), .unset, .unset, .unset] [(.int x1), (.ref b43), (.ref b27), (.ref b25), (.ref b25)])) t
      refine XS.iload X65.here hx rfl (hb hby at_158) rfl ?_
      show Steps p.tables e below (T65.setTop (mkF m 160 #[.val (.int p1), .val (.int p2), .val (.int p3), .val (.int c1), .val (.int c2), .val (.int d1), .val (.int d2), .val (.int x1), .val (.int y1), .val (.int x2), .val (.int y2), .val (.int (1 : Int32)), .unset, .unset, .unset] [(.int y1), (.int x1), (.ref b43), (.ref b27), (.ref b25), (.ref b25)])) t
      exact st73.trans k)
  obtain ⟨cq75, kq75, qa75, qb75, qc75⟩ := isOf hZ eh73 fq73_0
  obtain ⟨vv76, _, ⟨T76, L76, kk76, nn76⟩, -, X76, ⟨Lc76, hQ76, l76, y76, z76⟩, st76⟩ := X73.virtualBack hx (y := (⟨"com/example/nokkel/nokkel/core/ClientRecord", "equals", "(Ljava/lang/Object;)Z"⟩ : MethodName)) (z := (⟨"com/example/nokkel/nokkel/core/ClientRecord", "equals", "(Ljava/lang/Object;)Z"⟩ : MethodName)) hown (mvT hZ (hw _ (List.mem_of_getElem? (i := 54) rfl))) (mvT hZ (hw _ (List.mem_of_getElem? (i := 55) rfl))) (notFace_of_selects (args := #[]) (mvT hZ (hw _ (List.mem_of_getElem? (i := 57) rfl)))) (mvT hZ (hw _ (List.mem_of_getElem? (i := 57) rfl))) (mvT hZ (hw _ (List.mem_of_getElem? (i := 56) rfl))) (by decide) (backOf (W := 0) (own_eq_null l Z a0 hw [] hh73 n0 (Nat.le_trans Z0 Kp73.1) b25) hZ (hw _ (List.mem_of_getElem? (i := 58) rfl)) (hw _ (List.mem_of_getElem? (i := 2) rfl)) (by decide) (by decide)) qa75 qc75 (g := (mkF m 304 #[.val (.int p1), .val (.int p2), .val (.int p3), .val (.int c1), .val (.int c2), .val (.int d1), .val (.int d2), .val (.int x1), .val (.int y1), .val (.int x2), .val (.int y2), .val (.int (1 : Int32)), .val (.ref b25), .val .null, .val (.int (0 : Int32))] [.null, (.ref b25)])) rfl (by rw [hml]; rfl) (Steps.refl _) (argsL := [.null]) (rest := []) (lenOf own_pd__Ljava_lang_Object__Z rfl) rfl (by show 2 * 0 + _ ≤ _; exact Nat.le_of_eq rfl) (hb hby at_304) (fun _ _ => ⟨rfl, eh73, (by decide : 11 + 0 ≤ _), (by decide : 76 + 0 ≤ _)⟩)
  dsimp only [Pt.U, Pt.locs, Pt.cells, Pt.slots] at X76 l76 y76 z76 st76 hQ76
  subst l76 y76 z76
  obtain ⟨rfl, Nq76, e76⟩ := hQ76
  have N76 := Fr.app N73 Nq76
  have ch77 : ∀ t, Steps p.tables e below (T76.setTop (mkF m 307 #[.val (.int p1), .val (.int p2), .val (.int p3), .val (.int c1), .val (.int c2), .val (.int d1), .val (.int d2), .val (.int x1), .val (.int y1), .val (.int x2), .val (.int y2), .val (.int (1 : Int32)), .val (.ref b25), .val .null, .val (.int (0 : Int32))] [(.int (0 : Int32))])) t → Steps p.tables e below (s₁.setTop (entryFrame m #[(.int p1), (.int p2), (.int p3)] maxLocals)) t := fun t k => ch74 t (by
      show Steps p.tables e below (T73.setTop (mkF m 163 #[.val (.int p1), .val (.int p2), .val (.int p3), .val (.int c1), .val (.int c2), .val (.int d1), .val (.int d2), .val (.int x1), .val (.int y1), .val (.int x2), .val (.int y2), .val (.int (1 : Int32)), .unset, .unset, .unset] [(.ref b25)])) t
      refine XS.astore X73.here hx rfl (hb hby at_163) rfl rfl (l' := #[.val (.int p1), .val (.int p2), .val (.int p3), .val (.int c1), .val (.int c2), .val (.int d1), .val (.int d2), .val (.int x1), .val (.int y1), .val (.int x2), .val (.int y2), .val (.int (1 : Int32)), .val (.ref b25), .unset, .unset]) rfl ?_
      show Steps p.tables e below (T73.setTop (mkF m 165 #[.val (.int p1), .val (.int p2), .val (.int p3), .val (.int c1), .val (.int c2), .val (.int d1), .val (.int d2), .val (.int x1), .val (.int y1), .val (.int x2), .val (.int y2), .val (.int (1 : Int32)), .val (.ref b25), .unset, .unset] [])) t
      refine XS.iload X73.here hx rfl (hb hby at_165) rfl ?_
      show Steps p.tables e below (T73.setTop (mkF m 167 #[.val (.int p1), .val (.int p2), .val (.int p3), .val (.int c1), .val (.int c2), .val (.int d1), .val (.int d2), .val (.int x1), .val (.int y1), .val (.int x2), .val (.int y2), .val (.int (1 : Int32)), .val (.ref b25), .unset, .unset] [(.int (1 : Int32))])) t
      refine XS.ifYes X73.here hx rfl (pc0 := 167) (pc' := 250) rfl (hb hby at_167) rfl ((if0 _ _).trans (feq (by decide : ¬ (1 : Int32) = (0 : Int32))).2) (by decide) (by decide) ?_
      show Steps p.tables e below (T73.setTop (mkF m 250 #[.val (.int p1), .val (.int p2), .val (.int p3), .val (.int c1), .val (.int c2), .val (.int d1), .val (.int d2), .val (.int x1), .val (.int y1), .val (.int x2), .val (.int y2), .val (.int (1 : Int32)), .val (.ref b25), .unset, .unset] [])) t
      refine XS.iload X73.here hx rfl (hb hby at_250) rfl ?_
      show Steps p.tables e below (T73.setTop (mkF m 252 #[.val (.int p1), .val (.int p2), .val (.int p3), .val (.int c1), .val (.int c2), .val (.int d1), .val (.int d2), .val (.int x1), .val (.int y1), .val (.int x2), .val (.int y2), .val (.int (1 : Int32)), .val (.ref b25), .unset, .unset] [(.int (1 : Int32))])) t
      refine XS.iconst X73.here hx rfl (hb hby at_252) ?_
      show Steps p.tables e below (T73.setTop (mkF m 253 #[.val (.int p1), .val (.int p2), .val (.int p3), .val (.int c1), .val (.int c2), .val (.int d1), .val (.int d2), .val (.int x1), .val (.int y1), .val (.int x2), .val (.int y2), .val (.int (1 : Int32)), .val (.ref b25), .unset, .unset] [(.int (1 : Int32)), (.int (1 : Int32))])) t
      refine XS.icmpNo X73.here hx rfl (hb hby at_253) rfl (teq (by decide : (1 : Int32) = (1 : Int32))).2 ?_
      show Steps p.tables e below (T73.setTop (mkF m 256 #[.val (.int p1), .val (.int p2), .val (.int p3), .val (.int c1), .val (.int c2), .val (.int d1), .val (.int d2), .val (.int x1), .val (.int y1), .val (.int x2), .val (.int y2), .val (.int (1 : Int32)), .val (.ref b25), .unset, .unset] [])) t
      refine XS.aconstNull X73.here hx rfl (hb hby at_256) ?_
      show Steps p.tables e below (T73.setTop (mkF m 257 #[.val (.int p1), .val (.int p2), .val (.int p3), .val (.int c1), .val (.int c2), .val (.int d1), .val (.int d2), .val (.int x1), .val (.int y1), .val (.int x2), .val (.int y2), .val (.int (1 : Int32)), .val (.ref b25), .unset, .unset] [.null])) t
      refine XS.astore X73.here hx rfl (hb hby at_257) rfl rfl (l' := #[.val (.int p1), .val (.int p2), .val (.int p3), .val (.int c1), .val (.int c2), .val (.int d1), .val (.int d2), .val (.int x1), .val (.int y1), .val (.int x2), .val (.int y2), .val (.int (1 : Int32)), .val (.ref b25), .val .null, .unset]) rfl ?_
      show Steps p.tables e below (T73.setTop (mkF m 259 #[.val (.int p1), .val (.int p2), .val (.int p3), .val (.int c1), .val (.int c2), .val (.int d1), .val (.int d2), .val (.int x1), .val (.int y1), .val (.int x2), .val (.int y2), .val (.int (1 : Int32)), .val (.ref b25), .val .null, .unset] [])) t
      refine XS.iconst X73.here hx rfl (hb hby at_259) ?_
      show Steps p.tables e below (T73.setTop (mkF m 260 #[.val (.int p1), .val (.int p2), .val (.int p3), .val (.int c1), .val (.int c2), .val (.int d1), .val (.int d2), .val (.int x1), .val (.int y1), .val (.int x2), .val (.int y2), .val (.int (1 : Int32)), .val (.ref b25), .val .null, .unset] [(.int (0 : Int32))])) t
      refine XS.istore X73.here hx rfl (hb hby at_260) rfl (l' := #[.val (.int p1), .val (.int p2), .val (.int p3), .val (.int c1), .val (.int c2), .val (.int d1), .val (.int d2), .val (.int x1), .val (.int y1), .val (.int x2), .val (.int y2), .val (.int (1 : Int32)), .val (.ref b25), .val .null, .val (.int (0 : Int32))]) rfl ?_
      show Steps p.tables e below (T73.setTop (mkF m 262 #[.val (.int p1), .val (.int p2), .val (.int p3), .val (.int c1), .val (.int c2), .val (.int d1), .val (.int d2), .val (.int x1), .val (.int y1), .val (.int x2), .val (.int y2), .val (.int (1 : Int32)), .val (.ref b25), .val .null, .val (.int (0 : Int32))] [])) t
      refine XS.goto X73.here hx rfl (pc0 := 262) (pc' := 300) rfl (hb hby at_262) (by decide) (by decide) ?_
      show Steps p.tables e below (T73.setTop (mkF m 300 #[.val (.int p1), .val (.int p2), .val (.int p3), .val (.int c1), .val (.int c2), .val (.int d1), .val (.int d2), .val (.int x1), .val (.int y1), .val (.int x2), .val (.int y2), .val (.int (1 : Int32)), .val (.ref b25), .val .null, .val (.int (0 : Int32))] [])) t
      refine XS.aload X73.here hx rfl (hb hby at_300) rfl rfl ?_
      show Steps p.tables e below (T73.setTop (mkF m 302 #[.val (.int p1), .val (.int p2), .val (.int p3), .val (.int c1), .val (.int c2), .val (.int d1), .val (.int d2), .val (.int x1), .val (.int y1), .val (.int x2), .val (.int y2), .val (.int (1 : Int32)), .val (.ref b25), .val .null, .val (.int (0 : Int32))] [(.ref b25)])) t
      refine XS.aload X73.here hx rfl (hb hby at_302) rfl rfl ?_
      show Steps p.tables e below (T73.setTop (mkF m 304 #[.val (.int p1), .val (.int p2), .val (.int p3), .val (.int c1), .val (.int c2), .val (.int d1), .val (.int d2), .val (.int x1), .val (.int y1), .val (.int x2), .val (.int y2), .val (.int (1 : Int32)), .val (.ref b25), .val .null, .val (.int (0 : Int32))] [.null, (.ref b25)])) t
      exact st76.trans k)
  have ch78 : ∀ t, Steps p.tables e below (T76.setTop (mkF m 317 #[.val (.int p1), .val (.int p2), .val (.int p3), .val (.int c1), .val (.int c2), .val (.int d1), .val (.int d2), .val (.int x1), .val (.int y1), .val (.int x2), .val (.int y2), .val (.int (1 : Int32)), .val (.ref b25), .val .null, .val (.int (0 : Int32))] [(.int (1 : Int32))])) t → Steps p.tables e below (s₁.setTop (entryFrame m #[(.int p1), (.int p2), (.int p3)] maxLocals)) t := fun t k => ch77 t (by
      show Steps p.tables e below (T76.setTop (mkF m 307 #[.val (.int p1), .val (.int p2), .val (.int p3), .val (.int c1), .val (.int c2), .val (.int d1), .val (.int d2), .val (.int x1), .val (.int y1), .val (.int x2), .val (.int y2), .val (.int (1 : Int32)), .val (.ref b25), .val .null, .val (.int (0 : Int32))] [(.int (0 : Int32))])) t
      refine XS.iload X76.here hx rfl (hb hby at_307) rfl ?_
      show Steps p.tables e below (T76.setTop (mkF m 309 #[.val (.int p1), .val (.int p2), .val (.int p3), .val (.int c1), .val (.int c2), .val (.int d1), .val (.int d2), .val (.int x1), .val (.int y1), .val (.int x2), .val (.int y2), .val (.int (1 : Int32)), .val (.ref b25), .val .null, .val (.int (0 : Int32))] [(.int (0 : Int32)), (.int (0 : Int32))])) t
      refine XS.icmpNo X76.here hx rfl (hb hby at_309) rfl (teq (by decide : (0 : Int32) = (0 : Int32))).2 ?_
      show Steps p.tables e below (T76.setTop (mkF m 312 #[.val (.int p1), .val (.int p2), .val (.int p3), .val (.int c1), .val (.int c2), .val (.int d1), .val (.int d2), .val (.int x1), .val (.int y1), .val (.int x2), .val (.int y2), .val (.int (1 : Int32)), .val (.ref b25), .val .null, .val (.int (0 : Int32))] [])) t
      refine XS.iconst X76.here hx rfl (hb hby at_312) ?_
      show Steps p.tables e below (T76.setTop (mkF m 313 #[.val (.int p1), .val (.int p2), .val (.int p3), .val (.int c1), .val (.int c2), .val (.int d1), .val (.int d2), .val (.int x1), .val (.int y1), .val (.int x2), .val (.int y2), .val (.int (1 : Int32)), .val (.ref b25), .val .null, .val (.int (0 : Int32))] [(.int (1 : Int32))])) t
      refine XS.goto X76.here hx rfl (pc0 := 313) (pc' := 317) rfl (hb hby at_313) (by decide) (by decide) ?_
      exact k)
  obtain ⟨fs, hr, hrun, hended, hend⟩ := X76.leaveW hS (by rw [e76]; exact hk) (v := some (.int (1 : Int32))) (fun h => by rw [Bd.returns] at h; cases h)
  refine ⟨_, _, ch78 _ ?_, hrun, hended, _, _, rfl, ?_, hend.1, hend.2.1, hend.2.2.1, hend.2.2.2.mono (by decide) (by decide)⟩
  · show Steps p.tables e below (T76.setTop (mkF m 317 #[.val (.int p1), .val (.int p2), .val (.int p3), .val (.int c1), .val (.int c2), .val (.int d1), .val (.int d2), .val (.int x1), .val (.int y1), .val (.int x2), .val (.int y2), .val (.int (1 : Int32)), .val (.ref b25), .val .null, .val (.int (0 : Int32))] [(.int (1 : Int32))])) _
    exact retN X76 hx (t := .boolean) Bd.returns (by simp) (hb hby at_317) hr
  · show QN (some (.int (1 : Int32))) n0 _ T76.heap _
    rw [e76]
    exact ⟨rfl, N76⟩
theorem own_ef_own_law_2 (m : MethodId) {x0 : Int32} {x1 : Int32} {x2 : Int32} : entryFrame m #[(.int x0), (.int x1), (.int x2)] maxLocals = mkF m 0 #[.val (.int x0), .val (.int x1), .val (.int x2), .unset, .unset, .unset, .unset, .unset, .unset, .unset, .unset, .unset, .unset, .unset, .unset] [] := by first | (simp [entryFrame, mkF, argsToLocals, Value.category, maxLocals]; done) | rfl
set_option maxRecDepth 65536 in
set_option maxHeartbeats 40000000 in
theorem own_law_2 (l : Launch) (Z : State) (a0 : Array Value) (hw : ∀ d ∈ tables_1, d.before a0 Z = true) (ws : List Jvm.Cond) (h0 : Heap) (n0 : Nat) (Z0 : n0 ≤ h0.size) (p1 p2 p3 c1 d1 : Int32) (hE1 : ((p1 &&& (255 : Int32)).toUInt32.toUInt16.toUInt32.toInt32) = c1) (hE2 : ((p2 &&& (255 : Int32)).toUInt32.toUInt16.toUInt32.toInt32) = d1) (hx_c1 : ¬ c1 < 0 ∧ ¬ (255 : Int32) < c1) (hx_d1 : ¬ d1 < 0 ∧ ¬ (255 : Int32) < d1) (hKk : (((p3.toUInt32 >>> ((6 : Int32) &&& 31).toUInt32).toInt32) &&& (3 : Int32)) = (2 : Int32)) (zC : Int32) (S_CS : Sta Z h0 "java/lang/String" "COMPACT_STRINGS" "Z" (.int zC)) (P5 : ¬ (zC = (0 : Int32))) :
    MetFree l x (head1 (Jvm.Cond.code x code maxLocals ret :: ws) room_1) (fun a U => a = #[(.int p1), (.int p2), (.int p3)] ∧ Z.Warmed39 U.vm ∧ U.heap = h0) (fun _ _ _ _ _ => True) (fun _ U o U' => ∃ v L, o = .returned v ∧ QN (some (.int (1 : Int32))) n0 v U'.heap L ∧ ReturnedEndW U o U' L room_1.cells room_1.slots) := by
  refine MetFree.of_bodySF (plainFor_of_name own_pn_com_example_nokkel_nokkel_core_ClientRecordEqualsPinLaw) hisR ?_
  intro p e s m args below meth c s₁ Bd hml0 hP hK
  obtain ⟨rfl, hZ, hh⟩ := hP
  have hx := Bd.exec
  have hby := Bd.bytes
  have hml : c.maxLocals = 15 := hml0
  have hown : s.vm.findClass "com/example/nokkel/nokkel/core/ClientRecordEqualsPinLaw" = some m.cls := (findClass_of_methodNamed Bd.named :)
  have hnm := (name_of_methodNamed Bd.named Bd.method).1
  have X0 : Stand p l e room_1 (s.setVm s.vm) m #[(.int p1), (.int p2), (.int p3)] below meth c s₁ [] 0 0 := Stand.of_body Bd
  have hZ : Z.Warmed39 (s.setVm s.vm).vm := hZ
  have hown : (s.setVm s.vm).vm.findClass "com/example/nokkel/nokkel/core/ClientRecordEqualsPinLaw" = some m.cls := hown
  have hS : s.Since s.vm 0 := (State.WarmedH.refl s).since 0
  have hk : 0 ≤ h0.size := Nat.zero_le _
  have e0 : s₁.heap = h0 := by rw [← hh, Bd.state]; rfl
  have N0 := Fr.nil n0
  have pre0 : ∀ t, Steps p.tables e below (s₁.setTop (mkF m 0 #[.val (.int p1), .val (.int p2), .val (.int p3), .unset, .unset, .unset, .unset, .unset, .unset, .unset, .unset, .unset, .unset, .unset, .unset] [])) t → Steps p.tables e below (s₁.setTop (entryFrame m #[(.int p1), (.int p2), (.int p3)] maxLocals)) t := fun t k => castTop (own_ef_own_law_2 m) k
  have ch1 : ∀ t, Steps p.tables e below (s₁.setTop (mkF m 7 #[.val (.int p1), .val (.int p2), .val (.int p3), .val (.int c1), .unset, .unset, .unset, .unset, .unset, .unset, .unset, .unset, .unset, .unset, .unset] [])) t → Steps p.tables e below (s₁.setTop (entryFrame m #[(.int p1), (.int p2), (.int p3)] maxLocals)) t := fun t k => pre0 t (by
      show Steps p.tables e below (s₁.setTop (mkF m 0 #[.val (.int p1), .val (.int p2), .val (.int p3), .unset, .unset, .unset, .unset, .unset, .unset, .unset, .unset, .unset, .unset, .unset, .unset] [])) t
      refine XS.iloadN X0.here hx rfl (hb hby at_0) rfl ?_
      show Steps p.tables e below (s₁.setTop (mkF m 1 #[.val (.int p1), .val (.int p2), .val (.int p3), .unset, .unset, .unset, .unset, .unset, .unset, .unset, .unset, .unset, .unset, .unset, .unset] [(.int p1)])) t
      refine XS.sipush X0.here hx rfl (hb hby at_1) ?_
      show Steps p.tables e below (s₁.setTop (mkF m 4 #[.val (.int p1), .val (.int p2), .val (.int p3), .unset, .unset, .unset, .unset, .unset, .unset, .unset, .unset, .unset, .unset, .unset, .unset] [(.int (255 : Int32)), (.int p1)])) t
      refine XS.iand X0.here hx rfl (hb hby at_4) rfl ?_
      show Steps p.tables e below (s₁.setTop (mkF m 5 #[.val (.int p1), .val (.int p2), .val (.int p3), .unset, .unset, .unset, .unset, .unset, .unset, .unset, .unset, .unset, .unset, .unset, .unset] [(.int (p1 &&& (255 : Int32)))])) t
      refine XS.i2c X0.here hx rfl (hb hby at_5) rfl ?_
      rw [hE1]
      show Steps p.tables e below (s₁.setTop (mkF m 6 #[.val (.int p1), .val (.int p2), .val (.int p3), .unset, .unset, .unset, .unset, .unset, .unset, .unset, .unset, .unset, .unset, .unset, .unset] [(.int c1)])) t
      refine XS.istoreN X0.here hx rfl (hb hby at_6) rfl (l' := #[.val (.int p1), .val (.int p2), .val (.int p3), .val (.int c1), .unset, .unset, .unset, .unset, .unset, .unset, .unset, .unset, .unset, .unset, .unset]) rfl ?_
      exact k)
  obtain ⟨c2, hx_c2, sj2⟩ : ∃ c2 : Int32, (¬ c2 < 0 ∧ ¬ (255 : Int32) < c2) ∧ ∀ t, Steps p.tables e below (s₁.setTop (mkF m 28 #[.val (.int p1), .val (.int p2), .val (.int p3), .val (.int c1), .unset, .unset, .unset, .unset, .unset, .unset, .unset, .unset, .unset, .unset, .unset] [(.int c2)])) t → Steps p.tables e below (s₁.setTop (mkF m 7 #[.val (.int p1), .val (.int p2), .val (.int p3), .val (.int c1), .unset, .unset, .unset, .unset, .unset, .unset, .unset, .unset, .unset, .unset, .unset] [])) t := by
    by_cases hq3 : (((p3.toUInt32 >>> ((4 : Int32) &&& 31).toUInt32).toInt32) &&& (1 : Int32)) = (0 : Int32)
    · skip
      refine ⟨((((p1.toUInt32 >>> ((8 : Int32) &&& 31).toUInt32).toInt32) &&& (255 : Int32)).toUInt32.toUInt16.toUInt32.toInt32), own_i2c _, fun t k => ?_⟩
      show Steps p.tables e below (s₁.setTop (mkF m 7 #[.val (.int p1), .val (.int p2), .val (.int p3), .val (.int c1), .unset, .unset, .unset, .unset, .unset, .unset, .unset, .unset, .unset, .unset, .unset] [])) t
      refine XS.iloadN X0.here hx rfl (hb hby at_7) rfl ?_
      show Steps p.tables e below (s₁.setTop (mkF m 8 #[.val (.int p1), .val (.int p2), .val (.int p3), .val (.int c1), .unset, .unset, .unset, .unset, .unset, .unset, .unset, .unset, .unset, .unset, .unset] [(.int p3)])) t
      refine XS.iconst X0.here hx rfl (hb hby at_8) ?_
      show Steps p.tables e below (s₁.setTop (mkF m 9 #[.val (.int p1), .val (.int p2), .val (.int p3), .val (.int c1), .unset, .unset, .unset, .unset, .unset, .unset, .unset, .unset, .unset, .unset, .unset] [(.int (4 : Int32)), (.int p3)])) t
      refine XS.iushr X0.here hx rfl (hb hby at_9) rfl ?_
      show Steps p.tables e below (s₁.setTop (mkF m 10 #[.val (.int p1), .val (.int p2), .val (.int p3), .val (.int c1), .unset, .unset, .unset, .unset, .unset, .unset, .unset, .unset, .unset, .unset, .unset] [(.int ((p3.toUInt32 >>> ((4 : Int32) &&& 31).toUInt32).toInt32))])) t
      refine XS.iconst X0.here hx rfl (hb hby at_10) ?_
      show Steps p.tables e below (s₁.setTop (mkF m 11 #[.val (.int p1), .val (.int p2), .val (.int p3), .val (.int c1), .unset, .unset, .unset, .unset, .unset, .unset, .unset, .unset, .unset, .unset, .unset] [(.int (1 : Int32)), (.int ((p3.toUInt32 >>> ((4 : Int32) &&& 31).toUInt32).toInt32))])) t
      refine XS.iand X0.here hx rfl (hb hby at_11) rfl ?_
      show Steps p.tables e below (s₁.setTop (mkF m 12 #[.val (.int p1), .val (.int p2), .val (.int p3), .val (.int c1), .unset, .unset, .unset, .unset, .unset, .unset, .unset, .unset, .unset, .unset, .unset] [(.int (((p3.toUInt32 >>> ((4 : Int32) &&& 31).toUInt32).toInt32) &&& (1 : Int32)))])) t
      refine XS.ifYes X0.here hx rfl (pc0 := 12) (pc' := 19) rfl (hb hby at_12) rfl ((if0 _ _).trans (teq hq3).1) (by decide) (by decide) ?_
      show Steps p.tables e below (s₁.setTop (mkF m 19 #[.val (.int p1), .val (.int p2), .val (.int p3), .val (.int c1), .unset, .unset, .unset, .unset, .unset, .unset, .unset, .unset, .unset, .unset, .unset] [])) t
      refine XS.iloadN X0.here hx rfl (hb hby at_19) rfl ?_
      show Steps p.tables e below (s₁.setTop (mkF m 20 #[.val (.int p1), .val (.int p2), .val (.int p3), .val (.int c1), .unset, .unset, .unset, .unset, .unset, .unset, .unset, .unset, .unset, .unset, .unset] [(.int p1)])) t
      refine XS.bipush X0.here hx rfl (hb hby at_20) ?_
      show Steps p.tables e below (s₁.setTop (mkF m 22 #[.val (.int p1), .val (.int p2), .val (.int p3), .val (.int c1), .unset, .unset, .unset, .unset, .unset, .unset, .unset, .unset, .unset, .unset, .unset] [(.int (8 : Int32)), (.int p1)])) t
      refine XS.iushr X0.here hx rfl (hb hby at_22) rfl ?_
      show Steps p.tables e below (s₁.setTop (mkF m 23 #[.val (.int p1), .val (.int p2), .val (.int p3), .val (.int c1), .unset, .unset, .unset, .unset, .unset, .unset, .unset, .unset, .unset, .unset, .unset] [(.int ((p1.toUInt32 >>> ((8 : Int32) &&& 31).toUInt32).toInt32))])) t
      refine XS.sipush X0.here hx rfl (hb hby at_23) ?_
      show Steps p.tables e below (s₁.setTop (mkF m 26 #[.val (.int p1), .val (.int p2), .val (.int p3), .val (.int c1), .unset, .unset, .unset, .unset, .unset, .unset, .unset, .unset, .unset, .unset, .unset] [(.int (255 : Int32)), (.int ((p1.toUInt32 >>> ((8 : Int32) &&& 31).toUInt32).toInt32))])) t
      refine XS.iand X0.here hx rfl (hb hby at_26) rfl ?_
      show Steps p.tables e below (s₁.setTop (mkF m 27 #[.val (.int p1), .val (.int p2), .val (.int p3), .val (.int c1), .unset, .unset, .unset, .unset, .unset, .unset, .unset, .unset, .unset, .unset, .unset] [(.int (((p1.toUInt32 >>> ((8 : Int32) &&& 31).toUInt32).toInt32) &&& (255 : Int32)))])) t
      refine XS.i2c X0.here hx rfl (hb hby at_27) rfl ?_
      exact k
    · skip
      refine ⟨c1, hx_c1, fun t k => ?_⟩
      show Steps p.tables e below (s₁.setTop (mkF m 7 #[.val (.int p1), .val (.int p2), .val (.int p3), .val (.int c1), .unset, .unset, .unset, .unset, .unset, .unset, .unset, .unset, .unset, .unset, .unset] [])) t
      refine XS.iloadN X0.here hx rfl (hb hby at_7) rfl ?_
      show Steps p.tables e below (s₁.setTop (mkF m 8 #[.val (.int p1), .val (.int p2), .val (.int p3), .val (.int c1), .unset, .unset, .unset, .unset, .unset, .unset, .unset, .unset, .unset, .unset, .unset] [(.int p3)])) t
      refine XS.iconst X0.here hx rfl (hb hby at_8) ?_
      show Steps p.tables e below (s₁.setTop (mkF m 9 #[.val (.int p1), .val (.int p2), .val (.int p3), .val (.int c1), .unset, .unset, .unset, .unset, .unset, .unset, .unset, .unset, .unset, .unset, .unset] [(.int (4 : Int32)), (.int p3)])) t
      refine XS.iushr X0.here hx rfl (hb hby at_9) rfl ?_
      show Steps p.tables e below (s₁.setTop (mkF m 10 #[.val (.int p1), .val (.int p2), .val (.int p3), .val (.int c1), .unset, .unset, .unset, .unset, .unset, .unset, .unset, .unset, .unset, .unset, .unset] [(.int ((p3.toUInt32 >>> ((4 : Int32) &&& 31).toUInt32).toInt32))])) t
      refine XS.iconst X0.here hx rfl (hb hby at_10) ?_
      show Steps p.tables e below (s₁.setTop (mkF m 11 #[.val (.int p1), .val (.int p2), .val (.int p3), .val (.int c1), .unset, .unset, .unset, .unset, .unset, .unset, .unset, .unset, .unset, .unset, .unset] [(.int (1 : Int32)), (.int ((p3.toUInt32 >>> ((4 : Int32) &&& 31).toUInt32).toInt32))])) t
      refine XS.iand X0.here hx rfl (hb hby at_11) rfl ?_
      show Steps p.tables e below (s₁.setTop (mkF m 12 #[.val (.int p1), .val (.int p2), .val (.int p3), .val (.int c1), .unset, .unset, .unset, .unset, .unset, .unset, .unset, .unset, .unset, .unset, .unset] [(.int (((p3.toUInt32 >>> ((4 : Int32) &&& 31).toUInt32).toInt32) &&& (1 : Int32)))])) t
      refine XS.ifNo X0.here hx rfl (hb hby at_12) rfl ((if0 _ _).trans (feq hq3).1) ?_
      show Steps p.tables e below (s₁.setTop (mkF m 15 #[.val (.int p1), .val (.int p2), .val (.int p3), .val (.int c1), .unset, .unset, .unset, .unset, .unset, .unset, .unset, .unset, .unset, .unset, .unset] [])) t
      refine XS.iloadN X0.here hx rfl (hb hby at_15) rfl ?_
      show Steps p.tables e below (s₁.setTop (mkF m 16 #[.val (.int p1), .val (.int p2), .val (.int p3), .val (.int c1), .unset, .unset, .unset, .unset, .unset, .unset, .unset, .unset, .unset, .unset, .unset] [(.int c1)])) t
      refine XS.goto X0.here hx rfl (pc0 := 16) (pc' := 28) rfl (hb hby at_16) (by decide) (by decide) ?_
      exact k
  have ch4 : ∀ t, Steps p.tables e below (s₁.setTop (mkF m 28 #[.val (.int p1), .val (.int p2), .val (.int p3), .val (.int c1), .unset, .unset, .unset, .unset, .unset, .unset, .unset, .unset, .unset, .unset, .unset] [(.int c2)])) t → Steps p.tables e below (s₁.setTop (entryFrame m #[(.int p1), (.int p2), (.int p3)] maxLocals)) t := fun t k => ch1 t (sj2 t k)
  have ch5 : ∀ t, Steps p.tables e below (s₁.setTop (mkF m 38 #[.val (.int p1), .val (.int p2), .val (.int p3), .val (.int c1), .val (.int c2), .val (.int d1), .unset, .unset, .unset, .unset, .unset, .unset, .unset, .unset, .unset] [])) t → Steps p.tables e below (s₁.setTop (entryFrame m #[(.int p1), (.int p2), (.int p3)] maxLocals)) t := fun t k => ch4 t (by
      show Steps p.tables e below (s₁.setTop (mkF m 28 #[.val (.int p1), .val (.int p2), .val (.int p3), .val (.int c1), .unset, .unset, .unset, .unset, .unset, .unset, .unset, .unset, .unset, .unset, .unset] [(.int c2)])) t
      refine XS.istore X0.here hx rfl (hb hby at_28) rfl (l' := #[.val (.int p1), .val (.int p2), .val (.int p3), .val (.int c1), .val (.int c2), .unset, .unset, .unset, .unset, .unset, .unset, .unset, .unset, .unset, .unset]) rfl ?_
      show Steps p.tables e below (s₁.setTop (mkF m 30 #[.val (.int p1), .val (.int p2), .val (.int p3), .val (.int c1), .val (.int c2), .unset, .unset, .unset, .unset, .unset, .unset, .unset, .unset, .unset, .unset] [])) t
      refine XS.iloadN X0.here hx rfl (hb hby at_30) rfl ?_
      show Steps p.tables e below (s₁.setTop (mkF m 31 #[.val (.int p1), .val (.int p2), .val (.int p3), .val (.int c1), .val (.int c2), .unset, .unset, .unset, .unset, .unset, .unset, .unset, .unset, .unset, .unset] [(.int p2)])) t
      refine XS.sipush X0.here hx rfl (hb hby at_31) ?_
      show Steps p.tables e below (s₁.setTop (mkF m 34 #[.val (.int p1), .val (.int p2), .val (.int p3), .val (.int c1), .val (.int c2), .unset, .unset, .unset, .unset, .unset, .unset, .unset, .unset, .unset, .unset] [(.int (255 : Int32)), (.int p2)])) t
      refine XS.iand X0.here hx rfl (hb hby at_34) rfl ?_
      show Steps p.tables e below (s₁.setTop (mkF m 35 #[.val (.int p1), .val (.int p2), .val (.int p3), .val (.int c1), .val (.int c2), .unset, .unset, .unset, .unset, .unset, .unset, .unset, .unset, .unset, .unset] [(.int (p2 &&& (255 : Int32)))])) t
      refine XS.i2c X0.here hx rfl (hb hby at_35) rfl ?_
      rw [hE2]
      show Steps p.tables e below (s₁.setTop (mkF m 36 #[.val (.int p1), .val (.int p2), .val (.int p3), .val (.int c1), .val (.int c2), .unset, .unset, .unset, .unset, .unset, .unset, .unset, .unset, .unset, .unset] [(.int d1)])) t
      refine XS.istore X0.here hx rfl (hb hby at_36) rfl (l' := #[.val (.int p1), .val (.int p2), .val (.int p3), .val (.int c1), .val (.int c2), .val (.int d1), .unset, .unset, .unset, .unset, .unset, .unset, .unset, .unset, .unset]) rfl ?_
      exact k)
  obtain ⟨d2, hx_d2, sj6⟩ : ∃ d2 : Int32, (¬ d2 < 0 ∧ ¬ (255 : Int32) < d2) ∧ ∀ t, Steps p.tables e below (s₁.setTop (mkF m 60 #[.val (.int p1), .val (.int p2), .val (.int p3), .val (.int c1), .val (.int c2), .val (.int d1), .unset, .unset, .unset, .unset, .unset, .unset, .unset, .unset, .unset] [(.int d2)])) t → Steps p.tables e below (s₁.setTop (mkF m 38 #[.val (.int p1), .val (.int p2), .val (.int p3), .val (.int c1), .val (.int c2), .val (.int d1), .unset, .unset, .unset, .unset, .unset, .unset, .unset, .unset, .unset] [])) t := by
    by_cases hq7 : (((p3.toUInt32 >>> ((5 : Int32) &&& 31).toUInt32).toInt32) &&& (1 : Int32)) = (0 : Int32)
    · skip
      refine ⟨((((p2.toUInt32 >>> ((8 : Int32) &&& 31).toUInt32).toInt32) &&& (255 : Int32)).toUInt32.toUInt16.toUInt32.toInt32), own_i2c _, fun t k => ?_⟩
      show Steps p.tables e below (s₁.setTop (mkF m 38 #[.val (.int p1), .val (.int p2), .val (.int p3), .val (.int c1), .val (.int c2), .val (.int d1), .unset, .unset, .unset, .unset, .unset, .unset, .unset, .unset, .unset] [])) t
      refine XS.iloadN X0.here hx rfl (hb hby at_38) rfl ?_
      show Steps p.tables e below (s₁.setTop (mkF m 39 #[.val (.int p1), .val (.int p2), .val (.int p3), .val (.int c1), .val (.int c2), .val (.int d1), .unset, .unset, .unset, .unset, .unset, .unset, .unset, .unset, .unset] [(.int p3)])) t
      refine XS.iconst X0.here hx rfl (hb hby at_39) ?_
      show Steps p.tables e below (s₁.setTop (mkF m 40 #[.val (.int p1), .val (.int p2), .val (.int p3), .val (.int c1), .val (.int c2), .val (.int d1), .unset, .unset, .unset, .unset, .unset, .unset, .unset, .unset, .unset] [(.int (5 : Int32)), (.int p3)])) t
      refine XS.iushr X0.here hx rfl (hb hby at_40) rfl ?_
      show Steps p.tables e below (s₁.setTop (mkF m 41 #[.val (.int p1), .val (.int p2), .val (.int p3), .val (.int c1), .val (.int c2), .val (.int d1), .unset, .unset, .unset, .unset, .unset, .unset, .unset, .unset, .unset] [(.int ((p3.toUInt32 >>> ((5 : Int32) &&& 31).toUInt32).toInt32))])) t
      refine XS.iconst X0.here hx rfl (hb hby at_41) ?_
      show Steps p.tables e below (s₁.setTop (mkF m 42 #[.val (.int p1), .val (.int p2), .val (.int p3), .val (.int c1), .val (.int c2), .val (.int d1), .unset, .unset, .unset, .unset, .unset, .unset, .unset, .unset, .unset] [(.int (1 : Int32)), (.int ((p3.toUInt32 >>> ((5 : Int32) &&& 31).toUInt32).toInt32))])) t
      refine XS.iand X0.here hx rfl (hb hby at_42) rfl ?_
      show Steps p.tables e below (s₁.setTop (mkF m 43 #[.val (.int p1), .val (.int p2), .val (.int p3), .val (.int c1), .val (.int c2), .val (.int d1), .unset, .unset, .unset, .unset, .unset, .unset, .unset, .unset, .unset] [(.int (((p3.toUInt32 >>> ((5 : Int32) &&& 31).toUInt32).toInt32) &&& (1 : Int32)))])) t
      refine XS.ifYes X0.here hx rfl (pc0 := 43) (pc' := 51) rfl (hb hby at_43) rfl ((if0 _ _).trans (teq hq7).1) (by decide) (by decide) ?_
      show Steps p.tables e below (s₁.setTop (mkF m 51 #[.val (.int p1), .val (.int p2), .val (.int p3), .val (.int c1), .val (.int c2), .val (.int d1), .unset, .unset, .unset, .unset, .unset, .unset, .unset, .unset, .unset] [])) t
      refine XS.iloadN X0.here hx rfl (hb hby at_51) rfl ?_
      show Steps p.tables e below (s₁.setTop (mkF m 52 #[.val (.int p1), .val (.int p2), .val (.int p3), .val (.int c1), .val (.int c2), .val (.int d1), .unset, .unset, .unset, .unset, .unset, .unset, .unset, .unset, .unset] [(.int p2)])) t
      refine XS.bipush X0.here hx rfl (hb hby at_52) ?_
      show Steps p.tables e below (s₁.setTop (mkF m 54 #[.val (.int p1), .val (.int p2), .val (.int p3), .val (.int c1), .val (.int c2), .val (.int d1), .unset, .unset, .unset, .unset, .unset, .unset, .unset, .unset, .unset] [(.int (8 : Int32)), (.int p2)])) t
      refine XS.iushr X0.here hx rfl (hb hby at_54) rfl ?_
      show Steps p.tables e below (s₁.setTop (mkF m 55 #[.val (.int p1), .val (.int p2), .val (.int p3), .val (.int c1), .val (.int c2), .val (.int d1), .unset, .unset, .unset, .unset, .unset, .unset, .unset, .unset, .unset] [(.int ((p2.toUInt32 >>> ((8 : Int32) &&& 31).toUInt32).toInt32))])) t
      refine XS.sipush X0.here hx rfl (hb hby at_55) ?_
      show Steps p.tables e below (s₁.setTop (mkF m 58 #[.val (.int p1), .val (.int p2), .val (.int p3), .val (.int c1), .val (.int c2), .val (.int d1), .unset, .unset, .unset, .unset, .unset, .unset, .unset, .unset, .unset] [(.int (255 : Int32)), (.int ((p2.toUInt32 >>> ((8 : Int32) &&& 31).toUInt32).toInt32))])) t
      refine XS.iand X0.here hx rfl (hb hby at_58) rfl ?_
      show Steps p.tables e below (s₁.setTop (mkF m 59 #[.val (.int p1), .val (.int p2), .val (.int p3), .val (.int c1), .val (.int c2), .val (.int d1), .unset, .unset, .unset, .unset, .unset, .unset, .unset, .unset, .unset] [(.int (((p2.toUInt32 >>> ((8 : Int32) &&& 31).toUInt32).toInt32) &&& (255 : Int32)))])) t
      refine XS.i2c X0.here hx rfl (hb hby at_59) rfl ?_
      exact k
    · skip
      refine ⟨d1, hx_d1, fun t k => ?_⟩
      show Steps p.tables e below (s₁.setTop (mkF m 38 #[.val (.int p1), .val (.int p2), .val (.int p3), .val (.int c1), .val (.int c2), .val (.int d1), .unset, .unset, .unset, .unset, .unset, .unset, .unset, .unset, .unset] [])) t
      refine XS.iloadN X0.here hx rfl (hb hby at_38) rfl ?_
      show Steps p.tables e below (s₁.setTop (mkF m 39 #[.val (.int p1), .val (.int p2), .val (.int p3), .val (.int c1), .val (.int c2), .val (.int d1), .unset, .unset, .unset, .unset, .unset, .unset, .unset, .unset, .unset] [(.int p3)])) t
      refine XS.iconst X0.here hx rfl (hb hby at_39) ?_
      show Steps p.tables e below (s₁.setTop (mkF m 40 #[.val (.int p1), .val (.int p2), .val (.int p3), .val (.int c1), .val (.int c2), .val (.int d1), .unset, .unset, .unset, .unset, .unset, .unset, .unset, .unset, .unset] [(.int (5 : Int32)), (.int p3)])) t
      refine XS.iushr X0.here hx rfl (hb hby at_40) rfl ?_
      show Steps p.tables e below (s₁.setTop (mkF m 41 #[.val (.int p1), .val (.int p2), .val (.int p3), .val (.int c1), .val (.int c2), .val (.int d1), .unset, .unset, .unset, .unset, .unset, .unset, .unset, .unset, .unset] [(.int ((p3.toUInt32 >>> ((5 : Int32) &&& 31).toUInt32).toInt32))])) t
      refine XS.iconst X0.here hx rfl (hb hby at_41) ?_
      show Steps p.tables e below (s₁.setTop (mkF m 42 #[.val (.int p1), .val (.int p2), .val (.int p3), .val (.int c1), .val (.int c2), .val (.int d1), .unset, .unset, .unset, .unset, .unset, .unset, .unset, .unset, .unset] [(.int (1 : Int32)), (.int ((p3.toUInt32 >>> ((5 : Int32) &&& 31).toUInt32).toInt32))])) t
      refine XS.iand X0.here hx rfl (hb hby at_42) rfl ?_
      show Steps p.tables e below (s₁.setTop (mkF m 43 #[.val (.int p1), .val (.int p2), .val (.int p3), .val (.int c1), .val (.int c2), .val (.int d1), .unset, .unset, .unset, .unset, .unset, .unset, .unset, .unset, .unset] [(.int (((p3.toUInt32 >>> ((5 : Int32) &&& 31).toUInt32).toInt32) &&& (1 : Int32)))])) t
      refine XS.ifNo X0.here hx rfl (hb hby at_43) rfl ((if0 _ _).trans (feq hq7).1) ?_
      show Steps p.tables e below (s₁.setTop (mkF m 46 #[.val (.int p1), .val (.int p2), .val (.int p3), .val (.int c1), .val (.int c2), .val (.int d1), .unset, .unset, .unset, .unset, .unset, .unset, .unset, .unset, .unset] [])) t
      refine XS.iload X0.here hx rfl (hb hby at_46) rfl ?_
      show Steps p.tables e below (s₁.setTop (mkF m 48 #[.val (.int p1), .val (.int p2), .val (.int p3), .val (.int c1), .val (.int c2), .val (.int d1), .unset, .unset, .unset, .unset, .unset, .unset, .unset, .unset, .unset] [(.int d1)])) t
      refine XS.goto X0.here hx rfl (pc0 := 48) (pc' := 60) rfl (hb hby at_48) (by decide) (by decide) ?_
      exact k
  have ch8 : ∀ t, Steps p.tables e below (s₁.setTop (mkF m 60 #[.val (.int p1), .val (.int p2), .val (.int p3), .val (.int c1), .val (.int c2), .val (.int d1), .unset, .unset, .unset, .unset, .unset, .unset, .unset, .unset, .unset] [(.int d2)])) t → Steps p.tables e below (s₁.setTop (entryFrame m #[(.int p1), (.int p2), (.int p3)] maxLocals)) t := fun t k => ch5 t (sj6 t k)
  have ch9 : ∀ t, Steps p.tables e below (s₁.setTop (mkF m 62 #[.val (.int p1), .val (.int p2), .val (.int p3), .val (.int c1), .val (.int c2), .val (.int d1), .val (.int d2), .unset, .unset, .unset, .unset, .unset, .unset, .unset, .unset] [])) t → Steps p.tables e below (s₁.setTop (entryFrame m #[(.int p1), (.int p2), (.int p3)] maxLocals)) t := fun t k => ch8 t (by
      show Steps p.tables e below (s₁.setTop (mkF m 60 #[.val (.int p1), .val (.int p2), .val (.int p3), .val (.int c1), .val (.int c2), .val (.int d1), .unset, .unset, .unset, .unset, .unset, .unset, .unset, .unset, .unset] [(.int d2)])) t
      refine XS.istore X0.here hx rfl (hb hby at_60) rfl (l' := #[.val (.int p1), .val (.int p2), .val (.int p3), .val (.int c1), .val (.int c2), .val (.int d1), .val (.int d2), .unset, .unset, .unset, .unset, .unset, .unset, .unset, .unset]) rfl ?_
      exact k)
  obtain ⟨x1, hx_x1, sj10⟩ : ∃ x1 : Int32, (x1 = (0 : Int32) ∨ x1 = (1 : Int32)) ∧ ∀ t, Steps p.tables e below (s₁.setTop (mkF m 73 #[.val (.int p1), .val (.int p2), .val (.int p3), .val (.int c1), .val (.int c2), .val (.int d1), .val (.int d2), .unset, .unset, .unset, .unset, .unset, .unset, .unset, .unset] [(.int x1)])) t → Steps p.tables e below (s₁.setTop (mkF m 62 #[.val (.int p1), .val (.int p2), .val (.int p3), .val (.int c1), .val (.int c2), .val (.int d1), .val (.int d2), .unset, .unset, .unset, .unset, .unset, .unset, .unset, .unset] [])) t := by
    by_cases hq11 : (p3 &&& (1 : Int32)) = (0 : Int32)
    · skip
      refine ⟨(0 : Int32), (Or.inl rfl), fun t k => ?_⟩
      show Steps p.tables e below (s₁.setTop (mkF m 62 #[.val (.int p1), .val (.int p2), .val (.int p3), .val (.int c1), .val (.int c2), .val (.int d1), .val (.int d2), .unset, .unset, .unset, .unset, .unset, .unset, .unset, .unset] [])) t
      refine XS.iloadN X0.here hx rfl (hb hby at_62) rfl ?_
      show Steps p.tables e below (s₁.setTop (mkF m 63 #[.val (.int p1), .val (.int p2), .val (.int p3), .val (.int c1), .val (.int c2), .val (.int d1), .val (.int d2), .unset, .unset, .unset, .unset, .unset, .unset, .unset, .unset] [(.int p3)])) t
      refine XS.iconst X0.here hx rfl (hb hby at_63) ?_
      show Steps p.tables e below (s₁.setTop (mkF m 64 #[.val (.int p1), .val (.int p2), .val (.int p3), .val (.int c1), .val (.int c2), .val (.int d1), .val (.int d2), .unset, .unset, .unset, .unset, .unset, .unset, .unset, .unset] [(.int (1 : Int32)), (.int p3)])) t
      refine XS.iand X0.here hx rfl (hb hby at_64) rfl ?_
      show Steps p.tables e below (s₁.setTop (mkF m 65 #[.val (.int p1), .val (.int p2), .val (.int p3), .val (.int c1), .val (.int c2), .val (.int d1), .val (.int d2), .unset, .unset, .unset, .unset, .unset, .unset, .unset, .unset] [(.int (p3 &&& (1 : Int32)))])) t
      refine XS.ifYes X0.here hx rfl (pc0 := 65) (pc' := 72) rfl (hb hby at_65) rfl ((if0 _ _).trans (teq hq11).1) (by decide) (by decide) ?_
      show Steps p.tables e below (s₁.setTop (mkF m 72 #[.val (.int p1), .val (.int p2), .val (.int p3), .val (.int c1), .val (.int c2), .val (.int d1), .val (.int d2), .unset, .unset, .unset, .unset, .unset, .unset, .unset, .unset] [])) t
      refine XS.iconst X0.here hx rfl (hb hby at_72) ?_
      exact k
    · skip
      refine ⟨(1 : Int32), (Or.inr rfl), fun t k => ?_⟩
      show Steps p.tables e below (s₁.setTop (mkF m 62 #[.val (.int p1), .val (.int p2), .val (.int p3), .val (.int c1), .val (.int c2), .val (.int d1), .val (.int d2), .unset, .unset, .unset, .unset, .unset, .unset, .unset, .unset] [])) t
      refine XS.iloadN X0.here hx rfl (hb hby at_62) rfl ?_
      show Steps p.tables e below (s₁.setTop (mkF m 63 #[.val (.int p1), .val (.int p2), .val (.int p3), .val (.int c1), .val (.int c2), .val (.int d1), .val (.int d2), .unset, .unset, .unset, .unset, .unset, .unset, .unset, .unset] [(.int p3)])) t
      refine XS.iconst X0.here hx rfl (hb hby at_63) ?_
      show Steps p.tables e below (s₁.setTop (mkF m 64 #[.val (.int p1), .val (.int p2), .val (.int p3), .val (.int c1), .val (.int c2), .val (.int d1), .val (.int d2), .unset, .unset, .unset, .unset, .unset, .unset, .unset, .unset] [(.int (1 : Int32)), (.int p3)])) t
      refine XS.iand X0.here hx rfl (hb hby at_64) rfl ?_
      show Steps p.tables e below (s₁.setTop (mkF m 65 #[.val (.int p1), .val (.int p2), .val (.int p3), .val (.int c1), .val (.int c2), .val (.int d1), .val (.int d2), .unset, .unset, .unset, .unset, .unset, .unset, .unset, .unset] [(.int (p3 &&& (1 : Int32)))])) t
      refine XS.ifNo X0.here hx rfl (hb hby at_65) rfl ((if0 _ _).trans (feq hq11).1) ?_
      show Steps p.tables e below (s₁.setTop (mkF m 68 #[.val (.int p1), .val (.int p2), .val (.int p3), .val (.int c1), .val (.int c2), .val (.int d1), .val (.int d2), .unset, .unset, .unset, .unset, .unset, .unset, .unset, .unset] [])) t
      refine XS.iconst X0.here hx rfl (hb hby at_68) ?_
      show Steps p.tables e below (s₁.setTop (mkF m 69 #[.val (.int p1), .val (.int p2), .val (.int p3), .val (.int c1), .val (.int c2), .val (.int d1), .val (.int d2), .unset, .unset, .unset, .unset, .unset, .unset, .unset, .unset] [(.int (1 : Int32))])) t
      refine XS.goto X0.here hx rfl (pc0 := 69) (pc' := 73) rfl (hb hby at_69) (by decide) (by decide) ?_
      exact k
  have ch12 : ∀ t, Steps p.tables e below (s₁.setTop (mkF m 73 #[.val (.int p1), .val (.int p2), .val (.int p3), .val (.int c1), .val (.int c2), .val (.int d1), .val (.int d2), .unset, .unset, .unset, .unset, .unset, .unset, .unset, .unset] [(.int x1)])) t → Steps p.tables e below (s₁.setTop (entryFrame m #[(.int p1), (.int p2), (.int p3)] maxLocals)) t := fun t k => ch9 t (sj10 t k)
  have ch13 : ∀ t, Steps p.tables e below (s₁.setTop (mkF m 75 #[.val (.int p1), .val (.int p2), .val (.int p3), .val (.int c1), .val (.int c2), .val (.int d1), .val (.int d2), .val (.int x1), .unset, .unset, .unset, .unset, .unset, .unset, .unset] [])) t → Steps p.tables e below (s₁.setTop (entryFrame m #[(.int p1), (.int p2), (.int p3)] maxLocals)) t := fun t k => ch12 t (by
      show Steps p.tables e below (s₁.setTop (mkF m 73 #[.val (.int p1), .val (.int p2), .val (.int p3), .val (.int c1), .val (.int c2), .val (.int d1), .val (.int d2), .unset, .unset, .unset, .unset, .unset, .unset, .unset, .unset] [(.int x1)])) t
      refine XS.istore X0.here hx rfl (hb hby at_73) rfl (l' := #[.val (.int p1), .val (.int p2), .val (.int p3), .val (.int c1), .val (.int c2), .val (.int d1), .val (.int d2), .val (.int x1), .unset, .unset, .unset, .unset, .unset, .unset, .unset]) rfl ?_
      exact k)
  obtain ⟨y1, hx_y1, sj14⟩ : ∃ y1 : Int32, (y1 = (0 : Int32) ∨ y1 = (1 : Int32)) ∧ ∀ t, Steps p.tables e below (s₁.setTop (mkF m 86 #[.val (.int p1), .val (.int p2), .val (.int p3), .val (.int c1), .val (.int c2), .val (.int d1), .val (.int d2), .val (.int x1), .unset, .unset, .unset, .unset, .unset, .unset, .unset] [(.int y1)])) t → Steps p.tables e below (s₁.setTop (mkF m 75 #[.val (.int p1), .val (.int p2), .val (.int p3), .val (.int c1), .val (.int c2), .val (.int d1), .val (.int d2), .val (.int x1), .unset, .unset, .unset, .unset, .unset, .unset, .unset] [])) t := by
    by_cases hq15 : (p3 &&& (2 : Int32)) = (0 : Int32)
    · skip
      refine ⟨(0 : Int32), (Or.inl rfl), fun t k => ?_⟩
      show Steps p.tables e below (s₁.setTop (mkF m 75 #[.val (.int p1), .val (.int p2), .val (.int p3), .val (.int c1), .val (.int c2), .val (.int d1), .val (.int d2), .val (.int x1), .unset, .unset, .unset, .unset, .unset, .unset, .unset] [])) t
      refine XS.iloadN X0.here hx rfl (hb hby at_75) rfl ?_
      show Steps p.tables e below (s₁.setTop (mkF m 76 #[.val (.int p1), .val (.int p2), .val (.int p3), .val (.int c1), .val (.int c2), .val (.int d1), .val (.int d2), .val (.int x1), .unset, .unset, .unset, .unset, .unset, .unset, .unset] [(.int p3)])) t
      refine XS.iconst X0.here hx rfl (hb hby at_76) ?_
      show Steps p.tables e below (s₁.setTop (mkF m 77 #[.val (.int p1), .val (.int p2), .val (.int p3), .val (.int c1), .val (.int c2), .val (.int d1), .val (.int d2), .val (.int x1), .unset, .unset, .unset, .unset, .unset, .unset, .unset] [(.int (2 : Int32)), (.int p3)])) t
      refine XS.iand X0.here hx rfl (hb hby at_77) rfl ?_
      show Steps p.tables e below (s₁.setTop (mkF m 78 #[.val (.int p1), .val (.int p2), .val (.int p3), .val (.int c1), .val (.int c2), .val (.int d1), .val (.int d2), .val (.int x1), .unset, .unset, .unset, .unset, .unset, .unset, .unset] [(.int (p3 &&& (2 : Int32)))])) t
      refine XS.ifYes X0.here hx rfl (pc0 := 78) (pc' := 85) rfl (hb hby at_78) rfl ((if0 _ _).trans (teq hq15).1) (by decide) (by decide) ?_
      show Steps p.tables e below (s₁.setTop (mkF m 85 #[.val (.int p1), .val (.int p2), .val (.int p3), .val (.int c1), .val (.int c2), .val (.int d1), .val (.int d2), .val (.int x1), .unset, .unset, .unset, .unset, .unset, .unset, .unset] [])) t
      refine XS.iconst X0.here hx rfl (hb hby at_85) ?_
      exact k
    · skip
      refine ⟨(1 : Int32), (Or.inr rfl), fun t k => ?_⟩
      show Steps p.tables e below (s₁.setTop (mkF m 75 #[.val (.int p1), .val (.int p2), .val (.int p3), .val (.int c1), .val (.int c2), .val (.int d1), .val (.int d2), .val (.int x1), .unset, .unset, .unset, .unset, .unset, .unset, .unset] [])) t
      refine XS.iloadN X0.here hx rfl (hb hby at_75) rfl ?_
      show Steps p.tables e below (s₁.setTop (mkF m 76 #[.val (.int p1), .val (.int p2), .val (.int p3), .val (.int c1), .val (.int c2), .val (.int d1), .val (.int d2), .val (.int x1), .unset, .unset, .unset, .unset, .unset, .unset, .unset] [(.int p3)])) t
      refine XS.iconst X0.here hx rfl (hb hby at_76) ?_
      show Steps p.tables e below (s₁.setTop (mkF m 77 #[.val (.int p1), .val (.int p2), .val (.int p3), .val (.int c1), .val (.int c2), .val (.int d1), .val (.int d2), .val (.int x1), .unset, .unset, .unset, .unset, .unset, .unset, .unset] [(.int (2 : Int32)), (.int p3)])) t
      refine XS.iand X0.here hx rfl (hb hby at_77) rfl ?_
      show Steps p.tables e below (s₁.setTop (mkF m 78 #[.val (.int p1), .val (.int p2), .val (.int p3), .val (.int c1), .val (.int c2), .val (.int d1), .val (.int d2), .val (.int x1), .unset, .unset, .unset, .unset, .unset, .unset, .unset] [(.int (p3 &&& (2 : Int32)))])) t
      refine XS.ifNo X0.here hx rfl (hb hby at_78) rfl ((if0 _ _).trans (feq hq15).1) ?_
      show Steps p.tables e below (s₁.setTop (mkF m 81 #[.val (.int p1), .val (.int p2), .val (.int p3), .val (.int c1), .val (.int c2), .val (.int d1), .val (.int d2), .val (.int x1), .unset, .unset, .unset, .unset, .unset, .unset, .unset] [])) t
      refine XS.iconst X0.here hx rfl (hb hby at_81) ?_
      show Steps p.tables e below (s₁.setTop (mkF m 82 #[.val (.int p1), .val (.int p2), .val (.int p3), .val (.int c1), .val (.int c2), .val (.int d1), .val (.int d2), .val (.int x1), .unset, .unset, .unset, .unset, .unset, .unset, .unset] [(.int (1 : Int32))])) t
      refine XS.goto X0.here hx rfl (pc0 := 82) (pc' := 86) rfl (hb hby at_82) (by decide) (by decide) ?_
      exact k
  have ch16 : ∀ t, Steps p.tables e below (s₁.setTop (mkF m 86 #[.val (.int p1), .val (.int p2), .val (.int p3), .val (.int c1), .val (.int c2), .val (.int d1), .val (.int d2), .val (.int x1), .unset, .unset, .unset, .unset, .unset, .unset, .unset] [(.int y1)])) t → Steps p.tables e below (s₁.setTop (entryFrame m #[(.int p1), (.int p2), (.int p3)] maxLocals)) t := fun t k => ch13 t (sj14 t k)
  have ch17 : ∀ t, Steps p.tables e below (s₁.setTop (mkF m 88 #[.val (.int p1), .val (.int p2), .val (.int p3), .val (.int c1), .val (.int c2), .val (.int d1), .val (.int d2), .val (.int x1), .val (.int y1), .unset, .unset, .unset, .unset, .unset, .unset] [])) t → Steps p.tables e below (s₁.setTop (entryFrame m #[(.int p1), (.int p2), (.int p3)] maxLocals)) t := fun t k => ch16 t (by
      show Steps p.tables e below (s₁.setTop (mkF m 86 #[.val (.int p1), .val (.int p2), .val (.int p3), .val (.int c1), .val (.int c2), .val (.int d1), .val (.int d2), .val (.int x1), .unset, .unset, .unset, .unset, .unset, .unset, .unset] [(.int y1)])) t
      refine XS.istore X0.here hx rfl (hb hby at_86) rfl (l' := #[.val (.int p1), .val (.int p2), .val (.int p3), .val (.int c1), .val (.int c2), .val (.int d1), .val (.int d2), .val (.int x1), .val (.int y1), .unset, .unset, .unset, .unset, .unset, .unset]) rfl ?_
      exact k)
  obtain ⟨x2, hx_x2, sj18⟩ : ∃ x2 : Int32, (x2 = (0 : Int32) ∨ x2 = (1 : Int32)) ∧ ∀ t, Steps p.tables e below (s₁.setTop (mkF m 99 #[.val (.int p1), .val (.int p2), .val (.int p3), .val (.int c1), .val (.int c2), .val (.int d1), .val (.int d2), .val (.int x1), .val (.int y1), .unset, .unset, .unset, .unset, .unset, .unset] [(.int x2)])) t → Steps p.tables e below (s₁.setTop (mkF m 88 #[.val (.int p1), .val (.int p2), .val (.int p3), .val (.int c1), .val (.int c2), .val (.int d1), .val (.int d2), .val (.int x1), .val (.int y1), .unset, .unset, .unset, .unset, .unset, .unset] [])) t := by
    by_cases hq19 : (p3 &&& (4 : Int32)) = (0 : Int32)
    · skip
      refine ⟨(0 : Int32), (Or.inl rfl), fun t k => ?_⟩
      show Steps p.tables e below (s₁.setTop (mkF m 88 #[.val (.int p1), .val (.int p2), .val (.int p3), .val (.int c1), .val (.int c2), .val (.int d1), .val (.int d2), .val (.int x1), .val (.int y1), .unset, .unset, .unset, .unset, .unset, .unset] [])) t
      refine XS.iloadN X0.here hx rfl (hb hby at_88) rfl ?_
      show Steps p.tables e below (s₁.setTop (mkF m 89 #[.val (.int p1), .val (.int p2), .val (.int p3), .val (.int c1), .val (.int c2), .val (.int d1), .val (.int d2), .val (.int x1), .val (.int y1), .unset, .unset, .unset, .unset, .unset, .unset] [(.int p3)])) t
      refine XS.iconst X0.here hx rfl (hb hby at_89) ?_
      show Steps p.tables e below (s₁.setTop (mkF m 90 #[.val (.int p1), .val (.int p2), .val (.int p3), .val (.int c1), .val (.int c2), .val (.int d1), .val (.int d2), .val (.int x1), .val (.int y1), .unset, .unset, .unset, .unset, .unset, .unset] [(.int (4 : Int32)), (.int p3)])) t
      refine XS.iand X0.here hx rfl (hb hby at_90) rfl ?_
      show Steps p.tables e below (s₁.setTop (mkF m 91 #[.val (.int p1), .val (.int p2), .val (.int p3), .val (.int c1), .val (.int c2), .val (.int d1), .val (.int d2), .val (.int x1), .val (.int y1), .unset, .unset, .unset, .unset, .unset, .unset] [(.int (p3 &&& (4 : Int32)))])) t
      refine XS.ifYes X0.here hx rfl (pc0 := 91) (pc' := 98) rfl (hb hby at_91) rfl ((if0 _ _).trans (teq hq19).1) (by decide) (by decide) ?_
      show Steps p.tables e below (s₁.setTop (mkF m 98 #[.val (.int p1), .val (.int p2), .val (.int p3), .val (.int c1), .val (.int c2), .val (.int d1), .val (.int d2), .val (.int x1), .val (.int y1), .unset, .unset, .unset, .unset, .unset, .unset] [])) t
      refine XS.iconst X0.here hx rfl (hb hby at_98) ?_
      exact k
    · skip
      refine ⟨(1 : Int32), (Or.inr rfl), fun t k => ?_⟩
      show Steps p.tables e below (s₁.setTop (mkF m 88 #[.val (.int p1), .val (.int p2), .val (.int p3), .val (.int c1), .val (.int c2), .val (.int d1), .val (.int d2), .val (.int x1), .val (.int y1), .unset, .unset, .unset, .unset, .unset, .unset] [])) t
      refine XS.iloadN X0.here hx rfl (hb hby at_88) rfl ?_
      show Steps p.tables e below (s₁.setTop (mkF m 89 #[.val (.int p1), .val (.int p2), .val (.int p3), .val (.int c1), .val (.int c2), .val (.int d1), .val (.int d2), .val (.int x1), .val (.int y1), .unset, .unset, .unset, .unset, .unset, .unset] [(.int p3)])) t
      refine XS.iconst X0.here hx rfl (hb hby at_89) ?_
      show Steps p.tables e below (s₁.setTop (mkF m 90 #[.val (.int p1), .val (.int p2), .val (.int p3), .val (.int c1), .val (.int c2), .val (.int d1), .val (.int d2), .val (.int x1), .val (.int y1), .unset, .unset, .unset, .unset, .unset, .unset] [(.int (4 : Int32)), (.int p3)])) t
      refine XS.iand X0.here hx rfl (hb hby at_90) rfl ?_
      show Steps p.tables e below (s₁.setTop (mkF m 91 #[.val (.int p1), .val (.int p2), .val (.int p3), .val (.int c1), .val (.int c2), .val (.int d1), .val (.int d2), .val (.int x1), .val (.int y1), .unset, .unset, .unset, .unset, .unset, .unset] [(.int (p3 &&& (4 : Int32)))])) t
      refine XS.ifNo X0.here hx rfl (hb hby at_91) rfl ((if0 _ _).trans (feq hq19).1) ?_
      show Steps p.tables e below (s₁.setTop (mkF m 94 #[.val (.int p1), .val (.int p2), .val (.int p3), .val (.int c1), .val (.int c2), .val (.int d1), .val (.int d2), .val (.int x1), .val (.int y1), .unset, .unset, .unset, .unset, .unset, .unset] [])) t
      refine XS.iconst X0.here hx rfl (hb hby at_94) ?_
      show Steps p.tables e below (s₁.setTop (mkF m 95 #[.val (.int p1), .val (.int p2), .val (.int p3), .val (.int c1), .val (.int c2), .val (.int d1), .val (.int d2), .val (.int x1), .val (.int y1), .unset, .unset, .unset, .unset, .unset, .unset] [(.int (1 : Int32))])) t
      refine XS.goto X0.here hx rfl (pc0 := 95) (pc' := 99) rfl (hb hby at_95) (by decide) (by decide) ?_
      exact k
  have ch20 : ∀ t, Steps p.tables e below (s₁.setTop (mkF m 99 #[.val (.int p1), .val (.int p2), .val (.int p3), .val (.int c1), .val (.int c2), .val (.int d1), .val (.int d2), .val (.int x1), .val (.int y1), .unset, .unset, .unset, .unset, .unset, .unset] [(.int x2)])) t → Steps p.tables e below (s₁.setTop (entryFrame m #[(.int p1), (.int p2), (.int p3)] maxLocals)) t := fun t k => ch17 t (sj18 t k)
  have ch21 : ∀ t, Steps p.tables e below (s₁.setTop (mkF m 101 #[.val (.int p1), .val (.int p2), .val (.int p3), .val (.int c1), .val (.int c2), .val (.int d1), .val (.int d2), .val (.int x1), .val (.int y1), .val (.int x2), .unset, .unset, .unset, .unset, .unset] [])) t → Steps p.tables e below (s₁.setTop (entryFrame m #[(.int p1), (.int p2), (.int p3)] maxLocals)) t := fun t k => ch20 t (by
      show Steps p.tables e below (s₁.setTop (mkF m 99 #[.val (.int p1), .val (.int p2), .val (.int p3), .val (.int c1), .val (.int c2), .val (.int d1), .val (.int d2), .val (.int x1), .val (.int y1), .unset, .unset, .unset, .unset, .unset, .unset] [(.int x2)])) t
      refine XS.istore X0.here hx rfl (hb hby at_99) rfl (l' := #[.val (.int p1), .val (.int p2), .val (.int p3), .val (.int c1), .val (.int c2), .val (.int d1), .val (.int d2), .val (.int x1), .val (.int y1), .val (.int x2), .unset, .unset, .unset, .unset, .unset]) rfl ?_
      exact k)
  obtain ⟨y2, hx_y2, sj22⟩ : ∃ y2 : Int32, (y2 = (0 : Int32) ∨ y2 = (1 : Int32)) ∧ ∀ t, Steps p.tables e below (s₁.setTop (mkF m 113 #[.val (.int p1), .val (.int p2), .val (.int p3), .val (.int c1), .val (.int c2), .val (.int d1), .val (.int d2), .val (.int x1), .val (.int y1), .val (.int x2), .unset, .unset, .unset, .unset, .unset] [(.int y2)])) t → Steps p.tables e below (s₁.setTop (mkF m 101 #[.val (.int p1), .val (.int p2), .val (.int p3), .val (.int c1), .val (.int c2), .val (.int d1), .val (.int d2), .val (.int x1), .val (.int y1), .val (.int x2), .unset, .unset, .unset, .unset, .unset] [])) t := by
    by_cases hq23 : (p3 &&& (8 : Int32)) = (0 : Int32)
    · skip
      refine ⟨(0 : Int32), (Or.inl rfl), fun t k => ?_⟩
      show Steps p.tables e below (s₁.setTop (mkF m 101 #[.val (.int p1), .val (.int p2), .val (.int p3), .val (.int c1), .val (.int c2), .val (.int d1), .val (.int d2), .val (.int x1), .val (.int y1), .val (.int x2), .unset, .unset, .unset, .unset, .unset] [])) t
      refine XS.iloadN X0.here hx rfl (hb hby at_101) rfl ?_
      show Steps p.tables e below (s₁.setTop (mkF m 102 #[.val (.int p1), .val (.int p2), .val (.int p3), .val (.int c1), .val (.int c2), .val (.int d1), .val (.int d2), .val (.int x1), .val (.int y1), .val (.int x2), .unset, .unset, .unset, .unset, .unset] [(.int p3)])) t
      refine XS.bipush X0.here hx rfl (hb hby at_102) ?_
      show Steps p.tables e below (s₁.setTop (mkF m 104 #[.val (.int p1), .val (.int p2), .val (.int p3), .val (.int c1), .val (.int c2), .val (.int d1), .val (.int d2), .val (.int x1), .val (.int y1), .val (.int x2), .unset, .unset, .unset, .unset, .unset] [(.int (8 : Int32)), (.int p3)])) t
      refine XS.iand X0.here hx rfl (hb hby at_104) rfl ?_
      show Steps p.tables e below (s₁.setTop (mkF m 105 #[.val (.int p1), .val (.int p2), .val (.int p3), .val (.int c1), .val (.int c2), .val (.int d1), .val (.int d2), .val (.int x1), .val (.int y1), .val (.int x2), .unset, .unset, .unset, .unset, .unset] [(.int (p3 &&& (8 : Int32)))])) t
      refine XS.ifYes X0.here hx rfl (pc0 := 105) (pc' := 112) rfl (hb hby at_105) rfl ((if0 _ _).trans (teq hq23).1) (by decide) (by decide) ?_
      show Steps p.tables e below (s₁.setTop (mkF m 112 #[.val (.int p1), .val (.int p2), .val (.int p3), .val (.int c1), .val (.int c2), .val (.int d1), .val (.int d2), .val (.int x1), .val (.int y1), .val (.int x2), .unset, .unset, .unset, .unset, .unset] [])) t
      refine XS.iconst X0.here hx rfl (hb hby at_112) ?_
      exact k
    · skip
      refine ⟨(1 : Int32), (Or.inr rfl), fun t k => ?_⟩
      show Steps p.tables e below (s₁.setTop (mkF m 101 #[.val (.int p1), .val (.int p2), .val (.int p3), .val (.int c1), .val (.int c2), .val (.int d1), .val (.int d2), .val (.int x1), .val (.int y1), .val (.int x2), .unset, .unset, .unset, .unset, .unset] [])) t
      refine XS.iloadN X0.here hx rfl (hb hby at_101) rfl ?_
      show Steps p.tables e below (s₁.setTop (mkF m 102 #[.val (.int p1), .val (.int p2), .val (.int p3), .val (.int c1), .val (.int c2), .val (.int d1), .val (.int d2), .val (.int x1), .val (.int y1), .val (.int x2), .unset, .unset, .unset, .unset, .unset] [(.int p3)])) t
      refine XS.bipush X0.here hx rfl (hb hby at_102) ?_
      show Steps p.tables e below (s₁.setTop (mkF m 104 #[.val (.int p1), .val (.int p2), .val (.int p3), .val (.int c1), .val (.int c2), .val (.int d1), .val (.int d2), .val (.int x1), .val (.int y1), .val (.int x2), .unset, .unset, .unset, .unset, .unset] [(.int (8 : Int32)), (.int p3)])) t
      refine XS.iand X0.here hx rfl (hb hby at_104) rfl ?_
      show Steps p.tables e below (s₁.setTop (mkF m 105 #[.val (.int p1), .val (.int p2), .val (.int p3), .val (.int c1), .val (.int c2), .val (.int d1), .val (.int d2), .val (.int x1), .val (.int y1), .val (.int x2), .unset, .unset, .unset, .unset, .unset] [(.int (p3 &&& (8 : Int32)))])) t
      refine XS.ifNo X0.here hx rfl (hb hby at_105) rfl ((if0 _ _).trans (feq hq23).1) ?_
      show Steps p.tables e below (s₁.setTop (mkF m 108 #[.val (.int p1), .val (.int p2), .val (.int p3), .val (.int c1), .val (.int c2), .val (.int d1), .val (.int d2), .val (.int x1), .val (.int y1), .val (.int x2), .unset, .unset, .unset, .unset, .unset] [])) t
      refine XS.iconst X0.here hx rfl (hb hby at_108) ?_
      show Steps p.tables e below (s₁.setTop (mkF m 109 #[.val (.int p1), .val (.int p2), .val (.int p3), .val (.int c1), .val (.int c2), .val (.int d1), .val (.int d2), .val (.int x1), .val (.int y1), .val (.int x2), .unset, .unset, .unset, .unset, .unset] [(.int (1 : Int32))])) t
      refine XS.goto X0.here hx rfl (pc0 := 109) (pc' := 113) rfl (hb hby at_109) (by decide) (by decide) ?_
      exact k
  have ch24 : ∀ t, Steps p.tables e below (s₁.setTop (mkF m 113 #[.val (.int p1), .val (.int p2), .val (.int p3), .val (.int c1), .val (.int c2), .val (.int d1), .val (.int d2), .val (.int x1), .val (.int y1), .val (.int x2), .unset, .unset, .unset, .unset, .unset] [(.int y2)])) t → Steps p.tables e below (s₁.setTop (entryFrame m #[(.int p1), (.int p2), (.int p3)] maxLocals)) t := fun t k => ch21 t (sj22 t k)
  obtain ⟨T25, hp25, X25, e25, E25, A25, D25, -, st25⟩ := newO X0 hx hZ hown (hw _ (List.mem_of_getElem? (i := 0) rfl)) (hw _ (List.mem_of_getElem? (i := 1) rfl)) (hw _ (List.mem_of_getElem? (i := 2) rfl)) e0 (g := (mkF m 123 #[.val (.int p1), .val (.int p2), .val (.int p3), .val (.int c1), .val (.int c2), .val (.int d1), .val (.int d2), .val (.int x1), .val (.int y1), .val (.int x2), .val (.int y2), .val (.int (2 : Int32)), .unset, .unset, .unset] [])) rfl (hb hby at_123) (by decide) (by decide)
  obtain ⟨b25, g25⟩ : ∃ z, z = h0.size := ⟨_, rfl⟩
  rw [← g25] at A25 D25 st25
  have g_b25 : n0 ≤ b25 := Nat.le_trans (Nat.le_trans Z0 (Keep.refl h0 []).1) (Nat.le_of_eq g25.symm)
  have sz_b25 : h0.size ≤ b25 := Nat.le_trans (Keep.refl h0 []).1 (Nat.le_of_eq g25.symm)
  have hk := Nat.le_trans hk E25.1
  have Kp25 := Keep.ext (Keep.refl h0 []) E25
  have F25_46 : Fld Z hp25 b25 "com/example/nokkel/nokkel/core/ClientRecord" "owner" "Ljava/lang/String;" .null := D25 (Or.inr (hw _ (List.mem_of_getElem? (i := 46) rfl))) (ty := (.object "java/lang/String")) (by decide)
  have F25_49 : Fld Z hp25 b25 "com/example/nokkel/nokkel/core/ClientRecord" "verifier" "Ljava/lang/String;" .null := D25 (Or.inr (hw _ (List.mem_of_getElem? (i := 49) rfl))) (ty := (.object "java/lang/String")) (by decide)
  have F25_51 : Fld Z hp25 b25 "com/example/nokkel/nokkel/core/ClientRecord" "locksRevoked" "Z" (.int (0 : Int32)) := D25 (Or.inr (hw _ (List.mem_of_getElem? (i := 51) rfl))) (ty := .boolean) (by decide)
  have F25_53 : Fld Z hp25 b25 "com/example/nokkel/nokkel/core/ClientRecord" "graceMissed" "Z" (.int (0 : Int32)) := D25 (Or.inr (hw _ (List.mem_of_getElem? (i := 53) rfl))) (ty := .boolean) (by decide)
  have ch26 : ∀ t, Steps p.tables e below (T25.setTop (mkF m 126 #[.val (.int p1), .val (.int p2), .val (.int p3), .val (.int c1), .val (.int c2), .val (.int d1), .val (.int d2), .val (.int x1), .val (.int y1), .val (.int x2), .val (.int y2), .val (.int (2 : Int32)), .unset, .unset, .unset] [(.ref b25)])) t → Steps p.tables e below (s₁.setTop (entryFrame m #[(.int p1), (.int p2), (.int p3)] maxLocals)) t := fun t k => ch24 t (by
      show Steps p.tables e below (s₁.setTop (mkF m 113 #[.val (.int p1), .val (.int p2), .val (.int p3), .val (.int c1), .val (.int c2), .val (.int d1), .val (.int d2), .val (.int x1), .val (.int y1), .val (.int x2), .unset, .unset, .unset, .unset, .unset] [(.int y2)])) t
      refine XS.istore X0.here hx rfl (hb hby at_113) rfl (l' := #[.val (.int p1), .val (.int p2), .val (.int p3), .val (.int c1), .val (.int c2), .val (.int d1), .val (.int d2), .val (.int x1), .val (.int y1), .val (.int x2), .val (.int y2), .unset, .unset, .unset, .unset]) rfl ?_
      show Steps p.tables e below (s₁.setTop (mkF m 115 #[.val (.int p1), .val (.int p2), .val (.int p3), .val (.int c1), .val (.int c2), .val (.int d1), .val (.int d2), .val (.int x1), .val (.int y1), .val (.int x2), .val (.int y2), .unset, .unset, .unset, .unset] [])) t
      refine XS.iloadN X0.here hx rfl (hb hby at_115) rfl ?_
      show Steps p.tables e below (s₁.setTop (mkF m 116 #[.val (.int p1), .val (.int p2), .val (.int p3), .val (.int c1), .val (.int c2), .val (.int d1), .val (.int d2), .val (.int x1), .val (.int y1), .val (.int x2), .val (.int y2), .unset, .unset, .unset, .unset] [(.int p3)])) t
      refine XS.bipush X0.here hx rfl (hb hby at_116) ?_
      show Steps p.tables e below (s₁.setTop (mkF m 118 #[.val (.int p1), .val (.int p2), .val (.int p3), .val (.int c1), .val (.int c2), .val (.int d1), .val (.int d2), .val (.int x1), .val (.int y1), .val (.int x2), .val (.int y2), .unset, .unset, .unset, .unset] [(.int (6 : Int32)), (.int p3)])) t
      refine XS.iushr X0.here hx rfl (hb hby at_118) rfl ?_
      show Steps p.tables e below (s₁.setTop (mkF m 119 #[.val (.int p1), .val (.int p2), .val (.int p3), .val (.int c1), .val (.int c2), .val (.int d1), .val (.int d2), .val (.int x1), .val (.int y1), .val (.int x2), .val (.int y2), .unset, .unset, .unset, .unset] [(.int ((p3.toUInt32 >>> ((6 : Int32) &&& 31).toUInt32).toInt32))])) t
      refine XS.iconst X0.here hx rfl (hb hby at_119) ?_
      show Steps p.tables e below (s₁.setTop (mkF m 120 #[.val (.int p1), .val (.int p2), .val (.int p3), .val (.int c1), .val (.int c2), .val (.int d1), .val (.int d2), .val (.int x1), .val (.int y1), .val (.int x2), .val (.int y2), .unset, .unset, .unset, .unset] [(.int (3 : Int32)), (.int ((p3.toUInt32 >>> ((6 : Int32) &&& 31).toUInt32).toInt32))])) t
      refine XS.iand X0.here hx rfl (hb hby at_120) rfl ?_
      rw [hKk]
      show Steps p.tables e below (s₁.setTop (mkF m 121 #[.val (.int p1), .val (.int p2), .val (.int p3), .val (.int c1), .val (.int c2), .val (.int d1), .val (.int d2), .val (.int x1), .val (.int y1), .val (.int x2), .val (.int y2), .unset, .unset, .unset, .unset] [(.int (2 : Int32))])) t
      refine XS.istore X0.here hx rfl (hb hby at_121) rfl (l' := #[.val (.int p1), .val (.int p2), .val (.int p3), .val (.int c1), .val (.int c2), .val (.int d1), .val (.int d2), .val (.int x1), .val (.int y1), .val (.int x2), .val (.int y2), .val (.int (2 : Int32)), .unset, .unset, .unset]) rfl ?_
      show Steps p.tables e below (s₁.setTop (mkF m 123 #[.val (.int p1), .val (.int p2), .val (.int p3), .val (.int c1), .val (.int c2), .val (.int d1), .val (.int d2), .val (.int x1), .val (.int y1), .val (.int x2), .val (.int y2), .val (.int (2 : Int32)), .unset, .unset, .unset] [])) t
      exact st25 t k)
  obtain ⟨T27, hp27, X27, e27, E27, A27, D27, -, st27⟩ := newO X25 hx hZ hown (hw _ (List.mem_of_getElem? (i := 3) rfl)) (hw _ (List.mem_of_getElem? (i := 4) rfl)) (hw _ (List.mem_of_getElem? (i := 5) rfl)) e25 (g := (mkF m 127 #[.val (.int p1), .val (.int p2), .val (.int p3), .val (.int c1), .val (.int c2), .val (.int d1), .val (.int d2), .val (.int x1), .val (.int y1), .val (.int x2), .val (.int y2), .val (.int (2 : Int32)), .unset, .unset, .unset] [(.ref b25), (.ref b25)])) rfl (hb hby at_127) (by decide) (by decide)
  obtain ⟨b27, g27⟩ : ∃ z, z = hp25.size := ⟨_, rfl⟩
  rw [← g27] at A27 D27 st27
  have ne_b25_b27 : b25 ≠ b27 := Nat.ne_of_lt (Nat.lt_of_lt_of_le A25.lt (Nat.le_of_eq g27.symm))
  have g_b27 : n0 ≤ b27 := Nat.le_trans (Nat.le_trans Z0 Kp25.1) (Nat.le_of_eq g27.symm)
  have sz_b27 : h0.size ≤ b27 := Nat.le_trans Kp25.1 (Nat.le_of_eq g27.symm)
  have hk := Nat.le_trans hk E27.1
  have Kp27 := Keep.ext Kp25 E27
  have F27_30 : Fld Z hp27 b27 "java/lang/String" "coder" "B" (.int (0 : Int32)) := D27 (Or.inr (hw _ (List.mem_of_getElem? (i := 30) rfl))) (ty := .byte) (by decide)
  have F27_32 : Fld Z hp27 b27 "java/lang/String" "value" "[B" .null := D27 (Or.inr (hw _ (List.mem_of_getElem? (i := 32) rfl))) (ty := (.array .byte)) (by decide)
  have ch28 : ∀ t, Steps p.tables e below (T27.setTop (mkF m 130 #[.val (.int p1), .val (.int p2), .val (.int p3), .val (.int c1), .val (.int c2), .val (.int d1), .val (.int d2), .val (.int x1), .val (.int y1), .val (.int x2), .val (.int y2), .val (.int (2 : Int32)), .unset, .unset, .unset] [(.ref b27), (.ref b25), (.ref b25)])) t → Steps p.tables e below (s₁.setTop (entryFrame m #[(.int p1), (.int p2), (.int p3)] maxLocals)) t := fun t k => ch26 t (by
      show Steps p.tables e below (T25.setTop (mkF m 126 #[.val (.int p1), .val (.int p2), .val (.int p3), .val (.int c1), .val (.int c2), .val (.int d1), .val (.int d2), .val (.int x1), .val (.int y1), .val (.int x2), .val (.int y2), .val (.int (2 : Int32)), .unset, .unset, .unset] [(.ref b25)])) t
      refine XS.dup X25.here hx rfl (hb hby at_126) rfl rfl ?_
      show Steps p.tables e below (T25.setTop (mkF m 127 #[.val (.int p1), .val (.int p2), .val (.int p3), .val (.int c1), .val (.int c2), .val (.int d1), .val (.int d2), .val (.int x1), .val (.int y1), .val (.int x2), .val (.int y2), .val (.int (2 : Int32)), .unset, .unset, .unset] [(.ref b25), (.ref b25)])) t
      exact st27 t k)
  obtain ⟨T29, hp29, k29, X29, e29, E29, A29, st29⟩ := newP X27 hx hZ (hw _ (List.mem_of_getElem? (i := 6) rfl)) e27 (g := (mkF m 132 #[.val (.int p1), .val (.int p2), .val (.int p3), .val (.int c1), .val (.int c2), .val (.int d1), .val (.int d2), .val (.int x1), .val (.int y1), .val (.int x2), .val (.int y2), .val (.int (2 : Int32)), .unset, .unset, .unset] [(.int (1 : Int32)), (.ref b27), (.ref b27), (.ref b25), (.ref b25)])) rfl (hb hby at_132) rfl (by decide) (cap := 1) (by decide) (by decide) (by decide) (by decide)
  obtain ⟨b29, g29⟩ : ∃ z, z = hp27.size := ⟨_, rfl⟩
  rw [← g29] at A29 st29
  have cf30 := (A25.ext E27)
  have ne_b25_b29 : b25 ≠ b29 := Nat.ne_of_lt (Nat.lt_of_lt_of_le cf30.lt (Nat.le_of_eq g29.symm))
  have ne_b27_b29 : b27 ≠ b29 := Nat.ne_of_lt (Nat.lt_of_lt_of_le A27.lt (Nat.le_of_eq g29.symm))
  have g_b29 : n0 ≤ b29 := Nat.le_trans (Nat.le_trans Z0 Kp27.1) (Nat.le_of_eq g29.symm)
  have sz_b29 : h0.size ≤ b29 := Nat.le_trans Kp27.1 (Nat.le_of_eq g29.symm)
  have hk := Nat.le_trans hk E29.1
  have Kp29 := Keep.ext Kp27 E29
  have V29 : Arv Z hp29 b29 k29 .char (1 : Int32) [(.int (0 : Int32))] (.int (0 : Int32)) := (Arv.new A29 (by decide)).pad (pad_rep [] (.int (0 : Int32)) 1)
  have ch31 : ∀ t, Steps p.tables e below (T29.setTop (mkF m 134 #[.val (.int p1), .val (.int p2), .val (.int p3), .val (.int c1), .val (.int c2), .val (.int d1), .val (.int d2), .val (.int x1), .val (.int y1), .val (.int x2), .val (.int y2), .val (.int (2 : Int32)), .unset, .unset, .unset] [(.ref b29), (.ref b27), (.ref b27), (.ref b25), (.ref b25)])) t → Steps p.tables e below (s₁.setTop (entryFrame m #[(.int p1), (.int p2), (.int p3)] maxLocals)) t := fun t k => ch28 t (by
      show Steps p.tables e below (T27.setTop (mkF m 130 #[.val (.int p1), .val (.int p2), .val (.int p3), .val (.int c1), .val (.int c2), .val (.int d1), .val (.int d2), .val (.int x1), .val (.int y1), .val (.int x2), .val (.int y2), .val (.int (2 : Int32)), .unset, .unset, .unset] [(.ref b27), (.ref b25), (.ref b25)])) t
      refine XS.dup X27.here hx rfl (hb hby at_130) rfl rfl ?_
      show Steps p.tables e below (T27.setTop (mkF m 131 #[.val (.int p1), .val (.int p2), .val (.int p3), .val (.int c1), .val (.int c2), .val (.int d1), .val (.int d2), .val (.int x1), .val (.int y1), .val (.int x2), .val (.int y2), .val (.int (2 : Int32)), .unset, .unset, .unset] [(.ref b27), (.ref b27), (.ref b25), (.ref b25)])) t
      refine XS.iconst X27.here hx rfl (hb hby at_131) ?_
      show Steps p.tables e below (T27.setTop (mkF m 132 #[.val (.int p1), .val (.int p2), .val (.int p3), .val (.int c1), .val (.int c2), .val (.int d1), .val (.int d2), .val (.int x1), .val (.int y1), .val (.int x2), .val (.int y2), .val (.int (2 : Int32)), .unset, .unset, .unset] [(.int (1 : Int32)), (.ref b27), (.ref b27), (.ref b25), (.ref b25)])) t
      exact st29 t k)
  obtain ⟨cl32, Ar32, qq32, Sz32, Ng32, Ha32, Ga32⟩ := id V29
  have hin32 : ¬ ((0 : Int32) < 0 ∨ cl32.slots.size ≤ ((0 : Int32)).toNatClampNeg) := inb_of Sz32 (by decide)
  obtain ⟨T33, hp33, X33, e33, W33, st33⟩ := stC X29 hx hZ e29 Ar32 (j := (0 : Int32)) hin32 (g := (mkF m 137 #[.val (.int p1), .val (.int p2), .val (.int p3), .val (.int c1), .val (.int c2), .val (.int d1), .val (.int d2), .val (.int x1), .val (.int y1), .val (.int x2), .val (.int y2), .val (.int (2 : Int32)), .unset, .unset, .unset] [(.int c1), (.int (0 : Int32)), (.ref b29), (.ref b29), (.ref b27), (.ref b27), (.ref b25), (.ref b25)])) rfl rfl (hb hby at_137)
  have ch34 : ∀ t, Steps p.tables e below (T33.setTop (mkF m 138 #[.val (.int p1), .val (.int p2), .val (.int p3), .val (.int c1), .val (.int c2), .val (.int d1), .val (.int d2), .val (.int x1), .val (.int y1), .val (.int x2), .val (.int y2), .val (.int (2 : Int32)), .unset, .unset, .unset] [(.ref b29), (.ref b27), (.ref b27), (.ref b25), (.ref b25)])) t → Steps p.tables e below (s₁.setTop (entryFrame m #[(.int p1), (.int p2), (.int p3)] maxLocals)) t := fun t k => ch31 t (by
      show Steps p.tables e below (T29.setTop (mkF m 134 #[.val (.int p1), .val (.int p2), .val (.int p3), .val (.int c1), .val (.int c2), .val (.int d1), .val (.int d2), .val (.int x1), .val (.int y1), .val (.int x2), .val (.int y2), .val (.int (2 : Int32)), .unset, .unset, .unset] [(.ref b29), (.ref b27), (.ref b27), (.ref b25), (.ref b25)])) t
      refine XS.dup X29.here hx rfl (hb hby at_134) rfl rfl ?_
      show Steps p.tables e below (T29.setTop (mkF m 135 #[.val (.int p1), .val (.int p2), .val (.int p3), .val (.int c1), .val (.int c2), .val (.int d1), .val (.int d2), .val (.int x1), .val (.int y1), .val (.int x2), .val (.int y2), .val (.int (2 : Int32)), .unset, .unset, .unset] [(.ref b29), (.ref b29), (.ref b27), (.ref b27), (.ref b25), (.ref b25)])) t
      refine XS.iconst X29.here hx rfl (hb hby at_135) ?_
      show Steps p.tables e below (T29.setTop (mkF m 136 #[.val (.int p1), .val (.int p2), .val (.int p3), .val (.int c1), .val (.int c2), .val (.int d1), .val (.int d2), .val (.int x1), .val (.int y1), .val (.int x2), .val (.int y2), .val (.int (2 : Int32)), .unset, .unset, .unset] [(.int (0 : Int32)), (.ref b29), (.ref b29), (.ref b27), (.ref b27), (.ref b25), (.ref b25)])) t
      refine XS.iloadN X29.here hx rfl (hb hby at_136) rfl ?_
      show Steps p.tables e below (T29.setTop (mkF m 137 #[.val (.int p1), .val (.int p2), .val (.int p3), .val (.int c1), .val (.int c2), .val (.int d1), .val (.int d2), .val (.int x1), .val (.int y1), .val (.int x2), .val (.int y2), .val (.int (2 : Int32)), .unset, .unset, .unset] [(.int c1), (.int (0 : Int32)), (.ref b29), (.ref b29), (.ref b27), (.ref b27), (.ref b25), (.ref b25)])) t
      exact st33 t k)
  have V33 : Arv Z hp33 b29 k29 .char (1 : Int32) [(.int (nar .char c1))] (.int (0 : Int32)) := Arv.set Ar32 qq32 Sz32 Ng32 Ha32 Ga32 (fits_nar_char _) W33 0 rfl (Nat.le_of_ble_eq_true rfl)
  rw [own_narc hx_c1] at V33
  have hk := Nat.le_trans hk (Keep.of_wr W33).1
  have N33 := Fr.snoc X33 N0 g_b29
  have Kp33 := Keep.wr Kp29 W33 (Or.inr sz_b29)
  have hp35 : ∀ c ∈ ([c1] : List Int32), ¬ c < 0 ∧ ¬ (255 : Int32) < c := by
    intro c hc
    simp only [List.mem_cons, List.not_mem_nil, or_false] at hc
    rcases hc with rfl
    · exact hx_c1
  have cf36 := (Exa.wr W33 (A27.ext E29))
  have cf37 := (Fld.other W33 (F27_32.ext E29) (Or.inl ne_b27_b29))
  have cf38 := (Fld.other W33 (F27_30.ext E29) (Or.inl ne_b27_b29))
  have cf39 := (own_sta_keep S_CS Kp33 all0)
  have cf40 := (Exa.wr W33 (cf30.ext E29))
  obtain ⟨vv41, _, ⟨T41, L41, kk41, nn41⟩, -, X41, ⟨Lc41, hQ41, l41, y41, z41⟩, st41⟩ := X33.specialBack hx (y := (⟨"java/lang/String", "<init>", "([C)V"⟩ : MethodName)) rfl hown (mvT hZ (hw _ (List.mem_of_getElem? (i := 7) rfl))) (mvT hZ (hw _ (List.mem_of_getElem? (i := 8) rfl))) (mvT hZ (hw _ (List.mem_of_getElem? (i := 9) rfl))) (by decide) (StrChars.Road.backV (W := 3) hZ (own_words hw) (kI := 4) (hw _ (List.mem_of_getElem? (i := 4) rfl)) (cs := ([c1] : List Int32)) (bs := (([c1] : List Int32)).map (fun c => c.toInt8.toInt32)) (n := 1) g_b27 (Nat.le_trans Z0 Kp33.1) cf36 cf37 cf38 V33 cf39 P5 rfl rfl (by decide) (by decide) hp35 rfl (by decide) (by decide)) (g := (mkF m 138 #[.val (.int p1), .val (.int p2), .val (.int p3), .val (.int c1), .val (.int c2), .val (.int d1), .val (.int d2), .val (.int x1), .val (.int y1), .val (.int x2), .val (.int y2), .val (.int (2 : Int32)), .unset, .unset, .unset] [(.ref b29), (.ref b27), (.ref b27), (.ref b25), (.ref b25)])) rfl (by rw [hml]; rfl) (Steps.refl _) (a := b27) (argsL := [(.ref b29)]) (rest := [(.ref b27), (.ref b25), (.ref b25)]) (lenOf own_pd___C_V rfl) rfl (by show 2 * 0 + _ ≤ _; exact Nat.le_of_eq rfl) (hb hby at_138) (fun _ _ => ⟨rfl, e33, (by decide : 3 + 1 ≤ _), (by decide : 9 + 1 ≤ _)⟩)
  dsimp only [Pt.U, Pt.locs, Pt.cells, Pt.slots] at X41 l41 y41 z41 st41 hQ41
  subst l41 y41 z41
  obtain ⟨hh41, eh41⟩ : ∃ h, T41.heap = h := ⟨_, rfl⟩
  rw [eh41] at hQ41
  obtain ⟨rfl, Nq41, Kq41, fq41_0, fq41_1⟩ := hQ41
  have N41 := Fr.app N33 Nq41
  have hk := Nat.le_trans hk Kq41.1
  have Kp41 := Keep.trans Kp33 Kq41 (allS (Or.inr sz_b27) all0)
  obtain ⟨fc41, tb41, kb41, ut41, vt41, wt41, fv41, av41⟩ := fq41_1
  have ne_b25_tb41 : b25 ≠ tb41 := Nat.ne_of_lt (Nat.lt_of_lt_of_le cf40.lt vt41)
  have ne_b27_tb41 : b27 ≠ tb41 := Nat.ne_of_lt (Nat.lt_of_lt_of_le cf36.lt vt41)
  have ne_b29_tb41 : b29 ≠ tb41 := Nat.ne_of_lt (Nat.lt_of_lt_of_le V33.lt vt41)
  have ch42 : ∀ t, Steps p.tables e below (T41.setTop (mkF m 141 #[.val (.int p1), .val (.int p2), .val (.int p3), .val (.int c1), .val (.int c2), .val (.int d1), .val (.int d2), .val (.int x1), .val (.int y1), .val (.int x2), .val (.int y2), .val (.int (2 : Int32)), .unset, .unset, .unset] [(.ref b27), (.ref b25), (.ref b25)])) t → Steps p.tables e below (s₁.setTop (entryFrame m #[(.int p1), (.int p2), (.int p3)] maxLocals)) t := fun t k => ch34 t (by
      show Steps p.tables e below (T33.setTop (mkF m 138 #[.val (.int p1), .val (.int p2), .val (.int p3), .val (.int c1), .val (.int c2), .val (.int d1), .val (.int d2), .val (.int x1), .val (.int y1), .val (.int x2), .val (.int y2), .val (.int (2 : Int32)), .unset, .unset, .unset] [(.ref b29), (.ref b27), (.ref b27), (.ref b25), (.ref b25)])) t
      exact st41.trans k)
  obtain ⟨T43, hp43, X43, e43, E43, A43, D43, -, st43⟩ := newO X41 hx hZ hown (hw _ (List.mem_of_getElem? (i := 3) rfl)) (hw _ (List.mem_of_getElem? (i := 4) rfl)) (hw _ (List.mem_of_getElem? (i := 5) rfl)) eh41 (g := (mkF m 141 #[.val (.int p1), .val (.int p2), .val (.int p3), .val (.int c1), .val (.int c2), .val (.int d1), .val (.int d2), .val (.int x1), .val (.int y1), .val (.int x2), .val (.int y2), .val (.int (2 : Int32)), .unset, .unset, .unset] [(.ref b27), (.ref b25), (.ref b25)])) rfl (hb hby at_141) (by decide) (by decide)
  obtain ⟨b43, g43⟩ : ∃ z, z = hh41.size := ⟨_, rfl⟩
  rw [← g43] at A43 D43 st43
  have cf44 := (cf40.keep Kq41)
  have ne_b25_b43 : b25 ≠ b43 := Nat.ne_of_lt (Nat.lt_of_lt_of_le cf44.lt (Nat.le_of_eq g43.symm))
  have ne_b27_b43 : b27 ≠ b43 := Nat.ne_of_lt (Nat.lt_of_lt_of_le fq41_0.lt (Nat.le_of_eq g43.symm))
  have cf45 := (V33.keep Kq41 (ninS (Ne.symm ne_b27_b29) nin0))
  have ne_b29_b43 : b29 ≠ b43 := Nat.ne_of_lt (Nat.lt_of_lt_of_le cf45.lt (Nat.le_of_eq g43.symm))
  have ne_tb41_b43 : tb41 ≠ b43 := Nat.ne_of_lt (Nat.lt_of_lt_of_le av41.lt (Nat.le_of_eq g43.symm))
  have g_b43 : n0 ≤ b43 := Nat.le_trans (Nat.le_trans Z0 Kp41.1) (Nat.le_of_eq g43.symm)
  have sz_b43 : h0.size ≤ b43 := Nat.le_trans Kp41.1 (Nat.le_of_eq g43.symm)
  have hk := Nat.le_trans hk E43.1
  have Kp43 := Keep.ext Kp41 E43
  have F43_30 : Fld Z hp43 b43 "java/lang/String" "coder" "B" (.int (0 : Int32)) := D43 (Or.inr (hw _ (List.mem_of_getElem? (i := 30) rfl))) (ty := .byte) (by decide)
  have F43_32 : Fld Z hp43 b43 "java/lang/String" "value" "[B" .null := D43 (Or.inr (hw _ (List.mem_of_getElem? (i := 32) rfl))) (ty := (.array .byte)) (by decide)
  have ch46 : ∀ t, Steps p.tables e below (T43.setTop (mkF m 144 #[.val (.int p1), .val (.int p2), .val (.int p3), .val (.int c1), .val (.int c2), .val (.int d1), .val (.int d2), .val (.int x1), .val (.int y1), .val (.int x2), .val (.int y2), .val (.int (2 : Int32)), .unset, .unset, .unset] [(.ref b43), (.ref b27), (.ref b25), (.ref b25)])) t → Steps p.tables e below (s₁.setTop (entryFrame m #[(.int p1), (.int p2), (.int p3)] maxLocals)) t := fun t k => ch42 t (by
      show Steps p.tables e below (T41.setTop (mkF m 141 #[.val (.int p1), .val (.int p2), .val (.int p3), .val (.int c1), .val (.int c2), .val (.int d1), .val (.int d2), .val (.int x1), .val (.int y1), .val (.int x2), .val (.int y2), .val (.int (2 : Int32)), .unset, .unset, .unset] [(.ref b27), (.ref b25), (.ref b25)])) t
      exact st43 t k)
  obtain ⟨T47, hp47, k47, X47, e47, E47, A47, st47⟩ := newP X43 hx hZ (hw _ (List.mem_of_getElem? (i := 6) rfl)) e43 (g := (mkF m 146 #[.val (.int p1), .val (.int p2), .val (.int p3), .val (.int c1), .val (.int c2), .val (.int d1), .val (.int d2), .val (.int x1), .val (.int y1), .val (.int x2), .val (.int y2), .val (.int (2 : Int32)), .unset, .unset, .unset] [(.int (1 : Int32)), (.ref b43), (.ref b43), (.ref b27), (.ref b25), (.ref b25)])) rfl (hb hby at_146) rfl (by decide) (cap := 1) (by decide) (by decide) (by decide) (by decide)
  obtain ⟨b47, g47⟩ : ∃ z, z = hp43.size := ⟨_, rfl⟩
  rw [← g47] at A47 st47
  have cf48 := (cf44.ext E43)
  have ne_b25_b47 : b25 ≠ b47 := Nat.ne_of_lt (Nat.lt_of_lt_of_le cf48.lt (Nat.le_of_eq g47.symm))
  have cf49 := (fq41_0.ext E43)
  have ne_b27_b47 : b27 ≠ b47 := Nat.ne_of_lt (Nat.lt_of_lt_of_le cf49.lt (Nat.le_of_eq g47.symm))
  have cf50 := (cf45.ext E43)
  have ne_b29_b47 : b29 ≠ b47 := Nat.ne_of_lt (Nat.lt_of_lt_of_le cf50.lt (Nat.le_of_eq g47.symm))
  have cf51 := (av41.ext E43)
  have ne_tb41_b47 : tb41 ≠ b47 := Nat.ne_of_lt (Nat.lt_of_lt_of_le cf51.lt (Nat.le_of_eq g47.symm))
  have ne_b43_b47 : b43 ≠ b47 := Nat.ne_of_lt (Nat.lt_of_lt_of_le A43.lt (Nat.le_of_eq g47.symm))
  have g_b47 : n0 ≤ b47 := Nat.le_trans (Nat.le_trans Z0 Kp43.1) (Nat.le_of_eq g47.symm)
  have sz_b47 : h0.size ≤ b47 := Nat.le_trans Kp43.1 (Nat.le_of_eq g47.symm)
  have hk := Nat.le_trans hk E47.1
  have Kp47 := Keep.ext Kp43 E47
  have V47 : Arv Z hp47 b47 k47 .char (1 : Int32) [(.int (0 : Int32))] (.int (0 : Int32)) := (Arv.new A47 (by decide)).pad (pad_rep [] (.int (0 : Int32)) 1)
  have ch52 : ∀ t, Steps p.tables e below (T47.setTop (mkF m 148 #[.val (.int p1), .val (.int p2), .val (.int p3), .val (.int c1), .val (.int c2), .val (.int d1), .val (.int d2), .val (.int x1), .val (.int y1), .val (.int x2), .val (.int y2), .val (.int (2 : Int32)), .unset, .unset, .unset] [(.ref b47), (.ref b43), (.ref b43), (.ref b27), (.ref b25), (.ref b25)])) t → Steps p.tables e below (s₁.setTop (entryFrame m #[(.int p1), (.int p2), (.int p3)] maxLocals)) t := fun t k => ch46 t (by
      show Steps p.tables e below (T43.setTop (mkF m 144 #[.val (.int p1), .val (.int p2), .val (.int p3), .val (.int c1), .val (.int c2), .val (.int d1), .val (.int d2), .val (.int x1), .val (.int y1), .val (.int x2), .val (.int y2), .val (.int (2 : Int32)), .unset, .unset, .unset] [(.ref b43), (.ref b27), (.ref b25), (.ref b25)])) t
      refine XS.dup X43.here hx rfl (hb hby at_144) rfl rfl ?_
      show Steps p.tables e below (T43.setTop (mkF m 145 #[.val (.int p1), .val (.int p2), .val (.int p3), .val (.int c1), .val (.int c2), .val (.int d1), .val (.int d2), .val (.int x1), .val (.int y1), .val (.int x2), .val (.int y2), .val (.int (2 : Int32)), .unset, .unset, .unset] [(.ref b43), (.ref b43), (.ref b27), (.ref b25), (.ref b25)])) t
      refine XS.iconst X43.here hx rfl (hb hby at_145) ?_
      show Steps p.tables e below (T43.setTop (mkF m 146 #[.val (.int p1), .val (.int p2), .val (.int p3), .val (.int c1), .val (.int c2), .val (.int d1), .val (.int d2), .val (.int x1), .val (.int y1), .val (.int x2), .val (.int y2), .val (.int (2 : Int32)), .unset, .unset, .unset] [(.int (1 : Int32)), (.ref b43), (.ref b43), (.ref b27), (.ref b25), (.ref b25)])) t
      exact st47 t k)
  obtain ⟨cl53, Ar53, qq53, Sz53, Ng53, Ha53, Ga53⟩ := id V47
  have hin53 : ¬ ((0 : Int32) < 0 ∨ cl53.slots.size ≤ ((0 : Int32)).toNatClampNeg) := inb_of Sz53 (by decide)
  obtain ⟨T54, hp54, X54, e54, W54, st54⟩ := stC X47 hx hZ e47 Ar53 (j := (0 : Int32)) hin53 (g := (mkF m 152 #[.val (.int p1), .val (.int p2), .val (.int p3), .val (.int c1), .val (.int c2), .val (.int d1), .val (.int d2), .val (.int x1), .val (.int y1), .val (.int x2), .val (.int y2), .val (.int (2 : Int32)), .unset, .unset, .unset] [(.int d1), (.int (0 : Int32)), (.ref b47), (.ref b47), (.ref b43), (.ref b43), (.ref b27), (.ref b25), (.ref b25)])) rfl rfl (hb hby at_152)
  have ch55 : ∀ t, Steps p.tables e below (T54.setTop (mkF m 153 #[.val (.int p1), .val (.int p2), .val (.int p3), .val (.int c1), .val (.int c2), .val (.int d1), .val (.int d2), .val (.int x1), .val (.int y1), .val (.int x2), .val (.int y2), .val (.int (2 : Int32)), .unset, .unset, .unset] [(.ref b47), (.ref b43), (.ref b43), (.ref b27), (.ref b25), (.ref b25)])) t → Steps p.tables e below (s₁.setTop (entryFrame m #[(.int p1), (.int p2), (.int p3)] maxLocals)) t := fun t k => ch52 t (by
      show Steps p.tables e below (T47.setTop (mkF m 148 #[.val (.int p1), .val (.int p2), .val (.int p3), .val (.int c1), .val (.int c2), .val (.int d1), .val (.int d2), .val (.int x1), .val (.int y1), .val (.int x2), .val (.int y2), .val (.int (2 : Int32)), .unset, .unset, .unset] [(.ref b47), (.ref b43), (.ref b43), (.ref b27), (.ref b25), (.ref b25)])) t
      refine XS.dup X47.here hx rfl (hb hby at_148) rfl rfl ?_
      show Steps p.tables e below (T47.setTop (mkF m 149 #[.val (.int p1), .val (.int p2), .val (.int p3), .val (.int c1), .val (.int c2), .val (.int d1), .val (.int d2), .val (.int x1), .val (.int y1), .val (.int x2), .val (.int y2), .val (.int (2 : Int32)), .unset, .unset, .unset] [(.ref b47), (.ref b47), (.ref b43), (.ref b43), (.ref b27), (.ref b25), (.ref b25)])) t
      refine XS.iconst X47.here hx rfl (hb hby at_149) ?_
      show Steps p.tables e below (T47.setTop (mkF m 150 #[.val (.int p1), .val (.int p2), .val (.int p3), .val (.int c1), .val (.int c2), .val (.int d1), .val (.int d2), .val (.int x1), .val (.int y1), .val (.int x2), .val (.int y2), .val (.int (2 : Int32)), .unset, .unset, .unset] [(.int (0 : Int32)), (.ref b47), (.ref b47), (.ref b43), (.ref b43), (.ref b27), (.ref b25), (.ref b25)])) t
      refine XS.iload X47.here hx rfl (hb hby at_150) rfl ?_
      show Steps p.tables e below (T47.setTop (mkF m 152 #[.val (.int p1), .val (.int p2), .val (.int p3), .val (.int c1), .val (.int c2), .val (.int d1), .val (.int d2), .val (.int x1), .val (.int y1), .val (.int x2), .val (.int y2), .val (.int (2 : Int32)), .unset, .unset, .unset] [(.int d1), (.int (0 : Int32)), (.ref b47), (.ref b47), (.ref b43), (.ref b43), (.ref b27), (.ref b25), (.ref b25)])) t
      exact st54 t k)
  have V54 : Arv Z hp54 b47 k47 .char (1 : Int32) [(.int (nar .char d1))] (.int (0 : Int32)) := Arv.set Ar53 qq53 Sz53 Ng53 Ha53 Ga53 (fits_nar_char _) W54 0 rfl (Nat.le_of_ble_eq_true rfl)
  rw [own_narc hx_d1] at V54
  have hk := Nat.le_trans hk (Keep.of_wr W54).1
  have N54 := Fr.snoc X54 N41 g_b47
  have Kp54 := Keep.wr Kp47 W54 (Or.inr sz_b47)
  have hp56 : ∀ c ∈ ([d1] : List Int32), ¬ c < 0 ∧ ¬ (255 : Int32) < c := by
    intro c hc
    simp only [List.mem_cons, List.not_mem_nil, or_false] at hc
    rcases hc with rfl
    · exact hx_d1
  have cf57 := (Exa.wr W54 (A43.ext E47))
  have cf58 := (Fld.other W54 (F43_32.ext E47) (Or.inl ne_b43_b47))
  have cf59 := (Fld.other W54 (F43_30.ext E47) (Or.inl ne_b43_b47))
  have cf60 := ((((own_sta_keep cf39 Kq41 (allS (fun c hc => own_exa_plain cf36 c hc) all0)).ext E43).ext E47).wr W54)
  have cf61 := (Exa.wr W54 (cf48.ext E47))
  have cf62 := (Exa.wr W54 (cf49.ext E47))
  have cf63 := ((cf50.ext E47).other W54 ne_b29_b47)
  have cf64 := ((cf51.ext E47).other W54 ne_tb41_b47)
  obtain ⟨vv65, _, ⟨T65, L65, kk65, nn65⟩, -, X65, ⟨Lc65, hQ65, l65, y65, z65⟩, st65⟩ := X54.specialBack hx (y := (⟨"java/lang/String", "<init>", "([C)V"⟩ : MethodName)) rfl hown (mvT hZ (hw _ (List.mem_of_getElem? (i := 7) rfl))) (mvT hZ (hw _ (List.mem_of_getElem? (i := 8) rfl))) (mvT hZ (hw _ (List.mem_of_getElem? (i := 9) rfl))) (by decide) (StrChars.Road.backV (W := 4) hZ (own_words hw) (kI := 4) (hw _ (List.mem_of_getElem? (i := 4) rfl)) (cs := ([d1] : List Int32)) (bs := (([d1] : List Int32)).map (fun c => c.toInt8.toInt32)) (n := 1) g_b43 (Nat.le_trans Z0 Kp54.1) cf57 cf58 cf59 V54 cf60 P5 rfl rfl (by decide) (by decide) hp56 rfl (by decide) (by decide)) (g := (mkF m 153 #[.val (.int p1), .val (.int p2), .val (.int p3), .val (.int c1), .val (.int c2), .val (.int d1), .val (.int d2), .val (.int x1), .val (.int y1), .val (.int x2), .val (.int y2), .val (.int (2 : Int32)), .unset, .unset, .unset] [(.ref b47), (.ref b43), (.ref b43), (.ref b27), (.ref b25), (.ref b25)])) rfl (by rw [hml]; rfl) (Steps.refl _) (a := b43) (argsL := [(.ref b47)]) (rest := [(.ref b43), (.ref b27), (.ref b25), (.ref b25)]) (lenOf own_pd___C_V rfl) rfl (by show 2 * 0 + _ ≤ _; exact Nat.le_of_eq rfl) (hb hby at_153) (fun _ _ => ⟨rfl, e54, (by decide : 6 + 1 ≤ _), (by decide : 15 + 1 ≤ _)⟩)
  dsimp only [Pt.U, Pt.locs, Pt.cells, Pt.slots] at X65 l65 y65 z65 st65 hQ65
  subst l65 y65 z65
  obtain ⟨hh65, eh65⟩ : ∃ h, T65.heap = h := ⟨_, rfl⟩
  rw [eh65] at hQ65
  obtain ⟨rfl, Nq65, Kq65, fq65_0, fq65_1⟩ := hQ65
  have N65 := Fr.app N54 Nq65
  have hk := Nat.le_trans hk Kq65.1
  have Kp65 := Keep.trans Kp54 Kq65 (allS (Or.inr sz_b43) all0)
  obtain ⟨fc65, tb65, kb65, ut65, vt65, wt65, fv65, av65⟩ := fq65_1
  have ne_b25_tb65 : b25 ≠ tb65 := Nat.ne_of_lt (Nat.lt_of_lt_of_le cf61.lt vt65)
  have ne_b27_tb65 : b27 ≠ tb65 := Nat.ne_of_lt (Nat.lt_of_lt_of_le cf62.lt vt65)
  have ne_b29_tb65 : b29 ≠ tb65 := Nat.ne_of_lt (Nat.lt_of_lt_of_le cf63.lt vt65)
  have ne_tb41_tb65 : tb41 ≠ tb65 := Nat.ne_of_lt (Nat.lt_of_lt_of_le cf64.lt vt65)
  have ne_b43_tb65 : b43 ≠ tb65 := Nat.ne_of_lt (Nat.lt_of_lt_of_le cf57.lt vt65)
  have ne_b47_tb65 : b47 ≠ tb65 := Nat.ne_of_lt (Nat.lt_of_lt_of_le V54.lt vt65)
  have ch66 : ∀ t, Steps p.tables e below (T65.setTop (mkF m 156 #[.val (.int p1), .val (.int p2), .val (.int p3), .val (.int c1), .val (.int c2), .val (.int d1), .val (.int d2), .val (.int x1), .val (.int y1), .val (.int x2), .val (.int y2), .val (.int (2 : Int32)), .unset, .unset, .unset] [(.ref b43), (.ref b27), (.ref b25), (.ref b25)])) t → Steps p.tables e below (s₁.setTop (entryFrame m #[(.int p1), (.int p2), (.int p3)] maxLocals)) t := fun t k => ch55 t (by
      show Steps p.tables e below (T54.setTop (mkF m 153 #[.val (.int p1), .val (.int p2), .val (.int p3), .val (.int c1), .val (.int c2), .val (.int d1), .val (.int d2), .val (.int x1), .val (.int y1), .val (.int x2), .val (.int y2), .val (.int (2 : Int32)), .unset, .unset, .unset] [(.ref b47), (.ref b43), (.ref b43), (.ref b27), (.ref b25), (.ref b25)])) t
      exact st65.trans k)
  have cf67 := (cf61.keep Kq65)
  have cf68 := ((Fld.other W54 ((((Fld.other W33 ((F25_46.ext E27).ext E29) (Or.inl ne_b25_b29)).keep Kq41 (ninS ne_b25_b27 nin0)).ext E43).ext E47) (Or.inl ne_b25_b47)).keep Kq65 (ninS ne_b25_b43 nin0))
  have cf69 := ((Fld.other W54 ((((Fld.other W33 ((F25_49.ext E27).ext E29) (Or.inl ne_b25_b29)).keep Kq41 (ninS ne_b25_b27 nin0)).ext E43).ext E47) (Or.inl ne_b25_b47)).keep Kq65 (ninS ne_b25_b43 nin0))
  have cf70 := ((Fld.other W54 ((((Fld.other W33 ((F25_51.ext E27).ext E29) (Or.inl ne_b25_b29)).keep Kq41 (ninS ne_b25_b27 nin0)).ext E43).ext E47) (Or.inl ne_b25_b47)).keep Kq65 (ninS ne_b25_b43 nin0))
  have cf71 := ((Fld.other W54 ((((Fld.other W33 ((F25_53.ext E27).ext E29) (Or.inl ne_b25_b29)).keep Kq41 (ninS ne_b25_b27 nin0)).ext E43).ext E47) (Or.inl ne_b25_b47)).keep Kq65 (ninS ne_b25_b43 nin0))
  have cf72 := (cf62.keep Kq65)
  obtain ⟨vv73, _, ⟨T73, L73, kk73, nn73⟩, -, X73, hS2, hgr, ⟨Lc73, hQ73, l73, y73, z73⟩, st73⟩ := X65.specialBackS hx (y := (⟨"com/example/nokkel/nokkel/core/ClientRecord", "<init>", "(Ljava/lang/String;Ljava/lang/String;ZZ)V"⟩ : MethodName)) rfl hown (mvT hZ (hw _ (List.mem_of_getElem? (i := 33) rfl))) (mvT hZ (hw _ (List.mem_of_getElem? (i := 34) rfl))) (mvT hZ (hw _ (List.mem_of_getElem? (i := 35) rfl))) (by decide) (backOfS (W := 1) (own_ini l Z a0 hw [] hh65 n0 (Nat.le_trans Z0 Kp65.1) b25 b27 b43 x1 y1 cf67 cf68 cf69 cf70 cf71 g_b25 cf72 fq65_0 hx_x1 hx_y1) hZ (hw _ (List.mem_of_getElem? (i := 35) rfl)) (hw _ (List.mem_of_getElem? (i := 2) rfl)) (by decide) (by decide)) (g := (mkF m 160 #[.val (.int p1), .val (.int p2), .val (.int p3), .val (.int c1), .val (.int c2), .val (.int d1), .val (.int d2), .val (.int x1), .val (.int y1), .val (.int x2), .val (.int y2), .val (.int (2 : Int32)), .unset, .unset, .unset] [(.int y1), (.int x1), (.ref b43), (.ref b27), (.ref b25), (.ref b25)])) rfl (by rw [hml]; rfl) (Steps.refl _) (a := b25) (argsL := [(.ref b27), (.ref b43), (.int x1), (.int y1)]) (rest := [(.ref b25)]) (lenOf own_pd__Ljava_lang_String_Ljava_lang_String_ZZ_V rfl) rfl (by show 2 * 0 + _ ≤ _; exact Nat.le_of_eq rfl) (hb hby at_160) (fun _ _ => ⟨rfl, eh65, (by decide : 7 + 4 ≤ _), (by decide : 16 + 60 ≤ _)⟩)
  dsimp only [Pt.U, Pt.locs, Pt.cells, Pt.slots] at X73 l73 y73 z73 st73 hQ73 hS2 hgr
  subst l73 y73 z73
  obtain ⟨X73, hS, hZ, hown⟩ := rebS hS (by rw [eh65]; exact hk) X73 hS2 hgr hZ hown
  obtain ⟨hh73, eh73⟩ : ∃ h, T73.heap = h := ⟨_, rfl⟩
  rw [eh73] at hQ73
  rw [eh73] at hS
  have hk : hh73.size ≤ hh73.size := Nat.le_refl _
  obtain ⟨rfl, Nq73, Kq73, fq73_0, fq73_1, fq73_2, fq73_3, fq73_4⟩ := hQ73
  have N73 := Fr.app N65 Nq73
  have Kp73 := Keep.trans Kp65 Kq73 (allS (Or.inr sz_b25) all0)
  have ch74 : ∀ t, Steps p.tables e below (T73.setTop (mkF m 163 #[.val (.int p1), .val (.int p2), .val (.int p3), .val (.int c1), .val (.int c2), .val (.int d1), .val (.int d2), .val (.int x1), .val (.int y1), .val (.int x2), .val (.int y2), .val (.int (2 : Int32)), .unset, .unset, .unset] [(.ref b25)])) t → Steps p.tables e below (s₁.setTop (entryFrame m #[(.int p1), (.int p2), (.int p3)] maxLocals)) t := fun t k => ch66 t (by
      show Steps p.tables e below (T65.setTop (mkF m 156 #[.val (.int p1), .val (.int p2), .val (.int p3), .val (.int c1), .val (.int c2), .val (.int d1), .val (.int d2), .val (.int x1), .val (.int y1), .val (.int x2), .val (.int y2), .val (.int (2 : Int32)), .unset, .unset, .unset] [(.ref b43), (.ref b27), (.ref b25), (.ref b25)])) t
      refine XS.iload X65.here hx rfl (hb hby at_156) rfl ?_
      show Steps p.tables e below (T65.setTop (mkF m 158 #[.val (.int p1), .val (.int p2), .val (.int p3), .val (.int c1), .val (.int c2), .val (.int d1), .val (.int d2), .val (.int x1), .val (.int y1), .val (.int x2), .val (.int y2), .val (.int (2 : Int32)), .unset, .unset, .unset] [(.int x1), (.ref b43), (.ref b27), (.ref b25), (.ref b25)])) t
      refine XS.iload X65.here hx rfl (hb hby at_158) rfl ?_
      show Steps p.tables e below (T65.setTop (mkF m 160 #[.val (.int p1), .val (.int p2), .val (.int p3), .val (.int c1), .val (.int c2), .val (.int d1), .val (.int d2), .val (.int x1), .val (.int y1), .val (.int x2), .val (.int y2), .val (.int (2 : Int32)), .unset, .unset, .unset] [(.int y1), (.int x1), (.ref b43), (.ref b27), (.ref b25), (.ref b25)])) t
      exact st73.trans k)
  obtain ⟨T75, hp75, X75, e75, E75, A75, D75, -, st75⟩ := newO X73 hx hZ hown (hw _ (List.mem_of_getElem? (i := 3) rfl)) (hw _ (List.mem_of_getElem? (i := 4) rfl)) (hw _ (List.mem_of_getElem? (i := 5) rfl)) eh73 (g := (mkF m 271 #[.val (.int p1), .val (.int p2), .val (.int p3), .val (.int c1), .val (.int c2), .val (.int d1), .val (.int d2), .val (.int x1), .val (.int y1), .val (.int x2), .val (.int y2), .val (.int (2 : Int32)), .val (.ref b25), .unset, .unset] [])) rfl (hb hby at_271) (by decide) (by decide)
  obtain ⟨b75, g75⟩ : ∃ z, z = hh73.size := ⟨_, rfl⟩
  rw [← g75] at A75 D75 st75
  have ne_b25_b75 : b25 ≠ b75 := Nat.ne_of_lt (Nat.lt_of_lt_of_le fq73_0.lt (Nat.le_of_eq g75.symm))
  have cf76 := (cf72.keep Kq73)
  have ne_b27_b75 : b27 ≠ b75 := Nat.ne_of_lt (Nat.lt_of_lt_of_le cf76.lt (Nat.le_of_eq g75.symm))
  have cf77 := ((cf63.keep Kq65 (ninS ne_b29_b43 nin0)).keep Kq73 (ninS (Ne.symm ne_b25_b29) nin0))
  have ne_b29_b75 : b29 ≠ b75 := Nat.ne_of_lt (Nat.lt_of_lt_of_le cf77.lt (Nat.le_of_eq g75.symm))
  have cf78 := ((cf64.keep Kq65 (ninS ne_tb41_b43 nin0)).keep Kq73 (ninS (Ne.symm ne_b25_tb41) nin0))
  have ne_tb41_b75 : tb41 ≠ b75 := Nat.ne_of_lt (Nat.lt_of_lt_of_le cf78.lt (Nat.le_of_eq g75.symm))
  have cf79 := (fq65_0.keep Kq73)
  have ne_b43_b75 : b43 ≠ b75 := Nat.ne_of_lt (Nat.lt_of_lt_of_le cf79.lt (Nat.le_of_eq g75.symm))
  have cf80 := ((V54.keep Kq65 (ninS (Ne.symm ne_b43_b47) nin0)).keep Kq73 (ninS (Ne.symm ne_b25_b47) nin0))
  have ne_b47_b75 : b47 ≠ b75 := Nat.ne_of_lt (Nat.lt_of_lt_of_le cf80.lt (Nat.le_of_eq g75.symm))
  have cf81 := (av65.keep Kq73 (ninS (Ne.symm ne_b25_tb65) nin0))
  have ne_tb65_b75 : tb65 ≠ b75 := Nat.ne_of_lt (Nat.lt_of_lt_of_le cf81.lt (Nat.le_of_eq g75.symm))
  have g_b75 : n0 ≤ b75 := Nat.le_trans (Nat.le_trans Z0 Kp73.1) (Nat.le_of_eq g75.symm)
  have sz_b75 : h0.size ≤ b75 := Nat.le_trans Kp73.1 (Nat.le_of_eq g75.symm)
  have hk := Nat.le_trans hk E75.1
  have Kp75 := Keep.ext Kp73 E75
  have F75_30 : Fld Z hp75 b75 "java/lang/String" "coder" "B" (.int (0 : Int32)) := D75 (Or.inr (hw _ (List.mem_of_getElem? (i := 30) rfl))) (ty := .byte) (by decide)
  have F75_32 : Fld Z hp75 b75 "java/lang/String" "value" "[B" .null := D75 (Or.inr (hw _ (List.mem_of_getElem? (i := 32) rfl))) (ty := (.array .byte)) (by decide)
  have ch82 : ∀ t, Steps p.tables e below (T75.setTop (mkF m 274 #[.val (.int p1), .val (.int p2), .val (.int p3), .val (.int c1), .val (.int c2), .val (.int d1), .val (.int d2), .val (.int x1), .val (.int y1), .val (.int x2), .val (.int y2), .val (.int (2 : Int32)), .val (.ref b25), .unset, .unset] [(.ref b75)])) t → Steps p.tables e below (s₁.setTop (entryFrame m #[(.int p1), (.int p2), (.int p3)] maxLocals)) t := fun t k => ch74 t (by
      show Steps p.tables e below (T73.setTop (mkF m 163 #[.val (.int p1), .val (.int p2), .val (.int p3), .val (.int c1), .val (.int c2), .val (.int d1), .val (.int d2), .val (.int x1), .val (.int y1), .val (.int x2), .val (.int y2), .val (.int (2 : Int32)), .unset, .unset, .unset] [(.ref b25)])) t
      refine XS.astore X73.here hx rfl (hb hby at_163) rfl rfl (l' := #[.val (.int p1), .val (.int p2), .val (.int p3), .val (.int c1), .val (.int c2), .val (.int d1), .val (.int d2), .val (.int x1), .val (.int y1), .val (.int x2), .val (.int y2), .val (.int (2 : Int32)), .val (.ref b25), .unset, .unset]) rfl ?_
      show Steps p.tables e below (T73.setTop (mkF m 165 #[.val (.int p1), .val (.int p2), .val (.int p3), .val (.int c1), .val (.int c2), .val (.int d1), .val (.int d2), .val (.int x1), .val (.int y1), .val (.int x2), .val (.int y2), .val (.int (2 : Int32)), .val (.ref b25), .unset, .unset] [])) t
      refine XS.iload X73.here hx rfl (hb hby at_165) rfl ?_
      show Steps p.tables e below (T73.setTop (mkF m 167 #[.val (.int p1), .val (.int p2), .val (.int p3), .val (.int c1), .val (.int c2), .val (.int d1), .val (.int d2), .val (.int x1), .val (.int y1), .val (.int x2), .val (.int y2), .val (.int (2 : Int32)), .val (.ref b25), .unset, .unset] [(.int (2 : Int32))])) t
      refine XS.ifYes X73.here hx rfl (pc0 := 167) (pc' := 250) rfl (hb hby at_167) rfl ((if0 _ _).trans (feq (by decide : ¬ (2 : Int32) = (0 : Int32))).2) (by decide) (by decide) ?_
      show Steps p.tables e below (T73.setTop (mkF m 250 #[.val (.int p1), .val (.int p2), .val (.int p3), .val (.int c1), .val (.int c2), .val (.int d1), .val (.int d2), .val (.int x1), .val (.int y1), .val (.int x2), .val (.int y2), .val (.int (2 : Int32)), .val (.ref b25), .unset, .unset] [])) t
      refine XS.iload X73.here hx rfl (hb hby at_250) rfl ?_
      show Steps p.tables e below (T73.setTop (mkF m 252 #[.val (.int p1), .val (.int p2), .val (.int p3), .val (.int c1), .val (.int c2), .val (.int d1), .val (.int d2), .val (.int x1), .val (.int y1), .val (.int x2), .val (.int y2), .val (.int (2 : Int32)), .val (.ref b25), .unset, .unset] [(.int (2 : Int32))])) t
      refine XS.iconst X73.here hx rfl (hb hby at_252) ?_
      show Steps p.tables e below (T73.setTop (mkF m 253 #[.val (.int p1), .val (.int p2), .val (.int p3), .val (.int c1), .val (.int c2), .val (.int d1), .val (.int d2), .val (.int x1), .val (.int y1), .val (.int x2), .val (.int y2), .val (.int (2 : Int32)), .val (.ref b25), .unset, .unset] [(.int (1 : Int32)), (.int (2 : Int32))])) t
      refine XS.icmpYes X73.here hx rfl (pc0 := 253) (pc' := 265) rfl (hb hby at_253) rfl (feq (by decide : ¬ (2 : Int32) = (1 : Int32))).2 (by decide) (by decide) ?_
      show Steps p.tables e below (T73.setTop (mkF m 265 #[.val (.int p1), .val (.int p2), .val (.int p3), .val (.int c1), .val (.int c2), .val (.int d1), .val (.int d2), .val (.int x1), .val (.int y1), .val (.int x2), .val (.int y2), .val (.int (2 : Int32)), .val (.ref b25), .unset, .unset] [])) t
      refine XS.iload X73.here hx rfl (hb hby at_265) rfl ?_
      show Steps p.tables e below (T73.setTop (mkF m 267 #[.val (.int p1), .val (.int p2), .val (.int p3), .val (.int c1), .val (.int c2), .val (.int d1), .val (.int d2), .val (.int x1), .val (.int y1), .val (.int x2), .val (.int y2), .val (.int (2 : Int32)), .val (.ref b25), .unset, .unset] [(.int (2 : Int32))])) t
      refine XS.iconst X73.here hx rfl (hb hby at_267) ?_
      show Steps p.tables e below (T73.setTop (mkF m 268 #[.val (.int p1), .val (.int p2), .val (.int p3), .val (.int c1), .val (.int c2), .val (.int d1), .val (.int d2), .val (.int x1), .val (.int y1), .val (.int x2), .val (.int y2), .val (.int (2 : Int32)), .val (.ref b25), .unset, .unset] [(.int (2 : Int32)), (.int (2 : Int32))])) t
      refine XS.icmpNo X73.here hx rfl (hb hby at_268) rfl (teq (by decide : (2 : Int32) = (2 : Int32))).2 ?_
      show Steps p.tables e below (T73.setTop (mkF m 271 #[.val (.int p1), .val (.int p2), .val (.int p3), .val (.int c1), .val (.int c2), .val (.int d1), .val (.int d2), .val (.int x1), .val (.int y1), .val (.int x2), .val (.int y2), .val (.int (2 : Int32)), .val (.ref b25), .unset, .unset] [])) t
      exact st75 t k)
  obtain ⟨T83, hp83, k83, X83, e83, E83, A83, st83⟩ := newP X75 hx hZ (hw _ (List.mem_of_getElem? (i := 6) rfl)) e75 (g := (mkF m 276 #[.val (.int p1), .val (.int p2), .val (.int p3), .val (.int c1), .val (.int c2), .val (.int d1), .val (.int d2), .val (.int x1), .val (.int y1), .val (.int x2), .val (.int y2), .val (.int (2 : Int32)), .val (.ref b25), .unset, .unset] [(.int (1 : Int32)), (.ref b75), (.ref b75)])) rfl (hb hby at_276) rfl (by decide) (cap := 1) (by decide) (by decide) (by decide) (by decide)
  obtain ⟨b83, g83⟩ : ∃ z, z = hp75.size := ⟨_, rfl⟩
  rw [← g83] at A83 st83
  have cf84 := (fq73_0.ext E75)
  have ne_b25_b83 : b25 ≠ b83 := Nat.ne_of_lt (Nat.lt_of_lt_of_le cf84.lt (Nat.le_of_eq g83.symm))
  have cf85 := (cf76.ext E75)
  have ne_b27_b83 : b27 ≠ b83 := Nat.ne_of_lt (Nat.lt_of_lt_of_le cf85.lt (Nat.le_of_eq g83.symm))
  have cf86 := (cf77.ext E75)
  have ne_b29_b83 : b29 ≠ b83 := Nat.ne_of_lt (Nat.lt_of_lt_of_le cf86.lt (Nat.le_of_eq g83.symm))
  have cf87 := (cf78.ext E75)
  have ne_tb41_b83 : tb41 ≠ b83 := Nat.ne_of_lt (Nat.lt_of_lt_of_le cf87.lt (Nat.le_of_eq g83.symm))
  have cf88 := (cf79.ext E75)
  have ne_b43_b83 : b43 ≠ b83 := Nat.ne_of_lt (Nat.lt_of_lt_of_le cf88.lt (Nat.le_of_eq g83.symm))
  have cf89 := (cf80.ext E75)
  have ne_b47_b83 : b47 ≠ b83 := Nat.ne_of_lt (Nat.lt_of_lt_of_le cf89.lt (Nat.le_of_eq g83.symm))
  have cf90 := (cf81.ext E75)
  have ne_tb65_b83 : tb65 ≠ b83 := Nat.ne_of_lt (Nat.lt_of_lt_of_le cf90.lt (Nat.le_of_eq g83.symm))
  have ne_b75_b83 : b75 ≠ b83 := Nat.ne_of_lt (Nat.lt_of_lt_of_le A75.lt (Nat.le_of_eq g83.symm))
  have g_b83 : n0 ≤ b83 := Nat.le_trans (Nat.le_trans Z0 Kp75.1) (Nat.le_of_eq g83.symm)
  have sz_b83 : h0.size ≤ b83 := Nat.le_trans Kp75.1 (Nat.le_of_eq g83.symm)
  have hk := Nat.le_trans hk E83.1
  have Kp83 := Keep.ext Kp75 E83
  have V83 : Arv Z hp83 b83 k83 .char (1 : Int32) [(.int (0 : Int32))] (.int (0 : Int32)) := (Arv.new A83 (by decide)).pad (pad_rep [] (.int (0 : Int32)) 1)
  have ch91 : ∀ t, Steps p.tables e below (T83.setTop (mkF m 278 #[.val (.int p1), .val (.int p2), .val (.int p3), .val (.int c1), .val (.int c2), .val (.int d1), .val (.int d2), .val (.int x1), .val (.int y1), .val (.int x2), .val (.int y2), .val (.int (2 : Int32)), .val (.ref b25), .unset, .unset] [(.ref b83), (.ref b75), (.ref b75)])) t → Steps p.tables e below (s₁.setTop (entryFrame m #[(.int p1), (.int p2), (.int p3)] maxLocals)) t := fun t k => ch82 t (by
      show Steps p.tables e below (T75.setTop (mkF m 274 #[.val (.int p1), .val (.int p2), .val (.int p3), .val (.int c1), .val (.int c2), .val (.int d1), .val (.int d2), .val (.int x1), .val (.int y1), .val (.int x2), .val (.int y2), .val (.int (2 : Int32)), .val (.ref b25), .unset, .unset] [(.ref b75)])) t
      refine XS.dup X75.here hx rfl (hb hby at_274) rfl rfl ?_
      show Steps p.tables e below (T75.setTop (mkF m 275 #[.val (.int p1), .val (.int p2), .val (.int p3), .val (.int c1), .val (.int c2), .val (.int d1), .val (.int d2), .val (.int x1), .val (.int y1), .val (.int x2), .val (.int y2), .val (.int (2 : Int32)), .val (.ref b25), .unset, .unset] [(.ref b75), (.ref b75)])) t
      refine XS.iconst X75.here hx rfl (hb hby at_275) ?_
      show Steps p.tables e below (T75.setTop (mkF m 276 #[.val (.int p1), .val (.int p2), .val (.int p3), .val (.int c1), .val (.int c2), .val (.int d1), .val (.int d2), .val (.int x1), .val (.int y1), .val (.int x2), .val (.int y2), .val (.int (2 : Int32)), .val (.ref b25), .unset, .unset] [(.int (1 : Int32)), (.ref b75), (.ref b75)])) t
      exact st83 t k)
  obtain ⟨cl92, Ar92, qq92, Sz92, Ng92, Ha92, Ga92⟩ := id V83
  have hin92 : ¬ ((0 : Int32) < 0 ∨ cl92.slots.size ≤ ((0 : Int32)).toNatClampNeg) := inb_of Sz92 (by decide)
  obtain ⟨T93, hp93, X93, e93, W93, st93⟩ := stC X83 hx hZ e83 Ar92 (j := (0 : Int32)) hin92 (g := (mkF m 281 #[.val (.int p1), .val (.int p2), .val (.int p3), .val (.int c1), .val (.int c2), .val (.int d1), .val (.int d2), .val (.int x1), .val (.int y1), .val (.int x2), .val (.int y2), .val (.int (2 : Int32)), .val (.ref b25), .unset, .unset] [(.int c1), (.int (0 : Int32)), (.ref b83), (.ref b83), (.ref b75), (.ref b75)])) rfl rfl (hb hby at_281)
  have ch94 : ∀ t, Steps p.tables e below (T93.setTop (mkF m 282 #[.val (.int p1), .val (.int p2), .val (.int p3), .val (.int c1), .val (.int c2), .val (.int d1), .val (.int d2), .val (.int x1), .val (.int y1), .val (.int x2), .val (.int y2), .val (.int (2 : Int32)), .val (.ref b25), .unset, .unset] [(.ref b83), (.ref b75), (.ref b75)])) t → Steps p.tables e below (s₁.setTop (entryFrame m #[(.int p1), (.int p2), (.int p3)] maxLocals)) t := fun t k => ch91 t (by
      show Steps p.tables e below (T83.setTop (mkF m 278 #[.val (.int p1), .val (.int p2), .val (.int p3), .val (.int c1), .val (.int c2), .val (.int d1), .val (.int d2), .val (.int x1), .val (.int y1), .val (.int x2), .val (.int y2), .val (.int (2 : Int32)), .val (.ref b25), .unset, .unset] [(.ref b83), (.ref b75), (.ref b75)])) t
      refine XS.dup X83.here hx rfl (hb hby at_278) rfl rfl ?_
      show Steps p.tables e below (T83.setTop (mkF m 279 #[.val (.int p1), .val (.int p2), .val (.int p3), .val (.int c1), .val (.int c2), .val (.int d1), .val (.int d2), .val (.int x1), .val (.int y1), .val (.int x2), .val (.int y2), .val (.int (2 : Int32)), .val (.ref b25), .unset, .unset] [(.ref b83), (.ref b83), (.ref b75), (.ref b75)])) t
      refine XS.iconst X83.here hx rfl (hb hby at_279) ?_
      show Steps p.tables e below (T83.setTop (mkF m 280 #[.val (.int p1), .val (.int p2), .val (.int p3), .val (.int c1), .val (.int c2), .val (.int d1), .val (.int d2), .val (.int x1), .val (.int y1), .val (.int x2), .val (.int y2), .val (.int (2 : Int32)), .val (.ref b25), .unset, .unset] [(.int (0 : Int32)), (.ref b83), (.ref b83), (.ref b75), (.ref b75)])) t
      refine XS.iloadN X83.here hx rfl (hb hby at_280) rfl ?_
      show Steps p.tables e below (T83.setTop (mkF m 281 #[.val (.int p1), .val (.int p2), .val (.int p3), .val (.int c1), .val (.int c2), .val (.int d1), .val (.int d2), .val (.int x1), .val (.int y1), .val (.int x2), .val (.int y2), .val (.int (2 : Int32)), .val (.ref b25), .unset, .unset] [(.int c1), (.int (0 : Int32)), (.ref b83), (.ref b83), (.ref b75), (.ref b75)])) t
      exact st93 t k)
  have V93 : Arv Z hp93 b83 k83 .char (1 : Int32) [(.int (nar .char c1))] (.int (0 : Int32)) := Arv.set Ar92 qq92 Sz92 Ng92 Ha92 Ga92 (fits_nar_char _) W93 0 rfl (Nat.le_of_ble_eq_true rfl)
  rw [own_narc hx_c1] at V93
  have hk := Nat.le_trans hk (Keep.of_wr W93).1
  have N93 := Fr.snoc X93 N73 g_b83
  have Kp93 := Keep.wr Kp83 W93 (Or.inr sz_b83)
  have hp95 : ∀ c ∈ ([c1] : List Int32), ¬ c < 0 ∧ ¬ (255 : Int32) < c := by
    intro c hc
    simp only [List.mem_cons, List.not_mem_nil, or_false] at hc
    rcases hc with rfl
    · exact hx_c1
  have cf96 := (Exa.wr W93 (A75.ext E83))
  have cf97 := (Fld.other W93 (F75_32.ext E83) (Or.inl ne_b75_b83))
  have cf98 := (Fld.other W93 (F75_30.ext E83) (Or.inl ne_b75_b83))
  have cf99 := ((((own_sta_keep (own_sta_keep cf60 Kq65 (allS (fun c hc => own_exa_plain cf57 c hc) all0)) Kq73 (allS (fun c hc => own_exa_plain cf67 c hc) all0)).ext E75).ext E83).wr W93)
  have cf100 := (Exa.wr W93 (cf84.ext E83))
  have cf101 := (Exa.wr W93 (cf85.ext E83))
  have cf102 := ((cf86.ext E83).other W93 ne_b29_b83)
  have cf103 := ((cf87.ext E83).other W93 ne_tb41_b83)
  have cf104 := (Exa.wr W93 (cf88.ext E83))
  have cf105 := ((cf89.ext E83).other W93 ne_b47_b83)
  have cf106 := ((cf90.ext E83).other W93 ne_tb65_b83)
  obtain ⟨vv107, _, ⟨T107, L107, kk107, nn107⟩, -, X107, ⟨Lc107, hQ107, l107, y107, z107⟩, st107⟩ := X93.specialBack hx (y := (⟨"java/lang/String", "<init>", "([C)V"⟩ : MethodName)) rfl hown (mvT hZ (hw _ (List.mem_of_getElem? (i := 7) rfl))) (mvT hZ (hw _ (List.mem_of_getElem? (i := 8) rfl))) (mvT hZ (hw _ (List.mem_of_getElem? (i := 9) rfl))) (by decide) (StrChars.Road.backV (W := 1) hZ (own_words hw) (kI := 4) (hw _ (List.mem_of_getElem? (i := 4) rfl)) (cs := ([c1] : List Int32)) (bs := (([c1] : List Int32)).map (fun c => c.toInt8.toInt32)) (n := 1) g_b75 (Nat.le_trans Z0 Kp93.1) cf96 cf97 cf98 V93 cf99 P5 rfl rfl (by decide) (by decide) hp95 rfl (by decide) (by decide)) (g := (mkF m 282 #[.val (.int p1), .val (.int p2), .val (.int p3), .val (.int c1), .val (.int c2), .val (.int d1), .val (.int d2), .val (.int x1), .val (.int y1), .val (.int x2), .val (.int y2), .val (.int (2 : Int32)), .val (.ref b25), .unset, .unset] [(.ref b83), (.ref b75), (.ref b75)])) rfl (by rw [hml]; rfl) (Steps.refl _) (a := b75) (argsL := [(.ref b83)]) (rest := [(.ref b75)]) (lenOf own_pd___C_V rfl) rfl (by show 2 * 0 + _ ≤ _; exact Nat.le_of_eq rfl) (hb hby at_282) (fun _ _ => ⟨rfl, e93, (by decide : 13 + 1 ≤ _), (by decide : 81 + 1 ≤ _)⟩)
  dsimp only [Pt.U, Pt.locs, Pt.cells, Pt.slots] at X107 l107 y107 z107 st107 hQ107
  subst l107 y107 z107
  obtain ⟨hh107, eh107⟩ : ∃ h, T107.heap = h := ⟨_, rfl⟩
  rw [eh107] at hQ107
  obtain ⟨rfl, Nq107, Kq107, fq107_0, fq107_1⟩ := hQ107
  have N107 := Fr.app N93 Nq107
  have hk := Nat.le_trans hk Kq107.1
  have Kp107 := Keep.trans Kp93 Kq107 (allS (Or.inr sz_b75) all0)
  obtain ⟨fc107, tb107, kb107, ut107, vt107, wt107, fv107, av107⟩ := fq107_1
  have ne_b25_tb107 : b25 ≠ tb107 := Nat.ne_of_lt (Nat.lt_of_lt_of_le cf100.lt vt107)
  have ne_b27_tb107 : b27 ≠ tb107 := Nat.ne_of_lt (Nat.lt_of_lt_of_le cf101.lt vt107)
  have ne_b29_tb107 : b29 ≠ tb107 := Nat.ne_of_lt (Nat.lt_of_lt_of_le cf102.lt vt107)
  have ne_tb41_tb107 : tb41 ≠ tb107 := Nat.ne_of_lt (Nat.lt_of_lt_of_le cf103.lt vt107)
  have ne_b43_tb107 : b43 ≠ tb107 := Nat.ne_of_lt (Nat.lt_of_lt_of_le cf104.lt vt107)
  have ne_b47_tb107 : b47 ≠ tb107 := Nat.ne_of_lt (Nat.lt_of_lt_of_le cf105.lt vt107)
  have ne_tb65_tb107 : tb65 ≠ tb107 := Nat.ne_of_lt (Nat.lt_of_lt_of_le cf106.lt vt107)
  have ne_b75_tb107 : b75 ≠ tb107 := Nat.ne_of_lt (Nat.lt_of_lt_of_le cf96.lt vt107)
  have ne_b83_tb107 : b83 ≠ tb107 := Nat.ne_of_lt (Nat.lt_of_lt_of_le V93.lt vt107)
  have ch108 : ∀ t, Steps p.tables e below (T107.setTop (mkF m 285 #[.val (.int p1), .val (.int p2), .val (.int p3), .val (.int c1), .val (.int c2), .val (.int d1), .val (.int d2), .val (.int x1), .val (.int y1), .val (.int x2), .val (.int y2), .val (.int (2 : Int32)), .val (.ref b25), .unset, .unset] [(.ref b75)])) t → Steps p.tables e below (s₁.setTop (entryFrame m #[(.int p1), (.int p2), (.int p3)] maxLocals)) t := fun t k => ch94 t (by
      show Steps p.tables e below (T93.setTop (mkF m 282 #[.val (.int p1), .val (.int p2), .val (.int p3), .val (.int c1), .val (.int c2), .val (.int d1), .val (.int d2), .val (.int x1), .val (.int y1), .val (.int x2), .val (.int y2), .val (.int (2 : Int32)), .val (.ref b25), .unset, .unset] [(.ref b83), (.ref b75), (.ref b75)])) t
      exact st107.trans k)
  have cf110 := (cf100.keep Kq107)
  obtain ⟨cq109, kq109, qa109, qb109, qc109⟩ := isOf hZ eh107 cf110
  obtain ⟨vv111, _, ⟨T111, L111, kk111, nn111⟩, -, X111, ⟨Lc111, hQ111, l111, y111, z111⟩, st111⟩ := X107.virtualBack hx (y := (⟨"com/example/nokkel/nokkel/core/ClientRecord", "equals", "(Ljava/lang/Object;)Z"⟩ : MethodName)) (z := (⟨"com/example/nokkel/nokkel/core/ClientRecord", "equals", "(Ljava/lang/Object;)Z"⟩ : MethodName)) hown (mvT hZ (hw _ (List.mem_of_getElem? (i := 54) rfl))) (mvT hZ (hw _ (List.mem_of_getElem? (i := 55) rfl))) (notFace_of_selects (args := #[]) (mvT hZ (hw _ (List.mem_of_getElem? (i := 57) rfl)))) (mvT hZ (hw _ (List.mem_of_getElem? (i := 57) rfl))) (mvT hZ (hw _ (List.mem_of_getElem? (i := 56) rfl))) (by decide) (backOf (W := 0) (own_eq_str l Z a0 hw [] hh107 n0 (Nat.le_trans Z0 Kp107.1) b25 b75 fq107_0) hZ (hw _ (List.mem_of_getElem? (i := 58) rfl)) (hw _ (List.mem_of_getElem? (i := 2) rfl)) (by decide) (by decide)) qa109 qc109 (g := (mkF m 304 #[.val (.int p1), .val (.int p2), .val (.int p3), .val (.int c1), .val (.int c2), .val (.int d1), .val (.int d2), .val (.int x1), .val (.int y1), .val (.int x2), .val (.int y2), .val (.int (2 : Int32)), .val (.ref b25), .val (.ref b75), .val (.int (0 : Int32))] [(.ref b75), (.ref b25)])) rfl (by rw [hml]; rfl) (Steps.refl _) (argsL := [(.ref b75)]) (rest := []) (lenOf own_pd__Ljava_lang_Object__Z rfl) rfl (by show 2 * 0 + _ ≤ _; exact Nat.le_of_eq rfl) (hb hby at_304) (fun _ _ => ⟨rfl, eh107, (by decide : 14 + 0 ≤ _), (by decide : 82 + 0 ≤ _)⟩)
  dsimp only [Pt.U, Pt.locs, Pt.cells, Pt.slots] at X111 l111 y111 z111 st111 hQ111
  subst l111 y111 z111
  obtain ⟨rfl, Nq111, e111⟩ := hQ111
  have N111 := Fr.app N107 Nq111
  have ch112 : ∀ t, Steps p.tables e below (T111.setTop (mkF m 307 #[.val (.int p1), .val (.int p2), .val (.int p3), .val (.int c1), .val (.int c2), .val (.int d1), .val (.int d2), .val (.int x1), .val (.int y1), .val (.int x2), .val (.int y2), .val (.int (2 : Int32)), .val (.ref b25), .val (.ref b75), .val (.int (0 : Int32))] [(.int (0 : Int32))])) t → Steps p.tables e below (s₁.setTop (entryFrame m #[(.int p1), (.int p2), (.int p3)] maxLocals)) t := fun t k => ch108 t (by
      show Steps p.tables e below (T107.setTop (mkF m 285 #[.val (.int p1), .val (.int p2), .val (.int p3), .val (.int c1), .val (.int c2), .val (.int d1), .val (.int d2), .val (.int x1), .val (.int y1), .val (.int x2), .val (.int y2), .val (.int (2 : Int32)), .val (.ref b25), .unset, .unset] [(.ref b75)])) t
      refine XS.astore X107.here hx rfl (hb hby at_285) rfl rfl (l' := #[.val (.int p1), .val (.int p2), .val (.int p3), .val (.int c1), .val (.int c2), .val (.int d1), .val (.int d2), .val (.int x1), .val (.int y1), .val (.int x2), .val (.int y2), .val (.int (2 : Int32)), .val (.ref b25), .val (.ref b75), .unset]) rfl ?_
      show Steps p.tables e below (T107.setTop (mkF m 287 #[.val (.int p1), .val (.int p2), .val (.int p3), .val (.int c1), .val (.int c2), .val (.int d1), .val (.int d2), .val (.int x1), .val (.int y1), .val (.int x2), .val (.int y2), .val (.int (2 : Int32)), .val (.ref b25), .val (.ref b75), .unset] [])) t
      refine XS.iconst X107.here hx rfl (hb hby at_287) ?_
      show Steps p.tables e below (T107.setTop (mkF m 288 #[.val (.int p1), .val (.int p2), .val (.int p3), .val (.int c1), .val (.int c2), .val (.int d1), .val (.int d2), .val (.int x1), .val (.int y1), .val (.int x2), .val (.int y2), .val (.int (2 : Int32)), .val (.ref b25), .val (.ref b75), .unset] [(.int (0 : Int32))])) t
      refine XS.istore X107.here hx rfl (hb hby at_288) rfl (l' := #[.val (.int p1), .val (.int p2), .val (.int p3), .val (.int c1), .val (.int c2), .val (.int d1), .val (.int d2), .val (.int x1), .val (.int y1), .val (.int x2), .val (.int y2), .val (.int (2 : Int32)), .val (.ref b25), .val (.ref b75), .val (.int (0 : Int32))]) rfl ?_
      show Steps p.tables e below (T107.setTop (mkF m 290 #[.val (.int p1), .val (.int p2), .val (.int p3), .val (.int c1), .val (.int c2), .val (.int d1), .val (.int d2), .val (.int x1), .val (.int y1), .val (.int x2), .val (.int y2), .val (.int (2 : Int32)), .val (.ref b25), .val (.ref b75), .val (.int (0 : Int32))] [])) t
      refine XS.goto X107.here hx rfl (pc0 := 290) (pc' := 300) rfl (hb hby at_290) (by decide) (by decide) ?_
      show Steps p.tables e below (T107.setTop (mkF m 300 #[.val (.int p1), .val (.int p2), .val (.int p3), .val (.int c1), .val (.int c2), .val (.int d1), .val (.int d2), .val (.int x1), .val (.int y1), .val (.int x2), .val (.int y2), .val (.int (2 : Int32)), .val (.ref b25), .val (.ref b75), .val (.int (0 : Int32))] [])) t
      refine XS.aload X107.here hx rfl (hb hby at_300) rfl rfl ?_
      show Steps p.tables e below (T107.setTop (mkF m 302 #[.val (.int p1), .val (.int p2), .val (.int p3), .val (.int c1), .val (.int c2), .val (.int d1), .val (.int d2), .val (.int x1), .val (.int y1), .val (.int x2), .val (.int y2), .val (.int (2 : Int32)), .val (.ref b25), .val (.ref b75), .val (.int (0 : Int32))] [(.ref b25)])) t
      refine XS.aload X107.here hx rfl (hb hby at_302) rfl rfl ?_
      show Steps p.tables e below (T107.setTop (mkF m 304 #[.val (.int p1), .val (.int p2), .val (.int p3), .val (.int c1), .val (.int c2), .val (.int d1), .val (.int d2), .val (.int x1), .val (.int y1), .val (.int x2), .val (.int y2), .val (.int (2 : Int32)), .val (.ref b25), .val (.ref b75), .val (.int (0 : Int32))] [(.ref b75), (.ref b25)])) t
      exact st111.trans k)
  have ch113 : ∀ t, Steps p.tables e below (T111.setTop (mkF m 317 #[.val (.int p1), .val (.int p2), .val (.int p3), .val (.int c1), .val (.int c2), .val (.int d1), .val (.int d2), .val (.int x1), .val (.int y1), .val (.int x2), .val (.int y2), .val (.int (2 : Int32)), .val (.ref b25), .val (.ref b75), .val (.int (0 : Int32))] [(.int (1 : Int32))])) t → Steps p.tables e below (s₁.setTop (entryFrame m #[(.int p1), (.int p2), (.int p3)] maxLocals)) t := fun t k => ch112 t (by
      show Steps p.tables e below (T111.setTop (mkF m 307 #[.val (.int p1), .val (.int p2), .val (.int p3), .val (.int c1), .val (.int c2), .val (.int d1), .val (.int d2), .val (.int x1), .val (.int y1), .val (.int x2), .val (.int y2), .val (.int (2 : Int32)), .val (.ref b25), .val (.ref b75), .val (.int (0 : Int32))] [(.int (0 : Int32))])) t
      refine XS.iload X111.here hx rfl (hb hby at_307) rfl ?_
      show Steps p.tables e below (T111.setTop (mkF m 309 #[.val (.int p1), .val (.int p2), .val (.int p3), .val (.int c1), .val (.int c2), .val (.int d1), .val (.int d2), .val (.int x1), .val (.int y1), .val (.int x2), .val (.int y2), .val (.int (2 : Int32)), .val (.ref b25), .val (.ref b75), .val (.int (0 : Int32))] [(.int (0 : Int32)), (.int (0 : Int32))])) t
      refine XS.icmpNo X111.here hx rfl (hb hby at_309) rfl (teq (by decide : (0 : Int32) = (0 : Int32))).2 ?_
      show Steps p.tables e below (T111.setTop (mkF m 312 #[.val (.int p1), .val (.int p2), .val (.int p3), .val (.int c1), .val (.int c2), .val (.int d1), .val (.int d2), .val (.int x1), .val (.int y1), .val (.int x2), .val (.int y2), .val (.int (2 : Int32)), .val (.ref b25), .val (.ref b75), .val (.int (0 : Int32))] [])) t
      refine XS.iconst X111.here hx rfl (hb hby at_312) ?_
      show Steps p.tables e below (T111.setTop (mkF m 313 #[.val (.int p1), .val (.int p2), .val (.int p3), .val (.int c1), .val (.int c2), .val (.int d1), .val (.int d2), .val (.int x1), .val (.int y1), .val (.int x2), .val (.int y2), .val (.int (2 : Int32)), .val (.ref b25), .val (.ref b75), .val (.int (0 : Int32))] [(.int (1 : Int32))])) t
      refine XS.goto X111.here hx rfl (pc0 := 313) (pc' := 317) rfl (hb hby at_313) (by decide) (by decide) ?_
      exact k)
  obtain ⟨fs, hr, hrun, hended, hend⟩ := X111.leaveW hS (by rw [e111]; exact hk) (v := some (.int (1 : Int32))) (fun h => by rw [Bd.returns] at h; cases h)
  refine ⟨_, _, ch113 _ ?_, hrun, hended, _, _, rfl, ?_, hend.1, hend.2.1, hend.2.2.1, hend.2.2.2.mono (by decide) (by decide)⟩
  · show Steps p.tables e below (T111.setTop (mkF m 317 #[.val (.int p1), .val (.int p2), .val (.int p3), .val (.int c1), .val (.int c2), .val (.int d1), .val (.int d2), .val (.int x1), .val (.int y1), .val (.int x2), .val (.int y2), .val (.int (2 : Int32)), .val (.ref b25), .val (.ref b75), .val (.int (0 : Int32))] [(.int (1 : Int32))])) _
    exact retN X111 hx (t := .boolean) Bd.returns (by simp) (hb hby at_317) hr
  · show QN (some (.int (1 : Int32))) n0 _ T111.heap _
    rw [e111]
    exact ⟨rfl, N111⟩
theorem own_ef_own_law_3 (m : MethodId) {x0 : Int32} {x1 : Int32} {x2 : Int32} : entryFrame m #[(.int x0), (.int x1), (.int x2)] maxLocals = mkF m 0 #[.val (.int x0), .val (.int x1), .val (.int x2), .unset, .unset, .unset, .unset, .unset, .unset, .unset, .unset, .unset, .unset, .unset, .unset] [] := by first | (simp [entryFrame, mkF, argsToLocals, Value.category, maxLocals]; done) | rfl
set_option maxRecDepth 65536 in
set_option maxHeartbeats 40000000 in
theorem own_law_3 (l : Launch) (Z : State) (a0 : Array Value) (hw : ∀ d ∈ tables_1, d.before a0 Z = true) (ws : List Jvm.Cond) (h0 : Heap) (n0 : Nat) (Z0 : n0 ≤ h0.size) (p1 p2 p3 c1 d1 : Int32) (hE1 : ((p1 &&& (255 : Int32)).toUInt32.toUInt16.toUInt32.toInt32) = c1) (hE2 : ((p2 &&& (255 : Int32)).toUInt32.toUInt16.toUInt32.toInt32) = d1) (hx_c1 : ¬ c1 < 0 ∧ ¬ (255 : Int32) < c1) (hx_d1 : ¬ d1 < 0 ∧ ¬ (255 : Int32) < d1) (hKk : (((p3.toUInt32 >>> ((6 : Int32) &&& 31).toUInt32).toInt32) &&& (3 : Int32)) = (3 : Int32)) (zC : Int32) (S_CS : Sta Z h0 "java/lang/String" "COMPACT_STRINGS" "Z" (.int zC)) (P5 : ¬ (zC = (0 : Int32))) :
    MetFree l x (head1 (Jvm.Cond.code x code maxLocals ret :: ws) room_1) (fun a U => a = #[(.int p1), (.int p2), (.int p3)] ∧ Z.Warmed39 U.vm ∧ U.heap = h0) (fun _ _ _ _ _ => True) (fun _ U o U' => ∃ v L, o = .returned v ∧ QN (some (.int (1 : Int32))) n0 v U'.heap L ∧ ReturnedEndW U o U' L room_1.cells room_1.slots) := by
  refine MetFree.of_bodySF (plainFor_of_name own_pn_com_example_nokkel_nokkel_core_ClientRecordEqualsPinLaw) hisR ?_
  intro p e s m args below meth c s₁ Bd hml0 hP hK
  obtain ⟨rfl, hZ, hh⟩ := hP
  have hx := Bd.exec
  have hby := Bd.bytes
  have hml : c.maxLocals = 15 := hml0
  have hown : s.vm.findClass "com/example/nokkel/nokkel/core/ClientRecordEqualsPinLaw" = some m.cls := (findClass_of_methodNamed Bd.named :)
  have hnm := (name_of_methodNamed Bd.named Bd.method).1
  have X0 : Stand p l e room_1 (s.setVm s.vm) m #[(.int p1), (.int p2), (.int p3)] below meth c s₁ [] 0 0 := Stand.of_body Bd
  have hZ : Z.Warmed39 (s.setVm s.vm).vm := hZ
  have hown : (s.setVm s.vm).vm.findClass "com/example/nokkel/nokkel/core/ClientRecordEqualsPinLaw" = some m.cls := hown
  have hS : s.Since s.vm 0 := (State.WarmedH.refl s).since 0
  have hk : 0 ≤ h0.size := Nat.zero_le _
  have e0 : s₁.heap = h0 := by rw [← hh, Bd.state]; rfl
  have N0 := Fr.nil n0
  have pre0 : ∀ t, Steps p.tables e below (s₁.setTop (mkF m 0 #[.val (.int p1), .val (.int p2), .val (.int p3), .unset, .unset, .unset, .unset, .unset, .unset, .unset, .unset, .unset, .unset, .unset, .unset] [])) t → Steps p.tables e below (s₁.setTop (entryFrame m #[(.int p1), (.int p2), (.int p3)] maxLocals)) t := fun t k => castTop (own_ef_own_law_3 m) k
  have ch1 : ∀ t, Steps p.tables e below (s₁.setTop (mkF m 7 #[.val (.int p1), .val (.int p2), .val (.int p3), .val (.int c1), .unset, .unset, .unset, .unset, .unset, .unset, .unset, .unset, .unset, .unset, .unset] [])) t → Steps p.tables e below (s₁.setTop (entryFrame m #[(.int p1), (.int p2), (.int p3)] maxLocals)) t := fun t k => pre0 t (by
      show Steps p.tables e below (s₁.setTop (mkF m 0 #[.val (.int p1), .val (.int p2), .val (.int p3), .unset, .unset, .unset, .unset, .unset, .unset, .unset, .unset, .unset, .unset, .unset, .unset] [])) t
      refine XS.iloadN X0.here hx rfl (hb hby at_0) rfl ?_
      show Steps p.tables e below (s₁.setTop (mkF m 1 #[.val (.int p1), .val (.int p2), .val (.int p3), .unset, .unset, .unset, .unset, .unset, .unset, .unset, .unset, .unset, .unset, .unset, .unset] [(.int p1)])) t
      refine XS.sipush X0.here hx rfl (hb hby at_1) ?_
      show Steps p.tables e below (s₁.setTop (mkF m 4 #[.val (.int p1), .val (.int p2), .val (.int p3), .unset, .unset, .unset, .unset, .unset, .unset, .unset, .unset, .unset, .unset, .unset, .unset] [(.int (255 : Int32)), (.int p1)])) t
      refine XS.iand X0.here hx rfl (hb hby at_4) rfl ?_
      show Steps p.tables e below (s₁.setTop (mkF m 5 #[.val (.int p1), .val (.int p2), .val (.int p3), .unset, .unset, .unset, .unset, .unset, .unset, .unset, .unset, .unset, .unset, .unset, .unset] [(.int (p1 &&& (255 : Int32)))])) t
      refine XS.i2c X0.here hx rfl (hb hby at_5) rfl ?_
      rw [hE1]
      show Steps p.tables e below (s₁.setTop (mkF m 6 #[.val (.int p1), .val (.int p2), .val (.int p3), .unset, .unset, .unset, .unset, .unset, .unset, .unset, .unset, .unset, .unset, .unset, .unset] [(.int c1)])) t
      refine XS.istoreN X0.here hx rfl (hb hby at_6) rfl (l' := #[.val (.int p1), .val (.int p2), .val (.int p3), .val (.int c1), .unset, .unset, .unset, .unset, .unset, .unset, .unset, .unset, .unset, .unset, .unset]) rfl ?_
      exact k)
  obtain ⟨c2, hx_c2, sj2⟩ : ∃ c2 : Int32, (¬ c2 < 0 ∧ ¬ (255 : Int32) < c2) ∧ ∀ t, Steps p.tables e below (s₁.setTop (mkF m 28 #[.val (.int p1), .val (.int p2), .val (.int p3), .val (.int c1), .unset, .unset, .unset, .unset, .unset, .unset, .unset, .unset, .unset, .unset, .unset] [(.int c2)])) t → Steps p.tables e below (s₁.setTop (mkF m 7 #[.val (.int p1), .val (.int p2), .val (.int p3), .val (.int c1), .unset, .unset, .unset, .unset, .unset, .unset, .unset, .unset, .unset, .unset, .unset] [])) t := by
    by_cases hq3 : (((p3.toUInt32 >>> ((4 : Int32) &&& 31).toUInt32).toInt32) &&& (1 : Int32)) = (0 : Int32)
    · skip
      refine ⟨((((p1.toUInt32 >>> ((8 : Int32) &&& 31).toUInt32).toInt32) &&& (255 : Int32)).toUInt32.toUInt16.toUInt32.toInt32), own_i2c _, fun t k => ?_⟩
      show Steps p.tables e below (s₁.setTop (mkF m 7 #[.val (.int p1), .val (.int p2), .val (.int p3), .val (.int c1), .unset, .unset, .unset, .unset, .unset, .unset, .unset, .unset, .unset, .unset, .unset] [])) t
      refine XS.iloadN X0.here hx rfl (hb hby at_7) rfl ?_
      show Steps p.tables e below (s₁.setTop (mkF m 8 #[.val (.int p1), .val (.int p2), .val (.int p3), .val (.int c1), .unset, .unset, .unset, .unset, .unset, .unset, .unset, .unset, .unset, .unset, .unset] [(.int p3)])) t
      refine XS.iconst X0.here hx rfl (hb hby at_8) ?_
      show Steps p.tables e below (s₁.setTop (mkF m 9 #[.val (.int p1), .val (.int p2), .val (.int p3), .val (.int c1), .unset, .unset, .unset, .unset, .unset, .unset, .unset, .unset, .unset, .unset, .unset] [(.int (4 : Int32)), (.int p3)])) t
      refine XS.iushr X0.here hx rfl (hb hby at_9) rfl ?_
      show Steps p.tables e below (s₁.setTop (mkF m 10 #[.val (.int p1), .val (.int p2), .val (.int p3), .val (.int c1), .unset, .unset, .unset, .unset, .unset, .unset, .unset, .unset, .unset, .unset, .unset] [(.int ((p3.toUInt32 >>> ((4 : Int32) &&& 31).toUInt32).toInt32))])) t
      refine XS.iconst X0.here hx rfl (hb hby at_10) ?_
      show Steps p.tables e below (s₁.setTop (mkF m 11 #[.val (.int p1), .val (.int p2), .val (.int p3), .val (.int c1), .unset, .unset, .unset, .unset, .unset, .unset, .unset, .unset, .unset, .unset, .unset] [(.int (1 : Int32)), (.int ((p3.toUInt32 >>> ((4 : Int32) &&& 31).toUInt32).toInt32))])) t
      refine XS.iand X0.here hx rfl (hb hby at_11) rfl ?_
      show Steps p.tables e below (s₁.setTop (mkF m 12 #[.val (.int p1), .val (.int p2), .val (.int p3), .val (.int c1), .unset, .unset, .unset, .unset, .unset, .unset, .unset, .unset, .unset, .unset, .unset] [(.int (((p3.toUInt32 >>> ((4 : Int32) &&& 31).toUInt32).toInt32) &&& (1 : Int32)))])) t
      refine XS.ifYes X0.here hx rfl (pc0 := 12) (pc' := 19) rfl (hb hby at_12) rfl ((if0 _ _).trans (teq hq3).1) (by decide) (by decide) ?_
      show Steps p.tables e below (s₁.setTop (mkF m 19 #[.val (.int p1), .val (.int p2), .val (.int p3), .val (.int c1), .unset, .unset, .unset, .unset, .unset, .unset, .unset, .unset, .unset, .unset, .unset] [])) t
      refine XS.iloadN X0.here hx rfl (hb hby at_19) rfl ?_
      show Steps p.tables e below (s₁.setTop (mkF m 20 #[.val (.int p1), .val (.int p2), .val (.int p3), .val (.int c1), .unset, .unset, .unset, .unset, .unset, .unset, .unset, .unset, .unset, .unset, .unset] [(.int p1)])) t
      refine XS.bipush X0.here hx rfl (hb hby at_20) ?_
      show Steps p.tables e below (s₁.setTop (mkF m 22 #[.val (.int p1), .val (.int p2), .val (.int p3), .val (.int c1), .unset, .unset, .unset, .unset, .unset, .unset, .unset, .unset, .unset, .unset, .unset] [(.int (8 : Int32)), (.int p1)])) t
      refine XS.iushr X0.here hx rfl (hb hby at_22) rfl ?_
      show Steps p.tables e below (s₁.setTop (mkF m 23 #[.val (.int p1), .val (.int p2), .val (.int p3), .val (.int c1), .unset, .unset, .unset, .unset, .unset, .unset, .unset, .unset, .unset, .unset, .unset] [(.int ((p1.toUInt32 >>> ((8 : Int32) &&& 31).toUInt32).toInt32))])) t
      refine XS.sipush X0.here hx rfl (hb hby at_23) ?_
      show Steps p.tables e below (s₁.setTop (mkF m 26 #[.val (.int p1), .val (.int p2), .val (.int p3), .val (.int c1), .unset, .unset, .unset, .unset, .unset, .unset, .unset, .unset, .unset, .unset, .unset] [(.int (255 : Int32)), (.int ((p1.toUInt32 >>> ((8 : Int32) &&& 31).toUInt32).toInt32))])) t
      refine XS.iand X0.here hx rfl (hb hby at_26) rfl ?_
      show Steps p.tables e below (s₁.setTop (mkF m 27 #[.val (.int p1), .val (.int p2), .val (.int p3), .val (.int c1), .unset, .unset, .unset, .unset, .unset, .unset, .unset, .unset, .unset, .unset, .unset] [(.int (((p1.toUInt32 >>> ((8 : Int32) &&& 31).toUInt32).toInt32) &&& (255 : Int32)))])) t
      refine XS.i2c X0.here hx rfl (hb hby at_27) rfl ?_
      exact k
    · skip
      refine ⟨c1, hx_c1, fun t k => ?_⟩
      show Steps p.tables e below (s₁.setTop (mkF m 7 #[.val (.int p1), .val (.int p2), .val (.int p3), .val (.int c1), .unset, .unset, .unset, .unset, .unset, .unset, .unset, .unset, .unset, .unset, .unset] [])) t
      refine XS.iloadN X0.here hx rfl (hb hby at_7) rfl ?_
      show Steps p.tables e below (s₁.setTop (mkF m 8 #[.val (.int p1), .val (.int p2), .val (.int p3), .val (.int c1), .unset, .unset, .unset, .unset, .unset, .unset, .unset, .unset, .unset, .unset, .unset] [(.int p3)])) t
      refine XS.iconst X0.here hx rfl (hb hby at_8) ?_
      show Steps p.tables e below (s₁.setTop (mkF m 9 #[.val (.int p1), .val (.int p2), .val (.int p3), .val (.int c1), .unset, .unset, .unset, .unset, .unset, .unset, .unset, .unset, .unset, .unset, .unset] [(.int (4 : Int32)), (.int p3)])) t
      refine XS.iushr X0.here hx rfl (hb hby at_9) rfl ?_
      show Steps p.tables e below (s₁.setTop (mkF m 10 #[.val (.int p1), .val (.int p2), .val (.int p3), .val (.int c1), .unset, .unset, .unset, .unset, .unset, .unset, .unset, .unset, .unset, .unset, .unset] [(.int ((p3.toUInt32 >>> ((4 : Int32) &&& 31).toUInt32).toInt32))])) t
      refine XS.iconst X0.here hx rfl (hb hby at_10) ?_
      show Steps p.tables e below (s₁.setTop (mkF m 11 #[.val (.int p1), .val (.int p2), .val (.int p3), .val (.int c1), .unset, .unset, .unset, .unset, .unset, .unset, .unset, .unset, .unset, .unset, .unset] [(.int (1 : Int32)), (.int ((p3.toUInt32 >>> ((4 : Int32) &&& 31).toUInt32).toInt32))])) t
      refine XS.iand X0.here hx rfl (hb hby at_11) rfl ?_
      show Steps p.tables e below (s₁.setTop (mkF m 12 #[.val (.int p1), .val (.int p2), .val (.int p3), .val (.int c1), .unset, .unset, .unset, .unset, .unset, .unset, .unset, .unset, .unset, .unset, .unset] [(.int (((p3.toUInt32 >>> ((4 : Int32) &&& 31).toUInt32).toInt32) &&& (1 : Int32)))])) t
      refine XS.ifNo X0.here hx rfl (hb hby at_12) rfl ((if0 _ _).trans (feq hq3).1) ?_
      show Steps p.tables e below (s₁.setTop (mkF m 15 #[.val (.int p1), .val (.int p2), .val (.int p3), .val (.int c1), .unset, .unset, .unset, .unset, .unset, .unset, .unset, .unset, .unset, .unset, .unset] [])) t
      refine XS.iloadN X0.here hx rfl (hb hby at_15) rfl ?_
      show Steps p.tables e below (s₁.setTop (mkF m 16 #[.val (.int p1), .val (.int p2), .val (.int p3), .val (.int c1), .unset, .unset, .unset, .unset, .unset, .unset, .unset, .unset, .unset, .unset, .unset] [(.int c1)])) t
      refine XS.goto X0.here hx rfl (pc0 := 16) (pc' := 28) rfl (hb hby at_16) (by decide) (by decide) ?_
      exact k
  have ch4 : ∀ t, Steps p.tables e below (s₁.setTop (mkF m 28 #[.val (.int p1), .val (.int p2), .val (.int p3), .val (.int c1), .unset, .unset, .unset, .unset, .unset, .unset, .unset, .unset, .unset, .unset, .unset] [(.int c2)])) t → Steps p.tables e below (s₁.setTop (entryFrame m #[(.int p1), (.int p2), (.int p3)] maxLocals)) t := fun t k => ch1 t (sj2 t k)
  have ch5 : ∀ t, Steps p.tables e below (s₁.setTop (mkF m 38 #[.val (.int p1), .val (.int p2), .val (.int p3), .val (.int c1), .val (.int c2), .val (.int d1), .unset, .unset, .unset, .unset, .unset, .unset, .unset, .unset, .unset] [])) t → Steps p.tables e below (s₁.setTop (entryFrame m #[(.int p1), (.int p2), (.int p3)] maxLocals)) t := fun t k => ch4 t (by
      show Steps p.tables e below (s₁.setTop (mkF m 28 #[.val (.int p1), .val (.int p2), .val (.int p3), .val (.int c1), .unset, .unset, .unset, .unset, .unset, .unset, .unset, .unset, .unset, .unset, .unset] [(.int c2)])) t
      refine XS.istore X0.here hx rfl (hb hby at_28) rfl (l' := #[.val (.int p1), .val (.int p2), .val (.int p3), .val (.int c1), .val (.int c2), .unset, .unset, .unset, .unset, .unset, .unset, .unset, .unset, .unset, .unset]) rfl ?_
      show Steps p.tables e below (s₁.setTop (mkF m 30 #[.val (.int p1), .val (.int p2), .val (.int p3), .val (.int c1), .val (.int c2), .unset, .unset, .unset, .unset, .unset, .unset, .unset, .unset, .unset, .unset] [])) t
      refine XS.iloadN X0.here hx rfl (hb hby at_30) rfl ?_
      show Steps p.tables e below (s₁.setTop (mkF m 31 #[.val (.int p1), .val (.int p2), .val (.int p3), .val (.int c1), .val (.int c2), .unset, .unset, .unset, .unset, .unset, .unset, .unset, .unset, .unset, .unset] [(.int p2)])) t
      refine XS.sipush X0.here hx rfl (hb hby at_31) ?_
      show Steps p.tables e below (s₁.setTop (mkF m 34 #[.val (.int p1), .val (.int p2), .val (.int p3), .val (.int c1), .val (.int c2), .unset, .unset, .unset, .unset, .unset, .unset, .unset, .unset, .unset, .unset] [(.int (255 : Int32)), (.int p2)])) t
      refine XS.iand X0.here hx rfl (hb hby at_34) rfl ?_
      show Steps p.tables e below (s₁.setTop (mkF m 35 #[.val (.int p1), .val (.int p2), .val (.int p3), .val (.int c1), .val (.int c2), .unset, .unset, .unset, .unset, .unset, .unset, .unset, .unset, .unset, .unset] [(.int (p2 &&& (255 : Int32)))])) t
      refine XS.i2c X0.here hx rfl (hb hby at_35) rfl ?_
      rw [hE2]
      show Steps p.tables e below (s₁.setTop (mkF m 36 #[.val (.int p1), .val (.int p2), .val (.int p3), .val (.int c1), .val (.int c2), .unset, .unset, .unset, .unset, .unset, .unset, .unset, .unset, .unset, .unset] [(.int d1)])) t
      refine XS.istore X0.here hx rfl (hb hby at_36) rfl (l' := #[.val (.int p1), .val (.int p2), .val (.int p3), .val (.int c1), .val (.int c2), .val (.int d1), .unset, .unset, .unset, .unset, .unset, .unset, .unset, .unset, .unset]) rfl ?_
      exact k)
  obtain ⟨d2, hx_d2, sj6⟩ : ∃ d2 : Int32, (¬ d2 < 0 ∧ ¬ (255 : Int32) < d2) ∧ ∀ t, Steps p.tables e below (s₁.setTop (mkF m 60 #[.val (.int p1), .val (.int p2), .val (.int p3), .val (.int c1), .val (.int c2), .val (.int d1), .unset, .unset, .unset, .unset, .unset, .unset, .unset, .unset, .unset] [(.int d2)])) t → Steps p.tables e below (s₁.setTop (mkF m 38 #[.val (.int p1), .val (.int p2), .val (.int p3), .val (.int c1), .val (.int c2), .val (.int d1), .unset, .unset, .unset, .unset, .unset, .unset, .unset, .unset, .unset] [])) t := by
    by_cases hq7 : (((p3.toUInt32 >>> ((5 : Int32) &&& 31).toUInt32).toInt32) &&& (1 : Int32)) = (0 : Int32)
    · skip
      refine ⟨((((p2.toUInt32 >>> ((8 : Int32) &&& 31).toUInt32).toInt32) &&& (255 : Int32)).toUInt32.toUInt16.toUInt32.toInt32), own_i2c _, fun t k => ?_⟩
      show Steps p.tables e below (s₁.setTop (mkF m 38 #[.val (.int p1), .val (.int p2), .val (.int p3), .val (.int c1), .val (.int c2), .val (.int d1), .unset, .unset, .unset, .unset, .unset, .unset, .unset, .unset, .unset] [])) t
      refine XS.iloadN X0.here hx rfl (hb hby at_38) rfl ?_
      show Steps p.tables e below (s₁.setTop (mkF m 39 #[.val (.int p1), .val (.int p2), .val (.int p3), .val (.int c1), .val (.int c2), .val (.int d1), .unset, .unset, .unset, .unset, .unset, .unset, .unset, .unset, .unset] [(.int p3)])) t
      refine XS.iconst X0.here hx rfl (hb hby at_39) ?_
      show Steps p.tables e below (s₁.setTop (mkF m 40 #[.val (.int p1), .val (.int p2), .val (.int p3), .val (.int c1), .val (.int c2), .val (.int d1), .unset, .unset, .unset, .unset, .unset, .unset, .unset, .unset, .unset] [(.int (5 : Int32)), (.int p3)])) t
      refine XS.iushr X0.here hx rfl (hb hby at_40) rfl ?_
      show Steps p.tables e below (s₁.setTop (mkF m 41 #[.val (.int p1), .val (.int p2), .val (.int p3), .val (.int c1), .val (.int c2), .val (.int d1), .unset, .unset, .unset, .unset, .unset, .unset, .unset, .unset, .unset] [(.int ((p3.toUInt32 >>> ((5 : Int32) &&& 31).toUInt32).toInt32))])) t
      refine XS.iconst X0.here hx rfl (hb hby at_41) ?_
      show Steps p.tables e below (s₁.setTop (mkF m 42 #[.val (.int p1), .val (.int p2), .val (.int p3), .val (.int c1), .val (.int c2), .val (.int d1), .unset, .unset, .unset, .unset, .unset, .unset, .unset, .unset, .unset] [(.int (1 : Int32)), (.int ((p3.toUInt32 >>> ((5 : Int32) &&& 31).toUInt32).toInt32))])) t
      refine XS.iand X0.here hx rfl (hb hby at_42) rfl ?_
      show Steps p.tables e below (s₁.setTop (mkF m 43 #[.val (.int p1), .val (.int p2), .val (.int p3), .val (.int c1), .val (.int c2), .val (.int d1), .unset, .unset, .unset, .unset, .unset, .unset, .unset, .unset, .unset] [(.int (((p3.toUInt32 >>> ((5 : Int32) &&& 31).toUInt32).toInt32) &&& (1 : Int32)))])) t
      refine XS.ifYes X0.here hx rfl (pc0 := 43) (pc' := 51) rfl (hb hby at_43) rfl ((if0 _ _).trans (teq hq7).1) (by decide) (by decide) ?_
      show Steps p.tables e below (s₁.setTop (mkF m 51 #[.val (.int p1), .val (.int p2), .val (.int p3), .val (.int c1), .val (.int c2), .val (.int d1), .unset, .unset, .unset, .unset, .unset, .unset, .unset, .unset, .unset] [])) t
      refine XS.iloadN X0.here hx rfl (hb hby at_51) rfl ?_
      show Steps p.tables e below (s₁.setTop (mkF m 52 #[.val (.int p1), .val (.int p2), .val (.int p3), .val (.int c1), .val (.int c2), .val (.int d1), .unset, .unset, .unset, .unset, .unset, .unset, .unset, .unset, .unset] [(.int p2)])) t
      refine XS.bipush X0.here hx rfl (hb hby at_52) ?_
      show Steps p.tables e below (s₁.setTop (mkF m 54 #[.val (.int p1), .val (.int p2), .val (.int p3), .val (.int c1), .val (.int c2), .val (.int d1), .unset, .unset, .unset, .unset, .unset, .unset, .unset, .unset, .unset] [(.int (8 : Int32)), (.int p2)])) t
      refine XS.iushr X0.here hx rfl (hb hby at_54) rfl ?_
      show Steps p.tables e below (s₁.setTop (mkF m 55 #[.val (.int p1), .val (.int p2), .val (.int p3), .val (.int c1), .val (.int c2), .val (.int d1), .unset, .unset, .unset, .unset, .unset, .unset, .unset, .unset, .unset] [(.int ((p2.toUInt32 >>> ((8 : Int32) &&& 31).toUInt32).toInt32))])) t
      refine XS.sipush X0.here hx rfl (hb hby at_55) ?_
      show Steps p.tables e below (s₁.setTop (mkF m 58 #[.val (.int p1), .val (.int p2), .val (.int p3), .val (.int c1), .val (.int c2), .val (.int d1), .unset, .unset, .unset, .unset, .unset, .unset, .unset, .unset, .unset] [(.int (255 : Int32)), (.int ((p2.toUInt32 >>> ((8 : Int32) &&& 31).toUInt32).toInt32))])) t
      refine XS.iand X0.here hx rfl (hb hby at_58) rfl ?_
      show Steps p.tables e below (s₁.setTop (mkF m 59 #[.val (.int p1), .val (.int p2), .val (.int p3), .val (.int c1), .val (.int c2), .val (.int d1), .unset, .unset, .unset, .unset, .unset, .unset, .unset, .unset, .unset] [(.int (((p2.toUInt32 >>> ((8 : Int32) &&& 31).toUInt32).toInt32) &&& (255 : Int32)))])) t
      refine XS.i2c X0.here hx rfl (hb hby at_59) rfl ?_
      exact k
    · skip
      refine ⟨d1, hx_d1, fun t k => ?_⟩
      show Steps p.tables e below (s₁.setTop (mkF m 38 #[.val (.int p1), .val (.int p2), .val (.int p3), .val (.int c1), .val (.int c2), .val (.int d1), .unset, .unset, .unset, .unset, .unset, .unset, .unset, .unset, .unset] [])) t
      refine XS.iloadN X0.here hx rfl (hb hby at_38) rfl ?_
      show Steps p.tables e below (s₁.setTop (mkF m 39 #[.val (.int p1), .val (.int p2), .val (.int p3), .val (.int c1), .val (.int c2), .val (.int d1), .unset, .unset, .unset, .unset, .unset, .unset, .unset, .unset, .unset] [(.int p3)])) t
      refine XS.iconst X0.here hx rfl (hb hby at_39) ?_
      show Steps p.tables e below (s₁.setTop (mkF m 40 #[.val (.int p1), .val (.int p2), .val (.int p3), .val (.int c1), .val (.int c2), .val (.int d1), .unset, .unset, .unset, .unset, .unset, .unset, .unset, .unset, .unset] [(.int (5 : Int32)), (.int p3)])) t
      refine XS.iushr X0.here hx rfl (hb hby at_40) rfl ?_
      show Steps p.tables e below (s₁.setTop (mkF m 41 #[.val (.int p1), .val (.int p2), .val (.int p3), .val (.int c1), .val (.int c2), .val (.int d1), .unset, .unset, .unset, .unset, .unset, .unset, .unset, .unset, .unset] [(.int ((p3.toUInt32 >>> ((5 : Int32) &&& 31).toUInt32).toInt32))])) t
      refine XS.iconst X0.here hx rfl (hb hby at_41) ?_
      show Steps p.tables e below (s₁.setTop (mkF m 42 #[.val (.int p1), .val (.int p2), .val (.int p3), .val (.int c1), .val (.int c2), .val (.int d1), .unset, .unset, .unset, .unset, .unset, .unset, .unset, .unset, .unset] [(.int (1 : Int32)), (.int ((p3.toUInt32 >>> ((5 : Int32) &&& 31).toUInt32).toInt32))])) t
      refine XS.iand X0.here hx rfl (hb hby at_42) rfl ?_
      show Steps p.tables e below (s₁.setTop (mkF m 43 #[.val (.int p1), .val (.int p2), .val (.int p3), .val (.int c1), .val (.int c2), .val (.int d1), .unset, .unset, .unset, .unset, .unset, .unset, .unset, .unset, .unset] [(.int (((p3.toUInt32 >>> ((5 : Int32) &&& 31).toUInt32).toInt32) &&& (1 : Int32)))])) t
      refine XS.ifNo X0.here hx rfl (hb hby at_43) rfl ((if0 _ _).trans (feq hq7).1) ?_
      show Steps p.tables e below (s₁.setTop (mkF m 46 #[.val (.int p1), .val (.int p2), .val (.int p3), .val (.int c1), .val (.int c2), .val (.int d1), .unset, .unset, .unset, .unset, .unset, .unset, .unset, .unset, .unset] [])) t
      refine XS.iload X0.here hx rfl (hb hby at_46) rfl ?_
      show Steps p.tables e below (s₁.setTop (mkF m 48 #[.val (.int p1), .val (.int p2), .val (.int p3), .val (.int c1), .val (.int c2), .val (.int d1), .unset, .unset, .unset, .unset, .unset, .unset, .unset, .unset, .unset] [(.int d1)])) t
      refine XS.goto X0.here hx rfl (pc0 := 48) (pc' := 60) rfl (hb hby at_48) (by decide) (by decide) ?_
      exact k
  have ch8 : ∀ t, Steps p.tables e below (s₁.setTop (mkF m 60 #[.val (.int p1), .val (.int p2), .val (.int p3), .val (.int c1), .val (.int c2), .val (.int d1), .unset, .unset, .unset, .unset, .unset, .unset, .unset, .unset, .unset] [(.int d2)])) t → Steps p.tables e below (s₁.setTop (entryFrame m #[(.int p1), (.int p2), (.int p3)] maxLocals)) t := fun t k => ch5 t (sj6 t k)
  have ch9 : ∀ t, Steps p.tables e below (s₁.setTop (mkF m 62 #[.val (.int p1), .val (.int p2), .val (.int p3), .val (.int c1), .val (.int c2), .val (.int d1), .val (.int d2), .unset, .unset, .unset, .unset, .unset, .unset, .unset, .unset] [])) t → Steps p.tables e below (s₁.setTop (entryFrame m #[(.int p1), (.int p2), (.int p3)] maxLocals)) t := fun t k => ch8 t (by
      show Steps p.tables e below (s₁.setTop (mkF m 60 #[.val (.int p1), .val (.int p2), .val (.int p3), .val (.int c1), .val (.int c2), .val (.int d1), .unset, .unset, .unset, .unset, .unset, .unset, .unset, .unset, .unset] [(.int d2)])) t
      refine XS.istore X0.here hx rfl (hb hby at_60) rfl (l' := #[.val (.int p1), .val (.int p2), .val (.int p3), .val (.int c1), .val (.int c2), .val (.int d1), .val (.int d2), .unset, .unset, .unset, .unset, .unset, .unset, .unset, .unset]) rfl ?_
      exact k)
  obtain ⟨x1, hx_x1, sj10⟩ : ∃ x1 : Int32, (x1 = (0 : Int32) ∨ x1 = (1 : Int32)) ∧ ∀ t, Steps p.tables e below (s₁.setTop (mkF m 73 #[.val (.int p1), .val (.int p2), .val (.int p3), .val (.int c1), .val (.int c2), .val (.int d1), .val (.int d2), .unset, .unset, .unset, .unset, .unset, .unset, .unset, .unset] [(.int x1)])) t → Steps p.tables e below (s₁.setTop (mkF m 62 #[.val (.int p1), .val (.int p2), .val (.int p3), .val (.int c1), .val (.int c2), .val (.int d1), .val (.int d2), .unset, .unset, .unset, .unset, .unset, .unset, .unset, .unset] [])) t := by
    by_cases hq11 : (p3 &&& (1 : Int32)) = (0 : Int32)
    · skip
      refine ⟨(0 : Int32), (Or.inl rfl), fun t k => ?_⟩
      show Steps p.tables e below (s₁.setTop (mkF m 62 #[.val (.int p1), .val (.int p2), .val (.int p3), .val (.int c1), .val (.int c2), .val (.int d1), .val (.int d2), .unset, .unset, .unset, .unset, .unset, .unset, .unset, .unset] [])) t
      refine XS.iloadN X0.here hx rfl (hb hby at_62) rfl ?_
      show Steps p.tables e below (s₁.setTop (mkF m 63 #[.val (.int p1), .val (.int p2), .val (.int p3), .val (.int c1), .val (.int c2), .val (.int d1), .val (.int d2), .unset, .unset, .unset, .unset, .unset, .unset, .unset, .unset] [(.int p3)])) t
      refine XS.iconst X0.here hx rfl (hb hby at_63) ?_
      show Steps p.tables e below (s₁.setTop (mkF m 64 #[.val (.int p1), .val (.int p2), .val (.int p3), .val (.int c1), .val (.int c2), .val (.int d1), .val (.int d2), .unset, .unset, .unset, .unset, .unset, .unset, .unset, .unset] [(.int (1 : Int32)), (.int p3)])) t
      refine XS.iand X0.here hx rfl (hb hby at_64) rfl ?_
      show Steps p.tables e below (s₁.setTop (mkF m 65 #[.val (.int p1), .val (.int p2), .val (.int p3), .val (.int c1), .val (.int c2), .val (.int d1), .val (.int d2), .unset, .unset, .unset, .unset, .unset, .unset, .unset, .unset] [(.int (p3 &&& (1 : Int32)))])) t
      refine XS.ifYes X0.here hx rfl (pc0 := 65) (pc' := 72) rfl (hb hby at_65) rfl ((if0 _ _).trans (teq hq11).1) (by decide) (by decide) ?_
      show Steps p.tables e below (s₁.setTop (mkF m 72 #[.val (.int p1), .val (.int p2), .val (.int p3), .val (.int c1), .val (.int c2), .val (.int d1), .val (.int d2), .unset, .unset, .unset, .unset, .unset, .unset, .unset, .unset] [])) t
      refine XS.iconst X0.here hx rfl (hb hby at_72) ?_
      exact k
    · skip
      refine ⟨(1 : Int32), (Or.inr rfl), fun t k => ?_⟩
      show Steps p.tables e below (s₁.setTop (mkF m 62 #[.val (.int p1), .val (.int p2), .val (.int p3), .val (.int c1), .val (.int c2), .val (.int d1), .val (.int d2), .unset, .unset, .unset, .unset, .unset, .unset, .unset, .unset] [])) t
      refine XS.iloadN X0.here hx rfl (hb hby at_62) rfl ?_
      show Steps p.tables e below (s₁.setTop (mkF m 63 #[.val (.int p1), .val (.int p2), .val (.int p3), .val (.int c1), .val (.int c2), .val (.int d1), .val (.int d2), .unset, .unset, .unset, .unset, .unset, .unset, .unset, .unset] [(.int p3)])) t
      refine XS.iconst X0.here hx rfl (hb hby at_63) ?_
      show Steps p.tables e below (s₁.setTop (mkF m 64 #[.val (.int p1), .val (.int p2), .val (.int p3), .val (.int c1), .val (.int c2), .val (.int d1), .val (.int d2), .unset, .unset, .unset, .unset, .unset, .unset, .unset, .unset] [(.int (1 : Int32)), (.int p3)])) t
      refine XS.iand X0.here hx rfl (hb hby at_64) rfl ?_
      show Steps p.tables e below (s₁.setTop (mkF m 65 #[.val (.int p1), .val (.int p2), .val (.int p3), .val (.int c1), .val (.int c2), .val (.int d1), .val (.int d2), .unset, .unset, .unset, .unset, .unset, .unset, .unset, .unset] [(.int (p3 &&& (1 : Int32)))])) t
      refine XS.ifNo X0.here hx rfl (hb hby at_65) rfl ((if0 _ _).trans (feq hq11).1) ?_
      show Steps p.tables e below (s₁.setTop (mkF m 68 #[.val (.int p1), .val (.int p2), .val (.int p3), .val (.int c1), .val (.int c2), .val (.int d1), .val (.int d2), .unset, .unset, .unset, .unset, .unset, .unset, .unset, .unset] [])) t
      refine XS.iconst X0.here hx rfl (hb hby at_68) ?_
      show Steps p.tables e below (s₁.setTop (mkF m 69 #[.val (.int p1), .val (.int p2), .val (.int p3), .val (.int c1), .val (.int c2), .val (.int d1), .val (.int d2), .unset, .unset, .unset, .unset, .unset, .unset, .unset, .unset] [(.int (1 : Int32))])) t
      refine XS.goto X0.here hx rfl (pc0 := 69) (pc' := 73) rfl (hb hby at_69) (by decide) (by decide) ?_
      exact k
  have ch12 : ∀ t, Steps p.tables e below (s₁.setTop (mkF m 73 #[.val (.int p1), .val (.int p2), .val (.int p3), .val (.int c1), .val (.int c2), .val (.int d1), .val (.int d2), .unset, .unset, .unset, .unset, .unset, .unset, .unset, .unset] [(.int x1)])) t → Steps p.tables e below (s₁.setTop (entryFrame m #[(.int p1), (.int p2), (.int p3)] maxLocals)) t := fun t k => ch9 t (sj10 t k)
  have ch13 : ∀ t, Steps p.tables e below (s₁.setTop (mkF m 75 #[.val (.int p1), .val (.int p2), .val (.int p3), .val (.int c1), .val (.int c2), .val (.int d1), .val (.int d2), .val (.int x1), .unset, .unset, .unset, .unset, .unset, .unset, .unset] [])) t → Steps p.tables e below (s₁.setTop (entryFrame m #[(.int p1), (.int p2), (.int p3)] maxLocals)) t := fun t k => ch12 t (by
      show Steps p.tables e below (s₁.setTop (mkF m 73 #[.val (.int p1), .val (.int p2), .val (.int p3), .val (.int c1), .val (.int c2), .val (.int d1), .val (.int d2), .unset, .unset, .unset, .unset, .unset, .unset, .unset, .unset] [(.int x1)])) t
      refine XS.istore X0.here hx rfl (hb hby at_73) rfl (l' := #[.val (.int p1), .val (.int p2), .val (.int p3), .val (.int c1), .val (.int c2), .val (.int d1), .val (.int d2), .val (.int x1), .unset, .unset, .unset, .unset, .unset, .unset, .unset]) rfl ?_
      exact k)
  obtain ⟨y1, hx_y1, sj14⟩ : ∃ y1 : Int32, (y1 = (0 : Int32) ∨ y1 = (1 : Int32)) ∧ ∀ t, Steps p.tables e below (s₁.setTop (mkF m 86 #[.val (.int p1), .val (.int p2), .val (.int p3), .val (.int c1), .val (.int c2), .val (.int d1), .val (.int d2), .val (.int x1), .unset, .unset, .unset, .unset, .unset, .unset, .unset] [(.int y1)])) t → Steps p.tables e below (s₁.setTop (mkF m 75 #[.val (.int p1), .val (.int p2), .val (.int p3), .val (.int c1), .val (.int c2), .val (.int d1), .val (.int d2), .val (.int x1), .unset, .unset, .unset, .unset, .unset, .unset, .unset] [])) t := by
    by_cases hq15 : (p3 &&& (2 : Int32)) = (0 : Int32)
    · skip
      refine ⟨(0 : Int32), (Or.inl rfl), fun t k => ?_⟩
      show Steps p.tables e below (s₁.setTop (mkF m 75 #[.val (.int p1), .val (.int p2), .val (.int p3), .val (.int c1), .val (.int c2), .val (.int d1), .val (.int d2), .val (.int x1), .unset, .unset, .unset, .unset, .unset, .unset, .unset] [])) t
      refine XS.iloadN X0.here hx rfl (hb hby at_75) rfl ?_
      show Steps p.tables e below (s₁.setTop (mkF m 76 #[.val (.int p1), .val (.int p2), .val (.int p3), .val (.int c1), .val (.int c2), .val (.int d1), .val (.int d2), .val (.int x1), .unset, .unset, .unset, .unset, .unset, .unset, .unset] [(.int p3)])) t
      refine XS.iconst X0.here hx rfl (hb hby at_76) ?_
      show Steps p.tables e below (s₁.setTop (mkF m 77 #[.val (.int p1), .val (.int p2), .val (.int p3), .val (.int c1), .val (.int c2), .val (.int d1), .val (.int d2), .val (.int x1), .unset, .unset, .unset, .unset, .unset, .unset, .unset] [(.int (2 : Int32)), (.int p3)])) t
      refine XS.iand X0.here hx rfl (hb hby at_77) rfl ?_
      show Steps p.tables e below (s₁.setTop (mkF m 78 #[.val (.int p1), .val (.int p2), .val (.int p3), .val (.int c1), .val (.int c2), .val (.int d1), .val (.int d2), .val (.int x1), .unset, .unset, .unset, .unset, .unset, .unset, .unset] [(.int (p3 &&& (2 : Int32)))])) t
      refine XS.ifYes X0.here hx rfl (pc0 := 78) (pc' := 85) rfl (hb hby at_78) rfl ((if0 _ _).trans (teq hq15).1) (by decide) (by decide) ?_
      show Steps p.tables e below (s₁.setTop (mkF m 85 #[.val (.int p1), .val (.int p2), .val (.int p3), .val (.int c1), .val (.int c2), .val (.int d1), .val (.int d2), .val (.int x1), .unset, .unset, .unset, .unset, .unset, .unset, .unset] [])) t
      refine XS.iconst X0.here hx rfl (hb hby at_85) ?_
      exact k
    · skip
      refine ⟨(1 : Int32), (Or.inr rfl), fun t k => ?_⟩
      show Steps p.tables e below (s₁.setTop (mkF m 75 #[.val (.int p1), .val (.int p2), .val (.int p3), .val (.int c1), .val (.int c2), .val (.int d1), .val (.int d2), .val (.int x1), .unset, .unset, .unset, .unset, .unset, .unset, .unset] [])) t
      refine XS.iloadN X0.here hx rfl (hb hby at_75) rfl ?_
      show Steps p.tables e below (s₁.setTop (mkF m 76 #[.val (.int p1), .val (.int p2), .val (.int p3), .val (.int c1), .val (.int c2), .val (.int d1), .val (.int d2), .val (.int x1), .unset, .unset, .unset, .unset, .unset, .unset, .unset] [(.int p3)])) t
      refine XS.iconst X0.here hx rfl (hb hby at_76) ?_
      show Steps p.tables e below (s₁.setTop (mkF m 77 #[.val (.int p1), .val (.int p2), .val (.int p3), .val (.int c1), .val (.int c2), .val (.int d1), .val (.int d2), .val (.int x1), .unset, .unset, .unset, .unset, .unset, .unset, .unset] [(.int (2 : Int32)), (.int p3)])) t
      refine XS.iand X0.here hx rfl (hb hby at_77) rfl ?_
      show Steps p.tables e below (s₁.setTop (mkF m 78 #[.val (.int p1), .val (.int p2), .val (.int p3), .val (.int c1), .val (.int c2), .val (.int d1), .val (.int d2), .val (.int x1), .unset, .unset, .unset, .unset, .unset, .unset, .unset] [(.int (p3 &&& (2 : Int32)))])) t
      refine XS.ifNo X0.here hx rfl (hb hby at_78) rfl ((if0 _ _).trans (feq hq15).1) ?_
      show Steps p.tables e below (s₁.setTop (mkF m 81 #[.val (.int p1), .val (.int p2), .val (.int p3), .val (.int c1), .val (.int c2), .val (.int d1), .val (.int d2), .val (.int x1), .unset, .unset, .unset, .unset, .unset, .unset, .unset] [])) t
      refine XS.iconst X0.here hx rfl (hb hby at_81) ?_
      show Steps p.tables e below (s₁.setTop (mkF m 82 #[.val (.int p1), .val (.int p2), .val (.int p3), .val (.int c1), .val (.int c2), .val (.int d1), .val (.int d2), .val (.int x1), .unset, .unset, .unset, .unset, .unset, .unset, .unset] [(.int (1 : Int32))])) t
      refine XS.goto X0.here hx rfl (pc0 := 82) (pc' := 86) rfl (hb hby at_82) (by decide) (by decide) ?_
      exact k
  have ch16 : ∀ t, Steps p.tables e below (s₁.setTop (mkF m 86 #[.val (.int p1), .val (.int p2), .val (.int p3), .val (.int c1), .val (.int c2), .val (.int d1), .val (.int d2), .val (.int x1), .unset, .unset, .unset, .unset, .unset, .unset, .unset] [(.int y1)])) t → Steps p.tables e below (s₁.setTop (entryFrame m #[(.int p1), (.int p2), (.int p3)] maxLocals)) t := fun t k => ch13 t (sj14 t k)
  have ch17 : ∀ t, Steps p.tables e below (s₁.setTop (mkF m 88 #[.val (.int p1), .val (.int p2), .val (.int p3), .val (.int c1), .val (.int c2), .val (.int d1), .val (.int d2), .val (.int x1), .val (.int y1), .unset, .unset, .unset, .unset, .unset, .unset] [])) t → Steps p.tables e below (s₁.setTop (entryFrame m #[(.int p1), (.int p2), (.int p3)] maxLocals)) t := fun t k => ch16 t (by
      show Steps p.tables e below (s₁.setTop (mkF m 86 #[.val (.int p1), .val (.int p2), .val (.int p3), .val (.int c1), .val (.int c2), .val (.int d1), .val (.int d2), .val (.int x1), .unset, .unset, .unset, .unset, .unset, .unset, .unset] [(.int y1)])) t
      refine XS.istore X0.here hx rfl (hb hby at_86) rfl (l' := #[.val (.int p1), .val (.int p2), .val (.int p3), .val (.int c1), .val (.int c2), .val (.int d1), .val (.int d2), .val (.int x1), .val (.int y1), .unset, .unset, .unset, .unset, .unset, .unset]) rfl ?_
      exact k)
  obtain ⟨x2, hx_x2, sj18⟩ : ∃ x2 : Int32, (x2 = (0 : Int32) ∨ x2 = (1 : Int32)) ∧ ∀ t, Steps p.tables e below (s₁.setTop (mkF m 99 #[.val (.int p1), .val (.int p2), .val (.int p3), .val (.int c1), .val (.int c2), .val (.int d1), .val (.int d2), .val (.int x1), .val (.int y1), .unset, .unset, .unset, .unset, .unset, .unset] [(.int x2)])) t → Steps p.tables e below (s₁.setTop (mkF m 88 #[.val (.int p1), .val (.int p2), .val (.int p3), .val (.int c1), .val (.int c2), .val (.int d1), .val (.int d2), .val (.int x1), .val (.int y1), .unset, .unset, .unset, .unset, .unset, .unset] [])) t := by
    by_cases hq19 : (p3 &&& (4 : Int32)) = (0 : Int32)
    · skip
      refine ⟨(0 : Int32), (Or.inl rfl), fun t k => ?_⟩
      show Steps p.tables e below (s₁.setTop (mkF m 88 #[.val (.int p1), .val (.int p2), .val (.int p3), .val (.int c1), .val (.int c2), .val (.int d1), .val (.int d2), .val (.int x1), .val (.int y1), .unset, .unset, .unset, .unset, .unset, .unset] [])) t
      refine XS.iloadN X0.here hx rfl (hb hby at_88) rfl ?_
      show Steps p.tables e below (s₁.setTop (mkF m 89 #[.val (.int p1), .val (.int p2), .val (.int p3), .val (.int c1), .val (.int c2), .val (.int d1), .val (.int d2), .val (.int x1), .val (.int y1), .unset, .unset, .unset, .unset, .unset, .unset] [(.int p3)])) t
      refine XS.iconst X0.here hx rfl (hb hby at_89) ?_
      show Steps p.tables e below (s₁.setTop (mkF m 90 #[.val (.int p1), .val (.int p2), .val (.int p3), .val (.int c1), .val (.int c2), .val (.int d1), .val (.int d2), .val (.int x1), .val (.int y1), .unset, .unset, .unset, .unset, .unset, .unset] [(.int (4 : Int32)), (.int p3)])) t
      refine XS.iand X0.here hx rfl (hb hby at_90) rfl ?_
      show Steps p.tables e below (s₁.setTop (mkF m 91 #[.val (.int p1), .val (.int p2), .val (.int p3), .val (.int c1), .val (.int c2), .val (.int d1), .val (.int d2), .val (.int x1), .val (.int y1), .unset, .unset, .unset, .unset, .unset, .unset] [(.int (p3 &&& (4 : Int32)))])) t
      refine XS.ifYes X0.here hx rfl (pc0 := 91) (pc' := 98) rfl (hb hby at_91) rfl ((if0 _ _).trans (teq hq19).1) (by decide) (by decide) ?_
      show Steps p.tables e below (s₁.setTop (mkF m 98 #[.val (.int p1), .val (.int p2), .val (.int p3), .val (.int c1), .val (.int c2), .val (.int d1), .val (.int d2), .val (.int x1), .val (.int y1), .unset, .unset, .unset, .unset, .unset, .unset] [])) t
      refine XS.iconst X0.here hx rfl (hb hby at_98) ?_
      exact k
    · skip
      refine ⟨(1 : Int32), (Or.inr rfl), fun t k => ?_⟩
      show Steps p.tables e below (s₁.setTop (mkF m 88 #[.val (.int p1), .val (.int p2), .val (.int p3), .val (.int c1), .val (.int c2), .val (.int d1), .val (.int d2), .val (.int x1), .val (.int y1), .unset, .unset, .unset, .unset, .unset, .unset] [])) t
      refine XS.iloadN X0.here hx rfl (hb hby at_88) rfl ?_
      show Steps p.tables e below (s₁.setTop (mkF m 89 #[.val (.int p1), .val (.int p2), .val (.int p3), .val (.int c1), .val (.int c2), .val (.int d1), .val (.int d2), .val (.int x1), .val (.int y1), .unset, .unset, .unset, .unset, .unset, .unset] [(.int p3)])) t
      refine XS.iconst X0.here hx rfl (hb hby at_89) ?_
      show Steps p.tables e below (s₁.setTop (mkF m 90 #[.val (.int p1), .val (.int p2), .val (.int p3), .val (.int c1), .val (.int c2), .val (.int d1), .val (.int d2), .val (.int x1), .val (.int y1), .unset, .unset, .unset, .unset, .unset, .unset] [(.int (4 : Int32)), (.int p3)])) t
      refine XS.iand X0.here hx rfl (hb hby at_90) rfl ?_
      show Steps p.tables e below (s₁.setTop (mkF m 91 #[.val (.int p1), .val (.int p2), .val (.int p3), .val (.int c1), .val (.int c2), .val (.int d1), .val (.int d2), .val (.int x1), .val (.int y1), .unset, .unset, .unset, .unset, .unset, .unset] [(.int (p3 &&& (4 : Int32)))])) t
      refine XS.ifNo X0.here hx rfl (hb hby at_91) rfl ((if0 _ _).trans (feq hq19).1) ?_
      show Steps p.tables e below (s₁.setTop (mkF m 94 #[.val (.int p1), .val (.int p2), .val (.int p3), .val (.int c1), .val (.int c2), .val (.int d1), .val (.int d2), .val (.int x1), .val (.int y1), .unset, .unset, .unset, .unset, .unset, .unset] [])) t
      refine XS.iconst X0.here hx rfl (hb hby at_94) ?_
      show Steps p.tables e below (s₁.setTop (mkF m 95 #[.val (.int p1), .val (.int p2), .val (.int p3), .val (.int c1), .val (.int c2), .val (.int d1), .val (.int d2), .val (.int x1), .val (.int y1), .unset, .unset, .unset, .unset, .unset, .unset] [(.int (1 : Int32))])) t
      refine XS.goto X0.here hx rfl (pc0 := 95) (pc' := 99) rfl (hb hby at_95) (by decide) (by decide) ?_
      exact k
  have ch20 : ∀ t, Steps p.tables e below (s₁.setTop (mkF m 99 #[.val (.int p1), .val (.int p2), .val (.int p3), .val (.int c1), .val (.int c2), .val (.int d1), .val (.int d2), .val (.int x1), .val (.int y1), .unset, .unset, .unset, .unset, .unset, .unset] [(.int x2)])) t → Steps p.tables e below (s₁.setTop (entryFrame m #[(.int p1), (.int p2), (.int p3)] maxLocals)) t := fun t k => ch17 t (sj18 t k)
  have ch21 : ∀ t, Steps p.tables e below (s₁.setTop (mkF m 101 #[.val (.int p1), .val (.int p2), .val (.int p3), .val (.int c1), .val (.int c2), .val (.int d1), .val (.int d2), .val (.int x1), .val (.int y1), .val (.int x2), .unset, .unset, .unset, .unset, .unset] [])) t → Steps p.tables e below (s₁.setTop (entryFrame m #[(.int p1), (.int p2), (.int p3)] maxLocals)) t := fun t k => ch20 t (by
      show Steps p.tables e below (s₁.setTop (mkF m 99 #[.val (.int p1), .val (.int p2), .val (.int p3), .val (.int c1), .val (.int c2), .val (.int d1), .val (.int d2), .val (.int x1), .val (.int y1), .unset, .unset, .unset, .unset, .unset, .unset] [(.int x2)])) t
      refine XS.istore X0.here hx rfl (hb hby at_99) rfl (l' := #[.val (.int p1), .val (.int p2), .val (.int p3), .val (.int c1), .val (.int c2), .val (.int d1), .val (.int d2), .val (.int x1), .val (.int y1), .val (.int x2), .unset, .unset, .unset, .unset, .unset]) rfl ?_
      exact k)
  obtain ⟨y2, hx_y2, sj22⟩ : ∃ y2 : Int32, (y2 = (0 : Int32) ∨ y2 = (1 : Int32)) ∧ ∀ t, Steps p.tables e below (s₁.setTop (mkF m 113 #[.val (.int p1), .val (.int p2), .val (.int p3), .val (.int c1), .val (.int c2), .val (.int d1), .val (.int d2), .val (.int x1), .val (.int y1), .val (.int x2), .unset, .unset, .unset, .unset, .unset] [(.int y2)])) t → Steps p.tables e below (s₁.setTop (mkF m 101 #[.val (.int p1), .val (.int p2), .val (.int p3), .val (.int c1), .val (.int c2), .val (.int d1), .val (.int d2), .val (.int x1), .val (.int y1), .val (.int x2), .unset, .unset, .unset, .unset, .unset] [])) t := by
    by_cases hq23 : (p3 &&& (8 : Int32)) = (0 : Int32)
    · skip
      refine ⟨(0 : Int32), (Or.inl rfl), fun t k => ?_⟩
      show Steps p.tables e below (s₁.setTop (mkF m 101 #[.val (.int p1), .val (.int p2), .val (.int p3), .val (.int c1), .val (.int c2), .val (.int d1), .val (.int d2), .val (.int x1), .val (.int y1), .val (.int x2), .unset, .unset, .unset, .unset, .unset] [])) t
      refine XS.iloadN X0.here hx rfl (hb hby at_101) rfl ?_
      show Steps p.tables e below (s₁.setTop (mkF m 102 #[.val (.int p1), .val (.int p2), .val (.int p3), .val (.int c1), .val (.int c2), .val (.int d1), .val (.int d2), .val (.int x1), .val (.int y1), .val (.int x2), .unset, .unset, .unset, .unset, .unset] [(.int p3)])) t
      refine XS.bipush X0.here hx rfl (hb hby at_102) ?_
      show Steps p.tables e below (s₁.setTop (mkF m 104 #[.val (.int p1), .val (.int p2), .val (.int p3), .val (.int c1), .val (.int c2), .val (.int d1), .val (.int d2), .val (.int x1), .val (.int y1), .val (.int x2), .unset, .unset, .unset, .unset, .unset] [(.int (8 : Int32)), (.int p3)])) t
      refine XS.iand X0.here hx rfl (hb hby at_104) rfl ?_
      show Steps p.tables e below (s₁.setTop (mkF m 105 #[.val (.int p1), .val (.int p2), .val (.int p3), .val (.int c1), .val (.int c2), .val (.int d1), .val (.int d2), .val (.int x1), .val (.int y1), .val (.int x2), .unset, .unset, .unset, .unset, .unset] [(.int (p3 &&& (8 : Int32)))])) t
      refine XS.ifYes X0.here hx rfl (pc0 := 105) (pc' := 112) rfl (hb hby at_105) rfl ((if0 _ _).trans (teq hq23).1) (by decide) (by decide) ?_
      show Steps p.tables e below (s₁.setTop (mkF m 112 #[.val (.int p1), .val (.int p2), .val (.int p3), .val (.int c1), .val (.int c2), .val (.int d1), .val (.int d2), .val (.int x1), .val (.int y1), .val (.int x2), .unset, .unset, .unset, .unset, .unset] [])) t
      refine XS.iconst X0.here hx rfl (hb hby at_112) ?_
      exact k
    · skip
      refine ⟨(1 : Int32), (Or.inr rfl), fun t k => ?_⟩
      show Steps p.tables e below (s₁.setTop (mkF m 101 #[.val (.int p1), .val (.int p2), .val (.int p3), .val (.int c1), .val (.int c2), .val (.int d1), .val (.int d2), .val (.int x1), .val (.int y1), .val (.int x2), .unset, .unset, .unset, .unset, .unset] [])) t
      refine XS.iloadN X0.here hx rfl (hb hby at_101) rfl ?_
      show Steps p.tables e below (s₁.setTop (mkF m 102 #[.val (.int p1), .val (.int p2), .val (.int p3), .val (.int c1), .val (.int c2), .val (.int d1), .val (.int d2), .val (.int x1), .val (.int y1), .val (.int x2), .unset, .unset, .unset, .unset, .unset] [(.int p3)])) t
      refine XS.bipush X0.here hx rfl (hb hby at_102) ?_
      show Steps p.tables e below (s₁.setTop (mkF m 104 #[.val (.int p1), .val (.int p2), .val (.int p3), .val (.int c1), .val (.int c2), .val (.int d1), .val (.int d2), .val (.int x1), .val (.int y1), .val (.int x2), .unset, .unset, .unset, .unset, .unset] [(.int (8 : Int32)), (.int p3)])) t
      refine XS.iand X0.here hx rfl (hb hby at_104) rfl ?_
      show Steps p.tables e below (s₁.setTop (mkF m 105 #[.val (.int p1), .val (.int p2), .val (.int p3), .val (.int c1), .val (.int c2), .val (.int d1), .val (.int d2), .val (.int x1), .val (.int y1), .val (.int x2), .unset, .unset, .unset, .unset, .unset] [(.int (p3 &&& (8 : Int32)))])) t
      refine XS.ifNo X0.here hx rfl (hb hby at_105) rfl ((if0 _ _).trans (feq hq23).1) ?_
      show Steps p.tables e below (s₁.setTop (mkF m 108 #[.val (.int p1), .val (.int p2), .val (.int p3), .val (.int c1), .val (.int c2), .val (.int d1), .val (.int d2), .val (.int x1), .val (.int y1), .val (.int x2), .unset, .unset, .unset, .unset, .unset] [])) t
      refine XS.iconst X0.here hx rfl (hb hby at_108) ?_
      show Steps p.tables e below (s₁.setTop (mkF m 109 #[.val (.int p1), .val (.int p2), .val (.int p3), .val (.int c1), .val (.int c2), .val (.int d1), .val (.int d2), .val (.int x1), .val (.int y1), .val (.int x2), .unset, .unset, .unset, .unset, .unset] [(.int (1 : Int32))])) t
      refine XS.goto X0.here hx rfl (pc0 := 109) (pc' := 113) rfl (hb hby at_109) (by decide) (by decide) ?_
      exact k
  have ch24 : ∀ t, Steps p.tables e below (s₁.setTop (mkF m 113 #[.val (.int p1), .val (.int p2), .val (.int p3), .val (.int c1), .val (.int c2), .val (.int d1), .val (.int d2), .val (.int x1), .val (.int y1), .val (.int x2), .unset, .unset, .unset, .unset, .unset] [(.int y2)])) t → Steps p.tables e below (s₁.setTop (entryFrame m #[(.int p1), (.int p2), (.int p3)] maxLocals)) t := fun t k => ch21 t (sj22 t k)
  obtain ⟨T25, hp25, X25, e25, E25, A25, D25, -, st25⟩ := newO X0 hx hZ hown (hw _ (List.mem_of_getElem? (i := 0) rfl)) (hw _ (List.mem_of_getElem? (i := 1) rfl)) (hw _ (List.mem_of_getElem? (i := 2) rfl)) e0 (g := (mkF m 123 #[.val (.int p1), .val (.int p2), .val (.int p3), .val (.int c1), .val (.int c2), .val (.int d1), .val (.int d2), .val (.int x1), .val (.int y1), .val (.int x2), .val (.int y2), .val (.int (3 : Int32)), .unset, .unset, .unset] [])) rfl (hb hby at_123) (by decide) (by decide)
  obtain ⟨b25, g25⟩ : ∃ z, z = h0.size := ⟨_, rfl⟩
  rw [← g25] at A25 D25 st25
  have g_b25 : n0 ≤ b25 := Nat.le_trans (Nat.le_trans Z0 (Keep.refl h0 []).1) (Nat.le_of_eq g25.symm)
  have sz_b25 : h0.size ≤ b25 := Nat.le_trans (Keep.refl h0 []).1 (Nat.le_of_eq g25.symm)
  have hk := Nat.le_trans hk E25.1
  have Kp25 := Keep.ext (Keep.refl h0 []) E25
  have F25_46 : Fld Z hp25 b25 "com/example/nokkel/nokkel/core/ClientRecord" "owner" "Ljava/lang/String;" .null := D25 (Or.inr (hw _ (List.mem_of_getElem? (i := 46) rfl))) (ty := (.object "java/lang/String")) (by decide)
  have F25_49 : Fld Z hp25 b25 "com/example/nokkel/nokkel/core/ClientRecord" "verifier" "Ljava/lang/String;" .null := D25 (Or.inr (hw _ (List.mem_of_getElem? (i := 49) rfl))) (ty := (.object "java/lang/String")) (by decide)
  have F25_51 : Fld Z hp25 b25 "com/example/nokkel/nokkel/core/ClientRecord" "locksRevoked" "Z" (.int (0 : Int32)) := D25 (Or.inr (hw _ (List.mem_of_getElem? (i := 51) rfl))) (ty := .boolean) (by decide)
  have F25_53 : Fld Z hp25 b25 "com/example/nokkel/nokkel/core/ClientRecord" "graceMissed" "Z" (.int (0 : Int32)) := D25 (Or.inr (hw _ (List.mem_of_getElem? (i := 53) rfl))) (ty := .boolean) (by decide)
  have ch26 : ∀ t, Steps p.tables e below (T25.setTop (mkF m 126 #[.val (.int p1), .val (.int p2), .val (.int p3), .val (.int c1), .val (.int c2), .val (.int d1), .val (.int d2), .val (.int x1), .val (.int y1), .val (.int x2), .val (.int y2), .val (.int (3 : Int32)), .unset, .unset, .unset] [(.ref b25)])) t → Steps p.tables e below (s₁.setTop (entryFrame m #[(.int p1), (.int p2), (.int p3)] maxLocals)) t := fun t k => ch24 t (by
      show Steps p.tables e below (s₁.setTop (mkF m 113 #[.val (.int p1), .val (.int p2), .val (.int p3), .val (.int c1), .val (.int c2), .val (.int d1), .val (.int d2), .val (.int x1), .val (.int y1), .val (.int x2), .unset, .unset, .unset, .unset, .unset] [(.int y2)])) t
      refine XS.istore X0.here hx rfl (hb hby at_113) rfl (l' := #[.val (.int p1), .val (.int p2), .val (.int p3), .val (.int c1), .val (.int c2), .val (.int d1), .val (.int d2), .val (.int x1), .val (.int y1), .val (.int x2), .val (.int y2), .unset, .unset, .unset, .unset]) rfl ?_
      show Steps p.tables e below (s₁.setTop (mkF m 115 #[.val (.int p1), .val (.int p2), .val (.int p3), .val (.int c1), .val (.int c2), .val (.int d1), .val (.int d2), .val (.int x1), .val (.int y1), .val (.int x2), .val (.int y2), .unset, .unset, .unset, .unset] [])) t
      refine XS.iloadN X0.here hx rfl (hb hby at_115) rfl ?_
      show Steps p.tables e below (s₁.setTop (mkF m 116 #[.val (.int p1), .val (.int p2), .val (.int p3), .val (.int c1), .val (.int c2), .val (.int d1), .val (.int d2), .val (.int x1), .val (.int y1), .val (.int x2), .val (.int y2), .unset, .unset, .unset, .unset] [(.int p3)])) t
      refine XS.bipush X0.here hx rfl (hb hby at_116) ?_
      show Steps p.tables e below (s₁.setTop (mkF m 118 #[.val (.int p1), .val (.int p2), .val (.int p3), .val (.int c1), .val (.int c2), .val (.int d1), .val (.int d2), .val (.int x1), .val (.int y1), .val (.int x2), .val (.int y2), .unset, .unset, .unset, .unset] [(.int (6 : Int32)), (.int p3)])) t
      refine XS.iushr X0.here hx rfl (hb hby at_118) rfl ?_
      show Steps p.tables e below (s₁.setTop (mkF m 119 #[.val (.int p1), .val (.int p2), .val (.int p3), .val (.int c1), .val (.int c2), .val (.int d1), .val (.int d2), .val (.int x1), .val (.int y1), .val (.int x2), .val (.int y2), .unset, .unset, .unset, .unset] [(.int ((p3.toUInt32 >>> ((6 : Int32) &&& 31).toUInt32).toInt32))])) t
      refine XS.iconst X0.here hx rfl (hb hby at_119) ?_
      show Steps p.tables e below (s₁.setTop (mkF m 120 #[.val (.int p1), .val (.int p2), .val (.int p3), .val (.int c1), .val (.int c2), .val (.int d1), .val (.int d2), .val (.int x1), .val (.int y1), .val (.int x2), .val (.int y2), .unset, .unset, .unset, .unset] [(.int (3 : Int32)), (.int ((p3.toUInt32 >>> ((6 : Int32) &&& 31).toUInt32).toInt32))])) t
      refine XS.iand X0.here hx rfl (hb hby at_120) rfl ?_
      rw [hKk]
      show Steps p.tables e below (s₁.setTop (mkF m 121 #[.val (.int p1), .val (.int p2), .val (.int p3), .val (.int c1), .val (.int c2), .val (.int d1), .val (.int d2), .val (.int x1), .val (.int y1), .val (.int x2), .val (.int y2), .unset, .unset, .unset, .unset] [(.int (3 : Int32))])) t
      refine XS.istore X0.here hx rfl (hb hby at_121) rfl (l' := #[.val (.int p1), .val (.int p2), .val (.int p3), .val (.int c1), .val (.int c2), .val (.int d1), .val (.int d2), .val (.int x1), .val (.int y1), .val (.int x2), .val (.int y2), .val (.int (3 : Int32)), .unset, .unset, .unset]) rfl ?_
      show Steps p.tables e below (s₁.setTop (mkF m 123 #[.val (.int p1), .val (.int p2), .val (.int p3), .val (.int c1), .val (.int c2), .val (.int d1), .val (.int d2), .val (.int x1), .val (.int y1), .val (.int x2), .val (.int y2), .val (.int (3 : Int32)), .unset, .unset, .unset] [])) t
      exact st25 t k)
  obtain ⟨T27, hp27, X27, e27, E27, A27, D27, -, st27⟩ := newO X25 hx hZ hown (hw _ (List.mem_of_getElem? (i := 3) rfl)) (hw _ (List.mem_of_getElem? (i := 4) rfl)) (hw _ (List.mem_of_getElem? (i := 5) rfl)) e25 (g := (mkF m 127 #[.val (.int p1), .val (.int p2), .val (.int p3), .val (.int c1), .val (.int c2), .val (.int d1), .val (.int d2), .val (.int x1), .val (.int y1), .val (.int x2), .val (.int y2), .val (.int (3 : Int32)), .unset, .unset, .unset] [(.ref b25), (.ref b25)])) rfl (hb hby at_127) (by decide) (by decide)
  obtain ⟨b27, g27⟩ : ∃ z, z = hp25.size := ⟨_, rfl⟩
  rw [← g27] at A27 D27 st27
  have ne_b25_b27 : b25 ≠ b27 := Nat.ne_of_lt (Nat.lt_of_lt_of_le A25.lt (Nat.le_of_eq g27.symm))
  have g_b27 : n0 ≤ b27 := Nat.le_trans (Nat.le_trans Z0 Kp25.1) (Nat.le_of_eq g27.symm)
  have sz_b27 : h0.size ≤ b27 := Nat.le_trans Kp25.1 (Nat.le_of_eq g27.symm)
  have hk := Nat.le_trans hk E27.1
  have Kp27 := Keep.ext Kp25 E27
  have F27_30 : Fld Z hp27 b27 "java/lang/String" "coder" "B" (.int (0 : Int32)) := D27 (Or.inr (hw _ (List.mem_of_getElem? (i := 30) rfl))) (ty := .byte) (by decide)
  have F27_32 : Fld Z hp27 b27 "java/lang/String" "value" "[B" .null := D27 (Or.inr (hw _ (List.mem_of_getElem? (i := 32) rfl))) (ty := (.array .byte)) (by decide)
  have ch28 : ∀ t, Steps p.tables e below (T27.setTop (mkF m 130 #[.val (.int p1), .val (.int p2), .val (.int p3), .val (.int c1), .val (.int c2), .val (.int d1), .val (.int d2), .val (.int x1), .val (.int y1), .val (.int x2), .val (.int y2), .val (.int (3 : Int32)), .unset, .unset, .unset] [(.ref b27), (.ref b25), (.ref b25)])) t → Steps p.tables e below (s₁.setTop (entryFrame m #[(.int p1), (.int p2), (.int p3)] maxLocals)) t := fun t k => ch26 t (by
      show Steps p.tables e below (T25.setTop (mkF m 126 #[.val (.int p1), .val (.int p2), .val (.int p3), .val (.int c1), .val (.int c2), .val (.int d1), .val (.int d2), .val (.int x1), .val (.int y1), .val (.int x2), .val (.int y2), .val (.int (3 : Int32)), .unset, .unset, .unset] [(.ref b25)])) t
      refine XS.dup X25.here hx rfl (hb hby at_126) rfl rfl ?_
      show Steps p.tables e below (T25.setTop (mkF m 127 #[.val (.int p1), .val (.int p2), .val (.int p3), .val (.int c1), .val (.int c2), .val (.int d1), .val (.int d2), .val (.int x1), .val (.int y1), .val (.int x2), .val (.int y2), .val (.int (3 : Int32)), .unset, .unset, .unset] [(.ref b25), (.ref b25)])) t
      exact st27 t k)
  obtain ⟨T29, hp29, k29, X29, e29, E29, A29, st29⟩ := newP X27 hx hZ (hw _ (List.mem_of_getElem? (i := 6) rfl)) e27 (g := (mkF m 132 #[.val (.int p1), .val (.int p2), .val (.int p3), .val (.int c1), .val (.int c2), .val (.int d1), .val (.int d2), .val (.int x1), .val (.int y1), .val (.int x2), .val (.int y2), .val (.int (3 : Int32)), .unset, .unset, .unset] [(.int (1 : Int32)), (.ref b27), (.ref b27), (.ref b25), (.ref b25)])) rfl (hb hby at_132) rfl (by decide) (cap := 1) (by decide) (by decide) (by decide) (by decide)
  obtain ⟨b29, g29⟩ : ∃ z, z = hp27.size := ⟨_, rfl⟩
  rw [← g29] at A29 st29
  have cf30 := (A25.ext E27)
  have ne_b25_b29 : b25 ≠ b29 := Nat.ne_of_lt (Nat.lt_of_lt_of_le cf30.lt (Nat.le_of_eq g29.symm))
  have ne_b27_b29 : b27 ≠ b29 := Nat.ne_of_lt (Nat.lt_of_lt_of_le A27.lt (Nat.le_of_eq g29.symm))
  have g_b29 : n0 ≤ b29 := Nat.le_trans (Nat.le_trans Z0 Kp27.1) (Nat.le_of_eq g29.symm)
  have sz_b29 : h0.size ≤ b29 := Nat.le_trans Kp27.1 (Nat.le_of_eq g29.symm)
  have hk := Nat.le_trans hk E29.1
  have Kp29 := Keep.ext Kp27 E29
  have V29 : Arv Z hp29 b29 k29 .char (1 : Int32) [(.int (0 : Int32))] (.int (0 : Int32)) := (Arv.new A29 (by decide)).pad (pad_rep [] (.int (0 : Int32)) 1)
  have ch31 : ∀ t, Steps p.tables e below (T29.setTop (mkF m 134 #[.val (.int p1), .val (.int p2), .val (.int p3), .val (.int c1), .val (.int c2), .val (.int d1), .val (.int d2), .val (.int x1), .val (.int y1), .val (.int x2), .val (.int y2), .val (.int (3 : Int32)), .unset, .unset, .unset] [(.ref b29), (.ref b27), (.ref b27), (.ref b25), (.ref b25)])) t → Steps p.tables e below (s₁.setTop (entryFrame m #[(.int p1), (.int p2), (.int p3)] maxLocals)) t := fun t k => ch28 t (by
      show Steps p.tables e below (T27.setTop (mkF m 130 #[.val (.int p1), .val (.int p2), .val (.int p3), .val (.int c1), .val (.int c2), .val (.int d1), .val (.int d2), .val (.int x1), .val (.int y1), .val (.int x2), .val (.int y2), .val (.int (3 : Int32)), .unset, .unset, .unset] [(.ref b27), (.ref b25), (.ref b25)])) t
      refine XS.dup X27.here hx rfl (hb hby at_130) rfl rfl ?_
      show Steps p.tables e below (T27.setTop (mkF m 131 #[.val (.int p1), .val (.int p2), .val (.int p3), .val (.int c1), .val (.int c2), .val (.int d1), .val (.int d2), .val (.int x1), .val (.int y1), .val (.int x2), .val (.int y2), .val (.int (3 : Int32)), .unset, .unset, .unset] [(.ref b27), (.ref b27), (.ref b25), (.ref b25)])) t
      refine XS.iconst X27.here hx rfl (hb hby at_131) ?_
      show Steps p.tables e below (T27.setTop (mkF m 132 #[.val (.int p1), .val (.int p2), .val (.int p3), .val (.int c1), .val (.int c2), .val (.int d1), .val (.int d2), .val (.int x1), .val (.int y1), .val (.int x2), .val (.int y2), .val (.int (3 : Int32)), .unset, .unset, .unset] [(.int (1 : Int32)), (.ref b27), (.ref b27), (.ref b25), (.ref b25)])) t
      exact st29 t k)
  obtain ⟨cl32, Ar32, qq32, Sz32, Ng32, Ha32, Ga32⟩ := id V29
  have hin32 : ¬ ((0 : Int32) < 0 ∨ cl32.slots.size ≤ ((0 : Int32)).toNatClampNeg) := inb_of Sz32 (by decide)
  obtain ⟨T33, hp33, X33, e33, W33, st33⟩ := stC X29 hx hZ e29 Ar32 (j := (0 : Int32)) hin32 (g := (mkF m 137 #[.val (.int p1), .val (.int p2), .val (.int p3), .val (.int c1), .val (.int c2), .val (.int d1), .val (.int d2), .val (.int x1), .val (.int y1), .val (.int x2), .val (.int y2), .val (.int (3 : Int32)), .unset, .unset, .unset] [(.int c1), (.int (0 : Int32)), (.ref b29), (.ref b29), (.ref b27), (.ref b27), (.ref b25), (.ref b25)])) rfl rfl (hb hby at_137)
  have ch34 : ∀ t, Steps p.tables e below (T33.setTop (mkF m 138 #[.val (.int p1), .val (.int p2), .val (.int p3), .val (.int c1), .val (.int c2), .val (.int d1), .val (.int d2), .val (.int x1), .val (.int y1), .val (.int x2), .val (.int y2), .val (.int (3 : Int32)), .unset, .unset, .unset] [(.ref b29), (.ref b27), (.ref b27), (.ref b25), (.ref b25)])) t → Steps p.tables e below (s₁.setTop (entryFrame m #[(.int p1), (.int p2), (.int p3)] maxLocals)) t := fun t k => ch31 t (by
      show Steps p.tables e below (T29.setTop (mkF m 134 #[.val (.int p1), .val (.int p2), .val (.int p3), .val (.int c1), .val (.int c2), .val (.int d1), .val (.int d2), .val (.int x1), .val (.int y1), .val (.int x2), .val (.int y2), .val (.int (3 : Int32)), .unset, .unset, .unset] [(.ref b29), (.ref b27), (.ref b27), (.ref b25), (.ref b25)])) t
      refine XS.dup X29.here hx rfl (hb hby at_134) rfl rfl ?_
      show Steps p.tables e below (T29.setTop (mkF m 135 #[.val (.int p1), .val (.int p2), .val (.int p3), .val (.int c1), .val (.int c2), .val (.int d1), .val (.int d2), .val (.int x1), .val (.int y1), .val (.int x2), .val (.int y2), .val (.int (3 : Int32)), .unset, .unset, .unset] [(.ref b29), (.ref b29), (.ref b27), (.ref b27), (.ref b25), (.ref b25)])) t
      refine XS.iconst X29.here hx rfl (hb hby at_135) ?_
      show Steps p.tables e below (T29.setTop (mkF m 136 #[.val (.int p1), .val (.int p2), .val (.int p3), .val (.int c1), .val (.int c2), .val (.int d1), .val (.int d2), .val (.int x1), .val (.int y1), .val (.int x2), .val (.int y2), .val (.int (3 : Int32)), .unset, .unset, .unset] [(.int (0 : Int32)), (.ref b29), (.ref b29), (.ref b27), (.ref b27), (.ref b25), (.ref b25)])) t
      refine XS.iloadN X29.here hx rfl (hb hby at_136) rfl ?_
      show Steps p.tables e below (T29.setTop (mkF m 137 #[.val (.int p1), .val (.int p2), .val (.int p3), .val (.int c1), .val (.int c2), .val (.int d1), .val (.int d2), .val (.int x1), .val (.int y1), .val (.int x2), .val (.int y2), .val (.int (3 : Int32)), .unset, .unset, .unset] [(.int c1), (.int (0 : Int32)), (.ref b29), (.ref b29), (.ref b27), (.ref b27), (.ref b25), (.ref b25)])) t
      exact st33 t k)
  have V33 : Arv Z hp33 b29 k29 .char (1 : Int32) [(.int (nar .char c1))] (.int (0 : Int32)) := Arv.set Ar32 qq32 Sz32 Ng32 Ha32 Ga32 (fits_nar_char _) W33 0 rfl (Nat.le_of_ble_eq_true rfl)
  rw [own_narc hx_c1] at V33
  have hk := Nat.le_trans hk (Keep.of_wr W33).1
  have N33 := Fr.snoc X33 N0 g_b29
  have Kp33 := Keep.wr Kp29 W33 (Or.inr sz_b29)
  have hp35 : ∀ c ∈ ([c1] : List Int32), ¬ c < 0 ∧ ¬ (255 : Int32) < c := by
    intro c hc
    simp only [List.mem_cons, List.not_mem_nil, or_false] at hc
    rcases hc with rfl
    · exact hx_c1
  have cf36 := (Exa.wr W33 (A27.ext E29))
  have cf37 := (Fld.other W33 (F27_32.ext E29) (Or.inl ne_b27_b29))
  have cf38 := (Fld.other W33 (F27_30.ext E29) (Or.inl ne_b27_b29))
  have cf39 := (own_sta_keep S_CS Kp33 all0)
  have cf40 := (Exa.wr W33 (cf30.ext E29))
  obtain ⟨vv41, _, ⟨T41, L41, kk41, nn41⟩, -, X41, ⟨Lc41, hQ41, l41, y41, z41⟩, st41⟩ := X33.specialBack hx (y := (⟨"java/lang/String", "<init>", "([C)V"⟩ : MethodName)) rfl hown (mvT hZ (hw _ (List.mem_of_getElem? (i := 7) rfl))) (mvT hZ (hw _ (List.mem_of_getElem? (i := 8) rfl))) (mvT hZ (hw _ (List.mem_of_getElem? (i := 9) rfl))) (by decide) (StrChars.Road.backV (W := 3) hZ (own_words hw) (kI := 4) (hw _ (List.mem_of_getElem? (i := 4) rfl)) (cs := ([c1] : List Int32)) (bs := (([c1] : List Int32)).map (fun c => c.toInt8.toInt32)) (n := 1) g_b27 (Nat.le_trans Z0 Kp33.1) cf36 cf37 cf38 V33 cf39 P5 rfl rfl (by decide) (by decide) hp35 rfl (by decide) (by decide)) (g := (mkF m 138 #[.val (.int p1), .val (.int p2), .val (.int p3), .val (.int c1), .val (.int c2), .val (.int d1), .val (.int d2), .val (.int x1), .val (.int y1), .val (.int x2), .val (.int y2), .val (.int (3 : Int32)), .unset, .unset, .unset] [(.ref b29), (.ref b27), (.ref b27), (.ref b25), (.ref b25)])) rfl (by rw [hml]; rfl) (Steps.refl _) (a := b27) (argsL := [(.ref b29)]) (rest := [(.ref b27), (.ref b25), (.ref b25)]) (lenOf own_pd___C_V rfl) rfl (by show 2 * 0 + _ ≤ _; exact Nat.le_of_eq rfl) (hb hby at_138) (fun _ _ => ⟨rfl, e33, (by decide : 3 + 1 ≤ _), (by decide : 9 + 1 ≤ _)⟩)
  dsimp only [Pt.U, Pt.locs, Pt.cells, Pt.slots] at X41 l41 y41 z41 st41 hQ41
  subst l41 y41 z41
  obtain ⟨hh41, eh41⟩ : ∃ h, T41.heap = h := ⟨_, rfl⟩
  rw [eh41] at hQ41
  obtain ⟨rfl, Nq41, Kq41, fq41_0, fq41_1⟩ := hQ41
  have N41 := Fr.app N33 Nq41
  have hk := Nat.le_trans hk Kq41.1
  have Kp41 := Keep.trans Kp33 Kq41 (allS (Or.inr sz_b27) all0)
  obtain ⟨fc41, tb41, kb41, ut41, vt41, wt41, fv41, av41⟩ := fq41_1
  have ne_b25_tb41 : b25 ≠ tb41 := Nat.ne_of_lt (Nat.lt_of_lt_of_le cf40.lt vt41)
  have ne_b27_tb41 : b27 ≠ tb41 := Nat.ne_of_lt (Nat.lt_of_lt_of_le cf36.lt vt41)
  have ne_b29_tb41 : b29 ≠ tb41 := Nat.ne_of_lt (Nat.lt_of_lt_of_le V33.lt vt41)
  have ch42 : ∀ t, Steps p.tables e below (T41.setTop (mkF m 141 #[.val (.int p1), .val (.int p2), .val (.int p3), .val (.int c1), .val (.int c2), .val (.int d1), .val (.int d2), .val (.int x1), .val (.int y1), .val (.int x2), .val (.int y2), .val (.int (3 : Int32)), .unset, .unset, .unset] [(.ref b27), (.ref b25), (.ref b25)])) t → Steps p.tables e below (s₁.setTop (entryFrame m #[(.int p1), (.int p2), (.int p3)] maxLocals)) t := fun t k => ch34 t (by
      show Steps p.tables e below (T33.setTop (mkF m 138 #[.val (.int p1), .val (.int p2), .val (.int p3), .val (.int c1), .val (.int c2), .val (.int d1), .val (.int d2), .val (.int x1), .val (.int y1), .val (.int x2), .val (.int y2), .val (.int (3 : Int32)), .unset, .unset, .unset] [(.ref b29), (.ref b27), (.ref b27), (.ref b25), (.ref b25)])) t
      exact st41.trans k)
  obtain ⟨T43, hp43, X43, e43, E43, A43, D43, -, st43⟩ := newO X41 hx hZ hown (hw _ (List.mem_of_getElem? (i := 3) rfl)) (hw _ (List.mem_of_getElem? (i := 4) rfl)) (hw _ (List.mem_of_getElem? (i := 5) rfl)) eh41 (g := (mkF m 141 #[.val (.int p1), .val (.int p2), .val (.int p3), .val (.int c1), .val (.int c2), .val (.int d1), .val (.int d2), .val (.int x1), .val (.int y1), .val (.int x2), .val (.int y2), .val (.int (3 : Int32)), .unset, .unset, .unset] [(.ref b27), (.ref b25), (.ref b25)])) rfl (hb hby at_141) (by decide) (by decide)
  obtain ⟨b43, g43⟩ : ∃ z, z = hh41.size := ⟨_, rfl⟩
  rw [← g43] at A43 D43 st43
  have cf44 := (cf40.keep Kq41)
  have ne_b25_b43 : b25 ≠ b43 := Nat.ne_of_lt (Nat.lt_of_lt_of_le cf44.lt (Nat.le_of_eq g43.symm))
  have ne_b27_b43 : b27 ≠ b43 := Nat.ne_of_lt (Nat.lt_of_lt_of_le fq41_0.lt (Nat.le_of_eq g43.symm))
  have cf45 := (V33.keep Kq41 (ninS (Ne.symm ne_b27_b29) nin0))
  have ne_b29_b43 : b29 ≠ b43 := Nat.ne_of_lt (Nat.lt_of_lt_of_le cf45.lt (Nat.le_of_eq g43.symm))
  have ne_tb41_b43 : tb41 ≠ b43 := Nat.ne_of_lt (Nat.lt_of_lt_of_le av41.lt (Nat.le_of_eq g43.symm))
  have g_b43 : n0 ≤ b43 := Nat.le_trans (Nat.le_trans Z0 Kp41.1) (Nat.le_of_eq g43.symm)
  have sz_b43 : h0.size ≤ b43 := Nat.le_trans Kp41.1 (Nat.le_of_eq g43.symm)
  have hk := Nat.le_trans hk E43.1
  have Kp43 := Keep.ext Kp41 E43
  have F43_30 : Fld Z hp43 b43 "java/lang/String" "coder" "B" (.int (0 : Int32)) := D43 (Or.inr (hw _ (List.mem_of_getElem? (i := 30) rfl))) (ty := .byte) (by decide)
  have F43_32 : Fld Z hp43 b43 "java/lang/String" "value" "[B" .null := D43 (Or.inr (hw _ (List.mem_of_getElem? (i := 32) rfl))) (ty := (.array .byte)) (by decide)
  have ch46 : ∀ t, Steps p.tables e below (T43.setTop (mkF m 144 #[.val (.int p1), .val (.int p2), .val (.int p3), .val (.int c1), .val (.int c2), .val (.int d1), .val (.int d2), .val (.int x1), .val (.int y1), .val (.int x2), .val (.int y2), .val (.int (3 : Int32)), .unset, .unset, .unset] [(.ref b43), (.ref b27), (.ref b25), (.ref b25)])) t → Steps p.tables e below (s₁.setTop (entryFrame m #[(.int p1), (.int p2), (.int p3)] maxLocals)) t := fun t k => ch42 t (by
      show Steps p.tables e below (T41.setTop (mkF m 141 #[.val (.int p1), .val (.int p2), .val (.int p3), .val (.int c1), .val (.int c2), .val (.int d1), .val (.int d2), .val (.int x1), .val (.int y1), .val (.int x2), .val (.int y2), .val (.int (3 : Int32)), .unset, .unset, .unset] [(.ref b27), (.ref b25), (.ref b25)])) t
      exact st43 t k)
  obtain ⟨T47, hp47, k47, X47, e47, E47, A47, st47⟩ := newP X43 hx hZ (hw _ (List.mem_of_getElem? (i := 6) rfl)) e43 (g := (mkF m 146 #[.val (.int p1), .val (.int p2), .val (.int p3), .val (.int c1), .val (.int c2), .val (.int d1), .val (.int d2), .val (.int x1), .val (.int y1), .val (.int x2), .val (.int y2), .val (.int (3 : Int32)), .unset, .unset, .unset] [(.int (1 : Int32)), (.ref b43), (.ref b43), (.ref b27), (.ref b25), (.ref b25)])) rfl (hb hby at_146) rfl (by decide) (cap := 1) (by decide) (by decide) (by decide) (by decide)
  obtain ⟨b47, g47⟩ : ∃ z, z = hp43.size := ⟨_, rfl⟩
  rw [← g47] at A47 st47
  have cf48 := (cf44.ext E43)
  have ne_b25_b47 : b25 ≠ b47 := Nat.ne_of_lt (Nat.lt_of_lt_of_le cf48.lt (Nat.le_of_eq g47.symm))
  have cf49 := (fq41_0.ext E43)
  have ne_b27_b47 : b27 ≠ b47 := Nat.ne_of_lt (Nat.lt_of_lt_of_le cf49.lt (Nat.le_of_eq g47.symm))
  have cf50 := (cf45.ext E43)
  have ne_b29_b47 : b29 ≠ b47 := Nat.ne_of_lt (Nat.lt_of_lt_of_le cf50.lt (Nat.le_of_eq g47.symm))
  have cf51 := (av41.ext E43)
  have ne_tb41_b47 : tb41 ≠ b47 := Nat.ne_of_lt (Nat.lt_of_lt_of_le cf51.lt (Nat.le_of_eq g47.symm))
  have ne_b43_b47 : b43 ≠ b47 := Nat.ne_of_lt (Nat.lt_of_lt_of_le A43.lt (Nat.le_of_eq g47.symm))
  have g_b47 : n0 ≤ b47 := Nat.le_trans (Nat.le_trans Z0 Kp43.1) (Nat.le_of_eq g47.symm)
  have sz_b47 : h0.size ≤ b47 := Nat.le_trans Kp43.1 (Nat.le_of_eq g47.symm)
  have hk := Nat.le_trans hk E47.1
  have Kp47 := Keep.ext Kp43 E47
  have V47 : Arv Z hp47 b47 k47 .char (1 : Int32) [(.int (0 : Int32))] (.int (0 : Int32)) := (Arv.new A47 (by decide)).pad (pad_rep [] (.int (0 : Int32)) 1)
  have ch52 : ∀ t, Steps p.tables e below (T47.setTop (mkF m 148 #[.val (.int p1), .val (.int p2), .val (.int p3), .val (.int c1), .val (.int c2), .val (.int d1), .val (.int d2), .val (.int x1), .val (.int y1), .val (.int x2), .val (.int y2), .val (.int (3 : Int32)), .unset, .unset, .unset] [(.ref b47), (.ref b43), (.ref b43), (.ref b27), (.ref b25), (.ref b25)])) t → Steps p.tables e below (s₁.setTop (entryFrame m #[(.int p1), (.int p2), (.int p3)] maxLocals)) t := fun t k => ch46 t (by
      show Steps p.tables e below (T43.setTop (mkF m 144 #[.val (.int p1), .val (.int p2), .val (.int p3), .val (.int c1), .val (.int c2), .val (.int d1), .val (.int d2), .val (.int x1), .val (.int y1), .val (.int x2), .val (.int y2), .val (.int (3 : Int32)), .unset, .unset, .unset] [(.ref b43), (.ref b27), (.ref b25), (.ref b25)])) t
      refine XS.dup X43.here hx rfl (hb hby at_144) rfl rfl ?_
      show Steps p.tables e below (T43.setTop (mkF m 145 #[.val (.int p1), .val (.int p2), .val (.int p3), .val (.int c1), .val (.int c2), .val (.int d1), .val (.int d2), .val (.int x1), .val (.int y1), .val (.int x2), .val (.int y2), .val (.int (3 : Int32)), .unset, .unset, .unset] [(.ref b43), (.ref b43), (.ref b27), (.ref b25), (.ref b25)])) t
      refine XS.iconst X43.here hx rfl (hb hby at_145) ?_
      show Steps p.tables e below (T43.setTop (mkF m 146 #[.val (.int p1), .val (.int p2), .val (.int p3), .val (.int c1), .val (.int c2), .val (.int d1), .val (.int d2), .val (.int x1), .val (.int y1), .val (.int x2), .val (.int y2), .val (.int (3 : Int32)), .unset, .unset, .unset] [(.int (1 : Int32)), (.ref b43), (.ref b43), (.ref b27), (.ref b25), (.ref b25)])) t
      exact st47 t k)
  obtain ⟨cl53, Ar53, qq53, Sz53, Ng53, Ha53, Ga53⟩ := id V47
  have hin53 : ¬ ((0 : Int32) < 0 ∨ cl53.slots.size ≤ ((0 : Int32)).toNatClampNeg) := inb_of Sz53 (by decide)
  obtain ⟨T54, hp54, X54, e54, W54, st54⟩ := stC X47 hx hZ e47 Ar53 (j := (0 : Int32)) hin53 (g := (mkF m 152 #[.val (.int p1), .val (.int p2), .val (.int p3), .val (.int c1), .val (.int c2), .val (.int d1), .val (.int d2), .val (.int x1), .val (.int y1), .val (.int x2), .val (.int y2), .val (.int (3 : Int32)), .unset, .unset, .unset] [(.int d1), (.int (0 : Int32)), (.ref b47), (.ref b47), (.ref b43), (.ref b43), (.ref b27), (.ref b25), (.ref b25)])) rfl rfl (hb hby at_152)
  have ch55 : ∀ t, Steps p.tables e below (T54.setTop (mkF m 153 #[.val (.int p1), .val (.int p2), .val (.int p3), .val (.int c1), .val (.int c2), .val (.int d1), .val (.int d2), .val (.int x1), .val (.int y1), .val (.int x2), .val (.int y2), .val (.int (3 : Int32)), .unset, .unset, .unset] [(.ref b47), (.ref b43), (.ref b43), (.ref b27), (.ref b25), (.ref b25)])) t → Steps p.tables e below (s₁.setTop (entryFrame m #[(.int p1), (.int p2), (.int p3)] maxLocals)) t := fun t k => ch52 t (by
      show Steps p.tables e below (T47.setTop (mkF m 148 #[.val (.int p1), .val (.int p2), .val (.int p3), .val (.int c1), .val (.int c2), .val (.int d1), .val (.int d2), .val (.int x1), .val (.int y1), .val (.int x2), .val (.int y2), .val (.int (3 : Int32)), .unset, .unset, .unset] [(.ref b47), (.ref b43), (.ref b43), (.ref b27), (.ref b25), (.ref b25)])) t
      refine XS.dup X47.here hx rfl (hb hby at_148) rfl rfl ?_
      show Steps p.tables e below (T47.setTop (mkF m 149 #[.val (.int p1), .val (.int p2), .val (.int p3), .val (.int c1), .val (.int c2), .val (.int d1), .val (.int d2), .val (.int x1), .val (.int y1), .val (.int x2), .val (.int y2), .val (.int (3 : Int32)), .unset, .unset, .unset] [(.ref b47), (.ref b47), (.ref b43), (.ref b43), (.ref b27), (.ref b25), (.ref b25)])) t
      refine XS.iconst X47.here hx rfl (hb hby at_149) ?_
      show Steps p.tables e below (T47.setTop (mkF m 150 #[.val (.int p1), .val (.int p2), .val (.int p3), .val (.int c1), .val (.int c2), .val (.int d1), .val (.int d2), .val (.int x1), .val (.int y1), .val (.int x2), .val (.int y2), .val (.int (3 : Int32)), .unset, .unset, .unset] [(.int (0 : Int32)), (.ref b47), (.ref b47), (.ref b43), (.ref b43), (.ref b27), (.ref b25), (.ref b25)])) t
      refine XS.iload X47.here hx rfl (hb hby at_150) rfl ?_
      show Steps p.tables e below (T47.setTop (mkF m 152 #[.val (.int p1), .val (.int p2), .val (.int p3), .val (.int c1), .val (.int c2), .val (.int d1), .val (.int d2), .val (.int x1), .val (.int y1), .val (.int x2), .val (.int y2), .val (.int (3 : Int32)), .unset, .unset, .unset] [(.int d1), (.int (0 : Int32)), (.ref b47), (.ref b47), (.ref b43), (.ref b43), (.ref b27), (.ref b25), (.ref b25)])) t
      exact st54 t k)
  have V54 : Arv Z hp54 b47 k47 .char (1 : Int32) [(.int (nar .char d1))] (.int (0 : Int32)) := Arv.set Ar53 qq53 Sz53 Ng53 Ha53 Ga53 (fits_nar_char _) W54 0 rfl (Nat.le_of_ble_eq_true rfl)
  rw [own_narc hx_d1] at V54
  have hk := Nat.le_trans hk (Keep.of_wr W54).1
  have N54 := Fr.snoc X54 N41 g_b47
  have Kp54 := Keep.wr Kp47 W54 (Or.inr sz_b47)
  have hp56 : ∀ c ∈ ([d1] : List Int32), ¬ c < 0 ∧ ¬ (255 : Int32) < c := by
    intro c hc
    simp only [List.mem_cons, List.not_mem_nil, or_false] at hc
    rcases hc with rfl
    · exact hx_d1
  have cf57 := (Exa.wr W54 (A43.ext E47))
  have cf58 := (Fld.other W54 (F43_32.ext E47) (Or.inl ne_b43_b47))
  have cf59 := (Fld.other W54 (F43_30.ext E47) (Or.inl ne_b43_b47))
  have cf60 := ((((own_sta_keep cf39 Kq41 (allS (fun c hc => own_exa_plain cf36 c hc) all0)).ext E43).ext E47).wr W54)
  have cf61 := (Exa.wr W54 (cf48.ext E47))
  have cf62 := (Exa.wr W54 (cf49.ext E47))
  have cf63 := ((cf50.ext E47).other W54 ne_b29_b47)
  have cf64 := ((cf51.ext E47).other W54 ne_tb41_b47)
  obtain ⟨vv65, _, ⟨T65, L65, kk65, nn65⟩, -, X65, ⟨Lc65, hQ65, l65, y65, z65⟩, st65⟩ := X54.specialBack hx (y := (⟨"java/lang/String", "<init>", "([C)V"⟩ : MethodName)) rfl hown (mvT hZ (hw _ (List.mem_of_getElem? (i := 7) rfl))) (mvT hZ (hw _ (List.mem_of_getElem? (i := 8) rfl))) (mvT hZ (hw _ (List.mem_of_getElem? (i := 9) rfl))) (by decide) (StrChars.Road.backV (W := 4) hZ (own_words hw) (kI := 4) (hw _ (List.mem_of_getElem? (i := 4) rfl)) (cs := ([d1] : List Int32)) (bs := (([d1] : List Int32)).map (fun c => c.toInt8.toInt32)) (n := 1) g_b43 (Nat.le_trans Z0 Kp54.1) cf57 cf58 cf59 V54 cf60 P5 rfl rfl (by decide) (by decide) hp56 rfl (by decide) (by decide)) (g := (mkF m 153 #[.val (.int p1), .val (.int p2), .val (.int p3), .val (.int c1), .val (.int c2), .val (.int d1), .val (.int d2), .val (.int x1), .val (.int y1), .val (.int x2), .val (.int y2), .val (.int (3 : Int32)), .unset, .unset, .unset] [(.ref b47), (.ref b43), (.ref b43), (.ref b27), (.ref b25), (.ref b25)])) rfl (by rw [hml]; rfl) (Steps.refl _) (a := b43) (argsL := [(.ref b47)]) (rest := [(.ref b43), (.ref b27), (.ref b25), (.ref b25)]) (lenOf own_pd___C_V rfl) rfl (by show 2 * 0 + _ ≤ _; exact Nat.le_of_eq rfl) (hb hby at_153) (fun _ _ => ⟨rfl, e54, (by decide : 6 + 1 ≤ _), (by decide : 15 + 1 ≤ _)⟩)
  dsimp only [Pt.U, Pt.locs, Pt.cells, Pt.slots] at X65 l65 y65 z65 st65 hQ65
  subst l65 y65 z65
  obtain ⟨hh65, eh65⟩ : ∃ h, T65.heap = h := ⟨_, rfl⟩
  rw [eh65] at hQ65
  obtain ⟨rfl, Nq65, Kq65, fq65_0, fq65_1⟩ := hQ65
  have N65 := Fr.app N54 Nq65
  have hk := Nat.le_trans hk Kq65.1
  have Kp65 := Keep.trans Kp54 Kq65 (allS (Or.inr sz_b43) all0)
  obtain ⟨fc65, tb65, kb65, ut65, vt65, wt65, fv65, av65⟩ := fq65_1
  have ne_b25_tb65 : b25 ≠ tb65 := Nat.ne_of_lt (Nat.lt_of_lt_of_le cf61.lt vt65)
  have ne_b27_tb65 : b27 ≠ tb65 := Nat.ne_of_lt (Nat.lt_of_lt_of_le cf62.lt vt65)
  have ne_b29_tb65 : b29 ≠ tb65 := Nat.ne_of_lt (Nat.lt_of_lt_of_le cf63.lt vt65)
  have ne_tb41_tb65 : tb41 ≠ tb65 := Nat.ne_of_lt (Nat.lt_of_lt_of_le cf64.lt vt65)
  have ne_b43_tb65 : b43 ≠ tb65 := Nat.ne_of_lt (Nat.lt_of_lt_of_le cf57.lt vt65)
  have ne_b47_tb65 : b47 ≠ tb65 := Nat.ne_of_lt (Nat.lt_of_lt_of_le V54.lt vt65)
  have ch66 : ∀ t, Steps p.tables e below (T65.setTop (mkF m 156 #[.val (.int p1), .val (.int p2), .val (.int p3), .val (.int c1), .val (.int c2), .val (.int d1), .val (.int d2), .val (.int x1), .val (.int y1), .val (.int x2), .val (.int y2), .val (.int (3 : Int32)), .unset, .unset, .unset] [(.ref b43), (.ref b27), (.ref b25), (.ref b25)])) t → Steps p.tables e below (s₁.setTop (entryFrame m #[(.int p1), (.int p2), (.int p3)] maxLocals)) t := fun t k => ch55 t (by
      show Steps p.tables e below (T54.setTop (mkF m 153 #[.val (.int p1), .val (.int p2), .val (.int p3), .val (.int c1), .val (.int c2), .val (.int d1), .val (.int d2), .val (.int x1), .val (.int y1), .val (.int x2), .val (.int y2), .val (.int (3 : Int32)), .unset, .unset, .unset] [(.ref b47), (.ref b43), (.ref b43), (.ref b27), (.ref b25), (.ref b25)])) t
      exact st65.trans k)
  have cf67 := (cf61.keep Kq65)
  have cf68 := ((Fld.other W54 ((((Fld.other W33 ((F25_46.ext E27).ext E29) (Or.inl ne_b25_b29)).keep Kq41 (ninS ne_b25_b27 nin0)).ext E43).ext E47) (Or.inl ne_b25_b47)).keep Kq65 (ninS ne_b25_b43 nin0))
  have cf69 := ((Fld.other W54 ((((Fld.other W33 ((F25_49.ext E27).ext E29) (Or.inl ne_b25_b29)).keep Kq41 (ninS ne_b25_b27 nin0)).ext E43).ext E47) (Or.inl ne_b25_b47)).keep Kq65 (ninS ne_b25_b43 nin0))
  have cf70 := ((Fld.other W54 ((((Fld.other W33 ((F25_51.ext E27).ext E29) (Or.inl ne_b25_b29)).keep Kq41 (ninS ne_b25_b27 nin0)).ext E43).ext E47) (Or.inl ne_b25_b47)).keep Kq65 (ninS ne_b25_b43 nin0))
  have cf71 := ((Fld.other W54 ((((Fld.other W33 ((F25_53.ext E27).ext E29) (Or.inl ne_b25_b29)).keep Kq41 (ninS ne_b25_b27 nin0)).ext E43).ext E47) (Or.inl ne_b25_b47)).keep Kq65 (ninS ne_b25_b43 nin0))
  have cf72 := (cf62.keep Kq65)
  obtain ⟨vv73, _, ⟨T73, L73, kk73, nn73⟩, -, X73, hS2, hgr, ⟨Lc73, hQ73, l73, y73, z73⟩, st73⟩ := X65.specialBackS hx (y := (⟨"com/example/nokkel/nokkel/core/ClientRecord", "<init>", "(Ljava/lang/String;Ljava/lang/String;ZZ)V"⟩ : MethodName)) rfl hown (mvT hZ (hw _ (List.mem_of_getElem? (i := 33) rfl))) (mvT hZ (hw _ (List.mem_of_getElem? (i := 34) rfl))) (mvT hZ (hw _ (List.mem_of_getElem? (i := 35) rfl))) (by decide) (backOfS (W := 1) (own_ini l Z a0 hw [] hh65 n0 (Nat.le_trans Z0 Kp65.1) b25 b27 b43 x1 y1 cf67 cf68 cf69 cf70 cf71 g_b25 cf72 fq65_0 hx_x1 hx_y1) hZ (hw _ (List.mem_of_getElem? (i := 35) rfl)) (hw _ (List.mem_of_getElem? (i := 2) rfl)) (by decide) (by decide)) (g := (mkF m 160 #[.val (.int p1), .val (.int p2), .val (.int p3), .val (.int c1), .val (.int c2), .val (.int d1), .val (.int d2), .val (.int x1), .val (.int y1), .val (.int x2), .val (.int y2), .val (.int (3 : Int32)), .unset, .unset, .unset] [(.int y1), (.int x1), (.ref b43), (.ref b27), (.ref b25), (.ref b25)])) rfl (by rw [hml]; rfl) (Steps.refl _) (a := b25) (argsL := [(.ref b27), (.ref b43), (.int x1), (.int y1)]) (rest := [(.ref b25)]) (lenOf own_pd__Ljava_lang_String_Ljava_lang_String_ZZ_V rfl) rfl (by show 2 * 0 + _ ≤ _; exact Nat.le_of_eq rfl) (hb hby at_160) (fun _ _ => ⟨rfl, eh65, (by decide : 7 + 4 ≤ _), (by decide : 16 + 60 ≤ _)⟩)
  dsimp only [Pt.U, Pt.locs, Pt.cells, Pt.slots] at X73 l73 y73 z73 st73 hQ73 hS2 hgr
  subst l73 y73 z73
  obtain ⟨X73, hS, hZ, hown⟩ := rebS hS (by rw [eh65]; exact hk) X73 hS2 hgr hZ hown
  obtain ⟨hh73, eh73⟩ : ∃ h, T73.heap = h := ⟨_, rfl⟩
  rw [eh73] at hQ73
  rw [eh73] at hS
  have hk : hh73.size ≤ hh73.size := Nat.le_refl _
  obtain ⟨rfl, Nq73, Kq73, fq73_0, fq73_1, fq73_2, fq73_3, fq73_4⟩ := hQ73
  have N73 := Fr.app N65 Nq73
  have Kp73 := Keep.trans Kp65 Kq73 (allS (Or.inr sz_b25) all0)
  have ch74 : ∀ t, Steps p.tables e below (T73.setTop (mkF m 163 #[.val (.int p1), .val (.int p2), .val (.int p3), .val (.int c1), .val (.int c2), .val (.int d1), .val (.int d2), .val (.int x1), .val (.int y1), .val (.int x2), .val (.int y2), .val (.int (3 : Int32)), .unset, .unset, .unset] [(.ref b25)])) t → Steps p.tables e below (s₁.setTop (entryFrame m #[(.int p1), (.int p2), (.int p3)] maxLocals)) t := fun t k => ch66 t (by
      show Steps p.tables e below (T65.setTop (mkF m 156 #[.val (.int p1), .val (.int p2), .val (.int p3), .val (.int c1), .val (.int c2), .val (.int d1), .val (.int d2), .val (.int x1), .val (.int y1), .val (.int x2), .val (.int y2), .val (.int (3 : Int32)), .unset, .unset, .unset] [(.ref b43), (.ref b27), (.ref b25), (.ref b25)])) t
      refine XS.iload X65.here hx rfl (hb hby at_156) rfl ?_
      show Steps p.tables e below (T65.setTop (mkF m 158 #[.val (.int p1), .val (.int p2), .val (.int p3), .val (.int c1), .val (.int c2), .val (.int d1), .val (.int d2), .val (.int x1), .val (.int y1), .val (.int x2), .val (.int y2), .val (.int (3 : Int32)), .unset, .unset, .unset] [(.int x1), (.ref b43), (.ref b27), (.ref b25), (.ref b25)])) t
      refine XS.iload X65.here hx rfl (hb hby at_158) rfl ?_
      show Steps p.tables e below (T65.setTop (mkF m 160 #[.val (.int p1), .val (.int p2), .val (.int p3), .val (.int c1), .val (.int c2), .val (.int d1), .val (.int d2), .val (.int x1), .val (.int y1), .val (.int x2), .val (.int y2), .val (.int (3 : Int32)), .unset, .unset, .unset] [(.int y1), (.int x1), (.ref b43), (.ref b27), (.ref b25), (.ref b25)])) t
      exact st73.trans k)
  have cf75 := (cf72.keep Kq73)
  have cf76 := (((Fld.other W54 ((fv41.ext E43).ext E47) (Or.inl ne_b27_b47)).keep Kq65 (ninS ne_b27_b43 nin0)).keep Kq73 (ninS (Ne.symm ne_b25_b27) nin0))
  have cf77 := (((Fld.other W54 ((fc41.ext E43).ext E47) (Or.inl ne_b27_b47)).keep Kq65 (ninS ne_b27_b43 nin0)).keep Kq73 (ninS (Ne.symm ne_b25_b27) nin0))
  have cf78 := ((cf64.keep Kq65 (ninS ne_tb41_b43 nin0)).keep Kq73 (ninS (Ne.symm ne_b25_tb41) nin0))
  have cf79 := (fq65_0.keep Kq73)
  have cf80 := (fv65.keep Kq73 (ninS (Ne.symm ne_b25_b43) nin0))
  have cf81 := (fc65.keep Kq73 (ninS (Ne.symm ne_b25_b43) nin0))
  have cf82 := (av65.keep Kq73 (ninS (Ne.symm ne_b25_tb65) nin0))
  have cf83 := (own_sta_keep (own_sta_keep cf60 Kq65 (allS (fun c hc => own_exa_plain cf57 c hc) all0)) Kq73 (allS (fun c hc => own_exa_plain cf67 c hc) all0))
  obtain ⟨cq84, kq84, qa84, qb84, qc84⟩ := isOf hZ eh73 fq73_0
  obtain ⟨vv85, _, ⟨T85, L85, kk85, nn85⟩, -, X85, ⟨Lc85, hQ85, l85, y85, z85⟩, st85⟩ := X73.virtualBack hx (y := (⟨"com/example/nokkel/nokkel/core/ClientRecord", "equals", "(Ljava/lang/Object;)Z"⟩ : MethodName)) (z := (⟨"com/example/nokkel/nokkel/core/ClientRecord", "equals", "(Ljava/lang/Object;)Z"⟩ : MethodName)) hown (mvT hZ (hw _ (List.mem_of_getElem? (i := 54) rfl))) (mvT hZ (hw _ (List.mem_of_getElem? (i := 55) rfl))) (notFace_of_selects (args := #[]) (mvT hZ (hw _ (List.mem_of_getElem? (i := 57) rfl)))) (mvT hZ (hw _ (List.mem_of_getElem? (i := 57) rfl))) (mvT hZ (hw _ (List.mem_of_getElem? (i := 56) rfl))) (by decide) (backOf (W := 0) (own_eq_self l Z a0 hw [] hh73 n0 (Nat.le_trans Z0 Kp73.1) b25 b27 b43 x1 y1 c1 d1 fq73_0 fq73_1 fq73_2 fq73_3 fq73_4 tb41 kb41 cf75 cf76 cf77 cf78 hx_c1 tb65 kb65 cf79 cf80 cf81 cf82 hx_d1 zC cf83 P5) hZ (hw _ (List.mem_of_getElem? (i := 58) rfl)) (hw _ (List.mem_of_getElem? (i := 2) rfl)) (by decide) (by decide)) qa84 qc84 (g := (mkF m 304 #[.val (.int p1), .val (.int p2), .val (.int p3), .val (.int c1), .val (.int c2), .val (.int d1), .val (.int d2), .val (.int x1), .val (.int y1), .val (.int x2), .val (.int y2), .val (.int (3 : Int32)), .val (.ref b25), .val (.ref b25), .val (.int (1 : Int32))] [(.ref b25), (.ref b25)])) rfl (by rw [hml]; rfl) (Steps.refl _) (argsL := [(.ref b25)]) (rest := []) (lenOf own_pd__Ljava_lang_Object__Z rfl) rfl (by show 2 * 0 + _ ≤ _; exact Nat.le_of_eq rfl) (hb hby at_304) (fun _ _ => ⟨rfl, eh73, (by decide : 11 + 0 ≤ _), (by decide : 76 + 0 ≤ _)⟩)
  dsimp only [Pt.U, Pt.locs, Pt.cells, Pt.slots] at X85 l85 y85 z85 st85 hQ85
  subst l85 y85 z85
  obtain ⟨rfl, Nq85, e85⟩ := hQ85
  have N85 := Fr.app N73 Nq85
  have ch86 : ∀ t, Steps p.tables e below (T85.setTop (mkF m 307 #[.val (.int p1), .val (.int p2), .val (.int p3), .val (.int c1), .val (.int c2), .val (.int d1), .val (.int d2), .val (.int x1), .val (.int y1), .val (.int x2), .val (.int y2), .val (.int (3 : Int32)), .val (.ref b25), .val (.ref b25), .val (.int (1 : Int32))] [(.int (1 : Int32))])) t → Steps p.tables e below (s₁.setTop (entryFrame m #[(.int p1), (.int p2), (.int p3)] maxLocals)) t := fun t k => ch74 t (by
      show Steps p.tables e below (T73.setTop (mkF m 163 #[.val (.int p1), .val (.int p2), .val (.int p3), .val (.int c1), .val (.int c2), .val (.int d1), .val (.int d2), .val (.int x1), .val (.int y1), .val (.int x2), .val (.int y2), .val (.int (3 : Int32)), .unset, .unset, .unset] [(.ref b25)])) t
      refine XS.astore X73.here hx rfl (hb hby at_163) rfl rfl (l' := #[.val (.int p1), .val (.int p2), .val (.int p3), .val (.int c1), .val (.int c2), .val (.int d1), .val (.int d2), .val (.int x1), .val (.int y1), .val (.int x2), .val (.int y2), .val (.int (3 : Int32)), .val (.ref b25), .unset, .unset]) rfl ?_
      show Steps p.tables e below (T73.setTop (mkF m 165 #[.val (.int p1), .val (.int p2), .val (.int p3), .val (.int c1), .val (.int c2), .val (.int d1), .val (.int d2), .val (.int x1), .val (.int y1), .val (.int x2), .val (.int y2), .val (.int (3 : Int32)), .val (.ref b25), .unset, .unset] [])) t
      refine XS.iload X73.here hx rfl (hb hby at_165) rfl ?_
      show Steps p.tables e below (T73.setTop (mkF m 167 #[.val (.int p1), .val (.int p2), .val (.int p3), .val (.int c1), .val (.int c2), .val (.int d1), .val (.int d2), .val (.int x1), .val (.int y1), .val (.int x2), .val (.int y2), .val (.int (3 : Int32)), .val (.ref b25), .unset, .unset] [(.int (3 : Int32))])) t
      refine XS.ifYes X73.here hx rfl (pc0 := 167) (pc' := 250) rfl (hb hby at_167) rfl ((if0 _ _).trans (feq (by decide : ¬ (3 : Int32) = (0 : Int32))).2) (by decide) (by decide) ?_
      show Steps p.tables e below (T73.setTop (mkF m 250 #[.val (.int p1), .val (.int p2), .val (.int p3), .val (.int c1), .val (.int c2), .val (.int d1), .val (.int d2), .val (.int x1), .val (.int y1), .val (.int x2), .val (.int y2), .val (.int (3 : Int32)), .val (.ref b25), .unset, .unset] [])) t
      refine XS.iload X73.here hx rfl (hb hby at_250) rfl ?_
      show Steps p.tables e below (T73.setTop (mkF m 252 #[.val (.int p1), .val (.int p2), .val (.int p3), .val (.int c1), .val (.int c2), .val (.int d1), .val (.int d2), .val (.int x1), .val (.int y1), .val (.int x2), .val (.int y2), .val (.int (3 : Int32)), .val (.ref b25), .unset, .unset] [(.int (3 : Int32))])) t
      refine XS.iconst X73.here hx rfl (hb hby at_252) ?_
      show Steps p.tables e below (T73.setTop (mkF m 253 #[.val (.int p1), .val (.int p2), .val (.int p3), .val (.int c1), .val (.int c2), .val (.int d1), .val (.int d2), .val (.int x1), .val (.int y1), .val (.int x2), .val (.int y2), .val (.int (3 : Int32)), .val (.ref b25), .unset, .unset] [(.int (1 : Int32)), (.int (3 : Int32))])) t
      refine XS.icmpYes X73.here hx rfl (pc0 := 253) (pc' := 265) rfl (hb hby at_253) rfl (feq (by decide : ¬ (3 : Int32) = (1 : Int32))).2 (by decide) (by decide) ?_
      show Steps p.tables e below (T73.setTop (mkF m 265 #[.val (.int p1), .val (.int p2), .val (.int p3), .val (.int c1), .val (.int c2), .val (.int d1), .val (.int d2), .val (.int x1), .val (.int y1), .val (.int x2), .val (.int y2), .val (.int (3 : Int32)), .val (.ref b25), .unset, .unset] [])) t
      refine XS.iload X73.here hx rfl (hb hby at_265) rfl ?_
      show Steps p.tables e below (T73.setTop (mkF m 267 #[.val (.int p1), .val (.int p2), .val (.int p3), .val (.int c1), .val (.int c2), .val (.int d1), .val (.int d2), .val (.int x1), .val (.int y1), .val (.int x2), .val (.int y2), .val (.int (3 : Int32)), .val (.ref b25), .unset, .unset] [(.int (3 : Int32))])) t
      refine XS.iconst X73.here hx rfl (hb hby at_267) ?_
      show Steps p.tables e below (T73.setTop (mkF m 268 #[.val (.int p1), .val (.int p2), .val (.int p3), .val (.int c1), .val (.int c2), .val (.int d1), .val (.int d2), .val (.int x1), .val (.int y1), .val (.int x2), .val (.int y2), .val (.int (3 : Int32)), .val (.ref b25), .unset, .unset] [(.int (2 : Int32)), (.int (3 : Int32))])) t
      refine XS.icmpYes X73.here hx rfl (pc0 := 268) (pc' := 293) rfl (hb hby at_268) rfl (feq (by decide : ¬ (3 : Int32) = (2 : Int32))).2 (by decide) (by decide) ?_
      show Steps p.tables e below (T73.setTop (mkF m 293 #[.val (.int p1), .val (.int p2), .val (.int p3), .val (.int c1), .val (.int c2), .val (.int d1), .val (.int d2), .val (.int x1), .val (.int y1), .val (.int x2), .val (.int y2), .val (.int (3 : Int32)), .val (.ref b25), .unset, .unset] [])) t
      refine XS.aload X73.here hx rfl (hb hby at_293) rfl rfl ?_
      show Steps p.tables e below (T73.setTop (mkF m 295 #[.val (.int p1), .val (.int p2), .val (.int p3), .val (.int c1), .val (.int c2), .val (.int d1), .val (.int d2), .val (.int x1), .val (.int y1), .val (.int x2), .val (.int y2), .val (.int (3 : Int32)), .val (.ref b25), .unset, .unset] [(.ref b25)])) t
      refine XS.astore X73.here hx rfl (hb hby at_295) rfl rfl (l' := #[.val (.int p1), .val (.int p2), .val (.int p3), .val (.int c1), .val (.int c2), .val (.int d1), .val (.int d2), .val (.int x1), .val (.int y1), .val (.int x2), .val (.int y2), .val (.int (3 : Int32)), .val (.ref b25), .val (.ref b25), .unset]) rfl ?_
      show Steps p.tables e below (T73.setTop (mkF m 297 #[.val (.int p1), .val (.int p2), .val (.int p3), .val (.int c1), .val (.int c2), .val (.int d1), .val (.int d2), .val (.int x1), .val (.int y1), .val (.int x2), .val (.int y2), .val (.int (3 : Int32)), .val (.ref b25), .val (.ref b25), .unset] [])) t
      refine XS.iconst X73.here hx rfl (hb hby at_297) ?_
      show Steps p.tables e below (T73.setTop (mkF m 298 #[.val (.int p1), .val (.int p2), .val (.int p3), .val (.int c1), .val (.int c2), .val (.int d1), .val (.int d2), .val (.int x1), .val (.int y1), .val (.int x2), .val (.int y2), .val (.int (3 : Int32)), .val (.ref b25), .val (.ref b25), .unset] [(.int (1 : Int32))])) t
      refine XS.istore X73.here hx rfl (hb hby at_298) rfl (l' := #[.val (.int p1), .val (.int p2), .val (.int p3), .val (.int c1), .val (.int c2), .val (.int d1), .val (.int d2), .val (.int x1), .val (.int y1), .val (.int x2), .val (.int y2), .val (.int (3 : Int32)), .val (.ref b25), .val (.ref b25), .val (.int (1 : Int32))]) rfl ?_
      show Steps p.tables e below (T73.setTop (mkF m 300 #[.val (.int p1), .val (.int p2), .val (.int p3), .val (.int c1), .val (.int c2), .val (.int d1), .val (.int d2), .val (.int x1), .val (.int y1), .val (.int x2), .val (.int y2), .val (.int (3 : Int32)), .val (.ref b25), .val (.ref b25), .val (.int (1 : Int32))] [])) t
      refine XS.aload X73.here hx rfl (hb hby at_300) rfl rfl ?_
      show Steps p.tables e below (T73.setTop (mkF m 302 #[.val (.int p1), .val (.int p2), .val (.int p3), .val (.int c1), .val (.int c2), .val (.int d1), .val (.int d2), .val (.int x1), .val (.int y1), .val (.int x2), .val (.int y2), .val (.int (3 : Int32)), .val (.ref b25), .val (.ref b25), .val (.int (1 : Int32))] [(.ref b25)])) t
      refine XS.aload X73.here hx rfl (hb hby at_302) rfl rfl ?_
      show Steps p.tables e below (T73.setTop (mkF m 304 #[.val (.int p1), .val (.int p2), .val (.int p3), .val (.int c1), .val (.int c2), .val (.int d1), .val (.int d2), .val (.int x1), .val (.int y1), .val (.int x2), .val (.int y2), .val (.int (3 : Int32)), .val (.ref b25), .val (.ref b25), .val (.int (1 : Int32))] [(.ref b25), (.ref b25)])) t
      exact st85.trans k)
  have ch87 : ∀ t, Steps p.tables e below (T85.setTop (mkF m 317 #[.val (.int p1), .val (.int p2), .val (.int p3), .val (.int c1), .val (.int c2), .val (.int d1), .val (.int d2), .val (.int x1), .val (.int y1), .val (.int x2), .val (.int y2), .val (.int (3 : Int32)), .val (.ref b25), .val (.ref b25), .val (.int (1 : Int32))] [(.int (1 : Int32))])) t → Steps p.tables e below (s₁.setTop (entryFrame m #[(.int p1), (.int p2), (.int p3)] maxLocals)) t := fun t k => ch86 t (by
      show Steps p.tables e below (T85.setTop (mkF m 307 #[.val (.int p1), .val (.int p2), .val (.int p3), .val (.int c1), .val (.int c2), .val (.int d1), .val (.int d2), .val (.int x1), .val (.int y1), .val (.int x2), .val (.int y2), .val (.int (3 : Int32)), .val (.ref b25), .val (.ref b25), .val (.int (1 : Int32))] [(.int (1 : Int32))])) t
      refine XS.iload X85.here hx rfl (hb hby at_307) rfl ?_
      show Steps p.tables e below (T85.setTop (mkF m 309 #[.val (.int p1), .val (.int p2), .val (.int p3), .val (.int c1), .val (.int c2), .val (.int d1), .val (.int d2), .val (.int x1), .val (.int y1), .val (.int x2), .val (.int y2), .val (.int (3 : Int32)), .val (.ref b25), .val (.ref b25), .val (.int (1 : Int32))] [(.int (1 : Int32)), (.int (1 : Int32))])) t
      refine XS.icmpNo X85.here hx rfl (hb hby at_309) rfl (teq (by decide : (1 : Int32) = (1 : Int32))).2 ?_
      show Steps p.tables e below (T85.setTop (mkF m 312 #[.val (.int p1), .val (.int p2), .val (.int p3), .val (.int c1), .val (.int c2), .val (.int d1), .val (.int d2), .val (.int x1), .val (.int y1), .val (.int x2), .val (.int y2), .val (.int (3 : Int32)), .val (.ref b25), .val (.ref b25), .val (.int (1 : Int32))] [])) t
      refine XS.iconst X85.here hx rfl (hb hby at_312) ?_
      show Steps p.tables e below (T85.setTop (mkF m 313 #[.val (.int p1), .val (.int p2), .val (.int p3), .val (.int c1), .val (.int c2), .val (.int d1), .val (.int d2), .val (.int x1), .val (.int y1), .val (.int x2), .val (.int y2), .val (.int (3 : Int32)), .val (.ref b25), .val (.ref b25), .val (.int (1 : Int32))] [(.int (1 : Int32))])) t
      refine XS.goto X85.here hx rfl (pc0 := 313) (pc' := 317) rfl (hb hby at_313) (by decide) (by decide) ?_
      exact k)
  obtain ⟨fs, hr, hrun, hended, hend⟩ := X85.leaveW hS (by rw [e85]; exact hk) (v := some (.int (1 : Int32))) (fun h => by rw [Bd.returns] at h; cases h)
  refine ⟨_, _, ch87 _ ?_, hrun, hended, _, _, rfl, ?_, hend.1, hend.2.1, hend.2.2.1, hend.2.2.2.mono (by decide) (by decide)⟩
  · show Steps p.tables e below (T85.setTop (mkF m 317 #[.val (.int p1), .val (.int p2), .val (.int p3), .val (.int c1), .val (.int c2), .val (.int d1), .val (.int d2), .val (.int x1), .val (.int y1), .val (.int x2), .val (.int y2), .val (.int (3 : Int32)), .val (.ref b25), .val (.ref b25), .val (.int (1 : Int32))] [(.int (1 : Int32))])) _
    exact retN X85 hx (t := .boolean) Bd.returns (by simp) (hb hby at_317) hr
  · show QN (some (.int (1 : Int32))) n0 _ T85.heap _
    rw [e85]
    exact ⟨rfl, N85⟩
set_option maxRecDepth 65536 in
set_option maxHeartbeats 40000000 in
theorem comes_1 {Post : Tables → Env → Array Value → State → Outcome → State → Prop} (hpost : ∀ tb e args s v u, (limb_1_1.after args s (.returned v) u = true ∧ limb_1_2.after args s (.returned v) u = true ∧ True) → ReturnedEndW s (.returned v) u (Jvm.fieldLocs frame_1_writes args s ++ Jvm.arrayLocs frame_1_arrays args s ++ Jvm.staticLocs frame_1_statics s) 40 2240 → Post tb e args s (.returned v) u) :
    ArmFor flags0 classFile x code maxLocals ret World_1 tables_1 room_1 Calls_1 rest_1 Pre_1 Post := by
  intro l hfl _ _ p e ha hc hk s m args below hf hA hF happ hP
  obtain ⟨hcalls, hrest, hpre⟩ := hP
  obtain ⟨-, -, -, hnamed, -, -, -, hat⟩ := (Spec.applies_iff hf).mp happ
  obtain ⟨hg, hn⟩ := and_e (Cond.before_iff.mp (show (Jvm.Cond.and given_1 narrow_1).before args s = true from hpre))
  obtain ⟨gc, hg⟩ := and_e hg
  obtain ⟨w0, w1, w2, rfl⟩ : ∃ w0 w1 w2 : Value, args = #[w0, w1, w2] := by
    have hs : args.size = 3 := by simpa [Cond.value, given_1] using gc
    obtain ⟨L⟩ := args
    match L, hs with
    | [w0, w1, w2], _ => exact ⟨w0, w1, w2, rfl⟩
  have hw := fun d (hd : d ∈ tables_1) => atoms_spec (ws := Jvm.Cond.code x code maxLocals ret :: tables_1) hat d (List.mem_cons_of_mem _ hd)
  have hfit : Fit s := fun {y c} hc i hi => by
    obtain ⟨ha, rfl⟩ := Array.getElem?_eq_some_iff.mp hc
    have q := List.all_eq_true.mp ((Array.all_eq_true_iff_forall_mem.mp hF) _ (Array.getElem_mem ha)) i (List.mem_range.mpr hi)
    simpa [Array.getElem?_eq_getElem hi] using q
  obtain ⟨ga0, hg⟩ := and_e hg
  obtain ⟨i0, ei0⟩ := is_v ga0
  obtain rfl : w0 = (.int i0) := Option.some.inj ei0
  obtain ⟨ga1, hg⟩ := and_e hg
  obtain ⟨i1, ei1⟩ := is_v ga1
  obtain rfl : w1 = (.int i1) := Option.some.inj ei1
  obtain ⟨i2, ei2⟩ := is_v hg
  obtain rfl : w2 = (.int i2) := Option.some.inj ei2
  obtain ⟨hsets, hown0⟩ := atoms_of _ (rest_1_c_eq ▸ (show rest_1_c.before _ s = true from hrest))
  have nz3 := not_v (Cond.before_iff.mp (hsets _ (List.mem_of_getElem? (i := 2) rfl)))
  obtain ⟨zC, eC⟩ := is_v (Cond.before_iff.mp (hsets _ (List.mem_of_getElem? (i := 1) rfl)))
  have S_CS : Sta s s.heap "java/lang/String" "COMPACT_STRINGS" "Z" (.int zC) := Sta.start eC (Or.inl (hsets _ (List.mem_of_getElem? (i := 0) rfl)))
  have P5 : ¬ (zC = (0 : Int32)) := gotF (Cond.eq_ints eC (Term.int_eval (0))) nz3
  have hm_k := c_mask ((i2.toUInt32 >>> ((6 : Int32) &&& 31).toUInt32).toInt32)  (3 : Int32) 2 (by decide) (by decide)
  have hc4 : (((i2.toUInt32 >>> ((6 : Int32) &&& 31).toUInt32).toInt32) &&& (3 : Int32)).toInt = 0 ∨ (((i2.toUInt32 >>> ((6 : Int32) &&& 31).toUInt32).toInt32) &&& (3 : Int32)).toInt = 1 ∨ (((i2.toUInt32 >>> ((6 : Int32) &&& 31).toUInt32).toInt32) &&& (3 : Int32)).toInt = 2 ∨ (((i2.toUInt32 >>> ((6 : Int32) &&& 31).toUInt32).toInt32) &&& (3 : Int32)).toInt = 3 := by omega
  have H : MetFree l x (head1 (Jvm.Cond.code x code maxLocals ret :: tables_1) room_1) (fun a U => a = #[(.int i0), (.int i1), (.int i2)] ∧ s.Warmed39 U.vm ∧ U.heap = s.heap) (fun _ _ _ _ _ => True) (fun _ U o U' => ∃ v L, o = .returned v ∧ QN (some (.int (1 : Int32))) s.heap.size v U'.heap L ∧ ReturnedEndW U o U' L room_1.cells room_1.slots) := by
    rcases hc4 with hk | hk | hk | hk
    · exact own_law_0 l s _ hw tables_1 s.heap s.heap.size (Nat.le_refl _)  i0 i1 i2 _ _ rfl rfl (own_i2c i0) (own_i2c i1) (Int32.toInt_inj.mp (hk.trans (by decide))) zC S_CS P5
    · exact own_law_1 l s _ hw tables_1 s.heap s.heap.size (Nat.le_refl _)  i0 i1 i2 _ _ rfl rfl (own_i2c i0) (own_i2c i1) (Int32.toInt_inj.mp (hk.trans (by decide))) zC S_CS P5
    · exact own_law_2 l s _ hw tables_1 s.heap s.heap.size (Nat.le_refl _)  i0 i1 i2 _ _ rfl rfl (own_i2c i0) (own_i2c i1) (Int32.toInt_inj.mp (hk.trans (by decide))) zC S_CS P5
    · exact own_law_3 l s _ hw tables_1 s.heap s.heap.size (Nat.le_refl _)  i0 i1 i2 _ _ rfl rfl (own_i2c i0) (own_i2c i1) (Int32.toInt_inj.mp (hk.trans (by decide))) zC S_CS P5
  obtain ⟨n, o, h1, h2, h3, _, L, rfl, ⟨rfl, N⟩, hq⟩ := H p e ha hc hk s m _ below hf ((Spec.applies_iff_loose hf).mp happ).1 ⟨rfl, State.Warmed39.refl s, rfl⟩ trivial
  refine ⟨n, _, h1, h2, h3, hpost _ _ _ _ _ _ ⟨Cond.after_iff.mpr rfl, Cond.after_iff.mpr (eq_i res_at (Term.int_eval (1)) rfl), trivial⟩ ⟨hq.1, hq.2.1, hq.2.2.1, (hq.2.2.2.sift fun y hy => Or.inr (N y hy)).mono (by decide) (by decide)⟩⟩
theorem main_1_1 : Claimed_1_1 := comes_1 fun _ _ _ _ _ _ h hF => ⟨h.1, hF⟩
theorem main_1_2 : Claimed_1_2 := comes_1 fun _ _ _ _ _ _ h hF => ⟨h.2.1, hF⟩
end Jvm.Pilot.@@N@@
namespace Jvm.Pilot.@@N@@
open Jvm Jvm.ClassFile Sem Op Lib Jvm.Free Jvm.Stand Jvm.Pilot.@@N@@.Jvm.D
/-! MADE BY PROGRAM (witnessworld.py) out of the Statement's table words and the real class files: 21 classes; the members and pool entries that the words name. The judged class is class 1, her method 1. -/
namespace start1
open Jvm.ClassFile
def u (s : String) : CpInfo := .utf8 (stringToUtf16 s)
/-- a pool by its gaps: so many unusable entries, then the entry; so many at the end -/
def gap : Nat → List CpInfo → List CpInfo
  | 0, r => r
  | n + 1, r => .unusable :: gap n r
def poolList (es : List (Nat × CpInfo)) (last : Nat) : List CpInfo := es.foldr (fun e r => gap e.1 (e.2 :: r)) (gap last [])
def pool (es : List (Nat × CpInfo)) (last : Nat) : Array CpInfo := ⟨poolList es last⟩
def fileOf (pool : Array CpInfo) (this : Nat) (attrs : Array Attribute := #[]) (ms : Array MethodInfo := #[]) (fl : Nat := 33) (sup : Nat := 0) (ifs : Array Nat := #[]) (fds : Array FieldInfo := #[]) : ClassFile where
  minorVersion := 0
  majorVersion := 65
  constantPool := pool
  accessFlags := fl
  thisClass := this
  superClass := sup
  interfaces := ifs
  fields := fds
  methods := ms
  attributes := attrs
def plain (name : String) (sup : Option ClassId) : Class where
  name := name
  kind := .ordinary
  loader := none
  accessFlags := 33
  super := sup
  interfaces := #[]
  cf := none
  fields := #[]
  methods := #[]
  instanceTypes := #[]
  staticTypes := #[]
  resolved := #[]
  callSites := []
  init := .initialized
  statics := none
  mirror := none

def pool0 : Array CpInfo := pool [(5, u "<init>"), (0, u "()V"), (1, .class_ 10), (1, u "java/lang/Object")] 113

def k0c0 : Code := { maxStack := 0, maxLocals := 1, code := object_method_1_code, exceptionTable := #[], attributes := #[] }
def k0m0 : Method := { name := "<init>", desc := "()V", sig := { parameters := [], returnType := none }, accessFlags := 1, code := some k0c0 }
/-- java/lang/Object -/
def k0 : Class := { plain "java/lang/Object" none with
  accessFlags := 33
  interfaces := #[]
  cf := some (fileOf pool0 8 #[] #[{ accessFlags := 1, nameIndex := 5, descriptorIndex := 6, attributes := #[] }] 33 0 #[] #[])
  fields := #[]
  methods := #[k0m0]
  instanceTypes := #[]
  staticTypes := #[]
  resolved := Array.replicate 124 none
  statics := none }

def pool1 : Array CpInfo := pool [(2, .class_ 4), (1, u "java/lang/Object"), (0, u "<init>"), (0, u "()V"), (0, .class_ 8), (0, u "com/example/nokkel/nokkel/core/ClientRecord"), (0, .class_ 10), (0, u "java/lang/String"), (0, .methodref 9 12), (0, .nameAndType 5 13), (0, u "([C)V"), (0, .methodref 7 15), (0, .nameAndType 5 16), (0, u "(Ljava/lang/String;Ljava/lang/String;ZZ)V"), (0, .methodref 7 18), (0, .nameAndType 19 20), (0, u "equals"), (0, u "(Ljava/lang/Object;)Z"), (0, .class_ 22), (0, u "com/example/nokkel/nokkel/core/ClientRecordEqualsPinLaw"), (2, u "law"), (0, u "(III)Z")] 3

def k1m0 : Method := { name := "<init>", desc := "()V", sig := { parameters := [], returnType := none }, accessFlags := 1, code := none }
def k1c1 : Code := { maxStack := 9, maxLocals := 15, code := code, exceptionTable := #[], attributes := #[] }
def k1m1 : Method := { name := "law", desc := "(III)Z", sig := { parameters := [.int, .int, .int], returnType := some .boolean }, accessFlags := 9, code := some k1c1 }
/-- com/example/nokkel/nokkel/core/ClientRecordEqualsPinLaw -/
def k1 : Class := { plain "com/example/nokkel/nokkel/core/ClientRecordEqualsPinLaw" (some 0) with
  accessFlags := 49
  interfaces := #[]
  cf := some (fileOf pool1 21 #[] #[{ accessFlags := 1, nameIndex := 5, descriptorIndex := 6, attributes := #[] }, { accessFlags := 9, nameIndex := 25, descriptorIndex := 26, attributes := #[] }] 49 2 #[] #[])
  fields := #[]
  methods := #[k1m0, k1m1]
  instanceTypes := #[]
  staticTypes := #[]
  resolved := Array.replicate 30 none
  statics := none }

def pool2 : Array CpInfo := pool [(2, .class_ 4), (1, u "com/example/nokkel/nokkel/core/ClientRecord"), (0, u "<init>"), (0, u "(Ljava/lang/String;Ljava/lang/String;ZZ)V"), (0, .methodref 8 9), (0, .class_ 10), (0, .nameAndType 5 11), (0, u "java/lang/Object"), (0, u "()V"), (0, .string 13), (0, u "owner"), (0, .methodref 15 16), (0, .class_ 17), (0, .nameAndType 18 19), (0, u "java/util/Objects"), (0, u "requireNonNull"), (0, u "(Ljava/lang/Object;Ljava/lang/String;)Ljava/lang/Object;"), (0, .class_ 21), (0, u "java/lang/String"), (0, .fieldref 2 23), (0, .nameAndType 13 24), (0, u "Ljava/lang/String;"), (0, .string 26), (0, u "verifier"), (0, .fieldref 2 28), (0, .nameAndType 26 24), (0, .fieldref 2 30), (0, .nameAndType 31 32), (0, u "locksRevoked"), (0, u "Z"), (0, .fieldref 2 34), (0, .nameAndType 35 32), (0, u "graceMissed"), (0, .methodref 20 37), (0, .nameAndType 38 39), (0, u "equals"), (0, u "(Ljava/lang/Object;)Z")] 24

def k2c0 : Code := { maxStack := 3, maxLocals := 5, code := prog_7_method_2_code, exceptionTable := #[], attributes := #[] }
def k2m0 : Method := { name := "<init>", desc := "(Ljava/lang/String;Ljava/lang/String;ZZ)V", sig := { parameters := [(.object "java/lang/String"), (.object "java/lang/String"), .boolean, .boolean], returnType := none }, accessFlags := 1, code := some k2c0 }
def k2c1 : Code := { maxStack := 2, maxLocals := 3, code := prog_7_method_10_code, exceptionTable := #[], attributes := #[] }
def k2m1 : Method := { name := "equals", desc := "(Ljava/lang/Object;)Z", sig := { parameters := [(.object "java/lang/Object")], returnType := some .boolean }, accessFlags := 1, code := some k2c1 }
/-- com/example/nokkel/nokkel/core/ClientRecord -/
def k2 : Class := { plain "com/example/nokkel/nokkel/core/ClientRecord" (some 0) with
  accessFlags := 49
  interfaces := #[]
  cf := some (fileOf pool2 2 #[] #[{ accessFlags := 1, nameIndex := 5, descriptorIndex := 6, attributes := #[] }, { accessFlags := 1, nameIndex := 38, descriptorIndex := 39, attributes := #[] }] 49 8 #[] #[{ accessFlags := 18, nameIndex := 13, descriptorIndex := 24, attributes := #[] }, { accessFlags := 18, nameIndex := 26, descriptorIndex := 24, attributes := #[] }, { accessFlags := 18, nameIndex := 31, descriptorIndex := 32, attributes := #[] }, { accessFlags := 18, nameIndex := 35, descriptorIndex := 32, attributes := #[] }])
  fields := #[{ name := "owner", type := (.object "java/lang/String"), accessFlags := 18, slot := 0, constantValue := 0 }, { name := "verifier", type := (.object "java/lang/String"), accessFlags := 18, slot := 1, constantValue := 0 }, { name := "locksRevoked", type := .boolean, accessFlags := 18, slot := 2, constantValue := 0 }, { name := "graceMissed", type := .boolean, accessFlags := 18, slot := 3, constantValue := 0 }]
  methods := #[k2m0, k2m1]
  instanceTypes := #[(.object "java/lang/String"), (.object "java/lang/String"), .boolean, .boolean]
  staticTypes := #[]
  resolved := Array.replicate 64 none
  statics := none }

def pool3 : Array CpInfo := pool [(1, .class_ 2), (0, u "java/io/Serializable"), (0, .class_ 4), (0, u "java/lang/Object")] 2

/-- java/io/Serializable -/
def k3 : Class := { plain "java/io/Serializable" (some 0) with
  accessFlags := 1537
  interfaces := #[]
  cf := some (fileOf pool3 1 #[] #[] 1537 3 #[] #[])
  fields := #[]
  methods := #[]
  instanceTypes := #[]
  staticTypes := #[]
  resolved := Array.replicate 7 none
  statics := none }

def pool4 : Array CpInfo := pool [(1, .class_ 2), (0, u "java/lang/Comparable"), (0, .class_ 4), (0, u "java/lang/Object")] 7

/-- java/lang/Comparable -/
def k4 : Class := { plain "java/lang/Comparable" (some 0) with
  accessFlags := 1537
  interfaces := #[]
  cf := some (fileOf pool4 1 #[] #[] 1537 3 #[] #[])
  fields := #[]
  methods := #[]
  instanceTypes := #[]
  staticTypes := #[]
  resolved := Array.replicate 12 none
  statics := none }

def pool5 : Array CpInfo := pool [(2, .class_ 4), (1, u "java/lang/CharSequence"), (42, .class_ 48), (0, u "java/lang/CharSequence$1CodePointIterator"), (10, .class_ 60), (0, u "java/lang/CharSequence$1CharIterator"), (5, .class_ 67), (0, u "java/lang/Object")] 63

/-- java/lang/CharSequence -/
def k5 : Class := { plain "java/lang/CharSequence" (some 0) with
  accessFlags := 1537
  interfaces := #[]
  cf := some (fileOf pool5 2 #[.nestMembers #[47, 59]] #[] 1537 66 #[] #[])
  fields := #[]
  methods := #[]
  instanceTypes := #[]
  staticTypes := #[]
  resolved := Array.replicate 131 none
  statics := none }

def pool6 : Array CpInfo := pool [(1, .class_ 2), (0, u "java/lang/constant/Constable"), (0, .class_ 4), (0, u "java/lang/Object")] 6

/-- java/lang/constant/Constable -/
def k6 : Class := { plain "java/lang/constant/Constable" (some 0) with
  accessFlags := 1537
  interfaces := #[]
  cf := some (fileOf pool6 1 #[] #[] 1537 3 #[] #[])
  fields := #[]
  methods := #[]
  instanceTypes := #[]
  staticTypes := #[]
  resolved := Array.replicate 11 none
  statics := none }

def pool7 : Array CpInfo := pool [(1, .class_ 2), (0, u "java/lang/constant/ConstantDesc"), (0, .class_ 4), (0, u "java/lang/Object")] 32

/-- java/lang/constant/ConstantDesc -/
def k7 : Class := { plain "java/lang/constant/ConstantDesc" (some 0) with
  accessFlags := 1537
  interfaces := #[]
  cf := some (fileOf pool7 1 #[] #[] 1537 3 #[] #[])
  fields := #[]
  methods := #[]
  instanceTypes := #[]
  staticTypes := #[]
  resolved := Array.replicate 37 none
  statics := none }

def pool8 : Array CpInfo := pool [(1, .methodref 2 3), (0, .class_ 4), (0, .nameAndType 5 6), (0, u "java/lang/Object"), (0, u "<init>"), (0, u "()V"), (2, .fieldref 10 11), (0, .class_ 12), (0, .nameAndType 13 14), (0, u "java/lang/String"), (0, u "value"), (0, u "[B"), (0, .fieldref 10 16), (0, .nameAndType 17 18), (0, u "coder"), (0, u "B"), (2, u "hash"), (0, u "I"), (2, u "hashIsZero"), (0, u "Z"), (0, .methodref 10 28), (0, .nameAndType 5 29), (0, u "([CIILjava/lang/Void;)V"), (8, .fieldref 10 39), (0, .nameAndType 40 26), (0, u "COMPACT_STRINGS"), (1, .class_ 44), (1, u "java/lang/StringUTF16"), (0, u "compress"), (1, .methodref 42 48), (0, .nameAndType 49 50), (0, u "coderFromArrayLen"), (0, u "([BI)B"), (56, .class_ 109), (1, u "java/lang/StringLatin1"), (67, .methodref 42 178), (0, .nameAndType 45 179), (0, u "([CII)[B"), (361, .methodref 107 542), (0, .nameAndType 543 544), (0, u "equals"), (0, u "([B[B)Z"), (28, u "(Ljava/lang/Object;)Z"), (1, .class_ 576), (0, u "java/lang/CharSequence"), (22, u "CASE_INSENSITIVE_ORDER"), (0, u "Ljava/util/Comparator;"), (409, u "([C)V"), (90, u "serialPersistentFields"), (0, u "[Ljava/io/ObjectStreamField;"), (0, .class_ 1104), (0, u "java/lang/String$CaseInsensitiveComparator"), (1, .class_ 1107), (0, u "java/io/Serializable"), (0, .class_ 1109), (0, u "java/lang/Comparable"), (0, .class_ 1111), (0, u "java/lang/constant/Constable"), (0, .class_ 1113), (0, u "java/lang/constant/ConstantDesc"), (2, u "serialVersionUID"), (0, u "J"), (3, u "REPL"), (0, u "C"), (2, u "LATIN1"), (1, u "UTF16")] 323

def k8m0 : Method := { name := "<init>", desc := "()V", sig := { parameters := [], returnType := none }, accessFlags := 1, code := none }
def k8c1 : Code := { maxStack := 5, maxLocals := 2, code := jdk_42_method_3_code, exceptionTable := #[], attributes := #[] }
def k8m1 : Method := { name := "<init>", desc := "([C)V", sig := { parameters := [(.array .char)], returnType := none }, accessFlags := 1, code := some k8c1 }
def k8c2 : Code := { maxStack := 2, maxLocals := 3, code := jdk_42_method_66_code, exceptionTable := #[], attributes := #[] }
def k8m2 : Method := { name := "equals", desc := "(Ljava/lang/Object;)Z", sig := { parameters := [(.object "java/lang/Object")], returnType := some .boolean }, accessFlags := 1, code := some k8c2 }
def k8c3 : Code := { maxStack := 4, maxLocals := 6, code := jdk_42_method_149_code, exceptionTable := #[], attributes := #[] }
def k8m3 : Method := { name := "<init>", desc := "([CIILjava/lang/Void;)V", sig := { parameters := [(.array .char), .int, .int, (.object "java/lang/Void")], returnType := none }, accessFlags := 2, code := some k8c3 }
/-- java/lang/String -/
def k8 : Class := { plain "java/lang/String" (some 0) with
  accessFlags := 49
  interfaces := #[3, 4, 5, 6, 7]
  cf := some (fileOf pool8 10 #[.nestMembers #[1103]] #[{ accessFlags := 1, nameIndex := 5, descriptorIndex := 6, attributes := #[] }, { accessFlags := 1, nameIndex := 5, descriptorIndex := 1010, attributes := #[] }, { accessFlags := 1, nameIndex := 543, descriptorIndex := 573, attributes := #[] }, { accessFlags := 2, nameIndex := 5, descriptorIndex := 29, attributes := #[] }] 49 2 #[1106, 1108, 575, 1110, 1112] #[{ accessFlags := 18, nameIndex := 13, descriptorIndex := 14, attributes := #[] }, { accessFlags := 18, nameIndex := 17, descriptorIndex := 18, attributes := #[] }, { accessFlags := 2, nameIndex := 21, descriptorIndex := 22, attributes := #[] }, { accessFlags := 2, nameIndex := 25, descriptorIndex := 26, attributes := #[] }, { accessFlags := 26, nameIndex := 1116, descriptorIndex := 1117, attributes := #[] }, { accessFlags := 24, nameIndex := 40, descriptorIndex := 26, attributes := #[] }, { accessFlags := 26, nameIndex := 1101, descriptorIndex := 1102, attributes := #[] }, { accessFlags := 26, nameIndex := 1121, descriptorIndex := 1122, attributes := #[] }, { accessFlags := 25, nameIndex := 599, descriptorIndex := 600, attributes := #[] }, { accessFlags := 24, nameIndex := 1125, descriptorIndex := 18, attributes := #[] }, { accessFlags := 24, nameIndex := 1127, descriptorIndex := 18, attributes := #[] }])
  fields := #[{ name := "value", type := (.array .byte), accessFlags := 18, slot := 0, constantValue := 0 }, { name := "coder", type := .byte, accessFlags := 18, slot := 1, constantValue := 0 }, { name := "hash", type := .int, accessFlags := 2, slot := 2, constantValue := 0 }, { name := "hashIsZero", type := .boolean, accessFlags := 2, slot := 3, constantValue := 0 }, { name := "serialVersionUID", type := .long, accessFlags := 26, slot := 0, constantValue := 0 }, { name := "COMPACT_STRINGS", type := .boolean, accessFlags := 24, slot := 1, constantValue := 0 }, { name := "serialPersistentFields", type := (.array (.object "java/io/ObjectStreamField")), accessFlags := 26, slot := 2, constantValue := 0 }, { name := "REPL", type := .char, accessFlags := 26, slot := 3, constantValue := 0 }, { name := "CASE_INSENSITIVE_ORDER", type := (.object "java/util/Comparator"), accessFlags := 25, slot := 4, constantValue := 0 }, { name := "LATIN1", type := .byte, accessFlags := 24, slot := 5, constantValue := 0 }, { name := "UTF16", type := .byte, accessFlags := 24, slot := 6, constantValue := 0 }]
  methods := #[k8m0, k8m1, k8m2, k8m3]
  instanceTypes := #[(.array .byte), .byte, .int, .boolean]
  staticTypes := #[.long, .boolean, (.array (.object "java/io/ObjectStreamField")), .char, (.object "java/util/Comparator"), .byte, .byte]
  resolved := Array.replicate 1451 none
  statics := some 0 }

def pool9 : Array CpInfo := pool [(6, .class_ 8), (1, u "java/lang/Object"), (0, u "<init>"), (0, u "()V"), (1, .class_ 14), (1, u "java/lang/StringUTF16"), (31, u "$assertionsDisabled"), (0, u "Z"), (13, u "HI_BYTE_SHIFT"), (0, u "I"), (2, u "LO_BYTE_SHIFT"), (49, .methodref 12 116), (0, .nameAndType 117 118), (0, u "compress"), (0, u "([CI[BII)I"), (3, u "([CII)[B"), (138, u "coderFromArrayLen"), (0, u "([BI)B"), (106, .class_ 371), (1, u "java/lang/StringUTF16$LinesSpliterator"), (58, u "MAX_LENGTH"), (196, .class_ 628), (0, u "java/lang/StringUTF16$CodePointsSpliterator"), (0, .class_ 630), (0, u "java/lang/StringUTF16$CharsSpliterator")] 4

def k9m0 : Method := { name := "<init>", desc := "()V", sig := { parameters := [], returnType := none }, accessFlags := 0, code := none }
def k9c1 : Code := { maxStack := 2, maxLocals := 2, code := jdk_52_method_15_code, exceptionTable := #[], attributes := #[] }
def k9m1 : Method := { name := "coderFromArrayLen", desc := "([BI)B", sig := { parameters := [(.array .byte), .int], returnType := some .byte }, accessFlags := 8, code := some k9c1 }
def k9c2 : Code := { maxStack := 5, maxLocals := 6, code := jdk_52_method_16_code, exceptionTable := #[], attributes := #[] }
def k9m2 : Method := { name := "compress", desc := "([CII)[B", sig := { parameters := [(.array .char), .int, .int], returnType := some (.array .byte) }, accessFlags := 9, code := some k9c2 }
def k9c3 : Code := { maxStack := 3, maxLocals := 7, code := jdk_52_method_21_code, exceptionTable := #[], attributes := #[] }
def k9m3 : Method := { name := "compress", desc := "([CI[BII)I", sig := { parameters := [(.array .char), .int, (.array .byte), .int, .int], returnType := some .int }, accessFlags := 9, code := some k9c3 }
/-- java/lang/StringUTF16 -/
def k9 : Class := { plain "java/lang/StringUTF16" (some 0) with
  accessFlags := 48
  interfaces := #[]
  cf := some (fileOf pool9 12 #[.nestMembers #[627, 629, 369]] #[{ accessFlags := 0, nameIndex := 9, descriptorIndex := 10, attributes := #[] }, { accessFlags := 8, nameIndex := 261, descriptorIndex := 262, attributes := #[] }, { accessFlags := 9, nameIndex := 117, descriptorIndex := 122, attributes := #[] }, { accessFlags := 9, nameIndex := 117, descriptorIndex := 118, attributes := #[] }] 48 6 #[] #[{ accessFlags := 26, nameIndex := 61, descriptorIndex := 62, attributes := #[] }, { accessFlags := 26, nameIndex := 65, descriptorIndex := 62, attributes := #[] }, { accessFlags := 24, nameIndex := 430, descriptorIndex := 62, attributes := #[] }, { accessFlags := 4120, nameIndex := 46, descriptorIndex := 47, attributes := #[] }])
  fields := #[{ name := "HI_BYTE_SHIFT", type := .int, accessFlags := 26, slot := 0, constantValue := 0 }, { name := "LO_BYTE_SHIFT", type := .int, accessFlags := 26, slot := 1, constantValue := 0 }, { name := "MAX_LENGTH", type := .int, accessFlags := 24, slot := 2, constantValue := 0 }, { name := "$assertionsDisabled", type := .boolean, accessFlags := 4120, slot := 3, constantValue := 0 }]
  methods := #[k9m0, k9m1, k9m2, k9m3]
  instanceTypes := #[]
  staticTypes := #[.int, .int, .int, .boolean]
  resolved := Array.replicate 635 none
  statics := none }

def pool10 : Array CpInfo := pool [(2, .class_ 4), (1, u "java/lang/Object"), (0, u "<init>"), (0, u "()V"), (35, .class_ 44), (1, u "java/util/Objects"), (0, u "requireNonNull"), (48, u "(Ljava/lang/Object;Ljava/lang/String;)Ljava/lang/Object;")] 89

def k10m0 : Method := { name := "<init>", desc := "()V", sig := { parameters := [], returnType := none }, accessFlags := 2, code := none }
def k10c1 : Code := { maxStack := 3, maxLocals := 2, code := jdk_31_method_11_code, exceptionTable := #[], attributes := #[] }
def k10m1 : Method := { name := "requireNonNull", desc := "(Ljava/lang/Object;Ljava/lang/String;)Ljava/lang/Object;", sig := { parameters := [(.object "java/lang/Object"), (.object "java/lang/String")], returnType := some (.object "java/lang/Object") }, accessFlags := 9, code := some k10c1 }
/-- java/util/Objects -/
def k10 : Class := { plain "java/util/Objects" (some 0) with
  accessFlags := 49
  interfaces := #[]
  cf := some (fileOf pool10 42 #[] #[{ accessFlags := 2, nameIndex := 5, descriptorIndex := 6, attributes := #[] }, { accessFlags := 9, nameIndex := 45, descriptorIndex := 94, attributes := #[] }] 49 2 #[] #[])
  fields := #[]
  methods := #[k10m0, k10m1]
  instanceTypes := #[]
  staticTypes := #[]
  resolved := Array.replicate 184 none
  statics := none }

def pool11 : Array CpInfo := pool [(4, .class_ 6), (1, u "java/lang/Object"), (0, u "<init>"), (0, u "()V"), (5, .class_ 16), (1, u "java/lang/StringLatin1"), (104, u "$assertionsDisabled"), (0, u "Z"), (98, .class_ 223), (1, u "java/lang/StringLatin1$LinesSpliterator"), (57, u "equals"), (0, u "([B[B)Z"), (107, .class_ 391), (0, u "java/lang/StringLatin1$CharsSpliterator")] 3

def k11m0 : Method := { name := "<init>", desc := "()V", sig := { parameters := [], returnType := none }, accessFlags := 0, code := none }
def k11c1 : Code := { maxStack := 3, maxLocals := 3, code := jdk_43_method_13_code, exceptionTable := #[], attributes := #[] }
def k11m1 : Method := { name := "equals", desc := "([B[B)Z", sig := { parameters := [(.array .byte), (.array .byte)], returnType := some .boolean }, accessFlags := 9, code := some k11c1 }
/-- java/lang/StringLatin1 -/
def k11 : Class := { plain "java/lang/StringLatin1" (some 0) with
  accessFlags := 48
  interfaces := #[]
  cf := some (fileOf pool11 14 #[.nestMembers #[390, 221]] #[{ accessFlags := 0, nameIndex := 7, descriptorIndex := 8, attributes := #[] }, { accessFlags := 9, nameIndex := 281, descriptorIndex := 282, attributes := #[] }] 48 4 #[] #[{ accessFlags := 4120, nameIndex := 121, descriptorIndex := 122, attributes := #[] }])
  fields := #[{ name := "$assertionsDisabled", type := .boolean, accessFlags := 4120, slot := 0, constantValue := 0 }]
  methods := #[k11m0, k11m1]
  instanceTypes := #[]
  staticTypes := #[.boolean]
  resolved := Array.replicate 395 none
  statics := none }

def pool12 : Array CpInfo := pool [(2, .class_ 4), (1, u "java/lang/Object"), (0, u "<init>"), (0, u "()V"), (17, .class_ 26), (1, u "jdk/internal/util/Preconditions"), (28, .class_ 56), (0, u "jdk/internal/util/Preconditions$4"), (57, .class_ 115), (0, u "jdk/internal/util/Preconditions$1"), (7, u "SIOOBE_FORMATTER"), (0, u "Ljava/util/function/BiFunction;"), (0, .class_ 126), (0, u "jdk/internal/util/Preconditions$2"), (3, u "AIOOBE_FORMATTER"), (0, .class_ 132), (0, u "jdk/internal/util/Preconditions$3"), (3, u "IOOBE_FORMATTER")] 57

def k12m0 : Method := { name := "<init>", desc := "()V", sig := { parameters := [], returnType := none }, accessFlags := 1, code := none }
/-- jdk/internal/util/Preconditions -/
def k12 : Class := { plain "jdk/internal/util/Preconditions" (some 0) with
  accessFlags := 33
  interfaces := #[]
  cf := some (fileOf pool12 24 #[.nestMembers #[55, 131, 125, 114]] #[{ accessFlags := 1, nameIndex := 5, descriptorIndex := 6, attributes := #[] }] 33 2 #[] #[{ accessFlags := 25, nameIndex := 123, descriptorIndex := 124, attributes := #[] }, { accessFlags := 25, nameIndex := 130, descriptorIndex := 124, attributes := #[] }, { accessFlags := 25, nameIndex := 136, descriptorIndex := 124, attributes := #[] }])
  fields := #[{ name := "SIOOBE_FORMATTER", type := (.object "java/util/function/BiFunction"), accessFlags := 25, slot := 0, constantValue := 0 }, { name := "AIOOBE_FORMATTER", type := (.object "java/util/function/BiFunction"), accessFlags := 25, slot := 1, constantValue := 0 }, { name := "IOOBE_FORMATTER", type := (.object "java/util/function/BiFunction"), accessFlags := 25, slot := 2, constantValue := 0 }]
  methods := #[k12m0]
  instanceTypes := #[]
  staticTypes := #[(.object "java/util/function/BiFunction"), (.object "java/util/function/BiFunction"), (.object "java/util/function/BiFunction")]
  resolved := Array.replicate 194 none
  statics := some 1 }

def pool13 : Array CpInfo := pool [(9, u "<init>"), (6, .class_ 18), (1, u "java/lang/Object"), (0, u "()V"), (1, .class_ 23), (1, u "jdk/internal/util/ArraysSupport"), (0, u "LOG2_ARRAY_LONG_INDEX_SCALE"), (0, u "I"), (2, u "U"), (0, u "Ljdk/internal/misc/Unsafe;"), (8, u "BIG_ENDIAN"), (0, u "Z"), (8, u "LOG2_BYTE_BIT_SIZE"), (4, u "LOG2_ARRAY_INT_INDEX_SCALE"), (54, u "JLA"), (0, u "Ljdk/internal/access/JavaLangAccess;"), (11, u "LOG2_ARRAY_BOOLEAN_INDEX_SCALE"), (9, u "LOG2_ARRAY_BYTE_INDEX_SCALE"), (5, u "LOG2_ARRAY_CHAR_INDEX_SCALE"), (5, u "LOG2_ARRAY_SHORT_INDEX_SCALE"), (18, u "LOG2_ARRAY_FLOAT_INDEX_SCALE"), (24, u "LOG2_ARRAY_DOUBLE_INDEX_SCALE"), (89, u "T_BOOLEAN"), (2, u "T_CHAR"), (1, u "T_FLOAT"), (1, u "T_DOUBLE"), (1, u "T_BYTE"), (1, u "T_SHORT"), (1, u "T_INT"), (1, u "T_LONG"), (1, u "SOFT_MAX_ARRAY_LENGTH")] 83

def k13m0 : Method := { name := "<init>", desc := "()V", sig := { parameters := [], returnType := none }, accessFlags := 2, code := none }
/-- jdk/internal/util/ArraysSupport -/
def k13 : Class := { plain "jdk/internal/util/ArraysSupport" (some 0) with
  accessFlags := 33
  interfaces := #[]
  cf := some (fileOf pool13 21 #[] #[{ accessFlags := 2, nameIndex := 9, descriptorIndex := 19, attributes := #[] }] 33 16 #[] #[{ accessFlags := 24, nameIndex := 28, descriptorIndex := 29, attributes := #[] }, { accessFlags := 26, nameIndex := 38, descriptorIndex := 39, attributes := #[] }, { accessFlags := 25, nameIndex := 121, descriptorIndex := 25, attributes := #[] }, { accessFlags := 25, nameIndex := 131, descriptorIndex := 25, attributes := #[] }, { accessFlags := 25, nameIndex := 137, descriptorIndex := 25, attributes := #[] }, { accessFlags := 25, nameIndex := 143, descriptorIndex := 25, attributes := #[] }, { accessFlags := 25, nameIndex := 53, descriptorIndex := 25, attributes := #[] }, { accessFlags := 25, nameIndex := 24, descriptorIndex := 25, attributes := #[] }, { accessFlags := 25, nameIndex := 162, descriptorIndex := 25, attributes := #[] }, { accessFlags := 25, nameIndex := 187, descriptorIndex := 25, attributes := #[] }, { accessFlags := 26, nameIndex := 48, descriptorIndex := 25, attributes := #[] }, { accessFlags := 25, nameIndex := 277, descriptorIndex := 25, attributes := #[] }, { accessFlags := 25, nameIndex := 280, descriptorIndex := 25, attributes := #[] }, { accessFlags := 25, nameIndex := 282, descriptorIndex := 25, attributes := #[] }, { accessFlags := 25, nameIndex := 284, descriptorIndex := 25, attributes := #[] }, { accessFlags := 25, nameIndex := 286, descriptorIndex := 25, attributes := #[] }, { accessFlags := 25, nameIndex := 288, descriptorIndex := 25, attributes := #[] }, { accessFlags := 25, nameIndex := 290, descriptorIndex := 25, attributes := #[] }, { accessFlags := 25, nameIndex := 292, descriptorIndex := 25, attributes := #[] }, { accessFlags := 26, nameIndex := 108, descriptorIndex := 109, attributes := #[] }, { accessFlags := 25, nameIndex := 294, descriptorIndex := 25, attributes := #[] }])
  fields := #[{ name := "U", type := (.object "jdk/internal/misc/Unsafe"), accessFlags := 24, slot := 0, constantValue := 0 }, { name := "BIG_ENDIAN", type := .boolean, accessFlags := 26, slot := 1, constantValue := 0 }, { name := "LOG2_ARRAY_BOOLEAN_INDEX_SCALE", type := .int, accessFlags := 25, slot := 2, constantValue := 0 }, { name := "LOG2_ARRAY_BYTE_INDEX_SCALE", type := .int, accessFlags := 25, slot := 3, constantValue := 0 }, { name := "LOG2_ARRAY_CHAR_INDEX_SCALE", type := .int, accessFlags := 25, slot := 4, constantValue := 0 }, { name := "LOG2_ARRAY_SHORT_INDEX_SCALE", type := .int, accessFlags := 25, slot := 5, constantValue := 0 }, { name := "LOG2_ARRAY_INT_INDEX_SCALE", type := .int, accessFlags := 25, slot := 6, constantValue := 0 }, { name := "LOG2_ARRAY_LONG_INDEX_SCALE", type := .int, accessFlags := 25, slot := 7, constantValue := 0 }, { name := "LOG2_ARRAY_FLOAT_INDEX_SCALE", type := .int, accessFlags := 25, slot := 8, constantValue := 0 }, { name := "LOG2_ARRAY_DOUBLE_INDEX_SCALE", type := .int, accessFlags := 25, slot := 9, constantValue := 0 }, { name := "LOG2_BYTE_BIT_SIZE", type := .int, accessFlags := 26, slot := 10, constantValue := 0 }, { name := "T_BOOLEAN", type := .int, accessFlags := 25, slot := 11, constantValue := 0 }, { name := "T_CHAR", type := .int, accessFlags := 25, slot := 12, constantValue := 0 }, { name := "T_FLOAT", type := .int, accessFlags := 25, slot := 13, constantValue := 0 }, { name := "T_DOUBLE", type := .int, accessFlags := 25, slot := 14, constantValue := 0 }, { name := "T_BYTE", type := .int, accessFlags := 25, slot := 15, constantValue := 0 }, { name := "T_SHORT", type := .int, accessFlags := 25, slot := 16, constantValue := 0 }, { name := "T_INT", type := .int, accessFlags := 25, slot := 17, constantValue := 0 }, { name := "T_LONG", type := .int, accessFlags := 25, slot := 18, constantValue := 0 }, { name := "JLA", type := (.object "jdk/internal/access/JavaLangAccess"), accessFlags := 26, slot := 19, constantValue := 0 }, { name := "SOFT_MAX_ARRAY_LENGTH", type := .int, accessFlags := 25, slot := 20, constantValue := 0 }]
  methods := #[k13m0]
  instanceTypes := #[]
  staticTypes := #[(.object "jdk/internal/misc/Unsafe"), .boolean, .int, .int, .int, .int, .int, .int, .int, .int, .int, .int, .int, .int, .int, .int, .int, .int, .int, (.object "jdk/internal/access/JavaLangAccess"), .int]
  resolved := Array.replicate 378 none
  statics := none }

def pool14 : Array CpInfo := pool [(1, u "java/lang/Cloneable"), (0, .class_ 1), (0, u "java/lang/Object"), (0, .class_ 3)] 3

/-- java/lang/Cloneable -/
def k14 : Class := { plain "java/lang/Cloneable" (some 0) with
  accessFlags := 1537
  interfaces := #[]
  cf := some (fileOf pool14 2 #[] #[] 1537 4 #[] #[])
  fields := #[]
  methods := #[]
  instanceTypes := #[]
  staticTypes := #[]
  resolved := Array.replicate 8 none
  statics := none }

/-- the primitive byte -/
def k15 : Class := { plain "byte" none with kind := .primitive 'B', accessFlags := 0x411 }
/-- [B -/
def k16 : Class := { plain "[B" (some 0) with kind := .array 15 .byte, interfaces := #[14, 3], accessFlags := 1041 }

/-- the primitive char -/
def k17 : Class := { plain "char" none with kind := .primitive 'C', accessFlags := 0x411 }
/-- [C -/
def k18 : Class := { plain "[C" (some 0) with kind := .array 17 .char, interfaces := #[14, 3], accessFlags := 1041 }

/-- the primitive int -/
def k19 : Class := { plain "int" none with kind := .primitive 'I', accessFlags := 0x411 }
/-- [I -/
def k20 : Class := { plain "[I" (some 0) with kind := .array 19 .int, interfaces := #[14, 3], accessFlags := 1041 }

def heap : Heap := #[{ cls := 8, slots := #[.long 0, .int 1, .null, .int 0, .null, .int 0, .int 0], vm := .statics 8 },
  { cls := 12, slots := #[.null, .null, .null], vm := .statics 12 }]
def classes : Array Class := #[k0, k1, k2, k3, k4, k5, k6, k7, k8, k9, k10, k11, k12, k13, k14, k15, k16, k17, k18, k19, k20]
def interned : List (Array UInt16 × Addr) := []
def slotsUsed : Nat := 10
def theMethod : MethodId := ⟨1, 1⟩
def args0 : Array Value := #[.int 97, .int 98, .int 3]
def aboutOver (below : List Frame) : State where
  vm := { classes := classes, interned := interned.toArray }
  heap := heap
  slotsUsed := slotsUsed
  threads := #[{ frames := .invoking theMethod args0 :: below }]
def below0 : List Frame := [.native { method := ⟨0, 0⟩, args := #[] }]
def about1 : State := aboutOver below0
def p0 : Program := .bare "" "" ""
def e0 : Env := launch0.env 0 0 0
theorem w_frames : about1.frames = Frame.invoking theMethod args0 :: below0 := rfl
set_option maxRecDepth 65536 in
theorem w_args : argsFit about1.vm theMethod args0 = true := by decide +kernel
set_option maxRecDepth 65536 in
theorem w_heap : heapFits about1 = true := by decide +kernel
set_option maxRecDepth 65536 in
theorem w_runnable : about1.curStatus? = some .runnable := by decide +kernel
set_option maxRecDepth 65536 in
theorem w_alone : about1.alone = true := by decide +kernel
set_option maxRecDepth 65536 in
theorem w_named : about1.methodNamed? x = some theMethod := by decide +kernel
set_option maxRecDepth 65536 in
theorem w_hears : about1.hears theMethod below0 = true := by decide +kernel
set_option maxRecDepth 65536 in
theorem w_ripe : about1.ripe theMethod args0 below0 = true := by decide +kernel
theorem w_running : about1.status = .running := rfl
set_option maxRecDepth 65536 in
theorem w_room : about1.hasRoom e0.platform room_1 = true :=
  launch0.hasRoom_least _ room_1 (by decide +kernel) (by decide +kernel) (by decide +kernel) (by decide +kernel) (by decide +kernel) (by decide +kernel)
theorem allAtoms_all (ts : List Jvm.Cond) (a : Array Jvm.Value) (st : Jvm.State) : (allAtoms ts).before a st = ts.all (fun c => c.before a st) := by
  induction ts with
  | nil => rfl
  | cons c t ih =>
    show (Jvm.Cond.and c (allAtoms t)).before a st = _
    rw [Jvm.Cond.before_and, ih, List.all_cons]
def words1 : List Jvm.Cond := Jvm.Cond.code x code maxLocals ret :: tables_1
/-- a 'code' word, met by the world's own term for the bytes: nothing is compared byte by byte -/
theorem code_word {y : MethodName} {bytes : ByteArray} {mx : Nat} {rt : Option FieldType} {a : Array Value} {s : State} {m : MethodId} {meth : Method} {c : Code} (h1 : s.methodNamed? y = some m) (h2 : s.vm.method? m = some meth) (h3 : meth.code = some c) (h4 : c.code = bytes)
    (h5 : (c.maxLocals == mx && c.exceptionTable.isEmpty && decide (c.maxStack ≤ mostOperands) && decide (meth.sig.returnType = rt) && !meth.locks && decide (parseMethodDescriptor y.desc = some meth.sig)) = true) : (Jvm.Cond.code y bytes mx rt).before a s = true := by
  simp only [Bool.and_eq_true, beq_iff_eq, Bool.not_eq_true', decide_eq_true_eq] at h5
  obtain ⟨⟨⟨⟨⟨g1, g2⟩, g3⟩, g4⟩, g5⟩, g6⟩ := h5
  simp [Cond.before, Cond.holds, Cond.value, h1, h2, h3, h4, g1, g2, g3, g4, g5, g6]
def isCode : Jvm.Cond → Bool
  | .code _ _ _ _ => true
  | _ => false
theorem all_split {L : List Jvm.Cond} {P : Jvm.Cond → Bool} (h1 : L.all (fun c => isCode c || P c) = true) (h2 : ∀ c ∈ L.filter isCode, P c = true) : L.all P = true := by
  refine List.all_eq_true.mpr fun c hc => ?_
  have h := List.all_eq_true.mp h1 c hc
  rcases Bool.eq_false_or_eq_true (isCode c) with hi | hi
  · exact h2 c (List.mem_filter.mpr ⟨hc, hi⟩)
  · simpa [hi] using h
set_option maxRecDepth 65536 in
theorem w_c0 : (Jvm.Cond.code x code maxLocals ret).before args0 about1 = true := code_word (m := ⟨1, 1⟩) (meth := k1m1) (c := k1c1) (by decide +kernel) rfl rfl rfl (by decide +kernel)
set_option maxRecDepth 65536 in
theorem w_c1 : (Jvm.Cond.code ({ cls := "java/lang/String", name := "<init>", desc := "([C)V" } : Jvm.MethodName) jdk_42_method_3_code (2 : Nat) (Option.none : Option Jvm.ClassFile.FieldType)).before args0 about1 = true := code_word (m := ⟨8, 1⟩) (meth := k8m1) (c := k8c1) (by decide +kernel) rfl rfl rfl (by decide +kernel)
set_option maxRecDepth 65536 in
theorem w_c2 : (Jvm.Cond.code ({ cls := "java/lang/String", name := "<init>", desc := "([CIILjava/lang/Void;)V" } : Jvm.MethodName) jdk_42_method_149_code (6 : Nat) (Option.none : Option Jvm.ClassFile.FieldType)).before args0 about1 = true := code_word (m := ⟨8, 3⟩) (meth := k8m3) (c := k8c3) (by decide +kernel) rfl rfl rfl (by decide +kernel)
set_option maxRecDepth 65536 in
theorem w_c3 : (Jvm.Cond.code ({ cls := "java/lang/Object", name := "<init>", desc := "()V" } : Jvm.MethodName) object_method_1_code (1 : Nat) (Option.none : Option Jvm.ClassFile.FieldType)).before args0 about1 = true := code_word (m := ⟨0, 0⟩) (meth := k0m0) (c := k0c0) (by decide +kernel) rfl rfl rfl (by decide +kernel)
set_option maxRecDepth 65536 in
theorem w_c4 : (Jvm.Cond.code ({ cls := "java/lang/StringUTF16", name := "compress", desc := "([CII)[B" } : Jvm.MethodName) jdk_52_method_16_code (6 : Nat) (Option.some (Jvm.ClassFile.FieldType.array Jvm.ClassFile.FieldType.byte))).before args0 about1 = true := code_word (m := ⟨9, 2⟩) (meth := k9m2) (c := k9c2) (by decide +kernel) rfl rfl rfl (by decide +kernel)
set_option maxRecDepth 65536 in
theorem w_c5 : (Jvm.Cond.code ({ cls := "java/lang/StringUTF16", name := "compress", desc := "([CI[BII)I" } : Jvm.MethodName) jdk_52_method_21_code (7 : Nat) (Option.some Jvm.ClassFile.FieldType.int)).before args0 about1 = true := code_word (m := ⟨9, 3⟩) (meth := k9m3) (c := k9c3) (by decide +kernel) rfl rfl rfl (by decide +kernel)
set_option maxRecDepth 65536 in
theorem w_c6 : (Jvm.Cond.code ({ cls := "java/lang/StringUTF16", name := "coderFromArrayLen", desc := "([BI)B" } : Jvm.MethodName) jdk_52_method_15_code (2 : Nat) (Option.some Jvm.ClassFile.FieldType.byte)).before args0 about1 = true := code_word (m := ⟨9, 1⟩) (meth := k9m1) (c := k9c1) (by decide +kernel) rfl rfl rfl (by decide +kernel)
set_option maxRecDepth 65536 in
theorem w_c7 : (Jvm.Cond.code ({ cls := "com/example/nokkel/nokkel/core/ClientRecord", name := "<init>", desc := "(Ljava/lang/String;Ljava/lang/String;ZZ)V" } : Jvm.MethodName) prog_7_method_2_code (5 : Nat) (Option.none : Option Jvm.ClassFile.FieldType)).before args0 about1 = true := code_word (m := ⟨2, 0⟩) (meth := k2m0) (c := k2c0) (by decide +kernel) rfl rfl rfl (by decide +kernel)
set_option maxRecDepth 65536 in
theorem w_c8 : (Jvm.Cond.code ({ cls := "java/util/Objects", name := "requireNonNull", desc := "(Ljava/lang/Object;Ljava/lang/String;)Ljava/lang/Object;" } : Jvm.MethodName) jdk_31_method_11_code (2 : Nat) (Option.some (Jvm.ClassFile.FieldType.object "java/lang/Object"))).before args0 about1 = true := code_word (m := ⟨10, 1⟩) (meth := k10m1) (c := k10c1) (by decide +kernel) rfl rfl rfl (by decide +kernel)
set_option maxRecDepth 65536 in
theorem w_c9 : (Jvm.Cond.code ({ cls := "com/example/nokkel/nokkel/core/ClientRecord", name := "equals", desc := "(Ljava/lang/Object;)Z" } : Jvm.MethodName) prog_7_method_10_code (3 : Nat) (Option.some Jvm.ClassFile.FieldType.boolean)).before args0 about1 = true := code_word (m := ⟨2, 1⟩) (meth := k2m1) (c := k2c1) (by decide +kernel) rfl rfl rfl (by decide +kernel)
set_option maxRecDepth 65536 in
theorem w_c10 : (Jvm.Cond.code ({ cls := "java/lang/String", name := "equals", desc := "(Ljava/lang/Object;)Z" } : Jvm.MethodName) jdk_42_method_66_code (3 : Nat) (Option.some Jvm.ClassFile.FieldType.boolean)).before args0 about1 = true := code_word (m := ⟨8, 2⟩) (meth := k8m2) (c := k8c2) (by decide +kernel) rfl rfl rfl (by decide +kernel)
set_option maxRecDepth 65536 in
theorem w_c11 : (Jvm.Cond.code ({ cls := "java/lang/StringLatin1", name := "equals", desc := "([B[B)Z" } : Jvm.MethodName) jdk_43_method_13_code (3 : Nat) (Option.some Jvm.ClassFile.FieldType.boolean)).before args0 about1 = true := code_word (m := ⟨11, 1⟩) (meth := k11m1) (c := k11c1) (by decide +kernel) rfl rfl rfl (by decide +kernel)
def codes1 : List Jvm.Cond := [Jvm.Cond.code x code maxLocals ret, Jvm.Cond.code ({ cls := "java/lang/String", name := "<init>", desc := "([C)V" } : Jvm.MethodName) jdk_42_method_3_code (2 : Nat) (Option.none : Option Jvm.ClassFile.FieldType), Jvm.Cond.code ({ cls := "java/lang/String", name := "<init>", desc := "([CIILjava/lang/Void;)V" } : Jvm.MethodName) jdk_42_method_149_code (6 : Nat) (Option.none : Option Jvm.ClassFile.FieldType), Jvm.Cond.code ({ cls := "java/lang/Object", name := "<init>", desc := "()V" } : Jvm.MethodName) object_method_1_code (1 : Nat) (Option.none : Option Jvm.ClassFile.FieldType), Jvm.Cond.code ({ cls := "java/lang/StringUTF16", name := "compress", desc := "([CII)[B" } : Jvm.MethodName) jdk_52_method_16_code (6 : Nat) (Option.some (Jvm.ClassFile.FieldType.array Jvm.ClassFile.FieldType.byte)), Jvm.Cond.code ({ cls := "java/lang/StringUTF16", name := "compress", desc := "([CI[BII)I" } : Jvm.MethodName) jdk_52_method_21_code (7 : Nat) (Option.some Jvm.ClassFile.FieldType.int), Jvm.Cond.code ({ cls := "java/lang/StringUTF16", name := "coderFromArrayLen", desc := "([BI)B" } : Jvm.MethodName) jdk_52_method_15_code (2 : Nat) (Option.some Jvm.ClassFile.FieldType.byte), Jvm.Cond.code ({ cls := "com/example/nokkel/nokkel/core/ClientRecord", name := "<init>", desc := "(Ljava/lang/String;Ljava/lang/String;ZZ)V" } : Jvm.MethodName) prog_7_method_2_code (5 : Nat) (Option.none : Option Jvm.ClassFile.FieldType), Jvm.Cond.code ({ cls := "java/util/Objects", name := "requireNonNull", desc := "(Ljava/lang/Object;Ljava/lang/String;)Ljava/lang/Object;" } : Jvm.MethodName) jdk_31_method_11_code (2 : Nat) (Option.some (Jvm.ClassFile.FieldType.object "java/lang/Object")), Jvm.Cond.code ({ cls := "com/example/nokkel/nokkel/core/ClientRecord", name := "equals", desc := "(Ljava/lang/Object;)Z" } : Jvm.MethodName) prog_7_method_10_code (3 : Nat) (Option.some Jvm.ClassFile.FieldType.boolean), Jvm.Cond.code ({ cls := "java/lang/String", name := "equals", desc := "(Ljava/lang/Object;)Z" } : Jvm.MethodName) jdk_42_method_66_code (3 : Nat) (Option.some Jvm.ClassFile.FieldType.boolean), Jvm.Cond.code ({ cls := "java/lang/StringLatin1", name := "equals", desc := "([B[B)Z" } : Jvm.MethodName) jdk_43_method_13_code (3 : Nat) (Option.some Jvm.ClassFile.FieldType.boolean)]
set_option maxRecDepth 65536 in
theorem codes_eq : words1.filter isCode = codes1 := rfl
theorem w_codes : ∀ c ∈ words1.filter isCode, c.before args0 about1 = true := by
  rw [codes_eq]
  intro c hc
  simp only [codes1, List.mem_cons, List.not_mem_nil, or_false] at hc
  rcases hc with rfl | rfl | rfl | rfl | rfl | rfl | rfl | rfl | rfl | rfl | rfl | rfl
  · exact w_c0
  · exact w_c1
  · exact w_c2
  · exact w_c3
  · exact w_c4
  · exact w_c5
  · exact w_c6
  · exact w_c7
  · exact w_c8
  · exact w_c9
  · exact w_c10
  · exact w_c11
set_option maxRecDepth 65536 in
theorem w_t1 : (words1.take 24).all (fun c => isCode c || c.before args0 about1) = true := by decide +kernel
set_option maxRecDepth 65536 in
theorem w_t2 : ((words1.drop 24).take 24).all (fun c => isCode c || c.before args0 about1) = true := by decide +kernel
set_option maxRecDepth 65536 in
theorem w_t3 : (((words1.drop 24).drop 24).take 24).all (fun c => isCode c || c.before args0 about1) = true := by decide +kernel
set_option maxRecDepth 65536 in
theorem w_t4 : (((words1.drop 24).drop 24).drop 24).all (fun c => isCode c || c.before args0 about1) = true := by decide +kernel
theorem w_tables : (allAtoms (Jvm.Cond.code x code maxLocals ret :: tables_1)).before args0 about1 = true := by
  rw [allAtoms_all]
  show words1.all (fun c => c.before args0 about1) = true
  refine all_split ?_ w_codes
  rw [← List.take_append_drop 24 words1, List.all_append, w_t1, ← List.take_append_drop 24 (words1.drop 24), List.all_append, w_t2, ← List.take_append_drop 24 ((words1.drop 24).drop 24), List.all_append, w_t3, w_t4]
  rfl
set_option maxRecDepth 65536 in
theorem w_rest : rest_1_c.before args0 about1 = true := by decide +kernel
set_option maxRecDepth 65536 in
theorem w_case : (Jvm.Cond.and given_1 narrow_1).before args0 about1 = true := by decide +kernel
theorem w_applies : (headSpec (Jvm.Cond.code x code maxLocals ret :: tables_1) room_1).applies x e0.platform about1 = true :=
  (Spec.applies_iff w_frames).mpr ⟨w_running, w_runnable, w_alone, w_named, w_hears, w_ripe, w_room, w_tables⟩
theorem atStart : AtStart classFile x code maxLocals ret World_1 tables_1 room_1 Calls_1 rest_1 Pre_1 launch0 p0 e0 about1 theMethod args0 below0 :=
  ⟨lists_1, trivial, launch0.admits_env _ _ _, launch0.least_env, fairChoices_fair.cas, fairChoices_fair.clock, w_frames, w_args, w_heap, w_applies, trivial, w_rest, w_case⟩
end start1
theorem witness_1 : WitnessClaimed_1 := ⟨start1.p0, start1.e0, start1.about1, start1.theMethod, start1.args0, start1.below0, start1.atStart⟩
end Jvm.Pilot.@@N@@
