import JvmDerived
import JvmDerived.Pilot.@@N@@Statement
import JvmDerived.Pilot.@@N@@Code
set_option linter.unusedVariables false
set_option linter.unusedSimpArgs false
namespace Jvm.RoadKit
open Sem ClassFile Op Lib Jvm.Stand Jvm.Free Jvm.LawKit
section New
variable {p : Program} {l : Launch} {e : Env} {R : Room} {s : State} {m : MethodId} {args : Array Value} {below : List Frame} {meth : Method} {c : Code} {T : State} {locs : List Loc} {cells slots : Nat}
theorem retI (X : Stand p l e R s m args below meth c T locs cells slots) (hx : p.tables.exec = Jvm.exec) {pc : Nat} {Ls : Array Slot} {z : Int32} {rest : List Value} (hret : meth.sig.returnType = some .int) (hd : decode c.code pc = .ok (.ireturn, 1)) {fs : List Frame}
    (hl : ∀ (f : JFrame) (acts : List Action), f.method = m → f.locked = none → f.entered = [] → (doReturn e (T.setTop f) acts (some (.int z))).1 = T.setFrames fs) : Steps p.tables e below (T.setTop (mkF m pc Ls (.int z :: rest))) (T.setFrames fs) := by
  have hm' : T.vm.method? m = some meth := X.method'
  have hn : narrow .int (.int z) = .int z := rfl
  show Steps p.tables e below (T.setTop { method := m, pc := pc, locals := Ls, stack := _ :: rest, locked := none }) _
  jvm_step X.here [X.here.top, hx, hd, hm', hret, hn]
  first | (intro acts; rw [hl _ acts rfl rfl rfl]) | rw [hl _ _ rfl rfl rfl]
  exact Steps.refl _
end New
end Jvm.RoadKit
/- laws to paste: Road.backV (cut by pick.py; bodies as the Statement names them) -/
namespace Jvm.Pilot.@@N@@
namespace StrChars
open Jvm Sem ClassFile Op Lib Jvm.Stand Jvm.Free.XT Jvm.Free.ALB Jvm.Free.JM Jvm.Free
open Jvm.Lib.Cold (StaticIs)
/-- a char array whose places are chars -/
def Ch (a : Addr) (A : Cell) (U : State) : Prop := Arr .char a A U ∧ Typed .char A
theorem Ch.mv {a : Addr} {A : Cell} {U U' : State} (h : Ch a A U) (hal : U.vm.Alike U'.vm) (hh : U'.heap = U.heap) : Ch a A U' := ⟨h.1.mv hal hh, h.2⟩
theorem Ch.keep {a : Addr} {A : Cell} {U U' : State} (h : Ch a A U) (hal : U.vm.Alike U'.vm) (hk : U'.heap[a]? = some A) : Ch a A U' := ⟨h.1.keep hal hk, h.2⟩
/-- what place i of a char[]'s cell holds -/
def cv (A : Cell) (i : Nat) : Int32 := match A.slots[i]? with | some (.int x) => x | _ => 0
theorem Ch.get {a : Addr} {A : Cell} {U : State} (h : Ch a A U) {i : Nat} (hi : i < A.slots.size) : A.slots[i]? = some (.int (cv A i)) := by
  have e := Array.getElem?_eq_getElem hi
  have f := h.2 i _ e
  unfold cv; rw [e]
  generalize A.slots[i] = v at f
  cases v <;> simp [fits] at f ⊢
/-- the byte that i2b leaves of a char -/
def lo8 (x : Int32) : Int32 := x.toInt8.toInt32
theorem fits_lo8 (y : Int32) : fits .byte (.int (lo8 y)) = true := by
  have h1 := y.toInt8.le_toInt
  have h2 := y.toInt8.toInt_lt
  simp only [lo8, fits, Bool.and_eq_true, decide_eq_true_eq, Int32.le_iff_toInt_le, Int8.toInt_toInt32, show (-128 : Int32).toInt = -128 from by decide, show (127 : Int32).toInt = 127 from by decide]
  omega
/-- A' is A but that each place j of lo .. hi - 1 holds f j -/
def Laid (A A' : Cell) (lo hi : Nat) (f : Nat → Value) : Prop := A'.cls = A.cls ∧ A'.vm = A.vm ∧ A'.slots.size = A.slots.size ∧ ∀ i, A'.slots[i]? = if lo ≤ i ∧ i < hi then some (f i) else A.slots[i]?
theorem Laid.zero (A : Cell) (lo : Nat) (f : Nat → Value) : Laid A A lo (lo + 0) f := ⟨rfl, rfl, rfl, fun i => by rw [if_neg (by omega)]⟩
theorem Laid.step {A Ak : Cell} {lo k : Nat} {f : Nat → Value} {v : Value} (h : Laid A Ak lo k f) (hlo : lo ≤ k) (hk : k < Ak.slots.size) (hv : v = f k) : Laid A (Ak.setSlot k v) lo (k + 1) f := by
  refine ⟨h.1, h.2.1, by simpa [Cell.setSlot] using h.2.2.1, fun i => ?_⟩
  by_cases e : k = i
  · subst e; rw [Cell.slots_setSlot_self v hk, if_pos (by omega), hv]
  · rw [Cell.slots_setSlot_ne v e, h.2.2.2 i]
    by_cases q : lo ≤ i ∧ i < k
    · rw [if_pos q, if_pos (by omega)]
    · rw [if_neg q, if_neg (by omega)]
def U16 : String := "java/lang/StringUTF16"
namespace Cmp5
def yN : MethodName := ⟨"java/lang/StringUTF16", "compress", "([CI[BII)I"⟩
abbrev yB : ByteArray := jdk_52_method_21_code
theorem d0 : decode yB 0 = .ok (.iconst 0, 1) := by decide +kernel
theorem d1 : decode yB 1 = .ok (.istore 5, 2) := by decide +kernel
theorem d3 : decode yB 3 = .ok (.iload 5, 2) := by decide +kernel
theorem d5 : decode yB 5 = .ok (.iload 4, 2) := by decide +kernel
theorem d7 : decode yB 7 = .ok (.if_icmp (.ge) 37, 3) := by decide +kernel
theorem d10 : decode yB 10 = .ok (.aload_n 0, 1) := by decide +kernel
theorem d11 : decode yB 11 = .ok (.iload_n 1, 1) := by decide +kernel
theorem d12 : decode yB 12 = .ok (.caload, 1) := by decide +kernel
theorem d13 : decode yB 13 = .ok (.istore 6, 2) := by decide +kernel
theorem d15 : decode yB 15 = .ok (.iload 6, 2) := by decide +kernel
theorem d17 : decode yB 17 = .ok (.sipush 255, 3) := by decide +kernel
theorem d20 : decode yB 20 = .ok (.if_icmp (.le) 6, 3) := by decide +kernel
theorem d26 : decode yB 26 = .ok (.aload_n 2, 1) := by decide +kernel
theorem d27 : decode yB 27 = .ok (.iload_n 3, 1) := by decide +kernel
theorem d28 : decode yB 28 = .ok (.iload 6, 2) := by decide +kernel
theorem d30 : decode yB 30 = .ok (.i2b, 1) := by decide +kernel
theorem d31 : decode yB 31 = .ok (.bastore, 1) := by decide +kernel
theorem d32 : decode yB 32 = .ok (.iinc 1 1, 3) := by decide +kernel
theorem d35 : decode yB 35 = .ok (.iinc 3 1, 3) := by decide +kernel
theorem d38 : decode yB 38 = .ok (.iinc 5 1, 3) := by decide +kernel
theorem d41 : decode yB 41 = .ok (.goto (-38), 3) := by decide +kernel
theorem d44 : decode yB 44 = .ok (.iload 4, 2) := by decide +kernel
theorem d46 : decode yB 46 = .ok (.ireturn, 1) := by decide +kernel
def site : List Cond := []
def tab : Cond := tabOf yN yB 7 (some .int) site
def P (b : Addr) (A : Cell) (d : Addr) (B : Cell) (o q len : Nat) (args : Array Value) (s : State) : Prop := args = #[.ref b, .int (Int32.ofNat o), .ref d, .int (Int32.ofNat q), .int (Int32.ofNat len)] ∧ Ch b A s ∧ Arr .byte d B s ∧ b ≠ d ∧ o + len ≤ A.slots.size ∧ q + len ≤ B.slots.size ∧ ∀ i, i < len → ¬ 255 < cv A (o + i)
def E (b : Addr) (A : Cell) (d : Addr) (B : Cell) (o q len : Nat) (r : Option Value) (s u : State) : Prop := r = some (.int (Int32.ofNat len)) ∧ ∃ B', Put d B' s u ∧ Laid B B' q (q + len) (fun j => Value.int (lo8 (cv A (o + (j - q)))))
/-- no char of the range above 255: len; the places written hold each char's low byte -/
theorem law (l : Launch) (b : Addr) (A : Cell) (d : Addr) (B : Cell) (o q len : Nat) : Law l yN 5 5 0 0 yB 7 (some .int) site (P b A d B o q len) (E b A d B o q len) (copyLocs d q len) 0 0 := by
  refine Law.of_walk (plainFor_of_name (by decide +kernel)) (by decide +kernel) (by decide +kernel) (by decide) (fun _ _ h => by rw [h.1]; rfl) (fun _ U U' hal hh h => ⟨h.1, h.2.1.mv hal hh, h.2.2.1.mv hal hh, h.2.2.2⟩) (fun r U U' V V' h1 hal h2 h => ⟨h.1, h.2.elim fun B' q => ⟨B', q.1.mv h1 h2, q.2⟩⟩) ?_
  intro p e s m args below meth c s₁ X0 hexec hbytes hml hret hlk hnm hown hh0 W hP
  obtain ⟨rfl, hA, hB, hne, l1, l2, hp⟩ := hP
  have c1 : Steps p.tables e below (s₁.setTop (entryFrame m #[.ref b, .int (Int32.ofNat o), .ref d, .int (Int32.ofNat q), .int (Int32.ofNat len)] 7)) (s₁.setTop (mkF m 0 #[.val (.ref b), .val (.int (Int32.ofNat o)), .val (.ref d), .val (.int (Int32.ofNat q)), .val (.int (Int32.ofNat len)), .unset, .unset] [])) := entry rfl
  have hA0 := hA.1.mv X0.warmed.alike hh0
  have hB0 := hB.mv X0.warmed.alike hh0
  have a31 := hA.1.2.2.2
  have c2 : Steps p.tables e below (s₁.setTop (entryFrame m #[.ref b, .int (Int32.ofNat o), .ref d, .int (Int32.ofNat q), .int (Int32.ofNat len)] 7)) (s₁.setTop (mkF m 3 #[.val (.ref b), .val (.int (Int32.ofNat o)), .val (.ref d), .val (.int (Int32.ofNat q)), .val (.int (Int32.ofNat len)), .val (.int 0), .unset] [])) := c1.trans (by
    refine iconstV X0.here hexec rfl 0 (hb hbytes d0) (by decide) ?_
    refine XS.istore X0.here hexec rfl (hb hbytes d1) rfl rfl ?_
    exact Steps.refl _)
  have loop : ∀ (r i : Nat), i + r = len → ∀ (z : Slot), (z = .unset ∨ ∃ w, z = .val w ∧ w.category = 1) → ∀ (Tl : State) (Bk : Cell), Stand p l e { frames := 0, locals := 0, cells := 0, slots := 0 } s m #[.ref b, .int (Int32.ofNat o), .ref d, .int (Int32.ofNat q), .int (Int32.ofNat len)] below meth c Tl ([] ++ copyLocs d q i) 0 0 → Put d Bk s₁ Tl → Laid B Bk q (q + i) (fun j => Value.int (lo8 (cv A (o + (j - q))))) →
      Steps p.tables e below (s₁.setTop (entryFrame m #[.ref b, .int (Int32.ofNat o), .ref d, .int (Int32.ofNat q), .int (Int32.ofNat len)] 7)) (Tl.setTop (mkF m 3 #[.val (.ref b), .val (.int (Int32.ofNat (o + i))), .val (.ref d), .val (.int (Int32.ofNat (q + i))), .val (.int (Int32.ofNat len)), .val (.int (Int32.ofNat i)), z] [])) → ∃ (T' : State) (B' : Cell) (z' : Slot), Stand p l e { frames := 0, locals := 0, cells := 0, slots := 0 } s m #[.ref b, .int (Int32.ofNat o), .ref d, .int (Int32.ofNat q), .int (Int32.ofNat len)] below meth c T' ([] ++ copyLocs d q len) 0 0 ∧ Put d B' s₁ T' ∧ Laid B B' q (q + len) (fun j => Value.int (lo8 (cv A (o + (j - q))))) ∧
      Steps p.tables e below (s₁.setTop (entryFrame m #[.ref b, .int (Int32.ofNat o), .ref d, .int (Int32.ofNat q), .int (Int32.ofNat len)] 7)) (T'.setTop (mkF m 3 #[.val (.ref b), .val (.int (Int32.ofNat (o + len))), .val (.ref d), .val (.int (Int32.ofNat (q + len))), .val (.int (Int32.ofNat len)), .val (.int (Int32.ofNat len)), z'] [])) := by
    intro r
    induction r with
    | zero =>
      intro i hi z hz Tl Bk Xl pl fl cl
      have hil : i = len := by omega
      rw [hil] at Xl fl cl
      exact ⟨Tl, Bk, z, Xl, pl, fl, cl⟩
    | succ r ih =>
      intro i hi z hz Tl Bk Xl pl fl cl
      have all := X0.warmed.alike.symm.trans Xl.warmed.alike
      have hAl := hA0.keep all (pl.other hne hA0.1)
      have hBk := hB0.like all pl.1 fl.1 fl.2.1 fl.2.2.1
      have hlt : q + i < Bk.slots.size := by rw [fl.2.2.1]; omega
      have c3 : Steps p.tables e below (s₁.setTop (entryFrame m #[.ref b, .int (Int32.ofNat o), .ref d, .int (Int32.ofNat q), .int (Int32.ofNat len)] 7)) (Tl.setTop (mkF m 12 #[.val (.ref b), .val (.int (Int32.ofNat (o + i))), .val (.ref d), .val (.int (Int32.ofNat (q + i))), .val (.int (Int32.ofNat len)), .val (.int (Int32.ofNat i)), z] [.int (Int32.ofNat (o + i)), .ref b])) := cl.trans (by
        refine XS.iload Xl.here hexec rfl (hb hbytes d3) rfl ?_
        refine XS.iload Xl.here hexec rfl (hb hbytes d5) rfl ?_
        refine XS.icmpNo Xl.here hexec rfl (hb hbytes d7) rfl (ii_ge_f (lt32 (by omega) (by omega))) ?_
        refine XS.aloadN Xl.here hexec rfl (hb hbytes d10) rfl rfl ?_
        refine XS.iloadN Xl.here hexec rfl (hb hbytes d11) rfl ?_
        exact Steps.refl _)
      have c4 : Steps p.tables e below (s₁.setTop (entryFrame m #[.ref b, .int (Int32.ofNat o), .ref d, .int (Int32.ofNat q), .int (Int32.ofNat len)] 7)) (Tl.setTop (mkF m 13 #[.val (.ref b), .val (.int (Int32.ofNat (o + i))), .val (.ref d), .val (.int (Int32.ofNat (q + i))), .val (.int (Int32.ofNat len)), .val (.int (Int32.ofNat i)), z] [.int (cv A (o + i))])) := c3.trans (by
        refine Xl.aget hexec hAl rfl (hA.get (i := o + i) (by omega)) rfl rfl (hb hbytes d12) ?_
        exact Steps.refl _)
      have c5 : Steps p.tables e below (s₁.setTop (entryFrame m #[.ref b, .int (Int32.ofNat o), .ref d, .int (Int32.ofNat q), .int (Int32.ofNat len)] 7)) (Tl.setTop (mkF m 15 #[.val (.ref b), .val (.int (Int32.ofNat (o + i))), .val (.ref d), .val (.int (Int32.ofNat (q + i))), .val (.int (Int32.ofNat len)), .val (.int (Int32.ofNat i)), .val (.int (cv A (o + i)))] [])) := c4.trans (by
        refine XS.istoreS Xl.here hexec rfl (hb hbytes d13) rfl rfl hz ?_
        exact Steps.refl _)
      have c6 : Steps p.tables e below (s₁.setTop (entryFrame m #[.ref b, .int (Int32.ofNat o), .ref d, .int (Int32.ofNat q), .int (Int32.ofNat len)] 7)) (Tl.setTop (mkF m 31 #[.val (.ref b), .val (.int (Int32.ofNat (o + i))), .val (.ref d), .val (.int (Int32.ofNat (q + i))), .val (.int (Int32.ofNat len)), .val (.int (Int32.ofNat i)), .val (.int (cv A (o + i)))] [.int (lo8 (cv A (o + i))), .int (Int32.ofNat (q + i)), .ref d])) := c5.trans (by
        refine XS.iload Xl.here hexec rfl (hb hbytes d15) rfl ?_
        refine sipushV Xl.here hexec rfl 255 (hb hbytes d17) (by decide) ?_
        refine XS.icmpYes Xl.here hexec rfl (pc0 := 20) rfl (hb hbytes d20) rfl (ii_le_t (hp i (by omega))) (by decide) rfl ?_
        refine XS.aloadN Xl.here hexec rfl (hb hbytes d26) rfl rfl ?_
        refine XS.iloadN Xl.here hexec rfl (hb hbytes d27) rfl ?_
        refine XS.iload Xl.here hexec rfl (hb hbytes d28) rfl ?_
        refine i2b Xl.here hexec rfl (hb hbytes d30) rfl ?_
        exact Steps.refl _)
      obtain ⟨T7, X7, p7, st7⟩ := Xl.aput hexec hBk rfl hlt rfl (fits_lo8 (cv A (o + i))) (g := (mkF m 31 #[.val (.ref b), .val (.int (Int32.ofNat (o + i))), .val (.ref d), .val (.int (Int32.ofNat (q + i))), .val (.int (Int32.ofNat len)), .val (.int (Int32.ofNat i)), .val (.int (cv A (o + i)))] [.int (lo8 (cv A (o + i))), .int (Int32.ofNat (q + i)), .ref d])) rfl (rest := []) rfl (hb hbytes d31)
      have c8 : Steps p.tables e below (s₁.setTop (entryFrame m #[.ref b, .int (Int32.ofNat o), .ref d, .int (Int32.ofNat q), .int (Int32.ofNat len)] 7)) (T7.setTop (mkF m 32 #[.val (.ref b), .val (.int (Int32.ofNat (o + i))), .val (.ref d), .val (.int (Int32.ofNat (q + i))), .val (.int (Int32.ofNat len)), .val (.int (Int32.ofNat i)), .val (.int (cv A (o + i)))] [])) := c6.trans (st7 _ (Steps.refl _))
      have c9 : Steps p.tables e below (s₁.setTop (entryFrame m #[.ref b, .int (Int32.ofNat o), .ref d, .int (Int32.ofNat q), .int (Int32.ofNat len)] 7)) (T7.setTop (mkF m 3 #[.val (.ref b), .val (.int (Int32.ofNat (o + i) + 1)), .val (.ref d), .val (.int (Int32.ofNat (q + i) + 1)), .val (.int (Int32.ofNat len)), .val (.int (Int32.ofNat i + 1)), .val (.int (cv A (o + i)))] [])) := c8.trans (by
        refine iincV X7.here hexec rfl 1 (hb hbytes d32) (by decide) rfl rfl ?_
        refine iincV X7.here hexec rfl 1 (hb hbytes d35) (by decide) rfl rfl ?_
        refine iincV X7.here hexec rfl 1 (hb hbytes d38) (by decide) rfl rfl ?_
        refine XS.goto X7.here hexec rfl (pc0 := 41) rfl (hb hbytes d41) (by decide) rfl ?_
        exact Steps.refl _)
      have c10 : Steps p.tables e below (s₁.setTop (entryFrame m #[.ref b, .int (Int32.ofNat o), .ref d, .int (Int32.ofNat q), .int (Int32.ofNat len)] 7)) (T7.setTop (mkF m 3 #[.val (.ref b), .val (.int (Int32.ofNat (o + (i + 1)))), .val (.ref d), .val (.int (Int32.ofNat (q + (i + 1)))), .val (.int (Int32.ofNat len)), .val (.int (Int32.ofNat (i + 1))), .val (.int (cv A (o + i)))] [])) := by
        have := c9
        rw [succ32, succ32, succ32] at this
        exact this
      exact ih (i + 1) (by omega) _ (Or.inr ⟨_, rfl, rfl⟩) T7 _ (by rw [copyLocs_step, ← List.append_assoc]; exact X7) (pl.trans p7) (fl.step (by omega) hlt (by simp)) c10
  obtain ⟨T9, B9, z9, X9, p9, f9, g9⟩ := loop len 0 (by omega) .unset (Or.inl rfl) s₁ B (by simpa [copyLocs] using X0) ⟨hB0.1, fun _ _ => rfl, rfl⟩ (Laid.zero _ _ _) c2
  have c11 : Steps p.tables e below (s₁.setTop (entryFrame m #[.ref b, .int (Int32.ofNat o), .ref d, .int (Int32.ofNat q), .int (Int32.ofNat len)] 7)) (T9.setTop (mkF m 46 #[.val (.ref b), .val (.int (Int32.ofNat (o + len))), .val (.ref d), .val (.int (Int32.ofNat (q + len))), .val (.int (Int32.ofNat len)), .val (.int (Int32.ofNat len)), z9] [.int (Int32.ofNat len)])) := g9.trans (by
    refine XS.iload X9.here hexec rfl (hb hbytes d3) rfl ?_
    refine XS.iload X9.here hexec rfl (hb hbytes d5) rfl ?_
    refine XS.icmpYes X9.here hexec rfl (pc0 := 7) rfl (hb hbytes d7) rfl (ii_ge_t (nlt32 (by omega) (Nat.le_refl _))) (by decide) rfl ?_
    refine XS.iload X9.here hexec rfl (hb hbytes d44) rfl ?_
    exact Steps.refl _)
  exact ⟨T9, some (.int (Int32.ofNat len)), _, _, _, X9, by simp, rfl, rfl, (fun h => by cases h), ⟨rfl, B9, p9.from hh0, f9⟩, fun fs hl => c11.trans (X9.ireturnOut hexec hret rfl (Or.inl rfl) (hb hbytes d46) hl)⟩
end Cmp5
namespace Cmp3
def yN : MethodName := ⟨"java/lang/StringUTF16", "compress", "([CII)[B"⟩
abbrev yB : ByteArray := jdk_52_method_16_code
theorem d0 : decode yB 0 = .ok (.iload_n 2, 1) := by decide +kernel
theorem d1 : decode yB 1 = .ok (.newarray .byte, 2) := by decide +kernel
theorem d3 : decode yB 3 = .ok (.astore_n 3, 1) := by decide +kernel
theorem d4 : decode yB 4 = .ok (.aload_n 0, 1) := by decide +kernel
theorem d5 : decode yB 5 = .ok (.iload_n 1, 1) := by decide +kernel
theorem d6 : decode yB 6 = .ok (.aload_n 3, 1) := by decide +kernel
theorem d7 : decode yB 7 = .ok (.iconst 0, 1) := by decide +kernel
theorem d8 : decode yB 8 = .ok (.iload_n 2, 1) := by decide +kernel
theorem d9 : decode yB 9 = .ok (.invokestatic 115, 3) := by decide +kernel
theorem d12 : decode yB 12 = .ok (.istore 4, 2) := by decide +kernel
theorem d14 : decode yB 14 = .ok (.iload 4, 2) := by decide +kernel
theorem d16 : decode yB 16 = .ok (.iload_n 2, 1) := by decide +kernel
theorem d17 : decode yB 17 = .ok (.if_icmp (.eq) 40, 3) := by decide +kernel
theorem d57 : decode yB 57 = .ok (.aload_n 3, 1) := by decide +kernel
theorem d58 : decode yB 58 = .ok (.areturn, 1) := by decide +kernel
def site : List Cond := [.arrayClass .byte, Cmp5.tab] ++ staticW U16 115 Cmp5.yN
def tab : Cond := tabOf yN yB 6 (some (.array .byte)) site
def P (b : Addr) (A : Cell) (o len : Nat) (args : Array Value) (s : State) : Prop := args = #[.ref b, .int (Int32.ofNat o), .int (Int32.ofNat len)] ∧ Ch b A s ∧ o + len ≤ A.slots.size ∧ len ≤ 536870912 ∧ ∀ i, i < len → ¬ 255 < cv A (o + i)
def E (b : Addr) (A : Cell) (o len : Nat) (r : Option Value) (s u : State) : Prop := NewArr .byte "[B" len (fun j => .int (lo8 (cv A (o + j)))) r s u ∧ u.heap.size = s.heap.size + 1
/-- no char of the range above 255: a new byte[] of their low bytes -/
theorem law (l : Launch) (b : Addr) (A : Cell) (o len : Nat) : Law l yN 3 3 1 18 yB 6 (some (.array .byte)) site (P b A o len) (E b A o len) [] 1 len := by
  refine Law.of_walk (plainFor_of_name (by decide +kernel)) (by decide +kernel) (by decide +kernel) (by decide) (fun _ _ h => by rw [h.1]; rfl) (fun _ U U' hal hh h => ⟨h.1, h.2.1.mv hal hh, h.2.2⟩) (fun r U U' V V' h1 hal h2 h => ⟨NewArr.mv r U U' V V' h1 hal h2 h.1, by rw [h1, h2]; exact h.2⟩) ?_
  intro p e s m args below meth c s₁ X0 hexec hbytes hml hret hlk hnm hown hh0 W hP
  obtain ⟨rfl, hA, l1, l2, hp⟩ := hP
  have a31 := hA.1.2.2.2
  have c1 : Steps p.tables e below (s₁.setTop (entryFrame m #[.ref b, .int (Int32.ofNat o), .int (Int32.ofNat len)] 6)) (s₁.setTop (mkF m 0 #[.val (.ref b), .val (.int (Int32.ofNat o)), .val (.int (Int32.ofNat len)), .unset, .unset, .unset] [])) := entry rfl
  have c2 : Steps p.tables e below (s₁.setTop (entryFrame m #[.ref b, .int (Int32.ofNat o), .int (Int32.ofNat len)] 6)) (s₁.setTop (mkF m 1 #[.val (.ref b), .val (.int (Int32.ofNat o)), .val (.int (Int32.ofNat len)), .unset, .unset, .unset] [.int (Int32.ofNat len)])) := c1.trans (by
    refine XS.iloadN X0.here hexec rfl (hb hbytes d0) rfl ?_
    exact Steps.refl _)
  obtain ⟨T3, B3, X3, ba3, bs3, bv3, bh3, bf3, st3⟩ := X0.anew hexec (atype := .byte) (wk W (.arrayClass .byte)) rfl (by show len * 1 ≤ _; omega) (by omega) (g := (mkF m 1 #[.val (.ref b), .val (.int (Int32.ofNat o)), .val (.int (Int32.ofNat len)), .unset, .unset, .unset] [.int (Int32.ofNat len)])) rfl (hb hbytes d1) (rest := []) rfl (Nat.le_refl _) (by show 0 + len ≤ len; omega)
  rw [hh0] at ba3 st3
  have kp3 : XT.Kept s T3 := (XT.Kept.of_eq hh0).push bh3
  have hA3 := hA.keep X3.warmed.alike (kp3 _ _ hA.1.1)
  have hne : b ≠ s.heap.size := hA.1.ne
  have c4 : Steps p.tables e below (s₁.setTop (entryFrame m #[.ref b, .int (Int32.ofNat o), .int (Int32.ofNat len)] 6)) (T3.setTop (mkF m 3 #[.val (.ref b), .val (.int (Int32.ofNat o)), .val (.int (Int32.ofNat len)), .unset, .unset, .unset] [.ref s.heap.size])) := c2.trans (st3 _ (Steps.refl _))
  have c5 : Steps p.tables e below (s₁.setTop (entryFrame m #[.ref b, .int (Int32.ofNat o), .int (Int32.ofNat len)] 6)) (T3.setTop (mkF m 9 #[.val (.ref b), .val (.int (Int32.ofNat o)), .val (.int (Int32.ofNat len)), .val (.ref s.heap.size), .unset, .unset] [.int (Int32.ofNat len), .int 0, .ref s.heap.size, .int (Int32.ofNat o), .ref b])) := c4.trans (by
    refine XS.astoreN X3.here hexec rfl (hb hbytes d3) rfl rfl rfl ?_
    refine XS.aloadN X3.here hexec rfl (hb hbytes d4) rfl rfl ?_
    refine XS.iloadN X3.here hexec rfl (hb hbytes d5) rfl ?_
    refine XS.aloadN X3.here hexec rfl (hb hbytes d6) rfl rfl ?_
    refine iconstV X3.here hexec rfl 0 (hb hbytes d7) (by decide) ?_
    refine XS.iloadN X3.here hexec rfl (hb hbytes d8) rfl ?_
    exact Steps.refl _)
  obtain ⟨v6, T6, X6, E6, g6⟩ := X3.callS hexec (Cmp5.law l b A s.heap.size B3 o 0 len) hown (wks W (staticW U16 115 Cmp5.yN)) (wk W Cmp5.tab) (W := 0) (Nat.le_of_ble_eq_true rfl) (Nat.le_of_ble_eq_true rfl) (Nat.le_refl _) (by show 0 + len + 0 ≤ len; omega) (g := (mkF m 9 #[.val (.ref b), .val (.int (Int32.ofNat o)), .val (.int (Int32.ofNat len)), .val (.ref s.heap.size), .unset, .unset] [.int (Int32.ofNat len), .int (Int32.ofNat 0), .ref s.heap.size, .int (Int32.ofNat o), .ref b])) rfl (by rw [hml]; rfl) c5 (argsL := [.ref b, .int (Int32.ofNat o), .ref s.heap.size, .int (Int32.ofNat 0), .int (Int32.ofNat len)]) (rest := []) rfl rfl (by show 2 * 0 + 0 ≤ _; decide) (hb hbytes d9) (⟨rfl, hA3, ba3, hne, l1, by rw [bs3]; simp, hp⟩)
  obtain ⟨rfl, B6, p6, f6⟩ := E6
  have c7 : Steps p.tables e below (s₁.setTop (entryFrame m #[.ref b, .int (Int32.ofNat o), .int (Int32.ofNat len)] 6)) (T6.setTop (mkF m 12 #[.val (.ref b), .val (.int (Int32.ofNat o)), .val (.int (Int32.ofNat len)), .val (.ref s.heap.size), .unset, .unset] [.int (Int32.ofNat len)])) := g6
  have c8 : Steps p.tables e below (s₁.setTop (entryFrame m #[.ref b, .int (Int32.ofNat o), .int (Int32.ofNat len)] 6)) (T6.setTop (mkF m 58 #[.val (.ref b), .val (.int (Int32.ofNat o)), .val (.int (Int32.ofNat len)), .val (.ref s.heap.size), .val (.int (Int32.ofNat len)), .unset] [.ref s.heap.size])) := c7.trans (by
    refine XS.istore X6.here hexec rfl (hb hbytes d12) rfl rfl ?_
    refine XS.iload X6.here hexec rfl (hb hbytes d14) rfl ?_
    refine XS.iloadN X6.here hexec rfl (hb hbytes d16) rfl ?_
    refine XS.icmpYes X6.here hexec rfl (pc0 := 17) rfl (hb hbytes d17) rfl (ii_eq_t rfl) (by decide) rfl ?_
    refine XS.aloadN X6.here hexec rfl (hb hbytes d57) rfl rfl ?_
    exact Steps.refl _)
  have X8 := X6.wide (L' := []) (cells' := 1) (slots' := len) (fun x hx hlt => by
    simp only [List.nil_append, copyLocs, List.mem_map, List.mem_range] at hx
    obtain ⟨i, -, rfl⟩ := hx
    exact absurd hlt (Nat.lt_irrefl _)) (Nat.le_refl _) (by omega)
  exact ⟨T6, some (.ref s.heap.size), _, _, _, X8, rfl, rfl, rfl, (fun h => by cases h), ⟨⟨rfl, B6, ba3.like (X3.warmed.alike.symm.trans X6.warmed.alike) p6.1 f6.1 f6.2.1 f6.2.2.1, f6.2.1.trans bv3, by rw [X6.warmed.alike.findClass, f6.1]; exact bf3, by rw [f6.2.2.1, bs3]; simp, fun j hj => by rw [f6.2.2.2 j, if_pos (by omega)]; rfl, kp3.put p6 (Nat.le_refl _)⟩, by rw [p6.2.2, bh3, hh0]; simp⟩, fun fs hl => c8.trans (X8.areturnOut hexec rfl hret rfl (hb hbytes d58) hl)⟩
end Cmp3
namespace CodL
def yN : MethodName := ⟨"java/lang/StringUTF16", "coderFromArrayLen", "([BI)B"⟩
abbrev yB : ByteArray := jdk_52_method_15_code
theorem d0 : decode yB 0 = .ok (.iload_n 1, 1) := by decide +kernel
theorem d1 : decode yB 1 = .ok (.aload_n 0, 1) := by decide +kernel
theorem d2 : decode yB 2 = .ok (.arraylength, 1) := by decide +kernel
theorem d3 : decode yB 3 = .ok (.isub, 1) := by decide +kernel
theorem d4 : decode yB 4 = .ok (.bipush 31, 2) := by decide +kernel
theorem d6 : decode yB 6 = .ok (.iushr, 1) := by decide +kernel
theorem d7 : decode yB 7 = .ok (.i2b, 1) := by decide +kernel
theorem d8 : decode yB 8 = .ok (.ireturn, 1) := by decide +kernel
def site : List Cond := []
def tab : Cond := tabOf yN yB 2 (some .byte) site
def P (d : Addr) (B : Cell) (args : Array Value) (s : State) : Prop := args = #[.ref d, .int (Int32.ofNat B.slots.size)] ∧ Arr .byte d B s
def E (r : Option Value) (s u : State) : Prop := XT.PureE (some (.int 0)) r s u
/-- an array as long as the number of chars: LATIN1 -/
theorem law (l : Launch) (d : Addr) (B : Cell) : Law l yN 2 2 0 0 yB 2 (some .byte) site (P d B) E [] 0 0 := by
  refine Law.of_walk (plainFor_of_name (by decide +kernel)) (by decide +kernel) (by decide +kernel) (by decide) (fun _ _ h => by rw [h.1]; rfl) (fun _ U U' hal hh h => ⟨h.1, h.2.mv hal hh⟩) (fun r U U' V V' h1 hal h2 h => XT.PureE.mv r U U' V V' h1 hal h2 h) ?_
  intro p e s m args below meth c s₁ X0 hexec hbytes hml hret hlk hnm hown hh0 W hP
  obtain ⟨rfl, hB⟩ := hP
  have hB0 := hB.mv X0.warmed.alike hh0
  have c1 : Steps p.tables e below (s₁.setTop (entryFrame m #[.ref d, .int (Int32.ofNat B.slots.size)] 2)) (s₁.setTop (mkF m 0 #[.val (.ref d), .val (.int (Int32.ofNat B.slots.size))] [])) := entry rfl
  have c2 : Steps p.tables e below (s₁.setTop (entryFrame m #[.ref d, .int (Int32.ofNat B.slots.size)] 2)) (s₁.setTop (mkF m 2 #[.val (.ref d), .val (.int (Int32.ofNat B.slots.size))] [.ref d, .int (Int32.ofNat B.slots.size)])) := c1.trans (by
    refine XS.iloadN X0.here hexec rfl (hb hbytes d0) rfl ?_
    refine XS.aloadN X0.here hexec rfl (hb hbytes d1) rfl rfl ?_
    exact Steps.refl _)
  have c3 : Steps p.tables e below (s₁.setTop (entryFrame m #[.ref d, .int (Int32.ofNat B.slots.size)] 2)) (s₁.setTop (mkF m 8 #[.val (.ref d), .val (.int (Int32.ofNat B.slots.size))] [.int (lo8 (ushr (Int32.ofNat B.slots.size - Int32.ofNat B.slots.size) 31))])) := c2.trans (by
    refine X0.alen hexec hB0 rfl rfl (hb hbytes d2) ?_
    refine XS.isub X0.here hexec rfl (hb hbytes d3) rfl ?_
    refine bipushV X0.here hexec rfl 31 (hb hbytes d4) (by decide) ?_
    refine iushr X0.here hexec rfl (hb hbytes d6) rfl ?_
    refine i2b X0.here hexec rfl (hb hbytes d7) rfl ?_
    exact Steps.refl _)
  have e0 : lo8 (ushr (Int32.ofNat B.slots.size - Int32.ofNat B.slots.size) 31) = 0 := by rw [Int32.sub_self]; decide
  rw [e0] at c3
  exact ⟨s₁, some (.int 0), _, _, _, X0, rfl, rfl, rfl, (fun h => by cases h), ⟨rfl, hh0⟩, fun fs hl => c3.trans (X0.ireturnOut hexec hret rfl (Or.inr (Or.inr (Or.inl rfl))) (hb hbytes d8) hl)⟩
end CodL
/-- the String at a is Latin-1 over a new byte[] (the heap's one new cell): the low bytes of the len chars of A from o on; every cell but a is kept -/
def Got (a : Addr) (D : Cell) (fV fC : Field) (A : Cell) (o len : Nat) (r : Option Value) (s u : State) : Prop := r = none ∧ ∃ D' V : Cell, Blank "java/lang/String" a D' u ∧ Same D D' [fV.slot, fC.slot] ∧ D'.slots[fV.slot]? = some (.ref s.heap.size) ∧ D'.slots[fC.slot]? = some (.int 0) ∧ Arr .byte s.heap.size V u ∧ V.vm = .none ∧ u.vm.findClass "[B" = some V.cls ∧ V.slots.size = len ∧ (∀ j, j < len → V.slots[j]? = some (.int (lo8 (cv A (o + j))))) ∧ (∀ (y : Addr) (c : Cell), y ≠ a → s.heap[y]? = some c → u.heap[y]? = some c) ∧ u.heap.size = s.heap.size + 1
theorem Got.mv {a : Addr} {D A : Cell} {fV fC : Field} {o len : Nat} : ∀ r (U U' V V' : State), U'.heap = U.heap → V.vm.Alike V'.vm → V'.heap = V.heap → Got a D fV fC A o len r U V → Got a D fV fC A o len r U' V' :=
  fun r U U' V V' h1 hal h2 ⟨e0, D', X, a1, a2, a3, a4, a5, a6, a7, a8, a9, a10, a11⟩ => ⟨e0, D', X, a1.mv hal h2, a2, by rw [h1]; exact a3, a4, by rw [h1]; exact a5.mv hal h2, a6, by rw [hal.findClass]; exact a7, a8, a9, by rw [h1, h2]; exact a10, by rw [h1, h2]; exact a11⟩
namespace New4
def yN : MethodName := ⟨"java/lang/String", "<init>", "([CIILjava/lang/Void;)V"⟩
abbrev yB : ByteArray := jdk_42_method_149_code
theorem d0 : decode yB 0 = .ok (.aload_n 0, 1) := by decide +kernel
theorem d1 : decode yB 1 = .ok (.invokespecial 1, 3) := by decide +kernel
theorem d4 : decode yB 4 = .ok (.iload_n 3, 1) := by decide +kernel
theorem d5 : decode yB 5 = .ok (.ifCond (.ne) 22, 3) := by decide +kernel
theorem d27 : decode yB 27 = .ok (.getstatic 38, 3) := by decide +kernel
theorem d30 : decode yB 30 = .ok (.ifCond (.eq) 28, 3) := by decide +kernel
theorem d33 : decode yB 33 = .ok (.aload_n 1, 1) := by decide +kernel
theorem d34 : decode yB 34 = .ok (.iload_n 2, 1) := by decide +kernel
theorem d35 : decode yB 35 = .ok (.iload_n 3, 1) := by decide +kernel
theorem d36 : decode yB 36 = .ok (.invokestatic 177, 3) := by decide +kernel
theorem d39 : decode yB 39 = .ok (.astore 5, 2) := by decide +kernel
theorem d41 : decode yB 41 = .ok (.aload_n 0, 1) := by decide +kernel
theorem d42 : decode yB 42 = .ok (.aload 5, 2) := by decide +kernel
theorem d44 : decode yB 44 = .ok (.iload_n 3, 1) := by decide +kernel
theorem d45 : decode yB 45 = .ok (.invokestatic 47, 3) := by decide +kernel
theorem d48 : decode yB 48 = .ok (.putfield 15, 3) := by decide +kernel
theorem d51 : decode yB 51 = .ok (.aload_n 0, 1) := by decide +kernel
theorem d52 : decode yB 52 = .ok (.aload 5, 2) := by decide +kernel
theorem d54 : decode yB 54 = .ok (.putfield 9, 3) := by decide +kernel
theorem d57 : decode yB 57 = .ok (.return_, 1) := by decide +kernel
def site : List Cond := [.fieldLink "java/lang/String" 38 "java/lang/String" "COMPACT_STRINGS" "Z", Cmp3.tab, CodL.tab, .laysFinal "java/lang/String" "java/lang/String" "value" "[B", .fieldLink "java/lang/String" 9 "java/lang/String" "value" "[B", .laysFinal "java/lang/String" "java/lang/String" "coder" "B", .fieldLink "java/lang/String" 15 "java/lang/String" "coder" "B"] ++ objW "java/lang/String" 1 ++ staticW "java/lang/String" 177 Cmp3.yN ++ staticW "java/lang/String" 47 CodL.yN
def tab : Cond := tabOf yN yB 6 none site
def P (a : Addr) (D : Cell) (fV fC : Field) (b : Addr) (A : Cell) (z : Int32) (o len : Nat) (args : Array Value) (s : State) : Prop := args = #[.ref a, .ref b, .int (Int32.ofNat o), .int (Int32.ofNat len), .null] ∧ Blank "java/lang/String" a D s ∧ Found "java/lang/String" "value" "[B" fV s ∧ Found "java/lang/String" "coder" "B" fC s ∧ Ch b A s ∧ StaticIs s "java/lang/String" "COMPACT_STRINGS" "Z" (.int z) ∧ ¬ z = 0 ∧ 0 < len ∧ o + len ≤ A.slots.size ∧ len ≤ 536870912 ∧ ∀ i, i < len → ¬ 255 < cv A (o + i)
def E (a : Addr) (D : Cell) (fV fC : Field) (A : Cell) (o len : Nat) (r : Option Value) (s u : State) : Prop := Got a D fV fC A o len r s u
/-- len > 0, no char of the range above 255: a Latin-1 String of their low bytes -/
theorem law (l : Launch) (a : Addr) (D : Cell) (fV fC : Field) (b : Addr) (A : Cell) (z : Int32) (o len : Nat) : Law l yN 5 4 2 35 yB 6 none site (P a D fV fC b A z o len) (E a D fV fC A o len) [⟨a, fC.slot⟩, ⟨a, fV.slot⟩] 1 len := by
  refine Law.of_walk (plainFor_of_name (by decide +kernel)) (by decide +kernel) (by decide +kernel) (by decide) (fun _ _ h => by rw [h.1]; rfl) (fun _ U U' hal hh h => ⟨h.1, h.2.1.mv hal hh, h.2.2.1.al hal, h.2.2.2.1.al hal, h.2.2.2.2.1.mv hal hh, h.2.2.2.2.2.1.there hal hh, h.2.2.2.2.2.2⟩) (fun r U U' V V' h1 hal h2 h => Got.mv r U U' V V' h1 hal h2 h) ?_
  intro p e s m args below meth c s₁ X0 hexec hbytes hml hret hlk hnm hown hh0 W hP
  obtain ⟨rfl, hB, f1, f2, hA, s1, hz, l0, l1, l2, hp⟩ := hP
  have a31 := hA.1.2.2.2
  have c1 : Steps p.tables e below (s₁.setTop (entryFrame m #[.ref a, .ref b, .int (Int32.ofNat o), .int (Int32.ofNat len), .null] 6)) (s₁.setTop (mkF m 0 #[.val (.ref a), .val (.ref b), .val (.int (Int32.ofNat o)), .val (.int (Int32.ofNat len)), .val .null, .unset] [])) := entry rfl
  have c2 : Steps p.tables e below (s₁.setTop (entryFrame m #[.ref a, .ref b, .int (Int32.ofNat o), .int (Int32.ofNat len), .null] 6)) (s₁.setTop (mkF m 1 #[.val (.ref a), .val (.ref b), .val (.int (Int32.ofNat o)), .val (.int (Int32.ofNat len)), .val .null, .unset] [.ref a])) := c1.trans (by
    refine XS.aloadN X0.here hexec rfl (hb hbytes d0) rfl rfl ?_
    exact Steps.refl _)
  obtain ⟨T3, X3, q3, st3⟩ := X0.oinit hexec hown (wks W (objW "java/lang/String" 1)) (g := (mkF m 1 #[.val (.ref a), .val (.ref b), .val (.int (Int32.ofNat o)), .val (.int (Int32.ofNat len)), .val .null, .unset] [.ref a])) rfl (by rw [hml]; rfl) (rest := []) rfl (hb hbytes d1) (W := 0) (by show 2 * 0 + 0 ≤ _; decide) (Nat.le_of_ble_eq_true rfl) (Nat.le_of_ble_eq_true rfl)
  have hh3 := q3.trans hh0
  have c4 : Steps p.tables e below (s₁.setTop (entryFrame m #[.ref a, .ref b, .int (Int32.ofNat o), .int (Int32.ofNat len), .null] 6)) (T3.setTop (mkF m 27 #[.val (.ref a), .val (.ref b), .val (.int (Int32.ofNat o)), .val (.int (Int32.ofNat len)), .val .null, .unset] [])) := (c2.trans (st3 _ (Steps.refl _))).trans (by
    refine XS.iloadN X3.here hexec rfl (hb hbytes d4) rfl ?_
    refine XS.ifYes X3.here hexec rfl (pc0 := 5) rfl (hb hbytes d5) rfl (i0_ne_t (nz32 (by omega) l0)) (by decide) rfl ?_
    exact Steps.refl _)
  obtain ⟨T5, X5, q5, st5⟩ := X3.sget hexec hown (wk W (.fieldLink "java/lang/String" 38 "java/lang/String" "COMPACT_STRINGS" "Z")) s1 (fun _ _ h => by rw [hh3]; exact h) (g := (mkF m 27 #[.val (.ref a), .val (.ref b), .val (.int (Int32.ofNat o)), .val (.int (Int32.ofNat len)), .val .null, .unset] [])) rfl (hb hbytes d27)
  have hh5 := q5.trans hh3
  have c6 : Steps p.tables e below (s₁.setTop (entryFrame m #[.ref a, .ref b, .int (Int32.ofNat o), .int (Int32.ofNat len), .null] 6)) (T5.setTop (mkF m 30 #[.val (.ref a), .val (.ref b), .val (.int (Int32.ofNat o)), .val (.int (Int32.ofNat len)), .val .null, .unset] [.int z])) := c4.trans (st5 _ (Steps.refl _))
  have c7 : Steps p.tables e below (s₁.setTop (entryFrame m #[.ref a, .ref b, .int (Int32.ofNat o), .int (Int32.ofNat len), .null] 6)) (T5.setTop (mkF m 36 #[.val (.ref a), .val (.ref b), .val (.int (Int32.ofNat o)), .val (.int (Int32.ofNat len)), .val .null, .unset] [.int (Int32.ofNat len), .int (Int32.ofNat o), .ref b])) := c6.trans (by
    refine XS.ifNo X5.here hexec rfl (hb hbytes d30) rfl (i0_eq_f hz) ?_
    refine XS.aloadN X5.here hexec rfl (hb hbytes d33) rfl rfl ?_
    refine XS.iloadN X5.here hexec rfl (hb hbytes d34) rfl ?_
    refine XS.iloadN X5.here hexec rfl (hb hbytes d35) rfl ?_
    exact Steps.refl _)
  obtain ⟨v8, T8, X8, E8, g8⟩ := X5.callS hexec (Cmp3.law l b A o len) hown (wks W (staticW "java/lang/String" 177 Cmp3.yN)) (wk W Cmp3.tab) (W := 0) (Nat.le_of_ble_eq_true rfl) (Nat.le_of_ble_eq_true rfl) (Nat.le_refl _) (by show 0 + len ≤ len; omega) (g := (mkF m 36 #[.val (.ref a), .val (.ref b), .val (.int (Int32.ofNat o)), .val (.int (Int32.ofNat len)), .val .null, .unset] [.int (Int32.ofNat len), .int (Int32.ofNat o), .ref b])) rfl (by rw [hml]; rfl) c7 (argsL := [.ref b, .int (Int32.ofNat o), .int (Int32.ofNat len)]) (rest := []) rfl rfl (by show 2 * 0 + 0 ≤ _; decide) (hb hbytes d36) (⟨rfl, hA.mv X5.warmed.alike hh5, l1, l2, hp⟩)
  obtain ⟨e8, z8⟩ := E8
  obtain ⟨rfl, N, n1, n2, n3, n4, n5, n6⟩ := NewArr.mv _ T5 s _ _ hh5.symm (Vm.Alike.refl _) rfl e8
  rw [hh5] at z8
  have hB1 := hB.keep X8.warmed.alike (n6 _ _ hB.1)
  have hne : s.heap.size ≠ a := (Nat.ne_of_lt (Array.getElem?_eq_some_iff.mp hB.1).1).symm
  have c9 : Steps p.tables e below (s₁.setTop (entryFrame m #[.ref a, .ref b, .int (Int32.ofNat o), .int (Int32.ofNat len), .null] 6)) (T8.setTop (mkF m 39 #[.val (.ref a), .val (.ref b), .val (.int (Int32.ofNat o)), .val (.int (Int32.ofNat len)), .val .null, .unset] [.ref s.heap.size])) := g8
  have c10 : Steps p.tables e below (s₁.setTop (entryFrame m #[.ref a, .ref b, .int (Int32.ofNat o), .int (Int32.ofNat len), .null] 6)) (T8.setTop (mkF m 45 #[.val (.ref a), .val (.ref b), .val (.int (Int32.ofNat o)), .val (.int (Int32.ofNat len)), .val .null, .val (.ref s.heap.size)] [.int (Int32.ofNat N.slots.size), .ref s.heap.size, .ref a])) := by
    have hc : Steps p.tables e below (s₁.setTop (entryFrame m #[.ref a, .ref b, .int (Int32.ofNat o), .int (Int32.ofNat len), .null] 6)) (T8.setTop (mkF m 45 #[.val (.ref a), .val (.ref b), .val (.int (Int32.ofNat o)), .val (.int (Int32.ofNat len)), .val .null, .val (.ref s.heap.size)] [.int (Int32.ofNat len), .ref s.heap.size, .ref a])) := c9.trans (by
      refine XS.astore X8.here hexec rfl (hb hbytes d39) rfl rfl rfl ?_
      refine XS.aloadN X8.here hexec rfl (hb hbytes d41) rfl rfl ?_
      refine XS.aload X8.here hexec rfl (hb hbytes d42) rfl rfl ?_
      refine XS.iloadN X8.here hexec rfl (hb hbytes d44) rfl ?_
      exact Steps.refl _)
    rw [n4]; exact hc
  obtain ⟨v11, T11, X11, E11, g11⟩ := X8.callS hexec (CodL.law l s.heap.size N) hown (wks W (staticW "java/lang/String" 47 CodL.yN)) (wk W CodL.tab) (W := 1) (Nat.le_of_ble_eq_true rfl) (Nat.le_of_ble_eq_true rfl) (Nat.le_refl _) (by show 0 + len + 0 ≤ len; omega) (g := (mkF m 45 #[.val (.ref a), .val (.ref b), .val (.int (Int32.ofNat o)), .val (.int (Int32.ofNat len)), .val .null, .val (.ref s.heap.size)] [.int (Int32.ofNat N.slots.size), .ref s.heap.size, .ref a])) rfl (by rw [hml]; rfl) c10 (argsL := [.ref s.heap.size, .int (Int32.ofNat N.slots.size)]) (rest := [.ref a]) rfl rfl (by show 2 * 0 + (1 + 0) ≤ _; decide) (hb hbytes d45) (⟨rfl, n1⟩)
  obtain ⟨rfl, q11⟩ := E11
  have hB11 := hB1.mv (X8.warmed.alike.symm.trans X11.warmed.alike) q11
  have c12 : Steps p.tables e below (s₁.setTop (entryFrame m #[.ref a, .ref b, .int (Int32.ofNat o), .int (Int32.ofNat len), .null] 6)) (T11.setTop (mkF m 48 #[.val (.ref a), .val (.ref b), .val (.int (Int32.ofNat o)), .val (.int (Int32.ofNat len)), .val .null, .val (.ref s.heap.size)] [.int 0, .ref a])) := g11
  obtain ⟨T13, X13, p13, bl13, sl13, st13⟩ := X11.finit hexec hown (wk W (.fieldLink "java/lang/String" 15 "java/lang/String" "coder" "B")) (Or.inr ⟨_, (wk W (.laysFinal "java/lang/String" "java/lang/String" "coder" "B"))⟩) (Or.inl ⟨rfl, hnm⟩) f2 (Or.inl rfl) hB11 (t := .byte) (by decide +kernel) rfl (g := (mkF m 48 #[.val (.ref a), .val (.ref b), .val (.int (Int32.ofNat o)), .val (.int (Int32.ofNat len)), .val .null, .val (.ref s.heap.size)] [.int 0, .ref a])) rfl (rest := []) rfl (hb hbytes d48)
  have c14 : Steps p.tables e below (s₁.setTop (entryFrame m #[.ref a, .ref b, .int (Int32.ofNat o), .int (Int32.ofNat len), .null] 6)) (T13.setTop (mkF m 54 #[.val (.ref a), .val (.ref b), .val (.int (Int32.ofNat o)), .val (.int (Int32.ofNat len)), .val .null, .val (.ref s.heap.size)] [.ref s.heap.size, .ref a])) := (c12.trans (st13 _ (Steps.refl _))).trans (by
    refine XS.aloadN X13.here hexec rfl (hb hbytes d51) rfl rfl ?_
    refine XS.aload X13.here hexec rfl (hb hbytes d52) rfl rfl ?_
    exact Steps.refl _)
  obtain ⟨T15, X15, p15, bl15, sl15, st15⟩ := X13.finit hexec hown (wk W (.fieldLink "java/lang/String" 9 "java/lang/String" "value" "[B")) (Or.inr ⟨_, (wk W (.laysFinal "java/lang/String" "java/lang/String" "value" "[B"))⟩) (Or.inl ⟨rfl, hnm⟩) f1 (Or.inl rfl) bl13 (t := (.array .byte)) (by decide +kernel) rfl (g := (mkF m 54 #[.val (.ref a), .val (.ref b), .val (.int (Int32.ofNat o)), .val (.int (Int32.ofNat len)), .val .null, .val (.ref s.heap.size)] [.ref s.heap.size, .ref a])) rfl (rest := []) rfl (hb hbytes d54)
  have c16 : Steps p.tables e below (s₁.setTop (entryFrame m #[.ref a, .ref b, .int (Int32.ofNat o), .int (Int32.ofNat len), .null] 6)) (T15.setTop (mkF m 57 #[.val (.ref a), .val (.ref b), .val (.int (Int32.ofNat o)), .val (.int (Int32.ofNat len)), .val .null, .val (.ref s.heap.size)] [])) := c14.trans (st15 _ (Steps.refl _))
  have ap := apart (Or.inr ⟨_, (wk W (.laysFinal "java/lang/String" "java/lang/String" "value" "[B"))⟩) (Or.inr ⟨_, (wk W (.laysFinal "java/lang/String" "java/lang/String" "coder" "B"))⟩) f1 f2 (t₁ := .array .byte) (t₂ := .byte) (by decide +kernel) (by decide +kernel) (by decide)
  have al := X8.warmed.alike.symm.trans X15.warmed.alike
  have n7 : T11.heap[s.heap.size]? = some N := by rw [q11]; exact n1.1
  exact ⟨T15, none, _, _, _, X15, by simp, rfl, by omega, (fun _ => rfl), ⟨rfl, _, N, bl15, ((Same.refl D _).set _ (by simp)).set _ (by simp), sl15, (Cell.slots_setSlot_ne _ ap).trans sl13, n1.keep al (p15.other hne (p13.other hne n7)), n2, by rw [al.findClass]; exact n3, n4, n5, fun y c h1 h2 => p15.other h1 (p13.other h1 (by rw [q11]; exact n6 y c h2)), by rw [p15.2.2, p13.2.2, q11]; exact z8⟩, fun fs hl => c16.trans (X15.returnOut hexec hret (hb hbytes d57) hl)⟩
end New4
namespace New1
def yN : MethodName := ⟨"java/lang/String", "<init>", "([C)V"⟩
abbrev yB : ByteArray := jdk_42_method_3_code
theorem d0 : decode yB 0 = .ok (.aload_n 0, 1) := by decide +kernel
theorem d1 : decode yB 1 = .ok (.aload_n 1, 1) := by decide +kernel
theorem d2 : decode yB 2 = .ok (.iconst 0, 1) := by decide +kernel
theorem d3 : decode yB 3 = .ok (.aload_n 1, 1) := by decide +kernel
theorem d4 : decode yB 4 = .ok (.arraylength, 1) := by decide +kernel
theorem d5 : decode yB 5 = .ok (.aconst_null, 1) := by decide +kernel
theorem d6 : decode yB 6 = .ok (.invokespecial 27, 3) := by decide +kernel
theorem d9 : decode yB 9 = .ok (.return_, 1) := by decide +kernel
def site : List Cond := [New4.tab] ++ initW "java/lang/String" 27 New4.yN
def tab : Cond := tabOf yN yB 2 none site
def P (a : Addr) (D : Cell) (fV fC : Field) (b : Addr) (A : Cell) (z : Int32) (args : Array Value) (s : State) : Prop := args = #[.ref a, .ref b] ∧ Blank "java/lang/String" a D s ∧ Found "java/lang/String" "value" "[B" fV s ∧ Found "java/lang/String" "coder" "B" fC s ∧ Ch b A s ∧ StaticIs s "java/lang/String" "COMPACT_STRINGS" "Z" (.int z) ∧ ¬ z = 0 ∧ 0 < A.slots.size ∧ A.slots.size ≤ 536870912 ∧ ∀ i, i < A.slots.size → ¬ 255 < cv A i
def E (a : Addr) (D : Cell) (fV fC : Field) (A : Cell) (r : Option Value) (s u : State) : Prop := Got a D fV fC A 0 A.slots.size r s u
/-- new String(chars), not empty, no char above 255: a Latin-1 String of their low bytes -/
theorem law (l : Launch) (a : Addr) (D : Cell) (fV fC : Field) (b : Addr) (A : Cell) (z : Int32) : Law l yN 2 1 3 52 yB 2 none site (P a D fV fC b A z) (E a D fV fC A) [⟨a, fC.slot⟩, ⟨a, fV.slot⟩] 1 A.slots.size := by
  refine Law.of_walk (plainFor_of_name (by decide +kernel)) (by decide +kernel) (by decide +kernel) (by decide) (fun _ _ h => by rw [h.1]; rfl) (fun _ U U' hal hh h => ⟨h.1, h.2.1.mv hal hh, h.2.2.1.al hal, h.2.2.2.1.al hal, h.2.2.2.2.1.mv hal hh, h.2.2.2.2.2.1.there hal hh, h.2.2.2.2.2.2⟩) (fun r U U' V V' h1 hal h2 h => Got.mv r U U' V V' h1 hal h2 h) ?_
  intro p e s m args below meth c s₁ X0 hexec hbytes hml hret hlk hnm hown hh0 W hP
  obtain ⟨rfl, hB, f1, f2, hA, s1, hz, l0, l2, hp⟩ := hP
  have c1 : Steps p.tables e below (s₁.setTop (entryFrame m #[.ref a, .ref b] 2)) (s₁.setTop (mkF m 0 #[.val (.ref a), .val (.ref b)] [])) := entry rfl
  have c2 : Steps p.tables e below (s₁.setTop (entryFrame m #[.ref a, .ref b] 2)) (s₁.setTop (mkF m 6 #[.val (.ref a), .val (.ref b)] [.null, .int (Int32.ofNat A.slots.size), .int 0, .ref b, .ref a])) := c1.trans (by
    refine XS.aloadN X0.here hexec rfl (hb hbytes d0) rfl rfl ?_
    refine XS.aloadN X0.here hexec rfl (hb hbytes d1) rfl rfl ?_
    refine iconstV X0.here hexec rfl 0 (hb hbytes d2) (by decide) ?_
    refine XS.aloadN X0.here hexec rfl (hb hbytes d3) rfl rfl ?_
    refine X0.alen hexec (hA.1.mv X0.warmed.alike hh0) rfl rfl (hb hbytes d4) ?_
    refine XS.aconstNull X0.here hexec rfl (hb hbytes d5) ?_
    exact Steps.refl _)
  obtain ⟨v3, T3, X3, E3, g3⟩ := X0.callN hexec (New4.law l a D fV fC b A z 0 A.slots.size) rfl hown (wks W (initW "java/lang/String" 27 New4.yN)) (W New4.tab (by simp only [site, List.mem_cons, List.mem_append, true_or, or_true])) (W := 0) (Nat.le_of_ble_eq_true rfl) (Nat.le_of_ble_eq_true rfl) (Nat.le_refl _) (by show 0 + A.slots.size ≤ A.slots.size; omega) (g := (mkF m 6 #[.val (.ref a), .val (.ref b)] [.null, .int (Int32.ofNat A.slots.size), .int (Int32.ofNat 0), .ref b, .ref a])) rfl (by rw [hml]; rfl) c2 (argsL := [.ref b, .int (Int32.ofNat 0), .int (Int32.ofNat A.slots.size), .null]) (rest := []) rfl rfl (by show 2 * 0 + 0 ≤ _; decide) (hb hbytes d6) (⟨rfl, hB.mv X0.warmed.alike hh0, f1.al X0.warmed.alike, f2.al X0.warmed.alike, hA.mv X0.warmed.alike hh0, s1.there X0.warmed.alike hh0, hz, l0, by omega, l2, fun i hi => by rw [Nat.zero_add]; exact hp i hi⟩)
  have e0 := Got.mv _ s₁ s _ _ hh0.symm (Vm.Alike.refl _) rfl E3
  obtain rfl := e0.1
  have c4 : Steps p.tables e below (s₁.setTop (entryFrame m #[.ref a, .ref b] 2)) (T3.setTop (mkF m 9 #[.val (.ref a), .val (.ref b)] [])) := g3
  exact ⟨T3, none, _, _, _, X3, by simp, rfl, by omega, (fun _ => rfl), e0, fun fs hl => c4.trans (X3.returnOut hexec hret (hb hbytes d9) hl)⟩
theorem pays {l : Launch} {R : Room} {p : Program} {e : Env} {below : List Frame} {s : State} {sargs : Array Value} {len W : Nat} (a : Addr) (D : Cell) (fV fC : Field) (b : Addr) (A : Cell) (z : Int32) (htab : tab.before sargs s = true) (hfr : 4 ≤ R.frames) (hlo : W + 65 ≤ R.locals) :
    Back l R p e below s sargs yN len W (fun A₁ a₁ => A₁.cells + 1 ≤ R.cells ∧ A₁.slots + A.slots.size ≤ R.slots ∧ P a D fV fC b A z a₁ A₁.U) (fun A₁ _ v₁ B₁ => E a D fV fC A v₁ A₁.U B₁.U ∧ B₁.locs = A₁.locs ++ [⟨a, fC.slot⟩, ⟨a, fV.slot⟩] ∧ B₁.cells = A₁.cells + 1 ∧ B₁.slots = A₁.slots + A.slots.size) :=
  (law l a D fV fC b A z).pays htab hfr (by omega)
end New1
end StrChars
namespace StrChars.Road
open Jvm Sem ClassFile Op Lib Jvm.Stand Jvm.Free Jvm.Free.XT
open Jvm.Lib.Cold (StaticIs)
abbrev ST : String := "java/lang/String"
/-- every table word that New1's law asks, flat -/
abbrev words : List Jvm.Cond := [.code New1.yN New1.yB 2 none, .initialized ST, .methodLink ST 27 New4.yN, .instanceMethod New4.yN,
  .code New4.yN New4.yB 6 none, .fieldLink ST 38 ST "COMPACT_STRINGS" "Z", .laysFinal ST ST "value" "[B", .fieldLink ST 9 ST "value" "[B", .laysFinal ST ST "coder" "B", .fieldLink ST 15 ST "coder" "B",
  .methodLink ST 1 Lib.objectInit, .instanceMethod Lib.objectInit, .code Lib.objectInit ⟨#[0xb1]⟩ 1 none, .methodLink ST 177 Cmp3.yN, .static Cmp3.yN, .methodLink ST 47 CodL.yN, .static CodL.yN,
  .code Cmp3.yN Cmp3.yB 6 (some (.array .byte)), .initialized U16, .arrayClass .byte, .methodLink U16 115 Cmp5.yN, .static Cmp5.yN, .code Cmp5.yN Cmp5.yB 7 (some .int), .code CodL.yN CodL.yB 2 (some .byte)]
theorem tab_of {a : Array Value} {s : State} (h : ∀ w ∈ words, w.before a s = true) : New1.tab.before a s = true := by
  have h5 : Cmp5.tab.before a s = true := unparts (wk h (.code Cmp5.yN Cmp5.yB 7 (some .int))) (wks h (.initialized Cmp5.yN.cls :: Cmp5.site))
  have hc : CodL.tab.before a s = true := unparts (wk h (.code CodL.yN CodL.yB 2 (some .byte))) (wks h (.initialized CodL.yN.cls :: CodL.site))
  have q5 : ∀ w ∈ Cmp5.tab :: words, w.before a s = true := fun w hw => (List.mem_cons.mp hw).elim (fun e => e ▸ h5) (h w)
  have h3 : Cmp3.tab.before a s = true := unparts (wk q5 (.code Cmp3.yN Cmp3.yB 6 (some (.array .byte)))) (wks q5 (.initialized Cmp3.yN.cls :: Cmp3.site))
  have q3 : ∀ w ∈ Cmp3.tab :: CodL.tab :: words, w.before a s = true := fun w hw => (List.mem_cons.mp hw).elim (fun e => e ▸ h3) fun hw => (List.mem_cons.mp hw).elim (fun e => e ▸ hc) (h w)
  have h4 : New4.tab.before a s = true := unparts (wk q3 (.code New4.yN New4.yB 6 none)) (wks q3 (.initialized New4.yN.cls :: New4.site))
  have q4 : ∀ w ∈ New4.tab :: words, w.before a s = true := fun w hw => (List.mem_cons.mp hw).elim (fun e => e ▸ h4) (h w)
  exact unparts (wk q4 (.code New1.yN New1.yB 2 none)) (wks q4 (.initialized New1.yN.cls :: New1.site))
/-- the words ride from the start Z to the walk's own state -/
theorem moved {Z s : State} {a0 args : Array Value} (hZ : Z.Warmed39 s.vm) (hw : ∀ d ∈ words, d.before a0 Z = true) : ∀ d ∈ words, d.before args s = true := fun d hd => by
  have q := hw d hd
  have t : ∀ d ∈ words, d = .arrayClass .byte ∨ (d.onTables && d.keepsFace) = true := by decide +kernel
  rcases t d hd with rfl | t
  · exact RoadKit.mvA hZ q
  · exact RoadKit.mv hZ q t
/-- WHAT COMES BACK, over the tables of the start Z: h the heap at the call, h' behind it -/
def Q (Z : State) (x : Addr) (A : Cell) (h : Heap) (v : Option Value) (h' : Heap) (L : List Loc) : Prop := v = none ∧ (∀ y ∈ L, y.base = x) ∧ RoadKit.Keep h h' [x] ∧ h'.size = h.size + 1 ∧ RoadKit.Exa Z h' x ST ∧ RoadKit.Fld Z h' x ST "value" "[B" (.ref h.size) ∧ RoadKit.Fld Z h' x ST "coder" "B" (.int 0) ∧
  (∃ V : Cell, RoadKit.Arr Z h' h.size V .byte ∧ V.vm = .none ∧ Z.vm.findClass "[B" = some V.cls ∧ V.slots.size = A.slots.size ∧ ∀ j, j < A.slots.size → V.slots[j]? = some (.int (lo8 (cv A j)))) ∧
  ∀ (O n d : String) (w : Value), RoadKit.Fld Z h x O n d w → RoadKit.slotOf Z O n d ≠ RoadKit.slotOf Z ST "value" "[B" → RoadKit.slotOf Z O n d ≠ RoadKit.slotOf Z ST "coder" "B" → RoadKit.Fld Z h' x O n d w
/-- **new String(chars) AT A CALL, IN THE ROAD'S FORM**: for specialBack behind newO: x the fresh String, b the char[] with the cell A -/
theorem back {p : Program} {l : Launch} {e : Env} {R : Room} {s : State} {args : Array Value} {below : List Frame} {len W : Nat} {Z : State} {a0 : Array Value} {h : Heap} (hZ : Z.Warmed39 s.vm) (hw : ∀ d ∈ words, d.before a0 Z = true) {kI : Nat} (wi : (Jvm.Cond.instantiable ST kI).before a0 Z = true)
    {x b : Addr} {A : Cell} {z : Int32} {v0 c0 : Value} (E : RoadKit.Exa Z h x ST) (V : RoadKit.Fld Z h x ST "value" "[B" v0) (C : RoadKit.Fld Z h x ST "coder" "B" c0) (K : RoadKit.Arr Z h b A .char) (hty : Typed .char A) (S : RoadKit.Sta Z h ST "COMPACT_STRINGS" "Z" (.int z)) (hz : ¬ z = 0)
    (l0 : 0 < A.slots.size) (l2 : A.slots.size ≤ 536870912) (hp : ∀ i, i < A.slots.size → ¬ 255 < cv A i) (hfr : 4 ≤ R.frames) (hlo : W + 65 ≤ R.locals) :
    Back l R p e below s args New1.yN len W (fun P a => a = #[.ref x, .ref b] ∧ P.U.heap = h ∧ P.cells + 1 ≤ R.cells ∧ P.slots + A.slots.size ≤ R.slots)
      (fun P _ v B => ∃ L, Q Z x A h v B.U.heap L ∧ B.locs = P.locs ++ L ∧ B.cells = P.cells + 1 ∧ B.slots = P.slots + A.slots.size) := by
  intro m meth c P g ig mk a X hg hsize hdg hW hn hp'
  obtain ⟨rfl, rfl, r1, r2⟩ := hp'
  have al : Z.vm.Alike P.U.vm := hZ.alike.trans X.warmed.alike
  obtain ⟨D, cfV, kV, iV, fV, hD, gV, stV, knV, obV, asV, slV⟩ := id V
  obtain ⟨D', cfC, kC, iC, fC, hD', gC, stC, -, -, asC, slC⟩ := id C
  cases hD.symm.trans hD'
  obtain ⟨D2, kD, e1, e2, e3, e4, e5⟩ := id E
  cases hD.symm.trans e1
  obtain ⟨c2, k2, i1, i2, i3, -⟩ := Cond.instantiable_spec wi
  cases e2.symm.trans i1
  cases e3.symm.trans i2
  obtain ⟨kU, u1, u2⟩ := al.2.2 _ _ e3
  have hB : Blank ST x D P.U := ⟨hD, ⟨knV, fun q hq => by rw [hq] at obV; cases obV⟩, by rw [al.findClass]; exact e2, kU, u1, by rw [u2]; exact i3, by rw [u2]; exact e5 i3⟩
  have F1 : Found ST "value" "[B" fV P.U := ⟨SBG.found_only al ⟨cfV, kV, iV, gV⟩, stV⟩
  have F2 : Found ST "coder" "B" fC P.U := ⟨SBG.found_only al ⟨cfC, kC, iC, gC⟩, stC⟩
  have hA : Ch b A P.U := ⟨⟨K.1, State.isArrayOf_alike al K.2.1, K.2.2, by omega⟩, hty⟩
  have hS : StaticIs P.U ST "COMPACT_STRINGS" "Z" (.int z) := by
    obtain ⟨cfS, iS, kS, fS, st, cS, t1, t2, t3, t4, t5, t6, t7⟩ := S
    exact StaticIs.there (s := { Z with heap := P.U.heap }) ⟨cfS, iS, kS, fS, st, cS, t1, t2, t3, t4, t5, (fun q => by rw [q] at t6; cases t6), t7⟩ al rfl
  obtain ⟨v, B, X', ⟨⟨hv, E', V', q1, q2, q3, q4, q5, q6, q7, q8, q9, q10, q11⟩, hl, hc, hs⟩, st⟩ := New1.pays x D fV fC b A z (tab_of (moved hZ hw)) hfr hlo m meth c P g ig mk _ X hg hsize hdg hW hn ⟨r1, r2, rfl, hB, F1, F2, hA, hS, hz, l0, l2, hp⟩
  have al' : Z.vm.Alike B.U.vm := hZ.alike.trans X'.warmed.alike
  have hsz : E'.slots.size = D.slots.size := by
    obtain ⟨-, -, -, kB, w1, w2, w3⟩ := q1
    obtain ⟨kB', y1, y2⟩ := al'.2.2 _ _ e3
    rw [q2.2.1] at w1
    cases w1.symm.trans y1
    rw [w3, e5 i3, y2]
  refine ⟨v, B, X', ⟨_, ⟨hv, ?_, ⟨by omega, fun y cy hy hn' => q10 y cy (by simpa using hn') hy, fun y cy hy => ?_⟩, q11, ⟨E', _, q1.1, by rw [q2.2.1]; exact e2, by rw [q2.2.1]; exact e3, by rw [q2.1]; exact obV, fun _ => by rw [hsz]; exact e5 i3⟩,
    ⟨E', cfV, kV, iV, fV, q1.1, gV, stV, by rw [q2.1]; exact knV, by rw [q2.1]; exact obV, by rw [q2.2.1]; exact asV, q3⟩, ⟨E', cfC, kC, iC, fC, q1.1, gC, stC, by rw [q2.1]; exact knV, by rw [q2.1]; exact obV, by rw [q2.2.1]; exact asC, q4⟩,
    ⟨V', ⟨q5.1, State.isArrayOf_alike al'.symm q5.2.1, q5.2.2.1⟩, q6, by rw [← al'.findClass]; exact q7, q8, fun j hj => by have := q9 j hj; rwa [Nat.zero_add] at this⟩, fun O n d w F n1 n2 => ?_⟩, hl, hc, hs⟩, st⟩
  · intro y hy
    simp only [List.mem_cons, List.not_mem_nil, or_false] at hy
    rcases hy with rfl | rfl <;> rfl
  · by_cases q : y = x
    · subst q
      cases hD.symm.trans hy
      exact ⟨E', q1.1, q2.2.1, q2.1, hsz⟩
    · exact ⟨cy, q10 y cy q hy, rfl, rfl, rfl⟩
  · obtain ⟨D3, cf, k, i, f, g1, g2, g3, g4, g5, g6, g7⟩ := F
    cases hD.symm.trans g1
    simp only [RoadKit.slotOf, g2, gV, gC, Option.map_some, Option.getD_some] at n1 n2
    exact ⟨E', cf, k, i, f, q1.1, g2, g3, by rw [q2.1]; exact g4, by rw [q2.1]; exact g5, by rw [q2.2.1]; exact g6, by rw [q2.2.2 f.slot (by simp [n1, n2])]; exact g7⟩
end StrChars.Road
namespace StrChars.Road
open Jvm Sem ClassFile Op Lib Jvm.Stand Jvm.Free Jvm.Free.XT
/-- WHAT COMES BACK, the byte[] as a list of values -/
def QA (Z : State) (x : Addr) (zn : Int32) (cs : List Int32) (h : Heap) (v : Option Value) (h' : Heap) (L : List Loc) : Prop := v = none ∧ (∀ y ∈ L, y.base = x) ∧ RoadKit.Keep h h' [x] ∧ h'.size = h.size + 1 ∧ RoadKit.Exa Z h' x ST ∧ RoadKit.Fld Z h' x ST "value" "[B" (.ref h.size) ∧ RoadKit.Fld Z h' x ST "coder" "B" (.int 0) ∧
  (∃ kb, Z.vm.findClass "[B" = some kb ∧ RoadKit.Arv Z h' h.size kb .byte zn (cs.map fun c => .int (lo8 c)) (.int 0)) ∧
  ∀ (O n d : String) (w : Value), RoadKit.Fld Z h x O n d w → RoadKit.slotOf Z O n d ≠ RoadKit.slotOf Z ST "value" "[B" → RoadKit.slotOf Z O n d ≠ RoadKit.slotOf Z ST "coder" "B" → RoadKit.Fld Z h' x O n d w
/-- **new String(chars) AT A CALL, THE ARRAYS AS LISTS**: the char[] at b holds cs, not empty, no char above 255 -/
theorem backArv {p : Program} {l : Launch} {e : Env} {R : Room} {s : State} {args : Array Value} {below : List Frame} {len W : Nat} {Z : State} {a0 : Array Value} {h : Heap} (hZ : Z.Warmed39 s.vm) (hw : ∀ d ∈ words, d.before a0 Z = true) {kI : Nat} (wi : (Jvm.Cond.instantiable ST kI).before a0 Z = true)
    {x b : Addr} {k : ClassId} {zn z : Int32} {cs : List Int32} {dv v0 c0 : Value} (E : RoadKit.Exa Z h x ST) (V : RoadKit.Fld Z h x ST "value" "[B" v0) (C : RoadKit.Fld Z h x ST "coder" "B" c0) (K : RoadKit.Arv Z h b k .char zn (cs.map Value.int) dv) (S : RoadKit.Sta Z h ST "COMPACT_STRINGS" "Z" (.int z)) (hz : ¬ z = 0)
    (hlen : zn.toNatClampNeg = cs.length) (h0 : 0 < cs.length) (hbig : cs.length ≤ 536870912) (hall : ∀ c ∈ cs, ¬ 255 < c) (hfr : 4 ≤ R.frames) (hlo : W + 65 ≤ R.locals) :
    Back l R p e below s args New1.yN len W (fun P a => a = #[.ref x, .ref b] ∧ P.U.heap = h ∧ P.cells + 1 ≤ R.cells ∧ P.slots + cs.length ≤ R.slots)
      (fun P _ v B => ∃ L, QA Z x zn cs h v B.U.heap L ∧ B.locs = P.locs ++ L ∧ B.cells = P.cells + 1 ∧ B.slots = P.slots + cs.length) := by
  obtain ⟨A, K1, K2, K3, K4, K5, K6⟩ := K
  have e : A.slots.size = cs.length := K3.trans hlen
  have hat : ∀ (i : Nat) (hi : i < cs.length), A.slots[i]? = some (.int cs[i]) := fun i hi => by rw [K5 i (by omega)]; simp [List.getD_eq_getElem?_getD, hi]
  have hcv : ∀ (i : Nat) (hi : i < cs.length), cv A i = cs[i] := fun i hi => by unfold cv; rw [hat i hi]
  have hty : Typed .char A := fun i v hv => by
    have hi : i < A.slots.size := (Array.getElem?_eq_some_iff.mp hv).1
    have q := K5 i hi
    rw [hv] at q
    rw [Option.some.inj q]
    exact K6 i hi
  refine Back.mono (back hZ hw wi E V C K1 hty S hz (by omega) (by omega) (fun i hi => by rw [hcv i (by omega)]; exact hall _ (List.getElem_mem _)) hfr hlo) (fun P a hp => ⟨hp.1, hp.2.1, hp.2.2.1, by rw [e]; exact hp.2.2.2⟩) (fun P a v B hp hq => ?_)
  obtain ⟨L, ⟨q1, q2, q3, q4, q5, q6, q7, ⟨V', v1, v2, v3, v4, v5⟩, q9⟩, hl, hc, hs⟩ := hq
  refine ⟨L, ⟨q1, q2, q3, q4, q5, q6, q7, ⟨V'.cls, v3, V', v1, rfl, by rw [v4, e, hlen], K4, fun i hi => ?_, fun i hi => ?_⟩, q9⟩, hl, hc, by rw [hs, e]⟩
  · have hi' : i < cs.length := by omega
    rw [v5 i (by omega), hcv i hi']; simp [List.getD_eq_getElem?_getD, hi']
  · have hi' : i < cs.length := by omega
    simp only [List.getD_eq_getElem?_getD, List.getElem?_map, List.getElem?_eq_getElem hi', Option.map_some, Option.getD_some]
    exact fits_lo8 _
end StrChars.Road
namespace StrChars.Road
open Jvm Sem ClassFile Op Lib Jvm.Stand Jvm.Free Jvm.Free.XT
/-- WHAT COMES BACK, in the writer's own shape -/
def QV (Z : State) (x : Addr) (N : Int32) (bs : List Int32) (h : Heap) (n0 : Nat) (v : Option Value) (h' : Heap) (L : List Loc) : Prop := v = none ∧ RoadKit.Fr n0 L ∧ RoadKit.Keep h h' [x] ∧ RoadKit.Exa Z h' x ST ∧ RoadKit.Fld Z h' x ST "coder" "B" (.int 0) ∧
  ∃ (t : Addr) (kb : ClassId), n0 ≤ t ∧ h.size ≤ t ∧ ¬ t = x ∧ RoadKit.Fld Z h' x ST "value" "[B" (.ref t) ∧ RoadKit.Arv Z h' t kb .byte N (bs.map Value.int) (.int 0)
/-- **new String(chars) AT A CALL, FOR THE WRITER**: a char[] of n known ints, each 0 to 255 -/
theorem backV {p : Program} {l : Launch} {e : Env} {R : Room} {s : State} {args : Array Value} {below : List Frame} {len W : Nat} {Z : State} {a0 : Array Value} {h : Heap} (hZ : Z.Warmed39 s.vm) (hw : ∀ d ∈ words, d.before a0 Z = true) {kI : Nat} (wi : (Jvm.Cond.instantiable ST kI).before a0 Z = true)
    {x b : Addr} {kC : ClassId} {cs bs : List Int32} {d v0 c0 : Value} {z N : Int32} {n n0 : Nat} (hx0 : n0 ≤ x) (hh0 : n0 ≤ h.size) (E : RoadKit.Exa Z h x ST) (V : RoadKit.Fld Z h x ST "value" "[B" v0) (C : RoadKit.Fld Z h x ST "coder" "B" c0) (K : RoadKit.Arv Z h b kC .char N (cs.map Value.int) d) (S : RoadKit.Sta Z h ST "COMPACT_STRINGS" "Z" (.int z)) (hz : ¬ z = 0)
    (hn : cs.length = n) (hN : N = Int32.ofNat n) (l0 : 0 < n) (l2 : n ≤ 4000) (hp : ∀ c ∈ cs, ¬ c < 0 ∧ ¬ (255 : Int32) < c) (hb : bs = cs.map (fun c => c.toInt8.toInt32)) (hfr : 4 ≤ R.frames) (hlo : W + 65 ≤ R.locals) :
    Back l R p e below s args (⟨"java/lang/String", "<init>", "([C)V"⟩ : MethodName) len W (fun P a => a = #[.ref x, .ref b] ∧ P.U.heap = h ∧ P.cells + 1 ≤ R.cells ∧ P.slots + n ≤ R.slots)
      (fun P _ v B => ∃ L, QV Z x N bs h n0 v B.U.heap L ∧ B.locs = P.locs ++ L ∧ B.cells = P.cells + 1 ∧ B.slots = P.slots + n) := by
  subst hn hN hb
  refine Back.mono (backArv hZ hw wi E V C K S hz (n32 (by omega)) l0 (by omega) (fun c hc => (hp c hc).2) hfr hlo) (fun P a hp => hp) (fun P a v B hp hq => ?_)
  obtain ⟨L, ⟨q1, q2, q3, q4, q5, q6, q7, ⟨kb, v1, v2⟩, q9⟩, hl, hc, hs⟩ := hq
  exact ⟨L, ⟨q1, fun y hy => by rw [q2 y hy]; exact hx0, q3, q5, q7, h.size, kb, hh0, Nat.le_refl _, Nat.ne_of_gt E.lt, q6, by rw [List.map_map]; exact v2⟩, hl, hc, hs⟩
end StrChars.Road
end Jvm.Pilot.@@N@@
namespace Jvm.Pilot.@@N@@
open Jvm Jvm.ClassFile Sem Op Lib Jvm.Free Jvm.Stand Jvm.LawKit Jvm.RoadKit Bundle Jvm.Pilot.@@N@@.Jvm.D
abbrev iv (z : Int32) : Slot := .val (.int z)
abbrev rv (z : Addr) : Slot := .val (.ref z)
abbrev SP (p : Program) (e : Env) (below : List Frame) (T : State) (f : JFrame) (t : State) : Prop := Steps p.tables e below (T.setTop f) t
abbrev ym0 : MethodName := ⟨"com/example/leafwright/leafwright/References", "fragment", "(Ljava/lang/String;)Ljava/lang/String;"⟩
abbrev ym1 : MethodName := ⟨"com/example/leafwright/leafwright/ReferencesFragmentPinLaw", "draw", "(I)C"⟩
abbrev ym2 : MethodName := ⟨"com/example/leafwright/leafwright/ReferencesFragmentPinLaw", "make", "(ICCCC)Ljava/lang/String;"⟩
abbrev ym3 : MethodName := ⟨"java/lang/Math", "max", "(II)I"⟩
abbrev ym4 : MethodName := ⟨"java/lang/Math", "min", "(II)I"⟩
abbrev ym6 : MethodName := ⟨"java/lang/String", "<init>", "([C)V"⟩
abbrev ym8 : MethodName := ⟨"java/lang/String", "charAt", "(I)C"⟩
abbrev ym9 : MethodName := ⟨"java/lang/String", "checkBoundsBeginEnd", "(III)V"⟩
abbrev ym10 : MethodName := ⟨"java/lang/String", "checkIndex", "(II)V"⟩
abbrev ym11 : MethodName := ⟨"java/lang/String", "coder", "()B"⟩
abbrev ym12 : MethodName := ⟨"java/lang/String", "indexOf", "(I)I"⟩
abbrev ym13 : MethodName := ⟨"java/lang/String", "indexOf", "(II)I"⟩
abbrev ym14 : MethodName := ⟨"java/lang/String", "isLatin1", "()Z"⟩
abbrev ym15 : MethodName := ⟨"java/lang/String", "length", "()I"⟩
abbrev ym16 : MethodName := ⟨"java/lang/String", "substring", "(I)Ljava/lang/String;"⟩
abbrev ym17 : MethodName := ⟨"java/lang/String", "substring", "(II)Ljava/lang/String;"⟩
abbrev ym18 : MethodName := ⟨"java/lang/StringLatin1", "canEncode", "(I)Z"⟩
abbrev ym19 : MethodName := ⟨"java/lang/StringLatin1", "charAt", "([BI)C"⟩
abbrev ym20 : MethodName := ⟨"java/lang/StringLatin1", "indexOf", "([BIII)I"⟩
abbrev ym21 : MethodName := ⟨"java/lang/StringLatin1", "indexOfChar", "([BIII)I"⟩
abbrev ym22 : MethodName := ⟨"java/lang/StringLatin1", "newString", "([BII)Ljava/lang/String;"⟩
abbrev ym23 : MethodName := ⟨"java/util/Arrays", "checkLength", "(II)V"⟩
abbrev ym24 : MethodName := ⟨"java/util/Arrays", "copyOfRange", "([BII)[B"⟩
abbrev ym25 : MethodName := ⟨"java/util/Arrays", "copyOfRangeByte", "([BII)[B"⟩
abbrev rm0 : Room := { frames := 0, cells := 0, slots := 0, locals := 0 }
abbrev rm1 : Room := { frames := 0, cells := 2, slots := 4, locals := 0 }
abbrev rm2 : Room := { frames := 1, cells := 0, slots := 0, locals := 12 }
abbrev rm3 : Room := { frames := 1, cells := 0, slots := 0, locals := 13 }
abbrev rm4 : Room := { frames := 1, cells := 0, slots := 0, locals := 14 }
abbrev rm5 : Room := { frames := 1, cells := 0, slots := 0, locals := 15 }
abbrev rm6 : Room := { frames := 1, cells := 0, slots := 0, locals := 17 }
abbrev rm7 : Room := { frames := 1, cells := 2, slots := 4, locals := 12 }
abbrev rm8 : Room := { frames := 2, cells := 0, slots := 0, locals := 27 }
abbrev rm9 : Room := { frames := 2, cells := 0, slots := 0, locals := 32 }
abbrev rm10 : Room := { frames := 2, cells := 1, slots := 4, locals := 40 }
abbrev rm11 : Room := { frames := 2, cells := 2, slots := 4, locals := 29 }
abbrev rm12 : Room := { frames := 3, cells := 0, slots := 0, locals := 40 }
abbrev rm13 : Room := { frames := 3, cells := 0, slots := 0, locals := 46 }
abbrev rm14 : Room := { frames := 3, cells := 1, slots := 4, locals := 56 }
abbrev rm15 : Room := { frames := 3, cells := 2, slots := 4, locals := 45 }
abbrev rm16 : Room := { frames := 3, cells := 4, slots := 8, locals := 43 }
abbrev rm17 : Room := { frames := 4, cells := 0, slots := 0, locals := 59 }
abbrev rm18 : Room := { frames := 4, cells := 2, slots := 4, locals := 59 }
abbrev rm19 : Room := { frames := 4, cells := 2, slots := 8, locals := 72 }
abbrev rm20 : Room := { frames := 4, cells := 3, slots := 10, locals := 66 }
abbrev rm21 : Room := { frames := 4, cells := 3, slots := 12, locals := 66 }
abbrev rm22 : Room := { frames := 4, cells := 3, slots := 6, locals := 66 }
abbrev rm23 : Room := { frames := 4, cells := 3, slots := 8, locals := 66 }
abbrev rm24 : Room := { frames := 5, cells := 2, slots := 8, locals := 86 }
abbrev rm25 : Room := { frames := 6, cells := 2, slots := 8, locals := 102 }
abbrev rm26 : Room := { frames := 7, cells := 2, slots := 8, locals := 115 }
def QV (r : Option Value) (h0 : Heap) (n0 : Nat) (v : Option Value) (h : Heap) (L : List Loc) : Prop := v = r ∧ Fr n0 L ∧ h = h0
def QN (r : Option Value) (n0 : Nat) (v : Option Value) (h : Heap) (L : List Loc) : Prop := v = r ∧ Fr n0 L
section OwnWords
variable {args : Array Value} {first s : State} {o : Option Outcome} {idx : List Nat} {t : Term}
theorem own_eqI {k : Int32} (h : (Jvm.Cond.eq t (.int k)).value args first o s idx = some true) : t.eval args first o idx s = some (.int k) := by
  simp only [Jvm.Cond.value, Term.eval] at h; cases ht : t.eval args first o idx s with | none => simp [ht] at h | some x => cases x <;> simp [ht] at h ⊢; exact h
end OwnWords
theorem own_exa_plain {Z : State} {h : Heap} {a : Addr} {C : String} (F : Exa Z h a C) (c : Cell) (hc : h[a]? = some c) : c.vm.isStatics = false := by
  obtain ⟨cell, k, h1, h2, h3, h4, h5⟩ := F; cases h1.symm.trans hc; exact h4
theorem own_arv_plain {Z : State} {h : Heap} {a : Addr} {k : ClassId} {ty : FieldType} {n : Int32} {vs : List Value} {d : Value} (F : Arv Z h a k ty n vs d) (c : Cell) (hc : h[a]? = some c) : c.vm.isStatics = false := by
  obtain ⟨cell, A, -⟩ := F; cases A.1.symm.trans hc; exact A.plain
theorem own_ext_of_keep {h h' : Heap} {ws : List Addr} (K : Keep h h' ws) (q : ∀ x ∈ ws, h.size ≤ x) : Ext h h' := ⟨K.1, fun a c hc => K.2.1 a c hc fun hm => absurd (Array.getElem?_eq_some_iff.mp hc).1 (Nat.not_lt.mpr (q a hm))⟩
theorem own_fitc {Z : State} {h : Heap} {a : Addr} {c : Cell} {ty : FieldType} {vs : List Value} {d : Value} (A : Arr Z h a c ty) (H : Has c vs d) (G : ∀ i, i < c.slots.size → fits ty (vs.getD i d) = true) : FitC Z c := fun i v hv => by
  obtain ⟨hi, -⟩ := Array.getElem?_eq_some_iff.mp hv
  obtain ⟨hs, k, hk, comp, hkind⟩ := A.2.1
  have e : Z.slotType? c.cls .none i = some ty := by simp [State.slotType?, hk, hkind]
  have ev : v = vs.getD i d := Option.some.inj (hv.symm.trans (H i hi))
  simp only [State.fitsSlot, e]
  rw [ev]; exact G i hi
theorem own_sta_keep {Z : State} {h h' : Heap} {C n d : String} {w : Value} {ws : List Addr} (F : Sta Z h C n d w) (K : Keep h h' ws) (q : ∀ x ∈ ws, ∀ c : Cell, h[x]? = some c → c.vm.isStatics = false) : Sta Z h' C n d w := by
  obtain ⟨cf, i, k, f, st, cell, h1, h2, h3, h4, h5, h6, h7⟩ := F
  exact ⟨cf, i, k, f, st, cell, h1, h2, h3, h4, K.2.1 _ _ h5 (fun hx => by rw [q _ hx _ h5] at h6; cases h6), h6, h7⟩
section OwnWords2
variable {args : Array Value} {s : State} {t u : Term}
theorem own_eqR {a : Addr} (h : (Jvm.Cond.eq t u).value args s none s [] = some true) (hu : u.eval args s none [] s = some (.ref a)) : t.eval args s none [] s = some (.ref a) := by
  simp only [Jvm.Cond.value, hu] at h; cases ht : t.eval args s none [] s with | none => simp [ht] at h | some x => cases x <;> simp [ht] at h ⊢; exact h
theorem own_len {a : Addr} {cl : Cell} {ty : FieldType} {k : Int32} (ev : t.eval args s none [] s = some (.ref a)) (A : Arr s s.heap a cl ty) (h : (Term.length t).eval args s none [] s = some (.int k)) : cl.slots.size < 2 ^ 31 ∧ cl.slots.size.toInt32 = k := by
  have ha := A.fin (Vm.Alike.refl _)
  by_cases hl : cl.slots.size < 2 ^ 31
  · rw [len_f ev ha hl] at h; exact ⟨hl, Value.int.inj (Option.some.inj h)⟩
  · simp [Term.eval, ev, ha, hl] at h
theorem own_elem {a : Addr} {cl : Cell} {ty : FieldType} {k : Int32} {v : Value} (ev : t.eval args s none [] s = some (.ref a)) (A : Arr s s.heap a cl ty) (h : (Term.elem t (.int k)).eval args s none [] s = some v) : cl.slots[k.toNatClampNeg]? = some v := (elem_in h ev (Term.int_eval k) A.1).2
end OwnWords2
theorem own_wi {Z : State} {a0 : Array Value} (hw : ∀ d ∈ tables_1, d.before a0 Z = true) (i : Nat) {d : Jvm.Cond} (h : tables_1[i]? = some d) : d.before a0 Z = true := hw d (List.mem_of_getElem? h)
theorem ow0_0 : decode jdk_42_method_152_code 0 = .ok (.getstatic 38, 3) := by decide +kernel
theorem ow0_3 : decode jdk_42_method_152_code 3 = .ok (.ifCond .eq 10, 3) := by decide +kernel
theorem ow0_6 : decode jdk_42_method_152_code 6 = .ok (.aload_n 0, 1) := by decide +kernel
theorem ow0_7 : decode jdk_42_method_152_code 7 = .ok (.getfield 15, 3) := by decide +kernel
theorem ow0_10 : decode jdk_42_method_152_code 10 = .ok (.goto 4, 3) := by decide +kernel
theorem ow0_14 : decode jdk_42_method_152_code 14 = .ok (.ireturn, 1) := by decide +kernel
theorem own_pn_java_lang_String : plainName "java/lang/String" = true := by first | (simp [plainName, overriddenIn]; done) | decide +kernel
theorem ow1_0 : decode jdk_42_method_154_code 0 = .ok (.getstatic 38, 3) := by decide +kernel
theorem ow1_3 : decode jdk_42_method_154_code 3 = .ok (.ifCond .eq 14, 3) := by decide +kernel
theorem ow1_6 : decode jdk_42_method_154_code 6 = .ok (.aload_n 0, 1) := by decide +kernel
theorem ow1_7 : decode jdk_42_method_154_code 7 = .ok (.getfield 15, 3) := by decide +kernel
theorem ow1_10 : decode jdk_42_method_154_code 10 = .ok (.ifCond .ne 7, 3) := by decide +kernel
theorem ow1_13 : decode jdk_42_method_154_code 13 = .ok (.iconst 1, 1) := by decide +kernel
theorem ow1_14 : decode jdk_42_method_154_code 14 = .ok (.goto 4, 3) := by decide +kernel
theorem ow1_18 : decode jdk_42_method_154_code 18 = .ok (.ireturn, 1) := by decide +kernel
theorem ow2_0 : decode jdk_42_method_54_code 0 = .ok (.aload_n 0, 1) := by decide +kernel
theorem ow2_1 : decode jdk_42_method_54_code 1 = .ok (.getfield 9, 3) := by decide +kernel
theorem ow2_4 : decode jdk_42_method_54_code 4 = .ok (.arraylength, 1) := by decide +kernel
theorem ow2_5 : decode jdk_42_method_54_code 5 = .ok (.aload_n 0, 1) := by decide +kernel
theorem ow2_6 : decode jdk_42_method_54_code 6 = .ok (.invokevirtual 335, 3) := by decide +kernel
theorem own_pd___B : parseMethodDescriptor "()B" = some ⟨[], some .byte⟩ := by decide +kernel
theorem ow2_9 : decode jdk_42_method_54_code 9 = .ok (.ishr, 1) := by decide +kernel
theorem ow2_10 : decode jdk_42_method_54_code 10 = .ok (.ireturn, 1) := by decide +kernel
theorem ow3_0 : decode jdk_43_method_4_code 0 = .ok (.iload_n 0, 1) := by decide +kernel
theorem ow3_1 : decode jdk_43_method_4_code 1 = .ok (.ifCond .lt 14, 3) := by decide +kernel
theorem ow3_4 : decode jdk_43_method_4_code 4 = .ok (.iload_n 0, 1) := by decide +kernel
theorem ow3_5 : decode jdk_43_method_4_code 5 = .ok (.sipush 255, 3) := by decide +kernel
theorem ow3_8 : decode jdk_43_method_4_code 8 = .ok (.if_icmp .gt 7, 3) := by decide +kernel
theorem ow3_11 : decode jdk_43_method_4_code 11 = .ok (.iconst 1, 1) := by decide +kernel
theorem ow3_12 : decode jdk_43_method_4_code 12 = .ok (.goto 4, 3) := by decide +kernel
theorem ow3_16 : decode jdk_43_method_4_code 16 = .ok (.ireturn, 1) := by decide +kernel
theorem own_pn_java_lang_StringLatin1 : plainName "java/lang/StringLatin1" = true := by first | (simp [plainName, overriddenIn]; done) | decide +kernel
theorem ow4_0 : decode jdk_29_method_65_code 0 = .ok (.iload_n 0, 1) := by decide +kernel
theorem ow4_1 : decode jdk_29_method_65_code 1 = .ok (.iload_n 1, 1) := by decide +kernel
theorem ow4_2 : decode jdk_29_method_65_code 2 = .ok (.if_icmp .lt 7, 3) := by decide +kernel
theorem ow4_5 : decode jdk_29_method_65_code 5 = .ok (.iload_n 0, 1) := by decide +kernel
theorem ow4_6 : decode jdk_29_method_65_code 6 = .ok (.goto 4, 3) := by decide +kernel
theorem ow4_10 : decode jdk_29_method_65_code 10 = .ok (.ireturn, 1) := by decide +kernel
theorem own_pf_java_lang_Math_max__II_I : plainFor ym3 = true := by decide +kernel
theorem ow5_0 : decode jdk_29_method_69_code 0 = .ok (.iload_n 0, 1) := by decide +kernel
theorem ow5_1 : decode jdk_29_method_69_code 1 = .ok (.iload_n 1, 1) := by decide +kernel
theorem ow5_2 : decode jdk_29_method_69_code 2 = .ok (.if_icmp .gt 7, 3) := by decide +kernel
theorem ow5_5 : decode jdk_29_method_69_code 5 = .ok (.iload_n 0, 1) := by decide +kernel
theorem ow5_6 : decode jdk_29_method_69_code 6 = .ok (.goto 4, 3) := by decide +kernel
theorem ow5_10 : decode jdk_29_method_69_code 10 = .ok (.ireturn, 1) := by decide +kernel
theorem own_pf_java_lang_Math_min__II_I : plainFor ym4 = true := by decide +kernel
theorem ow6_0 : decode jdk_43_method_23_code 0 = .ok (.iload_n 1, 1) := by decide +kernel
theorem ow6_1 : decode jdk_43_method_23_code 1 = .ok (.i2b, 1) := by decide +kernel
theorem ow6_2 : decode jdk_43_method_23_code 2 = .ok (.istore 4, 2) := by decide +kernel
theorem ow6_4 : decode jdk_43_method_23_code 4 = .ok (.iload_n 2, 1) := by decide +kernel
theorem ow6_5 : decode jdk_43_method_23_code 5 = .ok (.istore 5, 2) := by decide +kernel
theorem ow6_7 : decode jdk_43_method_23_code 7 = .ok (.iload 5, 2) := by decide +kernel
theorem ow6_9 : decode jdk_43_method_23_code 9 = .ok (.iload_n 3, 1) := by decide +kernel
theorem ow6_10 : decode jdk_43_method_23_code 10 = .ok (.if_icmp .ge 21, 3) := by decide +kernel
theorem ow6_13 : decode jdk_43_method_23_code 13 = .ok (.aload_n 0, 1) := by decide +kernel
theorem ow6_14 : decode jdk_43_method_23_code 14 = .ok (.iload 5, 2) := by decide +kernel
theorem ow6_16 : decode jdk_43_method_23_code 16 = .ok (.baload, 1) := by decide +kernel
theorem ow6_17 : decode jdk_43_method_23_code 17 = .ok (.iload 4, 2) := by decide +kernel
theorem ow6_19 : decode jdk_43_method_23_code 19 = .ok (.if_icmp .ne 6, 3) := by decide +kernel
theorem ow6_22 : decode jdk_43_method_23_code 22 = .ok (.iload 5, 2) := by decide +kernel
theorem ow6_24 : decode jdk_43_method_23_code 24 = .ok (.ireturn, 1) := by decide +kernel
theorem ow6_25 : decode jdk_43_method_23_code 25 = .ok (.iinc 5 1, 3) := by decide +kernel
theorem ow6_28 : decode jdk_43_method_23_code 28 = .ok (.goto (-21), 3) := by decide +kernel
theorem ow6_31 : decode jdk_43_method_23_code 31 = .ok (.iconst (-1), 1) := by decide +kernel
theorem ow6_32 : decode jdk_43_method_23_code 32 = .ok (.ireturn, 1) := by decide +kernel
theorem ow7_0 : decode jdk_43_method_22_code 0 = .ok (.iload_n 1, 1) := by decide +kernel
theorem ow7_1 : decode jdk_43_method_22_code 1 = .ok (.invokestatic 88, 3) := by decide +kernel
theorem own_pd__I_Z : parseMethodDescriptor "(I)Z" = some ⟨[.int], some .boolean⟩ := by decide +kernel
theorem ow7_4 : decode jdk_43_method_22_code 4 = .ok (.ifCond .ne 5, 3) := by decide +kernel
theorem ow7_9 : decode jdk_43_method_22_code 9 = .ok (.iload_n 2, 1) := by decide +kernel
theorem ow7_10 : decode jdk_43_method_22_code 10 = .ok (.iconst 0, 1) := by decide +kernel
theorem ow7_11 : decode jdk_43_method_22_code 11 = .ok (.invokestatic 92, 3) := by decide +kernel
theorem own_pd__II_I : parseMethodDescriptor "(II)I" = some ⟨[.int, .int], some .int⟩ := by decide +kernel
theorem ow7_14 : decode jdk_43_method_22_code 14 = .ok (.istore_n 2, 1) := by decide +kernel
theorem ow7_15 : decode jdk_43_method_22_code 15 = .ok (.iload_n 3, 1) := by decide +kernel
theorem ow7_16 : decode jdk_43_method_22_code 16 = .ok (.aload_n 0, 1) := by decide +kernel
theorem ow7_17 : decode jdk_43_method_22_code 17 = .ok (.arraylength, 1) := by decide +kernel
theorem ow7_18 : decode jdk_43_method_22_code 18 = .ok (.invokestatic 38, 3) := by decide +kernel
theorem ow7_21 : decode jdk_43_method_22_code 21 = .ok (.istore_n 3, 1) := by decide +kernel
theorem ow7_22 : decode jdk_43_method_22_code 22 = .ok (.iload_n 2, 1) := by decide +kernel
theorem ow7_23 : decode jdk_43_method_22_code 23 = .ok (.iload_n 3, 1) := by decide +kernel
theorem ow7_24 : decode jdk_43_method_22_code 24 = .ok (.if_icmp .lt 5, 3) := by decide +kernel
theorem ow7_29 : decode jdk_43_method_22_code 29 = .ok (.aload_n 0, 1) := by decide +kernel
theorem ow7_30 : decode jdk_43_method_22_code 30 = .ok (.iload_n 1, 1) := by decide +kernel
theorem ow7_31 : decode jdk_43_method_22_code 31 = .ok (.iload_n 2, 1) := by decide +kernel
theorem ow7_32 : decode jdk_43_method_22_code 32 = .ok (.iload_n 3, 1) := by decide +kernel
theorem ow7_33 : decode jdk_43_method_22_code 33 = .ok (.invokestatic 95, 3) := by decide +kernel
theorem own_pd___BIII_I : parseMethodDescriptor "([BIII)I" = some ⟨[(.array .byte), .int, .int, .int], some .int⟩ := by decide +kernel
theorem ow7_36 : decode jdk_43_method_22_code 36 = .ok (.ireturn, 1) := by decide +kernel
theorem ow7_27 : decode jdk_43_method_22_code 27 = .ok (.iconst (-1), 1) := by decide +kernel
theorem ow7_28 : decode jdk_43_method_22_code 28 = .ok (.ireturn, 1) := by decide +kernel
theorem ow8_0 : decode jdk_42_method_80_code 0 = .ok (.aload_n 0, 1) := by decide +kernel
theorem ow8_1 : decode jdk_42_method_80_code 1 = .ok (.invokevirtual 492, 3) := by decide +kernel
theorem own_pd___Z : parseMethodDescriptor "()Z" = some ⟨[], some .boolean⟩ := by decide +kernel
theorem ow8_4 : decode jdk_42_method_80_code 4 = .ok (.ifCond .eq 19, 3) := by decide +kernel
theorem ow8_7 : decode jdk_42_method_80_code 7 = .ok (.aload_n 0, 1) := by decide +kernel
theorem ow8_8 : decode jdk_42_method_80_code 8 = .ok (.getfield 9, 3) := by decide +kernel
theorem ow8_11 : decode jdk_42_method_80_code 11 = .ok (.iload_n 1, 1) := by decide +kernel
theorem ow8_12 : decode jdk_42_method_80_code 12 = .ok (.iload_n 2, 1) := by decide +kernel
theorem ow8_13 : decode jdk_42_method_80_code 13 = .ok (.aload_n 0, 1) := by decide +kernel
theorem ow8_14 : decode jdk_42_method_80_code 14 = .ok (.invokevirtual 505, 3) := by decide +kernel
theorem own_pd___I : parseMethodDescriptor "()I" = some ⟨[], some .int⟩ := by decide +kernel
theorem ow8_17 : decode jdk_42_method_80_code 17 = .ok (.invokestatic 637, 3) := by decide +kernel
theorem ow8_20 : decode jdk_42_method_80_code 20 = .ok (.goto 16, 3) := by decide +kernel
theorem ow8_36 : decode jdk_42_method_80_code 36 = .ok (.ireturn, 1) := by decide +kernel
theorem ow9_0 : decode jdk_42_method_79_code 0 = .ok (.aload_n 0, 1) := by decide +kernel
theorem ow9_1 : decode jdk_42_method_79_code 1 = .ok (.iload_n 1, 1) := by decide +kernel
theorem ow9_2 : decode jdk_42_method_79_code 2 = .ok (.iconst 0, 1) := by decide +kernel
theorem ow9_3 : decode jdk_42_method_79_code 3 = .ok (.invokevirtual 633, 3) := by decide +kernel
theorem ow9_6 : decode jdk_42_method_79_code 6 = .ok (.ireturn, 1) := by decide +kernel
theorem ow10_0 : decode jdk_42_method_151_code 0 = .ok (.aload_n 0, 1) := by decide +kernel
theorem ow10_1 : decode jdk_42_method_151_code 1 = .ok (.invokespecial 1, 3) := by decide +kernel
theorem ow10_4 : decode jdk_42_method_151_code 4 = .ok (.aload_n 0, 1) := by decide +kernel
theorem ow10_5 : decode jdk_42_method_151_code 5 = .ok (.aload_n 1, 1) := by decide +kernel
theorem ow10_6 : decode jdk_42_method_151_code 6 = .ok (.putfield 9, 3) := by decide +kernel
theorem ow10_9 : decode jdk_42_method_151_code 9 = .ok (.aload_n 0, 1) := by decide +kernel
theorem ow10_10 : decode jdk_42_method_151_code 10 = .ok (.iload_n 2, 1) := by decide +kernel
theorem ow10_11 : decode jdk_42_method_151_code 11 = .ok (.putfield 15, 3) := by decide +kernel
theorem ow10_14 : decode jdk_42_method_151_code 14 = .ok (.return_, 1) := by decide +kernel
theorem ow11_0 : decode jdk_43_method_47_code 0 = .ok (.iload_n 2, 1) := by decide +kernel
theorem ow11_1 : decode jdk_43_method_47_code 1 = .ok (.ifCond .ne 6, 3) := by decide +kernel
theorem ow11_4 : decode jdk_43_method_47_code 4 = .ok (.ldc 151, 2) := by decide +kernel
theorem ow11_6 : decode jdk_43_method_47_code 6 = .ok (.areturn, 1) := by decide +kernel
theorem ow12_0 : decode jdk_41_method_12_code 0 = .ok (.iload_n 0, 1) := by decide +kernel
theorem ow12_1 : decode jdk_41_method_12_code 1 = .ok (.ifCond .lt 13, 3) := by decide +kernel
theorem ow12_4 : decode jdk_41_method_12_code 4 = .ok (.iload_n 0, 1) := by decide +kernel
theorem ow12_5 : decode jdk_41_method_12_code 5 = .ok (.iload_n 1, 1) := by decide +kernel
theorem ow12_6 : decode jdk_41_method_12_code 6 = .ok (.if_icmp .gt 8, 3) := by decide +kernel
theorem ow12_9 : decode jdk_41_method_12_code 9 = .ok (.iload_n 1, 1) := by decide +kernel
theorem ow12_10 : decode jdk_41_method_12_code 10 = .ok (.iload_n 2, 1) := by decide +kernel
theorem ow12_11 : decode jdk_41_method_12_code 11 = .ok (.if_icmp .le 11, 3) := by decide +kernel
theorem ow12_22 : decode jdk_41_method_12_code 22 = .ok (.iload_n 0, 1) := by decide +kernel
theorem ow12_23 : decode jdk_41_method_12_code 23 = .ok (.ireturn, 1) := by decide +kernel
theorem own_pn_jdk_internal_util_Preconditions : plainName "jdk/internal/util/Preconditions" = true := by first | (simp [plainName, overriddenIn]; done) | decide +kernel
theorem ow13_0 : decode jdk_42_method_158_code 0 = .ok (.iload_n 0, 1) := by decide +kernel
theorem ow13_1 : decode jdk_42_method_158_code 1 = .ok (.iload_n 1, 1) := by decide +kernel
theorem ow13_2 : decode jdk_42_method_158_code 2 = .ok (.iload_n 2, 1) := by decide +kernel
theorem ow13_3 : decode jdk_42_method_158_code 3 = .ok (.getstatic 1053, 3) := by decide +kernel
theorem ow13_6 : decode jdk_42_method_158_code 6 = .ok (.invokestatic 1062, 3) := by decide +kernel
theorem own_pd__IIILjava_util_function_BiFunction__I : parseMethodDescriptor "(IIILjava/util/function/BiFunction;)I" = some ⟨[.int, .int, .int, (.object "java/util/function/BiFunction")], some .int⟩ := by decide +kernel
theorem ow13_9 : decode jdk_42_method_158_code 9 = .ok (.pop, 1) := by decide +kernel
theorem ow13_10 : decode jdk_42_method_158_code 10 = .ok (.return_, 1) := by decide +kernel
theorem ow14_0 : decode jdk_65_method_131_code 0 = .ok (.iload_n 1, 1) := by decide +kernel
theorem ow14_1 : decode jdk_65_method_131_code 1 = .ok (.iload_n 0, 1) := by decide +kernel
theorem ow14_2 : decode jdk_65_method_131_code 2 = .ok (.if_icmp .ge 35, 3) := by decide +kernel
theorem ow14_37 : decode jdk_65_method_131_code 37 = .ok (.return_, 1) := by decide +kernel
theorem own_pn_java_util_Arrays : plainName "java/util/Arrays" = true := by first | (simp [plainName, overriddenIn]; done) | decide +kernel
theorem ow15_0 : decode jdk_65_method_133_code 0 = .ok (.iload_n 1, 1) := by decide +kernel
theorem ow15_1 : decode jdk_65_method_133_code 1 = .ok (.iload_n 2, 1) := by decide +kernel
theorem ow15_2 : decode jdk_65_method_133_code 2 = .ok (.invokestatic 343, 3) := by decide +kernel
theorem own_pd__II_V : parseMethodDescriptor "(II)V" = some ⟨[.int, .int], none⟩ := by decide +kernel
theorem ow15_5 : decode jdk_65_method_133_code 5 = .ok (.iload_n 2, 1) := by decide +kernel
theorem ow15_6 : decode jdk_65_method_133_code 6 = .ok (.iload_n 1, 1) := by decide +kernel
theorem ow15_7 : decode jdk_65_method_133_code 7 = .ok (.isub, 1) := by decide +kernel
theorem ow15_8 : decode jdk_65_method_133_code 8 = .ok (.istore_n 3, 1) := by decide +kernel
theorem ow15_9 : decode jdk_65_method_133_code 9 = .ok (.iload_n 3, 1) := by decide +kernel
theorem ow15_10 : decode jdk_65_method_133_code 10 = .ok (.newarray .byte, 2) := by decide +kernel
theorem ow15_12 : decode jdk_65_method_133_code 12 = .ok (.astore 4, 2) := by decide +kernel
theorem ow15_14 : decode jdk_65_method_133_code 14 = .ok (.aload_n 0, 1) := by decide +kernel
theorem ow15_15 : decode jdk_65_method_133_code 15 = .ok (.iload_n 1, 1) := by decide +kernel
theorem ow15_16 : decode jdk_65_method_133_code 16 = .ok (.aload 4, 2) := by decide +kernel
theorem ow15_18 : decode jdk_65_method_133_code 18 = .ok (.iconst 0, 1) := by decide +kernel
theorem ow15_19 : decode jdk_65_method_133_code 19 = .ok (.aload_n 0, 1) := by decide +kernel
theorem ow15_20 : decode jdk_65_method_133_code 20 = .ok (.arraylength, 1) := by decide +kernel
theorem ow15_21 : decode jdk_65_method_133_code 21 = .ok (.iload_n 1, 1) := by decide +kernel
theorem ow15_22 : decode jdk_65_method_133_code 22 = .ok (.isub, 1) := by decide +kernel
theorem ow15_23 : decode jdk_65_method_133_code 23 = .ok (.iload_n 3, 1) := by decide +kernel
theorem ow15_24 : decode jdk_65_method_133_code 24 = .ok (.invokestatic 304, 3) := by decide +kernel
theorem ow15_27 : decode jdk_65_method_133_code 27 = .ok (.invokestatic 150, 3) := by decide +kernel
theorem ow15_30 : decode jdk_65_method_133_code 30 = .ok (.aload 4, 2) := by decide +kernel
theorem ow15_32 : decode jdk_65_method_133_code 32 = .ok (.areturn, 1) := by decide +kernel
theorem ow16_0 : decode jdk_65_method_132_code 0 = .ok (.iload_n 1, 1) := by decide +kernel
theorem ow16_1 : decode jdk_65_method_132_code 1 = .ok (.ifCond .ne 9, 3) := by decide +kernel
theorem ow16_10 : decode jdk_65_method_132_code 10 = .ok (.aload_n 0, 1) := by decide +kernel
theorem ow16_11 : decode jdk_65_method_132_code 11 = .ok (.iload_n 1, 1) := by decide +kernel
theorem ow16_12 : decode jdk_65_method_132_code 12 = .ok (.iload_n 2, 1) := by decide +kernel
theorem ow16_13 : decode jdk_65_method_132_code 13 = .ok (.invokestatic 339, 3) := by decide +kernel
theorem own_pd___BII__B : parseMethodDescriptor "([BII)[B" = some ⟨[(.array .byte), .int, .int], some (.array .byte)⟩ := by decide +kernel
theorem ow16_16 : decode jdk_65_method_132_code 16 = .ok (.areturn, 1) := by decide +kernel
theorem ow11_7 : decode jdk_43_method_47_code 7 = .ok (.new 1, 3) := by decide +kernel
theorem ow11_10 : decode jdk_43_method_47_code 10 = .ok (.dup, 1) := by decide +kernel
theorem ow11_11 : decode jdk_43_method_47_code 11 = .ok (.aload_n 0, 1) := by decide +kernel
theorem ow11_12 : decode jdk_43_method_47_code 12 = .ok (.iload_n 1, 1) := by decide +kernel
theorem ow11_13 : decode jdk_43_method_47_code 13 = .ok (.iload_n 1, 1) := by decide +kernel
theorem ow11_14 : decode jdk_43_method_47_code 14 = .ok (.iload_n 2, 1) := by decide +kernel
theorem ow11_15 : decode jdk_43_method_47_code 15 = .ok (.iadd, 1) := by decide +kernel
theorem ow11_16 : decode jdk_43_method_47_code 16 = .ok (.invokestatic 232, 3) := by decide +kernel
theorem ow11_19 : decode jdk_43_method_47_code 19 = .ok (.iconst 0, 1) := by decide +kernel
theorem ow11_20 : decode jdk_43_method_47_code 20 = .ok (.invokespecial 112, 3) := by decide +kernel
theorem own_pd___BB_V : parseMethodDescriptor "([BB)V" = some ⟨[(.array .byte), .byte], none⟩ := by decide +kernel
theorem ow11_23 : decode jdk_43_method_47_code 23 = .ok (.areturn, 1) := by decide +kernel
theorem ow17_0 : decode jdk_42_method_92_code 0 = .ok (.aload_n 0, 1) := by decide +kernel
theorem ow17_1 : decode jdk_42_method_92_code 1 = .ok (.invokevirtual 505, 3) := by decide +kernel
theorem ow17_4 : decode jdk_42_method_92_code 4 = .ok (.istore_n 3, 1) := by decide +kernel
theorem ow17_5 : decode jdk_42_method_92_code 5 = .ok (.iload_n 1, 1) := by decide +kernel
theorem ow17_6 : decode jdk_42_method_92_code 6 = .ok (.iload_n 2, 1) := by decide +kernel
theorem ow17_7 : decode jdk_42_method_92_code 7 = .ok (.iload_n 3, 1) := by decide +kernel
theorem ow17_8 : decode jdk_42_method_92_code 8 = .ok (.invokestatic 521, 3) := by decide +kernel
theorem own_pd__III_V : parseMethodDescriptor "(III)V" = some ⟨[.int, .int, .int], none⟩ := by decide +kernel
theorem ow17_11 : decode jdk_42_method_92_code 11 = .ok (.iload_n 1, 1) := by decide +kernel
theorem ow17_12 : decode jdk_42_method_92_code 12 = .ok (.ifCond .ne 10, 3) := by decide +kernel
theorem ow17_22 : decode jdk_42_method_92_code 22 = .ok (.iload_n 2, 1) := by decide +kernel
theorem ow17_23 : decode jdk_42_method_92_code 23 = .ok (.iload_n 1, 1) := by decide +kernel
theorem ow17_24 : decode jdk_42_method_92_code 24 = .ok (.isub, 1) := by decide +kernel
theorem ow17_25 : decode jdk_42_method_92_code 25 = .ok (.istore 4, 2) := by decide +kernel
theorem ow17_27 : decode jdk_42_method_92_code 27 = .ok (.aload_n 0, 1) := by decide +kernel
theorem ow17_28 : decode jdk_42_method_92_code 28 = .ok (.invokevirtual 492, 3) := by decide +kernel
theorem ow17_31 : decode jdk_42_method_92_code 31 = .ok (.ifCond .eq 16, 3) := by decide +kernel
theorem ow17_34 : decode jdk_42_method_92_code 34 = .ok (.aload_n 0, 1) := by decide +kernel
theorem ow17_35 : decode jdk_42_method_92_code 35 = .ok (.getfield 9, 3) := by decide +kernel
theorem ow17_38 : decode jdk_42_method_92_code 38 = .ok (.iload_n 1, 1) := by decide +kernel
theorem ow17_39 : decode jdk_42_method_92_code 39 = .ok (.iload 4, 2) := by decide +kernel
theorem ow17_41 : decode jdk_42_method_92_code 41 = .ok (.invokestatic 685, 3) := by decide +kernel
theorem own_pd___BII_Ljava_lang_String_ : parseMethodDescriptor "([BII)Ljava/lang/String;" = some ⟨[(.array .byte), .int, .int], some (.object "java/lang/String")⟩ := by decide +kernel
theorem ow17_44 : decode jdk_42_method_92_code 44 = .ok (.goto 13, 3) := by decide +kernel
theorem ow17_57 : decode jdk_42_method_92_code 57 = .ok (.areturn, 1) := by decide +kernel
theorem ow18_0 : decode jdk_42_method_91_code 0 = .ok (.aload_n 0, 1) := by decide +kernel
theorem ow18_1 : decode jdk_42_method_91_code 1 = .ok (.iload_n 1, 1) := by decide +kernel
theorem ow18_2 : decode jdk_42_method_91_code 2 = .ok (.aload_n 0, 1) := by decide +kernel
theorem ow18_3 : decode jdk_42_method_91_code 3 = .ok (.invokevirtual 505, 3) := by decide +kernel
theorem ow18_6 : decode jdk_42_method_91_code 6 = .ok (.invokevirtual 681, 3) := by decide +kernel
theorem own_pd__II_Ljava_lang_String_ : parseMethodDescriptor "(II)Ljava/lang/String;" = some ⟨[.int, .int], some (.object "java/lang/String")⟩ := by decide +kernel
theorem ow18_9 : decode jdk_42_method_91_code 9 = .ok (.areturn, 1) := by decide +kernel
theorem ow19_0 : decode prog_28_method_4_code 0 = .ok (.aload_n 0, 1) := by decide +kernel
theorem ow19_1 : decode prog_28_method_4_code 1 = .ok (.bipush 35, 2) := by decide +kernel
theorem ow19_3 : decode prog_28_method_4_code 3 = .ok (.invokevirtual 39, 3) := by decide +kernel
theorem own_pd__I_I : parseMethodDescriptor "(I)I" = some ⟨[.int], some .int⟩ := by decide +kernel
theorem ow19_6 : decode prog_28_method_4_code 6 = .ok (.istore_n 1, 1) := by decide +kernel
theorem ow19_7 : decode prog_28_method_4_code 7 = .ok (.iload_n 1, 1) := by decide +kernel
theorem ow19_8 : decode prog_28_method_4_code 8 = .ok (.ifCond .ge 7, 3) := by decide +kernel
theorem ow19_15 : decode prog_28_method_4_code 15 = .ok (.aload_n 0, 1) := by decide +kernel
theorem ow19_16 : decode prog_28_method_4_code 16 = .ok (.iload_n 1, 1) := by decide +kernel
theorem ow19_17 : decode prog_28_method_4_code 17 = .ok (.iconst 1, 1) := by decide +kernel
theorem ow19_18 : decode prog_28_method_4_code 18 = .ok (.iadd, 1) := by decide +kernel
theorem ow19_19 : decode prog_28_method_4_code 19 = .ok (.invokevirtual 47, 3) := by decide +kernel
theorem own_pd__I_Ljava_lang_String_ : parseMethodDescriptor "(I)Ljava/lang/String;" = some ⟨[.int], some (.object "java/lang/String")⟩ := by decide +kernel
theorem ow19_22 : decode prog_28_method_4_code 22 = .ok (.areturn, 1) := by decide +kernel
theorem own_pn_com_example_leafwright_leafwright_References : plainName "com/example/leafwright/leafwright/References" = true := by first | (simp [plainName, overriddenIn]; done) | decide +kernel
theorem ow19_11 : decode prog_28_method_4_code 11 = .ok (.aconst_null, 1) := by decide +kernel
theorem ow19_12 : decode prog_28_method_4_code 12 = .ok (.goto 10, 3) := by decide +kernel
theorem ow20_0 : decode jdk_41_method_11_code 0 = .ok (.iload_n 0, 1) := by decide +kernel
theorem ow20_1 : decode jdk_41_method_11_code 1 = .ok (.ifCond .lt 8, 3) := by decide +kernel
theorem ow20_4 : decode jdk_41_method_11_code 4 = .ok (.iload_n 0, 1) := by decide +kernel
theorem ow20_5 : decode jdk_41_method_11_code 5 = .ok (.iload_n 1, 1) := by decide +kernel
theorem ow20_6 : decode jdk_41_method_11_code 6 = .ok (.if_icmp .lt 10, 3) := by decide +kernel
theorem ow20_16 : decode jdk_41_method_11_code 16 = .ok (.iload_n 0, 1) := by decide +kernel
theorem ow20_17 : decode jdk_41_method_11_code 17 = .ok (.ireturn, 1) := by decide +kernel
theorem ow21_0 : decode jdk_42_method_155_code 0 = .ok (.iload_n 0, 1) := by decide +kernel
theorem ow21_1 : decode jdk_42_method_155_code 1 = .ok (.iload_n 1, 1) := by decide +kernel
theorem ow21_2 : decode jdk_42_method_155_code 2 = .ok (.getstatic 1053, 3) := by decide +kernel
theorem ow21_5 : decode jdk_42_method_155_code 5 = .ok (.invokestatic 1059, 3) := by decide +kernel
theorem own_pd__IILjava_util_function_BiFunction__I : parseMethodDescriptor "(IILjava/util/function/BiFunction;)I" = some ⟨[.int, .int, (.object "java/util/function/BiFunction")], some .int⟩ := by decide +kernel
theorem ow21_8 : decode jdk_42_method_155_code 8 = .ok (.pop, 1) := by decide +kernel
theorem ow21_9 : decode jdk_42_method_155_code 9 = .ok (.return_, 1) := by decide +kernel
theorem ow22_0 : decode jdk_43_method_2_code 0 = .ok (.iload_n 1, 1) := by decide +kernel
theorem ow22_1 : decode jdk_43_method_2_code 1 = .ok (.aload_n 0, 1) := by decide +kernel
theorem ow22_2 : decode jdk_43_method_2_code 2 = .ok (.arraylength, 1) := by decide +kernel
theorem ow22_3 : decode jdk_43_method_2_code 3 = .ok (.invokestatic 9, 3) := by decide +kernel
theorem ow22_6 : decode jdk_43_method_2_code 6 = .ok (.aload_n 0, 1) := by decide +kernel
theorem ow22_7 : decode jdk_43_method_2_code 7 = .ok (.iload_n 1, 1) := by decide +kernel
theorem ow22_8 : decode jdk_43_method_2_code 8 = .ok (.baload, 1) := by decide +kernel
theorem ow22_9 : decode jdk_43_method_2_code 9 = .ok (.sipush 255, 3) := by decide +kernel
theorem ow22_12 : decode jdk_43_method_2_code 12 = .ok (.iand, 1) := by decide +kernel
theorem ow22_13 : decode jdk_43_method_2_code 13 = .ok (.i2c, 1) := by decide +kernel
theorem ow22_14 : decode jdk_43_method_2_code 14 = .ok (.ireturn, 1) := by decide +kernel
theorem ow23_0 : decode jdk_42_method_56_code 0 = .ok (.aload_n 0, 1) := by decide +kernel
theorem ow23_1 : decode jdk_42_method_56_code 1 = .ok (.invokevirtual 492, 3) := by decide +kernel
theorem ow23_4 : decode jdk_42_method_56_code 4 = .ok (.ifCond .eq 12, 3) := by decide +kernel
theorem ow23_7 : decode jdk_42_method_56_code 7 = .ok (.aload_n 0, 1) := by decide +kernel
theorem ow23_8 : decode jdk_42_method_56_code 8 = .ok (.getfield 9, 3) := by decide +kernel
theorem ow23_11 : decode jdk_42_method_56_code 11 = .ok (.iload_n 1, 1) := by decide +kernel
theorem ow23_12 : decode jdk_42_method_56_code 12 = .ok (.invokestatic 495, 3) := by decide +kernel
theorem own_pd___BI_C : parseMethodDescriptor "([BI)C" = some ⟨[(.array .byte), .int], some .char⟩ := by decide +kernel
theorem ow23_15 : decode jdk_42_method_56_code 15 = .ok (.ireturn, 1) := by decide +kernel
theorem ow24_0 : decode method_2_code 0 = .ok (.iload_n 0, 1) := by decide +kernel
theorem ow24_1 : decode method_2_code 1 = .ok (.iconst 1, 1) := by decide +kernel
theorem ow24_2 : decode method_2_code 2 = .ok (.iand, 1) := by decide +kernel
theorem ow24_3 : decode method_2_code 3 = .ok (.ifCond .eq 8, 3) := by decide +kernel
theorem ow24_6 : decode method_2_code 6 = .ok (.bipush 35, 2) := by decide +kernel
theorem ow24_8 : decode method_2_code 8 = .ok (.goto 11, 3) := by decide +kernel
theorem ow24_19 : decode method_2_code 19 = .ok (.ireturn, 1) := by decide +kernel
theorem own_pn_com_example_leafwright_leafwright_ReferencesFragmentPinLaw : plainName "com/example/leafwright/leafwright/ReferencesFragmentPinLaw" = true := by first | (simp [plainName, overriddenIn]; done) | decide +kernel
theorem ow24_11 : decode method_2_code 11 = .ok (.iload_n 0, 1) := by decide +kernel
theorem ow24_12 : decode method_2_code 12 = .ok (.iconst 1, 1) := by decide +kernel
theorem ow24_13 : decode method_2_code 13 = .ok (.iushr, 1) := by decide +kernel
theorem ow24_14 : decode method_2_code 14 = .ok (.sipush 255, 3) := by decide +kernel
theorem ow24_17 : decode method_2_code 17 = .ok (.iand, 1) := by decide +kernel
theorem ow24_18 : decode method_2_code 18 = .ok (.i2c, 1) := by decide +kernel
theorem ow25_0 : decode jdk_42_method_149_code 0 = .ok (.aload_n 0, 1) := by decide +kernel
theorem ow25_1 : decode jdk_42_method_149_code 1 = .ok (.invokespecial 1, 3) := by decide +kernel
theorem ow25_4 : decode jdk_42_method_149_code 4 = .ok (.iload_n 3, 1) := by decide +kernel
theorem ow25_5 : decode jdk_42_method_149_code 5 = .ok (.ifCond .ne 22, 3) := by decide +kernel
theorem ow25_8 : decode jdk_42_method_149_code 8 = .ok (.aload_n 0, 1) := by decide +kernel
theorem ow25_9 : decode jdk_42_method_149_code 9 = .ok (.ldc 7, 2) := by decide +kernel
theorem ow25_11 : decode jdk_42_method_149_code 11 = .ok (.getfield 9, 3) := by decide +kernel
theorem ow25_14 : decode jdk_42_method_149_code 14 = .ok (.putfield 9, 3) := by decide +kernel
theorem ow25_17 : decode jdk_42_method_149_code 17 = .ok (.aload_n 0, 1) := by decide +kernel
theorem ow25_18 : decode jdk_42_method_149_code 18 = .ok (.ldc 7, 2) := by decide +kernel
theorem ow25_20 : decode jdk_42_method_149_code 20 = .ok (.getfield 15, 3) := by decide +kernel
theorem ow25_23 : decode jdk_42_method_149_code 23 = .ok (.putfield 15, 3) := by decide +kernel
theorem ow25_26 : decode jdk_42_method_149_code 26 = .ok (.return_, 1) := by decide +kernel
theorem ow26_0 : decode jdk_42_method_3_code 0 = .ok (.aload_n 0, 1) := by decide +kernel
theorem ow26_1 : decode jdk_42_method_3_code 1 = .ok (.aload_n 1, 1) := by decide +kernel
theorem ow26_2 : decode jdk_42_method_3_code 2 = .ok (.iconst 0, 1) := by decide +kernel
theorem ow26_3 : decode jdk_42_method_3_code 3 = .ok (.aload_n 1, 1) := by decide +kernel
theorem ow26_4 : decode jdk_42_method_3_code 4 = .ok (.arraylength, 1) := by decide +kernel
theorem ow26_5 : decode jdk_42_method_3_code 5 = .ok (.aconst_null, 1) := by decide +kernel
theorem ow26_6 : decode jdk_42_method_3_code 6 = .ok (.invokespecial 27, 3) := by decide +kernel
theorem own_pd___CIILjava_lang_Void__V : parseMethodDescriptor "([CIILjava/lang/Void;)V" = some ⟨[(.array .char), .int, .int, (.object "java/lang/Void")], none⟩ := by decide +kernel
theorem ow26_9 : decode jdk_42_method_3_code 9 = .ok (.return_, 1) := by decide +kernel
theorem ow27_0 : decode method_3_code 0 = .ok (.iload_n 0, 1) := by decide +kernel
theorem ow27_1 : decode method_3_code 1 = .ok (.ifCond .ne 14, 3) := by decide +kernel
theorem ow27_4 : decode method_3_code 4 = .ok (.new 7, 3) := by decide +kernel
theorem ow27_7 : decode method_3_code 7 = .ok (.dup, 1) := by decide +kernel
theorem ow27_8 : decode method_3_code 8 = .ok (.iconst 0, 1) := by decide +kernel
theorem ow27_9 : decode method_3_code 9 = .ok (.newarray .char, 2) := by decide +kernel
theorem ow27_11 : decode method_3_code 11 = .ok (.invokespecial 9, 3) := by decide +kernel
theorem own_pd___C_V : parseMethodDescriptor "([C)V" = some ⟨[(.array .char)], none⟩ := by decide +kernel
theorem ow27_14 : decode method_3_code 14 = .ok (.areturn, 1) := by decide +kernel
theorem ow27_15 : decode method_3_code 15 = .ok (.iload_n 0, 1) := by decide +kernel
theorem ow27_16 : decode method_3_code 16 = .ok (.iconst 1, 1) := by decide +kernel
theorem ow27_17 : decode method_3_code 17 = .ok (.if_icmp .ne 18, 3) := by decide +kernel
theorem ow27_20 : decode method_3_code 20 = .ok (.new 7, 3) := by decide +kernel
theorem ow27_23 : decode method_3_code 23 = .ok (.dup, 1) := by decide +kernel
theorem ow27_24 : decode method_3_code 24 = .ok (.iconst 1, 1) := by decide +kernel
theorem ow27_25 : decode method_3_code 25 = .ok (.newarray .char, 2) := by decide +kernel
theorem ow27_27 : decode method_3_code 27 = .ok (.dup, 1) := by decide +kernel
theorem ow27_28 : decode method_3_code 28 = .ok (.iconst 0, 1) := by decide +kernel
theorem ow27_29 : decode method_3_code 29 = .ok (.iload_n 1, 1) := by decide +kernel
theorem ow27_30 : decode method_3_code 30 = .ok (.castore, 1) := by decide +kernel
theorem ow27_31 : decode method_3_code 31 = .ok (.invokespecial 9, 3) := by decide +kernel
theorem ow27_34 : decode method_3_code 34 = .ok (.areturn, 1) := by decide +kernel
theorem ow27_35 : decode method_3_code 35 = .ok (.iload_n 0, 1) := by decide +kernel
theorem ow27_36 : decode method_3_code 36 = .ok (.iconst 2, 1) := by decide +kernel
theorem ow27_37 : decode method_3_code 37 = .ok (.if_icmp .ne 22, 3) := by decide +kernel
theorem ow27_40 : decode method_3_code 40 = .ok (.new 7, 3) := by decide +kernel
theorem ow27_43 : decode method_3_code 43 = .ok (.dup, 1) := by decide +kernel
theorem ow27_44 : decode method_3_code 44 = .ok (.iconst 2, 1) := by decide +kernel
theorem ow27_45 : decode method_3_code 45 = .ok (.newarray .char, 2) := by decide +kernel
theorem ow27_47 : decode method_3_code 47 = .ok (.dup, 1) := by decide +kernel
theorem ow27_48 : decode method_3_code 48 = .ok (.iconst 0, 1) := by decide +kernel
theorem ow27_49 : decode method_3_code 49 = .ok (.iload_n 1, 1) := by decide +kernel
theorem ow27_50 : decode method_3_code 50 = .ok (.castore, 1) := by decide +kernel
theorem ow27_51 : decode method_3_code 51 = .ok (.dup, 1) := by decide +kernel
theorem ow27_52 : decode method_3_code 52 = .ok (.iconst 1, 1) := by decide +kernel
theorem ow27_53 : decode method_3_code 53 = .ok (.iload_n 2, 1) := by decide +kernel
theorem ow27_54 : decode method_3_code 54 = .ok (.castore, 1) := by decide +kernel
theorem ow27_55 : decode method_3_code 55 = .ok (.invokespecial 9, 3) := by decide +kernel
theorem ow27_58 : decode method_3_code 58 = .ok (.areturn, 1) := by decide +kernel
theorem ow27_59 : decode method_3_code 59 = .ok (.iload_n 0, 1) := by decide +kernel
theorem ow27_60 : decode method_3_code 60 = .ok (.iconst 3, 1) := by decide +kernel
theorem ow27_61 : decode method_3_code 61 = .ok (.if_icmp .ne 26, 3) := by decide +kernel
theorem ow27_64 : decode method_3_code 64 = .ok (.new 7, 3) := by decide +kernel
theorem ow27_67 : decode method_3_code 67 = .ok (.dup, 1) := by decide +kernel
theorem ow27_68 : decode method_3_code 68 = .ok (.iconst 3, 1) := by decide +kernel
theorem ow27_69 : decode method_3_code 69 = .ok (.newarray .char, 2) := by decide +kernel
theorem ow27_71 : decode method_3_code 71 = .ok (.dup, 1) := by decide +kernel
theorem ow27_72 : decode method_3_code 72 = .ok (.iconst 0, 1) := by decide +kernel
theorem ow27_73 : decode method_3_code 73 = .ok (.iload_n 1, 1) := by decide +kernel
theorem ow27_74 : decode method_3_code 74 = .ok (.castore, 1) := by decide +kernel
theorem ow27_75 : decode method_3_code 75 = .ok (.dup, 1) := by decide +kernel
theorem ow27_76 : decode method_3_code 76 = .ok (.iconst 1, 1) := by decide +kernel
theorem ow27_77 : decode method_3_code 77 = .ok (.iload_n 2, 1) := by decide +kernel
theorem ow27_78 : decode method_3_code 78 = .ok (.castore, 1) := by decide +kernel
theorem ow27_79 : decode method_3_code 79 = .ok (.dup, 1) := by decide +kernel
theorem ow27_80 : decode method_3_code 80 = .ok (.iconst 2, 1) := by decide +kernel
theorem ow27_81 : decode method_3_code 81 = .ok (.iload_n 3, 1) := by decide +kernel
theorem ow27_82 : decode method_3_code 82 = .ok (.castore, 1) := by decide +kernel
theorem ow27_83 : decode method_3_code 83 = .ok (.invokespecial 9, 3) := by decide +kernel
theorem ow27_86 : decode method_3_code 86 = .ok (.areturn, 1) := by decide +kernel
theorem ow27_87 : decode method_3_code 87 = .ok (.new 7, 3) := by decide +kernel
theorem ow27_90 : decode method_3_code 90 = .ok (.dup, 1) := by decide +kernel
theorem ow27_91 : decode method_3_code 91 = .ok (.iconst 4, 1) := by decide +kernel
theorem ow27_92 : decode method_3_code 92 = .ok (.newarray .char, 2) := by decide +kernel
theorem ow27_94 : decode method_3_code 94 = .ok (.dup, 1) := by decide +kernel
theorem ow27_95 : decode method_3_code 95 = .ok (.iconst 0, 1) := by decide +kernel
theorem ow27_96 : decode method_3_code 96 = .ok (.iload_n 1, 1) := by decide +kernel
theorem ow27_97 : decode method_3_code 97 = .ok (.castore, 1) := by decide +kernel
theorem ow27_98 : decode method_3_code 98 = .ok (.dup, 1) := by decide +kernel
theorem ow27_99 : decode method_3_code 99 = .ok (.iconst 1, 1) := by decide +kernel
theorem ow27_100 : decode method_3_code 100 = .ok (.iload_n 2, 1) := by decide +kernel
theorem ow27_101 : decode method_3_code 101 = .ok (.castore, 1) := by decide +kernel
theorem ow27_102 : decode method_3_code 102 = .ok (.dup, 1) := by decide +kernel
theorem ow27_103 : decode method_3_code 103 = .ok (.iconst 2, 1) := by decide +kernel
theorem ow27_104 : decode method_3_code 104 = .ok (.iload_n 3, 1) := by decide +kernel
theorem ow27_105 : decode method_3_code 105 = .ok (.castore, 1) := by decide +kernel
theorem ow27_106 : decode method_3_code 106 = .ok (.dup, 1) := by decide +kernel
theorem ow27_107 : decode method_3_code 107 = .ok (.iconst 3, 1) := by decide +kernel
theorem ow27_108 : decode method_3_code 108 = .ok (.iload 4, 2) := by decide +kernel
theorem ow27_110 : decode method_3_code 110 = .ok (.castore, 1) := by decide +kernel
theorem ow27_111 : decode method_3_code 111 = .ok (.invokespecial 9, 3) := by decide +kernel
theorem ow27_114 : decode method_3_code 114 = .ok (.areturn, 1) := by decide +kernel
theorem own_pd__I_C : parseMethodDescriptor "(I)C" = some ⟨[.int], some .char⟩ := by decide +kernel
theorem own_pd__ICCCC_Ljava_lang_String_ : parseMethodDescriptor "(ICCCC)Ljava/lang/String;" = some ⟨[.int, .char, .char, .char, .char], some (.object "java/lang/String")⟩ := by decide +kernel
theorem own_pd__Ljava_lang_String__Ljava_lang_String_ : parseMethodDescriptor "(Ljava/lang/String;)Ljava/lang/String;" = some ⟨[(.object "java/lang/String")], some (.object "java/lang/String")⟩ := by decide +kernel
theorem own_wS {Z : State} {a0 : Array Value} (hw : ∀ d ∈ tables_1, d.before a0 Z = true) : ∀ a ∈ Bundle.stringAtoms, a.before a0 Z = true := fun d hd => by
  simp only [Bundle.stringAtoms, List.mem_cons, List.not_mem_nil, or_false] at hd
  rcases hd with rfl | rfl | rfl | rfl | rfl | rfl | rfl
  · exact (own_wi hw 11 rfl)
  · exact (own_wi hw 10 rfl)
  · exact (own_wi hw 23 rfl)
  · exact (own_wi hw 24 rfl)
  · exact (own_wi hw 25 rfl)
  · exact (own_wi hw 26 rfl)
  · exact (own_wi hw 27 rfl)
theorem own_words {Z : State} {a0 : Array Value} (hw : ∀ d ∈ tables_1, d.before a0 Z = true) : ∀ d ∈ StrChars.Road.words, d.before a0 Z = true := fun d hd => hw d ((by decide +kernel : ∀ d ∈ StrChars.Road.words, d ∈ tables_1) d hd)
theorem own_EW {Z : State} {a0 : Array Value} (hw : ∀ d ∈ tables_1, d.before a0 Z = true) : EW Z a0 consts_1 := EW.cons (own_wi hw 22 rfl) (by simp) (EW.cons (own_wi hw 108 rfl) (by simp) EW.nil)
theorem own_backC {p : Program} {l : Launch} {e : Env} {R : Room} {s : State} {args : Array Value} {below : List Frame} {Z : State} {a0 : Array Value} {EL : List (String × Nat)} {h : Heap} {vm0 : Vm} {y : MethodName} {bytes : ByteArray} {maxL : Nat} {ret : Option FieldType} {rm : Room} {len W : Nat} {as' : Array Value} {Q : Option Value → Heap → List Loc → Prop}
    (hM : MetFree l y (head1 [Jvm.Cond.code y bytes maxL ret] rm) (fun a U => a = as' ∧ Z.Warmed39 U.vm ∧ U.heap = h ∧ CHv Z EL U.vm h) (fun _ _ _ _ _ => True) (fun _ U o U' => ∃ v L, o = .returned v ∧ Q v U'.heap L ∧ ReturnedEndW U o U' L rm.cells rm.slots))
    (hZ : Z.Warmed39 vm0) (wc : (Jvm.Cond.code y bytes maxL ret).before a0 Z = true) (wz : (Jvm.Cond.initialized y.cls).before a0 Z = true) (hf : rm.frames + 1 ≤ R.frames) (hl : W + (maxL + 11) + rm.locals ≤ R.locals) (hEL : EW Z a0 EL) (H : CHv Z EL vm0 h) :
    BackS l R p e below (s.setVm vm0) args y len W (fun A a => a = as' ∧ A.U.heap = h ∧ A.cells + rm.cells ≤ R.cells ∧ A.slots + rm.slots ≤ R.slots)
      (fun A _ v B => ∃ L, Q v B.U.heap L ∧ B.locs = A.locs ++ L ∧ B.cells = A.cells + rm.cells ∧ B.slots = A.slots + rm.slots) :=
  BackS.of_freeW (bytes := bytes) (maxL := maxL) (ret := ret) (E := fun _ _ o t L k n => k = rm.cells ∧ n = rm.slots ∧ ∃ v, o = .returned v ∧ Q v t.heap L) hM hf hl
    (fun m meth c A a Y hp => have hU : Z.Warmed39 A.U.vm := wtrans (s := s.setVm vm0) hZ Y.warmed
      ⟨by show (Jvm.Cond.and _ .tt).before a A.U = true; rw [Cond.before_and, mv hU wc]; rfl, mv hU wc, mv hU wz, hp.2.2.1, hp.2.2.2⟩)
    (fun m meth c A a g mk Y hp => ⟨hp.1, wtrans (s := s.setVm vm0) hZ Y.warmed, hp.2.1, (CHv.at Y hZ hEL H).1⟩) (fun _ _ _ _ _ _ _ _ _ => trivial)
    (fun _ _ _ _ ⟨v, L, h1, h2, h3⟩ => ⟨L, _, _, h3, rfl, rfl, v, h1, h2⟩)
    (fun m meth c A a g mk v t L k n Y hp _ _ ⟨e1, e2, v', e3, e4⟩ => by cases e3; subst e1 e2; exact ⟨L, e4, rfl, rfl, rfl⟩)
theorem own_e255 {x : Int32} (h : ¬ x < 0 ∧ ¬ (255 : Int32) < x) : x &&& 255 = x := by
  have hm := c_mask x (255 : Int32) 8 (by decide) (by decide)
  obtain ⟨h1, h2⟩ := h
  rw [Int32.lt_iff_toInt_lt] at h1 h2
  simp at h1 h2
  exact Int32.toInt_inj.mp (by omega)
theorem own_narc {x : Int32} (h : ¬ x < 0 ∧ ¬ (255 : Int32) < x) : nar .char x = x := by
  show x.toUInt32.toUInt16.toUInt32.toInt32 = x
  rw [← own_e255 h]; exact i2c_mask x
theorem own_back {x : Int32} (h : ¬ x < 0 ∧ ¬ (255 : Int32) < x) : (((x.toInt8.toInt32) &&& (255 : Int32)).toUInt32.toUInt16.toUInt32.toInt32) = x := by
  rw [i2c_mask]
  have h1 := c_mask (x.toInt8.toInt32) (255 : Int32) 8 (by decide) (by decide)
  have h2 := c_i2b x
  obtain ⟨h3, h4⟩ := h
  rw [Int32.lt_iff_toInt_lt] at h3 h4
  simp at h3 h4
  exact Int32.toInt_inj.mp (by omega)
theorem own_n35 {x : Int32} (h : ¬ x < 0 ∧ ¬ (255 : Int32) < x) (q : ¬ x = (35 : Int32)) : ¬ (x.toInt8.toInt32) = (35 : Int32) := fun r => q (by
  have h2 := own_back h
  rw [r] at h2
  rw [← h2]; decide)
theorem own_y35 {x : Int32} (q : x = (35 : Int32)) : (x.toInt8.toInt32) = (35 : Int32) := by subst q; decide
theorem own_i2c (x : Int32) : ¬ ((x &&& (255 : Int32)).toUInt32.toUInt16.toUInt32.toInt32) < 0 ∧ ¬ (255 : Int32) < ((x &&& (255 : Int32)).toUInt32.toUInt16.toUInt32.toInt32) := by
  rw [i2c_mask]
  have := c_mask x (255 : Int32) 8 (by decide) (by decide)
  constructor <;> rw [Int32.lt_iff_toInt_lt] <;> simp <;> omega
theorem own_isR {args : Array Value} {s : State} {t : Term} (h : (Jvm.Cond.isRef t).value args s none s [] = some true) : ∃ v, t.eval args s none [] s = some v ∧ v.category = 1 := by
  simp only [Jvm.Cond.value] at h
  cases ht : t.eval args s none [] s with
  | none => simp [ht] at h
  | some v => refine ⟨v, rfl, ?_⟩; cases v <;> simp [ht, Value.isRef] at h ⊢ <;> rfl
def QI0 (Z : State) (b : Addr) (h0 : Heap) (n0 : Nat) (v : Option Value) (h : Heap) (L : List Loc) : Prop := ∃ t kt, v = none ∧ Fr n0 L ∧ Keep h0 h [b] ∧ Exa Z h b "java/lang/String" ∧ Fld Z h b "java/lang/String" "coder" "B" (.int (0 : Int32)) ∧ Fld Z h b "java/lang/String" "value" "[B" (.ref t) ∧ Arv Z h t kt .byte (0 : Int32) [] (.int (0 : Int32))
def QBB (Z : State) (b r : Addr) (h0 : Heap) (n0 : Nat) (v : Option Value) (h : Heap) (L : List Loc) : Prop := v = none ∧ Fr n0 L ∧ Keep h0 h [b] ∧ Exa Z h b "java/lang/String" ∧ Fld Z h b "java/lang/String" "coder" "B" (.int (0 : Int32)) ∧ Fld Z h b "java/lang/String" "value" "[B" (.ref r)
def QE (Z : State) (h0 : Heap) (n0 : Nat) (v : Option Value) (h : Heap) (L : List Loc) : Prop := ∃ o t kt, v = some (.ref o) ∧ Fr n0 L ∧ Keep h0 h [] ∧ Exa Z h o "java/lang/String" ∧ Fld Z h o "java/lang/String" "coder" "B" (.int (0 : Int32)) ∧ Fld Z h o "java/lang/String" "value" "[B" (.ref t) ∧ Arv Z h t kt .byte (0 : Int32) [] (.int (0 : Int32))
def QS (Z : State) (mm : Int32) (zs : List Value) (h0 : Heap) (n0 : Nat) (v : Option Value) (h : Heap) (L : List Loc) : Prop := ∃ o t kt, v = some (.ref o) ∧ h0.size ≤ o ∧ Fr n0 L ∧ Keep h0 h [] ∧ Exa Z h o "java/lang/String" ∧ Fld Z h o "java/lang/String" "coder" "B" (.int (0 : Int32)) ∧ Fld Z h o "java/lang/String" "value" "[B" (.ref t) ∧ Arv Z h t kt .byte mm zs (.int (0 : Int32))
def QA (Z : State) (mm : Int32) (zs : List Value) (h0 : Heap) (n0 : Nat) (v : Option Value) (h : Heap) (L : List Loc) : Prop := ∃ t kt, v = some (.ref t) ∧ h0.size ≤ t ∧ Fr n0 L ∧ Keep h0 h [] ∧ Arv Z h t kt .byte mm zs (.int (0 : Int32))
theorem own_sh0 (x : Int32) : (x >>> ((0 : Int32) &&& 31)) = x := by have := c_ishr x (0 : Int32) 0 (by decide); exact Int32.toInt_inj.mp (by omega)
theorem own_ef_own_cod (m : MethodId) {x0 : Addr} : entryFrame m #[(.ref x0)] 1 = mkF m 0 #[rv x0] [] := by first | (simp [entryFrame, mkF, argsToLocals, Value.category, maxLocals]; done) | rfl
set_option maxRecDepth 65536 in
set_option maxHeartbeats 40000000 in
theorem own_cod (l : Launch) (Z : State) (a0 : Array Value) (hw : ∀ d ∈ tables_1, d.before a0 Z = true) (ws : List Jvm.Cond) (h0 : Heap) (n0 : Nat) (Z0 : n0 ≤ h0.size) (so : Addr) (Eo : Exa Z h0 so "java/lang/String") (Fc : Fld Z h0 so "java/lang/String" "coder" "B" (.int (0 : Int32))) (zC : Int32) (S_CS : Sta Z h0 "java/lang/String" "COMPACT_STRINGS" "Z" (.int zC)) (P5 : ¬ (zC = (0 : Int32))) :
    MetFree l ym11 (head1 (Jvm.Cond.code ym11 jdk_42_method_152_code 1 (some .byte) :: ws) rm0) (fun a U => a = #[(.ref so)] ∧ Z.Warmed39 U.vm ∧ U.heap = h0) (fun _ _ _ _ _ => True) (fun _ U o U' => ∃ v L, o = .returned v ∧ QV (some (.int (0 : Int32))) h0 n0 v U'.heap L ∧ FrameEnd U o U' L rm0.cells rm0.slots) := by
  refine MetFree.of_bodySF (plainFor_of_name own_pn_java_lang_String) hisR ?_
  intro p e s m args below meth c s₁ Bd hml0 hP hK
  obtain ⟨rfl, hZ, hh⟩ := hP
  have hx := Bd.exec
  have hby := Bd.bytes
  have hml : c.maxLocals = 1 := hml0
  have hown : s.vm.findClass "java/lang/String" = some m.cls := (findClass_of_methodNamed Bd.named :)
  have hnm := (name_of_methodNamed Bd.named Bd.method).1
  have X0 : Stand p l e rm0 s m #[(.ref so)] below meth c s₁ [] 0 0 := Stand.of_body Bd
  have e0 : s₁.heap = h0 := by rw [← hh, Bd.state]; rfl
  have N0 := Fr.nil n0
  have pre0 : ∀ t, SP p e below s₁ (mkF m 0 #[rv so] []) t → SP p e below s₁ (entryFrame m #[(.ref so)] 1) t := fun t k => castTop (own_ef_own_cod m) k
  obtain ⟨T1, X1, e1, st1⟩ := getS2 X0 hx hZ hown (host := "") (Or.inl (own_wi hw 49 rfl)) Via.refl e0 S_CS (g := (mkF m 0 #[rv so] [])) rfl (hb hby ow0_0)
  have ch2 : ∀ t, SP p e below T1 (mkF m 3 #[rv so] [(.int zC)]) t → SP p e below s₁ (entryFrame m #[(.ref so)] 1) t := fun t k => pre0 t (by
      show SP p e below s₁ (mkF m 0 #[rv so] []) t
      exact st1 t k)
  obtain ⟨T3, X3, e3, st3⟩ := getF X1 hx hZ hown (host := "") (Or.inl (own_wi hw 29 rfl)) Via.refl e1 Fc (g := (mkF m 7 #[rv so] [(.ref so)])) rfl rfl (hb hby ow0_7)
  have ch4 : ∀ t, SP p e below T3 (mkF m 10 #[rv so] [(.int (0 : Int32))]) t → SP p e below s₁ (entryFrame m #[(.ref so)] 1) t := fun t k => ch2 t (by
      refine XS.ifNo X1.here hx rfl (hb hby ow0_3) rfl ((if0 _ _).trans (feq P5).1) ?_
      refine XS.aloadN X1.here hx rfl (hb hby ow0_6) rfl rfl ?_
      show SP p e below T1 (mkF m 7 #[rv so] [(.ref so)]) t
      exact st3 t k)
  have ch5 : ∀ t, SP p e below T3 (mkF m 14 #[rv so] [(.int (0 : Int32))]) t → SP p e below s₁ (entryFrame m #[(.ref so)] 1) t := fun t k => ch4 t (by
      show SP p e below T3 (mkF m 10 #[rv so] [(.int (0 : Int32))]) t
      refine XS.goto X3.here hx rfl (pc0 := 10) (pc' := 14) rfl (hb hby ow0_10) (by decide) (by decide) ?_
      exact k)
  obtain ⟨fs, hr, hrun, hended, hW, hsame⟩ := X3.leave (v := some (.int (nar .byte (0 : Int32)))) (fun h => by rw [Bd.returns] at h; cases h)
  refine ⟨_, _, ch5 _ ?_, hrun, hended, _, _, rfl, ?_, ⟨_, rfl⟩, hW, hsame.mono (by decide) (by decide)⟩
  · show Steps p.tables e below (T3.setTop (mkF m 14 #[rv so] [(.int (0 : Int32))])) _
    exact retN X3 hx (t := .byte) Bd.returns (by simp) (hb hby ow0_14) hr
  · show QV (some (.int (0 : Int32))) h0 n0 _ T3.heap _
    rw [e3]
    exact ⟨(by first | rfl | decide), N0, rfl⟩
theorem own_ef_own_isl (m : MethodId) {x0 : Addr} : entryFrame m #[(.ref x0)] 1 = mkF m 0 #[rv x0] [] := by first | (simp [entryFrame, mkF, argsToLocals, Value.category, maxLocals]; done) | rfl
set_option maxRecDepth 65536 in
set_option maxHeartbeats 40000000 in
theorem own_isl (l : Launch) (Z : State) (a0 : Array Value) (hw : ∀ d ∈ tables_1, d.before a0 Z = true) (ws : List Jvm.Cond) (h0 : Heap) (n0 : Nat) (Z0 : n0 ≤ h0.size) (so : Addr) (Eo : Exa Z h0 so "java/lang/String") (Fc : Fld Z h0 so "java/lang/String" "coder" "B" (.int (0 : Int32))) (zC : Int32) (S_CS : Sta Z h0 "java/lang/String" "COMPACT_STRINGS" "Z" (.int zC)) (P5 : ¬ (zC = (0 : Int32))) :
    MetFree l ym14 (head1 (Jvm.Cond.code ym14 jdk_42_method_154_code 1 (some .boolean) :: ws) rm0) (fun a U => a = #[(.ref so)] ∧ Z.Warmed39 U.vm ∧ U.heap = h0) (fun _ _ _ _ _ => True) (fun _ U o U' => ∃ v L, o = .returned v ∧ QV (some (.int (1 : Int32))) h0 n0 v U'.heap L ∧ FrameEnd U o U' L rm0.cells rm0.slots) := by
  refine MetFree.of_bodySF (plainFor_of_name own_pn_java_lang_String) hisR ?_
  intro p e s m args below meth c s₁ Bd hml0 hP hK
  obtain ⟨rfl, hZ, hh⟩ := hP
  have hx := Bd.exec
  have hby := Bd.bytes
  have hml : c.maxLocals = 1 := hml0
  have hown : s.vm.findClass "java/lang/String" = some m.cls := (findClass_of_methodNamed Bd.named :)
  have hnm := (name_of_methodNamed Bd.named Bd.method).1
  have X0 : Stand p l e rm0 s m #[(.ref so)] below meth c s₁ [] 0 0 := Stand.of_body Bd
  have e0 : s₁.heap = h0 := by rw [← hh, Bd.state]; rfl
  have N0 := Fr.nil n0
  have pre0 : ∀ t, SP p e below s₁ (mkF m 0 #[rv so] []) t → SP p e below s₁ (entryFrame m #[(.ref so)] 1) t := fun t k => castTop (own_ef_own_isl m) k
  obtain ⟨T1, X1, e1, st1⟩ := getS2 X0 hx hZ hown (host := "") (Or.inl (own_wi hw 49 rfl)) Via.refl e0 S_CS (g := (mkF m 0 #[rv so] [])) rfl (hb hby ow1_0)
  have ch2 : ∀ t, SP p e below T1 (mkF m 3 #[rv so] [(.int zC)]) t → SP p e below s₁ (entryFrame m #[(.ref so)] 1) t := fun t k => pre0 t (by
      show SP p e below s₁ (mkF m 0 #[rv so] []) t
      exact st1 t k)
  obtain ⟨T3, X3, e3, st3⟩ := getF X1 hx hZ hown (host := "") (Or.inl (own_wi hw 29 rfl)) Via.refl e1 Fc (g := (mkF m 7 #[rv so] [(.ref so)])) rfl rfl (hb hby ow1_7)
  have ch4 : ∀ t, SP p e below T3 (mkF m 10 #[rv so] [(.int (0 : Int32))]) t → SP p e below s₁ (entryFrame m #[(.ref so)] 1) t := fun t k => ch2 t (by
      refine XS.ifNo X1.here hx rfl (hb hby ow1_3) rfl ((if0 _ _).trans (feq P5).1) ?_
      refine XS.aloadN X1.here hx rfl (hb hby ow1_6) rfl rfl ?_
      show SP p e below T1 (mkF m 7 #[rv so] [(.ref so)]) t
      exact st3 t k)
  have ch5 : ∀ t, SP p e below T3 (mkF m 18 #[rv so] [(.int (1 : Int32))]) t → SP p e below s₁ (entryFrame m #[(.ref so)] 1) t := fun t k => ch4 t (by
      refine XS.ifNo X3.here hx rfl (hb hby ow1_10) rfl ((if0 _ _).trans (teq (by decide : (0 : Int32) = (0 : Int32))).2) ?_
      refine XS.iconst X3.here hx rfl (hb hby ow1_13) ?_
      refine XS.goto X3.here hx rfl (pc0 := 14) (pc' := 18) rfl (hb hby ow1_14) (by decide) (by decide) ?_
      exact k)
  obtain ⟨fs, hr, hrun, hended, hW, hsame⟩ := X3.leave (v := some (.int (1 : Int32))) (fun h => by rw [Bd.returns] at h; cases h)
  refine ⟨_, _, ch5 _ ?_, hrun, hended, _, _, rfl, ?_, ⟨_, rfl⟩, hW, hsame.mono (by decide) (by decide)⟩
  · show Steps p.tables e below (T3.setTop (mkF m 18 #[rv so] [(.int (1 : Int32))])) _
    exact retN X3 hx (t := .boolean) Bd.returns (by simp) (hb hby ow1_18) hr
  · show QV (some (.int (1 : Int32))) h0 n0 _ T3.heap _
    rw [e3]
    exact ⟨rfl, N0, rfl⟩
theorem own_ef_own_ln (m : MethodId) {x0 : Addr} : entryFrame m #[(.ref x0)] 1 = mkF m 0 #[rv x0] [] := by first | (simp [entryFrame, mkF, argsToLocals, Value.category, maxLocals]; done) | rfl
set_option maxRecDepth 65536 in
set_option maxHeartbeats 40000000 in
theorem own_ln (l : Launch) (Z : State) (a0 : Array Value) (hw : ∀ d ∈ tables_1, d.before a0 Z = true) (ws : List Jvm.Cond) (h0 : Heap) (n0 : Nat) (Z0 : n0 ≤ h0.size) (so ta : Addr) (kt : ClassId) (nn : Int32) (ys : List Value) (Eo : Exa Z h0 so "java/lang/String") (Fc : Fld Z h0 so "java/lang/String" "coder" "B" (.int (0 : Int32))) (Fv : Fld Z h0 so "java/lang/String" "value" "[B" (.ref ta)) (Vt : Arv Z h0 ta kt .byte nn ys (.int (0 : Int32))) (zC : Int32) (S_CS : Sta Z h0 "java/lang/String" "COMPACT_STRINGS" "Z" (.int zC)) (P5 : ¬ (zC = (0 : Int32))) :
    MetFree l ym15 (head1 (Jvm.Cond.code ym15 jdk_42_method_54_code 1 (some .int) :: ws) rm3) (fun a U => a = #[(.ref so)] ∧ Z.Warmed39 U.vm ∧ U.heap = h0) (fun _ _ _ _ _ => True) (fun _ U o U' => ∃ v L, o = .returned v ∧ QV (some (.int nn)) h0 n0 v U'.heap L ∧ FrameEnd U o U' L rm3.cells rm3.slots) := by
  refine MetFree.of_bodySF (plainFor_of_name own_pn_java_lang_String) hisR ?_
  intro p e s m args below meth c s₁ Bd hml0 hP hK
  obtain ⟨rfl, hZ, hh⟩ := hP
  have hx := Bd.exec
  have hby := Bd.bytes
  have hml : c.maxLocals = 1 := hml0
  have hown : s.vm.findClass "java/lang/String" = some m.cls := (findClass_of_methodNamed Bd.named :)
  have hnm := (name_of_methodNamed Bd.named Bd.method).1
  have X0 : Stand p l e rm3 s m #[(.ref so)] below meth c s₁ [] 0 0 := Stand.of_body Bd
  have e0 : s₁.heap = h0 := by rw [← hh, Bd.state]; rfl
  have N0 := Fr.nil n0
  have pre0 : ∀ t, SP p e below s₁ (mkF m 0 #[rv so] []) t → SP p e below s₁ (entryFrame m #[(.ref so)] 1) t := fun t k => castTop (own_ef_own_ln m) k
  obtain ⟨T1, X1, e1, st1⟩ := getF X0 hx hZ hown (host := "") (Or.inl (own_wi hw 28 rfl)) Via.refl e0 Fv (g := (mkF m 1 #[rv so] [(.ref so)])) rfl rfl (hb hby ow2_1)
  have ch2 : ∀ t, SP p e below T1 (mkF m 4 #[rv so] [(.ref ta)]) t → SP p e below s₁ (entryFrame m #[(.ref so)] 1) t := fun t k => pre0 t (by
      show SP p e below s₁ (mkF m 0 #[rv so] []) t
      refine XS.aloadN X0.here hx rfl (hb hby ow2_0) rfl rfl ?_
      show SP p e below s₁ (mkF m 1 #[rv so] [(.ref so)]) t
      exact st1 t k)
  obtain ⟨cl3, Ar3, -, Sz3, Ng3, -, -⟩ := id Vt
  obtain ⟨cq4, kq4, qa4, qb4, qc4⟩ := isOf hZ e1 Eo
  obtain ⟨vv5, _, ⟨T5, L5, kk5, nn5⟩, -, X5, ⟨Lc5, hQ5, l5, y5, z5⟩, st5⟩ := X1.virtualBack hx (y := ym11) (z := ym11) hown (mvT hZ (own_wi hw 55 rfl)) (mvT hZ (own_wi hw 56 rfl)) (notFace_of_selects (args := #[]) (mvT hZ (own_wi hw 58 rfl))) (mvT hZ (own_wi hw 58 rfl)) (mvT hZ (own_wi hw 57 rfl)) (by decide) (backOf (W := 1) (own_cod l Z a0 hw [] h0 n0 (Nat.le_trans Z0 (Keep.refl h0 []).1) so Eo Fc zC S_CS P5) hZ (own_wi hw 59 rfl) (own_wi hw 11 rfl) (by decide) (by decide)) qa4 qc4 (g := (mkF m 6 #[rv so] [(.ref so), (.int nn)])) rfl (by rw [hml]; rfl) (Steps.refl _) (argsL := []) (rest := [(.int nn)]) (lenOf own_pd___B rfl) rfl (by show 2 * 0 + _ ≤ _; exact Nat.le_of_eq rfl) (hb hby ow2_6) (fun _ _ => ⟨rfl, e1, (by decide : 0 + 0 ≤ _), (by decide : 0 + 0 ≤ _)⟩)
  dsimp only [Pt.U, Pt.locs, Pt.cells, Pt.slots] at X5 l5 y5 z5 st5 hQ5
  subst l5 y5 z5
  obtain ⟨rfl, Nq5, e5⟩ := hQ5
  have N5 := Fr.app N0 Nq5
  have ch6 : ∀ t, SP p e below T5 (mkF m 9 #[rv so] [(.int (0 : Int32)), (.int nn)]) t → SP p e below s₁ (entryFrame m #[(.ref so)] 1) t := fun t k => ch2 t (by
      show SP p e below T1 (mkF m 4 #[rv so] [(.ref ta)]) t
      refine X1.arraylength hx (by rw [e1]; exact Ar3.1) (State.isArrayOf_alike hZ.alike Ar3.2.1) (g := (mkF m 4 #[rv so] [(.ref ta)])) rfl rfl (hb hby ow2_4) _ ?_
      rw [len_of Sz3 Ng3]
      refine XS.aloadN X1.here hx rfl (hb hby ow2_5) rfl rfl ?_
      show SP p e below T1 (mkF m 6 #[rv so] [(.ref so), (.int nn)]) t
      exact st5.trans k)
  have ch7 : ∀ t, SP p e below T5 (mkF m 10 #[rv so] [(.int nn)]) t → SP p e below s₁ (entryFrame m #[(.ref so)] 1) t := fun t k => ch6 t (by
      show SP p e below T5 (mkF m 9 #[rv so] [(.int (0 : Int32)), (.int nn)]) t
      refine XS.ishr X5.here hx rfl (hb hby ow2_9) rfl ?_
      rw [own_sh0 nn]
      exact k)
  obtain ⟨fs, hr, hrun, hended, hW, hsame⟩ := X5.leave (v := some (.int nn)) (fun h => by rw [Bd.returns] at h; cases h)
  refine ⟨_, _, ch7 _ ?_, hrun, hended, _, _, rfl, ?_, ⟨_, rfl⟩, hW, hsame.mono (by decide) (by decide)⟩
  · show Steps p.tables e below (T5.setTop (mkF m 10 #[rv so] [(.int nn)])) _
    exact retI X5 hx Bd.returns (hb hby ow2_10) hr
  · show QV (some (.int nn)) h0 n0 _ T5.heap _
    rw [e5]
    exact ⟨rfl, N5, rfl⟩
theorem own_ef_own_can (m : MethodId) {x0 : Int32} : entryFrame m #[(.int x0)] 1 = mkF m 0 #[iv x0] [] := by first | (simp [entryFrame, mkF, argsToLocals, Value.category, maxLocals]; done) | rfl
set_option maxRecDepth 65536 in
set_option maxHeartbeats 40000000 in
theorem own_can (l : Launch) (Z : State) (a0 : Array Value) (hw : ∀ d ∈ tables_1, d.before a0 Z = true) (ws : List Jvm.Cond) (h0 : Heap) (n0 : Nat) (Z0 : n0 ≤ h0.size)  :
    MetFree l ym18 (head1 (Jvm.Cond.code ym18 jdk_43_method_4_code 1 (some .boolean) :: ws) rm0) (fun a U => a = #[(.int (35 : Int32))] ∧ Z.Warmed39 U.vm ∧ U.heap = h0) (fun _ _ _ _ _ => True) (fun _ U o U' => ∃ v L, o = .returned v ∧ QV (some (.int (1 : Int32))) h0 n0 v U'.heap L ∧ FrameEnd U o U' L rm0.cells rm0.slots) := by
  refine MetFree.of_bodySF (plainFor_of_name own_pn_java_lang_StringLatin1) hisR ?_
  intro p e s m args below meth c s₁ Bd hml0 hP hK
  obtain ⟨rfl, hZ, hh⟩ := hP
  have hx := Bd.exec
  have hby := Bd.bytes
  have hml : c.maxLocals = 1 := hml0
  have hown : s.vm.findClass "java/lang/StringLatin1" = some m.cls := (findClass_of_methodNamed Bd.named :)
  have hnm := (name_of_methodNamed Bd.named Bd.method).1
  have X0 : Stand p l e rm0 s m #[(.int (35 : Int32))] below meth c s₁ [] 0 0 := Stand.of_body Bd
  have e0 : s₁.heap = h0 := by rw [← hh, Bd.state]; rfl
  have N0 := Fr.nil n0
  have pre0 : ∀ t, SP p e below s₁ (mkF m 0 #[iv 35] []) t → SP p e below s₁ (entryFrame m #[(.int (35 : Int32))] 1) t := fun t k => castTop (own_ef_own_can m) k
  have ch1 : ∀ t, SP p e below s₁ (mkF m 16 #[iv 35] [(.int (1 : Int32))]) t → SP p e below s₁ (entryFrame m #[(.int (35 : Int32))] 1) t := fun t k => pre0 t (by
      show SP p e below s₁ (mkF m 0 #[iv 35] []) t
      refine XS.iloadN X0.here hx rfl (hb hby ow3_0) rfl ?_
      refine XS.ifNo X0.here hx rfl (hb hby ow3_1) rfl ((if0 _ _).trans (flt (by decide : ¬ (35 : Int32) < (0 : Int32))).1) ?_
      refine XS.iloadN X0.here hx rfl (hb hby ow3_4) rfl ?_
      refine XS.sipush X0.here hx rfl (hb hby ow3_5) ?_
      refine XS.icmpNo X0.here hx rfl (hb hby ow3_8) rfl (flt (by decide : ¬ (255 : Int32) < (35 : Int32))).2.2.1 ?_
      refine XS.iconst X0.here hx rfl (hb hby ow3_11) ?_
      refine XS.goto X0.here hx rfl (pc0 := 12) (pc' := 16) rfl (hb hby ow3_12) (by decide) (by decide) ?_
      exact k)
  obtain ⟨fs, hr, hrun, hended, hW, hsame⟩ := X0.leave (v := some (.int (1 : Int32))) (fun h => by rw [Bd.returns] at h; cases h)
  refine ⟨_, _, ch1 _ ?_, hrun, hended, _, _, rfl, ?_, ⟨_, rfl⟩, hW, hsame.mono (by decide) (by decide)⟩
  · show Steps p.tables e below (s₁.setTop (mkF m 16 #[iv 35] [(.int (1 : Int32))])) _
    exact retN X0 hx (t := .boolean) Bd.returns (by simp) (hb hby ow3_16) hr
  · show QV (some (.int (1 : Int32))) h0 n0 _ s₁.heap _
    rw [e0]
    exact ⟨rfl, N0, rfl⟩
theorem own_ef_own_max (m : MethodId) {x0 : Int32} {x1 : Int32} : entryFrame m #[(.int x0), (.int x1)] 2 = mkF m 0 #[iv x0, iv x1] [] := by first | (simp [entryFrame, mkF, argsToLocals, Value.category, maxLocals]; done) | rfl
set_option maxRecDepth 65536 in
set_option maxHeartbeats 40000000 in
theorem own_max (l : Launch) (Z : State) (a0 : Array Value) (hw : ∀ d ∈ tables_1, d.before a0 Z = true) (ws : List Jvm.Cond) (h0 : Heap) (n0 : Nat) (Z0 : n0 ≤ h0.size)  :
    MetFree l ym3 (head1 (Jvm.Cond.code ym3 jdk_29_method_65_code 2 (some .int) :: ws) rm0) (fun a U => a = #[(.int (0 : Int32)), (.int (0 : Int32))] ∧ Z.Warmed39 U.vm ∧ U.heap = h0) (fun _ _ _ _ _ => True) (fun _ U o U' => ∃ v L, o = .returned v ∧ QV (some (.int (0 : Int32))) h0 n0 v U'.heap L ∧ FrameEnd U o U' L rm0.cells rm0.slots) := by
  refine MetFree.of_bodySF own_pf_java_lang_Math_max__II_I hisR ?_
  intro p e s m args below meth c s₁ Bd hml0 hP hK
  obtain ⟨rfl, hZ, hh⟩ := hP
  have hx := Bd.exec
  have hby := Bd.bytes
  have hml : c.maxLocals = 2 := hml0
  have hown : s.vm.findClass "java/lang/Math" = some m.cls := (findClass_of_methodNamed Bd.named :)
  have hnm := (name_of_methodNamed Bd.named Bd.method).1
  have X0 : Stand p l e rm0 s m #[(.int (0 : Int32)), (.int (0 : Int32))] below meth c s₁ [] 0 0 := Stand.of_body Bd
  have e0 : s₁.heap = h0 := by rw [← hh, Bd.state]; rfl
  have N0 := Fr.nil n0
  have pre0 : ∀ t, SP p e below s₁ (mkF m 0 #[iv 0, iv 0] []) t → SP p e below s₁ (entryFrame m #[(.int (0 : Int32)), (.int (0 : Int32))] 2) t := fun t k => castTop (own_ef_own_max m) k
  have ch1 : ∀ t, SP p e below s₁ (mkF m 10 #[iv 0, iv 0] [(.int (0 : Int32))]) t → SP p e below s₁ (entryFrame m #[(.int (0 : Int32)), (.int (0 : Int32))] 2) t := fun t k => pre0 t (by
      show SP p e below s₁ (mkF m 0 #[iv 0, iv 0] []) t
      refine XS.iloadN X0.here hx rfl (hb hby ow4_0) rfl ?_
      refine XS.iloadN X0.here hx rfl (hb hby ow4_1) rfl ?_
      refine XS.icmpNo X0.here hx rfl (hb hby ow4_2) rfl (flt (by decide : ¬ (0 : Int32) < (0 : Int32))).1 ?_
      refine XS.iloadN X0.here hx rfl (hb hby ow4_5) rfl ?_
      refine XS.goto X0.here hx rfl (pc0 := 6) (pc' := 10) rfl (hb hby ow4_6) (by decide) (by decide) ?_
      exact k)
  obtain ⟨fs, hr, hrun, hended, hW, hsame⟩ := X0.leave (v := some (.int (0 : Int32))) (fun h => by rw [Bd.returns] at h; cases h)
  refine ⟨_, _, ch1 _ ?_, hrun, hended, _, _, rfl, ?_, ⟨_, rfl⟩, hW, hsame.mono (by decide) (by decide)⟩
  · show Steps p.tables e below (s₁.setTop (mkF m 10 #[iv 0, iv 0] [(.int (0 : Int32))])) _
    exact retI X0 hx Bd.returns (hb hby ow4_10) hr
  · show QV (some (.int (0 : Int32))) h0 n0 _ s₁.heap _
    rw [e0]
    exact ⟨rfl, N0, rfl⟩
theorem own_ef_own_min (m : MethodId) {x0 : Int32} {x1 : Int32} : entryFrame m #[(.int x0), (.int x1)] 2 = mkF m 0 #[iv x0, iv x1] [] := by first | (simp [entryFrame, mkF, argsToLocals, Value.category, maxLocals]; done) | rfl
set_option maxRecDepth 65536 in
set_option maxHeartbeats 40000000 in
theorem own_min (l : Launch) (Z : State) (a0 : Array Value) (hw : ∀ d ∈ tables_1, d.before a0 Z = true) (ws : List Jvm.Cond) (h0 : Heap) (n0 : Nat) (Z0 : n0 ≤ h0.size) (x1 : Int32) :
    MetFree l ym4 (head1 (Jvm.Cond.code ym4 jdk_29_method_69_code 2 (some .int) :: ws) rm0) (fun a U => a = #[(.int x1), (.int x1)] ∧ Z.Warmed39 U.vm ∧ U.heap = h0) (fun _ _ _ _ _ => True) (fun _ U o U' => ∃ v L, o = .returned v ∧ QV (some (.int x1)) h0 n0 v U'.heap L ∧ FrameEnd U o U' L rm0.cells rm0.slots) := by
  refine MetFree.of_bodySF own_pf_java_lang_Math_min__II_I hisR ?_
  intro p e s m args below meth c s₁ Bd hml0 hP hK
  obtain ⟨rfl, hZ, hh⟩ := hP
  have hx := Bd.exec
  have hby := Bd.bytes
  have hml : c.maxLocals = 2 := hml0
  have hown : s.vm.findClass "java/lang/Math" = some m.cls := (findClass_of_methodNamed Bd.named :)
  have hnm := (name_of_methodNamed Bd.named Bd.method).1
  have X0 : Stand p l e rm0 s m #[(.int x1), (.int x1)] below meth c s₁ [] 0 0 := Stand.of_body Bd
  have e0 : s₁.heap = h0 := by rw [← hh, Bd.state]; rfl
  have N0 := Fr.nil n0
  have pre0 : ∀ t, SP p e below s₁ (mkF m 0 #[iv x1, iv x1] []) t → SP p e below s₁ (entryFrame m #[(.int x1), (.int x1)] 2) t := fun t k => castTop (own_ef_own_min m) k
  have ch1 : ∀ t, SP p e below s₁ (mkF m 10 #[iv x1, iv x1] [(.int x1)]) t → SP p e below s₁ (entryFrame m #[(.int x1), (.int x1)] 2) t := fun t k => pre0 t (by
      show SP p e below s₁ (mkF m 0 #[iv x1, iv x1] []) t
      refine XS.iloadN X0.here hx rfl (hb hby ow5_0) rfl ?_
      refine XS.iloadN X0.here hx rfl (hb hby ow5_1) rfl ?_
      refine XS.icmpNo X0.here hx rfl (hb hby ow5_2) rfl (flt (Int32.lt_irrefl : ¬ x1 < x1)).2.2.1 ?_
      refine XS.iloadN X0.here hx rfl (hb hby ow5_5) rfl ?_
      refine XS.goto X0.here hx rfl (pc0 := 6) (pc' := 10) rfl (hb hby ow5_6) (by decide) (by decide) ?_
      exact k)
  obtain ⟨fs, hr, hrun, hended, hW, hsame⟩ := X0.leave (v := some (.int x1)) (fun h => by rw [Bd.returns] at h; cases h)
  refine ⟨_, _, ch1 _ ?_, hrun, hended, _, _, rfl, ?_, ⟨_, rfl⟩, hW, hsame.mono (by decide) (by decide)⟩
  · show Steps p.tables e below (s₁.setTop (mkF m 10 #[iv x1, iv x1] [(.int x1)])) _
    exact retI X0 hx Bd.returns (hb hby ow5_10) hr
  · show QV (some (.int x1)) h0 n0 _ s₁.heap _
    rw [e0]
    exact ⟨rfl, N0, rfl⟩
theorem own_ef_own_ioc_1 (m : MethodId) {x0 : Addr} {x1 : Int32} {x2 : Int32} {x3 : Int32} : entryFrame m #[(.ref x0), (.int x1), (.int x2), (.int x3)] 6 = mkF m 0 #[rv x0, iv x1, iv x2, iv x3, .unset, .unset] [] := by first | (simp [entryFrame, mkF, argsToLocals, Value.category, maxLocals]; done) | rfl
set_option maxRecDepth 65536 in
set_option maxHeartbeats 40000000 in
theorem own_ioc_1 (l : Launch) (Z : State) (a0 : Array Value) (hw : ∀ d ∈ tables_1, d.before a0 Z = true) (ws : List Jvm.Cond) (h0 : Heap) (n0 : Nat) (Z0 : n0 ≤ h0.size) (ta : Addr) (kt : ClassId) (bz0 : Int32) (Vt : Arv Z h0 ta kt .byte (1 : Int32) [(.int bz0)] (.int (0 : Int32))) (rr : Int32) (hrr : rr = if bz0 = (35 : Int32) then (0 : Int32) else (-1 : Int32)) :
    MetFree l ym21 (head1 (Jvm.Cond.code ym21 jdk_43_method_23_code 6 (some .int) :: ws) rm0) (fun a U => a = #[(.ref ta), (.int (35 : Int32)), (.int (0 : Int32)), (.int (1 : Int32))] ∧ Z.Warmed39 U.vm ∧ U.heap = h0) (fun _ _ _ _ _ => True) (fun _ U o U' => ∃ v L, o = .returned v ∧ QV (some (.int rr)) h0 n0 v U'.heap L ∧ FrameEnd U o U' L rm0.cells rm0.slots) := by
  refine MetFree.of_bodySF (plainFor_of_name own_pn_java_lang_StringLatin1) hisR ?_
  intro p e s m args below meth c s₁ Bd hml0 hP hK
  obtain ⟨rfl, hZ, hh⟩ := hP
  have hx := Bd.exec
  have hby := Bd.bytes
  have hml : c.maxLocals = 6 := hml0
  have hown : s.vm.findClass "java/lang/StringLatin1" = some m.cls := (findClass_of_methodNamed Bd.named :)
  have hnm := (name_of_methodNamed Bd.named Bd.method).1
  have X0 : Stand p l e rm0 s m #[(.ref ta), (.int (35 : Int32)), (.int (0 : Int32)), (.int (1 : Int32))] below meth c s₁ [] 0 0 := Stand.of_body Bd
  have e0 : s₁.heap = h0 := by rw [← hh, Bd.state]; rfl
  have N0 := Fr.nil n0
  have pre0 : ∀ t, SP p e below s₁ (mkF m 0 #[rv ta, iv 35, iv 0, iv 1, .unset, .unset] []) t → SP p e below s₁ (entryFrame m #[(.ref ta), (.int (35 : Int32)), (.int (0 : Int32)), (.int (1 : Int32))] 6) t := fun t k => castTop (own_ef_own_ioc_1 m) k
  obtain ⟨cl1, Ar1, -, Sz1, Ng1, Ha1, -⟩ := id Vt
  have hin1 : ¬ ((0 : Int32) < 0 ∨ cl1.slots.size ≤ ((0 : Int32)).toNatClampNeg) := inb_of Sz1 (by decide)
  have hat1 : cl1.slots[((0 : Int32)).toNatClampNeg]? = some (.int bz0) := Ha1.at hin1 rfl
  have ch3 : ∀ t, SP p e below s₁ (mkF m 19 #[rv ta, iv 35, iv 0, iv 1, iv 35, iv 0] [(.int (35 : Int32)), (.int bz0)]) t → SP p e below s₁ (entryFrame m #[(.ref ta), (.int (35 : Int32)), (.int (0 : Int32)), (.int (1 : Int32))] 6) t := fun t k => pre0 t (by
      show SP p e below s₁ (mkF m 0 #[rv ta, iv 35, iv 0, iv 1, .unset, .unset] []) t
      refine XS.iloadN X0.here hx rfl (hb hby ow6_0) rfl ?_
      show SP p e below s₁ (mkF m 1 #[rv ta, iv 35, iv 0, iv 1, .unset, .unset] [(.int (35 : Int32))]) t
      refine XS.i2b X0.here hx rfl (hb hby ow6_1) rfl ?_
      rw [show ((35 : Int32).toInt8.toInt32) = (35 : Int32) from by decide]
      refine XS.istore X0.here hx rfl (hb hby ow6_2) rfl (l' := #[rv ta, iv 35, iv 0, iv 1, iv 35, .unset]) rfl ?_
      refine XS.iloadN X0.here hx rfl (hb hby ow6_4) rfl ?_
      refine XS.istore X0.here hx rfl (hb hby ow6_5) rfl (l' := #[rv ta, iv 35, iv 0, iv 1, iv 35, iv 0]) rfl ?_
      refine XS.iload X0.here hx rfl (hb hby ow6_7) rfl ?_
      refine XS.iloadN X0.here hx rfl (hb hby ow6_9) rfl ?_
      refine XS.icmpNo X0.here hx rfl (hb hby ow6_10) rfl (tlt (by decide : (0 : Int32) < (1 : Int32))).2.1 ?_
      refine XS.aloadN X0.here hx rfl (hb hby ow6_13) rfl rfl ?_
      refine XS.iload X0.here hx rfl (hb hby ow6_14) rfl ?_
      refine X0.baloadBytes hx (j := (0 : Int32)) (v := (.int bz0)) (by rw [e0]; exact Ar1.1) (State.isArrayOf_alike hZ.alike Ar1.2.1) Ar1.2.2 hin1 hat1 (g := (mkF m 16 #[rv ta, iv 35, iv 0, iv 1, iv 35, iv 0] [(.int (0 : Int32)), (.ref ta)])) rfl rfl (hb hby ow6_16) _ ?_
      refine XS.iload X0.here hx rfl (hb hby ow6_17) rfl ?_
      exact k)
  by_cases hq2 : bz0 = (35 : Int32)
  · skip
    have ch4 : ∀ t, SP p e below s₁ (mkF m 24 #[rv ta, iv 35, iv 0, iv 1, iv 35, iv 0] [(.int (0 : Int32))]) t → SP p e below s₁ (entryFrame m #[(.ref ta), (.int (35 : Int32)), (.int (0 : Int32)), (.int (1 : Int32))] 6) t := fun t k => ch3 t (by
        refine XS.icmpNo X0.here hx rfl (hb hby ow6_19) rfl (teq hq2).2 ?_
        show SP p e below s₁ (mkF m 22 #[rv ta, iv 35, iv 0, iv 1, iv 35, iv 0] []) t
        refine XS.iload X0.here hx rfl (hb hby ow6_22) rfl ?_
        exact k)
    obtain ⟨fs, hr, hrun, hended, hW, hsame⟩ := X0.leave (v := some (.int (0 : Int32))) (fun h => by rw [Bd.returns] at h; cases h)
    refine ⟨_, _, ch4 _ ?_, hrun, hended, _, _, rfl, ?_, ⟨_, rfl⟩, hW, hsame.mono (by decide) (by decide)⟩
    · show Steps p.tables e below (s₁.setTop (mkF m 24 #[rv ta, iv 35, iv 0, iv 1, iv 35, iv 0] [(.int (0 : Int32))])) _
      exact retI X0 hx Bd.returns (hb hby ow6_24) hr
    · show QV (some (.int rr)) h0 n0 _ s₁.heap _
      rw [e0]
      exact ⟨by rw [hrr, if_pos hq2], N0, rfl⟩
  · skip
    have ch5 : ∀ t, SP p e below s₁ (mkF m 32 #[rv ta, iv 35, iv 0, iv 1, iv 35, iv 1] [(.int (-1 : Int32))]) t → SP p e below s₁ (entryFrame m #[(.ref ta), (.int (35 : Int32)), (.int (0 : Int32)), (.int (1 : Int32))] 6) t := fun t k => ch3 t (by
        refine XS.icmpYes X0.here hx rfl (pc0 := 19) (pc' := 25) rfl (hb hby ow6_19) rfl (feq hq2).2 (by decide) (by decide) ?_
        show SP p e below s₁ (mkF m 25 #[rv ta, iv 35, iv 0, iv 1, iv 35, iv 0] []) t
        refine Jvm.Free.XT.iincV X0.here hx rfl (1 : Int32) (hb hby ow6_25) (by decide) rfl (l' := #[rv ta, iv 35, iv 0, iv 1, iv 35, iv 1]) (by rw [show ((0 : Int32) + (1 : Int32)) = (1 : Int32) from by decide]; rfl) ?_
        refine XS.goto X0.here hx rfl (pc0 := 28) (pc' := 7) rfl (hb hby ow6_28) (by decide) (by decide) ?_
        refine XS.iload X0.here hx rfl (hb hby ow6_7) rfl ?_
        refine XS.iloadN X0.here hx rfl (hb hby ow6_9) rfl ?_
        refine XS.icmpYes X0.here hx rfl (pc0 := 10) (pc' := 31) rfl (hb hby ow6_10) rfl (flt (by decide : ¬ (1 : Int32) < (1 : Int32))).2.1 (by decide) (by decide) ?_
        refine XS.iconst X0.here hx rfl (hb hby ow6_31) ?_
        exact k)
    obtain ⟨fs, hr, hrun, hended, hW, hsame⟩ := X0.leave (v := some (.int (-1 : Int32))) (fun h => by rw [Bd.returns] at h; cases h)
    refine ⟨_, _, ch5 _ ?_, hrun, hended, _, _, rfl, ?_, ⟨_, rfl⟩, hW, hsame.mono (by decide) (by decide)⟩
    · show Steps p.tables e below (s₁.setTop (mkF m 32 #[rv ta, iv 35, iv 0, iv 1, iv 35, iv 1] [(.int (-1 : Int32))])) _
      exact retI X0 hx Bd.returns (hb hby ow6_32) hr
    · show QV (some (.int rr)) h0 n0 _ s₁.heap _
      rw [e0]
      exact ⟨by rw [hrr, if_neg hq2], N0, rfl⟩
theorem own_ef_own_ioc_2 (m : MethodId) {x0 : Addr} {x1 : Int32} {x2 : Int32} {x3 : Int32} : entryFrame m #[(.ref x0), (.int x1), (.int x2), (.int x3)] 6 = mkF m 0 #[rv x0, iv x1, iv x2, iv x3, .unset, .unset] [] := by first | (simp [entryFrame, mkF, argsToLocals, Value.category, maxLocals]; done) | rfl
set_option maxRecDepth 65536 in
set_option maxHeartbeats 40000000 in
theorem own_ioc_2 (l : Launch) (Z : State) (a0 : Array Value) (hw : ∀ d ∈ tables_1, d.before a0 Z = true) (ws : List Jvm.Cond) (h0 : Heap) (n0 : Nat) (Z0 : n0 ≤ h0.size) (ta : Addr) (kt : ClassId) (bz0 bz1 : Int32) (Vt : Arv Z h0 ta kt .byte (2 : Int32) [(.int bz0), (.int bz1)] (.int (0 : Int32))) (rr : Int32) (hrr : rr = if bz0 = (35 : Int32) then (0 : Int32) else if bz1 = (35 : Int32) then (1 : Int32) else (-1 : Int32)) :
    MetFree l ym21 (head1 (Jvm.Cond.code ym21 jdk_43_method_23_code 6 (some .int) :: ws) rm0) (fun a U => a = #[(.ref ta), (.int (35 : Int32)), (.int (0 : Int32)), (.int (2 : Int32))] ∧ Z.Warmed39 U.vm ∧ U.heap = h0) (fun _ _ _ _ _ => True) (fun _ U o U' => ∃ v L, o = .returned v ∧ QV (some (.int rr)) h0 n0 v U'.heap L ∧ FrameEnd U o U' L rm0.cells rm0.slots) := by
  refine MetFree.of_bodySF (plainFor_of_name own_pn_java_lang_StringLatin1) hisR ?_
  intro p e s m args below meth c s₁ Bd hml0 hP hK
  obtain ⟨rfl, hZ, hh⟩ := hP
  have hx := Bd.exec
  have hby := Bd.bytes
  have hml : c.maxLocals = 6 := hml0
  have hown : s.vm.findClass "java/lang/StringLatin1" = some m.cls := (findClass_of_methodNamed Bd.named :)
  have hnm := (name_of_methodNamed Bd.named Bd.method).1
  have X0 : Stand p l e rm0 s m #[(.ref ta), (.int (35 : Int32)), (.int (0 : Int32)), (.int (2 : Int32))] below meth c s₁ [] 0 0 := Stand.of_body Bd
  have e0 : s₁.heap = h0 := by rw [← hh, Bd.state]; rfl
  have N0 := Fr.nil n0
  have pre0 : ∀ t, SP p e below s₁ (mkF m 0 #[rv ta, iv 35, iv 0, iv 2, .unset, .unset] []) t → SP p e below s₁ (entryFrame m #[(.ref ta), (.int (35 : Int32)), (.int (0 : Int32)), (.int (2 : Int32))] 6) t := fun t k => castTop (own_ef_own_ioc_2 m) k
  obtain ⟨cl1, Ar1, -, Sz1, Ng1, Ha1, -⟩ := id Vt
  have hin1 : ¬ ((0 : Int32) < 0 ∨ cl1.slots.size ≤ ((0 : Int32)).toNatClampNeg) := inb_of Sz1 (by decide)
  have hat1 : cl1.slots[((0 : Int32)).toNatClampNeg]? = some (.int bz0) := Ha1.at hin1 rfl
  have ch3 : ∀ t, SP p e below s₁ (mkF m 19 #[rv ta, iv 35, iv 0, iv 2, iv 35, iv 0] [(.int (35 : Int32)), (.int bz0)]) t → SP p e below s₁ (entryFrame m #[(.ref ta), (.int (35 : Int32)), (.int (0 : Int32)), (.int (2 : Int32))] 6) t := fun t k => pre0 t (by
      show SP p e below s₁ (mkF m 0 #[rv ta, iv 35, iv 0, iv 2, .unset, .unset] []) t
      refine XS.iloadN X0.here hx rfl (hb hby ow6_0) rfl ?_
      show SP p e below s₁ (mkF m 1 #[rv ta, iv 35, iv 0, iv 2, .unset, .unset] [(.int (35 : Int32))]) t
      refine XS.i2b X0.here hx rfl (hb hby ow6_1) rfl ?_
      rw [show ((35 : Int32).toInt8.toInt32) = (35 : Int32) from by decide]
      refine XS.istore X0.here hx rfl (hb hby ow6_2) rfl (l' := #[rv ta, iv 35, iv 0, iv 2, iv 35, .unset]) rfl ?_
      refine XS.iloadN X0.here hx rfl (hb hby ow6_4) rfl ?_
      refine XS.istore X0.here hx rfl (hb hby ow6_5) rfl (l' := #[rv ta, iv 35, iv 0, iv 2, iv 35, iv 0]) rfl ?_
      refine XS.iload X0.here hx rfl (hb hby ow6_7) rfl ?_
      refine XS.iloadN X0.here hx rfl (hb hby ow6_9) rfl ?_
      refine XS.icmpNo X0.here hx rfl (hb hby ow6_10) rfl (tlt (by decide : (0 : Int32) < (2 : Int32))).2.1 ?_
      refine XS.aloadN X0.here hx rfl (hb hby ow6_13) rfl rfl ?_
      refine XS.iload X0.here hx rfl (hb hby ow6_14) rfl ?_
      refine X0.baloadBytes hx (j := (0 : Int32)) (v := (.int bz0)) (by rw [e0]; exact Ar1.1) (State.isArrayOf_alike hZ.alike Ar1.2.1) Ar1.2.2 hin1 hat1 (g := (mkF m 16 #[rv ta, iv 35, iv 0, iv 2, iv 35, iv 0] [(.int (0 : Int32)), (.ref ta)])) rfl rfl (hb hby ow6_16) _ ?_
      refine XS.iload X0.here hx rfl (hb hby ow6_17) rfl ?_
      exact k)
  by_cases hq2 : bz0 = (35 : Int32)
  · skip
    have ch4 : ∀ t, SP p e below s₁ (mkF m 24 #[rv ta, iv 35, iv 0, iv 2, iv 35, iv 0] [(.int (0 : Int32))]) t → SP p e below s₁ (entryFrame m #[(.ref ta), (.int (35 : Int32)), (.int (0 : Int32)), (.int (2 : Int32))] 6) t := fun t k => ch3 t (by
        refine XS.icmpNo X0.here hx rfl (hb hby ow6_19) rfl (teq hq2).2 ?_
        show SP p e below s₁ (mkF m 22 #[rv ta, iv 35, iv 0, iv 2, iv 35, iv 0] []) t
        refine XS.iload X0.here hx rfl (hb hby ow6_22) rfl ?_
        exact k)
    obtain ⟨fs, hr, hrun, hended, hW, hsame⟩ := X0.leave (v := some (.int (0 : Int32))) (fun h => by rw [Bd.returns] at h; cases h)
    refine ⟨_, _, ch4 _ ?_, hrun, hended, _, _, rfl, ?_, ⟨_, rfl⟩, hW, hsame.mono (by decide) (by decide)⟩
    · show Steps p.tables e below (s₁.setTop (mkF m 24 #[rv ta, iv 35, iv 0, iv 2, iv 35, iv 0] [(.int (0 : Int32))])) _
      exact retI X0 hx Bd.returns (hb hby ow6_24) hr
    · show QV (some (.int rr)) h0 n0 _ s₁.heap _
      rw [e0]
      exact ⟨by rw [hrr, if_pos hq2], N0, rfl⟩
  · skip
    obtain ⟨cl5, Ar5, -, Sz5, Ng5, Ha5, -⟩ := id Vt
    have hin5 : ¬ ((1 : Int32) < 0 ∨ cl5.slots.size ≤ ((1 : Int32)).toNatClampNeg) := inb_of Sz5 (by decide)
    have hat5 : cl5.slots[((1 : Int32)).toNatClampNeg]? = some (.int bz1) := Ha5.at hin5 rfl
    have ch7 : ∀ t, SP p e below s₁ (mkF m 19 #[rv ta, iv 35, iv 0, iv 2, iv 35, iv 1] [(.int (35 : Int32)), (.int bz1)]) t → SP p e below s₁ (entryFrame m #[(.ref ta), (.int (35 : Int32)), (.int (0 : Int32)), (.int (2 : Int32))] 6) t := fun t k => ch3 t (by
        refine XS.icmpYes X0.here hx rfl (pc0 := 19) (pc' := 25) rfl (hb hby ow6_19) rfl (feq hq2).2 (by decide) (by decide) ?_
        show SP p e below s₁ (mkF m 25 #[rv ta, iv 35, iv 0, iv 2, iv 35, iv 0] []) t
        refine Jvm.Free.XT.iincV X0.here hx rfl (1 : Int32) (hb hby ow6_25) (by decide) rfl (l' := #[rv ta, iv 35, iv 0, iv 2, iv 35, iv 1]) (by rw [show ((0 : Int32) + (1 : Int32)) = (1 : Int32) from by decide]; rfl) ?_
        refine XS.goto X0.here hx rfl (pc0 := 28) (pc' := 7) rfl (hb hby ow6_28) (by decide) (by decide) ?_
        refine XS.iload X0.here hx rfl (hb hby ow6_7) rfl ?_
        refine XS.iloadN X0.here hx rfl (hb hby ow6_9) rfl ?_
        refine XS.icmpNo X0.here hx rfl (hb hby ow6_10) rfl (tlt (by decide : (1 : Int32) < (2 : Int32))).2.1 ?_
        refine XS.aloadN X0.here hx rfl (hb hby ow6_13) rfl rfl ?_
        refine XS.iload X0.here hx rfl (hb hby ow6_14) rfl ?_
        refine X0.baloadBytes hx (j := (1 : Int32)) (v := (.int bz1)) (by rw [e0]; exact Ar5.1) (State.isArrayOf_alike hZ.alike Ar5.2.1) Ar5.2.2 hin5 hat5 (g := (mkF m 16 #[rv ta, iv 35, iv 0, iv 2, iv 35, iv 1] [(.int (1 : Int32)), (.ref ta)])) rfl rfl (hb hby ow6_16) _ ?_
        refine XS.iload X0.here hx rfl (hb hby ow6_17) rfl ?_
        exact k)
    by_cases hq6 : bz1 = (35 : Int32)
    · skip
      have ch8 : ∀ t, SP p e below s₁ (mkF m 24 #[rv ta, iv 35, iv 0, iv 2, iv 35, iv 1] [(.int (1 : Int32))]) t → SP p e below s₁ (entryFrame m #[(.ref ta), (.int (35 : Int32)), (.int (0 : Int32)), (.int (2 : Int32))] 6) t := fun t k => ch7 t (by
          refine XS.icmpNo X0.here hx rfl (hb hby ow6_19) rfl (teq hq6).2 ?_
          refine XS.iload X0.here hx rfl (hb hby ow6_22) rfl ?_
          exact k)
      obtain ⟨fs, hr, hrun, hended, hW, hsame⟩ := X0.leave (v := some (.int (1 : Int32))) (fun h => by rw [Bd.returns] at h; cases h)
      refine ⟨_, _, ch8 _ ?_, hrun, hended, _, _, rfl, ?_, ⟨_, rfl⟩, hW, hsame.mono (by decide) (by decide)⟩
      · show Steps p.tables e below (s₁.setTop (mkF m 24 #[rv ta, iv 35, iv 0, iv 2, iv 35, iv 1] [(.int (1 : Int32))])) _
        exact retI X0 hx Bd.returns (hb hby ow6_24) hr
      · show QV (some (.int rr)) h0 n0 _ s₁.heap _
        rw [e0]
        exact ⟨by rw [hrr, if_neg hq2, if_pos hq6], N0, rfl⟩
    · skip
      have ch9 : ∀ t, SP p e below s₁ (mkF m 32 #[rv ta, iv 35, iv 0, iv 2, iv 35, iv 2] [(.int (-1 : Int32))]) t → SP p e below s₁ (entryFrame m #[(.ref ta), (.int (35 : Int32)), (.int (0 : Int32)), (.int (2 : Int32))] 6) t := fun t k => ch7 t (by
          refine XS.icmpYes X0.here hx rfl (pc0 := 19) (pc' := 25) rfl (hb hby ow6_19) rfl (feq hq6).2 (by decide) (by decide) ?_
          refine Jvm.Free.XT.iincV X0.here hx rfl (1 : Int32) (hb hby ow6_25) (by decide) rfl (l' := #[rv ta, iv 35, iv 0, iv 2, iv 35, iv 2]) (by rw [show ((1 : Int32) + (1 : Int32)) = (2 : Int32) from by decide]; rfl) ?_
          refine XS.goto X0.here hx rfl (pc0 := 28) (pc' := 7) rfl (hb hby ow6_28) (by decide) (by decide) ?_
          refine XS.iload X0.here hx rfl (hb hby ow6_7) rfl ?_
          refine XS.iloadN X0.here hx rfl (hb hby ow6_9) rfl ?_
          refine XS.icmpYes X0.here hx rfl (pc0 := 10) (pc' := 31) rfl (hb hby ow6_10) rfl (flt (by decide : ¬ (2 : Int32) < (2 : Int32))).2.1 (by decide) (by decide) ?_
          show SP p e below s₁ (mkF m 31 #[rv ta, iv 35, iv 0, iv 2, iv 35, iv 2] []) t
          refine XS.iconst X0.here hx rfl (hb hby ow6_31) ?_
          exact k)
      obtain ⟨fs, hr, hrun, hended, hW, hsame⟩ := X0.leave (v := some (.int (-1 : Int32))) (fun h => by rw [Bd.returns] at h; cases h)
      refine ⟨_, _, ch9 _ ?_, hrun, hended, _, _, rfl, ?_, ⟨_, rfl⟩, hW, hsame.mono (by decide) (by decide)⟩
      · show Steps p.tables e below (s₁.setTop (mkF m 32 #[rv ta, iv 35, iv 0, iv 2, iv 35, iv 2] [(.int (-1 : Int32))])) _
        exact retI X0 hx Bd.returns (hb hby ow6_32) hr
      · show QV (some (.int rr)) h0 n0 _ s₁.heap _
        rw [e0]
        exact ⟨by rw [hrr, if_neg hq2, if_neg hq6], N0, rfl⟩
theorem own_ef_own_ioc_3 (m : MethodId) {x0 : Addr} {x1 : Int32} {x2 : Int32} {x3 : Int32} : entryFrame m #[(.ref x0), (.int x1), (.int x2), (.int x3)] 6 = mkF m 0 #[rv x0, iv x1, iv x2, iv x3, .unset, .unset] [] := by first | (simp [entryFrame, mkF, argsToLocals, Value.category, maxLocals]; done) | rfl
set_option maxRecDepth 65536 in
set_option maxHeartbeats 40000000 in
theorem own_ioc_3 (l : Launch) (Z : State) (a0 : Array Value) (hw : ∀ d ∈ tables_1, d.before a0 Z = true) (ws : List Jvm.Cond) (h0 : Heap) (n0 : Nat) (Z0 : n0 ≤ h0.size) (ta : Addr) (kt : ClassId) (bz0 bz1 bz2 : Int32) (Vt : Arv Z h0 ta kt .byte (3 : Int32) [(.int bz0), (.int bz1), (.int bz2)] (.int (0 : Int32))) (rr : Int32) (hrr : rr = if bz0 = (35 : Int32) then (0 : Int32) else if bz1 = (35 : Int32) then (1 : Int32) else if bz2 = (35 : Int32) then (2 : Int32) else (-1 : Int32)) :
    MetFree l ym21 (head1 (Jvm.Cond.code ym21 jdk_43_method_23_code 6 (some .int) :: ws) rm0) (fun a U => a = #[(.ref ta), (.int (35 : Int32)), (.int (0 : Int32)), (.int (3 : Int32))] ∧ Z.Warmed39 U.vm ∧ U.heap = h0) (fun _ _ _ _ _ => True) (fun _ U o U' => ∃ v L, o = .returned v ∧ QV (some (.int rr)) h0 n0 v U'.heap L ∧ FrameEnd U o U' L rm0.cells rm0.slots) := by
  refine MetFree.of_bodySF (plainFor_of_name own_pn_java_lang_StringLatin1) hisR ?_
  intro p e s m args below meth c s₁ Bd hml0 hP hK
  obtain ⟨rfl, hZ, hh⟩ := hP
  have hx := Bd.exec
  have hby := Bd.bytes
  have hml : c.maxLocals = 6 := hml0
  have hown : s.vm.findClass "java/lang/StringLatin1" = some m.cls := (findClass_of_methodNamed Bd.named :)
  have hnm := (name_of_methodNamed Bd.named Bd.method).1
  have X0 : Stand p l e rm0 s m #[(.ref ta), (.int (35 : Int32)), (.int (0 : Int32)), (.int (3 : Int32))] below meth c s₁ [] 0 0 := Stand.of_body Bd
  have e0 : s₁.heap = h0 := by rw [← hh, Bd.state]; rfl
  have N0 := Fr.nil n0
  have pre0 : ∀ t, SP p e below s₁ (mkF m 0 #[rv ta, iv 35, iv 0, iv 3, .unset, .unset] []) t → SP p e below s₁ (entryFrame m #[(.ref ta), (.int (35 : Int32)), (.int (0 : Int32)), (.int (3 : Int32))] 6) t := fun t k => castTop (own_ef_own_ioc_3 m) k
  obtain ⟨cl1, Ar1, -, Sz1, Ng1, Ha1, -⟩ := id Vt
  have hin1 : ¬ ((0 : Int32) < 0 ∨ cl1.slots.size ≤ ((0 : Int32)).toNatClampNeg) := inb_of Sz1 (by decide)
  have hat1 : cl1.slots[((0 : Int32)).toNatClampNeg]? = some (.int bz0) := Ha1.at hin1 rfl
  have ch3 : ∀ t, SP p e below s₁ (mkF m 19 #[rv ta, iv 35, iv 0, iv 3, iv 35, iv 0] [(.int (35 : Int32)), (.int bz0)]) t → SP p e below s₁ (entryFrame m #[(.ref ta), (.int (35 : Int32)), (.int (0 : Int32)), (.int (3 : Int32))] 6) t := fun t k => pre0 t (by
      show SP p e below s₁ (mkF m 0 #[rv ta, iv 35, iv 0, iv 3, .unset, .unset] []) t
      refine XS.iloadN X0.here hx rfl (hb hby ow6_0) rfl ?_
      show SP p e below s₁ (mkF m 1 #[rv ta, iv 35, iv 0, iv 3, .unset, .unset] [(.int (35 : Int32))]) t
      refine XS.i2b X0.here hx rfl (hb hby ow6_1) rfl ?_
      rw [show ((35 : Int32).toInt8.toInt32) = (35 : Int32) from by decide]
      refine XS.istore X0.here hx rfl (hb hby ow6_2) rfl (l' := #[rv ta, iv 35, iv 0, iv 3, iv 35, .unset]) rfl ?_
      refine XS.iloadN X0.here hx rfl (hb hby ow6_4) rfl ?_
      refine XS.istore X0.here hx rfl (hb hby ow6_5) rfl (l' := #[rv ta, iv 35, iv 0, iv 3, iv 35, iv 0]) rfl ?_
      refine XS.iload X0.here hx rfl (hb hby ow6_7) rfl ?_
      refine XS.iloadN X0.here hx rfl (hb hby ow6_9) rfl ?_
      refine XS.icmpNo X0.here hx rfl (hb hby ow6_10) rfl (tlt (by decide : (0 : Int32) < (3 : Int32))).2.1 ?_
      refine XS.aloadN X0.here hx rfl (hb hby ow6_13) rfl rfl ?_
      refine XS.iload X0.here hx rfl (hb hby ow6_14) rfl ?_
      refine X0.baloadBytes hx (j := (0 : Int32)) (v := (.int bz0)) (by rw [e0]; exact Ar1.1) (State.isArrayOf_alike hZ.alike Ar1.2.1) Ar1.2.2 hin1 hat1 (g := (mkF m 16 #[rv ta, iv 35, iv 0, iv 3, iv 35, iv 0] [(.int (0 : Int32)), (.ref ta)])) rfl rfl (hb hby ow6_16) _ ?_
      refine XS.iload X0.here hx rfl (hb hby ow6_17) rfl ?_
      exact k)
  by_cases hq2 : bz0 = (35 : Int32)
  · skip
    have ch4 : ∀ t, SP p e below s₁ (mkF m 24 #[rv ta, iv 35, iv 0, iv 3, iv 35, iv 0] [(.int (0 : Int32))]) t → SP p e below s₁ (entryFrame m #[(.ref ta), (.int (35 : Int32)), (.int (0 : Int32)), (.int (3 : Int32))] 6) t := fun t k => ch3 t (by
        refine XS.icmpNo X0.here hx rfl (hb hby ow6_19) rfl (teq hq2).2 ?_
        show SP p e below s₁ (mkF m 22 #[rv ta, iv 35, iv 0, iv 3, iv 35, iv 0] []) t
        refine XS.iload X0.here hx rfl (hb hby ow6_22) rfl ?_
        exact k)
    obtain ⟨fs, hr, hrun, hended, hW, hsame⟩ := X0.leave (v := some (.int (0 : Int32))) (fun h => by rw [Bd.returns] at h; cases h)
    refine ⟨_, _, ch4 _ ?_, hrun, hended, _, _, rfl, ?_, ⟨_, rfl⟩, hW, hsame.mono (by decide) (by decide)⟩
    · show Steps p.tables e below (s₁.setTop (mkF m 24 #[rv ta, iv 35, iv 0, iv 3, iv 35, iv 0] [(.int (0 : Int32))])) _
      exact retI X0 hx Bd.returns (hb hby ow6_24) hr
    · show QV (some (.int rr)) h0 n0 _ s₁.heap _
      rw [e0]
      exact ⟨by rw [hrr, if_pos hq2], N0, rfl⟩
  · skip
    obtain ⟨cl5, Ar5, -, Sz5, Ng5, Ha5, -⟩ := id Vt
    have hin5 : ¬ ((1 : Int32) < 0 ∨ cl5.slots.size ≤ ((1 : Int32)).toNatClampNeg) := inb_of Sz5 (by decide)
    have hat5 : cl5.slots[((1 : Int32)).toNatClampNeg]? = some (.int bz1) := Ha5.at hin5 rfl
    have ch7 : ∀ t, SP p e below s₁ (mkF m 19 #[rv ta, iv 35, iv 0, iv 3, iv 35, iv 1] [(.int (35 : Int32)), (.int bz1)]) t → SP p e below s₁ (entryFrame m #[(.ref ta), (.int (35 : Int32)), (.int (0 : Int32)), (.int (3 : Int32))] 6) t := fun t k => ch3 t (by
        refine XS.icmpYes X0.here hx rfl (pc0 := 19) (pc' := 25) rfl (hb hby ow6_19) rfl (feq hq2).2 (by decide) (by decide) ?_
        show SP p e below s₁ (mkF m 25 #[rv ta, iv 35, iv 0, iv 3, iv 35, iv 0] []) t
        refine Jvm.Free.XT.iincV X0.here hx rfl (1 : Int32) (hb hby ow6_25) (by decide) rfl (l' := #[rv ta, iv 35, iv 0, iv 3, iv 35, iv 1]) (by rw [show ((0 : Int32) + (1 : Int32)) = (1 : Int32) from by decide]; rfl) ?_
        refine XS.goto X0.here hx rfl (pc0 := 28) (pc' := 7) rfl (hb hby ow6_28) (by decide) (by decide) ?_
        refine XS.iload X0.here hx rfl (hb hby ow6_7) rfl ?_
        refine XS.iloadN X0.here hx rfl (hb hby ow6_9) rfl ?_
        refine XS.icmpNo X0.here hx rfl (hb hby ow6_10) rfl (tlt (by decide : (1 : Int32) < (3 : Int32))).2.1 ?_
        refine XS.aloadN X0.here hx rfl (hb hby ow6_13) rfl rfl ?_
        refine XS.iload X0.here hx rfl (hb hby ow6_14) rfl ?_
        refine X0.baloadBytes hx (j := (1 : Int32)) (v := (.int bz1)) (by rw [e0]; exact Ar5.1) (State.isArrayOf_alike hZ.alike Ar5.2.1) Ar5.2.2 hin5 hat5 (g := (mkF m 16 #[rv ta, iv 35, iv 0, iv 3, iv 35, iv 1] [(.int (1 : Int32)), (.ref ta)])) rfl rfl (hb hby ow6_16) _ ?_
        refine XS.iload X0.here hx rfl (hb hby ow6_17) rfl ?_
        exact k)
    by_cases hq6 : bz1 = (35 : Int32)
    · skip
      have ch8 : ∀ t, SP p e below s₁ (mkF m 24 #[rv ta, iv 35, iv 0, iv 3, iv 35, iv 1] [(.int (1 : Int32))]) t → SP p e below s₁ (entryFrame m #[(.ref ta), (.int (35 : Int32)), (.int (0 : Int32)), (.int (3 : Int32))] 6) t := fun t k => ch7 t (by
          refine XS.icmpNo X0.here hx rfl (hb hby ow6_19) rfl (teq hq6).2 ?_
          refine XS.iload X0.here hx rfl (hb hby ow6_22) rfl ?_
          exact k)
      obtain ⟨fs, hr, hrun, hended, hW, hsame⟩ := X0.leave (v := some (.int (1 : Int32))) (fun h => by rw [Bd.returns] at h; cases h)
      refine ⟨_, _, ch8 _ ?_, hrun, hended, _, _, rfl, ?_, ⟨_, rfl⟩, hW, hsame.mono (by decide) (by decide)⟩
      · show Steps p.tables e below (s₁.setTop (mkF m 24 #[rv ta, iv 35, iv 0, iv 3, iv 35, iv 1] [(.int (1 : Int32))])) _
        exact retI X0 hx Bd.returns (hb hby ow6_24) hr
      · show QV (some (.int rr)) h0 n0 _ s₁.heap _
        rw [e0]
        exact ⟨by rw [hrr, if_neg hq2, if_pos hq6], N0, rfl⟩
    · skip
      obtain ⟨cl9, Ar9, -, Sz9, Ng9, Ha9, -⟩ := id Vt
      have hin9 : ¬ ((2 : Int32) < 0 ∨ cl9.slots.size ≤ ((2 : Int32)).toNatClampNeg) := inb_of Sz9 (by decide)
      have hat9 : cl9.slots[((2 : Int32)).toNatClampNeg]? = some (.int bz2) := Ha9.at hin9 rfl
      have ch11 : ∀ t, SP p e below s₁ (mkF m 19 #[rv ta, iv 35, iv 0, iv 3, iv 35, iv 2] [(.int (35 : Int32)), (.int bz2)]) t → SP p e below s₁ (entryFrame m #[(.ref ta), (.int (35 : Int32)), (.int (0 : Int32)), (.int (3 : Int32))] 6) t := fun t k => ch7 t (by
          refine XS.icmpYes X0.here hx rfl (pc0 := 19) (pc' := 25) rfl (hb hby ow6_19) rfl (feq hq6).2 (by decide) (by decide) ?_
          refine Jvm.Free.XT.iincV X0.here hx rfl (1 : Int32) (hb hby ow6_25) (by decide) rfl (l' := #[rv ta, iv 35, iv 0, iv 3, iv 35, iv 2]) (by rw [show ((1 : Int32) + (1 : Int32)) = (2 : Int32) from by decide]; rfl) ?_
          refine XS.goto X0.here hx rfl (pc0 := 28) (pc' := 7) rfl (hb hby ow6_28) (by decide) (by decide) ?_
          refine XS.iload X0.here hx rfl (hb hby ow6_7) rfl ?_
          refine XS.iloadN X0.here hx rfl (hb hby ow6_9) rfl ?_
          refine XS.icmpNo X0.here hx rfl (hb hby ow6_10) rfl (tlt (by decide : (2 : Int32) < (3 : Int32))).2.1 ?_
          show SP p e below s₁ (mkF m 13 #[rv ta, iv 35, iv 0, iv 3, iv 35, iv 2] []) t
          refine XS.aloadN X0.here hx rfl (hb hby ow6_13) rfl rfl ?_
          refine XS.iload X0.here hx rfl (hb hby ow6_14) rfl ?_
          refine X0.baloadBytes hx (j := (2 : Int32)) (v := (.int bz2)) (by rw [e0]; exact Ar9.1) (State.isArrayOf_alike hZ.alike Ar9.2.1) Ar9.2.2 hin9 hat9 (g := (mkF m 16 #[rv ta, iv 35, iv 0, iv 3, iv 35, iv 2] [(.int (2 : Int32)), (.ref ta)])) rfl rfl (hb hby ow6_16) _ ?_
          refine XS.iload X0.here hx rfl (hb hby ow6_17) rfl ?_
          exact k)
      by_cases hq10 : bz2 = (35 : Int32)
      · skip
        have ch12 : ∀ t, SP p e below s₁ (mkF m 24 #[rv ta, iv 35, iv 0, iv 3, iv 35, iv 2] [(.int (2 : Int32))]) t → SP p e below s₁ (entryFrame m #[(.ref ta), (.int (35 : Int32)), (.int (0 : Int32)), (.int (3 : Int32))] 6) t := fun t k => ch11 t (by
            refine XS.icmpNo X0.here hx rfl (hb hby ow6_19) rfl (teq hq10).2 ?_
            refine XS.iload X0.here hx rfl (hb hby ow6_22) rfl ?_
            exact k)
        obtain ⟨fs, hr, hrun, hended, hW, hsame⟩ := X0.leave (v := some (.int (2 : Int32))) (fun h => by rw [Bd.returns] at h; cases h)
        refine ⟨_, _, ch12 _ ?_, hrun, hended, _, _, rfl, ?_, ⟨_, rfl⟩, hW, hsame.mono (by decide) (by decide)⟩
        · show Steps p.tables e below (s₁.setTop (mkF m 24 #[rv ta, iv 35, iv 0, iv 3, iv 35, iv 2] [(.int (2 : Int32))])) _
          exact retI X0 hx Bd.returns (hb hby ow6_24) hr
        · show QV (some (.int rr)) h0 n0 _ s₁.heap _
          rw [e0]
          exact ⟨by rw [hrr, if_neg hq2, if_neg hq6, if_pos hq10], N0, rfl⟩
      · skip
        have ch13 : ∀ t, SP p e below s₁ (mkF m 32 #[rv ta, iv 35, iv 0, iv 3, iv 35, iv 3] [(.int (-1 : Int32))]) t → SP p e below s₁ (entryFrame m #[(.ref ta), (.int (35 : Int32)), (.int (0 : Int32)), (.int (3 : Int32))] 6) t := fun t k => ch11 t (by
            refine XS.icmpYes X0.here hx rfl (pc0 := 19) (pc' := 25) rfl (hb hby ow6_19) rfl (feq hq10).2 (by decide) (by decide) ?_
            refine Jvm.Free.XT.iincV X0.here hx rfl (1 : Int32) (hb hby ow6_25) (by decide) rfl (l' := #[rv ta, iv 35, iv 0, iv 3, iv 35, iv 3]) (by rw [show ((2 : Int32) + (1 : Int32)) = (3 : Int32) from by decide]; rfl) ?_
            refine XS.goto X0.here hx rfl (pc0 := 28) (pc' := 7) rfl (hb hby ow6_28) (by decide) (by decide) ?_
            refine XS.iload X0.here hx rfl (hb hby ow6_7) rfl ?_
            refine XS.iloadN X0.here hx rfl (hb hby ow6_9) rfl ?_
            refine XS.icmpYes X0.here hx rfl (pc0 := 10) (pc' := 31) rfl (hb hby ow6_10) rfl (flt (by decide : ¬ (3 : Int32) < (3 : Int32))).2.1 (by decide) (by decide) ?_
            refine XS.iconst X0.here hx rfl (hb hby ow6_31) ?_
            exact k)
        obtain ⟨fs, hr, hrun, hended, hW, hsame⟩ := X0.leave (v := some (.int (-1 : Int32))) (fun h => by rw [Bd.returns] at h; cases h)
        refine ⟨_, _, ch13 _ ?_, hrun, hended, _, _, rfl, ?_, ⟨_, rfl⟩, hW, hsame.mono (by decide) (by decide)⟩
        · show Steps p.tables e below (s₁.setTop (mkF m 32 #[rv ta, iv 35, iv 0, iv 3, iv 35, iv 3] [(.int (-1 : Int32))])) _
          exact retI X0 hx Bd.returns (hb hby ow6_32) hr
        · show QV (some (.int rr)) h0 n0 _ s₁.heap _
          rw [e0]
          exact ⟨by rw [hrr, if_neg hq2, if_neg hq6, if_neg hq10], N0, rfl⟩
theorem own_ef_own_ioc_4 (m : MethodId) {x0 : Addr} {x1 : Int32} {x2 : Int32} {x3 : Int32} : entryFrame m #[(.ref x0), (.int x1), (.int x2), (.int x3)] 6 = mkF m 0 #[rv x0, iv x1, iv x2, iv x3, .unset, .unset] [] := by first | (simp [entryFrame, mkF, argsToLocals, Value.category, maxLocals]; done) | rfl
set_option maxRecDepth 65536 in
set_option maxHeartbeats 40000000 in
theorem own_ioc_4 (l : Launch) (Z : State) (a0 : Array Value) (hw : ∀ d ∈ tables_1, d.before a0 Z = true) (ws : List Jvm.Cond) (h0 : Heap) (n0 : Nat) (Z0 : n0 ≤ h0.size) (ta : Addr) (kt : ClassId) (bz0 bz1 bz2 bz3 : Int32) (Vt : Arv Z h0 ta kt .byte (4 : Int32) [(.int bz0), (.int bz1), (.int bz2), (.int bz3)] (.int (0 : Int32))) (rr : Int32) (hrr : rr = if bz0 = (35 : Int32) then (0 : Int32) else if bz1 = (35 : Int32) then (1 : Int32) else if bz2 = (35 : Int32) then (2 : Int32) else if bz3 = (35 : Int32) then (3 : Int32) else (-1 : Int32)) :
    MetFree l ym21 (head1 (Jvm.Cond.code ym21 jdk_43_method_23_code 6 (some .int) :: ws) rm0) (fun a U => a = #[(.ref ta), (.int (35 : Int32)), (.int (0 : Int32)), (.int (4 : Int32))] ∧ Z.Warmed39 U.vm ∧ U.heap = h0) (fun _ _ _ _ _ => True) (fun _ U o U' => ∃ v L, o = .returned v ∧ QV (some (.int rr)) h0 n0 v U'.heap L ∧ FrameEnd U o U' L rm0.cells rm0.slots) := by
  refine MetFree.of_bodySF (plainFor_of_name own_pn_java_lang_StringLatin1) hisR ?_
  intro p e s m args below meth c s₁ Bd hml0 hP hK
  obtain ⟨rfl, hZ, hh⟩ := hP
  have hx := Bd.exec
  have hby := Bd.bytes
  have hml : c.maxLocals = 6 := hml0
  have hown : s.vm.findClass "java/lang/StringLatin1" = some m.cls := (findClass_of_methodNamed Bd.named :)
  have hnm := (name_of_methodNamed Bd.named Bd.method).1
  have X0 : Stand p l e rm0 s m #[(.ref ta), (.int (35 : Int32)), (.int (0 : Int32)), (.int (4 : Int32))] below meth c s₁ [] 0 0 := Stand.of_body Bd
  have e0 : s₁.heap = h0 := by rw [← hh, Bd.state]; rfl
  have N0 := Fr.nil n0
  have pre0 : ∀ t, SP p e below s₁ (mkF m 0 #[rv ta, iv 35, iv 0, iv 4, .unset, .unset] []) t → SP p e below s₁ (entryFrame m #[(.ref ta), (.int (35 : Int32)), (.int (0 : Int32)), (.int (4 : Int32))] 6) t := fun t k => castTop (own_ef_own_ioc_4 m) k
  obtain ⟨cl1, Ar1, -, Sz1, Ng1, Ha1, -⟩ := id Vt
  have hin1 : ¬ ((0 : Int32) < 0 ∨ cl1.slots.size ≤ ((0 : Int32)).toNatClampNeg) := inb_of Sz1 (by decide)
  have hat1 : cl1.slots[((0 : Int32)).toNatClampNeg]? = some (.int bz0) := Ha1.at hin1 rfl
  have ch3 : ∀ t, SP p e below s₁ (mkF m 19 #[rv ta, iv 35, iv 0, iv 4, iv 35, iv 0] [(.int (35 : Int32)), (.int bz0)]) t → SP p e below s₁ (entryFrame m #[(.ref ta), (.int (35 : Int32)), (.int (0 : Int32)), (.int (4 : Int32))] 6) t := fun t k => pre0 t (by
      show SP p e below s₁ (mkF m 0 #[rv ta, iv 35, iv 0, iv 4, .unset, .unset] []) t
      refine XS.iloadN X0.here hx rfl (hb hby ow6_0) rfl ?_
      show SP p e below s₁ (mkF m 1 #[rv ta, iv 35, iv 0, iv 4, .unset, .unset] [(.int (35 : Int32))]) t
      refine XS.i2b X0.here hx rfl (hb hby ow6_1) rfl ?_
      rw [show ((35 : Int32).toInt8.toInt32) = (35 : Int32) from by decide]
      refine XS.istore X0.here hx rfl (hb hby ow6_2) rfl (l' := #[rv ta, iv 35, iv 0, iv 4, iv 35, .unset]) rfl ?_
      refine XS.iloadN X0.here hx rfl (hb hby ow6_4) rfl ?_
      refine XS.istore X0.here hx rfl (hb hby ow6_5) rfl (l' := #[rv ta, iv 35, iv 0, iv 4, iv 35, iv 0]) rfl ?_
      refine XS.iload X0.here hx rfl (hb hby ow6_7) rfl ?_
      refine XS.iloadN X0.here hx rfl (hb hby ow6_9) rfl ?_
      refine XS.icmpNo X0.here hx rfl (hb hby ow6_10) rfl (tlt (by decide : (0 : Int32) < (4 : Int32))).2.1 ?_
      refine XS.aloadN X0.here hx rfl (hb hby ow6_13) rfl rfl ?_
      refine XS.iload X0.here hx rfl (hb hby ow6_14) rfl ?_
      refine X0.baloadBytes hx (j := (0 : Int32)) (v := (.int bz0)) (by rw [e0]; exact Ar1.1) (State.isArrayOf_alike hZ.alike Ar1.2.1) Ar1.2.2 hin1 hat1 (g := (mkF m 16 #[rv ta, iv 35, iv 0, iv 4, iv 35, iv 0] [(.int (0 : Int32)), (.ref ta)])) rfl rfl (hb hby ow6_16) _ ?_
      refine XS.iload X0.here hx rfl (hb hby ow6_17) rfl ?_
      exact k)
  by_cases hq2 : bz0 = (35 : Int32)
  · skip
    have ch4 : ∀ t, SP p e below s₁ (mkF m 24 #[rv ta, iv 35, iv 0, iv 4, iv 35, iv 0] [(.int (0 : Int32))]) t → SP p e below s₁ (entryFrame m #[(.ref ta), (.int (35 : Int32)), (.int (0 : Int32)), (.int (4 : Int32))] 6) t := fun t k => ch3 t (by
        refine XS.icmpNo X0.here hx rfl (hb hby ow6_19) rfl (teq hq2).2 ?_
        show SP p e below s₁ (mkF m 22 #[rv ta, iv 35, iv 0, iv 4, iv 35, iv 0] []) t
        refine XS.iload X0.here hx rfl (hb hby ow6_22) rfl ?_
        exact k)
    obtain ⟨fs, hr, hrun, hended, hW, hsame⟩ := X0.leave (v := some (.int (0 : Int32))) (fun h => by rw [Bd.returns] at h; cases h)
    refine ⟨_, _, ch4 _ ?_, hrun, hended, _, _, rfl, ?_, ⟨_, rfl⟩, hW, hsame.mono (by decide) (by decide)⟩
    · show Steps p.tables e below (s₁.setTop (mkF m 24 #[rv ta, iv 35, iv 0, iv 4, iv 35, iv 0] [(.int (0 : Int32))])) _
      exact retI X0 hx Bd.returns (hb hby ow6_24) hr
    · show QV (some (.int rr)) h0 n0 _ s₁.heap _
      rw [e0]
      exact ⟨by rw [hrr, if_pos hq2], N0, rfl⟩
  · skip
    obtain ⟨cl5, Ar5, -, Sz5, Ng5, Ha5, -⟩ := id Vt
    have hin5 : ¬ ((1 : Int32) < 0 ∨ cl5.slots.size ≤ ((1 : Int32)).toNatClampNeg) := inb_of Sz5 (by decide)
    have hat5 : cl5.slots[((1 : Int32)).toNatClampNeg]? = some (.int bz1) := Ha5.at hin5 rfl
    have ch7 : ∀ t, SP p e below s₁ (mkF m 19 #[rv ta, iv 35, iv 0, iv 4, iv 35, iv 1] [(.int (35 : Int32)), (.int bz1)]) t → SP p e below s₁ (entryFrame m #[(.ref ta), (.int (35 : Int32)), (.int (0 : Int32)), (.int (4 : Int32))] 6) t := fun t k => ch3 t (by
        refine XS.icmpYes X0.here hx rfl (pc0 := 19) (pc' := 25) rfl (hb hby ow6_19) rfl (feq hq2).2 (by decide) (by decide) ?_
        show SP p e below s₁ (mkF m 25 #[rv ta, iv 35, iv 0, iv 4, iv 35, iv 0] []) t
        refine Jvm.Free.XT.iincV X0.here hx rfl (1 : Int32) (hb hby ow6_25) (by decide) rfl (l' := #[rv ta, iv 35, iv 0, iv 4, iv 35, iv 1]) (by rw [show ((0 : Int32) + (1 : Int32)) = (1 : Int32) from by decide]; rfl) ?_
        refine XS.goto X0.here hx rfl (pc0 := 28) (pc' := 7) rfl (hb hby ow6_28) (by decide) (by decide) ?_
        refine XS.iload X0.here hx rfl (hb hby ow6_7) rfl ?_
        refine XS.iloadN X0.here hx rfl (hb hby ow6_9) rfl ?_
        refine XS.icmpNo X0.here hx rfl (hb hby ow6_10) rfl (tlt (by decide : (1 : Int32) < (4 : Int32))).2.1 ?_
        refine XS.aloadN X0.here hx rfl (hb hby ow6_13) rfl rfl ?_
        refine XS.iload X0.here hx rfl (hb hby ow6_14) rfl ?_
        refine X0.baloadBytes hx (j := (1 : Int32)) (v := (.int bz1)) (by rw [e0]; exact Ar5.1) (State.isArrayOf_alike hZ.alike Ar5.2.1) Ar5.2.2 hin5 hat5 (g := (mkF m 16 #[rv ta, iv 35, iv 0, iv 4, iv 35, iv 1] [(.int (1 : Int32)), (.ref ta)])) rfl rfl (hb hby ow6_16) _ ?_
        refine XS.iload X0.here hx rfl (hb hby ow6_17) rfl ?_
        exact k)
    by_cases hq6 : bz1 = (35 : Int32)
    · skip
      have ch8 : ∀ t, SP p e below s₁ (mkF m 24 #[rv ta, iv 35, iv 0, iv 4, iv 35, iv 1] [(.int (1 : Int32))]) t → SP p e below s₁ (entryFrame m #[(.ref ta), (.int (35 : Int32)), (.int (0 : Int32)), (.int (4 : Int32))] 6) t := fun t k => ch7 t (by
          refine XS.icmpNo X0.here hx rfl (hb hby ow6_19) rfl (teq hq6).2 ?_
          refine XS.iload X0.here hx rfl (hb hby ow6_22) rfl ?_
          exact k)
      obtain ⟨fs, hr, hrun, hended, hW, hsame⟩ := X0.leave (v := some (.int (1 : Int32))) (fun h => by rw [Bd.returns] at h; cases h)
      refine ⟨_, _, ch8 _ ?_, hrun, hended, _, _, rfl, ?_, ⟨_, rfl⟩, hW, hsame.mono (by decide) (by decide)⟩
      · show Steps p.tables e below (s₁.setTop (mkF m 24 #[rv ta, iv 35, iv 0, iv 4, iv 35, iv 1] [(.int (1 : Int32))])) _
        exact retI X0 hx Bd.returns (hb hby ow6_24) hr
      · show QV (some (.int rr)) h0 n0 _ s₁.heap _
        rw [e0]
        exact ⟨by rw [hrr, if_neg hq2, if_pos hq6], N0, rfl⟩
    · skip
      obtain ⟨cl9, Ar9, -, Sz9, Ng9, Ha9, -⟩ := id Vt
      have hin9 : ¬ ((2 : Int32) < 0 ∨ cl9.slots.size ≤ ((2 : Int32)).toNatClampNeg) := inb_of Sz9 (by decide)
      have hat9 : cl9.slots[((2 : Int32)).toNatClampNeg]? = some (.int bz2) := Ha9.at hin9 rfl
      have ch11 : ∀ t, SP p e below s₁ (mkF m 19 #[rv ta, iv 35, iv 0, iv 4, iv 35, iv 2] [(.int (35 : Int32)), (.int bz2)]) t → SP p e below s₁ (entryFrame m #[(.ref ta), (.int (35 : Int32)), (.int (0 : Int32)), (.int (4 : Int32))] 6) t := fun t k => ch7 t (by
          refine XS.icmpYes X0.here hx rfl (pc0 := 19) (pc' := 25) rfl (hb hby ow6_19) rfl (feq hq6).2 (by decide) (by decide) ?_
          refine Jvm.Free.XT.iincV X0.here hx rfl (1 : Int32) (hb hby ow6_25) (by decide) rfl (l' := #[rv ta, iv 35, iv 0, iv 4, iv 35, iv 2]) (by rw [show ((1 : Int32) + (1 : Int32)) = (2 : Int32) from by decide]; rfl) ?_
          refine XS.goto X0.here hx rfl (pc0 := 28) (pc' := 7) rfl (hb hby ow6_28) (by decide) (by decide) ?_
          refine XS.iload X0.here hx rfl (hb hby ow6_7) rfl ?_
          refine XS.iloadN X0.here hx rfl (hb hby ow6_9) rfl ?_
          refine XS.icmpNo X0.here hx rfl (hb hby ow6_10) rfl (tlt (by decide : (2 : Int32) < (4 : Int32))).2.1 ?_
          show SP p e below s₁ (mkF m 13 #[rv ta, iv 35, iv 0, iv 4, iv 35, iv 2] []) t
          refine XS.aloadN X0.here hx rfl (hb hby ow6_13) rfl rfl ?_
          refine XS.iload X0.here hx rfl (hb hby ow6_14) rfl ?_
          refine X0.baloadBytes hx (j := (2 : Int32)) (v := (.int bz2)) (by rw [e0]; exact Ar9.1) (State.isArrayOf_alike hZ.alike Ar9.2.1) Ar9.2.2 hin9 hat9 (g := (mkF m 16 #[rv ta, iv 35, iv 0, iv 4, iv 35, iv 2] [(.int (2 : Int32)), (.ref ta)])) rfl rfl (hb hby ow6_16) _ ?_
          refine XS.iload X0.here hx rfl (hb hby ow6_17) rfl ?_
          exact k)
      by_cases hq10 : bz2 = (35 : Int32)
      · skip
        have ch12 : ∀ t, SP p e below s₁ (mkF m 24 #[rv ta, iv 35, iv 0, iv 4, iv 35, iv 2] [(.int (2 : Int32))]) t → SP p e below s₁ (entryFrame m #[(.ref ta), (.int (35 : Int32)), (.int (0 : Int32)), (.int (4 : Int32))] 6) t := fun t k => ch11 t (by
            refine XS.icmpNo X0.here hx rfl (hb hby ow6_19) rfl (teq hq10).2 ?_
            refine XS.iload X0.here hx rfl (hb hby ow6_22) rfl ?_
            exact k)
        obtain ⟨fs, hr, hrun, hended, hW, hsame⟩ := X0.leave (v := some (.int (2 : Int32))) (fun h => by rw [Bd.returns] at h; cases h)
        refine ⟨_, _, ch12 _ ?_, hrun, hended, _, _, rfl, ?_, ⟨_, rfl⟩, hW, hsame.mono (by decide) (by decide)⟩
        · show Steps p.tables e below (s₁.setTop (mkF m 24 #[rv ta, iv 35, iv 0, iv 4, iv 35, iv 2] [(.int (2 : Int32))])) _
          exact retI X0 hx Bd.returns (hb hby ow6_24) hr
        · show QV (some (.int rr)) h0 n0 _ s₁.heap _
          rw [e0]
          exact ⟨by rw [hrr, if_neg hq2, if_neg hq6, if_pos hq10], N0, rfl⟩
      · skip
        obtain ⟨cl13, Ar13, -, Sz13, Ng13, Ha13, -⟩ := id Vt
        have hin13 : ¬ ((3 : Int32) < 0 ∨ cl13.slots.size ≤ ((3 : Int32)).toNatClampNeg) := inb_of Sz13 (by decide)
        have hat13 : cl13.slots[((3 : Int32)).toNatClampNeg]? = some (.int bz3) := Ha13.at hin13 rfl
        have ch15 : ∀ t, SP p e below s₁ (mkF m 19 #[rv ta, iv 35, iv 0, iv 4, iv 35, iv 3] [(.int (35 : Int32)), (.int bz3)]) t → SP p e below s₁ (entryFrame m #[(.ref ta), (.int (35 : Int32)), (.int (0 : Int32)), (.int (4 : Int32))] 6) t := fun t k => ch11 t (by
            refine XS.icmpYes X0.here hx rfl (pc0 := 19) (pc' := 25) rfl (hb hby ow6_19) rfl (feq hq10).2 (by decide) (by decide) ?_
            refine Jvm.Free.XT.iincV X0.here hx rfl (1 : Int32) (hb hby ow6_25) (by decide) rfl (l' := #[rv ta, iv 35, iv 0, iv 4, iv 35, iv 3]) (by rw [show ((2 : Int32) + (1 : Int32)) = (3 : Int32) from by decide]; rfl) ?_
            refine XS.goto X0.here hx rfl (pc0 := 28) (pc' := 7) rfl (hb hby ow6_28) (by decide) (by decide) ?_
            refine XS.iload X0.here hx rfl (hb hby ow6_7) rfl ?_
            refine XS.iloadN X0.here hx rfl (hb hby ow6_9) rfl ?_
            refine XS.icmpNo X0.here hx rfl (hb hby ow6_10) rfl (tlt (by decide : (3 : Int32) < (4 : Int32))).2.1 ?_
            refine XS.aloadN X0.here hx rfl (hb hby ow6_13) rfl rfl ?_
            refine XS.iload X0.here hx rfl (hb hby ow6_14) rfl ?_
            refine X0.baloadBytes hx (j := (3 : Int32)) (v := (.int bz3)) (by rw [e0]; exact Ar13.1) (State.isArrayOf_alike hZ.alike Ar13.2.1) Ar13.2.2 hin13 hat13 (g := (mkF m 16 #[rv ta, iv 35, iv 0, iv 4, iv 35, iv 3] [(.int (3 : Int32)), (.ref ta)])) rfl rfl (hb hby ow6_16) _ ?_
            refine XS.iload X0.here hx rfl (hb hby ow6_17) rfl ?_
            exact k)
        by_cases hq14 : bz3 = (35 : Int32)
        · skip
          have ch16 : ∀ t, SP p e below s₁ (mkF m 24 #[rv ta, iv 35, iv 0, iv 4, iv 35, iv 3] [(.int (3 : Int32))]) t → SP p e below s₁ (entryFrame m #[(.ref ta), (.int (35 : Int32)), (.int (0 : Int32)), (.int (4 : Int32))] 6) t := fun t k => ch15 t (by
              refine XS.icmpNo X0.here hx rfl (hb hby ow6_19) rfl (teq hq14).2 ?_
              show SP p e below s₁ (mkF m 22 #[rv ta, iv 35, iv 0, iv 4, iv 35, iv 3] []) t
              refine XS.iload X0.here hx rfl (hb hby ow6_22) rfl ?_
              exact k)
          obtain ⟨fs, hr, hrun, hended, hW, hsame⟩ := X0.leave (v := some (.int (3 : Int32))) (fun h => by rw [Bd.returns] at h; cases h)
          refine ⟨_, _, ch16 _ ?_, hrun, hended, _, _, rfl, ?_, ⟨_, rfl⟩, hW, hsame.mono (by decide) (by decide)⟩
          · show Steps p.tables e below (s₁.setTop (mkF m 24 #[rv ta, iv 35, iv 0, iv 4, iv 35, iv 3] [(.int (3 : Int32))])) _
            exact retI X0 hx Bd.returns (hb hby ow6_24) hr
          · show QV (some (.int rr)) h0 n0 _ s₁.heap _
            rw [e0]
            exact ⟨by rw [hrr, if_neg hq2, if_neg hq6, if_neg hq10, if_pos hq14], N0, rfl⟩
        · skip
          have ch17 : ∀ t, SP p e below s₁ (mkF m 32 #[rv ta, iv 35, iv 0, iv 4, iv 35, iv 4] [(.int (-1 : Int32))]) t → SP p e below s₁ (entryFrame m #[(.ref ta), (.int (35 : Int32)), (.int (0 : Int32)), (.int (4 : Int32))] 6) t := fun t k => ch15 t (by
              refine XS.icmpYes X0.here hx rfl (pc0 := 19) (pc' := 25) rfl (hb hby ow6_19) rfl (feq hq14).2 (by decide) (by decide) ?_
              show SP p e below s₁ (mkF m 25 #[rv ta, iv 35, iv 0, iv 4, iv 35, iv 3] []) t
              refine Jvm.Free.XT.iincV X0.here hx rfl (1 : Int32) (hb hby ow6_25) (by decide) rfl (l' := #[rv ta, iv 35, iv 0, iv 4, iv 35, iv 4]) (by rw [show ((3 : Int32) + (1 : Int32)) = (4 : Int32) from by decide]; rfl) ?_
              refine XS.goto X0.here hx rfl (pc0 := 28) (pc' := 7) rfl (hb hby ow6_28) (by decide) (by decide) ?_
              refine XS.iload X0.here hx rfl (hb hby ow6_7) rfl ?_
              refine XS.iloadN X0.here hx rfl (hb hby ow6_9) rfl ?_
              refine XS.icmpYes X0.here hx rfl (pc0 := 10) (pc' := 31) rfl (hb hby ow6_10) rfl (flt (by decide : ¬ (4 : Int32) < (4 : Int32))).2.1 (by decide) (by decide) ?_
              refine XS.iconst X0.here hx rfl (hb hby ow6_31) ?_
              exact k)
          obtain ⟨fs, hr, hrun, hended, hW, hsame⟩ := X0.leave (v := some (.int (-1 : Int32))) (fun h => by rw [Bd.returns] at h; cases h)
          refine ⟨_, _, ch17 _ ?_, hrun, hended, _, _, rfl, ?_, ⟨_, rfl⟩, hW, hsame.mono (by decide) (by decide)⟩
          · show Steps p.tables e below (s₁.setTop (mkF m 32 #[rv ta, iv 35, iv 0, iv 4, iv 35, iv 4] [(.int (-1 : Int32))])) _
            exact retI X0 hx Bd.returns (hb hby ow6_32) hr
          · show QV (some (.int rr)) h0 n0 _ s₁.heap _
            rw [e0]
            exact ⟨by rw [hrr, if_neg hq2, if_neg hq6, if_neg hq10, if_neg hq14], N0, rfl⟩
theorem own_ef_own_l1i (m : MethodId) {x0 : Addr} {x1 : Int32} {x2 : Int32} {x3 : Int32} : entryFrame m #[(.ref x0), (.int x1), (.int x2), (.int x3)] 4 = mkF m 0 #[rv x0, iv x1, iv x2, iv x3] [] := by first | (simp [entryFrame, mkF, argsToLocals, Value.category, maxLocals]; done) | rfl
set_option maxRecDepth 65536 in
set_option maxHeartbeats 40000000 in
theorem own_l1i (l : Launch) (Z : State) (a0 : Array Value) (hw : ∀ d ∈ tables_1, d.before a0 Z = true) (ws : List Jvm.Cond) (h0 : Heap) (n0 : Nat) (Z0 : n0 ≤ h0.size) (ta : Addr) (kt : ClassId) (nn : Int32) (ys : List Value) (Vt : Arv Z h0 ta kt .byte nn ys (.int (0 : Int32))) (rr : Int32) (hps : (0 : Int32) < nn) (HI : MetFree l ym21 (head1 (Jvm.Cond.code ym21 jdk_43_method_23_code 6 (some .int) :: []) rm0) (fun a U => a = #[(.ref ta), (.int (35 : Int32)), (.int (0 : Int32)), (.int nn)] ∧ Z.Warmed39 U.vm ∧ U.heap = h0) (fun _ _ _ _ _ => True) (fun _ U o U' => ∃ v L, o = .returned v ∧ QV (some (.int rr)) h0 n0 v U'.heap L ∧ FrameEnd U o U' L rm0.cells rm0.slots)) :
    MetFree l ym20 (head1 (Jvm.Cond.code ym20 jdk_43_method_22_code 4 (some .int) :: ws) rm6) (fun a U => a = #[(.ref ta), (.int (35 : Int32)), (.int (0 : Int32)), (.int nn)] ∧ Z.Warmed39 U.vm ∧ U.heap = h0) (fun _ _ _ _ _ => True) (fun _ U o U' => ∃ v L, o = .returned v ∧ QV (some (.int rr)) h0 n0 v U'.heap L ∧ FrameEnd U o U' L rm6.cells rm6.slots) := by
  refine MetFree.of_bodySF (plainFor_of_name own_pn_java_lang_StringLatin1) hisR ?_
  intro p e s m args below meth c s₁ Bd hml0 hP hK
  obtain ⟨rfl, hZ, hh⟩ := hP
  have hx := Bd.exec
  have hby := Bd.bytes
  have hml : c.maxLocals = 4 := hml0
  have hown : s.vm.findClass "java/lang/StringLatin1" = some m.cls := (findClass_of_methodNamed Bd.named :)
  have hnm := (name_of_methodNamed Bd.named Bd.method).1
  have X0 : Stand p l e rm6 s m #[(.ref ta), (.int (35 : Int32)), (.int (0 : Int32)), (.int nn)] below meth c s₁ [] 0 0 := Stand.of_body Bd
  have e0 : s₁.heap = h0 := by rw [← hh, Bd.state]; rfl
  have N0 := Fr.nil n0
  have pre0 : ∀ t, SP p e below s₁ (mkF m 0 #[rv ta, iv 35, iv 0, iv nn] []) t → SP p e below s₁ (entryFrame m #[(.ref ta), (.int (35 : Int32)), (.int (0 : Int32)), (.int nn)] 4) t := fun t k => castTop (own_ef_own_l1i m) k
  obtain ⟨vv1, _, ⟨T1, L1, kk1, nn1⟩, -, X1, ⟨Lc1, hQ1, l1, y1, z1⟩, st1⟩ := Jvm.LawKit.callS X0 hx (y := ym18) hown (mvT hZ (own_wi hw 64 rfl)) (mvT hZ (own_wi hw 65 rfl)) (mvT hZ (own_wi hw 62 rfl)) (mvT hZ (own_wi hw 66 rfl)) (by decide) (backOf (W := 0) (own_can l Z a0 hw [] h0 n0 (Nat.le_trans Z0 (Keep.refl h0 []).1) ) hZ (own_wi hw 66 rfl) (own_wi hw 62 rfl) (by decide) (by decide)) (g := (mkF m 1 #[rv ta, iv 35, iv 0, iv nn] [(.int (35 : Int32))])) rfl (by rw [hml]; rfl) (argsL := [(.int (35 : Int32))]) (rest := []) (lenOf own_pd__I_Z rfl) rfl (by show 2 * 0 + _ ≤ _; exact Nat.le_of_eq rfl) (hb hby ow7_1) (fun _ _ => ⟨rfl, e0, (by decide : 0 + 0 ≤ _), (by decide : 0 + 0 ≤ _)⟩)
  dsimp only [Pt.U, Pt.locs, Pt.cells, Pt.slots] at X1 l1 y1 z1 st1 hQ1
  subst l1 y1 z1
  obtain ⟨rfl, Nq1, e1⟩ := hQ1
  have N1 := Fr.app N0 Nq1
  have ch2 : ∀ t, SP p e below T1 (mkF m 4 #[rv ta, iv 35, iv 0, iv nn] [(.int (1 : Int32))]) t → SP p e below s₁ (entryFrame m #[(.ref ta), (.int (35 : Int32)), (.int (0 : Int32)), (.int nn)] 4) t := fun t k => pre0 t (by
      show SP p e below s₁ (mkF m 0 #[rv ta, iv 35, iv 0, iv nn] []) t
      refine XS.iloadN X0.here hx rfl (hb hby ow7_0) rfl ?_
      show SP p e below s₁ (mkF m 1 #[rv ta, iv 35, iv 0, iv nn] [(.int (35 : Int32))]) t
      exact st1 t k)
  obtain ⟨vv3, _, ⟨T3, L3, kk3, nn3⟩, -, X3, ⟨Lc3, hQ3, l3, y3, z3⟩, st3⟩ := Jvm.LawKit.callS X1 hx (y := ym3) hown (mvT hZ (own_wi hw 67 rfl)) (mvT hZ (own_wi hw 68 rfl)) (mvT hZ (own_wi hw 69 rfl)) (mvT hZ (own_wi hw 70 rfl)) (by decide) (backOf (W := 0) (own_max l Z a0 hw [] h0 n0 (Nat.le_trans Z0 (Keep.refl h0 []).1) ) hZ (own_wi hw 70 rfl) (own_wi hw 69 rfl) (by decide) (by decide)) (g := (mkF m 11 #[rv ta, iv 35, iv 0, iv nn] [(.int (0 : Int32)), (.int (0 : Int32))])) rfl (by rw [hml]; rfl) (argsL := [(.int (0 : Int32)), (.int (0 : Int32))]) (rest := []) (lenOf own_pd__II_I rfl) rfl (by show 2 * 0 + _ ≤ _; exact Nat.le_of_eq rfl) (hb hby ow7_11) (fun _ _ => ⟨rfl, e1, (by decide : 0 + 0 ≤ _), (by decide : 0 + 0 ≤ _)⟩)
  dsimp only [Pt.U, Pt.locs, Pt.cells, Pt.slots] at X3 l3 y3 z3 st3 hQ3
  subst l3 y3 z3
  obtain ⟨rfl, Nq3, e3⟩ := hQ3
  have N3 := Fr.app N1 Nq3
  have ch4 : ∀ t, SP p e below T3 (mkF m 14 #[rv ta, iv 35, iv 0, iv nn] [(.int (0 : Int32))]) t → SP p e below s₁ (entryFrame m #[(.ref ta), (.int (35 : Int32)), (.int (0 : Int32)), (.int nn)] 4) t := fun t k => ch2 t (by
      refine XS.ifYes X1.here hx rfl (pc0 := 4) (pc' := 9) rfl (hb hby ow7_4) rfl ((if0 _ _).trans (feq (by decide : ¬ (1 : Int32) = (0 : Int32))).2) (by decide) (by decide) ?_
      refine XS.iloadN X1.here hx rfl (hb hby ow7_9) rfl ?_
      refine XS.iconst X1.here hx rfl (hb hby ow7_10) ?_
      show SP p e below T1 (mkF m 11 #[rv ta, iv 35, iv 0, iv nn] [(.int (0 : Int32)), (.int (0 : Int32))]) t
      exact st3 t k)
  obtain ⟨cl5, Ar5, -, Sz5, Ng5, -, -⟩ := id Vt
  obtain ⟨vv6, _, ⟨T6, L6, kk6, nn6⟩, -, X6, ⟨Lc6, hQ6, l6, y6, z6⟩, st6⟩ := Jvm.LawKit.callS X3 hx (y := ym4) hown (mvT hZ (own_wi hw 71 rfl)) (mvT hZ (own_wi hw 72 rfl)) (mvT hZ (own_wi hw 69 rfl)) (mvT hZ (own_wi hw 73 rfl)) (by decide) (backOf (W := 0) (own_min l Z a0 hw [] h0 n0 (Nat.le_trans Z0 (Keep.refl h0 []).1) nn) hZ (own_wi hw 73 rfl) (own_wi hw 69 rfl) (by decide) (by decide)) (g := (mkF m 18 #[rv ta, iv 35, iv 0, iv nn] [(.int nn), (.int nn)])) rfl (by rw [hml]; rfl) (argsL := [(.int nn), (.int nn)]) (rest := []) (lenOf own_pd__II_I rfl) rfl (by show 2 * 0 + _ ≤ _; exact Nat.le_of_eq rfl) (hb hby ow7_18) (fun _ _ => ⟨rfl, e3, (by decide : 0 + 0 ≤ _), (by decide : 0 + 0 ≤ _)⟩)
  dsimp only [Pt.U, Pt.locs, Pt.cells, Pt.slots] at X6 l6 y6 z6 st6 hQ6
  subst l6 y6 z6
  obtain ⟨rfl, Nq6, e6⟩ := hQ6
  have N6 := Fr.app N3 Nq6
  have ch7 : ∀ t, SP p e below T6 (mkF m 21 #[rv ta, iv 35, iv 0, iv nn] [(.int nn)]) t → SP p e below s₁ (entryFrame m #[(.ref ta), (.int (35 : Int32)), (.int (0 : Int32)), (.int nn)] 4) t := fun t k => ch4 t (by
      show SP p e below T3 (mkF m 14 #[rv ta, iv 35, iv 0, iv nn] [(.int (0 : Int32))]) t
      refine XS.istoreN X3.here hx rfl (hb hby ow7_14) rfl (l' := #[rv ta, iv 35, iv 0, iv nn]) rfl ?_
      refine XS.iloadN X3.here hx rfl (hb hby ow7_15) rfl ?_
      refine XS.aloadN X3.here hx rfl (hb hby ow7_16) rfl rfl ?_
      show SP p e below T3 (mkF m 17 #[rv ta, iv 35, iv 0, iv nn] [(.ref ta), (.int nn)]) t
      refine X3.arraylength hx (by rw [e3]; exact Ar5.1) (State.isArrayOf_alike hZ.alike Ar5.2.1) (g := (mkF m 17 #[rv ta, iv 35, iv 0, iv nn] [(.ref ta), (.int nn)])) rfl rfl (hb hby ow7_17) _ ?_
      rw [len_of Sz5 Ng5]
      show SP p e below T3 (mkF m 18 #[rv ta, iv 35, iv 0, iv nn] [(.int nn), (.int nn)]) t
      exact st6 t k)
  obtain ⟨vv8, _, ⟨T8, L8, kk8, nn8⟩, -, X8, ⟨Lc8, hQ8, l8, y8, z8⟩, st8⟩ := Jvm.LawKit.callS X6 hx (y := ym21) hown (mvT hZ (own_wi hw 84 rfl)) (mvT hZ (own_wi hw 85 rfl)) (mvT hZ (own_wi hw 62 rfl)) (mvT hZ (own_wi hw 86 rfl)) (by decide) (backOf (W := 0) HI hZ (own_wi hw 86 rfl) (own_wi hw 62 rfl) (by decide) (by decide)) (g := (mkF m 33 #[rv ta, iv 35, iv 0, iv nn] [(.int nn), (.int (0 : Int32)), (.int (35 : Int32)), (.ref ta)])) rfl (by rw [hml]; rfl) (argsL := [(.ref ta), (.int (35 : Int32)), (.int (0 : Int32)), (.int nn)]) (rest := []) (lenOf own_pd___BIII_I rfl) rfl (by show 2 * 0 + _ ≤ _; exact Nat.le_of_eq rfl) (hb hby ow7_33) (fun _ _ => ⟨rfl, e6, (by decide : 0 + 0 ≤ _), (by decide : 0 + 0 ≤ _)⟩)
  dsimp only [Pt.U, Pt.locs, Pt.cells, Pt.slots] at X8 l8 y8 z8 st8 hQ8
  subst l8 y8 z8
  obtain ⟨rfl, Nq8, e8⟩ := hQ8
  have N8 := Fr.app N6 Nq8
  have ch9 : ∀ t, SP p e below T8 (mkF m 36 #[rv ta, iv 35, iv 0, iv nn] [(.int rr)]) t → SP p e below s₁ (entryFrame m #[(.ref ta), (.int (35 : Int32)), (.int (0 : Int32)), (.int nn)] 4) t := fun t k => ch7 t (by
      show SP p e below T6 (mkF m 21 #[rv ta, iv 35, iv 0, iv nn] [(.int nn)]) t
      refine XS.istoreN X6.here hx rfl (hb hby ow7_21) rfl (l' := #[rv ta, iv 35, iv 0, iv nn]) rfl ?_
      refine XS.iloadN X6.here hx rfl (hb hby ow7_22) rfl ?_
      refine XS.iloadN X6.here hx rfl (hb hby ow7_23) rfl ?_
      refine XS.icmpYes X6.here hx rfl (pc0 := 24) (pc' := 29) rfl (hb hby ow7_24) rfl (tlt hps).1 (by decide) (by decide) ?_
      refine XS.aloadN X6.here hx rfl (hb hby ow7_29) rfl rfl ?_
      show SP p e below T6 (mkF m 30 #[rv ta, iv 35, iv 0, iv nn] [(.ref ta)]) t
      refine XS.iloadN X6.here hx rfl (hb hby ow7_30) rfl ?_
      refine XS.iloadN X6.here hx rfl (hb hby ow7_31) rfl ?_
      refine XS.iloadN X6.here hx rfl (hb hby ow7_32) rfl ?_
      show SP p e below T6 (mkF m 33 #[rv ta, iv 35, iv 0, iv nn] [(.int nn), (.int (0 : Int32)), (.int (35 : Int32)), (.ref ta)]) t
      exact st8 t k)
  obtain ⟨fs, hr, hrun, hended, hW, hsame⟩ := X8.leave (v := some (.int rr)) (fun h => by rw [Bd.returns] at h; cases h)
  refine ⟨_, _, ch9 _ ?_, hrun, hended, _, _, rfl, ?_, ⟨_, rfl⟩, hW, hsame.mono (by decide) (by decide)⟩
  · show Steps p.tables e below (T8.setTop (mkF m 36 #[rv ta, iv 35, iv 0, iv nn] [(.int rr)])) _
    exact retI X8 hx Bd.returns (hb hby ow7_36) hr
  · show QV (some (.int rr)) h0 n0 _ T8.heap _
    rw [e8]
    exact ⟨rfl, N8, rfl⟩
theorem own_ef_own_l1i_z (m : MethodId) {x0 : Addr} {x1 : Int32} {x2 : Int32} {x3 : Int32} : entryFrame m #[(.ref x0), (.int x1), (.int x2), (.int x3)] 4 = mkF m 0 #[rv x0, iv x1, iv x2, iv x3] [] := by first | (simp [entryFrame, mkF, argsToLocals, Value.category, maxLocals]; done) | rfl
set_option maxRecDepth 65536 in
set_option maxHeartbeats 40000000 in
theorem own_l1i_z (l : Launch) (Z : State) (a0 : Array Value) (hw : ∀ d ∈ tables_1, d.before a0 Z = true) (ws : List Jvm.Cond) (h0 : Heap) (n0 : Nat) (Z0 : n0 ≤ h0.size) (ta : Addr) (kt : ClassId) (Vt : Arv Z h0 ta kt .byte (0 : Int32) [] (.int (0 : Int32))) :
    MetFree l ym20 (head1 (Jvm.Cond.code ym20 jdk_43_method_22_code 4 (some .int) :: ws) rm6) (fun a U => a = #[(.ref ta), (.int (35 : Int32)), (.int (0 : Int32)), (.int (0 : Int32))] ∧ Z.Warmed39 U.vm ∧ U.heap = h0) (fun _ _ _ _ _ => True) (fun _ U o U' => ∃ v L, o = .returned v ∧ QV (some (.int (-1 : Int32))) h0 n0 v U'.heap L ∧ FrameEnd U o U' L rm6.cells rm6.slots) := by
  refine MetFree.of_bodySF (plainFor_of_name own_pn_java_lang_StringLatin1) hisR ?_
  intro p e s m args below meth c s₁ Bd hml0 hP hK
  obtain ⟨rfl, hZ, hh⟩ := hP
  have hx := Bd.exec
  have hby := Bd.bytes
  have hml : c.maxLocals = 4 := hml0
  have hown : s.vm.findClass "java/lang/StringLatin1" = some m.cls := (findClass_of_methodNamed Bd.named :)
  have hnm := (name_of_methodNamed Bd.named Bd.method).1
  have X0 : Stand p l e rm6 s m #[(.ref ta), (.int (35 : Int32)), (.int (0 : Int32)), (.int (0 : Int32))] below meth c s₁ [] 0 0 := Stand.of_body Bd
  have e0 : s₁.heap = h0 := by rw [← hh, Bd.state]; rfl
  have N0 := Fr.nil n0
  have pre0 : ∀ t, SP p e below s₁ (mkF m 0 #[rv ta, iv 35, iv 0, iv 0] []) t → SP p e below s₁ (entryFrame m #[(.ref ta), (.int (35 : Int32)), (.int (0 : Int32)), (.int (0 : Int32))] 4) t := fun t k => castTop (own_ef_own_l1i_z m) k
  obtain ⟨vv1, _, ⟨T1, L1, kk1, nn1⟩, -, X1, ⟨Lc1, hQ1, l1, y1, z1⟩, st1⟩ := Jvm.LawKit.callS X0 hx (y := ym18) hown (mvT hZ (own_wi hw 64 rfl)) (mvT hZ (own_wi hw 65 rfl)) (mvT hZ (own_wi hw 62 rfl)) (mvT hZ (own_wi hw 66 rfl)) (by decide) (backOf (W := 0) (own_can l Z a0 hw [] h0 n0 (Nat.le_trans Z0 (Keep.refl h0 []).1) ) hZ (own_wi hw 66 rfl) (own_wi hw 62 rfl) (by decide) (by decide)) (g := (mkF m 1 #[rv ta, iv 35, iv 0, iv 0] [(.int (35 : Int32))])) rfl (by rw [hml]; rfl) (argsL := [(.int (35 : Int32))]) (rest := []) (lenOf own_pd__I_Z rfl) rfl (by show 2 * 0 + _ ≤ _; exact Nat.le_of_eq rfl) (hb hby ow7_1) (fun _ _ => ⟨rfl, e0, (by decide : 0 + 0 ≤ _), (by decide : 0 + 0 ≤ _)⟩)
  dsimp only [Pt.U, Pt.locs, Pt.cells, Pt.slots] at X1 l1 y1 z1 st1 hQ1
  subst l1 y1 z1
  obtain ⟨rfl, Nq1, e1⟩ := hQ1
  have N1 := Fr.app N0 Nq1
  have ch2 : ∀ t, SP p e below T1 (mkF m 4 #[rv ta, iv 35, iv 0, iv 0] [(.int (1 : Int32))]) t → SP p e below s₁ (entryFrame m #[(.ref ta), (.int (35 : Int32)), (.int (0 : Int32)), (.int (0 : Int32))] 4) t := fun t k => pre0 t (by
      show SP p e below s₁ (mkF m 0 #[rv ta, iv 35, iv 0, iv 0] []) t
      refine XS.iloadN X0.here hx rfl (hb hby ow7_0) rfl ?_
      show SP p e below s₁ (mkF m 1 #[rv ta, iv 35, iv 0, iv 0] [(.int (35 : Int32))]) t
      exact st1 t k)
  obtain ⟨vv3, _, ⟨T3, L3, kk3, nn3⟩, -, X3, ⟨Lc3, hQ3, l3, y3, z3⟩, st3⟩ := Jvm.LawKit.callS X1 hx (y := ym3) hown (mvT hZ (own_wi hw 67 rfl)) (mvT hZ (own_wi hw 68 rfl)) (mvT hZ (own_wi hw 69 rfl)) (mvT hZ (own_wi hw 70 rfl)) (by decide) (backOf (W := 0) (own_max l Z a0 hw [] h0 n0 (Nat.le_trans Z0 (Keep.refl h0 []).1) ) hZ (own_wi hw 70 rfl) (own_wi hw 69 rfl) (by decide) (by decide)) (g := (mkF m 11 #[rv ta, iv 35, iv 0, iv 0] [(.int (0 : Int32)), (.int (0 : Int32))])) rfl (by rw [hml]; rfl) (argsL := [(.int (0 : Int32)), (.int (0 : Int32))]) (rest := []) (lenOf own_pd__II_I rfl) rfl (by show 2 * 0 + _ ≤ _; exact Nat.le_of_eq rfl) (hb hby ow7_11) (fun _ _ => ⟨rfl, e1, (by decide : 0 + 0 ≤ _), (by decide : 0 + 0 ≤ _)⟩)
  dsimp only [Pt.U, Pt.locs, Pt.cells, Pt.slots] at X3 l3 y3 z3 st3 hQ3
  subst l3 y3 z3
  obtain ⟨rfl, Nq3, e3⟩ := hQ3
  have N3 := Fr.app N1 Nq3
  have ch4 : ∀ t, SP p e below T3 (mkF m 14 #[rv ta, iv 35, iv 0, iv 0] [(.int (0 : Int32))]) t → SP p e below s₁ (entryFrame m #[(.ref ta), (.int (35 : Int32)), (.int (0 : Int32)), (.int (0 : Int32))] 4) t := fun t k => ch2 t (by
      refine XS.ifYes X1.here hx rfl (pc0 := 4) (pc' := 9) rfl (hb hby ow7_4) rfl ((if0 _ _).trans (feq (by decide : ¬ (1 : Int32) = (0 : Int32))).2) (by decide) (by decide) ?_
      refine XS.iloadN X1.here hx rfl (hb hby ow7_9) rfl ?_
      refine XS.iconst X1.here hx rfl (hb hby ow7_10) ?_
      show SP p e below T1 (mkF m 11 #[rv ta, iv 35, iv 0, iv 0] [(.int (0 : Int32)), (.int (0 : Int32))]) t
      exact st3 t k)
  obtain ⟨cl5, Ar5, -, Sz5, Ng5, -, -⟩ := id Vt
  obtain ⟨vv6, _, ⟨T6, L6, kk6, nn6⟩, -, X6, ⟨Lc6, hQ6, l6, y6, z6⟩, st6⟩ := Jvm.LawKit.callS X3 hx (y := ym4) hown (mvT hZ (own_wi hw 71 rfl)) (mvT hZ (own_wi hw 72 rfl)) (mvT hZ (own_wi hw 69 rfl)) (mvT hZ (own_wi hw 73 rfl)) (by decide) (backOf (W := 0) (own_min l Z a0 hw [] h0 n0 (Nat.le_trans Z0 (Keep.refl h0 []).1) (0 : Int32)) hZ (own_wi hw 73 rfl) (own_wi hw 69 rfl) (by decide) (by decide)) (g := (mkF m 18 #[rv ta, iv 35, iv 0, iv 0] [(.int (0 : Int32)), (.int (0 : Int32))])) rfl (by rw [hml]; rfl) (argsL := [(.int (0 : Int32)), (.int (0 : Int32))]) (rest := []) (lenOf own_pd__II_I rfl) rfl (by show 2 * 0 + _ ≤ _; exact Nat.le_of_eq rfl) (hb hby ow7_18) (fun _ _ => ⟨rfl, e3, (by decide : 0 + 0 ≤ _), (by decide : 0 + 0 ≤ _)⟩)
  dsimp only [Pt.U, Pt.locs, Pt.cells, Pt.slots] at X6 l6 y6 z6 st6 hQ6
  subst l6 y6 z6
  obtain ⟨rfl, Nq6, e6⟩ := hQ6
  have N6 := Fr.app N3 Nq6
  have ch7 : ∀ t, SP p e below T6 (mkF m 21 #[rv ta, iv 35, iv 0, iv 0] [(.int (0 : Int32))]) t → SP p e below s₁ (entryFrame m #[(.ref ta), (.int (35 : Int32)), (.int (0 : Int32)), (.int (0 : Int32))] 4) t := fun t k => ch4 t (by
      show SP p e below T3 (mkF m 14 #[rv ta, iv 35, iv 0, iv 0] [(.int (0 : Int32))]) t
      refine XS.istoreN X3.here hx rfl (hb hby ow7_14) rfl (l' := #[rv ta, iv 35, iv 0, iv 0]) rfl ?_
      refine XS.iloadN X3.here hx rfl (hb hby ow7_15) rfl ?_
      refine XS.aloadN X3.here hx rfl (hb hby ow7_16) rfl rfl ?_
      show SP p e below T3 (mkF m 17 #[rv ta, iv 35, iv 0, iv 0] [(.ref ta), (.int (0 : Int32))]) t
      refine X3.arraylength hx (by rw [e3]; exact Ar5.1) (State.isArrayOf_alike hZ.alike Ar5.2.1) (g := (mkF m 17 #[rv ta, iv 35, iv 0, iv 0] [(.ref ta), (.int (0 : Int32))])) rfl rfl (hb hby ow7_17) _ ?_
      rw [len_of Sz5 Ng5]
      show SP p e below T3 (mkF m 18 #[rv ta, iv 35, iv 0, iv 0] [(.int (0 : Int32)), (.int (0 : Int32))]) t
      exact st6 t k)
  have ch8 : ∀ t, SP p e below T6 (mkF m 28 #[rv ta, iv 35, iv 0, iv 0] [(.int (-1 : Int32))]) t → SP p e below s₁ (entryFrame m #[(.ref ta), (.int (35 : Int32)), (.int (0 : Int32)), (.int (0 : Int32))] 4) t := fun t k => ch7 t (by
      show SP p e below T6 (mkF m 21 #[rv ta, iv 35, iv 0, iv 0] [(.int (0 : Int32))]) t
      refine XS.istoreN X6.here hx rfl (hb hby ow7_21) rfl (l' := #[rv ta, iv 35, iv 0, iv 0]) rfl ?_
      refine XS.iloadN X6.here hx rfl (hb hby ow7_22) rfl ?_
      refine XS.iloadN X6.here hx rfl (hb hby ow7_23) rfl ?_
      refine XS.icmpNo X6.here hx rfl (hb hby ow7_24) rfl (flt (by decide : ¬ (0 : Int32) < (0 : Int32))).1 ?_
      refine XS.iconst X6.here hx rfl (hb hby ow7_27) ?_
      exact k)
  obtain ⟨fs, hr, hrun, hended, hW, hsame⟩ := X6.leave (v := some (.int (-1 : Int32))) (fun h => by rw [Bd.returns] at h; cases h)
  refine ⟨_, _, ch8 _ ?_, hrun, hended, _, _, rfl, ?_, ⟨_, rfl⟩, hW, hsame.mono (by decide) (by decide)⟩
  · show Steps p.tables e below (T6.setTop (mkF m 28 #[rv ta, iv 35, iv 0, iv 0] [(.int (-1 : Int32))])) _
    exact retI X6 hx Bd.returns (hb hby ow7_28) hr
  · show QV (some (.int (-1 : Int32))) h0 n0 _ T6.heap _
    rw [e6]
    exact ⟨rfl, N6, rfl⟩
theorem own_ef_own_iof2 (m : MethodId) {x0 : Addr} {x1 : Int32} {x2 : Int32} : entryFrame m #[(.ref x0), (.int x1), (.int x2)] 3 = mkF m 0 #[rv x0, iv x1, iv x2] [] := by first | (simp [entryFrame, mkF, argsToLocals, Value.category, maxLocals]; done) | rfl
set_option maxRecDepth 65536 in
set_option maxHeartbeats 40000000 in
theorem own_iof2 (l : Launch) (Z : State) (a0 : Array Value) (hw : ∀ d ∈ tables_1, d.before a0 Z = true) (ws : List Jvm.Cond) (h0 : Heap) (n0 : Nat) (Z0 : n0 ≤ h0.size) (so ta : Addr) (kt : ClassId) (nn : Int32) (ys : List Value) (Eo : Exa Z h0 so "java/lang/String") (Fc : Fld Z h0 so "java/lang/String" "coder" "B" (.int (0 : Int32))) (Fv : Fld Z h0 so "java/lang/String" "value" "[B" (.ref ta)) (Vt : Arv Z h0 ta kt .byte nn ys (.int (0 : Int32))) (rr : Int32) (HL : MetFree l ym20 (head1 (Jvm.Cond.code ym20 jdk_43_method_22_code 4 (some .int) :: []) rm6) (fun a U => a = #[(.ref ta), (.int (35 : Int32)), (.int (0 : Int32)), (.int nn)] ∧ Z.Warmed39 U.vm ∧ U.heap = h0) (fun _ _ _ _ _ => True) (fun _ U o U' => ∃ v L, o = .returned v ∧ QV (some (.int rr)) h0 n0 v U'.heap L ∧ FrameEnd U o U' L rm6.cells rm6.slots)) (zC : Int32) (S_CS : Sta Z h0 "java/lang/String" "COMPACT_STRINGS" "Z" (.int zC)) (P5 : ¬ (zC = (0 : Int32))) :
    MetFree l ym13 (head1 (Jvm.Cond.code ym13 jdk_42_method_80_code 3 (some .int) :: ws) rm9) (fun a U => a = #[(.ref so), (.int (35 : Int32)), (.int (0 : Int32))] ∧ Z.Warmed39 U.vm ∧ U.heap = h0) (fun _ _ _ _ _ => True) (fun _ U o U' => ∃ v L, o = .returned v ∧ QV (some (.int rr)) h0 n0 v U'.heap L ∧ FrameEnd U o U' L rm9.cells rm9.slots) := by
  refine MetFree.of_bodySF (plainFor_of_name own_pn_java_lang_String) hisR ?_
  intro p e s m args below meth c s₁ Bd hml0 hP hK
  obtain ⟨rfl, hZ, hh⟩ := hP
  have hx := Bd.exec
  have hby := Bd.bytes
  have hml : c.maxLocals = 3 := hml0
  have hown : s.vm.findClass "java/lang/String" = some m.cls := (findClass_of_methodNamed Bd.named :)
  have hnm := (name_of_methodNamed Bd.named Bd.method).1
  have X0 : Stand p l e rm9 s m #[(.ref so), (.int (35 : Int32)), (.int (0 : Int32))] below meth c s₁ [] 0 0 := Stand.of_body Bd
  have e0 : s₁.heap = h0 := by rw [← hh, Bd.state]; rfl
  have N0 := Fr.nil n0
  have pre0 : ∀ t, SP p e below s₁ (mkF m 0 #[rv so, iv 35, iv 0] []) t → SP p e below s₁ (entryFrame m #[(.ref so), (.int (35 : Int32)), (.int (0 : Int32))] 3) t := fun t k => castTop (own_ef_own_iof2 m) k
  obtain ⟨cq1, kq1, qa1, qb1, qc1⟩ := isOf hZ e0 Eo
  obtain ⟨vv2, _, ⟨T2, L2, kk2, nn2⟩, -, X2, ⟨Lc2, hQ2, l2, y2, z2⟩, st2⟩ := X0.virtualBack hx (y := ym14) (z := ym14) hown (mvT hZ (own_wi hw 44 rfl)) (mvT hZ (own_wi hw 45 rfl)) (notFace_of_selects (args := #[]) (mvT hZ (own_wi hw 47 rfl))) (mvT hZ (own_wi hw 47 rfl)) (mvT hZ (own_wi hw 46 rfl)) (by decide) (backOf (W := 0) (own_isl l Z a0 hw [] h0 n0 (Nat.le_trans Z0 (Keep.refl h0 []).1) so Eo Fc zC S_CS P5) hZ (own_wi hw 48 rfl) (own_wi hw 11 rfl) (by decide) (by decide)) qa1 qc1 (g := (mkF m 1 #[rv so, iv 35, iv 0] [(.ref so)])) rfl (by rw [hml]; rfl) (Steps.refl _) (argsL := []) (rest := []) (lenOf own_pd___Z rfl) rfl (by show 2 * 0 + _ ≤ _; exact Nat.le_of_eq rfl) (hb hby ow8_1) (fun _ _ => ⟨rfl, e0, (by decide : 0 + 0 ≤ _), (by decide : 0 + 0 ≤ _)⟩)
  dsimp only [Pt.U, Pt.locs, Pt.cells, Pt.slots] at X2 l2 y2 z2 st2 hQ2
  subst l2 y2 z2
  obtain ⟨rfl, Nq2, e2⟩ := hQ2
  have N2 := Fr.app N0 Nq2
  have ch3 : ∀ t, SP p e below T2 (mkF m 4 #[rv so, iv 35, iv 0] [(.int (1 : Int32))]) t → SP p e below s₁ (entryFrame m #[(.ref so), (.int (35 : Int32)), (.int (0 : Int32))] 3) t := fun t k => pre0 t (by
      show SP p e below s₁ (mkF m 0 #[rv so, iv 35, iv 0] []) t
      refine XS.aloadN X0.here hx rfl (hb hby ow8_0) rfl rfl ?_
      show SP p e below s₁ (mkF m 1 #[rv so, iv 35, iv 0] [(.ref so)]) t
      exact st2.trans k)
  obtain ⟨T4, X4, e4, st4⟩ := getF X2 hx hZ hown (host := "") (Or.inl (own_wi hw 28 rfl)) Via.refl e2 Fv (g := (mkF m 8 #[rv so, iv 35, iv 0] [(.ref so)])) rfl rfl (hb hby ow8_8)
  have ch5 : ∀ t, SP p e below T4 (mkF m 11 #[rv so, iv 35, iv 0] [(.ref ta)]) t → SP p e below s₁ (entryFrame m #[(.ref so), (.int (35 : Int32)), (.int (0 : Int32))] 3) t := fun t k => ch3 t (by
      refine XS.ifNo X2.here hx rfl (hb hby ow8_4) rfl ((if0 _ _).trans (feq (by decide : ¬ (1 : Int32) = (0 : Int32))).1) ?_
      refine XS.aloadN X2.here hx rfl (hb hby ow8_7) rfl rfl ?_
      show SP p e below T2 (mkF m 8 #[rv so, iv 35, iv 0] [(.ref so)]) t
      exact st4 t k)
  obtain ⟨cq6, kq6, qa6, qb6, qc6⟩ := isOf hZ e4 Eo
  obtain ⟨vv7, _, ⟨T7, L7, kk7, nn7⟩, -, X7, ⟨Lc7, hQ7, l7, y7, z7⟩, st7⟩ := X4.virtualBack hx (y := ym15) (z := ym15) hown (mvT hZ (own_wi hw 50 rfl)) (mvT hZ (own_wi hw 51 rfl)) (notFace_of_selects (args := #[]) (mvT hZ (own_wi hw 53 rfl))) (mvT hZ (own_wi hw 53 rfl)) (mvT hZ (own_wi hw 52 rfl)) (by decide) (backOf (W := 3) (own_ln l Z a0 hw [] h0 n0 (Nat.le_trans Z0 (Keep.refl h0 []).1) so ta kt nn ys Eo Fc Fv Vt zC S_CS P5) hZ (own_wi hw 54 rfl) (own_wi hw 11 rfl) (by decide) (by decide)) qa6 qc6 (g := (mkF m 14 #[rv so, iv 35, iv 0] [(.ref so), (.int (0 : Int32)), (.int (35 : Int32)), (.ref ta)])) rfl (by rw [hml]; rfl) (Steps.refl _) (argsL := []) (rest := [(.int (0 : Int32)), (.int (35 : Int32)), (.ref ta)]) (lenOf own_pd___I rfl) rfl (by show 2 * 0 + _ ≤ _; exact Nat.le_of_eq rfl) (hb hby ow8_14) (fun _ _ => ⟨rfl, e4, (by decide : 0 + 0 ≤ _), (by decide : 0 + 0 ≤ _)⟩)
  dsimp only [Pt.U, Pt.locs, Pt.cells, Pt.slots] at X7 l7 y7 z7 st7 hQ7
  subst l7 y7 z7
  obtain ⟨rfl, Nq7, e7⟩ := hQ7
  have N7 := Fr.app N2 Nq7
  have ch8 : ∀ t, SP p e below T7 (mkF m 17 #[rv so, iv 35, iv 0] [(.int nn), (.int (0 : Int32)), (.int (35 : Int32)), (.ref ta)]) t → SP p e below s₁ (entryFrame m #[(.ref so), (.int (35 : Int32)), (.int (0 : Int32))] 3) t := fun t k => ch5 t (by
      show SP p e below T4 (mkF m 11 #[rv so, iv 35, iv 0] [(.ref ta)]) t
      refine XS.iloadN X4.here hx rfl (hb hby ow8_11) rfl ?_
      refine XS.iloadN X4.here hx rfl (hb hby ow8_12) rfl ?_
      refine XS.aloadN X4.here hx rfl (hb hby ow8_13) rfl rfl ?_
      show SP p e below T4 (mkF m 14 #[rv so, iv 35, iv 0] [(.ref so), (.int (0 : Int32)), (.int (35 : Int32)), (.ref ta)]) t
      exact st7.trans k)
  obtain ⟨vv9, _, ⟨T9, L9, kk9, nn9⟩, -, X9, ⟨Lc9, hQ9, l9, y9, z9⟩, st9⟩ := Jvm.LawKit.callS X7 hx (y := ym20) hown (mvT hZ (own_wi hw 60 rfl)) (mvT hZ (own_wi hw 61 rfl)) (mvT hZ (own_wi hw 62 rfl)) (mvT hZ (own_wi hw 63 rfl)) (by decide) (backOf (W := 0) HL hZ (own_wi hw 63 rfl) (own_wi hw 62 rfl) (by decide) (by decide)) (g := (mkF m 17 #[rv so, iv 35, iv 0] [(.int nn), (.int (0 : Int32)), (.int (35 : Int32)), (.ref ta)])) rfl (by rw [hml]; rfl) (argsL := [(.ref ta), (.int (35 : Int32)), (.int (0 : Int32)), (.int nn)]) (rest := []) (lenOf own_pd___BIII_I rfl) rfl (by show 2 * 0 + _ ≤ _; exact Nat.le_of_eq rfl) (hb hby ow8_17) (fun _ _ => ⟨rfl, e7, (by decide : 0 + 0 ≤ _), (by decide : 0 + 0 ≤ _)⟩)
  dsimp only [Pt.U, Pt.locs, Pt.cells, Pt.slots] at X9 l9 y9 z9 st9 hQ9
  subst l9 y9 z9
  obtain ⟨rfl, Nq9, e9⟩ := hQ9
  have N9 := Fr.app N7 Nq9
  have ch10 : ∀ t, SP p e below T9 (mkF m 20 #[rv so, iv 35, iv 0] [(.int rr)]) t → SP p e below s₁ (entryFrame m #[(.ref so), (.int (35 : Int32)), (.int (0 : Int32))] 3) t := fun t k => ch8 t (by
      show SP p e below T7 (mkF m 17 #[rv so, iv 35, iv 0] [(.int nn), (.int (0 : Int32)), (.int (35 : Int32)), (.ref ta)]) t
      exact st9 t k)
  have ch11 : ∀ t, SP p e below T9 (mkF m 36 #[rv so, iv 35, iv 0] [(.int rr)]) t → SP p e below s₁ (entryFrame m #[(.ref so), (.int (35 : Int32)), (.int (0 : Int32))] 3) t := fun t k => ch10 t (by
      show SP p e below T9 (mkF m 20 #[rv so, iv 35, iv 0] [(.int rr)]) t
      refine XS.goto X9.here hx rfl (pc0 := 20) (pc' := 36) rfl (hb hby ow8_20) (by decide) (by decide) ?_
      exact k)
  obtain ⟨fs, hr, hrun, hended, hW, hsame⟩ := X9.leave (v := some (.int rr)) (fun h => by rw [Bd.returns] at h; cases h)
  refine ⟨_, _, ch11 _ ?_, hrun, hended, _, _, rfl, ?_, ⟨_, rfl⟩, hW, hsame.mono (by decide) (by decide)⟩
  · show Steps p.tables e below (T9.setTop (mkF m 36 #[rv so, iv 35, iv 0] [(.int rr)])) _
    exact retI X9 hx Bd.returns (hb hby ow8_36) hr
  · show QV (some (.int rr)) h0 n0 _ T9.heap _
    rw [e9]
    exact ⟨rfl, N9, rfl⟩
theorem own_ef_own_iof1 (m : MethodId) {x0 : Addr} {x1 : Int32} : entryFrame m #[(.ref x0), (.int x1)] 2 = mkF m 0 #[rv x0, iv x1] [] := by first | (simp [entryFrame, mkF, argsToLocals, Value.category, maxLocals]; done) | rfl
set_option maxRecDepth 65536 in
set_option maxHeartbeats 40000000 in
theorem own_iof1 (l : Launch) (Z : State) (a0 : Array Value) (hw : ∀ d ∈ tables_1, d.before a0 Z = true) (ws : List Jvm.Cond) (h0 : Heap) (n0 : Nat) (Z0 : n0 ≤ h0.size) (so ta : Addr) (kt : ClassId) (nn : Int32) (ys : List Value) (Eo : Exa Z h0 so "java/lang/String") (Fc : Fld Z h0 so "java/lang/String" "coder" "B" (.int (0 : Int32))) (Fv : Fld Z h0 so "java/lang/String" "value" "[B" (.ref ta)) (Vt : Arv Z h0 ta kt .byte nn ys (.int (0 : Int32))) (rr : Int32) (HL : MetFree l ym20 (head1 (Jvm.Cond.code ym20 jdk_43_method_22_code 4 (some .int) :: []) rm6) (fun a U => a = #[(.ref ta), (.int (35 : Int32)), (.int (0 : Int32)), (.int nn)] ∧ Z.Warmed39 U.vm ∧ U.heap = h0) (fun _ _ _ _ _ => True) (fun _ U o U' => ∃ v L, o = .returned v ∧ QV (some (.int rr)) h0 n0 v U'.heap L ∧ FrameEnd U o U' L rm6.cells rm6.slots)) (zC : Int32) (S_CS : Sta Z h0 "java/lang/String" "COMPACT_STRINGS" "Z" (.int zC)) (P5 : ¬ (zC = (0 : Int32))) :
    MetFree l ym12 (head1 (Jvm.Cond.code ym12 jdk_42_method_79_code 2 (some .int) :: ws) rm13) (fun a U => a = #[(.ref so), (.int (35 : Int32))] ∧ Z.Warmed39 U.vm ∧ U.heap = h0) (fun _ _ _ _ _ => True) (fun _ U o U' => ∃ v L, o = .returned v ∧ QV (some (.int rr)) h0 n0 v U'.heap L ∧ FrameEnd U o U' L rm13.cells rm13.slots) := by
  refine MetFree.of_bodySF (plainFor_of_name own_pn_java_lang_String) hisR ?_
  intro p e s m args below meth c s₁ Bd hml0 hP hK
  obtain ⟨rfl, hZ, hh⟩ := hP
  have hx := Bd.exec
  have hby := Bd.bytes
  have hml : c.maxLocals = 2 := hml0
  have hown : s.vm.findClass "java/lang/String" = some m.cls := (findClass_of_methodNamed Bd.named :)
  have hnm := (name_of_methodNamed Bd.named Bd.method).1
  have X0 : Stand p l e rm13 s m #[(.ref so), (.int (35 : Int32))] below meth c s₁ [] 0 0 := Stand.of_body Bd
  have e0 : s₁.heap = h0 := by rw [← hh, Bd.state]; rfl
  have N0 := Fr.nil n0
  have pre0 : ∀ t, SP p e below s₁ (mkF m 0 #[rv so, iv 35] []) t → SP p e below s₁ (entryFrame m #[(.ref so), (.int (35 : Int32))] 2) t := fun t k => castTop (own_ef_own_iof1 m) k
  obtain ⟨cq1, kq1, qa1, qb1, qc1⟩ := isOf hZ e0 Eo
  obtain ⟨vv2, _, ⟨T2, L2, kk2, nn2⟩, -, X2, ⟨Lc2, hQ2, l2, y2, z2⟩, st2⟩ := X0.virtualBack hx (y := ym13) (z := ym13) hown (mvT hZ (own_wi hw 39 rfl)) (mvT hZ (own_wi hw 40 rfl)) (notFace_of_selects (args := #[]) (mvT hZ (own_wi hw 42 rfl))) (mvT hZ (own_wi hw 42 rfl)) (mvT hZ (own_wi hw 41 rfl)) (by decide) (backOf (W := 0) (own_iof2 l Z a0 hw [] h0 n0 (Nat.le_trans Z0 (Keep.refl h0 []).1) so ta kt nn ys Eo Fc Fv Vt rr HL zC S_CS P5) hZ (own_wi hw 43 rfl) (own_wi hw 11 rfl) (by decide) (by decide)) qa1 qc1 (g := (mkF m 3 #[rv so, iv 35] [(.int (0 : Int32)), (.int (35 : Int32)), (.ref so)])) rfl (by rw [hml]; rfl) (Steps.refl _) (argsL := [(.int (35 : Int32)), (.int (0 : Int32))]) (rest := []) (lenOf own_pd__II_I rfl) rfl (by show 2 * 0 + _ ≤ _; exact Nat.le_of_eq rfl) (hb hby ow9_3) (fun _ _ => ⟨rfl, e0, (by decide : 0 + 0 ≤ _), (by decide : 0 + 0 ≤ _)⟩)
  dsimp only [Pt.U, Pt.locs, Pt.cells, Pt.slots] at X2 l2 y2 z2 st2 hQ2
  subst l2 y2 z2
  obtain ⟨rfl, Nq2, e2⟩ := hQ2
  have N2 := Fr.app N0 Nq2
  have ch3 : ∀ t, SP p e below T2 (mkF m 6 #[rv so, iv 35] [(.int rr)]) t → SP p e below s₁ (entryFrame m #[(.ref so), (.int (35 : Int32))] 2) t := fun t k => pre0 t (by
      show SP p e below s₁ (mkF m 0 #[rv so, iv 35] []) t
      refine XS.aloadN X0.here hx rfl (hb hby ow9_0) rfl rfl ?_
      refine XS.iloadN X0.here hx rfl (hb hby ow9_1) rfl ?_
      refine XS.iconst X0.here hx rfl (hb hby ow9_2) ?_
      show SP p e below s₁ (mkF m 3 #[rv so, iv 35] [(.int (0 : Int32)), (.int (35 : Int32)), (.ref so)]) t
      exact st2.trans k)
  obtain ⟨fs, hr, hrun, hended, hW, hsame⟩ := X2.leave (v := some (.int rr)) (fun h => by rw [Bd.returns] at h; cases h)
  refine ⟨_, _, ch3 _ ?_, hrun, hended, _, _, rfl, ?_, ⟨_, rfl⟩, hW, hsame.mono (by decide) (by decide)⟩
  · show Steps p.tables e below (T2.setTop (mkF m 6 #[rv so, iv 35] [(.int rr)])) _
    exact retI X2 hx Bd.returns (hb hby ow9_6) hr
  · show QV (some (.int rr)) h0 n0 _ T2.heap _
    rw [e2]
    exact ⟨rfl, N2, rfl⟩
theorem own_ef_own_sbb (m : MethodId) {x0 : Addr} {x1 : Addr} {x2 : Int32} : entryFrame m #[(.ref x0), (.ref x1), (.int x2)] 3 = mkF m 0 #[rv x0, rv x1, iv x2] [] := by first | (simp [entryFrame, mkF, argsToLocals, Value.category, maxLocals]; done) | rfl
set_option maxRecDepth 65536 in
set_option maxHeartbeats 40000000 in
theorem own_sbb (l : Launch) (Z : State) (a0 : Array Value) (hw : ∀ d ∈ tables_1, d.before a0 Z = true) (ws : List Jvm.Cond) (h0 : Heap) (n0 : Nat) (Z0 : n0 ≤ h0.size) (b r : Addr) (E : Exa Z h0 b "java/lang/String") (F1 : Fld Z h0 b "java/lang/String" "value" "[B" .null) (F2 : Fld Z h0 b "java/lang/String" "coder" "B" (.int (0 : Int32))) (g : n0 ≤ b) :
    MetFree l (⟨"java/lang/String", "<init>", "([BB)V"⟩ : MethodName) (head1 (Jvm.Cond.code (⟨"java/lang/String", "<init>", "([BB)V"⟩ : MethodName) jdk_42_method_151_code 3 none :: ws) rm2) (fun a U => a = #[(.ref b), (.ref r), (.int (0 : Int32))] ∧ Z.Warmed39 U.vm ∧ U.heap = h0) (fun _ _ _ _ _ => True) (fun _ U o U' => ∃ v L, o = .returned v ∧ QBB Z b r h0 n0 v U'.heap L ∧ FrameEnd U o U' L rm2.cells rm2.slots) := by
  refine MetFree.of_bodySF (plainFor_of_name own_pn_java_lang_String) hisR ?_
  intro p e s m args below meth c s₁ Bd hml0 hP hK
  obtain ⟨rfl, hZ, hh⟩ := hP
  have hx := Bd.exec
  have hby := Bd.bytes
  have hml : c.maxLocals = 3 := hml0
  have hown : s.vm.findClass "java/lang/String" = some m.cls := (findClass_of_methodNamed Bd.named :)
  have hnm := (name_of_methodNamed Bd.named Bd.method).1
  have X0 : Stand p l e rm2 s m #[(.ref b), (.ref r), (.int (0 : Int32))] below meth c s₁ [] 0 0 := Stand.of_body Bd
  have e0 : s₁.heap = h0 := by rw [← hh, Bd.state]; rfl
  have N0 := Fr.nil n0
  have pre0 : ∀ t, SP p e below s₁ (mkF m 0 #[rv b, rv r, iv 0] []) t → SP p e below s₁ (entryFrame m #[(.ref b), (.ref r), (.int (0 : Int32))] 3) t := fun t k => castTop (own_ef_own_sbb m) k
  obtain ⟨T1, X1, e1, st1⟩ := initO X0 hx hZ hown (own_wi hw 19 rfl) (own_wi hw 20 rfl) (own_wi hw 21 rfl) e0 (g := (mkF m 1 #[rv b, rv r, iv 0] [(.ref b)])) rfl (by rw [hml]; rfl) rfl (hb hby ow10_1) (by decide) (W := 0) (by show 2 * 0 + _ ≤ _; exact Nat.le_of_eq rfl) (by decide)
  have ch2 : ∀ t, SP p e below T1 (mkF m 4 #[rv b, rv r, iv 0] []) t → SP p e below s₁ (entryFrame m #[(.ref b), (.ref r), (.int (0 : Int32))] 3) t := fun t k => pre0 t (by
      show SP p e below s₁ (mkF m 0 #[rv b, rv r, iv 0] []) t
      refine XS.aloadN X0.here hx rfl (hb hby ow10_0) rfl rfl ?_
      show SP p e below s₁ (mkF m 1 #[rv b, rv r, iv 0] [(.ref b)]) t
      exact st1 t k)
  obtain ⟨T3, hp3, X3, e3, W3, st3⟩ := putF X1 hx hZ hown (host := "") (Or.inl (own_wi hw 28 rfl)) Via.refl e1 F1 E (Or.inr ⟨(own_wi hw 24 rfl), rfl, hnm⟩) (own_wi hw 10 rfl) (ty := (.array .byte)) (by decide) rfl rfl (g := (mkF m 6 #[rv b, rv r, iv 0] [(.ref r), (.ref b)])) rfl rfl (hb hby ow10_6)
  have ch4 : ∀ t, SP p e below T3 (mkF m 9 #[rv b, rv r, iv 0] []) t → SP p e below s₁ (entryFrame m #[(.ref b), (.ref r), (.int (0 : Int32))] 3) t := fun t k => ch2 t (by
      show SP p e below T1 (mkF m 4 #[rv b, rv r, iv 0] []) t
      refine XS.aloadN X1.here hx rfl (hb hby ow10_4) rfl rfl ?_
      refine XS.aloadN X1.here hx rfl (hb hby ow10_5) rfl rfl ?_
      show SP p e below T1 (mkF m 6 #[rv b, rv r, iv 0] [(.ref r), (.ref b)]) t
      exact st3 t k)
  have Fw3 := Fld.same W3 F1
  have N3 := Fr.snoc X3 N0 g
  have Kp3 := Keep.wr (Keep.refl h0 [b]) W3 (Or.inl (List.mem_of_getElem? (i := 0) rfl))
  have cf5 := (Fld.other W3 F2 (Or.inr (slot_ne (Or.inr (own_wi hw 25 rfl)) (Or.inr (own_wi hw 24 rfl)) (by decide) (t := .byte) (t' := (.array .byte)) (by decide) (by decide))))
  have cf6 := (Exa.wr W3 E)
  obtain ⟨T7, hp7, X7, e7, W7, st7⟩ := putFN X3 hx hZ hown (own_wi hw 29 rfl) Via.refl e3 cf5 cf6 (Or.inr ⟨(own_wi hw 25 rfl), rfl, hnm⟩) (own_wi hw 10 rfl) (ty := .byte) (v' := (.int (0 : Int32))) (by decide) (by first | rfl | decide) (by first | rfl | decide) (g := (mkF m 11 #[rv b, rv r, iv 0] [(.int (0 : Int32)), (.ref b)])) rfl rfl (hb hby ow10_11)
  have ch8 : ∀ t, SP p e below T7 (mkF m 14 #[rv b, rv r, iv 0] []) t → SP p e below s₁ (entryFrame m #[(.ref b), (.ref r), (.int (0 : Int32))] 3) t := fun t k => ch4 t (by
      show SP p e below T3 (mkF m 9 #[rv b, rv r, iv 0] []) t
      refine XS.aloadN X3.here hx rfl (hb hby ow10_9) rfl rfl ?_
      refine XS.iloadN X3.here hx rfl (hb hby ow10_10) rfl ?_
      show SP p e below T3 (mkF m 11 #[rv b, rv r, iv 0] [(.int (0 : Int32)), (.ref b)]) t
      exact st7 t k)
  have Fw7 := Fld.same W7 cf5
  have N7 := Fr.snoc X7 N3 g
  have Kp7 := Keep.wr Kp3 W7 (Or.inl (List.mem_of_getElem? (i := 0) rfl))
  have cf9 := (Exa.wr W7 cf6)
  have cf10 := (Fld.other W7 Fw3 (Or.inr (slot_ne (Or.inr (own_wi hw 24 rfl)) (Or.inr (own_wi hw 25 rfl)) (by decide) (t := (.array .byte)) (t' := .byte) (by decide) (by decide))))
  obtain ⟨fs, hr, hrun, hended, hW, hsame⟩ := X7.leave (v := none) (fun _ => rfl)
  refine ⟨_, _, ch8 _ ?_, hrun, hended, _, _, rfl, ?_, ⟨_, rfl⟩, hW, hsame.mono (by decide) (by decide)⟩
  · show Steps p.tables e below (T7.setTop (mkF m 14 #[rv b, rv r, iv 0] [])) _
    exact X7.returnOut hx Bd.returns (hb hby ow10_14) hr
  · show QBB Z b r h0 n0 _ T7.heap _
    rw [e7]
    exact ⟨rfl, N7, Kp7, cf9, Fw7, cf10⟩
theorem own_ef_own_nws_e (m : MethodId) {x0 : Addr} {x1 : Int32} {x2 : Int32} : entryFrame m #[(.ref x0), (.int x1), (.int x2)] 3 = mkF m 0 #[rv x0, iv x1, iv x2] [] := by first | (simp [entryFrame, mkF, argsToLocals, Value.category, maxLocals]; done) | rfl
set_option maxRecDepth 65536 in
set_option maxHeartbeats 40000000 in
theorem own_nws_e (l : Launch) (Z : State) (a0 : Array Value) (hw : ∀ d ∈ tables_1, d.before a0 Z = true) (ws : List Jvm.Cond) (h0 : Heap) (n0 : Nat) (Z0 : n0 ≤ h0.size) (ta : Addr) (fr : Int32) :
    MetFree l ym22 (head1 (Jvm.Cond.code ym22 jdk_43_method_47_code 3 (some (.object "java/lang/String")) :: ws) rm1) (fun a U => a = #[(.ref ta), (.int fr), (.int (0 : Int32))] ∧ Z.Warmed39 U.vm ∧ U.heap = h0 ∧ CHv Z consts_1 U.vm h0) (fun _ _ _ _ _ => True) (fun _ U o U' => ∃ v L, o = .returned v ∧ QE Z h0 n0 v U'.heap L ∧ ReturnedEndW U o U' L rm1.cells rm1.slots) := by
  refine MetFree.of_bodySF (plainFor_of_name own_pn_java_lang_StringLatin1) hisR ?_
  intro p e s m args below meth c s₁ Bd hml0 hP hK
  obtain ⟨rfl, hZ, hh, hC⟩ := hP
  have hx := Bd.exec
  have hby := Bd.bytes
  have hml : c.maxLocals = 3 := hml0
  have hown : s.vm.findClass "java/lang/StringLatin1" = some m.cls := (findClass_of_methodNamed Bd.named :)
  have hnm := (name_of_methodNamed Bd.named Bd.method).1
  have X0 : Stand p l e rm1 (s.setVm s.vm) m #[(.ref ta), (.int fr), (.int (0 : Int32))] below meth c s₁ [] 0 0 := Stand.of_body Bd
  have hZ : Z.Warmed39 (s.setVm s.vm).vm := hZ
  have hown : (s.setVm s.vm).vm.findClass "java/lang/StringLatin1" = some m.cls := hown
  have hS : s.Since s.vm 0 := (State.WarmedH.refl s).since 0
  have hk : 0 ≤ h0.size := Nat.zero_le _
  have e0 : s₁.heap = h0 := by rw [← hh, Bd.state]; rfl
  have N0 := Fr.nil n0
  have pre0 : ∀ t, SP p e below s₁ (mkF m 0 #[rv ta, iv fr, iv 0] []) t → SP p e below s₁ (entryFrame m #[(.ref ta), (.int fr), (.int (0 : Int32))] 3) t := fun t k => castTop (own_ef_own_nws_e m) k
  have ch1 : ∀ t, SP p e below s₁ (mkF m 4 #[rv ta, iv fr, iv 0] []) t → SP p e below s₁ (entryFrame m #[(.ref ta), (.int fr), (.int (0 : Int32))] 3) t := fun t k => pre0 t (by
      show SP p e below s₁ (mkF m 0 #[rv ta, iv fr, iv 0] []) t
      refine XS.iloadN X0.here hx rfl (hb hby ow11_0) rfl ?_
      refine XS.ifNo X0.here hx rfl (hb hby ow11_1) rfl ((if0 _ _).trans (teq (by decide : (0 : Int32) = (0 : Int32))).2) ?_
      exact k)
  obtain ⟨ls2, T2, hp2, ks2, tb2, kb2, X2, e2, E2, hS, hk, hZ, hown, Ex2, Fc2, Fv2, Av2, -, -, -, hL2, -, st2⟩ := ldcCH X0 hx hZ hown (own_wi hw 108 rfl) (own_wS hw) e0 hS hk (own_EW hw) (by decide) hC (vs := []) (z := (0 : Int32)) ⟨by simp, rfl⟩ (by decide) rfl (g := (mkF m 4 #[rv ta, iv fr, iv 0] [])) rfl (hb hby ow11_4) (n := 0) (by decide) (by decide) (by decide) (by decide)
  have Kp2 := Keep.ext (Keep.refl h0 []) E2
  have ch3 : ∀ t, SP p e below T2 (mkF m 6 #[rv ta, iv fr, iv 0] [(.ref ls2)]) t → SP p e below s₁ (entryFrame m #[(.ref ta), (.int fr), (.int (0 : Int32))] 3) t := fun t k => ch1 t (by
      show SP p e below s₁ (mkF m 4 #[rv ta, iv fr, iv 0] []) t
      exact st2 t k)
  obtain ⟨fs, hr, hrun, hended, hend⟩ := X2.leaveW hS (by rw [e2]; exact hk) (v := some (.ref ls2)) (fun h => by rw [Bd.returns] at h; cases h)
  refine ⟨_, _, ch3 _ ?_, hrun, hended, _, _, rfl, ?_, hend.1, hend.2.1, hend.2.2.1, hend.2.2.2.mono (by decide) (by decide)⟩
  · show Steps p.tables e below (T2.setTop (mkF m 6 #[rv ta, iv fr, iv 0] [(.ref ls2)])) _
    jvm_step X2.here [X2.here.top, hx, (hb hby ow11_6), X2.method', Bd.returns, Value.isRef, FieldType.isReference]
    first | (intro acts; rw [hr _ acts rfl rfl rfl]) | rw [hr _ _ rfl rfl rfl]
    exact Steps.refl _
  · show QE Z h0 n0 _ T2.heap _
    rw [e2]
    exact ⟨_, _, _, rfl, N0, Kp2, Ex2, Fc2, Fv2, Av2⟩
theorem own_ef_own_cft (m : MethodId) {x0 : Int32} {x1 : Int32} {x2 : Int32} {x3 : Value} (c3 : x3.category = 1) : entryFrame m #[(.int x0), (.int x1), (.int x2), x3] 4 = mkF m 0 #[iv x0, iv x1, iv x2, .val x3] [] := by cases x3 <;> first | rfl | (simp [Value.category] at c3)
set_option maxRecDepth 65536 in
set_option maxHeartbeats 40000000 in
theorem own_cft (l : Launch) (Z : State) (a0 : Array Value) (hw : ∀ d ∈ tables_1, d.before a0 Z = true) (ws : List Jvm.Cond) (h0 : Heap) (n0 : Nat) (Z0 : n0 ≤ h0.size) (vF : Value) (hvF : vF.category = 1) (nn : Int32) (f : Int32) (f0 : ¬ f < (0 : Int32)) (fn : ¬ nn < f) :
    MetFree l (⟨"jdk/internal/util/Preconditions", "checkFromToIndex", "(IIILjava/util/function/BiFunction;)I"⟩ : MethodName) (head1 (Jvm.Cond.code (⟨"jdk/internal/util/Preconditions", "checkFromToIndex", "(IIILjava/util/function/BiFunction;)I"⟩ : MethodName) jdk_41_method_12_code 4 (some .int) :: ws) rm0) (fun a U => a = #[(.int f), (.int nn), (.int nn), vF] ∧ Z.Warmed39 U.vm ∧ U.heap = h0) (fun _ _ _ _ _ => True) (fun _ U o U' => ∃ v L, o = .returned v ∧ QV (some (.int f)) h0 n0 v U'.heap L ∧ FrameEnd U o U' L rm0.cells rm0.slots) := by
  refine MetFree.of_bodySF (plainFor_of_name own_pn_jdk_internal_util_Preconditions) hisR ?_
  intro p e s m args below meth c s₁ Bd hml0 hP hK
  obtain ⟨rfl, hZ, hh⟩ := hP
  have hx := Bd.exec
  have hby := Bd.bytes
  have hml : c.maxLocals = 4 := hml0
  have hown : s.vm.findClass "jdk/internal/util/Preconditions" = some m.cls := (findClass_of_methodNamed Bd.named :)
  have hnm := (name_of_methodNamed Bd.named Bd.method).1
  have X0 : Stand p l e rm0 s m #[(.int f), (.int nn), (.int nn), vF] below meth c s₁ [] 0 0 := Stand.of_body Bd
  have e0 : s₁.heap = h0 := by rw [← hh, Bd.state]; rfl
  have N0 := Fr.nil n0
  have pre0 : ∀ t, SP p e below s₁ (mkF m 0 #[iv f, iv nn, iv nn, .val vF] []) t → SP p e below s₁ (entryFrame m #[(.int f), (.int nn), (.int nn), vF] 4) t := fun t k => castTop (own_ef_own_cft m hvF) k
  have ch1 : ∀ t, SP p e below s₁ (mkF m 23 #[iv f, iv nn, iv nn, .val vF] [(.int f)]) t → SP p e below s₁ (entryFrame m #[(.int f), (.int nn), (.int nn), vF] 4) t := fun t k => pre0 t (by
      show SP p e below s₁ (mkF m 0 #[iv f, iv nn, iv nn, .val vF] []) t
      refine XS.iloadN X0.here hx rfl (hb hby ow12_0) rfl ?_
      refine XS.ifNo X0.here hx rfl (hb hby ow12_1) rfl ((if0 _ _).trans (flt f0).1) ?_
      refine XS.iloadN X0.here hx rfl (hb hby ow12_4) rfl ?_
      refine XS.iloadN X0.here hx rfl (hb hby ow12_5) rfl ?_
      refine XS.icmpNo X0.here hx rfl (hb hby ow12_6) rfl (flt fn).2.2.1 ?_
      refine XS.iloadN X0.here hx rfl (hb hby ow12_9) rfl ?_
      refine XS.iloadN X0.here hx rfl (hb hby ow12_10) rfl ?_
      refine XS.icmpYes X0.here hx rfl (pc0 := 11) (pc' := 22) rfl (hb hby ow12_11) rfl (flt (Int32.lt_irrefl : ¬ nn < nn)).2.2.2 (by decide) (by decide) ?_
      refine XS.iloadN X0.here hx rfl (hb hby ow12_22) rfl ?_
      exact k)
  obtain ⟨fs, hr, hrun, hended, hW, hsame⟩ := X0.leave (v := some (.int f)) (fun h => by rw [Bd.returns] at h; cases h)
  refine ⟨_, _, ch1 _ ?_, hrun, hended, _, _, rfl, ?_, ⟨_, rfl⟩, hW, hsame.mono (by decide) (by decide)⟩
  · show Steps p.tables e below (s₁.setTop (mkF m 23 #[iv f, iv nn, iv nn, .val vF] [(.int f)])) _
    exact retI X0 hx Bd.returns (hb hby ow12_23) hr
  · show QV (some (.int f)) h0 n0 _ s₁.heap _
    rw [e0]
    exact ⟨rfl, N0, rfl⟩
theorem own_ef_own_cbb (m : MethodId) {x0 : Int32} {x1 : Int32} {x2 : Int32} : entryFrame m #[(.int x0), (.int x1), (.int x2)] 3 = mkF m 0 #[iv x0, iv x1, iv x2] [] := by first | (simp [entryFrame, mkF, argsToLocals, Value.category, maxLocals]; done) | rfl
set_option maxRecDepth 65536 in
set_option maxHeartbeats 40000000 in
theorem own_cbb (l : Launch) (Z : State) (a0 : Array Value) (hw : ∀ d ∈ tables_1, d.before a0 Z = true) (ws : List Jvm.Cond) (h0 : Heap) (n0 : Nat) (Z0 : n0 ≤ h0.size) (nn : Int32) (f : Int32) (f0 : ¬ f < (0 : Int32)) (fn : ¬ nn < f) (vF : Value) (hvF : vF.category = 1) (S_F : Sta Z h0 "jdk/internal/util/Preconditions" "SIOOBE_FORMATTER" "Ljava/util/function/BiFunction;" vF) :
    MetFree l ym9 (head1 (Jvm.Cond.code ym9 jdk_42_method_158_code 3 none :: ws) rm5) (fun a U => a = #[(.int f), (.int nn), (.int nn)] ∧ Z.Warmed39 U.vm ∧ U.heap = h0) (fun _ _ _ _ _ => True) (fun _ U o U' => ∃ v L, o = .returned v ∧ QV none h0 n0 v U'.heap L ∧ FrameEnd U o U' L rm5.cells rm5.slots) := by
  refine MetFree.of_bodySF (plainFor_of_name own_pn_java_lang_String) hisR ?_
  intro p e s m args below meth c s₁ Bd hml0 hP hK
  obtain ⟨rfl, hZ, hh⟩ := hP
  have hx := Bd.exec
  have hby := Bd.bytes
  have hml : c.maxLocals = 3 := hml0
  have hown : s.vm.findClass "java/lang/String" = some m.cls := (findClass_of_methodNamed Bd.named :)
  have hnm := (name_of_methodNamed Bd.named Bd.method).1
  have X0 : Stand p l e rm5 s m #[(.int f), (.int nn), (.int nn)] below meth c s₁ [] 0 0 := Stand.of_body Bd
  have e0 : s₁.heap = h0 := by rw [← hh, Bd.state]; rfl
  have N0 := Fr.nil n0
  have pre0 : ∀ t, SP p e below s₁ (mkF m 0 #[iv f, iv nn, iv nn] []) t → SP p e below s₁ (entryFrame m #[(.int f), (.int nn), (.int nn)] 3) t := fun t k => castTop (own_ef_own_cbb m) k
  obtain ⟨T1, X1, e1, st1⟩ := getS2 X0 hx hZ hown (host := "") (Or.inl (own_wi hw 100 rfl)) Via.refl e0 S_F (g := (mkF m 3 #[iv f, iv nn, iv nn] [(.int nn), (.int nn), (.int f)])) rfl (hb hby ow13_3)
  have ch2 : ∀ t, SP p e below T1 (mkF m 6 #[iv f, iv nn, iv nn] [vF, (.int nn), (.int nn), (.int f)]) t → SP p e below s₁ (entryFrame m #[(.int f), (.int nn), (.int nn)] 3) t := fun t k => pre0 t (by
      show SP p e below s₁ (mkF m 0 #[iv f, iv nn, iv nn] []) t
      refine XS.iloadN X0.here hx rfl (hb hby ow13_0) rfl ?_
      refine XS.iloadN X0.here hx rfl (hb hby ow13_1) rfl ?_
      refine XS.iloadN X0.here hx rfl (hb hby ow13_2) rfl ?_
      show SP p e below s₁ (mkF m 3 #[iv f, iv nn, iv nn] [(.int nn), (.int nn), (.int f)]) t
      exact st1 t k)
  obtain ⟨vv3, _, ⟨T3, L3, kk3, nn3⟩, -, X3, ⟨Lc3, hQ3, l3, y3, z3⟩, st3⟩ := Jvm.LawKit.callS X1 hx (y := (⟨"jdk/internal/util/Preconditions", "checkFromToIndex", "(IIILjava/util/function/BiFunction;)I"⟩ : MethodName)) hown (mvT hZ (own_wi hw 102 rfl)) (mvT hZ (own_wi hw 103 rfl)) (mvT hZ (own_wi hw 101 rfl)) (mvT hZ (own_wi hw 104 rfl)) (by decide) (backOf (W := 0) (own_cft l Z a0 hw [] h0 n0 (Nat.le_trans Z0 (Keep.refl h0 []).1) vF hvF nn f f0 fn) hZ (own_wi hw 104 rfl) (own_wi hw 101 rfl) (by decide) (by decide)) (g := (mkF m 6 #[iv f, iv nn, iv nn] [vF, (.int nn), (.int nn), (.int f)])) rfl (by rw [hml]; rfl) (argsL := [(.int f), (.int nn), (.int nn), vF]) (rest := []) (lenOf own_pd__IIILjava_util_function_BiFunction__I rfl) rfl (by show 2 * 0 + _ ≤ _; exact Nat.le_of_eq rfl) (hb hby ow13_6) (fun _ _ => ⟨rfl, e1, (by decide : 0 + 0 ≤ _), (by decide : 0 + 0 ≤ _)⟩)
  dsimp only [Pt.U, Pt.locs, Pt.cells, Pt.slots] at X3 l3 y3 z3 st3 hQ3
  subst l3 y3 z3
  obtain ⟨rfl, Nq3, e3⟩ := hQ3
  have N3 := Fr.app N0 Nq3
  have ch4 : ∀ t, SP p e below T3 (mkF m 9 #[iv f, iv nn, iv nn] [(.int f)]) t → SP p e below s₁ (entryFrame m #[(.int f), (.int nn), (.int nn)] 3) t := fun t k => ch2 t (by
      show SP p e below T1 (mkF m 6 #[iv f, iv nn, iv nn] [vF, (.int nn), (.int nn), (.int f)]) t
      exact st3 t k)
  have ch5 : ∀ t, SP p e below T3 (mkF m 10 #[iv f, iv nn, iv nn] []) t → SP p e below s₁ (entryFrame m #[(.int f), (.int nn), (.int nn)] 3) t := fun t k => ch4 t (by
      show SP p e below T3 (mkF m 9 #[iv f, iv nn, iv nn] [(.int f)]) t
      refine XS.pop X3.here hx rfl (hb hby ow13_9) rfl rfl ?_
      exact k)
  obtain ⟨fs, hr, hrun, hended, hW, hsame⟩ := X3.leave (v := none) (fun _ => rfl)
  refine ⟨_, _, ch5 _ ?_, hrun, hended, _, _, rfl, ?_, ⟨_, rfl⟩, hW, hsame.mono (by decide) (by decide)⟩
  · show Steps p.tables e below (T3.setTop (mkF m 10 #[iv f, iv nn, iv nn] [])) _
    exact X3.returnOut hx Bd.returns (hb hby ow13_10) hr
  · show QV none h0 n0 _ T3.heap _
    rw [e3]
    exact ⟨rfl, N3, rfl⟩
theorem own_ef_own_cle (m : MethodId) {x0 : Int32} {x1 : Int32} : entryFrame m #[(.int x0), (.int x1)] 2 = mkF m 0 #[iv x0, iv x1] [] := by first | (simp [entryFrame, mkF, argsToLocals, Value.category, maxLocals]; done) | rfl
set_option maxRecDepth 65536 in
set_option maxHeartbeats 40000000 in
theorem own_cle (l : Launch) (Z : State) (a0 : Array Value) (hw : ∀ d ∈ tables_1, d.before a0 Z = true) (ws : List Jvm.Cond) (h0 : Heap) (n0 : Nat) (Z0 : n0 ≤ h0.size) (f nn : Int32) (fn : ¬ nn < f) :
    MetFree l ym23 (head1 (Jvm.Cond.code ym23 jdk_65_method_131_code 2 none :: ws) rm0) (fun a U => a = #[(.int f), (.int nn)] ∧ Z.Warmed39 U.vm ∧ U.heap = h0) (fun _ _ _ _ _ => True) (fun _ U o U' => ∃ v L, o = .returned v ∧ QV none h0 n0 v U'.heap L ∧ FrameEnd U o U' L rm0.cells rm0.slots) := by
  refine MetFree.of_bodySF (plainFor_of_name own_pn_java_util_Arrays) hisR ?_
  intro p e s m args below meth c s₁ Bd hml0 hP hK
  obtain ⟨rfl, hZ, hh⟩ := hP
  have hx := Bd.exec
  have hby := Bd.bytes
  have hml : c.maxLocals = 2 := hml0
  have hown : s.vm.findClass "java/util/Arrays" = some m.cls := (findClass_of_methodNamed Bd.named :)
  have hnm := (name_of_methodNamed Bd.named Bd.method).1
  have X0 : Stand p l e rm0 s m #[(.int f), (.int nn)] below meth c s₁ [] 0 0 := Stand.of_body Bd
  have e0 : s₁.heap = h0 := by rw [← hh, Bd.state]; rfl
  have N0 := Fr.nil n0
  have pre0 : ∀ t, SP p e below s₁ (mkF m 0 #[iv f, iv nn] []) t → SP p e below s₁ (entryFrame m #[(.int f), (.int nn)] 2) t := fun t k => castTop (own_ef_own_cle m) k
  have ch1 : ∀ t, SP p e below s₁ (mkF m 37 #[iv f, iv nn] []) t → SP p e below s₁ (entryFrame m #[(.int f), (.int nn)] 2) t := fun t k => pre0 t (by
      show SP p e below s₁ (mkF m 0 #[iv f, iv nn] []) t
      refine XS.iloadN X0.here hx rfl (hb hby ow14_0) rfl ?_
      refine XS.iloadN X0.here hx rfl (hb hby ow14_1) rfl ?_
      refine XS.icmpYes X0.here hx rfl (pc0 := 2) (pc' := 37) rfl (hb hby ow14_2) rfl (flt fn).2.1 (by decide) (by decide) ?_
      exact k)
  obtain ⟨fs, hr, hrun, hended, hW, hsame⟩ := X0.leave (v := none) (fun _ => rfl)
  refine ⟨_, _, ch1 _ ?_, hrun, hended, _, _, rfl, ?_, ⟨_, rfl⟩, hW, hsame.mono (by decide) (by decide)⟩
  · show Steps p.tables e below (s₁.setTop (mkF m 37 #[iv f, iv nn] [])) _
    exact X0.returnOut hx Bd.returns (hb hby ow14_37) hr
  · show QV none h0 n0 _ s₁.heap _
    rw [e0]
    exact ⟨rfl, N0, rfl⟩
theorem own_ef_own_corb_21 (m : MethodId) {x0 : Addr} {x1 : Int32} {x2 : Int32} : entryFrame m #[(.ref x0), (.int x1), (.int x2)] 5 = mkF m 0 #[rv x0, iv x1, iv x2, .unset, .unset] [] := by first | (simp [entryFrame, mkF, argsToLocals, Value.category, maxLocals]; done) | rfl
set_option maxRecDepth 65536 in
set_option maxHeartbeats 40000000 in
theorem own_corb_21 (l : Launch) (Z : State) (a0 : Array Value) (hw : ∀ d ∈ tables_1, d.before a0 Z = true) (ws : List Jvm.Cond) (h0 : Heap) (n0 : Nat) (Z0 : n0 ≤ h0.size) (ta : Addr) (kt : ClassId) (bz0 bz1 : Int32) (Vt : Arv Z h0 ta kt .byte (2 : Int32) [(.int bz0), (.int bz1)] (.int (0 : Int32))) :
    MetFree l ym25 (head1 (Jvm.Cond.code ym25 jdk_65_method_133_code 5 (some (.array .byte)) :: ws) rm10) (fun a U => a = #[(.ref ta), (.int (1 : Int32)), (.int (2 : Int32))] ∧ Z.Warmed39 U.vm ∧ U.heap = h0) (fun _ _ _ _ _ => True) (fun _ U o U' => ∃ v L, o = .returned v ∧ QA Z (1 : Int32) [(.int bz1)] h0 n0 v U'.heap L ∧ FrameEnd U o U' L rm10.cells rm10.slots) := by
  refine MetFree.of_bodySF (plainFor_of_name own_pn_java_util_Arrays) hisR ?_
  intro p e s m args below meth c s₁ Bd hml0 hP hK
  obtain ⟨rfl, hZ, hh⟩ := hP
  have hx := Bd.exec
  have hby := Bd.bytes
  have hml : c.maxLocals = 5 := hml0
  have hown : s.vm.findClass "java/util/Arrays" = some m.cls := (findClass_of_methodNamed Bd.named :)
  have hnm := (name_of_methodNamed Bd.named Bd.method).1
  have X0 : Stand p l e rm10 s m #[(.ref ta), (.int (1 : Int32)), (.int (2 : Int32))] below meth c s₁ [] 0 0 := Stand.of_body Bd
  have e0 : s₁.heap = h0 := by rw [← hh, Bd.state]; rfl
  have N0 := Fr.nil n0
  have pre0 : ∀ t, SP p e below s₁ (mkF m 0 #[rv ta, iv 1, iv 2, .unset, .unset] []) t → SP p e below s₁ (entryFrame m #[(.ref ta), (.int (1 : Int32)), (.int (2 : Int32))] 5) t := fun t k => castTop (own_ef_own_corb_21 m) k
  obtain ⟨vv1, _, ⟨T1, L1, kk1, nn1⟩, -, X1, ⟨Lc1, hQ1, l1, y1, z1⟩, st1⟩ := Jvm.LawKit.callS X0 hx (y := ym23) hown (mvT hZ (own_wi hw 118 rfl)) (mvT hZ (own_wi hw 119 rfl)) (mvT hZ (own_wi hw 113 rfl)) (mvT hZ (own_wi hw 120 rfl)) (by decide) (backOf (W := 0) (own_cle l Z a0 hw [] h0 n0 (Nat.le_trans Z0 (Keep.refl h0 []).1) (1 : Int32) (2 : Int32) (by decide)) hZ (own_wi hw 120 rfl) (own_wi hw 113 rfl) (by decide) (by decide)) (g := (mkF m 2 #[rv ta, iv 1, iv 2, .unset, .unset] [(.int (2 : Int32)), (.int (1 : Int32))])) rfl (by rw [hml]; rfl) (argsL := [(.int (1 : Int32)), (.int (2 : Int32))]) (rest := []) (lenOf own_pd__II_V rfl) rfl (by show 2 * 0 + _ ≤ _; exact Nat.le_of_eq rfl) (hb hby ow15_2) (fun _ _ => ⟨rfl, e0, (by decide : 0 + 0 ≤ _), (by decide : 0 + 0 ≤ _)⟩)
  dsimp only [Pt.U, Pt.locs, Pt.cells, Pt.slots] at X1 l1 y1 z1 st1 hQ1
  subst l1 y1 z1
  obtain ⟨rfl, Nq1, e1⟩ := hQ1
  have N1 := Fr.app N0 Nq1
  have ch2 : ∀ t, SP p e below T1 (mkF m 5 #[rv ta, iv 1, iv 2, .unset, .unset] []) t → SP p e below s₁ (entryFrame m #[(.ref ta), (.int (1 : Int32)), (.int (2 : Int32))] 5) t := fun t k => pre0 t (by
      show SP p e below s₁ (mkF m 0 #[rv ta, iv 1, iv 2, .unset, .unset] []) t
      refine XS.iloadN X0.here hx rfl (hb hby ow15_0) rfl ?_
      refine XS.iloadN X0.here hx rfl (hb hby ow15_1) rfl ?_
      show SP p e below s₁ (mkF m 2 #[rv ta, iv 1, iv 2, .unset, .unset] [(.int (2 : Int32)), (.int (1 : Int32))]) t
      exact st1 t k)
  obtain ⟨T3, hp3, k3, X3, e3, E3, A3, st3⟩ := newP X1 hx hZ (own_wi hw 23 rfl) e1 (g := (mkF m 10 #[rv ta, iv 1, iv 2, iv 1, .unset] [(.int (1 : Int32))])) rfl (hb hby ow15_10) rfl (by decide) (cap := 1) (by decide) (by decide) (by decide) (by decide)
  obtain ⟨b3, g3⟩ : ∃ z, z = h0.size := ⟨_, rfl⟩
  rw [← g3] at A3 st3
  have ne_ta_b3 : ta ≠ b3 := Nat.ne_of_lt (Nat.lt_of_lt_of_le Vt.lt (Nat.le_of_eq g3.symm))
  have g_b3 : n0 ≤ b3 := Nat.le_trans (Nat.le_trans Z0 (Keep.refl h0 []).1) (Nat.le_of_eq g3.symm)
  have sz_b3 : h0.size ≤ b3 := Nat.le_trans (Keep.refl h0 []).1 (Nat.le_of_eq g3.symm)
  have Kp3 := Keep.ext (Keep.refl h0 []) E3
  have V3 : Arv Z hp3 b3 k3 .byte (1 : Int32) [(.int (0 : Int32))] (.int (0 : Int32)) := (Arv.new A3 (by decide)).pad (pad_rep [] (.int (0 : Int32)) 1)
  have ch4 : ∀ t, SP p e below T3 (mkF m 12 #[rv ta, iv 1, iv 2, iv 1, .unset] [(.ref b3)]) t → SP p e below s₁ (entryFrame m #[(.ref ta), (.int (1 : Int32)), (.int (2 : Int32))] 5) t := fun t k => ch2 t (by
      show SP p e below T1 (mkF m 5 #[rv ta, iv 1, iv 2, .unset, .unset] []) t
      refine XS.iloadN X1.here hx rfl (hb hby ow15_5) rfl ?_
      refine XS.iloadN X1.here hx rfl (hb hby ow15_6) rfl ?_
      show SP p e below T1 (mkF m 7 #[rv ta, iv 1, iv 2, .unset, .unset] [(.int (1 : Int32)), (.int (2 : Int32))]) t
      refine XS.isub X1.here hx rfl (hb hby ow15_7) rfl ?_
      rw [show ((2 : Int32) - (1 : Int32)) = (1 : Int32) from by decide]
      refine XS.istoreN X1.here hx rfl (hb hby ow15_8) rfl (l' := #[rv ta, iv 1, iv 2, iv 1, .unset]) rfl ?_
      refine XS.iloadN X1.here hx rfl (hb hby ow15_9) rfl ?_
      show SP p e below T1 (mkF m 10 #[rv ta, iv 1, iv 2, iv 1, .unset] [(.int (1 : Int32))]) t
      exact st3 t k)
  have cf5 := (Vt.keep Kp3 nin0)
  obtain ⟨cl6, Ar6, -, Sz6, Ng6, -, -⟩ := id cf5
  obtain ⟨vv7, _, ⟨T7, L7, kk7, nn7⟩, -, X7, ⟨Lc7, hQ7, l7, y7, z7⟩, st7⟩ := Jvm.LawKit.callS X3 hx (y := ym4) hown (mvT hZ (own_wi hw 121 rfl)) (mvT hZ (own_wi hw 72 rfl)) (mvT hZ (own_wi hw 69 rfl)) (mvT hZ (own_wi hw 73 rfl)) (by decide) (backOf (W := 4) (own_min l Z a0 hw [] hp3 n0 (Nat.le_trans Z0 Kp3.1) (1 : Int32)) hZ (own_wi hw 73 rfl) (own_wi hw 69 rfl) (by decide) (by decide)) (g := (mkF m 24 #[rv ta, iv 1, iv 2, iv 1, rv b3] [(.int (1 : Int32)), (.int (1 : Int32)), (.int (0 : Int32)), (.ref b3), (.int (1 : Int32)), (.ref ta)])) rfl (by rw [hml]; rfl) (argsL := [(.int (1 : Int32)), (.int (1 : Int32))]) (rest := [(.int (0 : Int32)), (.ref b3), (.int (1 : Int32)), (.ref ta)]) (lenOf own_pd__II_I rfl) rfl (by show 2 * 0 + _ ≤ _; exact Nat.le_of_eq rfl) (hb hby ow15_24) (fun _ _ => ⟨rfl, e3, (by decide : 1 + 0 ≤ _), (by decide : 1 + 0 ≤ _)⟩)
  dsimp only [Pt.U, Pt.locs, Pt.cells, Pt.slots] at X7 l7 y7 z7 st7 hQ7
  subst l7 y7 z7
  obtain ⟨rfl, Nq7, e7⟩ := hQ7
  have N7 := Fr.app N1 Nq7
  have ch8 : ∀ t, SP p e below T7 (mkF m 27 #[rv ta, iv 1, iv 2, iv 1, rv b3] [(.int (1 : Int32)), (.int (0 : Int32)), (.ref b3), (.int (1 : Int32)), (.ref ta)]) t → SP p e below s₁ (entryFrame m #[(.ref ta), (.int (1 : Int32)), (.int (2 : Int32))] 5) t := fun t k => ch4 t (by
      show SP p e below T3 (mkF m 12 #[rv ta, iv 1, iv 2, iv 1, .unset] [(.ref b3)]) t
      refine XS.astore X3.here hx rfl (hb hby ow15_12) rfl rfl (l' := #[rv ta, iv 1, iv 2, iv 1, rv b3]) rfl ?_
      refine XS.aloadN X3.here hx rfl (hb hby ow15_14) rfl rfl ?_
      refine XS.iloadN X3.here hx rfl (hb hby ow15_15) rfl ?_
      refine XS.aload X3.here hx rfl (hb hby ow15_16) rfl rfl ?_
      show SP p e below T3 (mkF m 18 #[rv ta, iv 1, iv 2, iv 1, rv b3] [(.ref b3), (.int (1 : Int32)), (.ref ta)]) t
      refine XS.iconst X3.here hx rfl (hb hby ow15_18) ?_
      refine XS.aloadN X3.here hx rfl (hb hby ow15_19) rfl rfl ?_
      show SP p e below T3 (mkF m 20 #[rv ta, iv 1, iv 2, iv 1, rv b3] [(.ref ta), (.int (0 : Int32)), (.ref b3), (.int (1 : Int32)), (.ref ta)]) t
      refine X3.arraylength hx (by rw [e3]; exact Ar6.1) (State.isArrayOf_alike hZ.alike Ar6.2.1) (g := (mkF m 20 #[rv ta, iv 1, iv 2, iv 1, rv b3] [(.ref ta), (.int (0 : Int32)), (.ref b3), (.int (1 : Int32)), (.ref ta)])) rfl rfl (hb hby ow15_20) _ ?_
      rw [len_of Sz6 Ng6]
      refine XS.iloadN X3.here hx rfl (hb hby ow15_21) rfl ?_
      show SP p e below T3 (mkF m 22 #[rv ta, iv 1, iv 2, iv 1, rv b3] [(.int (1 : Int32)), (.int (2 : Int32)), (.int (0 : Int32)), (.ref b3), (.int (1 : Int32)), (.ref ta)]) t
      refine XS.isub X3.here hx rfl (hb hby ow15_22) rfl ?_
      rw [show ((2 : Int32) - (1 : Int32)) = (1 : Int32) from by decide]
      refine XS.iloadN X3.here hx rfl (hb hby ow15_23) rfl ?_
      show SP p e below T3 (mkF m 24 #[rv ta, iv 1, iv 2, iv 1, rv b3] [(.int (1 : Int32)), (.int (1 : Int32)), (.int (0 : Int32)), (.ref b3), (.int (1 : Int32)), (.ref ta)]) t
      exact st7 t k)
  obtain ⟨T9, hp9, Lc9, X9, e9, N9, Kq9, Vq9, st9⟩ := cpA X7 hx hZ hown (own_wi hw 122 rfl) (own_wi hw 125 rfl) (own_wi hw 123 rfl) (own_wi hw 124 rfl) e7 cf5 V3 (Or.inl ⟨rfl, rfl⟩) (by decide) (by decide) (by decide) (by decide) (by decide) (us := [(.int bz1)]) rfl (by decide) N7 g_b3 (g := (mkF m 27 #[rv ta, iv 1, iv 2, iv 1, rv b3] [(.int (1 : Int32)), (.int (0 : Int32)), (.ref b3), (.int (1 : Int32)), (.ref ta)])) rfl (by rw [hml]; rfl) (rest := []) rfl (hb hby ow15_27) (by decide) (W := 0) (by show 2 * 0 + _ ≤ _; exact Nat.le_of_eq rfl) (by decide)
  have ch10 : ∀ t, SP p e below T9 (mkF m 30 #[rv ta, iv 1, iv 2, iv 1, rv b3] []) t → SP p e below s₁ (entryFrame m #[(.ref ta), (.int (1 : Int32)), (.int (2 : Int32))] 5) t := fun t k => ch8 t (by
      show SP p e below T7 (mkF m 27 #[rv ta, iv 1, iv 2, iv 1, rv b3] [(.int (1 : Int32)), (.int (0 : Int32)), (.ref b3), (.int (1 : Int32)), (.ref ta)]) t
      exact st9 t k)
  have Kp9 := Keep.trans Kp3 Kq9 (allS (Or.inr sz_b3) all0)
  have V9 : Arv Z hp9 b3 k3 .byte (1 : Int32) [(.int bz1)] (.int (0 : Int32)) := Vq9
  have ch11 : ∀ t, SP p e below T9 (mkF m 32 #[rv ta, iv 1, iv 2, iv 1, rv b3] [(.ref b3)]) t → SP p e below s₁ (entryFrame m #[(.ref ta), (.int (1 : Int32)), (.int (2 : Int32))] 5) t := fun t k => ch10 t (by
      show SP p e below T9 (mkF m 30 #[rv ta, iv 1, iv 2, iv 1, rv b3] []) t
      refine XS.aload X9.here hx rfl (hb hby ow15_30) rfl rfl ?_
      exact k)
  obtain ⟨fs, hr, hrun, hended, hW, hsame⟩ := X9.leave (v := some (.ref b3)) (fun h => by rw [Bd.returns] at h; cases h)
  refine ⟨_, _, ch11 _ ?_, hrun, hended, _, _, rfl, ?_, ⟨_, rfl⟩, hW, hsame.mono (by decide) (by decide)⟩
  · show Steps p.tables e below (T9.setTop (mkF m 32 #[rv ta, iv 1, iv 2, iv 1, rv b3] [(.ref b3)])) _
    jvm_step X9.here [X9.here.top, hx, (hb hby ow15_32), X9.method', Bd.returns, Value.isRef, FieldType.isReference]
    first | (intro acts; rw [hr _ acts rfl rfl rfl]) | rw [hr _ _ rfl rfl rfl]
    exact Steps.refl _
  · show QA Z (1 : Int32) [(.int bz1)] h0 n0 _ T9.heap _
    rw [e9]
    exact ⟨_, _, rfl, sz_b3, N9, Kp9, V9⟩
theorem own_ef_own_corb_31 (m : MethodId) {x0 : Addr} {x1 : Int32} {x2 : Int32} : entryFrame m #[(.ref x0), (.int x1), (.int x2)] 5 = mkF m 0 #[rv x0, iv x1, iv x2, .unset, .unset] [] := by first | (simp [entryFrame, mkF, argsToLocals, Value.category, maxLocals]; done) | rfl
set_option maxRecDepth 65536 in
set_option maxHeartbeats 40000000 in
theorem own_corb_31 (l : Launch) (Z : State) (a0 : Array Value) (hw : ∀ d ∈ tables_1, d.before a0 Z = true) (ws : List Jvm.Cond) (h0 : Heap) (n0 : Nat) (Z0 : n0 ≤ h0.size) (ta : Addr) (kt : ClassId) (bz0 bz1 bz2 : Int32) (Vt : Arv Z h0 ta kt .byte (3 : Int32) [(.int bz0), (.int bz1), (.int bz2)] (.int (0 : Int32))) :
    MetFree l ym25 (head1 (Jvm.Cond.code ym25 jdk_65_method_133_code 5 (some (.array .byte)) :: ws) rm10) (fun a U => a = #[(.ref ta), (.int (1 : Int32)), (.int (3 : Int32))] ∧ Z.Warmed39 U.vm ∧ U.heap = h0) (fun _ _ _ _ _ => True) (fun _ U o U' => ∃ v L, o = .returned v ∧ QA Z (2 : Int32) [(.int bz1), (.int bz2)] h0 n0 v U'.heap L ∧ FrameEnd U o U' L rm10.cells rm10.slots) := by
  refine MetFree.of_bodySF (plainFor_of_name own_pn_java_util_Arrays) hisR ?_
  intro p e s m args below meth c s₁ Bd hml0 hP hK
  obtain ⟨rfl, hZ, hh⟩ := hP
  have hx := Bd.exec
  have hby := Bd.bytes
  have hml : c.maxLocals = 5 := hml0
  have hown : s.vm.findClass "java/util/Arrays" = some m.cls := (findClass_of_methodNamed Bd.named :)
  have hnm := (name_of_methodNamed Bd.named Bd.method).1
  have X0 : Stand p l e rm10 s m #[(.ref ta), (.int (1 : Int32)), (.int (3 : Int32))] below meth c s₁ [] 0 0 := Stand.of_body Bd
  have e0 : s₁.heap = h0 := by rw [← hh, Bd.state]; rfl
  have N0 := Fr.nil n0
  have pre0 : ∀ t, SP p e below s₁ (mkF m 0 #[rv ta, iv 1, iv 3, .unset, .unset] []) t → SP p e below s₁ (entryFrame m #[(.ref ta), (.int (1 : Int32)), (.int (3 : Int32))] 5) t := fun t k => castTop (own_ef_own_corb_31 m) k
  obtain ⟨vv1, _, ⟨T1, L1, kk1, nn1⟩, -, X1, ⟨Lc1, hQ1, l1, y1, z1⟩, st1⟩ := Jvm.LawKit.callS X0 hx (y := ym23) hown (mvT hZ (own_wi hw 118 rfl)) (mvT hZ (own_wi hw 119 rfl)) (mvT hZ (own_wi hw 113 rfl)) (mvT hZ (own_wi hw 120 rfl)) (by decide) (backOf (W := 0) (own_cle l Z a0 hw [] h0 n0 (Nat.le_trans Z0 (Keep.refl h0 []).1) (1 : Int32) (3 : Int32) (by decide)) hZ (own_wi hw 120 rfl) (own_wi hw 113 rfl) (by decide) (by decide)) (g := (mkF m 2 #[rv ta, iv 1, iv 3, .unset, .unset] [(.int (3 : Int32)), (.int (1 : Int32))])) rfl (by rw [hml]; rfl) (argsL := [(.int (1 : Int32)), (.int (3 : Int32))]) (rest := []) (lenOf own_pd__II_V rfl) rfl (by show 2 * 0 + _ ≤ _; exact Nat.le_of_eq rfl) (hb hby ow15_2) (fun _ _ => ⟨rfl, e0, (by decide : 0 + 0 ≤ _), (by decide : 0 + 0 ≤ _)⟩)
  dsimp only [Pt.U, Pt.locs, Pt.cells, Pt.slots] at X1 l1 y1 z1 st1 hQ1
  subst l1 y1 z1
  obtain ⟨rfl, Nq1, e1⟩ := hQ1
  have N1 := Fr.app N0 Nq1
  have ch2 : ∀ t, SP p e below T1 (mkF m 5 #[rv ta, iv 1, iv 3, .unset, .unset] []) t → SP p e below s₁ (entryFrame m #[(.ref ta), (.int (1 : Int32)), (.int (3 : Int32))] 5) t := fun t k => pre0 t (by
      show SP p e below s₁ (mkF m 0 #[rv ta, iv 1, iv 3, .unset, .unset] []) t
      refine XS.iloadN X0.here hx rfl (hb hby ow15_0) rfl ?_
      refine XS.iloadN X0.here hx rfl (hb hby ow15_1) rfl ?_
      show SP p e below s₁ (mkF m 2 #[rv ta, iv 1, iv 3, .unset, .unset] [(.int (3 : Int32)), (.int (1 : Int32))]) t
      exact st1 t k)
  obtain ⟨T3, hp3, k3, X3, e3, E3, A3, st3⟩ := newP X1 hx hZ (own_wi hw 23 rfl) e1 (g := (mkF m 10 #[rv ta, iv 1, iv 3, iv 2, .unset] [(.int (2 : Int32))])) rfl (hb hby ow15_10) rfl (by decide) (cap := 2) (by decide) (by decide) (by decide) (by decide)
  obtain ⟨b3, g3⟩ : ∃ z, z = h0.size := ⟨_, rfl⟩
  rw [← g3] at A3 st3
  have ne_ta_b3 : ta ≠ b3 := Nat.ne_of_lt (Nat.lt_of_lt_of_le Vt.lt (Nat.le_of_eq g3.symm))
  have g_b3 : n0 ≤ b3 := Nat.le_trans (Nat.le_trans Z0 (Keep.refl h0 []).1) (Nat.le_of_eq g3.symm)
  have sz_b3 : h0.size ≤ b3 := Nat.le_trans (Keep.refl h0 []).1 (Nat.le_of_eq g3.symm)
  have Kp3 := Keep.ext (Keep.refl h0 []) E3
  have V3 : Arv Z hp3 b3 k3 .byte (2 : Int32) [(.int (0 : Int32)), (.int (0 : Int32))] (.int (0 : Int32)) := (Arv.new A3 (by decide)).pad (pad_rep [] (.int (0 : Int32)) 2)
  have ch4 : ∀ t, SP p e below T3 (mkF m 12 #[rv ta, iv 1, iv 3, iv 2, .unset] [(.ref b3)]) t → SP p e below s₁ (entryFrame m #[(.ref ta), (.int (1 : Int32)), (.int (3 : Int32))] 5) t := fun t k => ch2 t (by
      show SP p e below T1 (mkF m 5 #[rv ta, iv 1, iv 3, .unset, .unset] []) t
      refine XS.iloadN X1.here hx rfl (hb hby ow15_5) rfl ?_
      refine XS.iloadN X1.here hx rfl (hb hby ow15_6) rfl ?_
      show SP p e below T1 (mkF m 7 #[rv ta, iv 1, iv 3, .unset, .unset] [(.int (1 : Int32)), (.int (3 : Int32))]) t
      refine XS.isub X1.here hx rfl (hb hby ow15_7) rfl ?_
      rw [show ((3 : Int32) - (1 : Int32)) = (2 : Int32) from by decide]
      refine XS.istoreN X1.here hx rfl (hb hby ow15_8) rfl (l' := #[rv ta, iv 1, iv 3, iv 2, .unset]) rfl ?_
      refine XS.iloadN X1.here hx rfl (hb hby ow15_9) rfl ?_
      show SP p e below T1 (mkF m 10 #[rv ta, iv 1, iv 3, iv 2, .unset] [(.int (2 : Int32))]) t
      exact st3 t k)
  have cf5 := (Vt.keep Kp3 nin0)
  obtain ⟨cl6, Ar6, -, Sz6, Ng6, -, -⟩ := id cf5
  obtain ⟨vv7, _, ⟨T7, L7, kk7, nn7⟩, -, X7, ⟨Lc7, hQ7, l7, y7, z7⟩, st7⟩ := Jvm.LawKit.callS X3 hx (y := ym4) hown (mvT hZ (own_wi hw 121 rfl)) (mvT hZ (own_wi hw 72 rfl)) (mvT hZ (own_wi hw 69 rfl)) (mvT hZ (own_wi hw 73 rfl)) (by decide) (backOf (W := 4) (own_min l Z a0 hw [] hp3 n0 (Nat.le_trans Z0 Kp3.1) (2 : Int32)) hZ (own_wi hw 73 rfl) (own_wi hw 69 rfl) (by decide) (by decide)) (g := (mkF m 24 #[rv ta, iv 1, iv 3, iv 2, rv b3] [(.int (2 : Int32)), (.int (2 : Int32)), (.int (0 : Int32)), (.ref b3), (.int (1 : Int32)), (.ref ta)])) rfl (by rw [hml]; rfl) (argsL := [(.int (2 : Int32)), (.int (2 : Int32))]) (rest := [(.int (0 : Int32)), (.ref b3), (.int (1 : Int32)), (.ref ta)]) (lenOf own_pd__II_I rfl) rfl (by show 2 * 0 + _ ≤ _; exact Nat.le_of_eq rfl) (hb hby ow15_24) (fun _ _ => ⟨rfl, e3, (by decide : 1 + 0 ≤ _), (by decide : 2 + 0 ≤ _)⟩)
  dsimp only [Pt.U, Pt.locs, Pt.cells, Pt.slots] at X7 l7 y7 z7 st7 hQ7
  subst l7 y7 z7
  obtain ⟨rfl, Nq7, e7⟩ := hQ7
  have N7 := Fr.app N1 Nq7
  have ch8 : ∀ t, SP p e below T7 (mkF m 27 #[rv ta, iv 1, iv 3, iv 2, rv b3] [(.int (2 : Int32)), (.int (0 : Int32)), (.ref b3), (.int (1 : Int32)), (.ref ta)]) t → SP p e below s₁ (entryFrame m #[(.ref ta), (.int (1 : Int32)), (.int (3 : Int32))] 5) t := fun t k => ch4 t (by
      show SP p e below T3 (mkF m 12 #[rv ta, iv 1, iv 3, iv 2, .unset] [(.ref b3)]) t
      refine XS.astore X3.here hx rfl (hb hby ow15_12) rfl rfl (l' := #[rv ta, iv 1, iv 3, iv 2, rv b3]) rfl ?_
      refine XS.aloadN X3.here hx rfl (hb hby ow15_14) rfl rfl ?_
      refine XS.iloadN X3.here hx rfl (hb hby ow15_15) rfl ?_
      refine XS.aload X3.here hx rfl (hb hby ow15_16) rfl rfl ?_
      show SP p e below T3 (mkF m 18 #[rv ta, iv 1, iv 3, iv 2, rv b3] [(.ref b3), (.int (1 : Int32)), (.ref ta)]) t
      refine XS.iconst X3.here hx rfl (hb hby ow15_18) ?_
      refine XS.aloadN X3.here hx rfl (hb hby ow15_19) rfl rfl ?_
      show SP p e below T3 (mkF m 20 #[rv ta, iv 1, iv 3, iv 2, rv b3] [(.ref ta), (.int (0 : Int32)), (.ref b3), (.int (1 : Int32)), (.ref ta)]) t
      refine X3.arraylength hx (by rw [e3]; exact Ar6.1) (State.isArrayOf_alike hZ.alike Ar6.2.1) (g := (mkF m 20 #[rv ta, iv 1, iv 3, iv 2, rv b3] [(.ref ta), (.int (0 : Int32)), (.ref b3), (.int (1 : Int32)), (.ref ta)])) rfl rfl (hb hby ow15_20) _ ?_
      rw [len_of Sz6 Ng6]
      refine XS.iloadN X3.here hx rfl (hb hby ow15_21) rfl ?_
      show SP p e below T3 (mkF m 22 #[rv ta, iv 1, iv 3, iv 2, rv b3] [(.int (1 : Int32)), (.int (3 : Int32)), (.int (0 : Int32)), (.ref b3), (.int (1 : Int32)), (.ref ta)]) t
      refine XS.isub X3.here hx rfl (hb hby ow15_22) rfl ?_
      rw [show ((3 : Int32) - (1 : Int32)) = (2 : Int32) from by decide]
      refine XS.iloadN X3.here hx rfl (hb hby ow15_23) rfl ?_
      show SP p e below T3 (mkF m 24 #[rv ta, iv 1, iv 3, iv 2, rv b3] [(.int (2 : Int32)), (.int (2 : Int32)), (.int (0 : Int32)), (.ref b3), (.int (1 : Int32)), (.ref ta)]) t
      exact st7 t k)
  obtain ⟨T9, hp9, Lc9, X9, e9, N9, Kq9, Vq9, st9⟩ := cpA X7 hx hZ hown (own_wi hw 122 rfl) (own_wi hw 125 rfl) (own_wi hw 123 rfl) (own_wi hw 124 rfl) e7 cf5 V3 (Or.inl ⟨rfl, rfl⟩) (by decide) (by decide) (by decide) (by decide) (by decide) (us := [(.int bz1), (.int bz2)]) rfl (by decide) N7 g_b3 (g := (mkF m 27 #[rv ta, iv 1, iv 3, iv 2, rv b3] [(.int (2 : Int32)), (.int (0 : Int32)), (.ref b3), (.int (1 : Int32)), (.ref ta)])) rfl (by rw [hml]; rfl) (rest := []) rfl (hb hby ow15_27) (by decide) (W := 0) (by show 2 * 0 + _ ≤ _; exact Nat.le_of_eq rfl) (by decide)
  have ch10 : ∀ t, SP p e below T9 (mkF m 30 #[rv ta, iv 1, iv 3, iv 2, rv b3] []) t → SP p e below s₁ (entryFrame m #[(.ref ta), (.int (1 : Int32)), (.int (3 : Int32))] 5) t := fun t k => ch8 t (by
      show SP p e below T7 (mkF m 27 #[rv ta, iv 1, iv 3, iv 2, rv b3] [(.int (2 : Int32)), (.int (0 : Int32)), (.ref b3), (.int (1 : Int32)), (.ref ta)]) t
      exact st9 t k)
  have Kp9 := Keep.trans Kp3 Kq9 (allS (Or.inr sz_b3) all0)
  have V9 : Arv Z hp9 b3 k3 .byte (2 : Int32) [(.int bz1), (.int bz2)] (.int (0 : Int32)) := Vq9
  have ch11 : ∀ t, SP p e below T9 (mkF m 32 #[rv ta, iv 1, iv 3, iv 2, rv b3] [(.ref b3)]) t → SP p e below s₁ (entryFrame m #[(.ref ta), (.int (1 : Int32)), (.int (3 : Int32))] 5) t := fun t k => ch10 t (by
      show SP p e below T9 (mkF m 30 #[rv ta, iv 1, iv 3, iv 2, rv b3] []) t
      refine XS.aload X9.here hx rfl (hb hby ow15_30) rfl rfl ?_
      exact k)
  obtain ⟨fs, hr, hrun, hended, hW, hsame⟩ := X9.leave (v := some (.ref b3)) (fun h => by rw [Bd.returns] at h; cases h)
  refine ⟨_, _, ch11 _ ?_, hrun, hended, _, _, rfl, ?_, ⟨_, rfl⟩, hW, hsame.mono (by decide) (by decide)⟩
  · show Steps p.tables e below (T9.setTop (mkF m 32 #[rv ta, iv 1, iv 3, iv 2, rv b3] [(.ref b3)])) _
    jvm_step X9.here [X9.here.top, hx, (hb hby ow15_32), X9.method', Bd.returns, Value.isRef, FieldType.isReference]
    first | (intro acts; rw [hr _ acts rfl rfl rfl]) | rw [hr _ _ rfl rfl rfl]
    exact Steps.refl _
  · show QA Z (2 : Int32) [(.int bz1), (.int bz2)] h0 n0 _ T9.heap _
    rw [e9]
    exact ⟨_, _, rfl, sz_b3, N9, Kp9, V9⟩
theorem own_ef_own_corb_32 (m : MethodId) {x0 : Addr} {x1 : Int32} {x2 : Int32} : entryFrame m #[(.ref x0), (.int x1), (.int x2)] 5 = mkF m 0 #[rv x0, iv x1, iv x2, .unset, .unset] [] := by first | (simp [entryFrame, mkF, argsToLocals, Value.category, maxLocals]; done) | rfl
set_option maxRecDepth 65536 in
set_option maxHeartbeats 40000000 in
theorem own_corb_32 (l : Launch) (Z : State) (a0 : Array Value) (hw : ∀ d ∈ tables_1, d.before a0 Z = true) (ws : List Jvm.Cond) (h0 : Heap) (n0 : Nat) (Z0 : n0 ≤ h0.size) (ta : Addr) (kt : ClassId) (bz0 bz1 bz2 : Int32) (Vt : Arv Z h0 ta kt .byte (3 : Int32) [(.int bz0), (.int bz1), (.int bz2)] (.int (0 : Int32))) :
    MetFree l ym25 (head1 (Jvm.Cond.code ym25 jdk_65_method_133_code 5 (some (.array .byte)) :: ws) rm10) (fun a U => a = #[(.ref ta), (.int (2 : Int32)), (.int (3 : Int32))] ∧ Z.Warmed39 U.vm ∧ U.heap = h0) (fun _ _ _ _ _ => True) (fun _ U o U' => ∃ v L, o = .returned v ∧ QA Z (1 : Int32) [(.int bz2)] h0 n0 v U'.heap L ∧ FrameEnd U o U' L rm10.cells rm10.slots) := by
  refine MetFree.of_bodySF (plainFor_of_name own_pn_java_util_Arrays) hisR ?_
  intro p e s m args below meth c s₁ Bd hml0 hP hK
  obtain ⟨rfl, hZ, hh⟩ := hP
  have hx := Bd.exec
  have hby := Bd.bytes
  have hml : c.maxLocals = 5 := hml0
  have hown : s.vm.findClass "java/util/Arrays" = some m.cls := (findClass_of_methodNamed Bd.named :)
  have hnm := (name_of_methodNamed Bd.named Bd.method).1
  have X0 : Stand p l e rm10 s m #[(.ref ta), (.int (2 : Int32)), (.int (3 : Int32))] below meth c s₁ [] 0 0 := Stand.of_body Bd
  have e0 : s₁.heap = h0 := by rw [← hh, Bd.state]; rfl
  have N0 := Fr.nil n0
  have pre0 : ∀ t, SP p e below s₁ (mkF m 0 #[rv ta, iv 2, iv 3, .unset, .unset] []) t → SP p e below s₁ (entryFrame m #[(.ref ta), (.int (2 : Int32)), (.int (3 : Int32))] 5) t := fun t k => castTop (own_ef_own_corb_32 m) k
  obtain ⟨vv1, _, ⟨T1, L1, kk1, nn1⟩, -, X1, ⟨Lc1, hQ1, l1, y1, z1⟩, st1⟩ := Jvm.LawKit.callS X0 hx (y := ym23) hown (mvT hZ (own_wi hw 118 rfl)) (mvT hZ (own_wi hw 119 rfl)) (mvT hZ (own_wi hw 113 rfl)) (mvT hZ (own_wi hw 120 rfl)) (by decide) (backOf (W := 0) (own_cle l Z a0 hw [] h0 n0 (Nat.le_trans Z0 (Keep.refl h0 []).1) (2 : Int32) (3 : Int32) (by decide)) hZ (own_wi hw 120 rfl) (own_wi hw 113 rfl) (by decide) (by decide)) (g := (mkF m 2 #[rv ta, iv 2, iv 3, .unset, .unset] [(.int (3 : Int32)), (.int (2 : Int32))])) rfl (by rw [hml]; rfl) (argsL := [(.int (2 : Int32)), (.int (3 : Int32))]) (rest := []) (lenOf own_pd__II_V rfl) rfl (by show 2 * 0 + _ ≤ _; exact Nat.le_of_eq rfl) (hb hby ow15_2) (fun _ _ => ⟨rfl, e0, (by decide : 0 + 0 ≤ _), (by decide : 0 + 0 ≤ _)⟩)
  dsimp only [Pt.U, Pt.locs, Pt.cells, Pt.slots] at X1 l1 y1 z1 st1 hQ1
  subst l1 y1 z1
  obtain ⟨rfl, Nq1, e1⟩ := hQ1
  have N1 := Fr.app N0 Nq1
  have ch2 : ∀ t, SP p e below T1 (mkF m 5 #[rv ta, iv 2, iv 3, .unset, .unset] []) t → SP p e below s₁ (entryFrame m #[(.ref ta), (.int (2 : Int32)), (.int (3 : Int32))] 5) t := fun t k => pre0 t (by
      show SP p e below s₁ (mkF m 0 #[rv ta, iv 2, iv 3, .unset, .unset] []) t
      refine XS.iloadN X0.here hx rfl (hb hby ow15_0) rfl ?_
      refine XS.iloadN X0.here hx rfl (hb hby ow15_1) rfl ?_
      show SP p e below s₁ (mkF m 2 #[rv ta, iv 2, iv 3, .unset, .unset] [(.int (3 : Int32)), (.int (2 : Int32))]) t
      exact st1 t k)
  obtain ⟨T3, hp3, k3, X3, e3, E3, A3, st3⟩ := newP X1 hx hZ (own_wi hw 23 rfl) e1 (g := (mkF m 10 #[rv ta, iv 2, iv 3, iv 1, .unset] [(.int (1 : Int32))])) rfl (hb hby ow15_10) rfl (by decide) (cap := 1) (by decide) (by decide) (by decide) (by decide)
  obtain ⟨b3, g3⟩ : ∃ z, z = h0.size := ⟨_, rfl⟩
  rw [← g3] at A3 st3
  have ne_ta_b3 : ta ≠ b3 := Nat.ne_of_lt (Nat.lt_of_lt_of_le Vt.lt (Nat.le_of_eq g3.symm))
  have g_b3 : n0 ≤ b3 := Nat.le_trans (Nat.le_trans Z0 (Keep.refl h0 []).1) (Nat.le_of_eq g3.symm)
  have sz_b3 : h0.size ≤ b3 := Nat.le_trans (Keep.refl h0 []).1 (Nat.le_of_eq g3.symm)
  have Kp3 := Keep.ext (Keep.refl h0 []) E3
  have V3 : Arv Z hp3 b3 k3 .byte (1 : Int32) [(.int (0 : Int32))] (.int (0 : Int32)) := (Arv.new A3 (by decide)).pad (pad_rep [] (.int (0 : Int32)) 1)
  have ch4 : ∀ t, SP p e below T3 (mkF m 12 #[rv ta, iv 2, iv 3, iv 1, .unset] [(.ref b3)]) t → SP p e below s₁ (entryFrame m #[(.ref ta), (.int (2 : Int32)), (.int (3 : Int32))] 5) t := fun t k => ch2 t (by
      show SP p e below T1 (mkF m 5 #[rv ta, iv 2, iv 3, .unset, .unset] []) t
      refine XS.iloadN X1.here hx rfl (hb hby ow15_5) rfl ?_
      refine XS.iloadN X1.here hx rfl (hb hby ow15_6) rfl ?_
      show SP p e below T1 (mkF m 7 #[rv ta, iv 2, iv 3, .unset, .unset] [(.int (2 : Int32)), (.int (3 : Int32))]) t
      refine XS.isub X1.here hx rfl (hb hby ow15_7) rfl ?_
      rw [show ((3 : Int32) - (2 : Int32)) = (1 : Int32) from by decide]
      refine XS.istoreN X1.here hx rfl (hb hby ow15_8) rfl (l' := #[rv ta, iv 2, iv 3, iv 1, .unset]) rfl ?_
      refine XS.iloadN X1.here hx rfl (hb hby ow15_9) rfl ?_
      show SP p e below T1 (mkF m 10 #[rv ta, iv 2, iv 3, iv 1, .unset] [(.int (1 : Int32))]) t
      exact st3 t k)
  have cf5 := (Vt.keep Kp3 nin0)
  obtain ⟨cl6, Ar6, -, Sz6, Ng6, -, -⟩ := id cf5
  obtain ⟨vv7, _, ⟨T7, L7, kk7, nn7⟩, -, X7, ⟨Lc7, hQ7, l7, y7, z7⟩, st7⟩ := Jvm.LawKit.callS X3 hx (y := ym4) hown (mvT hZ (own_wi hw 121 rfl)) (mvT hZ (own_wi hw 72 rfl)) (mvT hZ (own_wi hw 69 rfl)) (mvT hZ (own_wi hw 73 rfl)) (by decide) (backOf (W := 4) (own_min l Z a0 hw [] hp3 n0 (Nat.le_trans Z0 Kp3.1) (1 : Int32)) hZ (own_wi hw 73 rfl) (own_wi hw 69 rfl) (by decide) (by decide)) (g := (mkF m 24 #[rv ta, iv 2, iv 3, iv 1, rv b3] [(.int (1 : Int32)), (.int (1 : Int32)), (.int (0 : Int32)), (.ref b3), (.int (2 : Int32)), (.ref ta)])) rfl (by rw [hml]; rfl) (argsL := [(.int (1 : Int32)), (.int (1 : Int32))]) (rest := [(.int (0 : Int32)), (.ref b3), (.int (2 : Int32)), (.ref ta)]) (lenOf own_pd__II_I rfl) rfl (by show 2 * 0 + _ ≤ _; exact Nat.le_of_eq rfl) (hb hby ow15_24) (fun _ _ => ⟨rfl, e3, (by decide : 1 + 0 ≤ _), (by decide : 1 + 0 ≤ _)⟩)
  dsimp only [Pt.U, Pt.locs, Pt.cells, Pt.slots] at X7 l7 y7 z7 st7 hQ7
  subst l7 y7 z7
  obtain ⟨rfl, Nq7, e7⟩ := hQ7
  have N7 := Fr.app N1 Nq7
  have ch8 : ∀ t, SP p e below T7 (mkF m 27 #[rv ta, iv 2, iv 3, iv 1, rv b3] [(.int (1 : Int32)), (.int (0 : Int32)), (.ref b3), (.int (2 : Int32)), (.ref ta)]) t → SP p e below s₁ (entryFrame m #[(.ref ta), (.int (2 : Int32)), (.int (3 : Int32))] 5) t := fun t k => ch4 t (by
      show SP p e below T3 (mkF m 12 #[rv ta, iv 2, iv 3, iv 1, .unset] [(.ref b3)]) t
      refine XS.astore X3.here hx rfl (hb hby ow15_12) rfl rfl (l' := #[rv ta, iv 2, iv 3, iv 1, rv b3]) rfl ?_
      refine XS.aloadN X3.here hx rfl (hb hby ow15_14) rfl rfl ?_
      refine XS.iloadN X3.here hx rfl (hb hby ow15_15) rfl ?_
      refine XS.aload X3.here hx rfl (hb hby ow15_16) rfl rfl ?_
      show SP p e below T3 (mkF m 18 #[rv ta, iv 2, iv 3, iv 1, rv b3] [(.ref b3), (.int (2 : Int32)), (.ref ta)]) t
      refine XS.iconst X3.here hx rfl (hb hby ow15_18) ?_
      refine XS.aloadN X3.here hx rfl (hb hby ow15_19) rfl rfl ?_
      show SP p e below T3 (mkF m 20 #[rv ta, iv 2, iv 3, iv 1, rv b3] [(.ref ta), (.int (0 : Int32)), (.ref b3), (.int (2 : Int32)), (.ref ta)]) t
      refine X3.arraylength hx (by rw [e3]; exact Ar6.1) (State.isArrayOf_alike hZ.alike Ar6.2.1) (g := (mkF m 20 #[rv ta, iv 2, iv 3, iv 1, rv b3] [(.ref ta), (.int (0 : Int32)), (.ref b3), (.int (2 : Int32)), (.ref ta)])) rfl rfl (hb hby ow15_20) _ ?_
      rw [len_of Sz6 Ng6]
      refine XS.iloadN X3.here hx rfl (hb hby ow15_21) rfl ?_
      show SP p e below T3 (mkF m 22 #[rv ta, iv 2, iv 3, iv 1, rv b3] [(.int (2 : Int32)), (.int (3 : Int32)), (.int (0 : Int32)), (.ref b3), (.int (2 : Int32)), (.ref ta)]) t
      refine XS.isub X3.here hx rfl (hb hby ow15_22) rfl ?_
      rw [show ((3 : Int32) - (2 : Int32)) = (1 : Int32) from by decide]
      refine XS.iloadN X3.here hx rfl (hb hby ow15_23) rfl ?_
      show SP p e below T3 (mkF m 24 #[rv ta, iv 2, iv 3, iv 1, rv b3] [(.int (1 : Int32)), (.int (1 : Int32)), (.int (0 : Int32)), (.ref b3), (.int (2 : Int32)), (.ref ta)]) t
      exact st7 t k)
  obtain ⟨T9, hp9, Lc9, X9, e9, N9, Kq9, Vq9, st9⟩ := cpA X7 hx hZ hown (own_wi hw 122 rfl) (own_wi hw 125 rfl) (own_wi hw 123 rfl) (own_wi hw 124 rfl) e7 cf5 V3 (Or.inl ⟨rfl, rfl⟩) (by decide) (by decide) (by decide) (by decide) (by decide) (us := [(.int bz2)]) rfl (by decide) N7 g_b3 (g := (mkF m 27 #[rv ta, iv 2, iv 3, iv 1, rv b3] [(.int (1 : Int32)), (.int (0 : Int32)), (.ref b3), (.int (2 : Int32)), (.ref ta)])) rfl (by rw [hml]; rfl) (rest := []) rfl (hb hby ow15_27) (by decide) (W := 0) (by show 2 * 0 + _ ≤ _; exact Nat.le_of_eq rfl) (by decide)
  have ch10 : ∀ t, SP p e below T9 (mkF m 30 #[rv ta, iv 2, iv 3, iv 1, rv b3] []) t → SP p e below s₁ (entryFrame m #[(.ref ta), (.int (2 : Int32)), (.int (3 : Int32))] 5) t := fun t k => ch8 t (by
      show SP p e below T7 (mkF m 27 #[rv ta, iv 2, iv 3, iv 1, rv b3] [(.int (1 : Int32)), (.int (0 : Int32)), (.ref b3), (.int (2 : Int32)), (.ref ta)]) t
      exact st9 t k)
  have Kp9 := Keep.trans Kp3 Kq9 (allS (Or.inr sz_b3) all0)
  have V9 : Arv Z hp9 b3 k3 .byte (1 : Int32) [(.int bz2)] (.int (0 : Int32)) := Vq9
  have ch11 : ∀ t, SP p e below T9 (mkF m 32 #[rv ta, iv 2, iv 3, iv 1, rv b3] [(.ref b3)]) t → SP p e below s₁ (entryFrame m #[(.ref ta), (.int (2 : Int32)), (.int (3 : Int32))] 5) t := fun t k => ch10 t (by
      show SP p e below T9 (mkF m 30 #[rv ta, iv 2, iv 3, iv 1, rv b3] []) t
      refine XS.aload X9.here hx rfl (hb hby ow15_30) rfl rfl ?_
      exact k)
  obtain ⟨fs, hr, hrun, hended, hW, hsame⟩ := X9.leave (v := some (.ref b3)) (fun h => by rw [Bd.returns] at h; cases h)
  refine ⟨_, _, ch11 _ ?_, hrun, hended, _, _, rfl, ?_, ⟨_, rfl⟩, hW, hsame.mono (by decide) (by decide)⟩
  · show Steps p.tables e below (T9.setTop (mkF m 32 #[rv ta, iv 2, iv 3, iv 1, rv b3] [(.ref b3)])) _
    jvm_step X9.here [X9.here.top, hx, (hb hby ow15_32), X9.method', Bd.returns, Value.isRef, FieldType.isReference]
    first | (intro acts; rw [hr _ acts rfl rfl rfl]) | rw [hr _ _ rfl rfl rfl]
    exact Steps.refl _
  · show QA Z (1 : Int32) [(.int bz2)] h0 n0 _ T9.heap _
    rw [e9]
    exact ⟨_, _, rfl, sz_b3, N9, Kp9, V9⟩
theorem own_ef_own_corb_41 (m : MethodId) {x0 : Addr} {x1 : Int32} {x2 : Int32} : entryFrame m #[(.ref x0), (.int x1), (.int x2)] 5 = mkF m 0 #[rv x0, iv x1, iv x2, .unset, .unset] [] := by first | (simp [entryFrame, mkF, argsToLocals, Value.category, maxLocals]; done) | rfl
set_option maxRecDepth 65536 in
set_option maxHeartbeats 40000000 in
theorem own_corb_41 (l : Launch) (Z : State) (a0 : Array Value) (hw : ∀ d ∈ tables_1, d.before a0 Z = true) (ws : List Jvm.Cond) (h0 : Heap) (n0 : Nat) (Z0 : n0 ≤ h0.size) (ta : Addr) (kt : ClassId) (bz0 bz1 bz2 bz3 : Int32) (Vt : Arv Z h0 ta kt .byte (4 : Int32) [(.int bz0), (.int bz1), (.int bz2), (.int bz3)] (.int (0 : Int32))) :
    MetFree l ym25 (head1 (Jvm.Cond.code ym25 jdk_65_method_133_code 5 (some (.array .byte)) :: ws) rm10) (fun a U => a = #[(.ref ta), (.int (1 : Int32)), (.int (4 : Int32))] ∧ Z.Warmed39 U.vm ∧ U.heap = h0) (fun _ _ _ _ _ => True) (fun _ U o U' => ∃ v L, o = .returned v ∧ QA Z (3 : Int32) [(.int bz1), (.int bz2), (.int bz3)] h0 n0 v U'.heap L ∧ FrameEnd U o U' L rm10.cells rm10.slots) := by
  refine MetFree.of_bodySF (plainFor_of_name own_pn_java_util_Arrays) hisR ?_
  intro p e s m args below meth c s₁ Bd hml0 hP hK
  obtain ⟨rfl, hZ, hh⟩ := hP
  have hx := Bd.exec
  have hby := Bd.bytes
  have hml : c.maxLocals = 5 := hml0
  have hown : s.vm.findClass "java/util/Arrays" = some m.cls := (findClass_of_methodNamed Bd.named :)
  have hnm := (name_of_methodNamed Bd.named Bd.method).1
  have X0 : Stand p l e rm10 s m #[(.ref ta), (.int (1 : Int32)), (.int (4 : Int32))] below meth c s₁ [] 0 0 := Stand.of_body Bd
  have e0 : s₁.heap = h0 := by rw [← hh, Bd.state]; rfl
  have N0 := Fr.nil n0
  have pre0 : ∀ t, SP p e below s₁ (mkF m 0 #[rv ta, iv 1, iv 4, .unset, .unset] []) t → SP p e below s₁ (entryFrame m #[(.ref ta), (.int (1 : Int32)), (.int (4 : Int32))] 5) t := fun t k => castTop (own_ef_own_corb_41 m) k
  obtain ⟨vv1, _, ⟨T1, L1, kk1, nn1⟩, -, X1, ⟨Lc1, hQ1, l1, y1, z1⟩, st1⟩ := Jvm.LawKit.callS X0 hx (y := ym23) hown (mvT hZ (own_wi hw 118 rfl)) (mvT hZ (own_wi hw 119 rfl)) (mvT hZ (own_wi hw 113 rfl)) (mvT hZ (own_wi hw 120 rfl)) (by decide) (backOf (W := 0) (own_cle l Z a0 hw [] h0 n0 (Nat.le_trans Z0 (Keep.refl h0 []).1) (1 : Int32) (4 : Int32) (by decide)) hZ (own_wi hw 120 rfl) (own_wi hw 113 rfl) (by decide) (by decide)) (g := (mkF m 2 #[rv ta, iv 1, iv 4, .unset, .unset] [(.int (4 : Int32)), (.int (1 : Int32))])) rfl (by rw [hml]; rfl) (argsL := [(.int (1 : Int32)), (.int (4 : Int32))]) (rest := []) (lenOf own_pd__II_V rfl) rfl (by show 2 * 0 + _ ≤ _; exact Nat.le_of_eq rfl) (hb hby ow15_2) (fun _ _ => ⟨rfl, e0, (by decide : 0 + 0 ≤ _), (by decide : 0 + 0 ≤ _)⟩)
  dsimp only [Pt.U, Pt.locs, Pt.cells, Pt.slots] at X1 l1 y1 z1 st1 hQ1
  subst l1 y1 z1
  obtain ⟨rfl, Nq1, e1⟩ := hQ1
  have N1 := Fr.app N0 Nq1
  have ch2 : ∀ t, SP p e below T1 (mkF m 5 #[rv ta, iv 1, iv 4, .unset, .unset] []) t → SP p e below s₁ (entryFrame m #[(.ref ta), (.int (1 : Int32)), (.int (4 : Int32))] 5) t := fun t k => pre0 t (by
      show SP p e below s₁ (mkF m 0 #[rv ta, iv 1, iv 4, .unset, .unset] []) t
      refine XS.iloadN X0.here hx rfl (hb hby ow15_0) rfl ?_
      refine XS.iloadN X0.here hx rfl (hb hby ow15_1) rfl ?_
      show SP p e below s₁ (mkF m 2 #[rv ta, iv 1, iv 4, .unset, .unset] [(.int (4 : Int32)), (.int (1 : Int32))]) t
      exact st1 t k)
  obtain ⟨T3, hp3, k3, X3, e3, E3, A3, st3⟩ := newP X1 hx hZ (own_wi hw 23 rfl) e1 (g := (mkF m 10 #[rv ta, iv 1, iv 4, iv 3, .unset] [(.int (3 : Int32))])) rfl (hb hby ow15_10) rfl (by decide) (cap := 3) (by decide) (by decide) (by decide) (by decide)
  obtain ⟨b3, g3⟩ : ∃ z, z = h0.size := ⟨_, rfl⟩
  rw [← g3] at A3 st3
  have ne_ta_b3 : ta ≠ b3 := Nat.ne_of_lt (Nat.lt_of_lt_of_le Vt.lt (Nat.le_of_eq g3.symm))
  have g_b3 : n0 ≤ b3 := Nat.le_trans (Nat.le_trans Z0 (Keep.refl h0 []).1) (Nat.le_of_eq g3.symm)
  have sz_b3 : h0.size ≤ b3 := Nat.le_trans (Keep.refl h0 []).1 (Nat.le_of_eq g3.symm)
  have Kp3 := Keep.ext (Keep.refl h0 []) E3
  have V3 : Arv Z hp3 b3 k3 .byte (3 : Int32) [(.int (0 : Int32)), (.int (0 : Int32)), (.int (0 : Int32))] (.int (0 : Int32)) := (Arv.new A3 (by decide)).pad (pad_rep [] (.int (0 : Int32)) 3)
  have ch4 : ∀ t, SP p e below T3 (mkF m 12 #[rv ta, iv 1, iv 4, iv 3, .unset] [(.ref b3)]) t → SP p e below s₁ (entryFrame m #[(.ref ta), (.int (1 : Int32)), (.int (4 : Int32))] 5) t := fun t k => ch2 t (by
      show SP p e below T1 (mkF m 5 #[rv ta, iv 1, iv 4, .unset, .unset] []) t
      refine XS.iloadN X1.here hx rfl (hb hby ow15_5) rfl ?_
      refine XS.iloadN X1.here hx rfl (hb hby ow15_6) rfl ?_
      show SP p e below T1 (mkF m 7 #[rv ta, iv 1, iv 4, .unset, .unset] [(.int (1 : Int32)), (.int (4 : Int32))]) t
      refine XS.isub X1.here hx rfl (hb hby ow15_7) rfl ?_
      rw [show ((4 : Int32) - (1 : Int32)) = (3 : Int32) from by decide]
      refine XS.istoreN X1.here hx rfl (hb hby ow15_8) rfl (l' := #[rv ta, iv 1, iv 4, iv 3, .unset]) rfl ?_
      refine XS.iloadN X1.here hx rfl (hb hby ow15_9) rfl ?_
      show SP p e below T1 (mkF m 10 #[rv ta, iv 1, iv 4, iv 3, .unset] [(.int (3 : Int32))]) t
      exact st3 t k)
  have cf5 := (Vt.keep Kp3 nin0)
  obtain ⟨cl6, Ar6, -, Sz6, Ng6, -, -⟩ := id cf5
  obtain ⟨vv7, _, ⟨T7, L7, kk7, nn7⟩, -, X7, ⟨Lc7, hQ7, l7, y7, z7⟩, st7⟩ := Jvm.LawKit.callS X3 hx (y := ym4) hown (mvT hZ (own_wi hw 121 rfl)) (mvT hZ (own_wi hw 72 rfl)) (mvT hZ (own_wi hw 69 rfl)) (mvT hZ (own_wi hw 73 rfl)) (by decide) (backOf (W := 4) (own_min l Z a0 hw [] hp3 n0 (Nat.le_trans Z0 Kp3.1) (3 : Int32)) hZ (own_wi hw 73 rfl) (own_wi hw 69 rfl) (by decide) (by decide)) (g := (mkF m 24 #[rv ta, iv 1, iv 4, iv 3, rv b3] [(.int (3 : Int32)), (.int (3 : Int32)), (.int (0 : Int32)), (.ref b3), (.int (1 : Int32)), (.ref ta)])) rfl (by rw [hml]; rfl) (argsL := [(.int (3 : Int32)), (.int (3 : Int32))]) (rest := [(.int (0 : Int32)), (.ref b3), (.int (1 : Int32)), (.ref ta)]) (lenOf own_pd__II_I rfl) rfl (by show 2 * 0 + _ ≤ _; exact Nat.le_of_eq rfl) (hb hby ow15_24) (fun _ _ => ⟨rfl, e3, (by decide : 1 + 0 ≤ _), (by decide : 3 + 0 ≤ _)⟩)
  dsimp only [Pt.U, Pt.locs, Pt.cells, Pt.slots] at X7 l7 y7 z7 st7 hQ7
  subst l7 y7 z7
  obtain ⟨rfl, Nq7, e7⟩ := hQ7
  have N7 := Fr.app N1 Nq7
  have ch8 : ∀ t, SP p e below T7 (mkF m 27 #[rv ta, iv 1, iv 4, iv 3, rv b3] [(.int (3 : Int32)), (.int (0 : Int32)), (.ref b3), (.int (1 : Int32)), (.ref ta)]) t → SP p e below s₁ (entryFrame m #[(.ref ta), (.int (1 : Int32)), (.int (4 : Int32))] 5) t := fun t k => ch4 t (by
      show SP p e below T3 (mkF m 12 #[rv ta, iv 1, iv 4, iv 3, .unset] [(.ref b3)]) t
      refine XS.astore X3.here hx rfl (hb hby ow15_12) rfl rfl (l' := #[rv ta, iv 1, iv 4, iv 3, rv b3]) rfl ?_
      refine XS.aloadN X3.here hx rfl (hb hby ow15_14) rfl rfl ?_
      refine XS.iloadN X3.here hx rfl (hb hby ow15_15) rfl ?_
      refine XS.aload X3.here hx rfl (hb hby ow15_16) rfl rfl ?_
      show SP p e below T3 (mkF m 18 #[rv ta, iv 1, iv 4, iv 3, rv b3] [(.ref b3), (.int (1 : Int32)), (.ref ta)]) t
      refine XS.iconst X3.here hx rfl (hb hby ow15_18) ?_
      refine XS.aloadN X3.here hx rfl (hb hby ow15_19) rfl rfl ?_
      show SP p e below T3 (mkF m 20 #[rv ta, iv 1, iv 4, iv 3, rv b3] [(.ref ta), (.int (0 : Int32)), (.ref b3), (.int (1 : Int32)), (.ref ta)]) t
      refine X3.arraylength hx (by rw [e3]; exact Ar6.1) (State.isArrayOf_alike hZ.alike Ar6.2.1) (g := (mkF m 20 #[rv ta, iv 1, iv 4, iv 3, rv b3] [(.ref ta), (.int (0 : Int32)), (.ref b3), (.int (1 : Int32)), (.ref ta)])) rfl rfl (hb hby ow15_20) _ ?_
      rw [len_of Sz6 Ng6]
      refine XS.iloadN X3.here hx rfl (hb hby ow15_21) rfl ?_
      show SP p e below T3 (mkF m 22 #[rv ta, iv 1, iv 4, iv 3, rv b3] [(.int (1 : Int32)), (.int (4 : Int32)), (.int (0 : Int32)), (.ref b3), (.int (1 : Int32)), (.ref ta)]) t
      refine XS.isub X3.here hx rfl (hb hby ow15_22) rfl ?_
      rw [show ((4 : Int32) - (1 : Int32)) = (3 : Int32) from by decide]
      refine XS.iloadN X3.here hx rfl (hb hby ow15_23) rfl ?_
      show SP p e below T3 (mkF m 24 #[rv ta, iv 1, iv 4, iv 3, rv b3] [(.int (3 : Int32)), (.int (3 : Int32)), (.int (0 : Int32)), (.ref b3), (.int (1 : Int32)), (.ref ta)]) t
      exact st7 t k)
  obtain ⟨T9, hp9, Lc9, X9, e9, N9, Kq9, Vq9, st9⟩ := cpA X7 hx hZ hown (own_wi hw 122 rfl) (own_wi hw 125 rfl) (own_wi hw 123 rfl) (own_wi hw 124 rfl) e7 cf5 V3 (Or.inl ⟨rfl, rfl⟩) (by decide) (by decide) (by decide) (by decide) (by decide) (us := [(.int bz1), (.int bz2), (.int bz3)]) rfl (by decide) N7 g_b3 (g := (mkF m 27 #[rv ta, iv 1, iv 4, iv 3, rv b3] [(.int (3 : Int32)), (.int (0 : Int32)), (.ref b3), (.int (1 : Int32)), (.ref ta)])) rfl (by rw [hml]; rfl) (rest := []) rfl (hb hby ow15_27) (by decide) (W := 0) (by show 2 * 0 + _ ≤ _; exact Nat.le_of_eq rfl) (by decide)
  have ch10 : ∀ t, SP p e below T9 (mkF m 30 #[rv ta, iv 1, iv 4, iv 3, rv b3] []) t → SP p e below s₁ (entryFrame m #[(.ref ta), (.int (1 : Int32)), (.int (4 : Int32))] 5) t := fun t k => ch8 t (by
      show SP p e below T7 (mkF m 27 #[rv ta, iv 1, iv 4, iv 3, rv b3] [(.int (3 : Int32)), (.int (0 : Int32)), (.ref b3), (.int (1 : Int32)), (.ref ta)]) t
      exact st9 t k)
  have Kp9 := Keep.trans Kp3 Kq9 (allS (Or.inr sz_b3) all0)
  have V9 : Arv Z hp9 b3 k3 .byte (3 : Int32) [(.int bz1), (.int bz2), (.int bz3)] (.int (0 : Int32)) := Vq9
  have ch11 : ∀ t, SP p e below T9 (mkF m 32 #[rv ta, iv 1, iv 4, iv 3, rv b3] [(.ref b3)]) t → SP p e below s₁ (entryFrame m #[(.ref ta), (.int (1 : Int32)), (.int (4 : Int32))] 5) t := fun t k => ch10 t (by
      show SP p e below T9 (mkF m 30 #[rv ta, iv 1, iv 4, iv 3, rv b3] []) t
      refine XS.aload X9.here hx rfl (hb hby ow15_30) rfl rfl ?_
      exact k)
  obtain ⟨fs, hr, hrun, hended, hW, hsame⟩ := X9.leave (v := some (.ref b3)) (fun h => by rw [Bd.returns] at h; cases h)
  refine ⟨_, _, ch11 _ ?_, hrun, hended, _, _, rfl, ?_, ⟨_, rfl⟩, hW, hsame.mono (by decide) (by decide)⟩
  · show Steps p.tables e below (T9.setTop (mkF m 32 #[rv ta, iv 1, iv 4, iv 3, rv b3] [(.ref b3)])) _
    jvm_step X9.here [X9.here.top, hx, (hb hby ow15_32), X9.method', Bd.returns, Value.isRef, FieldType.isReference]
    first | (intro acts; rw [hr _ acts rfl rfl rfl]) | rw [hr _ _ rfl rfl rfl]
    exact Steps.refl _
  · show QA Z (3 : Int32) [(.int bz1), (.int bz2), (.int bz3)] h0 n0 _ T9.heap _
    rw [e9]
    exact ⟨_, _, rfl, sz_b3, N9, Kp9, V9⟩
theorem own_ef_own_corb_42 (m : MethodId) {x0 : Addr} {x1 : Int32} {x2 : Int32} : entryFrame m #[(.ref x0), (.int x1), (.int x2)] 5 = mkF m 0 #[rv x0, iv x1, iv x2, .unset, .unset] [] := by first | (simp [entryFrame, mkF, argsToLocals, Value.category, maxLocals]; done) | rfl
set_option maxRecDepth 65536 in
set_option maxHeartbeats 40000000 in
theorem own_corb_42 (l : Launch) (Z : State) (a0 : Array Value) (hw : ∀ d ∈ tables_1, d.before a0 Z = true) (ws : List Jvm.Cond) (h0 : Heap) (n0 : Nat) (Z0 : n0 ≤ h0.size) (ta : Addr) (kt : ClassId) (bz0 bz1 bz2 bz3 : Int32) (Vt : Arv Z h0 ta kt .byte (4 : Int32) [(.int bz0), (.int bz1), (.int bz2), (.int bz3)] (.int (0 : Int32))) :
    MetFree l ym25 (head1 (Jvm.Cond.code ym25 jdk_65_method_133_code 5 (some (.array .byte)) :: ws) rm10) (fun a U => a = #[(.ref ta), (.int (2 : Int32)), (.int (4 : Int32))] ∧ Z.Warmed39 U.vm ∧ U.heap = h0) (fun _ _ _ _ _ => True) (fun _ U o U' => ∃ v L, o = .returned v ∧ QA Z (2 : Int32) [(.int bz2), (.int bz3)] h0 n0 v U'.heap L ∧ FrameEnd U o U' L rm10.cells rm10.slots) := by
  refine MetFree.of_bodySF (plainFor_of_name own_pn_java_util_Arrays) hisR ?_
  intro p e s m args below meth c s₁ Bd hml0 hP hK
  obtain ⟨rfl, hZ, hh⟩ := hP
  have hx := Bd.exec
  have hby := Bd.bytes
  have hml : c.maxLocals = 5 := hml0
  have hown : s.vm.findClass "java/util/Arrays" = some m.cls := (findClass_of_methodNamed Bd.named :)
  have hnm := (name_of_methodNamed Bd.named Bd.method).1
  have X0 : Stand p l e rm10 s m #[(.ref ta), (.int (2 : Int32)), (.int (4 : Int32))] below meth c s₁ [] 0 0 := Stand.of_body Bd
  have e0 : s₁.heap = h0 := by rw [← hh, Bd.state]; rfl
  have N0 := Fr.nil n0
  have pre0 : ∀ t, SP p e below s₁ (mkF m 0 #[rv ta, iv 2, iv 4, .unset, .unset] []) t → SP p e below s₁ (entryFrame m #[(.ref ta), (.int (2 : Int32)), (.int (4 : Int32))] 5) t := fun t k => castTop (own_ef_own_corb_42 m) k
  obtain ⟨vv1, _, ⟨T1, L1, kk1, nn1⟩, -, X1, ⟨Lc1, hQ1, l1, y1, z1⟩, st1⟩ := Jvm.LawKit.callS X0 hx (y := ym23) hown (mvT hZ (own_wi hw 118 rfl)) (mvT hZ (own_wi hw 119 rfl)) (mvT hZ (own_wi hw 113 rfl)) (mvT hZ (own_wi hw 120 rfl)) (by decide) (backOf (W := 0) (own_cle l Z a0 hw [] h0 n0 (Nat.le_trans Z0 (Keep.refl h0 []).1) (2 : Int32) (4 : Int32) (by decide)) hZ (own_wi hw 120 rfl) (own_wi hw 113 rfl) (by decide) (by decide)) (g := (mkF m 2 #[rv ta, iv 2, iv 4, .unset, .unset] [(.int (4 : Int32)), (.int (2 : Int32))])) rfl (by rw [hml]; rfl) (argsL := [(.int (2 : Int32)), (.int (4 : Int32))]) (rest := []) (lenOf own_pd__II_V rfl) rfl (by show 2 * 0 + _ ≤ _; exact Nat.le_of_eq rfl) (hb hby ow15_2) (fun _ _ => ⟨rfl, e0, (by decide : 0 + 0 ≤ _), (by decide : 0 + 0 ≤ _)⟩)
  dsimp only [Pt.U, Pt.locs, Pt.cells, Pt.slots] at X1 l1 y1 z1 st1 hQ1
  subst l1 y1 z1
  obtain ⟨rfl, Nq1, e1⟩ := hQ1
  have N1 := Fr.app N0 Nq1
  have ch2 : ∀ t, SP p e below T1 (mkF m 5 #[rv ta, iv 2, iv 4, .unset, .unset] []) t → SP p e below s₁ (entryFrame m #[(.ref ta), (.int (2 : Int32)), (.int (4 : Int32))] 5) t := fun t k => pre0 t (by
      show SP p e below s₁ (mkF m 0 #[rv ta, iv 2, iv 4, .unset, .unset] []) t
      refine XS.iloadN X0.here hx rfl (hb hby ow15_0) rfl ?_
      refine XS.iloadN X0.here hx rfl (hb hby ow15_1) rfl ?_
      show SP p e below s₁ (mkF m 2 #[rv ta, iv 2, iv 4, .unset, .unset] [(.int (4 : Int32)), (.int (2 : Int32))]) t
      exact st1 t k)
  obtain ⟨T3, hp3, k3, X3, e3, E3, A3, st3⟩ := newP X1 hx hZ (own_wi hw 23 rfl) e1 (g := (mkF m 10 #[rv ta, iv 2, iv 4, iv 2, .unset] [(.int (2 : Int32))])) rfl (hb hby ow15_10) rfl (by decide) (cap := 2) (by decide) (by decide) (by decide) (by decide)
  obtain ⟨b3, g3⟩ : ∃ z, z = h0.size := ⟨_, rfl⟩
  rw [← g3] at A3 st3
  have ne_ta_b3 : ta ≠ b3 := Nat.ne_of_lt (Nat.lt_of_lt_of_le Vt.lt (Nat.le_of_eq g3.symm))
  have g_b3 : n0 ≤ b3 := Nat.le_trans (Nat.le_trans Z0 (Keep.refl h0 []).1) (Nat.le_of_eq g3.symm)
  have sz_b3 : h0.size ≤ b3 := Nat.le_trans (Keep.refl h0 []).1 (Nat.le_of_eq g3.symm)
  have Kp3 := Keep.ext (Keep.refl h0 []) E3
  have V3 : Arv Z hp3 b3 k3 .byte (2 : Int32) [(.int (0 : Int32)), (.int (0 : Int32))] (.int (0 : Int32)) := (Arv.new A3 (by decide)).pad (pad_rep [] (.int (0 : Int32)) 2)
  have ch4 : ∀ t, SP p e below T3 (mkF m 12 #[rv ta, iv 2, iv 4, iv 2, .unset] [(.ref b3)]) t → SP p e below s₁ (entryFrame m #[(.ref ta), (.int (2 : Int32)), (.int (4 : Int32))] 5) t := fun t k => ch2 t (by
      show SP p e below T1 (mkF m 5 #[rv ta, iv 2, iv 4, .unset, .unset] []) t
      refine XS.iloadN X1.here hx rfl (hb hby ow15_5) rfl ?_
      refine XS.iloadN X1.here hx rfl (hb hby ow15_6) rfl ?_
      show SP p e below T1 (mkF m 7 #[rv ta, iv 2, iv 4, .unset, .unset] [(.int (2 : Int32)), (.int (4 : Int32))]) t
      refine XS.isub X1.here hx rfl (hb hby ow15_7) rfl ?_
      rw [show ((4 : Int32) - (2 : Int32)) = (2 : Int32) from by decide]
      refine XS.istoreN X1.here hx rfl (hb hby ow15_8) rfl (l' := #[rv ta, iv 2, iv 4, iv 2, .unset]) rfl ?_
      refine XS.iloadN X1.here hx rfl (hb hby ow15_9) rfl ?_
      show SP p e below T1 (mkF m 10 #[rv ta, iv 2, iv 4, iv 2, .unset] [(.int (2 : Int32))]) t
      exact st3 t k)
  have cf5 := (Vt.keep Kp3 nin0)
  obtain ⟨cl6, Ar6, -, Sz6, Ng6, -, -⟩ := id cf5
  obtain ⟨vv7, _, ⟨T7, L7, kk7, nn7⟩, -, X7, ⟨Lc7, hQ7, l7, y7, z7⟩, st7⟩ := Jvm.LawKit.callS X3 hx (y := ym4) hown (mvT hZ (own_wi hw 121 rfl)) (mvT hZ (own_wi hw 72 rfl)) (mvT hZ (own_wi hw 69 rfl)) (mvT hZ (own_wi hw 73 rfl)) (by decide) (backOf (W := 4) (own_min l Z a0 hw [] hp3 n0 (Nat.le_trans Z0 Kp3.1) (2 : Int32)) hZ (own_wi hw 73 rfl) (own_wi hw 69 rfl) (by decide) (by decide)) (g := (mkF m 24 #[rv ta, iv 2, iv 4, iv 2, rv b3] [(.int (2 : Int32)), (.int (2 : Int32)), (.int (0 : Int32)), (.ref b3), (.int (2 : Int32)), (.ref ta)])) rfl (by rw [hml]; rfl) (argsL := [(.int (2 : Int32)), (.int (2 : Int32))]) (rest := [(.int (0 : Int32)), (.ref b3), (.int (2 : Int32)), (.ref ta)]) (lenOf own_pd__II_I rfl) rfl (by show 2 * 0 + _ ≤ _; exact Nat.le_of_eq rfl) (hb hby ow15_24) (fun _ _ => ⟨rfl, e3, (by decide : 1 + 0 ≤ _), (by decide : 2 + 0 ≤ _)⟩)
  dsimp only [Pt.U, Pt.locs, Pt.cells, Pt.slots] at X7 l7 y7 z7 st7 hQ7
  subst l7 y7 z7
  obtain ⟨rfl, Nq7, e7⟩ := hQ7
  have N7 := Fr.app N1 Nq7
  have ch8 : ∀ t, SP p e below T7 (mkF m 27 #[rv ta, iv 2, iv 4, iv 2, rv b3] [(.int (2 : Int32)), (.int (0 : Int32)), (.ref b3), (.int (2 : Int32)), (.ref ta)]) t → SP p e below s₁ (entryFrame m #[(.ref ta), (.int (2 : Int32)), (.int (4 : Int32))] 5) t := fun t k => ch4 t (by
      show SP p e below T3 (mkF m 12 #[rv ta, iv 2, iv 4, iv 2, .unset] [(.ref b3)]) t
      refine XS.astore X3.here hx rfl (hb hby ow15_12) rfl rfl (l' := #[rv ta, iv 2, iv 4, iv 2, rv b3]) rfl ?_
      refine XS.aloadN X3.here hx rfl (hb hby ow15_14) rfl rfl ?_
      refine XS.iloadN X3.here hx rfl (hb hby ow15_15) rfl ?_
      refine XS.aload X3.here hx rfl (hb hby ow15_16) rfl rfl ?_
      show SP p e below T3 (mkF m 18 #[rv ta, iv 2, iv 4, iv 2, rv b3] [(.ref b3), (.int (2 : Int32)), (.ref ta)]) t
      refine XS.iconst X3.here hx rfl (hb hby ow15_18) ?_
      refine XS.aloadN X3.here hx rfl (hb hby ow15_19) rfl rfl ?_
      show SP p e below T3 (mkF m 20 #[rv ta, iv 2, iv 4, iv 2, rv b3] [(.ref ta), (.int (0 : Int32)), (.ref b3), (.int (2 : Int32)), (.ref ta)]) t
      refine X3.arraylength hx (by rw [e3]; exact Ar6.1) (State.isArrayOf_alike hZ.alike Ar6.2.1) (g := (mkF m 20 #[rv ta, iv 2, iv 4, iv 2, rv b3] [(.ref ta), (.int (0 : Int32)), (.ref b3), (.int (2 : Int32)), (.ref ta)])) rfl rfl (hb hby ow15_20) _ ?_
      rw [len_of Sz6 Ng6]
      refine XS.iloadN X3.here hx rfl (hb hby ow15_21) rfl ?_
      show SP p e below T3 (mkF m 22 #[rv ta, iv 2, iv 4, iv 2, rv b3] [(.int (2 : Int32)), (.int (4 : Int32)), (.int (0 : Int32)), (.ref b3), (.int (2 : Int32)), (.ref ta)]) t
      refine XS.isub X3.here hx rfl (hb hby ow15_22) rfl ?_
      rw [show ((4 : Int32) - (2 : Int32)) = (2 : Int32) from by decide]
      refine XS.iloadN X3.here hx rfl (hb hby ow15_23) rfl ?_
      show SP p e below T3 (mkF m 24 #[rv ta, iv 2, iv 4, iv 2, rv b3] [(.int (2 : Int32)), (.int (2 : Int32)), (.int (0 : Int32)), (.ref b3), (.int (2 : Int32)), (.ref ta)]) t
      exact st7 t k)
  obtain ⟨T9, hp9, Lc9, X9, e9, N9, Kq9, Vq9, st9⟩ := cpA X7 hx hZ hown (own_wi hw 122 rfl) (own_wi hw 125 rfl) (own_wi hw 123 rfl) (own_wi hw 124 rfl) e7 cf5 V3 (Or.inl ⟨rfl, rfl⟩) (by decide) (by decide) (by decide) (by decide) (by decide) (us := [(.int bz2), (.int bz3)]) rfl (by decide) N7 g_b3 (g := (mkF m 27 #[rv ta, iv 2, iv 4, iv 2, rv b3] [(.int (2 : Int32)), (.int (0 : Int32)), (.ref b3), (.int (2 : Int32)), (.ref ta)])) rfl (by rw [hml]; rfl) (rest := []) rfl (hb hby ow15_27) (by decide) (W := 0) (by show 2 * 0 + _ ≤ _; exact Nat.le_of_eq rfl) (by decide)
  have ch10 : ∀ t, SP p e below T9 (mkF m 30 #[rv ta, iv 2, iv 4, iv 2, rv b3] []) t → SP p e below s₁ (entryFrame m #[(.ref ta), (.int (2 : Int32)), (.int (4 : Int32))] 5) t := fun t k => ch8 t (by
      show SP p e below T7 (mkF m 27 #[rv ta, iv 2, iv 4, iv 2, rv b3] [(.int (2 : Int32)), (.int (0 : Int32)), (.ref b3), (.int (2 : Int32)), (.ref ta)]) t
      exact st9 t k)
  have Kp9 := Keep.trans Kp3 Kq9 (allS (Or.inr sz_b3) all0)
  have V9 : Arv Z hp9 b3 k3 .byte (2 : Int32) [(.int bz2), (.int bz3)] (.int (0 : Int32)) := Vq9
  have ch11 : ∀ t, SP p e below T9 (mkF m 32 #[rv ta, iv 2, iv 4, iv 2, rv b3] [(.ref b3)]) t → SP p e below s₁ (entryFrame m #[(.ref ta), (.int (2 : Int32)), (.int (4 : Int32))] 5) t := fun t k => ch10 t (by
      show SP p e below T9 (mkF m 30 #[rv ta, iv 2, iv 4, iv 2, rv b3] []) t
      refine XS.aload X9.here hx rfl (hb hby ow15_30) rfl rfl ?_
      exact k)
  obtain ⟨fs, hr, hrun, hended, hW, hsame⟩ := X9.leave (v := some (.ref b3)) (fun h => by rw [Bd.returns] at h; cases h)
  refine ⟨_, _, ch11 _ ?_, hrun, hended, _, _, rfl, ?_, ⟨_, rfl⟩, hW, hsame.mono (by decide) (by decide)⟩
  · show Steps p.tables e below (T9.setTop (mkF m 32 #[rv ta, iv 2, iv 4, iv 2, rv b3] [(.ref b3)])) _
    jvm_step X9.here [X9.here.top, hx, (hb hby ow15_32), X9.method', Bd.returns, Value.isRef, FieldType.isReference]
    first | (intro acts; rw [hr _ acts rfl rfl rfl]) | rw [hr _ _ rfl rfl rfl]
    exact Steps.refl _
  · show QA Z (2 : Int32) [(.int bz2), (.int bz3)] h0 n0 _ T9.heap _
    rw [e9]
    exact ⟨_, _, rfl, sz_b3, N9, Kp9, V9⟩
theorem own_ef_own_corb_43 (m : MethodId) {x0 : Addr} {x1 : Int32} {x2 : Int32} : entryFrame m #[(.ref x0), (.int x1), (.int x2)] 5 = mkF m 0 #[rv x0, iv x1, iv x2, .unset, .unset] [] := by first | (simp [entryFrame, mkF, argsToLocals, Value.category, maxLocals]; done) | rfl
set_option maxRecDepth 65536 in
set_option maxHeartbeats 40000000 in
theorem own_corb_43 (l : Launch) (Z : State) (a0 : Array Value) (hw : ∀ d ∈ tables_1, d.before a0 Z = true) (ws : List Jvm.Cond) (h0 : Heap) (n0 : Nat) (Z0 : n0 ≤ h0.size) (ta : Addr) (kt : ClassId) (bz0 bz1 bz2 bz3 : Int32) (Vt : Arv Z h0 ta kt .byte (4 : Int32) [(.int bz0), (.int bz1), (.int bz2), (.int bz3)] (.int (0 : Int32))) :
    MetFree l ym25 (head1 (Jvm.Cond.code ym25 jdk_65_method_133_code 5 (some (.array .byte)) :: ws) rm10) (fun a U => a = #[(.ref ta), (.int (3 : Int32)), (.int (4 : Int32))] ∧ Z.Warmed39 U.vm ∧ U.heap = h0) (fun _ _ _ _ _ => True) (fun _ U o U' => ∃ v L, o = .returned v ∧ QA Z (1 : Int32) [(.int bz3)] h0 n0 v U'.heap L ∧ FrameEnd U o U' L rm10.cells rm10.slots) := by
  refine MetFree.of_bodySF (plainFor_of_name own_pn_java_util_Arrays) hisR ?_
  intro p e s m args below meth c s₁ Bd hml0 hP hK
  obtain ⟨rfl, hZ, hh⟩ := hP
  have hx := Bd.exec
  have hby := Bd.bytes
  have hml : c.maxLocals = 5 := hml0
  have hown : s.vm.findClass "java/util/Arrays" = some m.cls := (findClass_of_methodNamed Bd.named :)
  have hnm := (name_of_methodNamed Bd.named Bd.method).1
  have X0 : Stand p l e rm10 s m #[(.ref ta), (.int (3 : Int32)), (.int (4 : Int32))] below meth c s₁ [] 0 0 := Stand.of_body Bd
  have e0 : s₁.heap = h0 := by rw [← hh, Bd.state]; rfl
  have N0 := Fr.nil n0
  have pre0 : ∀ t, SP p e below s₁ (mkF m 0 #[rv ta, iv 3, iv 4, .unset, .unset] []) t → SP p e below s₁ (entryFrame m #[(.ref ta), (.int (3 : Int32)), (.int (4 : Int32))] 5) t := fun t k => castTop (own_ef_own_corb_43 m) k
  obtain ⟨vv1, _, ⟨T1, L1, kk1, nn1⟩, -, X1, ⟨Lc1, hQ1, l1, y1, z1⟩, st1⟩ := Jvm.LawKit.callS X0 hx (y := ym23) hown (mvT hZ (own_wi hw 118 rfl)) (mvT hZ (own_wi hw 119 rfl)) (mvT hZ (own_wi hw 113 rfl)) (mvT hZ (own_wi hw 120 rfl)) (by decide) (backOf (W := 0) (own_cle l Z a0 hw [] h0 n0 (Nat.le_trans Z0 (Keep.refl h0 []).1) (3 : Int32) (4 : Int32) (by decide)) hZ (own_wi hw 120 rfl) (own_wi hw 113 rfl) (by decide) (by decide)) (g := (mkF m 2 #[rv ta, iv 3, iv 4, .unset, .unset] [(.int (4 : Int32)), (.int (3 : Int32))])) rfl (by rw [hml]; rfl) (argsL := [(.int (3 : Int32)), (.int (4 : Int32))]) (rest := []) (lenOf own_pd__II_V rfl) rfl (by show 2 * 0 + _ ≤ _; exact Nat.le_of_eq rfl) (hb hby ow15_2) (fun _ _ => ⟨rfl, e0, (by decide : 0 + 0 ≤ _), (by decide : 0 + 0 ≤ _)⟩)
  dsimp only [Pt.U, Pt.locs, Pt.cells, Pt.slots] at X1 l1 y1 z1 st1 hQ1
  subst l1 y1 z1
  obtain ⟨rfl, Nq1, e1⟩ := hQ1
  have N1 := Fr.app N0 Nq1
  have ch2 : ∀ t, SP p e below T1 (mkF m 5 #[rv ta, iv 3, iv 4, .unset, .unset] []) t → SP p e below s₁ (entryFrame m #[(.ref ta), (.int (3 : Int32)), (.int (4 : Int32))] 5) t := fun t k => pre0 t (by
      show SP p e below s₁ (mkF m 0 #[rv ta, iv 3, iv 4, .unset, .unset] []) t
      refine XS.iloadN X0.here hx rfl (hb hby ow15_0) rfl ?_
      refine XS.iloadN X0.here hx rfl (hb hby ow15_1) rfl ?_
      show SP p e below s₁ (mkF m 2 #[rv ta, iv 3, iv 4, .unset, .unset] [(.int (4 : Int32)), (.int (3 : Int32))]) t
      exact st1 t k)
  obtain ⟨T3, hp3, k3, X3, e3, E3, A3, st3⟩ := newP X1 hx hZ (own_wi hw 23 rfl) e1 (g := (mkF m 10 #[rv ta, iv 3, iv 4, iv 1, .unset] [(.int (1 : Int32))])) rfl (hb hby ow15_10) rfl (by decide) (cap := 1) (by decide) (by decide) (by decide) (by decide)
  obtain ⟨b3, g3⟩ : ∃ z, z = h0.size := ⟨_, rfl⟩
  rw [← g3] at A3 st3
  have ne_ta_b3 : ta ≠ b3 := Nat.ne_of_lt (Nat.lt_of_lt_of_le Vt.lt (Nat.le_of_eq g3.symm))
  have g_b3 : n0 ≤ b3 := Nat.le_trans (Nat.le_trans Z0 (Keep.refl h0 []).1) (Nat.le_of_eq g3.symm)
  have sz_b3 : h0.size ≤ b3 := Nat.le_trans (Keep.refl h0 []).1 (Nat.le_of_eq g3.symm)
  have Kp3 := Keep.ext (Keep.refl h0 []) E3
  have V3 : Arv Z hp3 b3 k3 .byte (1 : Int32) [(.int (0 : Int32))] (.int (0 : Int32)) := (Arv.new A3 (by decide)).pad (pad_rep [] (.int (0 : Int32)) 1)
  have ch4 : ∀ t, SP p e below T3 (mkF m 12 #[rv ta, iv 3, iv 4, iv 1, .unset] [(.ref b3)]) t → SP p e below s₁ (entryFrame m #[(.ref ta), (.int (3 : Int32)), (.int (4 : Int32))] 5) t := fun t k => ch2 t (by
      show SP p e below T1 (mkF m 5 #[rv ta, iv 3, iv 4, .unset, .unset] []) t
      refine XS.iloadN X1.here hx rfl (hb hby ow15_5) rfl ?_
      refine XS.iloadN X1.here hx rfl (hb hby ow15_6) rfl ?_
      show SP p e below T1 (mkF m 7 #[rv ta, iv 3, iv 4, .unset, .unset] [(.int (3 : Int32)), (.int (4 : Int32))]) t
      refine XS.isub X1.here hx rfl (hb hby ow15_7) rfl ?_
      rw [show ((4 : Int32) - (3 : Int32)) = (1 : Int32) from by decide]
      refine XS.istoreN X1.here hx rfl (hb hby ow15_8) rfl (l' := #[rv ta, iv 3, iv 4, iv 1, .unset]) rfl ?_
      refine XS.iloadN X1.here hx rfl (hb hby ow15_9) rfl ?_
      show SP p e below T1 (mkF m 10 #[rv ta, iv 3, iv 4, iv 1, .unset] [(.int (1 : Int32))]) t
      exact st3 t k)
  have cf5 := (Vt.keep Kp3 nin0)
  obtain ⟨cl6, Ar6, -, Sz6, Ng6, -, -⟩ := id cf5
  obtain ⟨vv7, _, ⟨T7, L7, kk7, nn7⟩, -, X7, ⟨Lc7, hQ7, l7, y7, z7⟩, st7⟩ := Jvm.LawKit.callS X3 hx (y := ym4) hown (mvT hZ (own_wi hw 121 rfl)) (mvT hZ (own_wi hw 72 rfl)) (mvT hZ (own_wi hw 69 rfl)) (mvT hZ (own_wi hw 73 rfl)) (by decide) (backOf (W := 4) (own_min l Z a0 hw [] hp3 n0 (Nat.le_trans Z0 Kp3.1) (1 : Int32)) hZ (own_wi hw 73 rfl) (own_wi hw 69 rfl) (by decide) (by decide)) (g := (mkF m 24 #[rv ta, iv 3, iv 4, iv 1, rv b3] [(.int (1 : Int32)), (.int (1 : Int32)), (.int (0 : Int32)), (.ref b3), (.int (3 : Int32)), (.ref ta)])) rfl (by rw [hml]; rfl) (argsL := [(.int (1 : Int32)), (.int (1 : Int32))]) (rest := [(.int (0 : Int32)), (.ref b3), (.int (3 : Int32)), (.ref ta)]) (lenOf own_pd__II_I rfl) rfl (by show 2 * 0 + _ ≤ _; exact Nat.le_of_eq rfl) (hb hby ow15_24) (fun _ _ => ⟨rfl, e3, (by decide : 1 + 0 ≤ _), (by decide : 1 + 0 ≤ _)⟩)
  dsimp only [Pt.U, Pt.locs, Pt.cells, Pt.slots] at X7 l7 y7 z7 st7 hQ7
  subst l7 y7 z7
  obtain ⟨rfl, Nq7, e7⟩ := hQ7
  have N7 := Fr.app N1 Nq7
  have ch8 : ∀ t, SP p e below T7 (mkF m 27 #[rv ta, iv 3, iv 4, iv 1, rv b3] [(.int (1 : Int32)), (.int (0 : Int32)), (.ref b3), (.int (3 : Int32)), (.ref ta)]) t → SP p e below s₁ (entryFrame m #[(.ref ta), (.int (3 : Int32)), (.int (4 : Int32))] 5) t := fun t k => ch4 t (by
      show SP p e below T3 (mkF m 12 #[rv ta, iv 3, iv 4, iv 1, .unset] [(.ref b3)]) t
      refine XS.astore X3.here hx rfl (hb hby ow15_12) rfl rfl (l' := #[rv ta, iv 3, iv 4, iv 1, rv b3]) rfl ?_
      refine XS.aloadN X3.here hx rfl (hb hby ow15_14) rfl rfl ?_
      refine XS.iloadN X3.here hx rfl (hb hby ow15_15) rfl ?_
      refine XS.aload X3.here hx rfl (hb hby ow15_16) rfl rfl ?_
      show SP p e below T3 (mkF m 18 #[rv ta, iv 3, iv 4, iv 1, rv b3] [(.ref b3), (.int (3 : Int32)), (.ref ta)]) t
      refine XS.iconst X3.here hx rfl (hb hby ow15_18) ?_
      refine XS.aloadN X3.here hx rfl (hb hby ow15_19) rfl rfl ?_
      show SP p e below T3 (mkF m 20 #[rv ta, iv 3, iv 4, iv 1, rv b3] [(.ref ta), (.int (0 : Int32)), (.ref b3), (.int (3 : Int32)), (.ref ta)]) t
      refine X3.arraylength hx (by rw [e3]; exact Ar6.1) (State.isArrayOf_alike hZ.alike Ar6.2.1) (g := (mkF m 20 #[rv ta, iv 3, iv 4, iv 1, rv b3] [(.ref ta), (.int (0 : Int32)), (.ref b3), (.int (3 : Int32)), (.ref ta)])) rfl rfl (hb hby ow15_20) _ ?_
      rw [len_of Sz6 Ng6]
      refine XS.iloadN X3.here hx rfl (hb hby ow15_21) rfl ?_
      show SP p e below T3 (mkF m 22 #[rv ta, iv 3, iv 4, iv 1, rv b3] [(.int (3 : Int32)), (.int (4 : Int32)), (.int (0 : Int32)), (.ref b3), (.int (3 : Int32)), (.ref ta)]) t
      refine XS.isub X3.here hx rfl (hb hby ow15_22) rfl ?_
      rw [show ((4 : Int32) - (3 : Int32)) = (1 : Int32) from by decide]
      refine XS.iloadN X3.here hx rfl (hb hby ow15_23) rfl ?_
      show SP p e below T3 (mkF m 24 #[rv ta, iv 3, iv 4, iv 1, rv b3] [(.int (1 : Int32)), (.int (1 : Int32)), (.int (0 : Int32)), (.ref b3), (.int (3 : Int32)), (.ref ta)]) t
      exact st7 t k)
  obtain ⟨T9, hp9, Lc9, X9, e9, N9, Kq9, Vq9, st9⟩ := cpA X7 hx hZ hown (own_wi hw 122 rfl) (own_wi hw 125 rfl) (own_wi hw 123 rfl) (own_wi hw 124 rfl) e7 cf5 V3 (Or.inl ⟨rfl, rfl⟩) (by decide) (by decide) (by decide) (by decide) (by decide) (us := [(.int bz3)]) rfl (by decide) N7 g_b3 (g := (mkF m 27 #[rv ta, iv 3, iv 4, iv 1, rv b3] [(.int (1 : Int32)), (.int (0 : Int32)), (.ref b3), (.int (3 : Int32)), (.ref ta)])) rfl (by rw [hml]; rfl) (rest := []) rfl (hb hby ow15_27) (by decide) (W := 0) (by show 2 * 0 + _ ≤ _; exact Nat.le_of_eq rfl) (by decide)
  have ch10 : ∀ t, SP p e below T9 (mkF m 30 #[rv ta, iv 3, iv 4, iv 1, rv b3] []) t → SP p e below s₁ (entryFrame m #[(.ref ta), (.int (3 : Int32)), (.int (4 : Int32))] 5) t := fun t k => ch8 t (by
      show SP p e below T7 (mkF m 27 #[rv ta, iv 3, iv 4, iv 1, rv b3] [(.int (1 : Int32)), (.int (0 : Int32)), (.ref b3), (.int (3 : Int32)), (.ref ta)]) t
      exact st9 t k)
  have Kp9 := Keep.trans Kp3 Kq9 (allS (Or.inr sz_b3) all0)
  have V9 : Arv Z hp9 b3 k3 .byte (1 : Int32) [(.int bz3)] (.int (0 : Int32)) := Vq9
  have ch11 : ∀ t, SP p e below T9 (mkF m 32 #[rv ta, iv 3, iv 4, iv 1, rv b3] [(.ref b3)]) t → SP p e below s₁ (entryFrame m #[(.ref ta), (.int (3 : Int32)), (.int (4 : Int32))] 5) t := fun t k => ch10 t (by
      show SP p e below T9 (mkF m 30 #[rv ta, iv 3, iv 4, iv 1, rv b3] []) t
      refine XS.aload X9.here hx rfl (hb hby ow15_30) rfl rfl ?_
      exact k)
  obtain ⟨fs, hr, hrun, hended, hW, hsame⟩ := X9.leave (v := some (.ref b3)) (fun h => by rw [Bd.returns] at h; cases h)
  refine ⟨_, _, ch11 _ ?_, hrun, hended, _, _, rfl, ?_, ⟨_, rfl⟩, hW, hsame.mono (by decide) (by decide)⟩
  · show Steps p.tables e below (T9.setTop (mkF m 32 #[rv ta, iv 3, iv 4, iv 1, rv b3] [(.ref b3)])) _
    jvm_step X9.here [X9.here.top, hx, (hb hby ow15_32), X9.method', Bd.returns, Value.isRef, FieldType.isReference]
    first | (intro acts; rw [hr _ acts rfl rfl rfl]) | rw [hr _ _ rfl rfl rfl]
    exact Steps.refl _
  · show QA Z (1 : Int32) [(.int bz3)] h0 n0 _ T9.heap _
    rw [e9]
    exact ⟨_, _, rfl, sz_b3, N9, Kp9, V9⟩
theorem own_ef_own_cor (m : MethodId) {x0 : Addr} {x1 : Int32} {x2 : Int32} : entryFrame m #[(.ref x0), (.int x1), (.int x2)] 3 = mkF m 0 #[rv x0, iv x1, iv x2] [] := by first | (simp [entryFrame, mkF, argsToLocals, Value.category, maxLocals]; done) | rfl
set_option maxRecDepth 65536 in
set_option maxHeartbeats 40000000 in
theorem own_cor (l : Launch) (Z : State) (a0 : Array Value) (hw : ∀ d ∈ tables_1, d.before a0 Z = true) (ws : List Jvm.Cond) (h0 : Heap) (n0 : Nat) (Z0 : n0 ≤ h0.size) (ta : Addr) (f nn mm : Int32) (zs : List Value) (fz : ¬ f = (0 : Int32)) (HB : MetFree l ym25 (head1 (Jvm.Cond.code ym25 jdk_65_method_133_code 5 (some (.array .byte)) :: []) rm10) (fun a U => a = #[(.ref ta), (.int f), (.int nn)] ∧ Z.Warmed39 U.vm ∧ U.heap = h0) (fun _ _ _ _ _ => True) (fun _ U o U' => ∃ v L, o = .returned v ∧ QA Z mm zs h0 n0 v U'.heap L ∧ FrameEnd U o U' L rm10.cells rm10.slots)) :
    MetFree l ym24 (head1 (Jvm.Cond.code ym24 jdk_65_method_132_code 3 (some (.array .byte)) :: ws) rm14) (fun a U => a = #[(.ref ta), (.int f), (.int nn)] ∧ Z.Warmed39 U.vm ∧ U.heap = h0) (fun _ _ _ _ _ => True) (fun _ U o U' => ∃ v L, o = .returned v ∧ QA Z mm zs h0 n0 v U'.heap L ∧ FrameEnd U o U' L rm14.cells rm14.slots) := by
  refine MetFree.of_bodySF (plainFor_of_name own_pn_java_util_Arrays) hisR ?_
  intro p e s m args below meth c s₁ Bd hml0 hP hK
  obtain ⟨rfl, hZ, hh⟩ := hP
  have hx := Bd.exec
  have hby := Bd.bytes
  have hml : c.maxLocals = 3 := hml0
  have hown : s.vm.findClass "java/util/Arrays" = some m.cls := (findClass_of_methodNamed Bd.named :)
  have hnm := (name_of_methodNamed Bd.named Bd.method).1
  have X0 : Stand p l e rm14 s m #[(.ref ta), (.int f), (.int nn)] below meth c s₁ [] 0 0 := Stand.of_body Bd
  have e0 : s₁.heap = h0 := by rw [← hh, Bd.state]; rfl
  have N0 := Fr.nil n0
  have pre0 : ∀ t, SP p e below s₁ (mkF m 0 #[rv ta, iv f, iv nn] []) t → SP p e below s₁ (entryFrame m #[(.ref ta), (.int f), (.int nn)] 3) t := fun t k => castTop (own_ef_own_cor m) k
  obtain ⟨vv1, _, ⟨T1, L1, kk1, nn1⟩, -, X1, ⟨Lc1, hQ1, l1, y1, z1⟩, st1⟩ := Jvm.LawKit.callS X0 hx (y := ym25) hown (mvT hZ (own_wi hw 115 rfl)) (mvT hZ (own_wi hw 116 rfl)) (mvT hZ (own_wi hw 113 rfl)) (mvT hZ (own_wi hw 117 rfl)) (by decide) (backOf (W := 0) HB hZ (own_wi hw 117 rfl) (own_wi hw 113 rfl) (by decide) (by decide)) (g := (mkF m 13 #[rv ta, iv f, iv nn] [(.int nn), (.int f), (.ref ta)])) rfl (by rw [hml]; rfl) (argsL := [(.ref ta), (.int f), (.int nn)]) (rest := []) (lenOf own_pd___BII__B rfl) rfl (by show 2 * 0 + _ ≤ _; exact Nat.le_of_eq rfl) (hb hby ow16_13) (fun _ _ => ⟨rfl, e0, (by decide : 0 + 1 ≤ _), (by decide : 0 + 4 ≤ _)⟩)
  dsimp only [Pt.U, Pt.locs, Pt.cells, Pt.slots] at X1 l1 y1 z1 st1 hQ1
  subst l1 y1 z1
  obtain ⟨hh1, eh1⟩ : ∃ h, T1.heap = h := ⟨_, rfl⟩
  rw [eh1] at hQ1
  obtain ⟨tc, kc, rfl, zq1, Nq1, Kq1, fq1_0⟩ := hQ1
  have N1 := Fr.app N0 Nq1
  have g_tc : n0 ≤ tc := Nat.le_trans (Nat.le_trans Z0 (Keep.refl h0 []).1) zq1
  have sz_tc : h0.size ≤ tc := Nat.le_trans (Keep.refl h0 []).1 zq1
  have Kp1 := Keep.trans (Keep.refl h0 []) Kq1 all0
  have ch2 : ∀ t, SP p e below T1 (mkF m 16 #[rv ta, iv f, iv nn] [(.ref tc)]) t → SP p e below s₁ (entryFrame m #[(.ref ta), (.int f), (.int nn)] 3) t := fun t k => pre0 t (by
      show SP p e below s₁ (mkF m 0 #[rv ta, iv f, iv nn] []) t
      refine XS.iloadN X0.here hx rfl (hb hby ow16_0) rfl ?_
      refine XS.ifYes X0.here hx rfl (pc0 := 1) (pc' := 10) rfl (hb hby ow16_1) rfl ((if0 _ _).trans (feq fz).2) (by decide) (by decide) ?_
      refine XS.aloadN X0.here hx rfl (hb hby ow16_10) rfl rfl ?_
      refine XS.iloadN X0.here hx rfl (hb hby ow16_11) rfl ?_
      refine XS.iloadN X0.here hx rfl (hb hby ow16_12) rfl ?_
      show SP p e below s₁ (mkF m 13 #[rv ta, iv f, iv nn] [(.int nn), (.int f), (.ref ta)]) t
      exact st1 t k)
  obtain ⟨fs, hr, hrun, hended, hW, hsame⟩ := X1.leave (v := some (.ref tc)) (fun h => by rw [Bd.returns] at h; cases h)
  refine ⟨_, _, ch2 _ ?_, hrun, hended, _, _, rfl, ?_, ⟨_, rfl⟩, hW, hsame.mono (by decide) (by decide)⟩
  · show Steps p.tables e below (T1.setTop (mkF m 16 #[rv ta, iv f, iv nn] [(.ref tc)])) _
    jvm_step X1.here [X1.here.top, hx, (hb hby ow16_16), X1.method', Bd.returns, Value.isRef, FieldType.isReference]
    first | (intro acts; rw [hr _ acts rfl rfl rfl]) | rw [hr _ _ rfl rfl rfl]
    exact Steps.refl _
  · show QA Z mm zs h0 n0 _ T1.heap _
    rw [eh1]
    exact ⟨_, _, rfl, sz_tc, N1, Kp1, fq1_0⟩
theorem own_ef_own_nws (m : MethodId) {x0 : Addr} {x1 : Int32} {x2 : Int32} : entryFrame m #[(.ref x0), (.int x1), (.int x2)] 3 = mkF m 0 #[rv x0, iv x1, iv x2] [] := by first | (simp [entryFrame, mkF, argsToLocals, Value.category, maxLocals]; done) | rfl
set_option maxRecDepth 65536 in
set_option maxHeartbeats 40000000 in
theorem own_nws (l : Launch) (Z : State) (a0 : Array Value) (hw : ∀ d ∈ tables_1, d.before a0 Z = true) (ws : List Jvm.Cond) (h0 : Heap) (n0 : Nat) (Z0 : n0 ≤ h0.size) (ta : Addr) (f nn mm : Int32) (zs : List Value) (mz : ¬ mm = (0 : Int32)) (hfm : (f + mm) = nn) (HR : ∀ (h : Heap) (n0 : Nat) (Z0 : n0 ≤ h.size) (E : Ext h0 h), MetFree l ym24 (head1 (Jvm.Cond.code ym24 jdk_65_method_132_code 3 (some (.array .byte)) :: []) rm14) (fun a U => a = #[(.ref ta), (.int f), (.int nn)] ∧ Z.Warmed39 U.vm ∧ U.heap = h) (fun _ _ _ _ _ => True) (fun _ U o U' => ∃ v L, o = .returned v ∧ QA Z mm zs h n0 v U'.heap L ∧ FrameEnd U o U' L rm14.cells rm14.slots)) :
    MetFree l ym22 (head1 (Jvm.Cond.code ym22 jdk_43_method_47_code 3 (some (.object "java/lang/String")) :: ws) rm19) (fun a U => a = #[(.ref ta), (.int f), (.int mm)] ∧ Z.Warmed39 U.vm ∧ U.heap = h0) (fun _ _ _ _ _ => True) (fun _ U o U' => ∃ v L, o = .returned v ∧ QS Z mm zs h0 n0 v U'.heap L ∧ FrameEnd U o U' L rm19.cells rm19.slots) := by
  refine MetFree.of_bodySF (plainFor_of_name own_pn_java_lang_StringLatin1) hisR ?_
  intro p e s m args below meth c s₁ Bd hml0 hP hK
  obtain ⟨rfl, hZ, hh⟩ := hP
  have hx := Bd.exec
  have hby := Bd.bytes
  have hml : c.maxLocals = 3 := hml0
  have hown : s.vm.findClass "java/lang/StringLatin1" = some m.cls := (findClass_of_methodNamed Bd.named :)
  have hnm := (name_of_methodNamed Bd.named Bd.method).1
  have X0 : Stand p l e rm19 s m #[(.ref ta), (.int f), (.int mm)] below meth c s₁ [] 0 0 := Stand.of_body Bd
  have e0 : s₁.heap = h0 := by rw [← hh, Bd.state]; rfl
  have N0 := Fr.nil n0
  have pre0 : ∀ t, SP p e below s₁ (mkF m 0 #[rv ta, iv f, iv mm] []) t → SP p e below s₁ (entryFrame m #[(.ref ta), (.int f), (.int mm)] 3) t := fun t k => castTop (own_ef_own_nws m) k
  obtain ⟨T1, hp1, X1, e1, E1, A1, D1, -, st1⟩ := newO X0 hx hZ hown (own_wi hw 110 rfl) (own_wi hw 10 rfl) (own_wi hw 11 rfl) e0 (g := (mkF m 7 #[rv ta, iv f, iv mm] [])) rfl (hb hby ow11_7) (by decide) (by decide)
  obtain ⟨b1, g1⟩ : ∃ z, z = h0.size := ⟨_, rfl⟩
  rw [← g1] at A1 D1 st1
  have g_b1 : n0 ≤ b1 := Nat.le_trans (Nat.le_trans Z0 (Keep.refl h0 []).1) (Nat.le_of_eq g1.symm)
  have sz_b1 : h0.size ≤ b1 := Nat.le_trans (Keep.refl h0 []).1 (Nat.le_of_eq g1.symm)
  have Kp1 := Keep.ext (Keep.refl h0 []) E1
  have F1_24 : Fld Z hp1 b1 "java/lang/String" "value" "[B" .null := D1 (Or.inr (own_wi hw 24 rfl)) (ty := (.array .byte)) (by decide)
  have F1_25 : Fld Z hp1 b1 "java/lang/String" "coder" "B" (.int (0 : Int32)) := D1 (Or.inr (own_wi hw 25 rfl)) (ty := .byte) (by decide)
  have ch2 : ∀ t, SP p e below T1 (mkF m 10 #[rv ta, iv f, iv mm] [(.ref b1)]) t → SP p e below s₁ (entryFrame m #[(.ref ta), (.int f), (.int mm)] 3) t := fun t k => pre0 t (by
      show SP p e below s₁ (mkF m 0 #[rv ta, iv f, iv mm] []) t
      refine XS.iloadN X0.here hx rfl (hb hby ow11_0) rfl ?_
      refine XS.ifYes X0.here hx rfl (pc0 := 1) (pc' := 7) rfl (hb hby ow11_1) rfl ((if0 _ _).trans (feq mz).2) (by decide) (by decide) ?_
      show SP p e below s₁ (mkF m 7 #[rv ta, iv f, iv mm] []) t
      exact st1 t k)
  obtain ⟨vv3, _, ⟨T3, L3, kk3, nn3⟩, -, X3, ⟨Lc3, hQ3, l3, y3, z3⟩, st3⟩ := Jvm.LawKit.callS X1 hx (y := ym24) hown (mvT hZ (own_wi hw 111 rfl)) (mvT hZ (own_wi hw 112 rfl)) (mvT hZ (own_wi hw 113 rfl)) (mvT hZ (own_wi hw 114 rfl)) (by decide) (backOf (W := 2) (HR hp1 n0 (Nat.le_trans Z0 Kp1.1) (own_ext_of_keep Kp1 all0)) hZ (own_wi hw 114 rfl) (own_wi hw 113 rfl) (by decide) (by decide)) (g := (mkF m 16 #[rv ta, iv f, iv mm] [(.int nn), (.int f), (.ref ta), (.ref b1), (.ref b1)])) rfl (by rw [hml]; rfl) (argsL := [(.ref ta), (.int f), (.int nn)]) (rest := [(.ref b1), (.ref b1)]) (lenOf own_pd___BII__B rfl) rfl (by show 2 * 0 + _ ≤ _; exact Nat.le_of_eq rfl) (hb hby ow11_16) (fun _ _ => ⟨rfl, e1, (by decide : 1 + 1 ≤ _), (by decide : 4 + 4 ≤ _)⟩)
  dsimp only [Pt.U, Pt.locs, Pt.cells, Pt.slots] at X3 l3 y3 z3 st3 hQ3
  subst l3 y3 z3
  obtain ⟨hh3, eh3⟩ : ∃ h, T3.heap = h := ⟨_, rfl⟩
  rw [eh3] at hQ3
  obtain ⟨tc, kc, rfl, zq3, Nq3, Kq3, fq3_0⟩ := hQ3
  have N3 := Fr.app N0 Nq3
  have ne_b1_tc : b1 ≠ tc := Nat.ne_of_lt (Nat.lt_of_lt_of_le A1.lt zq3)
  have g_tc : n0 ≤ tc := Nat.le_trans (Nat.le_trans Z0 Kp1.1) zq3
  have sz_tc : h0.size ≤ tc := Nat.le_trans Kp1.1 zq3
  have Kp3 := Keep.trans Kp1 Kq3 all0
  have ch4 : ∀ t, SP p e below T3 (mkF m 19 #[rv ta, iv f, iv mm] [(.ref tc), (.ref b1), (.ref b1)]) t → SP p e below s₁ (entryFrame m #[(.ref ta), (.int f), (.int mm)] 3) t := fun t k => ch2 t (by
      show SP p e below T1 (mkF m 10 #[rv ta, iv f, iv mm] [(.ref b1)]) t
      refine XS.dup X1.here hx rfl (hb hby ow11_10) rfl rfl ?_
      refine XS.aloadN X1.here hx rfl (hb hby ow11_11) rfl rfl ?_
      refine XS.iloadN X1.here hx rfl (hb hby ow11_12) rfl ?_
      refine XS.iloadN X1.here hx rfl (hb hby ow11_13) rfl ?_
      refine XS.iloadN X1.here hx rfl (hb hby ow11_14) rfl ?_
      show SP p e below T1 (mkF m 15 #[rv ta, iv f, iv mm] [(.int mm), (.int f), (.int f), (.ref ta), (.ref b1), (.ref b1)]) t
      refine XS.iadd X1.here hx rfl (hb hby ow11_15) rfl ?_
      rw [hfm]
      show SP p e below T1 (mkF m 16 #[rv ta, iv f, iv mm] [(.int nn), (.int f), (.ref ta), (.ref b1), (.ref b1)]) t
      exact st3 t k)
  have cf5 := (A1.keep Kq3)
  have cf6 := (F1_24.keep Kq3 nin0)
  have cf7 := (F1_25.keep Kq3 nin0)
  obtain ⟨vv8, _, ⟨T8, L8, kk8, nn8⟩, -, X8, ⟨Lc8, hQ8, l8, y8, z8⟩, st8⟩ := X3.specialBack hx (y := (⟨"java/lang/String", "<init>", "([BB)V"⟩ : MethodName)) rfl hown (mvT hZ (own_wi hw 126 rfl)) (mvT hZ (own_wi hw 127 rfl)) (mvT hZ (own_wi hw 128 rfl)) (by decide) (backOf (W := 1) (own_sbb l Z a0 hw [] hh3 n0 (Nat.le_trans Z0 Kp3.1) b1 tc cf5 cf6 cf7 g_b1) hZ (own_wi hw 128 rfl) (own_wi hw 11 rfl) (by decide) (by decide)) (g := (mkF m 20 #[rv ta, iv f, iv mm] [(.int (0 : Int32)), (.ref tc), (.ref b1), (.ref b1)])) rfl (by rw [hml]; rfl) (Steps.refl _) (a := b1) (argsL := [(.ref tc), (.int (0 : Int32))]) (rest := [(.ref b1)]) (lenOf own_pd___BB_V rfl) rfl (by show 2 * 0 + _ ≤ _; exact Nat.le_of_eq rfl) (hb hby ow11_20) (fun _ _ => ⟨rfl, eh3, (by decide : 2 + 0 ≤ _), (by decide : 8 + 0 ≤ _)⟩)
  dsimp only [Pt.U, Pt.locs, Pt.cells, Pt.slots] at X8 l8 y8 z8 st8 hQ8
  subst l8 y8 z8
  obtain ⟨hh8, eh8⟩ : ∃ h, T8.heap = h := ⟨_, rfl⟩
  rw [eh8] at hQ8
  obtain ⟨rfl, Nq8, Kq8, fq8_0, fq8_1, fq8_2⟩ := hQ8
  have N8 := Fr.app N3 Nq8
  have Kp8 := Keep.trans Kp3 Kq8 (allS (Or.inr sz_b1) all0)
  have ch9 : ∀ t, SP p e below T8 (mkF m 23 #[rv ta, iv f, iv mm] [(.ref b1)]) t → SP p e below s₁ (entryFrame m #[(.ref ta), (.int f), (.int mm)] 3) t := fun t k => ch4 t (by
      show SP p e below T3 (mkF m 19 #[rv ta, iv f, iv mm] [(.ref tc), (.ref b1), (.ref b1)]) t
      refine XS.iconst X3.here hx rfl (hb hby ow11_19) ?_
      show SP p e below T3 (mkF m 20 #[rv ta, iv f, iv mm] [(.int (0 : Int32)), (.ref tc), (.ref b1), (.ref b1)]) t
      exact st8.trans k)
  have cf10 := (fq3_0.keep Kq8 (ninS (Ne.symm ne_b1_tc) nin0))
  obtain ⟨fs, hr, hrun, hended, hW, hsame⟩ := X8.leave (v := some (.ref b1)) (fun h => by rw [Bd.returns] at h; cases h)
  refine ⟨_, _, ch9 _ ?_, hrun, hended, _, _, rfl, ?_, ⟨_, rfl⟩, hW, hsame.mono (by decide) (by decide)⟩
  · show Steps p.tables e below (T8.setTop (mkF m 23 #[rv ta, iv f, iv mm] [(.ref b1)])) _
    jvm_step X8.here [X8.here.top, hx, (hb hby ow11_23), X8.method', Bd.returns, Value.isRef, FieldType.isReference]
    first | (intro acts; rw [hr _ acts rfl rfl rfl]) | rw [hr _ _ rfl rfl rfl]
    exact Steps.refl _
  · show QS Z mm zs h0 n0 _ T8.heap _
    rw [eh8]
    exact ⟨_, _, _, rfl, sz_b1, N8, Kp8, fq8_0, fq8_1, fq8_2, cf10⟩
theorem own_ef_own_sub2 (m : MethodId) {x0 : Addr} {x1 : Int32} {x2 : Int32} : entryFrame m #[(.ref x0), (.int x1), (.int x2)] 5 = mkF m 0 #[rv x0, iv x1, iv x2, .unset, .unset] [] := by first | (simp [entryFrame, mkF, argsToLocals, Value.category, maxLocals]; done) | rfl
set_option maxRecDepth 65536 in
set_option maxHeartbeats 40000000 in
theorem own_sub2 (l : Launch) (Z : State) (a0 : Array Value) (hw : ∀ d ∈ tables_1, d.before a0 Z = true) (ws : List Jvm.Cond) (h0 : Heap) (n0 : Nat) (Z0 : n0 ≤ h0.size) (so ta : Addr) (kt : ClassId) (nn : Int32) (ys : List Value) (Eo : Exa Z h0 so "java/lang/String") (Fc : Fld Z h0 so "java/lang/String" "coder" "B" (.int (0 : Int32))) (Fv : Fld Z h0 so "java/lang/String" "value" "[B" (.ref ta)) (Vt : Arv Z h0 ta kt .byte nn ys (.int (0 : Int32))) (f : Int32) (f0 : ¬ f < (0 : Int32)) (fn : ¬ nn < f) (mm : Int32) (zs : List Value) (fz : ¬ f = (0 : Int32)) (hmm : (nn - f) = mm) (HN : MetFree l ym22 (head1 (Jvm.Cond.code ym22 jdk_43_method_47_code 3 (some (.object "java/lang/String")) :: []) rm19) (fun a U => a = #[(.ref ta), (.int f), (.int mm)] ∧ Z.Warmed39 U.vm ∧ U.heap = h0) (fun _ _ _ _ _ => True) (fun _ U o U' => ∃ v L, o = .returned v ∧ QS Z mm zs h0 n0 v U'.heap L ∧ FrameEnd U o U' L rm19.cells rm19.slots)) (zC : Int32) (S_CS : Sta Z h0 "java/lang/String" "COMPACT_STRINGS" "Z" (.int zC)) (P5 : ¬ (zC = (0 : Int32))) (vF : Value) (hvF : vF.category = 1) (S_F : Sta Z h0 "jdk/internal/util/Preconditions" "SIOOBE_FORMATTER" "Ljava/util/function/BiFunction;" vF) :
    MetFree l ym17 (head1 (Jvm.Cond.code ym17 jdk_42_method_92_code 5 (some (.object "java/lang/String")) :: ws) rm24) (fun a U => a = #[(.ref so), (.int f), (.int nn)] ∧ Z.Warmed39 U.vm ∧ U.heap = h0) (fun _ _ _ _ _ => True) (fun _ U o U' => ∃ v L, o = .returned v ∧ QS Z mm zs h0 n0 v U'.heap L ∧ FrameEnd U o U' L rm24.cells rm24.slots) := by
  refine MetFree.of_bodySF (plainFor_of_name own_pn_java_lang_String) hisR ?_
  intro p e s m args below meth c s₁ Bd hml0 hP hK
  obtain ⟨rfl, hZ, hh⟩ := hP
  have hx := Bd.exec
  have hby := Bd.bytes
  have hml : c.maxLocals = 5 := hml0
  have hown : s.vm.findClass "java/lang/String" = some m.cls := (findClass_of_methodNamed Bd.named :)
  have hnm := (name_of_methodNamed Bd.named Bd.method).1
  have X0 : Stand p l e rm24 s m #[(.ref so), (.int f), (.int nn)] below meth c s₁ [] 0 0 := Stand.of_body Bd
  have e0 : s₁.heap = h0 := by rw [← hh, Bd.state]; rfl
  have N0 := Fr.nil n0
  have pre0 : ∀ t, SP p e below s₁ (mkF m 0 #[rv so, iv f, iv nn, .unset, .unset] []) t → SP p e below s₁ (entryFrame m #[(.ref so), (.int f), (.int nn)] 5) t := fun t k => castTop (own_ef_own_sub2 m) k
  obtain ⟨cq1, kq1, qa1, qb1, qc1⟩ := isOf hZ e0 Eo
  obtain ⟨vv2, _, ⟨T2, L2, kk2, nn2⟩, -, X2, ⟨Lc2, hQ2, l2, y2, z2⟩, st2⟩ := X0.virtualBack hx (y := ym15) (z := ym15) hown (mvT hZ (own_wi hw 50 rfl)) (mvT hZ (own_wi hw 51 rfl)) (notFace_of_selects (args := #[]) (mvT hZ (own_wi hw 53 rfl))) (mvT hZ (own_wi hw 53 rfl)) (mvT hZ (own_wi hw 52 rfl)) (by decide) (backOf (W := 0) (own_ln l Z a0 hw [] h0 n0 (Nat.le_trans Z0 (Keep.refl h0 []).1) so ta kt nn ys Eo Fc Fv Vt zC S_CS P5) hZ (own_wi hw 54 rfl) (own_wi hw 11 rfl) (by decide) (by decide)) qa1 qc1 (g := (mkF m 1 #[rv so, iv f, iv nn, .unset, .unset] [(.ref so)])) rfl (by rw [hml]; rfl) (Steps.refl _) (argsL := []) (rest := []) (lenOf own_pd___I rfl) rfl (by show 2 * 0 + _ ≤ _; exact Nat.le_of_eq rfl) (hb hby ow17_1) (fun _ _ => ⟨rfl, e0, (by decide : 0 + 0 ≤ _), (by decide : 0 + 0 ≤ _)⟩)
  dsimp only [Pt.U, Pt.locs, Pt.cells, Pt.slots] at X2 l2 y2 z2 st2 hQ2
  subst l2 y2 z2
  obtain ⟨rfl, Nq2, e2⟩ := hQ2
  have N2 := Fr.app N0 Nq2
  have ch3 : ∀ t, SP p e below T2 (mkF m 4 #[rv so, iv f, iv nn, .unset, .unset] [(.int nn)]) t → SP p e below s₁ (entryFrame m #[(.ref so), (.int f), (.int nn)] 5) t := fun t k => pre0 t (by
      show SP p e below s₁ (mkF m 0 #[rv so, iv f, iv nn, .unset, .unset] []) t
      refine XS.aloadN X0.here hx rfl (hb hby ow17_0) rfl rfl ?_
      show SP p e below s₁ (mkF m 1 #[rv so, iv f, iv nn, .unset, .unset] [(.ref so)]) t
      exact st2.trans k)
  obtain ⟨vv4, _, ⟨T4, L4, kk4, nn4⟩, -, X4, ⟨Lc4, hQ4, l4, y4, z4⟩, st4⟩ := Jvm.LawKit.callS X2 hx (y := ym9) hown (mvT hZ (own_wi hw 97 rfl)) (mvT hZ (own_wi hw 98 rfl)) (mvT hZ (own_wi hw 11 rfl)) (mvT hZ (own_wi hw 99 rfl)) (by decide) (backOf (W := 0) (own_cbb l Z a0 hw [] h0 n0 (Nat.le_trans Z0 (Keep.refl h0 []).1) nn f f0 fn vF hvF S_F) hZ (own_wi hw 99 rfl) (own_wi hw 11 rfl) (by decide) (by decide)) (g := (mkF m 8 #[rv so, iv f, iv nn, iv nn, .unset] [(.int nn), (.int nn), (.int f)])) rfl (by rw [hml]; rfl) (argsL := [(.int f), (.int nn), (.int nn)]) (rest := []) (lenOf own_pd__III_V rfl) rfl (by show 2 * 0 + _ ≤ _; exact Nat.le_of_eq rfl) (hb hby ow17_8) (fun _ _ => ⟨rfl, e2, (by decide : 0 + 0 ≤ _), (by decide : 0 + 0 ≤ _)⟩)
  dsimp only [Pt.U, Pt.locs, Pt.cells, Pt.slots] at X4 l4 y4 z4 st4 hQ4
  subst l4 y4 z4
  obtain ⟨rfl, Nq4, e4⟩ := hQ4
  have N4 := Fr.app N2 Nq4
  have ch5 : ∀ t, SP p e below T4 (mkF m 11 #[rv so, iv f, iv nn, iv nn, .unset] []) t → SP p e below s₁ (entryFrame m #[(.ref so), (.int f), (.int nn)] 5) t := fun t k => ch3 t (by
      show SP p e below T2 (mkF m 4 #[rv so, iv f, iv nn, .unset, .unset] [(.int nn)]) t
      refine XS.istoreN X2.here hx rfl (hb hby ow17_4) rfl (l' := #[rv so, iv f, iv nn, iv nn, .unset]) rfl ?_
      refine XS.iloadN X2.here hx rfl (hb hby ow17_5) rfl ?_
      refine XS.iloadN X2.here hx rfl (hb hby ow17_6) rfl ?_
      refine XS.iloadN X2.here hx rfl (hb hby ow17_7) rfl ?_
      show SP p e below T2 (mkF m 8 #[rv so, iv f, iv nn, iv nn, .unset] [(.int nn), (.int nn), (.int f)]) t
      exact st4 t k)
  obtain ⟨cq6, kq6, qa6, qb6, qc6⟩ := isOf hZ e4 Eo
  obtain ⟨vv7, _, ⟨T7, L7, kk7, nn7⟩, -, X7, ⟨Lc7, hQ7, l7, y7, z7⟩, st7⟩ := X4.virtualBack hx (y := ym14) (z := ym14) hown (mvT hZ (own_wi hw 44 rfl)) (mvT hZ (own_wi hw 45 rfl)) (notFace_of_selects (args := #[]) (mvT hZ (own_wi hw 47 rfl))) (mvT hZ (own_wi hw 47 rfl)) (mvT hZ (own_wi hw 46 rfl)) (by decide) (backOf (W := 0) (own_isl l Z a0 hw [] h0 n0 (Nat.le_trans Z0 (Keep.refl h0 []).1) so Eo Fc zC S_CS P5) hZ (own_wi hw 48 rfl) (own_wi hw 11 rfl) (by decide) (by decide)) qa6 qc6 (g := (mkF m 28 #[rv so, iv f, iv nn, iv nn, iv mm] [(.ref so)])) rfl (by rw [hml]; rfl) (Steps.refl _) (argsL := []) (rest := []) (lenOf own_pd___Z rfl) rfl (by show 2 * 0 + _ ≤ _; exact Nat.le_of_eq rfl) (hb hby ow17_28) (fun _ _ => ⟨rfl, e4, (by decide : 0 + 0 ≤ _), (by decide : 0 + 0 ≤ _)⟩)
  dsimp only [Pt.U, Pt.locs, Pt.cells, Pt.slots] at X7 l7 y7 z7 st7 hQ7
  subst l7 y7 z7
  obtain ⟨rfl, Nq7, e7⟩ := hQ7
  have N7 := Fr.app N4 Nq7
  have ch8 : ∀ t, SP p e below T7 (mkF m 31 #[rv so, iv f, iv nn, iv nn, iv mm] [(.int (1 : Int32))]) t → SP p e below s₁ (entryFrame m #[(.ref so), (.int f), (.int nn)] 5) t := fun t k => ch5 t (by
      show SP p e below T4 (mkF m 11 #[rv so, iv f, iv nn, iv nn, .unset] []) t
      refine XS.iloadN X4.here hx rfl (hb hby ow17_11) rfl ?_
      refine XS.ifYes X4.here hx rfl (pc0 := 12) (pc' := 22) rfl (hb hby ow17_12) rfl ((if0 _ _).trans (feq fz).2) (by decide) (by decide) ?_
      refine XS.iloadN X4.here hx rfl (hb hby ow17_22) rfl ?_
      refine XS.iloadN X4.here hx rfl (hb hby ow17_23) rfl ?_
      show SP p e below T4 (mkF m 24 #[rv so, iv f, iv nn, iv nn, .unset] [(.int f), (.int nn)]) t
      refine XS.isub X4.here hx rfl (hb hby ow17_24) rfl ?_
      rw [hmm]
      refine XS.istore X4.here hx rfl (hb hby ow17_25) rfl (l' := #[rv so, iv f, iv nn, iv nn, iv mm]) rfl ?_
      refine XS.aloadN X4.here hx rfl (hb hby ow17_27) rfl rfl ?_
      show SP p e below T4 (mkF m 28 #[rv so, iv f, iv nn, iv nn, iv mm] [(.ref so)]) t
      exact st7.trans k)
  obtain ⟨T9, X9, e9, st9⟩ := getF X7 hx hZ hown (host := "") (Or.inl (own_wi hw 28 rfl)) Via.refl e7 Fv (g := (mkF m 35 #[rv so, iv f, iv nn, iv nn, iv mm] [(.ref so)])) rfl rfl (hb hby ow17_35)
  have ch10 : ∀ t, SP p e below T9 (mkF m 38 #[rv so, iv f, iv nn, iv nn, iv mm] [(.ref ta)]) t → SP p e below s₁ (entryFrame m #[(.ref so), (.int f), (.int nn)] 5) t := fun t k => ch8 t (by
      refine XS.ifNo X7.here hx rfl (hb hby ow17_31) rfl ((if0 _ _).trans (feq (by decide : ¬ (1 : Int32) = (0 : Int32))).1) ?_
      show SP p e below T7 (mkF m 34 #[rv so, iv f, iv nn, iv nn, iv mm] []) t
      refine XS.aloadN X7.here hx rfl (hb hby ow17_34) rfl rfl ?_
      show SP p e below T7 (mkF m 35 #[rv so, iv f, iv nn, iv nn, iv mm] [(.ref so)]) t
      exact st9 t k)
  obtain ⟨vv11, _, ⟨T11, L11, kk11, nn11⟩, -, X11, ⟨Lc11, hQ11, l11, y11, z11⟩, st11⟩ := Jvm.LawKit.callS X9 hx (y := ym22) hown (mvT hZ (own_wi hw 105 rfl)) (mvT hZ (own_wi hw 106 rfl)) (mvT hZ (own_wi hw 62 rfl)) (mvT hZ (own_wi hw 107 rfl)) (by decide) (backOf (W := 0) HN hZ (own_wi hw 107 rfl) (own_wi hw 62 rfl) (by decide) (by decide)) (g := (mkF m 41 #[rv so, iv f, iv nn, iv nn, iv mm] [(.int mm), (.int f), (.ref ta)])) rfl (by rw [hml]; rfl) (argsL := [(.ref ta), (.int f), (.int mm)]) (rest := []) (lenOf own_pd___BII_Ljava_lang_String_ rfl) rfl (by show 2 * 0 + _ ≤ _; exact Nat.le_of_eq rfl) (hb hby ow17_41) (fun _ _ => ⟨rfl, e9, (by decide : 0 + 2 ≤ _), (by decide : 0 + 8 ≤ _)⟩)
  dsimp only [Pt.U, Pt.locs, Pt.cells, Pt.slots] at X11 l11 y11 z11 st11 hQ11
  subst l11 y11 z11
  obtain ⟨hh11, eh11⟩ : ∃ h, T11.heap = h := ⟨_, rfl⟩
  rw [eh11] at hQ11
  obtain ⟨sn, tn, kn, rfl, zq11, Nq11, Kq11, fq11_0, fq11_1, fq11_2, fq11_3⟩ := hQ11
  have N11 := Fr.app N7 Nq11
  have ne_so_sn : so ≠ sn := Nat.ne_of_lt (Nat.lt_of_lt_of_le Eo.lt zq11)
  have ne_ta_sn : ta ≠ sn := Nat.ne_of_lt (Nat.lt_of_lt_of_le Vt.lt zq11)
  have g_sn : n0 ≤ sn := Nat.le_trans (Nat.le_trans Z0 (Keep.refl h0 []).1) zq11
  have sz_sn : h0.size ≤ sn := Nat.le_trans (Keep.refl h0 []).1 zq11
  have Kp11 := Keep.trans (Keep.refl h0 []) Kq11 all0
  have ch12 : ∀ t, SP p e below T11 (mkF m 44 #[rv so, iv f, iv nn, iv nn, iv mm] [(.ref sn)]) t → SP p e below s₁ (entryFrame m #[(.ref so), (.int f), (.int nn)] 5) t := fun t k => ch10 t (by
      show SP p e below T9 (mkF m 38 #[rv so, iv f, iv nn, iv nn, iv mm] [(.ref ta)]) t
      refine XS.iloadN X9.here hx rfl (hb hby ow17_38) rfl ?_
      refine XS.iload X9.here hx rfl (hb hby ow17_39) rfl ?_
      show SP p e below T9 (mkF m 41 #[rv so, iv f, iv nn, iv nn, iv mm] [(.int mm), (.int f), (.ref ta)]) t
      exact st11 t k)
  have ch13 : ∀ t, SP p e below T11 (mkF m 57 #[rv so, iv f, iv nn, iv nn, iv mm] [(.ref sn)]) t → SP p e below s₁ (entryFrame m #[(.ref so), (.int f), (.int nn)] 5) t := fun t k => ch12 t (by
      show SP p e below T11 (mkF m 44 #[rv so, iv f, iv nn, iv nn, iv mm] [(.ref sn)]) t
      refine XS.goto X11.here hx rfl (pc0 := 44) (pc' := 57) rfl (hb hby ow17_44) (by decide) (by decide) ?_
      exact k)
  obtain ⟨fs, hr, hrun, hended, hW, hsame⟩ := X11.leave (v := some (.ref sn)) (fun h => by rw [Bd.returns] at h; cases h)
  refine ⟨_, _, ch13 _ ?_, hrun, hended, _, _, rfl, ?_, ⟨_, rfl⟩, hW, hsame.mono (by decide) (by decide)⟩
  · show Steps p.tables e below (T11.setTop (mkF m 57 #[rv so, iv f, iv nn, iv nn, iv mm] [(.ref sn)])) _
    jvm_step X11.here [X11.here.top, hx, (hb hby ow17_57), X11.method', Bd.returns, Value.isRef, FieldType.isReference]
    first | (intro acts; rw [hr _ acts rfl rfl rfl]) | rw [hr _ _ rfl rfl rfl]
    exact Steps.refl _
  · show QS Z mm zs h0 n0 _ T11.heap _
    rw [eh11]
    exact ⟨_, _, _, rfl, sz_sn, N11, Kp11, fq11_0, fq11_1, fq11_2, fq11_3⟩
theorem own_ef_own_sub1 (m : MethodId) {x0 : Addr} {x1 : Int32} : entryFrame m #[(.ref x0), (.int x1)] 2 = mkF m 0 #[rv x0, iv x1] [] := by first | (simp [entryFrame, mkF, argsToLocals, Value.category, maxLocals]; done) | rfl
set_option maxRecDepth 65536 in
set_option maxHeartbeats 40000000 in
theorem own_sub1 (l : Launch) (Z : State) (a0 : Array Value) (hw : ∀ d ∈ tables_1, d.before a0 Z = true) (ws : List Jvm.Cond) (h0 : Heap) (n0 : Nat) (Z0 : n0 ≤ h0.size) (so ta : Addr) (kt : ClassId) (nn : Int32) (ys : List Value) (Eo : Exa Z h0 so "java/lang/String") (Fc : Fld Z h0 so "java/lang/String" "coder" "B" (.int (0 : Int32))) (Fv : Fld Z h0 so "java/lang/String" "value" "[B" (.ref ta)) (Vt : Arv Z h0 ta kt .byte nn ys (.int (0 : Int32))) (f : Int32) (f0 : ¬ f < (0 : Int32)) (fn : ¬ nn < f) (mm : Int32) (zs : List Value) (fz : ¬ f = (0 : Int32)) (hmm : (nn - f) = mm) (HN : MetFree l ym22 (head1 (Jvm.Cond.code ym22 jdk_43_method_47_code 3 (some (.object "java/lang/String")) :: []) rm19) (fun a U => a = #[(.ref ta), (.int f), (.int mm)] ∧ Z.Warmed39 U.vm ∧ U.heap = h0) (fun _ _ _ _ _ => True) (fun _ U o U' => ∃ v L, o = .returned v ∧ QS Z mm zs h0 n0 v U'.heap L ∧ FrameEnd U o U' L rm19.cells rm19.slots)) (zC : Int32) (S_CS : Sta Z h0 "java/lang/String" "COMPACT_STRINGS" "Z" (.int zC)) (P5 : ¬ (zC = (0 : Int32))) (vF : Value) (hvF : vF.category = 1) (S_F : Sta Z h0 "jdk/internal/util/Preconditions" "SIOOBE_FORMATTER" "Ljava/util/function/BiFunction;" vF) :
    MetFree l ym16 (head1 (Jvm.Cond.code ym16 jdk_42_method_91_code 2 (some (.object "java/lang/String")) :: ws) rm25) (fun a U => a = #[(.ref so), (.int f)] ∧ Z.Warmed39 U.vm ∧ U.heap = h0) (fun _ _ _ _ _ => True) (fun _ U o U' => ∃ v L, o = .returned v ∧ QS Z mm zs h0 n0 v U'.heap L ∧ FrameEnd U o U' L rm25.cells rm25.slots) := by
  refine MetFree.of_bodySF (plainFor_of_name own_pn_java_lang_String) hisR ?_
  intro p e s m args below meth c s₁ Bd hml0 hP hK
  obtain ⟨rfl, hZ, hh⟩ := hP
  have hx := Bd.exec
  have hby := Bd.bytes
  have hml : c.maxLocals = 2 := hml0
  have hown : s.vm.findClass "java/lang/String" = some m.cls := (findClass_of_methodNamed Bd.named :)
  have hnm := (name_of_methodNamed Bd.named Bd.method).1
  have X0 : Stand p l e rm25 s m #[(.ref so), (.int f)] below meth c s₁ [] 0 0 := Stand.of_body Bd
  have e0 : s₁.heap = h0 := by rw [← hh, Bd.state]; rfl
  have N0 := Fr.nil n0
  have pre0 : ∀ t, SP p e below s₁ (mkF m 0 #[rv so, iv f] []) t → SP p e below s₁ (entryFrame m #[(.ref so), (.int f)] 2) t := fun t k => castTop (own_ef_own_sub1 m) k
  obtain ⟨cq1, kq1, qa1, qb1, qc1⟩ := isOf hZ e0 Eo
  obtain ⟨vv2, _, ⟨T2, L2, kk2, nn2⟩, -, X2, ⟨Lc2, hQ2, l2, y2, z2⟩, st2⟩ := X0.virtualBack hx (y := ym15) (z := ym15) hown (mvT hZ (own_wi hw 50 rfl)) (mvT hZ (own_wi hw 51 rfl)) (notFace_of_selects (args := #[]) (mvT hZ (own_wi hw 53 rfl))) (mvT hZ (own_wi hw 53 rfl)) (mvT hZ (own_wi hw 52 rfl)) (by decide) (backOf (W := 2) (own_ln l Z a0 hw [] h0 n0 (Nat.le_trans Z0 (Keep.refl h0 []).1) so ta kt nn ys Eo Fc Fv Vt zC S_CS P5) hZ (own_wi hw 54 rfl) (own_wi hw 11 rfl) (by decide) (by decide)) qa1 qc1 (g := (mkF m 3 #[rv so, iv f] [(.ref so), (.int f), (.ref so)])) rfl (by rw [hml]; rfl) (Steps.refl _) (argsL := []) (rest := [(.int f), (.ref so)]) (lenOf own_pd___I rfl) rfl (by show 2 * 0 + _ ≤ _; exact Nat.le_of_eq rfl) (hb hby ow18_3) (fun _ _ => ⟨rfl, e0, (by decide : 0 + 0 ≤ _), (by decide : 0 + 0 ≤ _)⟩)
  dsimp only [Pt.U, Pt.locs, Pt.cells, Pt.slots] at X2 l2 y2 z2 st2 hQ2
  subst l2 y2 z2
  obtain ⟨rfl, Nq2, e2⟩ := hQ2
  have N2 := Fr.app N0 Nq2
  have ch3 : ∀ t, SP p e below T2 (mkF m 6 #[rv so, iv f] [(.int nn), (.int f), (.ref so)]) t → SP p e below s₁ (entryFrame m #[(.ref so), (.int f)] 2) t := fun t k => pre0 t (by
      show SP p e below s₁ (mkF m 0 #[rv so, iv f] []) t
      refine XS.aloadN X0.here hx rfl (hb hby ow18_0) rfl rfl ?_
      refine XS.iloadN X0.here hx rfl (hb hby ow18_1) rfl ?_
      refine XS.aloadN X0.here hx rfl (hb hby ow18_2) rfl rfl ?_
      show SP p e below s₁ (mkF m 3 #[rv so, iv f] [(.ref so), (.int f), (.ref so)]) t
      exact st2.trans k)
  obtain ⟨cq4, kq4, qa4, qb4, qc4⟩ := isOf hZ e2 Eo
  obtain ⟨vv5, _, ⟨T5, L5, kk5, nn5⟩, -, X5, ⟨Lc5, hQ5, l5, y5, z5⟩, st5⟩ := X2.virtualBack hx (y := ym17) (z := ym17) hown (mvT hZ (own_wi hw 92 rfl)) (mvT hZ (own_wi hw 93 rfl)) (notFace_of_selects (args := #[]) (mvT hZ (own_wi hw 95 rfl))) (mvT hZ (own_wi hw 95 rfl)) (mvT hZ (own_wi hw 94 rfl)) (by decide) (backOf (W := 0) (own_sub2 l Z a0 hw [] h0 n0 (Nat.le_trans Z0 (Keep.refl h0 []).1) so ta kt nn ys Eo Fc Fv Vt f f0 fn mm zs fz hmm HN zC S_CS P5 vF hvF S_F) hZ (own_wi hw 96 rfl) (own_wi hw 11 rfl) (by decide) (by decide)) qa4 qc4 (g := (mkF m 6 #[rv so, iv f] [(.int nn), (.int f), (.ref so)])) rfl (by rw [hml]; rfl) (Steps.refl _) (argsL := [(.int f), (.int nn)]) (rest := []) (lenOf own_pd__II_Ljava_lang_String_ rfl) rfl (by show 2 * 0 + _ ≤ _; exact Nat.le_of_eq rfl) (hb hby ow18_6) (fun _ _ => ⟨rfl, e2, (by decide : 0 + 2 ≤ _), (by decide : 0 + 8 ≤ _)⟩)
  dsimp only [Pt.U, Pt.locs, Pt.cells, Pt.slots] at X5 l5 y5 z5 st5 hQ5
  subst l5 y5 z5
  obtain ⟨hh5, eh5⟩ : ∃ h, T5.heap = h := ⟨_, rfl⟩
  rw [eh5] at hQ5
  obtain ⟨sn, tn, kn, rfl, zq5, Nq5, Kq5, fq5_0, fq5_1, fq5_2, fq5_3⟩ := hQ5
  have N5 := Fr.app N2 Nq5
  have ne_so_sn : so ≠ sn := Nat.ne_of_lt (Nat.lt_of_lt_of_le Eo.lt zq5)
  have ne_ta_sn : ta ≠ sn := Nat.ne_of_lt (Nat.lt_of_lt_of_le Vt.lt zq5)
  have g_sn : n0 ≤ sn := Nat.le_trans (Nat.le_trans Z0 (Keep.refl h0 []).1) zq5
  have sz_sn : h0.size ≤ sn := Nat.le_trans (Keep.refl h0 []).1 zq5
  have Kp5 := Keep.trans (Keep.refl h0 []) Kq5 all0
  have ch6 : ∀ t, SP p e below T5 (mkF m 9 #[rv so, iv f] [(.ref sn)]) t → SP p e below s₁ (entryFrame m #[(.ref so), (.int f)] 2) t := fun t k => ch3 t (by
      show SP p e below T2 (mkF m 6 #[rv so, iv f] [(.int nn), (.int f), (.ref so)]) t
      exact st5.trans k)
  obtain ⟨fs, hr, hrun, hended, hW, hsame⟩ := X5.leave (v := some (.ref sn)) (fun h => by rw [Bd.returns] at h; cases h)
  refine ⟨_, _, ch6 _ ?_, hrun, hended, _, _, rfl, ?_, ⟨_, rfl⟩, hW, hsame.mono (by decide) (by decide)⟩
  · show Steps p.tables e below (T5.setTop (mkF m 9 #[rv so, iv f] [(.ref sn)])) _
    jvm_step X5.here [X5.here.top, hx, (hb hby ow18_9), X5.method', Bd.returns, Value.isRef, FieldType.isReference]
    first | (intro acts; rw [hr _ acts rfl rfl rfl]) | rw [hr _ _ rfl rfl rfl]
    exact Steps.refl _
  · show QS Z mm zs h0 n0 _ T5.heap _
    rw [eh5]
    exact ⟨_, _, _, rfl, sz_sn, N5, Kp5, fq5_0, fq5_1, fq5_2, fq5_3⟩
theorem own_ef_own_frag (m : MethodId) {x0 : Addr} : entryFrame m #[(.ref x0)] 2 = mkF m 0 #[rv x0, .unset] [] := by first | (simp [entryFrame, mkF, argsToLocals, Value.category, maxLocals]; done) | rfl
set_option maxRecDepth 65536 in
set_option maxHeartbeats 40000000 in
theorem own_frag (l : Launch) (Z : State) (a0 : Array Value) (hw : ∀ d ∈ tables_1, d.before a0 Z = true) (ws : List Jvm.Cond) (h0 : Heap) (n0 : Nat) (Z0 : n0 ≤ h0.size) (so ta : Addr) (kt : ClassId) (nn : Int32) (ys : List Value) (Eo : Exa Z h0 so "java/lang/String") (Fc : Fld Z h0 so "java/lang/String" "coder" "B" (.int (0 : Int32))) (Fv : Fld Z h0 so "java/lang/String" "value" "[B" (.ref ta)) (Vt : Arv Z h0 ta kt .byte nn ys (.int (0 : Int32))) (rr f : Int32) (rp : ¬ rr < (0 : Int32)) (hrf : (rr + (1 : Int32)) = f) (mm : Int32) (zs : List Value) (HI : MetFree l ym12 (head1 (Jvm.Cond.code ym12 jdk_42_method_79_code 2 (some .int) :: []) rm13) (fun a U => a = #[(.ref so), (.int (35 : Int32))] ∧ Z.Warmed39 U.vm ∧ U.heap = h0) (fun _ _ _ _ _ => True) (fun _ U o U' => ∃ v L, o = .returned v ∧ QV (some (.int rr)) h0 n0 v U'.heap L ∧ FrameEnd U o U' L rm13.cells rm13.slots)) (HS : MetFree l ym16 (head1 (Jvm.Cond.code ym16 jdk_42_method_91_code 2 (some (.object "java/lang/String")) :: []) rm25) (fun a U => a = #[(.ref so), (.int f)] ∧ Z.Warmed39 U.vm ∧ U.heap = h0) (fun _ _ _ _ _ => True) (fun _ U o U' => ∃ v L, o = .returned v ∧ QS Z mm zs h0 n0 v U'.heap L ∧ FrameEnd U o U' L rm25.cells rm25.slots)) :
    MetFree l ym0 (head1 (Jvm.Cond.code ym0 prog_28_method_4_code 2 (some (.object "java/lang/String")) :: ws) rm26) (fun a U => a = #[(.ref so)] ∧ Z.Warmed39 U.vm ∧ U.heap = h0) (fun _ _ _ _ _ => True) (fun _ U o U' => ∃ v L, o = .returned v ∧ QS Z mm zs h0 n0 v U'.heap L ∧ FrameEnd U o U' L rm26.cells rm26.slots) := by
  refine MetFree.of_bodySF (plainFor_of_name own_pn_com_example_leafwright_leafwright_References) hisR ?_
  intro p e s m args below meth c s₁ Bd hml0 hP hK
  obtain ⟨rfl, hZ, hh⟩ := hP
  have hx := Bd.exec
  have hby := Bd.bytes
  have hml : c.maxLocals = 2 := hml0
  have hown : s.vm.findClass "com/example/leafwright/leafwright/References" = some m.cls := (findClass_of_methodNamed Bd.named :)
  have hnm := (name_of_methodNamed Bd.named Bd.method).1
  have X0 : Stand p l e rm26 s m #[(.ref so)] below meth c s₁ [] 0 0 := Stand.of_body Bd
  have e0 : s₁.heap = h0 := by rw [← hh, Bd.state]; rfl
  have N0 := Fr.nil n0
  have pre0 : ∀ t, SP p e below s₁ (mkF m 0 #[rv so, .unset] []) t → SP p e below s₁ (entryFrame m #[(.ref so)] 2) t := fun t k => castTop (own_ef_own_frag m) k
  obtain ⟨cq1, kq1, qa1, qb1, qc1⟩ := isOf hZ e0 Eo
  obtain ⟨vv2, _, ⟨T2, L2, kk2, nn2⟩, -, X2, ⟨Lc2, hQ2, l2, y2, z2⟩, st2⟩ := X0.virtualBack hx (y := ym12) (z := ym12) hown (mvT hZ (own_wi hw 34 rfl)) (mvT hZ (own_wi hw 35 rfl)) (notFace_of_selects (args := #[]) (mvT hZ (own_wi hw 37 rfl))) (mvT hZ (own_wi hw 37 rfl)) (mvT hZ (own_wi hw 36 rfl)) (by decide) (backOf (W := 0) HI hZ (own_wi hw 38 rfl) (own_wi hw 11 rfl) (by decide) (by decide)) qa1 qc1 (g := (mkF m 3 #[rv so, .unset] [(.int (35 : Int32)), (.ref so)])) rfl (by rw [hml]; rfl) (Steps.refl _) (argsL := [(.int (35 : Int32))]) (rest := []) (lenOf own_pd__I_I rfl) rfl (by show 2 * 0 + _ ≤ _; exact Nat.le_of_eq rfl) (hb hby ow19_3) (fun _ _ => ⟨rfl, e0, (by decide : 0 + 0 ≤ _), (by decide : 0 + 0 ≤ _)⟩)
  dsimp only [Pt.U, Pt.locs, Pt.cells, Pt.slots] at X2 l2 y2 z2 st2 hQ2
  subst l2 y2 z2
  obtain ⟨rfl, Nq2, e2⟩ := hQ2
  have N2 := Fr.app N0 Nq2
  have ch3 : ∀ t, SP p e below T2 (mkF m 6 #[rv so, .unset] [(.int rr)]) t → SP p e below s₁ (entryFrame m #[(.ref so)] 2) t := fun t k => pre0 t (by
      show SP p e below s₁ (mkF m 0 #[rv so, .unset] []) t
      refine XS.aloadN X0.here hx rfl (hb hby ow19_0) rfl rfl ?_
      refine XS.bipush X0.here hx rfl (hb hby ow19_1) ?_
      show SP p e below s₁ (mkF m 3 #[rv so, .unset] [(.int (35 : Int32)), (.ref so)]) t
      exact st2.trans k)
  obtain ⟨cq4, kq4, qa4, qb4, qc4⟩ := isOf hZ e2 Eo
  obtain ⟨vv5, _, ⟨T5, L5, kk5, nn5⟩, -, X5, ⟨Lc5, hQ5, l5, y5, z5⟩, st5⟩ := X2.virtualBack hx (y := ym16) (z := ym16) hown (mvT hZ (own_wi hw 87 rfl)) (mvT hZ (own_wi hw 88 rfl)) (notFace_of_selects (args := #[]) (mvT hZ (own_wi hw 90 rfl))) (mvT hZ (own_wi hw 90 rfl)) (mvT hZ (own_wi hw 89 rfl)) (by decide) (backOf (W := 0) HS hZ (own_wi hw 91 rfl) (own_wi hw 11 rfl) (by decide) (by decide)) qa4 qc4 (g := (mkF m 19 #[rv so, iv rr] [(.int f), (.ref so)])) rfl (by rw [hml]; rfl) (Steps.refl _) (argsL := [(.int f)]) (rest := []) (lenOf own_pd__I_Ljava_lang_String_ rfl) rfl (by show 2 * 0 + _ ≤ _; exact Nat.le_of_eq rfl) (hb hby ow19_19) (fun _ _ => ⟨rfl, e2, (by decide : 0 + 2 ≤ _), (by decide : 0 + 8 ≤ _)⟩)
  dsimp only [Pt.U, Pt.locs, Pt.cells, Pt.slots] at X5 l5 y5 z5 st5 hQ5
  subst l5 y5 z5
  obtain ⟨hh5, eh5⟩ : ∃ h, T5.heap = h := ⟨_, rfl⟩
  rw [eh5] at hQ5
  obtain ⟨sn, tn, kn, rfl, zq5, Nq5, Kq5, fq5_0, fq5_1, fq5_2, fq5_3⟩ := hQ5
  have N5 := Fr.app N2 Nq5
  have ne_so_sn : so ≠ sn := Nat.ne_of_lt (Nat.lt_of_lt_of_le Eo.lt zq5)
  have ne_ta_sn : ta ≠ sn := Nat.ne_of_lt (Nat.lt_of_lt_of_le Vt.lt zq5)
  have g_sn : n0 ≤ sn := Nat.le_trans (Nat.le_trans Z0 (Keep.refl h0 []).1) zq5
  have sz_sn : h0.size ≤ sn := Nat.le_trans (Keep.refl h0 []).1 zq5
  have Kp5 := Keep.trans (Keep.refl h0 []) Kq5 all0
  have ch6 : ∀ t, SP p e below T5 (mkF m 22 #[rv so, iv rr] [(.ref sn)]) t → SP p e below s₁ (entryFrame m #[(.ref so)] 2) t := fun t k => ch3 t (by
      show SP p e below T2 (mkF m 6 #[rv so, .unset] [(.int rr)]) t
      refine XS.istoreN X2.here hx rfl (hb hby ow19_6) rfl (l' := #[rv so, iv rr]) rfl ?_
      refine XS.iloadN X2.here hx rfl (hb hby ow19_7) rfl ?_
      refine XS.ifYes X2.here hx rfl (pc0 := 8) (pc' := 15) rfl (hb hby ow19_8) rfl ((if0 _ _).trans (flt rp).2.1) (by decide) (by decide) ?_
      refine XS.aloadN X2.here hx rfl (hb hby ow19_15) rfl rfl ?_
      refine XS.iloadN X2.here hx rfl (hb hby ow19_16) rfl ?_
      refine XS.iconst X2.here hx rfl (hb hby ow19_17) ?_
      show SP p e below T2 (mkF m 18 #[rv so, iv rr] [(.int (1 : Int32)), (.int rr), (.ref so)]) t
      refine XS.iadd X2.here hx rfl (hb hby ow19_18) rfl ?_
      rw [hrf]
      show SP p e below T2 (mkF m 19 #[rv so, iv rr] [(.int f), (.ref so)]) t
      exact st5.trans k)
  obtain ⟨fs, hr, hrun, hended, hW, hsame⟩ := X5.leave (v := some (.ref sn)) (fun h => by rw [Bd.returns] at h; cases h)
  refine ⟨_, _, ch6 _ ?_, hrun, hended, _, _, rfl, ?_, ⟨_, rfl⟩, hW, hsame.mono (by decide) (by decide)⟩
  · show Steps p.tables e below (T5.setTop (mkF m 22 #[rv so, iv rr] [(.ref sn)])) _
    jvm_step X5.here [X5.here.top, hx, (hb hby ow19_22), X5.method', Bd.returns, Value.isRef, FieldType.isReference]
    first | (intro acts; rw [hr _ acts rfl rfl rfl]) | rw [hr _ _ rfl rfl rfl]
    exact Steps.refl _
  · show QS Z mm zs h0 n0 _ T5.heap _
    rw [eh5]
    exact ⟨_, _, _, rfl, sz_sn, N5, Kp5, fq5_0, fq5_1, fq5_2, fq5_3⟩
theorem own_ef_own_sub2e (m : MethodId) {x0 : Addr} {x1 : Int32} {x2 : Int32} : entryFrame m #[(.ref x0), (.int x1), (.int x2)] 5 = mkF m 0 #[rv x0, iv x1, iv x2, .unset, .unset] [] := by first | (simp [entryFrame, mkF, argsToLocals, Value.category, maxLocals]; done) | rfl
set_option maxRecDepth 65536 in
set_option maxHeartbeats 40000000 in
theorem own_sub2e (l : Launch) (Z : State) (a0 : Array Value) (hw : ∀ d ∈ tables_1, d.before a0 Z = true) (ws : List Jvm.Cond) (h0 : Heap) (n0 : Nat) (Z0 : n0 ≤ h0.size) (so ta : Addr) (kt : ClassId) (nn : Int32) (ys : List Value) (Eo : Exa Z h0 so "java/lang/String") (Fc : Fld Z h0 so "java/lang/String" "coder" "B" (.int (0 : Int32))) (Fv : Fld Z h0 so "java/lang/String" "value" "[B" (.ref ta)) (Vt : Arv Z h0 ta kt .byte nn ys (.int (0 : Int32))) (f : Int32) (f0 : ¬ f < (0 : Int32)) (fn : ¬ nn < f) (zs : List Value) (fz : ¬ f = (0 : Int32)) (hmm : (nn - f) = (0 : Int32)) (HN : MetFree l ym22 (head1 (Jvm.Cond.code ym22 jdk_43_method_47_code 3 (some (.object "java/lang/String")) :: []) rm1) (fun a U => a = #[(.ref ta), (.int f), (.int (0 : Int32))] ∧ Z.Warmed39 U.vm ∧ U.heap = h0 ∧ CHv Z consts_1 U.vm h0) (fun _ _ _ _ _ => True) (fun _ U o U' => ∃ v L, o = .returned v ∧ QE Z h0 n0 v U'.heap L ∧ ReturnedEndW U o U' L rm1.cells rm1.slots)) (zC : Int32) (S_CS : Sta Z h0 "java/lang/String" "COMPACT_STRINGS" "Z" (.int zC)) (P5 : ¬ (zC = (0 : Int32))) (vF : Value) (hvF : vF.category = 1) (S_F : Sta Z h0 "jdk/internal/util/Preconditions" "SIOOBE_FORMATTER" "Ljava/util/function/BiFunction;" vF) :
    MetFree l ym17 (head1 (Jvm.Cond.code ym17 jdk_42_method_92_code 5 (some (.object "java/lang/String")) :: ws) rm11) (fun a U => a = #[(.ref so), (.int f), (.int nn)] ∧ Z.Warmed39 U.vm ∧ U.heap = h0 ∧ CHv Z consts_1 U.vm h0) (fun _ _ _ _ _ => True) (fun _ U o U' => ∃ v L, o = .returned v ∧ QE Z h0 n0 v U'.heap L ∧ ReturnedEndW U o U' L rm11.cells rm11.slots) := by
  refine MetFree.of_bodySF (plainFor_of_name own_pn_java_lang_String) hisR ?_
  intro p e s m args below meth c s₁ Bd hml0 hP hK
  obtain ⟨rfl, hZ, hh, hC⟩ := hP
  have hx := Bd.exec
  have hby := Bd.bytes
  have hml : c.maxLocals = 5 := hml0
  have hown : s.vm.findClass "java/lang/String" = some m.cls := (findClass_of_methodNamed Bd.named :)
  have hnm := (name_of_methodNamed Bd.named Bd.method).1
  have X0 : Stand p l e rm11 (s.setVm s.vm) m #[(.ref so), (.int f), (.int nn)] below meth c s₁ [] 0 0 := Stand.of_body Bd
  have hZ : Z.Warmed39 (s.setVm s.vm).vm := hZ
  have hown : (s.setVm s.vm).vm.findClass "java/lang/String" = some m.cls := hown
  have hS : s.Since s.vm 0 := (State.WarmedH.refl s).since 0
  have hk : 0 ≤ h0.size := Nat.zero_le _
  have e0 : s₁.heap = h0 := by rw [← hh, Bd.state]; rfl
  have N0 := Fr.nil n0
  have pre0 : ∀ t, SP p e below s₁ (mkF m 0 #[rv so, iv f, iv nn, .unset, .unset] []) t → SP p e below s₁ (entryFrame m #[(.ref so), (.int f), (.int nn)] 5) t := fun t k => castTop (own_ef_own_sub2e m) k
  obtain ⟨cq1, kq1, qa1, qb1, qc1⟩ := isOf hZ e0 Eo
  obtain ⟨vv2, _, ⟨T2, L2, kk2, nn2⟩, -, X2, ⟨Lc2, hQ2, l2, y2, z2⟩, st2⟩ := X0.virtualBack hx (y := ym15) (z := ym15) hown (mvT hZ (own_wi hw 50 rfl)) (mvT hZ (own_wi hw 51 rfl)) (notFace_of_selects (args := #[]) (mvT hZ (own_wi hw 53 rfl))) (mvT hZ (own_wi hw 53 rfl)) (mvT hZ (own_wi hw 52 rfl)) (by decide) (backOf (W := 0) (own_ln l Z a0 hw [] h0 n0 (Nat.le_trans Z0 (Keep.refl h0 []).1) so ta kt nn ys Eo Fc Fv Vt zC S_CS P5) hZ (own_wi hw 54 rfl) (own_wi hw 11 rfl) (by decide) (by decide)) qa1 qc1 (g := (mkF m 1 #[rv so, iv f, iv nn, .unset, .unset] [(.ref so)])) rfl (by rw [hml]; rfl) (Steps.refl _) (argsL := []) (rest := []) (lenOf own_pd___I rfl) rfl (by show 2 * 0 + _ ≤ _; exact Nat.le_of_eq rfl) (hb hby ow17_1) (fun _ _ => ⟨rfl, e0, (by decide : 0 + 0 ≤ _), (by decide : 0 + 0 ≤ _)⟩)
  dsimp only [Pt.U, Pt.locs, Pt.cells, Pt.slots] at X2 l2 y2 z2 st2 hQ2
  subst l2 y2 z2
  obtain ⟨rfl, Nq2, e2⟩ := hQ2
  have N2 := Fr.app N0 Nq2
  have ch3 : ∀ t, SP p e below T2 (mkF m 4 #[rv so, iv f, iv nn, .unset, .unset] [(.int nn)]) t → SP p e below s₁ (entryFrame m #[(.ref so), (.int f), (.int nn)] 5) t := fun t k => pre0 t (by
      show SP p e below s₁ (mkF m 0 #[rv so, iv f, iv nn, .unset, .unset] []) t
      refine XS.aloadN X0.here hx rfl (hb hby ow17_0) rfl rfl ?_
      show SP p e below s₁ (mkF m 1 #[rv so, iv f, iv nn, .unset, .unset] [(.ref so)]) t
      exact st2.trans k)
  obtain ⟨vv4, _, ⟨T4, L4, kk4, nn4⟩, -, X4, ⟨Lc4, hQ4, l4, y4, z4⟩, st4⟩ := Jvm.LawKit.callS X2 hx (y := ym9) hown (mvT hZ (own_wi hw 97 rfl)) (mvT hZ (own_wi hw 98 rfl)) (mvT hZ (own_wi hw 11 rfl)) (mvT hZ (own_wi hw 99 rfl)) (by decide) (backOf (W := 0) (own_cbb l Z a0 hw [] h0 n0 (Nat.le_trans Z0 (Keep.refl h0 []).1) nn f f0 fn vF hvF S_F) hZ (own_wi hw 99 rfl) (own_wi hw 11 rfl) (by decide) (by decide)) (g := (mkF m 8 #[rv so, iv f, iv nn, iv nn, .unset] [(.int nn), (.int nn), (.int f)])) rfl (by rw [hml]; rfl) (argsL := [(.int f), (.int nn), (.int nn)]) (rest := []) (lenOf own_pd__III_V rfl) rfl (by show 2 * 0 + _ ≤ _; exact Nat.le_of_eq rfl) (hb hby ow17_8) (fun _ _ => ⟨rfl, e2, (by decide : 0 + 0 ≤ _), (by decide : 0 + 0 ≤ _)⟩)
  dsimp only [Pt.U, Pt.locs, Pt.cells, Pt.slots] at X4 l4 y4 z4 st4 hQ4
  subst l4 y4 z4
  obtain ⟨rfl, Nq4, e4⟩ := hQ4
  have N4 := Fr.app N2 Nq4
  have ch5 : ∀ t, SP p e below T4 (mkF m 11 #[rv so, iv f, iv nn, iv nn, .unset] []) t → SP p e below s₁ (entryFrame m #[(.ref so), (.int f), (.int nn)] 5) t := fun t k => ch3 t (by
      show SP p e below T2 (mkF m 4 #[rv so, iv f, iv nn, .unset, .unset] [(.int nn)]) t
      refine XS.istoreN X2.here hx rfl (hb hby ow17_4) rfl (l' := #[rv so, iv f, iv nn, iv nn, .unset]) rfl ?_
      refine XS.iloadN X2.here hx rfl (hb hby ow17_5) rfl ?_
      refine XS.iloadN X2.here hx rfl (hb hby ow17_6) rfl ?_
      refine XS.iloadN X2.here hx rfl (hb hby ow17_7) rfl ?_
      show SP p e below T2 (mkF m 8 #[rv so, iv f, iv nn, iv nn, .unset] [(.int nn), (.int nn), (.int f)]) t
      exact st4 t k)
  obtain ⟨cq6, kq6, qa6, qb6, qc6⟩ := isOf hZ e4 Eo
  obtain ⟨vv7, _, ⟨T7, L7, kk7, nn7⟩, -, X7, ⟨Lc7, hQ7, l7, y7, z7⟩, st7⟩ := X4.virtualBack hx (y := ym14) (z := ym14) hown (mvT hZ (own_wi hw 44 rfl)) (mvT hZ (own_wi hw 45 rfl)) (notFace_of_selects (args := #[]) (mvT hZ (own_wi hw 47 rfl))) (mvT hZ (own_wi hw 47 rfl)) (mvT hZ (own_wi hw 46 rfl)) (by decide) (backOf (W := 0) (own_isl l Z a0 hw [] h0 n0 (Nat.le_trans Z0 (Keep.refl h0 []).1) so Eo Fc zC S_CS P5) hZ (own_wi hw 48 rfl) (own_wi hw 11 rfl) (by decide) (by decide)) qa6 qc6 (g := (mkF m 28 #[rv so, iv f, iv nn, iv nn, iv 0] [(.ref so)])) rfl (by rw [hml]; rfl) (Steps.refl _) (argsL := []) (rest := []) (lenOf own_pd___Z rfl) rfl (by show 2 * 0 + _ ≤ _; exact Nat.le_of_eq rfl) (hb hby ow17_28) (fun _ _ => ⟨rfl, e4, (by decide : 0 + 0 ≤ _), (by decide : 0 + 0 ≤ _)⟩)
  dsimp only [Pt.U, Pt.locs, Pt.cells, Pt.slots] at X7 l7 y7 z7 st7 hQ7
  subst l7 y7 z7
  obtain ⟨rfl, Nq7, e7⟩ := hQ7
  have N7 := Fr.app N4 Nq7
  have ch8 : ∀ t, SP p e below T7 (mkF m 31 #[rv so, iv f, iv nn, iv nn, iv 0] [(.int (1 : Int32))]) t → SP p e below s₁ (entryFrame m #[(.ref so), (.int f), (.int nn)] 5) t := fun t k => ch5 t (by
      show SP p e below T4 (mkF m 11 #[rv so, iv f, iv nn, iv nn, .unset] []) t
      refine XS.iloadN X4.here hx rfl (hb hby ow17_11) rfl ?_
      refine XS.ifYes X4.here hx rfl (pc0 := 12) (pc' := 22) rfl (hb hby ow17_12) rfl ((if0 _ _).trans (feq fz).2) (by decide) (by decide) ?_
      refine XS.iloadN X4.here hx rfl (hb hby ow17_22) rfl ?_
      refine XS.iloadN X4.here hx rfl (hb hby ow17_23) rfl ?_
      show SP p e below T4 (mkF m 24 #[rv so, iv f, iv nn, iv nn, .unset] [(.int f), (.int nn)]) t
      refine XS.isub X4.here hx rfl (hb hby ow17_24) rfl ?_
      rw [hmm]
      refine XS.istore X4.here hx rfl (hb hby ow17_25) rfl (l' := #[rv so, iv f, iv nn, iv nn, iv 0]) rfl ?_
      refine XS.aloadN X4.here hx rfl (hb hby ow17_27) rfl rfl ?_
      show SP p e below T4 (mkF m 28 #[rv so, iv f, iv nn, iv nn, iv 0] [(.ref so)]) t
      exact st7.trans k)
  obtain ⟨T9, X9, e9, st9⟩ := getF X7 hx hZ hown (host := "") (Or.inl (own_wi hw 28 rfl)) Via.refl e7 Fv (g := (mkF m 35 #[rv so, iv f, iv nn, iv nn, iv 0] [(.ref so)])) rfl rfl (hb hby ow17_35)
  have ch10 : ∀ t, SP p e below T9 (mkF m 38 #[rv so, iv f, iv nn, iv nn, iv 0] [(.ref ta)]) t → SP p e below s₁ (entryFrame m #[(.ref so), (.int f), (.int nn)] 5) t := fun t k => ch8 t (by
      refine XS.ifNo X7.here hx rfl (hb hby ow17_31) rfl ((if0 _ _).trans (feq (by decide : ¬ (1 : Int32) = (0 : Int32))).1) ?_
      show SP p e below T7 (mkF m 34 #[rv so, iv f, iv nn, iv nn, iv 0] []) t
      refine XS.aloadN X7.here hx rfl (hb hby ow17_34) rfl rfl ?_
      show SP p e below T7 (mkF m 35 #[rv so, iv f, iv nn, iv nn, iv 0] [(.ref so)]) t
      exact st9 t k)
  have ch11 : ∀ t, SP p e below T9 (mkF m 41 #[rv so, iv f, iv nn, iv nn, iv 0] [(.int (0 : Int32)), (.int f), (.ref ta)]) t → SP p e below s₁ (entryFrame m #[(.ref so), (.int f), (.int nn)] 5) t := fun t k => ch10 t (by
      show SP p e below T9 (mkF m 38 #[rv so, iv f, iv nn, iv nn, iv 0] [(.ref ta)]) t
      refine XS.iloadN X9.here hx rfl (hb hby ow17_38) rfl ?_
      refine XS.iload X9.here hx rfl (hb hby ow17_39) rfl ?_
      exact k)
  obtain ⟨vv12, _, ⟨T12, L12, kk12, nn12⟩, -, X12, hS2, hgr, ⟨Lc12, hQ12, l12, y12, z12⟩, st12⟩ := Jvm.RoadKit.callSS X9 hx (y := ym22) hown (mvT hZ (own_wi hw 105 rfl)) (mvT hZ (own_wi hw 106 rfl)) (mvT hZ (own_wi hw 62 rfl)) (mvT hZ (own_wi hw 107 rfl)) (by decide) (own_backC (W := 0) HN hZ (own_wi hw 107 rfl) (own_wi hw 62 rfl) (by decide) (by decide) (own_EW hw) hC) (g := (mkF m 41 #[rv so, iv f, iv nn, iv nn, iv 0] [(.int (0 : Int32)), (.int f), (.ref ta)])) rfl (by rw [hml]; rfl) (argsL := [(.ref ta), (.int f), (.int (0 : Int32))]) (rest := []) (lenOf own_pd___BII_Ljava_lang_String_ rfl) rfl (by show 2 * 0 + _ ≤ _; exact Nat.le_of_eq rfl) (hb hby ow17_41) (fun _ _ => ⟨rfl, e9, (by decide : 0 + 2 ≤ _), (by decide : 0 + 4 ≤ _)⟩)
  dsimp only [Pt.U, Pt.locs, Pt.cells, Pt.slots] at X12 l12 y12 z12 st12 hQ12 hS2 hgr
  subst l12 y12 z12
  obtain ⟨X12, hS, hZ, hown⟩ := rebS hS (by rw [e9]; exact hk) X12 hS2 hgr hZ hown
  obtain ⟨hh12, eh12⟩ : ∃ h, T12.heap = h := ⟨_, rfl⟩
  rw [eh12] at hQ12
  rw [eh12] at hS
  have hk : hh12.size ≤ hh12.size := Nat.le_refl _
  obtain ⟨sn, tn, kn, rfl, Nq12, Kq12, fq12_0, fq12_1, fq12_2, fq12_3⟩ := hQ12
  have N12 := Fr.app N7 Nq12
  have Kp12 := Keep.trans (Keep.refl h0 []) Kq12 all0
  have ch13 : ∀ t, SP p e below T12 (mkF m 44 #[rv so, iv f, iv nn, iv nn, iv 0] [(.ref sn)]) t → SP p e below s₁ (entryFrame m #[(.ref so), (.int f), (.int nn)] 5) t := fun t k => ch11 t (by
      show SP p e below T9 (mkF m 41 #[rv so, iv f, iv nn, iv nn, iv 0] [(.int (0 : Int32)), (.int f), (.ref ta)]) t
      exact st12.trans k)
  have ch14 : ∀ t, SP p e below T12 (mkF m 57 #[rv so, iv f, iv nn, iv nn, iv 0] [(.ref sn)]) t → SP p e below s₁ (entryFrame m #[(.ref so), (.int f), (.int nn)] 5) t := fun t k => ch13 t (by
      show SP p e below T12 (mkF m 44 #[rv so, iv f, iv nn, iv nn, iv 0] [(.ref sn)]) t
      refine XS.goto X12.here hx rfl (pc0 := 44) (pc' := 57) rfl (hb hby ow17_44) (by decide) (by decide) ?_
      exact k)
  obtain ⟨fs, hr, hrun, hended, hend⟩ := X12.leaveW hS (by rw [eh12]; exact hk) (v := some (.ref sn)) (fun h => by rw [Bd.returns] at h; cases h)
  refine ⟨_, _, ch14 _ ?_, hrun, hended, _, _, rfl, ?_, hend.1, hend.2.1, hend.2.2.1, hend.2.2.2.mono (by decide) (by decide)⟩
  · show Steps p.tables e below (T12.setTop (mkF m 57 #[rv so, iv f, iv nn, iv nn, iv 0] [(.ref sn)])) _
    jvm_step X12.here [X12.here.top, hx, (hb hby ow17_57), X12.method', Bd.returns, Value.isRef, FieldType.isReference]
    first | (intro acts; rw [hr _ acts rfl rfl rfl]) | rw [hr _ _ rfl rfl rfl]
    exact Steps.refl _
  · show QE Z h0 n0 _ T12.heap _
    rw [eh12]
    exact ⟨_, _, _, rfl, N12, Kp12, fq12_0, fq12_1, fq12_2, fq12_3⟩
theorem own_ef_own_sub1e (m : MethodId) {x0 : Addr} {x1 : Int32} : entryFrame m #[(.ref x0), (.int x1)] 2 = mkF m 0 #[rv x0, iv x1] [] := by first | (simp [entryFrame, mkF, argsToLocals, Value.category, maxLocals]; done) | rfl
set_option maxRecDepth 65536 in
set_option maxHeartbeats 40000000 in
theorem own_sub1e (l : Launch) (Z : State) (a0 : Array Value) (hw : ∀ d ∈ tables_1, d.before a0 Z = true) (ws : List Jvm.Cond) (h0 : Heap) (n0 : Nat) (Z0 : n0 ≤ h0.size) (so ta : Addr) (kt : ClassId) (nn : Int32) (ys : List Value) (Eo : Exa Z h0 so "java/lang/String") (Fc : Fld Z h0 so "java/lang/String" "coder" "B" (.int (0 : Int32))) (Fv : Fld Z h0 so "java/lang/String" "value" "[B" (.ref ta)) (Vt : Arv Z h0 ta kt .byte nn ys (.int (0 : Int32))) (f : Int32) (f0 : ¬ f < (0 : Int32)) (fn : ¬ nn < f) (zs : List Value) (fz : ¬ f = (0 : Int32)) (hmm : (nn - f) = (0 : Int32)) (HN : MetFree l ym22 (head1 (Jvm.Cond.code ym22 jdk_43_method_47_code 3 (some (.object "java/lang/String")) :: []) rm1) (fun a U => a = #[(.ref ta), (.int f), (.int (0 : Int32))] ∧ Z.Warmed39 U.vm ∧ U.heap = h0 ∧ CHv Z consts_1 U.vm h0) (fun _ _ _ _ _ => True) (fun _ U o U' => ∃ v L, o = .returned v ∧ QE Z h0 n0 v U'.heap L ∧ ReturnedEndW U o U' L rm1.cells rm1.slots)) (zC : Int32) (S_CS : Sta Z h0 "java/lang/String" "COMPACT_STRINGS" "Z" (.int zC)) (P5 : ¬ (zC = (0 : Int32))) (vF : Value) (hvF : vF.category = 1) (S_F : Sta Z h0 "jdk/internal/util/Preconditions" "SIOOBE_FORMATTER" "Ljava/util/function/BiFunction;" vF) :
    MetFree l ym16 (head1 (Jvm.Cond.code ym16 jdk_42_method_91_code 2 (some (.object "java/lang/String")) :: ws) rm15) (fun a U => a = #[(.ref so), (.int f)] ∧ Z.Warmed39 U.vm ∧ U.heap = h0 ∧ CHv Z consts_1 U.vm h0) (fun _ _ _ _ _ => True) (fun _ U o U' => ∃ v L, o = .returned v ∧ QE Z h0 n0 v U'.heap L ∧ ReturnedEndW U o U' L rm15.cells rm15.slots) := by
  refine MetFree.of_bodySF (plainFor_of_name own_pn_java_lang_String) hisR ?_
  intro p e s m args below meth c s₁ Bd hml0 hP hK
  obtain ⟨rfl, hZ, hh, hC⟩ := hP
  have hx := Bd.exec
  have hby := Bd.bytes
  have hml : c.maxLocals = 2 := hml0
  have hown : s.vm.findClass "java/lang/String" = some m.cls := (findClass_of_methodNamed Bd.named :)
  have hnm := (name_of_methodNamed Bd.named Bd.method).1
  have X0 : Stand p l e rm15 (s.setVm s.vm) m #[(.ref so), (.int f)] below meth c s₁ [] 0 0 := Stand.of_body Bd
  have hZ : Z.Warmed39 (s.setVm s.vm).vm := hZ
  have hown : (s.setVm s.vm).vm.findClass "java/lang/String" = some m.cls := hown
  have hS : s.Since s.vm 0 := (State.WarmedH.refl s).since 0
  have hk : 0 ≤ h0.size := Nat.zero_le _
  have e0 : s₁.heap = h0 := by rw [← hh, Bd.state]; rfl
  have N0 := Fr.nil n0
  have pre0 : ∀ t, SP p e below s₁ (mkF m 0 #[rv so, iv f] []) t → SP p e below s₁ (entryFrame m #[(.ref so), (.int f)] 2) t := fun t k => castTop (own_ef_own_sub1e m) k
  obtain ⟨cq1, kq1, qa1, qb1, qc1⟩ := isOf hZ e0 Eo
  obtain ⟨vv2, _, ⟨T2, L2, kk2, nn2⟩, -, X2, ⟨Lc2, hQ2, l2, y2, z2⟩, st2⟩ := X0.virtualBack hx (y := ym15) (z := ym15) hown (mvT hZ (own_wi hw 50 rfl)) (mvT hZ (own_wi hw 51 rfl)) (notFace_of_selects (args := #[]) (mvT hZ (own_wi hw 53 rfl))) (mvT hZ (own_wi hw 53 rfl)) (mvT hZ (own_wi hw 52 rfl)) (by decide) (backOf (W := 2) (own_ln l Z a0 hw [] h0 n0 (Nat.le_trans Z0 (Keep.refl h0 []).1) so ta kt nn ys Eo Fc Fv Vt zC S_CS P5) hZ (own_wi hw 54 rfl) (own_wi hw 11 rfl) (by decide) (by decide)) qa1 qc1 (g := (mkF m 3 #[rv so, iv f] [(.ref so), (.int f), (.ref so)])) rfl (by rw [hml]; rfl) (Steps.refl _) (argsL := []) (rest := [(.int f), (.ref so)]) (lenOf own_pd___I rfl) rfl (by show 2 * 0 + _ ≤ _; exact Nat.le_of_eq rfl) (hb hby ow18_3) (fun _ _ => ⟨rfl, e0, (by decide : 0 + 0 ≤ _), (by decide : 0 + 0 ≤ _)⟩)
  dsimp only [Pt.U, Pt.locs, Pt.cells, Pt.slots] at X2 l2 y2 z2 st2 hQ2
  subst l2 y2 z2
  obtain ⟨rfl, Nq2, e2⟩ := hQ2
  have N2 := Fr.app N0 Nq2
  have ch3 : ∀ t, SP p e below T2 (mkF m 6 #[rv so, iv f] [(.int nn), (.int f), (.ref so)]) t → SP p e below s₁ (entryFrame m #[(.ref so), (.int f)] 2) t := fun t k => pre0 t (by
      show SP p e below s₁ (mkF m 0 #[rv so, iv f] []) t
      refine XS.aloadN X0.here hx rfl (hb hby ow18_0) rfl rfl ?_
      refine XS.iloadN X0.here hx rfl (hb hby ow18_1) rfl ?_
      refine XS.aloadN X0.here hx rfl (hb hby ow18_2) rfl rfl ?_
      show SP p e below s₁ (mkF m 3 #[rv so, iv f] [(.ref so), (.int f), (.ref so)]) t
      exact st2.trans k)
  obtain ⟨cq4, kq4, qa4, qb4, qc4⟩ := isOf hZ e2 Eo
  obtain ⟨vv5, _, ⟨T5, L5, kk5, nn5⟩, -, X5, hS2, hgr, ⟨Lc5, hQ5, l5, y5, z5⟩, st5⟩ := X2.virtualBackS hx (y := ym17) (z := ym17) hown (mvT hZ (own_wi hw 92 rfl)) (mvT hZ (own_wi hw 93 rfl)) (notFace_of_selects (args := #[]) (mvT hZ (own_wi hw 95 rfl))) (mvT hZ (own_wi hw 95 rfl)) (mvT hZ (own_wi hw 94 rfl)) (by decide) (own_backC (W := 0) (own_sub2e l Z a0 hw [] h0 n0 (Nat.le_trans Z0 (Keep.refl h0 []).1) so ta kt nn ys Eo Fc Fv Vt f f0 fn zs fz hmm HN zC S_CS P5 vF hvF S_F) hZ (own_wi hw 96 rfl) (own_wi hw 11 rfl) (by decide) (by decide) (own_EW hw) hC) qa4 qc4 (g := (mkF m 6 #[rv so, iv f] [(.int nn), (.int f), (.ref so)])) rfl (by rw [hml]; rfl) (Steps.refl _) (argsL := [(.int f), (.int nn)]) (rest := []) (lenOf own_pd__II_Ljava_lang_String_ rfl) rfl (by show 2 * 0 + _ ≤ _; exact Nat.le_of_eq rfl) (hb hby ow18_6) (fun _ _ => ⟨rfl, e2, (by decide : 0 + 2 ≤ _), (by decide : 0 + 4 ≤ _)⟩)
  dsimp only [Pt.U, Pt.locs, Pt.cells, Pt.slots] at X5 l5 y5 z5 st5 hQ5 hS2 hgr
  subst l5 y5 z5
  obtain ⟨X5, hS, hZ, hown⟩ := rebS hS (by rw [e2]; exact hk) X5 hS2 hgr hZ hown
  obtain ⟨hh5, eh5⟩ : ∃ h, T5.heap = h := ⟨_, rfl⟩
  rw [eh5] at hQ5
  rw [eh5] at hS
  have hk : hh5.size ≤ hh5.size := Nat.le_refl _
  obtain ⟨sn, tn, kn, rfl, Nq5, Kq5, fq5_0, fq5_1, fq5_2, fq5_3⟩ := hQ5
  have N5 := Fr.app N2 Nq5
  have Kp5 := Keep.trans (Keep.refl h0 []) Kq5 all0
  have ch6 : ∀ t, SP p e below T5 (mkF m 9 #[rv so, iv f] [(.ref sn)]) t → SP p e below s₁ (entryFrame m #[(.ref so), (.int f)] 2) t := fun t k => ch3 t (by
      show SP p e below T2 (mkF m 6 #[rv so, iv f] [(.int nn), (.int f), (.ref so)]) t
      exact st5.trans k)
  obtain ⟨fs, hr, hrun, hended, hend⟩ := X5.leaveW hS (by rw [eh5]; exact hk) (v := some (.ref sn)) (fun h => by rw [Bd.returns] at h; cases h)
  refine ⟨_, _, ch6 _ ?_, hrun, hended, _, _, rfl, ?_, hend.1, hend.2.1, hend.2.2.1, hend.2.2.2.mono (by decide) (by decide)⟩
  · show Steps p.tables e below (T5.setTop (mkF m 9 #[rv so, iv f] [(.ref sn)])) _
    jvm_step X5.here [X5.here.top, hx, (hb hby ow18_9), X5.method', Bd.returns, Value.isRef, FieldType.isReference]
    first | (intro acts; rw [hr _ acts rfl rfl rfl]) | rw [hr _ _ rfl rfl rfl]
    exact Steps.refl _
  · show QE Z h0 n0 _ T5.heap _
    rw [eh5]
    exact ⟨_, _, _, rfl, N5, Kp5, fq5_0, fq5_1, fq5_2, fq5_3⟩
theorem own_ef_own_frage (m : MethodId) {x0 : Addr} : entryFrame m #[(.ref x0)] 2 = mkF m 0 #[rv x0, .unset] [] := by first | (simp [entryFrame, mkF, argsToLocals, Value.category, maxLocals]; done) | rfl
set_option maxRecDepth 65536 in
set_option maxHeartbeats 40000000 in
theorem own_frage (l : Launch) (Z : State) (a0 : Array Value) (hw : ∀ d ∈ tables_1, d.before a0 Z = true) (ws : List Jvm.Cond) (h0 : Heap) (n0 : Nat) (Z0 : n0 ≤ h0.size) (so ta : Addr) (kt : ClassId) (nn : Int32) (ys : List Value) (Eo : Exa Z h0 so "java/lang/String") (Fc : Fld Z h0 so "java/lang/String" "coder" "B" (.int (0 : Int32))) (Fv : Fld Z h0 so "java/lang/String" "value" "[B" (.ref ta)) (Vt : Arv Z h0 ta kt .byte nn ys (.int (0 : Int32))) (rr f : Int32) (rp : ¬ rr < (0 : Int32)) (hrf : (rr + (1 : Int32)) = f) (zs : List Value) (HI : MetFree l ym12 (head1 (Jvm.Cond.code ym12 jdk_42_method_79_code 2 (some .int) :: []) rm13) (fun a U => a = #[(.ref so), (.int (35 : Int32))] ∧ Z.Warmed39 U.vm ∧ U.heap = h0) (fun _ _ _ _ _ => True) (fun _ U o U' => ∃ v L, o = .returned v ∧ QV (some (.int rr)) h0 n0 v U'.heap L ∧ FrameEnd U o U' L rm13.cells rm13.slots)) (HS : MetFree l ym16 (head1 (Jvm.Cond.code ym16 jdk_42_method_91_code 2 (some (.object "java/lang/String")) :: []) rm15) (fun a U => a = #[(.ref so), (.int f)] ∧ Z.Warmed39 U.vm ∧ U.heap = h0 ∧ CHv Z consts_1 U.vm h0) (fun _ _ _ _ _ => True) (fun _ U o U' => ∃ v L, o = .returned v ∧ QE Z h0 n0 v U'.heap L ∧ ReturnedEndW U o U' L rm15.cells rm15.slots)) :
    MetFree l ym0 (head1 (Jvm.Cond.code ym0 prog_28_method_4_code 2 (some (.object "java/lang/String")) :: ws) rm18) (fun a U => a = #[(.ref so)] ∧ Z.Warmed39 U.vm ∧ U.heap = h0 ∧ CHv Z consts_1 U.vm h0) (fun _ _ _ _ _ => True) (fun _ U o U' => ∃ v L, o = .returned v ∧ QE Z h0 n0 v U'.heap L ∧ ReturnedEndW U o U' L rm18.cells rm18.slots) := by
  refine MetFree.of_bodySF (plainFor_of_name own_pn_com_example_leafwright_leafwright_References) hisR ?_
  intro p e s m args below meth c s₁ Bd hml0 hP hK
  obtain ⟨rfl, hZ, hh, hC⟩ := hP
  have hx := Bd.exec
  have hby := Bd.bytes
  have hml : c.maxLocals = 2 := hml0
  have hown : s.vm.findClass "com/example/leafwright/leafwright/References" = some m.cls := (findClass_of_methodNamed Bd.named :)
  have hnm := (name_of_methodNamed Bd.named Bd.method).1
  have X0 : Stand p l e rm18 (s.setVm s.vm) m #[(.ref so)] below meth c s₁ [] 0 0 := Stand.of_body Bd
  have hZ : Z.Warmed39 (s.setVm s.vm).vm := hZ
  have hown : (s.setVm s.vm).vm.findClass "com/example/leafwright/leafwright/References" = some m.cls := hown
  have hS : s.Since s.vm 0 := (State.WarmedH.refl s).since 0
  have hk : 0 ≤ h0.size := Nat.zero_le _
  have e0 : s₁.heap = h0 := by rw [← hh, Bd.state]; rfl
  have N0 := Fr.nil n0
  have pre0 : ∀ t, SP p e below s₁ (mkF m 0 #[rv so, .unset] []) t → SP p e below s₁ (entryFrame m #[(.ref so)] 2) t := fun t k => castTop (own_ef_own_frage m) k
  obtain ⟨cq1, kq1, qa1, qb1, qc1⟩ := isOf hZ e0 Eo
  obtain ⟨vv2, _, ⟨T2, L2, kk2, nn2⟩, -, X2, ⟨Lc2, hQ2, l2, y2, z2⟩, st2⟩ := X0.virtualBack hx (y := ym12) (z := ym12) hown (mvT hZ (own_wi hw 34 rfl)) (mvT hZ (own_wi hw 35 rfl)) (notFace_of_selects (args := #[]) (mvT hZ (own_wi hw 37 rfl))) (mvT hZ (own_wi hw 37 rfl)) (mvT hZ (own_wi hw 36 rfl)) (by decide) (backOf (W := 0) HI hZ (own_wi hw 38 rfl) (own_wi hw 11 rfl) (by decide) (by decide)) qa1 qc1 (g := (mkF m 3 #[rv so, .unset] [(.int (35 : Int32)), (.ref so)])) rfl (by rw [hml]; rfl) (Steps.refl _) (argsL := [(.int (35 : Int32))]) (rest := []) (lenOf own_pd__I_I rfl) rfl (by show 2 * 0 + _ ≤ _; exact Nat.le_of_eq rfl) (hb hby ow19_3) (fun _ _ => ⟨rfl, e0, (by decide : 0 + 0 ≤ _), (by decide : 0 + 0 ≤ _)⟩)
  dsimp only [Pt.U, Pt.locs, Pt.cells, Pt.slots] at X2 l2 y2 z2 st2 hQ2
  subst l2 y2 z2
  obtain ⟨rfl, Nq2, e2⟩ := hQ2
  have N2 := Fr.app N0 Nq2
  have ch3 : ∀ t, SP p e below T2 (mkF m 6 #[rv so, .unset] [(.int rr)]) t → SP p e below s₁ (entryFrame m #[(.ref so)] 2) t := fun t k => pre0 t (by
      show SP p e below s₁ (mkF m 0 #[rv so, .unset] []) t
      refine XS.aloadN X0.here hx rfl (hb hby ow19_0) rfl rfl ?_
      refine XS.bipush X0.here hx rfl (hb hby ow19_1) ?_
      show SP p e below s₁ (mkF m 3 #[rv so, .unset] [(.int (35 : Int32)), (.ref so)]) t
      exact st2.trans k)
  have ch4 : ∀ t, SP p e below T2 (mkF m 19 #[rv so, iv rr] [(.int f), (.ref so)]) t → SP p e below s₁ (entryFrame m #[(.ref so)] 2) t := fun t k => ch3 t (by
      show SP p e below T2 (mkF m 6 #[rv so, .unset] [(.int rr)]) t
      refine XS.istoreN X2.here hx rfl (hb hby ow19_6) rfl (l' := #[rv so, iv rr]) rfl ?_
      refine XS.iloadN X2.here hx rfl (hb hby ow19_7) rfl ?_
      refine XS.ifYes X2.here hx rfl (pc0 := 8) (pc' := 15) rfl (hb hby ow19_8) rfl ((if0 _ _).trans (flt rp).2.1) (by decide) (by decide) ?_
      refine XS.aloadN X2.here hx rfl (hb hby ow19_15) rfl rfl ?_
      refine XS.iloadN X2.here hx rfl (hb hby ow19_16) rfl ?_
      refine XS.iconst X2.here hx rfl (hb hby ow19_17) ?_
      show SP p e below T2 (mkF m 18 #[rv so, iv rr] [(.int (1 : Int32)), (.int rr), (.ref so)]) t
      refine XS.iadd X2.here hx rfl (hb hby ow19_18) rfl ?_
      rw [hrf]
      exact k)
  obtain ⟨cq5, kq5, qa5, qb5, qc5⟩ := isOf hZ e2 Eo
  obtain ⟨vv6, _, ⟨T6, L6, kk6, nn6⟩, -, X6, hS2, hgr, ⟨Lc6, hQ6, l6, y6, z6⟩, st6⟩ := X2.virtualBackS hx (y := ym16) (z := ym16) hown (mvT hZ (own_wi hw 87 rfl)) (mvT hZ (own_wi hw 88 rfl)) (notFace_of_selects (args := #[]) (mvT hZ (own_wi hw 90 rfl))) (mvT hZ (own_wi hw 90 rfl)) (mvT hZ (own_wi hw 89 rfl)) (by decide) (own_backC (W := 0) HS hZ (own_wi hw 91 rfl) (own_wi hw 11 rfl) (by decide) (by decide) (own_EW hw) hC) qa5 qc5 (g := (mkF m 19 #[rv so, iv rr] [(.int f), (.ref so)])) rfl (by rw [hml]; rfl) (Steps.refl _) (argsL := [(.int f)]) (rest := []) (lenOf own_pd__I_Ljava_lang_String_ rfl) rfl (by show 2 * 0 + _ ≤ _; exact Nat.le_of_eq rfl) (hb hby ow19_19) (fun _ _ => ⟨rfl, e2, (by decide : 0 + 2 ≤ _), (by decide : 0 + 4 ≤ _)⟩)
  dsimp only [Pt.U, Pt.locs, Pt.cells, Pt.slots] at X6 l6 y6 z6 st6 hQ6 hS2 hgr
  subst l6 y6 z6
  obtain ⟨X6, hS, hZ, hown⟩ := rebS hS (by rw [e2]; exact hk) X6 hS2 hgr hZ hown
  obtain ⟨hh6, eh6⟩ : ∃ h, T6.heap = h := ⟨_, rfl⟩
  rw [eh6] at hQ6
  rw [eh6] at hS
  have hk : hh6.size ≤ hh6.size := Nat.le_refl _
  obtain ⟨sn, tn, kn, rfl, Nq6, Kq6, fq6_0, fq6_1, fq6_2, fq6_3⟩ := hQ6
  have N6 := Fr.app N2 Nq6
  have Kp6 := Keep.trans (Keep.refl h0 []) Kq6 all0
  have ch7 : ∀ t, SP p e below T6 (mkF m 22 #[rv so, iv rr] [(.ref sn)]) t → SP p e below s₁ (entryFrame m #[(.ref so)] 2) t := fun t k => ch4 t (by
      show SP p e below T2 (mkF m 19 #[rv so, iv rr] [(.int f), (.ref so)]) t
      exact st6.trans k)
  obtain ⟨fs, hr, hrun, hended, hend⟩ := X6.leaveW hS (by rw [eh6]; exact hk) (v := some (.ref sn)) (fun h => by rw [Bd.returns] at h; cases h)
  refine ⟨_, _, ch7 _ ?_, hrun, hended, _, _, rfl, ?_, hend.1, hend.2.1, hend.2.2.1, hend.2.2.2.mono (by decide) (by decide)⟩
  · show Steps p.tables e below (T6.setTop (mkF m 22 #[rv so, iv rr] [(.ref sn)])) _
    jvm_step X6.here [X6.here.top, hx, (hb hby ow19_22), X6.method', Bd.returns, Value.isRef, FieldType.isReference]
    first | (intro acts; rw [hr _ acts rfl rfl rfl]) | rw [hr _ _ rfl rfl rfl]
    exact Steps.refl _
  · show QE Z h0 n0 _ T6.heap _
    rw [eh6]
    exact ⟨_, _, _, rfl, N6, Kp6, fq6_0, fq6_1, fq6_2, fq6_3⟩
theorem own_ef_own_fragn (m : MethodId) {x0 : Addr} : entryFrame m #[(.ref x0)] 2 = mkF m 0 #[rv x0, .unset] [] := by first | (simp [entryFrame, mkF, argsToLocals, Value.category, maxLocals]; done) | rfl
set_option maxRecDepth 65536 in
set_option maxHeartbeats 40000000 in
theorem own_fragn (l : Launch) (Z : State) (a0 : Array Value) (hw : ∀ d ∈ tables_1, d.before a0 Z = true) (ws : List Jvm.Cond) (h0 : Heap) (n0 : Nat) (Z0 : n0 ≤ h0.size) (so ta : Addr) (kt : ClassId) (nn : Int32) (ys : List Value) (Eo : Exa Z h0 so "java/lang/String") (Fc : Fld Z h0 so "java/lang/String" "coder" "B" (.int (0 : Int32))) (Fv : Fld Z h0 so "java/lang/String" "value" "[B" (.ref ta)) (Vt : Arv Z h0 ta kt .byte nn ys (.int (0 : Int32))) (HI : MetFree l ym12 (head1 (Jvm.Cond.code ym12 jdk_42_method_79_code 2 (some .int) :: []) rm13) (fun a U => a = #[(.ref so), (.int (35 : Int32))] ∧ Z.Warmed39 U.vm ∧ U.heap = h0) (fun _ _ _ _ _ => True) (fun _ U o U' => ∃ v L, o = .returned v ∧ QV (some (.int (-1 : Int32))) h0 n0 v U'.heap L ∧ FrameEnd U o U' L rm13.cells rm13.slots)) :
    MetFree l ym0 (head1 (Jvm.Cond.code ym0 prog_28_method_4_code 2 (some (.object "java/lang/String")) :: ws) rm17) (fun a U => a = #[(.ref so)] ∧ Z.Warmed39 U.vm ∧ U.heap = h0) (fun _ _ _ _ _ => True) (fun _ U o U' => ∃ v L, o = .returned v ∧ QV (some .null) h0 n0 v U'.heap L ∧ FrameEnd U o U' L rm17.cells rm17.slots) := by
  refine MetFree.of_bodySF (plainFor_of_name own_pn_com_example_leafwright_leafwright_References) hisR ?_
  intro p e s m args below meth c s₁ Bd hml0 hP hK
  obtain ⟨rfl, hZ, hh⟩ := hP
  have hx := Bd.exec
  have hby := Bd.bytes
  have hml : c.maxLocals = 2 := hml0
  have hown : s.vm.findClass "com/example/leafwright/leafwright/References" = some m.cls := (findClass_of_methodNamed Bd.named :)
  have hnm := (name_of_methodNamed Bd.named Bd.method).1
  have X0 : Stand p l e rm17 s m #[(.ref so)] below meth c s₁ [] 0 0 := Stand.of_body Bd
  have e0 : s₁.heap = h0 := by rw [← hh, Bd.state]; rfl
  have N0 := Fr.nil n0
  have pre0 : ∀ t, SP p e below s₁ (mkF m 0 #[rv so, .unset] []) t → SP p e below s₁ (entryFrame m #[(.ref so)] 2) t := fun t k => castTop (own_ef_own_fragn m) k
  obtain ⟨cq1, kq1, qa1, qb1, qc1⟩ := isOf hZ e0 Eo
  obtain ⟨vv2, _, ⟨T2, L2, kk2, nn2⟩, -, X2, ⟨Lc2, hQ2, l2, y2, z2⟩, st2⟩ := X0.virtualBack hx (y := ym12) (z := ym12) hown (mvT hZ (own_wi hw 34 rfl)) (mvT hZ (own_wi hw 35 rfl)) (notFace_of_selects (args := #[]) (mvT hZ (own_wi hw 37 rfl))) (mvT hZ (own_wi hw 37 rfl)) (mvT hZ (own_wi hw 36 rfl)) (by decide) (backOf (W := 0) HI hZ (own_wi hw 38 rfl) (own_wi hw 11 rfl) (by decide) (by decide)) qa1 qc1 (g := (mkF m 3 #[rv so, .unset] [(.int (35 : Int32)), (.ref so)])) rfl (by rw [hml]; rfl) (Steps.refl _) (argsL := [(.int (35 : Int32))]) (rest := []) (lenOf own_pd__I_I rfl) rfl (by show 2 * 0 + _ ≤ _; exact Nat.le_of_eq rfl) (hb hby ow19_3) (fun _ _ => ⟨rfl, e0, (by decide : 0 + 0 ≤ _), (by decide : 0 + 0 ≤ _)⟩)
  dsimp only [Pt.U, Pt.locs, Pt.cells, Pt.slots] at X2 l2 y2 z2 st2 hQ2
  subst l2 y2 z2
  obtain ⟨rfl, Nq2, e2⟩ := hQ2
  have N2 := Fr.app N0 Nq2
  have ch3 : ∀ t, SP p e below T2 (mkF m 6 #[rv so, .unset] [(.int (-1 : Int32))]) t → SP p e below s₁ (entryFrame m #[(.ref so)] 2) t := fun t k => pre0 t (by
      show SP p e below s₁ (mkF m 0 #[rv so, .unset] []) t
      refine XS.aloadN X0.here hx rfl (hb hby ow19_0) rfl rfl ?_
      refine XS.bipush X0.here hx rfl (hb hby ow19_1) ?_
      show SP p e below s₁ (mkF m 3 #[rv so, .unset] [(.int (35 : Int32)), (.ref so)]) t
      exact st2.trans k)
  have ch4 : ∀ t, SP p e below T2 (mkF m 22 #[rv so, iv (-1)] [.null]) t → SP p e below s₁ (entryFrame m #[(.ref so)] 2) t := fun t k => ch3 t (by
      show SP p e below T2 (mkF m 6 #[rv so, .unset] [(.int (-1 : Int32))]) t
      refine XS.istoreN X2.here hx rfl (hb hby ow19_6) rfl (l' := #[rv so, iv (-1)]) rfl ?_
      refine XS.iloadN X2.here hx rfl (hb hby ow19_7) rfl ?_
      refine XS.ifNo X2.here hx rfl (hb hby ow19_8) rfl ((if0 _ _).trans (tlt (by decide : (-1 : Int32) < (0 : Int32))).2.1) ?_
      refine XS.aconstNull X2.here hx rfl (hb hby ow19_11) ?_
      refine XS.goto X2.here hx rfl (pc0 := 12) (pc' := 22) rfl (hb hby ow19_12) (by decide) (by decide) ?_
      exact k)
  obtain ⟨fs, hr, hrun, hended, hW, hsame⟩ := X2.leave (v := some .null) (fun h => by rw [Bd.returns] at h; cases h)
  refine ⟨_, _, ch4 _ ?_, hrun, hended, _, _, rfl, ?_, ⟨_, rfl⟩, hW, hsame.mono (by decide) (by decide)⟩
  · show Steps p.tables e below (T2.setTop (mkF m 22 #[rv so, iv (-1)] [.null])) _
    jvm_step X2.here [X2.here.top, hx, (hb hby ow19_22), X2.method', Bd.returns, Value.isRef, FieldType.isReference]
    first | (intro acts; rw [hr _ acts rfl rfl rfl]) | rw [hr _ _ rfl rfl rfl]
    exact Steps.refl _
  · show QV (some .null) h0 n0 _ T2.heap _
    rw [e2]
    exact ⟨rfl, N2, rfl⟩
theorem own_fr_0n (l : Launch) (Z : State) (a0 : Array Value) (hw : ∀ d ∈ tables_1, d.before a0 Z = true) (h0 : Heap) (n0 : Nat) (Z0 : n0 ≤ h0.size) (so ta : Addr) (kt : ClassId) (Eo : Exa Z h0 so "java/lang/String") (Fc : Fld Z h0 so "java/lang/String" "coder" "B" (.int (0 : Int32))) (Fv : Fld Z h0 so "java/lang/String" "value" "[B" (.ref ta)) (Vt : Arv Z h0 ta kt .byte (0 : Int32) [] (.int (0 : Int32))) (zC : Int32) (S_CS : Sta Z h0 "java/lang/String" "COMPACT_STRINGS" "Z" (.int zC)) (P5 : ¬ (zC = (0 : Int32))) (vF : Value) (hvF : vF.category = 1) (S_F : Sta Z h0 "jdk/internal/util/Preconditions" "SIOOBE_FORMATTER" "Ljava/util/function/BiFunction;" vF) : MetFree l ym0 (head1 (Jvm.Cond.code ym0 prog_28_method_4_code 2 (some (.object "java/lang/String")) :: []) rm17) (fun a U => a = #[(.ref so)] ∧ Z.Warmed39 U.vm ∧ U.heap = h0) (fun _ _ _ _ _ => True) (fun _ U o U' => ∃ v L, o = .returned v ∧ QV (some .null) h0 n0 v U'.heap L ∧ FrameEnd U o U' L rm17.cells rm17.slots) := own_fragn l Z a0 hw [] h0 n0 Z0 so ta kt (0 : Int32) [] Eo Fc Fv Vt (own_iof1 l Z a0 hw [] h0 n0 Z0 so ta kt (0 : Int32) [] Eo Fc Fv Vt (-1 : Int32) (own_l1i_z l Z a0 hw [] h0 n0 Z0 ta kt Vt) zC S_CS P5)
theorem own_fr_1n (l : Launch) (Z : State) (a0 : Array Value) (hw : ∀ d ∈ tables_1, d.before a0 Z = true) (h0 : Heap) (n0 : Nat) (Z0 : n0 ≤ h0.size) (so ta : Addr) (kt : ClassId) (bz0 : Int32) (Eo : Exa Z h0 so "java/lang/String") (Fc : Fld Z h0 so "java/lang/String" "coder" "B" (.int (0 : Int32))) (Fv : Fld Z h0 so "java/lang/String" "value" "[B" (.ref ta)) (Vt : Arv Z h0 ta kt .byte (1 : Int32) [(.int bz0)] (.int (0 : Int32))) (q0 : ¬ bz0 = (35 : Int32)) (zC : Int32) (S_CS : Sta Z h0 "java/lang/String" "COMPACT_STRINGS" "Z" (.int zC)) (P5 : ¬ (zC = (0 : Int32))) (vF : Value) (hvF : vF.category = 1) (S_F : Sta Z h0 "jdk/internal/util/Preconditions" "SIOOBE_FORMATTER" "Ljava/util/function/BiFunction;" vF) : MetFree l ym0 (head1 (Jvm.Cond.code ym0 prog_28_method_4_code 2 (some (.object "java/lang/String")) :: []) rm17) (fun a U => a = #[(.ref so)] ∧ Z.Warmed39 U.vm ∧ U.heap = h0) (fun _ _ _ _ _ => True) (fun _ U o U' => ∃ v L, o = .returned v ∧ QV (some .null) h0 n0 v U'.heap L ∧ FrameEnd U o U' L rm17.cells rm17.slots) := own_fragn l Z a0 hw [] h0 n0 Z0 so ta kt (1 : Int32) [(.int bz0)] Eo Fc Fv Vt (own_iof1 l Z a0 hw [] h0 n0 Z0 so ta kt (1 : Int32) [(.int bz0)] Eo Fc Fv Vt (-1 : Int32) (own_l1i l Z a0 hw [] h0 n0 Z0 ta kt (1 : Int32) [(.int bz0)] Vt (-1 : Int32) (by decide) (own_ioc_1 l Z a0 hw [] h0 n0 Z0 ta kt bz0 Vt (-1 : Int32) (by rw [if_neg q0]))) zC S_CS P5)
theorem own_fr_10 (l : Launch) (Z : State) (a0 : Array Value) (hw : ∀ d ∈ tables_1, d.before a0 Z = true) (h0 : Heap) (n0 : Nat) (Z0 : n0 ≤ h0.size) (so ta : Addr) (kt : ClassId) (bz0 : Int32) (Eo : Exa Z h0 so "java/lang/String") (Fc : Fld Z h0 so "java/lang/String" "coder" "B" (.int (0 : Int32))) (Fv : Fld Z h0 so "java/lang/String" "value" "[B" (.ref ta)) (Vt : Arv Z h0 ta kt .byte (1 : Int32) [(.int bz0)] (.int (0 : Int32))) (q0 : bz0 = (35 : Int32)) (zC : Int32) (S_CS : Sta Z h0 "java/lang/String" "COMPACT_STRINGS" "Z" (.int zC)) (P5 : ¬ (zC = (0 : Int32))) (vF : Value) (hvF : vF.category = 1) (S_F : Sta Z h0 "jdk/internal/util/Preconditions" "SIOOBE_FORMATTER" "Ljava/util/function/BiFunction;" vF) : MetFree l ym0 (head1 (Jvm.Cond.code ym0 prog_28_method_4_code 2 (some (.object "java/lang/String")) :: []) rm18) (fun a U => a = #[(.ref so)] ∧ Z.Warmed39 U.vm ∧ U.heap = h0 ∧ CHv Z consts_1 U.vm h0) (fun _ _ _ _ _ => True) (fun _ U o U' => ∃ v L, o = .returned v ∧ QE Z h0 n0 v U'.heap L ∧ ReturnedEndW U o U' L rm18.cells rm18.slots) := own_frage l Z a0 hw [] h0 n0 Z0 so ta kt (1 : Int32) [(.int bz0)] Eo Fc Fv Vt (0 : Int32) (1 : Int32) (by decide) (by decide) [] (own_iof1 l Z a0 hw [] h0 n0 Z0 so ta kt (1 : Int32) [(.int bz0)] Eo Fc Fv Vt (0 : Int32) (own_l1i l Z a0 hw [] h0 n0 Z0 ta kt (1 : Int32) [(.int bz0)] Vt (0 : Int32) (by decide) (own_ioc_1 l Z a0 hw [] h0 n0 Z0 ta kt bz0 Vt (0 : Int32) (by rw [if_pos q0]))) zC S_CS P5) (own_sub1e l Z a0 hw [] h0 n0 Z0 so ta kt (1 : Int32) [(.int bz0)] Eo Fc Fv Vt (1 : Int32) (by decide) (by decide) [] (by decide) (by decide) (own_nws_e l Z a0 hw [] h0 n0 Z0 ta (1 : Int32)) zC S_CS P5 vF hvF S_F)
theorem own_fr_2n (l : Launch) (Z : State) (a0 : Array Value) (hw : ∀ d ∈ tables_1, d.before a0 Z = true) (h0 : Heap) (n0 : Nat) (Z0 : n0 ≤ h0.size) (so ta : Addr) (kt : ClassId) (bz0 bz1 : Int32) (Eo : Exa Z h0 so "java/lang/String") (Fc : Fld Z h0 so "java/lang/String" "coder" "B" (.int (0 : Int32))) (Fv : Fld Z h0 so "java/lang/String" "value" "[B" (.ref ta)) (Vt : Arv Z h0 ta kt .byte (2 : Int32) [(.int bz0), (.int bz1)] (.int (0 : Int32))) (q0 : ¬ bz0 = (35 : Int32)) (q1 : ¬ bz1 = (35 : Int32)) (zC : Int32) (S_CS : Sta Z h0 "java/lang/String" "COMPACT_STRINGS" "Z" (.int zC)) (P5 : ¬ (zC = (0 : Int32))) (vF : Value) (hvF : vF.category = 1) (S_F : Sta Z h0 "jdk/internal/util/Preconditions" "SIOOBE_FORMATTER" "Ljava/util/function/BiFunction;" vF) : MetFree l ym0 (head1 (Jvm.Cond.code ym0 prog_28_method_4_code 2 (some (.object "java/lang/String")) :: []) rm17) (fun a U => a = #[(.ref so)] ∧ Z.Warmed39 U.vm ∧ U.heap = h0) (fun _ _ _ _ _ => True) (fun _ U o U' => ∃ v L, o = .returned v ∧ QV (some .null) h0 n0 v U'.heap L ∧ FrameEnd U o U' L rm17.cells rm17.slots) := own_fragn l Z a0 hw [] h0 n0 Z0 so ta kt (2 : Int32) [(.int bz0), (.int bz1)] Eo Fc Fv Vt (own_iof1 l Z a0 hw [] h0 n0 Z0 so ta kt (2 : Int32) [(.int bz0), (.int bz1)] Eo Fc Fv Vt (-1 : Int32) (own_l1i l Z a0 hw [] h0 n0 Z0 ta kt (2 : Int32) [(.int bz0), (.int bz1)] Vt (-1 : Int32) (by decide) (own_ioc_2 l Z a0 hw [] h0 n0 Z0 ta kt bz0 bz1 Vt (-1 : Int32) (by rw [if_neg q0, if_neg q1]))) zC S_CS P5)
theorem own_fr_20 (l : Launch) (Z : State) (a0 : Array Value) (hw : ∀ d ∈ tables_1, d.before a0 Z = true) (h0 : Heap) (n0 : Nat) (Z0 : n0 ≤ h0.size) (so ta : Addr) (kt : ClassId) (bz0 bz1 : Int32) (Eo : Exa Z h0 so "java/lang/String") (Fc : Fld Z h0 so "java/lang/String" "coder" "B" (.int (0 : Int32))) (Fv : Fld Z h0 so "java/lang/String" "value" "[B" (.ref ta)) (Vt : Arv Z h0 ta kt .byte (2 : Int32) [(.int bz0), (.int bz1)] (.int (0 : Int32))) (q0 : bz0 = (35 : Int32)) (zC : Int32) (S_CS : Sta Z h0 "java/lang/String" "COMPACT_STRINGS" "Z" (.int zC)) (P5 : ¬ (zC = (0 : Int32))) (vF : Value) (hvF : vF.category = 1) (S_F : Sta Z h0 "jdk/internal/util/Preconditions" "SIOOBE_FORMATTER" "Ljava/util/function/BiFunction;" vF) : MetFree l ym0 (head1 (Jvm.Cond.code ym0 prog_28_method_4_code 2 (some (.object "java/lang/String")) :: []) rm26) (fun a U => a = #[(.ref so)] ∧ Z.Warmed39 U.vm ∧ U.heap = h0) (fun _ _ _ _ _ => True) (fun _ U o U' => ∃ v L, o = .returned v ∧ QS Z (1 : Int32) [(.int bz1)] h0 n0 v U'.heap L ∧ FrameEnd U o U' L rm26.cells rm26.slots) := own_frag l Z a0 hw [] h0 n0 Z0 so ta kt (2 : Int32) [(.int bz0), (.int bz1)] Eo Fc Fv Vt (0 : Int32) (1 : Int32) (by decide) (by decide) (1 : Int32) [(.int bz1)] (own_iof1 l Z a0 hw [] h0 n0 Z0 so ta kt (2 : Int32) [(.int bz0), (.int bz1)] Eo Fc Fv Vt (0 : Int32) (own_l1i l Z a0 hw [] h0 n0 Z0 ta kt (2 : Int32) [(.int bz0), (.int bz1)] Vt (0 : Int32) (by decide) (own_ioc_2 l Z a0 hw [] h0 n0 Z0 ta kt bz0 bz1 Vt (0 : Int32) (by rw [if_pos q0]))) zC S_CS P5) (own_sub1 l Z a0 hw [] h0 n0 Z0 so ta kt (2 : Int32) [(.int bz0), (.int bz1)] Eo Fc Fv Vt (1 : Int32) (by decide) (by decide) (1 : Int32) [(.int bz1)] (by decide) (by decide) (own_nws l Z a0 hw [] h0 n0 Z0 ta (1 : Int32) (2 : Int32) (1 : Int32) [(.int bz1)] (by decide) (by decide) (fun h n0 Z0 E => own_cor l Z a0 hw [] h n0 Z0 ta (1 : Int32) (2 : Int32) (1 : Int32) [(.int bz1)] (by decide) (own_corb_21 l Z a0 hw [] h n0 Z0 ta kt bz0 bz1 (Vt.ext E)))) zC S_CS P5 vF hvF S_F)
theorem own_fr_21 (l : Launch) (Z : State) (a0 : Array Value) (hw : ∀ d ∈ tables_1, d.before a0 Z = true) (h0 : Heap) (n0 : Nat) (Z0 : n0 ≤ h0.size) (so ta : Addr) (kt : ClassId) (bz0 bz1 : Int32) (Eo : Exa Z h0 so "java/lang/String") (Fc : Fld Z h0 so "java/lang/String" "coder" "B" (.int (0 : Int32))) (Fv : Fld Z h0 so "java/lang/String" "value" "[B" (.ref ta)) (Vt : Arv Z h0 ta kt .byte (2 : Int32) [(.int bz0), (.int bz1)] (.int (0 : Int32))) (q0 : ¬ bz0 = (35 : Int32)) (q1 : bz1 = (35 : Int32)) (zC : Int32) (S_CS : Sta Z h0 "java/lang/String" "COMPACT_STRINGS" "Z" (.int zC)) (P5 : ¬ (zC = (0 : Int32))) (vF : Value) (hvF : vF.category = 1) (S_F : Sta Z h0 "jdk/internal/util/Preconditions" "SIOOBE_FORMATTER" "Ljava/util/function/BiFunction;" vF) : MetFree l ym0 (head1 (Jvm.Cond.code ym0 prog_28_method_4_code 2 (some (.object "java/lang/String")) :: []) rm18) (fun a U => a = #[(.ref so)] ∧ Z.Warmed39 U.vm ∧ U.heap = h0 ∧ CHv Z consts_1 U.vm h0) (fun _ _ _ _ _ => True) (fun _ U o U' => ∃ v L, o = .returned v ∧ QE Z h0 n0 v U'.heap L ∧ ReturnedEndW U o U' L rm18.cells rm18.slots) := own_frage l Z a0 hw [] h0 n0 Z0 so ta kt (2 : Int32) [(.int bz0), (.int bz1)] Eo Fc Fv Vt (1 : Int32) (2 : Int32) (by decide) (by decide) [] (own_iof1 l Z a0 hw [] h0 n0 Z0 so ta kt (2 : Int32) [(.int bz0), (.int bz1)] Eo Fc Fv Vt (1 : Int32) (own_l1i l Z a0 hw [] h0 n0 Z0 ta kt (2 : Int32) [(.int bz0), (.int bz1)] Vt (1 : Int32) (by decide) (own_ioc_2 l Z a0 hw [] h0 n0 Z0 ta kt bz0 bz1 Vt (1 : Int32) (by rw [if_neg q0, if_pos q1]))) zC S_CS P5) (own_sub1e l Z a0 hw [] h0 n0 Z0 so ta kt (2 : Int32) [(.int bz0), (.int bz1)] Eo Fc Fv Vt (2 : Int32) (by decide) (by decide) [] (by decide) (by decide) (own_nws_e l Z a0 hw [] h0 n0 Z0 ta (2 : Int32)) zC S_CS P5 vF hvF S_F)
theorem own_fr_3n (l : Launch) (Z : State) (a0 : Array Value) (hw : ∀ d ∈ tables_1, d.before a0 Z = true) (h0 : Heap) (n0 : Nat) (Z0 : n0 ≤ h0.size) (so ta : Addr) (kt : ClassId) (bz0 bz1 bz2 : Int32) (Eo : Exa Z h0 so "java/lang/String") (Fc : Fld Z h0 so "java/lang/String" "coder" "B" (.int (0 : Int32))) (Fv : Fld Z h0 so "java/lang/String" "value" "[B" (.ref ta)) (Vt : Arv Z h0 ta kt .byte (3 : Int32) [(.int bz0), (.int bz1), (.int bz2)] (.int (0 : Int32))) (q0 : ¬ bz0 = (35 : Int32)) (q1 : ¬ bz1 = (35 : Int32)) (q2 : ¬ bz2 = (35 : Int32)) (zC : Int32) (S_CS : Sta Z h0 "java/lang/String" "COMPACT_STRINGS" "Z" (.int zC)) (P5 : ¬ (zC = (0 : Int32))) (vF : Value) (hvF : vF.category = 1) (S_F : Sta Z h0 "jdk/internal/util/Preconditions" "SIOOBE_FORMATTER" "Ljava/util/function/BiFunction;" vF) : MetFree l ym0 (head1 (Jvm.Cond.code ym0 prog_28_method_4_code 2 (some (.object "java/lang/String")) :: []) rm17) (fun a U => a = #[(.ref so)] ∧ Z.Warmed39 U.vm ∧ U.heap = h0) (fun _ _ _ _ _ => True) (fun _ U o U' => ∃ v L, o = .returned v ∧ QV (some .null) h0 n0 v U'.heap L ∧ FrameEnd U o U' L rm17.cells rm17.slots) := own_fragn l Z a0 hw [] h0 n0 Z0 so ta kt (3 : Int32) [(.int bz0), (.int bz1), (.int bz2)] Eo Fc Fv Vt (own_iof1 l Z a0 hw [] h0 n0 Z0 so ta kt (3 : Int32) [(.int bz0), (.int bz1), (.int bz2)] Eo Fc Fv Vt (-1 : Int32) (own_l1i l Z a0 hw [] h0 n0 Z0 ta kt (3 : Int32) [(.int bz0), (.int bz1), (.int bz2)] Vt (-1 : Int32) (by decide) (own_ioc_3 l Z a0 hw [] h0 n0 Z0 ta kt bz0 bz1 bz2 Vt (-1 : Int32) (by rw [if_neg q0, if_neg q1, if_neg q2]))) zC S_CS P5)
theorem own_fr_30 (l : Launch) (Z : State) (a0 : Array Value) (hw : ∀ d ∈ tables_1, d.before a0 Z = true) (h0 : Heap) (n0 : Nat) (Z0 : n0 ≤ h0.size) (so ta : Addr) (kt : ClassId) (bz0 bz1 bz2 : Int32) (Eo : Exa Z h0 so "java/lang/String") (Fc : Fld Z h0 so "java/lang/String" "coder" "B" (.int (0 : Int32))) (Fv : Fld Z h0 so "java/lang/String" "value" "[B" (.ref ta)) (Vt : Arv Z h0 ta kt .byte (3 : Int32) [(.int bz0), (.int bz1), (.int bz2)] (.int (0 : Int32))) (q0 : bz0 = (35 : Int32)) (zC : Int32) (S_CS : Sta Z h0 "java/lang/String" "COMPACT_STRINGS" "Z" (.int zC)) (P5 : ¬ (zC = (0 : Int32))) (vF : Value) (hvF : vF.category = 1) (S_F : Sta Z h0 "jdk/internal/util/Preconditions" "SIOOBE_FORMATTER" "Ljava/util/function/BiFunction;" vF) : MetFree l ym0 (head1 (Jvm.Cond.code ym0 prog_28_method_4_code 2 (some (.object "java/lang/String")) :: []) rm26) (fun a U => a = #[(.ref so)] ∧ Z.Warmed39 U.vm ∧ U.heap = h0) (fun _ _ _ _ _ => True) (fun _ U o U' => ∃ v L, o = .returned v ∧ QS Z (2 : Int32) [(.int bz1), (.int bz2)] h0 n0 v U'.heap L ∧ FrameEnd U o U' L rm26.cells rm26.slots) := own_frag l Z a0 hw [] h0 n0 Z0 so ta kt (3 : Int32) [(.int bz0), (.int bz1), (.int bz2)] Eo Fc Fv Vt (0 : Int32) (1 : Int32) (by decide) (by decide) (2 : Int32) [(.int bz1), (.int bz2)] (own_iof1 l Z a0 hw [] h0 n0 Z0 so ta kt (3 : Int32) [(.int bz0), (.int bz1), (.int bz2)] Eo Fc Fv Vt (0 : Int32) (own_l1i l Z a0 hw [] h0 n0 Z0 ta kt (3 : Int32) [(.int bz0), (.int bz1), (.int bz2)] Vt (0 : Int32) (by decide) (own_ioc_3 l Z a0 hw [] h0 n0 Z0 ta kt bz0 bz1 bz2 Vt (0 : Int32) (by rw [if_pos q0]))) zC S_CS P5) (own_sub1 l Z a0 hw [] h0 n0 Z0 so ta kt (3 : Int32) [(.int bz0), (.int bz1), (.int bz2)] Eo Fc Fv Vt (1 : Int32) (by decide) (by decide) (2 : Int32) [(.int bz1), (.int bz2)] (by decide) (by decide) (own_nws l Z a0 hw [] h0 n0 Z0 ta (1 : Int32) (3 : Int32) (2 : Int32) [(.int bz1), (.int bz2)] (by decide) (by decide) (fun h n0 Z0 E => own_cor l Z a0 hw [] h n0 Z0 ta (1 : Int32) (3 : Int32) (2 : Int32) [(.int bz1), (.int bz2)] (by decide) (own_corb_31 l Z a0 hw [] h n0 Z0 ta kt bz0 bz1 bz2 (Vt.ext E)))) zC S_CS P5 vF hvF S_F)
theorem own_fr_31 (l : Launch) (Z : State) (a0 : Array Value) (hw : ∀ d ∈ tables_1, d.before a0 Z = true) (h0 : Heap) (n0 : Nat) (Z0 : n0 ≤ h0.size) (so ta : Addr) (kt : ClassId) (bz0 bz1 bz2 : Int32) (Eo : Exa Z h0 so "java/lang/String") (Fc : Fld Z h0 so "java/lang/String" "coder" "B" (.int (0 : Int32))) (Fv : Fld Z h0 so "java/lang/String" "value" "[B" (.ref ta)) (Vt : Arv Z h0 ta kt .byte (3 : Int32) [(.int bz0), (.int bz1), (.int bz2)] (.int (0 : Int32))) (q0 : ¬ bz0 = (35 : Int32)) (q1 : bz1 = (35 : Int32)) (zC : Int32) (S_CS : Sta Z h0 "java/lang/String" "COMPACT_STRINGS" "Z" (.int zC)) (P5 : ¬ (zC = (0 : Int32))) (vF : Value) (hvF : vF.category = 1) (S_F : Sta Z h0 "jdk/internal/util/Preconditions" "SIOOBE_FORMATTER" "Ljava/util/function/BiFunction;" vF) : MetFree l ym0 (head1 (Jvm.Cond.code ym0 prog_28_method_4_code 2 (some (.object "java/lang/String")) :: []) rm26) (fun a U => a = #[(.ref so)] ∧ Z.Warmed39 U.vm ∧ U.heap = h0) (fun _ _ _ _ _ => True) (fun _ U o U' => ∃ v L, o = .returned v ∧ QS Z (1 : Int32) [(.int bz2)] h0 n0 v U'.heap L ∧ FrameEnd U o U' L rm26.cells rm26.slots) := own_frag l Z a0 hw [] h0 n0 Z0 so ta kt (3 : Int32) [(.int bz0), (.int bz1), (.int bz2)] Eo Fc Fv Vt (1 : Int32) (2 : Int32) (by decide) (by decide) (1 : Int32) [(.int bz2)] (own_iof1 l Z a0 hw [] h0 n0 Z0 so ta kt (3 : Int32) [(.int bz0), (.int bz1), (.int bz2)] Eo Fc Fv Vt (1 : Int32) (own_l1i l Z a0 hw [] h0 n0 Z0 ta kt (3 : Int32) [(.int bz0), (.int bz1), (.int bz2)] Vt (1 : Int32) (by decide) (own_ioc_3 l Z a0 hw [] h0 n0 Z0 ta kt bz0 bz1 bz2 Vt (1 : Int32) (by rw [if_neg q0, if_pos q1]))) zC S_CS P5) (own_sub1 l Z a0 hw [] h0 n0 Z0 so ta kt (3 : Int32) [(.int bz0), (.int bz1), (.int bz2)] Eo Fc Fv Vt (2 : Int32) (by decide) (by decide) (1 : Int32) [(.int bz2)] (by decide) (by decide) (own_nws l Z a0 hw [] h0 n0 Z0 ta (2 : Int32) (3 : Int32) (1 : Int32) [(.int bz2)] (by decide) (by decide) (fun h n0 Z0 E => own_cor l Z a0 hw [] h n0 Z0 ta (2 : Int32) (3 : Int32) (1 : Int32) [(.int bz2)] (by decide) (own_corb_32 l Z a0 hw [] h n0 Z0 ta kt bz0 bz1 bz2 (Vt.ext E)))) zC S_CS P5 vF hvF S_F)
theorem own_fr_32 (l : Launch) (Z : State) (a0 : Array Value) (hw : ∀ d ∈ tables_1, d.before a0 Z = true) (h0 : Heap) (n0 : Nat) (Z0 : n0 ≤ h0.size) (so ta : Addr) (kt : ClassId) (bz0 bz1 bz2 : Int32) (Eo : Exa Z h0 so "java/lang/String") (Fc : Fld Z h0 so "java/lang/String" "coder" "B" (.int (0 : Int32))) (Fv : Fld Z h0 so "java/lang/String" "value" "[B" (.ref ta)) (Vt : Arv Z h0 ta kt .byte (3 : Int32) [(.int bz0), (.int bz1), (.int bz2)] (.int (0 : Int32))) (q0 : ¬ bz0 = (35 : Int32)) (q1 : ¬ bz1 = (35 : Int32)) (q2 : bz2 = (35 : Int32)) (zC : Int32) (S_CS : Sta Z h0 "java/lang/String" "COMPACT_STRINGS" "Z" (.int zC)) (P5 : ¬ (zC = (0 : Int32))) (vF : Value) (hvF : vF.category = 1) (S_F : Sta Z h0 "jdk/internal/util/Preconditions" "SIOOBE_FORMATTER" "Ljava/util/function/BiFunction;" vF) : MetFree l ym0 (head1 (Jvm.Cond.code ym0 prog_28_method_4_code 2 (some (.object "java/lang/String")) :: []) rm18) (fun a U => a = #[(.ref so)] ∧ Z.Warmed39 U.vm ∧ U.heap = h0 ∧ CHv Z consts_1 U.vm h0) (fun _ _ _ _ _ => True) (fun _ U o U' => ∃ v L, o = .returned v ∧ QE Z h0 n0 v U'.heap L ∧ ReturnedEndW U o U' L rm18.cells rm18.slots) := own_frage l Z a0 hw [] h0 n0 Z0 so ta kt (3 : Int32) [(.int bz0), (.int bz1), (.int bz2)] Eo Fc Fv Vt (2 : Int32) (3 : Int32) (by decide) (by decide) [] (own_iof1 l Z a0 hw [] h0 n0 Z0 so ta kt (3 : Int32) [(.int bz0), (.int bz1), (.int bz2)] Eo Fc Fv Vt (2 : Int32) (own_l1i l Z a0 hw [] h0 n0 Z0 ta kt (3 : Int32) [(.int bz0), (.int bz1), (.int bz2)] Vt (2 : Int32) (by decide) (own_ioc_3 l Z a0 hw [] h0 n0 Z0 ta kt bz0 bz1 bz2 Vt (2 : Int32) (by rw [if_neg q0, if_neg q1, if_pos q2]))) zC S_CS P5) (own_sub1e l Z a0 hw [] h0 n0 Z0 so ta kt (3 : Int32) [(.int bz0), (.int bz1), (.int bz2)] Eo Fc Fv Vt (3 : Int32) (by decide) (by decide) [] (by decide) (by decide) (own_nws_e l Z a0 hw [] h0 n0 Z0 ta (3 : Int32)) zC S_CS P5 vF hvF S_F)
theorem own_fr_4n (l : Launch) (Z : State) (a0 : Array Value) (hw : ∀ d ∈ tables_1, d.before a0 Z = true) (h0 : Heap) (n0 : Nat) (Z0 : n0 ≤ h0.size) (so ta : Addr) (kt : ClassId) (bz0 bz1 bz2 bz3 : Int32) (Eo : Exa Z h0 so "java/lang/String") (Fc : Fld Z h0 so "java/lang/String" "coder" "B" (.int (0 : Int32))) (Fv : Fld Z h0 so "java/lang/String" "value" "[B" (.ref ta)) (Vt : Arv Z h0 ta kt .byte (4 : Int32) [(.int bz0), (.int bz1), (.int bz2), (.int bz3)] (.int (0 : Int32))) (q0 : ¬ bz0 = (35 : Int32)) (q1 : ¬ bz1 = (35 : Int32)) (q2 : ¬ bz2 = (35 : Int32)) (q3 : ¬ bz3 = (35 : Int32)) (zC : Int32) (S_CS : Sta Z h0 "java/lang/String" "COMPACT_STRINGS" "Z" (.int zC)) (P5 : ¬ (zC = (0 : Int32))) (vF : Value) (hvF : vF.category = 1) (S_F : Sta Z h0 "jdk/internal/util/Preconditions" "SIOOBE_FORMATTER" "Ljava/util/function/BiFunction;" vF) : MetFree l ym0 (head1 (Jvm.Cond.code ym0 prog_28_method_4_code 2 (some (.object "java/lang/String")) :: []) rm17) (fun a U => a = #[(.ref so)] ∧ Z.Warmed39 U.vm ∧ U.heap = h0) (fun _ _ _ _ _ => True) (fun _ U o U' => ∃ v L, o = .returned v ∧ QV (some .null) h0 n0 v U'.heap L ∧ FrameEnd U o U' L rm17.cells rm17.slots) := own_fragn l Z a0 hw [] h0 n0 Z0 so ta kt (4 : Int32) [(.int bz0), (.int bz1), (.int bz2), (.int bz3)] Eo Fc Fv Vt (own_iof1 l Z a0 hw [] h0 n0 Z0 so ta kt (4 : Int32) [(.int bz0), (.int bz1), (.int bz2), (.int bz3)] Eo Fc Fv Vt (-1 : Int32) (own_l1i l Z a0 hw [] h0 n0 Z0 ta kt (4 : Int32) [(.int bz0), (.int bz1), (.int bz2), (.int bz3)] Vt (-1 : Int32) (by decide) (own_ioc_4 l Z a0 hw [] h0 n0 Z0 ta kt bz0 bz1 bz2 bz3 Vt (-1 : Int32) (by rw [if_neg q0, if_neg q1, if_neg q2, if_neg q3]))) zC S_CS P5)
theorem own_fr_40 (l : Launch) (Z : State) (a0 : Array Value) (hw : ∀ d ∈ tables_1, d.before a0 Z = true) (h0 : Heap) (n0 : Nat) (Z0 : n0 ≤ h0.size) (so ta : Addr) (kt : ClassId) (bz0 bz1 bz2 bz3 : Int32) (Eo : Exa Z h0 so "java/lang/String") (Fc : Fld Z h0 so "java/lang/String" "coder" "B" (.int (0 : Int32))) (Fv : Fld Z h0 so "java/lang/String" "value" "[B" (.ref ta)) (Vt : Arv Z h0 ta kt .byte (4 : Int32) [(.int bz0), (.int bz1), (.int bz2), (.int bz3)] (.int (0 : Int32))) (q0 : bz0 = (35 : Int32)) (zC : Int32) (S_CS : Sta Z h0 "java/lang/String" "COMPACT_STRINGS" "Z" (.int zC)) (P5 : ¬ (zC = (0 : Int32))) (vF : Value) (hvF : vF.category = 1) (S_F : Sta Z h0 "jdk/internal/util/Preconditions" "SIOOBE_FORMATTER" "Ljava/util/function/BiFunction;" vF) : MetFree l ym0 (head1 (Jvm.Cond.code ym0 prog_28_method_4_code 2 (some (.object "java/lang/String")) :: []) rm26) (fun a U => a = #[(.ref so)] ∧ Z.Warmed39 U.vm ∧ U.heap = h0) (fun _ _ _ _ _ => True) (fun _ U o U' => ∃ v L, o = .returned v ∧ QS Z (3 : Int32) [(.int bz1), (.int bz2), (.int bz3)] h0 n0 v U'.heap L ∧ FrameEnd U o U' L rm26.cells rm26.slots) := own_frag l Z a0 hw [] h0 n0 Z0 so ta kt (4 : Int32) [(.int bz0), (.int bz1), (.int bz2), (.int bz3)] Eo Fc Fv Vt (0 : Int32) (1 : Int32) (by decide) (by decide) (3 : Int32) [(.int bz1), (.int bz2), (.int bz3)] (own_iof1 l Z a0 hw [] h0 n0 Z0 so ta kt (4 : Int32) [(.int bz0), (.int bz1), (.int bz2), (.int bz3)] Eo Fc Fv Vt (0 : Int32) (own_l1i l Z a0 hw [] h0 n0 Z0 ta kt (4 : Int32) [(.int bz0), (.int bz1), (.int bz2), (.int bz3)] Vt (0 : Int32) (by decide) (own_ioc_4 l Z a0 hw [] h0 n0 Z0 ta kt bz0 bz1 bz2 bz3 Vt (0 : Int32) (by rw [if_pos q0]))) zC S_CS P5) (own_sub1 l Z a0 hw [] h0 n0 Z0 so ta kt (4 : Int32) [(.int bz0), (.int bz1), (.int bz2), (.int bz3)] Eo Fc Fv Vt (1 : Int32) (by decide) (by decide) (3 : Int32) [(.int bz1), (.int bz2), (.int bz3)] (by decide) (by decide) (own_nws l Z a0 hw [] h0 n0 Z0 ta (1 : Int32) (4 : Int32) (3 : Int32) [(.int bz1), (.int bz2), (.int bz3)] (by decide) (by decide) (fun h n0 Z0 E => own_cor l Z a0 hw [] h n0 Z0 ta (1 : Int32) (4 : Int32) (3 : Int32) [(.int bz1), (.int bz2), (.int bz3)] (by decide) (own_corb_41 l Z a0 hw [] h n0 Z0 ta kt bz0 bz1 bz2 bz3 (Vt.ext E)))) zC S_CS P5 vF hvF S_F)
theorem own_fr_41 (l : Launch) (Z : State) (a0 : Array Value) (hw : ∀ d ∈ tables_1, d.before a0 Z = true) (h0 : Heap) (n0 : Nat) (Z0 : n0 ≤ h0.size) (so ta : Addr) (kt : ClassId) (bz0 bz1 bz2 bz3 : Int32) (Eo : Exa Z h0 so "java/lang/String") (Fc : Fld Z h0 so "java/lang/String" "coder" "B" (.int (0 : Int32))) (Fv : Fld Z h0 so "java/lang/String" "value" "[B" (.ref ta)) (Vt : Arv Z h0 ta kt .byte (4 : Int32) [(.int bz0), (.int bz1), (.int bz2), (.int bz3)] (.int (0 : Int32))) (q0 : ¬ bz0 = (35 : Int32)) (q1 : bz1 = (35 : Int32)) (zC : Int32) (S_CS : Sta Z h0 "java/lang/String" "COMPACT_STRINGS" "Z" (.int zC)) (P5 : ¬ (zC = (0 : Int32))) (vF : Value) (hvF : vF.category = 1) (S_F : Sta Z h0 "jdk/internal/util/Preconditions" "SIOOBE_FORMATTER" "Ljava/util/function/BiFunction;" vF) : MetFree l ym0 (head1 (Jvm.Cond.code ym0 prog_28_method_4_code 2 (some (.object "java/lang/String")) :: []) rm26) (fun a U => a = #[(.ref so)] ∧ Z.Warmed39 U.vm ∧ U.heap = h0) (fun _ _ _ _ _ => True) (fun _ U o U' => ∃ v L, o = .returned v ∧ QS Z (2 : Int32) [(.int bz2), (.int bz3)] h0 n0 v U'.heap L ∧ FrameEnd U o U' L rm26.cells rm26.slots) := own_frag l Z a0 hw [] h0 n0 Z0 so ta kt (4 : Int32) [(.int bz0), (.int bz1), (.int bz2), (.int bz3)] Eo Fc Fv Vt (1 : Int32) (2 : Int32) (by decide) (by decide) (2 : Int32) [(.int bz2), (.int bz3)] (own_iof1 l Z a0 hw [] h0 n0 Z0 so ta kt (4 : Int32) [(.int bz0), (.int bz1), (.int bz2), (.int bz3)] Eo Fc Fv Vt (1 : Int32) (own_l1i l Z a0 hw [] h0 n0 Z0 ta kt (4 : Int32) [(.int bz0), (.int bz1), (.int bz2), (.int bz3)] Vt (1 : Int32) (by decide) (own_ioc_4 l Z a0 hw [] h0 n0 Z0 ta kt bz0 bz1 bz2 bz3 Vt (1 : Int32) (by rw [if_neg q0, if_pos q1]))) zC S_CS P5) (own_sub1 l Z a0 hw [] h0 n0 Z0 so ta kt (4 : Int32) [(.int bz0), (.int bz1), (.int bz2), (.int bz3)] Eo Fc Fv Vt (2 : Int32) (by decide) (by decide) (2 : Int32) [(.int bz2), (.int bz3)] (by decide) (by decide) (own_nws l Z a0 hw [] h0 n0 Z0 ta (2 : Int32) (4 : Int32) (2 : Int32) [(.int bz2), (.int bz3)] (by decide) (by decide) (fun h n0 Z0 E => own_cor l Z a0 hw [] h n0 Z0 ta (2 : Int32) (4 : Int32) (2 : Int32) [(.int bz2), (.int bz3)] (by decide) (own_corb_42 l Z a0 hw [] h n0 Z0 ta kt bz0 bz1 bz2 bz3 (Vt.ext E)))) zC S_CS P5 vF hvF S_F)
theorem own_fr_42 (l : Launch) (Z : State) (a0 : Array Value) (hw : ∀ d ∈ tables_1, d.before a0 Z = true) (h0 : Heap) (n0 : Nat) (Z0 : n0 ≤ h0.size) (so ta : Addr) (kt : ClassId) (bz0 bz1 bz2 bz3 : Int32) (Eo : Exa Z h0 so "java/lang/String") (Fc : Fld Z h0 so "java/lang/String" "coder" "B" (.int (0 : Int32))) (Fv : Fld Z h0 so "java/lang/String" "value" "[B" (.ref ta)) (Vt : Arv Z h0 ta kt .byte (4 : Int32) [(.int bz0), (.int bz1), (.int bz2), (.int bz3)] (.int (0 : Int32))) (q0 : ¬ bz0 = (35 : Int32)) (q1 : ¬ bz1 = (35 : Int32)) (q2 : bz2 = (35 : Int32)) (zC : Int32) (S_CS : Sta Z h0 "java/lang/String" "COMPACT_STRINGS" "Z" (.int zC)) (P5 : ¬ (zC = (0 : Int32))) (vF : Value) (hvF : vF.category = 1) (S_F : Sta Z h0 "jdk/internal/util/Preconditions" "SIOOBE_FORMATTER" "Ljava/util/function/BiFunction;" vF) : MetFree l ym0 (head1 (Jvm.Cond.code ym0 prog_28_method_4_code 2 (some (.object "java/lang/String")) :: []) rm26) (fun a U => a = #[(.ref so)] ∧ Z.Warmed39 U.vm ∧ U.heap = h0) (fun _ _ _ _ _ => True) (fun _ U o U' => ∃ v L, o = .returned v ∧ QS Z (1 : Int32) [(.int bz3)] h0 n0 v U'.heap L ∧ FrameEnd U o U' L rm26.cells rm26.slots) := own_frag l Z a0 hw [] h0 n0 Z0 so ta kt (4 : Int32) [(.int bz0), (.int bz1), (.int bz2), (.int bz3)] Eo Fc Fv Vt (2 : Int32) (3 : Int32) (by decide) (by decide) (1 : Int32) [(.int bz3)] (own_iof1 l Z a0 hw [] h0 n0 Z0 so ta kt (4 : Int32) [(.int bz0), (.int bz1), (.int bz2), (.int bz3)] Eo Fc Fv Vt (2 : Int32) (own_l1i l Z a0 hw [] h0 n0 Z0 ta kt (4 : Int32) [(.int bz0), (.int bz1), (.int bz2), (.int bz3)] Vt (2 : Int32) (by decide) (own_ioc_4 l Z a0 hw [] h0 n0 Z0 ta kt bz0 bz1 bz2 bz3 Vt (2 : Int32) (by rw [if_neg q0, if_neg q1, if_pos q2]))) zC S_CS P5) (own_sub1 l Z a0 hw [] h0 n0 Z0 so ta kt (4 : Int32) [(.int bz0), (.int bz1), (.int bz2), (.int bz3)] Eo Fc Fv Vt (3 : Int32) (by decide) (by decide) (1 : Int32) [(.int bz3)] (by decide) (by decide) (own_nws l Z a0 hw [] h0 n0 Z0 ta (3 : Int32) (4 : Int32) (1 : Int32) [(.int bz3)] (by decide) (by decide) (fun h n0 Z0 E => own_cor l Z a0 hw [] h n0 Z0 ta (3 : Int32) (4 : Int32) (1 : Int32) [(.int bz3)] (by decide) (own_corb_43 l Z a0 hw [] h n0 Z0 ta kt bz0 bz1 bz2 bz3 (Vt.ext E)))) zC S_CS P5 vF hvF S_F)
theorem own_fr_43 (l : Launch) (Z : State) (a0 : Array Value) (hw : ∀ d ∈ tables_1, d.before a0 Z = true) (h0 : Heap) (n0 : Nat) (Z0 : n0 ≤ h0.size) (so ta : Addr) (kt : ClassId) (bz0 bz1 bz2 bz3 : Int32) (Eo : Exa Z h0 so "java/lang/String") (Fc : Fld Z h0 so "java/lang/String" "coder" "B" (.int (0 : Int32))) (Fv : Fld Z h0 so "java/lang/String" "value" "[B" (.ref ta)) (Vt : Arv Z h0 ta kt .byte (4 : Int32) [(.int bz0), (.int bz1), (.int bz2), (.int bz3)] (.int (0 : Int32))) (q0 : ¬ bz0 = (35 : Int32)) (q1 : ¬ bz1 = (35 : Int32)) (q2 : ¬ bz2 = (35 : Int32)) (q3 : bz3 = (35 : Int32)) (zC : Int32) (S_CS : Sta Z h0 "java/lang/String" "COMPACT_STRINGS" "Z" (.int zC)) (P5 : ¬ (zC = (0 : Int32))) (vF : Value) (hvF : vF.category = 1) (S_F : Sta Z h0 "jdk/internal/util/Preconditions" "SIOOBE_FORMATTER" "Ljava/util/function/BiFunction;" vF) : MetFree l ym0 (head1 (Jvm.Cond.code ym0 prog_28_method_4_code 2 (some (.object "java/lang/String")) :: []) rm18) (fun a U => a = #[(.ref so)] ∧ Z.Warmed39 U.vm ∧ U.heap = h0 ∧ CHv Z consts_1 U.vm h0) (fun _ _ _ _ _ => True) (fun _ U o U' => ∃ v L, o = .returned v ∧ QE Z h0 n0 v U'.heap L ∧ ReturnedEndW U o U' L rm18.cells rm18.slots) := own_frage l Z a0 hw [] h0 n0 Z0 so ta kt (4 : Int32) [(.int bz0), (.int bz1), (.int bz2), (.int bz3)] Eo Fc Fv Vt (3 : Int32) (4 : Int32) (by decide) (by decide) [] (own_iof1 l Z a0 hw [] h0 n0 Z0 so ta kt (4 : Int32) [(.int bz0), (.int bz1), (.int bz2), (.int bz3)] Eo Fc Fv Vt (3 : Int32) (own_l1i l Z a0 hw [] h0 n0 Z0 ta kt (4 : Int32) [(.int bz0), (.int bz1), (.int bz2), (.int bz3)] Vt (3 : Int32) (by decide) (own_ioc_4 l Z a0 hw [] h0 n0 Z0 ta kt bz0 bz1 bz2 bz3 Vt (3 : Int32) (by rw [if_neg q0, if_neg q1, if_neg q2, if_pos q3]))) zC S_CS P5) (own_sub1e l Z a0 hw [] h0 n0 Z0 so ta kt (4 : Int32) [(.int bz0), (.int bz1), (.int bz2), (.int bz3)] Eo Fc Fv Vt (4 : Int32) (by decide) (by decide) [] (by decide) (by decide) (own_nws_e l Z a0 hw [] h0 n0 Z0 ta (4 : Int32)) zC S_CS P5 vF hvF S_F)
theorem own_ef_own_pci (m : MethodId) {x0 : Int32} {x1 : Int32} {x2 : Value} (c2 : x2.category = 1) : entryFrame m #[(.int x0), (.int x1), x2] 3 = mkF m 0 #[iv x0, iv x1, .val x2] [] := by cases x2 <;> first | rfl | (simp [Value.category] at c2)
set_option maxRecDepth 65536 in
set_option maxHeartbeats 40000000 in
theorem own_pci (l : Launch) (Z : State) (a0 : Array Value) (hw : ∀ d ∈ tables_1, d.before a0 Z = true) (ws : List Jvm.Cond) (h0 : Heap) (n0 : Nat) (Z0 : n0 ≤ h0.size) (vF : Value) (hvF : vF.category = 1) (i mm : Int32) (i0 : ¬ i < (0 : Int32)) (im : i < mm) :
    MetFree l (⟨"jdk/internal/util/Preconditions", "checkIndex", "(IILjava/util/function/BiFunction;)I"⟩ : MethodName) (head1 (Jvm.Cond.code (⟨"jdk/internal/util/Preconditions", "checkIndex", "(IILjava/util/function/BiFunction;)I"⟩ : MethodName) jdk_41_method_11_code 3 (some .int) :: ws) rm0) (fun a U => a = #[(.int i), (.int mm), vF] ∧ Z.Warmed39 U.vm ∧ U.heap = h0) (fun _ _ _ _ _ => True) (fun _ U o U' => ∃ v L, o = .returned v ∧ QV (some (.int i)) h0 n0 v U'.heap L ∧ FrameEnd U o U' L rm0.cells rm0.slots) := by
  refine MetFree.of_bodySF (plainFor_of_name own_pn_jdk_internal_util_Preconditions) hisR ?_
  intro p e s m args below meth c s₁ Bd hml0 hP hK
  obtain ⟨rfl, hZ, hh⟩ := hP
  have hx := Bd.exec
  have hby := Bd.bytes
  have hml : c.maxLocals = 3 := hml0
  have hown : s.vm.findClass "jdk/internal/util/Preconditions" = some m.cls := (findClass_of_methodNamed Bd.named :)
  have hnm := (name_of_methodNamed Bd.named Bd.method).1
  have X0 : Stand p l e rm0 s m #[(.int i), (.int mm), vF] below meth c s₁ [] 0 0 := Stand.of_body Bd
  have e0 : s₁.heap = h0 := by rw [← hh, Bd.state]; rfl
  have N0 := Fr.nil n0
  have pre0 : ∀ t, SP p e below s₁ (mkF m 0 #[iv i, iv mm, .val vF] []) t → SP p e below s₁ (entryFrame m #[(.int i), (.int mm), vF] 3) t := fun t k => castTop (own_ef_own_pci m hvF) k
  have ch1 : ∀ t, SP p e below s₁ (mkF m 17 #[iv i, iv mm, .val vF] [(.int i)]) t → SP p e below s₁ (entryFrame m #[(.int i), (.int mm), vF] 3) t := fun t k => pre0 t (by
      show SP p e below s₁ (mkF m 0 #[iv i, iv mm, .val vF] []) t
      refine XS.iloadN X0.here hx rfl (hb hby ow20_0) rfl ?_
      refine XS.ifNo X0.here hx rfl (hb hby ow20_1) rfl ((if0 _ _).trans (flt i0).1) ?_
      refine XS.iloadN X0.here hx rfl (hb hby ow20_4) rfl ?_
      refine XS.iloadN X0.here hx rfl (hb hby ow20_5) rfl ?_
      refine XS.icmpYes X0.here hx rfl (pc0 := 6) (pc' := 16) rfl (hb hby ow20_6) rfl (tlt im).1 (by decide) (by decide) ?_
      refine XS.iloadN X0.here hx rfl (hb hby ow20_16) rfl ?_
      exact k)
  obtain ⟨fs, hr, hrun, hended, hW, hsame⟩ := X0.leave (v := some (.int i)) (fun h => by rw [Bd.returns] at h; cases h)
  refine ⟨_, _, ch1 _ ?_, hrun, hended, _, _, rfl, ?_, ⟨_, rfl⟩, hW, hsame.mono (by decide) (by decide)⟩
  · show Steps p.tables e below (s₁.setTop (mkF m 17 #[iv i, iv mm, .val vF] [(.int i)])) _
    exact retI X0 hx Bd.returns (hb hby ow20_17) hr
  · show QV (some (.int i)) h0 n0 _ s₁.heap _
    rw [e0]
    exact ⟨rfl, N0, rfl⟩
theorem own_ef_own_cix (m : MethodId) {x0 : Int32} {x1 : Int32} : entryFrame m #[(.int x0), (.int x1)] 2 = mkF m 0 #[iv x0, iv x1] [] := by first | (simp [entryFrame, mkF, argsToLocals, Value.category, maxLocals]; done) | rfl
set_option maxRecDepth 65536 in
set_option maxHeartbeats 40000000 in
theorem own_cix (l : Launch) (Z : State) (a0 : Array Value) (hw : ∀ d ∈ tables_1, d.before a0 Z = true) (ws : List Jvm.Cond) (h0 : Heap) (n0 : Nat) (Z0 : n0 ≤ h0.size) (i mm : Int32) (i0 : ¬ i < (0 : Int32)) (im : i < mm) (vF : Value) (hvF : vF.category = 1) (S_F : Sta Z h0 "jdk/internal/util/Preconditions" "SIOOBE_FORMATTER" "Ljava/util/function/BiFunction;" vF) :
    MetFree l ym10 (head1 (Jvm.Cond.code ym10 jdk_42_method_155_code 2 none :: ws) rm4) (fun a U => a = #[(.int i), (.int mm)] ∧ Z.Warmed39 U.vm ∧ U.heap = h0) (fun _ _ _ _ _ => True) (fun _ U o U' => ∃ v L, o = .returned v ∧ QV none h0 n0 v U'.heap L ∧ FrameEnd U o U' L rm4.cells rm4.slots) := by
  refine MetFree.of_bodySF (plainFor_of_name own_pn_java_lang_String) hisR ?_
  intro p e s m args below meth c s₁ Bd hml0 hP hK
  obtain ⟨rfl, hZ, hh⟩ := hP
  have hx := Bd.exec
  have hby := Bd.bytes
  have hml : c.maxLocals = 2 := hml0
  have hown : s.vm.findClass "java/lang/String" = some m.cls := (findClass_of_methodNamed Bd.named :)
  have hnm := (name_of_methodNamed Bd.named Bd.method).1
  have X0 : Stand p l e rm4 s m #[(.int i), (.int mm)] below meth c s₁ [] 0 0 := Stand.of_body Bd
  have e0 : s₁.heap = h0 := by rw [← hh, Bd.state]; rfl
  have N0 := Fr.nil n0
  have pre0 : ∀ t, SP p e below s₁ (mkF m 0 #[iv i, iv mm] []) t → SP p e below s₁ (entryFrame m #[(.int i), (.int mm)] 2) t := fun t k => castTop (own_ef_own_cix m) k
  obtain ⟨T1, X1, e1, st1⟩ := getS2 X0 hx hZ hown (host := "") (Or.inl (own_wi hw 100 rfl)) Via.refl e0 S_F (g := (mkF m 2 #[iv i, iv mm] [(.int mm), (.int i)])) rfl (hb hby ow21_2)
  have ch2 : ∀ t, SP p e below T1 (mkF m 5 #[iv i, iv mm] [vF, (.int mm), (.int i)]) t → SP p e below s₁ (entryFrame m #[(.int i), (.int mm)] 2) t := fun t k => pre0 t (by
      show SP p e below s₁ (mkF m 0 #[iv i, iv mm] []) t
      refine XS.iloadN X0.here hx rfl (hb hby ow21_0) rfl ?_
      refine XS.iloadN X0.here hx rfl (hb hby ow21_1) rfl ?_
      show SP p e below s₁ (mkF m 2 #[iv i, iv mm] [(.int mm), (.int i)]) t
      exact st1 t k)
  obtain ⟨vv3, _, ⟨T3, L3, kk3, nn3⟩, -, X3, ⟨Lc3, hQ3, l3, y3, z3⟩, st3⟩ := Jvm.LawKit.callS X1 hx (y := (⟨"jdk/internal/util/Preconditions", "checkIndex", "(IILjava/util/function/BiFunction;)I"⟩ : MethodName)) hown (mvT hZ (own_wi hw 140 rfl)) (mvT hZ (own_wi hw 141 rfl)) (mvT hZ (own_wi hw 101 rfl)) (mvT hZ (own_wi hw 142 rfl)) (by decide) (backOf (W := 0) (own_pci l Z a0 hw [] h0 n0 (Nat.le_trans Z0 (Keep.refl h0 []).1) vF hvF i mm i0 im) hZ (own_wi hw 142 rfl) (own_wi hw 101 rfl) (by decide) (by decide)) (g := (mkF m 5 #[iv i, iv mm] [vF, (.int mm), (.int i)])) rfl (by rw [hml]; rfl) (argsL := [(.int i), (.int mm), vF]) (rest := []) (lenOf own_pd__IILjava_util_function_BiFunction__I rfl) rfl (by show 2 * 0 + _ ≤ _; exact Nat.le_of_eq rfl) (hb hby ow21_5) (fun _ _ => ⟨rfl, e1, (by decide : 0 + 0 ≤ _), (by decide : 0 + 0 ≤ _)⟩)
  dsimp only [Pt.U, Pt.locs, Pt.cells, Pt.slots] at X3 l3 y3 z3 st3 hQ3
  subst l3 y3 z3
  obtain ⟨rfl, Nq3, e3⟩ := hQ3
  have N3 := Fr.app N0 Nq3
  have ch4 : ∀ t, SP p e below T3 (mkF m 8 #[iv i, iv mm] [(.int i)]) t → SP p e below s₁ (entryFrame m #[(.int i), (.int mm)] 2) t := fun t k => ch2 t (by
      show SP p e below T1 (mkF m 5 #[iv i, iv mm] [vF, (.int mm), (.int i)]) t
      exact st3 t k)
  have ch5 : ∀ t, SP p e below T3 (mkF m 9 #[iv i, iv mm] []) t → SP p e below s₁ (entryFrame m #[(.int i), (.int mm)] 2) t := fun t k => ch4 t (by
      show SP p e below T3 (mkF m 8 #[iv i, iv mm] [(.int i)]) t
      refine XS.pop X3.here hx rfl (hb hby ow21_8) rfl rfl ?_
      exact k)
  obtain ⟨fs, hr, hrun, hended, hW, hsame⟩ := X3.leave (v := none) (fun _ => rfl)
  refine ⟨_, _, ch5 _ ?_, hrun, hended, _, _, rfl, ?_, ⟨_, rfl⟩, hW, hsame.mono (by decide) (by decide)⟩
  · show Steps p.tables e below (T3.setTop (mkF m 9 #[iv i, iv mm] [])) _
    exact X3.returnOut hx Bd.returns (hb hby ow21_9) hr
  · show QV none h0 n0 _ T3.heap _
    rw [e3]
    exact ⟨rfl, N3, rfl⟩
theorem own_ef_own_l1c_10 (m : MethodId) {x0 : Addr} {x1 : Int32} : entryFrame m #[(.ref x0), (.int x1)] 2 = mkF m 0 #[rv x0, iv x1] [] := by first | (simp [entryFrame, mkF, argsToLocals, Value.category, maxLocals]; done) | rfl
set_option maxRecDepth 65536 in
set_option maxHeartbeats 40000000 in
theorem own_l1c_10 (l : Launch) (Z : State) (a0 : Array Value) (hw : ∀ d ∈ tables_1, d.before a0 Z = true) (ws : List Jvm.Cond) (h0 : Heap) (n0 : Nat) (Z0 : n0 ≤ h0.size) (ta : Addr) (kt : ClassId) (bz0 : Int32) (Vt : Arv Z h0 ta kt .byte (1 : Int32) [(.int bz0)] (.int (0 : Int32))) (cc : Int32) (hcc : ((bz0 &&& (255 : Int32)).toUInt32.toUInt16.toUInt32.toInt32) = cc) (hnc : nar .char cc = cc) (vF : Value) (hvF : vF.category = 1) (S_F : Sta Z h0 "jdk/internal/util/Preconditions" "SIOOBE_FORMATTER" "Ljava/util/function/BiFunction;" vF) :
    MetFree l ym19 (head1 (Jvm.Cond.code ym19 jdk_43_method_2_code 2 (some .char) :: ws) rm8) (fun a U => a = #[(.ref ta), (.int (0 : Int32))] ∧ Z.Warmed39 U.vm ∧ U.heap = h0) (fun _ _ _ _ _ => True) (fun _ U o U' => ∃ v L, o = .returned v ∧ QV (some (.int cc)) h0 n0 v U'.heap L ∧ FrameEnd U o U' L rm8.cells rm8.slots) := by
  refine MetFree.of_bodySF (plainFor_of_name own_pn_java_lang_StringLatin1) hisR ?_
  intro p e s m args below meth c s₁ Bd hml0 hP hK
  obtain ⟨rfl, hZ, hh⟩ := hP
  have hx := Bd.exec
  have hby := Bd.bytes
  have hml : c.maxLocals = 2 := hml0
  have hown : s.vm.findClass "java/lang/StringLatin1" = some m.cls := (findClass_of_methodNamed Bd.named :)
  have hnm := (name_of_methodNamed Bd.named Bd.method).1
  have X0 : Stand p l e rm8 s m #[(.ref ta), (.int (0 : Int32))] below meth c s₁ [] 0 0 := Stand.of_body Bd
  have e0 : s₁.heap = h0 := by rw [← hh, Bd.state]; rfl
  have N0 := Fr.nil n0
  have pre0 : ∀ t, SP p e below s₁ (mkF m 0 #[rv ta, iv 0] []) t → SP p e below s₁ (entryFrame m #[(.ref ta), (.int (0 : Int32))] 2) t := fun t k => castTop (own_ef_own_l1c_10 m) k
  obtain ⟨cl1, Ar1, -, Sz1, Ng1, -, -⟩ := id Vt
  obtain ⟨vv2, _, ⟨T2, L2, kk2, nn2⟩, -, X2, ⟨Lc2, hQ2, l2, y2, z2⟩, st2⟩ := Jvm.LawKit.callS X0 hx (y := ym10) hown (mvT hZ (own_wi hw 137 rfl)) (mvT hZ (own_wi hw 138 rfl)) (mvT hZ (own_wi hw 11 rfl)) (mvT hZ (own_wi hw 139 rfl)) (by decide) (backOf (W := 0) (own_cix l Z a0 hw [] h0 n0 (Nat.le_trans Z0 (Keep.refl h0 []).1) (0 : Int32) (1 : Int32) (by decide) (by decide) vF hvF S_F) hZ (own_wi hw 139 rfl) (own_wi hw 11 rfl) (by decide) (by decide)) (g := (mkF m 3 #[rv ta, iv 0] [(.int (1 : Int32)), (.int (0 : Int32))])) rfl (by rw [hml]; rfl) (argsL := [(.int (0 : Int32)), (.int (1 : Int32))]) (rest := []) (lenOf own_pd__II_V rfl) rfl (by show 2 * 0 + _ ≤ _; exact Nat.le_of_eq rfl) (hb hby ow22_3) (fun _ _ => ⟨rfl, e0, (by decide : 0 + 0 ≤ _), (by decide : 0 + 0 ≤ _)⟩)
  dsimp only [Pt.U, Pt.locs, Pt.cells, Pt.slots] at X2 l2 y2 z2 st2 hQ2
  subst l2 y2 z2
  obtain ⟨rfl, Nq2, e2⟩ := hQ2
  have N2 := Fr.app N0 Nq2
  have ch3 : ∀ t, SP p e below T2 (mkF m 6 #[rv ta, iv 0] []) t → SP p e below s₁ (entryFrame m #[(.ref ta), (.int (0 : Int32))] 2) t := fun t k => pre0 t (by
      show SP p e below s₁ (mkF m 0 #[rv ta, iv 0] []) t
      refine XS.iloadN X0.here hx rfl (hb hby ow22_0) rfl ?_
      refine XS.aloadN X0.here hx rfl (hb hby ow22_1) rfl rfl ?_
      show SP p e below s₁ (mkF m 2 #[rv ta, iv 0] [(.ref ta), (.int (0 : Int32))]) t
      refine X0.arraylength hx (by rw [e0]; exact Ar1.1) (State.isArrayOf_alike hZ.alike Ar1.2.1) (g := (mkF m 2 #[rv ta, iv 0] [(.ref ta), (.int (0 : Int32))])) rfl rfl (hb hby ow22_2) _ ?_
      rw [len_of Sz1 Ng1]
      show SP p e below s₁ (mkF m 3 #[rv ta, iv 0] [(.int (1 : Int32)), (.int (0 : Int32))]) t
      exact st2 t k)
  obtain ⟨cl4, Ar4, -, Sz4, Ng4, Ha4, -⟩ := id Vt
  have hin4 : ¬ ((0 : Int32) < 0 ∨ cl4.slots.size ≤ ((0 : Int32)).toNatClampNeg) := inb_of Sz4 (by decide)
  have hat4 : cl4.slots[((0 : Int32)).toNatClampNeg]? = some (.int bz0) := Ha4.at hin4 rfl
  have ch5 : ∀ t, SP p e below T2 (mkF m 14 #[rv ta, iv 0] [(.int cc)]) t → SP p e below s₁ (entryFrame m #[(.ref ta), (.int (0 : Int32))] 2) t := fun t k => ch3 t (by
      show SP p e below T2 (mkF m 6 #[rv ta, iv 0] []) t
      refine XS.aloadN X2.here hx rfl (hb hby ow22_6) rfl rfl ?_
      refine XS.iloadN X2.here hx rfl (hb hby ow22_7) rfl ?_
      refine X2.baloadBytes hx (j := (0 : Int32)) (v := (.int bz0)) (by rw [e2]; exact Ar4.1) (State.isArrayOf_alike hZ.alike Ar4.2.1) Ar4.2.2 hin4 hat4 (g := (mkF m 8 #[rv ta, iv 0] [(.int (0 : Int32)), (.ref ta)])) rfl rfl (hb hby ow22_8) _ ?_
      refine XS.sipush X2.here hx rfl (hb hby ow22_9) ?_
      show SP p e below T2 (mkF m 12 #[rv ta, iv 0] [(.int (255 : Int32)), (.int bz0)]) t
      refine XS.iand X2.here hx rfl (hb hby ow22_12) rfl ?_
      show SP p e below T2 (mkF m 13 #[rv ta, iv 0] [(.int (bz0 &&& (255 : Int32)))]) t
      refine XS.i2c X2.here hx rfl (hb hby ow22_13) rfl ?_
      rw [hcc]
      exact k)
  obtain ⟨fs, hr, hrun, hended, hW, hsame⟩ := X2.leave (v := some (.int (nar .char cc))) (fun h => by rw [Bd.returns] at h; cases h)
  refine ⟨_, _, ch5 _ ?_, hrun, hended, _, _, rfl, ?_, ⟨_, rfl⟩, hW, hsame.mono (by decide) (by decide)⟩
  · show Steps p.tables e below (T2.setTop (mkF m 14 #[rv ta, iv 0] [(.int cc)])) _
    exact retN X2 hx (t := .char) Bd.returns (by simp) (hb hby ow22_14) hr
  · show QV (some (.int cc)) h0 n0 _ T2.heap _
    rw [e2]
    exact ⟨(congrArg (fun q => some (Value.int q)) hnc), N2, rfl⟩
theorem own_ef_own_l1c_20 (m : MethodId) {x0 : Addr} {x1 : Int32} : entryFrame m #[(.ref x0), (.int x1)] 2 = mkF m 0 #[rv x0, iv x1] [] := by first | (simp [entryFrame, mkF, argsToLocals, Value.category, maxLocals]; done) | rfl
set_option maxRecDepth 65536 in
set_option maxHeartbeats 40000000 in
theorem own_l1c_20 (l : Launch) (Z : State) (a0 : Array Value) (hw : ∀ d ∈ tables_1, d.before a0 Z = true) (ws : List Jvm.Cond) (h0 : Heap) (n0 : Nat) (Z0 : n0 ≤ h0.size) (ta : Addr) (kt : ClassId) (bz0 bz1 : Int32) (Vt : Arv Z h0 ta kt .byte (2 : Int32) [(.int bz0), (.int bz1)] (.int (0 : Int32))) (cc : Int32) (hcc : ((bz0 &&& (255 : Int32)).toUInt32.toUInt16.toUInt32.toInt32) = cc) (hnc : nar .char cc = cc) (vF : Value) (hvF : vF.category = 1) (S_F : Sta Z h0 "jdk/internal/util/Preconditions" "SIOOBE_FORMATTER" "Ljava/util/function/BiFunction;" vF) :
    MetFree l ym19 (head1 (Jvm.Cond.code ym19 jdk_43_method_2_code 2 (some .char) :: ws) rm8) (fun a U => a = #[(.ref ta), (.int (0 : Int32))] ∧ Z.Warmed39 U.vm ∧ U.heap = h0) (fun _ _ _ _ _ => True) (fun _ U o U' => ∃ v L, o = .returned v ∧ QV (some (.int cc)) h0 n0 v U'.heap L ∧ FrameEnd U o U' L rm8.cells rm8.slots) := by
  refine MetFree.of_bodySF (plainFor_of_name own_pn_java_lang_StringLatin1) hisR ?_
  intro p e s m args below meth c s₁ Bd hml0 hP hK
  obtain ⟨rfl, hZ, hh⟩ := hP
  have hx := Bd.exec
  have hby := Bd.bytes
  have hml : c.maxLocals = 2 := hml0
  have hown : s.vm.findClass "java/lang/StringLatin1" = some m.cls := (findClass_of_methodNamed Bd.named :)
  have hnm := (name_of_methodNamed Bd.named Bd.method).1
  have X0 : Stand p l e rm8 s m #[(.ref ta), (.int (0 : Int32))] below meth c s₁ [] 0 0 := Stand.of_body Bd
  have e0 : s₁.heap = h0 := by rw [← hh, Bd.state]; rfl
  have N0 := Fr.nil n0
  have pre0 : ∀ t, SP p e below s₁ (mkF m 0 #[rv ta, iv 0] []) t → SP p e below s₁ (entryFrame m #[(.ref ta), (.int (0 : Int32))] 2) t := fun t k => castTop (own_ef_own_l1c_20 m) k
  obtain ⟨cl1, Ar1, -, Sz1, Ng1, -, -⟩ := id Vt
  obtain ⟨vv2, _, ⟨T2, L2, kk2, nn2⟩, -, X2, ⟨Lc2, hQ2, l2, y2, z2⟩, st2⟩ := Jvm.LawKit.callS X0 hx (y := ym10) hown (mvT hZ (own_wi hw 137 rfl)) (mvT hZ (own_wi hw 138 rfl)) (mvT hZ (own_wi hw 11 rfl)) (mvT hZ (own_wi hw 139 rfl)) (by decide) (backOf (W := 0) (own_cix l Z a0 hw [] h0 n0 (Nat.le_trans Z0 (Keep.refl h0 []).1) (0 : Int32) (2 : Int32) (by decide) (by decide) vF hvF S_F) hZ (own_wi hw 139 rfl) (own_wi hw 11 rfl) (by decide) (by decide)) (g := (mkF m 3 #[rv ta, iv 0] [(.int (2 : Int32)), (.int (0 : Int32))])) rfl (by rw [hml]; rfl) (argsL := [(.int (0 : Int32)), (.int (2 : Int32))]) (rest := []) (lenOf own_pd__II_V rfl) rfl (by show 2 * 0 + _ ≤ _; exact Nat.le_of_eq rfl) (hb hby ow22_3) (fun _ _ => ⟨rfl, e0, (by decide : 0 + 0 ≤ _), (by decide : 0 + 0 ≤ _)⟩)
  dsimp only [Pt.U, Pt.locs, Pt.cells, Pt.slots] at X2 l2 y2 z2 st2 hQ2
  subst l2 y2 z2
  obtain ⟨rfl, Nq2, e2⟩ := hQ2
  have N2 := Fr.app N0 Nq2
  have ch3 : ∀ t, SP p e below T2 (mkF m 6 #[rv ta, iv 0] []) t → SP p e below s₁ (entryFrame m #[(.ref ta), (.int (0 : Int32))] 2) t := fun t k => pre0 t (by
      show SP p e below s₁ (mkF m 0 #[rv ta, iv 0] []) t
      refine XS.iloadN X0.here hx rfl (hb hby ow22_0) rfl ?_
      refine XS.aloadN X0.here hx rfl (hb hby ow22_1) rfl rfl ?_
      show SP p e below s₁ (mkF m 2 #[rv ta, iv 0] [(.ref ta), (.int (0 : Int32))]) t
      refine X0.arraylength hx (by rw [e0]; exact Ar1.1) (State.isArrayOf_alike hZ.alike Ar1.2.1) (g := (mkF m 2 #[rv ta, iv 0] [(.ref ta), (.int (0 : Int32))])) rfl rfl (hb hby ow22_2) _ ?_
      rw [len_of Sz1 Ng1]
      show SP p e below s₁ (mkF m 3 #[rv ta, iv 0] [(.int (2 : Int32)), (.int (0 : Int32))]) t
      exact st2 t k)
  obtain ⟨cl4, Ar4, -, Sz4, Ng4, Ha4, -⟩ := id Vt
  have hin4 : ¬ ((0 : Int32) < 0 ∨ cl4.slots.size ≤ ((0 : Int32)).toNatClampNeg) := inb_of Sz4 (by decide)
  have hat4 : cl4.slots[((0 : Int32)).toNatClampNeg]? = some (.int bz0) := Ha4.at hin4 rfl
  have ch5 : ∀ t, SP p e below T2 (mkF m 14 #[rv ta, iv 0] [(.int cc)]) t → SP p e below s₁ (entryFrame m #[(.ref ta), (.int (0 : Int32))] 2) t := fun t k => ch3 t (by
      show SP p e below T2 (mkF m 6 #[rv ta, iv 0] []) t
      refine XS.aloadN X2.here hx rfl (hb hby ow22_6) rfl rfl ?_
      refine XS.iloadN X2.here hx rfl (hb hby ow22_7) rfl ?_
      refine X2.baloadBytes hx (j := (0 : Int32)) (v := (.int bz0)) (by rw [e2]; exact Ar4.1) (State.isArrayOf_alike hZ.alike Ar4.2.1) Ar4.2.2 hin4 hat4 (g := (mkF m 8 #[rv ta, iv 0] [(.int (0 : Int32)), (.ref ta)])) rfl rfl (hb hby ow22_8) _ ?_
      refine XS.sipush X2.here hx rfl (hb hby ow22_9) ?_
      show SP p e below T2 (mkF m 12 #[rv ta, iv 0] [(.int (255 : Int32)), (.int bz0)]) t
      refine XS.iand X2.here hx rfl (hb hby ow22_12) rfl ?_
      show SP p e below T2 (mkF m 13 #[rv ta, iv 0] [(.int (bz0 &&& (255 : Int32)))]) t
      refine XS.i2c X2.here hx rfl (hb hby ow22_13) rfl ?_
      rw [hcc]
      exact k)
  obtain ⟨fs, hr, hrun, hended, hW, hsame⟩ := X2.leave (v := some (.int (nar .char cc))) (fun h => by rw [Bd.returns] at h; cases h)
  refine ⟨_, _, ch5 _ ?_, hrun, hended, _, _, rfl, ?_, ⟨_, rfl⟩, hW, hsame.mono (by decide) (by decide)⟩
  · show Steps p.tables e below (T2.setTop (mkF m 14 #[rv ta, iv 0] [(.int cc)])) _
    exact retN X2 hx (t := .char) Bd.returns (by simp) (hb hby ow22_14) hr
  · show QV (some (.int cc)) h0 n0 _ T2.heap _
    rw [e2]
    exact ⟨(congrArg (fun q => some (Value.int q)) hnc), N2, rfl⟩
theorem own_ef_own_l1c_21 (m : MethodId) {x0 : Addr} {x1 : Int32} : entryFrame m #[(.ref x0), (.int x1)] 2 = mkF m 0 #[rv x0, iv x1] [] := by first | (simp [entryFrame, mkF, argsToLocals, Value.category, maxLocals]; done) | rfl
set_option maxRecDepth 65536 in
set_option maxHeartbeats 40000000 in
theorem own_l1c_21 (l : Launch) (Z : State) (a0 : Array Value) (hw : ∀ d ∈ tables_1, d.before a0 Z = true) (ws : List Jvm.Cond) (h0 : Heap) (n0 : Nat) (Z0 : n0 ≤ h0.size) (ta : Addr) (kt : ClassId) (bz0 bz1 : Int32) (Vt : Arv Z h0 ta kt .byte (2 : Int32) [(.int bz0), (.int bz1)] (.int (0 : Int32))) (cc : Int32) (hcc : ((bz1 &&& (255 : Int32)).toUInt32.toUInt16.toUInt32.toInt32) = cc) (hnc : nar .char cc = cc) (vF : Value) (hvF : vF.category = 1) (S_F : Sta Z h0 "jdk/internal/util/Preconditions" "SIOOBE_FORMATTER" "Ljava/util/function/BiFunction;" vF) :
    MetFree l ym19 (head1 (Jvm.Cond.code ym19 jdk_43_method_2_code 2 (some .char) :: ws) rm8) (fun a U => a = #[(.ref ta), (.int (1 : Int32))] ∧ Z.Warmed39 U.vm ∧ U.heap = h0) (fun _ _ _ _ _ => True) (fun _ U o U' => ∃ v L, o = .returned v ∧ QV (some (.int cc)) h0 n0 v U'.heap L ∧ FrameEnd U o U' L rm8.cells rm8.slots) := by
  refine MetFree.of_bodySF (plainFor_of_name own_pn_java_lang_StringLatin1) hisR ?_
  intro p e s m args below meth c s₁ Bd hml0 hP hK
  obtain ⟨rfl, hZ, hh⟩ := hP
  have hx := Bd.exec
  have hby := Bd.bytes
  have hml : c.maxLocals = 2 := hml0
  have hown : s.vm.findClass "java/lang/StringLatin1" = some m.cls := (findClass_of_methodNamed Bd.named :)
  have hnm := (name_of_methodNamed Bd.named Bd.method).1
  have X0 : Stand p l e rm8 s m #[(.ref ta), (.int (1 : Int32))] below meth c s₁ [] 0 0 := Stand.of_body Bd
  have e0 : s₁.heap = h0 := by rw [← hh, Bd.state]; rfl
  have N0 := Fr.nil n0
  have pre0 : ∀ t, SP p e below s₁ (mkF m 0 #[rv ta, iv 1] []) t → SP p e below s₁ (entryFrame m #[(.ref ta), (.int (1 : Int32))] 2) t := fun t k => castTop (own_ef_own_l1c_21 m) k
  obtain ⟨cl1, Ar1, -, Sz1, Ng1, -, -⟩ := id Vt
  obtain ⟨vv2, _, ⟨T2, L2, kk2, nn2⟩, -, X2, ⟨Lc2, hQ2, l2, y2, z2⟩, st2⟩ := Jvm.LawKit.callS X0 hx (y := ym10) hown (mvT hZ (own_wi hw 137 rfl)) (mvT hZ (own_wi hw 138 rfl)) (mvT hZ (own_wi hw 11 rfl)) (mvT hZ (own_wi hw 139 rfl)) (by decide) (backOf (W := 0) (own_cix l Z a0 hw [] h0 n0 (Nat.le_trans Z0 (Keep.refl h0 []).1) (1 : Int32) (2 : Int32) (by decide) (by decide) vF hvF S_F) hZ (own_wi hw 139 rfl) (own_wi hw 11 rfl) (by decide) (by decide)) (g := (mkF m 3 #[rv ta, iv 1] [(.int (2 : Int32)), (.int (1 : Int32))])) rfl (by rw [hml]; rfl) (argsL := [(.int (1 : Int32)), (.int (2 : Int32))]) (rest := []) (lenOf own_pd__II_V rfl) rfl (by show 2 * 0 + _ ≤ _; exact Nat.le_of_eq rfl) (hb hby ow22_3) (fun _ _ => ⟨rfl, e0, (by decide : 0 + 0 ≤ _), (by decide : 0 + 0 ≤ _)⟩)
  dsimp only [Pt.U, Pt.locs, Pt.cells, Pt.slots] at X2 l2 y2 z2 st2 hQ2
  subst l2 y2 z2
  obtain ⟨rfl, Nq2, e2⟩ := hQ2
  have N2 := Fr.app N0 Nq2
  have ch3 : ∀ t, SP p e below T2 (mkF m 6 #[rv ta, iv 1] []) t → SP p e below s₁ (entryFrame m #[(.ref ta), (.int (1 : Int32))] 2) t := fun t k => pre0 t (by
      show SP p e below s₁ (mkF m 0 #[rv ta, iv 1] []) t
      refine XS.iloadN X0.here hx rfl (hb hby ow22_0) rfl ?_
      refine XS.aloadN X0.here hx rfl (hb hby ow22_1) rfl rfl ?_
      show SP p e below s₁ (mkF m 2 #[rv ta, iv 1] [(.ref ta), (.int (1 : Int32))]) t
      refine X0.arraylength hx (by rw [e0]; exact Ar1.1) (State.isArrayOf_alike hZ.alike Ar1.2.1) (g := (mkF m 2 #[rv ta, iv 1] [(.ref ta), (.int (1 : Int32))])) rfl rfl (hb hby ow22_2) _ ?_
      rw [len_of Sz1 Ng1]
      show SP p e below s₁ (mkF m 3 #[rv ta, iv 1] [(.int (2 : Int32)), (.int (1 : Int32))]) t
      exact st2 t k)
  obtain ⟨cl4, Ar4, -, Sz4, Ng4, Ha4, -⟩ := id Vt
  have hin4 : ¬ ((1 : Int32) < 0 ∨ cl4.slots.size ≤ ((1 : Int32)).toNatClampNeg) := inb_of Sz4 (by decide)
  have hat4 : cl4.slots[((1 : Int32)).toNatClampNeg]? = some (.int bz1) := Ha4.at hin4 rfl
  have ch5 : ∀ t, SP p e below T2 (mkF m 14 #[rv ta, iv 1] [(.int cc)]) t → SP p e below s₁ (entryFrame m #[(.ref ta), (.int (1 : Int32))] 2) t := fun t k => ch3 t (by
      show SP p e below T2 (mkF m 6 #[rv ta, iv 1] []) t
      refine XS.aloadN X2.here hx rfl (hb hby ow22_6) rfl rfl ?_
      refine XS.iloadN X2.here hx rfl (hb hby ow22_7) rfl ?_
      refine X2.baloadBytes hx (j := (1 : Int32)) (v := (.int bz1)) (by rw [e2]; exact Ar4.1) (State.isArrayOf_alike hZ.alike Ar4.2.1) Ar4.2.2 hin4 hat4 (g := (mkF m 8 #[rv ta, iv 1] [(.int (1 : Int32)), (.ref ta)])) rfl rfl (hb hby ow22_8) _ ?_
      refine XS.sipush X2.here hx rfl (hb hby ow22_9) ?_
      show SP p e below T2 (mkF m 12 #[rv ta, iv 1] [(.int (255 : Int32)), (.int bz1)]) t
      refine XS.iand X2.here hx rfl (hb hby ow22_12) rfl ?_
      show SP p e below T2 (mkF m 13 #[rv ta, iv 1] [(.int (bz1 &&& (255 : Int32)))]) t
      refine XS.i2c X2.here hx rfl (hb hby ow22_13) rfl ?_
      rw [hcc]
      exact k)
  obtain ⟨fs, hr, hrun, hended, hW, hsame⟩ := X2.leave (v := some (.int (nar .char cc))) (fun h => by rw [Bd.returns] at h; cases h)
  refine ⟨_, _, ch5 _ ?_, hrun, hended, _, _, rfl, ?_, ⟨_, rfl⟩, hW, hsame.mono (by decide) (by decide)⟩
  · show Steps p.tables e below (T2.setTop (mkF m 14 #[rv ta, iv 1] [(.int cc)])) _
    exact retN X2 hx (t := .char) Bd.returns (by simp) (hb hby ow22_14) hr
  · show QV (some (.int cc)) h0 n0 _ T2.heap _
    rw [e2]
    exact ⟨(congrArg (fun q => some (Value.int q)) hnc), N2, rfl⟩
theorem own_ef_own_l1c_30 (m : MethodId) {x0 : Addr} {x1 : Int32} : entryFrame m #[(.ref x0), (.int x1)] 2 = mkF m 0 #[rv x0, iv x1] [] := by first | (simp [entryFrame, mkF, argsToLocals, Value.category, maxLocals]; done) | rfl
set_option maxRecDepth 65536 in
set_option maxHeartbeats 40000000 in
theorem own_l1c_30 (l : Launch) (Z : State) (a0 : Array Value) (hw : ∀ d ∈ tables_1, d.before a0 Z = true) (ws : List Jvm.Cond) (h0 : Heap) (n0 : Nat) (Z0 : n0 ≤ h0.size) (ta : Addr) (kt : ClassId) (bz0 bz1 bz2 : Int32) (Vt : Arv Z h0 ta kt .byte (3 : Int32) [(.int bz0), (.int bz1), (.int bz2)] (.int (0 : Int32))) (cc : Int32) (hcc : ((bz0 &&& (255 : Int32)).toUInt32.toUInt16.toUInt32.toInt32) = cc) (hnc : nar .char cc = cc) (vF : Value) (hvF : vF.category = 1) (S_F : Sta Z h0 "jdk/internal/util/Preconditions" "SIOOBE_FORMATTER" "Ljava/util/function/BiFunction;" vF) :
    MetFree l ym19 (head1 (Jvm.Cond.code ym19 jdk_43_method_2_code 2 (some .char) :: ws) rm8) (fun a U => a = #[(.ref ta), (.int (0 : Int32))] ∧ Z.Warmed39 U.vm ∧ U.heap = h0) (fun _ _ _ _ _ => True) (fun _ U o U' => ∃ v L, o = .returned v ∧ QV (some (.int cc)) h0 n0 v U'.heap L ∧ FrameEnd U o U' L rm8.cells rm8.slots) := by
  refine MetFree.of_bodySF (plainFor_of_name own_pn_java_lang_StringLatin1) hisR ?_
  intro p e s m args below meth c s₁ Bd hml0 hP hK
  obtain ⟨rfl, hZ, hh⟩ := hP
  have hx := Bd.exec
  have hby := Bd.bytes
  have hml : c.maxLocals = 2 := hml0
  have hown : s.vm.findClass "java/lang/StringLatin1" = some m.cls := (findClass_of_methodNamed Bd.named :)
  have hnm := (name_of_methodNamed Bd.named Bd.method).1
  have X0 : Stand p l e rm8 s m #[(.ref ta), (.int (0 : Int32))] below meth c s₁ [] 0 0 := Stand.of_body Bd
  have e0 : s₁.heap = h0 := by rw [← hh, Bd.state]; rfl
  have N0 := Fr.nil n0
  have pre0 : ∀ t, SP p e below s₁ (mkF m 0 #[rv ta, iv 0] []) t → SP p e below s₁ (entryFrame m #[(.ref ta), (.int (0 : Int32))] 2) t := fun t k => castTop (own_ef_own_l1c_30 m) k
  obtain ⟨cl1, Ar1, -, Sz1, Ng1, -, -⟩ := id Vt
  obtain ⟨vv2, _, ⟨T2, L2, kk2, nn2⟩, -, X2, ⟨Lc2, hQ2, l2, y2, z2⟩, st2⟩ := Jvm.LawKit.callS X0 hx (y := ym10) hown (mvT hZ (own_wi hw 137 rfl)) (mvT hZ (own_wi hw 138 rfl)) (mvT hZ (own_wi hw 11 rfl)) (mvT hZ (own_wi hw 139 rfl)) (by decide) (backOf (W := 0) (own_cix l Z a0 hw [] h0 n0 (Nat.le_trans Z0 (Keep.refl h0 []).1) (0 : Int32) (3 : Int32) (by decide) (by decide) vF hvF S_F) hZ (own_wi hw 139 rfl) (own_wi hw 11 rfl) (by decide) (by decide)) (g := (mkF m 3 #[rv ta, iv 0] [(.int (3 : Int32)), (.int (0 : Int32))])) rfl (by rw [hml]; rfl) (argsL := [(.int (0 : Int32)), (.int (3 : Int32))]) (rest := []) (lenOf own_pd__II_V rfl) rfl (by show 2 * 0 + _ ≤ _; exact Nat.le_of_eq rfl) (hb hby ow22_3) (fun _ _ => ⟨rfl, e0, (by decide : 0 + 0 ≤ _), (by decide : 0 + 0 ≤ _)⟩)
  dsimp only [Pt.U, Pt.locs, Pt.cells, Pt.slots] at X2 l2 y2 z2 st2 hQ2
  subst l2 y2 z2
  obtain ⟨rfl, Nq2, e2⟩ := hQ2
  have N2 := Fr.app N0 Nq2
  have ch3 : ∀ t, SP p e below T2 (mkF m 6 #[rv ta, iv 0] []) t → SP p e below s₁ (entryFrame m #[(.ref ta), (.int (0 : Int32))] 2) t := fun t k => pre0 t (by
      show SP p e below s₁ (mkF m 0 #[rv ta, iv 0] []) t
      refine XS.iloadN X0.here hx rfl (hb hby ow22_0) rfl ?_
      refine XS.aloadN X0.here hx rfl (hb hby ow22_1) rfl rfl ?_
      show SP p e below s₁ (mkF m 2 #[rv ta, iv 0] [(.ref ta), (.int (0 : Int32))]) t
      refine X0.arraylength hx (by rw [e0]; exact Ar1.1) (State.isArrayOf_alike hZ.alike Ar1.2.1) (g := (mkF m 2 #[rv ta, iv 0] [(.ref ta), (.int (0 : Int32))])) rfl rfl (hb hby ow22_2) _ ?_
      rw [len_of Sz1 Ng1]
      show SP p e below s₁ (mkF m 3 #[rv ta, iv 0] [(.int (3 : Int32)), (.int (0 : Int32))]) t
      exact st2 t k)
  obtain ⟨cl4, Ar4, -, Sz4, Ng4, Ha4, -⟩ := id Vt
  have hin4 : ¬ ((0 : Int32) < 0 ∨ cl4.slots.size ≤ ((0 : Int32)).toNatClampNeg) := inb_of Sz4 (by decide)
  have hat4 : cl4.slots[((0 : Int32)).toNatClampNeg]? = some (.int bz0) := Ha4.at hin4 rfl
  have ch5 : ∀ t, SP p e below T2 (mkF m 14 #[rv ta, iv 0] [(.int cc)]) t → SP p e below s₁ (entryFrame m #[(.ref ta), (.int (0 : Int32))] 2) t := fun t k => ch3 t (by
      show SP p e below T2 (mkF m 6 #[rv ta, iv 0] []) t
      refine XS.aloadN X2.here hx rfl (hb hby ow22_6) rfl rfl ?_
      refine XS.iloadN X2.here hx rfl (hb hby ow22_7) rfl ?_
      refine X2.baloadBytes hx (j := (0 : Int32)) (v := (.int bz0)) (by rw [e2]; exact Ar4.1) (State.isArrayOf_alike hZ.alike Ar4.2.1) Ar4.2.2 hin4 hat4 (g := (mkF m 8 #[rv ta, iv 0] [(.int (0 : Int32)), (.ref ta)])) rfl rfl (hb hby ow22_8) _ ?_
      refine XS.sipush X2.here hx rfl (hb hby ow22_9) ?_
      show SP p e below T2 (mkF m 12 #[rv ta, iv 0] [(.int (255 : Int32)), (.int bz0)]) t
      refine XS.iand X2.here hx rfl (hb hby ow22_12) rfl ?_
      show SP p e below T2 (mkF m 13 #[rv ta, iv 0] [(.int (bz0 &&& (255 : Int32)))]) t
      refine XS.i2c X2.here hx rfl (hb hby ow22_13) rfl ?_
      rw [hcc]
      exact k)
  obtain ⟨fs, hr, hrun, hended, hW, hsame⟩ := X2.leave (v := some (.int (nar .char cc))) (fun h => by rw [Bd.returns] at h; cases h)
  refine ⟨_, _, ch5 _ ?_, hrun, hended, _, _, rfl, ?_, ⟨_, rfl⟩, hW, hsame.mono (by decide) (by decide)⟩
  · show Steps p.tables e below (T2.setTop (mkF m 14 #[rv ta, iv 0] [(.int cc)])) _
    exact retN X2 hx (t := .char) Bd.returns (by simp) (hb hby ow22_14) hr
  · show QV (some (.int cc)) h0 n0 _ T2.heap _
    rw [e2]
    exact ⟨(congrArg (fun q => some (Value.int q)) hnc), N2, rfl⟩
theorem own_ef_own_l1c_31 (m : MethodId) {x0 : Addr} {x1 : Int32} : entryFrame m #[(.ref x0), (.int x1)] 2 = mkF m 0 #[rv x0, iv x1] [] := by first | (simp [entryFrame, mkF, argsToLocals, Value.category, maxLocals]; done) | rfl
set_option maxRecDepth 65536 in
set_option maxHeartbeats 40000000 in
theorem own_l1c_31 (l : Launch) (Z : State) (a0 : Array Value) (hw : ∀ d ∈ tables_1, d.before a0 Z = true) (ws : List Jvm.Cond) (h0 : Heap) (n0 : Nat) (Z0 : n0 ≤ h0.size) (ta : Addr) (kt : ClassId) (bz0 bz1 bz2 : Int32) (Vt : Arv Z h0 ta kt .byte (3 : Int32) [(.int bz0), (.int bz1), (.int bz2)] (.int (0 : Int32))) (cc : Int32) (hcc : ((bz1 &&& (255 : Int32)).toUInt32.toUInt16.toUInt32.toInt32) = cc) (hnc : nar .char cc = cc) (vF : Value) (hvF : vF.category = 1) (S_F : Sta Z h0 "jdk/internal/util/Preconditions" "SIOOBE_FORMATTER" "Ljava/util/function/BiFunction;" vF) :
    MetFree l ym19 (head1 (Jvm.Cond.code ym19 jdk_43_method_2_code 2 (some .char) :: ws) rm8) (fun a U => a = #[(.ref ta), (.int (1 : Int32))] ∧ Z.Warmed39 U.vm ∧ U.heap = h0) (fun _ _ _ _ _ => True) (fun _ U o U' => ∃ v L, o = .returned v ∧ QV (some (.int cc)) h0 n0 v U'.heap L ∧ FrameEnd U o U' L rm8.cells rm8.slots) := by
  refine MetFree.of_bodySF (plainFor_of_name own_pn_java_lang_StringLatin1) hisR ?_
  intro p e s m args below meth c s₁ Bd hml0 hP hK
  obtain ⟨rfl, hZ, hh⟩ := hP
  have hx := Bd.exec
  have hby := Bd.bytes
  have hml : c.maxLocals = 2 := hml0
  have hown : s.vm.findClass "java/lang/StringLatin1" = some m.cls := (findClass_of_methodNamed Bd.named :)
  have hnm := (name_of_methodNamed Bd.named Bd.method).1
  have X0 : Stand p l e rm8 s m #[(.ref ta), (.int (1 : Int32))] below meth c s₁ [] 0 0 := Stand.of_body Bd
  have e0 : s₁.heap = h0 := by rw [← hh, Bd.state]; rfl
  have N0 := Fr.nil n0
  have pre0 : ∀ t, SP p e below s₁ (mkF m 0 #[rv ta, iv 1] []) t → SP p e below s₁ (entryFrame m #[(.ref ta), (.int (1 : Int32))] 2) t := fun t k => castTop (own_ef_own_l1c_31 m) k
  obtain ⟨cl1, Ar1, -, Sz1, Ng1, -, -⟩ := id Vt
  obtain ⟨vv2, _, ⟨T2, L2, kk2, nn2⟩, -, X2, ⟨Lc2, hQ2, l2, y2, z2⟩, st2⟩ := Jvm.LawKit.callS X0 hx (y := ym10) hown (mvT hZ (own_wi hw 137 rfl)) (mvT hZ (own_wi hw 138 rfl)) (mvT hZ (own_wi hw 11 rfl)) (mvT hZ (own_wi hw 139 rfl)) (by decide) (backOf (W := 0) (own_cix l Z a0 hw [] h0 n0 (Nat.le_trans Z0 (Keep.refl h0 []).1) (1 : Int32) (3 : Int32) (by decide) (by decide) vF hvF S_F) hZ (own_wi hw 139 rfl) (own_wi hw 11 rfl) (by decide) (by decide)) (g := (mkF m 3 #[rv ta, iv 1] [(.int (3 : Int32)), (.int (1 : Int32))])) rfl (by rw [hml]; rfl) (argsL := [(.int (1 : Int32)), (.int (3 : Int32))]) (rest := []) (lenOf own_pd__II_V rfl) rfl (by show 2 * 0 + _ ≤ _; exact Nat.le_of_eq rfl) (hb hby ow22_3) (fun _ _ => ⟨rfl, e0, (by decide : 0 + 0 ≤ _), (by decide : 0 + 0 ≤ _)⟩)
  dsimp only [Pt.U, Pt.locs, Pt.cells, Pt.slots] at X2 l2 y2 z2 st2 hQ2
  subst l2 y2 z2
  obtain ⟨rfl, Nq2, e2⟩ := hQ2
  have N2 := Fr.app N0 Nq2
  have ch3 : ∀ t, SP p e below T2 (mkF m 6 #[rv ta, iv 1] []) t → SP p e below s₁ (entryFrame m #[(.ref ta), (.int (1 : Int32))] 2) t := fun t k => pre0 t (by
      show SP p e below s₁ (mkF m 0 #[rv ta, iv 1] []) t
      refine XS.iloadN X0.here hx rfl (hb hby ow22_0) rfl ?_
      refine XS.aloadN X0.here hx rfl (hb hby ow22_1) rfl rfl ?_
      show SP p e below s₁ (mkF m 2 #[rv ta, iv 1] [(.ref ta), (.int (1 : Int32))]) t
      refine X0.arraylength hx (by rw [e0]; exact Ar1.1) (State.isArrayOf_alike hZ.alike Ar1.2.1) (g := (mkF m 2 #[rv ta, iv 1] [(.ref ta), (.int (1 : Int32))])) rfl rfl (hb hby ow22_2) _ ?_
      rw [len_of Sz1 Ng1]
      show SP p e below s₁ (mkF m 3 #[rv ta, iv 1] [(.int (3 : Int32)), (.int (1 : Int32))]) t
      exact st2 t k)
  obtain ⟨cl4, Ar4, -, Sz4, Ng4, Ha4, -⟩ := id Vt
  have hin4 : ¬ ((1 : Int32) < 0 ∨ cl4.slots.size ≤ ((1 : Int32)).toNatClampNeg) := inb_of Sz4 (by decide)
  have hat4 : cl4.slots[((1 : Int32)).toNatClampNeg]? = some (.int bz1) := Ha4.at hin4 rfl
  have ch5 : ∀ t, SP p e below T2 (mkF m 14 #[rv ta, iv 1] [(.int cc)]) t → SP p e below s₁ (entryFrame m #[(.ref ta), (.int (1 : Int32))] 2) t := fun t k => ch3 t (by
      show SP p e below T2 (mkF m 6 #[rv ta, iv 1] []) t
      refine XS.aloadN X2.here hx rfl (hb hby ow22_6) rfl rfl ?_
      refine XS.iloadN X2.here hx rfl (hb hby ow22_7) rfl ?_
      refine X2.baloadBytes hx (j := (1 : Int32)) (v := (.int bz1)) (by rw [e2]; exact Ar4.1) (State.isArrayOf_alike hZ.alike Ar4.2.1) Ar4.2.2 hin4 hat4 (g := (mkF m 8 #[rv ta, iv 1] [(.int (1 : Int32)), (.ref ta)])) rfl rfl (hb hby ow22_8) _ ?_
      refine XS.sipush X2.here hx rfl (hb hby ow22_9) ?_
      show SP p e below T2 (mkF m 12 #[rv ta, iv 1] [(.int (255 : Int32)), (.int bz1)]) t
      refine XS.iand X2.here hx rfl (hb hby ow22_12) rfl ?_
      show SP p e below T2 (mkF m 13 #[rv ta, iv 1] [(.int (bz1 &&& (255 : Int32)))]) t
      refine XS.i2c X2.here hx rfl (hb hby ow22_13) rfl ?_
      rw [hcc]
      exact k)
  obtain ⟨fs, hr, hrun, hended, hW, hsame⟩ := X2.leave (v := some (.int (nar .char cc))) (fun h => by rw [Bd.returns] at h; cases h)
  refine ⟨_, _, ch5 _ ?_, hrun, hended, _, _, rfl, ?_, ⟨_, rfl⟩, hW, hsame.mono (by decide) (by decide)⟩
  · show Steps p.tables e below (T2.setTop (mkF m 14 #[rv ta, iv 1] [(.int cc)])) _
    exact retN X2 hx (t := .char) Bd.returns (by simp) (hb hby ow22_14) hr
  · show QV (some (.int cc)) h0 n0 _ T2.heap _
    rw [e2]
    exact ⟨(congrArg (fun q => some (Value.int q)) hnc), N2, rfl⟩
theorem own_ef_own_l1c_32 (m : MethodId) {x0 : Addr} {x1 : Int32} : entryFrame m #[(.ref x0), (.int x1)] 2 = mkF m 0 #[rv x0, iv x1] [] := by first | (simp [entryFrame, mkF, argsToLocals, Value.category, maxLocals]; done) | rfl
set_option maxRecDepth 65536 in
set_option maxHeartbeats 40000000 in
theorem own_l1c_32 (l : Launch) (Z : State) (a0 : Array Value) (hw : ∀ d ∈ tables_1, d.before a0 Z = true) (ws : List Jvm.Cond) (h0 : Heap) (n0 : Nat) (Z0 : n0 ≤ h0.size) (ta : Addr) (kt : ClassId) (bz0 bz1 bz2 : Int32) (Vt : Arv Z h0 ta kt .byte (3 : Int32) [(.int bz0), (.int bz1), (.int bz2)] (.int (0 : Int32))) (cc : Int32) (hcc : ((bz2 &&& (255 : Int32)).toUInt32.toUInt16.toUInt32.toInt32) = cc) (hnc : nar .char cc = cc) (vF : Value) (hvF : vF.category = 1) (S_F : Sta Z h0 "jdk/internal/util/Preconditions" "SIOOBE_FORMATTER" "Ljava/util/function/BiFunction;" vF) :
    MetFree l ym19 (head1 (Jvm.Cond.code ym19 jdk_43_method_2_code 2 (some .char) :: ws) rm8) (fun a U => a = #[(.ref ta), (.int (2 : Int32))] ∧ Z.Warmed39 U.vm ∧ U.heap = h0) (fun _ _ _ _ _ => True) (fun _ U o U' => ∃ v L, o = .returned v ∧ QV (some (.int cc)) h0 n0 v U'.heap L ∧ FrameEnd U o U' L rm8.cells rm8.slots) := by
  refine MetFree.of_bodySF (plainFor_of_name own_pn_java_lang_StringLatin1) hisR ?_
  intro p e s m args below meth c s₁ Bd hml0 hP hK
  obtain ⟨rfl, hZ, hh⟩ := hP
  have hx := Bd.exec
  have hby := Bd.bytes
  have hml : c.maxLocals = 2 := hml0
  have hown : s.vm.findClass "java/lang/StringLatin1" = some m.cls := (findClass_of_methodNamed Bd.named :)
  have hnm := (name_of_methodNamed Bd.named Bd.method).1
  have X0 : Stand p l e rm8 s m #[(.ref ta), (.int (2 : Int32))] below meth c s₁ [] 0 0 := Stand.of_body Bd
  have e0 : s₁.heap = h0 := by rw [← hh, Bd.state]; rfl
  have N0 := Fr.nil n0
  have pre0 : ∀ t, SP p e below s₁ (mkF m 0 #[rv ta, iv 2] []) t → SP p e below s₁ (entryFrame m #[(.ref ta), (.int (2 : Int32))] 2) t := fun t k => castTop (own_ef_own_l1c_32 m) k
  obtain ⟨cl1, Ar1, -, Sz1, Ng1, -, -⟩ := id Vt
  obtain ⟨vv2, _, ⟨T2, L2, kk2, nn2⟩, -, X2, ⟨Lc2, hQ2, l2, y2, z2⟩, st2⟩ := Jvm.LawKit.callS X0 hx (y := ym10) hown (mvT hZ (own_wi hw 137 rfl)) (mvT hZ (own_wi hw 138 rfl)) (mvT hZ (own_wi hw 11 rfl)) (mvT hZ (own_wi hw 139 rfl)) (by decide) (backOf (W := 0) (own_cix l Z a0 hw [] h0 n0 (Nat.le_trans Z0 (Keep.refl h0 []).1) (2 : Int32) (3 : Int32) (by decide) (by decide) vF hvF S_F) hZ (own_wi hw 139 rfl) (own_wi hw 11 rfl) (by decide) (by decide)) (g := (mkF m 3 #[rv ta, iv 2] [(.int (3 : Int32)), (.int (2 : Int32))])) rfl (by rw [hml]; rfl) (argsL := [(.int (2 : Int32)), (.int (3 : Int32))]) (rest := []) (lenOf own_pd__II_V rfl) rfl (by show 2 * 0 + _ ≤ _; exact Nat.le_of_eq rfl) (hb hby ow22_3) (fun _ _ => ⟨rfl, e0, (by decide : 0 + 0 ≤ _), (by decide : 0 + 0 ≤ _)⟩)
  dsimp only [Pt.U, Pt.locs, Pt.cells, Pt.slots] at X2 l2 y2 z2 st2 hQ2
  subst l2 y2 z2
  obtain ⟨rfl, Nq2, e2⟩ := hQ2
  have N2 := Fr.app N0 Nq2
  have ch3 : ∀ t, SP p e below T2 (mkF m 6 #[rv ta, iv 2] []) t → SP p e below s₁ (entryFrame m #[(.ref ta), (.int (2 : Int32))] 2) t := fun t k => pre0 t (by
      show SP p e below s₁ (mkF m 0 #[rv ta, iv 2] []) t
      refine XS.iloadN X0.here hx rfl (hb hby ow22_0) rfl ?_
      refine XS.aloadN X0.here hx rfl (hb hby ow22_1) rfl rfl ?_
      show SP p e below s₁ (mkF m 2 #[rv ta, iv 2] [(.ref ta), (.int (2 : Int32))]) t
      refine X0.arraylength hx (by rw [e0]; exact Ar1.1) (State.isArrayOf_alike hZ.alike Ar1.2.1) (g := (mkF m 2 #[rv ta, iv 2] [(.ref ta), (.int (2 : Int32))])) rfl rfl (hb hby ow22_2) _ ?_
      rw [len_of Sz1 Ng1]
      show SP p e below s₁ (mkF m 3 #[rv ta, iv 2] [(.int (3 : Int32)), (.int (2 : Int32))]) t
      exact st2 t k)
  obtain ⟨cl4, Ar4, -, Sz4, Ng4, Ha4, -⟩ := id Vt
  have hin4 : ¬ ((2 : Int32) < 0 ∨ cl4.slots.size ≤ ((2 : Int32)).toNatClampNeg) := inb_of Sz4 (by decide)
  have hat4 : cl4.slots[((2 : Int32)).toNatClampNeg]? = some (.int bz2) := Ha4.at hin4 rfl
  have ch5 : ∀ t, SP p e below T2 (mkF m 14 #[rv ta, iv 2] [(.int cc)]) t → SP p e below s₁ (entryFrame m #[(.ref ta), (.int (2 : Int32))] 2) t := fun t k => ch3 t (by
      show SP p e below T2 (mkF m 6 #[rv ta, iv 2] []) t
      refine XS.aloadN X2.here hx rfl (hb hby ow22_6) rfl rfl ?_
      refine XS.iloadN X2.here hx rfl (hb hby ow22_7) rfl ?_
      refine X2.baloadBytes hx (j := (2 : Int32)) (v := (.int bz2)) (by rw [e2]; exact Ar4.1) (State.isArrayOf_alike hZ.alike Ar4.2.1) Ar4.2.2 hin4 hat4 (g := (mkF m 8 #[rv ta, iv 2] [(.int (2 : Int32)), (.ref ta)])) rfl rfl (hb hby ow22_8) _ ?_
      refine XS.sipush X2.here hx rfl (hb hby ow22_9) ?_
      show SP p e below T2 (mkF m 12 #[rv ta, iv 2] [(.int (255 : Int32)), (.int bz2)]) t
      refine XS.iand X2.here hx rfl (hb hby ow22_12) rfl ?_
      show SP p e below T2 (mkF m 13 #[rv ta, iv 2] [(.int (bz2 &&& (255 : Int32)))]) t
      refine XS.i2c X2.here hx rfl (hb hby ow22_13) rfl ?_
      rw [hcc]
      exact k)
  obtain ⟨fs, hr, hrun, hended, hW, hsame⟩ := X2.leave (v := some (.int (nar .char cc))) (fun h => by rw [Bd.returns] at h; cases h)
  refine ⟨_, _, ch5 _ ?_, hrun, hended, _, _, rfl, ?_, ⟨_, rfl⟩, hW, hsame.mono (by decide) (by decide)⟩
  · show Steps p.tables e below (T2.setTop (mkF m 14 #[rv ta, iv 2] [(.int cc)])) _
    exact retN X2 hx (t := .char) Bd.returns (by simp) (hb hby ow22_14) hr
  · show QV (some (.int cc)) h0 n0 _ T2.heap _
    rw [e2]
    exact ⟨(congrArg (fun q => some (Value.int q)) hnc), N2, rfl⟩
theorem own_ef_own_cat (m : MethodId) {x0 : Addr} {x1 : Int32} : entryFrame m #[(.ref x0), (.int x1)] 2 = mkF m 0 #[rv x0, iv x1] [] := by first | (simp [entryFrame, mkF, argsToLocals, Value.category, maxLocals]; done) | rfl
set_option maxRecDepth 65536 in
set_option maxHeartbeats 40000000 in
theorem own_cat (l : Launch) (Z : State) (a0 : Array Value) (hw : ∀ d ∈ tables_1, d.before a0 Z = true) (ws : List Jvm.Cond) (h0 : Heap) (n0 : Nat) (Z0 : n0 ≤ h0.size) (so ta : Addr) (kt : ClassId) (nn : Int32) (ys : List Value) (Eo : Exa Z h0 so "java/lang/String") (Fc : Fld Z h0 so "java/lang/String" "coder" "B" (.int (0 : Int32))) (Fv : Fld Z h0 so "java/lang/String" "value" "[B" (.ref ta)) (Vt : Arv Z h0 ta kt .byte nn ys (.int (0 : Int32))) (i cc : Int32) (hnc : nar .char cc = cc) (HC : MetFree l ym19 (head1 (Jvm.Cond.code ym19 jdk_43_method_2_code 2 (some .char) :: []) rm8) (fun a U => a = #[(.ref ta), (.int i)] ∧ Z.Warmed39 U.vm ∧ U.heap = h0) (fun _ _ _ _ _ => True) (fun _ U o U' => ∃ v L, o = .returned v ∧ QV (some (.int cc)) h0 n0 v U'.heap L ∧ FrameEnd U o U' L rm8.cells rm8.slots)) (zC : Int32) (S_CS : Sta Z h0 "java/lang/String" "COMPACT_STRINGS" "Z" (.int zC)) (P5 : ¬ (zC = (0 : Int32))) :
    MetFree l ym8 (head1 (Jvm.Cond.code ym8 jdk_42_method_56_code 2 (some .char) :: ws) rm12) (fun a U => a = #[(.ref so), (.int i)] ∧ Z.Warmed39 U.vm ∧ U.heap = h0) (fun _ _ _ _ _ => True) (fun _ U o U' => ∃ v L, o = .returned v ∧ QV (some (.int cc)) h0 n0 v U'.heap L ∧ FrameEnd U o U' L rm12.cells rm12.slots) := by
  refine MetFree.of_bodySF (plainFor_of_name own_pn_java_lang_String) hisR ?_
  intro p e s m args below meth c s₁ Bd hml0 hP hK
  obtain ⟨rfl, hZ, hh⟩ := hP
  have hx := Bd.exec
  have hby := Bd.bytes
  have hml : c.maxLocals = 2 := hml0
  have hown : s.vm.findClass "java/lang/String" = some m.cls := (findClass_of_methodNamed Bd.named :)
  have hnm := (name_of_methodNamed Bd.named Bd.method).1
  have X0 : Stand p l e rm12 s m #[(.ref so), (.int i)] below meth c s₁ [] 0 0 := Stand.of_body Bd
  have e0 : s₁.heap = h0 := by rw [← hh, Bd.state]; rfl
  have N0 := Fr.nil n0
  have pre0 : ∀ t, SP p e below s₁ (mkF m 0 #[rv so, iv i] []) t → SP p e below s₁ (entryFrame m #[(.ref so), (.int i)] 2) t := fun t k => castTop (own_ef_own_cat m) k
  obtain ⟨cq1, kq1, qa1, qb1, qc1⟩ := isOf hZ e0 Eo
  obtain ⟨vv2, _, ⟨T2, L2, kk2, nn2⟩, -, X2, ⟨Lc2, hQ2, l2, y2, z2⟩, st2⟩ := X0.virtualBack hx (y := ym14) (z := ym14) hown (mvT hZ (own_wi hw 44 rfl)) (mvT hZ (own_wi hw 45 rfl)) (notFace_of_selects (args := #[]) (mvT hZ (own_wi hw 47 rfl))) (mvT hZ (own_wi hw 47 rfl)) (mvT hZ (own_wi hw 46 rfl)) (by decide) (backOf (W := 0) (own_isl l Z a0 hw [] h0 n0 (Nat.le_trans Z0 (Keep.refl h0 []).1) so Eo Fc zC S_CS P5) hZ (own_wi hw 48 rfl) (own_wi hw 11 rfl) (by decide) (by decide)) qa1 qc1 (g := (mkF m 1 #[rv so, iv i] [(.ref so)])) rfl (by rw [hml]; rfl) (Steps.refl _) (argsL := []) (rest := []) (lenOf own_pd___Z rfl) rfl (by show 2 * 0 + _ ≤ _; exact Nat.le_of_eq rfl) (hb hby ow23_1) (fun _ _ => ⟨rfl, e0, (by decide : 0 + 0 ≤ _), (by decide : 0 + 0 ≤ _)⟩)
  dsimp only [Pt.U, Pt.locs, Pt.cells, Pt.slots] at X2 l2 y2 z2 st2 hQ2
  subst l2 y2 z2
  obtain ⟨rfl, Nq2, e2⟩ := hQ2
  have N2 := Fr.app N0 Nq2
  have ch3 : ∀ t, SP p e below T2 (mkF m 4 #[rv so, iv i] [(.int (1 : Int32))]) t → SP p e below s₁ (entryFrame m #[(.ref so), (.int i)] 2) t := fun t k => pre0 t (by
      show SP p e below s₁ (mkF m 0 #[rv so, iv i] []) t
      refine XS.aloadN X0.here hx rfl (hb hby ow23_0) rfl rfl ?_
      show SP p e below s₁ (mkF m 1 #[rv so, iv i] [(.ref so)]) t
      exact st2.trans k)
  obtain ⟨T4, X4, e4, st4⟩ := getF X2 hx hZ hown (host := "") (Or.inl (own_wi hw 28 rfl)) Via.refl e2 Fv (g := (mkF m 8 #[rv so, iv i] [(.ref so)])) rfl rfl (hb hby ow23_8)
  have ch5 : ∀ t, SP p e below T4 (mkF m 11 #[rv so, iv i] [(.ref ta)]) t → SP p e below s₁ (entryFrame m #[(.ref so), (.int i)] 2) t := fun t k => ch3 t (by
      refine XS.ifNo X2.here hx rfl (hb hby ow23_4) rfl ((if0 _ _).trans (feq (by decide : ¬ (1 : Int32) = (0 : Int32))).1) ?_
      refine XS.aloadN X2.here hx rfl (hb hby ow23_7) rfl rfl ?_
      show SP p e below T2 (mkF m 8 #[rv so, iv i] [(.ref so)]) t
      exact st4 t k)
  obtain ⟨vv6, _, ⟨T6, L6, kk6, nn6⟩, -, X6, ⟨Lc6, hQ6, l6, y6, z6⟩, st6⟩ := Jvm.LawKit.callS X4 hx (y := ym19) hown (mvT hZ (own_wi hw 134 rfl)) (mvT hZ (own_wi hw 135 rfl)) (mvT hZ (own_wi hw 62 rfl)) (mvT hZ (own_wi hw 136 rfl)) (by decide) (backOf (W := 0) HC hZ (own_wi hw 136 rfl) (own_wi hw 62 rfl) (by decide) (by decide)) (g := (mkF m 12 #[rv so, iv i] [(.int i), (.ref ta)])) rfl (by rw [hml]; rfl) (argsL := [(.ref ta), (.int i)]) (rest := []) (lenOf own_pd___BI_C rfl) rfl (by show 2 * 0 + _ ≤ _; exact Nat.le_of_eq rfl) (hb hby ow23_12) (fun _ _ => ⟨rfl, e4, (by decide : 0 + 0 ≤ _), (by decide : 0 + 0 ≤ _)⟩)
  dsimp only [Pt.U, Pt.locs, Pt.cells, Pt.slots] at X6 l6 y6 z6 st6 hQ6
  subst l6 y6 z6
  obtain ⟨rfl, Nq6, e6⟩ := hQ6
  have N6 := Fr.app N2 Nq6
  have ch7 : ∀ t, SP p e below T6 (mkF m 15 #[rv so, iv i] [(.int cc)]) t → SP p e below s₁ (entryFrame m #[(.ref so), (.int i)] 2) t := fun t k => ch5 t (by
      show SP p e below T4 (mkF m 11 #[rv so, iv i] [(.ref ta)]) t
      refine XS.iloadN X4.here hx rfl (hb hby ow23_11) rfl ?_
      show SP p e below T4 (mkF m 12 #[rv so, iv i] [(.int i), (.ref ta)]) t
      exact st6 t k)
  obtain ⟨fs, hr, hrun, hended, hW, hsame⟩ := X6.leave (v := some (.int (nar .char cc))) (fun h => by rw [Bd.returns] at h; cases h)
  refine ⟨_, _, ch7 _ ?_, hrun, hended, _, _, rfl, ?_, ⟨_, rfl⟩, hW, hsame.mono (by decide) (by decide)⟩
  · show Steps p.tables e below (T6.setTop (mkF m 15 #[rv so, iv i] [(.int cc)])) _
    exact retN X6 hx (t := .char) Bd.returns (by simp) (hb hby ow23_15) hr
  · show QV (some (.int cc)) h0 n0 _ T6.heap _
    rw [e6]
    exact ⟨(congrArg (fun q => some (Value.int q)) hnc), N6, rfl⟩
theorem own_ef_own_draw_t (m : MethodId) {x0 : Int32} : entryFrame m #[(.int x0)] 1 = mkF m 0 #[iv x0] [] := by first | (simp [entryFrame, mkF, argsToLocals, Value.category, maxLocals]; done) | rfl
set_option maxRecDepth 65536 in
set_option maxHeartbeats 40000000 in
theorem own_draw_t (l : Launch) (Z : State) (a0 : Array Value) (hw : ∀ d ∈ tables_1, d.before a0 Z = true) (ws : List Jvm.Cond) (h0 : Heap) (n0 : Nat) (Z0 : n0 ≤ h0.size) (x1 : Int32) (h1 : ¬ (x1 &&& (1 : Int32)) = (0 : Int32)) :
    MetFree l ym1 (head1 (Jvm.Cond.code ym1 method_2_code 1 (some .char) :: ws) rm0) (fun a U => a = #[(.int x1)] ∧ Z.Warmed39 U.vm ∧ U.heap = h0) (fun _ _ _ _ _ => True) (fun _ U o U' => ∃ v L, o = .returned v ∧ QV (some (.int (35 : Int32))) h0 n0 v U'.heap L ∧ FrameEnd U o U' L rm0.cells rm0.slots) := by
  refine MetFree.of_bodySF (plainFor_of_name own_pn_com_example_leafwright_leafwright_ReferencesFragmentPinLaw) hisR ?_
  intro p e s m args below meth c s₁ Bd hml0 hP hK
  obtain ⟨rfl, hZ, hh⟩ := hP
  have hx := Bd.exec
  have hby := Bd.bytes
  have hml : c.maxLocals = 1 := hml0
  have hown : s.vm.findClass "com/example/leafwright/leafwright/ReferencesFragmentPinLaw" = some m.cls := (findClass_of_methodNamed Bd.named :)
  have hnm := (name_of_methodNamed Bd.named Bd.method).1
  have X0 : Stand p l e rm0 s m #[(.int x1)] below meth c s₁ [] 0 0 := Stand.of_body Bd
  have e0 : s₁.heap = h0 := by rw [← hh, Bd.state]; rfl
  have N0 := Fr.nil n0
  have pre0 : ∀ t, SP p e below s₁ (mkF m 0 #[iv x1] []) t → SP p e below s₁ (entryFrame m #[(.int x1)] 1) t := fun t k => castTop (own_ef_own_draw_t m) k
  have ch1 : ∀ t, SP p e below s₁ (mkF m 19 #[iv x1] [(.int (35 : Int32))]) t → SP p e below s₁ (entryFrame m #[(.int x1)] 1) t := fun t k => pre0 t (by
      show SP p e below s₁ (mkF m 0 #[iv x1] []) t
      refine XS.iloadN X0.here hx rfl (hb hby ow24_0) rfl ?_
      refine XS.iconst X0.here hx rfl (hb hby ow24_1) ?_
      show SP p e below s₁ (mkF m 2 #[iv x1] [(.int (1 : Int32)), (.int x1)]) t
      refine XS.iand X0.here hx rfl (hb hby ow24_2) rfl ?_
      refine XS.ifNo X0.here hx rfl (hb hby ow24_3) rfl ((if0 _ _).trans (feq h1).1) ?_
      refine XS.bipush X0.here hx rfl (hb hby ow24_6) ?_
      refine XS.goto X0.here hx rfl (pc0 := 8) (pc' := 19) rfl (hb hby ow24_8) (by decide) (by decide) ?_
      exact k)
  obtain ⟨fs, hr, hrun, hended, hW, hsame⟩ := X0.leave (v := some (.int (nar .char (35 : Int32)))) (fun h => by rw [Bd.returns] at h; cases h)
  refine ⟨_, _, ch1 _ ?_, hrun, hended, _, _, rfl, ?_, ⟨_, rfl⟩, hW, hsame.mono (by decide) (by decide)⟩
  · show Steps p.tables e below (s₁.setTop (mkF m 19 #[iv x1] [(.int (35 : Int32))])) _
    exact retN X0 hx (t := .char) Bd.returns (by simp) (hb hby ow24_19) hr
  · show QV (some (.int (35 : Int32))) h0 n0 _ s₁.heap _
    rw [e0]
    exact ⟨(by first | rfl | decide), N0, rfl⟩
theorem own_ef_own_draw_f (m : MethodId) {x0 : Int32} : entryFrame m #[(.int x0)] 1 = mkF m 0 #[iv x0] [] := by first | (simp [entryFrame, mkF, argsToLocals, Value.category, maxLocals]; done) | rfl
set_option maxRecDepth 65536 in
set_option maxHeartbeats 40000000 in
theorem own_draw_f (l : Launch) (Z : State) (a0 : Array Value) (hw : ∀ d ∈ tables_1, d.before a0 Z = true) (ws : List Jvm.Cond) (h0 : Heap) (n0 : Nat) (Z0 : n0 ≤ h0.size) (x1 cc : Int32) (h1 : (x1 &&& (1 : Int32)) = (0 : Int32)) (hcc : ((((x1.toUInt32 >>> ((1 : Int32) &&& 31).toUInt32).toInt32) &&& (255 : Int32)).toUInt32.toUInt16.toUInt32.toInt32) = cc) (hnc : nar .char cc = cc) :
    MetFree l ym1 (head1 (Jvm.Cond.code ym1 method_2_code 1 (some .char) :: ws) rm0) (fun a U => a = #[(.int x1)] ∧ Z.Warmed39 U.vm ∧ U.heap = h0) (fun _ _ _ _ _ => True) (fun _ U o U' => ∃ v L, o = .returned v ∧ QV (some (.int cc)) h0 n0 v U'.heap L ∧ FrameEnd U o U' L rm0.cells rm0.slots) := by
  refine MetFree.of_bodySF (plainFor_of_name own_pn_com_example_leafwright_leafwright_ReferencesFragmentPinLaw) hisR ?_
  intro p e s m args below meth c s₁ Bd hml0 hP hK
  obtain ⟨rfl, hZ, hh⟩ := hP
  have hx := Bd.exec
  have hby := Bd.bytes
  have hml : c.maxLocals = 1 := hml0
  have hown : s.vm.findClass "com/example/leafwright/leafwright/ReferencesFragmentPinLaw" = some m.cls := (findClass_of_methodNamed Bd.named :)
  have hnm := (name_of_methodNamed Bd.named Bd.method).1
  have X0 : Stand p l e rm0 s m #[(.int x1)] below meth c s₁ [] 0 0 := Stand.of_body Bd
  have e0 : s₁.heap = h0 := by rw [← hh, Bd.state]; rfl
  have N0 := Fr.nil n0
  have pre0 : ∀ t, SP p e below s₁ (mkF m 0 #[iv x1] []) t → SP p e below s₁ (entryFrame m #[(.int x1)] 1) t := fun t k => castTop (own_ef_own_draw_f m) k
  have ch1 : ∀ t, SP p e below s₁ (mkF m 19 #[iv x1] [(.int cc)]) t → SP p e below s₁ (entryFrame m #[(.int x1)] 1) t := fun t k => pre0 t (by
      show SP p e below s₁ (mkF m 0 #[iv x1] []) t
      refine XS.iloadN X0.here hx rfl (hb hby ow24_0) rfl ?_
      refine XS.iconst X0.here hx rfl (hb hby ow24_1) ?_
      show SP p e below s₁ (mkF m 2 #[iv x1] [(.int (1 : Int32)), (.int x1)]) t
      refine XS.iand X0.here hx rfl (hb hby ow24_2) rfl ?_
      refine XS.ifYes X0.here hx rfl (pc0 := 3) (pc' := 11) rfl (hb hby ow24_3) rfl ((if0 _ _).trans (teq h1).1) (by decide) (by decide) ?_
      refine XS.iloadN X0.here hx rfl (hb hby ow24_11) rfl ?_
      refine XS.iconst X0.here hx rfl (hb hby ow24_12) ?_
      show SP p e below s₁ (mkF m 13 #[iv x1] [(.int (1 : Int32)), (.int x1)]) t
      refine XS.iushr X0.here hx rfl (hb hby ow24_13) rfl ?_
      refine XS.sipush X0.here hx rfl (hb hby ow24_14) ?_
      show SP p e below s₁ (mkF m 17 #[iv x1] [(.int (255 : Int32)), (.int ((x1.toUInt32 >>> ((1 : Int32) &&& 31).toUInt32).toInt32))]) t
      refine XS.iand X0.here hx rfl (hb hby ow24_17) rfl ?_
      show SP p e below s₁ (mkF m 18 #[iv x1] [(.int (((x1.toUInt32 >>> ((1 : Int32) &&& 31).toUInt32).toInt32) &&& (255 : Int32)))]) t
      refine XS.i2c X0.here hx rfl (hb hby ow24_18) rfl ?_
      rw [hcc]
      exact k)
  obtain ⟨fs, hr, hrun, hended, hW, hsame⟩ := X0.leave (v := some (.int (nar .char cc))) (fun h => by rw [Bd.returns] at h; cases h)
  refine ⟨_, _, ch1 _ ?_, hrun, hended, _, _, rfl, ?_, ⟨_, rfl⟩, hW, hsame.mono (by decide) (by decide)⟩
  · show Steps p.tables e below (s₁.setTop (mkF m 19 #[iv x1] [(.int cc)])) _
    exact retN X0 hx (t := .char) Bd.returns (by simp) (hb hby ow24_19) hr
  · show QV (some (.int cc)) h0 n0 _ s₁.heap _
    rw [e0]
    exact ⟨(congrArg (fun q => some (Value.int q)) hnc), N0, rfl⟩
theorem own_ef_own_sin4 (m : MethodId) {x0 : Addr} {x1 : Addr} {x2 : Int32} {x3 : Int32} : entryFrame m #[(.ref x0), (.ref x1), (.int x2), (.int x3), .null] 6 = mkF m 0 #[rv x0, rv x1, iv x2, iv x3, .val .null, .unset] [] := by first | (simp [entryFrame, mkF, argsToLocals, Value.category, maxLocals]; done) | rfl
set_option maxRecDepth 65536 in
set_option maxHeartbeats 40000000 in
theorem own_sin4 (l : Launch) (Z : State) (a0 : Array Value) (hw : ∀ d ∈ tables_1, d.before a0 Z = true) (ws : List Jvm.Cond) (h0 : Heap) (n0 : Nat) (Z0 : n0 ≤ h0.size) (b ca : Addr) (E : Exa Z h0 b "java/lang/String") (F1 : Fld Z h0 b "java/lang/String" "value" "[B" .null) (F2 : Fld Z h0 b "java/lang/String" "coder" "B" (.int (0 : Int32))) (g : n0 ≤ b) :
    MetFree l (⟨"java/lang/String", "<init>", "([CIILjava/lang/Void;)V"⟩ : MethodName) (head1 (Jvm.Cond.code (⟨"java/lang/String", "<init>", "([CIILjava/lang/Void;)V"⟩ : MethodName) jdk_42_method_149_code 6 none :: ws) rm7) (fun a U => a = #[(.ref b), (.ref ca), (.int (0 : Int32)), (.int (0 : Int32)), .null] ∧ Z.Warmed39 U.vm ∧ U.heap = h0 ∧ CHv Z consts_1 U.vm h0) (fun _ _ _ _ _ => True) (fun _ U o U' => ∃ v L, o = .returned v ∧ QI0 Z b h0 n0 v U'.heap L ∧ ReturnedEndW U o U' L rm7.cells rm7.slots) := by
  refine MetFree.of_bodySF (plainFor_of_name own_pn_java_lang_String) hisR ?_
  intro p e s m args below meth c s₁ Bd hml0 hP hK
  obtain ⟨rfl, hZ, hh, hC⟩ := hP
  have hx := Bd.exec
  have hby := Bd.bytes
  have hml : c.maxLocals = 6 := hml0
  have hown : s.vm.findClass "java/lang/String" = some m.cls := (findClass_of_methodNamed Bd.named :)
  have hnm := (name_of_methodNamed Bd.named Bd.method).1
  have X0 : Stand p l e rm7 (s.setVm s.vm) m #[(.ref b), (.ref ca), (.int (0 : Int32)), (.int (0 : Int32)), .null] below meth c s₁ [] 0 0 := Stand.of_body Bd
  have hZ : Z.Warmed39 (s.setVm s.vm).vm := hZ
  have hown : (s.setVm s.vm).vm.findClass "java/lang/String" = some m.cls := hown
  have hS : s.Since s.vm 0 := (State.WarmedH.refl s).since 0
  have hk : 0 ≤ h0.size := Nat.zero_le _
  have e0 : s₁.heap = h0 := by rw [← hh, Bd.state]; rfl
  have N0 := Fr.nil n0
  have pre0 : ∀ t, SP p e below s₁ (mkF m 0 #[rv b, rv ca, iv 0, iv 0, .val .null, .unset] []) t → SP p e below s₁ (entryFrame m #[(.ref b), (.ref ca), (.int (0 : Int32)), (.int (0 : Int32)), .null] 6) t := fun t k => castTop (own_ef_own_sin4 m) k
  obtain ⟨T1, X1, e1, st1⟩ := initO X0 hx hZ hown (own_wi hw 19 rfl) (own_wi hw 20 rfl) (own_wi hw 21 rfl) e0 (g := (mkF m 1 #[rv b, rv ca, iv 0, iv 0, .val .null, .unset] [(.ref b)])) rfl (by rw [hml]; rfl) rfl (hb hby ow25_1) (by decide) (W := 0) (by show 2 * 0 + _ ≤ _; exact Nat.le_of_eq rfl) (by decide)
  have ch2 : ∀ t, SP p e below T1 (mkF m 4 #[rv b, rv ca, iv 0, iv 0, .val .null, .unset] []) t → SP p e below s₁ (entryFrame m #[(.ref b), (.ref ca), (.int (0 : Int32)), (.int (0 : Int32)), .null] 6) t := fun t k => pre0 t (by
      show SP p e below s₁ (mkF m 0 #[rv b, rv ca, iv 0, iv 0, .val .null, .unset] []) t
      refine XS.aloadN X0.here hx rfl (hb hby ow25_0) rfl rfl ?_
      show SP p e below s₁ (mkF m 1 #[rv b, rv ca, iv 0, iv 0, .val .null, .unset] [(.ref b)]) t
      exact st1 t k)
  have ch3 : ∀ t, SP p e below T1 (mkF m 9 #[rv b, rv ca, iv 0, iv 0, .val .null, .unset] [(.ref b)]) t → SP p e below s₁ (entryFrame m #[(.ref b), (.ref ca), (.int (0 : Int32)), (.int (0 : Int32)), .null] 6) t := fun t k => ch2 t (by
      show SP p e below T1 (mkF m 4 #[rv b, rv ca, iv 0, iv 0, .val .null, .unset] []) t
      refine XS.iloadN X1.here hx rfl (hb hby ow25_4) rfl ?_
      refine XS.ifNo X1.here hx rfl (hb hby ow25_5) rfl ((if0 _ _).trans (teq (by decide : (0 : Int32) = (0 : Int32))).2) ?_
      refine XS.aloadN X1.here hx rfl (hb hby ow25_8) rfl rfl ?_
      exact k)
  obtain ⟨ls4, T4, hp4, ks4, tb4, kb4, X4, e4, E4, hS, hk, hZ, hown, Ex4, Fc4, Fv4, Av4, -, -, -, hL4, -, st4⟩ := ldcCH X1 hx hZ hown (own_wi hw 22 rfl) (own_wS hw) e1 hS hk (own_EW hw) (by decide) hC (vs := []) (z := (0 : Int32)) ⟨by simp, rfl⟩ (by decide) rfl (g := (mkF m 9 #[rv b, rv ca, iv 0, iv 0, .val .null, .unset] [(.ref b)])) rfl (hb hby ow25_9) (n := 0) (by decide) (by decide) (by decide) (by decide)
  have ne_b_ls4 : b ≠ ls4 := Fld.ne (F1.ext E4) Fv4 (fun q => by cases q)
  have ne_b_tb4 : b ≠ tb4 := Exa.neArv (E.ext E4) Av4 (own_wi hw 10 rfl)
  have Kp4 := Keep.ext (Keep.refl h0 [b]) E4
  have ch5 : ∀ t, SP p e below T4 (mkF m 11 #[rv b, rv ca, iv 0, iv 0, .val .null, .unset] [(.ref ls4), (.ref b)]) t → SP p e below s₁ (entryFrame m #[(.ref b), (.ref ca), (.int (0 : Int32)), (.int (0 : Int32)), .null] 6) t := fun t k => ch3 t (by
      show SP p e below T1 (mkF m 9 #[rv b, rv ca, iv 0, iv 0, .val .null, .unset] [(.ref b)]) t
      exact st4 t k)
  obtain ⟨T6, X6, e6, st6⟩ := getF X4 hx hZ hown (host := "") (Or.inl (own_wi hw 28 rfl)) Via.refl e4 Fv4 (g := (mkF m 11 #[rv b, rv ca, iv 0, iv 0, .val .null, .unset] [(.ref ls4), (.ref b)])) rfl rfl (hb hby ow25_11)
  have ch7 : ∀ t, SP p e below T6 (mkF m 14 #[rv b, rv ca, iv 0, iv 0, .val .null, .unset] [(.ref tb4), (.ref b)]) t → SP p e below s₁ (entryFrame m #[(.ref b), (.ref ca), (.int (0 : Int32)), (.int (0 : Int32)), .null] 6) t := fun t k => ch5 t (by
      show SP p e below T4 (mkF m 11 #[rv b, rv ca, iv 0, iv 0, .val .null, .unset] [(.ref ls4), (.ref b)]) t
      exact st6 t k)
  have cf8 := (F1.ext E4)
  have cf9 := (E.ext E4)
  obtain ⟨T10, hp10, X10, e10, W10, st10⟩ := putF X6 hx hZ hown (host := "") (Or.inl (own_wi hw 28 rfl)) Via.refl e6 cf8 cf9 (Or.inr ⟨(own_wi hw 24 rfl), rfl, hnm⟩) (own_wi hw 10 rfl) (ty := (.array .byte)) (by decide) rfl rfl (g := (mkF m 14 #[rv b, rv ca, iv 0, iv 0, .val .null, .unset] [(.ref tb4), (.ref b)])) rfl rfl (hb hby ow25_14)
  have ch11 : ∀ t, SP p e below T10 (mkF m 17 #[rv b, rv ca, iv 0, iv 0, .val .null, .unset] []) t → SP p e below s₁ (entryFrame m #[(.ref b), (.ref ca), (.int (0 : Int32)), (.int (0 : Int32)), .null] 6) t := fun t k => ch7 t (by
      show SP p e below T6 (mkF m 14 #[rv b, rv ca, iv 0, iv 0, .val .null, .unset] [(.ref tb4), (.ref b)]) t
      exact st10 t k)
  have Fw10 := Fld.same W10 cf8
  have hk := Nat.le_trans hk (Keep.of_wr W10).1
  have N10 := Fr.snoc X10 N0 g
  have Kp10 := Keep.wr Kp4 W10 (Or.inl (List.mem_of_getElem? (i := 0) rfl))
  have cf12 := (Fld.other W10 Fc4 (Or.inl (Ne.symm ne_b_ls4)))
  obtain ⟨T13, X13, e13, st13⟩ := getF X10 hx hZ hown (host := "") (Or.inl (own_wi hw 29 rfl)) Via.refl e10 cf12 (g := (mkF m 20 #[rv b, rv ca, iv 0, iv 0, .val .null, .unset] [(.ref ls4), (.ref b)])) rfl rfl (hb hby ow25_20)
  have ch14 : ∀ t, SP p e below T13 (mkF m 23 #[rv b, rv ca, iv 0, iv 0, .val .null, .unset] [(.int (0 : Int32)), (.ref b)]) t → SP p e below s₁ (entryFrame m #[(.ref b), (.ref ca), (.int (0 : Int32)), (.int (0 : Int32)), .null] 6) t := fun t k => ch11 t (by
      show SP p e below T10 (mkF m 17 #[rv b, rv ca, iv 0, iv 0, .val .null, .unset] []) t
      refine XS.aloadN X10.here hx rfl (hb hby ow25_17) rfl rfl ?_
      refine ldcAgain X10 hx hZ hown (own_wi hw 22 rfl) hL4 (g := (mkF m 18 #[rv b, rv ca, iv 0, iv 0, .val .null, .unset] [(.ref b)])) rfl (hb hby ow25_18) _ ?_
      show SP p e below T10 (mkF m 20 #[rv b, rv ca, iv 0, iv 0, .val .null, .unset] [(.ref ls4), (.ref b)]) t
      exact st13 t k)
  have cf15 := (Fld.other W10 (F2.ext E4) (Or.inr (slot_ne (Or.inr (own_wi hw 25 rfl)) (Or.inr (own_wi hw 24 rfl)) (by decide) (t := .byte) (t' := (.array .byte)) (by decide) (by decide))))
  have cf16 := (Exa.wr W10 cf9)
  obtain ⟨T17, hp17, X17, e17, W17, st17⟩ := putFN X13 hx hZ hown (own_wi hw 29 rfl) Via.refl e13 cf15 cf16 (Or.inr ⟨(own_wi hw 25 rfl), rfl, hnm⟩) (own_wi hw 10 rfl) (ty := .byte) (v' := (.int (0 : Int32))) (by decide) (by first | rfl | decide) (by first | rfl | decide) (g := (mkF m 23 #[rv b, rv ca, iv 0, iv 0, .val .null, .unset] [(.int (0 : Int32)), (.ref b)])) rfl rfl (hb hby ow25_23)
  have ch18 : ∀ t, SP p e below T17 (mkF m 26 #[rv b, rv ca, iv 0, iv 0, .val .null, .unset] []) t → SP p e below s₁ (entryFrame m #[(.ref b), (.ref ca), (.int (0 : Int32)), (.int (0 : Int32)), .null] 6) t := fun t k => ch14 t (by
      show SP p e below T13 (mkF m 23 #[rv b, rv ca, iv 0, iv 0, .val .null, .unset] [(.int (0 : Int32)), (.ref b)]) t
      exact st17 t k)
  have Fw17 := Fld.same W17 cf15
  have hk := Nat.le_trans hk (Keep.of_wr W17).1
  have N17 := Fr.snoc X17 N10 g
  have Kp17 := Keep.wr Kp10 W17 (Or.inl (List.mem_of_getElem? (i := 0) rfl))
  have cf19 := (Exa.wr W17 cf16)
  have cf20 := (Fld.other W17 Fw10 (Or.inr (slot_ne (Or.inr (own_wi hw 24 rfl)) (Or.inr (own_wi hw 25 rfl)) (by decide) (t := (.array .byte)) (t' := .byte) (by decide) (by decide))))
  have cf21 := ((Av4.other W10 (Ne.symm ne_b_tb4)).other W17 (Ne.symm ne_b_tb4))
  obtain ⟨fs, hr, hrun, hended, hend⟩ := X17.leaveW hS (by rw [e17]; exact hk) (v := none) (fun _ => rfl)
  refine ⟨_, _, ch18 _ ?_, hrun, hended, _, _, rfl, ?_, hend.1, hend.2.1, hend.2.2.1, hend.2.2.2.mono (by decide) (by decide)⟩
  · show Steps p.tables e below (T17.setTop (mkF m 26 #[rv b, rv ca, iv 0, iv 0, .val .null, .unset] [])) _
    exact X17.returnOut hx Bd.returns (hb hby ow25_26) hr
  · show QI0 Z b h0 n0 _ T17.heap _
    rw [e17]
    exact ⟨_, _, rfl, N17, Kp17, cf19, Fw17, cf20, cf21⟩
theorem own_ef_own_sin0 (m : MethodId) {x0 : Addr} {x1 : Addr} : entryFrame m #[(.ref x0), (.ref x1)] 2 = mkF m 0 #[rv x0, rv x1] [] := by first | (simp [entryFrame, mkF, argsToLocals, Value.category, maxLocals]; done) | rfl
set_option maxRecDepth 65536 in
set_option maxHeartbeats 40000000 in
theorem own_sin0 (l : Launch) (Z : State) (a0 : Array Value) (hw : ∀ d ∈ tables_1, d.before a0 Z = true) (ws : List Jvm.Cond) (h0 : Heap) (n0 : Nat) (Z0 : n0 ≤ h0.size) (b ca : Addr) (kc : ClassId) (Vc : Arv Z h0 ca kc .char (0 : Int32) [] (.int (0 : Int32))) (E : Exa Z h0 b "java/lang/String") (F1 : Fld Z h0 b "java/lang/String" "value" "[B" .null) (F2 : Fld Z h0 b "java/lang/String" "coder" "B" (.int (0 : Int32))) (g : n0 ≤ b) :
    MetFree l ym6 (head1 (Jvm.Cond.code ym6 jdk_42_method_3_code 2 none :: ws) rm11) (fun a U => a = #[(.ref b), (.ref ca)] ∧ Z.Warmed39 U.vm ∧ U.heap = h0 ∧ CHv Z consts_1 U.vm h0) (fun _ _ _ _ _ => True) (fun _ U o U' => ∃ v L, o = .returned v ∧ QI0 Z b h0 n0 v U'.heap L ∧ ReturnedEndW U o U' L rm11.cells rm11.slots) := by
  refine MetFree.of_bodySF (plainFor_of_name own_pn_java_lang_String) hisR ?_
  intro p e s m args below meth c s₁ Bd hml0 hP hK
  obtain ⟨rfl, hZ, hh, hC⟩ := hP
  have hx := Bd.exec
  have hby := Bd.bytes
  have hml : c.maxLocals = 2 := hml0
  have hown : s.vm.findClass "java/lang/String" = some m.cls := (findClass_of_methodNamed Bd.named :)
  have hnm := (name_of_methodNamed Bd.named Bd.method).1
  have X0 : Stand p l e rm11 (s.setVm s.vm) m #[(.ref b), (.ref ca)] below meth c s₁ [] 0 0 := Stand.of_body Bd
  have hZ : Z.Warmed39 (s.setVm s.vm).vm := hZ
  have hown : (s.setVm s.vm).vm.findClass "java/lang/String" = some m.cls := hown
  have hS : s.Since s.vm 0 := (State.WarmedH.refl s).since 0
  have hk : 0 ≤ h0.size := Nat.zero_le _
  have e0 : s₁.heap = h0 := by rw [← hh, Bd.state]; rfl
  have N0 := Fr.nil n0
  have pre0 : ∀ t, SP p e below s₁ (mkF m 0 #[rv b, rv ca] []) t → SP p e below s₁ (entryFrame m #[(.ref b), (.ref ca)] 2) t := fun t k => castTop (own_ef_own_sin0 m) k
  obtain ⟨cl1, Ar1, -, Sz1, Ng1, -, -⟩ := id Vc
  have ch2 : ∀ t, SP p e below s₁ (mkF m 6 #[rv b, rv ca] [.null, (.int (0 : Int32)), (.int (0 : Int32)), (.ref ca), (.ref b)]) t → SP p e below s₁ (entryFrame m #[(.ref b), (.ref ca)] 2) t := fun t k => pre0 t (by
      show SP p e below s₁ (mkF m 0 #[rv b, rv ca] []) t
      refine XS.aloadN X0.here hx rfl (hb hby ow26_0) rfl rfl ?_
      refine XS.aloadN X0.here hx rfl (hb hby ow26_1) rfl rfl ?_
      refine XS.iconst X0.here hx rfl (hb hby ow26_2) ?_
      refine XS.aloadN X0.here hx rfl (hb hby ow26_3) rfl rfl ?_
      show SP p e below s₁ (mkF m 4 #[rv b, rv ca] [(.ref ca), (.int (0 : Int32)), (.ref ca), (.ref b)]) t
      refine X0.arraylength hx (by rw [e0]; exact Ar1.1) (State.isArrayOf_alike hZ.alike Ar1.2.1) (g := (mkF m 4 #[rv b, rv ca] [(.ref ca), (.int (0 : Int32)), (.ref ca), (.ref b)])) rfl rfl (hb hby ow26_4) _ ?_
      rw [len_of Sz1 Ng1]
      refine XS.aconstNull X0.here hx rfl (hb hby ow26_5) ?_
      exact k)
  obtain ⟨vv3, _, ⟨T3, L3, kk3, nn3⟩, -, X3, hS2, hgr, ⟨Lc3, hQ3, l3, y3, z3⟩, st3⟩ := X0.specialBackS hx (y := (⟨"java/lang/String", "<init>", "([CIILjava/lang/Void;)V"⟩ : MethodName)) rfl hown (mvT hZ (own_wi hw 15 rfl)) (mvT hZ (own_wi hw 16 rfl)) (mvT hZ (own_wi hw 18 rfl)) (by decide) (own_backC (W := 0) (own_sin4 l Z a0 hw [] h0 n0 (Nat.le_trans Z0 (Keep.refl h0 [b]).1) b ca  E F1 F2 g) hZ (own_wi hw 18 rfl) (own_wi hw 11 rfl) (by decide) (by decide) (own_EW hw) hC) (g := (mkF m 6 #[rv b, rv ca] [.null, (.int (0 : Int32)), (.int (0 : Int32)), (.ref ca), (.ref b)])) rfl (by rw [hml]; rfl) (Steps.refl _) (a := b) (argsL := [(.ref ca), (.int (0 : Int32)), (.int (0 : Int32)), .null]) (rest := []) (lenOf own_pd___CIILjava_lang_Void__V rfl) rfl (by show 2 * 0 + _ ≤ _; exact Nat.le_of_eq rfl) (hb hby ow26_6) (fun _ _ => ⟨rfl, e0, (by decide : 0 + 2 ≤ _), (by decide : 0 + 4 ≤ _)⟩)
  dsimp only [Pt.U, Pt.locs, Pt.cells, Pt.slots] at X3 l3 y3 z3 st3 hQ3 hS2 hgr
  subst l3 y3 z3
  obtain ⟨X3, hS, hZ, hown⟩ := rebS hS (by rw [e0]; exact hk) X3 hS2 hgr hZ hown
  obtain ⟨hh3, eh3⟩ : ∃ h, T3.heap = h := ⟨_, rfl⟩
  rw [eh3] at hQ3
  rw [eh3] at hS
  have hk : hh3.size ≤ hh3.size := Nat.le_refl _
  obtain ⟨te, ke, rfl, Nq3, Kq3, fq3_0, fq3_1, fq3_2, fq3_3⟩ := hQ3
  have N3 := Fr.app N0 Nq3
  have Kp3 := Keep.trans (Keep.refl h0 [b]) Kq3 (allS (Or.inl (List.mem_of_getElem? (i := 0) rfl)) all0)
  have ch4 : ∀ t, SP p e below T3 (mkF m 9 #[rv b, rv ca] []) t → SP p e below s₁ (entryFrame m #[(.ref b), (.ref ca)] 2) t := fun t k => ch2 t (by
      show SP p e below s₁ (mkF m 6 #[rv b, rv ca] [.null, (.int (0 : Int32)), (.int (0 : Int32)), (.ref ca), (.ref b)]) t
      exact st3.trans k)
  obtain ⟨fs, hr, hrun, hended, hend⟩ := X3.leaveW hS (by rw [eh3]; exact hk) (v := none) (fun _ => rfl)
  refine ⟨_, _, ch4 _ ?_, hrun, hended, _, _, rfl, ?_, hend.1, hend.2.1, hend.2.2.1, hend.2.2.2.mono (by decide) (by decide)⟩
  · show Steps p.tables e below (T3.setTop (mkF m 9 #[rv b, rv ca] [])) _
    exact X3.returnOut hx Bd.returns (hb hby ow26_9) hr
  · show QI0 Z b h0 n0 _ T3.heap _
    rw [eh3]
    exact ⟨_, _, rfl, N3, Kp3, fq3_0, fq3_1, fq3_2, fq3_3⟩
theorem own_ef_own_make_0 (m : MethodId) {x0 : Int32} {x1 : Int32} {x2 : Int32} {x3 : Int32} {x4 : Int32} : entryFrame m #[(.int x0), (.int x1), (.int x2), (.int x3), (.int x4)] 5 = mkF m 0 #[iv x0, iv x1, iv x2, iv x3, iv x4] [] := by first | (simp [entryFrame, mkF, argsToLocals, Value.category, maxLocals]; done) | rfl
set_option maxRecDepth 65536 in
set_option maxHeartbeats 40000000 in
theorem own_make_0 (l : Launch) (Z : State) (a0 : Array Value) (hw : ∀ d ∈ tables_1, d.before a0 Z = true) (ws : List Jvm.Cond) (h0 : Heap) (n0 : Nat) (Z0 : n0 ≤ h0.size) (d0 d1 d2 d3 : Int32) (r0 : ¬ d0 < 0 ∧ ¬ (255 : Int32) < d0) (r1 : ¬ d1 < 0 ∧ ¬ (255 : Int32) < d1) (r2 : ¬ d2 < 0 ∧ ¬ (255 : Int32) < d2) (r3 : ¬ d3 < 0 ∧ ¬ (255 : Int32) < d3) (zC : Int32) (S_CS : Sta Z h0 "java/lang/String" "COMPACT_STRINGS" "Z" (.int zC)) (P5 : ¬ (zC = (0 : Int32))) :
    MetFree l ym2 (head1 (Jvm.Cond.code ym2 method_3_code 5 (some (.object "java/lang/String")) :: ws) rm16) (fun a U => a = #[(.int (0 : Int32)), (.int d0), (.int d1), (.int d2), (.int d3)] ∧ Z.Warmed39 U.vm ∧ U.heap = h0 ∧ CHv Z consts_1 U.vm h0) (fun _ _ _ _ _ => True) (fun _ U o U' => ∃ v L, o = .returned v ∧ QS Z (0 : Int32) [] h0 n0 v U'.heap L ∧ ReturnedEndW U o U' L rm16.cells rm16.slots) := by
  refine MetFree.of_bodySF (plainFor_of_name own_pn_com_example_leafwright_leafwright_ReferencesFragmentPinLaw) hisR ?_
  intro p e s m args below meth c s₁ Bd hml0 hP hK
  obtain ⟨rfl, hZ, hh, hC⟩ := hP
  have hx := Bd.exec
  have hby := Bd.bytes
  have hml : c.maxLocals = 5 := hml0
  have hown : s.vm.findClass "com/example/leafwright/leafwright/ReferencesFragmentPinLaw" = some m.cls := (findClass_of_methodNamed Bd.named :)
  have hnm := (name_of_methodNamed Bd.named Bd.method).1
  have X0 : Stand p l e rm16 (s.setVm s.vm) m #[(.int (0 : Int32)), (.int d0), (.int d1), (.int d2), (.int d3)] below meth c s₁ [] 0 0 := Stand.of_body Bd
  have hZ : Z.Warmed39 (s.setVm s.vm).vm := hZ
  have hown : (s.setVm s.vm).vm.findClass "com/example/leafwright/leafwright/ReferencesFragmentPinLaw" = some m.cls := hown
  have hS : s.Since s.vm 0 := (State.WarmedH.refl s).since 0
  have hk : 0 ≤ h0.size := Nat.zero_le _
  have e0 : s₁.heap = h0 := by rw [← hh, Bd.state]; rfl
  have N0 := Fr.nil n0
  have pre0 : ∀ t, SP p e below s₁ (mkF m 0 #[iv 0, iv d0, iv d1, iv d2, iv d3] []) t → SP p e below s₁ (entryFrame m #[(.int (0 : Int32)), (.int d0), (.int d1), (.int d2), (.int d3)] 5) t := fun t k => castTop (own_ef_own_make_0 m) k
  obtain ⟨T1, hp1, X1, e1, E1, A1, D1, -, st1⟩ := newO X0 hx hZ hown (own_wi hw 9 rfl) (own_wi hw 10 rfl) (own_wi hw 11 rfl) e0 (g := (mkF m 4 #[iv 0, iv d0, iv d1, iv d2, iv d3] [])) rfl (hb hby ow27_4) (by decide) (by decide)
  obtain ⟨b1, g1⟩ : ∃ z, z = h0.size := ⟨_, rfl⟩
  rw [← g1] at A1 D1 st1
  have g_b1 : n0 ≤ b1 := Nat.le_trans (Nat.le_trans Z0 (Keep.refl h0 []).1) (Nat.le_of_eq g1.symm)
  have sz_b1 : h0.size ≤ b1 := Nat.le_trans (Keep.refl h0 []).1 (Nat.le_of_eq g1.symm)
  have hk := Nat.le_trans hk E1.1
  have Kp1 := Keep.ext (Keep.refl h0 []) E1
  have F1_24 : Fld Z hp1 b1 "java/lang/String" "value" "[B" .null := D1 (Or.inr (own_wi hw 24 rfl)) (ty := (.array .byte)) (by decide)
  have F1_25 : Fld Z hp1 b1 "java/lang/String" "coder" "B" (.int (0 : Int32)) := D1 (Or.inr (own_wi hw 25 rfl)) (ty := .byte) (by decide)
  have ch2 : ∀ t, SP p e below T1 (mkF m 7 #[iv 0, iv d0, iv d1, iv d2, iv d3] [(.ref b1)]) t → SP p e below s₁ (entryFrame m #[(.int (0 : Int32)), (.int d0), (.int d1), (.int d2), (.int d3)] 5) t := fun t k => pre0 t (by
      show SP p e below s₁ (mkF m 0 #[iv 0, iv d0, iv d1, iv d2, iv d3] []) t
      refine XS.iloadN X0.here hx rfl (hb hby ow27_0) rfl ?_
      refine XS.ifNo X0.here hx rfl (hb hby ow27_1) rfl ((if0 _ _).trans (teq (by decide : (0 : Int32) = (0 : Int32))).2) ?_
      show SP p e below s₁ (mkF m 4 #[iv 0, iv d0, iv d1, iv d2, iv d3] []) t
      exact st1 t k)
  obtain ⟨T3, hp3, k3, X3, e3, E3, A3, st3⟩ := newP X1 hx hZ (own_wi hw 1 rfl) e1 (g := (mkF m 9 #[iv 0, iv d0, iv d1, iv d2, iv d3] [(.int (0 : Int32)), (.ref b1), (.ref b1)])) rfl (hb hby ow27_9) rfl (by decide) (cap := 0) (by decide) (by decide) (by decide) (by decide)
  obtain ⟨b3, g3⟩ : ∃ z, z = hp1.size := ⟨_, rfl⟩
  rw [← g3] at A3 st3
  have ne_b1_b3 : b1 ≠ b3 := Nat.ne_of_lt (Nat.lt_of_lt_of_le A1.lt (Nat.le_of_eq g3.symm))
  have g_b3 : n0 ≤ b3 := Nat.le_trans (Nat.le_trans Z0 Kp1.1) (Nat.le_of_eq g3.symm)
  have sz_b3 : h0.size ≤ b3 := Nat.le_trans Kp1.1 (Nat.le_of_eq g3.symm)
  have hk := Nat.le_trans hk E3.1
  have Kp3 := Keep.ext Kp1 E3
  have V3 : Arv Z hp3 b3 k3 .char (0 : Int32) [] (.int (0 : Int32)) := (Arv.new A3 (by decide)).pad (pad_rep [] (.int (0 : Int32)) 0)
  have ch4 : ∀ t, SP p e below T3 (mkF m 11 #[iv 0, iv d0, iv d1, iv d2, iv d3] [(.ref b3), (.ref b1), (.ref b1)]) t → SP p e below s₁ (entryFrame m #[(.int (0 : Int32)), (.int d0), (.int d1), (.int d2), (.int d3)] 5) t := fun t k => ch2 t (by
      show SP p e below T1 (mkF m 7 #[iv 0, iv d0, iv d1, iv d2, iv d3] [(.ref b1)]) t
      refine XS.dup X1.here hx rfl (hb hby ow27_7) rfl rfl ?_
      refine XS.iconst X1.here hx rfl (hb hby ow27_8) ?_
      show SP p e below T1 (mkF m 9 #[iv 0, iv d0, iv d1, iv d2, iv d3] [(.int (0 : Int32)), (.ref b1), (.ref b1)]) t
      exact st3 t k)
  have cf5 := (A1.ext E3)
  have cf6 := (F1_24.ext E3)
  have cf7 := (F1_25.ext E3)
  obtain ⟨vv8, _, ⟨T8, L8, kk8, nn8⟩, -, X8, hS2, hgr, ⟨Lc8, hQ8, l8, y8, z8⟩, st8⟩ := X3.specialBackS hx (y := ym6) rfl hown (mvT hZ (own_wi hw 12 rfl)) (mvT hZ (own_wi hw 13 rfl)) (mvT hZ (own_wi hw 14 rfl)) (by decide) (own_backC (W := 1) (own_sin0 l Z a0 hw [] hp3 n0 (Nat.le_trans Z0 Kp3.1) b1 b3 k3 V3 cf5 cf6 cf7 g_b1) hZ (own_wi hw 14 rfl) (own_wi hw 11 rfl) (by decide) (by decide) (own_EW hw) (CHv.keep Kp3 (fun x hx => by cases hx) hC)) (g := (mkF m 11 #[iv 0, iv d0, iv d1, iv d2, iv d3] [(.ref b3), (.ref b1), (.ref b1)])) rfl (by rw [hml]; rfl) (Steps.refl _) (a := b1) (argsL := [(.ref b3)]) (rest := [(.ref b1)]) (lenOf own_pd___C_V rfl) rfl (by show 2 * 0 + _ ≤ _; exact Nat.le_of_eq rfl) (hb hby ow27_11) (fun _ _ => ⟨rfl, e3, (by decide : 2 + 2 ≤ _), (by decide : 4 + 4 ≤ _)⟩)
  dsimp only [Pt.U, Pt.locs, Pt.cells, Pt.slots] at X8 l8 y8 z8 st8 hQ8 hS2 hgr
  subst l8 y8 z8
  obtain ⟨X8, hS, hZ, hown⟩ := rebS hS (by rw [e3]; exact hk) X8 hS2 hgr hZ hown
  obtain ⟨hh8, eh8⟩ : ∃ h, T8.heap = h := ⟨_, rfl⟩
  rw [eh8] at hQ8
  rw [eh8] at hS
  have hk : hh8.size ≤ hh8.size := Nat.le_refl _
  obtain ⟨te, ke, rfl, Nq8, Kq8, fq8_0, fq8_1, fq8_2, fq8_3⟩ := hQ8
  have N8 := Fr.app N0 Nq8
  have Kp8 := Keep.trans Kp3 Kq8 (allS (Or.inr sz_b1) all0)
  have ch9 : ∀ t, SP p e below T8 (mkF m 14 #[iv 0, iv d0, iv d1, iv d2, iv d3] [(.ref b1)]) t → SP p e below s₁ (entryFrame m #[(.int (0 : Int32)), (.int d0), (.int d1), (.int d2), (.int d3)] 5) t := fun t k => ch4 t (by
      show SP p e below T3 (mkF m 11 #[iv 0, iv d0, iv d1, iv d2, iv d3] [(.ref b3), (.ref b1), (.ref b1)]) t
      exact st8.trans k)
  obtain ⟨fs, hr, hrun, hended, hend⟩ := X8.leaveW hS (by rw [eh8]; exact hk) (v := some (.ref b1)) (fun h => by rw [Bd.returns] at h; cases h)
  refine ⟨_, _, ch9 _ ?_, hrun, hended, _, _, rfl, ?_, hend.1, hend.2.1, hend.2.2.1, hend.2.2.2.mono (by decide) (by decide)⟩
  · show Steps p.tables e below (T8.setTop (mkF m 14 #[iv 0, iv d0, iv d1, iv d2, iv d3] [(.ref b1)])) _
    jvm_step X8.here [X8.here.top, hx, (hb hby ow27_14), X8.method', Bd.returns, Value.isRef, FieldType.isReference]
    first | (intro acts; rw [hr _ acts rfl rfl rfl]) | rw [hr _ _ rfl rfl rfl]
    exact Steps.refl _
  · show QS Z (0 : Int32) [] h0 n0 _ T8.heap _
    rw [eh8]
    exact ⟨_, _, _, rfl, sz_b1, N8, Kp8, fq8_0, fq8_1, fq8_2, fq8_3⟩
theorem own_ef_own_make_1 (m : MethodId) {x0 : Int32} {x1 : Int32} {x2 : Int32} {x3 : Int32} {x4 : Int32} : entryFrame m #[(.int x0), (.int x1), (.int x2), (.int x3), (.int x4)] 5 = mkF m 0 #[iv x0, iv x1, iv x2, iv x3, iv x4] [] := by first | (simp [entryFrame, mkF, argsToLocals, Value.category, maxLocals]; done) | rfl
set_option maxRecDepth 65536 in
set_option maxHeartbeats 40000000 in
theorem own_make_1 (l : Launch) (Z : State) (a0 : Array Value) (hw : ∀ d ∈ tables_1, d.before a0 Z = true) (ws : List Jvm.Cond) (h0 : Heap) (n0 : Nat) (Z0 : n0 ≤ h0.size) (d0 d1 d2 d3 : Int32) (r0 : ¬ d0 < 0 ∧ ¬ (255 : Int32) < d0) (r1 : ¬ d1 < 0 ∧ ¬ (255 : Int32) < d1) (r2 : ¬ d2 < 0 ∧ ¬ (255 : Int32) < d2) (r3 : ¬ d3 < 0 ∧ ¬ (255 : Int32) < d3) (zC : Int32) (S_CS : Sta Z h0 "java/lang/String" "COMPACT_STRINGS" "Z" (.int zC)) (P5 : ¬ (zC = (0 : Int32))) :
    MetFree l ym2 (head1 (Jvm.Cond.code ym2 method_3_code 5 (some (.object "java/lang/String")) :: ws) rm22) (fun a U => a = #[(.int (1 : Int32)), (.int d0), (.int d1), (.int d2), (.int d3)] ∧ Z.Warmed39 U.vm ∧ U.heap = h0) (fun _ _ _ _ _ => True) (fun _ U o U' => ∃ v L, o = .returned v ∧ QS Z (1 : Int32) [(.int (d0.toInt8.toInt32))] h0 n0 v U'.heap L ∧ FrameEnd U o U' L rm22.cells rm22.slots) := by
  refine MetFree.of_bodySF (plainFor_of_name own_pn_com_example_leafwright_leafwright_ReferencesFragmentPinLaw) hisR ?_
  intro p e s m args below meth c s₁ Bd hml0 hP hK
  obtain ⟨rfl, hZ, hh⟩ := hP
  have hx := Bd.exec
  have hby := Bd.bytes
  have hml : c.maxLocals = 5 := hml0
  have hown : s.vm.findClass "com/example/leafwright/leafwright/ReferencesFragmentPinLaw" = some m.cls := (findClass_of_methodNamed Bd.named :)
  have hnm := (name_of_methodNamed Bd.named Bd.method).1
  have X0 : Stand p l e rm22 s m #[(.int (1 : Int32)), (.int d0), (.int d1), (.int d2), (.int d3)] below meth c s₁ [] 0 0 := Stand.of_body Bd
  have e0 : s₁.heap = h0 := by rw [← hh, Bd.state]; rfl
  have N0 := Fr.nil n0
  have pre0 : ∀ t, SP p e below s₁ (mkF m 0 #[iv 1, iv d0, iv d1, iv d2, iv d3] []) t → SP p e below s₁ (entryFrame m #[(.int (1 : Int32)), (.int d0), (.int d1), (.int d2), (.int d3)] 5) t := fun t k => castTop (own_ef_own_make_1 m) k
  obtain ⟨T1, hp1, X1, e1, E1, A1, D1, -, st1⟩ := newO X0 hx hZ hown (own_wi hw 9 rfl) (own_wi hw 10 rfl) (own_wi hw 11 rfl) e0 (g := (mkF m 20 #[iv 1, iv d0, iv d1, iv d2, iv d3] [])) rfl (hb hby ow27_20) (by decide) (by decide)
  obtain ⟨b1, g1⟩ : ∃ z, z = h0.size := ⟨_, rfl⟩
  rw [← g1] at A1 D1 st1
  have g_b1 : n0 ≤ b1 := Nat.le_trans (Nat.le_trans Z0 (Keep.refl h0 []).1) (Nat.le_of_eq g1.symm)
  have sz_b1 : h0.size ≤ b1 := Nat.le_trans (Keep.refl h0 []).1 (Nat.le_of_eq g1.symm)
  have Kp1 := Keep.ext (Keep.refl h0 []) E1
  have F1_24 : Fld Z hp1 b1 "java/lang/String" "value" "[B" .null := D1 (Or.inr (own_wi hw 24 rfl)) (ty := (.array .byte)) (by decide)
  have F1_25 : Fld Z hp1 b1 "java/lang/String" "coder" "B" (.int (0 : Int32)) := D1 (Or.inr (own_wi hw 25 rfl)) (ty := .byte) (by decide)
  have ch2 : ∀ t, SP p e below T1 (mkF m 23 #[iv 1, iv d0, iv d1, iv d2, iv d3] [(.ref b1)]) t → SP p e below s₁ (entryFrame m #[(.int (1 : Int32)), (.int d0), (.int d1), (.int d2), (.int d3)] 5) t := fun t k => pre0 t (by
      show SP p e below s₁ (mkF m 0 #[iv 1, iv d0, iv d1, iv d2, iv d3] []) t
      refine XS.iloadN X0.here hx rfl (hb hby ow27_0) rfl ?_
      refine XS.ifYes X0.here hx rfl (pc0 := 1) (pc' := 15) rfl (hb hby ow27_1) rfl ((if0 _ _).trans (feq (by decide : ¬ (1 : Int32) = (0 : Int32))).2) (by decide) (by decide) ?_
      refine XS.iloadN X0.here hx rfl (hb hby ow27_15) rfl ?_
      refine XS.iconst X0.here hx rfl (hb hby ow27_16) ?_
      refine XS.icmpNo X0.here hx rfl (hb hby ow27_17) rfl (teq (by decide : (1 : Int32) = (1 : Int32))).2 ?_
      show SP p e below s₁ (mkF m 20 #[iv 1, iv d0, iv d1, iv d2, iv d3] []) t
      exact st1 t k)
  obtain ⟨T3, hp3, k3, X3, e3, E3, A3, st3⟩ := newP X1 hx hZ (own_wi hw 1 rfl) e1 (g := (mkF m 25 #[iv 1, iv d0, iv d1, iv d2, iv d3] [(.int (1 : Int32)), (.ref b1), (.ref b1)])) rfl (hb hby ow27_25) rfl (by decide) (cap := 1) (by decide) (by decide) (by decide) (by decide)
  obtain ⟨b3, g3⟩ : ∃ z, z = hp1.size := ⟨_, rfl⟩
  rw [← g3] at A3 st3
  have ne_b1_b3 : b1 ≠ b3 := Nat.ne_of_lt (Nat.lt_of_lt_of_le A1.lt (Nat.le_of_eq g3.symm))
  have g_b3 : n0 ≤ b3 := Nat.le_trans (Nat.le_trans Z0 Kp1.1) (Nat.le_of_eq g3.symm)
  have sz_b3 : h0.size ≤ b3 := Nat.le_trans Kp1.1 (Nat.le_of_eq g3.symm)
  have Kp3 := Keep.ext Kp1 E3
  have V3 : Arv Z hp3 b3 k3 .char (1 : Int32) [(.int (0 : Int32))] (.int (0 : Int32)) := (Arv.new A3 (by decide)).pad (pad_rep [] (.int (0 : Int32)) 1)
  have ch4 : ∀ t, SP p e below T3 (mkF m 27 #[iv 1, iv d0, iv d1, iv d2, iv d3] [(.ref b3), (.ref b1), (.ref b1)]) t → SP p e below s₁ (entryFrame m #[(.int (1 : Int32)), (.int d0), (.int d1), (.int d2), (.int d3)] 5) t := fun t k => ch2 t (by
      show SP p e below T1 (mkF m 23 #[iv 1, iv d0, iv d1, iv d2, iv d3] [(.ref b1)]) t
      refine XS.dup X1.here hx rfl (hb hby ow27_23) rfl rfl ?_
      refine XS.iconst X1.here hx rfl (hb hby ow27_24) ?_
      show SP p e below T1 (mkF m 25 #[iv 1, iv d0, iv d1, iv d2, iv d3] [(.int (1 : Int32)), (.ref b1), (.ref b1)]) t
      exact st3 t k)
  obtain ⟨cl5, Ar5, qq5, Sz5, Ng5, Ha5, Ga5⟩ := id V3
  have hin5 : ¬ ((0 : Int32) < 0 ∨ cl5.slots.size ≤ ((0 : Int32)).toNatClampNeg) := inb_of Sz5 (by decide)
  obtain ⟨T6, hp6, X6, e6, W6, st6⟩ := stC X3 hx hZ e3 Ar5 (j := (0 : Int32)) hin5 (g := (mkF m 30 #[iv 1, iv d0, iv d1, iv d2, iv d3] [(.int d0), (.int (0 : Int32)), (.ref b3), (.ref b3), (.ref b1), (.ref b1)])) rfl rfl (hb hby ow27_30)
  have ch7 : ∀ t, SP p e below T6 (mkF m 31 #[iv 1, iv d0, iv d1, iv d2, iv d3] [(.ref b3), (.ref b1), (.ref b1)]) t → SP p e below s₁ (entryFrame m #[(.int (1 : Int32)), (.int d0), (.int d1), (.int d2), (.int d3)] 5) t := fun t k => ch4 t (by
      show SP p e below T3 (mkF m 27 #[iv 1, iv d0, iv d1, iv d2, iv d3] [(.ref b3), (.ref b1), (.ref b1)]) t
      refine XS.dup X3.here hx rfl (hb hby ow27_27) rfl rfl ?_
      refine XS.iconst X3.here hx rfl (hb hby ow27_28) ?_
      refine XS.iloadN X3.here hx rfl (hb hby ow27_29) rfl ?_
      show SP p e below T3 (mkF m 30 #[iv 1, iv d0, iv d1, iv d2, iv d3] [(.int d0), (.int (0 : Int32)), (.ref b3), (.ref b3), (.ref b1), (.ref b1)]) t
      exact st6 t k)
  have V6 : Arv Z hp6 b3 k3 .char (1 : Int32) [(.int (nar .char d0))] (.int (0 : Int32)) := Arv.set Ar5 qq5 Sz5 Ng5 Ha5 Ga5 (fits_nar_char _) W6 0 rfl (Nat.le_of_ble_eq_true rfl)
  rw [own_narc r0] at V6
  have N6 := Fr.snoc X6 N0 g_b3
  have Kp6 := Keep.wr Kp3 W6 (Or.inr sz_b3)
  have hp8 : ∀ c ∈ ([d0] : List Int32), ¬ c < 0 ∧ ¬ (255 : Int32) < c := by
    intro c hc
    simp only [List.mem_cons, List.not_mem_nil, or_false] at hc
    rcases hc with rfl
    · exact r0
  have cf9 := (Exa.wr W6 (A1.ext E3))
  have cf10 := (Fld.other W6 (F1_24.ext E3) (Or.inl ne_b1_b3))
  have cf11 := (Fld.other W6 (F1_25.ext E3) (Or.inl ne_b1_b3))
  have cf12 := (own_sta_keep S_CS Kp6 all0)
  obtain ⟨vv13, _, ⟨T13, L13, kk13, nn13⟩, -, X13, ⟨Lc13, hQ13, l13, y13, z13⟩, st13⟩ := X6.specialBack hx (y := ym6) rfl hown (mvT hZ (own_wi hw 12 rfl)) (mvT hZ (own_wi hw 13 rfl)) (mvT hZ (own_wi hw 14 rfl)) (by decide) (StrChars.Road.backV (W := 1) hZ (own_words hw) (kI := 4) (own_wi hw 10 rfl) (cs := ([d0] : List Int32)) (bs := (([d0] : List Int32)).map (fun c => c.toInt8.toInt32)) (n := 1) g_b1 (Nat.le_trans Z0 Kp6.1) cf9 cf10 cf11 V6 cf12 P5 rfl rfl (by decide) (by decide) hp8 rfl (by decide) (by decide)) (g := (mkF m 31 #[iv 1, iv d0, iv d1, iv d2, iv d3] [(.ref b3), (.ref b1), (.ref b1)])) rfl (by rw [hml]; rfl) (Steps.refl _) (a := b1) (argsL := [(.ref b3)]) (rest := [(.ref b1)]) (lenOf own_pd___C_V rfl) rfl (by show 2 * 0 + _ ≤ _; exact Nat.le_of_eq rfl) (hb hby ow27_31) (fun _ _ => ⟨rfl, e6, (by decide : 2 + 1 ≤ _), (by decide : 5 + 1 ≤ _)⟩)
  dsimp only [Pt.U, Pt.locs, Pt.cells, Pt.slots] at X13 l13 y13 z13 st13 hQ13
  subst l13 y13 z13
  obtain ⟨hh13, eh13⟩ : ∃ h, T13.heap = h := ⟨_, rfl⟩
  rw [eh13] at hQ13
  obtain ⟨rfl, Nq13, Kq13, fq13_0, fq13_1⟩ := hQ13
  have N13 := Fr.app N6 Nq13
  have Kp13 := Keep.trans Kp6 Kq13 (allS (Or.inr sz_b1) all0)
  obtain ⟨fc13, tb13, kb13, ut13, vt13, wt13, fv13, av13⟩ := fq13_1
  have ne_b1_tb13 : b1 ≠ tb13 := Nat.ne_of_lt (Nat.lt_of_lt_of_le cf9.lt vt13)
  have ne_b3_tb13 : b3 ≠ tb13 := Nat.ne_of_lt (Nat.lt_of_lt_of_le V6.lt vt13)
  have Vb13 : Arv Z hh13 tb13 kb13 .byte (1 : Int32) [(.int (d0.toInt8.toInt32))] (.int (0 : Int32)) := av13
  have ch14 : ∀ t, SP p e below T13 (mkF m 34 #[iv 1, iv d0, iv d1, iv d2, iv d3] [(.ref b1)]) t → SP p e below s₁ (entryFrame m #[(.int (1 : Int32)), (.int d0), (.int d1), (.int d2), (.int d3)] 5) t := fun t k => ch7 t (by
      show SP p e below T6 (mkF m 31 #[iv 1, iv d0, iv d1, iv d2, iv d3] [(.ref b3), (.ref b1), (.ref b1)]) t
      exact st13.trans k)
  obtain ⟨fs, hr, hrun, hended, hW, hsame⟩ := X13.leave (v := some (.ref b1)) (fun h => by rw [Bd.returns] at h; cases h)
  refine ⟨_, _, ch14 _ ?_, hrun, hended, _, _, rfl, ?_, ⟨_, rfl⟩, hW, hsame.mono (by decide) (by decide)⟩
  · show Steps p.tables e below (T13.setTop (mkF m 34 #[iv 1, iv d0, iv d1, iv d2, iv d3] [(.ref b1)])) _
    jvm_step X13.here [X13.here.top, hx, (hb hby ow27_34), X13.method', Bd.returns, Value.isRef, FieldType.isReference]
    first | (intro acts; rw [hr _ acts rfl rfl rfl]) | rw [hr _ _ rfl rfl rfl]
    exact Steps.refl _
  · show QS Z (1 : Int32) [(.int (d0.toInt8.toInt32))] h0 n0 _ T13.heap _
    rw [eh13]
    exact ⟨_, _, _, rfl, sz_b1, N13, Kp13, fq13_0, fc13, fv13, Vb13⟩
theorem own_ef_own_make_2 (m : MethodId) {x0 : Int32} {x1 : Int32} {x2 : Int32} {x3 : Int32} {x4 : Int32} : entryFrame m #[(.int x0), (.int x1), (.int x2), (.int x3), (.int x4)] 5 = mkF m 0 #[iv x0, iv x1, iv x2, iv x3, iv x4] [] := by first | (simp [entryFrame, mkF, argsToLocals, Value.category, maxLocals]; done) | rfl
set_option maxRecDepth 65536 in
set_option maxHeartbeats 40000000 in
theorem own_make_2 (l : Launch) (Z : State) (a0 : Array Value) (hw : ∀ d ∈ tables_1, d.before a0 Z = true) (ws : List Jvm.Cond) (h0 : Heap) (n0 : Nat) (Z0 : n0 ≤ h0.size) (d0 d1 d2 d3 : Int32) (r0 : ¬ d0 < 0 ∧ ¬ (255 : Int32) < d0) (r1 : ¬ d1 < 0 ∧ ¬ (255 : Int32) < d1) (r2 : ¬ d2 < 0 ∧ ¬ (255 : Int32) < d2) (r3 : ¬ d3 < 0 ∧ ¬ (255 : Int32) < d3) (zC : Int32) (S_CS : Sta Z h0 "java/lang/String" "COMPACT_STRINGS" "Z" (.int zC)) (P5 : ¬ (zC = (0 : Int32))) :
    MetFree l ym2 (head1 (Jvm.Cond.code ym2 method_3_code 5 (some (.object "java/lang/String")) :: ws) rm23) (fun a U => a = #[(.int (2 : Int32)), (.int d0), (.int d1), (.int d2), (.int d3)] ∧ Z.Warmed39 U.vm ∧ U.heap = h0) (fun _ _ _ _ _ => True) (fun _ U o U' => ∃ v L, o = .returned v ∧ QS Z (2 : Int32) [(.int (d0.toInt8.toInt32)), (.int (d1.toInt8.toInt32))] h0 n0 v U'.heap L ∧ FrameEnd U o U' L rm23.cells rm23.slots) := by
  refine MetFree.of_bodySF (plainFor_of_name own_pn_com_example_leafwright_leafwright_ReferencesFragmentPinLaw) hisR ?_
  intro p e s m args below meth c s₁ Bd hml0 hP hK
  obtain ⟨rfl, hZ, hh⟩ := hP
  have hx := Bd.exec
  have hby := Bd.bytes
  have hml : c.maxLocals = 5 := hml0
  have hown : s.vm.findClass "com/example/leafwright/leafwright/ReferencesFragmentPinLaw" = some m.cls := (findClass_of_methodNamed Bd.named :)
  have hnm := (name_of_methodNamed Bd.named Bd.method).1
  have X0 : Stand p l e rm23 s m #[(.int (2 : Int32)), (.int d0), (.int d1), (.int d2), (.int d3)] below meth c s₁ [] 0 0 := Stand.of_body Bd
  have e0 : s₁.heap = h0 := by rw [← hh, Bd.state]; rfl
  have N0 := Fr.nil n0
  have pre0 : ∀ t, SP p e below s₁ (mkF m 0 #[iv 2, iv d0, iv d1, iv d2, iv d3] []) t → SP p e below s₁ (entryFrame m #[(.int (2 : Int32)), (.int d0), (.int d1), (.int d2), (.int d3)] 5) t := fun t k => castTop (own_ef_own_make_2 m) k
  obtain ⟨T1, hp1, X1, e1, E1, A1, D1, -, st1⟩ := newO X0 hx hZ hown (own_wi hw 9 rfl) (own_wi hw 10 rfl) (own_wi hw 11 rfl) e0 (g := (mkF m 40 #[iv 2, iv d0, iv d1, iv d2, iv d3] [])) rfl (hb hby ow27_40) (by decide) (by decide)
  obtain ⟨b1, g1⟩ : ∃ z, z = h0.size := ⟨_, rfl⟩
  rw [← g1] at A1 D1 st1
  have g_b1 : n0 ≤ b1 := Nat.le_trans (Nat.le_trans Z0 (Keep.refl h0 []).1) (Nat.le_of_eq g1.symm)
  have sz_b1 : h0.size ≤ b1 := Nat.le_trans (Keep.refl h0 []).1 (Nat.le_of_eq g1.symm)
  have Kp1 := Keep.ext (Keep.refl h0 []) E1
  have F1_24 : Fld Z hp1 b1 "java/lang/String" "value" "[B" .null := D1 (Or.inr (own_wi hw 24 rfl)) (ty := (.array .byte)) (by decide)
  have F1_25 : Fld Z hp1 b1 "java/lang/String" "coder" "B" (.int (0 : Int32)) := D1 (Or.inr (own_wi hw 25 rfl)) (ty := .byte) (by decide)
  have ch2 : ∀ t, SP p e below T1 (mkF m 43 #[iv 2, iv d0, iv d1, iv d2, iv d3] [(.ref b1)]) t → SP p e below s₁ (entryFrame m #[(.int (2 : Int32)), (.int d0), (.int d1), (.int d2), (.int d3)] 5) t := fun t k => pre0 t (by
      show SP p e below s₁ (mkF m 0 #[iv 2, iv d0, iv d1, iv d2, iv d3] []) t
      refine XS.iloadN X0.here hx rfl (hb hby ow27_0) rfl ?_
      refine XS.ifYes X0.here hx rfl (pc0 := 1) (pc' := 15) rfl (hb hby ow27_1) rfl ((if0 _ _).trans (feq (by decide : ¬ (2 : Int32) = (0 : Int32))).2) (by decide) (by decide) ?_
      refine XS.iloadN X0.here hx rfl (hb hby ow27_15) rfl ?_
      refine XS.iconst X0.here hx rfl (hb hby ow27_16) ?_
      refine XS.icmpYes X0.here hx rfl (pc0 := 17) (pc' := 35) rfl (hb hby ow27_17) rfl (feq (by decide : ¬ (2 : Int32) = (1 : Int32))).2 (by decide) (by decide) ?_
      refine XS.iloadN X0.here hx rfl (hb hby ow27_35) rfl ?_
      refine XS.iconst X0.here hx rfl (hb hby ow27_36) ?_
      refine XS.icmpNo X0.here hx rfl (hb hby ow27_37) rfl (teq (by decide : (2 : Int32) = (2 : Int32))).2 ?_
      show SP p e below s₁ (mkF m 40 #[iv 2, iv d0, iv d1, iv d2, iv d3] []) t
      exact st1 t k)
  obtain ⟨T3, hp3, k3, X3, e3, E3, A3, st3⟩ := newP X1 hx hZ (own_wi hw 1 rfl) e1 (g := (mkF m 45 #[iv 2, iv d0, iv d1, iv d2, iv d3] [(.int (2 : Int32)), (.ref b1), (.ref b1)])) rfl (hb hby ow27_45) rfl (by decide) (cap := 2) (by decide) (by decide) (by decide) (by decide)
  obtain ⟨b3, g3⟩ : ∃ z, z = hp1.size := ⟨_, rfl⟩
  rw [← g3] at A3 st3
  have ne_b1_b3 : b1 ≠ b3 := Nat.ne_of_lt (Nat.lt_of_lt_of_le A1.lt (Nat.le_of_eq g3.symm))
  have g_b3 : n0 ≤ b3 := Nat.le_trans (Nat.le_trans Z0 Kp1.1) (Nat.le_of_eq g3.symm)
  have sz_b3 : h0.size ≤ b3 := Nat.le_trans Kp1.1 (Nat.le_of_eq g3.symm)
  have Kp3 := Keep.ext Kp1 E3
  have V3 : Arv Z hp3 b3 k3 .char (2 : Int32) [(.int (0 : Int32)), (.int (0 : Int32))] (.int (0 : Int32)) := (Arv.new A3 (by decide)).pad (pad_rep [] (.int (0 : Int32)) 2)
  have ch4 : ∀ t, SP p e below T3 (mkF m 47 #[iv 2, iv d0, iv d1, iv d2, iv d3] [(.ref b3), (.ref b1), (.ref b1)]) t → SP p e below s₁ (entryFrame m #[(.int (2 : Int32)), (.int d0), (.int d1), (.int d2), (.int d3)] 5) t := fun t k => ch2 t (by
      show SP p e below T1 (mkF m 43 #[iv 2, iv d0, iv d1, iv d2, iv d3] [(.ref b1)]) t
      refine XS.dup X1.here hx rfl (hb hby ow27_43) rfl rfl ?_
      refine XS.iconst X1.here hx rfl (hb hby ow27_44) ?_
      show SP p e below T1 (mkF m 45 #[iv 2, iv d0, iv d1, iv d2, iv d3] [(.int (2 : Int32)), (.ref b1), (.ref b1)]) t
      exact st3 t k)
  obtain ⟨cl5, Ar5, qq5, Sz5, Ng5, Ha5, Ga5⟩ := id V3
  have hin5 : ¬ ((0 : Int32) < 0 ∨ cl5.slots.size ≤ ((0 : Int32)).toNatClampNeg) := inb_of Sz5 (by decide)
  obtain ⟨T6, hp6, X6, e6, W6, st6⟩ := stC X3 hx hZ e3 Ar5 (j := (0 : Int32)) hin5 (g := (mkF m 50 #[iv 2, iv d0, iv d1, iv d2, iv d3] [(.int d0), (.int (0 : Int32)), (.ref b3), (.ref b3), (.ref b1), (.ref b1)])) rfl rfl (hb hby ow27_50)
  have ch7 : ∀ t, SP p e below T6 (mkF m 51 #[iv 2, iv d0, iv d1, iv d2, iv d3] [(.ref b3), (.ref b1), (.ref b1)]) t → SP p e below s₁ (entryFrame m #[(.int (2 : Int32)), (.int d0), (.int d1), (.int d2), (.int d3)] 5) t := fun t k => ch4 t (by
      show SP p e below T3 (mkF m 47 #[iv 2, iv d0, iv d1, iv d2, iv d3] [(.ref b3), (.ref b1), (.ref b1)]) t
      refine XS.dup X3.here hx rfl (hb hby ow27_47) rfl rfl ?_
      refine XS.iconst X3.here hx rfl (hb hby ow27_48) ?_
      refine XS.iloadN X3.here hx rfl (hb hby ow27_49) rfl ?_
      show SP p e below T3 (mkF m 50 #[iv 2, iv d0, iv d1, iv d2, iv d3] [(.int d0), (.int (0 : Int32)), (.ref b3), (.ref b3), (.ref b1), (.ref b1)]) t
      exact st6 t k)
  have V6 : Arv Z hp6 b3 k3 .char (2 : Int32) [(.int (nar .char d0)), (.int (0 : Int32))] (.int (0 : Int32)) := Arv.set Ar5 qq5 Sz5 Ng5 Ha5 Ga5 (fits_nar_char _) W6 0 rfl (Nat.le_of_ble_eq_true rfl)
  rw [own_narc r0] at V6
  have N6 := Fr.snoc X6 N0 g_b3
  have Kp6 := Keep.wr Kp3 W6 (Or.inr sz_b3)
  obtain ⟨cl8, Ar8, qq8, Sz8, Ng8, Ha8, Ga8⟩ := id V6
  have hin8 : ¬ ((1 : Int32) < 0 ∨ cl8.slots.size ≤ ((1 : Int32)).toNatClampNeg) := inb_of Sz8 (by decide)
  obtain ⟨T9, hp9, X9, e9, W9, st9⟩ := stC X6 hx hZ e6 Ar8 (j := (1 : Int32)) hin8 (g := (mkF m 54 #[iv 2, iv d0, iv d1, iv d2, iv d3] [(.int d1), (.int (1 : Int32)), (.ref b3), (.ref b3), (.ref b1), (.ref b1)])) rfl rfl (hb hby ow27_54)
  have ch10 : ∀ t, SP p e below T9 (mkF m 55 #[iv 2, iv d0, iv d1, iv d2, iv d3] [(.ref b3), (.ref b1), (.ref b1)]) t → SP p e below s₁ (entryFrame m #[(.int (2 : Int32)), (.int d0), (.int d1), (.int d2), (.int d3)] 5) t := fun t k => ch7 t (by
      show SP p e below T6 (mkF m 51 #[iv 2, iv d0, iv d1, iv d2, iv d3] [(.ref b3), (.ref b1), (.ref b1)]) t
      refine XS.dup X6.here hx rfl (hb hby ow27_51) rfl rfl ?_
      show SP p e below T6 (mkF m 52 #[iv 2, iv d0, iv d1, iv d2, iv d3] [(.ref b3), (.ref b3), (.ref b1), (.ref b1)]) t
      refine XS.iconst X6.here hx rfl (hb hby ow27_52) ?_
      refine XS.iloadN X6.here hx rfl (hb hby ow27_53) rfl ?_
      show SP p e below T6 (mkF m 54 #[iv 2, iv d0, iv d1, iv d2, iv d3] [(.int d1), (.int (1 : Int32)), (.ref b3), (.ref b3), (.ref b1), (.ref b1)]) t
      exact st9 t k)
  have V9 : Arv Z hp9 b3 k3 .char (2 : Int32) [(.int d0), (.int (nar .char d1))] (.int (0 : Int32)) := Arv.set Ar8 qq8 Sz8 Ng8 Ha8 Ga8 (fits_nar_char _) W9 1 rfl (Nat.le_of_ble_eq_true rfl)
  rw [own_narc r1] at V9
  have N9 := Fr.snoc X9 N6 g_b3
  have Kp9 := Keep.wr Kp6 W9 (Or.inr sz_b3)
  have hp11 : ∀ c ∈ ([d0, d1] : List Int32), ¬ c < 0 ∧ ¬ (255 : Int32) < c := by
    intro c hc
    simp only [List.mem_cons, List.not_mem_nil, or_false] at hc
    rcases hc with rfl | rfl
    · exact r0
    · exact r1
  have cf12 := (Exa.wr W9 (Exa.wr W6 (A1.ext E3)))
  have cf13 := (Fld.other W9 (Fld.other W6 (F1_24.ext E3) (Or.inl ne_b1_b3)) (Or.inl ne_b1_b3))
  have cf14 := (Fld.other W9 (Fld.other W6 (F1_25.ext E3) (Or.inl ne_b1_b3)) (Or.inl ne_b1_b3))
  have cf15 := (own_sta_keep S_CS Kp9 all0)
  obtain ⟨vv16, _, ⟨T16, L16, kk16, nn16⟩, -, X16, ⟨Lc16, hQ16, l16, y16, z16⟩, st16⟩ := X9.specialBack hx (y := ym6) rfl hown (mvT hZ (own_wi hw 12 rfl)) (mvT hZ (own_wi hw 13 rfl)) (mvT hZ (own_wi hw 14 rfl)) (by decide) (StrChars.Road.backV (W := 1) hZ (own_words hw) (kI := 4) (own_wi hw 10 rfl) (cs := ([d0, d1] : List Int32)) (bs := (([d0, d1] : List Int32)).map (fun c => c.toInt8.toInt32)) (n := 2) g_b1 (Nat.le_trans Z0 Kp9.1) cf12 cf13 cf14 V9 cf15 P5 rfl rfl (by decide) (by decide) hp11 rfl (by decide) (by decide)) (g := (mkF m 55 #[iv 2, iv d0, iv d1, iv d2, iv d3] [(.ref b3), (.ref b1), (.ref b1)])) rfl (by rw [hml]; rfl) (Steps.refl _) (a := b1) (argsL := [(.ref b3)]) (rest := [(.ref b1)]) (lenOf own_pd___C_V rfl) rfl (by show 2 * 0 + _ ≤ _; exact Nat.le_of_eq rfl) (hb hby ow27_55) (fun _ _ => ⟨rfl, e9, (by decide : 2 + 1 ≤ _), (by decide : 6 + 2 ≤ _)⟩)
  dsimp only [Pt.U, Pt.locs, Pt.cells, Pt.slots] at X16 l16 y16 z16 st16 hQ16
  subst l16 y16 z16
  obtain ⟨hh16, eh16⟩ : ∃ h, T16.heap = h := ⟨_, rfl⟩
  rw [eh16] at hQ16
  obtain ⟨rfl, Nq16, Kq16, fq16_0, fq16_1⟩ := hQ16
  have N16 := Fr.app N9 Nq16
  have Kp16 := Keep.trans Kp9 Kq16 (allS (Or.inr sz_b1) all0)
  obtain ⟨fc16, tb16, kb16, ut16, vt16, wt16, fv16, av16⟩ := fq16_1
  have ne_b1_tb16 : b1 ≠ tb16 := Nat.ne_of_lt (Nat.lt_of_lt_of_le cf12.lt vt16)
  have ne_b3_tb16 : b3 ≠ tb16 := Nat.ne_of_lt (Nat.lt_of_lt_of_le V9.lt vt16)
  have Vb16 : Arv Z hh16 tb16 kb16 .byte (2 : Int32) [(.int (d0.toInt8.toInt32)), (.int (d1.toInt8.toInt32))] (.int (0 : Int32)) := av16
  have ch17 : ∀ t, SP p e below T16 (mkF m 58 #[iv 2, iv d0, iv d1, iv d2, iv d3] [(.ref b1)]) t → SP p e below s₁ (entryFrame m #[(.int (2 : Int32)), (.int d0), (.int d1), (.int d2), (.int d3)] 5) t := fun t k => ch10 t (by
      show SP p e below T9 (mkF m 55 #[iv 2, iv d0, iv d1, iv d2, iv d3] [(.ref b3), (.ref b1), (.ref b1)]) t
      exact st16.trans k)
  obtain ⟨fs, hr, hrun, hended, hW, hsame⟩ := X16.leave (v := some (.ref b1)) (fun h => by rw [Bd.returns] at h; cases h)
  refine ⟨_, _, ch17 _ ?_, hrun, hended, _, _, rfl, ?_, ⟨_, rfl⟩, hW, hsame.mono (by decide) (by decide)⟩
  · show Steps p.tables e below (T16.setTop (mkF m 58 #[iv 2, iv d0, iv d1, iv d2, iv d3] [(.ref b1)])) _
    jvm_step X16.here [X16.here.top, hx, (hb hby ow27_58), X16.method', Bd.returns, Value.isRef, FieldType.isReference]
    first | (intro acts; rw [hr _ acts rfl rfl rfl]) | rw [hr _ _ rfl rfl rfl]
    exact Steps.refl _
  · show QS Z (2 : Int32) [(.int (d0.toInt8.toInt32)), (.int (d1.toInt8.toInt32))] h0 n0 _ T16.heap _
    rw [eh16]
    exact ⟨_, _, _, rfl, sz_b1, N16, Kp16, fq16_0, fc16, fv16, Vb16⟩
theorem own_ef_own_make_3 (m : MethodId) {x0 : Int32} {x1 : Int32} {x2 : Int32} {x3 : Int32} {x4 : Int32} : entryFrame m #[(.int x0), (.int x1), (.int x2), (.int x3), (.int x4)] 5 = mkF m 0 #[iv x0, iv x1, iv x2, iv x3, iv x4] [] := by first | (simp [entryFrame, mkF, argsToLocals, Value.category, maxLocals]; done) | rfl
set_option maxRecDepth 65536 in
set_option maxHeartbeats 40000000 in
theorem own_make_3 (l : Launch) (Z : State) (a0 : Array Value) (hw : ∀ d ∈ tables_1, d.before a0 Z = true) (ws : List Jvm.Cond) (h0 : Heap) (n0 : Nat) (Z0 : n0 ≤ h0.size) (d0 d1 d2 d3 : Int32) (r0 : ¬ d0 < 0 ∧ ¬ (255 : Int32) < d0) (r1 : ¬ d1 < 0 ∧ ¬ (255 : Int32) < d1) (r2 : ¬ d2 < 0 ∧ ¬ (255 : Int32) < d2) (r3 : ¬ d3 < 0 ∧ ¬ (255 : Int32) < d3) (zC : Int32) (S_CS : Sta Z h0 "java/lang/String" "COMPACT_STRINGS" "Z" (.int zC)) (P5 : ¬ (zC = (0 : Int32))) :
    MetFree l ym2 (head1 (Jvm.Cond.code ym2 method_3_code 5 (some (.object "java/lang/String")) :: ws) rm20) (fun a U => a = #[(.int (3 : Int32)), (.int d0), (.int d1), (.int d2), (.int d3)] ∧ Z.Warmed39 U.vm ∧ U.heap = h0) (fun _ _ _ _ _ => True) (fun _ U o U' => ∃ v L, o = .returned v ∧ QS Z (3 : Int32) [(.int (d0.toInt8.toInt32)), (.int (d1.toInt8.toInt32)), (.int (d2.toInt8.toInt32))] h0 n0 v U'.heap L ∧ FrameEnd U o U' L rm20.cells rm20.slots) := by
  refine MetFree.of_bodySF (plainFor_of_name own_pn_com_example_leafwright_leafwright_ReferencesFragmentPinLaw) hisR ?_
  intro p e s m args below meth c s₁ Bd hml0 hP hK
  obtain ⟨rfl, hZ, hh⟩ := hP
  have hx := Bd.exec
  have hby := Bd.bytes
  have hml : c.maxLocals = 5 := hml0
  have hown : s.vm.findClass "com/example/leafwright/leafwright/ReferencesFragmentPinLaw" = some m.cls := (findClass_of_methodNamed Bd.named :)
  have hnm := (name_of_methodNamed Bd.named Bd.method).1
  have X0 : Stand p l e rm20 s m #[(.int (3 : Int32)), (.int d0), (.int d1), (.int d2), (.int d3)] below meth c s₁ [] 0 0 := Stand.of_body Bd
  have e0 : s₁.heap = h0 := by rw [← hh, Bd.state]; rfl
  have N0 := Fr.nil n0
  have pre0 : ∀ t, SP p e below s₁ (mkF m 0 #[iv 3, iv d0, iv d1, iv d2, iv d3] []) t → SP p e below s₁ (entryFrame m #[(.int (3 : Int32)), (.int d0), (.int d1), (.int d2), (.int d3)] 5) t := fun t k => castTop (own_ef_own_make_3 m) k
  obtain ⟨T1, hp1, X1, e1, E1, A1, D1, -, st1⟩ := newO X0 hx hZ hown (own_wi hw 9 rfl) (own_wi hw 10 rfl) (own_wi hw 11 rfl) e0 (g := (mkF m 64 #[iv 3, iv d0, iv d1, iv d2, iv d3] [])) rfl (hb hby ow27_64) (by decide) (by decide)
  obtain ⟨b1, g1⟩ : ∃ z, z = h0.size := ⟨_, rfl⟩
  rw [← g1] at A1 D1 st1
  have g_b1 : n0 ≤ b1 := Nat.le_trans (Nat.le_trans Z0 (Keep.refl h0 []).1) (Nat.le_of_eq g1.symm)
  have sz_b1 : h0.size ≤ b1 := Nat.le_trans (Keep.refl h0 []).1 (Nat.le_of_eq g1.symm)
  have Kp1 := Keep.ext (Keep.refl h0 []) E1
  have F1_24 : Fld Z hp1 b1 "java/lang/String" "value" "[B" .null := D1 (Or.inr (own_wi hw 24 rfl)) (ty := (.array .byte)) (by decide)
  have F1_25 : Fld Z hp1 b1 "java/lang/String" "coder" "B" (.int (0 : Int32)) := D1 (Or.inr (own_wi hw 25 rfl)) (ty := .byte) (by decide)
  have ch2 : ∀ t, SP p e below T1 (mkF m 67 #[iv 3, iv d0, iv d1, iv d2, iv d3] [(.ref b1)]) t → SP p e below s₁ (entryFrame m #[(.int (3 : Int32)), (.int d0), (.int d1), (.int d2), (.int d3)] 5) t := fun t k => pre0 t (by
      show SP p e below s₁ (mkF m 0 #[iv 3, iv d0, iv d1, iv d2, iv d3] []) t
      refine XS.iloadN X0.here hx rfl (hb hby ow27_0) rfl ?_
      refine XS.ifYes X0.here hx rfl (pc0 := 1) (pc' := 15) rfl (hb hby ow27_1) rfl ((if0 _ _).trans (feq (by decide : ¬ (3 : Int32) = (0 : Int32))).2) (by decide) (by decide) ?_
      refine XS.iloadN X0.here hx rfl (hb hby ow27_15) rfl ?_
      refine XS.iconst X0.here hx rfl (hb hby ow27_16) ?_
      refine XS.icmpYes X0.here hx rfl (pc0 := 17) (pc' := 35) rfl (hb hby ow27_17) rfl (feq (by decide : ¬ (3 : Int32) = (1 : Int32))).2 (by decide) (by decide) ?_
      refine XS.iloadN X0.here hx rfl (hb hby ow27_35) rfl ?_
      refine XS.iconst X0.here hx rfl (hb hby ow27_36) ?_
      refine XS.icmpYes X0.here hx rfl (pc0 := 37) (pc' := 59) rfl (hb hby ow27_37) rfl (feq (by decide : ¬ (3 : Int32) = (2 : Int32))).2 (by decide) (by decide) ?_
      refine XS.iloadN X0.here hx rfl (hb hby ow27_59) rfl ?_
      refine XS.iconst X0.here hx rfl (hb hby ow27_60) ?_
      refine XS.icmpNo X0.here hx rfl (hb hby ow27_61) rfl (teq (by decide : (3 : Int32) = (3 : Int32))).2 ?_
      show SP p e below s₁ (mkF m 64 #[iv 3, iv d0, iv d1, iv d2, iv d3] []) t
      exact st1 t k)
  obtain ⟨T3, hp3, k3, X3, e3, E3, A3, st3⟩ := newP X1 hx hZ (own_wi hw 1 rfl) e1 (g := (mkF m 69 #[iv 3, iv d0, iv d1, iv d2, iv d3] [(.int (3 : Int32)), (.ref b1), (.ref b1)])) rfl (hb hby ow27_69) rfl (by decide) (cap := 3) (by decide) (by decide) (by decide) (by decide)
  obtain ⟨b3, g3⟩ : ∃ z, z = hp1.size := ⟨_, rfl⟩
  rw [← g3] at A3 st3
  have ne_b1_b3 : b1 ≠ b3 := Nat.ne_of_lt (Nat.lt_of_lt_of_le A1.lt (Nat.le_of_eq g3.symm))
  have g_b3 : n0 ≤ b3 := Nat.le_trans (Nat.le_trans Z0 Kp1.1) (Nat.le_of_eq g3.symm)
  have sz_b3 : h0.size ≤ b3 := Nat.le_trans Kp1.1 (Nat.le_of_eq g3.symm)
  have Kp3 := Keep.ext Kp1 E3
  have V3 : Arv Z hp3 b3 k3 .char (3 : Int32) [(.int (0 : Int32)), (.int (0 : Int32)), (.int (0 : Int32))] (.int (0 : Int32)) := (Arv.new A3 (by decide)).pad (pad_rep [] (.int (0 : Int32)) 3)
  have ch4 : ∀ t, SP p e below T3 (mkF m 71 #[iv 3, iv d0, iv d1, iv d2, iv d3] [(.ref b3), (.ref b1), (.ref b1)]) t → SP p e below s₁ (entryFrame m #[(.int (3 : Int32)), (.int d0), (.int d1), (.int d2), (.int d3)] 5) t := fun t k => ch2 t (by
      show SP p e below T1 (mkF m 67 #[iv 3, iv d0, iv d1, iv d2, iv d3] [(.ref b1)]) t
      refine XS.dup X1.here hx rfl (hb hby ow27_67) rfl rfl ?_
      refine XS.iconst X1.here hx rfl (hb hby ow27_68) ?_
      show SP p e below T1 (mkF m 69 #[iv 3, iv d0, iv d1, iv d2, iv d3] [(.int (3 : Int32)), (.ref b1), (.ref b1)]) t
      exact st3 t k)
  obtain ⟨cl5, Ar5, qq5, Sz5, Ng5, Ha5, Ga5⟩ := id V3
  have hin5 : ¬ ((0 : Int32) < 0 ∨ cl5.slots.size ≤ ((0 : Int32)).toNatClampNeg) := inb_of Sz5 (by decide)
  obtain ⟨T6, hp6, X6, e6, W6, st6⟩ := stC X3 hx hZ e3 Ar5 (j := (0 : Int32)) hin5 (g := (mkF m 74 #[iv 3, iv d0, iv d1, iv d2, iv d3] [(.int d0), (.int (0 : Int32)), (.ref b3), (.ref b3), (.ref b1), (.ref b1)])) rfl rfl (hb hby ow27_74)
  have ch7 : ∀ t, SP p e below T6 (mkF m 75 #[iv 3, iv d0, iv d1, iv d2, iv d3] [(.ref b3), (.ref b1), (.ref b1)]) t → SP p e below s₁ (entryFrame m #[(.int (3 : Int32)), (.int d0), (.int d1), (.int d2), (.int d3)] 5) t := fun t k => ch4 t (by
      show SP p e below T3 (mkF m 71 #[iv 3, iv d0, iv d1, iv d2, iv d3] [(.ref b3), (.ref b1), (.ref b1)]) t
      refine XS.dup X3.here hx rfl (hb hby ow27_71) rfl rfl ?_
      refine XS.iconst X3.here hx rfl (hb hby ow27_72) ?_
      show SP p e below T3 (mkF m 73 #[iv 3, iv d0, iv d1, iv d2, iv d3] [(.int (0 : Int32)), (.ref b3), (.ref b3), (.ref b1), (.ref b1)]) t
      refine XS.iloadN X3.here hx rfl (hb hby ow27_73) rfl ?_
      show SP p e below T3 (mkF m 74 #[iv 3, iv d0, iv d1, iv d2, iv d3] [(.int d0), (.int (0 : Int32)), (.ref b3), (.ref b3), (.ref b1), (.ref b1)]) t
      exact st6 t k)
  have V6 : Arv Z hp6 b3 k3 .char (3 : Int32) [(.int (nar .char d0)), (.int (0 : Int32)), (.int (0 : Int32))] (.int (0 : Int32)) := Arv.set Ar5 qq5 Sz5 Ng5 Ha5 Ga5 (fits_nar_char _) W6 0 rfl (Nat.le_of_ble_eq_true rfl)
  rw [own_narc r0] at V6
  have N6 := Fr.snoc X6 N0 g_b3
  have Kp6 := Keep.wr Kp3 W6 (Or.inr sz_b3)
  obtain ⟨cl8, Ar8, qq8, Sz8, Ng8, Ha8, Ga8⟩ := id V6
  have hin8 : ¬ ((1 : Int32) < 0 ∨ cl8.slots.size ≤ ((1 : Int32)).toNatClampNeg) := inb_of Sz8 (by decide)
  obtain ⟨T9, hp9, X9, e9, W9, st9⟩ := stC X6 hx hZ e6 Ar8 (j := (1 : Int32)) hin8 (g := (mkF m 78 #[iv 3, iv d0, iv d1, iv d2, iv d3] [(.int d1), (.int (1 : Int32)), (.ref b3), (.ref b3), (.ref b1), (.ref b1)])) rfl rfl (hb hby ow27_78)
  have ch10 : ∀ t, SP p e below T9 (mkF m 79 #[iv 3, iv d0, iv d1, iv d2, iv d3] [(.ref b3), (.ref b1), (.ref b1)]) t → SP p e below s₁ (entryFrame m #[(.int (3 : Int32)), (.int d0), (.int d1), (.int d2), (.int d3)] 5) t := fun t k => ch7 t (by
      show SP p e below T6 (mkF m 75 #[iv 3, iv d0, iv d1, iv d2, iv d3] [(.ref b3), (.ref b1), (.ref b1)]) t
      refine XS.dup X6.here hx rfl (hb hby ow27_75) rfl rfl ?_
      refine XS.iconst X6.here hx rfl (hb hby ow27_76) ?_
      refine XS.iloadN X6.here hx rfl (hb hby ow27_77) rfl ?_
      show SP p e below T6 (mkF m 78 #[iv 3, iv d0, iv d1, iv d2, iv d3] [(.int d1), (.int (1 : Int32)), (.ref b3), (.ref b3), (.ref b1), (.ref b1)]) t
      exact st9 t k)
  have V9 : Arv Z hp9 b3 k3 .char (3 : Int32) [(.int d0), (.int (nar .char d1)), (.int (0 : Int32))] (.int (0 : Int32)) := Arv.set Ar8 qq8 Sz8 Ng8 Ha8 Ga8 (fits_nar_char _) W9 1 rfl (Nat.le_of_ble_eq_true rfl)
  rw [own_narc r1] at V9
  have N9 := Fr.snoc X9 N6 g_b3
  have Kp9 := Keep.wr Kp6 W9 (Or.inr sz_b3)
  obtain ⟨cl11, Ar11, qq11, Sz11, Ng11, Ha11, Ga11⟩ := id V9
  have hin11 : ¬ ((2 : Int32) < 0 ∨ cl11.slots.size ≤ ((2 : Int32)).toNatClampNeg) := inb_of Sz11 (by decide)
  obtain ⟨T12, hp12, X12, e12, W12, st12⟩ := stC X9 hx hZ e9 Ar11 (j := (2 : Int32)) hin11 (g := (mkF m 82 #[iv 3, iv d0, iv d1, iv d2, iv d3] [(.int d2), (.int (2 : Int32)), (.ref b3), (.ref b3), (.ref b1), (.ref b1)])) rfl rfl (hb hby ow27_82)
  have ch13 : ∀ t, SP p e below T12 (mkF m 83 #[iv 3, iv d0, iv d1, iv d2, iv d3] [(.ref b3), (.ref b1), (.ref b1)]) t → SP p e below s₁ (entryFrame m #[(.int (3 : Int32)), (.int d0), (.int d1), (.int d2), (.int d3)] 5) t := fun t k => ch10 t (by
      show SP p e below T9 (mkF m 79 #[iv 3, iv d0, iv d1, iv d2, iv d3] [(.ref b3), (.ref b1), (.ref b1)]) t
      refine XS.dup X9.here hx rfl (hb hby ow27_79) rfl rfl ?_
      refine XS.iconst X9.here hx rfl (hb hby ow27_80) ?_
      refine XS.iloadN X9.here hx rfl (hb hby ow27_81) rfl ?_
      show SP p e below T9 (mkF m 82 #[iv 3, iv d0, iv d1, iv d2, iv d3] [(.int d2), (.int (2 : Int32)), (.ref b3), (.ref b3), (.ref b1), (.ref b1)]) t
      exact st12 t k)
  have V12 : Arv Z hp12 b3 k3 .char (3 : Int32) [(.int d0), (.int d1), (.int (nar .char d2))] (.int (0 : Int32)) := Arv.set Ar11 qq11 Sz11 Ng11 Ha11 Ga11 (fits_nar_char _) W12 2 rfl (Nat.le_of_ble_eq_true rfl)
  rw [own_narc r2] at V12
  have N12 := Fr.snoc X12 N9 g_b3
  have Kp12 := Keep.wr Kp9 W12 (Or.inr sz_b3)
  have hp14 : ∀ c ∈ ([d0, d1, d2] : List Int32), ¬ c < 0 ∧ ¬ (255 : Int32) < c := by
    intro c hc
    simp only [List.mem_cons, List.not_mem_nil, or_false] at hc
    rcases hc with rfl | rfl | rfl
    · exact r0
    · exact r1
    · exact r2
  have cf15 := (Exa.wr W12 (Exa.wr W9 (Exa.wr W6 (A1.ext E3))))
  have cf16 := (Fld.other W12 (Fld.other W9 (Fld.other W6 (F1_24.ext E3) (Or.inl ne_b1_b3)) (Or.inl ne_b1_b3)) (Or.inl ne_b1_b3))
  have cf17 := (Fld.other W12 (Fld.other W9 (Fld.other W6 (F1_25.ext E3) (Or.inl ne_b1_b3)) (Or.inl ne_b1_b3)) (Or.inl ne_b1_b3))
  have cf18 := (own_sta_keep S_CS Kp12 all0)
  obtain ⟨vv19, _, ⟨T19, L19, kk19, nn19⟩, -, X19, ⟨Lc19, hQ19, l19, y19, z19⟩, st19⟩ := X12.specialBack hx (y := ym6) rfl hown (mvT hZ (own_wi hw 12 rfl)) (mvT hZ (own_wi hw 13 rfl)) (mvT hZ (own_wi hw 14 rfl)) (by decide) (StrChars.Road.backV (W := 1) hZ (own_words hw) (kI := 4) (own_wi hw 10 rfl) (cs := ([d0, d1, d2] : List Int32)) (bs := (([d0, d1, d2] : List Int32)).map (fun c => c.toInt8.toInt32)) (n := 3) g_b1 (Nat.le_trans Z0 Kp12.1) cf15 cf16 cf17 V12 cf18 P5 rfl rfl (by decide) (by decide) hp14 rfl (by decide) (by decide)) (g := (mkF m 83 #[iv 3, iv d0, iv d1, iv d2, iv d3] [(.ref b3), (.ref b1), (.ref b1)])) rfl (by rw [hml]; rfl) (Steps.refl _) (a := b1) (argsL := [(.ref b3)]) (rest := [(.ref b1)]) (lenOf own_pd___C_V rfl) rfl (by show 2 * 0 + _ ≤ _; exact Nat.le_of_eq rfl) (hb hby ow27_83) (fun _ _ => ⟨rfl, e12, (by decide : 2 + 1 ≤ _), (by decide : 7 + 3 ≤ _)⟩)
  dsimp only [Pt.U, Pt.locs, Pt.cells, Pt.slots] at X19 l19 y19 z19 st19 hQ19
  subst l19 y19 z19
  obtain ⟨hh19, eh19⟩ : ∃ h, T19.heap = h := ⟨_, rfl⟩
  rw [eh19] at hQ19
  obtain ⟨rfl, Nq19, Kq19, fq19_0, fq19_1⟩ := hQ19
  have N19 := Fr.app N12 Nq19
  have Kp19 := Keep.trans Kp12 Kq19 (allS (Or.inr sz_b1) all0)
  obtain ⟨fc19, tb19, kb19, ut19, vt19, wt19, fv19, av19⟩ := fq19_1
  have ne_b1_tb19 : b1 ≠ tb19 := Nat.ne_of_lt (Nat.lt_of_lt_of_le cf15.lt vt19)
  have ne_b3_tb19 : b3 ≠ tb19 := Nat.ne_of_lt (Nat.lt_of_lt_of_le V12.lt vt19)
  have Vb19 : Arv Z hh19 tb19 kb19 .byte (3 : Int32) [(.int (d0.toInt8.toInt32)), (.int (d1.toInt8.toInt32)), (.int (d2.toInt8.toInt32))] (.int (0 : Int32)) := av19
  have ch20 : ∀ t, SP p e below T19 (mkF m 86 #[iv 3, iv d0, iv d1, iv d2, iv d3] [(.ref b1)]) t → SP p e below s₁ (entryFrame m #[(.int (3 : Int32)), (.int d0), (.int d1), (.int d2), (.int d3)] 5) t := fun t k => ch13 t (by
      show SP p e below T12 (mkF m 83 #[iv 3, iv d0, iv d1, iv d2, iv d3] [(.ref b3), (.ref b1), (.ref b1)]) t
      exact st19.trans k)
  obtain ⟨fs, hr, hrun, hended, hW, hsame⟩ := X19.leave (v := some (.ref b1)) (fun h => by rw [Bd.returns] at h; cases h)
  refine ⟨_, _, ch20 _ ?_, hrun, hended, _, _, rfl, ?_, ⟨_, rfl⟩, hW, hsame.mono (by decide) (by decide)⟩
  · show Steps p.tables e below (T19.setTop (mkF m 86 #[iv 3, iv d0, iv d1, iv d2, iv d3] [(.ref b1)])) _
    jvm_step X19.here [X19.here.top, hx, (hb hby ow27_86), X19.method', Bd.returns, Value.isRef, FieldType.isReference]
    first | (intro acts; rw [hr _ acts rfl rfl rfl]) | rw [hr _ _ rfl rfl rfl]
    exact Steps.refl _
  · show QS Z (3 : Int32) [(.int (d0.toInt8.toInt32)), (.int (d1.toInt8.toInt32)), (.int (d2.toInt8.toInt32))] h0 n0 _ T19.heap _
    rw [eh19]
    exact ⟨_, _, _, rfl, sz_b1, N19, Kp19, fq19_0, fc19, fv19, Vb19⟩
theorem own_ef_own_make_4 (m : MethodId) {x0 : Int32} {x1 : Int32} {x2 : Int32} {x3 : Int32} {x4 : Int32} : entryFrame m #[(.int x0), (.int x1), (.int x2), (.int x3), (.int x4)] 5 = mkF m 0 #[iv x0, iv x1, iv x2, iv x3, iv x4] [] := by first | (simp [entryFrame, mkF, argsToLocals, Value.category, maxLocals]; done) | rfl
set_option maxRecDepth 65536 in
set_option maxHeartbeats 40000000 in
theorem own_make_4 (l : Launch) (Z : State) (a0 : Array Value) (hw : ∀ d ∈ tables_1, d.before a0 Z = true) (ws : List Jvm.Cond) (h0 : Heap) (n0 : Nat) (Z0 : n0 ≤ h0.size) (d0 d1 d2 d3 : Int32) (r0 : ¬ d0 < 0 ∧ ¬ (255 : Int32) < d0) (r1 : ¬ d1 < 0 ∧ ¬ (255 : Int32) < d1) (r2 : ¬ d2 < 0 ∧ ¬ (255 : Int32) < d2) (r3 : ¬ d3 < 0 ∧ ¬ (255 : Int32) < d3) (zC : Int32) (S_CS : Sta Z h0 "java/lang/String" "COMPACT_STRINGS" "Z" (.int zC)) (P5 : ¬ (zC = (0 : Int32))) :
    MetFree l ym2 (head1 (Jvm.Cond.code ym2 method_3_code 5 (some (.object "java/lang/String")) :: ws) rm21) (fun a U => a = #[(.int (4 : Int32)), (.int d0), (.int d1), (.int d2), (.int d3)] ∧ Z.Warmed39 U.vm ∧ U.heap = h0) (fun _ _ _ _ _ => True) (fun _ U o U' => ∃ v L, o = .returned v ∧ QS Z (4 : Int32) [(.int (d0.toInt8.toInt32)), (.int (d1.toInt8.toInt32)), (.int (d2.toInt8.toInt32)), (.int (d3.toInt8.toInt32))] h0 n0 v U'.heap L ∧ FrameEnd U o U' L rm21.cells rm21.slots) := by
  refine MetFree.of_bodySF (plainFor_of_name own_pn_com_example_leafwright_leafwright_ReferencesFragmentPinLaw) hisR ?_
  intro p e s m args below meth c s₁ Bd hml0 hP hK
  obtain ⟨rfl, hZ, hh⟩ := hP
  have hx := Bd.exec
  have hby := Bd.bytes
  have hml : c.maxLocals = 5 := hml0
  have hown : s.vm.findClass "com/example/leafwright/leafwright/ReferencesFragmentPinLaw" = some m.cls := (findClass_of_methodNamed Bd.named :)
  have hnm := (name_of_methodNamed Bd.named Bd.method).1
  have X0 : Stand p l e rm21 s m #[(.int (4 : Int32)), (.int d0), (.int d1), (.int d2), (.int d3)] below meth c s₁ [] 0 0 := Stand.of_body Bd
  have e0 : s₁.heap = h0 := by rw [← hh, Bd.state]; rfl
  have N0 := Fr.nil n0
  have pre0 : ∀ t, SP p e below s₁ (mkF m 0 #[iv 4, iv d0, iv d1, iv d2, iv d3] []) t → SP p e below s₁ (entryFrame m #[(.int (4 : Int32)), (.int d0), (.int d1), (.int d2), (.int d3)] 5) t := fun t k => castTop (own_ef_own_make_4 m) k
  obtain ⟨T1, hp1, X1, e1, E1, A1, D1, -, st1⟩ := newO X0 hx hZ hown (own_wi hw 9 rfl) (own_wi hw 10 rfl) (own_wi hw 11 rfl) e0 (g := (mkF m 87 #[iv 4, iv d0, iv d1, iv d2, iv d3] [])) rfl (hb hby ow27_87) (by decide) (by decide)
  obtain ⟨b1, g1⟩ : ∃ z, z = h0.size := ⟨_, rfl⟩
  rw [← g1] at A1 D1 st1
  have g_b1 : n0 ≤ b1 := Nat.le_trans (Nat.le_trans Z0 (Keep.refl h0 []).1) (Nat.le_of_eq g1.symm)
  have sz_b1 : h0.size ≤ b1 := Nat.le_trans (Keep.refl h0 []).1 (Nat.le_of_eq g1.symm)
  have Kp1 := Keep.ext (Keep.refl h0 []) E1
  have F1_24 : Fld Z hp1 b1 "java/lang/String" "value" "[B" .null := D1 (Or.inr (own_wi hw 24 rfl)) (ty := (.array .byte)) (by decide)
  have F1_25 : Fld Z hp1 b1 "java/lang/String" "coder" "B" (.int (0 : Int32)) := D1 (Or.inr (own_wi hw 25 rfl)) (ty := .byte) (by decide)
  have ch2 : ∀ t, SP p e below T1 (mkF m 90 #[iv 4, iv d0, iv d1, iv d2, iv d3] [(.ref b1)]) t → SP p e below s₁ (entryFrame m #[(.int (4 : Int32)), (.int d0), (.int d1), (.int d2), (.int d3)] 5) t := fun t k => pre0 t (by
      show SP p e below s₁ (mkF m 0 #[iv 4, iv d0, iv d1, iv d2, iv d3] []) t
      refine XS.iloadN X0.here hx rfl (hb hby ow27_0) rfl ?_
      refine XS.ifYes X0.here hx rfl (pc0 := 1) (pc' := 15) rfl (hb hby ow27_1) rfl ((if0 _ _).trans (feq (by decide : ¬ (4 : Int32) = (0 : Int32))).2) (by decide) (by decide) ?_
      refine XS.iloadN X0.here hx rfl (hb hby ow27_15) rfl ?_
      refine XS.iconst X0.here hx rfl (hb hby ow27_16) ?_
      refine XS.icmpYes X0.here hx rfl (pc0 := 17) (pc' := 35) rfl (hb hby ow27_17) rfl (feq (by decide : ¬ (4 : Int32) = (1 : Int32))).2 (by decide) (by decide) ?_
      refine XS.iloadN X0.here hx rfl (hb hby ow27_35) rfl ?_
      refine XS.iconst X0.here hx rfl (hb hby ow27_36) ?_
      refine XS.icmpYes X0.here hx rfl (pc0 := 37) (pc' := 59) rfl (hb hby ow27_37) rfl (feq (by decide : ¬ (4 : Int32) = (2 : Int32))).2 (by decide) (by decide) ?_
      refine XS.iloadN X0.here hx rfl (hb hby ow27_59) rfl ?_
      refine XS.iconst X0.here hx rfl (hb hby ow27_60) ?_
      refine XS.icmpYes X0.here hx rfl (pc0 := 61) (pc' := 87) rfl (hb hby ow27_61) rfl (feq (by decide : ¬ (4 : Int32) = (3 : Int32))).2 (by decide) (by decide) ?_
      show SP p e below s₁ (mkF m 87 #[iv 4, iv d0, iv d1, iv d2, iv d3] []) t
      exact st1 t k)
  obtain ⟨T3, hp3, k3, X3, e3, E3, A3, st3⟩ := newP X1 hx hZ (own_wi hw 1 rfl) e1 (g := (mkF m 92 #[iv 4, iv d0, iv d1, iv d2, iv d3] [(.int (4 : Int32)), (.ref b1), (.ref b1)])) rfl (hb hby ow27_92) rfl (by decide) (cap := 4) (by decide) (by decide) (by decide) (by decide)
  obtain ⟨b3, g3⟩ : ∃ z, z = hp1.size := ⟨_, rfl⟩
  rw [← g3] at A3 st3
  have ne_b1_b3 : b1 ≠ b3 := Nat.ne_of_lt (Nat.lt_of_lt_of_le A1.lt (Nat.le_of_eq g3.symm))
  have g_b3 : n0 ≤ b3 := Nat.le_trans (Nat.le_trans Z0 Kp1.1) (Nat.le_of_eq g3.symm)
  have sz_b3 : h0.size ≤ b3 := Nat.le_trans Kp1.1 (Nat.le_of_eq g3.symm)
  have Kp3 := Keep.ext Kp1 E3
  have V3 : Arv Z hp3 b3 k3 .char (4 : Int32) [(.int (0 : Int32)), (.int (0 : Int32)), (.int (0 : Int32)), (.int (0 : Int32))] (.int (0 : Int32)) := (Arv.new A3 (by decide)).pad (pad_rep [] (.int (0 : Int32)) 4)
  have ch4 : ∀ t, SP p e below T3 (mkF m 94 #[iv 4, iv d0, iv d1, iv d2, iv d3] [(.ref b3), (.ref b1), (.ref b1)]) t → SP p e below s₁ (entryFrame m #[(.int (4 : Int32)), (.int d0), (.int d1), (.int d2), (.int d3)] 5) t := fun t k => ch2 t (by
      show SP p e below T1 (mkF m 90 #[iv 4, iv d0, iv d1, iv d2, iv d3] [(.ref b1)]) t
      refine XS.dup X1.here hx rfl (hb hby ow27_90) rfl rfl ?_
      refine XS.iconst X1.here hx rfl (hb hby ow27_91) ?_
      show SP p e below T1 (mkF m 92 #[iv 4, iv d0, iv d1, iv d2, iv d3] [(.int (4 : Int32)), (.ref b1), (.ref b1)]) t
      exact st3 t k)
  obtain ⟨cl5, Ar5, qq5, Sz5, Ng5, Ha5, Ga5⟩ := id V3
  have hin5 : ¬ ((0 : Int32) < 0 ∨ cl5.slots.size ≤ ((0 : Int32)).toNatClampNeg) := inb_of Sz5 (by decide)
  obtain ⟨T6, hp6, X6, e6, W6, st6⟩ := stC X3 hx hZ e3 Ar5 (j := (0 : Int32)) hin5 (g := (mkF m 97 #[iv 4, iv d0, iv d1, iv d2, iv d3] [(.int d0), (.int (0 : Int32)), (.ref b3), (.ref b3), (.ref b1), (.ref b1)])) rfl rfl (hb hby ow27_97)
  have ch7 : ∀ t, SP p e below T6 (mkF m 98 #[iv 4, iv d0, iv d1, iv d2, iv d3] [(.ref b3), (.ref b1), (.ref b1)]) t → SP p e below s₁ (entryFrame m #[(.int (4 : Int32)), (.int d0), (.int d1), (.int d2), (.int d3)] 5) t := fun t k => ch4 t (by
      show SP p e below T3 (mkF m 94 #[iv 4, iv d0, iv d1, iv d2, iv d3] [(.ref b3), (.ref b1), (.ref b1)]) t
      refine XS.dup X3.here hx rfl (hb hby ow27_94) rfl rfl ?_
      refine XS.iconst X3.here hx rfl (hb hby ow27_95) ?_
      show SP p e below T3 (mkF m 96 #[iv 4, iv d0, iv d1, iv d2, iv d3] [(.int (0 : Int32)), (.ref b3), (.ref b3), (.ref b1), (.ref b1)]) t
      refine XS.iloadN X3.here hx rfl (hb hby ow27_96) rfl ?_
      show SP p e below T3 (mkF m 97 #[iv 4, iv d0, iv d1, iv d2, iv d3] [(.int d0), (.int (0 : Int32)), (.ref b3), (.ref b3), (.ref b1), (.ref b1)]) t
      exact st6 t k)
  have V6 : Arv Z hp6 b3 k3 .char (4 : Int32) [(.int (nar .char d0)), (.int (0 : Int32)), (.int (0 : Int32)), (.int (0 : Int32))] (.int (0 : Int32)) := Arv.set Ar5 qq5 Sz5 Ng5 Ha5 Ga5 (fits_nar_char _) W6 0 rfl (Nat.le_of_ble_eq_true rfl)
  rw [own_narc r0] at V6
  have N6 := Fr.snoc X6 N0 g_b3
  have Kp6 := Keep.wr Kp3 W6 (Or.inr sz_b3)
  obtain ⟨cl8, Ar8, qq8, Sz8, Ng8, Ha8, Ga8⟩ := id V6
  have hin8 : ¬ ((1 : Int32) < 0 ∨ cl8.slots.size ≤ ((1 : Int32)).toNatClampNeg) := inb_of Sz8 (by decide)
  obtain ⟨T9, hp9, X9, e9, W9, st9⟩ := stC X6 hx hZ e6 Ar8 (j := (1 : Int32)) hin8 (g := (mkF m 101 #[iv 4, iv d0, iv d1, iv d2, iv d3] [(.int d1), (.int (1 : Int32)), (.ref b3), (.ref b3), (.ref b1), (.ref b1)])) rfl rfl (hb hby ow27_101)
  have ch10 : ∀ t, SP p e below T9 (mkF m 102 #[iv 4, iv d0, iv d1, iv d2, iv d3] [(.ref b3), (.ref b1), (.ref b1)]) t → SP p e below s₁ (entryFrame m #[(.int (4 : Int32)), (.int d0), (.int d1), (.int d2), (.int d3)] 5) t := fun t k => ch7 t (by
      show SP p e below T6 (mkF m 98 #[iv 4, iv d0, iv d1, iv d2, iv d3] [(.ref b3), (.ref b1), (.ref b1)]) t
      refine XS.dup X6.here hx rfl (hb hby ow27_98) rfl rfl ?_
      refine XS.iconst X6.here hx rfl (hb hby ow27_99) ?_
      refine XS.iloadN X6.here hx rfl (hb hby ow27_100) rfl ?_
      show SP p e below T6 (mkF m 101 #[iv 4, iv d0, iv d1, iv d2, iv d3] [(.int d1), (.int (1 : Int32)), (.ref b3), (.ref b3), (.ref b1), (.ref b1)]) t
      exact st9 t k)
  have V9 : Arv Z hp9 b3 k3 .char (4 : Int32) [(.int d0), (.int (nar .char d1)), (.int (0 : Int32)), (.int (0 : Int32))] (.int (0 : Int32)) := Arv.set Ar8 qq8 Sz8 Ng8 Ha8 Ga8 (fits_nar_char _) W9 1 rfl (Nat.le_of_ble_eq_true rfl)
  rw [own_narc r1] at V9
  have N9 := Fr.snoc X9 N6 g_b3
  have Kp9 := Keep.wr Kp6 W9 (Or.inr sz_b3)
  obtain ⟨cl11, Ar11, qq11, Sz11, Ng11, Ha11, Ga11⟩ := id V9
  have hin11 : ¬ ((2 : Int32) < 0 ∨ cl11.slots.size ≤ ((2 : Int32)).toNatClampNeg) := inb_of Sz11 (by decide)
  obtain ⟨T12, hp12, X12, e12, W12, st12⟩ := stC X9 hx hZ e9 Ar11 (j := (2 : Int32)) hin11 (g := (mkF m 105 #[iv 4, iv d0, iv d1, iv d2, iv d3] [(.int d2), (.int (2 : Int32)), (.ref b3), (.ref b3), (.ref b1), (.ref b1)])) rfl rfl (hb hby ow27_105)
  have ch13 : ∀ t, SP p e below T12 (mkF m 106 #[iv 4, iv d0, iv d1, iv d2, iv d3] [(.ref b3), (.ref b1), (.ref b1)]) t → SP p e below s₁ (entryFrame m #[(.int (4 : Int32)), (.int d0), (.int d1), (.int d2), (.int d3)] 5) t := fun t k => ch10 t (by
      show SP p e below T9 (mkF m 102 #[iv 4, iv d0, iv d1, iv d2, iv d3] [(.ref b3), (.ref b1), (.ref b1)]) t
      refine XS.dup X9.here hx rfl (hb hby ow27_102) rfl rfl ?_
      refine XS.iconst X9.here hx rfl (hb hby ow27_103) ?_
      refine XS.iloadN X9.here hx rfl (hb hby ow27_104) rfl ?_
      show SP p e below T9 (mkF m 105 #[iv 4, iv d0, iv d1, iv d2, iv d3] [(.int d2), (.int (2 : Int32)), (.ref b3), (.ref b3), (.ref b1), (.ref b1)]) t
      exact st12 t k)
  have V12 : Arv Z hp12 b3 k3 .char (4 : Int32) [(.int d0), (.int d1), (.int (nar .char d2)), (.int (0 : Int32))] (.int (0 : Int32)) := Arv.set Ar11 qq11 Sz11 Ng11 Ha11 Ga11 (fits_nar_char _) W12 2 rfl (Nat.le_of_ble_eq_true rfl)
  rw [own_narc r2] at V12
  have N12 := Fr.snoc X12 N9 g_b3
  have Kp12 := Keep.wr Kp9 W12 (Or.inr sz_b3)
  obtain ⟨cl14, Ar14, qq14, Sz14, Ng14, Ha14, Ga14⟩ := id V12
  have hin14 : ¬ ((3 : Int32) < 0 ∨ cl14.slots.size ≤ ((3 : Int32)).toNatClampNeg) := inb_of Sz14 (by decide)
  obtain ⟨T15, hp15, X15, e15, W15, st15⟩ := stC X12 hx hZ e12 Ar14 (j := (3 : Int32)) hin14 (g := (mkF m 110 #[iv 4, iv d0, iv d1, iv d2, iv d3] [(.int d3), (.int (3 : Int32)), (.ref b3), (.ref b3), (.ref b1), (.ref b1)])) rfl rfl (hb hby ow27_110)
  have ch16 : ∀ t, SP p e below T15 (mkF m 111 #[iv 4, iv d0, iv d1, iv d2, iv d3] [(.ref b3), (.ref b1), (.ref b1)]) t → SP p e below s₁ (entryFrame m #[(.int (4 : Int32)), (.int d0), (.int d1), (.int d2), (.int d3)] 5) t := fun t k => ch13 t (by
      show SP p e below T12 (mkF m 106 #[iv 4, iv d0, iv d1, iv d2, iv d3] [(.ref b3), (.ref b1), (.ref b1)]) t
      refine XS.dup X12.here hx rfl (hb hby ow27_106) rfl rfl ?_
      refine XS.iconst X12.here hx rfl (hb hby ow27_107) ?_
      refine XS.iload X12.here hx rfl (hb hby ow27_108) rfl ?_
      show SP p e below T12 (mkF m 110 #[iv 4, iv d0, iv d1, iv d2, iv d3] [(.int d3), (.int (3 : Int32)), (.ref b3), (.ref b3), (.ref b1), (.ref b1)]) t
      exact st15 t k)
  have V15 : Arv Z hp15 b3 k3 .char (4 : Int32) [(.int d0), (.int d1), (.int d2), (.int (nar .char d3))] (.int (0 : Int32)) := Arv.set Ar14 qq14 Sz14 Ng14 Ha14 Ga14 (fits_nar_char _) W15 3 rfl (Nat.le_of_ble_eq_true rfl)
  rw [own_narc r3] at V15
  have N15 := Fr.snoc X15 N12 g_b3
  have Kp15 := Keep.wr Kp12 W15 (Or.inr sz_b3)
  have hp17 : ∀ c ∈ ([d0, d1, d2, d3] : List Int32), ¬ c < 0 ∧ ¬ (255 : Int32) < c := by
    intro c hc
    simp only [List.mem_cons, List.not_mem_nil, or_false] at hc
    rcases hc with rfl | rfl | rfl | rfl
    · exact r0
    · exact r1
    · exact r2
    · exact r3
  have cf18 := (Exa.wr W15 (Exa.wr W12 (Exa.wr W9 (Exa.wr W6 (A1.ext E3)))))
  have cf19 := (Fld.other W15 (Fld.other W12 (Fld.other W9 (Fld.other W6 (F1_24.ext E3) (Or.inl ne_b1_b3)) (Or.inl ne_b1_b3)) (Or.inl ne_b1_b3)) (Or.inl ne_b1_b3))
  have cf20 := (Fld.other W15 (Fld.other W12 (Fld.other W9 (Fld.other W6 (F1_25.ext E3) (Or.inl ne_b1_b3)) (Or.inl ne_b1_b3)) (Or.inl ne_b1_b3)) (Or.inl ne_b1_b3))
  have cf21 := (own_sta_keep S_CS Kp15 all0)
  obtain ⟨vv22, _, ⟨T22, L22, kk22, nn22⟩, -, X22, ⟨Lc22, hQ22, l22, y22, z22⟩, st22⟩ := X15.specialBack hx (y := ym6) rfl hown (mvT hZ (own_wi hw 12 rfl)) (mvT hZ (own_wi hw 13 rfl)) (mvT hZ (own_wi hw 14 rfl)) (by decide) (StrChars.Road.backV (W := 1) hZ (own_words hw) (kI := 4) (own_wi hw 10 rfl) (cs := ([d0, d1, d2, d3] : List Int32)) (bs := (([d0, d1, d2, d3] : List Int32)).map (fun c => c.toInt8.toInt32)) (n := 4) g_b1 (Nat.le_trans Z0 Kp15.1) cf18 cf19 cf20 V15 cf21 P5 rfl rfl (by decide) (by decide) hp17 rfl (by decide) (by decide)) (g := (mkF m 111 #[iv 4, iv d0, iv d1, iv d2, iv d3] [(.ref b3), (.ref b1), (.ref b1)])) rfl (by rw [hml]; rfl) (Steps.refl _) (a := b1) (argsL := [(.ref b3)]) (rest := [(.ref b1)]) (lenOf own_pd___C_V rfl) rfl (by show 2 * 0 + _ ≤ _; exact Nat.le_of_eq rfl) (hb hby ow27_111) (fun _ _ => ⟨rfl, e15, (by decide : 2 + 1 ≤ _), (by decide : 8 + 4 ≤ _)⟩)
  dsimp only [Pt.U, Pt.locs, Pt.cells, Pt.slots] at X22 l22 y22 z22 st22 hQ22
  subst l22 y22 z22
  obtain ⟨hh22, eh22⟩ : ∃ h, T22.heap = h := ⟨_, rfl⟩
  rw [eh22] at hQ22
  obtain ⟨rfl, Nq22, Kq22, fq22_0, fq22_1⟩ := hQ22
  have N22 := Fr.app N15 Nq22
  have Kp22 := Keep.trans Kp15 Kq22 (allS (Or.inr sz_b1) all0)
  obtain ⟨fc22, tb22, kb22, ut22, vt22, wt22, fv22, av22⟩ := fq22_1
  have ne_b1_tb22 : b1 ≠ tb22 := Nat.ne_of_lt (Nat.lt_of_lt_of_le cf18.lt vt22)
  have ne_b3_tb22 : b3 ≠ tb22 := Nat.ne_of_lt (Nat.lt_of_lt_of_le V15.lt vt22)
  have Vb22 : Arv Z hh22 tb22 kb22 .byte (4 : Int32) [(.int (d0.toInt8.toInt32)), (.int (d1.toInt8.toInt32)), (.int (d2.toInt8.toInt32)), (.int (d3.toInt8.toInt32))] (.int (0 : Int32)) := av22
  have ch23 : ∀ t, SP p e below T22 (mkF m 114 #[iv 4, iv d0, iv d1, iv d2, iv d3] [(.ref b1)]) t → SP p e below s₁ (entryFrame m #[(.int (4 : Int32)), (.int d0), (.int d1), (.int d2), (.int d3)] 5) t := fun t k => ch16 t (by
      show SP p e below T15 (mkF m 111 #[iv 4, iv d0, iv d1, iv d2, iv d3] [(.ref b3), (.ref b1), (.ref b1)]) t
      exact st22.trans k)
  obtain ⟨fs, hr, hrun, hended, hW, hsame⟩ := X22.leave (v := some (.ref b1)) (fun h => by rw [Bd.returns] at h; cases h)
  refine ⟨_, _, ch23 _ ?_, hrun, hended, _, _, rfl, ?_, ⟨_, rfl⟩, hW, hsame.mono (by decide) (by decide)⟩
  · show Steps p.tables e below (T22.setTop (mkF m 114 #[iv 4, iv d0, iv d1, iv d2, iv d3] [(.ref b1)])) _
    jvm_step X22.here [X22.here.top, hx, (hb hby ow27_114), X22.method', Bd.returns, Value.isRef, FieldType.isReference]
    first | (intro acts; rw [hr _ acts rfl rfl rfl]) | rw [hr _ _ rfl rfl rfl]
    exact Steps.refl _
  · show QS Z (4 : Int32) [(.int (d0.toInt8.toInt32)), (.int (d1.toInt8.toInt32)), (.int (d2.toInt8.toInt32)), (.int (d3.toInt8.toInt32))] h0 n0 _ T22.heap _
    rw [eh22]
    exact ⟨_, _, _, rfl, sz_b1, N22, Kp22, fq22_0, fc22, fv22, Vb22⟩
theorem own_ef_own_law_0 (m : MethodId) {x0 : Int32} {x1 : Int32} {x2 : Int32} {x3 : Int32} {x4 : Int32} : entryFrame m #[(.int x0), (.int x1), (.int x2), (.int x3), (.int x4)] maxLocals = mkF m 0 #[iv x0, iv x1, iv x2, iv x3, iv x4, .unset, .unset, .unset, .unset, .unset, .unset, .unset] [] := by first | (simp [entryFrame, mkF, argsToLocals, Value.category, maxLocals]; done) | rfl
set_option maxRecDepth 65536 in
set_option maxHeartbeats 40000000 in
theorem own_law_0 (l : Launch) (Z : State) (a0 : Array Value) (hw : ∀ d ∈ tables_1, d.before a0 Z = true) (ws : List Jvm.Cond) (h0 : Heap) (n0 : Nat) (Z0 : n0 ≤ h0.size) (p1 p2 p3 p4 p5 d0 d1 d2 d3 : Int32) (hn5 : ((p1 &&& (2147483647 : Int32)) % (5 : Int32)) = (0 : Int32)) (HD0 : ∀ (h : Heap) (n0 : Nat) (Z0 : n0 ≤ h.size), MetFree l ym1 (head1 (Jvm.Cond.code ym1 method_2_code 1 (some .char) :: []) rm0) (fun a U => a = #[(.int p2)] ∧ Z.Warmed39 U.vm ∧ U.heap = h) (fun _ _ _ _ _ => True) (fun _ U o U' => ∃ v L, o = .returned v ∧ QV (some (.int d0)) h n0 v U'.heap L ∧ FrameEnd U o U' L rm0.cells rm0.slots)) (HD1 : ∀ (h : Heap) (n0 : Nat) (Z0 : n0 ≤ h.size), MetFree l ym1 (head1 (Jvm.Cond.code ym1 method_2_code 1 (some .char) :: []) rm0) (fun a U => a = #[(.int p3)] ∧ Z.Warmed39 U.vm ∧ U.heap = h) (fun _ _ _ _ _ => True) (fun _ U o U' => ∃ v L, o = .returned v ∧ QV (some (.int d1)) h n0 v U'.heap L ∧ FrameEnd U o U' L rm0.cells rm0.slots)) (HD2 : ∀ (h : Heap) (n0 : Nat) (Z0 : n0 ≤ h.size), MetFree l ym1 (head1 (Jvm.Cond.code ym1 method_2_code 1 (some .char) :: []) rm0) (fun a U => a = #[(.int p4)] ∧ Z.Warmed39 U.vm ∧ U.heap = h) (fun _ _ _ _ _ => True) (fun _ U o U' => ∃ v L, o = .returned v ∧ QV (some (.int d2)) h n0 v U'.heap L ∧ FrameEnd U o U' L rm0.cells rm0.slots)) (HD3 : ∀ (h : Heap) (n0 : Nat) (Z0 : n0 ≤ h.size), MetFree l ym1 (head1 (Jvm.Cond.code ym1 method_2_code 1 (some .char) :: []) rm0) (fun a U => a = #[(.int p5)] ∧ Z.Warmed39 U.vm ∧ U.heap = h) (fun _ _ _ _ _ => True) (fun _ U o U' => ∃ v L, o = .returned v ∧ QV (some (.int d3)) h n0 v U'.heap L ∧ FrameEnd U o U' L rm0.cells rm0.slots)) (r0 : ¬ d0 < 0 ∧ ¬ (255 : Int32) < d0) (r1 : ¬ d1 < 0 ∧ ¬ (255 : Int32) < d1) (r2 : ¬ d2 < 0 ∧ ¬ (255 : Int32) < d2) (r3 : ¬ d3 < 0 ∧ ¬ (255 : Int32) < d3) (zC : Int32) (S_CS : Sta Z h0 "java/lang/String" "COMPACT_STRINGS" "Z" (.int zC)) (P5 : ¬ (zC = (0 : Int32))) (vF : Value) (hvF : vF.category = 1) (S_F : Sta Z h0 "jdk/internal/util/Preconditions" "SIOOBE_FORMATTER" "Ljava/util/function/BiFunction;" vF) :
    MetFree l x (head1 (Jvm.Cond.code x code maxLocals ret :: ws) room_1) (fun a U => a = #[(.int p1), (.int p2), (.int p3), (.int p4), (.int p5)] ∧ Z.Warmed39 U.vm ∧ U.heap = h0 ∧ CHv Z consts_1 U.vm h0) (fun _ _ _ _ _ => True) (fun _ U o U' => ∃ v L, o = .returned v ∧ QN (some (.int (1 : Int32))) n0 v U'.heap L ∧ ReturnedEndW U o U' L room_1.cells room_1.slots) := by
  refine MetFree.of_bodySF (plainFor_of_name own_pn_com_example_leafwright_leafwright_ReferencesFragmentPinLaw) hisR ?_
  intro p e s m args below meth c s₁ Bd hml0 hP hK
  obtain ⟨rfl, hZ, hh, hC⟩ := hP
  have hx := Bd.exec
  have hby := Bd.bytes
  have hml : c.maxLocals = 12 := hml0
  have hown : s.vm.findClass "com/example/leafwright/leafwright/ReferencesFragmentPinLaw" = some m.cls := (findClass_of_methodNamed Bd.named :)
  have hnm := (name_of_methodNamed Bd.named Bd.method).1
  have X0 : Stand p l e room_1 (s.setVm s.vm) m #[(.int p1), (.int p2), (.int p3), (.int p4), (.int p5)] below meth c s₁ [] 0 0 := Stand.of_body Bd
  have hZ : Z.Warmed39 (s.setVm s.vm).vm := hZ
  have hown : (s.setVm s.vm).vm.findClass "com/example/leafwright/leafwright/ReferencesFragmentPinLaw" = some m.cls := hown
  have hS : s.Since s.vm 0 := (State.WarmedH.refl s).since 0
  have hk : 0 ≤ h0.size := Nat.zero_le _
  have e0 : s₁.heap = h0 := by rw [← hh, Bd.state]; rfl
  have N0 := Fr.nil n0
  have pre0 : ∀ t, SP p e below s₁ (mkF m 0 #[iv p1, iv p2, iv p3, iv p4, iv p5, .unset, .unset, .unset, .unset, .unset, .unset, .unset] []) t → SP p e below s₁ (entryFrame m #[(.int p1), (.int p2), (.int p3), (.int p4), (.int p5)] maxLocals) t := fun t k => castTop (own_ef_own_law_0 m) k
  obtain ⟨T1, hp1, k1, X1, e1, E1, A1, st1⟩ := newP X0 hx hZ (own_wi hw 1 rfl) e0 (g := (mkF m 9 #[iv p1, iv p2, iv p3, iv p4, iv p5, iv 0, .unset, .unset, .unset, .unset, .unset, .unset] [(.int (4 : Int32))])) rfl (hb hby at_9) rfl (by decide) (cap := 4) (by decide) (by decide) (by decide) (by decide)
  obtain ⟨b1, g1⟩ : ∃ z, z = h0.size := ⟨_, rfl⟩
  rw [← g1] at A1 st1
  have g_b1 : n0 ≤ b1 := Nat.le_trans (Nat.le_trans Z0 (Keep.refl h0 []).1) (Nat.le_of_eq g1.symm)
  have sz_b1 : h0.size ≤ b1 := Nat.le_trans (Keep.refl h0 []).1 (Nat.le_of_eq g1.symm)
  have hk := Nat.le_trans hk E1.1
  have Kp1 := Keep.ext (Keep.refl h0 []) E1
  have V1 : Arv Z hp1 b1 k1 .char (4 : Int32) [(.int (0 : Int32)), (.int (0 : Int32)), (.int (0 : Int32)), (.int (0 : Int32))] (.int (0 : Int32)) := (Arv.new A1 (by decide)).pad (pad_rep [] (.int (0 : Int32)) 4)
  have ch2 : ∀ t, SP p e below T1 (mkF m 11 #[iv p1, iv p2, iv p3, iv p4, iv p5, iv 0, .unset, .unset, .unset, .unset, .unset, .unset] [(.ref b1)]) t → SP p e below s₁ (entryFrame m #[(.int p1), (.int p2), (.int p3), (.int p4), (.int p5)] maxLocals) t := fun t k => pre0 t (by
      show SP p e below s₁ (mkF m 0 #[iv p1, iv p2, iv p3, iv p4, iv p5, .unset, .unset, .unset, .unset, .unset, .unset, .unset] []) t
      refine XS.iloadN X0.here hx rfl (hb hby at_0) rfl ?_
      refine X0.ldcInt hx hown (mvT hZ (own_wi hw 0 rfl)) (g := (mkF m 1 #[iv p1, iv p2, iv p3, iv p4, iv p5, .unset, .unset, .unset, .unset, .unset, .unset, .unset] [(.int p1)])) rfl (hb hby at_1) _ ?_
      show SP p e below s₁ (mkF m 3 #[iv p1, iv p2, iv p3, iv p4, iv p5, .unset, .unset, .unset, .unset, .unset, .unset, .unset] [(.int (2147483647 : Int32)), (.int p1)]) t
      refine XS.iand X0.here hx rfl (hb hby at_3) rfl ?_
      refine XS.iconst X0.here hx rfl (hb hby at_4) ?_
      show SP p e below s₁ (mkF m 5 #[iv p1, iv p2, iv p3, iv p4, iv p5, .unset, .unset, .unset, .unset, .unset, .unset, .unset] [(.int (5 : Int32)), (.int (p1 &&& (2147483647 : Int32)))]) t
      refine Jvm.RoadKit.iremM (g := (mkF m 5 #[iv p1, iv p2, iv p3, iv p4, iv p5, .unset, .unset, .unset, .unset, .unset, .unset, .unset] [(.int (5 : Int32)), (.int (p1 &&& (2147483647 : Int32)))])) X0 hx rfl (hb hby at_5) rfl (by decide) ?_
      rw [hn5]
      refine XS.istore X0.here hx rfl (hb hby at_6) rfl (l' := #[iv p1, iv p2, iv p3, iv p4, iv p5, iv 0, .unset, .unset, .unset, .unset, .unset, .unset]) rfl ?_
      refine XS.iconst X0.here hx rfl (hb hby at_8) ?_
      show SP p e below s₁ (mkF m 9 #[iv p1, iv p2, iv p3, iv p4, iv p5, iv 0, .unset, .unset, .unset, .unset, .unset, .unset] [(.int (4 : Int32))]) t
      exact st1 t k)
  obtain ⟨vv3, _, ⟨T3, L3, kk3, nn3⟩, -, X3, ⟨Lc3, hQ3, l3, y3, z3⟩, st3⟩ := Jvm.LawKit.callS X1 hx (y := ym1) hown (mvT hZ (own_wi hw 2 rfl)) (mvT hZ (own_wi hw 3 rfl)) (mvT hZ (own_wi hw 4 rfl)) (mvT hZ (own_wi hw 5 rfl)) (by decide) (backOf (W := 3) (HD0 hp1 n0 (Nat.le_trans Z0 Kp1.1)) hZ (own_wi hw 5 rfl) (own_wi hw 4 rfl) (by decide) (by decide)) (g := (mkF m 14 #[iv p1, iv p2, iv p3, iv p4, iv p5, iv 0, .unset, .unset, .unset, .unset, .unset, .unset] [(.int p2), (.int (0 : Int32)), (.ref b1), (.ref b1)])) rfl (by rw [hml]; rfl) (argsL := [(.int p2)]) (rest := [(.int (0 : Int32)), (.ref b1), (.ref b1)]) (lenOf own_pd__I_C rfl) rfl (by show 2 * 0 + _ ≤ _; exact Nat.le_of_eq rfl) (hb hby at_14) (fun _ _ => ⟨rfl, e1, (by decide : 1 + 0 ≤ _), (by decide : 4 + 0 ≤ _)⟩)
  dsimp only [Pt.U, Pt.locs, Pt.cells, Pt.slots] at X3 l3 y3 z3 st3 hQ3
  subst l3 y3 z3
  obtain ⟨rfl, Nq3, e3⟩ := hQ3
  have N3 := Fr.app N0 Nq3
  have ch4 : ∀ t, SP p e below T3 (mkF m 17 #[iv p1, iv p2, iv p3, iv p4, iv p5, iv 0, .unset, .unset, .unset, .unset, .unset, .unset] [(.int d0), (.int (0 : Int32)), (.ref b1), (.ref b1)]) t → SP p e below s₁ (entryFrame m #[(.int p1), (.int p2), (.int p3), (.int p4), (.int p5)] maxLocals) t := fun t k => ch2 t (by
      show SP p e below T1 (mkF m 11 #[iv p1, iv p2, iv p3, iv p4, iv p5, iv 0, .unset, .unset, .unset, .unset, .unset, .unset] [(.ref b1)]) t
      refine XS.dup X1.here hx rfl (hb hby at_11) rfl rfl ?_
      refine XS.iconst X1.here hx rfl (hb hby at_12) ?_
      refine XS.iloadN X1.here hx rfl (hb hby at_13) rfl ?_
      show SP p e below T1 (mkF m 14 #[iv p1, iv p2, iv p3, iv p4, iv p5, iv 0, .unset, .unset, .unset, .unset, .unset, .unset] [(.int p2), (.int (0 : Int32)), (.ref b1), (.ref b1)]) t
      exact st3 t k)
  obtain ⟨cl5, Ar5, qq5, Sz5, Ng5, Ha5, Ga5⟩ := id V1
  have hin5 : ¬ ((0 : Int32) < 0 ∨ cl5.slots.size ≤ ((0 : Int32)).toNatClampNeg) := inb_of Sz5 (by decide)
  obtain ⟨T6, hp6, X6, e6, W6, st6⟩ := stC X3 hx hZ e3 Ar5 (j := (0 : Int32)) hin5 (g := (mkF m 17 #[iv p1, iv p2, iv p3, iv p4, iv p5, iv 0, .unset, .unset, .unset, .unset, .unset, .unset] [(.int d0), (.int (0 : Int32)), (.ref b1), (.ref b1)])) rfl rfl (hb hby at_17)
  have ch7 : ∀ t, SP p e below T6 (mkF m 18 #[iv p1, iv p2, iv p3, iv p4, iv p5, iv 0, .unset, .unset, .unset, .unset, .unset, .unset] [(.ref b1)]) t → SP p e below s₁ (entryFrame m #[(.int p1), (.int p2), (.int p3), (.int p4), (.int p5)] maxLocals) t := fun t k => ch4 t (by
      show SP p e below T3 (mkF m 17 #[iv p1, iv p2, iv p3, iv p4, iv p5, iv 0, .unset, .unset, .unset, .unset, .unset, .unset] [(.int d0), (.int (0 : Int32)), (.ref b1), (.ref b1)]) t
      exact st6 t k)
  have V6 : Arv Z hp6 b1 k1 .char (4 : Int32) [(.int (nar .char d0)), (.int (0 : Int32)), (.int (0 : Int32)), (.int (0 : Int32))] (.int (0 : Int32)) := Arv.set Ar5 qq5 Sz5 Ng5 Ha5 Ga5 (fits_nar_char _) W6 0 rfl (Nat.le_of_ble_eq_true rfl)
  rw [own_narc r0] at V6
  have hk := Nat.le_trans hk (Keep.of_wr W6).1
  have N6 := Fr.snoc X6 N3 g_b1
  have Kp6 := Keep.wr Kp1 W6 (Or.inr sz_b1)
  obtain ⟨vv8, _, ⟨T8, L8, kk8, nn8⟩, -, X8, ⟨Lc8, hQ8, l8, y8, z8⟩, st8⟩ := Jvm.LawKit.callS X6 hx (y := ym1) hown (mvT hZ (own_wi hw 2 rfl)) (mvT hZ (own_wi hw 3 rfl)) (mvT hZ (own_wi hw 4 rfl)) (mvT hZ (own_wi hw 5 rfl)) (by decide) (backOf (W := 3) (HD1 hp6 n0 (Nat.le_trans Z0 Kp6.1)) hZ (own_wi hw 5 rfl) (own_wi hw 4 rfl) (by decide) (by decide)) (g := (mkF m 21 #[iv p1, iv p2, iv p3, iv p4, iv p5, iv 0, .unset, .unset, .unset, .unset, .unset, .unset] [(.int p3), (.int (1 : Int32)), (.ref b1), (.ref b1)])) rfl (by rw [hml]; rfl) (argsL := [(.int p3)]) (rest := [(.int (1 : Int32)), (.ref b1), (.ref b1)]) (lenOf own_pd__I_C rfl) rfl (by show 2 * 0 + _ ≤ _; exact Nat.le_of_eq rfl) (hb hby at_21) (fun _ _ => ⟨rfl, e6, (by decide : 1 + 0 ≤ _), (by decide : 4 + 0 ≤ _)⟩)
  dsimp only [Pt.U, Pt.locs, Pt.cells, Pt.slots] at X8 l8 y8 z8 st8 hQ8
  subst l8 y8 z8
  obtain ⟨rfl, Nq8, e8⟩ := hQ8
  have N8 := Fr.app N6 Nq8
  have ch9 : ∀ t, SP p e below T8 (mkF m 24 #[iv p1, iv p2, iv p3, iv p4, iv p5, iv 0, .unset, .unset, .unset, .unset, .unset, .unset] [(.int d1), (.int (1 : Int32)), (.ref b1), (.ref b1)]) t → SP p e below s₁ (entryFrame m #[(.int p1), (.int p2), (.int p3), (.int p4), (.int p5)] maxLocals) t := fun t k => ch7 t (by
      show SP p e below T6 (mkF m 18 #[iv p1, iv p2, iv p3, iv p4, iv p5, iv 0, .unset, .unset, .unset, .unset, .unset, .unset] [(.ref b1)]) t
      refine XS.dup X6.here hx rfl (hb hby at_18) rfl rfl ?_
      show SP p e below T6 (mkF m 19 #[iv p1, iv p2, iv p3, iv p4, iv p5, iv 0, .unset, .unset, .unset, .unset, .unset, .unset] [(.ref b1), (.ref b1)]) t
      refine XS.iconst X6.here hx rfl (hb hby at_19) ?_
      refine XS.iloadN X6.here hx rfl (hb hby at_20) rfl ?_
      show SP p e below T6 (mkF m 21 #[iv p1, iv p2, iv p3, iv p4, iv p5, iv 0, .unset, .unset, .unset, .unset, .unset, .unset] [(.int p3), (.int (1 : Int32)), (.ref b1), (.ref b1)]) t
      exact st8 t k)
  obtain ⟨cl10, Ar10, qq10, Sz10, Ng10, Ha10, Ga10⟩ := id V6
  have hin10 : ¬ ((1 : Int32) < 0 ∨ cl10.slots.size ≤ ((1 : Int32)).toNatClampNeg) := inb_of Sz10 (by decide)
  obtain ⟨T11, hp11, X11, e11, W11, st11⟩ := stC X8 hx hZ e8 Ar10 (j := (1 : Int32)) hin10 (g := (mkF m 24 #[iv p1, iv p2, iv p3, iv p4, iv p5, iv 0, .unset, .unset, .unset, .unset, .unset, .unset] [(.int d1), (.int (1 : Int32)), (.ref b1), (.ref b1)])) rfl rfl (hb hby at_24)
  have ch12 : ∀ t, SP p e below T11 (mkF m 25 #[iv p1, iv p2, iv p3, iv p4, iv p5, iv 0, .unset, .unset, .unset, .unset, .unset, .unset] [(.ref b1)]) t → SP p e below s₁ (entryFrame m #[(.int p1), (.int p2), (.int p3), (.int p4), (.int p5)] maxLocals) t := fun t k => ch9 t (by
      show SP p e below T8 (mkF m 24 #[iv p1, iv p2, iv p3, iv p4, iv p5, iv 0, .unset, .unset, .unset, .unset, .unset, .unset] [(.int d1), (.int (1 : Int32)), (.ref b1), (.ref b1)]) t
      exact st11 t k)
  have V11 : Arv Z hp11 b1 k1 .char (4 : Int32) [(.int d0), (.int (nar .char d1)), (.int (0 : Int32)), (.int (0 : Int32))] (.int (0 : Int32)) := Arv.set Ar10 qq10 Sz10 Ng10 Ha10 Ga10 (fits_nar_char _) W11 1 rfl (Nat.le_of_ble_eq_true rfl)
  rw [own_narc r1] at V11
  have hk := Nat.le_trans hk (Keep.of_wr W11).1
  have N11 := Fr.snoc X11 N8 g_b1
  have Kp11 := Keep.wr Kp6 W11 (Or.inr sz_b1)
  obtain ⟨vv13, _, ⟨T13, L13, kk13, nn13⟩, -, X13, ⟨Lc13, hQ13, l13, y13, z13⟩, st13⟩ := Jvm.LawKit.callS X11 hx (y := ym1) hown (mvT hZ (own_wi hw 2 rfl)) (mvT hZ (own_wi hw 3 rfl)) (mvT hZ (own_wi hw 4 rfl)) (mvT hZ (own_wi hw 5 rfl)) (by decide) (backOf (W := 3) (HD2 hp11 n0 (Nat.le_trans Z0 Kp11.1)) hZ (own_wi hw 5 rfl) (own_wi hw 4 rfl) (by decide) (by decide)) (g := (mkF m 28 #[iv p1, iv p2, iv p3, iv p4, iv p5, iv 0, .unset, .unset, .unset, .unset, .unset, .unset] [(.int p4), (.int (2 : Int32)), (.ref b1), (.ref b1)])) rfl (by rw [hml]; rfl) (argsL := [(.int p4)]) (rest := [(.int (2 : Int32)), (.ref b1), (.ref b1)]) (lenOf own_pd__I_C rfl) rfl (by show 2 * 0 + _ ≤ _; exact Nat.le_of_eq rfl) (hb hby at_28) (fun _ _ => ⟨rfl, e11, (by decide : 1 + 0 ≤ _), (by decide : 4 + 0 ≤ _)⟩)
  dsimp only [Pt.U, Pt.locs, Pt.cells, Pt.slots] at X13 l13 y13 z13 st13 hQ13
  subst l13 y13 z13
  obtain ⟨rfl, Nq13, e13⟩ := hQ13
  have N13 := Fr.app N11 Nq13
  have ch14 : ∀ t, SP p e below T13 (mkF m 31 #[iv p1, iv p2, iv p3, iv p4, iv p5, iv 0, .unset, .unset, .unset, .unset, .unset, .unset] [(.int d2), (.int (2 : Int32)), (.ref b1), (.ref b1)]) t → SP p e below s₁ (entryFrame m #[(.int p1), (.int p2), (.int p3), (.int p4), (.int p5)] maxLocals) t := fun t k => ch12 t (by
      show SP p e below T11 (mkF m 25 #[iv p1, iv p2, iv p3, iv p4, iv p5, iv 0, .unset, .unset, .unset, .unset, .unset, .unset] [(.ref b1)]) t
      refine XS.dup X11.here hx rfl (hb hby at_25) rfl rfl ?_
      refine XS.iconst X11.here hx rfl (hb hby at_26) ?_
      refine XS.iloadN X11.here hx rfl (hb hby at_27) rfl ?_
      show SP p e below T11 (mkF m 28 #[iv p1, iv p2, iv p3, iv p4, iv p5, iv 0, .unset, .unset, .unset, .unset, .unset, .unset] [(.int p4), (.int (2 : Int32)), (.ref b1), (.ref b1)]) t
      exact st13 t k)
  obtain ⟨cl15, Ar15, qq15, Sz15, Ng15, Ha15, Ga15⟩ := id V11
  have hin15 : ¬ ((2 : Int32) < 0 ∨ cl15.slots.size ≤ ((2 : Int32)).toNatClampNeg) := inb_of Sz15 (by decide)
  obtain ⟨T16, hp16, X16, e16, W16, st16⟩ := stC X13 hx hZ e13 Ar15 (j := (2 : Int32)) hin15 (g := (mkF m 31 #[iv p1, iv p2, iv p3, iv p4, iv p5, iv 0, .unset, .unset, .unset, .unset, .unset, .unset] [(.int d2), (.int (2 : Int32)), (.ref b1), (.ref b1)])) rfl rfl (hb hby at_31)
  have ch17 : ∀ t, SP p e below T16 (mkF m 32 #[iv p1, iv p2, iv p3, iv p4, iv p5, iv 0, .unset, .unset, .unset, .unset, .unset, .unset] [(.ref b1)]) t → SP p e below s₁ (entryFrame m #[(.int p1), (.int p2), (.int p3), (.int p4), (.int p5)] maxLocals) t := fun t k => ch14 t (by
      show SP p e below T13 (mkF m 31 #[iv p1, iv p2, iv p3, iv p4, iv p5, iv 0, .unset, .unset, .unset, .unset, .unset, .unset] [(.int d2), (.int (2 : Int32)), (.ref b1), (.ref b1)]) t
      exact st16 t k)
  have V16 : Arv Z hp16 b1 k1 .char (4 : Int32) [(.int d0), (.int d1), (.int (nar .char d2)), (.int (0 : Int32))] (.int (0 : Int32)) := Arv.set Ar15 qq15 Sz15 Ng15 Ha15 Ga15 (fits_nar_char _) W16 2 rfl (Nat.le_of_ble_eq_true rfl)
  rw [own_narc r2] at V16
  have hk := Nat.le_trans hk (Keep.of_wr W16).1
  have N16 := Fr.snoc X16 N13 g_b1
  have Kp16 := Keep.wr Kp11 W16 (Or.inr sz_b1)
  obtain ⟨vv18, _, ⟨T18, L18, kk18, nn18⟩, -, X18, ⟨Lc18, hQ18, l18, y18, z18⟩, st18⟩ := Jvm.LawKit.callS X16 hx (y := ym1) hown (mvT hZ (own_wi hw 2 rfl)) (mvT hZ (own_wi hw 3 rfl)) (mvT hZ (own_wi hw 4 rfl)) (mvT hZ (own_wi hw 5 rfl)) (by decide) (backOf (W := 3) (HD3 hp16 n0 (Nat.le_trans Z0 Kp16.1)) hZ (own_wi hw 5 rfl) (own_wi hw 4 rfl) (by decide) (by decide)) (g := (mkF m 36 #[iv p1, iv p2, iv p3, iv p4, iv p5, iv 0, .unset, .unset, .unset, .unset, .unset, .unset] [(.int p5), (.int (3 : Int32)), (.ref b1), (.ref b1)])) rfl (by rw [hml]; rfl) (argsL := [(.int p5)]) (rest := [(.int (3 : Int32)), (.ref b1), (.ref b1)]) (lenOf own_pd__I_C rfl) rfl (by show 2 * 0 + _ ≤ _; exact Nat.le_of_eq rfl) (hb hby at_36) (fun _ _ => ⟨rfl, e16, (by decide : 1 + 0 ≤ _), (by decide : 4 + 0 ≤ _)⟩)
  dsimp only [Pt.U, Pt.locs, Pt.cells, Pt.slots] at X18 l18 y18 z18 st18 hQ18
  subst l18 y18 z18
  obtain ⟨rfl, Nq18, e18⟩ := hQ18
  have N18 := Fr.app N16 Nq18
  have ch19 : ∀ t, SP p e below T18 (mkF m 39 #[iv p1, iv p2, iv p3, iv p4, iv p5, iv 0, .unset, .unset, .unset, .unset, .unset, .unset] [(.int d3), (.int (3 : Int32)), (.ref b1), (.ref b1)]) t → SP p e below s₁ (entryFrame m #[(.int p1), (.int p2), (.int p3), (.int p4), (.int p5)] maxLocals) t := fun t k => ch17 t (by
      show SP p e below T16 (mkF m 32 #[iv p1, iv p2, iv p3, iv p4, iv p5, iv 0, .unset, .unset, .unset, .unset, .unset, .unset] [(.ref b1)]) t
      refine XS.dup X16.here hx rfl (hb hby at_32) rfl rfl ?_
      refine XS.iconst X16.here hx rfl (hb hby at_33) ?_
      refine XS.iload X16.here hx rfl (hb hby at_34) rfl ?_
      show SP p e below T16 (mkF m 36 #[iv p1, iv p2, iv p3, iv p4, iv p5, iv 0, .unset, .unset, .unset, .unset, .unset, .unset] [(.int p5), (.int (3 : Int32)), (.ref b1), (.ref b1)]) t
      exact st18 t k)
  obtain ⟨cl20, Ar20, qq20, Sz20, Ng20, Ha20, Ga20⟩ := id V16
  have hin20 : ¬ ((3 : Int32) < 0 ∨ cl20.slots.size ≤ ((3 : Int32)).toNatClampNeg) := inb_of Sz20 (by decide)
  obtain ⟨T21, hp21, X21, e21, W21, st21⟩ := stC X18 hx hZ e18 Ar20 (j := (3 : Int32)) hin20 (g := (mkF m 39 #[iv p1, iv p2, iv p3, iv p4, iv p5, iv 0, .unset, .unset, .unset, .unset, .unset, .unset] [(.int d3), (.int (3 : Int32)), (.ref b1), (.ref b1)])) rfl rfl (hb hby at_39)
  have ch22 : ∀ t, SP p e below T21 (mkF m 40 #[iv p1, iv p2, iv p3, iv p4, iv p5, iv 0, .unset, .unset, .unset, .unset, .unset, .unset] [(.ref b1)]) t → SP p e below s₁ (entryFrame m #[(.int p1), (.int p2), (.int p3), (.int p4), (.int p5)] maxLocals) t := fun t k => ch19 t (by
      show SP p e below T18 (mkF m 39 #[iv p1, iv p2, iv p3, iv p4, iv p5, iv 0, .unset, .unset, .unset, .unset, .unset, .unset] [(.int d3), (.int (3 : Int32)), (.ref b1), (.ref b1)]) t
      exact st21 t k)
  have V21 : Arv Z hp21 b1 k1 .char (4 : Int32) [(.int d0), (.int d1), (.int d2), (.int (nar .char d3))] (.int (0 : Int32)) := Arv.set Ar20 qq20 Sz20 Ng20 Ha20 Ga20 (fits_nar_char _) W21 3 rfl (Nat.le_of_ble_eq_true rfl)
  rw [own_narc r3] at V21
  have hk := Nat.le_trans hk (Keep.of_wr W21).1
  have N21 := Fr.snoc X21 N18 g_b1
  have Kp21 := Keep.wr Kp16 W21 (Or.inr sz_b1)
  obtain ⟨cl23, Ar23, -, Sz23, Ng23, Ha23, -⟩ := id V21
  have hin23 : ¬ ((0 : Int32) < 0 ∨ cl23.slots.size ≤ ((0 : Int32)).toNatClampNeg) := inb_of Sz23 (by decide)
  have hat23 : cl23.slots[((0 : Int32)).toNatClampNeg]? = some (.int d0) := Ha23.at hin23 rfl
  obtain ⟨cl24, Ar24, -, Sz24, Ng24, Ha24, -⟩ := id V21
  have hin24 : ¬ ((1 : Int32) < 0 ∨ cl24.slots.size ≤ ((1 : Int32)).toNatClampNeg) := inb_of Sz24 (by decide)
  have hat24 : cl24.slots[((1 : Int32)).toNatClampNeg]? = some (.int d1) := Ha24.at hin24 rfl
  obtain ⟨cl25, Ar25, -, Sz25, Ng25, Ha25, -⟩ := id V21
  have hin25 : ¬ ((2 : Int32) < 0 ∨ cl25.slots.size ≤ ((2 : Int32)).toNatClampNeg) := inb_of Sz25 (by decide)
  have hat25 : cl25.slots[((2 : Int32)).toNatClampNeg]? = some (.int d2) := Ha25.at hin25 rfl
  obtain ⟨cl26, Ar26, -, Sz26, Ng26, Ha26, -⟩ := id V21
  have hin26 : ¬ ((3 : Int32) < 0 ∨ cl26.slots.size ≤ ((3 : Int32)).toNatClampNeg) := inb_of Sz26 (by decide)
  have hat26 : cl26.slots[((3 : Int32)).toNatClampNeg]? = some (.int d3) := Ha26.at hin26 rfl
  have cf27 := (own_sta_keep S_CS Kp21 all0)
  have ch28 : ∀ t, SP p e below T21 (mkF m 60 #[iv p1, iv p2, iv p3, iv p4, iv p5, iv 0, rv b1, .unset, .unset, .unset, .unset, .unset] [(.int d3), (.int d2), (.int d1), (.int d0), (.int (0 : Int32))]) t → SP p e below s₁ (entryFrame m #[(.int p1), (.int p2), (.int p3), (.int p4), (.int p5)] maxLocals) t := fun t k => ch22 t (by
      show SP p e below T21 (mkF m 40 #[iv p1, iv p2, iv p3, iv p4, iv p5, iv 0, .unset, .unset, .unset, .unset, .unset, .unset] [(.ref b1)]) t
      refine XS.astore X21.here hx rfl (hb hby at_40) rfl rfl (l' := #[iv p1, iv p2, iv p3, iv p4, iv p5, iv 0, rv b1, .unset, .unset, .unset, .unset, .unset]) rfl ?_
      refine XS.iload X21.here hx rfl (hb hby at_42) rfl ?_
      refine XS.aload X21.here hx rfl (hb hby at_44) rfl rfl ?_
      refine XS.iconst X21.here hx rfl (hb hby at_46) ?_
      show SP p e below T21 (mkF m 47 #[iv p1, iv p2, iv p3, iv p4, iv p5, iv 0, rv b1, .unset, .unset, .unset, .unset, .unset] [(.int (0 : Int32)), (.ref b1), (.int (0 : Int32))]) t
      refine X21.caload hx (j := (0 : Int32)) (v := (.int d0)) (by rw [e21]; exact Ar23.1) (State.isArrayOf_alike hZ.alike Ar23.2.1) Ar23.2.2 hin23 hat23 (g := (mkF m 47 #[iv p1, iv p2, iv p3, iv p4, iv p5, iv 0, rv b1, .unset, .unset, .unset, .unset, .unset] [(.int (0 : Int32)), (.ref b1), (.int (0 : Int32))])) rfl rfl (hb hby at_47) _ ?_
      refine XS.aload X21.here hx rfl (hb hby at_48) rfl rfl ?_
      refine XS.iconst X21.here hx rfl (hb hby at_50) ?_
      refine X21.caload hx (j := (1 : Int32)) (v := (.int d1)) (by rw [e21]; exact Ar24.1) (State.isArrayOf_alike hZ.alike Ar24.2.1) Ar24.2.2 hin24 hat24 (g := (mkF m 51 #[iv p1, iv p2, iv p3, iv p4, iv p5, iv 0, rv b1, .unset, .unset, .unset, .unset, .unset] [(.int (1 : Int32)), (.ref b1), (.int d0), (.int (0 : Int32))])) rfl rfl (hb hby at_51) _ ?_
      refine XS.aload X21.here hx rfl (hb hby at_52) rfl rfl ?_
      refine XS.iconst X21.here hx rfl (hb hby at_54) ?_
      refine X21.caload hx (j := (2 : Int32)) (v := (.int d2)) (by rw [e21]; exact Ar25.1) (State.isArrayOf_alike hZ.alike Ar25.2.1) Ar25.2.2 hin25 hat25 (g := (mkF m 55 #[iv p1, iv p2, iv p3, iv p4, iv p5, iv 0, rv b1, .unset, .unset, .unset, .unset, .unset] [(.int (2 : Int32)), (.ref b1), (.int d1), (.int d0), (.int (0 : Int32))])) rfl rfl (hb hby at_55) _ ?_
      refine XS.aload X21.here hx rfl (hb hby at_56) rfl rfl ?_
      refine XS.iconst X21.here hx rfl (hb hby at_58) ?_
      refine X21.caload hx (j := (3 : Int32)) (v := (.int d3)) (by rw [e21]; exact Ar26.1) (State.isArrayOf_alike hZ.alike Ar26.2.1) Ar26.2.2 hin26 hat26 (g := (mkF m 59 #[iv p1, iv p2, iv p3, iv p4, iv p5, iv 0, rv b1, .unset, .unset, .unset, .unset, .unset] [(.int (3 : Int32)), (.ref b1), (.int d2), (.int d1), (.int d0), (.int (0 : Int32))])) rfl rfl (hb hby at_59) _ ?_
      exact k)
  obtain ⟨vv29, _, ⟨T29, L29, kk29, nn29⟩, -, X29, hS2, hgr, ⟨Lc29, hQ29, l29, y29, z29⟩, st29⟩ := Jvm.RoadKit.callSS X21 hx (y := ym2) hown (mvT hZ (own_wi hw 6 rfl)) (mvT hZ (own_wi hw 7 rfl)) (mvT hZ (own_wi hw 4 rfl)) (mvT hZ (own_wi hw 8 rfl)) (by decide) (own_backC (W := 0) (own_make_0 l Z a0 hw [] hp21 n0 (Nat.le_trans Z0 Kp21.1) d0 d1 d2 d3 r0 r1 r2 r3 zC cf27 P5) hZ (own_wi hw 8 rfl) (own_wi hw 4 rfl) (by decide) (by decide) (own_EW hw) (CHv.keep Kp21 (fun x hx => by cases hx) hC)) (g := (mkF m 60 #[iv p1, iv p2, iv p3, iv p4, iv p5, iv 0, rv b1, .unset, .unset, .unset, .unset, .unset] [(.int d3), (.int d2), (.int d1), (.int d0), (.int (0 : Int32))])) rfl (by rw [hml]; rfl) (argsL := [(.int (0 : Int32)), (.int d0), (.int d1), (.int d2), (.int d3)]) (rest := []) (lenOf own_pd__ICCCC_Ljava_lang_String_ rfl) rfl (by show 2 * 0 + _ ≤ _; exact Nat.le_of_eq rfl) (hb hby at_60) (fun _ _ => ⟨rfl, e21, (by decide : 1 + 4 ≤ _), (by decide : 4 + 8 ≤ _)⟩)
  dsimp only [Pt.U, Pt.locs, Pt.cells, Pt.slots] at X29 l29 y29 z29 st29 hQ29 hS2 hgr
  subst l29 y29 z29
  obtain ⟨X29, hS, hZ, hown⟩ := rebS hS (by rw [e21]; exact hk) X29 hS2 hgr hZ hown
  obtain ⟨hh29, eh29⟩ : ∃ h, T29.heap = h := ⟨_, rfl⟩
  rw [eh29] at hQ29
  rw [eh29] at hS
  have hk : hh29.size ≤ hh29.size := Nat.le_refl _
  obtain ⟨si, ti, ki, rfl, zq29, Nq29, Kq29, fq29_0, fq29_1, fq29_2, fq29_3⟩ := hQ29
  have N29 := Fr.app N21 Nq29
  have ne_b1_si : b1 ≠ si := Nat.ne_of_lt (Nat.lt_of_lt_of_le V21.lt zq29)
  have g_si : n0 ≤ si := Nat.le_trans (Nat.le_trans Z0 Kp21.1) zq29
  have sz_si : h0.size ≤ si := Nat.le_trans Kp21.1 zq29
  have Kp29 := Keep.trans Kp21 Kq29 all0
  have ch30 : ∀ t, SP p e below T29 (mkF m 63 #[iv p1, iv p2, iv p3, iv p4, iv p5, iv 0, rv b1, .unset, .unset, .unset, .unset, .unset] [(.ref si)]) t → SP p e below s₁ (entryFrame m #[(.int p1), (.int p2), (.int p3), (.int p4), (.int p5)] maxLocals) t := fun t k => ch28 t (by
      show SP p e below T21 (mkF m 60 #[iv p1, iv p2, iv p3, iv p4, iv p5, iv 0, rv b1, .unset, .unset, .unset, .unset, .unset] [(.int d3), (.int d2), (.int d1), (.int d0), (.int (0 : Int32))]) t
      exact st29.trans k)
  have cf31 := (own_sta_keep cf27 Kq29 all0)
  have cf32 := (own_sta_keep S_F Kp29 all0)
  obtain ⟨vv33, _, ⟨T33, L33, kk33, nn33⟩, -, X33, ⟨Lc33, hQ33, l33, y33, z33⟩, st33⟩ := Jvm.LawKit.callS X29 hx (y := ym0) hown (mvT hZ (own_wi hw 30 rfl)) (mvT hZ (own_wi hw 31 rfl)) (mvT hZ (own_wi hw 32 rfl)) (mvT hZ (own_wi hw 33 rfl)) (by decide) (backOf (W := 0) (own_fr_0n l Z a0 hw hh29 n0 (Nat.le_trans Z0 Kp29.1) si ti ki  fq29_0 fq29_1 fq29_2 fq29_3  zC cf31 P5 vF hvF cf32) hZ (own_wi hw 33 rfl) (own_wi hw 32 rfl) (by decide) (by decide)) (g := (mkF m 141 #[iv p1, iv p2, iv p3, iv p4, iv p5, iv 0, rv b1, rv si, iv (-1), .unset, .unset, .unset] [(.ref si)])) rfl (by rw [hml]; rfl) (argsL := [(.ref si)]) (rest := []) (lenOf own_pd__Ljava_lang_String__Ljava_lang_String_ rfl) rfl (by show 2 * 0 + _ ≤ _; exact Nat.le_of_eq rfl) (hb hby at_141) (fun _ _ => ⟨rfl, eh29, (by decide : 5 + 0 ≤ _), (by decide : 12 + 0 ≤ _)⟩)
  dsimp only [Pt.U, Pt.locs, Pt.cells, Pt.slots] at X33 l33 y33 z33 st33 hQ33
  subst l33 y33 z33
  obtain ⟨rfl, Nq33, e33⟩ := hQ33
  have N33 := Fr.app N29 Nq33
  have ch34 : ∀ t, SP p e below T33 (mkF m 144 #[iv p1, iv p2, iv p3, iv p4, iv p5, iv 0, rv b1, rv si, iv (-1), .unset, .unset, .unset] [.null]) t → SP p e below s₁ (entryFrame m #[(.int p1), (.int p2), (.int p3), (.int p4), (.int p5)] maxLocals) t := fun t k => ch30 t (by
      show SP p e below T29 (mkF m 63 #[iv p1, iv p2, iv p3, iv p4, iv p5, iv 0, rv b1, .unset, .unset, .unset, .unset, .unset] [(.ref si)]) t
      refine XS.astore X29.here hx rfl (hb hby at_63) rfl rfl (l' := #[iv p1, iv p2, iv p3, iv p4, iv p5, iv 0, rv b1, rv si, .unset, .unset, .unset, .unset]) rfl ?_
      refine XS.iconst X29.here hx rfl (hb hby at_65) ?_
      show SP p e below T29 (mkF m 66 #[iv p1, iv p2, iv p3, iv p4, iv p5, iv 0, rv b1, rv si, .unset, .unset, .unset, .unset] [(.int (-1 : Int32))]) t
      refine XS.istore X29.here hx rfl (hb hby at_66) rfl (l' := #[iv p1, iv p2, iv p3, iv p4, iv p5, iv 0, rv b1, rv si, iv (-1), .unset, .unset, .unset]) rfl ?_
      refine XS.iload X29.here hx rfl (hb hby at_68) rfl ?_
      refine XS.iconst X29.here hx rfl (hb hby at_70) ?_
      refine XS.icmpYes X29.here hx rfl (pc0 := 71) (pc' := 86) rfl (hb hby at_71) rfl (flt (by decide : ¬ (3 : Int32) < (0 : Int32))).2.2.2 (by decide) (by decide) ?_
      refine XS.iload X29.here hx rfl (hb hby at_86) rfl ?_
      refine XS.iconst X29.here hx rfl (hb hby at_88) ?_
      refine XS.icmpYes X29.here hx rfl (pc0 := 89) (pc' := 104) rfl (hb hby at_89) rfl (flt (by decide : ¬ (2 : Int32) < (0 : Int32))).2.2.2 (by decide) (by decide) ?_
      refine XS.iload X29.here hx rfl (hb hby at_104) rfl ?_
      refine XS.iconst X29.here hx rfl (hb hby at_106) ?_
      refine XS.icmpYes X29.here hx rfl (pc0 := 107) (pc' := 122) rfl (hb hby at_107) rfl (flt (by decide : ¬ (1 : Int32) < (0 : Int32))).2.2.2 (by decide) (by decide) ?_
      refine XS.iload X29.here hx rfl (hb hby at_122) rfl ?_
      refine XS.ifYes X29.here hx rfl (pc0 := 124) (pc' := 139) rfl (hb hby at_124) rfl ((if0 _ _).trans (flt (by decide : ¬ (0 : Int32) < (0 : Int32))).2.2.2) (by decide) (by decide) ?_
      refine XS.aload X29.here hx rfl (hb hby at_139) rfl rfl ?_
      show SP p e below T29 (mkF m 141 #[iv p1, iv p2, iv p3, iv p4, iv p5, iv 0, rv b1, rv si, iv (-1), .unset, .unset, .unset] [(.ref si)]) t
      exact st33 t k)
  have ch35 : ∀ t, SP p e below T33 (mkF m 161 #[iv p1, iv p2, iv p3, iv p4, iv p5, iv 0, rv b1, rv si, iv (-1), .val .null, .unset, .unset] [(.int (1 : Int32))]) t → SP p e below s₁ (entryFrame m #[(.int p1), (.int p2), (.int p3), (.int p4), (.int p5)] maxLocals) t := fun t k => ch34 t (by
      show SP p e below T33 (mkF m 144 #[iv p1, iv p2, iv p3, iv p4, iv p5, iv 0, rv b1, rv si, iv (-1), .unset, .unset, .unset] [.null]) t
      refine XS.astore X33.here hx rfl (hb hby at_144) rfl rfl (l' := #[iv p1, iv p2, iv p3, iv p4, iv p5, iv 0, rv b1, rv si, iv (-1), .val .null, .unset, .unset]) rfl ?_
      refine XS.iload X33.here hx rfl (hb hby at_146) rfl ?_
      refine XS.ifNo X33.here hx rfl (hb hby at_148) rfl ((if0 _ _).trans (tlt (by decide : (-1 : Int32) < (0 : Int32))).2.1) ?_
      refine XS.aload X33.here hx rfl (hb hby at_151) rfl rfl ?_
      show SP p e below T33 (mkF m 153 #[iv p1, iv p2, iv p3, iv p4, iv p5, iv 0, rv b1, rv si, iv (-1), .val .null, .unset, .unset] [.null]) t
      refine XS.ifnonnullNo X33.here hx rfl (hb hby at_153) rfl ?_
      refine XS.iconst X33.here hx rfl (hb hby at_156) ?_
      refine XS.goto X33.here hx rfl (pc0 := 157) (pc' := 161) rfl (hb hby at_157) (by decide) (by decide) ?_
      exact k)
  obtain ⟨fs, hr, hrun, hended, hend⟩ := X33.leaveW hS (by rw [e33]; exact hk) (v := some (.int (1 : Int32))) (fun h => by rw [Bd.returns] at h; cases h)
  refine ⟨_, _, ch35 _ ?_, hrun, hended, _, _, rfl, ?_, hend.1, hend.2.1, hend.2.2.1, hend.2.2.2.mono (by decide) (by decide)⟩
  · show Steps p.tables e below (T33.setTop (mkF m 161 #[iv p1, iv p2, iv p3, iv p4, iv p5, iv 0, rv b1, rv si, iv (-1), .val .null, .unset, .unset] [(.int (1 : Int32))])) _
    exact retN X33 hx (t := .boolean) Bd.returns (by simp) (hb hby at_161) hr
  · show QN (some (.int (1 : Int32))) n0 _ T33.heap _
    rw [e33]
    exact ⟨rfl, N33⟩
theorem own_ef_own_law_1 (m : MethodId) {x0 : Int32} {x1 : Int32} {x2 : Int32} {x3 : Int32} {x4 : Int32} : entryFrame m #[(.int x0), (.int x1), (.int x2), (.int x3), (.int x4)] maxLocals = mkF m 0 #[iv x0, iv x1, iv x2, iv x3, iv x4, .unset, .unset, .unset, .unset, .unset, .unset, .unset] [] := by first | (simp [entryFrame, mkF, argsToLocals, Value.category, maxLocals]; done) | rfl
set_option maxRecDepth 65536 in
set_option maxHeartbeats 40000000 in
theorem own_law_1 (l : Launch) (Z : State) (a0 : Array Value) (hw : ∀ d ∈ tables_1, d.before a0 Z = true) (ws : List Jvm.Cond) (h0 : Heap) (n0 : Nat) (Z0 : n0 ≤ h0.size) (p1 p2 p3 p4 p5 d0 d1 d2 d3 : Int32) (hn5 : ((p1 &&& (2147483647 : Int32)) % (5 : Int32)) = (1 : Int32)) (HD0 : ∀ (h : Heap) (n0 : Nat) (Z0 : n0 ≤ h.size), MetFree l ym1 (head1 (Jvm.Cond.code ym1 method_2_code 1 (some .char) :: []) rm0) (fun a U => a = #[(.int p2)] ∧ Z.Warmed39 U.vm ∧ U.heap = h) (fun _ _ _ _ _ => True) (fun _ U o U' => ∃ v L, o = .returned v ∧ QV (some (.int d0)) h n0 v U'.heap L ∧ FrameEnd U o U' L rm0.cells rm0.slots)) (HD1 : ∀ (h : Heap) (n0 : Nat) (Z0 : n0 ≤ h.size), MetFree l ym1 (head1 (Jvm.Cond.code ym1 method_2_code 1 (some .char) :: []) rm0) (fun a U => a = #[(.int p3)] ∧ Z.Warmed39 U.vm ∧ U.heap = h) (fun _ _ _ _ _ => True) (fun _ U o U' => ∃ v L, o = .returned v ∧ QV (some (.int d1)) h n0 v U'.heap L ∧ FrameEnd U o U' L rm0.cells rm0.slots)) (HD2 : ∀ (h : Heap) (n0 : Nat) (Z0 : n0 ≤ h.size), MetFree l ym1 (head1 (Jvm.Cond.code ym1 method_2_code 1 (some .char) :: []) rm0) (fun a U => a = #[(.int p4)] ∧ Z.Warmed39 U.vm ∧ U.heap = h) (fun _ _ _ _ _ => True) (fun _ U o U' => ∃ v L, o = .returned v ∧ QV (some (.int d2)) h n0 v U'.heap L ∧ FrameEnd U o U' L rm0.cells rm0.slots)) (HD3 : ∀ (h : Heap) (n0 : Nat) (Z0 : n0 ≤ h.size), MetFree l ym1 (head1 (Jvm.Cond.code ym1 method_2_code 1 (some .char) :: []) rm0) (fun a U => a = #[(.int p5)] ∧ Z.Warmed39 U.vm ∧ U.heap = h) (fun _ _ _ _ _ => True) (fun _ U o U' => ∃ v L, o = .returned v ∧ QV (some (.int d3)) h n0 v U'.heap L ∧ FrameEnd U o U' L rm0.cells rm0.slots)) (r0 : ¬ d0 < 0 ∧ ¬ (255 : Int32) < d0) (r1 : ¬ d1 < 0 ∧ ¬ (255 : Int32) < d1) (r2 : ¬ d2 < 0 ∧ ¬ (255 : Int32) < d2) (r3 : ¬ d3 < 0 ∧ ¬ (255 : Int32) < d3) (zC : Int32) (S_CS : Sta Z h0 "java/lang/String" "COMPACT_STRINGS" "Z" (.int zC)) (P5 : ¬ (zC = (0 : Int32))) (vF : Value) (hvF : vF.category = 1) (S_F : Sta Z h0 "jdk/internal/util/Preconditions" "SIOOBE_FORMATTER" "Ljava/util/function/BiFunction;" vF) :
    MetFree l x (head1 (Jvm.Cond.code x code maxLocals ret :: ws) room_1) (fun a U => a = #[(.int p1), (.int p2), (.int p3), (.int p4), (.int p5)] ∧ Z.Warmed39 U.vm ∧ U.heap = h0 ∧ CHv Z consts_1 U.vm h0) (fun _ _ _ _ _ => True) (fun _ U o U' => ∃ v L, o = .returned v ∧ QN (some (.int (1 : Int32))) n0 v U'.heap L ∧ ReturnedEndW U o U' L room_1.cells room_1.slots) := by
  refine MetFree.of_bodySF (plainFor_of_name own_pn_com_example_leafwright_leafwright_ReferencesFragmentPinLaw) hisR ?_
  intro p e s m args below meth c s₁ Bd hml0 hP hK
  obtain ⟨rfl, hZ, hh, hC⟩ := hP
  have hx := Bd.exec
  have hby := Bd.bytes
  have hml : c.maxLocals = 12 := hml0
  have hown : s.vm.findClass "com/example/leafwright/leafwright/ReferencesFragmentPinLaw" = some m.cls := (findClass_of_methodNamed Bd.named :)
  have hnm := (name_of_methodNamed Bd.named Bd.method).1
  have X0 : Stand p l e room_1 (s.setVm s.vm) m #[(.int p1), (.int p2), (.int p3), (.int p4), (.int p5)] below meth c s₁ [] 0 0 := Stand.of_body Bd
  have hZ : Z.Warmed39 (s.setVm s.vm).vm := hZ
  have hown : (s.setVm s.vm).vm.findClass "com/example/leafwright/leafwright/ReferencesFragmentPinLaw" = some m.cls := hown
  have hS : s.Since s.vm 0 := (State.WarmedH.refl s).since 0
  have hk : 0 ≤ h0.size := Nat.zero_le _
  have e0 : s₁.heap = h0 := by rw [← hh, Bd.state]; rfl
  have N0 := Fr.nil n0
  have pre0 : ∀ t, SP p e below s₁ (mkF m 0 #[iv p1, iv p2, iv p3, iv p4, iv p5, .unset, .unset, .unset, .unset, .unset, .unset, .unset] []) t → SP p e below s₁ (entryFrame m #[(.int p1), (.int p2), (.int p3), (.int p4), (.int p5)] maxLocals) t := fun t k => castTop (own_ef_own_law_1 m) k
  obtain ⟨T1, hp1, k1, X1, e1, E1, A1, st1⟩ := newP X0 hx hZ (own_wi hw 1 rfl) e0 (g := (mkF m 9 #[iv p1, iv p2, iv p3, iv p4, iv p5, iv 1, .unset, .unset, .unset, .unset, .unset, .unset] [(.int (4 : Int32))])) rfl (hb hby at_9) rfl (by decide) (cap := 4) (by decide) (by decide) (by decide) (by decide)
  obtain ⟨b1, g1⟩ : ∃ z, z = h0.size := ⟨_, rfl⟩
  rw [← g1] at A1 st1
  have g_b1 : n0 ≤ b1 := Nat.le_trans (Nat.le_trans Z0 (Keep.refl h0 []).1) (Nat.le_of_eq g1.symm)
  have sz_b1 : h0.size ≤ b1 := Nat.le_trans (Keep.refl h0 []).1 (Nat.le_of_eq g1.symm)
  have hk := Nat.le_trans hk E1.1
  have Kp1 := Keep.ext (Keep.refl h0 []) E1
  have V1 : Arv Z hp1 b1 k1 .char (4 : Int32) [(.int (0 : Int32)), (.int (0 : Int32)), (.int (0 : Int32)), (.int (0 : Int32))] (.int (0 : Int32)) := (Arv.new A1 (by decide)).pad (pad_rep [] (.int (0 : Int32)) 4)
  have ch2 : ∀ t, SP p e below T1 (mkF m 11 #[iv p1, iv p2, iv p3, iv p4, iv p5, iv 1, .unset, .unset, .unset, .unset, .unset, .unset] [(.ref b1)]) t → SP p e below s₁ (entryFrame m #[(.int p1), (.int p2), (.int p3), (.int p4), (.int p5)] maxLocals) t := fun t k => pre0 t (by
      show SP p e below s₁ (mkF m 0 #[iv p1, iv p2, iv p3, iv p4, iv p5, .unset, .unset, .unset, .unset, .unset, .unset, .unset] []) t
      refine XS.iloadN X0.here hx rfl (hb hby at_0) rfl ?_
      refine X0.ldcInt hx hown (mvT hZ (own_wi hw 0 rfl)) (g := (mkF m 1 #[iv p1, iv p2, iv p3, iv p4, iv p5, .unset, .unset, .unset, .unset, .unset, .unset, .unset] [(.int p1)])) rfl (hb hby at_1) _ ?_
      show SP p e below s₁ (mkF m 3 #[iv p1, iv p2, iv p3, iv p4, iv p5, .unset, .unset, .unset, .unset, .unset, .unset, .unset] [(.int (2147483647 : Int32)), (.int p1)]) t
      refine XS.iand X0.here hx rfl (hb hby at_3) rfl ?_
      refine XS.iconst X0.here hx rfl (hb hby at_4) ?_
      show SP p e below s₁ (mkF m 5 #[iv p1, iv p2, iv p3, iv p4, iv p5, .unset, .unset, .unset, .unset, .unset, .unset, .unset] [(.int (5 : Int32)), (.int (p1 &&& (2147483647 : Int32)))]) t
      refine Jvm.RoadKit.iremM (g := (mkF m 5 #[iv p1, iv p2, iv p3, iv p4, iv p5, .unset, .unset, .unset, .unset, .unset, .unset, .unset] [(.int (5 : Int32)), (.int (p1 &&& (2147483647 : Int32)))])) X0 hx rfl (hb hby at_5) rfl (by decide) ?_
      rw [hn5]
      refine XS.istore X0.here hx rfl (hb hby at_6) rfl (l' := #[iv p1, iv p2, iv p3, iv p4, iv p5, iv 1, .unset, .unset, .unset, .unset, .unset, .unset]) rfl ?_
      refine XS.iconst X0.here hx rfl (hb hby at_8) ?_
      show SP p e below s₁ (mkF m 9 #[iv p1, iv p2, iv p3, iv p4, iv p5, iv 1, .unset, .unset, .unset, .unset, .unset, .unset] [(.int (4 : Int32))]) t
      exact st1 t k)
  obtain ⟨vv3, _, ⟨T3, L3, kk3, nn3⟩, -, X3, ⟨Lc3, hQ3, l3, y3, z3⟩, st3⟩ := Jvm.LawKit.callS X1 hx (y := ym1) hown (mvT hZ (own_wi hw 2 rfl)) (mvT hZ (own_wi hw 3 rfl)) (mvT hZ (own_wi hw 4 rfl)) (mvT hZ (own_wi hw 5 rfl)) (by decide) (backOf (W := 3) (HD0 hp1 n0 (Nat.le_trans Z0 Kp1.1)) hZ (own_wi hw 5 rfl) (own_wi hw 4 rfl) (by decide) (by decide)) (g := (mkF m 14 #[iv p1, iv p2, iv p3, iv p4, iv p5, iv 1, .unset, .unset, .unset, .unset, .unset, .unset] [(.int p2), (.int (0 : Int32)), (.ref b1), (.ref b1)])) rfl (by rw [hml]; rfl) (argsL := [(.int p2)]) (rest := [(.int (0 : Int32)), (.ref b1), (.ref b1)]) (lenOf own_pd__I_C rfl) rfl (by show 2 * 0 + _ ≤ _; exact Nat.le_of_eq rfl) (hb hby at_14) (fun _ _ => ⟨rfl, e1, (by decide : 1 + 0 ≤ _), (by decide : 4 + 0 ≤ _)⟩)
  dsimp only [Pt.U, Pt.locs, Pt.cells, Pt.slots] at X3 l3 y3 z3 st3 hQ3
  subst l3 y3 z3
  obtain ⟨rfl, Nq3, e3⟩ := hQ3
  have N3 := Fr.app N0 Nq3
  have ch4 : ∀ t, SP p e below T3 (mkF m 17 #[iv p1, iv p2, iv p3, iv p4, iv p5, iv 1, .unset, .unset, .unset, .unset, .unset, .unset] [(.int d0), (.int (0 : Int32)), (.ref b1), (.ref b1)]) t → SP p e below s₁ (entryFrame m #[(.int p1), (.int p2), (.int p3), (.int p4), (.int p5)] maxLocals) t := fun t k => ch2 t (by
      show SP p e below T1 (mkF m 11 #[iv p1, iv p2, iv p3, iv p4, iv p5, iv 1, .unset, .unset, .unset, .unset, .unset, .unset] [(.ref b1)]) t
      refine XS.dup X1.here hx rfl (hb hby at_11) rfl rfl ?_
      refine XS.iconst X1.here hx rfl (hb hby at_12) ?_
      refine XS.iloadN X1.here hx rfl (hb hby at_13) rfl ?_
      show SP p e below T1 (mkF m 14 #[iv p1, iv p2, iv p3, iv p4, iv p5, iv 1, .unset, .unset, .unset, .unset, .unset, .unset] [(.int p2), (.int (0 : Int32)), (.ref b1), (.ref b1)]) t
      exact st3 t k)
  obtain ⟨cl5, Ar5, qq5, Sz5, Ng5, Ha5, Ga5⟩ := id V1
  have hin5 : ¬ ((0 : Int32) < 0 ∨ cl5.slots.size ≤ ((0 : Int32)).toNatClampNeg) := inb_of Sz5 (by decide)
  obtain ⟨T6, hp6, X6, e6, W6, st6⟩ := stC X3 hx hZ e3 Ar5 (j := (0 : Int32)) hin5 (g := (mkF m 17 #[iv p1, iv p2, iv p3, iv p4, iv p5, iv 1, .unset, .unset, .unset, .unset, .unset, .unset] [(.int d0), (.int (0 : Int32)), (.ref b1), (.ref b1)])) rfl rfl (hb hby at_17)
  have ch7 : ∀ t, SP p e below T6 (mkF m 18 #[iv p1, iv p2, iv p3, iv p4, iv p5, iv 1, .unset, .unset, .unset, .unset, .unset, .unset] [(.ref b1)]) t → SP p e below s₁ (entryFrame m #[(.int p1), (.int p2), (.int p3), (.int p4), (.int p5)] maxLocals) t := fun t k => ch4 t (by
      show SP p e below T3 (mkF m 17 #[iv p1, iv p2, iv p3, iv p4, iv p5, iv 1, .unset, .unset, .unset, .unset, .unset, .unset] [(.int d0), (.int (0 : Int32)), (.ref b1), (.ref b1)]) t
      exact st6 t k)
  have V6 : Arv Z hp6 b1 k1 .char (4 : Int32) [(.int (nar .char d0)), (.int (0 : Int32)), (.int (0 : Int32)), (.int (0 : Int32))] (.int (0 : Int32)) := Arv.set Ar5 qq5 Sz5 Ng5 Ha5 Ga5 (fits_nar_char _) W6 0 rfl (Nat.le_of_ble_eq_true rfl)
  rw [own_narc r0] at V6
  have hk := Nat.le_trans hk (Keep.of_wr W6).1
  have N6 := Fr.snoc X6 N3 g_b1
  have Kp6 := Keep.wr Kp1 W6 (Or.inr sz_b1)
  obtain ⟨vv8, _, ⟨T8, L8, kk8, nn8⟩, -, X8, ⟨Lc8, hQ8, l8, y8, z8⟩, st8⟩ := Jvm.LawKit.callS X6 hx (y := ym1) hown (mvT hZ (own_wi hw 2 rfl)) (mvT hZ (own_wi hw 3 rfl)) (mvT hZ (own_wi hw 4 rfl)) (mvT hZ (own_wi hw 5 rfl)) (by decide) (backOf (W := 3) (HD1 hp6 n0 (Nat.le_trans Z0 Kp6.1)) hZ (own_wi hw 5 rfl) (own_wi hw 4 rfl) (by decide) (by decide)) (g := (mkF m 21 #[iv p1, iv p2, iv p3, iv p4, iv p5, iv 1, .unset, .unset, .unset, .unset, .unset, .unset] [(.int p3), (.int (1 : Int32)), (.ref b1), (.ref b1)])) rfl (by rw [hml]; rfl) (argsL := [(.int p3)]) (rest := [(.int (1 : Int32)), (.ref b1), (.ref b1)]) (lenOf own_pd__I_C rfl) rfl (by show 2 * 0 + _ ≤ _; exact Nat.le_of_eq rfl) (hb hby at_21) (fun _ _ => ⟨rfl, e6, (by decide : 1 + 0 ≤ _), (by decide : 4 + 0 ≤ _)⟩)
  dsimp only [Pt.U, Pt.locs, Pt.cells, Pt.slots] at X8 l8 y8 z8 st8 hQ8
  subst l8 y8 z8
  obtain ⟨rfl, Nq8, e8⟩ := hQ8
  have N8 := Fr.app N6 Nq8
  have ch9 : ∀ t, SP p e below T8 (mkF m 24 #[iv p1, iv p2, iv p3, iv p4, iv p5, iv 1, .unset, .unset, .unset, .unset, .unset, .unset] [(.int d1), (.int (1 : Int32)), (.ref b1), (.ref b1)]) t → SP p e below s₁ (entryFrame m #[(.int p1), (.int p2), (.int p3), (.int p4), (.int p5)] maxLocals) t := fun t k => ch7 t (by
      show SP p e below T6 (mkF m 18 #[iv p1, iv p2, iv p3, iv p4, iv p5, iv 1, .unset, .unset, .unset, .unset, .unset, .unset] [(.ref b1)]) t
      refine XS.dup X6.here hx rfl (hb hby at_18) rfl rfl ?_
      show SP p e below T6 (mkF m 19 #[iv p1, iv p2, iv p3, iv p4, iv p5, iv 1, .unset, .unset, .unset, .unset, .unset, .unset] [(.ref b1), (.ref b1)]) t
      refine XS.iconst X6.here hx rfl (hb hby at_19) ?_
      refine XS.iloadN X6.here hx rfl (hb hby at_20) rfl ?_
      show SP p e below T6 (mkF m 21 #[iv p1, iv p2, iv p3, iv p4, iv p5, iv 1, .unset, .unset, .unset, .unset, .unset, .unset] [(.int p3), (.int (1 : Int32)), (.ref b1), (.ref b1)]) t
      exact st8 t k)
  obtain ⟨cl10, Ar10, qq10, Sz10, Ng10, Ha10, Ga10⟩ := id V6
  have hin10 : ¬ ((1 : Int32) < 0 ∨ cl10.slots.size ≤ ((1 : Int32)).toNatClampNeg) := inb_of Sz10 (by decide)
  obtain ⟨T11, hp11, X11, e11, W11, st11⟩ := stC X8 hx hZ e8 Ar10 (j := (1 : Int32)) hin10 (g := (mkF m 24 #[iv p1, iv p2, iv p3, iv p4, iv p5, iv 1, .unset, .unset, .unset, .unset, .unset, .unset] [(.int d1), (.int (1 : Int32)), (.ref b1), (.ref b1)])) rfl rfl (hb hby at_24)
  have ch12 : ∀ t, SP p e below T11 (mkF m 25 #[iv p1, iv p2, iv p3, iv p4, iv p5, iv 1, .unset, .unset, .unset, .unset, .unset, .unset] [(.ref b1)]) t → SP p e below s₁ (entryFrame m #[(.int p1), (.int p2), (.int p3), (.int p4), (.int p5)] maxLocals) t := fun t k => ch9 t (by
      show SP p e below T8 (mkF m 24 #[iv p1, iv p2, iv p3, iv p4, iv p5, iv 1, .unset, .unset, .unset, .unset, .unset, .unset] [(.int d1), (.int (1 : Int32)), (.ref b1), (.ref b1)]) t
      exact st11 t k)
  have V11 : Arv Z hp11 b1 k1 .char (4 : Int32) [(.int d0), (.int (nar .char d1)), (.int (0 : Int32)), (.int (0 : Int32))] (.int (0 : Int32)) := Arv.set Ar10 qq10 Sz10 Ng10 Ha10 Ga10 (fits_nar_char _) W11 1 rfl (Nat.le_of_ble_eq_true rfl)
  rw [own_narc r1] at V11
  have hk := Nat.le_trans hk (Keep.of_wr W11).1
  have N11 := Fr.snoc X11 N8 g_b1
  have Kp11 := Keep.wr Kp6 W11 (Or.inr sz_b1)
  obtain ⟨vv13, _, ⟨T13, L13, kk13, nn13⟩, -, X13, ⟨Lc13, hQ13, l13, y13, z13⟩, st13⟩ := Jvm.LawKit.callS X11 hx (y := ym1) hown (mvT hZ (own_wi hw 2 rfl)) (mvT hZ (own_wi hw 3 rfl)) (mvT hZ (own_wi hw 4 rfl)) (mvT hZ (own_wi hw 5 rfl)) (by decide) (backOf (W := 3) (HD2 hp11 n0 (Nat.le_trans Z0 Kp11.1)) hZ (own_wi hw 5 rfl) (own_wi hw 4 rfl) (by decide) (by decide)) (g := (mkF m 28 #[iv p1, iv p2, iv p3, iv p4, iv p5, iv 1, .unset, .unset, .unset, .unset, .unset, .unset] [(.int p4), (.int (2 : Int32)), (.ref b1), (.ref b1)])) rfl (by rw [hml]; rfl) (argsL := [(.int p4)]) (rest := [(.int (2 : Int32)), (.ref b1), (.ref b1)]) (lenOf own_pd__I_C rfl) rfl (by show 2 * 0 + _ ≤ _; exact Nat.le_of_eq rfl) (hb hby at_28) (fun _ _ => ⟨rfl, e11, (by decide : 1 + 0 ≤ _), (by decide : 4 + 0 ≤ _)⟩)
  dsimp only [Pt.U, Pt.locs, Pt.cells, Pt.slots] at X13 l13 y13 z13 st13 hQ13
  subst l13 y13 z13
  obtain ⟨rfl, Nq13, e13⟩ := hQ13
  have N13 := Fr.app N11 Nq13
  have ch14 : ∀ t, SP p e below T13 (mkF m 31 #[iv p1, iv p2, iv p3, iv p4, iv p5, iv 1, .unset, .unset, .unset, .unset, .unset, .unset] [(.int d2), (.int (2 : Int32)), (.ref b1), (.ref b1)]) t → SP p e below s₁ (entryFrame m #[(.int p1), (.int p2), (.int p3), (.int p4), (.int p5)] maxLocals) t := fun t k => ch12 t (by
      show SP p e below T11 (mkF m 25 #[iv p1, iv p2, iv p3, iv p4, iv p5, iv 1, .unset, .unset, .unset, .unset, .unset, .unset] [(.ref b1)]) t
      refine XS.dup X11.here hx rfl (hb hby at_25) rfl rfl ?_
      refine XS.iconst X11.here hx rfl (hb hby at_26) ?_
      refine XS.iloadN X11.here hx rfl (hb hby at_27) rfl ?_
      show SP p e below T11 (mkF m 28 #[iv p1, iv p2, iv p3, iv p4, iv p5, iv 1, .unset, .unset, .unset, .unset, .unset, .unset] [(.int p4), (.int (2 : Int32)), (.ref b1), (.ref b1)]) t
      exact st13 t k)
  obtain ⟨cl15, Ar15, qq15, Sz15, Ng15, Ha15, Ga15⟩ := id V11
  have hin15 : ¬ ((2 : Int32) < 0 ∨ cl15.slots.size ≤ ((2 : Int32)).toNatClampNeg) := inb_of Sz15 (by decide)
  obtain ⟨T16, hp16, X16, e16, W16, st16⟩ := stC X13 hx hZ e13 Ar15 (j := (2 : Int32)) hin15 (g := (mkF m 31 #[iv p1, iv p2, iv p3, iv p4, iv p5, iv 1, .unset, .unset, .unset, .unset, .unset, .unset] [(.int d2), (.int (2 : Int32)), (.ref b1), (.ref b1)])) rfl rfl (hb hby at_31)
  have ch17 : ∀ t, SP p e below T16 (mkF m 32 #[iv p1, iv p2, iv p3, iv p4, iv p5, iv 1, .unset, .unset, .unset, .unset, .unset, .unset] [(.ref b1)]) t → SP p e below s₁ (entryFrame m #[(.int p1), (.int p2), (.int p3), (.int p4), (.int p5)] maxLocals) t := fun t k => ch14 t (by
      show SP p e below T13 (mkF m 31 #[iv p1, iv p2, iv p3, iv p4, iv p5, iv 1, .unset, .unset, .unset, .unset, .unset, .unset] [(.int d2), (.int (2 : Int32)), (.ref b1), (.ref b1)]) t
      exact st16 t k)
  have V16 : Arv Z hp16 b1 k1 .char (4 : Int32) [(.int d0), (.int d1), (.int (nar .char d2)), (.int (0 : Int32))] (.int (0 : Int32)) := Arv.set Ar15 qq15 Sz15 Ng15 Ha15 Ga15 (fits_nar_char _) W16 2 rfl (Nat.le_of_ble_eq_true rfl)
  rw [own_narc r2] at V16
  have hk := Nat.le_trans hk (Keep.of_wr W16).1
  have N16 := Fr.snoc X16 N13 g_b1
  have Kp16 := Keep.wr Kp11 W16 (Or.inr sz_b1)
  obtain ⟨vv18, _, ⟨T18, L18, kk18, nn18⟩, -, X18, ⟨Lc18, hQ18, l18, y18, z18⟩, st18⟩ := Jvm.LawKit.callS X16 hx (y := ym1) hown (mvT hZ (own_wi hw 2 rfl)) (mvT hZ (own_wi hw 3 rfl)) (mvT hZ (own_wi hw 4 rfl)) (mvT hZ (own_wi hw 5 rfl)) (by decide) (backOf (W := 3) (HD3 hp16 n0 (Nat.le_trans Z0 Kp16.1)) hZ (own_wi hw 5 rfl) (own_wi hw 4 rfl) (by decide) (by decide)) (g := (mkF m 36 #[iv p1, iv p2, iv p3, iv p4, iv p5, iv 1, .unset, .unset, .unset, .unset, .unset, .unset] [(.int p5), (.int (3 : Int32)), (.ref b1), (.ref b1)])) rfl (by rw [hml]; rfl) (argsL := [(.int p5)]) (rest := [(.int (3 : Int32)), (.ref b1), (.ref b1)]) (lenOf own_pd__I_C rfl) rfl (by show 2 * 0 + _ ≤ _; exact Nat.le_of_eq rfl) (hb hby at_36) (fun _ _ => ⟨rfl, e16, (by decide : 1 + 0 ≤ _), (by decide : 4 + 0 ≤ _)⟩)
  dsimp only [Pt.U, Pt.locs, Pt.cells, Pt.slots] at X18 l18 y18 z18 st18 hQ18
  subst l18 y18 z18
  obtain ⟨rfl, Nq18, e18⟩ := hQ18
  have N18 := Fr.app N16 Nq18
  have ch19 : ∀ t, SP p e below T18 (mkF m 39 #[iv p1, iv p2, iv p3, iv p4, iv p5, iv 1, .unset, .unset, .unset, .unset, .unset, .unset] [(.int d3), (.int (3 : Int32)), (.ref b1), (.ref b1)]) t → SP p e below s₁ (entryFrame m #[(.int p1), (.int p2), (.int p3), (.int p4), (.int p5)] maxLocals) t := fun t k => ch17 t (by
      show SP p e below T16 (mkF m 32 #[iv p1, iv p2, iv p3, iv p4, iv p5, iv 1, .unset, .unset, .unset, .unset, .unset, .unset] [(.ref b1)]) t
      refine XS.dup X16.here hx rfl (hb hby at_32) rfl rfl ?_
      refine XS.iconst X16.here hx rfl (hb hby at_33) ?_
      refine XS.iload X16.here hx rfl (hb hby at_34) rfl ?_
      show SP p e below T16 (mkF m 36 #[iv p1, iv p2, iv p3, iv p4, iv p5, iv 1, .unset, .unset, .unset, .unset, .unset, .unset] [(.int p5), (.int (3 : Int32)), (.ref b1), (.ref b1)]) t
      exact st18 t k)
  obtain ⟨cl20, Ar20, qq20, Sz20, Ng20, Ha20, Ga20⟩ := id V16
  have hin20 : ¬ ((3 : Int32) < 0 ∨ cl20.slots.size ≤ ((3 : Int32)).toNatClampNeg) := inb_of Sz20 (by decide)
  obtain ⟨T21, hp21, X21, e21, W21, st21⟩ := stC X18 hx hZ e18 Ar20 (j := (3 : Int32)) hin20 (g := (mkF m 39 #[iv p1, iv p2, iv p3, iv p4, iv p5, iv 1, .unset, .unset, .unset, .unset, .unset, .unset] [(.int d3), (.int (3 : Int32)), (.ref b1), (.ref b1)])) rfl rfl (hb hby at_39)
  have ch22 : ∀ t, SP p e below T21 (mkF m 40 #[iv p1, iv p2, iv p3, iv p4, iv p5, iv 1, .unset, .unset, .unset, .unset, .unset, .unset] [(.ref b1)]) t → SP p e below s₁ (entryFrame m #[(.int p1), (.int p2), (.int p3), (.int p4), (.int p5)] maxLocals) t := fun t k => ch19 t (by
      show SP p e below T18 (mkF m 39 #[iv p1, iv p2, iv p3, iv p4, iv p5, iv 1, .unset, .unset, .unset, .unset, .unset, .unset] [(.int d3), (.int (3 : Int32)), (.ref b1), (.ref b1)]) t
      exact st21 t k)
  have V21 : Arv Z hp21 b1 k1 .char (4 : Int32) [(.int d0), (.int d1), (.int d2), (.int (nar .char d3))] (.int (0 : Int32)) := Arv.set Ar20 qq20 Sz20 Ng20 Ha20 Ga20 (fits_nar_char _) W21 3 rfl (Nat.le_of_ble_eq_true rfl)
  rw [own_narc r3] at V21
  have hk := Nat.le_trans hk (Keep.of_wr W21).1
  have N21 := Fr.snoc X21 N18 g_b1
  have Kp21 := Keep.wr Kp16 W21 (Or.inr sz_b1)
  obtain ⟨cl23, Ar23, -, Sz23, Ng23, Ha23, -⟩ := id V21
  have hin23 : ¬ ((0 : Int32) < 0 ∨ cl23.slots.size ≤ ((0 : Int32)).toNatClampNeg) := inb_of Sz23 (by decide)
  have hat23 : cl23.slots[((0 : Int32)).toNatClampNeg]? = some (.int d0) := Ha23.at hin23 rfl
  obtain ⟨cl24, Ar24, -, Sz24, Ng24, Ha24, -⟩ := id V21
  have hin24 : ¬ ((1 : Int32) < 0 ∨ cl24.slots.size ≤ ((1 : Int32)).toNatClampNeg) := inb_of Sz24 (by decide)
  have hat24 : cl24.slots[((1 : Int32)).toNatClampNeg]? = some (.int d1) := Ha24.at hin24 rfl
  obtain ⟨cl25, Ar25, -, Sz25, Ng25, Ha25, -⟩ := id V21
  have hin25 : ¬ ((2 : Int32) < 0 ∨ cl25.slots.size ≤ ((2 : Int32)).toNatClampNeg) := inb_of Sz25 (by decide)
  have hat25 : cl25.slots[((2 : Int32)).toNatClampNeg]? = some (.int d2) := Ha25.at hin25 rfl
  obtain ⟨cl26, Ar26, -, Sz26, Ng26, Ha26, -⟩ := id V21
  have hin26 : ¬ ((3 : Int32) < 0 ∨ cl26.slots.size ≤ ((3 : Int32)).toNatClampNeg) := inb_of Sz26 (by decide)
  have hat26 : cl26.slots[((3 : Int32)).toNatClampNeg]? = some (.int d3) := Ha26.at hin26 rfl
  have cf27 := (own_sta_keep S_CS Kp21 all0)
  obtain ⟨vv28, _, ⟨T28, L28, kk28, nn28⟩, -, X28, ⟨Lc28, hQ28, l28, y28, z28⟩, st28⟩ := Jvm.LawKit.callS X21 hx (y := ym2) hown (mvT hZ (own_wi hw 6 rfl)) (mvT hZ (own_wi hw 7 rfl)) (mvT hZ (own_wi hw 4 rfl)) (mvT hZ (own_wi hw 8 rfl)) (by decide) (backOf (W := 0) (own_make_1 l Z a0 hw [] hp21 n0 (Nat.le_trans Z0 Kp21.1) d0 d1 d2 d3 r0 r1 r2 r3 zC cf27 P5) hZ (own_wi hw 8 rfl) (own_wi hw 4 rfl) (by decide) (by decide)) (g := (mkF m 60 #[iv p1, iv p2, iv p3, iv p4, iv p5, iv 1, rv b1, .unset, .unset, .unset, .unset, .unset] [(.int d3), (.int d2), (.int d1), (.int d0), (.int (1 : Int32))])) rfl (by rw [hml]; rfl) (argsL := [(.int (1 : Int32)), (.int d0), (.int d1), (.int d2), (.int d3)]) (rest := []) (lenOf own_pd__ICCCC_Ljava_lang_String_ rfl) rfl (by show 2 * 0 + _ ≤ _; exact Nat.le_of_eq rfl) (hb hby at_60) (fun _ _ => ⟨rfl, e21, (by decide : 1 + 3 ≤ _), (by decide : 4 + 6 ≤ _)⟩)
  dsimp only [Pt.U, Pt.locs, Pt.cells, Pt.slots] at X28 l28 y28 z28 st28 hQ28
  subst l28 y28 z28
  obtain ⟨hh28, eh28⟩ : ∃ h, T28.heap = h := ⟨_, rfl⟩
  rw [eh28] at hQ28
  obtain ⟨si, ti, ki, rfl, zq28, Nq28, Kq28, fq28_0, fq28_1, fq28_2, fq28_3⟩ := hQ28
  have N28 := Fr.app N21 Nq28
  have hk := Nat.le_trans hk Kq28.1
  have ne_b1_si : b1 ≠ si := Nat.ne_of_lt (Nat.lt_of_lt_of_le V21.lt zq28)
  have g_si : n0 ≤ si := Nat.le_trans (Nat.le_trans Z0 Kp21.1) zq28
  have sz_si : h0.size ≤ si := Nat.le_trans Kp21.1 zq28
  have Kp28 := Keep.trans Kp21 Kq28 all0
  have ch29 : ∀ t, SP p e below T28 (mkF m 63 #[iv p1, iv p2, iv p3, iv p4, iv p5, iv 1, rv b1, .unset, .unset, .unset, .unset, .unset] [(.ref si)]) t → SP p e below s₁ (entryFrame m #[(.int p1), (.int p2), (.int p3), (.int p4), (.int p5)] maxLocals) t := fun t k => ch22 t (by
      show SP p e below T21 (mkF m 40 #[iv p1, iv p2, iv p3, iv p4, iv p5, iv 1, .unset, .unset, .unset, .unset, .unset, .unset] [(.ref b1)]) t
      refine XS.astore X21.here hx rfl (hb hby at_40) rfl rfl (l' := #[iv p1, iv p2, iv p3, iv p4, iv p5, iv 1, rv b1, .unset, .unset, .unset, .unset, .unset]) rfl ?_
      refine XS.iload X21.here hx rfl (hb hby at_42) rfl ?_
      refine XS.aload X21.here hx rfl (hb hby at_44) rfl rfl ?_
      refine XS.iconst X21.here hx rfl (hb hby at_46) ?_
      show SP p e below T21 (mkF m 47 #[iv p1, iv p2, iv p3, iv p4, iv p5, iv 1, rv b1, .unset, .unset, .unset, .unset, .unset] [(.int (0 : Int32)), (.ref b1), (.int (1 : Int32))]) t
      refine X21.caload hx (j := (0 : Int32)) (v := (.int d0)) (by rw [e21]; exact Ar23.1) (State.isArrayOf_alike hZ.alike Ar23.2.1) Ar23.2.2 hin23 hat23 (g := (mkF m 47 #[iv p1, iv p2, iv p3, iv p4, iv p5, iv 1, rv b1, .unset, .unset, .unset, .unset, .unset] [(.int (0 : Int32)), (.ref b1), (.int (1 : Int32))])) rfl rfl (hb hby at_47) _ ?_
      refine XS.aload X21.here hx rfl (hb hby at_48) rfl rfl ?_
      refine XS.iconst X21.here hx rfl (hb hby at_50) ?_
      refine X21.caload hx (j := (1 : Int32)) (v := (.int d1)) (by rw [e21]; exact Ar24.1) (State.isArrayOf_alike hZ.alike Ar24.2.1) Ar24.2.2 hin24 hat24 (g := (mkF m 51 #[iv p1, iv p2, iv p3, iv p4, iv p5, iv 1, rv b1, .unset, .unset, .unset, .unset, .unset] [(.int (1 : Int32)), (.ref b1), (.int d0), (.int (1 : Int32))])) rfl rfl (hb hby at_51) _ ?_
      refine XS.aload X21.here hx rfl (hb hby at_52) rfl rfl ?_
      refine XS.iconst X21.here hx rfl (hb hby at_54) ?_
      refine X21.caload hx (j := (2 : Int32)) (v := (.int d2)) (by rw [e21]; exact Ar25.1) (State.isArrayOf_alike hZ.alike Ar25.2.1) Ar25.2.2 hin25 hat25 (g := (mkF m 55 #[iv p1, iv p2, iv p3, iv p4, iv p5, iv 1, rv b1, .unset, .unset, .unset, .unset, .unset] [(.int (2 : Int32)), (.ref b1), (.int d1), (.int d0), (.int (1 : Int32))])) rfl rfl (hb hby at_55) _ ?_
      refine XS.aload X21.here hx rfl (hb hby at_56) rfl rfl ?_
      refine XS.iconst X21.here hx rfl (hb hby at_58) ?_
      refine X21.caload hx (j := (3 : Int32)) (v := (.int d3)) (by rw [e21]; exact Ar26.1) (State.isArrayOf_alike hZ.alike Ar26.2.1) Ar26.2.2 hin26 hat26 (g := (mkF m 59 #[iv p1, iv p2, iv p3, iv p4, iv p5, iv 1, rv b1, .unset, .unset, .unset, .unset, .unset] [(.int (3 : Int32)), (.ref b1), (.int d2), (.int d1), (.int d0), (.int (1 : Int32))])) rfl rfl (hb hby at_59) _ ?_
      show SP p e below T21 (mkF m 60 #[iv p1, iv p2, iv p3, iv p4, iv p5, iv 1, rv b1, .unset, .unset, .unset, .unset, .unset] [(.int d3), (.int d2), (.int d1), (.int d0), (.int (1 : Int32))]) t
      exact st28 t k)
  have ch31 : ∀ t, SP p e below T28 (mkF m 68 #[iv p1, iv p2, iv p3, iv p4, iv p5, iv 1, rv b1, rv si, iv (-1), .unset, .unset, .unset] []) t → SP p e below s₁ (entryFrame m #[(.int p1), (.int p2), (.int p3), (.int p4), (.int p5)] maxLocals) t := fun t k => ch29 t (by
      show SP p e below T28 (mkF m 63 #[iv p1, iv p2, iv p3, iv p4, iv p5, iv 1, rv b1, .unset, .unset, .unset, .unset, .unset] [(.ref si)]) t
      refine XS.astore X28.here hx rfl (hb hby at_63) rfl rfl (l' := #[iv p1, iv p2, iv p3, iv p4, iv p5, iv 1, rv b1, rv si, .unset, .unset, .unset, .unset]) rfl ?_
      refine XS.iconst X28.here hx rfl (hb hby at_65) ?_
      show SP p e below T28 (mkF m 66 #[iv p1, iv p2, iv p3, iv p4, iv p5, iv 1, rv b1, rv si, .unset, .unset, .unset, .unset] [(.int (-1 : Int32))]) t
      refine XS.istore X28.here hx rfl (hb hby at_66) rfl (l' := #[iv p1, iv p2, iv p3, iv p4, iv p5, iv 1, rv b1, rv si, iv (-1), .unset, .unset, .unset]) rfl ?_
      exact k)
  by_cases hq30 : d0 = (35 : Int32)
  · skip
    have cf32 := (V21.keep Kq28 nin0)
    obtain ⟨cl33, Ar33, -, Sz33, Ng33, Ha33, -⟩ := id cf32
    have hin33 : ¬ ((0 : Int32) < 0 ∨ cl33.slots.size ≤ ((0 : Int32)).toNatClampNeg) := inb_of Sz33 (by decide)
    have hat33 : cl33.slots[((0 : Int32)).toNatClampNeg]? = some (.int d0) := Ha33.at hin33 rfl
    have cf34 := (own_sta_keep cf27 Kq28 all0)
    have cf35 := (own_sta_keep S_F Kp28 all0)
    have ch36 : ∀ t, SP p e below T28 (mkF m 141 #[iv p1, iv p2, iv p3, iv p4, iv p5, iv 1, rv b1, rv si, iv 0, .unset, .unset, .unset] [(.ref si)]) t → SP p e below s₁ (entryFrame m #[(.int p1), (.int p2), (.int p3), (.int p4), (.int p5)] maxLocals) t := fun t k => ch31 t (by
        show SP p e below T28 (mkF m 68 #[iv p1, iv p2, iv p3, iv p4, iv p5, iv 1, rv b1, rv si, iv (-1), .unset, .unset, .unset] []) t
        refine XS.iload X28.here hx rfl (hb hby at_68) rfl ?_
        refine XS.iconst X28.here hx rfl (hb hby at_70) ?_
        refine XS.icmpYes X28.here hx rfl (pc0 := 71) (pc' := 86) rfl (hb hby at_71) rfl (flt (by decide : ¬ (3 : Int32) < (1 : Int32))).2.2.2 (by decide) (by decide) ?_
        refine XS.iload X28.here hx rfl (hb hby at_86) rfl ?_
        refine XS.iconst X28.here hx rfl (hb hby at_88) ?_
        refine XS.icmpYes X28.here hx rfl (pc0 := 89) (pc' := 104) rfl (hb hby at_89) rfl (flt (by decide : ¬ (2 : Int32) < (1 : Int32))).2.2.2 (by decide) (by decide) ?_
        refine XS.iload X28.here hx rfl (hb hby at_104) rfl ?_
        refine XS.iconst X28.here hx rfl (hb hby at_106) ?_
        refine XS.icmpYes X28.here hx rfl (pc0 := 107) (pc' := 122) rfl (hb hby at_107) rfl (flt (by decide : ¬ (1 : Int32) < (1 : Int32))).2.2.2 (by decide) (by decide) ?_
        refine XS.iload X28.here hx rfl (hb hby at_122) rfl ?_
        refine XS.ifNo X28.here hx rfl (hb hby at_124) rfl ((if0 _ _).trans (tlt (by decide : (0 : Int32) < (1 : Int32))).2.2.2) ?_
        refine XS.aload X28.here hx rfl (hb hby at_127) rfl rfl ?_
        refine XS.iconst X28.here hx rfl (hb hby at_129) ?_
        refine X28.caload hx (j := (0 : Int32)) (v := (.int d0)) (by rw [eh28]; exact Ar33.1) (State.isArrayOf_alike hZ.alike Ar33.2.1) Ar33.2.2 hin33 hat33 (g := (mkF m 130 #[iv p1, iv p2, iv p3, iv p4, iv p5, iv 1, rv b1, rv si, iv (-1), .unset, .unset, .unset] [(.int (0 : Int32)), (.ref b1)])) rfl rfl (hb hby at_130) _ ?_
        refine XS.bipush X28.here hx rfl (hb hby at_131) ?_
        refine XS.icmpNo X28.here hx rfl (hb hby at_133) rfl (teq hq30).2 ?_
        show SP p e below T28 (mkF m 136 #[iv p1, iv p2, iv p3, iv p4, iv p5, iv 1, rv b1, rv si, iv (-1), .unset, .unset, .unset] []) t
        refine XS.iconst X28.here hx rfl (hb hby at_136) ?_
        refine XS.istore X28.here hx rfl (hb hby at_137) rfl (l' := #[iv p1, iv p2, iv p3, iv p4, iv p5, iv 1, rv b1, rv si, iv 0, .unset, .unset, .unset]) rfl ?_
        refine XS.aload X28.here hx rfl (hb hby at_139) rfl rfl ?_
        exact k)
    obtain ⟨vv37, _, ⟨T37, L37, kk37, nn37⟩, -, X37, hS2, hgr, ⟨Lc37, hQ37, l37, y37, z37⟩, st37⟩ := Jvm.RoadKit.callSS X28 hx (y := ym0) hown (mvT hZ (own_wi hw 30 rfl)) (mvT hZ (own_wi hw 31 rfl)) (mvT hZ (own_wi hw 32 rfl)) (mvT hZ (own_wi hw 33 rfl)) (by decide) (own_backC (W := 0) (own_fr_10 l Z a0 hw hh28 n0 (Nat.le_trans Z0 Kp28.1) si ti ki (d0.toInt8.toInt32) fq28_0 fq28_1 fq28_2 fq28_3  (own_y35 hq30) zC cf34 P5 vF hvF cf35) hZ (own_wi hw 33 rfl) (own_wi hw 32 rfl) (by decide) (by decide) (own_EW hw) (CHv.keep Kp28 (fun x hx => by cases hx) hC)) (g := (mkF m 141 #[iv p1, iv p2, iv p3, iv p4, iv p5, iv 1, rv b1, rv si, iv 0, .unset, .unset, .unset] [(.ref si)])) rfl (by rw [hml]; rfl) (argsL := [(.ref si)]) (rest := []) (lenOf own_pd__Ljava_lang_String__Ljava_lang_String_ rfl) rfl (by show 2 * 0 + _ ≤ _; exact Nat.le_of_eq rfl) (hb hby at_141) (fun _ _ => ⟨rfl, eh28, (by decide : 4 + 2 ≤ _), (by decide : 10 + 4 ≤ _)⟩)
    dsimp only [Pt.U, Pt.locs, Pt.cells, Pt.slots] at X37 l37 y37 z37 st37 hQ37 hS2 hgr
    subst l37 y37 z37
    obtain ⟨X37, hS, hZ, hown⟩ := rebS hS (by rw [eh28]; exact hk) X37 hS2 hgr hZ hown
    obtain ⟨hh37, eh37⟩ : ∃ h, T37.heap = h := ⟨_, rfl⟩
    rw [eh37] at hQ37
    rw [eh37] at hS
    have hk : hh37.size ≤ hh37.size := Nat.le_refl _
    obtain ⟨sr, tr, kr, rfl, Nq37, Kq37, fq37_0, fq37_1, fq37_2, fq37_3⟩ := hQ37
    have N37 := Fr.app N28 Nq37
    have Kp37 := Keep.trans Kp28 Kq37 all0
    have ch38 : ∀ t, SP p e below T37 (mkF m 144 #[iv p1, iv p2, iv p3, iv p4, iv p5, iv 1, rv b1, rv si, iv 0, .unset, .unset, .unset] [(.ref sr)]) t → SP p e below s₁ (entryFrame m #[(.int p1), (.int p2), (.int p3), (.int p4), (.int p5)] maxLocals) t := fun t k => ch36 t (by
        show SP p e below T28 (mkF m 141 #[iv p1, iv p2, iv p3, iv p4, iv p5, iv 1, rv b1, rv si, iv 0, .unset, .unset, .unset] [(.ref si)]) t
        exact st37.trans k)
    have cf39 := (own_sta_keep cf34 Kq37 all0)
    obtain ⟨cq40, kq40, qa40, qb40, qc40⟩ := isOf hZ eh37 fq37_0
    obtain ⟨vv41, _, ⟨T41, L41, kk41, nn41⟩, -, X41, ⟨Lc41, hQ41, l41, y41, z41⟩, st41⟩ := X37.virtualBack hx (y := ym15) (z := ym15) hown (mvT hZ (own_wi hw 109 rfl)) (mvT hZ (own_wi hw 51 rfl)) (notFace_of_selects (args := #[]) (mvT hZ (own_wi hw 53 rfl))) (mvT hZ (own_wi hw 53 rfl)) (mvT hZ (own_wi hw 52 rfl)) (by decide) (backOf (W := 0) (own_ln l Z a0 hw [] hh37 n0 (Nat.le_trans Z0 Kp37.1) sr tr kr (0 : Int32) [] fq37_0 fq37_1 fq37_2 fq37_3 zC cf39 P5) hZ (own_wi hw 54 rfl) (own_wi hw 11 rfl) (by decide) (by decide)) qa40 qc40 (g := (mkF m 180 #[iv p1, iv p2, iv p3, iv p4, iv p5, iv 1, rv b1, rv si, iv 0, rv sr, iv 0, .unset] [(.ref sr)])) rfl (by rw [hml]; rfl) (Steps.refl _) (argsL := []) (rest := []) (lenOf own_pd___I rfl) rfl (by show 2 * 0 + _ ≤ _; exact Nat.le_of_eq rfl) (hb hby at_180) (fun _ _ => ⟨rfl, eh37, (by decide : 6 + 0 ≤ _), (by decide : 14 + 0 ≤ _)⟩)
    dsimp only [Pt.U, Pt.locs, Pt.cells, Pt.slots] at X41 l41 y41 z41 st41 hQ41
    subst l41 y41 z41
    obtain ⟨rfl, Nq41, e41⟩ := hQ41
    have N41 := Fr.app N37 Nq41
    have ch42 : ∀ t, SP p e below T41 (mkF m 183 #[iv p1, iv p2, iv p3, iv p4, iv p5, iv 1, rv b1, rv si, iv 0, rv sr, iv 0, .unset] [(.int (0 : Int32))]) t → SP p e below s₁ (entryFrame m #[(.int p1), (.int p2), (.int p3), (.int p4), (.int p5)] maxLocals) t := fun t k => ch38 t (by
        show SP p e below T37 (mkF m 144 #[iv p1, iv p2, iv p3, iv p4, iv p5, iv 1, rv b1, rv si, iv 0, .unset, .unset, .unset] [(.ref sr)]) t
        refine XS.astore X37.here hx rfl (hb hby at_144) rfl rfl (l' := #[iv p1, iv p2, iv p3, iv p4, iv p5, iv 1, rv b1, rv si, iv 0, rv sr, .unset, .unset]) rfl ?_
        refine XS.iload X37.here hx rfl (hb hby at_146) rfl ?_
        refine XS.ifYes X37.here hx rfl (pc0 := 148) (pc' := 162) rfl (hb hby at_148) rfl ((if0 _ _).trans (flt (by decide : ¬ (0 : Int32) < (0 : Int32))).2.1) (by decide) (by decide) ?_
        refine XS.aload X37.here hx rfl (hb hby at_162) rfl rfl ?_
        refine XS.ifnonnullYes X37.here hx rfl (pc0 := 164) (pc' := 169) rfl (hb hby at_164) rfl (by decide) (by decide) ?_
        refine XS.iload X37.here hx rfl (hb hby at_169) rfl ?_
        refine XS.iload X37.here hx rfl (hb hby at_171) rfl ?_
        show SP p e below T37 (mkF m 173 #[iv p1, iv p2, iv p3, iv p4, iv p5, iv 1, rv b1, rv si, iv 0, rv sr, .unset, .unset] [(.int (0 : Int32)), (.int (1 : Int32))]) t
        refine XS.isub X37.here hx rfl (hb hby at_173) rfl ?_
        rw [show ((1 : Int32) - (0 : Int32)) = (1 : Int32) from by decide]
        refine XS.iconst X37.here hx rfl (hb hby at_174) ?_
        show SP p e below T37 (mkF m 175 #[iv p1, iv p2, iv p3, iv p4, iv p5, iv 1, rv b1, rv si, iv 0, rv sr, .unset, .unset] [(.int (1 : Int32)), (.int (1 : Int32))]) t
        refine XS.isub X37.here hx rfl (hb hby at_175) rfl ?_
        rw [show ((1 : Int32) - (1 : Int32)) = (0 : Int32) from by decide]
        show SP p e below T37 (mkF m 176 #[iv p1, iv p2, iv p3, iv p4, iv p5, iv 1, rv b1, rv si, iv 0, rv sr, .unset, .unset] [(.int (0 : Int32))]) t
        refine XS.istore X37.here hx rfl (hb hby at_176) rfl (l' := #[iv p1, iv p2, iv p3, iv p4, iv p5, iv 1, rv b1, rv si, iv 0, rv sr, iv 0, .unset]) rfl ?_
        refine XS.aload X37.here hx rfl (hb hby at_178) rfl rfl ?_
        show SP p e below T37 (mkF m 180 #[iv p1, iv p2, iv p3, iv p4, iv p5, iv 1, rv b1, rv si, iv 0, rv sr, iv 0, .unset] [(.ref sr)]) t
        exact st41.trans k)
    have ch43 : ∀ t, SP p e below T41 (mkF m 296 #[iv p1, iv p2, iv p3, iv p4, iv p5, iv 1, rv b1, rv si, iv 0, rv sr, iv 0, iv 1] [(.int (1 : Int32))]) t → SP p e below s₁ (entryFrame m #[(.int p1), (.int p2), (.int p3), (.int p4), (.int p5)] maxLocals) t := fun t k => ch42 t (by
        show SP p e below T41 (mkF m 183 #[iv p1, iv p2, iv p3, iv p4, iv p5, iv 1, rv b1, rv si, iv 0, rv sr, iv 0, .unset] [(.int (0 : Int32))]) t
        refine XS.iload X41.here hx rfl (hb hby at_183) rfl ?_
        refine XS.icmpYes X41.here hx rfl (pc0 := 185) (pc' := 190) rfl (hb hby at_185) rfl (teq (by decide : (0 : Int32) = (0 : Int32))).1 (by decide) (by decide) ?_
        refine XS.iconst X41.here hx rfl (hb hby at_190) ?_
        refine XS.istore X41.here hx rfl (hb hby at_191) rfl (l' := #[iv p1, iv p2, iv p3, iv p4, iv p5, iv 1, rv b1, rv si, iv 0, rv sr, iv 0, iv 1]) rfl ?_
        refine XS.iload X41.here hx rfl (hb hby at_193) rfl ?_
        refine XS.ifYes X41.here hx rfl (pc0 := 195) (pc' := 226) rfl (hb hby at_195) rfl ((if0 _ _).trans (flt (by decide : ¬ (0 : Int32) < (0 : Int32))).2.2.2) (by decide) (by decide) ?_
        refine XS.iload X41.here hx rfl (hb hby at_226) rfl ?_
        refine XS.iconst X41.here hx rfl (hb hby at_228) ?_
        refine XS.icmpYes X41.here hx rfl (pc0 := 229) (pc' := 260) rfl (hb hby at_229) rfl (flt (by decide : ¬ (1 : Int32) < (0 : Int32))).2.2.2 (by decide) (by decide) ?_
        refine XS.iload X41.here hx rfl (hb hby at_260) rfl ?_
        refine XS.iconst X41.here hx rfl (hb hby at_262) ?_
        refine XS.icmpYes X41.here hx rfl (pc0 := 263) (pc' := 294) rfl (hb hby at_263) rfl (flt (by decide : ¬ (2 : Int32) < (0 : Int32))).2.2.2 (by decide) (by decide) ?_
        refine XS.iload X41.here hx rfl (hb hby at_294) rfl ?_
        exact k)
    obtain ⟨fs, hr, hrun, hended, hend⟩ := X41.leaveW hS (by rw [e41]; exact hk) (v := some (.int (1 : Int32))) (fun h => by rw [Bd.returns] at h; cases h)
    refine ⟨_, _, ch43 _ ?_, hrun, hended, _, _, rfl, ?_, hend.1, hend.2.1, hend.2.2.1, hend.2.2.2.mono (by decide) (by decide)⟩
    · show Steps p.tables e below (T41.setTop (mkF m 296 #[iv p1, iv p2, iv p3, iv p4, iv p5, iv 1, rv b1, rv si, iv 0, rv sr, iv 0, iv 1] [(.int (1 : Int32))])) _
      exact retN X41 hx (t := .boolean) Bd.returns (by simp) (hb hby at_296) hr
    · show QN (some (.int (1 : Int32))) n0 _ T41.heap _
      rw [e41]
      exact ⟨rfl, N41⟩
  · skip
    have cf44 := (V21.keep Kq28 nin0)
    obtain ⟨cl45, Ar45, -, Sz45, Ng45, Ha45, -⟩ := id cf44
    have hin45 : ¬ ((0 : Int32) < 0 ∨ cl45.slots.size ≤ ((0 : Int32)).toNatClampNeg) := inb_of Sz45 (by decide)
    have hat45 : cl45.slots[((0 : Int32)).toNatClampNeg]? = some (.int d0) := Ha45.at hin45 rfl
    have cf46 := (own_sta_keep cf27 Kq28 all0)
    have cf47 := (own_sta_keep S_F Kp28 all0)
    obtain ⟨vv48, _, ⟨T48, L48, kk48, nn48⟩, -, X48, ⟨Lc48, hQ48, l48, y48, z48⟩, st48⟩ := Jvm.LawKit.callS X28 hx (y := ym0) hown (mvT hZ (own_wi hw 30 rfl)) (mvT hZ (own_wi hw 31 rfl)) (mvT hZ (own_wi hw 32 rfl)) (mvT hZ (own_wi hw 33 rfl)) (by decide) (backOf (W := 0) (own_fr_1n l Z a0 hw hh28 n0 (Nat.le_trans Z0 Kp28.1) si ti ki (d0.toInt8.toInt32) fq28_0 fq28_1 fq28_2 fq28_3 (own_n35 r0 hq30) zC cf46 P5 vF hvF cf47) hZ (own_wi hw 33 rfl) (own_wi hw 32 rfl) (by decide) (by decide)) (g := (mkF m 141 #[iv p1, iv p2, iv p3, iv p4, iv p5, iv 1, rv b1, rv si, iv (-1), .unset, .unset, .unset] [(.ref si)])) rfl (by rw [hml]; rfl) (argsL := [(.ref si)]) (rest := []) (lenOf own_pd__Ljava_lang_String__Ljava_lang_String_ rfl) rfl (by show 2 * 0 + _ ≤ _; exact Nat.le_of_eq rfl) (hb hby at_141) (fun _ _ => ⟨rfl, eh28, (by decide : 4 + 0 ≤ _), (by decide : 10 + 0 ≤ _)⟩)
    dsimp only [Pt.U, Pt.locs, Pt.cells, Pt.slots] at X48 l48 y48 z48 st48 hQ48
    subst l48 y48 z48
    obtain ⟨rfl, Nq48, e48⟩ := hQ48
    have N48 := Fr.app N28 Nq48
    have ch49 : ∀ t, SP p e below T48 (mkF m 144 #[iv p1, iv p2, iv p3, iv p4, iv p5, iv 1, rv b1, rv si, iv (-1), .unset, .unset, .unset] [.null]) t → SP p e below s₁ (entryFrame m #[(.int p1), (.int p2), (.int p3), (.int p4), (.int p5)] maxLocals) t := fun t k => ch31 t (by
        show SP p e below T28 (mkF m 68 #[iv p1, iv p2, iv p3, iv p4, iv p5, iv 1, rv b1, rv si, iv (-1), .unset, .unset, .unset] []) t
        refine XS.iload X28.here hx rfl (hb hby at_68) rfl ?_
        refine XS.iconst X28.here hx rfl (hb hby at_70) ?_
        refine XS.icmpYes X28.here hx rfl (pc0 := 71) (pc' := 86) rfl (hb hby at_71) rfl (flt (by decide : ¬ (3 : Int32) < (1 : Int32))).2.2.2 (by decide) (by decide) ?_
        refine XS.iload X28.here hx rfl (hb hby at_86) rfl ?_
        refine XS.iconst X28.here hx rfl (hb hby at_88) ?_
        refine XS.icmpYes X28.here hx rfl (pc0 := 89) (pc' := 104) rfl (hb hby at_89) rfl (flt (by decide : ¬ (2 : Int32) < (1 : Int32))).2.2.2 (by decide) (by decide) ?_
        refine XS.iload X28.here hx rfl (hb hby at_104) rfl ?_
        refine XS.iconst X28.here hx rfl (hb hby at_106) ?_
        refine XS.icmpYes X28.here hx rfl (pc0 := 107) (pc' := 122) rfl (hb hby at_107) rfl (flt (by decide : ¬ (1 : Int32) < (1 : Int32))).2.2.2 (by decide) (by decide) ?_
        refine XS.iload X28.here hx rfl (hb hby at_122) rfl ?_
        refine XS.ifNo X28.here hx rfl (hb hby at_124) rfl ((if0 _ _).trans (tlt (by decide : (0 : Int32) < (1 : Int32))).2.2.2) ?_
        refine XS.aload X28.here hx rfl (hb hby at_127) rfl rfl ?_
        refine XS.iconst X28.here hx rfl (hb hby at_129) ?_
        refine X28.caload hx (j := (0 : Int32)) (v := (.int d0)) (by rw [eh28]; exact Ar45.1) (State.isArrayOf_alike hZ.alike Ar45.2.1) Ar45.2.2 hin45 hat45 (g := (mkF m 130 #[iv p1, iv p2, iv p3, iv p4, iv p5, iv 1, rv b1, rv si, iv (-1), .unset, .unset, .unset] [(.int (0 : Int32)), (.ref b1)])) rfl rfl (hb hby at_130) _ ?_
        refine XS.bipush X28.here hx rfl (hb hby at_131) ?_
        refine XS.icmpYes X28.here hx rfl (pc0 := 133) (pc' := 139) rfl (hb hby at_133) rfl (feq hq30).2 (by decide) (by decide) ?_
        show SP p e below T28 (mkF m 139 #[iv p1, iv p2, iv p3, iv p4, iv p5, iv 1, rv b1, rv si, iv (-1), .unset, .unset, .unset] []) t
        refine XS.aload X28.here hx rfl (hb hby at_139) rfl rfl ?_
        show SP p e below T28 (mkF m 141 #[iv p1, iv p2, iv p3, iv p4, iv p5, iv 1, rv b1, rv si, iv (-1), .unset, .unset, .unset] [(.ref si)]) t
        exact st48 t k)
    have ch50 : ∀ t, SP p e below T48 (mkF m 161 #[iv p1, iv p2, iv p3, iv p4, iv p5, iv 1, rv b1, rv si, iv (-1), .val .null, .unset, .unset] [(.int (1 : Int32))]) t → SP p e below s₁ (entryFrame m #[(.int p1), (.int p2), (.int p3), (.int p4), (.int p5)] maxLocals) t := fun t k => ch49 t (by
        show SP p e below T48 (mkF m 144 #[iv p1, iv p2, iv p3, iv p4, iv p5, iv 1, rv b1, rv si, iv (-1), .unset, .unset, .unset] [.null]) t
        refine XS.astore X48.here hx rfl (hb hby at_144) rfl rfl (l' := #[iv p1, iv p2, iv p3, iv p4, iv p5, iv 1, rv b1, rv si, iv (-1), .val .null, .unset, .unset]) rfl ?_
        refine XS.iload X48.here hx rfl (hb hby at_146) rfl ?_
        refine XS.ifNo X48.here hx rfl (hb hby at_148) rfl ((if0 _ _).trans (tlt (by decide : (-1 : Int32) < (0 : Int32))).2.1) ?_
        refine XS.aload X48.here hx rfl (hb hby at_151) rfl rfl ?_
        refine XS.ifnonnullNo X48.here hx rfl (hb hby at_153) rfl ?_
        refine XS.iconst X48.here hx rfl (hb hby at_156) ?_
        refine XS.goto X48.here hx rfl (pc0 := 157) (pc' := 161) rfl (hb hby at_157) (by decide) (by decide) ?_
        exact k)
    obtain ⟨fs, hr, hrun, hended, hend⟩ := X48.leaveW hS (by rw [e48]; exact hk) (v := some (.int (1 : Int32))) (fun h => by rw [Bd.returns] at h; cases h)
    refine ⟨_, _, ch50 _ ?_, hrun, hended, _, _, rfl, ?_, hend.1, hend.2.1, hend.2.2.1, hend.2.2.2.mono (by decide) (by decide)⟩
    · show Steps p.tables e below (T48.setTop (mkF m 161 #[iv p1, iv p2, iv p3, iv p4, iv p5, iv 1, rv b1, rv si, iv (-1), .val .null, .unset, .unset] [(.int (1 : Int32))])) _
      exact retN X48 hx (t := .boolean) Bd.returns (by simp) (hb hby at_161) hr
    · show QN (some (.int (1 : Int32))) n0 _ T48.heap _
      rw [e48]
      exact ⟨rfl, N48⟩
theorem own_ef_own_law_2 (m : MethodId) {x0 : Int32} {x1 : Int32} {x2 : Int32} {x3 : Int32} {x4 : Int32} : entryFrame m #[(.int x0), (.int x1), (.int x2), (.int x3), (.int x4)] maxLocals = mkF m 0 #[iv x0, iv x1, iv x2, iv x3, iv x4, .unset, .unset, .unset, .unset, .unset, .unset, .unset] [] := by first | (simp [entryFrame, mkF, argsToLocals, Value.category, maxLocals]; done) | rfl
set_option maxRecDepth 65536 in
set_option maxHeartbeats 40000000 in
theorem own_law_2 (l : Launch) (Z : State) (a0 : Array Value) (hw : ∀ d ∈ tables_1, d.before a0 Z = true) (ws : List Jvm.Cond) (h0 : Heap) (n0 : Nat) (Z0 : n0 ≤ h0.size) (p1 p2 p3 p4 p5 d0 d1 d2 d3 : Int32) (hn5 : ((p1 &&& (2147483647 : Int32)) % (5 : Int32)) = (2 : Int32)) (HD0 : ∀ (h : Heap) (n0 : Nat) (Z0 : n0 ≤ h.size), MetFree l ym1 (head1 (Jvm.Cond.code ym1 method_2_code 1 (some .char) :: []) rm0) (fun a U => a = #[(.int p2)] ∧ Z.Warmed39 U.vm ∧ U.heap = h) (fun _ _ _ _ _ => True) (fun _ U o U' => ∃ v L, o = .returned v ∧ QV (some (.int d0)) h n0 v U'.heap L ∧ FrameEnd U o U' L rm0.cells rm0.slots)) (HD1 : ∀ (h : Heap) (n0 : Nat) (Z0 : n0 ≤ h.size), MetFree l ym1 (head1 (Jvm.Cond.code ym1 method_2_code 1 (some .char) :: []) rm0) (fun a U => a = #[(.int p3)] ∧ Z.Warmed39 U.vm ∧ U.heap = h) (fun _ _ _ _ _ => True) (fun _ U o U' => ∃ v L, o = .returned v ∧ QV (some (.int d1)) h n0 v U'.heap L ∧ FrameEnd U o U' L rm0.cells rm0.slots)) (HD2 : ∀ (h : Heap) (n0 : Nat) (Z0 : n0 ≤ h.size), MetFree l ym1 (head1 (Jvm.Cond.code ym1 method_2_code 1 (some .char) :: []) rm0) (fun a U => a = #[(.int p4)] ∧ Z.Warmed39 U.vm ∧ U.heap = h) (fun _ _ _ _ _ => True) (fun _ U o U' => ∃ v L, o = .returned v ∧ QV (some (.int d2)) h n0 v U'.heap L ∧ FrameEnd U o U' L rm0.cells rm0.slots)) (HD3 : ∀ (h : Heap) (n0 : Nat) (Z0 : n0 ≤ h.size), MetFree l ym1 (head1 (Jvm.Cond.code ym1 method_2_code 1 (some .char) :: []) rm0) (fun a U => a = #[(.int p5)] ∧ Z.Warmed39 U.vm ∧ U.heap = h) (fun _ _ _ _ _ => True) (fun _ U o U' => ∃ v L, o = .returned v ∧ QV (some (.int d3)) h n0 v U'.heap L ∧ FrameEnd U o U' L rm0.cells rm0.slots)) (r0 : ¬ d0 < 0 ∧ ¬ (255 : Int32) < d0) (r1 : ¬ d1 < 0 ∧ ¬ (255 : Int32) < d1) (r2 : ¬ d2 < 0 ∧ ¬ (255 : Int32) < d2) (r3 : ¬ d3 < 0 ∧ ¬ (255 : Int32) < d3) (zC : Int32) (S_CS : Sta Z h0 "java/lang/String" "COMPACT_STRINGS" "Z" (.int zC)) (P5 : ¬ (zC = (0 : Int32))) (vF : Value) (hvF : vF.category = 1) (S_F : Sta Z h0 "jdk/internal/util/Preconditions" "SIOOBE_FORMATTER" "Ljava/util/function/BiFunction;" vF) :
    MetFree l x (head1 (Jvm.Cond.code x code maxLocals ret :: ws) room_1) (fun a U => a = #[(.int p1), (.int p2), (.int p3), (.int p4), (.int p5)] ∧ Z.Warmed39 U.vm ∧ U.heap = h0 ∧ CHv Z consts_1 U.vm h0) (fun _ _ _ _ _ => True) (fun _ U o U' => ∃ v L, o = .returned v ∧ QN (some (.int (1 : Int32))) n0 v U'.heap L ∧ ReturnedEndW U o U' L room_1.cells room_1.slots) := by
  refine MetFree.of_bodySF (plainFor_of_name own_pn_com_example_leafwright_leafwright_ReferencesFragmentPinLaw) hisR ?_
  intro p e s m args below meth c s₁ Bd hml0 hP hK
  obtain ⟨rfl, hZ, hh, hC⟩ := hP
  have hx := Bd.exec
  have hby := Bd.bytes
  have hml : c.maxLocals = 12 := hml0
  have hown : s.vm.findClass "com/example/leafwright/leafwright/ReferencesFragmentPinLaw" = some m.cls := (findClass_of_methodNamed Bd.named :)
  have hnm := (name_of_methodNamed Bd.named Bd.method).1
  have X0 : Stand p l e room_1 (s.setVm s.vm) m #[(.int p1), (.int p2), (.int p3), (.int p4), (.int p5)] below meth c s₁ [] 0 0 := Stand.of_body Bd
  have hZ : Z.Warmed39 (s.setVm s.vm).vm := hZ
  have hown : (s.setVm s.vm).vm.findClass "com/example/leafwright/leafwright/ReferencesFragmentPinLaw" = some m.cls := hown
  have hS : s.Since s.vm 0 := (State.WarmedH.refl s).since 0
  have hk : 0 ≤ h0.size := Nat.zero_le _
  have e0 : s₁.heap = h0 := by rw [← hh, Bd.state]; rfl
  have N0 := Fr.nil n0
  have pre0 : ∀ t, SP p e below s₁ (mkF m 0 #[iv p1, iv p2, iv p3, iv p4, iv p5, .unset, .unset, .unset, .unset, .unset, .unset, .unset] []) t → SP p e below s₁ (entryFrame m #[(.int p1), (.int p2), (.int p3), (.int p4), (.int p5)] maxLocals) t := fun t k => castTop (own_ef_own_law_2 m) k
  obtain ⟨T1, hp1, k1, X1, e1, E1, A1, st1⟩ := newP X0 hx hZ (own_wi hw 1 rfl) e0 (g := (mkF m 9 #[iv p1, iv p2, iv p3, iv p4, iv p5, iv 2, .unset, .unset, .unset, .unset, .unset, .unset] [(.int (4 : Int32))])) rfl (hb hby at_9) rfl (by decide) (cap := 4) (by decide) (by decide) (by decide) (by decide)
  obtain ⟨b1, g1⟩ : ∃ z, z = h0.size := ⟨_, rfl⟩
  rw [← g1] at A1 st1
  have g_b1 : n0 ≤ b1 := Nat.le_trans (Nat.le_trans Z0 (Keep.refl h0 []).1) (Nat.le_of_eq g1.symm)
  have sz_b1 : h0.size ≤ b1 := Nat.le_trans (Keep.refl h0 []).1 (Nat.le_of_eq g1.symm)
  have hk := Nat.le_trans hk E1.1
  have Kp1 := Keep.ext (Keep.refl h0 []) E1
  have V1 : Arv Z hp1 b1 k1 .char (4 : Int32) [(.int (0 : Int32)), (.int (0 : Int32)), (.int (0 : Int32)), (.int (0 : Int32))] (.int (0 : Int32)) := (Arv.new A1 (by decide)).pad (pad_rep [] (.int (0 : Int32)) 4)
  have ch2 : ∀ t, SP p e below T1 (mkF m 11 #[iv p1, iv p2, iv p3, iv p4, iv p5, iv 2, .unset, .unset, .unset, .unset, .unset, .unset] [(.ref b1)]) t → SP p e below s₁ (entryFrame m #[(.int p1), (.int p2), (.int p3), (.int p4), (.int p5)] maxLocals) t := fun t k => pre0 t (by
      show SP p e below s₁ (mkF m 0 #[iv p1, iv p2, iv p3, iv p4, iv p5, .unset, .unset, .unset, .unset, .unset, .unset, .unset] []) t
      refine XS.iloadN X0.here hx rfl (hb hby at_0) rfl ?_
      refine X0.ldcInt hx hown (mvT hZ (own_wi hw 0 rfl)) (g := (mkF m 1 #[iv p1, iv p2, iv p3, iv p4, iv p5, .unset, .unset, .unset, .unset, .unset, .unset, .unset] [(.int p1)])) rfl (hb hby at_1) _ ?_
      show SP p e below s₁ (mkF m 3 #[iv p1, iv p2, iv p3, iv p4, iv p5, .unset, .unset, .unset, .unset, .unset, .unset, .unset] [(.int (2147483647 : Int32)), (.int p1)]) t
      refine XS.iand X0.here hx rfl (hb hby at_3) rfl ?_
      refine XS.iconst X0.here hx rfl (hb hby at_4) ?_
      show SP p e below s₁ (mkF m 5 #[iv p1, iv p2, iv p3, iv p4, iv p5, .unset, .unset, .unset, .unset, .unset, .unset, .unset] [(.int (5 : Int32)), (.int (p1 &&& (2147483647 : Int32)))]) t
      refine Jvm.RoadKit.iremM (g := (mkF m 5 #[iv p1, iv p2, iv p3, iv p4, iv p5, .unset, .unset, .unset, .unset, .unset, .unset, .unset] [(.int (5 : Int32)), (.int (p1 &&& (2147483647 : Int32)))])) X0 hx rfl (hb hby at_5) rfl (by decide) ?_
      rw [hn5]
      refine XS.istore X0.here hx rfl (hb hby at_6) rfl (l' := #[iv p1, iv p2, iv p3, iv p4, iv p5, iv 2, .unset, .unset, .unset, .unset, .unset, .unset]) rfl ?_
      refine XS.iconst X0.here hx rfl (hb hby at_8) ?_
      show SP p e below s₁ (mkF m 9 #[iv p1, iv p2, iv p3, iv p4, iv p5, iv 2, .unset, .unset, .unset, .unset, .unset, .unset] [(.int (4 : Int32))]) t
      exact st1 t k)
  obtain ⟨vv3, _, ⟨T3, L3, kk3, nn3⟩, -, X3, ⟨Lc3, hQ3, l3, y3, z3⟩, st3⟩ := Jvm.LawKit.callS X1 hx (y := ym1) hown (mvT hZ (own_wi hw 2 rfl)) (mvT hZ (own_wi hw 3 rfl)) (mvT hZ (own_wi hw 4 rfl)) (mvT hZ (own_wi hw 5 rfl)) (by decide) (backOf (W := 3) (HD0 hp1 n0 (Nat.le_trans Z0 Kp1.1)) hZ (own_wi hw 5 rfl) (own_wi hw 4 rfl) (by decide) (by decide)) (g := (mkF m 14 #[iv p1, iv p2, iv p3, iv p4, iv p5, iv 2, .unset, .unset, .unset, .unset, .unset, .unset] [(.int p2), (.int (0 : Int32)), (.ref b1), (.ref b1)])) rfl (by rw [hml]; rfl) (argsL := [(.int p2)]) (rest := [(.int (0 : Int32)), (.ref b1), (.ref b1)]) (lenOf own_pd__I_C rfl) rfl (by show 2 * 0 + _ ≤ _; exact Nat.le_of_eq rfl) (hb hby at_14) (fun _ _ => ⟨rfl, e1, (by decide : 1 + 0 ≤ _), (by decide : 4 + 0 ≤ _)⟩)
  dsimp only [Pt.U, Pt.locs, Pt.cells, Pt.slots] at X3 l3 y3 z3 st3 hQ3
  subst l3 y3 z3
  obtain ⟨rfl, Nq3, e3⟩ := hQ3
  have N3 := Fr.app N0 Nq3
  have ch4 : ∀ t, SP p e below T3 (mkF m 17 #[iv p1, iv p2, iv p3, iv p4, iv p5, iv 2, .unset, .unset, .unset, .unset, .unset, .unset] [(.int d0), (.int (0 : Int32)), (.ref b1), (.ref b1)]) t → SP p e below s₁ (entryFrame m #[(.int p1), (.int p2), (.int p3), (.int p4), (.int p5)] maxLocals) t := fun t k => ch2 t (by
      show SP p e below T1 (mkF m 11 #[iv p1, iv p2, iv p3, iv p4, iv p5, iv 2, .unset, .unset, .unset, .unset, .unset, .unset] [(.ref b1)]) t
      refine XS.dup X1.here hx rfl (hb hby at_11) rfl rfl ?_
      refine XS.iconst X1.here hx rfl (hb hby at_12) ?_
      refine XS.iloadN X1.here hx rfl (hb hby at_13) rfl ?_
      show SP p e below T1 (mkF m 14 #[iv p1, iv p2, iv p3, iv p4, iv p5, iv 2, .unset, .unset, .unset, .unset, .unset, .unset] [(.int p2), (.int (0 : Int32)), (.ref b1), (.ref b1)]) t
      exact st3 t k)
  obtain ⟨cl5, Ar5, qq5, Sz5, Ng5, Ha5, Ga5⟩ := id V1
  have hin5 : ¬ ((0 : Int32) < 0 ∨ cl5.slots.size ≤ ((0 : Int32)).toNatClampNeg) := inb_of Sz5 (by decide)
  obtain ⟨T6, hp6, X6, e6, W6, st6⟩ := stC X3 hx hZ e3 Ar5 (j := (0 : Int32)) hin5 (g := (mkF m 17 #[iv p1, iv p2, iv p3, iv p4, iv p5, iv 2, .unset, .unset, .unset, .unset, .unset, .unset] [(.int d0), (.int (0 : Int32)), (.ref b1), (.ref b1)])) rfl rfl (hb hby at_17)
  have ch7 : ∀ t, SP p e below T6 (mkF m 18 #[iv p1, iv p2, iv p3, iv p4, iv p5, iv 2, .unset, .unset, .unset, .unset, .unset, .unset] [(.ref b1)]) t → SP p e below s₁ (entryFrame m #[(.int p1), (.int p2), (.int p3), (.int p4), (.int p5)] maxLocals) t := fun t k => ch4 t (by
      show SP p e below T3 (mkF m 17 #[iv p1, iv p2, iv p3, iv p4, iv p5, iv 2, .unset, .unset, .unset, .unset, .unset, .unset] [(.int d0), (.int (0 : Int32)), (.ref b1), (.ref b1)]) t
      exact st6 t k)
  have V6 : Arv Z hp6 b1 k1 .char (4 : Int32) [(.int (nar .char d0)), (.int (0 : Int32)), (.int (0 : Int32)), (.int (0 : Int32))] (.int (0 : Int32)) := Arv.set Ar5 qq5 Sz5 Ng5 Ha5 Ga5 (fits_nar_char _) W6 0 rfl (Nat.le_of_ble_eq_true rfl)
  rw [own_narc r0] at V6
  have hk := Nat.le_trans hk (Keep.of_wr W6).1
  have N6 := Fr.snoc X6 N3 g_b1
  have Kp6 := Keep.wr Kp1 W6 (Or.inr sz_b1)
  obtain ⟨vv8, _, ⟨T8, L8, kk8, nn8⟩, -, X8, ⟨Lc8, hQ8, l8, y8, z8⟩, st8⟩ := Jvm.LawKit.callS X6 hx (y := ym1) hown (mvT hZ (own_wi hw 2 rfl)) (mvT hZ (own_wi hw 3 rfl)) (mvT hZ (own_wi hw 4 rfl)) (mvT hZ (own_wi hw 5 rfl)) (by decide) (backOf (W := 3) (HD1 hp6 n0 (Nat.le_trans Z0 Kp6.1)) hZ (own_wi hw 5 rfl) (own_wi hw 4 rfl) (by decide) (by decide)) (g := (mkF m 21 #[iv p1, iv p2, iv p3, iv p4, iv p5, iv 2, .unset, .unset, .unset, .unset, .unset, .unset] [(.int p3), (.int (1 : Int32)), (.ref b1), (.ref b1)])) rfl (by rw [hml]; rfl) (argsL := [(.int p3)]) (rest := [(.int (1 : Int32)), (.ref b1), (.ref b1)]) (lenOf own_pd__I_C rfl) rfl (by show 2 * 0 + _ ≤ _; exact Nat.le_of_eq rfl) (hb hby at_21) (fun _ _ => ⟨rfl, e6, (by decide : 1 + 0 ≤ _), (by decide : 4 + 0 ≤ _)⟩)
  dsimp only [Pt.U, Pt.locs, Pt.cells, Pt.slots] at X8 l8 y8 z8 st8 hQ8
  subst l8 y8 z8
  obtain ⟨rfl, Nq8, e8⟩ := hQ8
  have N8 := Fr.app N6 Nq8
  have ch9 : ∀ t, SP p e below T8 (mkF m 24 #[iv p1, iv p2, iv p3, iv p4, iv p5, iv 2, .unset, .unset, .unset, .unset, .unset, .unset] [(.int d1), (.int (1 : Int32)), (.ref b1), (.ref b1)]) t → SP p e below s₁ (entryFrame m #[(.int p1), (.int p2), (.int p3), (.int p4), (.int p5)] maxLocals) t := fun t k => ch7 t (by
      show SP p e below T6 (mkF m 18 #[iv p1, iv p2, iv p3, iv p4, iv p5, iv 2, .unset, .unset, .unset, .unset, .unset, .unset] [(.ref b1)]) t
      refine XS.dup X6.here hx rfl (hb hby at_18) rfl rfl ?_
      show SP p e below T6 (mkF m 19 #[iv p1, iv p2, iv p3, iv p4, iv p5, iv 2, .unset, .unset, .unset, .unset, .unset, .unset] [(.ref b1), (.ref b1)]) t
      refine XS.iconst X6.here hx rfl (hb hby at_19) ?_
      refine XS.iloadN X6.here hx rfl (hb hby at_20) rfl ?_
      show SP p e below T6 (mkF m 21 #[iv p1, iv p2, iv p3, iv p4, iv p5, iv 2, .unset, .unset, .unset, .unset, .unset, .unset] [(.int p3), (.int (1 : Int32)), (.ref b1), (.ref b1)]) t
      exact st8 t k)
  obtain ⟨cl10, Ar10, qq10, Sz10, Ng10, Ha10, Ga10⟩ := id V6
  have hin10 : ¬ ((1 : Int32) < 0 ∨ cl10.slots.size ≤ ((1 : Int32)).toNatClampNeg) := inb_of Sz10 (by decide)
  obtain ⟨T11, hp11, X11, e11, W11, st11⟩ := stC X8 hx hZ e8 Ar10 (j := (1 : Int32)) hin10 (g := (mkF m 24 #[iv p1, iv p2, iv p3, iv p4, iv p5, iv 2, .unset, .unset, .unset, .unset, .unset, .unset] [(.int d1), (.int (1 : Int32)), (.ref b1), (.ref b1)])) rfl rfl (hb hby at_24)
  have ch12 : ∀ t, SP p e below T11 (mkF m 25 #[iv p1, iv p2, iv p3, iv p4, iv p5, iv 2, .unset, .unset, .unset, .unset, .unset, .unset] [(.ref b1)]) t → SP p e below s₁ (entryFrame m #[(.int p1), (.int p2), (.int p3), (.int p4), (.int p5)] maxLocals) t := fun t k => ch9 t (by
      show SP p e below T8 (mkF m 24 #[iv p1, iv p2, iv p3, iv p4, iv p5, iv 2, .unset, .unset, .unset, .unset, .unset, .unset] [(.int d1), (.int (1 : Int32)), (.ref b1), (.ref b1)]) t
      exact st11 t k)
  have V11 : Arv Z hp11 b1 k1 .char (4 : Int32) [(.int d0), (.int (nar .char d1)), (.int (0 : Int32)), (.int (0 : Int32))] (.int (0 : Int32)) := Arv.set Ar10 qq10 Sz10 Ng10 Ha10 Ga10 (fits_nar_char _) W11 1 rfl (Nat.le_of_ble_eq_true rfl)
  rw [own_narc r1] at V11
  have hk := Nat.le_trans hk (Keep.of_wr W11).1
  have N11 := Fr.snoc X11 N8 g_b1
  have Kp11 := Keep.wr Kp6 W11 (Or.inr sz_b1)
  obtain ⟨vv13, _, ⟨T13, L13, kk13, nn13⟩, -, X13, ⟨Lc13, hQ13, l13, y13, z13⟩, st13⟩ := Jvm.LawKit.callS X11 hx (y := ym1) hown (mvT hZ (own_wi hw 2 rfl)) (mvT hZ (own_wi hw 3 rfl)) (mvT hZ (own_wi hw 4 rfl)) (mvT hZ (own_wi hw 5 rfl)) (by decide) (backOf (W := 3) (HD2 hp11 n0 (Nat.le_trans Z0 Kp11.1)) hZ (own_wi hw 5 rfl) (own_wi hw 4 rfl) (by decide) (by decide)) (g := (mkF m 28 #[iv p1, iv p2, iv p3, iv p4, iv p5, iv 2, .unset, .unset, .unset, .unset, .unset, .unset] [(.int p4), (.int (2 : Int32)), (.ref b1), (.ref b1)])) rfl (by rw [hml]; rfl) (argsL := [(.int p4)]) (rest := [(.int (2 : Int32)), (.ref b1), (.ref b1)]) (lenOf own_pd__I_C rfl) rfl (by show 2 * 0 + _ ≤ _; exact Nat.le_of_eq rfl) (hb hby at_28) (fun _ _ => ⟨rfl, e11, (by decide : 1 + 0 ≤ _), (by decide : 4 + 0 ≤ _)⟩)
  dsimp only [Pt.U, Pt.locs, Pt.cells, Pt.slots] at X13 l13 y13 z13 st13 hQ13
  subst l13 y13 z13
  obtain ⟨rfl, Nq13, e13⟩ := hQ13
  have N13 := Fr.app N11 Nq13
  have ch14 : ∀ t, SP p e below T13 (mkF m 31 #[iv p1, iv p2, iv p3, iv p4, iv p5, iv 2, .unset, .unset, .unset, .unset, .unset, .unset] [(.int d2), (.int (2 : Int32)), (.ref b1), (.ref b1)]) t → SP p e below s₁ (entryFrame m #[(.int p1), (.int p2), (.int p3), (.int p4), (.int p5)] maxLocals) t := fun t k => ch12 t (by
      show SP p e below T11 (mkF m 25 #[iv p1, iv p2, iv p3, iv p4, iv p5, iv 2, .unset, .unset, .unset, .unset, .unset, .unset] [(.ref b1)]) t
      refine XS.dup X11.here hx rfl (hb hby at_25) rfl rfl ?_
      refine XS.iconst X11.here hx rfl (hb hby at_26) ?_
      refine XS.iloadN X11.here hx rfl (hb hby at_27) rfl ?_
      show SP p e below T11 (mkF m 28 #[iv p1, iv p2, iv p3, iv p4, iv p5, iv 2, .unset, .unset, .unset, .unset, .unset, .unset] [(.int p4), (.int (2 : Int32)), (.ref b1), (.ref b1)]) t
      exact st13 t k)
  obtain ⟨cl15, Ar15, qq15, Sz15, Ng15, Ha15, Ga15⟩ := id V11
  have hin15 : ¬ ((2 : Int32) < 0 ∨ cl15.slots.size ≤ ((2 : Int32)).toNatClampNeg) := inb_of Sz15 (by decide)
  obtain ⟨T16, hp16, X16, e16, W16, st16⟩ := stC X13 hx hZ e13 Ar15 (j := (2 : Int32)) hin15 (g := (mkF m 31 #[iv p1, iv p2, iv p3, iv p4, iv p5, iv 2, .unset, .unset, .unset, .unset, .unset, .unset] [(.int d2), (.int (2 : Int32)), (.ref b1), (.ref b1)])) rfl rfl (hb hby at_31)
  have ch17 : ∀ t, SP p e below T16 (mkF m 32 #[iv p1, iv p2, iv p3, iv p4, iv p5, iv 2, .unset, .unset, .unset, .unset, .unset, .unset] [(.ref b1)]) t → SP p e below s₁ (entryFrame m #[(.int p1), (.int p2), (.int p3), (.int p4), (.int p5)] maxLocals) t := fun t k => ch14 t (by
      show SP p e below T13 (mkF m 31 #[iv p1, iv p2, iv p3, iv p4, iv p5, iv 2, .unset, .unset, .unset, .unset, .unset, .unset] [(.int d2), (.int (2 : Int32)), (.ref b1), (.ref b1)]) t
      exact st16 t k)
  have V16 : Arv Z hp16 b1 k1 .char (4 : Int32) [(.int d0), (.int d1), (.int (nar .char d2)), (.int (0 : Int32))] (.int (0 : Int32)) := Arv.set Ar15 qq15 Sz15 Ng15 Ha15 Ga15 (fits_nar_char _) W16 2 rfl (Nat.le_of_ble_eq_true rfl)
  rw [own_narc r2] at V16
  have hk := Nat.le_trans hk (Keep.of_wr W16).1
  have N16 := Fr.snoc X16 N13 g_b1
  have Kp16 := Keep.wr Kp11 W16 (Or.inr sz_b1)
  obtain ⟨vv18, _, ⟨T18, L18, kk18, nn18⟩, -, X18, ⟨Lc18, hQ18, l18, y18, z18⟩, st18⟩ := Jvm.LawKit.callS X16 hx (y := ym1) hown (mvT hZ (own_wi hw 2 rfl)) (mvT hZ (own_wi hw 3 rfl)) (mvT hZ (own_wi hw 4 rfl)) (mvT hZ (own_wi hw 5 rfl)) (by decide) (backOf (W := 3) (HD3 hp16 n0 (Nat.le_trans Z0 Kp16.1)) hZ (own_wi hw 5 rfl) (own_wi hw 4 rfl) (by decide) (by decide)) (g := (mkF m 36 #[iv p1, iv p2, iv p3, iv p4, iv p5, iv 2, .unset, .unset, .unset, .unset, .unset, .unset] [(.int p5), (.int (3 : Int32)), (.ref b1), (.ref b1)])) rfl (by rw [hml]; rfl) (argsL := [(.int p5)]) (rest := [(.int (3 : Int32)), (.ref b1), (.ref b1)]) (lenOf own_pd__I_C rfl) rfl (by show 2 * 0 + _ ≤ _; exact Nat.le_of_eq rfl) (hb hby at_36) (fun _ _ => ⟨rfl, e16, (by decide : 1 + 0 ≤ _), (by decide : 4 + 0 ≤ _)⟩)
  dsimp only [Pt.U, Pt.locs, Pt.cells, Pt.slots] at X18 l18 y18 z18 st18 hQ18
  subst l18 y18 z18
  obtain ⟨rfl, Nq18, e18⟩ := hQ18
  have N18 := Fr.app N16 Nq18
  have ch19 : ∀ t, SP p e below T18 (mkF m 39 #[iv p1, iv p2, iv p3, iv p4, iv p5, iv 2, .unset, .unset, .unset, .unset, .unset, .unset] [(.int d3), (.int (3 : Int32)), (.ref b1), (.ref b1)]) t → SP p e below s₁ (entryFrame m #[(.int p1), (.int p2), (.int p3), (.int p4), (.int p5)] maxLocals) t := fun t k => ch17 t (by
      show SP p e below T16 (mkF m 32 #[iv p1, iv p2, iv p3, iv p4, iv p5, iv 2, .unset, .unset, .unset, .unset, .unset, .unset] [(.ref b1)]) t
      refine XS.dup X16.here hx rfl (hb hby at_32) rfl rfl ?_
      refine XS.iconst X16.here hx rfl (hb hby at_33) ?_
      refine XS.iload X16.here hx rfl (hb hby at_34) rfl ?_
      show SP p e below T16 (mkF m 36 #[iv p1, iv p2, iv p3, iv p4, iv p5, iv 2, .unset, .unset, .unset, .unset, .unset, .unset] [(.int p5), (.int (3 : Int32)), (.ref b1), (.ref b1)]) t
      exact st18 t k)
  obtain ⟨cl20, Ar20, qq20, Sz20, Ng20, Ha20, Ga20⟩ := id V16
  have hin20 : ¬ ((3 : Int32) < 0 ∨ cl20.slots.size ≤ ((3 : Int32)).toNatClampNeg) := inb_of Sz20 (by decide)
  obtain ⟨T21, hp21, X21, e21, W21, st21⟩ := stC X18 hx hZ e18 Ar20 (j := (3 : Int32)) hin20 (g := (mkF m 39 #[iv p1, iv p2, iv p3, iv p4, iv p5, iv 2, .unset, .unset, .unset, .unset, .unset, .unset] [(.int d3), (.int (3 : Int32)), (.ref b1), (.ref b1)])) rfl rfl (hb hby at_39)
  have ch22 : ∀ t, SP p e below T21 (mkF m 40 #[iv p1, iv p2, iv p3, iv p4, iv p5, iv 2, .unset, .unset, .unset, .unset, .unset, .unset] [(.ref b1)]) t → SP p e below s₁ (entryFrame m #[(.int p1), (.int p2), (.int p3), (.int p4), (.int p5)] maxLocals) t := fun t k => ch19 t (by
      show SP p e below T18 (mkF m 39 #[iv p1, iv p2, iv p3, iv p4, iv p5, iv 2, .unset, .unset, .unset, .unset, .unset, .unset] [(.int d3), (.int (3 : Int32)), (.ref b1), (.ref b1)]) t
      exact st21 t k)
  have V21 : Arv Z hp21 b1 k1 .char (4 : Int32) [(.int d0), (.int d1), (.int d2), (.int (nar .char d3))] (.int (0 : Int32)) := Arv.set Ar20 qq20 Sz20 Ng20 Ha20 Ga20 (fits_nar_char _) W21 3 rfl (Nat.le_of_ble_eq_true rfl)
  rw [own_narc r3] at V21
  have hk := Nat.le_trans hk (Keep.of_wr W21).1
  have N21 := Fr.snoc X21 N18 g_b1
  have Kp21 := Keep.wr Kp16 W21 (Or.inr sz_b1)
  obtain ⟨cl23, Ar23, -, Sz23, Ng23, Ha23, -⟩ := id V21
  have hin23 : ¬ ((0 : Int32) < 0 ∨ cl23.slots.size ≤ ((0 : Int32)).toNatClampNeg) := inb_of Sz23 (by decide)
  have hat23 : cl23.slots[((0 : Int32)).toNatClampNeg]? = some (.int d0) := Ha23.at hin23 rfl
  obtain ⟨cl24, Ar24, -, Sz24, Ng24, Ha24, -⟩ := id V21
  have hin24 : ¬ ((1 : Int32) < 0 ∨ cl24.slots.size ≤ ((1 : Int32)).toNatClampNeg) := inb_of Sz24 (by decide)
  have hat24 : cl24.slots[((1 : Int32)).toNatClampNeg]? = some (.int d1) := Ha24.at hin24 rfl
  obtain ⟨cl25, Ar25, -, Sz25, Ng25, Ha25, -⟩ := id V21
  have hin25 : ¬ ((2 : Int32) < 0 ∨ cl25.slots.size ≤ ((2 : Int32)).toNatClampNeg) := inb_of Sz25 (by decide)
  have hat25 : cl25.slots[((2 : Int32)).toNatClampNeg]? = some (.int d2) := Ha25.at hin25 rfl
  obtain ⟨cl26, Ar26, -, Sz26, Ng26, Ha26, -⟩ := id V21
  have hin26 : ¬ ((3 : Int32) < 0 ∨ cl26.slots.size ≤ ((3 : Int32)).toNatClampNeg) := inb_of Sz26 (by decide)
  have hat26 : cl26.slots[((3 : Int32)).toNatClampNeg]? = some (.int d3) := Ha26.at hin26 rfl
  have cf27 := (own_sta_keep S_CS Kp21 all0)
  obtain ⟨vv28, _, ⟨T28, L28, kk28, nn28⟩, -, X28, ⟨Lc28, hQ28, l28, y28, z28⟩, st28⟩ := Jvm.LawKit.callS X21 hx (y := ym2) hown (mvT hZ (own_wi hw 6 rfl)) (mvT hZ (own_wi hw 7 rfl)) (mvT hZ (own_wi hw 4 rfl)) (mvT hZ (own_wi hw 8 rfl)) (by decide) (backOf (W := 0) (own_make_2 l Z a0 hw [] hp21 n0 (Nat.le_trans Z0 Kp21.1) d0 d1 d2 d3 r0 r1 r2 r3 zC cf27 P5) hZ (own_wi hw 8 rfl) (own_wi hw 4 rfl) (by decide) (by decide)) (g := (mkF m 60 #[iv p1, iv p2, iv p3, iv p4, iv p5, iv 2, rv b1, .unset, .unset, .unset, .unset, .unset] [(.int d3), (.int d2), (.int d1), (.int d0), (.int (2 : Int32))])) rfl (by rw [hml]; rfl) (argsL := [(.int (2 : Int32)), (.int d0), (.int d1), (.int d2), (.int d3)]) (rest := []) (lenOf own_pd__ICCCC_Ljava_lang_String_ rfl) rfl (by show 2 * 0 + _ ≤ _; exact Nat.le_of_eq rfl) (hb hby at_60) (fun _ _ => ⟨rfl, e21, (by decide : 1 + 3 ≤ _), (by decide : 4 + 8 ≤ _)⟩)
  dsimp only [Pt.U, Pt.locs, Pt.cells, Pt.slots] at X28 l28 y28 z28 st28 hQ28
  subst l28 y28 z28
  obtain ⟨hh28, eh28⟩ : ∃ h, T28.heap = h := ⟨_, rfl⟩
  rw [eh28] at hQ28
  obtain ⟨si, ti, ki, rfl, zq28, Nq28, Kq28, fq28_0, fq28_1, fq28_2, fq28_3⟩ := hQ28
  have N28 := Fr.app N21 Nq28
  have hk := Nat.le_trans hk Kq28.1
  have ne_b1_si : b1 ≠ si := Nat.ne_of_lt (Nat.lt_of_lt_of_le V21.lt zq28)
  have g_si : n0 ≤ si := Nat.le_trans (Nat.le_trans Z0 Kp21.1) zq28
  have sz_si : h0.size ≤ si := Nat.le_trans Kp21.1 zq28
  have Kp28 := Keep.trans Kp21 Kq28 all0
  have ch29 : ∀ t, SP p e below T28 (mkF m 63 #[iv p1, iv p2, iv p3, iv p4, iv p5, iv 2, rv b1, .unset, .unset, .unset, .unset, .unset] [(.ref si)]) t → SP p e below s₁ (entryFrame m #[(.int p1), (.int p2), (.int p3), (.int p4), (.int p5)] maxLocals) t := fun t k => ch22 t (by
      show SP p e below T21 (mkF m 40 #[iv p1, iv p2, iv p3, iv p4, iv p5, iv 2, .unset, .unset, .unset, .unset, .unset, .unset] [(.ref b1)]) t
      refine XS.astore X21.here hx rfl (hb hby at_40) rfl rfl (l' := #[iv p1, iv p2, iv p3, iv p4, iv p5, iv 2, rv b1, .unset, .unset, .unset, .unset, .unset]) rfl ?_
      refine XS.iload X21.here hx rfl (hb hby at_42) rfl ?_
      refine XS.aload X21.here hx rfl (hb hby at_44) rfl rfl ?_
      refine XS.iconst X21.here hx rfl (hb hby at_46) ?_
      show SP p e below T21 (mkF m 47 #[iv p1, iv p2, iv p3, iv p4, iv p5, iv 2, rv b1, .unset, .unset, .unset, .unset, .unset] [(.int (0 : Int32)), (.ref b1), (.int (2 : Int32))]) t
      refine X21.caload hx (j := (0 : Int32)) (v := (.int d0)) (by rw [e21]; exact Ar23.1) (State.isArrayOf_alike hZ.alike Ar23.2.1) Ar23.2.2 hin23 hat23 (g := (mkF m 47 #[iv p1, iv p2, iv p3, iv p4, iv p5, iv 2, rv b1, .unset, .unset, .unset, .unset, .unset] [(.int (0 : Int32)), (.ref b1), (.int (2 : Int32))])) rfl rfl (hb hby at_47) _ ?_
      refine XS.aload X21.here hx rfl (hb hby at_48) rfl rfl ?_
      refine XS.iconst X21.here hx rfl (hb hby at_50) ?_
      refine X21.caload hx (j := (1 : Int32)) (v := (.int d1)) (by rw [e21]; exact Ar24.1) (State.isArrayOf_alike hZ.alike Ar24.2.1) Ar24.2.2 hin24 hat24 (g := (mkF m 51 #[iv p1, iv p2, iv p3, iv p4, iv p5, iv 2, rv b1, .unset, .unset, .unset, .unset, .unset] [(.int (1 : Int32)), (.ref b1), (.int d0), (.int (2 : Int32))])) rfl rfl (hb hby at_51) _ ?_
      refine XS.aload X21.here hx rfl (hb hby at_52) rfl rfl ?_
      refine XS.iconst X21.here hx rfl (hb hby at_54) ?_
      refine X21.caload hx (j := (2 : Int32)) (v := (.int d2)) (by rw [e21]; exact Ar25.1) (State.isArrayOf_alike hZ.alike Ar25.2.1) Ar25.2.2 hin25 hat25 (g := (mkF m 55 #[iv p1, iv p2, iv p3, iv p4, iv p5, iv 2, rv b1, .unset, .unset, .unset, .unset, .unset] [(.int (2 : Int32)), (.ref b1), (.int d1), (.int d0), (.int (2 : Int32))])) rfl rfl (hb hby at_55) _ ?_
      refine XS.aload X21.here hx rfl (hb hby at_56) rfl rfl ?_
      refine XS.iconst X21.here hx rfl (hb hby at_58) ?_
      refine X21.caload hx (j := (3 : Int32)) (v := (.int d3)) (by rw [e21]; exact Ar26.1) (State.isArrayOf_alike hZ.alike Ar26.2.1) Ar26.2.2 hin26 hat26 (g := (mkF m 59 #[iv p1, iv p2, iv p3, iv p4, iv p5, iv 2, rv b1, .unset, .unset, .unset, .unset, .unset] [(.int (3 : Int32)), (.ref b1), (.int d2), (.int d1), (.int d0), (.int (2 : Int32))])) rfl rfl (hb hby at_59) _ ?_
      show SP p e below T21 (mkF m 60 #[iv p1, iv p2, iv p3, iv p4, iv p5, iv 2, rv b1, .unset, .unset, .unset, .unset, .unset] [(.int d3), (.int d2), (.int d1), (.int d0), (.int (2 : Int32))]) t
      exact st28 t k)
  have ch31 : ∀ t, SP p e below T28 (mkF m 68 #[iv p1, iv p2, iv p3, iv p4, iv p5, iv 2, rv b1, rv si, iv (-1), .unset, .unset, .unset] []) t → SP p e below s₁ (entryFrame m #[(.int p1), (.int p2), (.int p3), (.int p4), (.int p5)] maxLocals) t := fun t k => ch29 t (by
      show SP p e below T28 (mkF m 63 #[iv p1, iv p2, iv p3, iv p4, iv p5, iv 2, rv b1, .unset, .unset, .unset, .unset, .unset] [(.ref si)]) t
      refine XS.astore X28.here hx rfl (hb hby at_63) rfl rfl (l' := #[iv p1, iv p2, iv p3, iv p4, iv p5, iv 2, rv b1, rv si, .unset, .unset, .unset, .unset]) rfl ?_
      refine XS.iconst X28.here hx rfl (hb hby at_65) ?_
      show SP p e below T28 (mkF m 66 #[iv p1, iv p2, iv p3, iv p4, iv p5, iv 2, rv b1, rv si, .unset, .unset, .unset, .unset] [(.int (-1 : Int32))]) t
      refine XS.istore X28.here hx rfl (hb hby at_66) rfl (l' := #[iv p1, iv p2, iv p3, iv p4, iv p5, iv 2, rv b1, rv si, iv (-1), .unset, .unset, .unset]) rfl ?_
      exact k)
  by_cases hq30 : d0 = (35 : Int32)
  · skip
    have ch32 : ∀ t, SP p e below T28 (mkF m 104 #[iv p1, iv p2, iv p3, iv p4, iv p5, iv 2, rv b1, rv si, iv (-1), .unset, .unset, .unset] []) t → SP p e below s₁ (entryFrame m #[(.int p1), (.int p2), (.int p3), (.int p4), (.int p5)] maxLocals) t := fun t k => ch31 t (by
        show SP p e below T28 (mkF m 68 #[iv p1, iv p2, iv p3, iv p4, iv p5, iv 2, rv b1, rv si, iv (-1), .unset, .unset, .unset] []) t
        refine XS.iload X28.here hx rfl (hb hby at_68) rfl ?_
        refine XS.iconst X28.here hx rfl (hb hby at_70) ?_
        refine XS.icmpYes X28.here hx rfl (pc0 := 71) (pc' := 86) rfl (hb hby at_71) rfl (flt (by decide : ¬ (3 : Int32) < (2 : Int32))).2.2.2 (by decide) (by decide) ?_
        refine XS.iload X28.here hx rfl (hb hby at_86) rfl ?_
        refine XS.iconst X28.here hx rfl (hb hby at_88) ?_
        refine XS.icmpYes X28.here hx rfl (pc0 := 89) (pc' := 104) rfl (hb hby at_89) rfl (flt (by decide : ¬ (2 : Int32) < (2 : Int32))).2.2.2 (by decide) (by decide) ?_
        exact k)
    obtain ⟨wv1, sj33⟩ : ∃ wv1 : Int32, ∀ t, SP p e below T28 (mkF m 122 #[iv p1, iv p2, iv p3, iv p4, iv p5, iv 2, rv b1, rv si, iv wv1, .unset, .unset, .unset] []) t → SP p e below T28 (mkF m 104 #[iv p1, iv p2, iv p3, iv p4, iv p5, iv 2, rv b1, rv si, iv (-1), .unset, .unset, .unset] []) t := by
      have cf34 := (V21.keep Kq28 nin0)
      obtain ⟨cl35, Ar35, -, Sz35, Ng35, Ha35, -⟩ := id cf34
      have hin35 : ¬ ((1 : Int32) < 0 ∨ cl35.slots.size ≤ ((1 : Int32)).toNatClampNeg) := inb_of Sz35 (by decide)
      have hat35 : cl35.slots[((1 : Int32)).toNatClampNeg]? = some (.int d1) := Ha35.at hin35 rfl
      by_cases hq36 : d1 = (35 : Int32)
      · skip
        refine ⟨(1 : Int32), fun t k => ?_⟩
        show SP p e below T28 (mkF m 104 #[iv p1, iv p2, iv p3, iv p4, iv p5, iv 2, rv b1, rv si, iv (-1), .unset, .unset, .unset] []) t
        refine XS.iload X28.here hx rfl (hb hby at_104) rfl ?_
        refine XS.iconst X28.here hx rfl (hb hby at_106) ?_
        refine XS.icmpNo X28.here hx rfl (hb hby at_107) rfl (tlt (by decide : (1 : Int32) < (2 : Int32))).2.2.2 ?_
        refine XS.aload X28.here hx rfl (hb hby at_110) rfl rfl ?_
        refine XS.iconst X28.here hx rfl (hb hby at_112) ?_
        refine X28.caload hx (j := (1 : Int32)) (v := (.int d1)) (by rw [eh28]; exact Ar35.1) (State.isArrayOf_alike hZ.alike Ar35.2.1) Ar35.2.2 hin35 hat35 (g := (mkF m 113 #[iv p1, iv p2, iv p3, iv p4, iv p5, iv 2, rv b1, rv si, iv (-1), .unset, .unset, .unset] [(.int (1 : Int32)), (.ref b1)])) rfl rfl (hb hby at_113) _ ?_
        refine XS.bipush X28.here hx rfl (hb hby at_114) ?_
        refine XS.icmpNo X28.here hx rfl (hb hby at_116) rfl (teq hq36).2 ?_
        refine XS.iconst X28.here hx rfl (hb hby at_119) ?_
        show SP p e below T28 (mkF m 120 #[iv p1, iv p2, iv p3, iv p4, iv p5, iv 2, rv b1, rv si, iv (-1), .unset, .unset, .unset] [(.int (1 : Int32))]) t
        refine XS.istore X28.here hx rfl (hb hby at_120) rfl (l' := #[iv p1, iv p2, iv p3, iv p4, iv p5, iv 2, rv b1, rv si, iv 1, .unset, .unset, .unset]) rfl ?_
        exact k
      · skip
        refine ⟨(-1 : Int32), fun t k => ?_⟩
        show SP p e below T28 (mkF m 104 #[iv p1, iv p2, iv p3, iv p4, iv p5, iv 2, rv b1, rv si, iv (-1), .unset, .unset, .unset] []) t
        refine XS.iload X28.here hx rfl (hb hby at_104) rfl ?_
        refine XS.iconst X28.here hx rfl (hb hby at_106) ?_
        refine XS.icmpNo X28.here hx rfl (hb hby at_107) rfl (tlt (by decide : (1 : Int32) < (2 : Int32))).2.2.2 ?_
        refine XS.aload X28.here hx rfl (hb hby at_110) rfl rfl ?_
        refine XS.iconst X28.here hx rfl (hb hby at_112) ?_
        refine X28.caload hx (j := (1 : Int32)) (v := (.int d1)) (by rw [eh28]; exact Ar35.1) (State.isArrayOf_alike hZ.alike Ar35.2.1) Ar35.2.2 hin35 hat35 (g := (mkF m 113 #[iv p1, iv p2, iv p3, iv p4, iv p5, iv 2, rv b1, rv si, iv (-1), .unset, .unset, .unset] [(.int (1 : Int32)), (.ref b1)])) rfl rfl (hb hby at_113) _ ?_
        refine XS.bipush X28.here hx rfl (hb hby at_114) ?_
        refine XS.icmpYes X28.here hx rfl (pc0 := 116) (pc' := 122) rfl (hb hby at_116) rfl (feq hq36).2 (by decide) (by decide) ?_
        exact k
    have ch37 : ∀ t, SP p e below T28 (mkF m 122 #[iv p1, iv p2, iv p3, iv p4, iv p5, iv 2, rv b1, rv si, iv wv1, .unset, .unset, .unset] []) t → SP p e below s₁ (entryFrame m #[(.int p1), (.int p2), (.int p3), (.int p4), (.int p5)] maxLocals) t := fun t k => ch32 t (sj33 t k)
    have cf38 := (V21.keep Kq28 nin0)
    obtain ⟨cl39, Ar39, -, Sz39, Ng39, Ha39, -⟩ := id cf38
    have hin39 : ¬ ((0 : Int32) < 0 ∨ cl39.slots.size ≤ ((0 : Int32)).toNatClampNeg) := inb_of Sz39 (by decide)
    have hat39 : cl39.slots[((0 : Int32)).toNatClampNeg]? = some (.int d0) := Ha39.at hin39 rfl
    have cf40 := (own_sta_keep cf27 Kq28 all0)
    have cf41 := (own_sta_keep S_F Kp28 all0)
    obtain ⟨vv42, _, ⟨T42, L42, kk42, nn42⟩, -, X42, ⟨Lc42, hQ42, l42, y42, z42⟩, st42⟩ := Jvm.LawKit.callS X28 hx (y := ym0) hown (mvT hZ (own_wi hw 30 rfl)) (mvT hZ (own_wi hw 31 rfl)) (mvT hZ (own_wi hw 32 rfl)) (mvT hZ (own_wi hw 33 rfl)) (by decide) (backOf (W := 0) (own_fr_20 l Z a0 hw hh28 n0 (Nat.le_trans Z0 Kp28.1) si ti ki (d0.toInt8.toInt32) (d1.toInt8.toInt32) fq28_0 fq28_1 fq28_2 fq28_3  (own_y35 hq30) zC cf40 P5 vF hvF cf41) hZ (own_wi hw 33 rfl) (own_wi hw 32 rfl) (by decide) (by decide)) (g := (mkF m 141 #[iv p1, iv p2, iv p3, iv p4, iv p5, iv 2, rv b1, rv si, iv 0, .unset, .unset, .unset] [(.ref si)])) rfl (by rw [hml]; rfl) (argsL := [(.ref si)]) (rest := []) (lenOf own_pd__Ljava_lang_String__Ljava_lang_String_ rfl) rfl (by show 2 * 0 + _ ≤ _; exact Nat.le_of_eq rfl) (hb hby at_141) (fun _ _ => ⟨rfl, eh28, (by decide : 4 + 2 ≤ _), (by decide : 12 + 8 ≤ _)⟩)
    dsimp only [Pt.U, Pt.locs, Pt.cells, Pt.slots] at X42 l42 y42 z42 st42 hQ42
    subst l42 y42 z42
    obtain ⟨hh42, eh42⟩ : ∃ h, T42.heap = h := ⟨_, rfl⟩
    rw [eh42] at hQ42
    obtain ⟨sr, tr, kr, rfl, zq42, Nq42, Kq42, fq42_0, fq42_1, fq42_2, fq42_3⟩ := hQ42
    have N42 := Fr.app N28 Nq42
    have hk := Nat.le_trans hk Kq42.1
    have ne_b1_sr : b1 ≠ sr := Nat.ne_of_lt (Nat.lt_of_lt_of_le cf38.lt zq42)
    have ne_si_sr : si ≠ sr := Nat.ne_of_lt (Nat.lt_of_lt_of_le fq28_0.lt zq42)
    have ne_ti_sr : ti ≠ sr := Nat.ne_of_lt (Nat.lt_of_lt_of_le fq28_3.lt zq42)
    have g_sr : n0 ≤ sr := Nat.le_trans (Nat.le_trans Z0 Kp28.1) zq42
    have sz_sr : h0.size ≤ sr := Nat.le_trans Kp28.1 zq42
    have Kp42 := Keep.trans Kp28 Kq42 all0
    have ch43 : ∀ t, SP p e below T42 (mkF m 144 #[iv p1, iv p2, iv p3, iv p4, iv p5, iv 2, rv b1, rv si, iv 0, .unset, .unset, .unset] [(.ref sr)]) t → SP p e below s₁ (entryFrame m #[(.int p1), (.int p2), (.int p3), (.int p4), (.int p5)] maxLocals) t := fun t k => ch37 t (by
        show SP p e below T28 (mkF m 122 #[iv p1, iv p2, iv p3, iv p4, iv p5, iv 2, rv b1, rv si, iv wv1, .unset, .unset, .unset] []) t
        refine XS.iload X28.here hx rfl (hb hby at_122) rfl ?_
        refine XS.ifNo X28.here hx rfl (hb hby at_124) rfl ((if0 _ _).trans (tlt (by decide : (0 : Int32) < (2 : Int32))).2.2.2) ?_
        refine XS.aload X28.here hx rfl (hb hby at_127) rfl rfl ?_
        refine XS.iconst X28.here hx rfl (hb hby at_129) ?_
        refine X28.caload hx (j := (0 : Int32)) (v := (.int d0)) (by rw [eh28]; exact Ar39.1) (State.isArrayOf_alike hZ.alike Ar39.2.1) Ar39.2.2 hin39 hat39 (g := (mkF m 130 #[iv p1, iv p2, iv p3, iv p4, iv p5, iv 2, rv b1, rv si, iv wv1, .unset, .unset, .unset] [(.int (0 : Int32)), (.ref b1)])) rfl rfl (hb hby at_130) _ ?_
        refine XS.bipush X28.here hx rfl (hb hby at_131) ?_
        refine XS.icmpNo X28.here hx rfl (hb hby at_133) rfl (teq hq30).2 ?_
        refine XS.iconst X28.here hx rfl (hb hby at_136) ?_
        refine XS.istore X28.here hx rfl (hb hby at_137) rfl (l' := #[iv p1, iv p2, iv p3, iv p4, iv p5, iv 2, rv b1, rv si, iv 0, .unset, .unset, .unset]) rfl ?_
        show SP p e below T28 (mkF m 139 #[iv p1, iv p2, iv p3, iv p4, iv p5, iv 2, rv b1, rv si, iv 0, .unset, .unset, .unset] []) t
        refine XS.aload X28.here hx rfl (hb hby at_139) rfl rfl ?_
        show SP p e below T28 (mkF m 141 #[iv p1, iv p2, iv p3, iv p4, iv p5, iv 2, rv b1, rv si, iv 0, .unset, .unset, .unset] [(.ref si)]) t
        exact st42 t k)
    have cf44 := (own_sta_keep cf40 Kq42 all0)
    obtain ⟨cq45, kq45, qa45, qb45, qc45⟩ := isOf hZ eh42 fq42_0
    obtain ⟨vv46, _, ⟨T46, L46, kk46, nn46⟩, -, X46, ⟨Lc46, hQ46, l46, y46, z46⟩, st46⟩ := X42.virtualBack hx (y := ym15) (z := ym15) hown (mvT hZ (own_wi hw 109 rfl)) (mvT hZ (own_wi hw 51 rfl)) (notFace_of_selects (args := #[]) (mvT hZ (own_wi hw 53 rfl))) (mvT hZ (own_wi hw 53 rfl)) (mvT hZ (own_wi hw 52 rfl)) (by decide) (backOf (W := 0) (own_ln l Z a0 hw [] hh42 n0 (Nat.le_trans Z0 Kp42.1) sr tr kr (1 : Int32) [(.int (d1.toInt8.toInt32))] fq42_0 fq42_1 fq42_2 fq42_3 zC cf44 P5) hZ (own_wi hw 54 rfl) (own_wi hw 11 rfl) (by decide) (by decide)) qa45 qc45 (g := (mkF m 180 #[iv p1, iv p2, iv p3, iv p4, iv p5, iv 2, rv b1, rv si, iv 0, rv sr, iv 1, .unset] [(.ref sr)])) rfl (by rw [hml]; rfl) (Steps.refl _) (argsL := []) (rest := []) (lenOf own_pd___I rfl) rfl (by show 2 * 0 + _ ≤ _; exact Nat.le_of_eq rfl) (hb hby at_180) (fun _ _ => ⟨rfl, eh42, (by decide : 6 + 0 ≤ _), (by decide : 20 + 0 ≤ _)⟩)
    dsimp only [Pt.U, Pt.locs, Pt.cells, Pt.slots] at X46 l46 y46 z46 st46 hQ46
    subst l46 y46 z46
    obtain ⟨rfl, Nq46, e46⟩ := hQ46
    have N46 := Fr.app N42 Nq46
    have ch47 : ∀ t, SP p e below T46 (mkF m 183 #[iv p1, iv p2, iv p3, iv p4, iv p5, iv 2, rv b1, rv si, iv 0, rv sr, iv 1, .unset] [(.int (1 : Int32))]) t → SP p e below s₁ (entryFrame m #[(.int p1), (.int p2), (.int p3), (.int p4), (.int p5)] maxLocals) t := fun t k => ch43 t (by
        show SP p e below T42 (mkF m 144 #[iv p1, iv p2, iv p3, iv p4, iv p5, iv 2, rv b1, rv si, iv 0, .unset, .unset, .unset] [(.ref sr)]) t
        refine XS.astore X42.here hx rfl (hb hby at_144) rfl rfl (l' := #[iv p1, iv p2, iv p3, iv p4, iv p5, iv 2, rv b1, rv si, iv 0, rv sr, .unset, .unset]) rfl ?_
        refine XS.iload X42.here hx rfl (hb hby at_146) rfl ?_
        refine XS.ifYes X42.here hx rfl (pc0 := 148) (pc' := 162) rfl (hb hby at_148) rfl ((if0 _ _).trans (flt (by decide : ¬ (0 : Int32) < (0 : Int32))).2.1) (by decide) (by decide) ?_
        refine XS.aload X42.here hx rfl (hb hby at_162) rfl rfl ?_
        refine XS.ifnonnullYes X42.here hx rfl (pc0 := 164) (pc' := 169) rfl (hb hby at_164) rfl (by decide) (by decide) ?_
        refine XS.iload X42.here hx rfl (hb hby at_169) rfl ?_
        refine XS.iload X42.here hx rfl (hb hby at_171) rfl ?_
        show SP p e below T42 (mkF m 173 #[iv p1, iv p2, iv p3, iv p4, iv p5, iv 2, rv b1, rv si, iv 0, rv sr, .unset, .unset] [(.int (0 : Int32)), (.int (2 : Int32))]) t
        refine XS.isub X42.here hx rfl (hb hby at_173) rfl ?_
        rw [show ((2 : Int32) - (0 : Int32)) = (2 : Int32) from by decide]
        refine XS.iconst X42.here hx rfl (hb hby at_174) ?_
        show SP p e below T42 (mkF m 175 #[iv p1, iv p2, iv p3, iv p4, iv p5, iv 2, rv b1, rv si, iv 0, rv sr, .unset, .unset] [(.int (1 : Int32)), (.int (2 : Int32))]) t
        refine XS.isub X42.here hx rfl (hb hby at_175) rfl ?_
        rw [show ((2 : Int32) - (1 : Int32)) = (1 : Int32) from by decide]
        refine XS.istore X42.here hx rfl (hb hby at_176) rfl (l' := #[iv p1, iv p2, iv p3, iv p4, iv p5, iv 2, rv b1, rv si, iv 0, rv sr, iv 1, .unset]) rfl ?_
        refine XS.aload X42.here hx rfl (hb hby at_178) rfl rfl ?_
        show SP p e below T42 (mkF m 180 #[iv p1, iv p2, iv p3, iv p4, iv p5, iv 2, rv b1, rv si, iv 0, rv sr, iv 1, .unset] [(.ref sr)]) t
        exact st46.trans k)
    have cf48 := (own_sta_keep cf41 Kq42 all0)
    obtain ⟨cq49, kq49, qa49, qb49, qc49⟩ := isOf hZ e46 fq42_0
    obtain ⟨vv50, _, ⟨T50, L50, kk50, nn50⟩, -, X50, ⟨Lc50, hQ50, l50, y50, z50⟩, st50⟩ := X46.virtualBack hx (y := ym8) (z := ym8) hown (mvT hZ (own_wi hw 129 rfl)) (mvT hZ (own_wi hw 130 rfl)) (notFace_of_selects (args := #[]) (mvT hZ (own_wi hw 132 rfl))) (mvT hZ (own_wi hw 132 rfl)) (mvT hZ (own_wi hw 131 rfl)) (by decide) (backOf (W := 0) (own_cat l Z a0 hw [] hh42 n0 (Nat.le_trans Z0 Kp42.1) sr tr kr (1 : Int32) [(.int (d1.toInt8.toInt32))] fq42_0 fq42_1 fq42_2 fq42_3 (0 : Int32) d1 (own_narc r1) (own_l1c_10 l Z a0 hw [] hh42 n0 (Nat.le_trans Z0 Kp42.1) tr kr (d1.toInt8.toInt32) fq42_3 d1 (own_back r1) (own_narc r1) vF hvF cf48) zC cf44 P5) hZ (own_wi hw 133 rfl) (own_wi hw 11 rfl) (by decide) (by decide)) qa49 qc49 (g := (mkF m 206 #[iv p1, iv p2, iv p3, iv p4, iv p5, iv 2, rv b1, rv si, iv 0, rv sr, iv 1, iv 1] [(.int (0 : Int32)), (.ref sr)])) rfl (by rw [hml]; rfl) (Steps.refl _) (argsL := [(.int (0 : Int32))]) (rest := []) (lenOf own_pd__I_C rfl) rfl (by show 2 * 0 + _ ≤ _; exact Nat.le_of_eq rfl) (hb hby at_206) (fun _ _ => ⟨rfl, e46, (by decide : 6 + 0 ≤ _), (by decide : 20 + 0 ≤ _)⟩)
    dsimp only [Pt.U, Pt.locs, Pt.cells, Pt.slots] at X50 l50 y50 z50 st50 hQ50
    subst l50 y50 z50
    obtain ⟨rfl, Nq50, e50⟩ := hQ50
    have N50 := Fr.app N46 Nq50
    have ch51 : ∀ t, SP p e below T50 (mkF m 209 #[iv p1, iv p2, iv p3, iv p4, iv p5, iv 2, rv b1, rv si, iv 0, rv sr, iv 1, iv 1] [(.int d1)]) t → SP p e below s₁ (entryFrame m #[(.int p1), (.int p2), (.int p3), (.int p4), (.int p5)] maxLocals) t := fun t k => ch47 t (by
        show SP p e below T46 (mkF m 183 #[iv p1, iv p2, iv p3, iv p4, iv p5, iv 2, rv b1, rv si, iv 0, rv sr, iv 1, .unset] [(.int (1 : Int32))]) t
        refine XS.iload X46.here hx rfl (hb hby at_183) rfl ?_
        refine XS.icmpYes X46.here hx rfl (pc0 := 185) (pc' := 190) rfl (hb hby at_185) rfl (teq (by decide : (1 : Int32) = (1 : Int32))).1 (by decide) (by decide) ?_
        refine XS.iconst X46.here hx rfl (hb hby at_190) ?_
        refine XS.istore X46.here hx rfl (hb hby at_191) rfl (l' := #[iv p1, iv p2, iv p3, iv p4, iv p5, iv 2, rv b1, rv si, iv 0, rv sr, iv 1, iv 1]) rfl ?_
        refine XS.iload X46.here hx rfl (hb hby at_193) rfl ?_
        refine XS.ifNo X46.here hx rfl (hb hby at_195) rfl ((if0 _ _).trans (tlt (by decide : (0 : Int32) < (1 : Int32))).2.2.2) ?_
        refine XS.iload X46.here hx rfl (hb hby at_198) rfl ?_
        refine XS.ifNo X46.here hx rfl (hb hby at_200) rfl ((if0 _ _).trans (feq (by decide : ¬ (1 : Int32) = (0 : Int32))).1) ?_
        refine XS.aload X46.here hx rfl (hb hby at_203) rfl rfl ?_
        refine XS.iconst X46.here hx rfl (hb hby at_205) ?_
        show SP p e below T46 (mkF m 206 #[iv p1, iv p2, iv p3, iv p4, iv p5, iv 2, rv b1, rv si, iv 0, rv sr, iv 1, iv 1] [(.int (0 : Int32)), (.ref sr)]) t
        exact st50.trans k)
    have cf52 := (cf38.keep Kq42 nin0)
    obtain ⟨cl53, Ar53, -, Sz53, Ng53, Ha53, -⟩ := id cf52
    have hin53 : ¬ ((1 : Int32) < 0 ∨ cl53.slots.size ≤ ((1 : Int32)).toNatClampNeg) := inb_of Sz53 (by decide)
    have hat53 : cl53.slots[((1 : Int32)).toNatClampNeg]? = some (.int d1) := Ha53.at hin53 rfl
    have ch54 : ∀ t, SP p e below T50 (mkF m 296 #[iv p1, iv p2, iv p3, iv p4, iv p5, iv 2, rv b1, rv si, iv 0, rv sr, iv 1, iv 1] [(.int (1 : Int32))]) t → SP p e below s₁ (entryFrame m #[(.int p1), (.int p2), (.int p3), (.int p4), (.int p5)] maxLocals) t := fun t k => ch51 t (by
        show SP p e below T50 (mkF m 209 #[iv p1, iv p2, iv p3, iv p4, iv p5, iv 2, rv b1, rv si, iv 0, rv sr, iv 1, iv 1] [(.int d1)]) t
        refine XS.aload X50.here hx rfl (hb hby at_209) rfl rfl ?_
        refine XS.iload X50.here hx rfl (hb hby at_211) rfl ?_
        refine XS.iconst X50.here hx rfl (hb hby at_213) ?_
        show SP p e below T50 (mkF m 214 #[iv p1, iv p2, iv p3, iv p4, iv p5, iv 2, rv b1, rv si, iv 0, rv sr, iv 1, iv 1] [(.int (1 : Int32)), (.int (0 : Int32)), (.ref b1), (.int d1)]) t
        refine XS.iadd X50.here hx rfl (hb hby at_214) rfl ?_
        rw [show ((0 : Int32) + (1 : Int32)) = (1 : Int32) from by decide]
        refine X50.caload hx (j := (1 : Int32)) (v := (.int d1)) (by rw [e50]; exact Ar53.1) (State.isArrayOf_alike hZ.alike Ar53.2.1) Ar53.2.2 hin53 hat53 (g := (mkF m 215 #[iv p1, iv p2, iv p3, iv p4, iv p5, iv 2, rv b1, rv si, iv 0, rv sr, iv 1, iv 1] [(.int (1 : Int32)), (.ref b1), (.int d1)])) rfl rfl (hb hby at_215) _ ?_
        refine XS.icmpNo X50.here hx rfl (hb hby at_216) rfl (teq (rfl : d1 = d1)).2 ?_
        show SP p e below T50 (mkF m 219 #[iv p1, iv p2, iv p3, iv p4, iv p5, iv 2, rv b1, rv si, iv 0, rv sr, iv 1, iv 1] []) t
        refine XS.iconst X50.here hx rfl (hb hby at_219) ?_
        refine XS.goto X50.here hx rfl (pc0 := 220) (pc' := 224) rfl (hb hby at_220) (by decide) (by decide) ?_
        refine XS.istore X50.here hx rfl (hb hby at_224) rfl (l' := #[iv p1, iv p2, iv p3, iv p4, iv p5, iv 2, rv b1, rv si, iv 0, rv sr, iv 1, iv 1]) rfl ?_
        refine XS.iload X50.here hx rfl (hb hby at_226) rfl ?_
        refine XS.iconst X50.here hx rfl (hb hby at_228) ?_
        refine XS.icmpYes X50.here hx rfl (pc0 := 229) (pc' := 260) rfl (hb hby at_229) rfl (flt (by decide : ¬ (1 : Int32) < (1 : Int32))).2.2.2 (by decide) (by decide) ?_
        refine XS.iload X50.here hx rfl (hb hby at_260) rfl ?_
        refine XS.iconst X50.here hx rfl (hb hby at_262) ?_
        refine XS.icmpYes X50.here hx rfl (pc0 := 263) (pc' := 294) rfl (hb hby at_263) rfl (flt (by decide : ¬ (2 : Int32) < (1 : Int32))).2.2.2 (by decide) (by decide) ?_
        refine XS.iload X50.here hx rfl (hb hby at_294) rfl ?_
        exact k)
    obtain ⟨fs, hr, hrun, hended, hend⟩ := X50.leaveW hS (by rw [e50]; exact hk) (v := some (.int (1 : Int32))) (fun h => by rw [Bd.returns] at h; cases h)
    refine ⟨_, _, ch54 _ ?_, hrun, hended, _, _, rfl, ?_, hend.1, hend.2.1, hend.2.2.1, hend.2.2.2.mono (by decide) (by decide)⟩
    · show Steps p.tables e below (T50.setTop (mkF m 296 #[iv p1, iv p2, iv p3, iv p4, iv p5, iv 2, rv b1, rv si, iv 0, rv sr, iv 1, iv 1] [(.int (1 : Int32))])) _
      exact retN X50 hx (t := .boolean) Bd.returns (by simp) (hb hby at_296) hr
    · show QN (some (.int (1 : Int32))) n0 _ T50.heap _
      rw [e50]
      exact ⟨rfl, N50⟩
  · skip
    by_cases hq55 : d1 = (35 : Int32)
    · skip
      have cf56 := (V21.keep Kq28 nin0)
      obtain ⟨cl57, Ar57, -, Sz57, Ng57, Ha57, -⟩ := id cf56
      have hin57 : ¬ ((1 : Int32) < 0 ∨ cl57.slots.size ≤ ((1 : Int32)).toNatClampNeg) := inb_of Sz57 (by decide)
      have hat57 : cl57.slots[((1 : Int32)).toNatClampNeg]? = some (.int d1) := Ha57.at hin57 rfl
      obtain ⟨cl58, Ar58, -, Sz58, Ng58, Ha58, -⟩ := id cf56
      have hin58 : ¬ ((0 : Int32) < 0 ∨ cl58.slots.size ≤ ((0 : Int32)).toNatClampNeg) := inb_of Sz58 (by decide)
      have hat58 : cl58.slots[((0 : Int32)).toNatClampNeg]? = some (.int d0) := Ha58.at hin58 rfl
      have cf59 := (own_sta_keep cf27 Kq28 all0)
      have cf60 := (own_sta_keep S_F Kp28 all0)
      have ch61 : ∀ t, SP p e below T28 (mkF m 141 #[iv p1, iv p2, iv p3, iv p4, iv p5, iv 2, rv b1, rv si, iv 1, .unset, .unset, .unset] [(.ref si)]) t → SP p e below s₁ (entryFrame m #[(.int p1), (.int p2), (.int p3), (.int p4), (.int p5)] maxLocals) t := fun t k => ch31 t (by
          show SP p e below T28 (mkF m 68 #[iv p1, iv p2, iv p3, iv p4, iv p5, iv 2, rv b1, rv si, iv (-1), .unset, .unset, .unset] []) t
          refine XS.iload X28.here hx rfl (hb hby at_68) rfl ?_
          refine XS.iconst X28.here hx rfl (hb hby at_70) ?_
          refine XS.icmpYes X28.here hx rfl (pc0 := 71) (pc' := 86) rfl (hb hby at_71) rfl (flt (by decide : ¬ (3 : Int32) < (2 : Int32))).2.2.2 (by decide) (by decide) ?_
          refine XS.iload X28.here hx rfl (hb hby at_86) rfl ?_
          refine XS.iconst X28.here hx rfl (hb hby at_88) ?_
          refine XS.icmpYes X28.here hx rfl (pc0 := 89) (pc' := 104) rfl (hb hby at_89) rfl (flt (by decide : ¬ (2 : Int32) < (2 : Int32))).2.2.2 (by decide) (by decide) ?_
          refine XS.iload X28.here hx rfl (hb hby at_104) rfl ?_
          refine XS.iconst X28.here hx rfl (hb hby at_106) ?_
          refine XS.icmpNo X28.here hx rfl (hb hby at_107) rfl (tlt (by decide : (1 : Int32) < (2 : Int32))).2.2.2 ?_
          refine XS.aload X28.here hx rfl (hb hby at_110) rfl rfl ?_
          refine XS.iconst X28.here hx rfl (hb hby at_112) ?_
          refine X28.caload hx (j := (1 : Int32)) (v := (.int d1)) (by rw [eh28]; exact Ar57.1) (State.isArrayOf_alike hZ.alike Ar57.2.1) Ar57.2.2 hin57 hat57 (g := (mkF m 113 #[iv p1, iv p2, iv p3, iv p4, iv p5, iv 2, rv b1, rv si, iv (-1), .unset, .unset, .unset] [(.int (1 : Int32)), (.ref b1)])) rfl rfl (hb hby at_113) _ ?_
          refine XS.bipush X28.here hx rfl (hb hby at_114) ?_
          refine XS.icmpNo X28.here hx rfl (hb hby at_116) rfl (teq hq55).2 ?_
          refine XS.iconst X28.here hx rfl (hb hby at_119) ?_
          show SP p e below T28 (mkF m 120 #[iv p1, iv p2, iv p3, iv p4, iv p5, iv 2, rv b1, rv si, iv (-1), .unset, .unset, .unset] [(.int (1 : Int32))]) t
          refine XS.istore X28.here hx rfl (hb hby at_120) rfl (l' := #[iv p1, iv p2, iv p3, iv p4, iv p5, iv 2, rv b1, rv si, iv 1, .unset, .unset, .unset]) rfl ?_
          refine XS.iload X28.here hx rfl (hb hby at_122) rfl ?_
          refine XS.ifNo X28.here hx rfl (hb hby at_124) rfl ((if0 _ _).trans (tlt (by decide : (0 : Int32) < (2 : Int32))).2.2.2) ?_
          refine XS.aload X28.here hx rfl (hb hby at_127) rfl rfl ?_
          refine XS.iconst X28.here hx rfl (hb hby at_129) ?_
          refine X28.caload hx (j := (0 : Int32)) (v := (.int d0)) (by rw [eh28]; exact Ar58.1) (State.isArrayOf_alike hZ.alike Ar58.2.1) Ar58.2.2 hin58 hat58 (g := (mkF m 130 #[iv p1, iv p2, iv p3, iv p4, iv p5, iv 2, rv b1, rv si, iv 1, .unset, .unset, .unset] [(.int (0 : Int32)), (.ref b1)])) rfl rfl (hb hby at_130) _ ?_
          refine XS.bipush X28.here hx rfl (hb hby at_131) ?_
          refine XS.icmpYes X28.here hx rfl (pc0 := 133) (pc' := 139) rfl (hb hby at_133) rfl (feq hq30).2 (by decide) (by decide) ?_
          refine XS.aload X28.here hx rfl (hb hby at_139) rfl rfl ?_
          exact k)
      obtain ⟨vv62, _, ⟨T62, L62, kk62, nn62⟩, -, X62, hS2, hgr, ⟨Lc62, hQ62, l62, y62, z62⟩, st62⟩ := Jvm.RoadKit.callSS X28 hx (y := ym0) hown (mvT hZ (own_wi hw 30 rfl)) (mvT hZ (own_wi hw 31 rfl)) (mvT hZ (own_wi hw 32 rfl)) (mvT hZ (own_wi hw 33 rfl)) (by decide) (own_backC (W := 0) (own_fr_21 l Z a0 hw hh28 n0 (Nat.le_trans Z0 Kp28.1) si ti ki (d0.toInt8.toInt32) (d1.toInt8.toInt32) fq28_0 fq28_1 fq28_2 fq28_3 (own_n35 r0 hq30) (own_y35 hq55) zC cf59 P5 vF hvF cf60) hZ (own_wi hw 33 rfl) (own_wi hw 32 rfl) (by decide) (by decide) (own_EW hw) (CHv.keep Kp28 (fun x hx => by cases hx) hC)) (g := (mkF m 141 #[iv p1, iv p2, iv p3, iv p4, iv p5, iv 2, rv b1, rv si, iv 1, .unset, .unset, .unset] [(.ref si)])) rfl (by rw [hml]; rfl) (argsL := [(.ref si)]) (rest := []) (lenOf own_pd__Ljava_lang_String__Ljava_lang_String_ rfl) rfl (by show 2 * 0 + _ ≤ _; exact Nat.le_of_eq rfl) (hb hby at_141) (fun _ _ => ⟨rfl, eh28, (by decide : 4 + 2 ≤ _), (by decide : 12 + 4 ≤ _)⟩)
      dsimp only [Pt.U, Pt.locs, Pt.cells, Pt.slots] at X62 l62 y62 z62 st62 hQ62 hS2 hgr
      subst l62 y62 z62
      obtain ⟨X62, hS, hZ, hown⟩ := rebS hS (by rw [eh28]; exact hk) X62 hS2 hgr hZ hown
      obtain ⟨hh62, eh62⟩ : ∃ h, T62.heap = h := ⟨_, rfl⟩
      rw [eh62] at hQ62
      rw [eh62] at hS
      have hk : hh62.size ≤ hh62.size := Nat.le_refl _
      obtain ⟨sr, tr, kr, rfl, Nq62, Kq62, fq62_0, fq62_1, fq62_2, fq62_3⟩ := hQ62
      have N62 := Fr.app N28 Nq62
      have Kp62 := Keep.trans Kp28 Kq62 all0
      have ch63 : ∀ t, SP p e below T62 (mkF m 144 #[iv p1, iv p2, iv p3, iv p4, iv p5, iv 2, rv b1, rv si, iv 1, .unset, .unset, .unset] [(.ref sr)]) t → SP p e below s₁ (entryFrame m #[(.int p1), (.int p2), (.int p3), (.int p4), (.int p5)] maxLocals) t := fun t k => ch61 t (by
          show SP p e below T28 (mkF m 141 #[iv p1, iv p2, iv p3, iv p4, iv p5, iv 2, rv b1, rv si, iv 1, .unset, .unset, .unset] [(.ref si)]) t
          exact st62.trans k)
      have cf64 := (own_sta_keep cf59 Kq62 all0)
      obtain ⟨cq65, kq65, qa65, qb65, qc65⟩ := isOf hZ eh62 fq62_0
      obtain ⟨vv66, _, ⟨T66, L66, kk66, nn66⟩, -, X66, ⟨Lc66, hQ66, l66, y66, z66⟩, st66⟩ := X62.virtualBack hx (y := ym15) (z := ym15) hown (mvT hZ (own_wi hw 109 rfl)) (mvT hZ (own_wi hw 51 rfl)) (notFace_of_selects (args := #[]) (mvT hZ (own_wi hw 53 rfl))) (mvT hZ (own_wi hw 53 rfl)) (mvT hZ (own_wi hw 52 rfl)) (by decide) (backOf (W := 0) (own_ln l Z a0 hw [] hh62 n0 (Nat.le_trans Z0 Kp62.1) sr tr kr (0 : Int32) [] fq62_0 fq62_1 fq62_2 fq62_3 zC cf64 P5) hZ (own_wi hw 54 rfl) (own_wi hw 11 rfl) (by decide) (by decide)) qa65 qc65 (g := (mkF m 180 #[iv p1, iv p2, iv p3, iv p4, iv p5, iv 2, rv b1, rv si, iv 1, rv sr, iv 0, .unset] [(.ref sr)])) rfl (by rw [hml]; rfl) (Steps.refl _) (argsL := []) (rest := []) (lenOf own_pd___I rfl) rfl (by show 2 * 0 + _ ≤ _; exact Nat.le_of_eq rfl) (hb hby at_180) (fun _ _ => ⟨rfl, eh62, (by decide : 6 + 0 ≤ _), (by decide : 16 + 0 ≤ _)⟩)
      dsimp only [Pt.U, Pt.locs, Pt.cells, Pt.slots] at X66 l66 y66 z66 st66 hQ66
      subst l66 y66 z66
      obtain ⟨rfl, Nq66, e66⟩ := hQ66
      have N66 := Fr.app N62 Nq66
      have ch67 : ∀ t, SP p e below T66 (mkF m 183 #[iv p1, iv p2, iv p3, iv p4, iv p5, iv 2, rv b1, rv si, iv 1, rv sr, iv 0, .unset] [(.int (0 : Int32))]) t → SP p e below s₁ (entryFrame m #[(.int p1), (.int p2), (.int p3), (.int p4), (.int p5)] maxLocals) t := fun t k => ch63 t (by
          show SP p e below T62 (mkF m 144 #[iv p1, iv p2, iv p3, iv p4, iv p5, iv 2, rv b1, rv si, iv 1, .unset, .unset, .unset] [(.ref sr)]) t
          refine XS.astore X62.here hx rfl (hb hby at_144) rfl rfl (l' := #[iv p1, iv p2, iv p3, iv p4, iv p5, iv 2, rv b1, rv si, iv 1, rv sr, .unset, .unset]) rfl ?_
          refine XS.iload X62.here hx rfl (hb hby at_146) rfl ?_
          refine XS.ifYes X62.here hx rfl (pc0 := 148) (pc' := 162) rfl (hb hby at_148) rfl ((if0 _ _).trans (flt (by decide : ¬ (1 : Int32) < (0 : Int32))).2.1) (by decide) (by decide) ?_
          refine XS.aload X62.here hx rfl (hb hby at_162) rfl rfl ?_
          refine XS.ifnonnullYes X62.here hx rfl (pc0 := 164) (pc' := 169) rfl (hb hby at_164) rfl (by decide) (by decide) ?_
          refine XS.iload X62.here hx rfl (hb hby at_169) rfl ?_
          show SP p e below T62 (mkF m 171 #[iv p1, iv p2, iv p3, iv p4, iv p5, iv 2, rv b1, rv si, iv 1, rv sr, .unset, .unset] [(.int (2 : Int32))]) t
          refine XS.iload X62.here hx rfl (hb hby at_171) rfl ?_
          show SP p e below T62 (mkF m 173 #[iv p1, iv p2, iv p3, iv p4, iv p5, iv 2, rv b1, rv si, iv 1, rv sr, .unset, .unset] [(.int (1 : Int32)), (.int (2 : Int32))]) t
          refine XS.isub X62.here hx rfl (hb hby at_173) rfl ?_
          rw [show ((2 : Int32) - (1 : Int32)) = (1 : Int32) from by decide]
          refine XS.iconst X62.here hx rfl (hb hby at_174) ?_
          show SP p e below T62 (mkF m 175 #[iv p1, iv p2, iv p3, iv p4, iv p5, iv 2, rv b1, rv si, iv 1, rv sr, .unset, .unset] [(.int (1 : Int32)), (.int (1 : Int32))]) t
          refine XS.isub X62.here hx rfl (hb hby at_175) rfl ?_
          rw [show ((1 : Int32) - (1 : Int32)) = (0 : Int32) from by decide]
          refine XS.istore X62.here hx rfl (hb hby at_176) rfl (l' := #[iv p1, iv p2, iv p3, iv p4, iv p5, iv 2, rv b1, rv si, iv 1, rv sr, iv 0, .unset]) rfl ?_
          refine XS.aload X62.here hx rfl (hb hby at_178) rfl rfl ?_
          show SP p e below T62 (mkF m 180 #[iv p1, iv p2, iv p3, iv p4, iv p5, iv 2, rv b1, rv si, iv 1, rv sr, iv 0, .unset] [(.ref sr)]) t
          exact st66.trans k)
      have ch68 : ∀ t, SP p e below T66 (mkF m 296 #[iv p1, iv p2, iv p3, iv p4, iv p5, iv 2, rv b1, rv si, iv 1, rv sr, iv 0, iv 1] [(.int (1 : Int32))]) t → SP p e below s₁ (entryFrame m #[(.int p1), (.int p2), (.int p3), (.int p4), (.int p5)] maxLocals) t := fun t k => ch67 t (by
          show SP p e below T66 (mkF m 183 #[iv p1, iv p2, iv p3, iv p4, iv p5, iv 2, rv b1, rv si, iv 1, rv sr, iv 0, .unset] [(.int (0 : Int32))]) t
          refine XS.iload X66.here hx rfl (hb hby at_183) rfl ?_
          refine XS.icmpYes X66.here hx rfl (pc0 := 185) (pc' := 190) rfl (hb hby at_185) rfl (teq (by decide : (0 : Int32) = (0 : Int32))).1 (by decide) (by decide) ?_
          refine XS.iconst X66.here hx rfl (hb hby at_190) ?_
          refine XS.istore X66.here hx rfl (hb hby at_191) rfl (l' := #[iv p1, iv p2, iv p3, iv p4, iv p5, iv 2, rv b1, rv si, iv 1, rv sr, iv 0, iv 1]) rfl ?_
          refine XS.iload X66.here hx rfl (hb hby at_193) rfl ?_
          refine XS.ifYes X66.here hx rfl (pc0 := 195) (pc' := 226) rfl (hb hby at_195) rfl ((if0 _ _).trans (flt (by decide : ¬ (0 : Int32) < (0 : Int32))).2.2.2) (by decide) (by decide) ?_
          refine XS.iload X66.here hx rfl (hb hby at_226) rfl ?_
          refine XS.iconst X66.here hx rfl (hb hby at_228) ?_
          refine XS.icmpYes X66.here hx rfl (pc0 := 229) (pc' := 260) rfl (hb hby at_229) rfl (flt (by decide : ¬ (1 : Int32) < (0 : Int32))).2.2.2 (by decide) (by decide) ?_
          show SP p e below T66 (mkF m 260 #[iv p1, iv p2, iv p3, iv p4, iv p5, iv 2, rv b1, rv si, iv 1, rv sr, iv 0, iv 1] []) t
          refine XS.iload X66.here hx rfl (hb hby at_260) rfl ?_
          refine XS.iconst X66.here hx rfl (hb hby at_262) ?_
          refine XS.icmpYes X66.here hx rfl (pc0 := 263) (pc' := 294) rfl (hb hby at_263) rfl (flt (by decide : ¬ (2 : Int32) < (0 : Int32))).2.2.2 (by decide) (by decide) ?_
          refine XS.iload X66.here hx rfl (hb hby at_294) rfl ?_
          exact k)
      obtain ⟨fs, hr, hrun, hended, hend⟩ := X66.leaveW hS (by rw [e66]; exact hk) (v := some (.int (1 : Int32))) (fun h => by rw [Bd.returns] at h; cases h)
      refine ⟨_, _, ch68 _ ?_, hrun, hended, _, _, rfl, ?_, hend.1, hend.2.1, hend.2.2.1, hend.2.2.2.mono (by decide) (by decide)⟩
      · show Steps p.tables e below (T66.setTop (mkF m 296 #[iv p1, iv p2, iv p3, iv p4, iv p5, iv 2, rv b1, rv si, iv 1, rv sr, iv 0, iv 1] [(.int (1 : Int32))])) _
        exact retN X66 hx (t := .boolean) Bd.returns (by simp) (hb hby at_296) hr
      · show QN (some (.int (1 : Int32))) n0 _ T66.heap _
        rw [e66]
        exact ⟨rfl, N66⟩
    · skip
      have cf69 := (V21.keep Kq28 nin0)
      obtain ⟨cl70, Ar70, -, Sz70, Ng70, Ha70, -⟩ := id cf69
      have hin70 : ¬ ((1 : Int32) < 0 ∨ cl70.slots.size ≤ ((1 : Int32)).toNatClampNeg) := inb_of Sz70 (by decide)
      have hat70 : cl70.slots[((1 : Int32)).toNatClampNeg]? = some (.int d1) := Ha70.at hin70 rfl
      obtain ⟨cl71, Ar71, -, Sz71, Ng71, Ha71, -⟩ := id cf69
      have hin71 : ¬ ((0 : Int32) < 0 ∨ cl71.slots.size ≤ ((0 : Int32)).toNatClampNeg) := inb_of Sz71 (by decide)
      have hat71 : cl71.slots[((0 : Int32)).toNatClampNeg]? = some (.int d0) := Ha71.at hin71 rfl
      have cf72 := (own_sta_keep cf27 Kq28 all0)
      have cf73 := (own_sta_keep S_F Kp28 all0)
      obtain ⟨vv74, _, ⟨T74, L74, kk74, nn74⟩, -, X74, ⟨Lc74, hQ74, l74, y74, z74⟩, st74⟩ := Jvm.LawKit.callS X28 hx (y := ym0) hown (mvT hZ (own_wi hw 30 rfl)) (mvT hZ (own_wi hw 31 rfl)) (mvT hZ (own_wi hw 32 rfl)) (mvT hZ (own_wi hw 33 rfl)) (by decide) (backOf (W := 0) (own_fr_2n l Z a0 hw hh28 n0 (Nat.le_trans Z0 Kp28.1) si ti ki (d0.toInt8.toInt32) (d1.toInt8.toInt32) fq28_0 fq28_1 fq28_2 fq28_3 (own_n35 r0 hq30) (own_n35 r1 hq55) zC cf72 P5 vF hvF cf73) hZ (own_wi hw 33 rfl) (own_wi hw 32 rfl) (by decide) (by decide)) (g := (mkF m 141 #[iv p1, iv p2, iv p3, iv p4, iv p5, iv 2, rv b1, rv si, iv (-1), .unset, .unset, .unset] [(.ref si)])) rfl (by rw [hml]; rfl) (argsL := [(.ref si)]) (rest := []) (lenOf own_pd__Ljava_lang_String__Ljava_lang_String_ rfl) rfl (by show 2 * 0 + _ ≤ _; exact Nat.le_of_eq rfl) (hb hby at_141) (fun _ _ => ⟨rfl, eh28, (by decide : 4 + 0 ≤ _), (by decide : 12 + 0 ≤ _)⟩)
      dsimp only [Pt.U, Pt.locs, Pt.cells, Pt.slots] at X74 l74 y74 z74 st74 hQ74
      subst l74 y74 z74
      obtain ⟨rfl, Nq74, e74⟩ := hQ74
      have N74 := Fr.app N28 Nq74
      have ch75 : ∀ t, SP p e below T74 (mkF m 144 #[iv p1, iv p2, iv p3, iv p4, iv p5, iv 2, rv b1, rv si, iv (-1), .unset, .unset, .unset] [.null]) t → SP p e below s₁ (entryFrame m #[(.int p1), (.int p2), (.int p3), (.int p4), (.int p5)] maxLocals) t := fun t k => ch31 t (by
          show SP p e below T28 (mkF m 68 #[iv p1, iv p2, iv p3, iv p4, iv p5, iv 2, rv b1, rv si, iv (-1), .unset, .unset, .unset] []) t
          refine XS.iload X28.here hx rfl (hb hby at_68) rfl ?_
          refine XS.iconst X28.here hx rfl (hb hby at_70) ?_
          refine XS.icmpYes X28.here hx rfl (pc0 := 71) (pc' := 86) rfl (hb hby at_71) rfl (flt (by decide : ¬ (3 : Int32) < (2 : Int32))).2.2.2 (by decide) (by decide) ?_
          refine XS.iload X28.here hx rfl (hb hby at_86) rfl ?_
          refine XS.iconst X28.here hx rfl (hb hby at_88) ?_
          refine XS.icmpYes X28.here hx rfl (pc0 := 89) (pc' := 104) rfl (hb hby at_89) rfl (flt (by decide : ¬ (2 : Int32) < (2 : Int32))).2.2.2 (by decide) (by decide) ?_
          refine XS.iload X28.here hx rfl (hb hby at_104) rfl ?_
          refine XS.iconst X28.here hx rfl (hb hby at_106) ?_
          refine XS.icmpNo X28.here hx rfl (hb hby at_107) rfl (tlt (by decide : (1 : Int32) < (2 : Int32))).2.2.2 ?_
          refine XS.aload X28.here hx rfl (hb hby at_110) rfl rfl ?_
          refine XS.iconst X28.here hx rfl (hb hby at_112) ?_
          refine X28.caload hx (j := (1 : Int32)) (v := (.int d1)) (by rw [eh28]; exact Ar70.1) (State.isArrayOf_alike hZ.alike Ar70.2.1) Ar70.2.2 hin70 hat70 (g := (mkF m 113 #[iv p1, iv p2, iv p3, iv p4, iv p5, iv 2, rv b1, rv si, iv (-1), .unset, .unset, .unset] [(.int (1 : Int32)), (.ref b1)])) rfl rfl (hb hby at_113) _ ?_
          refine XS.bipush X28.here hx rfl (hb hby at_114) ?_
          refine XS.icmpYes X28.here hx rfl (pc0 := 116) (pc' := 122) rfl (hb hby at_116) rfl (feq hq55).2 (by decide) (by decide) ?_
          refine XS.iload X28.here hx rfl (hb hby at_122) rfl ?_
          refine XS.ifNo X28.here hx rfl (hb hby at_124) rfl ((if0 _ _).trans (tlt (by decide : (0 : Int32) < (2 : Int32))).2.2.2) ?_
          show SP p e below T28 (mkF m 127 #[iv p1, iv p2, iv p3, iv p4, iv p5, iv 2, rv b1, rv si, iv (-1), .unset, .unset, .unset] []) t
          refine XS.aload X28.here hx rfl (hb hby at_127) rfl rfl ?_
          refine XS.iconst X28.here hx rfl (hb hby at_129) ?_
          refine X28.caload hx (j := (0 : Int32)) (v := (.int d0)) (by rw [eh28]; exact Ar71.1) (State.isArrayOf_alike hZ.alike Ar71.2.1) Ar71.2.2 hin71 hat71 (g := (mkF m 130 #[iv p1, iv p2, iv p3, iv p4, iv p5, iv 2, rv b1, rv si, iv (-1), .unset, .unset, .unset] [(.int (0 : Int32)), (.ref b1)])) rfl rfl (hb hby at_130) _ ?_
          refine XS.bipush X28.here hx rfl (hb hby at_131) ?_
          refine XS.icmpYes X28.here hx rfl (pc0 := 133) (pc' := 139) rfl (hb hby at_133) rfl (feq hq30).2 (by decide) (by decide) ?_
          refine XS.aload X28.here hx rfl (hb hby at_139) rfl rfl ?_
          show SP p e below T28 (mkF m 141 #[iv p1, iv p2, iv p3, iv p4, iv p5, iv 2, rv b1, rv si, iv (-1), .unset, .unset, .unset] [(.ref si)]) t
          exact st74 t k)
      have ch76 : ∀ t, SP p e below T74 (mkF m 161 #[iv p1, iv p2, iv p3, iv p4, iv p5, iv 2, rv b1, rv si, iv (-1), .val .null, .unset, .unset] [(.int (1 : Int32))]) t → SP p e below s₁ (entryFrame m #[(.int p1), (.int p2), (.int p3), (.int p4), (.int p5)] maxLocals) t := fun t k => ch75 t (by
          show SP p e below T74 (mkF m 144 #[iv p1, iv p2, iv p3, iv p4, iv p5, iv 2, rv b1, rv si, iv (-1), .unset, .unset, .unset] [.null]) t
          refine XS.astore X74.here hx rfl (hb hby at_144) rfl rfl (l' := #[iv p1, iv p2, iv p3, iv p4, iv p5, iv 2, rv b1, rv si, iv (-1), .val .null, .unset, .unset]) rfl ?_
          refine XS.iload X74.here hx rfl (hb hby at_146) rfl ?_
          refine XS.ifNo X74.here hx rfl (hb hby at_148) rfl ((if0 _ _).trans (tlt (by decide : (-1 : Int32) < (0 : Int32))).2.1) ?_
          refine XS.aload X74.here hx rfl (hb hby at_151) rfl rfl ?_
          refine XS.ifnonnullNo X74.here hx rfl (hb hby at_153) rfl ?_
          refine XS.iconst X74.here hx rfl (hb hby at_156) ?_
          refine XS.goto X74.here hx rfl (pc0 := 157) (pc' := 161) rfl (hb hby at_157) (by decide) (by decide) ?_
          exact k)
      obtain ⟨fs, hr, hrun, hended, hend⟩ := X74.leaveW hS (by rw [e74]; exact hk) (v := some (.int (1 : Int32))) (fun h => by rw [Bd.returns] at h; cases h)
      refine ⟨_, _, ch76 _ ?_, hrun, hended, _, _, rfl, ?_, hend.1, hend.2.1, hend.2.2.1, hend.2.2.2.mono (by decide) (by decide)⟩
      · show Steps p.tables e below (T74.setTop (mkF m 161 #[iv p1, iv p2, iv p3, iv p4, iv p5, iv 2, rv b1, rv si, iv (-1), .val .null, .unset, .unset] [(.int (1 : Int32))])) _
        exact retN X74 hx (t := .boolean) Bd.returns (by simp) (hb hby at_161) hr
      · show QN (some (.int (1 : Int32))) n0 _ T74.heap _
        rw [e74]
        exact ⟨rfl, N74⟩
theorem own_ef_own_law_3 (m : MethodId) {x0 : Int32} {x1 : Int32} {x2 : Int32} {x3 : Int32} {x4 : Int32} : entryFrame m #[(.int x0), (.int x1), (.int x2), (.int x3), (.int x4)] maxLocals = mkF m 0 #[iv x0, iv x1, iv x2, iv x3, iv x4, .unset, .unset, .unset, .unset, .unset, .unset, .unset] [] := by first | (simp [entryFrame, mkF, argsToLocals, Value.category, maxLocals]; done) | rfl
set_option maxRecDepth 65536 in
set_option maxHeartbeats 40000000 in
theorem own_law_3 (l : Launch) (Z : State) (a0 : Array Value) (hw : ∀ d ∈ tables_1, d.before a0 Z = true) (ws : List Jvm.Cond) (h0 : Heap) (n0 : Nat) (Z0 : n0 ≤ h0.size) (p1 p2 p3 p4 p5 d0 d1 d2 d3 : Int32) (hn5 : ((p1 &&& (2147483647 : Int32)) % (5 : Int32)) = (3 : Int32)) (HD0 : ∀ (h : Heap) (n0 : Nat) (Z0 : n0 ≤ h.size), MetFree l ym1 (head1 (Jvm.Cond.code ym1 method_2_code 1 (some .char) :: []) rm0) (fun a U => a = #[(.int p2)] ∧ Z.Warmed39 U.vm ∧ U.heap = h) (fun _ _ _ _ _ => True) (fun _ U o U' => ∃ v L, o = .returned v ∧ QV (some (.int d0)) h n0 v U'.heap L ∧ FrameEnd U o U' L rm0.cells rm0.slots)) (HD1 : ∀ (h : Heap) (n0 : Nat) (Z0 : n0 ≤ h.size), MetFree l ym1 (head1 (Jvm.Cond.code ym1 method_2_code 1 (some .char) :: []) rm0) (fun a U => a = #[(.int p3)] ∧ Z.Warmed39 U.vm ∧ U.heap = h) (fun _ _ _ _ _ => True) (fun _ U o U' => ∃ v L, o = .returned v ∧ QV (some (.int d1)) h n0 v U'.heap L ∧ FrameEnd U o U' L rm0.cells rm0.slots)) (HD2 : ∀ (h : Heap) (n0 : Nat) (Z0 : n0 ≤ h.size), MetFree l ym1 (head1 (Jvm.Cond.code ym1 method_2_code 1 (some .char) :: []) rm0) (fun a U => a = #[(.int p4)] ∧ Z.Warmed39 U.vm ∧ U.heap = h) (fun _ _ _ _ _ => True) (fun _ U o U' => ∃ v L, o = .returned v ∧ QV (some (.int d2)) h n0 v U'.heap L ∧ FrameEnd U o U' L rm0.cells rm0.slots)) (HD3 : ∀ (h : Heap) (n0 : Nat) (Z0 : n0 ≤ h.size), MetFree l ym1 (head1 (Jvm.Cond.code ym1 method_2_code 1 (some .char) :: []) rm0) (fun a U => a = #[(.int p5)] ∧ Z.Warmed39 U.vm ∧ U.heap = h) (fun _ _ _ _ _ => True) (fun _ U o U' => ∃ v L, o = .returned v ∧ QV (some (.int d3)) h n0 v U'.heap L ∧ FrameEnd U o U' L rm0.cells rm0.slots)) (r0 : ¬ d0 < 0 ∧ ¬ (255 : Int32) < d0) (r1 : ¬ d1 < 0 ∧ ¬ (255 : Int32) < d1) (r2 : ¬ d2 < 0 ∧ ¬ (255 : Int32) < d2) (r3 : ¬ d3 < 0 ∧ ¬ (255 : Int32) < d3) (zC : Int32) (S_CS : Sta Z h0 "java/lang/String" "COMPACT_STRINGS" "Z" (.int zC)) (P5 : ¬ (zC = (0 : Int32))) (vF : Value) (hvF : vF.category = 1) (S_F : Sta Z h0 "jdk/internal/util/Preconditions" "SIOOBE_FORMATTER" "Ljava/util/function/BiFunction;" vF) :
    MetFree l x (head1 (Jvm.Cond.code x code maxLocals ret :: ws) room_1) (fun a U => a = #[(.int p1), (.int p2), (.int p3), (.int p4), (.int p5)] ∧ Z.Warmed39 U.vm ∧ U.heap = h0 ∧ CHv Z consts_1 U.vm h0) (fun _ _ _ _ _ => True) (fun _ U o U' => ∃ v L, o = .returned v ∧ QN (some (.int (1 : Int32))) n0 v U'.heap L ∧ ReturnedEndW U o U' L room_1.cells room_1.slots) := by
  refine MetFree.of_bodySF (plainFor_of_name own_pn_com_example_leafwright_leafwright_ReferencesFragmentPinLaw) hisR ?_
  intro p e s m args below meth c s₁ Bd hml0 hP hK
  obtain ⟨rfl, hZ, hh, hC⟩ := hP
  have hx := Bd.exec
  have hby := Bd.bytes
  have hml : c.maxLocals = 12 := hml0
  have hown : s.vm.findClass "com/example/leafwright/leafwright/ReferencesFragmentPinLaw" = some m.cls := (findClass_of_methodNamed Bd.named :)
  have hnm := (name_of_methodNamed Bd.named Bd.method).1
  have X0 : Stand p l e room_1 (s.setVm s.vm) m #[(.int p1), (.int p2), (.int p3), (.int p4), (.int p5)] below meth c s₁ [] 0 0 := Stand.of_body Bd
  have hZ : Z.Warmed39 (s.setVm s.vm).vm := hZ
  have hown : (s.setVm s.vm).vm.findClass "com/example/leafwright/leafwright/ReferencesFragmentPinLaw" = some m.cls := hown
  have hS : s.Since s.vm 0 := (State.WarmedH.refl s).since 0
  have hk : 0 ≤ h0.size := Nat.zero_le _
  have e0 : s₁.heap = h0 := by rw [← hh, Bd.state]; rfl
  have N0 := Fr.nil n0
  have pre0 : ∀ t, SP p e below s₁ (mkF m 0 #[iv p1, iv p2, iv p3, iv p4, iv p5, .unset, .unset, .unset, .unset, .unset, .unset, .unset] []) t → SP p e below s₁ (entryFrame m #[(.int p1), (.int p2), (.int p3), (.int p4), (.int p5)] maxLocals) t := fun t k => castTop (own_ef_own_law_3 m) k
  obtain ⟨T1, hp1, k1, X1, e1, E1, A1, st1⟩ := newP X0 hx hZ (own_wi hw 1 rfl) e0 (g := (mkF m 9 #[iv p1, iv p2, iv p3, iv p4, iv p5, iv 3, .unset, .unset, .unset, .unset, .unset, .unset] [(.int (4 : Int32))])) rfl (hb hby at_9) rfl (by decide) (cap := 4) (by decide) (by decide) (by decide) (by decide)
  obtain ⟨b1, g1⟩ : ∃ z, z = h0.size := ⟨_, rfl⟩
  rw [← g1] at A1 st1
  have g_b1 : n0 ≤ b1 := Nat.le_trans (Nat.le_trans Z0 (Keep.refl h0 []).1) (Nat.le_of_eq g1.symm)
  have sz_b1 : h0.size ≤ b1 := Nat.le_trans (Keep.refl h0 []).1 (Nat.le_of_eq g1.symm)
  have hk := Nat.le_trans hk E1.1
  have Kp1 := Keep.ext (Keep.refl h0 []) E1
  have V1 : Arv Z hp1 b1 k1 .char (4 : Int32) [(.int (0 : Int32)), (.int (0 : Int32)), (.int (0 : Int32)), (.int (0 : Int32))] (.int (0 : Int32)) := (Arv.new A1 (by decide)).pad (pad_rep [] (.int (0 : Int32)) 4)
  have ch2 : ∀ t, SP p e below T1 (mkF m 11 #[iv p1, iv p2, iv p3, iv p4, iv p5, iv 3, .unset, .unset, .unset, .unset, .unset, .unset] [(.ref b1)]) t → SP p e below s₁ (entryFrame m #[(.int p1), (.int p2), (.int p3), (.int p4), (.int p5)] maxLocals) t := fun t k => pre0 t (by
      show SP p e below s₁ (mkF m 0 #[iv p1, iv p2, iv p3, iv p4, iv p5, .unset, .unset, .unset, .unset, .unset, .unset, .unset] []) t
      refine XS.iloadN X0.here hx rfl (hb hby at_0) rfl ?_
      refine X0.ldcInt hx hown (mvT hZ (own_wi hw 0 rfl)) (g := (mkF m 1 #[iv p1, iv p2, iv p3, iv p4, iv p5, .unset, .unset, .unset, .unset, .unset, .unset, .unset] [(.int p1)])) rfl (hb hby at_1) _ ?_
      show SP p e below s₁ (mkF m 3 #[iv p1, iv p2, iv p3, iv p4, iv p5, .unset, .unset, .unset, .unset, .unset, .unset, .unset] [(.int (2147483647 : Int32)), (.int p1)]) t
      refine XS.iand X0.here hx rfl (hb hby at_3) rfl ?_
      refine XS.iconst X0.here hx rfl (hb hby at_4) ?_
      show SP p e below s₁ (mkF m 5 #[iv p1, iv p2, iv p3, iv p4, iv p5, .unset, .unset, .unset, .unset, .unset, .unset, .unset] [(.int (5 : Int32)), (.int (p1 &&& (2147483647 : Int32)))]) t
      refine Jvm.RoadKit.iremM (g := (mkF m 5 #[iv p1, iv p2, iv p3, iv p4, iv p5, .unset, .unset, .unset, .unset, .unset, .unset, .unset] [(.int (5 : Int32)), (.int (p1 &&& (2147483647 : Int32)))])) X0 hx rfl (hb hby at_5) rfl (by decide) ?_
      rw [hn5]
      refine XS.istore X0.here hx rfl (hb hby at_6) rfl (l' := #[iv p1, iv p2, iv p3, iv p4, iv p5, iv 3, .unset, .unset, .unset, .unset, .unset, .unset]) rfl ?_
      refine XS.iconst X0.here hx rfl (hb hby at_8) ?_
      show SP p e below s₁ (mkF m 9 #[iv p1, iv p2, iv p3, iv p4, iv p5, iv 3, .unset, .unset, .unset, .unset, .unset, .unset] [(.int (4 : Int32))]) t
      exact st1 t k)
  obtain ⟨vv3, _, ⟨T3, L3, kk3, nn3⟩, -, X3, ⟨Lc3, hQ3, l3, y3, z3⟩, st3⟩ := Jvm.LawKit.callS X1 hx (y := ym1) hown (mvT hZ (own_wi hw 2 rfl)) (mvT hZ (own_wi hw 3 rfl)) (mvT hZ (own_wi hw 4 rfl)) (mvT hZ (own_wi hw 5 rfl)) (by decide) (backOf (W := 3) (HD0 hp1 n0 (Nat.le_trans Z0 Kp1.1)) hZ (own_wi hw 5 rfl) (own_wi hw 4 rfl) (by decide) (by decide)) (g := (mkF m 14 #[iv p1, iv p2, iv p3, iv p4, iv p5, iv 3, .unset, .unset, .unset, .unset, .unset, .unset] [(.int p2), (.int (0 : Int32)), (.ref b1), (.ref b1)])) rfl (by rw [hml]; rfl) (argsL := [(.int p2)]) (rest := [(.int (0 : Int32)), (.ref b1), (.ref b1)]) (lenOf own_pd__I_C rfl) rfl (by show 2 * 0 + _ ≤ _; exact Nat.le_of_eq rfl) (hb hby at_14) (fun _ _ => ⟨rfl, e1, (by decide : 1 + 0 ≤ _), (by decide : 4 + 0 ≤ _)⟩)
  dsimp only [Pt.U, Pt.locs, Pt.cells, Pt.slots] at X3 l3 y3 z3 st3 hQ3
  subst l3 y3 z3
  obtain ⟨rfl, Nq3, e3⟩ := hQ3
  have N3 := Fr.app N0 Nq3
  have ch4 : ∀ t, SP p e below T3 (mkF m 17 #[iv p1, iv p2, iv p3, iv p4, iv p5, iv 3, .unset, .unset, .unset, .unset, .unset, .unset] [(.int d0), (.int (0 : Int32)), (.ref b1), (.ref b1)]) t → SP p e below s₁ (entryFrame m #[(.int p1), (.int p2), (.int p3), (.int p4), (.int p5)] maxLocals) t := fun t k => ch2 t (by
      show SP p e below T1 (mkF m 11 #[iv p1, iv p2, iv p3, iv p4, iv p5, iv 3, .unset, .unset, .unset, .unset, .unset, .unset] [(.ref b1)]) t
      refine XS.dup X1.here hx rfl (hb hby at_11) rfl rfl ?_
      refine XS.iconst X1.here hx rfl (hb hby at_12) ?_
      refine XS.iloadN X1.here hx rfl (hb hby at_13) rfl ?_
      show SP p e below T1 (mkF m 14 #[iv p1, iv p2, iv p3, iv p4, iv p5, iv 3, .unset, .unset, .unset, .unset, .unset, .unset] [(.int p2), (.int (0 : Int32)), (.ref b1), (.ref b1)]) t
      exact st3 t k)
  obtain ⟨cl5, Ar5, qq5, Sz5, Ng5, Ha5, Ga5⟩ := id V1
  have hin5 : ¬ ((0 : Int32) < 0 ∨ cl5.slots.size ≤ ((0 : Int32)).toNatClampNeg) := inb_of Sz5 (by decide)
  obtain ⟨T6, hp6, X6, e6, W6, st6⟩ := stC X3 hx hZ e3 Ar5 (j := (0 : Int32)) hin5 (g := (mkF m 17 #[iv p1, iv p2, iv p3, iv p4, iv p5, iv 3, .unset, .unset, .unset, .unset, .unset, .unset] [(.int d0), (.int (0 : Int32)), (.ref b1), (.ref b1)])) rfl rfl (hb hby at_17)
  have ch7 : ∀ t, SP p e below T6 (mkF m 18 #[iv p1, iv p2, iv p3, iv p4, iv p5, iv 3, .unset, .unset, .unset, .unset, .unset, .unset] [(.ref b1)]) t → SP p e below s₁ (entryFrame m #[(.int p1), (.int p2), (.int p3), (.int p4), (.int p5)] maxLocals) t := fun t k => ch4 t (by
      show SP p e below T3 (mkF m 17 #[iv p1, iv p2, iv p3, iv p4, iv p5, iv 3, .unset, .unset, .unset, .unset, .unset, .unset] [(.int d0), (.int (0 : Int32)), (.ref b1), (.ref b1)]) t
      exact st6 t k)
  have V6 : Arv Z hp6 b1 k1 .char (4 : Int32) [(.int (nar .char d0)), (.int (0 : Int32)), (.int (0 : Int32)), (.int (0 : Int32))] (.int (0 : Int32)) := Arv.set Ar5 qq5 Sz5 Ng5 Ha5 Ga5 (fits_nar_char _) W6 0 rfl (Nat.le_of_ble_eq_true rfl)
  rw [own_narc r0] at V6
  have hk := Nat.le_trans hk (Keep.of_wr W6).1
  have N6 := Fr.snoc X6 N3 g_b1
  have Kp6 := Keep.wr Kp1 W6 (Or.inr sz_b1)
  obtain ⟨vv8, _, ⟨T8, L8, kk8, nn8⟩, -, X8, ⟨Lc8, hQ8, l8, y8, z8⟩, st8⟩ := Jvm.LawKit.callS X6 hx (y := ym1) hown (mvT hZ (own_wi hw 2 rfl)) (mvT hZ (own_wi hw 3 rfl)) (mvT hZ (own_wi hw 4 rfl)) (mvT hZ (own_wi hw 5 rfl)) (by decide) (backOf (W := 3) (HD1 hp6 n0 (Nat.le_trans Z0 Kp6.1)) hZ (own_wi hw 5 rfl) (own_wi hw 4 rfl) (by decide) (by decide)) (g := (mkF m 21 #[iv p1, iv p2, iv p3, iv p4, iv p5, iv 3, .unset, .unset, .unset, .unset, .unset, .unset] [(.int p3), (.int (1 : Int32)), (.ref b1), (.ref b1)])) rfl (by rw [hml]; rfl) (argsL := [(.int p3)]) (rest := [(.int (1 : Int32)), (.ref b1), (.ref b1)]) (lenOf own_pd__I_C rfl) rfl (by show 2 * 0 + _ ≤ _; exact Nat.le_of_eq rfl) (hb hby at_21) (fun _ _ => ⟨rfl, e6, (by decide : 1 + 0 ≤ _), (by decide : 4 + 0 ≤ _)⟩)
  dsimp only [Pt.U, Pt.locs, Pt.cells, Pt.slots] at X8 l8 y8 z8 st8 hQ8
  subst l8 y8 z8
  obtain ⟨rfl, Nq8, e8⟩ := hQ8
  have N8 := Fr.app N6 Nq8
  have ch9 : ∀ t, SP p e below T8 (mkF m 24 #[iv p1, iv p2, iv p3, iv p4, iv p5, iv 3, .unset, .unset, .unset, .unset, .unset, .unset] [(.int d1), (.int (1 : Int32)), (.ref b1), (.ref b1)]) t → SP p e below s₁ (entryFrame m #[(.int p1), (.int p2), (.int p3), (.int p4), (.int p5)] maxLocals) t := fun t k => ch7 t (by
      show SP p e below T6 (mkF m 18 #[iv p1, iv p2, iv p3, iv p4, iv p5, iv 3, .unset, .unset, .unset, .unset, .unset, .unset] [(.ref b1)]) t
      refine XS.dup X6.here hx rfl (hb hby at_18) rfl rfl ?_
      show SP p e below T6 (mkF m 19 #[iv p1, iv p2, iv p3, iv p4, iv p5, iv 3, .unset, .unset, .unset, .unset, .unset, .unset] [(.ref b1), (.ref b1)]) t
      refine XS.iconst X6.here hx rfl (hb hby at_19) ?_
      refine XS.iloadN X6.here hx rfl (hb hby at_20) rfl ?_
      show SP p e below T6 (mkF m 21 #[iv p1, iv p2, iv p3, iv p4, iv p5, iv 3, .unset, .unset, .unset, .unset, .unset, .unset] [(.int p3), (.int (1 : Int32)), (.ref b1), (.ref b1)]) t
      exact st8 t k)
  obtain ⟨cl10, Ar10, qq10, Sz10, Ng10, Ha10, Ga10⟩ := id V6
  have hin10 : ¬ ((1 : Int32) < 0 ∨ cl10.slots.size ≤ ((1 : Int32)).toNatClampNeg) := inb_of Sz10 (by decide)
  obtain ⟨T11, hp11, X11, e11, W11, st11⟩ := stC X8 hx hZ e8 Ar10 (j := (1 : Int32)) hin10 (g := (mkF m 24 #[iv p1, iv p2, iv p3, iv p4, iv p5, iv 3, .unset, .unset, .unset, .unset, .unset, .unset] [(.int d1), (.int (1 : Int32)), (.ref b1), (.ref b1)])) rfl rfl (hb hby at_24)
  have ch12 : ∀ t, SP p e below T11 (mkF m 25 #[iv p1, iv p2, iv p3, iv p4, iv p5, iv 3, .unset, .unset, .unset, .unset, .unset, .unset] [(.ref b1)]) t → SP p e below s₁ (entryFrame m #[(.int p1), (.int p2), (.int p3), (.int p4), (.int p5)] maxLocals) t := fun t k => ch9 t (by
      show SP p e below T8 (mkF m 24 #[iv p1, iv p2, iv p3, iv p4, iv p5, iv 3, .unset, .unset, .unset, .unset, .unset, .unset] [(.int d1), (.int (1 : Int32)), (.ref b1), (.ref b1)]) t
      exact st11 t k)
  have V11 : Arv Z hp11 b1 k1 .char (4 : Int32) [(.int d0), (.int (nar .char d1)), (.int (0 : Int32)), (.int (0 : Int32))] (.int (0 : Int32)) := Arv.set Ar10 qq10 Sz10 Ng10 Ha10 Ga10 (fits_nar_char _) W11 1 rfl (Nat.le_of_ble_eq_true rfl)
  rw [own_narc r1] at V11
  have hk := Nat.le_trans hk (Keep.of_wr W11).1
  have N11 := Fr.snoc X11 N8 g_b1
  have Kp11 := Keep.wr Kp6 W11 (Or.inr sz_b1)
  obtain ⟨vv13, _, ⟨T13, L13, kk13, nn13⟩, -, X13, ⟨Lc13, hQ13, l13, y13, z13⟩, st13⟩ := Jvm.LawKit.callS X11 hx (y := ym1) hown (mvT hZ (own_wi hw 2 rfl)) (mvT hZ (own_wi hw 3 rfl)) (mvT hZ (own_wi hw 4 rfl)) (mvT hZ (own_wi hw 5 rfl)) (by decide) (backOf (W := 3) (HD2 hp11 n0 (Nat.le_trans Z0 Kp11.1)) hZ (own_wi hw 5 rfl) (own_wi hw 4 rfl) (by decide) (by decide)) (g := (mkF m 28 #[iv p1, iv p2, iv p3, iv p4, iv p5, iv 3, .unset, .unset, .unset, .unset, .unset, .unset] [(.int p4), (.int (2 : Int32)), (.ref b1), (.ref b1)])) rfl (by rw [hml]; rfl) (argsL := [(.int p4)]) (rest := [(.int (2 : Int32)), (.ref b1), (.ref b1)]) (lenOf own_pd__I_C rfl) rfl (by show 2 * 0 + _ ≤ _; exact Nat.le_of_eq rfl) (hb hby at_28) (fun _ _ => ⟨rfl, e11, (by decide : 1 + 0 ≤ _), (by decide : 4 + 0 ≤ _)⟩)
  dsimp only [Pt.U, Pt.locs, Pt.cells, Pt.slots] at X13 l13 y13 z13 st13 hQ13
  subst l13 y13 z13
  obtain ⟨rfl, Nq13, e13⟩ := hQ13
  have N13 := Fr.app N11 Nq13
  have ch14 : ∀ t, SP p e below T13 (mkF m 31 #[iv p1, iv p2, iv p3, iv p4, iv p5, iv 3, .unset, .unset, .unset, .unset, .unset, .unset] [(.int d2), (.int (2 : Int32)), (.ref b1), (.ref b1)]) t → SP p e below s₁ (entryFrame m #[(.int p1), (.int p2), (.int p3), (.int p4), (.int p5)] maxLocals) t := fun t k => ch12 t (by
      show SP p e below T11 (mkF m 25 #[iv p1, iv p2, iv p3, iv p4, iv p5, iv 3, .unset, .unset, .unset, .unset, .unset, .unset] [(.ref b1)]) t
      refine XS.dup X11.here hx rfl (hb hby at_25) rfl rfl ?_
      refine XS.iconst X11.here hx rfl (hb hby at_26) ?_
      refine XS.iloadN X11.here hx rfl (hb hby at_27) rfl ?_
      show SP p e below T11 (mkF m 28 #[iv p1, iv p2, iv p3, iv p4, iv p5, iv 3, .unset, .unset, .unset, .unset, .unset, .unset] [(.int p4), (.int (2 : Int32)), (.ref b1), (.ref b1)]) t
      exact st13 t k)
  obtain ⟨cl15, Ar15, qq15, Sz15, Ng15, Ha15, Ga15⟩ := id V11
  have hin15 : ¬ ((2 : Int32) < 0 ∨ cl15.slots.size ≤ ((2 : Int32)).toNatClampNeg) := inb_of Sz15 (by decide)
  obtain ⟨T16, hp16, X16, e16, W16, st16⟩ := stC X13 hx hZ e13 Ar15 (j := (2 : Int32)) hin15 (g := (mkF m 31 #[iv p1, iv p2, iv p3, iv p4, iv p5, iv 3, .unset, .unset, .unset, .unset, .unset, .unset] [(.int d2), (.int (2 : Int32)), (.ref b1), (.ref b1)])) rfl rfl (hb hby at_31)
  have ch17 : ∀ t, SP p e below T16 (mkF m 32 #[iv p1, iv p2, iv p3, iv p4, iv p5, iv 3, .unset, .unset, .unset, .unset, .unset, .unset] [(.ref b1)]) t → SP p e below s₁ (entryFrame m #[(.int p1), (.int p2), (.int p3), (.int p4), (.int p5)] maxLocals) t := fun t k => ch14 t (by
      show SP p e below T13 (mkF m 31 #[iv p1, iv p2, iv p3, iv p4, iv p5, iv 3, .unset, .unset, .unset, .unset, .unset, .unset] [(.int d2), (.int (2 : Int32)), (.ref b1), (.ref b1)]) t
      exact st16 t k)
  have V16 : Arv Z hp16 b1 k1 .char (4 : Int32) [(.int d0), (.int d1), (.int (nar .char d2)), (.int (0 : Int32))] (.int (0 : Int32)) := Arv.set Ar15 qq15 Sz15 Ng15 Ha15 Ga15 (fits_nar_char _) W16 2 rfl (Nat.le_of_ble_eq_true rfl)
  rw [own_narc r2] at V16
  have hk := Nat.le_trans hk (Keep.of_wr W16).1
  have N16 := Fr.snoc X16 N13 g_b1
  have Kp16 := Keep.wr Kp11 W16 (Or.inr sz_b1)
  obtain ⟨vv18, _, ⟨T18, L18, kk18, nn18⟩, -, X18, ⟨Lc18, hQ18, l18, y18, z18⟩, st18⟩ := Jvm.LawKit.callS X16 hx (y := ym1) hown (mvT hZ (own_wi hw 2 rfl)) (mvT hZ (own_wi hw 3 rfl)) (mvT hZ (own_wi hw 4 rfl)) (mvT hZ (own_wi hw 5 rfl)) (by decide) (backOf (W := 3) (HD3 hp16 n0 (Nat.le_trans Z0 Kp16.1)) hZ (own_wi hw 5 rfl) (own_wi hw 4 rfl) (by decide) (by decide)) (g := (mkF m 36 #[iv p1, iv p2, iv p3, iv p4, iv p5, iv 3, .unset, .unset, .unset, .unset, .unset, .unset] [(.int p5), (.int (3 : Int32)), (.ref b1), (.ref b1)])) rfl (by rw [hml]; rfl) (argsL := [(.int p5)]) (rest := [(.int (3 : Int32)), (.ref b1), (.ref b1)]) (lenOf own_pd__I_C rfl) rfl (by show 2 * 0 + _ ≤ _; exact Nat.le_of_eq rfl) (hb hby at_36) (fun _ _ => ⟨rfl, e16, (by decide : 1 + 0 ≤ _), (by decide : 4 + 0 ≤ _)⟩)
  dsimp only [Pt.U, Pt.locs, Pt.cells, Pt.slots] at X18 l18 y18 z18 st18 hQ18
  subst l18 y18 z18
  obtain ⟨rfl, Nq18, e18⟩ := hQ18
  have N18 := Fr.app N16 Nq18
  have ch19 : ∀ t, SP p e below T18 (mkF m 39 #[iv p1, iv p2, iv p3, iv p4, iv p5, iv 3, .unset, .unset, .unset, .unset, .unset, .unset] [(.int d3), (.int (3 : Int32)), (.ref b1), (.ref b1)]) t → SP p e below s₁ (entryFrame m #[(.int p1), (.int p2), (.int p3), (.int p4), (.int p5)] maxLocals) t := fun t k => ch17 t (by
      show SP p e below T16 (mkF m 32 #[iv p1, iv p2, iv p3, iv p4, iv p5, iv 3, .unset, .unset, .unset, .unset, .unset, .unset] [(.ref b1)]) t
      refine XS.dup X16.here hx rfl (hb hby at_32) rfl rfl ?_
      refine XS.iconst X16.here hx rfl (hb hby at_33) ?_
      refine XS.iload X16.here hx rfl (hb hby at_34) rfl ?_
      show SP p e below T16 (mkF m 36 #[iv p1, iv p2, iv p3, iv p4, iv p5, iv 3, .unset, .unset, .unset, .unset, .unset, .unset] [(.int p5), (.int (3 : Int32)), (.ref b1), (.ref b1)]) t
      exact st18 t k)
  obtain ⟨cl20, Ar20, qq20, Sz20, Ng20, Ha20, Ga20⟩ := id V16
  have hin20 : ¬ ((3 : Int32) < 0 ∨ cl20.slots.size ≤ ((3 : Int32)).toNatClampNeg) := inb_of Sz20 (by decide)
  obtain ⟨T21, hp21, X21, e21, W21, st21⟩ := stC X18 hx hZ e18 Ar20 (j := (3 : Int32)) hin20 (g := (mkF m 39 #[iv p1, iv p2, iv p3, iv p4, iv p5, iv 3, .unset, .unset, .unset, .unset, .unset, .unset] [(.int d3), (.int (3 : Int32)), (.ref b1), (.ref b1)])) rfl rfl (hb hby at_39)
  have ch22 : ∀ t, SP p e below T21 (mkF m 40 #[iv p1, iv p2, iv p3, iv p4, iv p5, iv 3, .unset, .unset, .unset, .unset, .unset, .unset] [(.ref b1)]) t → SP p e below s₁ (entryFrame m #[(.int p1), (.int p2), (.int p3), (.int p4), (.int p5)] maxLocals) t := fun t k => ch19 t (by
      show SP p e below T18 (mkF m 39 #[iv p1, iv p2, iv p3, iv p4, iv p5, iv 3, .unset, .unset, .unset, .unset, .unset, .unset] [(.int d3), (.int (3 : Int32)), (.ref b1), (.ref b1)]) t
      exact st21 t k)
  have V21 : Arv Z hp21 b1 k1 .char (4 : Int32) [(.int d0), (.int d1), (.int d2), (.int (nar .char d3))] (.int (0 : Int32)) := Arv.set Ar20 qq20 Sz20 Ng20 Ha20 Ga20 (fits_nar_char _) W21 3 rfl (Nat.le_of_ble_eq_true rfl)
  rw [own_narc r3] at V21
  have hk := Nat.le_trans hk (Keep.of_wr W21).1
  have N21 := Fr.snoc X21 N18 g_b1
  have Kp21 := Keep.wr Kp16 W21 (Or.inr sz_b1)
  obtain ⟨cl23, Ar23, -, Sz23, Ng23, Ha23, -⟩ := id V21
  have hin23 : ¬ ((0 : Int32) < 0 ∨ cl23.slots.size ≤ ((0 : Int32)).toNatClampNeg) := inb_of Sz23 (by decide)
  have hat23 : cl23.slots[((0 : Int32)).toNatClampNeg]? = some (.int d0) := Ha23.at hin23 rfl
  obtain ⟨cl24, Ar24, -, Sz24, Ng24, Ha24, -⟩ := id V21
  have hin24 : ¬ ((1 : Int32) < 0 ∨ cl24.slots.size ≤ ((1 : Int32)).toNatClampNeg) := inb_of Sz24 (by decide)
  have hat24 : cl24.slots[((1 : Int32)).toNatClampNeg]? = some (.int d1) := Ha24.at hin24 rfl
  obtain ⟨cl25, Ar25, -, Sz25, Ng25, Ha25, -⟩ := id V21
  have hin25 : ¬ ((2 : Int32) < 0 ∨ cl25.slots.size ≤ ((2 : Int32)).toNatClampNeg) := inb_of Sz25 (by decide)
  have hat25 : cl25.slots[((2 : Int32)).toNatClampNeg]? = some (.int d2) := Ha25.at hin25 rfl
  obtain ⟨cl26, Ar26, -, Sz26, Ng26, Ha26, -⟩ := id V21
  have hin26 : ¬ ((3 : Int32) < 0 ∨ cl26.slots.size ≤ ((3 : Int32)).toNatClampNeg) := inb_of Sz26 (by decide)
  have hat26 : cl26.slots[((3 : Int32)).toNatClampNeg]? = some (.int d3) := Ha26.at hin26 rfl
  have cf27 := (own_sta_keep S_CS Kp21 all0)
  obtain ⟨vv28, _, ⟨T28, L28, kk28, nn28⟩, -, X28, ⟨Lc28, hQ28, l28, y28, z28⟩, st28⟩ := Jvm.LawKit.callS X21 hx (y := ym2) hown (mvT hZ (own_wi hw 6 rfl)) (mvT hZ (own_wi hw 7 rfl)) (mvT hZ (own_wi hw 4 rfl)) (mvT hZ (own_wi hw 8 rfl)) (by decide) (backOf (W := 0) (own_make_3 l Z a0 hw [] hp21 n0 (Nat.le_trans Z0 Kp21.1) d0 d1 d2 d3 r0 r1 r2 r3 zC cf27 P5) hZ (own_wi hw 8 rfl) (own_wi hw 4 rfl) (by decide) (by decide)) (g := (mkF m 60 #[iv p1, iv p2, iv p3, iv p4, iv p5, iv 3, rv b1, .unset, .unset, .unset, .unset, .unset] [(.int d3), (.int d2), (.int d1), (.int d0), (.int (3 : Int32))])) rfl (by rw [hml]; rfl) (argsL := [(.int (3 : Int32)), (.int d0), (.int d1), (.int d2), (.int d3)]) (rest := []) (lenOf own_pd__ICCCC_Ljava_lang_String_ rfl) rfl (by show 2 * 0 + _ ≤ _; exact Nat.le_of_eq rfl) (hb hby at_60) (fun _ _ => ⟨rfl, e21, (by decide : 1 + 3 ≤ _), (by decide : 4 + 10 ≤ _)⟩)
  dsimp only [Pt.U, Pt.locs, Pt.cells, Pt.slots] at X28 l28 y28 z28 st28 hQ28
  subst l28 y28 z28
  obtain ⟨hh28, eh28⟩ : ∃ h, T28.heap = h := ⟨_, rfl⟩
  rw [eh28] at hQ28
  obtain ⟨si, ti, ki, rfl, zq28, Nq28, Kq28, fq28_0, fq28_1, fq28_2, fq28_3⟩ := hQ28
  have N28 := Fr.app N21 Nq28
  have hk := Nat.le_trans hk Kq28.1
  have ne_b1_si : b1 ≠ si := Nat.ne_of_lt (Nat.lt_of_lt_of_le V21.lt zq28)
  have g_si : n0 ≤ si := Nat.le_trans (Nat.le_trans Z0 Kp21.1) zq28
  have sz_si : h0.size ≤ si := Nat.le_trans Kp21.1 zq28
  have Kp28 := Keep.trans Kp21 Kq28 all0
  have ch29 : ∀ t, SP p e below T28 (mkF m 63 #[iv p1, iv p2, iv p3, iv p4, iv p5, iv 3, rv b1, .unset, .unset, .unset, .unset, .unset] [(.ref si)]) t → SP p e below s₁ (entryFrame m #[(.int p1), (.int p2), (.int p3), (.int p4), (.int p5)] maxLocals) t := fun t k => ch22 t (by
      show SP p e below T21 (mkF m 40 #[iv p1, iv p2, iv p3, iv p4, iv p5, iv 3, .unset, .unset, .unset, .unset, .unset, .unset] [(.ref b1)]) t
      refine XS.astore X21.here hx rfl (hb hby at_40) rfl rfl (l' := #[iv p1, iv p2, iv p3, iv p4, iv p5, iv 3, rv b1, .unset, .unset, .unset, .unset, .unset]) rfl ?_
      refine XS.iload X21.here hx rfl (hb hby at_42) rfl ?_
      refine XS.aload X21.here hx rfl (hb hby at_44) rfl rfl ?_
      refine XS.iconst X21.here hx rfl (hb hby at_46) ?_
      show SP p e below T21 (mkF m 47 #[iv p1, iv p2, iv p3, iv p4, iv p5, iv 3, rv b1, .unset, .unset, .unset, .unset, .unset] [(.int (0 : Int32)), (.ref b1), (.int (3 : Int32))]) t
      refine X21.caload hx (j := (0 : Int32)) (v := (.int d0)) (by rw [e21]; exact Ar23.1) (State.isArrayOf_alike hZ.alike Ar23.2.1) Ar23.2.2 hin23 hat23 (g := (mkF m 47 #[iv p1, iv p2, iv p3, iv p4, iv p5, iv 3, rv b1, .unset, .unset, .unset, .unset, .unset] [(.int (0 : Int32)), (.ref b1), (.int (3 : Int32))])) rfl rfl (hb hby at_47) _ ?_
      refine XS.aload X21.here hx rfl (hb hby at_48) rfl rfl ?_
      refine XS.iconst X21.here hx rfl (hb hby at_50) ?_
      refine X21.caload hx (j := (1 : Int32)) (v := (.int d1)) (by rw [e21]; exact Ar24.1) (State.isArrayOf_alike hZ.alike Ar24.2.1) Ar24.2.2 hin24 hat24 (g := (mkF m 51 #[iv p1, iv p2, iv p3, iv p4, iv p5, iv 3, rv b1, .unset, .unset, .unset, .unset, .unset] [(.int (1 : Int32)), (.ref b1), (.int d0), (.int (3 : Int32))])) rfl rfl (hb hby at_51) _ ?_
      refine XS.aload X21.here hx rfl (hb hby at_52) rfl rfl ?_
      refine XS.iconst X21.here hx rfl (hb hby at_54) ?_
      refine X21.caload hx (j := (2 : Int32)) (v := (.int d2)) (by rw [e21]; exact Ar25.1) (State.isArrayOf_alike hZ.alike Ar25.2.1) Ar25.2.2 hin25 hat25 (g := (mkF m 55 #[iv p1, iv p2, iv p3, iv p4, iv p5, iv 3, rv b1, .unset, .unset, .unset, .unset, .unset] [(.int (2 : Int32)), (.ref b1), (.int d1), (.int d0), (.int (3 : Int32))])) rfl rfl (hb hby at_55) _ ?_
      refine XS.aload X21.here hx rfl (hb hby at_56) rfl rfl ?_
      refine XS.iconst X21.here hx rfl (hb hby at_58) ?_
      refine X21.caload hx (j := (3 : Int32)) (v := (.int d3)) (by rw [e21]; exact Ar26.1) (State.isArrayOf_alike hZ.alike Ar26.2.1) Ar26.2.2 hin26 hat26 (g := (mkF m 59 #[iv p1, iv p2, iv p3, iv p4, iv p5, iv 3, rv b1, .unset, .unset, .unset, .unset, .unset] [(.int (3 : Int32)), (.ref b1), (.int d2), (.int d1), (.int d0), (.int (3 : Int32))])) rfl rfl (hb hby at_59) _ ?_
      show SP p e below T21 (mkF m 60 #[iv p1, iv p2, iv p3, iv p4, iv p5, iv 3, rv b1, .unset, .unset, .unset, .unset, .unset] [(.int d3), (.int d2), (.int d1), (.int d0), (.int (3 : Int32))]) t
      exact st28 t k)
  have ch31 : ∀ t, SP p e below T28 (mkF m 68 #[iv p1, iv p2, iv p3, iv p4, iv p5, iv 3, rv b1, rv si, iv (-1), .unset, .unset, .unset] []) t → SP p e below s₁ (entryFrame m #[(.int p1), (.int p2), (.int p3), (.int p4), (.int p5)] maxLocals) t := fun t k => ch29 t (by
      show SP p e below T28 (mkF m 63 #[iv p1, iv p2, iv p3, iv p4, iv p5, iv 3, rv b1, .unset, .unset, .unset, .unset, .unset] [(.ref si)]) t
      refine XS.astore X28.here hx rfl (hb hby at_63) rfl rfl (l' := #[iv p1, iv p2, iv p3, iv p4, iv p5, iv 3, rv b1, rv si, .unset, .unset, .unset, .unset]) rfl ?_
      refine XS.iconst X28.here hx rfl (hb hby at_65) ?_
      show SP p e below T28 (mkF m 66 #[iv p1, iv p2, iv p3, iv p4, iv p5, iv 3, rv b1, rv si, .unset, .unset, .unset, .unset] [(.int (-1 : Int32))]) t
      refine XS.istore X28.here hx rfl (hb hby at_66) rfl (l' := #[iv p1, iv p2, iv p3, iv p4, iv p5, iv 3, rv b1, rv si, iv (-1), .unset, .unset, .unset]) rfl ?_
      exact k)
  by_cases hq30 : d0 = (35 : Int32)
  · skip
    have ch32 : ∀ t, SP p e below T28 (mkF m 86 #[iv p1, iv p2, iv p3, iv p4, iv p5, iv 3, rv b1, rv si, iv (-1), .unset, .unset, .unset] []) t → SP p e below s₁ (entryFrame m #[(.int p1), (.int p2), (.int p3), (.int p4), (.int p5)] maxLocals) t := fun t k => ch31 t (by
        show SP p e below T28 (mkF m 68 #[iv p1, iv p2, iv p3, iv p4, iv p5, iv 3, rv b1, rv si, iv (-1), .unset, .unset, .unset] []) t
        refine XS.iload X28.here hx rfl (hb hby at_68) rfl ?_
        refine XS.iconst X28.here hx rfl (hb hby at_70) ?_
        refine XS.icmpYes X28.here hx rfl (pc0 := 71) (pc' := 86) rfl (hb hby at_71) rfl (flt (by decide : ¬ (3 : Int32) < (3 : Int32))).2.2.2 (by decide) (by decide) ?_
        exact k)
    obtain ⟨wv2, sj33⟩ : ∃ wv2 : Int32, ∀ t, SP p e below T28 (mkF m 104 #[iv p1, iv p2, iv p3, iv p4, iv p5, iv 3, rv b1, rv si, iv wv2, .unset, .unset, .unset] []) t → SP p e below T28 (mkF m 86 #[iv p1, iv p2, iv p3, iv p4, iv p5, iv 3, rv b1, rv si, iv (-1), .unset, .unset, .unset] []) t := by
      have cf34 := (V21.keep Kq28 nin0)
      obtain ⟨cl35, Ar35, -, Sz35, Ng35, Ha35, -⟩ := id cf34
      have hin35 : ¬ ((2 : Int32) < 0 ∨ cl35.slots.size ≤ ((2 : Int32)).toNatClampNeg) := inb_of Sz35 (by decide)
      have hat35 : cl35.slots[((2 : Int32)).toNatClampNeg]? = some (.int d2) := Ha35.at hin35 rfl
      by_cases hq36 : d2 = (35 : Int32)
      · skip
        refine ⟨(2 : Int32), fun t k => ?_⟩
        show SP p e below T28 (mkF m 86 #[iv p1, iv p2, iv p3, iv p4, iv p5, iv 3, rv b1, rv si, iv (-1), .unset, .unset, .unset] []) t
        refine XS.iload X28.here hx rfl (hb hby at_86) rfl ?_
        refine XS.iconst X28.here hx rfl (hb hby at_88) ?_
        refine XS.icmpNo X28.here hx rfl (hb hby at_89) rfl (tlt (by decide : (2 : Int32) < (3 : Int32))).2.2.2 ?_
        refine XS.aload X28.here hx rfl (hb hby at_92) rfl rfl ?_
        refine XS.iconst X28.here hx rfl (hb hby at_94) ?_
        refine X28.caload hx (j := (2 : Int32)) (v := (.int d2)) (by rw [eh28]; exact Ar35.1) (State.isArrayOf_alike hZ.alike Ar35.2.1) Ar35.2.2 hin35 hat35 (g := (mkF m 95 #[iv p1, iv p2, iv p3, iv p4, iv p5, iv 3, rv b1, rv si, iv (-1), .unset, .unset, .unset] [(.int (2 : Int32)), (.ref b1)])) rfl rfl (hb hby at_95) _ ?_
        refine XS.bipush X28.here hx rfl (hb hby at_96) ?_
        refine XS.icmpNo X28.here hx rfl (hb hby at_98) rfl (teq hq36).2 ?_
        refine XS.iconst X28.here hx rfl (hb hby at_101) ?_
        refine XS.istore X28.here hx rfl (hb hby at_102) rfl (l' := #[iv p1, iv p2, iv p3, iv p4, iv p5, iv 3, rv b1, rv si, iv 2, .unset, .unset, .unset]) rfl ?_
        exact k
      · skip
        refine ⟨(-1 : Int32), fun t k => ?_⟩
        show SP p e below T28 (mkF m 86 #[iv p1, iv p2, iv p3, iv p4, iv p5, iv 3, rv b1, rv si, iv (-1), .unset, .unset, .unset] []) t
        refine XS.iload X28.here hx rfl (hb hby at_86) rfl ?_
        refine XS.iconst X28.here hx rfl (hb hby at_88) ?_
        refine XS.icmpNo X28.here hx rfl (hb hby at_89) rfl (tlt (by decide : (2 : Int32) < (3 : Int32))).2.2.2 ?_
        refine XS.aload X28.here hx rfl (hb hby at_92) rfl rfl ?_
        refine XS.iconst X28.here hx rfl (hb hby at_94) ?_
        refine X28.caload hx (j := (2 : Int32)) (v := (.int d2)) (by rw [eh28]; exact Ar35.1) (State.isArrayOf_alike hZ.alike Ar35.2.1) Ar35.2.2 hin35 hat35 (g := (mkF m 95 #[iv p1, iv p2, iv p3, iv p4, iv p5, iv 3, rv b1, rv si, iv (-1), .unset, .unset, .unset] [(.int (2 : Int32)), (.ref b1)])) rfl rfl (hb hby at_95) _ ?_
        refine XS.bipush X28.here hx rfl (hb hby at_96) ?_
        refine XS.icmpYes X28.here hx rfl (pc0 := 98) (pc' := 104) rfl (hb hby at_98) rfl (feq hq36).2 (by decide) (by decide) ?_
        exact k
    have ch37 : ∀ t, SP p e below T28 (mkF m 104 #[iv p1, iv p2, iv p3, iv p4, iv p5, iv 3, rv b1, rv si, iv wv2, .unset, .unset, .unset] []) t → SP p e below s₁ (entryFrame m #[(.int p1), (.int p2), (.int p3), (.int p4), (.int p5)] maxLocals) t := fun t k => ch32 t (sj33 t k)
    obtain ⟨wv1, sj38⟩ : ∃ wv1 : Int32, ∀ t, SP p e below T28 (mkF m 122 #[iv p1, iv p2, iv p3, iv p4, iv p5, iv 3, rv b1, rv si, iv wv1, .unset, .unset, .unset] []) t → SP p e below T28 (mkF m 104 #[iv p1, iv p2, iv p3, iv p4, iv p5, iv 3, rv b1, rv si, iv wv2, .unset, .unset, .unset] []) t := by
      have cf39 := (V21.keep Kq28 nin0)
      obtain ⟨cl40, Ar40, -, Sz40, Ng40, Ha40, -⟩ := id cf39
      have hin40 : ¬ ((1 : Int32) < 0 ∨ cl40.slots.size ≤ ((1 : Int32)).toNatClampNeg) := inb_of Sz40 (by decide)
      have hat40 : cl40.slots[((1 : Int32)).toNatClampNeg]? = some (.int d1) := Ha40.at hin40 rfl
      by_cases hq41 : d1 = (35 : Int32)
      · skip
        refine ⟨(1 : Int32), fun t k => ?_⟩
        show SP p e below T28 (mkF m 104 #[iv p1, iv p2, iv p3, iv p4, iv p5, iv 3, rv b1, rv si, iv wv2, .unset, .unset, .unset] []) t
        refine XS.iload X28.here hx rfl (hb hby at_104) rfl ?_
        refine XS.iconst X28.here hx rfl (hb hby at_106) ?_
        refine XS.icmpNo X28.here hx rfl (hb hby at_107) rfl (tlt (by decide : (1 : Int32) < (3 : Int32))).2.2.2 ?_
        refine XS.aload X28.here hx rfl (hb hby at_110) rfl rfl ?_
        refine XS.iconst X28.here hx rfl (hb hby at_112) ?_
        refine X28.caload hx (j := (1 : Int32)) (v := (.int d1)) (by rw [eh28]; exact Ar40.1) (State.isArrayOf_alike hZ.alike Ar40.2.1) Ar40.2.2 hin40 hat40 (g := (mkF m 113 #[iv p1, iv p2, iv p3, iv p4, iv p5, iv 3, rv b1, rv si, iv wv2, .unset, .unset, .unset] [(.int (1 : Int32)), (.ref b1)])) rfl rfl (hb hby at_113) _ ?_
        refine XS.bipush X28.here hx rfl (hb hby at_114) ?_
        refine XS.icmpNo X28.here hx rfl (hb hby at_116) rfl (teq hq41).2 ?_
        refine XS.iconst X28.here hx rfl (hb hby at_119) ?_
        refine XS.istore X28.here hx rfl (hb hby at_120) rfl (l' := #[iv p1, iv p2, iv p3, iv p4, iv p5, iv 3, rv b1, rv si, iv 1, .unset, .unset, .unset]) rfl ?_
        exact k
      · skip
        refine ⟨wv2, fun t k => ?_⟩
        show SP p e below T28 (mkF m 104 #[iv p1, iv p2, iv p3, iv p4, iv p5, iv 3, rv b1, rv si, iv wv2, .unset, .unset, .unset] []) t
        refine XS.iload X28.here hx rfl (hb hby at_104) rfl ?_
        refine XS.iconst X28.here hx rfl (hb hby at_106) ?_
        refine XS.icmpNo X28.here hx rfl (hb hby at_107) rfl (tlt (by decide : (1 : Int32) < (3 : Int32))).2.2.2 ?_
        refine XS.aload X28.here hx rfl (hb hby at_110) rfl rfl ?_
        refine XS.iconst X28.here hx rfl (hb hby at_112) ?_
        refine X28.caload hx (j := (1 : Int32)) (v := (.int d1)) (by rw [eh28]; exact Ar40.1) (State.isArrayOf_alike hZ.alike Ar40.2.1) Ar40.2.2 hin40 hat40 (g := (mkF m 113 #[iv p1, iv p2, iv p3, iv p4, iv p5, iv 3, rv b1, rv si, iv wv2, .unset, .unset, .unset] [(.int (1 : Int32)), (.ref b1)])) rfl rfl (hb hby at_113) _ ?_
        refine XS.bipush X28.here hx rfl (hb hby at_114) ?_
        refine XS.icmpYes X28.here hx rfl (pc0 := 116) (pc' := 122) rfl (hb hby at_116) rfl (feq hq41).2 (by decide) (by decide) ?_
        exact k
    have ch42 : ∀ t, SP p e below T28 (mkF m 122 #[iv p1, iv p2, iv p3, iv p4, iv p5, iv 3, rv b1, rv si, iv wv1, .unset, .unset, .unset] []) t → SP p e below s₁ (entryFrame m #[(.int p1), (.int p2), (.int p3), (.int p4), (.int p5)] maxLocals) t := fun t k => ch37 t (sj38 t k)
    have cf43 := (V21.keep Kq28 nin0)
    obtain ⟨cl44, Ar44, -, Sz44, Ng44, Ha44, -⟩ := id cf43
    have hin44 : ¬ ((0 : Int32) < 0 ∨ cl44.slots.size ≤ ((0 : Int32)).toNatClampNeg) := inb_of Sz44 (by decide)
    have hat44 : cl44.slots[((0 : Int32)).toNatClampNeg]? = some (.int d0) := Ha44.at hin44 rfl
    have cf45 := (own_sta_keep cf27 Kq28 all0)
    have cf46 := (own_sta_keep S_F Kp28 all0)
    obtain ⟨vv47, _, ⟨T47, L47, kk47, nn47⟩, -, X47, ⟨Lc47, hQ47, l47, y47, z47⟩, st47⟩ := Jvm.LawKit.callS X28 hx (y := ym0) hown (mvT hZ (own_wi hw 30 rfl)) (mvT hZ (own_wi hw 31 rfl)) (mvT hZ (own_wi hw 32 rfl)) (mvT hZ (own_wi hw 33 rfl)) (by decide) (backOf (W := 0) (own_fr_30 l Z a0 hw hh28 n0 (Nat.le_trans Z0 Kp28.1) si ti ki (d0.toInt8.toInt32) (d1.toInt8.toInt32) (d2.toInt8.toInt32) fq28_0 fq28_1 fq28_2 fq28_3  (own_y35 hq30) zC cf45 P5 vF hvF cf46) hZ (own_wi hw 33 rfl) (own_wi hw 32 rfl) (by decide) (by decide)) (g := (mkF m 141 #[iv p1, iv p2, iv p3, iv p4, iv p5, iv 3, rv b1, rv si, iv 0, .unset, .unset, .unset] [(.ref si)])) rfl (by rw [hml]; rfl) (argsL := [(.ref si)]) (rest := []) (lenOf own_pd__Ljava_lang_String__Ljava_lang_String_ rfl) rfl (by show 2 * 0 + _ ≤ _; exact Nat.le_of_eq rfl) (hb hby at_141) (fun _ _ => ⟨rfl, eh28, (by decide : 4 + 2 ≤ _), (by decide : 14 + 8 ≤ _)⟩)
    dsimp only [Pt.U, Pt.locs, Pt.cells, Pt.slots] at X47 l47 y47 z47 st47 hQ47
    subst l47 y47 z47
    obtain ⟨hh47, eh47⟩ : ∃ h, T47.heap = h := ⟨_, rfl⟩
    rw [eh47] at hQ47
    obtain ⟨sr, tr, kr, rfl, zq47, Nq47, Kq47, fq47_0, fq47_1, fq47_2, fq47_3⟩ := hQ47
    have N47 := Fr.app N28 Nq47
    have hk := Nat.le_trans hk Kq47.1
    have ne_b1_sr : b1 ≠ sr := Nat.ne_of_lt (Nat.lt_of_lt_of_le cf43.lt zq47)
    have ne_si_sr : si ≠ sr := Nat.ne_of_lt (Nat.lt_of_lt_of_le fq28_0.lt zq47)
    have ne_ti_sr : ti ≠ sr := Nat.ne_of_lt (Nat.lt_of_lt_of_le fq28_3.lt zq47)
    have g_sr : n0 ≤ sr := Nat.le_trans (Nat.le_trans Z0 Kp28.1) zq47
    have sz_sr : h0.size ≤ sr := Nat.le_trans Kp28.1 zq47
    have Kp47 := Keep.trans Kp28 Kq47 all0
    have ch48 : ∀ t, SP p e below T47 (mkF m 144 #[iv p1, iv p2, iv p3, iv p4, iv p5, iv 3, rv b1, rv si, iv 0, .unset, .unset, .unset] [(.ref sr)]) t → SP p e below s₁ (entryFrame m #[(.int p1), (.int p2), (.int p3), (.int p4), (.int p5)] maxLocals) t := fun t k => ch42 t (by
        show SP p e below T28 (mkF m 122 #[iv p1, iv p2, iv p3, iv p4, iv p5, iv 3, rv b1, rv si, iv wv1, .unset, .unset, .unset] []) t
        refine XS.iload X28.here hx rfl (hb hby at_122) rfl ?_
        refine XS.ifNo X28.here hx rfl (hb hby at_124) rfl ((if0 _ _).trans (tlt (by decide : (0 : Int32) < (3 : Int32))).2.2.2) ?_
        refine XS.aload X28.here hx rfl (hb hby at_127) rfl rfl ?_
        refine XS.iconst X28.here hx rfl (hb hby at_129) ?_
        refine X28.caload hx (j := (0 : Int32)) (v := (.int d0)) (by rw [eh28]; exact Ar44.1) (State.isArrayOf_alike hZ.alike Ar44.2.1) Ar44.2.2 hin44 hat44 (g := (mkF m 130 #[iv p1, iv p2, iv p3, iv p4, iv p5, iv 3, rv b1, rv si, iv wv1, .unset, .unset, .unset] [(.int (0 : Int32)), (.ref b1)])) rfl rfl (hb hby at_130) _ ?_
        refine XS.bipush X28.here hx rfl (hb hby at_131) ?_
        refine XS.icmpNo X28.here hx rfl (hb hby at_133) rfl (teq hq30).2 ?_
        refine XS.iconst X28.here hx rfl (hb hby at_136) ?_
        refine XS.istore X28.here hx rfl (hb hby at_137) rfl (l' := #[iv p1, iv p2, iv p3, iv p4, iv p5, iv 3, rv b1, rv si, iv 0, .unset, .unset, .unset]) rfl ?_
        refine XS.aload X28.here hx rfl (hb hby at_139) rfl rfl ?_
        show SP p e below T28 (mkF m 141 #[iv p1, iv p2, iv p3, iv p4, iv p5, iv 3, rv b1, rv si, iv 0, .unset, .unset, .unset] [(.ref si)]) t
        exact st47 t k)
    have cf49 := (own_sta_keep cf45 Kq47 all0)
    obtain ⟨cq50, kq50, qa50, qb50, qc50⟩ := isOf hZ eh47 fq47_0
    obtain ⟨vv51, _, ⟨T51, L51, kk51, nn51⟩, -, X51, ⟨Lc51, hQ51, l51, y51, z51⟩, st51⟩ := X47.virtualBack hx (y := ym15) (z := ym15) hown (mvT hZ (own_wi hw 109 rfl)) (mvT hZ (own_wi hw 51 rfl)) (notFace_of_selects (args := #[]) (mvT hZ (own_wi hw 53 rfl))) (mvT hZ (own_wi hw 53 rfl)) (mvT hZ (own_wi hw 52 rfl)) (by decide) (backOf (W := 0) (own_ln l Z a0 hw [] hh47 n0 (Nat.le_trans Z0 Kp47.1) sr tr kr (2 : Int32) [(.int (d1.toInt8.toInt32)), (.int (d2.toInt8.toInt32))] fq47_0 fq47_1 fq47_2 fq47_3 zC cf49 P5) hZ (own_wi hw 54 rfl) (own_wi hw 11 rfl) (by decide) (by decide)) qa50 qc50 (g := (mkF m 180 #[iv p1, iv p2, iv p3, iv p4, iv p5, iv 3, rv b1, rv si, iv 0, rv sr, iv 2, .unset] [(.ref sr)])) rfl (by rw [hml]; rfl) (Steps.refl _) (argsL := []) (rest := []) (lenOf own_pd___I rfl) rfl (by show 2 * 0 + _ ≤ _; exact Nat.le_of_eq rfl) (hb hby at_180) (fun _ _ => ⟨rfl, eh47, (by decide : 6 + 0 ≤ _), (by decide : 22 + 0 ≤ _)⟩)
    dsimp only [Pt.U, Pt.locs, Pt.cells, Pt.slots] at X51 l51 y51 z51 st51 hQ51
    subst l51 y51 z51
    obtain ⟨rfl, Nq51, e51⟩ := hQ51
    have N51 := Fr.app N47 Nq51
    have ch52 : ∀ t, SP p e below T51 (mkF m 183 #[iv p1, iv p2, iv p3, iv p4, iv p5, iv 3, rv b1, rv si, iv 0, rv sr, iv 2, .unset] [(.int (2 : Int32))]) t → SP p e below s₁ (entryFrame m #[(.int p1), (.int p2), (.int p3), (.int p4), (.int p5)] maxLocals) t := fun t k => ch48 t (by
        show SP p e below T47 (mkF m 144 #[iv p1, iv p2, iv p3, iv p4, iv p5, iv 3, rv b1, rv si, iv 0, .unset, .unset, .unset] [(.ref sr)]) t
        refine XS.astore X47.here hx rfl (hb hby at_144) rfl rfl (l' := #[iv p1, iv p2, iv p3, iv p4, iv p5, iv 3, rv b1, rv si, iv 0, rv sr, .unset, .unset]) rfl ?_
        show SP p e below T47 (mkF m 146 #[iv p1, iv p2, iv p3, iv p4, iv p5, iv 3, rv b1, rv si, iv 0, rv sr, .unset, .unset] []) t
        refine XS.iload X47.here hx rfl (hb hby at_146) rfl ?_
        refine XS.ifYes X47.here hx rfl (pc0 := 148) (pc' := 162) rfl (hb hby at_148) rfl ((if0 _ _).trans (flt (by decide : ¬ (0 : Int32) < (0 : Int32))).2.1) (by decide) (by decide) ?_
        refine XS.aload X47.here hx rfl (hb hby at_162) rfl rfl ?_
        refine XS.ifnonnullYes X47.here hx rfl (pc0 := 164) (pc' := 169) rfl (hb hby at_164) rfl (by decide) (by decide) ?_
        refine XS.iload X47.here hx rfl (hb hby at_169) rfl ?_
        refine XS.iload X47.here hx rfl (hb hby at_171) rfl ?_
        show SP p e below T47 (mkF m 173 #[iv p1, iv p2, iv p3, iv p4, iv p5, iv 3, rv b1, rv si, iv 0, rv sr, .unset, .unset] [(.int (0 : Int32)), (.int (3 : Int32))]) t
        refine XS.isub X47.here hx rfl (hb hby at_173) rfl ?_
        rw [show ((3 : Int32) - (0 : Int32)) = (3 : Int32) from by decide]
        refine XS.iconst X47.here hx rfl (hb hby at_174) ?_
        show SP p e below T47 (mkF m 175 #[iv p1, iv p2, iv p3, iv p4, iv p5, iv 3, rv b1, rv si, iv 0, rv sr, .unset, .unset] [(.int (1 : Int32)), (.int (3 : Int32))]) t
        refine XS.isub X47.here hx rfl (hb hby at_175) rfl ?_
        rw [show ((3 : Int32) - (1 : Int32)) = (2 : Int32) from by decide]
        refine XS.istore X47.here hx rfl (hb hby at_176) rfl (l' := #[iv p1, iv p2, iv p3, iv p4, iv p5, iv 3, rv b1, rv si, iv 0, rv sr, iv 2, .unset]) rfl ?_
        refine XS.aload X47.here hx rfl (hb hby at_178) rfl rfl ?_
        show SP p e below T47 (mkF m 180 #[iv p1, iv p2, iv p3, iv p4, iv p5, iv 3, rv b1, rv si, iv 0, rv sr, iv 2, .unset] [(.ref sr)]) t
        exact st51.trans k)
    have cf53 := (own_sta_keep cf46 Kq47 all0)
    obtain ⟨cq54, kq54, qa54, qb54, qc54⟩ := isOf hZ e51 fq47_0
    obtain ⟨vv55, _, ⟨T55, L55, kk55, nn55⟩, -, X55, ⟨Lc55, hQ55, l55, y55, z55⟩, st55⟩ := X51.virtualBack hx (y := ym8) (z := ym8) hown (mvT hZ (own_wi hw 129 rfl)) (mvT hZ (own_wi hw 130 rfl)) (notFace_of_selects (args := #[]) (mvT hZ (own_wi hw 132 rfl))) (mvT hZ (own_wi hw 132 rfl)) (mvT hZ (own_wi hw 131 rfl)) (by decide) (backOf (W := 0) (own_cat l Z a0 hw [] hh47 n0 (Nat.le_trans Z0 Kp47.1) sr tr kr (2 : Int32) [(.int (d1.toInt8.toInt32)), (.int (d2.toInt8.toInt32))] fq47_0 fq47_1 fq47_2 fq47_3 (0 : Int32) d1 (own_narc r1) (own_l1c_20 l Z a0 hw [] hh47 n0 (Nat.le_trans Z0 Kp47.1) tr kr (d1.toInt8.toInt32) (d2.toInt8.toInt32) fq47_3 d1 (own_back r1) (own_narc r1) vF hvF cf53) zC cf49 P5) hZ (own_wi hw 133 rfl) (own_wi hw 11 rfl) (by decide) (by decide)) qa54 qc54 (g := (mkF m 206 #[iv p1, iv p2, iv p3, iv p4, iv p5, iv 3, rv b1, rv si, iv 0, rv sr, iv 2, iv 1] [(.int (0 : Int32)), (.ref sr)])) rfl (by rw [hml]; rfl) (Steps.refl _) (argsL := [(.int (0 : Int32))]) (rest := []) (lenOf own_pd__I_C rfl) rfl (by show 2 * 0 + _ ≤ _; exact Nat.le_of_eq rfl) (hb hby at_206) (fun _ _ => ⟨rfl, e51, (by decide : 6 + 0 ≤ _), (by decide : 22 + 0 ≤ _)⟩)
    dsimp only [Pt.U, Pt.locs, Pt.cells, Pt.slots] at X55 l55 y55 z55 st55 hQ55
    subst l55 y55 z55
    obtain ⟨rfl, Nq55, e55⟩ := hQ55
    have N55 := Fr.app N51 Nq55
    have ch56 : ∀ t, SP p e below T55 (mkF m 209 #[iv p1, iv p2, iv p3, iv p4, iv p5, iv 3, rv b1, rv si, iv 0, rv sr, iv 2, iv 1] [(.int d1)]) t → SP p e below s₁ (entryFrame m #[(.int p1), (.int p2), (.int p3), (.int p4), (.int p5)] maxLocals) t := fun t k => ch52 t (by
        show SP p e below T51 (mkF m 183 #[iv p1, iv p2, iv p3, iv p4, iv p5, iv 3, rv b1, rv si, iv 0, rv sr, iv 2, .unset] [(.int (2 : Int32))]) t
        refine XS.iload X51.here hx rfl (hb hby at_183) rfl ?_
        refine XS.icmpYes X51.here hx rfl (pc0 := 185) (pc' := 190) rfl (hb hby at_185) rfl (teq (by decide : (2 : Int32) = (2 : Int32))).1 (by decide) (by decide) ?_
        refine XS.iconst X51.here hx rfl (hb hby at_190) ?_
        show SP p e below T51 (mkF m 191 #[iv p1, iv p2, iv p3, iv p4, iv p5, iv 3, rv b1, rv si, iv 0, rv sr, iv 2, .unset] [(.int (1 : Int32))]) t
        refine XS.istore X51.here hx rfl (hb hby at_191) rfl (l' := #[iv p1, iv p2, iv p3, iv p4, iv p5, iv 3, rv b1, rv si, iv 0, rv sr, iv 2, iv 1]) rfl ?_
        refine XS.iload X51.here hx rfl (hb hby at_193) rfl ?_
        refine XS.ifNo X51.here hx rfl (hb hby at_195) rfl ((if0 _ _).trans (tlt (by decide : (0 : Int32) < (2 : Int32))).2.2.2) ?_
        refine XS.iload X51.here hx rfl (hb hby at_198) rfl ?_
        refine XS.ifNo X51.here hx rfl (hb hby at_200) rfl ((if0 _ _).trans (feq (by decide : ¬ (1 : Int32) = (0 : Int32))).1) ?_
        refine XS.aload X51.here hx rfl (hb hby at_203) rfl rfl ?_
        refine XS.iconst X51.here hx rfl (hb hby at_205) ?_
        show SP p e below T51 (mkF m 206 #[iv p1, iv p2, iv p3, iv p4, iv p5, iv 3, rv b1, rv si, iv 0, rv sr, iv 2, iv 1] [(.int (0 : Int32)), (.ref sr)]) t
        exact st55.trans k)
    have cf57 := (cf43.keep Kq47 nin0)
    obtain ⟨cl58, Ar58, -, Sz58, Ng58, Ha58, -⟩ := id cf57
    have hin58 : ¬ ((1 : Int32) < 0 ∨ cl58.slots.size ≤ ((1 : Int32)).toNatClampNeg) := inb_of Sz58 (by decide)
    have hat58 : cl58.slots[((1 : Int32)).toNatClampNeg]? = some (.int d1) := Ha58.at hin58 rfl
    obtain ⟨cq59, kq59, qa59, qb59, qc59⟩ := isOf hZ e55 fq47_0
    obtain ⟨vv60, _, ⟨T60, L60, kk60, nn60⟩, -, X60, ⟨Lc60, hQ60, l60, y60, z60⟩, st60⟩ := X55.virtualBack hx (y := ym8) (z := ym8) hown (mvT hZ (own_wi hw 129 rfl)) (mvT hZ (own_wi hw 130 rfl)) (notFace_of_selects (args := #[]) (mvT hZ (own_wi hw 132 rfl))) (mvT hZ (own_wi hw 132 rfl)) (mvT hZ (own_wi hw 131 rfl)) (by decide) (backOf (W := 0) (own_cat l Z a0 hw [] hh47 n0 (Nat.le_trans Z0 Kp47.1) sr tr kr (2 : Int32) [(.int (d1.toInt8.toInt32)), (.int (d2.toInt8.toInt32))] fq47_0 fq47_1 fq47_2 fq47_3 (1 : Int32) d2 (own_narc r2) (own_l1c_21 l Z a0 hw [] hh47 n0 (Nat.le_trans Z0 Kp47.1) tr kr (d1.toInt8.toInt32) (d2.toInt8.toInt32) fq47_3 d2 (own_back r2) (own_narc r2) vF hvF cf53) zC cf49 P5) hZ (own_wi hw 133 rfl) (own_wi hw 11 rfl) (by decide) (by decide)) qa59 qc59 (g := (mkF m 240 #[iv p1, iv p2, iv p3, iv p4, iv p5, iv 3, rv b1, rv si, iv 0, rv sr, iv 2, iv 1] [(.int (1 : Int32)), (.ref sr)])) rfl (by rw [hml]; rfl) (Steps.refl _) (argsL := [(.int (1 : Int32))]) (rest := []) (lenOf own_pd__I_C rfl) rfl (by show 2 * 0 + _ ≤ _; exact Nat.le_of_eq rfl) (hb hby at_240) (fun _ _ => ⟨rfl, e55, (by decide : 6 + 0 ≤ _), (by decide : 22 + 0 ≤ _)⟩)
    dsimp only [Pt.U, Pt.locs, Pt.cells, Pt.slots] at X60 l60 y60 z60 st60 hQ60
    subst l60 y60 z60
    obtain ⟨rfl, Nq60, e60⟩ := hQ60
    have N60 := Fr.app N55 Nq60
    have ch61 : ∀ t, SP p e below T60 (mkF m 243 #[iv p1, iv p2, iv p3, iv p4, iv p5, iv 3, rv b1, rv si, iv 0, rv sr, iv 2, iv 1] [(.int d2)]) t → SP p e below s₁ (entryFrame m #[(.int p1), (.int p2), (.int p3), (.int p4), (.int p5)] maxLocals) t := fun t k => ch56 t (by
        show SP p e below T55 (mkF m 209 #[iv p1, iv p2, iv p3, iv p4, iv p5, iv 3, rv b1, rv si, iv 0, rv sr, iv 2, iv 1] [(.int d1)]) t
        refine XS.aload X55.here hx rfl (hb hby at_209) rfl rfl ?_
        refine XS.iload X55.here hx rfl (hb hby at_211) rfl ?_
        refine XS.iconst X55.here hx rfl (hb hby at_213) ?_
        show SP p e below T55 (mkF m 214 #[iv p1, iv p2, iv p3, iv p4, iv p5, iv 3, rv b1, rv si, iv 0, rv sr, iv 2, iv 1] [(.int (1 : Int32)), (.int (0 : Int32)), (.ref b1), (.int d1)]) t
        refine XS.iadd X55.here hx rfl (hb hby at_214) rfl ?_
        rw [show ((0 : Int32) + (1 : Int32)) = (1 : Int32) from by decide]
        refine X55.caload hx (j := (1 : Int32)) (v := (.int d1)) (by rw [e55]; exact Ar58.1) (State.isArrayOf_alike hZ.alike Ar58.2.1) Ar58.2.2 hin58 hat58 (g := (mkF m 215 #[iv p1, iv p2, iv p3, iv p4, iv p5, iv 3, rv b1, rv si, iv 0, rv sr, iv 2, iv 1] [(.int (1 : Int32)), (.ref b1), (.int d1)])) rfl rfl (hb hby at_215) _ ?_
        refine XS.icmpNo X55.here hx rfl (hb hby at_216) rfl (teq (rfl : d1 = d1)).2 ?_
        refine XS.iconst X55.here hx rfl (hb hby at_219) ?_
        refine XS.goto X55.here hx rfl (pc0 := 220) (pc' := 224) rfl (hb hby at_220) (by decide) (by decide) ?_
        show SP p e below T55 (mkF m 224 #[iv p1, iv p2, iv p3, iv p4, iv p5, iv 3, rv b1, rv si, iv 0, rv sr, iv 2, iv 1] [(.int (1 : Int32))]) t
        refine XS.istore X55.here hx rfl (hb hby at_224) rfl (l' := #[iv p1, iv p2, iv p3, iv p4, iv p5, iv 3, rv b1, rv si, iv 0, rv sr, iv 2, iv 1]) rfl ?_
        refine XS.iload X55.here hx rfl (hb hby at_226) rfl ?_
        refine XS.iconst X55.here hx rfl (hb hby at_228) ?_
        refine XS.icmpNo X55.here hx rfl (hb hby at_229) rfl (tlt (by decide : (1 : Int32) < (2 : Int32))).2.2.2 ?_
        refine XS.iload X55.here hx rfl (hb hby at_232) rfl ?_
        refine XS.ifNo X55.here hx rfl (hb hby at_234) rfl ((if0 _ _).trans (feq (by decide : ¬ (1 : Int32) = (0 : Int32))).1) ?_
        refine XS.aload X55.here hx rfl (hb hby at_237) rfl rfl ?_
        refine XS.iconst X55.here hx rfl (hb hby at_239) ?_
        show SP p e below T55 (mkF m 240 #[iv p1, iv p2, iv p3, iv p4, iv p5, iv 3, rv b1, rv si, iv 0, rv sr, iv 2, iv 1] [(.int (1 : Int32)), (.ref sr)]) t
        exact st60.trans k)
    obtain ⟨cl62, Ar62, -, Sz62, Ng62, Ha62, -⟩ := id cf57
    have hin62 : ¬ ((2 : Int32) < 0 ∨ cl62.slots.size ≤ ((2 : Int32)).toNatClampNeg) := inb_of Sz62 (by decide)
    have hat62 : cl62.slots[((2 : Int32)).toNatClampNeg]? = some (.int d2) := Ha62.at hin62 rfl
    have ch63 : ∀ t, SP p e below T60 (mkF m 296 #[iv p1, iv p2, iv p3, iv p4, iv p5, iv 3, rv b1, rv si, iv 0, rv sr, iv 2, iv 1] [(.int (1 : Int32))]) t → SP p e below s₁ (entryFrame m #[(.int p1), (.int p2), (.int p3), (.int p4), (.int p5)] maxLocals) t := fun t k => ch61 t (by
        show SP p e below T60 (mkF m 243 #[iv p1, iv p2, iv p3, iv p4, iv p5, iv 3, rv b1, rv si, iv 0, rv sr, iv 2, iv 1] [(.int d2)]) t
        refine XS.aload X60.here hx rfl (hb hby at_243) rfl rfl ?_
        refine XS.iload X60.here hx rfl (hb hby at_245) rfl ?_
        refine XS.iconst X60.here hx rfl (hb hby at_247) ?_
        show SP p e below T60 (mkF m 248 #[iv p1, iv p2, iv p3, iv p4, iv p5, iv 3, rv b1, rv si, iv 0, rv sr, iv 2, iv 1] [(.int (2 : Int32)), (.int (0 : Int32)), (.ref b1), (.int d2)]) t
        refine XS.iadd X60.here hx rfl (hb hby at_248) rfl ?_
        rw [show ((0 : Int32) + (2 : Int32)) = (2 : Int32) from by decide]
        refine X60.caload hx (j := (2 : Int32)) (v := (.int d2)) (by rw [e60]; exact Ar62.1) (State.isArrayOf_alike hZ.alike Ar62.2.1) Ar62.2.2 hin62 hat62 (g := (mkF m 249 #[iv p1, iv p2, iv p3, iv p4, iv p5, iv 3, rv b1, rv si, iv 0, rv sr, iv 2, iv 1] [(.int (2 : Int32)), (.ref b1), (.int d2)])) rfl rfl (hb hby at_249) _ ?_
        refine XS.icmpNo X60.here hx rfl (hb hby at_250) rfl (teq (rfl : d2 = d2)).2 ?_
        refine XS.iconst X60.here hx rfl (hb hby at_253) ?_
        show SP p e below T60 (mkF m 254 #[iv p1, iv p2, iv p3, iv p4, iv p5, iv 3, rv b1, rv si, iv 0, rv sr, iv 2, iv 1] [(.int (1 : Int32))]) t
        refine XS.goto X60.here hx rfl (pc0 := 254) (pc' := 258) rfl (hb hby at_254) (by decide) (by decide) ?_
        refine XS.istore X60.here hx rfl (hb hby at_258) rfl (l' := #[iv p1, iv p2, iv p3, iv p4, iv p5, iv 3, rv b1, rv si, iv 0, rv sr, iv 2, iv 1]) rfl ?_
        refine XS.iload X60.here hx rfl (hb hby at_260) rfl ?_
        refine XS.iconst X60.here hx rfl (hb hby at_262) ?_
        refine XS.icmpYes X60.here hx rfl (pc0 := 263) (pc' := 294) rfl (hb hby at_263) rfl (flt (by decide : ¬ (2 : Int32) < (2 : Int32))).2.2.2 (by decide) (by decide) ?_
        refine XS.iload X60.here hx rfl (hb hby at_294) rfl ?_
        exact k)
    obtain ⟨fs, hr, hrun, hended, hend⟩ := X60.leaveW hS (by rw [e60]; exact hk) (v := some (.int (1 : Int32))) (fun h => by rw [Bd.returns] at h; cases h)
    refine ⟨_, _, ch63 _ ?_, hrun, hended, _, _, rfl, ?_, hend.1, hend.2.1, hend.2.2.1, hend.2.2.2.mono (by decide) (by decide)⟩
    · show Steps p.tables e below (T60.setTop (mkF m 296 #[iv p1, iv p2, iv p3, iv p4, iv p5, iv 3, rv b1, rv si, iv 0, rv sr, iv 2, iv 1] [(.int (1 : Int32))])) _
      exact retN X60 hx (t := .boolean) Bd.returns (by simp) (hb hby at_296) hr
    · show QN (some (.int (1 : Int32))) n0 _ T60.heap _
      rw [e60]
      exact ⟨rfl, N60⟩
  · skip
    by_cases hq64 : d1 = (35 : Int32)
    · skip
      have ch65 : ∀ t, SP p e below T28 (mkF m 86 #[iv p1, iv p2, iv p3, iv p4, iv p5, iv 3, rv b1, rv si, iv (-1), .unset, .unset, .unset] []) t → SP p e below s₁ (entryFrame m #[(.int p1), (.int p2), (.int p3), (.int p4), (.int p5)] maxLocals) t := fun t k => ch31 t (by
          show SP p e below T28 (mkF m 68 #[iv p1, iv p2, iv p3, iv p4, iv p5, iv 3, rv b1, rv si, iv (-1), .unset, .unset, .unset] []) t
          refine XS.iload X28.here hx rfl (hb hby at_68) rfl ?_
          refine XS.iconst X28.here hx rfl (hb hby at_70) ?_
          refine XS.icmpYes X28.here hx rfl (pc0 := 71) (pc' := 86) rfl (hb hby at_71) rfl (flt (by decide : ¬ (3 : Int32) < (3 : Int32))).2.2.2 (by decide) (by decide) ?_
          exact k)
      obtain ⟨wv2, sj66⟩ : ∃ wv2 : Int32, ∀ t, SP p e below T28 (mkF m 104 #[iv p1, iv p2, iv p3, iv p4, iv p5, iv 3, rv b1, rv si, iv wv2, .unset, .unset, .unset] []) t → SP p e below T28 (mkF m 86 #[iv p1, iv p2, iv p3, iv p4, iv p5, iv 3, rv b1, rv si, iv (-1), .unset, .unset, .unset] []) t := by
        have cf67 := (V21.keep Kq28 nin0)
        obtain ⟨cl68, Ar68, -, Sz68, Ng68, Ha68, -⟩ := id cf67
        have hin68 : ¬ ((2 : Int32) < 0 ∨ cl68.slots.size ≤ ((2 : Int32)).toNatClampNeg) := inb_of Sz68 (by decide)
        have hat68 : cl68.slots[((2 : Int32)).toNatClampNeg]? = some (.int d2) := Ha68.at hin68 rfl
        by_cases hq69 : d2 = (35 : Int32)
        · skip
          refine ⟨(2 : Int32), fun t k => ?_⟩
          show SP p e below T28 (mkF m 86 #[iv p1, iv p2, iv p3, iv p4, iv p5, iv 3, rv b1, rv si, iv (-1), .unset, .unset, .unset] []) t
          refine XS.iload X28.here hx rfl (hb hby at_86) rfl ?_
          refine XS.iconst X28.here hx rfl (hb hby at_88) ?_
          refine XS.icmpNo X28.here hx rfl (hb hby at_89) rfl (tlt (by decide : (2 : Int32) < (3 : Int32))).2.2.2 ?_
          refine XS.aload X28.here hx rfl (hb hby at_92) rfl rfl ?_
          refine XS.iconst X28.here hx rfl (hb hby at_94) ?_
          refine X28.caload hx (j := (2 : Int32)) (v := (.int d2)) (by rw [eh28]; exact Ar68.1) (State.isArrayOf_alike hZ.alike Ar68.2.1) Ar68.2.2 hin68 hat68 (g := (mkF m 95 #[iv p1, iv p2, iv p3, iv p4, iv p5, iv 3, rv b1, rv si, iv (-1), .unset, .unset, .unset] [(.int (2 : Int32)), (.ref b1)])) rfl rfl (hb hby at_95) _ ?_
          refine XS.bipush X28.here hx rfl (hb hby at_96) ?_
          refine XS.icmpNo X28.here hx rfl (hb hby at_98) rfl (teq hq69).2 ?_
          refine XS.iconst X28.here hx rfl (hb hby at_101) ?_
          refine XS.istore X28.here hx rfl (hb hby at_102) rfl (l' := #[iv p1, iv p2, iv p3, iv p4, iv p5, iv 3, rv b1, rv si, iv 2, .unset, .unset, .unset]) rfl ?_
          exact k
        · skip
          refine ⟨(-1 : Int32), fun t k => ?_⟩
          show SP p e below T28 (mkF m 86 #[iv p1, iv p2, iv p3, iv p4, iv p5, iv 3, rv b1, rv si, iv (-1), .unset, .unset, .unset] []) t
          refine XS.iload X28.here hx rfl (hb hby at_86) rfl ?_
          refine XS.iconst X28.here hx rfl (hb hby at_88) ?_
          refine XS.icmpNo X28.here hx rfl (hb hby at_89) rfl (tlt (by decide : (2 : Int32) < (3 : Int32))).2.2.2 ?_
          refine XS.aload X28.here hx rfl (hb hby at_92) rfl rfl ?_
          refine XS.iconst X28.here hx rfl (hb hby at_94) ?_
          refine X28.caload hx (j := (2 : Int32)) (v := (.int d2)) (by rw [eh28]; exact Ar68.1) (State.isArrayOf_alike hZ.alike Ar68.2.1) Ar68.2.2 hin68 hat68 (g := (mkF m 95 #[iv p1, iv p2, iv p3, iv p4, iv p5, iv 3, rv b1, rv si, iv (-1), .unset, .unset, .unset] [(.int (2 : Int32)), (.ref b1)])) rfl rfl (hb hby at_95) _ ?_
          refine XS.bipush X28.here hx rfl (hb hby at_96) ?_
          refine XS.icmpYes X28.here hx rfl (pc0 := 98) (pc' := 104) rfl (hb hby at_98) rfl (feq hq69).2 (by decide) (by decide) ?_
          exact k
      have ch70 : ∀ t, SP p e below T28 (mkF m 104 #[iv p1, iv p2, iv p3, iv p4, iv p5, iv 3, rv b1, rv si, iv wv2, .unset, .unset, .unset] []) t → SP p e below s₁ (entryFrame m #[(.int p1), (.int p2), (.int p3), (.int p4), (.int p5)] maxLocals) t := fun t k => ch65 t (sj66 t k)
      have cf71 := (V21.keep Kq28 nin0)
      obtain ⟨cl72, Ar72, -, Sz72, Ng72, Ha72, -⟩ := id cf71
      have hin72 : ¬ ((1 : Int32) < 0 ∨ cl72.slots.size ≤ ((1 : Int32)).toNatClampNeg) := inb_of Sz72 (by decide)
      have hat72 : cl72.slots[((1 : Int32)).toNatClampNeg]? = some (.int d1) := Ha72.at hin72 rfl
      obtain ⟨cl73, Ar73, -, Sz73, Ng73, Ha73, -⟩ := id cf71
      have hin73 : ¬ ((0 : Int32) < 0 ∨ cl73.slots.size ≤ ((0 : Int32)).toNatClampNeg) := inb_of Sz73 (by decide)
      have hat73 : cl73.slots[((0 : Int32)).toNatClampNeg]? = some (.int d0) := Ha73.at hin73 rfl
      have cf74 := (own_sta_keep cf27 Kq28 all0)
      have cf75 := (own_sta_keep S_F Kp28 all0)
      obtain ⟨vv76, _, ⟨T76, L76, kk76, nn76⟩, -, X76, ⟨Lc76, hQ76, l76, y76, z76⟩, st76⟩ := Jvm.LawKit.callS X28 hx (y := ym0) hown (mvT hZ (own_wi hw 30 rfl)) (mvT hZ (own_wi hw 31 rfl)) (mvT hZ (own_wi hw 32 rfl)) (mvT hZ (own_wi hw 33 rfl)) (by decide) (backOf (W := 0) (own_fr_31 l Z a0 hw hh28 n0 (Nat.le_trans Z0 Kp28.1) si ti ki (d0.toInt8.toInt32) (d1.toInt8.toInt32) (d2.toInt8.toInt32) fq28_0 fq28_1 fq28_2 fq28_3 (own_n35 r0 hq30) (own_y35 hq64) zC cf74 P5 vF hvF cf75) hZ (own_wi hw 33 rfl) (own_wi hw 32 rfl) (by decide) (by decide)) (g := (mkF m 141 #[iv p1, iv p2, iv p3, iv p4, iv p5, iv 3, rv b1, rv si, iv 1, .unset, .unset, .unset] [(.ref si)])) rfl (by rw [hml]; rfl) (argsL := [(.ref si)]) (rest := []) (lenOf own_pd__Ljava_lang_String__Ljava_lang_String_ rfl) rfl (by show 2 * 0 + _ ≤ _; exact Nat.le_of_eq rfl) (hb hby at_141) (fun _ _ => ⟨rfl, eh28, (by decide : 4 + 2 ≤ _), (by decide : 14 + 8 ≤ _)⟩)
      dsimp only [Pt.U, Pt.locs, Pt.cells, Pt.slots] at X76 l76 y76 z76 st76 hQ76
      subst l76 y76 z76
      obtain ⟨hh76, eh76⟩ : ∃ h, T76.heap = h := ⟨_, rfl⟩
      rw [eh76] at hQ76
      obtain ⟨sr, tr, kr, rfl, zq76, Nq76, Kq76, fq76_0, fq76_1, fq76_2, fq76_3⟩ := hQ76
      have N76 := Fr.app N28 Nq76
      have hk := Nat.le_trans hk Kq76.1
      have ne_b1_sr : b1 ≠ sr := Nat.ne_of_lt (Nat.lt_of_lt_of_le cf71.lt zq76)
      have ne_si_sr : si ≠ sr := Nat.ne_of_lt (Nat.lt_of_lt_of_le fq28_0.lt zq76)
      have ne_ti_sr : ti ≠ sr := Nat.ne_of_lt (Nat.lt_of_lt_of_le fq28_3.lt zq76)
      have g_sr : n0 ≤ sr := Nat.le_trans (Nat.le_trans Z0 Kp28.1) zq76
      have sz_sr : h0.size ≤ sr := Nat.le_trans Kp28.1 zq76
      have Kp76 := Keep.trans Kp28 Kq76 all0
      have ch77 : ∀ t, SP p e below T76 (mkF m 144 #[iv p1, iv p2, iv p3, iv p4, iv p5, iv 3, rv b1, rv si, iv 1, .unset, .unset, .unset] [(.ref sr)]) t → SP p e below s₁ (entryFrame m #[(.int p1), (.int p2), (.int p3), (.int p4), (.int p5)] maxLocals) t := fun t k => ch70 t (by
          show SP p e below T28 (mkF m 104 #[iv p1, iv p2, iv p3, iv p4, iv p5, iv 3, rv b1, rv si, iv wv2, .unset, .unset, .unset] []) t
          refine XS.iload X28.here hx rfl (hb hby at_104) rfl ?_
          refine XS.iconst X28.here hx rfl (hb hby at_106) ?_
          refine XS.icmpNo X28.here hx rfl (hb hby at_107) rfl (tlt (by decide : (1 : Int32) < (3 : Int32))).2.2.2 ?_
          refine XS.aload X28.here hx rfl (hb hby at_110) rfl rfl ?_
          refine XS.iconst X28.here hx rfl (hb hby at_112) ?_
          refine X28.caload hx (j := (1 : Int32)) (v := (.int d1)) (by rw [eh28]; exact Ar72.1) (State.isArrayOf_alike hZ.alike Ar72.2.1) Ar72.2.2 hin72 hat72 (g := (mkF m 113 #[iv p1, iv p2, iv p3, iv p4, iv p5, iv 3, rv b1, rv si, iv wv2, .unset, .unset, .unset] [(.int (1 : Int32)), (.ref b1)])) rfl rfl (hb hby at_113) _ ?_
          refine XS.bipush X28.here hx rfl (hb hby at_114) ?_
          refine XS.icmpNo X28.here hx rfl (hb hby at_116) rfl (teq hq64).2 ?_
          refine XS.iconst X28.here hx rfl (hb hby at_119) ?_
          refine XS.istore X28.here hx rfl (hb hby at_120) rfl (l' := #[iv p1, iv p2, iv p3, iv p4, iv p5, iv 3, rv b1, rv si, iv 1, .unset, .unset, .unset]) rfl ?_
          refine XS.iload X28.here hx rfl (hb hby at_122) rfl ?_
          refine XS.ifNo X28.here hx rfl (hb hby at_124) rfl ((if0 _ _).trans (tlt (by decide : (0 : Int32) < (3 : Int32))).2.2.2) ?_
          show SP p e below T28 (mkF m 127 #[iv p1, iv p2, iv p3, iv p4, iv p5, iv 3, rv b1, rv si, iv 1, .unset, .unset, .unset] []) t
          refine XS.aload X28.here hx rfl (hb hby at_127) rfl rfl ?_
          refine XS.iconst X28.here hx rfl (hb hby at_129) ?_
          refine X28.caload hx (j := (0 : Int32)) (v := (.int d0)) (by rw [eh28]; exact Ar73.1) (State.isArrayOf_alike hZ.alike Ar73.2.1) Ar73.2.2 hin73 hat73 (g := (mkF m 130 #[iv p1, iv p2, iv p3, iv p4, iv p5, iv 3, rv b1, rv si, iv 1, .unset, .unset, .unset] [(.int (0 : Int32)), (.ref b1)])) rfl rfl (hb hby at_130) _ ?_
          refine XS.bipush X28.here hx rfl (hb hby at_131) ?_
          refine XS.icmpYes X28.here hx rfl (pc0 := 133) (pc' := 139) rfl (hb hby at_133) rfl (feq hq30).2 (by decide) (by decide) ?_
          refine XS.aload X28.here hx rfl (hb hby at_139) rfl rfl ?_
          show SP p e below T28 (mkF m 141 #[iv p1, iv p2, iv p3, iv p4, iv p5, iv 3, rv b1, rv si, iv 1, .unset, .unset, .unset] [(.ref si)]) t
          exact st76 t k)
      have cf78 := (own_sta_keep cf74 Kq76 all0)
      obtain ⟨cq79, kq79, qa79, qb79, qc79⟩ := isOf hZ eh76 fq76_0
      obtain ⟨vv80, _, ⟨T80, L80, kk80, nn80⟩, -, X80, ⟨Lc80, hQ80, l80, y80, z80⟩, st80⟩ := X76.virtualBack hx (y := ym15) (z := ym15) hown (mvT hZ (own_wi hw 109 rfl)) (mvT hZ (own_wi hw 51 rfl)) (notFace_of_selects (args := #[]) (mvT hZ (own_wi hw 53 rfl))) (mvT hZ (own_wi hw 53 rfl)) (mvT hZ (own_wi hw 52 rfl)) (by decide) (backOf (W := 0) (own_ln l Z a0 hw [] hh76 n0 (Nat.le_trans Z0 Kp76.1) sr tr kr (1 : Int32) [(.int (d2.toInt8.toInt32))] fq76_0 fq76_1 fq76_2 fq76_3 zC cf78 P5) hZ (own_wi hw 54 rfl) (own_wi hw 11 rfl) (by decide) (by decide)) qa79 qc79 (g := (mkF m 180 #[iv p1, iv p2, iv p3, iv p4, iv p5, iv 3, rv b1, rv si, iv 1, rv sr, iv 1, .unset] [(.ref sr)])) rfl (by rw [hml]; rfl) (Steps.refl _) (argsL := []) (rest := []) (lenOf own_pd___I rfl) rfl (by show 2 * 0 + _ ≤ _; exact Nat.le_of_eq rfl) (hb hby at_180) (fun _ _ => ⟨rfl, eh76, (by decide : 6 + 0 ≤ _), (by decide : 22 + 0 ≤ _)⟩)
      dsimp only [Pt.U, Pt.locs, Pt.cells, Pt.slots] at X80 l80 y80 z80 st80 hQ80
      subst l80 y80 z80
      obtain ⟨rfl, Nq80, e80⟩ := hQ80
      have N80 := Fr.app N76 Nq80
      have ch81 : ∀ t, SP p e below T80 (mkF m 183 #[iv p1, iv p2, iv p3, iv p4, iv p5, iv 3, rv b1, rv si, iv 1, rv sr, iv 1, .unset] [(.int (1 : Int32))]) t → SP p e below s₁ (entryFrame m #[(.int p1), (.int p2), (.int p3), (.int p4), (.int p5)] maxLocals) t := fun t k => ch77 t (by
          show SP p e below T76 (mkF m 144 #[iv p1, iv p2, iv p3, iv p4, iv p5, iv 3, rv b1, rv si, iv 1, .unset, .unset, .unset] [(.ref sr)]) t
          refine XS.astore X76.here hx rfl (hb hby at_144) rfl rfl (l' := #[iv p1, iv p2, iv p3, iv p4, iv p5, iv 3, rv b1, rv si, iv 1, rv sr, .unset, .unset]) rfl ?_
          refine XS.iload X76.here hx rfl (hb hby at_146) rfl ?_
          refine XS.ifYes X76.here hx rfl (pc0 := 148) (pc' := 162) rfl (hb hby at_148) rfl ((if0 _ _).trans (flt (by decide : ¬ (1 : Int32) < (0 : Int32))).2.1) (by decide) (by decide) ?_
          refine XS.aload X76.here hx rfl (hb hby at_162) rfl rfl ?_
          refine XS.ifnonnullYes X76.here hx rfl (pc0 := 164) (pc' := 169) rfl (hb hby at_164) rfl (by decide) (by decide) ?_
          refine XS.iload X76.here hx rfl (hb hby at_169) rfl ?_
          refine XS.iload X76.here hx rfl (hb hby at_171) rfl ?_
          show SP p e below T76 (mkF m 173 #[iv p1, iv p2, iv p3, iv p4, iv p5, iv 3, rv b1, rv si, iv 1, rv sr, .unset, .unset] [(.int (1 : Int32)), (.int (3 : Int32))]) t
          refine XS.isub X76.here hx rfl (hb hby at_173) rfl ?_
          rw [show ((3 : Int32) - (1 : Int32)) = (2 : Int32) from by decide]
          show SP p e below T76 (mkF m 174 #[iv p1, iv p2, iv p3, iv p4, iv p5, iv 3, rv b1, rv si, iv 1, rv sr, .unset, .unset] [(.int (2 : Int32))]) t
          refine XS.iconst X76.here hx rfl (hb hby at_174) ?_
          show SP p e below T76 (mkF m 175 #[iv p1, iv p2, iv p3, iv p4, iv p5, iv 3, rv b1, rv si, iv 1, rv sr, .unset, .unset] [(.int (1 : Int32)), (.int (2 : Int32))]) t
          refine XS.isub X76.here hx rfl (hb hby at_175) rfl ?_
          rw [show ((2 : Int32) - (1 : Int32)) = (1 : Int32) from by decide]
          refine XS.istore X76.here hx rfl (hb hby at_176) rfl (l' := #[iv p1, iv p2, iv p3, iv p4, iv p5, iv 3, rv b1, rv si, iv 1, rv sr, iv 1, .unset]) rfl ?_
          refine XS.aload X76.here hx rfl (hb hby at_178) rfl rfl ?_
          show SP p e below T76 (mkF m 180 #[iv p1, iv p2, iv p3, iv p4, iv p5, iv 3, rv b1, rv si, iv 1, rv sr, iv 1, .unset] [(.ref sr)]) t
          exact st80.trans k)
      have cf82 := (own_sta_keep cf75 Kq76 all0)
      obtain ⟨cq83, kq83, qa83, qb83, qc83⟩ := isOf hZ e80 fq76_0
      obtain ⟨vv84, _, ⟨T84, L84, kk84, nn84⟩, -, X84, ⟨Lc84, hQ84, l84, y84, z84⟩, st84⟩ := X80.virtualBack hx (y := ym8) (z := ym8) hown (mvT hZ (own_wi hw 129 rfl)) (mvT hZ (own_wi hw 130 rfl)) (notFace_of_selects (args := #[]) (mvT hZ (own_wi hw 132 rfl))) (mvT hZ (own_wi hw 132 rfl)) (mvT hZ (own_wi hw 131 rfl)) (by decide) (backOf (W := 0) (own_cat l Z a0 hw [] hh76 n0 (Nat.le_trans Z0 Kp76.1) sr tr kr (1 : Int32) [(.int (d2.toInt8.toInt32))] fq76_0 fq76_1 fq76_2 fq76_3 (0 : Int32) d2 (own_narc r2) (own_l1c_10 l Z a0 hw [] hh76 n0 (Nat.le_trans Z0 Kp76.1) tr kr (d2.toInt8.toInt32) fq76_3 d2 (own_back r2) (own_narc r2) vF hvF cf82) zC cf78 P5) hZ (own_wi hw 133 rfl) (own_wi hw 11 rfl) (by decide) (by decide)) qa83 qc83 (g := (mkF m 206 #[iv p1, iv p2, iv p3, iv p4, iv p5, iv 3, rv b1, rv si, iv 1, rv sr, iv 1, iv 1] [(.int (0 : Int32)), (.ref sr)])) rfl (by rw [hml]; rfl) (Steps.refl _) (argsL := [(.int (0 : Int32))]) (rest := []) (lenOf own_pd__I_C rfl) rfl (by show 2 * 0 + _ ≤ _; exact Nat.le_of_eq rfl) (hb hby at_206) (fun _ _ => ⟨rfl, e80, (by decide : 6 + 0 ≤ _), (by decide : 22 + 0 ≤ _)⟩)
      dsimp only [Pt.U, Pt.locs, Pt.cells, Pt.slots] at X84 l84 y84 z84 st84 hQ84
      subst l84 y84 z84
      obtain ⟨rfl, Nq84, e84⟩ := hQ84
      have N84 := Fr.app N80 Nq84
      have ch85 : ∀ t, SP p e below T84 (mkF m 209 #[iv p1, iv p2, iv p3, iv p4, iv p5, iv 3, rv b1, rv si, iv 1, rv sr, iv 1, iv 1] [(.int d2)]) t → SP p e below s₁ (entryFrame m #[(.int p1), (.int p2), (.int p3), (.int p4), (.int p5)] maxLocals) t := fun t k => ch81 t (by
          show SP p e below T80 (mkF m 183 #[iv p1, iv p2, iv p3, iv p4, iv p5, iv 3, rv b1, rv si, iv 1, rv sr, iv 1, .unset] [(.int (1 : Int32))]) t
          refine XS.iload X80.here hx rfl (hb hby at_183) rfl ?_
          refine XS.icmpYes X80.here hx rfl (pc0 := 185) (pc' := 190) rfl (hb hby at_185) rfl (teq (by decide : (1 : Int32) = (1 : Int32))).1 (by decide) (by decide) ?_
          refine XS.iconst X80.here hx rfl (hb hby at_190) ?_
          refine XS.istore X80.here hx rfl (hb hby at_191) rfl (l' := #[iv p1, iv p2, iv p3, iv p4, iv p5, iv 3, rv b1, rv si, iv 1, rv sr, iv 1, iv 1]) rfl ?_
          refine XS.iload X80.here hx rfl (hb hby at_193) rfl ?_
          refine XS.ifNo X80.here hx rfl (hb hby at_195) rfl ((if0 _ _).trans (tlt (by decide : (0 : Int32) < (1 : Int32))).2.2.2) ?_
          refine XS.iload X80.here hx rfl (hb hby at_198) rfl ?_
          refine XS.ifNo X80.here hx rfl (hb hby at_200) rfl ((if0 _ _).trans (feq (by decide : ¬ (1 : Int32) = (0 : Int32))).1) ?_
          refine XS.aload X80.here hx rfl (hb hby at_203) rfl rfl ?_
          refine XS.iconst X80.here hx rfl (hb hby at_205) ?_
          show SP p e below T80 (mkF m 206 #[iv p1, iv p2, iv p3, iv p4, iv p5, iv 3, rv b1, rv si, iv 1, rv sr, iv 1, iv 1] [(.int (0 : Int32)), (.ref sr)]) t
          exact st84.trans k)
      have cf86 := (cf71.keep Kq76 nin0)
      obtain ⟨cl87, Ar87, -, Sz87, Ng87, Ha87, -⟩ := id cf86
      have hin87 : ¬ ((2 : Int32) < 0 ∨ cl87.slots.size ≤ ((2 : Int32)).toNatClampNeg) := inb_of Sz87 (by decide)
      have hat87 : cl87.slots[((2 : Int32)).toNatClampNeg]? = some (.int d2) := Ha87.at hin87 rfl
      have ch88 : ∀ t, SP p e below T84 (mkF m 296 #[iv p1, iv p2, iv p3, iv p4, iv p5, iv 3, rv b1, rv si, iv 1, rv sr, iv 1, iv 1] [(.int (1 : Int32))]) t → SP p e below s₁ (entryFrame m #[(.int p1), (.int p2), (.int p3), (.int p4), (.int p5)] maxLocals) t := fun t k => ch85 t (by
          show SP p e below T84 (mkF m 209 #[iv p1, iv p2, iv p3, iv p4, iv p5, iv 3, rv b1, rv si, iv 1, rv sr, iv 1, iv 1] [(.int d2)]) t
          refine XS.aload X84.here hx rfl (hb hby at_209) rfl rfl ?_
          show SP p e below T84 (mkF m 211 #[iv p1, iv p2, iv p3, iv p4, iv p5, iv 3, rv b1, rv si, iv 1, rv sr, iv 1, iv 1] [(.ref b1), (.int d2)]) t
          refine XS.iload X84.here hx rfl (hb hby at_211) rfl ?_
          refine XS.iconst X84.here hx rfl (hb hby at_213) ?_
          show SP p e below T84 (mkF m 214 #[iv p1, iv p2, iv p3, iv p4, iv p5, iv 3, rv b1, rv si, iv 1, rv sr, iv 1, iv 1] [(.int (1 : Int32)), (.int (1 : Int32)), (.ref b1), (.int d2)]) t
          refine XS.iadd X84.here hx rfl (hb hby at_214) rfl ?_
          rw [show ((1 : Int32) + (1 : Int32)) = (2 : Int32) from by decide]
          refine X84.caload hx (j := (2 : Int32)) (v := (.int d2)) (by rw [e84]; exact Ar87.1) (State.isArrayOf_alike hZ.alike Ar87.2.1) Ar87.2.2 hin87 hat87 (g := (mkF m 215 #[iv p1, iv p2, iv p3, iv p4, iv p5, iv 3, rv b1, rv si, iv 1, rv sr, iv 1, iv 1] [(.int (2 : Int32)), (.ref b1), (.int d2)])) rfl rfl (hb hby at_215) _ ?_
          refine XS.icmpNo X84.here hx rfl (hb hby at_216) rfl (teq (rfl : d2 = d2)).2 ?_
          refine XS.iconst X84.here hx rfl (hb hby at_219) ?_
          refine XS.goto X84.here hx rfl (pc0 := 220) (pc' := 224) rfl (hb hby at_220) (by decide) (by decide) ?_
          refine XS.istore X84.here hx rfl (hb hby at_224) rfl (l' := #[iv p1, iv p2, iv p3, iv p4, iv p5, iv 3, rv b1, rv si, iv 1, rv sr, iv 1, iv 1]) rfl ?_
          refine XS.iload X84.here hx rfl (hb hby at_226) rfl ?_
          refine XS.iconst X84.here hx rfl (hb hby at_228) ?_
          refine XS.icmpYes X84.here hx rfl (pc0 := 229) (pc' := 260) rfl (hb hby at_229) rfl (flt (by decide : ¬ (1 : Int32) < (1 : Int32))).2.2.2 (by decide) (by decide) ?_
          refine XS.iload X84.here hx rfl (hb hby at_260) rfl ?_
          refine XS.iconst X84.here hx rfl (hb hby at_262) ?_
          refine XS.icmpYes X84.here hx rfl (pc0 := 263) (pc' := 294) rfl (hb hby at_263) rfl (flt (by decide : ¬ (2 : Int32) < (1 : Int32))).2.2.2 (by decide) (by decide) ?_
          refine XS.iload X84.here hx rfl (hb hby at_294) rfl ?_
          exact k)
      obtain ⟨fs, hr, hrun, hended, hend⟩ := X84.leaveW hS (by rw [e84]; exact hk) (v := some (.int (1 : Int32))) (fun h => by rw [Bd.returns] at h; cases h)
      refine ⟨_, _, ch88 _ ?_, hrun, hended, _, _, rfl, ?_, hend.1, hend.2.1, hend.2.2.1, hend.2.2.2.mono (by decide) (by decide)⟩
      · show Steps p.tables e below (T84.setTop (mkF m 296 #[iv p1, iv p2, iv p3, iv p4, iv p5, iv 3, rv b1, rv si, iv 1, rv sr, iv 1, iv 1] [(.int (1 : Int32))])) _
        exact retN X84 hx (t := .boolean) Bd.returns (by simp) (hb hby at_296) hr
      · show QN (some (.int (1 : Int32))) n0 _ T84.heap _
        rw [e84]
        exact ⟨rfl, N84⟩
    · skip
      by_cases hq89 : d2 = (35 : Int32)
      · skip
        have cf90 := (V21.keep Kq28 nin0)
        obtain ⟨cl91, Ar91, -, Sz91, Ng91, Ha91, -⟩ := id cf90
        have hin91 : ¬ ((2 : Int32) < 0 ∨ cl91.slots.size ≤ ((2 : Int32)).toNatClampNeg) := inb_of Sz91 (by decide)
        have hat91 : cl91.slots[((2 : Int32)).toNatClampNeg]? = some (.int d2) := Ha91.at hin91 rfl
        obtain ⟨cl92, Ar92, -, Sz92, Ng92, Ha92, -⟩ := id cf90
        have hin92 : ¬ ((1 : Int32) < 0 ∨ cl92.slots.size ≤ ((1 : Int32)).toNatClampNeg) := inb_of Sz92 (by decide)
        have hat92 : cl92.slots[((1 : Int32)).toNatClampNeg]? = some (.int d1) := Ha92.at hin92 rfl
        obtain ⟨cl93, Ar93, -, Sz93, Ng93, Ha93, -⟩ := id cf90
        have hin93 : ¬ ((0 : Int32) < 0 ∨ cl93.slots.size ≤ ((0 : Int32)).toNatClampNeg) := inb_of Sz93 (by decide)
        have hat93 : cl93.slots[((0 : Int32)).toNatClampNeg]? = some (.int d0) := Ha93.at hin93 rfl
        have cf94 := (own_sta_keep cf27 Kq28 all0)
        have cf95 := (own_sta_keep S_F Kp28 all0)
        have ch96 : ∀ t, SP p e below T28 (mkF m 141 #[iv p1, iv p2, iv p3, iv p4, iv p5, iv 3, rv b1, rv si, iv 2, .unset, .unset, .unset] [(.ref si)]) t → SP p e below s₁ (entryFrame m #[(.int p1), (.int p2), (.int p3), (.int p4), (.int p5)] maxLocals) t := fun t k => ch31 t (by
            show SP p e below T28 (mkF m 68 #[iv p1, iv p2, iv p3, iv p4, iv p5, iv 3, rv b1, rv si, iv (-1), .unset, .unset, .unset] []) t
            refine XS.iload X28.here hx rfl (hb hby at_68) rfl ?_
            refine XS.iconst X28.here hx rfl (hb hby at_70) ?_
            refine XS.icmpYes X28.here hx rfl (pc0 := 71) (pc' := 86) rfl (hb hby at_71) rfl (flt (by decide : ¬ (3 : Int32) < (3 : Int32))).2.2.2 (by decide) (by decide) ?_
            refine XS.iload X28.here hx rfl (hb hby at_86) rfl ?_
            refine XS.iconst X28.here hx rfl (hb hby at_88) ?_
            refine XS.icmpNo X28.here hx rfl (hb hby at_89) rfl (tlt (by decide : (2 : Int32) < (3 : Int32))).2.2.2 ?_
            refine XS.aload X28.here hx rfl (hb hby at_92) rfl rfl ?_
            refine XS.iconst X28.here hx rfl (hb hby at_94) ?_
            refine X28.caload hx (j := (2 : Int32)) (v := (.int d2)) (by rw [eh28]; exact Ar91.1) (State.isArrayOf_alike hZ.alike Ar91.2.1) Ar91.2.2 hin91 hat91 (g := (mkF m 95 #[iv p1, iv p2, iv p3, iv p4, iv p5, iv 3, rv b1, rv si, iv (-1), .unset, .unset, .unset] [(.int (2 : Int32)), (.ref b1)])) rfl rfl (hb hby at_95) _ ?_
            refine XS.bipush X28.here hx rfl (hb hby at_96) ?_
            refine XS.icmpNo X28.here hx rfl (hb hby at_98) rfl (teq hq89).2 ?_
            refine XS.iconst X28.here hx rfl (hb hby at_101) ?_
            refine XS.istore X28.here hx rfl (hb hby at_102) rfl (l' := #[iv p1, iv p2, iv p3, iv p4, iv p5, iv 3, rv b1, rv si, iv 2, .unset, .unset, .unset]) rfl ?_
            refine XS.iload X28.here hx rfl (hb hby at_104) rfl ?_
            show SP p e below T28 (mkF m 106 #[iv p1, iv p2, iv p3, iv p4, iv p5, iv 3, rv b1, rv si, iv 2, .unset, .unset, .unset] [(.int (3 : Int32))]) t
            refine XS.iconst X28.here hx rfl (hb hby at_106) ?_
            refine XS.icmpNo X28.here hx rfl (hb hby at_107) rfl (tlt (by decide : (1 : Int32) < (3 : Int32))).2.2.2 ?_
            refine XS.aload X28.here hx rfl (hb hby at_110) rfl rfl ?_
            refine XS.iconst X28.here hx rfl (hb hby at_112) ?_
            refine X28.caload hx (j := (1 : Int32)) (v := (.int d1)) (by rw [eh28]; exact Ar92.1) (State.isArrayOf_alike hZ.alike Ar92.2.1) Ar92.2.2 hin92 hat92 (g := (mkF m 113 #[iv p1, iv p2, iv p3, iv p4, iv p5, iv 3, rv b1, rv si, iv 2, .unset, .unset, .unset] [(.int (1 : Int32)), (.ref b1)])) rfl rfl (hb hby at_113) _ ?_
            refine XS.bipush X28.here hx rfl (hb hby at_114) ?_
            refine XS.icmpYes X28.here hx rfl (pc0 := 116) (pc' := 122) rfl (hb hby at_116) rfl (feq hq64).2 (by decide) (by decide) ?_
            refine XS.iload X28.here hx rfl (hb hby at_122) rfl ?_
            refine XS.ifNo X28.here hx rfl (hb hby at_124) rfl ((if0 _ _).trans (tlt (by decide : (0 : Int32) < (3 : Int32))).2.2.2) ?_
            refine XS.aload X28.here hx rfl (hb hby at_127) rfl rfl ?_
            refine XS.iconst X28.here hx rfl (hb hby at_129) ?_
            refine X28.caload hx (j := (0 : Int32)) (v := (.int d0)) (by rw [eh28]; exact Ar93.1) (State.isArrayOf_alike hZ.alike Ar93.2.1) Ar93.2.2 hin93 hat93 (g := (mkF m 130 #[iv p1, iv p2, iv p3, iv p4, iv p5, iv 3, rv b1, rv si, iv 2, .unset, .unset, .unset] [(.int (0 : Int32)), (.ref b1)])) rfl rfl (hb hby at_130) _ ?_
            refine XS.bipush X28.here hx rfl (hb hby at_131) ?_
            refine XS.icmpYes X28.here hx rfl (pc0 := 133) (pc' := 139) rfl (hb hby at_133) rfl (feq hq30).2 (by decide) (by decide) ?_
            refine XS.aload X28.here hx rfl (hb hby at_139) rfl rfl ?_
            exact k)
        obtain ⟨vv97, _, ⟨T97, L97, kk97, nn97⟩, -, X97, hS2, hgr, ⟨Lc97, hQ97, l97, y97, z97⟩, st97⟩ := Jvm.RoadKit.callSS X28 hx (y := ym0) hown (mvT hZ (own_wi hw 30 rfl)) (mvT hZ (own_wi hw 31 rfl)) (mvT hZ (own_wi hw 32 rfl)) (mvT hZ (own_wi hw 33 rfl)) (by decide) (own_backC (W := 0) (own_fr_32 l Z a0 hw hh28 n0 (Nat.le_trans Z0 Kp28.1) si ti ki (d0.toInt8.toInt32) (d1.toInt8.toInt32) (d2.toInt8.toInt32) fq28_0 fq28_1 fq28_2 fq28_3 (own_n35 r0 hq30) (own_n35 r1 hq64) (own_y35 hq89) zC cf94 P5 vF hvF cf95) hZ (own_wi hw 33 rfl) (own_wi hw 32 rfl) (by decide) (by decide) (own_EW hw) (CHv.keep Kp28 (fun x hx => by cases hx) hC)) (g := (mkF m 141 #[iv p1, iv p2, iv p3, iv p4, iv p5, iv 3, rv b1, rv si, iv 2, .unset, .unset, .unset] [(.ref si)])) rfl (by rw [hml]; rfl) (argsL := [(.ref si)]) (rest := []) (lenOf own_pd__Ljava_lang_String__Ljava_lang_String_ rfl) rfl (by show 2 * 0 + _ ≤ _; exact Nat.le_of_eq rfl) (hb hby at_141) (fun _ _ => ⟨rfl, eh28, (by decide : 4 + 2 ≤ _), (by decide : 14 + 4 ≤ _)⟩)
        dsimp only [Pt.U, Pt.locs, Pt.cells, Pt.slots] at X97 l97 y97 z97 st97 hQ97 hS2 hgr
        subst l97 y97 z97
        obtain ⟨X97, hS, hZ, hown⟩ := rebS hS (by rw [eh28]; exact hk) X97 hS2 hgr hZ hown
        obtain ⟨hh97, eh97⟩ : ∃ h, T97.heap = h := ⟨_, rfl⟩
        rw [eh97] at hQ97
        rw [eh97] at hS
        have hk : hh97.size ≤ hh97.size := Nat.le_refl _
        obtain ⟨sr, tr, kr, rfl, Nq97, Kq97, fq97_0, fq97_1, fq97_2, fq97_3⟩ := hQ97
        have N97 := Fr.app N28 Nq97
        have Kp97 := Keep.trans Kp28 Kq97 all0
        have ch98 : ∀ t, SP p e below T97 (mkF m 144 #[iv p1, iv p2, iv p3, iv p4, iv p5, iv 3, rv b1, rv si, iv 2, .unset, .unset, .unset] [(.ref sr)]) t → SP p e below s₁ (entryFrame m #[(.int p1), (.int p2), (.int p3), (.int p4), (.int p5)] maxLocals) t := fun t k => ch96 t (by
            show SP p e below T28 (mkF m 141 #[iv p1, iv p2, iv p3, iv p4, iv p5, iv 3, rv b1, rv si, iv 2, .unset, .unset, .unset] [(.ref si)]) t
            exact st97.trans k)
        have cf99 := (own_sta_keep cf94 Kq97 all0)
        obtain ⟨cq100, kq100, qa100, qb100, qc100⟩ := isOf hZ eh97 fq97_0
        obtain ⟨vv101, _, ⟨T101, L101, kk101, nn101⟩, -, X101, ⟨Lc101, hQ101, l101, y101, z101⟩, st101⟩ := X97.virtualBack hx (y := ym15) (z := ym15) hown (mvT hZ (own_wi hw 109 rfl)) (mvT hZ (own_wi hw 51 rfl)) (notFace_of_selects (args := #[]) (mvT hZ (own_wi hw 53 rfl))) (mvT hZ (own_wi hw 53 rfl)) (mvT hZ (own_wi hw 52 rfl)) (by decide) (backOf (W := 0) (own_ln l Z a0 hw [] hh97 n0 (Nat.le_trans Z0 Kp97.1) sr tr kr (0 : Int32) [] fq97_0 fq97_1 fq97_2 fq97_3 zC cf99 P5) hZ (own_wi hw 54 rfl) (own_wi hw 11 rfl) (by decide) (by decide)) qa100 qc100 (g := (mkF m 180 #[iv p1, iv p2, iv p3, iv p4, iv p5, iv 3, rv b1, rv si, iv 2, rv sr, iv 0, .unset] [(.ref sr)])) rfl (by rw [hml]; rfl) (Steps.refl _) (argsL := []) (rest := []) (lenOf own_pd___I rfl) rfl (by show 2 * 0 + _ ≤ _; exact Nat.le_of_eq rfl) (hb hby at_180) (fun _ _ => ⟨rfl, eh97, (by decide : 6 + 0 ≤ _), (by decide : 18 + 0 ≤ _)⟩)
        dsimp only [Pt.U, Pt.locs, Pt.cells, Pt.slots] at X101 l101 y101 z101 st101 hQ101
        subst l101 y101 z101
        obtain ⟨rfl, Nq101, e101⟩ := hQ101
        have N101 := Fr.app N97 Nq101
        have ch102 : ∀ t, SP p e below T101 (mkF m 183 #[iv p1, iv p2, iv p3, iv p4, iv p5, iv 3, rv b1, rv si, iv 2, rv sr, iv 0, .unset] [(.int (0 : Int32))]) t → SP p e below s₁ (entryFrame m #[(.int p1), (.int p2), (.int p3), (.int p4), (.int p5)] maxLocals) t := fun t k => ch98 t (by
            show SP p e below T97 (mkF m 144 #[iv p1, iv p2, iv p3, iv p4, iv p5, iv 3, rv b1, rv si, iv 2, .unset, .unset, .unset] [(.ref sr)]) t
            refine XS.astore X97.here hx rfl (hb hby at_144) rfl rfl (l' := #[iv p1, iv p2, iv p3, iv p4, iv p5, iv 3, rv b1, rv si, iv 2, rv sr, .unset, .unset]) rfl ?_
            show SP p e below T97 (mkF m 146 #[iv p1, iv p2, iv p3, iv p4, iv p5, iv 3, rv b1, rv si, iv 2, rv sr, .unset, .unset] []) t
            refine XS.iload X97.here hx rfl (hb hby at_146) rfl ?_
            refine XS.ifYes X97.here hx rfl (pc0 := 148) (pc' := 162) rfl (hb hby at_148) rfl ((if0 _ _).trans (flt (by decide : ¬ (2 : Int32) < (0 : Int32))).2.1) (by decide) (by decide) ?_
            refine XS.aload X97.here hx rfl (hb hby at_162) rfl rfl ?_
            refine XS.ifnonnullYes X97.here hx rfl (pc0 := 164) (pc' := 169) rfl (hb hby at_164) rfl (by decide) (by decide) ?_
            refine XS.iload X97.here hx rfl (hb hby at_169) rfl ?_
            refine XS.iload X97.here hx rfl (hb hby at_171) rfl ?_
            show SP p e below T97 (mkF m 173 #[iv p1, iv p2, iv p3, iv p4, iv p5, iv 3, rv b1, rv si, iv 2, rv sr, .unset, .unset] [(.int (2 : Int32)), (.int (3 : Int32))]) t
            refine XS.isub X97.here hx rfl (hb hby at_173) rfl ?_
            rw [show ((3 : Int32) - (2 : Int32)) = (1 : Int32) from by decide]
            refine XS.iconst X97.here hx rfl (hb hby at_174) ?_
            show SP p e below T97 (mkF m 175 #[iv p1, iv p2, iv p3, iv p4, iv p5, iv 3, rv b1, rv si, iv 2, rv sr, .unset, .unset] [(.int (1 : Int32)), (.int (1 : Int32))]) t
            refine XS.isub X97.here hx rfl (hb hby at_175) rfl ?_
            rw [show ((1 : Int32) - (1 : Int32)) = (0 : Int32) from by decide]
            refine XS.istore X97.here hx rfl (hb hby at_176) rfl (l' := #[iv p1, iv p2, iv p3, iv p4, iv p5, iv 3, rv b1, rv si, iv 2, rv sr, iv 0, .unset]) rfl ?_
            refine XS.aload X97.here hx rfl (hb hby at_178) rfl rfl ?_
            show SP p e below T97 (mkF m 180 #[iv p1, iv p2, iv p3, iv p4, iv p5, iv 3, rv b1, rv si, iv 2, rv sr, iv 0, .unset] [(.ref sr)]) t
            exact st101.trans k)
        have ch103 : ∀ t, SP p e below T101 (mkF m 296 #[iv p1, iv p2, iv p3, iv p4, iv p5, iv 3, rv b1, rv si, iv 2, rv sr, iv 0, iv 1] [(.int (1 : Int32))]) t → SP p e below s₁ (entryFrame m #[(.int p1), (.int p2), (.int p3), (.int p4), (.int p5)] maxLocals) t := fun t k => ch102 t (by
            show SP p e below T101 (mkF m 183 #[iv p1, iv p2, iv p3, iv p4, iv p5, iv 3, rv b1, rv si, iv 2, rv sr, iv 0, .unset] [(.int (0 : Int32))]) t
            refine XS.iload X101.here hx rfl (hb hby at_183) rfl ?_
            refine XS.icmpYes X101.here hx rfl (pc0 := 185) (pc' := 190) rfl (hb hby at_185) rfl (teq (by decide : (0 : Int32) = (0 : Int32))).1 (by decide) (by decide) ?_
            refine XS.iconst X101.here hx rfl (hb hby at_190) ?_
            show SP p e below T101 (mkF m 191 #[iv p1, iv p2, iv p3, iv p4, iv p5, iv 3, rv b1, rv si, iv 2, rv sr, iv 0, .unset] [(.int (1 : Int32))]) t
            refine XS.istore X101.here hx rfl (hb hby at_191) rfl (l' := #[iv p1, iv p2, iv p3, iv p4, iv p5, iv 3, rv b1, rv si, iv 2, rv sr, iv 0, iv 1]) rfl ?_
            refine XS.iload X101.here hx rfl (hb hby at_193) rfl ?_
            refine XS.ifYes X101.here hx rfl (pc0 := 195) (pc' := 226) rfl (hb hby at_195) rfl ((if0 _ _).trans (flt (by decide : ¬ (0 : Int32) < (0 : Int32))).2.2.2) (by decide) (by decide) ?_
            refine XS.iload X101.here hx rfl (hb hby at_226) rfl ?_
            refine XS.iconst X101.here hx rfl (hb hby at_228) ?_
            refine XS.icmpYes X101.here hx rfl (pc0 := 229) (pc' := 260) rfl (hb hby at_229) rfl (flt (by decide : ¬ (1 : Int32) < (0 : Int32))).2.2.2 (by decide) (by decide) ?_
            refine XS.iload X101.here hx rfl (hb hby at_260) rfl ?_
            refine XS.iconst X101.here hx rfl (hb hby at_262) ?_
            refine XS.icmpYes X101.here hx rfl (pc0 := 263) (pc' := 294) rfl (hb hby at_263) rfl (flt (by decide : ¬ (2 : Int32) < (0 : Int32))).2.2.2 (by decide) (by decide) ?_
            refine XS.iload X101.here hx rfl (hb hby at_294) rfl ?_
            exact k)
        obtain ⟨fs, hr, hrun, hended, hend⟩ := X101.leaveW hS (by rw [e101]; exact hk) (v := some (.int (1 : Int32))) (fun h => by rw [Bd.returns] at h; cases h)
        refine ⟨_, _, ch103 _ ?_, hrun, hended, _, _, rfl, ?_, hend.1, hend.2.1, hend.2.2.1, hend.2.2.2.mono (by decide) (by decide)⟩
        · show Steps p.tables e below (T101.setTop (mkF m 296 #[iv p1, iv p2, iv p3, iv p4, iv p5, iv 3, rv b1, rv si, iv 2, rv sr, iv 0, iv 1] [(.int (1 : Int32))])) _
          exact retN X101 hx (t := .boolean) Bd.returns (by simp) (hb hby at_296) hr
        · show QN (some (.int (1 : Int32))) n0 _ T101.heap _
          rw [e101]
          exact ⟨rfl, N101⟩
      · skip
        have cf104 := (V21.keep Kq28 nin0)
        obtain ⟨cl105, Ar105, -, Sz105, Ng105, Ha105, -⟩ := id cf104
        have hin105 : ¬ ((2 : Int32) < 0 ∨ cl105.slots.size ≤ ((2 : Int32)).toNatClampNeg) := inb_of Sz105 (by decide)
        have hat105 : cl105.slots[((2 : Int32)).toNatClampNeg]? = some (.int d2) := Ha105.at hin105 rfl
        obtain ⟨cl106, Ar106, -, Sz106, Ng106, Ha106, -⟩ := id cf104
        have hin106 : ¬ ((1 : Int32) < 0 ∨ cl106.slots.size ≤ ((1 : Int32)).toNatClampNeg) := inb_of Sz106 (by decide)
        have hat106 : cl106.slots[((1 : Int32)).toNatClampNeg]? = some (.int d1) := Ha106.at hin106 rfl
        obtain ⟨cl107, Ar107, -, Sz107, Ng107, Ha107, -⟩ := id cf104
        have hin107 : ¬ ((0 : Int32) < 0 ∨ cl107.slots.size ≤ ((0 : Int32)).toNatClampNeg) := inb_of Sz107 (by decide)
        have hat107 : cl107.slots[((0 : Int32)).toNatClampNeg]? = some (.int d0) := Ha107.at hin107 rfl
        have cf108 := (own_sta_keep cf27 Kq28 all0)
        have cf109 := (own_sta_keep S_F Kp28 all0)
        obtain ⟨vv110, _, ⟨T110, L110, kk110, nn110⟩, -, X110, ⟨Lc110, hQ110, l110, y110, z110⟩, st110⟩ := Jvm.LawKit.callS X28 hx (y := ym0) hown (mvT hZ (own_wi hw 30 rfl)) (mvT hZ (own_wi hw 31 rfl)) (mvT hZ (own_wi hw 32 rfl)) (mvT hZ (own_wi hw 33 rfl)) (by decide) (backOf (W := 0) (own_fr_3n l Z a0 hw hh28 n0 (Nat.le_trans Z0 Kp28.1) si ti ki (d0.toInt8.toInt32) (d1.toInt8.toInt32) (d2.toInt8.toInt32) fq28_0 fq28_1 fq28_2 fq28_3 (own_n35 r0 hq30) (own_n35 r1 hq64) (own_n35 r2 hq89) zC cf108 P5 vF hvF cf109) hZ (own_wi hw 33 rfl) (own_wi hw 32 rfl) (by decide) (by decide)) (g := (mkF m 141 #[iv p1, iv p2, iv p3, iv p4, iv p5, iv 3, rv b1, rv si, iv (-1), .unset, .unset, .unset] [(.ref si)])) rfl (by rw [hml]; rfl) (argsL := [(.ref si)]) (rest := []) (lenOf own_pd__Ljava_lang_String__Ljava_lang_String_ rfl) rfl (by show 2 * 0 + _ ≤ _; exact Nat.le_of_eq rfl) (hb hby at_141) (fun _ _ => ⟨rfl, eh28, (by decide : 4 + 0 ≤ _), (by decide : 14 + 0 ≤ _)⟩)
        dsimp only [Pt.U, Pt.locs, Pt.cells, Pt.slots] at X110 l110 y110 z110 st110 hQ110
        subst l110 y110 z110
        obtain ⟨rfl, Nq110, e110⟩ := hQ110
        have N110 := Fr.app N28 Nq110
        have ch111 : ∀ t, SP p e below T110 (mkF m 144 #[iv p1, iv p2, iv p3, iv p4, iv p5, iv 3, rv b1, rv si, iv (-1), .unset, .unset, .unset] [.null]) t → SP p e below s₁ (entryFrame m #[(.int p1), (.int p2), (.int p3), (.int p4), (.int p5)] maxLocals) t := fun t k => ch31 t (by
            show SP p e below T28 (mkF m 68 #[iv p1, iv p2, iv p3, iv p4, iv p5, iv 3, rv b1, rv si, iv (-1), .unset, .unset, .unset] []) t
            refine XS.iload X28.here hx rfl (hb hby at_68) rfl ?_
            refine XS.iconst X28.here hx rfl (hb hby at_70) ?_
            refine XS.icmpYes X28.here hx rfl (pc0 := 71) (pc' := 86) rfl (hb hby at_71) rfl (flt (by decide : ¬ (3 : Int32) < (3 : Int32))).2.2.2 (by decide) (by decide) ?_
            refine XS.iload X28.here hx rfl (hb hby at_86) rfl ?_
            refine XS.iconst X28.here hx rfl (hb hby at_88) ?_
            refine XS.icmpNo X28.here hx rfl (hb hby at_89) rfl (tlt (by decide : (2 : Int32) < (3 : Int32))).2.2.2 ?_
            refine XS.aload X28.here hx rfl (hb hby at_92) rfl rfl ?_
            refine XS.iconst X28.here hx rfl (hb hby at_94) ?_
            refine X28.caload hx (j := (2 : Int32)) (v := (.int d2)) (by rw [eh28]; exact Ar105.1) (State.isArrayOf_alike hZ.alike Ar105.2.1) Ar105.2.2 hin105 hat105 (g := (mkF m 95 #[iv p1, iv p2, iv p3, iv p4, iv p5, iv 3, rv b1, rv si, iv (-1), .unset, .unset, .unset] [(.int (2 : Int32)), (.ref b1)])) rfl rfl (hb hby at_95) _ ?_
            refine XS.bipush X28.here hx rfl (hb hby at_96) ?_
            refine XS.icmpYes X28.here hx rfl (pc0 := 98) (pc' := 104) rfl (hb hby at_98) rfl (feq hq89).2 (by decide) (by decide) ?_
            refine XS.iload X28.here hx rfl (hb hby at_104) rfl ?_
            refine XS.iconst X28.here hx rfl (hb hby at_106) ?_
            refine XS.icmpNo X28.here hx rfl (hb hby at_107) rfl (tlt (by decide : (1 : Int32) < (3 : Int32))).2.2.2 ?_
            refine XS.aload X28.here hx rfl (hb hby at_110) rfl rfl ?_
            show SP p e below T28 (mkF m 112 #[iv p1, iv p2, iv p3, iv p4, iv p5, iv 3, rv b1, rv si, iv (-1), .unset, .unset, .unset] [(.ref b1)]) t
            refine XS.iconst X28.here hx rfl (hb hby at_112) ?_
            refine X28.caload hx (j := (1 : Int32)) (v := (.int d1)) (by rw [eh28]; exact Ar106.1) (State.isArrayOf_alike hZ.alike Ar106.2.1) Ar106.2.2 hin106 hat106 (g := (mkF m 113 #[iv p1, iv p2, iv p3, iv p4, iv p5, iv 3, rv b1, rv si, iv (-1), .unset, .unset, .unset] [(.int (1 : Int32)), (.ref b1)])) rfl rfl (hb hby at_113) _ ?_
            refine XS.bipush X28.here hx rfl (hb hby at_114) ?_
            refine XS.icmpYes X28.here hx rfl (pc0 := 116) (pc' := 122) rfl (hb hby at_116) rfl (feq hq64).2 (by decide) (by decide) ?_
            refine XS.iload X28.here hx rfl (hb hby at_122) rfl ?_
            refine XS.ifNo X28.here hx rfl (hb hby at_124) rfl ((if0 _ _).trans (tlt (by decide : (0 : Int32) < (3 : Int32))).2.2.2) ?_
            refine XS.aload X28.here hx rfl (hb hby at_127) rfl rfl ?_
            refine XS.iconst X28.here hx rfl (hb hby at_129) ?_
            refine X28.caload hx (j := (0 : Int32)) (v := (.int d0)) (by rw [eh28]; exact Ar107.1) (State.isArrayOf_alike hZ.alike Ar107.2.1) Ar107.2.2 hin107 hat107 (g := (mkF m 130 #[iv p1, iv p2, iv p3, iv p4, iv p5, iv 3, rv b1, rv si, iv (-1), .unset, .unset, .unset] [(.int (0 : Int32)), (.ref b1)])) rfl rfl (hb hby at_130) _ ?_
            refine XS.bipush X28.here hx rfl (hb hby at_131) ?_
            refine XS.icmpYes X28.here hx rfl (pc0 := 133) (pc' := 139) rfl (hb hby at_133) rfl (feq hq30).2 (by decide) (by decide) ?_
            refine XS.aload X28.here hx rfl (hb hby at_139) rfl rfl ?_
            show SP p e below T28 (mkF m 141 #[iv p1, iv p2, iv p3, iv p4, iv p5, iv 3, rv b1, rv si, iv (-1), .unset, .unset, .unset] [(.ref si)]) t
            exact st110 t k)
        have ch112 : ∀ t, SP p e below T110 (mkF m 161 #[iv p1, iv p2, iv p3, iv p4, iv p5, iv 3, rv b1, rv si, iv (-1), .val .null, .unset, .unset] [(.int (1 : Int32))]) t → SP p e below s₁ (entryFrame m #[(.int p1), (.int p2), (.int p3), (.int p4), (.int p5)] maxLocals) t := fun t k => ch111 t (by
            show SP p e below T110 (mkF m 144 #[iv p1, iv p2, iv p3, iv p4, iv p5, iv 3, rv b1, rv si, iv (-1), .unset, .unset, .unset] [.null]) t
            refine XS.astore X110.here hx rfl (hb hby at_144) rfl rfl (l' := #[iv p1, iv p2, iv p3, iv p4, iv p5, iv 3, rv b1, rv si, iv (-1), .val .null, .unset, .unset]) rfl ?_
            refine XS.iload X110.here hx rfl (hb hby at_146) rfl ?_
            refine XS.ifNo X110.here hx rfl (hb hby at_148) rfl ((if0 _ _).trans (tlt (by decide : (-1 : Int32) < (0 : Int32))).2.1) ?_
            refine XS.aload X110.here hx rfl (hb hby at_151) rfl rfl ?_
            show SP p e below T110 (mkF m 153 #[iv p1, iv p2, iv p3, iv p4, iv p5, iv 3, rv b1, rv si, iv (-1), .val .null, .unset, .unset] [.null]) t
            refine XS.ifnonnullNo X110.here hx rfl (hb hby at_153) rfl ?_
            refine XS.iconst X110.here hx rfl (hb hby at_156) ?_
            refine XS.goto X110.here hx rfl (pc0 := 157) (pc' := 161) rfl (hb hby at_157) (by decide) (by decide) ?_
            exact k)
        obtain ⟨fs, hr, hrun, hended, hend⟩ := X110.leaveW hS (by rw [e110]; exact hk) (v := some (.int (1 : Int32))) (fun h => by rw [Bd.returns] at h; cases h)
        refine ⟨_, _, ch112 _ ?_, hrun, hended, _, _, rfl, ?_, hend.1, hend.2.1, hend.2.2.1, hend.2.2.2.mono (by decide) (by decide)⟩
        · show Steps p.tables e below (T110.setTop (mkF m 161 #[iv p1, iv p2, iv p3, iv p4, iv p5, iv 3, rv b1, rv si, iv (-1), .val .null, .unset, .unset] [(.int (1 : Int32))])) _
          exact retN X110 hx (t := .boolean) Bd.returns (by simp) (hb hby at_161) hr
        · show QN (some (.int (1 : Int32))) n0 _ T110.heap _
          rw [e110]
          exact ⟨rfl, N110⟩
theorem own_ef_own_law_4 (m : MethodId) {x0 : Int32} {x1 : Int32} {x2 : Int32} {x3 : Int32} {x4 : Int32} : entryFrame m #[(.int x0), (.int x1), (.int x2), (.int x3), (.int x4)] maxLocals = mkF m 0 #[iv x0, iv x1, iv x2, iv x3, iv x4, .unset, .unset, .unset, .unset, .unset, .unset, .unset] [] := by first | (simp [entryFrame, mkF, argsToLocals, Value.category, maxLocals]; done) | rfl
set_option maxRecDepth 65536 in
set_option maxHeartbeats 40000000 in
theorem own_law_4 (l : Launch) (Z : State) (a0 : Array Value) (hw : ∀ d ∈ tables_1, d.before a0 Z = true) (ws : List Jvm.Cond) (h0 : Heap) (n0 : Nat) (Z0 : n0 ≤ h0.size) (p1 p2 p3 p4 p5 d0 d1 d2 d3 : Int32) (hn5 : ((p1 &&& (2147483647 : Int32)) % (5 : Int32)) = (4 : Int32)) (HD0 : ∀ (h : Heap) (n0 : Nat) (Z0 : n0 ≤ h.size), MetFree l ym1 (head1 (Jvm.Cond.code ym1 method_2_code 1 (some .char) :: []) rm0) (fun a U => a = #[(.int p2)] ∧ Z.Warmed39 U.vm ∧ U.heap = h) (fun _ _ _ _ _ => True) (fun _ U o U' => ∃ v L, o = .returned v ∧ QV (some (.int d0)) h n0 v U'.heap L ∧ FrameEnd U o U' L rm0.cells rm0.slots)) (HD1 : ∀ (h : Heap) (n0 : Nat) (Z0 : n0 ≤ h.size), MetFree l ym1 (head1 (Jvm.Cond.code ym1 method_2_code 1 (some .char) :: []) rm0) (fun a U => a = #[(.int p3)] ∧ Z.Warmed39 U.vm ∧ U.heap = h) (fun _ _ _ _ _ => True) (fun _ U o U' => ∃ v L, o = .returned v ∧ QV (some (.int d1)) h n0 v U'.heap L ∧ FrameEnd U o U' L rm0.cells rm0.slots)) (HD2 : ∀ (h : Heap) (n0 : Nat) (Z0 : n0 ≤ h.size), MetFree l ym1 (head1 (Jvm.Cond.code ym1 method_2_code 1 (some .char) :: []) rm0) (fun a U => a = #[(.int p4)] ∧ Z.Warmed39 U.vm ∧ U.heap = h) (fun _ _ _ _ _ => True) (fun _ U o U' => ∃ v L, o = .returned v ∧ QV (some (.int d2)) h n0 v U'.heap L ∧ FrameEnd U o U' L rm0.cells rm0.slots)) (HD3 : ∀ (h : Heap) (n0 : Nat) (Z0 : n0 ≤ h.size), MetFree l ym1 (head1 (Jvm.Cond.code ym1 method_2_code 1 (some .char) :: []) rm0) (fun a U => a = #[(.int p5)] ∧ Z.Warmed39 U.vm ∧ U.heap = h) (fun _ _ _ _ _ => True) (fun _ U o U' => ∃ v L, o = .returned v ∧ QV (some (.int d3)) h n0 v U'.heap L ∧ FrameEnd U o U' L rm0.cells rm0.slots)) (r0 : ¬ d0 < 0 ∧ ¬ (255 : Int32) < d0) (r1 : ¬ d1 < 0 ∧ ¬ (255 : Int32) < d1) (r2 : ¬ d2 < 0 ∧ ¬ (255 : Int32) < d2) (r3 : ¬ d3 < 0 ∧ ¬ (255 : Int32) < d3) (zC : Int32) (S_CS : Sta Z h0 "java/lang/String" "COMPACT_STRINGS" "Z" (.int zC)) (P5 : ¬ (zC = (0 : Int32))) (vF : Value) (hvF : vF.category = 1) (S_F : Sta Z h0 "jdk/internal/util/Preconditions" "SIOOBE_FORMATTER" "Ljava/util/function/BiFunction;" vF) :
    MetFree l x (head1 (Jvm.Cond.code x code maxLocals ret :: ws) room_1) (fun a U => a = #[(.int p1), (.int p2), (.int p3), (.int p4), (.int p5)] ∧ Z.Warmed39 U.vm ∧ U.heap = h0 ∧ CHv Z consts_1 U.vm h0) (fun _ _ _ _ _ => True) (fun _ U o U' => ∃ v L, o = .returned v ∧ QN (some (.int (1 : Int32))) n0 v U'.heap L ∧ ReturnedEndW U o U' L room_1.cells room_1.slots) := by
  refine MetFree.of_bodySF (plainFor_of_name own_pn_com_example_leafwright_leafwright_ReferencesFragmentPinLaw) hisR ?_
  intro p e s m args below meth c s₁ Bd hml0 hP hK
  obtain ⟨rfl, hZ, hh, hC⟩ := hP
  have hx := Bd.exec
  have hby := Bd.bytes
  have hml : c.maxLocals = 12 := hml0
  have hown : s.vm.findClass "com/example/leafwright/leafwright/ReferencesFragmentPinLaw" = some m.cls := (findClass_of_methodNamed Bd.named :)
  have hnm := (name_of_methodNamed Bd.named Bd.method).1
  have X0 : Stand p l e room_1 (s.setVm s.vm) m #[(.int p1), (.int p2), (.int p3), (.int p4), (.int p5)] below meth c s₁ [] 0 0 := Stand.of_body Bd
  have hZ : Z.Warmed39 (s.setVm s.vm).vm := hZ
  have hown : (s.setVm s.vm).vm.findClass "com/example/leafwright/leafwright/ReferencesFragmentPinLaw" = some m.cls := hown
  have hS : s.Since s.vm 0 := (State.WarmedH.refl s).since 0
  have hk : 0 ≤ h0.size := Nat.zero_le _
  have e0 : s₁.heap = h0 := by rw [← hh, Bd.state]; rfl
  have N0 := Fr.nil n0
  have pre0 : ∀ t, SP p e below s₁ (mkF m 0 #[iv p1, iv p2, iv p3, iv p4, iv p5, .unset, .unset, .unset, .unset, .unset, .unset, .unset] []) t → SP p e below s₁ (entryFrame m #[(.int p1), (.int p2), (.int p3), (.int p4), (.int p5)] maxLocals) t := fun t k => castTop (own_ef_own_law_4 m) k
  obtain ⟨T1, hp1, k1, X1, e1, E1, A1, st1⟩ := newP X0 hx hZ (own_wi hw 1 rfl) e0 (g := (mkF m 9 #[iv p1, iv p2, iv p3, iv p4, iv p5, iv 4, .unset, .unset, .unset, .unset, .unset, .unset] [(.int (4 : Int32))])) rfl (hb hby at_9) rfl (by decide) (cap := 4) (by decide) (by decide) (by decide) (by decide)
  obtain ⟨b1, g1⟩ : ∃ z, z = h0.size := ⟨_, rfl⟩
  rw [← g1] at A1 st1
  have g_b1 : n0 ≤ b1 := Nat.le_trans (Nat.le_trans Z0 (Keep.refl h0 []).1) (Nat.le_of_eq g1.symm)
  have sz_b1 : h0.size ≤ b1 := Nat.le_trans (Keep.refl h0 []).1 (Nat.le_of_eq g1.symm)
  have hk := Nat.le_trans hk E1.1
  have Kp1 := Keep.ext (Keep.refl h0 []) E1
  have V1 : Arv Z hp1 b1 k1 .char (4 : Int32) [(.int (0 : Int32)), (.int (0 : Int32)), (.int (0 : Int32)), (.int (0 : Int32))] (.int (0 : Int32)) := (Arv.new A1 (by decide)).pad (pad_rep [] (.int (0 : Int32)) 4)
  have ch2 : ∀ t, SP p e below T1 (mkF m 11 #[iv p1, iv p2, iv p3, iv p4, iv p5, iv 4, .unset, .unset, .unset, .unset, .unset, .unset] [(.ref b1)]) t → SP p e below s₁ (entryFrame m #[(.int p1), (.int p2), (.int p3), (.int p4), (.int p5)] maxLocals) t := fun t k => pre0 t (by
      show SP p e below s₁ (mkF m 0 #[iv p1, iv p2, iv p3, iv p4, iv p5, .unset, .unset, .unset, .unset, .unset, .unset, .unset] []) t
      refine XS.iloadN X0.here hx rfl (hb hby at_0) rfl ?_
      refine X0.ldcInt hx hown (mvT hZ (own_wi hw 0 rfl)) (g := (mkF m 1 #[iv p1, iv p2, iv p3, iv p4, iv p5, .unset, .unset, .unset, .unset, .unset, .unset, .unset] [(.int p1)])) rfl (hb hby at_1) _ ?_
      show SP p e below s₁ (mkF m 3 #[iv p1, iv p2, iv p3, iv p4, iv p5, .unset, .unset, .unset, .unset, .unset, .unset, .unset] [(.int (2147483647 : Int32)), (.int p1)]) t
      refine XS.iand X0.here hx rfl (hb hby at_3) rfl ?_
      refine XS.iconst X0.here hx rfl (hb hby at_4) ?_
      show SP p e below s₁ (mkF m 5 #[iv p1, iv p2, iv p3, iv p4, iv p5, .unset, .unset, .unset, .unset, .unset, .unset, .unset] [(.int (5 : Int32)), (.int (p1 &&& (2147483647 : Int32)))]) t
      refine Jvm.RoadKit.iremM (g := (mkF m 5 #[iv p1, iv p2, iv p3, iv p4, iv p5, .unset, .unset, .unset, .unset, .unset, .unset, .unset] [(.int (5 : Int32)), (.int (p1 &&& (2147483647 : Int32)))])) X0 hx rfl (hb hby at_5) rfl (by decide) ?_
      rw [hn5]
      refine XS.istore X0.here hx rfl (hb hby at_6) rfl (l' := #[iv p1, iv p2, iv p3, iv p4, iv p5, iv 4, .unset, .unset, .unset, .unset, .unset, .unset]) rfl ?_
      refine XS.iconst X0.here hx rfl (hb hby at_8) ?_
      show SP p e below s₁ (mkF m 9 #[iv p1, iv p2, iv p3, iv p4, iv p5, iv 4, .unset, .unset, .unset, .unset, .unset, .unset] [(.int (4 : Int32))]) t
      exact st1 t k)
  obtain ⟨vv3, _, ⟨T3, L3, kk3, nn3⟩, -, X3, ⟨Lc3, hQ3, l3, y3, z3⟩, st3⟩ := Jvm.LawKit.callS X1 hx (y := ym1) hown (mvT hZ (own_wi hw 2 rfl)) (mvT hZ (own_wi hw 3 rfl)) (mvT hZ (own_wi hw 4 rfl)) (mvT hZ (own_wi hw 5 rfl)) (by decide) (backOf (W := 3) (HD0 hp1 n0 (Nat.le_trans Z0 Kp1.1)) hZ (own_wi hw 5 rfl) (own_wi hw 4 rfl) (by decide) (by decide)) (g := (mkF m 14 #[iv p1, iv p2, iv p3, iv p4, iv p5, iv 4, .unset, .unset, .unset, .unset, .unset, .unset] [(.int p2), (.int (0 : Int32)), (.ref b1), (.ref b1)])) rfl (by rw [hml]; rfl) (argsL := [(.int p2)]) (rest := [(.int (0 : Int32)), (.ref b1), (.ref b1)]) (lenOf own_pd__I_C rfl) rfl (by show 2 * 0 + _ ≤ _; exact Nat.le_of_eq rfl) (hb hby at_14) (fun _ _ => ⟨rfl, e1, (by decide : 1 + 0 ≤ _), (by decide : 4 + 0 ≤ _)⟩)
  dsimp only [Pt.U, Pt.locs, Pt.cells, Pt.slots] at X3 l3 y3 z3 st3 hQ3
  subst l3 y3 z3
  obtain ⟨rfl, Nq3, e3⟩ := hQ3
  have N3 := Fr.app N0 Nq3
  have ch4 : ∀ t, SP p e below T3 (mkF m 17 #[iv p1, iv p2, iv p3, iv p4, iv p5, iv 4, .unset, .unset, .unset, .unset, .unset, .unset] [(.int d0), (.int (0 : Int32)), (.ref b1), (.ref b1)]) t → SP p e below s₁ (entryFrame m #[(.int p1), (.int p2), (.int p3), (.int p4), (.int p5)] maxLocals) t := fun t k => ch2 t (by
      show SP p e below T1 (mkF m 11 #[iv p1, iv p2, iv p3, iv p4, iv p5, iv 4, .unset, .unset, .unset, .unset, .unset, .unset] [(.ref b1)]) t
      refine XS.dup X1.here hx rfl (hb hby at_11) rfl rfl ?_
      refine XS.iconst X1.here hx rfl (hb hby at_12) ?_
      refine XS.iloadN X1.here hx rfl (hb hby at_13) rfl ?_
      show SP p e below T1 (mkF m 14 #[iv p1, iv p2, iv p3, iv p4, iv p5, iv 4, .unset, .unset, .unset, .unset, .unset, .unset] [(.int p2), (.int (0 : Int32)), (.ref b1), (.ref b1)]) t
      exact st3 t k)
  obtain ⟨cl5, Ar5, qq5, Sz5, Ng5, Ha5, Ga5⟩ := id V1
  have hin5 : ¬ ((0 : Int32) < 0 ∨ cl5.slots.size ≤ ((0 : Int32)).toNatClampNeg) := inb_of Sz5 (by decide)
  obtain ⟨T6, hp6, X6, e6, W6, st6⟩ := stC X3 hx hZ e3 Ar5 (j := (0 : Int32)) hin5 (g := (mkF m 17 #[iv p1, iv p2, iv p3, iv p4, iv p5, iv 4, .unset, .unset, .unset, .unset, .unset, .unset] [(.int d0), (.int (0 : Int32)), (.ref b1), (.ref b1)])) rfl rfl (hb hby at_17)
  have ch7 : ∀ t, SP p e below T6 (mkF m 18 #[iv p1, iv p2, iv p3, iv p4, iv p5, iv 4, .unset, .unset, .unset, .unset, .unset, .unset] [(.ref b1)]) t → SP p e below s₁ (entryFrame m #[(.int p1), (.int p2), (.int p3), (.int p4), (.int p5)] maxLocals) t := fun t k => ch4 t (by
      show SP p e below T3 (mkF m 17 #[iv p1, iv p2, iv p3, iv p4, iv p5, iv 4, .unset, .unset, .unset, .unset, .unset, .unset] [(.int d0), (.int (0 : Int32)), (.ref b1), (.ref b1)]) t
      exact st6 t k)
  have V6 : Arv Z hp6 b1 k1 .char (4 : Int32) [(.int (nar .char d0)), (.int (0 : Int32)), (.int (0 : Int32)), (.int (0 : Int32))] (.int (0 : Int32)) := Arv.set Ar5 qq5 Sz5 Ng5 Ha5 Ga5 (fits_nar_char _) W6 0 rfl (Nat.le_of_ble_eq_true rfl)
  rw [own_narc r0] at V6
  have hk := Nat.le_trans hk (Keep.of_wr W6).1
  have N6 := Fr.snoc X6 N3 g_b1
  have Kp6 := Keep.wr Kp1 W6 (Or.inr sz_b1)
  obtain ⟨vv8, _, ⟨T8, L8, kk8, nn8⟩, -, X8, ⟨Lc8, hQ8, l8, y8, z8⟩, st8⟩ := Jvm.LawKit.callS X6 hx (y := ym1) hown (mvT hZ (own_wi hw 2 rfl)) (mvT hZ (own_wi hw 3 rfl)) (mvT hZ (own_wi hw 4 rfl)) (mvT hZ (own_wi hw 5 rfl)) (by decide) (backOf (W := 3) (HD1 hp6 n0 (Nat.le_trans Z0 Kp6.1)) hZ (own_wi hw 5 rfl) (own_wi hw 4 rfl) (by decide) (by decide)) (g := (mkF m 21 #[iv p1, iv p2, iv p3, iv p4, iv p5, iv 4, .unset, .unset, .unset, .unset, .unset, .unset] [(.int p3), (.int (1 : Int32)), (.ref b1), (.ref b1)])) rfl (by rw [hml]; rfl) (argsL := [(.int p3)]) (rest := [(.int (1 : Int32)), (.ref b1), (.ref b1)]) (lenOf own_pd__I_C rfl) rfl (by show 2 * 0 + _ ≤ _; exact Nat.le_of_eq rfl) (hb hby at_21) (fun _ _ => ⟨rfl, e6, (by decide : 1 + 0 ≤ _), (by decide : 4 + 0 ≤ _)⟩)
  dsimp only [Pt.U, Pt.locs, Pt.cells, Pt.slots] at X8 l8 y8 z8 st8 hQ8
  subst l8 y8 z8
  obtain ⟨rfl, Nq8, e8⟩ := hQ8
  have N8 := Fr.app N6 Nq8
  have ch9 : ∀ t, SP p e below T8 (mkF m 24 #[iv p1, iv p2, iv p3, iv p4, iv p5, iv 4, .unset, .unset, .unset, .unset, .unset, .unset] [(.int d1), (.int (1 : Int32)), (.ref b1), (.ref b1)]) t → SP p e below s₁ (entryFrame m #[(.int p1), (.int p2), (.int p3), (.int p4), (.int p5)] maxLocals) t := fun t k => ch7 t (by
      show SP p e below T6 (mkF m 18 #[iv p1, iv p2, iv p3, iv p4, iv p5, iv 4, .unset, .unset, .unset, .unset, .unset, .unset] [(.ref b1)]) t
      refine XS.dup X6.here hx rfl (hb hby at_18) rfl rfl ?_
      show SP p e below T6 (mkF m 19 #[iv p1, iv p2, iv p3, iv p4, iv p5, iv 4, .unset, .unset, .unset, .unset, .unset, .unset] [(.ref b1), (.ref b1)]) t
      refine XS.iconst X6.here hx rfl (hb hby at_19) ?_
      refine XS.iloadN X6.here hx rfl (hb hby at_20) rfl ?_
      show SP p e below T6 (mkF m 21 #[iv p1, iv p2, iv p3, iv p4, iv p5, iv 4, .unset, .unset, .unset, .unset, .unset, .unset] [(.int p3), (.int (1 : Int32)), (.ref b1), (.ref b1)]) t
      exact st8 t k)
  obtain ⟨cl10, Ar10, qq10, Sz10, Ng10, Ha10, Ga10⟩ := id V6
  have hin10 : ¬ ((1 : Int32) < 0 ∨ cl10.slots.size ≤ ((1 : Int32)).toNatClampNeg) := inb_of Sz10 (by decide)
  obtain ⟨T11, hp11, X11, e11, W11, st11⟩ := stC X8 hx hZ e8 Ar10 (j := (1 : Int32)) hin10 (g := (mkF m 24 #[iv p1, iv p2, iv p3, iv p4, iv p5, iv 4, .unset, .unset, .unset, .unset, .unset, .unset] [(.int d1), (.int (1 : Int32)), (.ref b1), (.ref b1)])) rfl rfl (hb hby at_24)
  have ch12 : ∀ t, SP p e below T11 (mkF m 25 #[iv p1, iv p2, iv p3, iv p4, iv p5, iv 4, .unset, .unset, .unset, .unset, .unset, .unset] [(.ref b1)]) t → SP p e below s₁ (entryFrame m #[(.int p1), (.int p2), (.int p3), (.int p4), (.int p5)] maxLocals) t := fun t k => ch9 t (by
      show SP p e below T8 (mkF m 24 #[iv p1, iv p2, iv p3, iv p4, iv p5, iv 4, .unset, .unset, .unset, .unset, .unset, .unset] [(.int d1), (.int (1 : Int32)), (.ref b1), (.ref b1)]) t
      exact st11 t k)
  have V11 : Arv Z hp11 b1 k1 .char (4 : Int32) [(.int d0), (.int (nar .char d1)), (.int (0 : Int32)), (.int (0 : Int32))] (.int (0 : Int32)) := Arv.set Ar10 qq10 Sz10 Ng10 Ha10 Ga10 (fits_nar_char _) W11 1 rfl (Nat.le_of_ble_eq_true rfl)
  rw [own_narc r1] at V11
  have hk := Nat.le_trans hk (Keep.of_wr W11).1
  have N11 := Fr.snoc X11 N8 g_b1
  have Kp11 := Keep.wr Kp6 W11 (Or.inr sz_b1)
  obtain ⟨vv13, _, ⟨T13, L13, kk13, nn13⟩, -, X13, ⟨Lc13, hQ13, l13, y13, z13⟩, st13⟩ := Jvm.LawKit.callS X11 hx (y := ym1) hown (mvT hZ (own_wi hw 2 rfl)) (mvT hZ (own_wi hw 3 rfl)) (mvT hZ (own_wi hw 4 rfl)) (mvT hZ (own_wi hw 5 rfl)) (by decide) (backOf (W := 3) (HD2 hp11 n0 (Nat.le_trans Z0 Kp11.1)) hZ (own_wi hw 5 rfl) (own_wi hw 4 rfl) (by decide) (by decide)) (g := (mkF m 28 #[iv p1, iv p2, iv p3, iv p4, iv p5, iv 4, .unset, .unset, .unset, .unset, .unset, .unset] [(.int p4), (.int (2 : Int32)), (.ref b1), (.ref b1)])) rfl (by rw [hml]; rfl) (argsL := [(.int p4)]) (rest := [(.int (2 : Int32)), (.ref b1), (.ref b1)]) (lenOf own_pd__I_C rfl) rfl (by show 2 * 0 + _ ≤ _; exact Nat.le_of_eq rfl) (hb hby at_28) (fun _ _ => ⟨rfl, e11, (by decide : 1 + 0 ≤ _), (by decide : 4 + 0 ≤ _)⟩)
  dsimp only [Pt.U, Pt.locs, Pt.cells, Pt.slots] at X13 l13 y13 z13 st13 hQ13
  subst l13 y13 z13
  obtain ⟨rfl, Nq13, e13⟩ := hQ13
  have N13 := Fr.app N11 Nq13
  have ch14 : ∀ t, SP p e below T13 (mkF m 31 #[iv p1, iv p2, iv p3, iv p4, iv p5, iv 4, .unset, .unset, .unset, .unset, .unset, .unset] [(.int d2), (.int (2 : Int32)), (.ref b1), (.ref b1)]) t → SP p e below s₁ (entryFrame m #[(.int p1), (.int p2), (.int p3), (.int p4), (.int p5)] maxLocals) t := fun t k => ch12 t (by
      show SP p e below T11 (mkF m 25 #[iv p1, iv p2, iv p3, iv p4, iv p5, iv 4, .unset, .unset, .unset, .unset, .unset, .unset] [(.ref b1)]) t
      refine XS.dup X11.here hx rfl (hb hby at_25) rfl rfl ?_
      refine XS.iconst X11.here hx rfl (hb hby at_26) ?_
      refine XS.iloadN X11.here hx rfl (hb hby at_27) rfl ?_
      show SP p e below T11 (mkF m 28 #[iv p1, iv p2, iv p3, iv p4, iv p5, iv 4, .unset, .unset, .unset, .unset, .unset, .unset] [(.int p4), (.int (2 : Int32)), (.ref b1), (.ref b1)]) t
      exact st13 t k)
  obtain ⟨cl15, Ar15, qq15, Sz15, Ng15, Ha15, Ga15⟩ := id V11
  have hin15 : ¬ ((2 : Int32) < 0 ∨ cl15.slots.size ≤ ((2 : Int32)).toNatClampNeg) := inb_of Sz15 (by decide)
  obtain ⟨T16, hp16, X16, e16, W16, st16⟩ := stC X13 hx hZ e13 Ar15 (j := (2 : Int32)) hin15 (g := (mkF m 31 #[iv p1, iv p2, iv p3, iv p4, iv p5, iv 4, .unset, .unset, .unset, .unset, .unset, .unset] [(.int d2), (.int (2 : Int32)), (.ref b1), (.ref b1)])) rfl rfl (hb hby at_31)
  have ch17 : ∀ t, SP p e below T16 (mkF m 32 #[iv p1, iv p2, iv p3, iv p4, iv p5, iv 4, .unset, .unset, .unset, .unset, .unset, .unset] [(.ref b1)]) t → SP p e below s₁ (entryFrame m #[(.int p1), (.int p2), (.int p3), (.int p4), (.int p5)] maxLocals) t := fun t k => ch14 t (by
      show SP p e below T13 (mkF m 31 #[iv p1, iv p2, iv p3, iv p4, iv p5, iv 4, .unset, .unset, .unset, .unset, .unset, .unset] [(.int d2), (.int (2 : Int32)), (.ref b1), (.ref b1)]) t
      exact st16 t k)
  have V16 : Arv Z hp16 b1 k1 .char (4 : Int32) [(.int d0), (.int d1), (.int (nar .char d2)), (.int (0 : Int32))] (.int (0 : Int32)) := Arv.set Ar15 qq15 Sz15 Ng15 Ha15 Ga15 (fits_nar_char _) W16 2 rfl (Nat.le_of_ble_eq_true rfl)
  rw [own_narc r2] at V16
  have hk := Nat.le_trans hk (Keep.of_wr W16).1
  have N16 := Fr.snoc X16 N13 g_b1
  have Kp16 := Keep.wr Kp11 W16 (Or.inr sz_b1)
  obtain ⟨vv18, _, ⟨T18, L18, kk18, nn18⟩, -, X18, ⟨Lc18, hQ18, l18, y18, z18⟩, st18⟩ := Jvm.LawKit.callS X16 hx (y := ym1) hown (mvT hZ (own_wi hw 2 rfl)) (mvT hZ (own_wi hw 3 rfl)) (mvT hZ (own_wi hw 4 rfl)) (mvT hZ (own_wi hw 5 rfl)) (by decide) (backOf (W := 3) (HD3 hp16 n0 (Nat.le_trans Z0 Kp16.1)) hZ (own_wi hw 5 rfl) (own_wi hw 4 rfl) (by decide) (by decide)) (g := (mkF m 36 #[iv p1, iv p2, iv p3, iv p4, iv p5, iv 4, .unset, .unset, .unset, .unset, .unset, .unset] [(.int p5), (.int (3 : Int32)), (.ref b1), (.ref b1)])) rfl (by rw [hml]; rfl) (argsL := [(.int p5)]) (rest := [(.int (3 : Int32)), (.ref b1), (.ref b1)]) (lenOf own_pd__I_C rfl) rfl (by show 2 * 0 + _ ≤ _; exact Nat.le_of_eq rfl) (hb hby at_36) (fun _ _ => ⟨rfl, e16, (by decide : 1 + 0 ≤ _), (by decide : 4 + 0 ≤ _)⟩)
  dsimp only [Pt.U, Pt.locs, Pt.cells, Pt.slots] at X18 l18 y18 z18 st18 hQ18
  subst l18 y18 z18
  obtain ⟨rfl, Nq18, e18⟩ := hQ18
  have N18 := Fr.app N16 Nq18
  have ch19 : ∀ t, SP p e below T18 (mkF m 39 #[iv p1, iv p2, iv p3, iv p4, iv p5, iv 4, .unset, .unset, .unset, .unset, .unset, .unset] [(.int d3), (.int (3 : Int32)), (.ref b1), (.ref b1)]) t → SP p e below s₁ (entryFrame m #[(.int p1), (.int p2), (.int p3), (.int p4), (.int p5)] maxLocals) t := fun t k => ch17 t (by
      show SP p e below T16 (mkF m 32 #[iv p1, iv p2, iv p3, iv p4, iv p5, iv 4, .unset, .unset, .unset, .unset, .unset, .unset] [(.ref b1)]) t
      refine XS.dup X16.here hx rfl (hb hby at_32) rfl rfl ?_
      refine XS.iconst X16.here hx rfl (hb hby at_33) ?_
      refine XS.iload X16.here hx rfl (hb hby at_34) rfl ?_
      show SP p e below T16 (mkF m 36 #[iv p1, iv p2, iv p3, iv p4, iv p5, iv 4, .unset, .unset, .unset, .unset, .unset, .unset] [(.int p5), (.int (3 : Int32)), (.ref b1), (.ref b1)]) t
      exact st18 t k)
  obtain ⟨cl20, Ar20, qq20, Sz20, Ng20, Ha20, Ga20⟩ := id V16
  have hin20 : ¬ ((3 : Int32) < 0 ∨ cl20.slots.size ≤ ((3 : Int32)).toNatClampNeg) := inb_of Sz20 (by decide)
  obtain ⟨T21, hp21, X21, e21, W21, st21⟩ := stC X18 hx hZ e18 Ar20 (j := (3 : Int32)) hin20 (g := (mkF m 39 #[iv p1, iv p2, iv p3, iv p4, iv p5, iv 4, .unset, .unset, .unset, .unset, .unset, .unset] [(.int d3), (.int (3 : Int32)), (.ref b1), (.ref b1)])) rfl rfl (hb hby at_39)
  have ch22 : ∀ t, SP p e below T21 (mkF m 40 #[iv p1, iv p2, iv p3, iv p4, iv p5, iv 4, .unset, .unset, .unset, .unset, .unset, .unset] [(.ref b1)]) t → SP p e below s₁ (entryFrame m #[(.int p1), (.int p2), (.int p3), (.int p4), (.int p5)] maxLocals) t := fun t k => ch19 t (by
      show SP p e below T18 (mkF m 39 #[iv p1, iv p2, iv p3, iv p4, iv p5, iv 4, .unset, .unset, .unset, .unset, .unset, .unset] [(.int d3), (.int (3 : Int32)), (.ref b1), (.ref b1)]) t
      exact st21 t k)
  have V21 : Arv Z hp21 b1 k1 .char (4 : Int32) [(.int d0), (.int d1), (.int d2), (.int (nar .char d3))] (.int (0 : Int32)) := Arv.set Ar20 qq20 Sz20 Ng20 Ha20 Ga20 (fits_nar_char _) W21 3 rfl (Nat.le_of_ble_eq_true rfl)
  rw [own_narc r3] at V21
  have hk := Nat.le_trans hk (Keep.of_wr W21).1
  have N21 := Fr.snoc X21 N18 g_b1
  have Kp21 := Keep.wr Kp16 W21 (Or.inr sz_b1)
  obtain ⟨cl23, Ar23, -, Sz23, Ng23, Ha23, -⟩ := id V21
  have hin23 : ¬ ((0 : Int32) < 0 ∨ cl23.slots.size ≤ ((0 : Int32)).toNatClampNeg) := inb_of Sz23 (by decide)
  have hat23 : cl23.slots[((0 : Int32)).toNatClampNeg]? = some (.int d0) := Ha23.at hin23 rfl
  obtain ⟨cl24, Ar24, -, Sz24, Ng24, Ha24, -⟩ := id V21
  have hin24 : ¬ ((1 : Int32) < 0 ∨ cl24.slots.size ≤ ((1 : Int32)).toNatClampNeg) := inb_of Sz24 (by decide)
  have hat24 : cl24.slots[((1 : Int32)).toNatClampNeg]? = some (.int d1) := Ha24.at hin24 rfl
  obtain ⟨cl25, Ar25, -, Sz25, Ng25, Ha25, -⟩ := id V21
  have hin25 : ¬ ((2 : Int32) < 0 ∨ cl25.slots.size ≤ ((2 : Int32)).toNatClampNeg) := inb_of Sz25 (by decide)
  have hat25 : cl25.slots[((2 : Int32)).toNatClampNeg]? = some (.int d2) := Ha25.at hin25 rfl
  obtain ⟨cl26, Ar26, -, Sz26, Ng26, Ha26, -⟩ := id V21
  have hin26 : ¬ ((3 : Int32) < 0 ∨ cl26.slots.size ≤ ((3 : Int32)).toNatClampNeg) := inb_of Sz26 (by decide)
  have hat26 : cl26.slots[((3 : Int32)).toNatClampNeg]? = some (.int d3) := Ha26.at hin26 rfl
  have cf27 := (own_sta_keep S_CS Kp21 all0)
  obtain ⟨vv28, _, ⟨T28, L28, kk28, nn28⟩, -, X28, ⟨Lc28, hQ28, l28, y28, z28⟩, st28⟩ := Jvm.LawKit.callS X21 hx (y := ym2) hown (mvT hZ (own_wi hw 6 rfl)) (mvT hZ (own_wi hw 7 rfl)) (mvT hZ (own_wi hw 4 rfl)) (mvT hZ (own_wi hw 8 rfl)) (by decide) (backOf (W := 0) (own_make_4 l Z a0 hw [] hp21 n0 (Nat.le_trans Z0 Kp21.1) d0 d1 d2 d3 r0 r1 r2 r3 zC cf27 P5) hZ (own_wi hw 8 rfl) (own_wi hw 4 rfl) (by decide) (by decide)) (g := (mkF m 60 #[iv p1, iv p2, iv p3, iv p4, iv p5, iv 4, rv b1, .unset, .unset, .unset, .unset, .unset] [(.int d3), (.int d2), (.int d1), (.int d0), (.int (4 : Int32))])) rfl (by rw [hml]; rfl) (argsL := [(.int (4 : Int32)), (.int d0), (.int d1), (.int d2), (.int d3)]) (rest := []) (lenOf own_pd__ICCCC_Ljava_lang_String_ rfl) rfl (by show 2 * 0 + _ ≤ _; exact Nat.le_of_eq rfl) (hb hby at_60) (fun _ _ => ⟨rfl, e21, (by decide : 1 + 3 ≤ _), (by decide : 4 + 12 ≤ _)⟩)
  dsimp only [Pt.U, Pt.locs, Pt.cells, Pt.slots] at X28 l28 y28 z28 st28 hQ28
  subst l28 y28 z28
  obtain ⟨hh28, eh28⟩ : ∃ h, T28.heap = h := ⟨_, rfl⟩
  rw [eh28] at hQ28
  obtain ⟨si, ti, ki, rfl, zq28, Nq28, Kq28, fq28_0, fq28_1, fq28_2, fq28_3⟩ := hQ28
  have N28 := Fr.app N21 Nq28
  have hk := Nat.le_trans hk Kq28.1
  have ne_b1_si : b1 ≠ si := Nat.ne_of_lt (Nat.lt_of_lt_of_le V21.lt zq28)
  have g_si : n0 ≤ si := Nat.le_trans (Nat.le_trans Z0 Kp21.1) zq28
  have sz_si : h0.size ≤ si := Nat.le_trans Kp21.1 zq28
  have Kp28 := Keep.trans Kp21 Kq28 all0
  have ch29 : ∀ t, SP p e below T28 (mkF m 63 #[iv p1, iv p2, iv p3, iv p4, iv p5, iv 4, rv b1, .unset, .unset, .unset, .unset, .unset] [(.ref si)]) t → SP p e below s₁ (entryFrame m #[(.int p1), (.int p2), (.int p3), (.int p4), (.int p5)] maxLocals) t := fun t k => ch22 t (by
      show SP p e below T21 (mkF m 40 #[iv p1, iv p2, iv p3, iv p4, iv p5, iv 4, .unset, .unset, .unset, .unset, .unset, .unset] [(.ref b1)]) t
      refine XS.astore X21.here hx rfl (hb hby at_40) rfl rfl (l' := #[iv p1, iv p2, iv p3, iv p4, iv p5, iv 4, rv b1, .unset, .unset, .unset, .unset, .unset]) rfl ?_
      refine XS.iload X21.here hx rfl (hb hby at_42) rfl ?_
      refine XS.aload X21.here hx rfl (hb hby at_44) rfl rfl ?_
      refine XS.iconst X21.here hx rfl (hb hby at_46) ?_
      show SP p e below T21 (mkF m 47 #[iv p1, iv p2, iv p3, iv p4, iv p5, iv 4, rv b1, .unset, .unset, .unset, .unset, .unset] [(.int (0 : Int32)), (.ref b1), (.int (4 : Int32))]) t
      refine X21.caload hx (j := (0 : Int32)) (v := (.int d0)) (by rw [e21]; exact Ar23.1) (State.isArrayOf_alike hZ.alike Ar23.2.1) Ar23.2.2 hin23 hat23 (g := (mkF m 47 #[iv p1, iv p2, iv p3, iv p4, iv p5, iv 4, rv b1, .unset, .unset, .unset, .unset, .unset] [(.int (0 : Int32)), (.ref b1), (.int (4 : Int32))])) rfl rfl (hb hby at_47) _ ?_
      refine XS.aload X21.here hx rfl (hb hby at_48) rfl rfl ?_
      refine XS.iconst X21.here hx rfl (hb hby at_50) ?_
      refine X21.caload hx (j := (1 : Int32)) (v := (.int d1)) (by rw [e21]; exact Ar24.1) (State.isArrayOf_alike hZ.alike Ar24.2.1) Ar24.2.2 hin24 hat24 (g := (mkF m 51 #[iv p1, iv p2, iv p3, iv p4, iv p5, iv 4, rv b1, .unset, .unset, .unset, .unset, .unset] [(.int (1 : Int32)), (.ref b1), (.int d0), (.int (4 : Int32))])) rfl rfl (hb hby at_51) _ ?_
      refine XS.aload X21.here hx rfl (hb hby at_52) rfl rfl ?_
      refine XS.iconst X21.here hx rfl (hb hby at_54) ?_
      refine X21.caload hx (j := (2 : Int32)) (v := (.int d2)) (by rw [e21]; exact Ar25.1) (State.isArrayOf_alike hZ.alike Ar25.2.1) Ar25.2.2 hin25 hat25 (g := (mkF m 55 #[iv p1, iv p2, iv p3, iv p4, iv p5, iv 4, rv b1, .unset, .unset, .unset, .unset, .unset] [(.int (2 : Int32)), (.ref b1), (.int d1), (.int d0), (.int (4 : Int32))])) rfl rfl (hb hby at_55) _ ?_
      refine XS.aload X21.here hx rfl (hb hby at_56) rfl rfl ?_
      refine XS.iconst X21.here hx rfl (hb hby at_58) ?_
      refine X21.caload hx (j := (3 : Int32)) (v := (.int d3)) (by rw [e21]; exact Ar26.1) (State.isArrayOf_alike hZ.alike Ar26.2.1) Ar26.2.2 hin26 hat26 (g := (mkF m 59 #[iv p1, iv p2, iv p3, iv p4, iv p5, iv 4, rv b1, .unset, .unset, .unset, .unset, .unset] [(.int (3 : Int32)), (.ref b1), (.int d2), (.int d1), (.int d0), (.int (4 : Int32))])) rfl rfl (hb hby at_59) _ ?_
      show SP p e below T21 (mkF m 60 #[iv p1, iv p2, iv p3, iv p4, iv p5, iv 4, rv b1, .unset, .unset, .unset, .unset, .unset] [(.int d3), (.int d2), (.int d1), (.int d0), (.int (4 : Int32))]) t
      exact st28 t k)
  have ch31 : ∀ t, SP p e below T28 (mkF m 68 #[iv p1, iv p2, iv p3, iv p4, iv p5, iv 4, rv b1, rv si, iv (-1), .unset, .unset, .unset] []) t → SP p e below s₁ (entryFrame m #[(.int p1), (.int p2), (.int p3), (.int p4), (.int p5)] maxLocals) t := fun t k => ch29 t (by
      show SP p e below T28 (mkF m 63 #[iv p1, iv p2, iv p3, iv p4, iv p5, iv 4, rv b1, .unset, .unset, .unset, .unset, .unset] [(.ref si)]) t
      refine XS.astore X28.here hx rfl (hb hby at_63) rfl rfl (l' := #[iv p1, iv p2, iv p3, iv p4, iv p5, iv 4, rv b1, rv si, .unset, .unset, .unset, .unset]) rfl ?_
      refine XS.iconst X28.here hx rfl (hb hby at_65) ?_
      show SP p e below T28 (mkF m 66 #[iv p1, iv p2, iv p3, iv p4, iv p5, iv 4, rv b1, rv si, .unset, .unset, .unset, .unset] [(.int (-1 : Int32))]) t
      refine XS.istore X28.here hx rfl (hb hby at_66) rfl (l' := #[iv p1, iv p2, iv p3, iv p4, iv p5, iv 4, rv b1, rv si, iv (-1), .unset, .unset, .unset]) rfl ?_
      exact k)
  by_cases hq30 : d0 = (35 : Int32)
  · skip
    obtain ⟨wv3, sj32⟩ : ∃ wv3 : Int32, ∀ t, SP p e below T28 (mkF m 86 #[iv p1, iv p2, iv p3, iv p4, iv p5, iv 4, rv b1, rv si, iv wv3, .unset, .unset, .unset] []) t → SP p e below T28 (mkF m 68 #[iv p1, iv p2, iv p3, iv p4, iv p5, iv 4, rv b1, rv si, iv (-1), .unset, .unset, .unset] []) t := by
      have cf33 := (V21.keep Kq28 nin0)
      obtain ⟨cl34, Ar34, -, Sz34, Ng34, Ha34, -⟩ := id cf33
      have hin34 : ¬ ((3 : Int32) < 0 ∨ cl34.slots.size ≤ ((3 : Int32)).toNatClampNeg) := inb_of Sz34 (by decide)
      have hat34 : cl34.slots[((3 : Int32)).toNatClampNeg]? = some (.int d3) := Ha34.at hin34 rfl
      by_cases hq35 : d3 = (35 : Int32)
      · skip
        refine ⟨(3 : Int32), fun t k => ?_⟩
        show SP p e below T28 (mkF m 68 #[iv p1, iv p2, iv p3, iv p4, iv p5, iv 4, rv b1, rv si, iv (-1), .unset, .unset, .unset] []) t
        refine XS.iload X28.here hx rfl (hb hby at_68) rfl ?_
        refine XS.iconst X28.here hx rfl (hb hby at_70) ?_
        refine XS.icmpNo X28.here hx rfl (hb hby at_71) rfl (tlt (by decide : (3 : Int32) < (4 : Int32))).2.2.2 ?_
        refine XS.aload X28.here hx rfl (hb hby at_74) rfl rfl ?_
        refine XS.iconst X28.here hx rfl (hb hby at_76) ?_
        refine X28.caload hx (j := (3 : Int32)) (v := (.int d3)) (by rw [eh28]; exact Ar34.1) (State.isArrayOf_alike hZ.alike Ar34.2.1) Ar34.2.2 hin34 hat34 (g := (mkF m 77 #[iv p1, iv p2, iv p3, iv p4, iv p5, iv 4, rv b1, rv si, iv (-1), .unset, .unset, .unset] [(.int (3 : Int32)), (.ref b1)])) rfl rfl (hb hby at_77) _ ?_
        refine XS.bipush X28.here hx rfl (hb hby at_78) ?_
        refine XS.icmpNo X28.here hx rfl (hb hby at_80) rfl (teq hq35).2 ?_
        refine XS.iconst X28.here hx rfl (hb hby at_83) ?_
        refine XS.istore X28.here hx rfl (hb hby at_84) rfl (l' := #[iv p1, iv p2, iv p3, iv p4, iv p5, iv 4, rv b1, rv si, iv 3, .unset, .unset, .unset]) rfl ?_
        exact k
      · skip
        refine ⟨(-1 : Int32), fun t k => ?_⟩
        show SP p e below T28 (mkF m 68 #[iv p1, iv p2, iv p3, iv p4, iv p5, iv 4, rv b1, rv si, iv (-1), .unset, .unset, .unset] []) t
        refine XS.iload X28.here hx rfl (hb hby at_68) rfl ?_
        refine XS.iconst X28.here hx rfl (hb hby at_70) ?_
        refine XS.icmpNo X28.here hx rfl (hb hby at_71) rfl (tlt (by decide : (3 : Int32) < (4 : Int32))).2.2.2 ?_
        refine XS.aload X28.here hx rfl (hb hby at_74) rfl rfl ?_
        refine XS.iconst X28.here hx rfl (hb hby at_76) ?_
        refine X28.caload hx (j := (3 : Int32)) (v := (.int d3)) (by rw [eh28]; exact Ar34.1) (State.isArrayOf_alike hZ.alike Ar34.2.1) Ar34.2.2 hin34 hat34 (g := (mkF m 77 #[iv p1, iv p2, iv p3, iv p4, iv p5, iv 4, rv b1, rv si, iv (-1), .unset, .unset, .unset] [(.int (3 : Int32)), (.ref b1)])) rfl rfl (hb hby at_77) _ ?_
        refine XS.bipush X28.here hx rfl (hb hby at_78) ?_
        refine XS.icmpYes X28.here hx rfl (pc0 := 80) (pc' := 86) rfl (hb hby at_80) rfl (feq hq35).2 (by decide) (by decide) ?_
        exact k
    have ch36 : ∀ t, SP p e below T28 (mkF m 86 #[iv p1, iv p2, iv p3, iv p4, iv p5, iv 4, rv b1, rv si, iv wv3, .unset, .unset, .unset] []) t → SP p e below s₁ (entryFrame m #[(.int p1), (.int p2), (.int p3), (.int p4), (.int p5)] maxLocals) t := fun t k => ch31 t (sj32 t k)
    obtain ⟨wv2, sj37⟩ : ∃ wv2 : Int32, ∀ t, SP p e below T28 (mkF m 104 #[iv p1, iv p2, iv p3, iv p4, iv p5, iv 4, rv b1, rv si, iv wv2, .unset, .unset, .unset] []) t → SP p e below T28 (mkF m 86 #[iv p1, iv p2, iv p3, iv p4, iv p5, iv 4, rv b1, rv si, iv wv3, .unset, .unset, .unset] []) t := by
      have cf38 := (V21.keep Kq28 nin0)
      obtain ⟨cl39, Ar39, -, Sz39, Ng39, Ha39, -⟩ := id cf38
      have hin39 : ¬ ((2 : Int32) < 0 ∨ cl39.slots.size ≤ ((2 : Int32)).toNatClampNeg) := inb_of Sz39 (by decide)
      have hat39 : cl39.slots[((2 : Int32)).toNatClampNeg]? = some (.int d2) := Ha39.at hin39 rfl
      by_cases hq40 : d2 = (35 : Int32)
      · skip
        refine ⟨(2 : Int32), fun t k => ?_⟩
        show SP p e below T28 (mkF m 86 #[iv p1, iv p2, iv p3, iv p4, iv p5, iv 4, rv b1, rv si, iv wv3, .unset, .unset, .unset] []) t
        refine XS.iload X28.here hx rfl (hb hby at_86) rfl ?_
        refine XS.iconst X28.here hx rfl (hb hby at_88) ?_
        refine XS.icmpNo X28.here hx rfl (hb hby at_89) rfl (tlt (by decide : (2 : Int32) < (4 : Int32))).2.2.2 ?_
        refine XS.aload X28.here hx rfl (hb hby at_92) rfl rfl ?_
        refine XS.iconst X28.here hx rfl (hb hby at_94) ?_
        refine X28.caload hx (j := (2 : Int32)) (v := (.int d2)) (by rw [eh28]; exact Ar39.1) (State.isArrayOf_alike hZ.alike Ar39.2.1) Ar39.2.2 hin39 hat39 (g := (mkF m 95 #[iv p1, iv p2, iv p3, iv p4, iv p5, iv 4, rv b1, rv si, iv wv3, .unset, .unset, .unset] [(.int (2 : Int32)), (.ref b1)])) rfl rfl (hb hby at_95) _ ?_
        refine XS.bipush X28.here hx rfl (hb hby at_96) ?_
        refine XS.icmpNo X28.here hx rfl (hb hby at_98) rfl (teq hq40).2 ?_
        refine XS.iconst X28.here hx rfl (hb hby at_101) ?_
        refine XS.istore X28.here hx rfl (hb hby at_102) rfl (l' := #[iv p1, iv p2, iv p3, iv p4, iv p5, iv 4, rv b1, rv si, iv 2, .unset, .unset, .unset]) rfl ?_
        exact k
      · skip
        refine ⟨wv3, fun t k => ?_⟩
        show SP p e below T28 (mkF m 86 #[iv p1, iv p2, iv p3, iv p4, iv p5, iv 4, rv b1, rv si, iv wv3, .unset, .unset, .unset] []) t
        refine XS.iload X28.here hx rfl (hb hby at_86) rfl ?_
        refine XS.iconst X28.here hx rfl (hb hby at_88) ?_
        refine XS.icmpNo X28.here hx rfl (hb hby at_89) rfl (tlt (by decide : (2 : Int32) < (4 : Int32))).2.2.2 ?_
        refine XS.aload X28.here hx rfl (hb hby at_92) rfl rfl ?_
        refine XS.iconst X28.here hx rfl (hb hby at_94) ?_
        refine X28.caload hx (j := (2 : Int32)) (v := (.int d2)) (by rw [eh28]; exact Ar39.1) (State.isArrayOf_alike hZ.alike Ar39.2.1) Ar39.2.2 hin39 hat39 (g := (mkF m 95 #[iv p1, iv p2, iv p3, iv p4, iv p5, iv 4, rv b1, rv si, iv wv3, .unset, .unset, .unset] [(.int (2 : Int32)), (.ref b1)])) rfl rfl (hb hby at_95) _ ?_
        refine XS.bipush X28.here hx rfl (hb hby at_96) ?_
        refine XS.icmpYes X28.here hx rfl (pc0 := 98) (pc' := 104) rfl (hb hby at_98) rfl (feq hq40).2 (by decide) (by decide) ?_
        exact k
    have ch41 : ∀ t, SP p e below T28 (mkF m 104 #[iv p1, iv p2, iv p3, iv p4, iv p5, iv 4, rv b1, rv si, iv wv2, .unset, .unset, .unset] []) t → SP p e below s₁ (entryFrame m #[(.int p1), (.int p2), (.int p3), (.int p4), (.int p5)] maxLocals) t := fun t k => ch36 t (sj37 t k)
    obtain ⟨wv1, sj42⟩ : ∃ wv1 : Int32, ∀ t, SP p e below T28 (mkF m 122 #[iv p1, iv p2, iv p3, iv p4, iv p5, iv 4, rv b1, rv si, iv wv1, .unset, .unset, .unset] []) t → SP p e below T28 (mkF m 104 #[iv p1, iv p2, iv p3, iv p4, iv p5, iv 4, rv b1, rv si, iv wv2, .unset, .unset, .unset] []) t := by
      have cf43 := (V21.keep Kq28 nin0)
      obtain ⟨cl44, Ar44, -, Sz44, Ng44, Ha44, -⟩ := id cf43
      have hin44 : ¬ ((1 : Int32) < 0 ∨ cl44.slots.size ≤ ((1 : Int32)).toNatClampNeg) := inb_of Sz44 (by decide)
      have hat44 : cl44.slots[((1 : Int32)).toNatClampNeg]? = some (.int d1) := Ha44.at hin44 rfl
      by_cases hq45 : d1 = (35 : Int32)
      · skip
        refine ⟨(1 : Int32), fun t k => ?_⟩
        show SP p e below T28 (mkF m 104 #[iv p1, iv p2, iv p3, iv p4, iv p5, iv 4, rv b1, rv si, iv wv2, .unset, .unset, .unset] []) t
        refine XS.iload X28.here hx rfl (hb hby at_104) rfl ?_
        refine XS.iconst X28.here hx rfl (hb hby at_106) ?_
        refine XS.icmpNo X28.here hx rfl (hb hby at_107) rfl (tlt (by decide : (1 : Int32) < (4 : Int32))).2.2.2 ?_
        refine XS.aload X28.here hx rfl (hb hby at_110) rfl rfl ?_
        refine XS.iconst X28.here hx rfl (hb hby at_112) ?_
        refine X28.caload hx (j := (1 : Int32)) (v := (.int d1)) (by rw [eh28]; exact Ar44.1) (State.isArrayOf_alike hZ.alike Ar44.2.1) Ar44.2.2 hin44 hat44 (g := (mkF m 113 #[iv p1, iv p2, iv p3, iv p4, iv p5, iv 4, rv b1, rv si, iv wv2, .unset, .unset, .unset] [(.int (1 : Int32)), (.ref b1)])) rfl rfl (hb hby at_113) _ ?_
        refine XS.bipush X28.here hx rfl (hb hby at_114) ?_
        refine XS.icmpNo X28.here hx rfl (hb hby at_116) rfl (teq hq45).2 ?_
        refine XS.iconst X28.here hx rfl (hb hby at_119) ?_
        refine XS.istore X28.here hx rfl (hb hby at_120) rfl (l' := #[iv p1, iv p2, iv p3, iv p4, iv p5, iv 4, rv b1, rv si, iv 1, .unset, .unset, .unset]) rfl ?_
        exact k
      · skip
        refine ⟨wv2, fun t k => ?_⟩
        show SP p e below T28 (mkF m 104 #[iv p1, iv p2, iv p3, iv p4, iv p5, iv 4, rv b1, rv si, iv wv2, .unset, .unset, .unset] []) t
        refine XS.iload X28.here hx rfl (hb hby at_104) rfl ?_
        refine XS.iconst X28.here hx rfl (hb hby at_106) ?_
        refine XS.icmpNo X28.here hx rfl (hb hby at_107) rfl (tlt (by decide : (1 : Int32) < (4 : Int32))).2.2.2 ?_
        refine XS.aload X28.here hx rfl (hb hby at_110) rfl rfl ?_
        refine XS.iconst X28.here hx rfl (hb hby at_112) ?_
        refine X28.caload hx (j := (1 : Int32)) (v := (.int d1)) (by rw [eh28]; exact Ar44.1) (State.isArrayOf_alike hZ.alike Ar44.2.1) Ar44.2.2 hin44 hat44 (g := (mkF m 113 #[iv p1, iv p2, iv p3, iv p4, iv p5, iv 4, rv b1, rv si, iv wv2, .unset, .unset, .unset] [(.int (1 : Int32)), (.ref b1)])) rfl rfl (hb hby at_113) _ ?_
        refine XS.bipush X28.here hx rfl (hb hby at_114) ?_
        refine XS.icmpYes X28.here hx rfl (pc0 := 116) (pc' := 122) rfl (hb hby at_116) rfl (feq hq45).2 (by decide) (by decide) ?_
        exact k
    have ch46 : ∀ t, SP p e below T28 (mkF m 122 #[iv p1, iv p2, iv p3, iv p4, iv p5, iv 4, rv b1, rv si, iv wv1, .unset, .unset, .unset] []) t → SP p e below s₁ (entryFrame m #[(.int p1), (.int p2), (.int p3), (.int p4), (.int p5)] maxLocals) t := fun t k => ch41 t (sj42 t k)
    have cf47 := (V21.keep Kq28 nin0)
    obtain ⟨cl48, Ar48, -, Sz48, Ng48, Ha48, -⟩ := id cf47
    have hin48 : ¬ ((0 : Int32) < 0 ∨ cl48.slots.size ≤ ((0 : Int32)).toNatClampNeg) := inb_of Sz48 (by decide)
    have hat48 : cl48.slots[((0 : Int32)).toNatClampNeg]? = some (.int d0) := Ha48.at hin48 rfl
    have cf49 := (own_sta_keep cf27 Kq28 all0)
    have cf50 := (own_sta_keep S_F Kp28 all0)
    obtain ⟨vv51, _, ⟨T51, L51, kk51, nn51⟩, -, X51, ⟨Lc51, hQ51, l51, y51, z51⟩, st51⟩ := Jvm.LawKit.callS X28 hx (y := ym0) hown (mvT hZ (own_wi hw 30 rfl)) (mvT hZ (own_wi hw 31 rfl)) (mvT hZ (own_wi hw 32 rfl)) (mvT hZ (own_wi hw 33 rfl)) (by decide) (backOf (W := 0) (own_fr_40 l Z a0 hw hh28 n0 (Nat.le_trans Z0 Kp28.1) si ti ki (d0.toInt8.toInt32) (d1.toInt8.toInt32) (d2.toInt8.toInt32) (d3.toInt8.toInt32) fq28_0 fq28_1 fq28_2 fq28_3  (own_y35 hq30) zC cf49 P5 vF hvF cf50) hZ (own_wi hw 33 rfl) (own_wi hw 32 rfl) (by decide) (by decide)) (g := (mkF m 141 #[iv p1, iv p2, iv p3, iv p4, iv p5, iv 4, rv b1, rv si, iv 0, .unset, .unset, .unset] [(.ref si)])) rfl (by rw [hml]; rfl) (argsL := [(.ref si)]) (rest := []) (lenOf own_pd__Ljava_lang_String__Ljava_lang_String_ rfl) rfl (by show 2 * 0 + _ ≤ _; exact Nat.le_of_eq rfl) (hb hby at_141) (fun _ _ => ⟨rfl, eh28, (by decide : 4 + 2 ≤ _), (by decide : 16 + 8 ≤ _)⟩)
    dsimp only [Pt.U, Pt.locs, Pt.cells, Pt.slots] at X51 l51 y51 z51 st51 hQ51
    subst l51 y51 z51
    obtain ⟨hh51, eh51⟩ : ∃ h, T51.heap = h := ⟨_, rfl⟩
    rw [eh51] at hQ51
    obtain ⟨sr, tr, kr, rfl, zq51, Nq51, Kq51, fq51_0, fq51_1, fq51_2, fq51_3⟩ := hQ51
    have N51 := Fr.app N28 Nq51
    have hk := Nat.le_trans hk Kq51.1
    have ne_b1_sr : b1 ≠ sr := Nat.ne_of_lt (Nat.lt_of_lt_of_le cf47.lt zq51)
    have ne_si_sr : si ≠ sr := Nat.ne_of_lt (Nat.lt_of_lt_of_le fq28_0.lt zq51)
    have ne_ti_sr : ti ≠ sr := Nat.ne_of_lt (Nat.lt_of_lt_of_le fq28_3.lt zq51)
    have g_sr : n0 ≤ sr := Nat.le_trans (Nat.le_trans Z0 Kp28.1) zq51
    have sz_sr : h0.size ≤ sr := Nat.le_trans Kp28.1 zq51
    have Kp51 := Keep.trans Kp28 Kq51 all0
    have ch52 : ∀ t, SP p e below T51 (mkF m 144 #[iv p1, iv p2, iv p3, iv p4, iv p5, iv 4, rv b1, rv si, iv 0, .unset, .unset, .unset] [(.ref sr)]) t → SP p e below s₁ (entryFrame m #[(.int p1), (.int p2), (.int p3), (.int p4), (.int p5)] maxLocals) t := fun t k => ch46 t (by
        show SP p e below T28 (mkF m 122 #[iv p1, iv p2, iv p3, iv p4, iv p5, iv 4, rv b1, rv si, iv wv1, .unset, .unset, .unset] []) t
        refine XS.iload X28.here hx rfl (hb hby at_122) rfl ?_
        refine XS.ifNo X28.here hx rfl (hb hby at_124) rfl ((if0 _ _).trans (tlt (by decide : (0 : Int32) < (4 : Int32))).2.2.2) ?_
        refine XS.aload X28.here hx rfl (hb hby at_127) rfl rfl ?_
        refine XS.iconst X28.here hx rfl (hb hby at_129) ?_
        refine X28.caload hx (j := (0 : Int32)) (v := (.int d0)) (by rw [eh28]; exact Ar48.1) (State.isArrayOf_alike hZ.alike Ar48.2.1) Ar48.2.2 hin48 hat48 (g := (mkF m 130 #[iv p1, iv p2, iv p3, iv p4, iv p5, iv 4, rv b1, rv si, iv wv1, .unset, .unset, .unset] [(.int (0 : Int32)), (.ref b1)])) rfl rfl (hb hby at_130) _ ?_
        refine XS.bipush X28.here hx rfl (hb hby at_131) ?_
        refine XS.icmpNo X28.here hx rfl (hb hby at_133) rfl (teq hq30).2 ?_
        refine XS.iconst X28.here hx rfl (hb hby at_136) ?_
        refine XS.istore X28.here hx rfl (hb hby at_137) rfl (l' := #[iv p1, iv p2, iv p3, iv p4, iv p5, iv 4, rv b1, rv si, iv 0, .unset, .unset, .unset]) rfl ?_
        refine XS.aload X28.here hx rfl (hb hby at_139) rfl rfl ?_
        show SP p e below T28 (mkF m 141 #[iv p1, iv p2, iv p3, iv p4, iv p5, iv 4, rv b1, rv si, iv 0, .unset, .unset, .unset] [(.ref si)]) t
        exact st51 t k)
    have cf53 := (own_sta_keep cf49 Kq51 all0)
    obtain ⟨cq54, kq54, qa54, qb54, qc54⟩ := isOf hZ eh51 fq51_0
    obtain ⟨vv55, _, ⟨T55, L55, kk55, nn55⟩, -, X55, ⟨Lc55, hQ55, l55, y55, z55⟩, st55⟩ := X51.virtualBack hx (y := ym15) (z := ym15) hown (mvT hZ (own_wi hw 109 rfl)) (mvT hZ (own_wi hw 51 rfl)) (notFace_of_selects (args := #[]) (mvT hZ (own_wi hw 53 rfl))) (mvT hZ (own_wi hw 53 rfl)) (mvT hZ (own_wi hw 52 rfl)) (by decide) (backOf (W := 0) (own_ln l Z a0 hw [] hh51 n0 (Nat.le_trans Z0 Kp51.1) sr tr kr (3 : Int32) [(.int (d1.toInt8.toInt32)), (.int (d2.toInt8.toInt32)), (.int (d3.toInt8.toInt32))] fq51_0 fq51_1 fq51_2 fq51_3 zC cf53 P5) hZ (own_wi hw 54 rfl) (own_wi hw 11 rfl) (by decide) (by decide)) qa54 qc54 (g := (mkF m 180 #[iv p1, iv p2, iv p3, iv p4, iv p5, iv 4, rv b1, rv si, iv 0, rv sr, iv 3, .unset] [(.ref sr)])) rfl (by rw [hml]; rfl) (Steps.refl _) (argsL := []) (rest := []) (lenOf own_pd___I rfl) rfl (by show 2 * 0 + _ ≤ _; exact Nat.le_of_eq rfl) (hb hby at_180) (fun _ _ => ⟨rfl, eh51, (by decide : 6 + 0 ≤ _), (by decide : 24 + 0 ≤ _)⟩)
    dsimp only [Pt.U, Pt.locs, Pt.cells, Pt.slots] at X55 l55 y55 z55 st55 hQ55
    subst l55 y55 z55
    obtain ⟨rfl, Nq55, e55⟩ := hQ55
    have N55 := Fr.app N51 Nq55
    have ch56 : ∀ t, SP p e below T55 (mkF m 183 #[iv p1, iv p2, iv p3, iv p4, iv p5, iv 4, rv b1, rv si, iv 0, rv sr, iv 3, .unset] [(.int (3 : Int32))]) t → SP p e below s₁ (entryFrame m #[(.int p1), (.int p2), (.int p3), (.int p4), (.int p5)] maxLocals) t := fun t k => ch52 t (by
        show SP p e below T51 (mkF m 144 #[iv p1, iv p2, iv p3, iv p4, iv p5, iv 4, rv b1, rv si, iv 0, .unset, .unset, .unset] [(.ref sr)]) t
        refine XS.astore X51.here hx rfl (hb hby at_144) rfl rfl (l' := #[iv p1, iv p2, iv p3, iv p4, iv p5, iv 4, rv b1, rv si, iv 0, rv sr, .unset, .unset]) rfl ?_
        refine XS.iload X51.here hx rfl (hb hby at_146) rfl ?_
        refine XS.ifYes X51.here hx rfl (pc0 := 148) (pc' := 162) rfl (hb hby at_148) rfl ((if0 _ _).trans (flt (by decide : ¬ (0 : Int32) < (0 : Int32))).2.1) (by decide) (by decide) ?_
        refine XS.aload X51.here hx rfl (hb hby at_162) rfl rfl ?_
        show SP p e below T51 (mkF m 164 #[iv p1, iv p2, iv p3, iv p4, iv p5, iv 4, rv b1, rv si, iv 0, rv sr, .unset, .unset] [(.ref sr)]) t
        refine XS.ifnonnullYes X51.here hx rfl (pc0 := 164) (pc' := 169) rfl (hb hby at_164) rfl (by decide) (by decide) ?_
        refine XS.iload X51.here hx rfl (hb hby at_169) rfl ?_
        refine XS.iload X51.here hx rfl (hb hby at_171) rfl ?_
        show SP p e below T51 (mkF m 173 #[iv p1, iv p2, iv p3, iv p4, iv p5, iv 4, rv b1, rv si, iv 0, rv sr, .unset, .unset] [(.int (0 : Int32)), (.int (4 : Int32))]) t
        refine XS.isub X51.here hx rfl (hb hby at_173) rfl ?_
        rw [show ((4 : Int32) - (0 : Int32)) = (4 : Int32) from by decide]
        refine XS.iconst X51.here hx rfl (hb hby at_174) ?_
        show SP p e below T51 (mkF m 175 #[iv p1, iv p2, iv p3, iv p4, iv p5, iv 4, rv b1, rv si, iv 0, rv sr, .unset, .unset] [(.int (1 : Int32)), (.int (4 : Int32))]) t
        refine XS.isub X51.here hx rfl (hb hby at_175) rfl ?_
        rw [show ((4 : Int32) - (1 : Int32)) = (3 : Int32) from by decide]
        refine XS.istore X51.here hx rfl (hb hby at_176) rfl (l' := #[iv p1, iv p2, iv p3, iv p4, iv p5, iv 4, rv b1, rv si, iv 0, rv sr, iv 3, .unset]) rfl ?_
        refine XS.aload X51.here hx rfl (hb hby at_178) rfl rfl ?_
        show SP p e below T51 (mkF m 180 #[iv p1, iv p2, iv p3, iv p4, iv p5, iv 4, rv b1, rv si, iv 0, rv sr, iv 3, .unset] [(.ref sr)]) t
        exact st55.trans k)
    have cf57 := (own_sta_keep cf50 Kq51 all0)
    obtain ⟨cq58, kq58, qa58, qb58, qc58⟩ := isOf hZ e55 fq51_0
    obtain ⟨vv59, _, ⟨T59, L59, kk59, nn59⟩, -, X59, ⟨Lc59, hQ59, l59, y59, z59⟩, st59⟩ := X55.virtualBack hx (y := ym8) (z := ym8) hown (mvT hZ (own_wi hw 129 rfl)) (mvT hZ (own_wi hw 130 rfl)) (notFace_of_selects (args := #[]) (mvT hZ (own_wi hw 132 rfl))) (mvT hZ (own_wi hw 132 rfl)) (mvT hZ (own_wi hw 131 rfl)) (by decide) (backOf (W := 0) (own_cat l Z a0 hw [] hh51 n0 (Nat.le_trans Z0 Kp51.1) sr tr kr (3 : Int32) [(.int (d1.toInt8.toInt32)), (.int (d2.toInt8.toInt32)), (.int (d3.toInt8.toInt32))] fq51_0 fq51_1 fq51_2 fq51_3 (0 : Int32) d1 (own_narc r1) (own_l1c_30 l Z a0 hw [] hh51 n0 (Nat.le_trans Z0 Kp51.1) tr kr (d1.toInt8.toInt32) (d2.toInt8.toInt32) (d3.toInt8.toInt32) fq51_3 d1 (own_back r1) (own_narc r1) vF hvF cf57) zC cf53 P5) hZ (own_wi hw 133 rfl) (own_wi hw 11 rfl) (by decide) (by decide)) qa58 qc58 (g := (mkF m 206 #[iv p1, iv p2, iv p3, iv p4, iv p5, iv 4, rv b1, rv si, iv 0, rv sr, iv 3, iv 1] [(.int (0 : Int32)), (.ref sr)])) rfl (by rw [hml]; rfl) (Steps.refl _) (argsL := [(.int (0 : Int32))]) (rest := []) (lenOf own_pd__I_C rfl) rfl (by show 2 * 0 + _ ≤ _; exact Nat.le_of_eq rfl) (hb hby at_206) (fun _ _ => ⟨rfl, e55, (by decide : 6 + 0 ≤ _), (by decide : 24 + 0 ≤ _)⟩)
    dsimp only [Pt.U, Pt.locs, Pt.cells, Pt.slots] at X59 l59 y59 z59 st59 hQ59
    subst l59 y59 z59
    obtain ⟨rfl, Nq59, e59⟩ := hQ59
    have N59 := Fr.app N55 Nq59
    have ch60 : ∀ t, SP p e below T59 (mkF m 209 #[iv p1, iv p2, iv p3, iv p4, iv p5, iv 4, rv b1, rv si, iv 0, rv sr, iv 3, iv 1] [(.int d1)]) t → SP p e below s₁ (entryFrame m #[(.int p1), (.int p2), (.int p3), (.int p4), (.int p5)] maxLocals) t := fun t k => ch56 t (by
        show SP p e below T55 (mkF m 183 #[iv p1, iv p2, iv p3, iv p4, iv p5, iv 4, rv b1, rv si, iv 0, rv sr, iv 3, .unset] [(.int (3 : Int32))]) t
        refine XS.iload X55.here hx rfl (hb hby at_183) rfl ?_
        refine XS.icmpYes X55.here hx rfl (pc0 := 185) (pc' := 190) rfl (hb hby at_185) rfl (teq (by decide : (3 : Int32) = (3 : Int32))).1 (by decide) (by decide) ?_
        refine XS.iconst X55.here hx rfl (hb hby at_190) ?_
        refine XS.istore X55.here hx rfl (hb hby at_191) rfl (l' := #[iv p1, iv p2, iv p3, iv p4, iv p5, iv 4, rv b1, rv si, iv 0, rv sr, iv 3, iv 1]) rfl ?_
        refine XS.iload X55.here hx rfl (hb hby at_193) rfl ?_
        refine XS.ifNo X55.here hx rfl (hb hby at_195) rfl ((if0 _ _).trans (tlt (by decide : (0 : Int32) < (3 : Int32))).2.2.2) ?_
        show SP p e below T55 (mkF m 198 #[iv p1, iv p2, iv p3, iv p4, iv p5, iv 4, rv b1, rv si, iv 0, rv sr, iv 3, iv 1] []) t
        refine XS.iload X55.here hx rfl (hb hby at_198) rfl ?_
        refine XS.ifNo X55.here hx rfl (hb hby at_200) rfl ((if0 _ _).trans (feq (by decide : ¬ (1 : Int32) = (0 : Int32))).1) ?_
        refine XS.aload X55.here hx rfl (hb hby at_203) rfl rfl ?_
        refine XS.iconst X55.here hx rfl (hb hby at_205) ?_
        show SP p e below T55 (mkF m 206 #[iv p1, iv p2, iv p3, iv p4, iv p5, iv 4, rv b1, rv si, iv 0, rv sr, iv 3, iv 1] [(.int (0 : Int32)), (.ref sr)]) t
        exact st59.trans k)
    have cf61 := (cf47.keep Kq51 nin0)
    obtain ⟨cl62, Ar62, -, Sz62, Ng62, Ha62, -⟩ := id cf61
    have hin62 : ¬ ((1 : Int32) < 0 ∨ cl62.slots.size ≤ ((1 : Int32)).toNatClampNeg) := inb_of Sz62 (by decide)
    have hat62 : cl62.slots[((1 : Int32)).toNatClampNeg]? = some (.int d1) := Ha62.at hin62 rfl
    obtain ⟨cq63, kq63, qa63, qb63, qc63⟩ := isOf hZ e59 fq51_0
    obtain ⟨vv64, _, ⟨T64, L64, kk64, nn64⟩, -, X64, ⟨Lc64, hQ64, l64, y64, z64⟩, st64⟩ := X59.virtualBack hx (y := ym8) (z := ym8) hown (mvT hZ (own_wi hw 129 rfl)) (mvT hZ (own_wi hw 130 rfl)) (notFace_of_selects (args := #[]) (mvT hZ (own_wi hw 132 rfl))) (mvT hZ (own_wi hw 132 rfl)) (mvT hZ (own_wi hw 131 rfl)) (by decide) (backOf (W := 0) (own_cat l Z a0 hw [] hh51 n0 (Nat.le_trans Z0 Kp51.1) sr tr kr (3 : Int32) [(.int (d1.toInt8.toInt32)), (.int (d2.toInt8.toInt32)), (.int (d3.toInt8.toInt32))] fq51_0 fq51_1 fq51_2 fq51_3 (1 : Int32) d2 (own_narc r2) (own_l1c_31 l Z a0 hw [] hh51 n0 (Nat.le_trans Z0 Kp51.1) tr kr (d1.toInt8.toInt32) (d2.toInt8.toInt32) (d3.toInt8.toInt32) fq51_3 d2 (own_back r2) (own_narc r2) vF hvF cf57) zC cf53 P5) hZ (own_wi hw 133 rfl) (own_wi hw 11 rfl) (by decide) (by decide)) qa63 qc63 (g := (mkF m 240 #[iv p1, iv p2, iv p3, iv p4, iv p5, iv 4, rv b1, rv si, iv 0, rv sr, iv 3, iv 1] [(.int (1 : Int32)), (.ref sr)])) rfl (by rw [hml]; rfl) (Steps.refl _) (argsL := [(.int (1 : Int32))]) (rest := []) (lenOf own_pd__I_C rfl) rfl (by show 2 * 0 + _ ≤ _; exact Nat.le_of_eq rfl) (hb hby at_240) (fun _ _ => ⟨rfl, e59, (by decide : 6 + 0 ≤ _), (by decide : 24 + 0 ≤ _)⟩)
    dsimp only [Pt.U, Pt.locs, Pt.cells, Pt.slots] at X64 l64 y64 z64 st64 hQ64
    subst l64 y64 z64
    obtain ⟨rfl, Nq64, e64⟩ := hQ64
    have N64 := Fr.app N59 Nq64
    have ch65 : ∀ t, SP p e below T64 (mkF m 243 #[iv p1, iv p2, iv p3, iv p4, iv p5, iv 4, rv b1, rv si, iv 0, rv sr, iv 3, iv 1] [(.int d2)]) t → SP p e below s₁ (entryFrame m #[(.int p1), (.int p2), (.int p3), (.int p4), (.int p5)] maxLocals) t := fun t k => ch60 t (by
        show SP p e below T59 (mkF m 209 #[iv p1, iv p2, iv p3, iv p4, iv p5, iv 4, rv b1, rv si, iv 0, rv sr, iv 3, iv 1] [(.int d1)]) t
        refine XS.aload X59.here hx rfl (hb hby at_209) rfl rfl ?_
        refine XS.iload X59.here hx rfl (hb hby at_211) rfl ?_
        refine XS.iconst X59.here hx rfl (hb hby at_213) ?_
        show SP p e below T59 (mkF m 214 #[iv p1, iv p2, iv p3, iv p4, iv p5, iv 4, rv b1, rv si, iv 0, rv sr, iv 3, iv 1] [(.int (1 : Int32)), (.int (0 : Int32)), (.ref b1), (.int d1)]) t
        refine XS.iadd X59.here hx rfl (hb hby at_214) rfl ?_
        rw [show ((0 : Int32) + (1 : Int32)) = (1 : Int32) from by decide]
        refine X59.caload hx (j := (1 : Int32)) (v := (.int d1)) (by rw [e59]; exact Ar62.1) (State.isArrayOf_alike hZ.alike Ar62.2.1) Ar62.2.2 hin62 hat62 (g := (mkF m 215 #[iv p1, iv p2, iv p3, iv p4, iv p5, iv 4, rv b1, rv si, iv 0, rv sr, iv 3, iv 1] [(.int (1 : Int32)), (.ref b1), (.int d1)])) rfl rfl (hb hby at_215) _ ?_
        refine XS.icmpNo X59.here hx rfl (hb hby at_216) rfl (teq (rfl : d1 = d1)).2 ?_
        refine XS.iconst X59.here hx rfl (hb hby at_219) ?_
        refine XS.goto X59.here hx rfl (pc0 := 220) (pc' := 224) rfl (hb hby at_220) (by decide) (by decide) ?_
        refine XS.istore X59.here hx rfl (hb hby at_224) rfl (l' := #[iv p1, iv p2, iv p3, iv p4, iv p5, iv 4, rv b1, rv si, iv 0, rv sr, iv 3, iv 1]) rfl ?_
        refine XS.iload X59.here hx rfl (hb hby at_226) rfl ?_
        show SP p e below T59 (mkF m 228 #[iv p1, iv p2, iv p3, iv p4, iv p5, iv 4, rv b1, rv si, iv 0, rv sr, iv 3, iv 1] [(.int (3 : Int32))]) t
        refine XS.iconst X59.here hx rfl (hb hby at_228) ?_
        refine XS.icmpNo X59.here hx rfl (hb hby at_229) rfl (tlt (by decide : (1 : Int32) < (3 : Int32))).2.2.2 ?_
        refine XS.iload X59.here hx rfl (hb hby at_232) rfl ?_
        refine XS.ifNo X59.here hx rfl (hb hby at_234) rfl ((if0 _ _).trans (feq (by decide : ¬ (1 : Int32) = (0 : Int32))).1) ?_
        refine XS.aload X59.here hx rfl (hb hby at_237) rfl rfl ?_
        refine XS.iconst X59.here hx rfl (hb hby at_239) ?_
        show SP p e below T59 (mkF m 240 #[iv p1, iv p2, iv p3, iv p4, iv p5, iv 4, rv b1, rv si, iv 0, rv sr, iv 3, iv 1] [(.int (1 : Int32)), (.ref sr)]) t
        exact st64.trans k)
    obtain ⟨cl66, Ar66, -, Sz66, Ng66, Ha66, -⟩ := id cf61
    have hin66 : ¬ ((2 : Int32) < 0 ∨ cl66.slots.size ≤ ((2 : Int32)).toNatClampNeg) := inb_of Sz66 (by decide)
    have hat66 : cl66.slots[((2 : Int32)).toNatClampNeg]? = some (.int d2) := Ha66.at hin66 rfl
    obtain ⟨cq67, kq67, qa67, qb67, qc67⟩ := isOf hZ e64 fq51_0
    obtain ⟨vv68, _, ⟨T68, L68, kk68, nn68⟩, -, X68, ⟨Lc68, hQ68, l68, y68, z68⟩, st68⟩ := X64.virtualBack hx (y := ym8) (z := ym8) hown (mvT hZ (own_wi hw 129 rfl)) (mvT hZ (own_wi hw 130 rfl)) (notFace_of_selects (args := #[]) (mvT hZ (own_wi hw 132 rfl))) (mvT hZ (own_wi hw 132 rfl)) (mvT hZ (own_wi hw 131 rfl)) (by decide) (backOf (W := 0) (own_cat l Z a0 hw [] hh51 n0 (Nat.le_trans Z0 Kp51.1) sr tr kr (3 : Int32) [(.int (d1.toInt8.toInt32)), (.int (d2.toInt8.toInt32)), (.int (d3.toInt8.toInt32))] fq51_0 fq51_1 fq51_2 fq51_3 (2 : Int32) d3 (own_narc r3) (own_l1c_32 l Z a0 hw [] hh51 n0 (Nat.le_trans Z0 Kp51.1) tr kr (d1.toInt8.toInt32) (d2.toInt8.toInt32) (d3.toInt8.toInt32) fq51_3 d3 (own_back r3) (own_narc r3) vF hvF cf57) zC cf53 P5) hZ (own_wi hw 133 rfl) (own_wi hw 11 rfl) (by decide) (by decide)) qa67 qc67 (g := (mkF m 274 #[iv p1, iv p2, iv p3, iv p4, iv p5, iv 4, rv b1, rv si, iv 0, rv sr, iv 3, iv 1] [(.int (2 : Int32)), (.ref sr)])) rfl (by rw [hml]; rfl) (Steps.refl _) (argsL := [(.int (2 : Int32))]) (rest := []) (lenOf own_pd__I_C rfl) rfl (by show 2 * 0 + _ ≤ _; exact Nat.le_of_eq rfl) (hb hby at_274) (fun _ _ => ⟨rfl, e64, (by decide : 6 + 0 ≤ _), (by decide : 24 + 0 ≤ _)⟩)
    dsimp only [Pt.U, Pt.locs, Pt.cells, Pt.slots] at X68 l68 y68 z68 st68 hQ68
    subst l68 y68 z68
    obtain ⟨rfl, Nq68, e68⟩ := hQ68
    have N68 := Fr.app N64 Nq68
    have ch69 : ∀ t, SP p e below T68 (mkF m 277 #[iv p1, iv p2, iv p3, iv p4, iv p5, iv 4, rv b1, rv si, iv 0, rv sr, iv 3, iv 1] [(.int d3)]) t → SP p e below s₁ (entryFrame m #[(.int p1), (.int p2), (.int p3), (.int p4), (.int p5)] maxLocals) t := fun t k => ch65 t (by
        show SP p e below T64 (mkF m 243 #[iv p1, iv p2, iv p3, iv p4, iv p5, iv 4, rv b1, rv si, iv 0, rv sr, iv 3, iv 1] [(.int d2)]) t
        refine XS.aload X64.here hx rfl (hb hby at_243) rfl rfl ?_
        refine XS.iload X64.here hx rfl (hb hby at_245) rfl ?_
        refine XS.iconst X64.here hx rfl (hb hby at_247) ?_
        show SP p e below T64 (mkF m 248 #[iv p1, iv p2, iv p3, iv p4, iv p5, iv 4, rv b1, rv si, iv 0, rv sr, iv 3, iv 1] [(.int (2 : Int32)), (.int (0 : Int32)), (.ref b1), (.int d2)]) t
        refine XS.iadd X64.here hx rfl (hb hby at_248) rfl ?_
        rw [show ((0 : Int32) + (2 : Int32)) = (2 : Int32) from by decide]
        refine X64.caload hx (j := (2 : Int32)) (v := (.int d2)) (by rw [e64]; exact Ar66.1) (State.isArrayOf_alike hZ.alike Ar66.2.1) Ar66.2.2 hin66 hat66 (g := (mkF m 249 #[iv p1, iv p2, iv p3, iv p4, iv p5, iv 4, rv b1, rv si, iv 0, rv sr, iv 3, iv 1] [(.int (2 : Int32)), (.ref b1), (.int d2)])) rfl rfl (hb hby at_249) _ ?_
        refine XS.icmpNo X64.here hx rfl (hb hby at_250) rfl (teq (rfl : d2 = d2)).2 ?_
        refine XS.iconst X64.here hx rfl (hb hby at_253) ?_
        refine XS.goto X64.here hx rfl (pc0 := 254) (pc' := 258) rfl (hb hby at_254) (by decide) (by decide) ?_
        refine XS.istore X64.here hx rfl (hb hby at_258) rfl (l' := #[iv p1, iv p2, iv p3, iv p4, iv p5, iv 4, rv b1, rv si, iv 0, rv sr, iv 3, iv 1]) rfl ?_
        show SP p e below T64 (mkF m 260 #[iv p1, iv p2, iv p3, iv p4, iv p5, iv 4, rv b1, rv si, iv 0, rv sr, iv 3, iv 1] []) t
        refine XS.iload X64.here hx rfl (hb hby at_260) rfl ?_
        refine XS.iconst X64.here hx rfl (hb hby at_262) ?_
        refine XS.icmpNo X64.here hx rfl (hb hby at_263) rfl (tlt (by decide : (2 : Int32) < (3 : Int32))).2.2.2 ?_
        refine XS.iload X64.here hx rfl (hb hby at_266) rfl ?_
        refine XS.ifNo X64.here hx rfl (hb hby at_268) rfl ((if0 _ _).trans (feq (by decide : ¬ (1 : Int32) = (0 : Int32))).1) ?_
        refine XS.aload X64.here hx rfl (hb hby at_271) rfl rfl ?_
        refine XS.iconst X64.here hx rfl (hb hby at_273) ?_
        show SP p e below T64 (mkF m 274 #[iv p1, iv p2, iv p3, iv p4, iv p5, iv 4, rv b1, rv si, iv 0, rv sr, iv 3, iv 1] [(.int (2 : Int32)), (.ref sr)]) t
        exact st68.trans k)
    obtain ⟨cl70, Ar70, -, Sz70, Ng70, Ha70, -⟩ := id cf61
    have hin70 : ¬ ((3 : Int32) < 0 ∨ cl70.slots.size ≤ ((3 : Int32)).toNatClampNeg) := inb_of Sz70 (by decide)
    have hat70 : cl70.slots[((3 : Int32)).toNatClampNeg]? = some (.int d3) := Ha70.at hin70 rfl
    have ch71 : ∀ t, SP p e below T68 (mkF m 296 #[iv p1, iv p2, iv p3, iv p4, iv p5, iv 4, rv b1, rv si, iv 0, rv sr, iv 3, iv 1] [(.int (1 : Int32))]) t → SP p e below s₁ (entryFrame m #[(.int p1), (.int p2), (.int p3), (.int p4), (.int p5)] maxLocals) t := fun t k => ch69 t (by
        show SP p e below T68 (mkF m 277 #[iv p1, iv p2, iv p3, iv p4, iv p5, iv 4, rv b1, rv si, iv 0, rv sr, iv 3, iv 1] [(.int d3)]) t
        refine XS.aload X68.here hx rfl (hb hby at_277) rfl rfl ?_
        refine XS.iload X68.here hx rfl (hb hby at_279) rfl ?_
        refine XS.iconst X68.here hx rfl (hb hby at_281) ?_
        show SP p e below T68 (mkF m 282 #[iv p1, iv p2, iv p3, iv p4, iv p5, iv 4, rv b1, rv si, iv 0, rv sr, iv 3, iv 1] [(.int (3 : Int32)), (.int (0 : Int32)), (.ref b1), (.int d3)]) t
        refine XS.iadd X68.here hx rfl (hb hby at_282) rfl ?_
        rw [show ((0 : Int32) + (3 : Int32)) = (3 : Int32) from by decide]
        refine X68.caload hx (j := (3 : Int32)) (v := (.int d3)) (by rw [e68]; exact Ar70.1) (State.isArrayOf_alike hZ.alike Ar70.2.1) Ar70.2.2 hin70 hat70 (g := (mkF m 283 #[iv p1, iv p2, iv p3, iv p4, iv p5, iv 4, rv b1, rv si, iv 0, rv sr, iv 3, iv 1] [(.int (3 : Int32)), (.ref b1), (.int d3)])) rfl rfl (hb hby at_283) _ ?_
        refine XS.icmpNo X68.here hx rfl (hb hby at_284) rfl (teq (rfl : d3 = d3)).2 ?_
        refine XS.iconst X68.here hx rfl (hb hby at_287) ?_
        refine XS.goto X68.here hx rfl (pc0 := 288) (pc' := 292) rfl (hb hby at_288) (by decide) (by decide) ?_
        show SP p e below T68 (mkF m 292 #[iv p1, iv p2, iv p3, iv p4, iv p5, iv 4, rv b1, rv si, iv 0, rv sr, iv 3, iv 1] [(.int (1 : Int32))]) t
        refine XS.istore X68.here hx rfl (hb hby at_292) rfl (l' := #[iv p1, iv p2, iv p3, iv p4, iv p5, iv 4, rv b1, rv si, iv 0, rv sr, iv 3, iv 1]) rfl ?_
        refine XS.iload X68.here hx rfl (hb hby at_294) rfl ?_
        exact k)
    obtain ⟨fs, hr, hrun, hended, hend⟩ := X68.leaveW hS (by rw [e68]; exact hk) (v := some (.int (1 : Int32))) (fun h => by rw [Bd.returns] at h; cases h)
    refine ⟨_, _, ch71 _ ?_, hrun, hended, _, _, rfl, ?_, hend.1, hend.2.1, hend.2.2.1, hend.2.2.2.mono (by decide) (by decide)⟩
    · show Steps p.tables e below (T68.setTop (mkF m 296 #[iv p1, iv p2, iv p3, iv p4, iv p5, iv 4, rv b1, rv si, iv 0, rv sr, iv 3, iv 1] [(.int (1 : Int32))])) _
      exact retN X68 hx (t := .boolean) Bd.returns (by simp) (hb hby at_296) hr
    · show QN (some (.int (1 : Int32))) n0 _ T68.heap _
      rw [e68]
      exact ⟨rfl, N68⟩
  · skip
    by_cases hq72 : d1 = (35 : Int32)
    · skip
      obtain ⟨wv3, sj73⟩ : ∃ wv3 : Int32, ∀ t, SP p e below T28 (mkF m 86 #[iv p1, iv p2, iv p3, iv p4, iv p5, iv 4, rv b1, rv si, iv wv3, .unset, .unset, .unset] []) t → SP p e below T28 (mkF m 68 #[iv p1, iv p2, iv p3, iv p4, iv p5, iv 4, rv b1, rv si, iv (-1), .unset, .unset, .unset] []) t := by
        have cf74 := (V21.keep Kq28 nin0)
        obtain ⟨cl75, Ar75, -, Sz75, Ng75, Ha75, -⟩ := id cf74
        have hin75 : ¬ ((3 : Int32) < 0 ∨ cl75.slots.size ≤ ((3 : Int32)).toNatClampNeg) := inb_of Sz75 (by decide)
        have hat75 : cl75.slots[((3 : Int32)).toNatClampNeg]? = some (.int d3) := Ha75.at hin75 rfl
        by_cases hq76 : d3 = (35 : Int32)
        · skip
          refine ⟨(3 : Int32), fun t k => ?_⟩
          show SP p e below T28 (mkF m 68 #[iv p1, iv p2, iv p3, iv p4, iv p5, iv 4, rv b1, rv si, iv (-1), .unset, .unset, .unset] []) t
          refine XS.iload X28.here hx rfl (hb hby at_68) rfl ?_
          refine XS.iconst X28.here hx rfl (hb hby at_70) ?_
          refine XS.icmpNo X28.here hx rfl (hb hby at_71) rfl (tlt (by decide : (3 : Int32) < (4 : Int32))).2.2.2 ?_
          refine XS.aload X28.here hx rfl (hb hby at_74) rfl rfl ?_
          refine XS.iconst X28.here hx rfl (hb hby at_76) ?_
          refine X28.caload hx (j := (3 : Int32)) (v := (.int d3)) (by rw [eh28]; exact Ar75.1) (State.isArrayOf_alike hZ.alike Ar75.2.1) Ar75.2.2 hin75 hat75 (g := (mkF m 77 #[iv p1, iv p2, iv p3, iv p4, iv p5, iv 4, rv b1, rv si, iv (-1), .unset, .unset, .unset] [(.int (3 : Int32)), (.ref b1)])) rfl rfl (hb hby at_77) _ ?_
          refine XS.bipush X28.here hx rfl (hb hby at_78) ?_
          refine XS.icmpNo X28.here hx rfl (hb hby at_80) rfl (teq hq76).2 ?_
          refine XS.iconst X28.here hx rfl (hb hby at_83) ?_
          refine XS.istore X28.here hx rfl (hb hby at_84) rfl (l' := #[iv p1, iv p2, iv p3, iv p4, iv p5, iv 4, rv b1, rv si, iv 3, .unset, .unset, .unset]) rfl ?_
          exact k
        · skip
          refine ⟨(-1 : Int32), fun t k => ?_⟩
          show SP p e below T28 (mkF m 68 #[iv p1, iv p2, iv p3, iv p4, iv p5, iv 4, rv b1, rv si, iv (-1), .unset, .unset, .unset] []) t
          refine XS.iload X28.here hx rfl (hb hby at_68) rfl ?_
          refine XS.iconst X28.here hx rfl (hb hby at_70) ?_
          refine XS.icmpNo X28.here hx rfl (hb hby at_71) rfl (tlt (by decide : (3 : Int32) < (4 : Int32))).2.2.2 ?_
          refine XS.aload X28.here hx rfl (hb hby at_74) rfl rfl ?_
          refine XS.iconst X28.here hx rfl (hb hby at_76) ?_
          refine X28.caload hx (j := (3 : Int32)) (v := (.int d3)) (by rw [eh28]; exact Ar75.1) (State.isArrayOf_alike hZ.alike Ar75.2.1) Ar75.2.2 hin75 hat75 (g := (mkF m 77 #[iv p1, iv p2, iv p3, iv p4, iv p5, iv 4, rv b1, rv si, iv (-1), .unset, .unset, .unset] [(.int (3 : Int32)), (.ref b1)])) rfl rfl (hb hby at_77) _ ?_
          refine XS.bipush X28.here hx rfl (hb hby at_78) ?_
          refine XS.icmpYes X28.here hx rfl (pc0 := 80) (pc' := 86) rfl (hb hby at_80) rfl (feq hq76).2 (by decide) (by decide) ?_
          exact k
      have ch77 : ∀ t, SP p e below T28 (mkF m 86 #[iv p1, iv p2, iv p3, iv p4, iv p5, iv 4, rv b1, rv si, iv wv3, .unset, .unset, .unset] []) t → SP p e below s₁ (entryFrame m #[(.int p1), (.int p2), (.int p3), (.int p4), (.int p5)] maxLocals) t := fun t k => ch31 t (sj73 t k)
      obtain ⟨wv2, sj78⟩ : ∃ wv2 : Int32, ∀ t, SP p e below T28 (mkF m 104 #[iv p1, iv p2, iv p3, iv p4, iv p5, iv 4, rv b1, rv si, iv wv2, .unset, .unset, .unset] []) t → SP p e below T28 (mkF m 86 #[iv p1, iv p2, iv p3, iv p4, iv p5, iv 4, rv b1, rv si, iv wv3, .unset, .unset, .unset] []) t := by
        have cf79 := (V21.keep Kq28 nin0)
        obtain ⟨cl80, Ar80, -, Sz80, Ng80, Ha80, -⟩ := id cf79
        have hin80 : ¬ ((2 : Int32) < 0 ∨ cl80.slots.size ≤ ((2 : Int32)).toNatClampNeg) := inb_of Sz80 (by decide)
        have hat80 : cl80.slots[((2 : Int32)).toNatClampNeg]? = some (.int d2) := Ha80.at hin80 rfl
        by_cases hq81 : d2 = (35 : Int32)
        · skip
          refine ⟨(2 : Int32), fun t k => ?_⟩
          show SP p e below T28 (mkF m 86 #[iv p1, iv p2, iv p3, iv p4, iv p5, iv 4, rv b1, rv si, iv wv3, .unset, .unset, .unset] []) t
          refine XS.iload X28.here hx rfl (hb hby at_86) rfl ?_
          refine XS.iconst X28.here hx rfl (hb hby at_88) ?_
          refine XS.icmpNo X28.here hx rfl (hb hby at_89) rfl (tlt (by decide : (2 : Int32) < (4 : Int32))).2.2.2 ?_
          refine XS.aload X28.here hx rfl (hb hby at_92) rfl rfl ?_
          refine XS.iconst X28.here hx rfl (hb hby at_94) ?_
          refine X28.caload hx (j := (2 : Int32)) (v := (.int d2)) (by rw [eh28]; exact Ar80.1) (State.isArrayOf_alike hZ.alike Ar80.2.1) Ar80.2.2 hin80 hat80 (g := (mkF m 95 #[iv p1, iv p2, iv p3, iv p4, iv p5, iv 4, rv b1, rv si, iv wv3, .unset, .unset, .unset] [(.int (2 : Int32)), (.ref b1)])) rfl rfl (hb hby at_95) _ ?_
          refine XS.bipush X28.here hx rfl (hb hby at_96) ?_
          refine XS.icmpNo X28.here hx rfl (hb hby at_98) rfl (teq hq81).2 ?_
          refine XS.iconst X28.here hx rfl (hb hby at_101) ?_
          refine XS.istore X28.here hx rfl (hb hby at_102) rfl (l' := #[iv p1, iv p2, iv p3, iv p4, iv p5, iv 4, rv b1, rv si, iv 2, .unset, .unset, .unset]) rfl ?_
          exact k
        · skip
          refine ⟨wv3, fun t k => ?_⟩
          show SP p e below T28 (mkF m 86 #[iv p1, iv p2, iv p3, iv p4, iv p5, iv 4, rv b1, rv si, iv wv3, .unset, .unset, .unset] []) t
          refine XS.iload X28.here hx rfl (hb hby at_86) rfl ?_
          refine XS.iconst X28.here hx rfl (hb hby at_88) ?_
          refine XS.icmpNo X28.here hx rfl (hb hby at_89) rfl (tlt (by decide : (2 : Int32) < (4 : Int32))).2.2.2 ?_
          refine XS.aload X28.here hx rfl (hb hby at_92) rfl rfl ?_
          refine XS.iconst X28.here hx rfl (hb hby at_94) ?_
          refine X28.caload hx (j := (2 : Int32)) (v := (.int d2)) (by rw [eh28]; exact Ar80.1) (State.isArrayOf_alike hZ.alike Ar80.2.1) Ar80.2.2 hin80 hat80 (g := (mkF m 95 #[iv p1, iv p2, iv p3, iv p4, iv p5, iv 4, rv b1, rv si, iv wv3, .unset, .unset, .unset] [(.int (2 : Int32)), (.ref b1)])) rfl rfl (hb hby at_95) _ ?_
          refine XS.bipush X28.here hx rfl (hb hby at_96) ?_
          refine XS.icmpYes X28.here hx rfl (pc0 := 98) (pc' := 104) rfl (hb hby at_98) rfl (feq hq81).2 (by decide) (by decide) ?_
          exact k
      have ch82 : ∀ t, SP p e below T28 (mkF m 104 #[iv p1, iv p2, iv p3, iv p4, iv p5, iv 4, rv b1, rv si, iv wv2, .unset, .unset, .unset] []) t → SP p e below s₁ (entryFrame m #[(.int p1), (.int p2), (.int p3), (.int p4), (.int p5)] maxLocals) t := fun t k => ch77 t (sj78 t k)
      have cf83 := (V21.keep Kq28 nin0)
      obtain ⟨cl84, Ar84, -, Sz84, Ng84, Ha84, -⟩ := id cf83
      have hin84 : ¬ ((1 : Int32) < 0 ∨ cl84.slots.size ≤ ((1 : Int32)).toNatClampNeg) := inb_of Sz84 (by decide)
      have hat84 : cl84.slots[((1 : Int32)).toNatClampNeg]? = some (.int d1) := Ha84.at hin84 rfl
      obtain ⟨cl85, Ar85, -, Sz85, Ng85, Ha85, -⟩ := id cf83
      have hin85 : ¬ ((0 : Int32) < 0 ∨ cl85.slots.size ≤ ((0 : Int32)).toNatClampNeg) := inb_of Sz85 (by decide)
      have hat85 : cl85.slots[((0 : Int32)).toNatClampNeg]? = some (.int d0) := Ha85.at hin85 rfl
      have cf86 := (own_sta_keep cf27 Kq28 all0)
      have cf87 := (own_sta_keep S_F Kp28 all0)
      obtain ⟨vv88, _, ⟨T88, L88, kk88, nn88⟩, -, X88, ⟨Lc88, hQ88, l88, y88, z88⟩, st88⟩ := Jvm.LawKit.callS X28 hx (y := ym0) hown (mvT hZ (own_wi hw 30 rfl)) (mvT hZ (own_wi hw 31 rfl)) (mvT hZ (own_wi hw 32 rfl)) (mvT hZ (own_wi hw 33 rfl)) (by decide) (backOf (W := 0) (own_fr_41 l Z a0 hw hh28 n0 (Nat.le_trans Z0 Kp28.1) si ti ki (d0.toInt8.toInt32) (d1.toInt8.toInt32) (d2.toInt8.toInt32) (d3.toInt8.toInt32) fq28_0 fq28_1 fq28_2 fq28_3 (own_n35 r0 hq30) (own_y35 hq72) zC cf86 P5 vF hvF cf87) hZ (own_wi hw 33 rfl) (own_wi hw 32 rfl) (by decide) (by decide)) (g := (mkF m 141 #[iv p1, iv p2, iv p3, iv p4, iv p5, iv 4, rv b1, rv si, iv 1, .unset, .unset, .unset] [(.ref si)])) rfl (by rw [hml]; rfl) (argsL := [(.ref si)]) (rest := []) (lenOf own_pd__Ljava_lang_String__Ljava_lang_String_ rfl) rfl (by show 2 * 0 + _ ≤ _; exact Nat.le_of_eq rfl) (hb hby at_141) (fun _ _ => ⟨rfl, eh28, (by decide : 4 + 2 ≤ _), (by decide : 16 + 8 ≤ _)⟩)
      dsimp only [Pt.U, Pt.locs, Pt.cells, Pt.slots] at X88 l88 y88 z88 st88 hQ88
      subst l88 y88 z88
      obtain ⟨hh88, eh88⟩ : ∃ h, T88.heap = h := ⟨_, rfl⟩
      rw [eh88] at hQ88
      obtain ⟨sr, tr, kr, rfl, zq88, Nq88, Kq88, fq88_0, fq88_1, fq88_2, fq88_3⟩ := hQ88
      have N88 := Fr.app N28 Nq88
      have hk := Nat.le_trans hk Kq88.1
      have ne_b1_sr : b1 ≠ sr := Nat.ne_of_lt (Nat.lt_of_lt_of_le cf83.lt zq88)
      have ne_si_sr : si ≠ sr := Nat.ne_of_lt (Nat.lt_of_lt_of_le fq28_0.lt zq88)
      have ne_ti_sr : ti ≠ sr := Nat.ne_of_lt (Nat.lt_of_lt_of_le fq28_3.lt zq88)
      have g_sr : n0 ≤ sr := Nat.le_trans (Nat.le_trans Z0 Kp28.1) zq88
      have sz_sr : h0.size ≤ sr := Nat.le_trans Kp28.1 zq88
      have Kp88 := Keep.trans Kp28 Kq88 all0
      have ch89 : ∀ t, SP p e below T88 (mkF m 144 #[iv p1, iv p2, iv p3, iv p4, iv p5, iv 4, rv b1, rv si, iv 1, .unset, .unset, .unset] [(.ref sr)]) t → SP p e below s₁ (entryFrame m #[(.int p1), (.int p2), (.int p3), (.int p4), (.int p5)] maxLocals) t := fun t k => ch82 t (by
          show SP p e below T28 (mkF m 104 #[iv p1, iv p2, iv p3, iv p4, iv p5, iv 4, rv b1, rv si, iv wv2, .unset, .unset, .unset] []) t
          refine XS.iload X28.here hx rfl (hb hby at_104) rfl ?_
          refine XS.iconst X28.here hx rfl (hb hby at_106) ?_
          refine XS.icmpNo X28.here hx rfl (hb hby at_107) rfl (tlt (by decide : (1 : Int32) < (4 : Int32))).2.2.2 ?_
          refine XS.aload X28.here hx rfl (hb hby at_110) rfl rfl ?_
          refine XS.iconst X28.here hx rfl (hb hby at_112) ?_
          refine X28.caload hx (j := (1 : Int32)) (v := (.int d1)) (by rw [eh28]; exact Ar84.1) (State.isArrayOf_alike hZ.alike Ar84.2.1) Ar84.2.2 hin84 hat84 (g := (mkF m 113 #[iv p1, iv p2, iv p3, iv p4, iv p5, iv 4, rv b1, rv si, iv wv2, .unset, .unset, .unset] [(.int (1 : Int32)), (.ref b1)])) rfl rfl (hb hby at_113) _ ?_
          refine XS.bipush X28.here hx rfl (hb hby at_114) ?_
          refine XS.icmpNo X28.here hx rfl (hb hby at_116) rfl (teq hq72).2 ?_
          refine XS.iconst X28.here hx rfl (hb hby at_119) ?_
          refine XS.istore X28.here hx rfl (hb hby at_120) rfl (l' := #[iv p1, iv p2, iv p3, iv p4, iv p5, iv 4, rv b1, rv si, iv 1, .unset, .unset, .unset]) rfl ?_
          refine XS.iload X28.here hx rfl (hb hby at_122) rfl ?_
          refine XS.ifNo X28.here hx rfl (hb hby at_124) rfl ((if0 _ _).trans (tlt (by decide : (0 : Int32) < (4 : Int32))).2.2.2) ?_
          refine XS.aload X28.here hx rfl (hb hby at_127) rfl rfl ?_
          refine XS.iconst X28.here hx rfl (hb hby at_129) ?_
          show SP p e below T28 (mkF m 130 #[iv p1, iv p2, iv p3, iv p4, iv p5, iv 4, rv b1, rv si, iv 1, .unset, .unset, .unset] [(.int (0 : Int32)), (.ref b1)]) t
          refine X28.caload hx (j := (0 : Int32)) (v := (.int d0)) (by rw [eh28]; exact Ar85.1) (State.isArrayOf_alike hZ.alike Ar85.2.1) Ar85.2.2 hin85 hat85 (g := (mkF m 130 #[iv p1, iv p2, iv p3, iv p4, iv p5, iv 4, rv b1, rv si, iv 1, .unset, .unset, .unset] [(.int (0 : Int32)), (.ref b1)])) rfl rfl (hb hby at_130) _ ?_
          refine XS.bipush X28.here hx rfl (hb hby at_131) ?_
          refine XS.icmpYes X28.here hx rfl (pc0 := 133) (pc' := 139) rfl (hb hby at_133) rfl (feq hq30).2 (by decide) (by decide) ?_
          refine XS.aload X28.here hx rfl (hb hby at_139) rfl rfl ?_
          show SP p e below T28 (mkF m 141 #[iv p1, iv p2, iv p3, iv p4, iv p5, iv 4, rv b1, rv si, iv 1, .unset, .unset, .unset] [(.ref si)]) t
          exact st88 t k)
      have cf90 := (own_sta_keep cf86 Kq88 all0)
      obtain ⟨cq91, kq91, qa91, qb91, qc91⟩ := isOf hZ eh88 fq88_0
      obtain ⟨vv92, _, ⟨T92, L92, kk92, nn92⟩, -, X92, ⟨Lc92, hQ92, l92, y92, z92⟩, st92⟩ := X88.virtualBack hx (y := ym15) (z := ym15) hown (mvT hZ (own_wi hw 109 rfl)) (mvT hZ (own_wi hw 51 rfl)) (notFace_of_selects (args := #[]) (mvT hZ (own_wi hw 53 rfl))) (mvT hZ (own_wi hw 53 rfl)) (mvT hZ (own_wi hw 52 rfl)) (by decide) (backOf (W := 0) (own_ln l Z a0 hw [] hh88 n0 (Nat.le_trans Z0 Kp88.1) sr tr kr (2 : Int32) [(.int (d2.toInt8.toInt32)), (.int (d3.toInt8.toInt32))] fq88_0 fq88_1 fq88_2 fq88_3 zC cf90 P5) hZ (own_wi hw 54 rfl) (own_wi hw 11 rfl) (by decide) (by decide)) qa91 qc91 (g := (mkF m 180 #[iv p1, iv p2, iv p3, iv p4, iv p5, iv 4, rv b1, rv si, iv 1, rv sr, iv 2, .unset] [(.ref sr)])) rfl (by rw [hml]; rfl) (Steps.refl _) (argsL := []) (rest := []) (lenOf own_pd___I rfl) rfl (by show 2 * 0 + _ ≤ _; exact Nat.le_of_eq rfl) (hb hby at_180) (fun _ _ => ⟨rfl, eh88, (by decide : 6 + 0 ≤ _), (by decide : 24 + 0 ≤ _)⟩)
      dsimp only [Pt.U, Pt.locs, Pt.cells, Pt.slots] at X92 l92 y92 z92 st92 hQ92
      subst l92 y92 z92
      obtain ⟨rfl, Nq92, e92⟩ := hQ92
      have N92 := Fr.app N88 Nq92
      have ch93 : ∀ t, SP p e below T92 (mkF m 183 #[iv p1, iv p2, iv p3, iv p4, iv p5, iv 4, rv b1, rv si, iv 1, rv sr, iv 2, .unset] [(.int (2 : Int32))]) t → SP p e below s₁ (entryFrame m #[(.int p1), (.int p2), (.int p3), (.int p4), (.int p5)] maxLocals) t := fun t k => ch89 t (by
          show SP p e below T88 (mkF m 144 #[iv p1, iv p2, iv p3, iv p4, iv p5, iv 4, rv b1, rv si, iv 1, .unset, .unset, .unset] [(.ref sr)]) t
          refine XS.astore X88.here hx rfl (hb hby at_144) rfl rfl (l' := #[iv p1, iv p2, iv p3, iv p4, iv p5, iv 4, rv b1, rv si, iv 1, rv sr, .unset, .unset]) rfl ?_
          refine XS.iload X88.here hx rfl (hb hby at_146) rfl ?_
          refine XS.ifYes X88.here hx rfl (pc0 := 148) (pc' := 162) rfl (hb hby at_148) rfl ((if0 _ _).trans (flt (by decide : ¬ (1 : Int32) < (0 : Int32))).2.1) (by decide) (by decide) ?_
          refine XS.aload X88.here hx rfl (hb hby at_162) rfl rfl ?_
          refine XS.ifnonnullYes X88.here hx rfl (pc0 := 164) (pc' := 169) rfl (hb hby at_164) rfl (by decide) (by decide) ?_
          refine XS.iload X88.here hx rfl (hb hby at_169) rfl ?_
          refine XS.iload X88.here hx rfl (hb hby at_171) rfl ?_
          show SP p e below T88 (mkF m 173 #[iv p1, iv p2, iv p3, iv p4, iv p5, iv 4, rv b1, rv si, iv 1, rv sr, .unset, .unset] [(.int (1 : Int32)), (.int (4 : Int32))]) t
          refine XS.isub X88.here hx rfl (hb hby at_173) rfl ?_
          rw [show ((4 : Int32) - (1 : Int32)) = (3 : Int32) from by decide]
          refine XS.iconst X88.here hx rfl (hb hby at_174) ?_
          show SP p e below T88 (mkF m 175 #[iv p1, iv p2, iv p3, iv p4, iv p5, iv 4, rv b1, rv si, iv 1, rv sr, .unset, .unset] [(.int (1 : Int32)), (.int (3 : Int32))]) t
          refine XS.isub X88.here hx rfl (hb hby at_175) rfl ?_
          rw [show ((3 : Int32) - (1 : Int32)) = (2 : Int32) from by decide]
          show SP p e below T88 (mkF m 176 #[iv p1, iv p2, iv p3, iv p4, iv p5, iv 4, rv b1, rv si, iv 1, rv sr, .unset, .unset] [(.int (2 : Int32))]) t
          refine XS.istore X88.here hx rfl (hb hby at_176) rfl (l' := #[iv p1, iv p2, iv p3, iv p4, iv p5, iv 4, rv b1, rv si, iv 1, rv sr, iv 2, .unset]) rfl ?_
          refine XS.aload X88.here hx rfl (hb hby at_178) rfl rfl ?_
          show SP p e below T88 (mkF m 180 #[iv p1, iv p2, iv p3, iv p4, iv p5, iv 4, rv b1, rv si, iv 1, rv sr, iv 2, .unset] [(.ref sr)]) t
          exact st92.trans k)
      have cf94 := (own_sta_keep cf87 Kq88 all0)
      obtain ⟨cq95, kq95, qa95, qb95, qc95⟩ := isOf hZ e92 fq88_0
      obtain ⟨vv96, _, ⟨T96, L96, kk96, nn96⟩, -, X96, ⟨Lc96, hQ96, l96, y96, z96⟩, st96⟩ := X92.virtualBack hx (y := ym8) (z := ym8) hown (mvT hZ (own_wi hw 129 rfl)) (mvT hZ (own_wi hw 130 rfl)) (notFace_of_selects (args := #[]) (mvT hZ (own_wi hw 132 rfl))) (mvT hZ (own_wi hw 132 rfl)) (mvT hZ (own_wi hw 131 rfl)) (by decide) (backOf (W := 0) (own_cat l Z a0 hw [] hh88 n0 (Nat.le_trans Z0 Kp88.1) sr tr kr (2 : Int32) [(.int (d2.toInt8.toInt32)), (.int (d3.toInt8.toInt32))] fq88_0 fq88_1 fq88_2 fq88_3 (0 : Int32) d2 (own_narc r2) (own_l1c_20 l Z a0 hw [] hh88 n0 (Nat.le_trans Z0 Kp88.1) tr kr (d2.toInt8.toInt32) (d3.toInt8.toInt32) fq88_3 d2 (own_back r2) (own_narc r2) vF hvF cf94) zC cf90 P5) hZ (own_wi hw 133 rfl) (own_wi hw 11 rfl) (by decide) (by decide)) qa95 qc95 (g := (mkF m 206 #[iv p1, iv p2, iv p3, iv p4, iv p5, iv 4, rv b1, rv si, iv 1, rv sr, iv 2, iv 1] [(.int (0 : Int32)), (.ref sr)])) rfl (by rw [hml]; rfl) (Steps.refl _) (argsL := [(.int (0 : Int32))]) (rest := []) (lenOf own_pd__I_C rfl) rfl (by show 2 * 0 + _ ≤ _; exact Nat.le_of_eq rfl) (hb hby at_206) (fun _ _ => ⟨rfl, e92, (by decide : 6 + 0 ≤ _), (by decide : 24 + 0 ≤ _)⟩)
      dsimp only [Pt.U, Pt.locs, Pt.cells, Pt.slots] at X96 l96 y96 z96 st96 hQ96
      subst l96 y96 z96
      obtain ⟨rfl, Nq96, e96⟩ := hQ96
      have N96 := Fr.app N92 Nq96
      have ch97 : ∀ t, SP p e below T96 (mkF m 209 #[iv p1, iv p2, iv p3, iv p4, iv p5, iv 4, rv b1, rv si, iv 1, rv sr, iv 2, iv 1] [(.int d2)]) t → SP p e below s₁ (entryFrame m #[(.int p1), (.int p2), (.int p3), (.int p4), (.int p5)] maxLocals) t := fun t k => ch93 t (by
          show SP p e below T92 (mkF m 183 #[iv p1, iv p2, iv p3, iv p4, iv p5, iv 4, rv b1, rv si, iv 1, rv sr, iv 2, .unset] [(.int (2 : Int32))]) t
          refine XS.iload X92.here hx rfl (hb hby at_183) rfl ?_
          refine XS.icmpYes X92.here hx rfl (pc0 := 185) (pc' := 190) rfl (hb hby at_185) rfl (teq (by decide : (2 : Int32) = (2 : Int32))).1 (by decide) (by decide) ?_
          refine XS.iconst X92.here hx rfl (hb hby at_190) ?_
          refine XS.istore X92.here hx rfl (hb hby at_191) rfl (l' := #[iv p1, iv p2, iv p3, iv p4, iv p5, iv 4, rv b1, rv si, iv 1, rv sr, iv 2, iv 1]) rfl ?_
          refine XS.iload X92.here hx rfl (hb hby at_193) rfl ?_
          refine XS.ifNo X92.here hx rfl (hb hby at_195) rfl ((if0 _ _).trans (tlt (by decide : (0 : Int32) < (2 : Int32))).2.2.2) ?_
          refine XS.iload X92.here hx rfl (hb hby at_198) rfl ?_
          refine XS.ifNo X92.here hx rfl (hb hby at_200) rfl ((if0 _ _).trans (feq (by decide : ¬ (1 : Int32) = (0 : Int32))).1) ?_
          refine XS.aload X92.here hx rfl (hb hby at_203) rfl rfl ?_
          refine XS.iconst X92.here hx rfl (hb hby at_205) ?_
          show SP p e below T92 (mkF m 206 #[iv p1, iv p2, iv p3, iv p4, iv p5, iv 4, rv b1, rv si, iv 1, rv sr, iv 2, iv 1] [(.int (0 : Int32)), (.ref sr)]) t
          exact st96.trans k)
      have cf98 := (cf83.keep Kq88 nin0)
      obtain ⟨cl99, Ar99, -, Sz99, Ng99, Ha99, -⟩ := id cf98
      have hin99 : ¬ ((2 : Int32) < 0 ∨ cl99.slots.size ≤ ((2 : Int32)).toNatClampNeg) := inb_of Sz99 (by decide)
      have hat99 : cl99.slots[((2 : Int32)).toNatClampNeg]? = some (.int d2) := Ha99.at hin99 rfl
      obtain ⟨cq100, kq100, qa100, qb100, qc100⟩ := isOf hZ e96 fq88_0
      obtain ⟨vv101, _, ⟨T101, L101, kk101, nn101⟩, -, X101, ⟨Lc101, hQ101, l101, y101, z101⟩, st101⟩ := X96.virtualBack hx (y := ym8) (z := ym8) hown (mvT hZ (own_wi hw 129 rfl)) (mvT hZ (own_wi hw 130 rfl)) (notFace_of_selects (args := #[]) (mvT hZ (own_wi hw 132 rfl))) (mvT hZ (own_wi hw 132 rfl)) (mvT hZ (own_wi hw 131 rfl)) (by decide) (backOf (W := 0) (own_cat l Z a0 hw [] hh88 n0 (Nat.le_trans Z0 Kp88.1) sr tr kr (2 : Int32) [(.int (d2.toInt8.toInt32)), (.int (d3.toInt8.toInt32))] fq88_0 fq88_1 fq88_2 fq88_3 (1 : Int32) d3 (own_narc r3) (own_l1c_21 l Z a0 hw [] hh88 n0 (Nat.le_trans Z0 Kp88.1) tr kr (d2.toInt8.toInt32) (d3.toInt8.toInt32) fq88_3 d3 (own_back r3) (own_narc r3) vF hvF cf94) zC cf90 P5) hZ (own_wi hw 133 rfl) (own_wi hw 11 rfl) (by decide) (by decide)) qa100 qc100 (g := (mkF m 240 #[iv p1, iv p2, iv p3, iv p4, iv p5, iv 4, rv b1, rv si, iv 1, rv sr, iv 2, iv 1] [(.int (1 : Int32)), (.ref sr)])) rfl (by rw [hml]; rfl) (Steps.refl _) (argsL := [(.int (1 : Int32))]) (rest := []) (lenOf own_pd__I_C rfl) rfl (by show 2 * 0 + _ ≤ _; exact Nat.le_of_eq rfl) (hb hby at_240) (fun _ _ => ⟨rfl, e96, (by decide : 6 + 0 ≤ _), (by decide : 24 + 0 ≤ _)⟩)
      dsimp only [Pt.U, Pt.locs, Pt.cells, Pt.slots] at X101 l101 y101 z101 st101 hQ101
      subst l101 y101 z101
      obtain ⟨rfl, Nq101, e101⟩ := hQ101
      have N101 := Fr.app N96 Nq101
      have ch102 : ∀ t, SP p e below T101 (mkF m 243 #[iv p1, iv p2, iv p3, iv p4, iv p5, iv 4, rv b1, rv si, iv 1, rv sr, iv 2, iv 1] [(.int d3)]) t → SP p e below s₁ (entryFrame m #[(.int p1), (.int p2), (.int p3), (.int p4), (.int p5)] maxLocals) t := fun t k => ch97 t (by
          show SP p e below T96 (mkF m 209 #[iv p1, iv p2, iv p3, iv p4, iv p5, iv 4, rv b1, rv si, iv 1, rv sr, iv 2, iv 1] [(.int d2)]) t
          refine XS.aload X96.here hx rfl (hb hby at_209) rfl rfl ?_
          refine XS.iload X96.here hx rfl (hb hby at_211) rfl ?_
          refine XS.iconst X96.here hx rfl (hb hby at_213) ?_
          show SP p e below T96 (mkF m 214 #[iv p1, iv p2, iv p3, iv p4, iv p5, iv 4, rv b1, rv si, iv 1, rv sr, iv 2, iv 1] [(.int (1 : Int32)), (.int (1 : Int32)), (.ref b1), (.int d2)]) t
          refine XS.iadd X96.here hx rfl (hb hby at_214) rfl ?_
          rw [show ((1 : Int32) + (1 : Int32)) = (2 : Int32) from by decide]
          refine X96.caload hx (j := (2 : Int32)) (v := (.int d2)) (by rw [e96]; exact Ar99.1) (State.isArrayOf_alike hZ.alike Ar99.2.1) Ar99.2.2 hin99 hat99 (g := (mkF m 215 #[iv p1, iv p2, iv p3, iv p4, iv p5, iv 4, rv b1, rv si, iv 1, rv sr, iv 2, iv 1] [(.int (2 : Int32)), (.ref b1), (.int d2)])) rfl rfl (hb hby at_215) _ ?_
          refine XS.icmpNo X96.here hx rfl (hb hby at_216) rfl (teq (rfl : d2 = d2)).2 ?_
          refine XS.iconst X96.here hx rfl (hb hby at_219) ?_
          refine XS.goto X96.here hx rfl (pc0 := 220) (pc' := 224) rfl (hb hby at_220) (by decide) (by decide) ?_
          refine XS.istore X96.here hx rfl (hb hby at_224) rfl (l' := #[iv p1, iv p2, iv p3, iv p4, iv p5, iv 4, rv b1, rv si, iv 1, rv sr, iv 2, iv 1]) rfl ?_
          refine XS.iload X96.here hx rfl (hb hby at_226) rfl ?_
          refine XS.iconst X96.here hx rfl (hb hby at_228) ?_
          refine XS.icmpNo X96.here hx rfl (hb hby at_229) rfl (tlt (by decide : (1 : Int32) < (2 : Int32))).2.2.2 ?_
          refine XS.iload X96.here hx rfl (hb hby at_232) rfl ?_
          refine XS.ifNo X96.here hx rfl (hb hby at_234) rfl ((if0 _ _).trans (feq (by decide : ¬ (1 : Int32) = (0 : Int32))).1) ?_
          refine XS.aload X96.here hx rfl (hb hby at_237) rfl rfl ?_
          refine XS.iconst X96.here hx rfl (hb hby at_239) ?_
          show SP p e below T96 (mkF m 240 #[iv p1, iv p2, iv p3, iv p4, iv p5, iv 4, rv b1, rv si, iv 1, rv sr, iv 2, iv 1] [(.int (1 : Int32)), (.ref sr)]) t
          exact st101.trans k)
      obtain ⟨cl103, Ar103, -, Sz103, Ng103, Ha103, -⟩ := id cf98
      have hin103 : ¬ ((3 : Int32) < 0 ∨ cl103.slots.size ≤ ((3 : Int32)).toNatClampNeg) := inb_of Sz103 (by decide)
      have hat103 : cl103.slots[((3 : Int32)).toNatClampNeg]? = some (.int d3) := Ha103.at hin103 rfl
      have ch104 : ∀ t, SP p e below T101 (mkF m 296 #[iv p1, iv p2, iv p3, iv p4, iv p5, iv 4, rv b1, rv si, iv 1, rv sr, iv 2, iv 1] [(.int (1 : Int32))]) t → SP p e below s₁ (entryFrame m #[(.int p1), (.int p2), (.int p3), (.int p4), (.int p5)] maxLocals) t := fun t k => ch102 t (by
          show SP p e below T101 (mkF m 243 #[iv p1, iv p2, iv p3, iv p4, iv p5, iv 4, rv b1, rv si, iv 1, rv sr, iv 2, iv 1] [(.int d3)]) t
          refine XS.aload X101.here hx rfl (hb hby at_243) rfl rfl ?_
          refine XS.iload X101.here hx rfl (hb hby at_245) rfl ?_
          show SP p e below T101 (mkF m 247 #[iv p1, iv p2, iv p3, iv p4, iv p5, iv 4, rv b1, rv si, iv 1, rv sr, iv 2, iv 1] [(.int (1 : Int32)), (.ref b1), (.int d3)]) t
          refine XS.iconst X101.here hx rfl (hb hby at_247) ?_
          show SP p e below T101 (mkF m 248 #[iv p1, iv p2, iv p3, iv p4, iv p5, iv 4, rv b1, rv si, iv 1, rv sr, iv 2, iv 1] [(.int (2 : Int32)), (.int (1 : Int32)), (.ref b1), (.int d3)]) t
          refine XS.iadd X101.here hx rfl (hb hby at_248) rfl ?_
          rw [show ((1 : Int32) + (2 : Int32)) = (3 : Int32) from by decide]
          refine X101.caload hx (j := (3 : Int32)) (v := (.int d3)) (by rw [e101]; exact Ar103.1) (State.isArrayOf_alike hZ.alike Ar103.2.1) Ar103.2.2 hin103 hat103 (g := (mkF m 249 #[iv p1, iv p2, iv p3, iv p4, iv p5, iv 4, rv b1, rv si, iv 1, rv sr, iv 2, iv 1] [(.int (3 : Int32)), (.ref b1), (.int d3)])) rfl rfl (hb hby at_249) _ ?_
          refine XS.icmpNo X101.here hx rfl (hb hby at_250) rfl (teq (rfl : d3 = d3)).2 ?_
          refine XS.iconst X101.here hx rfl (hb hby at_253) ?_
          refine XS.goto X101.here hx rfl (pc0 := 254) (pc' := 258) rfl (hb hby at_254) (by decide) (by decide) ?_
          refine XS.istore X101.here hx rfl (hb hby at_258) rfl (l' := #[iv p1, iv p2, iv p3, iv p4, iv p5, iv 4, rv b1, rv si, iv 1, rv sr, iv 2, iv 1]) rfl ?_
          refine XS.iload X101.here hx rfl (hb hby at_260) rfl ?_
          refine XS.iconst X101.here hx rfl (hb hby at_262) ?_
          refine XS.icmpYes X101.here hx rfl (pc0 := 263) (pc' := 294) rfl (hb hby at_263) rfl (flt (by decide : ¬ (2 : Int32) < (2 : Int32))).2.2.2 (by decide) (by decide) ?_
          refine XS.iload X101.here hx rfl (hb hby at_294) rfl ?_
          exact k)
      obtain ⟨fs, hr, hrun, hended, hend⟩ := X101.leaveW hS (by rw [e101]; exact hk) (v := some (.int (1 : Int32))) (fun h => by rw [Bd.returns] at h; cases h)
      refine ⟨_, _, ch104 _ ?_, hrun, hended, _, _, rfl, ?_, hend.1, hend.2.1, hend.2.2.1, hend.2.2.2.mono (by decide) (by decide)⟩
      · show Steps p.tables e below (T101.setTop (mkF m 296 #[iv p1, iv p2, iv p3, iv p4, iv p5, iv 4, rv b1, rv si, iv 1, rv sr, iv 2, iv 1] [(.int (1 : Int32))])) _
        exact retN X101 hx (t := .boolean) Bd.returns (by simp) (hb hby at_296) hr
      · show QN (some (.int (1 : Int32))) n0 _ T101.heap _
        rw [e101]
        exact ⟨rfl, N101⟩
    · skip
      by_cases hq105 : d2 = (35 : Int32)
      · skip
        obtain ⟨wv3, sj106⟩ : ∃ wv3 : Int32, ∀ t, SP p e below T28 (mkF m 86 #[iv p1, iv p2, iv p3, iv p4, iv p5, iv 4, rv b1, rv si, iv wv3, .unset, .unset, .unset] []) t → SP p e below T28 (mkF m 68 #[iv p1, iv p2, iv p3, iv p4, iv p5, iv 4, rv b1, rv si, iv (-1), .unset, .unset, .unset] []) t := by
          have cf107 := (V21.keep Kq28 nin0)
          obtain ⟨cl108, Ar108, -, Sz108, Ng108, Ha108, -⟩ := id cf107
          have hin108 : ¬ ((3 : Int32) < 0 ∨ cl108.slots.size ≤ ((3 : Int32)).toNatClampNeg) := inb_of Sz108 (by decide)
          have hat108 : cl108.slots[((3 : Int32)).toNatClampNeg]? = some (.int d3) := Ha108.at hin108 rfl
          by_cases hq109 : d3 = (35 : Int32)
          · skip
            refine ⟨(3 : Int32), fun t k => ?_⟩
            show SP p e below T28 (mkF m 68 #[iv p1, iv p2, iv p3, iv p4, iv p5, iv 4, rv b1, rv si, iv (-1), .unset, .unset, .unset] []) t
            refine XS.iload X28.here hx rfl (hb hby at_68) rfl ?_
            refine XS.iconst X28.here hx rfl (hb hby at_70) ?_
            refine XS.icmpNo X28.here hx rfl (hb hby at_71) rfl (tlt (by decide : (3 : Int32) < (4 : Int32))).2.2.2 ?_
            refine XS.aload X28.here hx rfl (hb hby at_74) rfl rfl ?_
            refine XS.iconst X28.here hx rfl (hb hby at_76) ?_
            refine X28.caload hx (j := (3 : Int32)) (v := (.int d3)) (by rw [eh28]; exact Ar108.1) (State.isArrayOf_alike hZ.alike Ar108.2.1) Ar108.2.2 hin108 hat108 (g := (mkF m 77 #[iv p1, iv p2, iv p3, iv p4, iv p5, iv 4, rv b1, rv si, iv (-1), .unset, .unset, .unset] [(.int (3 : Int32)), (.ref b1)])) rfl rfl (hb hby at_77) _ ?_
            refine XS.bipush X28.here hx rfl (hb hby at_78) ?_
            refine XS.icmpNo X28.here hx rfl (hb hby at_80) rfl (teq hq109).2 ?_
            refine XS.iconst X28.here hx rfl (hb hby at_83) ?_
            refine XS.istore X28.here hx rfl (hb hby at_84) rfl (l' := #[iv p1, iv p2, iv p3, iv p4, iv p5, iv 4, rv b1, rv si, iv 3, .unset, .unset, .unset]) rfl ?_
            exact k
          · skip
            refine ⟨(-1 : Int32), fun t k => ?_⟩
            show SP p e below T28 (mkF m 68 #[iv p1, iv p2, iv p3, iv p4, iv p5, iv 4, rv b1, rv si, iv (-1), .unset, .unset, .unset] []) t
            refine XS.iload X28.here hx rfl (hb hby at_68) rfl ?_
            refine XS.iconst X28.here hx rfl (hb hby at_70) ?_
            refine XS.icmpNo X28.here hx rfl (hb hby at_71) rfl (tlt (by decide : (3 : Int32) < (4 : Int32))).2.2.2 ?_
            refine XS.aload X28.here hx rfl (hb hby at_74) rfl rfl ?_
            refine XS.iconst X28.here hx rfl (hb hby at_76) ?_
            refine X28.caload hx (j := (3 : Int32)) (v := (.int d3)) (by rw [eh28]; exact Ar108.1) (State.isArrayOf_alike hZ.alike Ar108.2.1) Ar108.2.2 hin108 hat108 (g := (mkF m 77 #[iv p1, iv p2, iv p3, iv p4, iv p5, iv 4, rv b1, rv si, iv (-1), .unset, .unset, .unset] [(.int (3 : Int32)), (.ref b1)])) rfl rfl (hb hby at_77) _ ?_
            refine XS.bipush X28.here hx rfl (hb hby at_78) ?_
            refine XS.icmpYes X28.here hx rfl (pc0 := 80) (pc' := 86) rfl (hb hby at_80) rfl (feq hq109).2 (by decide) (by decide) ?_
            exact k
        have ch110 : ∀ t, SP p e below T28 (mkF m 86 #[iv p1, iv p2, iv p3, iv p4, iv p5, iv 4, rv b1, rv si, iv wv3, .unset, .unset, .unset] []) t → SP p e below s₁ (entryFrame m #[(.int p1), (.int p2), (.int p3), (.int p4), (.int p5)] maxLocals) t := fun t k => ch31 t (sj106 t k)
        have cf111 := (V21.keep Kq28 nin0)
        obtain ⟨cl112, Ar112, -, Sz112, Ng112, Ha112, -⟩ := id cf111
        have hin112 : ¬ ((2 : Int32) < 0 ∨ cl112.slots.size ≤ ((2 : Int32)).toNatClampNeg) := inb_of Sz112 (by decide)
        have hat112 : cl112.slots[((2 : Int32)).toNatClampNeg]? = some (.int d2) := Ha112.at hin112 rfl
        obtain ⟨cl113, Ar113, -, Sz113, Ng113, Ha113, -⟩ := id cf111
        have hin113 : ¬ ((1 : Int32) < 0 ∨ cl113.slots.size ≤ ((1 : Int32)).toNatClampNeg) := inb_of Sz113 (by decide)
        have hat113 : cl113.slots[((1 : Int32)).toNatClampNeg]? = some (.int d1) := Ha113.at hin113 rfl
        obtain ⟨cl114, Ar114, -, Sz114, Ng114, Ha114, -⟩ := id cf111
        have hin114 : ¬ ((0 : Int32) < 0 ∨ cl114.slots.size ≤ ((0 : Int32)).toNatClampNeg) := inb_of Sz114 (by decide)
        have hat114 : cl114.slots[((0 : Int32)).toNatClampNeg]? = some (.int d0) := Ha114.at hin114 rfl
        have cf115 := (own_sta_keep cf27 Kq28 all0)
        have cf116 := (own_sta_keep S_F Kp28 all0)
        obtain ⟨vv117, _, ⟨T117, L117, kk117, nn117⟩, -, X117, ⟨Lc117, hQ117, l117, y117, z117⟩, st117⟩ := Jvm.LawKit.callS X28 hx (y := ym0) hown (mvT hZ (own_wi hw 30 rfl)) (mvT hZ (own_wi hw 31 rfl)) (mvT hZ (own_wi hw 32 rfl)) (mvT hZ (own_wi hw 33 rfl)) (by decide) (backOf (W := 0) (own_fr_42 l Z a0 hw hh28 n0 (Nat.le_trans Z0 Kp28.1) si ti ki (d0.toInt8.toInt32) (d1.toInt8.toInt32) (d2.toInt8.toInt32) (d3.toInt8.toInt32) fq28_0 fq28_1 fq28_2 fq28_3 (own_n35 r0 hq30) (own_n35 r1 hq72) (own_y35 hq105) zC cf115 P5 vF hvF cf116) hZ (own_wi hw 33 rfl) (own_wi hw 32 rfl) (by decide) (by decide)) (g := (mkF m 141 #[iv p1, iv p2, iv p3, iv p4, iv p5, iv 4, rv b1, rv si, iv 2, .unset, .unset, .unset] [(.ref si)])) rfl (by rw [hml]; rfl) (argsL := [(.ref si)]) (rest := []) (lenOf own_pd__Ljava_lang_String__Ljava_lang_String_ rfl) rfl (by show 2 * 0 + _ ≤ _; exact Nat.le_of_eq rfl) (hb hby at_141) (fun _ _ => ⟨rfl, eh28, (by decide : 4 + 2 ≤ _), (by decide : 16 + 8 ≤ _)⟩)
        dsimp only [Pt.U, Pt.locs, Pt.cells, Pt.slots] at X117 l117 y117 z117 st117 hQ117
        subst l117 y117 z117
        obtain ⟨hh117, eh117⟩ : ∃ h, T117.heap = h := ⟨_, rfl⟩
        rw [eh117] at hQ117
        obtain ⟨sr, tr, kr, rfl, zq117, Nq117, Kq117, fq117_0, fq117_1, fq117_2, fq117_3⟩ := hQ117
        have N117 := Fr.app N28 Nq117
        have hk := Nat.le_trans hk Kq117.1
        have ne_b1_sr : b1 ≠ sr := Nat.ne_of_lt (Nat.lt_of_lt_of_le cf111.lt zq117)
        have ne_si_sr : si ≠ sr := Nat.ne_of_lt (Nat.lt_of_lt_of_le fq28_0.lt zq117)
        have ne_ti_sr : ti ≠ sr := Nat.ne_of_lt (Nat.lt_of_lt_of_le fq28_3.lt zq117)
        have g_sr : n0 ≤ sr := Nat.le_trans (Nat.le_trans Z0 Kp28.1) zq117
        have sz_sr : h0.size ≤ sr := Nat.le_trans Kp28.1 zq117
        have Kp117 := Keep.trans Kp28 Kq117 all0
        have ch118 : ∀ t, SP p e below T117 (mkF m 144 #[iv p1, iv p2, iv p3, iv p4, iv p5, iv 4, rv b1, rv si, iv 2, .unset, .unset, .unset] [(.ref sr)]) t → SP p e below s₁ (entryFrame m #[(.int p1), (.int p2), (.int p3), (.int p4), (.int p5)] maxLocals) t := fun t k => ch110 t (by
            show SP p e below T28 (mkF m 86 #[iv p1, iv p2, iv p3, iv p4, iv p5, iv 4, rv b1, rv si, iv wv3, .unset, .unset, .unset] []) t
            refine XS.iload X28.here hx rfl (hb hby at_86) rfl ?_
            refine XS.iconst X28.here hx rfl (hb hby at_88) ?_
            refine XS.icmpNo X28.here hx rfl (hb hby at_89) rfl (tlt (by decide : (2 : Int32) < (4 : Int32))).2.2.2 ?_
            refine XS.aload X28.here hx rfl (hb hby at_92) rfl rfl ?_
            refine XS.iconst X28.here hx rfl (hb hby at_94) ?_
            refine X28.caload hx (j := (2 : Int32)) (v := (.int d2)) (by rw [eh28]; exact Ar112.1) (State.isArrayOf_alike hZ.alike Ar112.2.1) Ar112.2.2 hin112 hat112 (g := (mkF m 95 #[iv p1, iv p2, iv p3, iv p4, iv p5, iv 4, rv b1, rv si, iv wv3, .unset, .unset, .unset] [(.int (2 : Int32)), (.ref b1)])) rfl rfl (hb hby at_95) _ ?_
            refine XS.bipush X28.here hx rfl (hb hby at_96) ?_
            refine XS.icmpNo X28.here hx rfl (hb hby at_98) rfl (teq hq105).2 ?_
            refine XS.iconst X28.here hx rfl (hb hby at_101) ?_
            refine XS.istore X28.here hx rfl (hb hby at_102) rfl (l' := #[iv p1, iv p2, iv p3, iv p4, iv p5, iv 4, rv b1, rv si, iv 2, .unset, .unset, .unset]) rfl ?_
            refine XS.iload X28.here hx rfl (hb hby at_104) rfl ?_
            refine XS.iconst X28.here hx rfl (hb hby at_106) ?_
            refine XS.icmpNo X28.here hx rfl (hb hby at_107) rfl (tlt (by decide : (1 : Int32) < (4 : Int32))).2.2.2 ?_
            refine XS.aload X28.here hx rfl (hb hby at_110) rfl rfl ?_
            show SP p e below T28 (mkF m 112 #[iv p1, iv p2, iv p3, iv p4, iv p5, iv 4, rv b1, rv si, iv 2, .unset, .unset, .unset] [(.ref b1)]) t
            refine XS.iconst X28.here hx rfl (hb hby at_112) ?_
            refine X28.caload hx (j := (1 : Int32)) (v := (.int d1)) (by rw [eh28]; exact Ar113.1) (State.isArrayOf_alike hZ.alike Ar113.2.1) Ar113.2.2 hin113 hat113 (g := (mkF m 113 #[iv p1, iv p2, iv p3, iv p4, iv p5, iv 4, rv b1, rv si, iv 2, .unset, .unset, .unset] [(.int (1 : Int32)), (.ref b1)])) rfl rfl (hb hby at_113) _ ?_
            refine XS.bipush X28.here hx rfl (hb hby at_114) ?_
            refine XS.icmpYes X28.here hx rfl (pc0 := 116) (pc' := 122) rfl (hb hby at_116) rfl (feq hq72).2 (by decide) (by decide) ?_
            refine XS.iload X28.here hx rfl (hb hby at_122) rfl ?_
            refine XS.ifNo X28.here hx rfl (hb hby at_124) rfl ((if0 _ _).trans (tlt (by decide : (0 : Int32) < (4 : Int32))).2.2.2) ?_
            refine XS.aload X28.here hx rfl (hb hby at_127) rfl rfl ?_
            refine XS.iconst X28.here hx rfl (hb hby at_129) ?_
            refine X28.caload hx (j := (0 : Int32)) (v := (.int d0)) (by rw [eh28]; exact Ar114.1) (State.isArrayOf_alike hZ.alike Ar114.2.1) Ar114.2.2 hin114 hat114 (g := (mkF m 130 #[iv p1, iv p2, iv p3, iv p4, iv p5, iv 4, rv b1, rv si, iv 2, .unset, .unset, .unset] [(.int (0 : Int32)), (.ref b1)])) rfl rfl (hb hby at_130) _ ?_
            refine XS.bipush X28.here hx rfl (hb hby at_131) ?_
            refine XS.icmpYes X28.here hx rfl (pc0 := 133) (pc' := 139) rfl (hb hby at_133) rfl (feq hq30).2 (by decide) (by decide) ?_
            refine XS.aload X28.here hx rfl (hb hby at_139) rfl rfl ?_
            show SP p e below T28 (mkF m 141 #[iv p1, iv p2, iv p3, iv p4, iv p5, iv 4, rv b1, rv si, iv 2, .unset, .unset, .unset] [(.ref si)]) t
            exact st117 t k)
        have cf119 := (own_sta_keep cf115 Kq117 all0)
        obtain ⟨cq120, kq120, qa120, qb120, qc120⟩ := isOf hZ eh117 fq117_0
        obtain ⟨vv121, _, ⟨T121, L121, kk121, nn121⟩, -, X121, ⟨Lc121, hQ121, l121, y121, z121⟩, st121⟩ := X117.virtualBack hx (y := ym15) (z := ym15) hown (mvT hZ (own_wi hw 109 rfl)) (mvT hZ (own_wi hw 51 rfl)) (notFace_of_selects (args := #[]) (mvT hZ (own_wi hw 53 rfl))) (mvT hZ (own_wi hw 53 rfl)) (mvT hZ (own_wi hw 52 rfl)) (by decide) (backOf (W := 0) (own_ln l Z a0 hw [] hh117 n0 (Nat.le_trans Z0 Kp117.1) sr tr kr (1 : Int32) [(.int (d3.toInt8.toInt32))] fq117_0 fq117_1 fq117_2 fq117_3 zC cf119 P5) hZ (own_wi hw 54 rfl) (own_wi hw 11 rfl) (by decide) (by decide)) qa120 qc120 (g := (mkF m 180 #[iv p1, iv p2, iv p3, iv p4, iv p5, iv 4, rv b1, rv si, iv 2, rv sr, iv 1, .unset] [(.ref sr)])) rfl (by rw [hml]; rfl) (Steps.refl _) (argsL := []) (rest := []) (lenOf own_pd___I rfl) rfl (by show 2 * 0 + _ ≤ _; exact Nat.le_of_eq rfl) (hb hby at_180) (fun _ _ => ⟨rfl, eh117, (by decide : 6 + 0 ≤ _), (by decide : 24 + 0 ≤ _)⟩)
        dsimp only [Pt.U, Pt.locs, Pt.cells, Pt.slots] at X121 l121 y121 z121 st121 hQ121
        subst l121 y121 z121
        obtain ⟨rfl, Nq121, e121⟩ := hQ121
        have N121 := Fr.app N117 Nq121
        have ch122 : ∀ t, SP p e below T121 (mkF m 183 #[iv p1, iv p2, iv p3, iv p4, iv p5, iv 4, rv b1, rv si, iv 2, rv sr, iv 1, .unset] [(.int (1 : Int32))]) t → SP p e below s₁ (entryFrame m #[(.int p1), (.int p2), (.int p3), (.int p4), (.int p5)] maxLocals) t := fun t k => ch118 t (by
            show SP p e below T117 (mkF m 144 #[iv p1, iv p2, iv p3, iv p4, iv p5, iv 4, rv b1, rv si, iv 2, .unset, .unset, .unset] [(.ref sr)]) t
            refine XS.astore X117.here hx rfl (hb hby at_144) rfl rfl (l' := #[iv p1, iv p2, iv p3, iv p4, iv p5, iv 4, rv b1, rv si, iv 2, rv sr, .unset, .unset]) rfl ?_
            refine XS.iload X117.here hx rfl (hb hby at_146) rfl ?_
            refine XS.ifYes X117.here hx rfl (pc0 := 148) (pc' := 162) rfl (hb hby at_148) rfl ((if0 _ _).trans (flt (by decide : ¬ (2 : Int32) < (0 : Int32))).2.1) (by decide) (by decide) ?_
            refine XS.aload X117.here hx rfl (hb hby at_162) rfl rfl ?_
            show SP p e below T117 (mkF m 164 #[iv p1, iv p2, iv p3, iv p4, iv p5, iv 4, rv b1, rv si, iv 2, rv sr, .unset, .unset] [(.ref sr)]) t
            refine XS.ifnonnullYes X117.here hx rfl (pc0 := 164) (pc' := 169) rfl (hb hby at_164) rfl (by decide) (by decide) ?_
            refine XS.iload X117.here hx rfl (hb hby at_169) rfl ?_
            refine XS.iload X117.here hx rfl (hb hby at_171) rfl ?_
            show SP p e below T117 (mkF m 173 #[iv p1, iv p2, iv p3, iv p4, iv p5, iv 4, rv b1, rv si, iv 2, rv sr, .unset, .unset] [(.int (2 : Int32)), (.int (4 : Int32))]) t
            refine XS.isub X117.here hx rfl (hb hby at_173) rfl ?_
            rw [show ((4 : Int32) - (2 : Int32)) = (2 : Int32) from by decide]
            refine XS.iconst X117.here hx rfl (hb hby at_174) ?_
            show SP p e below T117 (mkF m 175 #[iv p1, iv p2, iv p3, iv p4, iv p5, iv 4, rv b1, rv si, iv 2, rv sr, .unset, .unset] [(.int (1 : Int32)), (.int (2 : Int32))]) t
            refine XS.isub X117.here hx rfl (hb hby at_175) rfl ?_
            rw [show ((2 : Int32) - (1 : Int32)) = (1 : Int32) from by decide]
            refine XS.istore X117.here hx rfl (hb hby at_176) rfl (l' := #[iv p1, iv p2, iv p3, iv p4, iv p5, iv 4, rv b1, rv si, iv 2, rv sr, iv 1, .unset]) rfl ?_
            refine XS.aload X117.here hx rfl (hb hby at_178) rfl rfl ?_
            show SP p e below T117 (mkF m 180 #[iv p1, iv p2, iv p3, iv p4, iv p5, iv 4, rv b1, rv si, iv 2, rv sr, iv 1, .unset] [(.ref sr)]) t
            exact st121.trans k)
        have cf123 := (own_sta_keep cf116 Kq117 all0)
        obtain ⟨cq124, kq124, qa124, qb124, qc124⟩ := isOf hZ e121 fq117_0
        obtain ⟨vv125, _, ⟨T125, L125, kk125, nn125⟩, -, X125, ⟨Lc125, hQ125, l125, y125, z125⟩, st125⟩ := X121.virtualBack hx (y := ym8) (z := ym8) hown (mvT hZ (own_wi hw 129 rfl)) (mvT hZ (own_wi hw 130 rfl)) (notFace_of_selects (args := #[]) (mvT hZ (own_wi hw 132 rfl))) (mvT hZ (own_wi hw 132 rfl)) (mvT hZ (own_wi hw 131 rfl)) (by decide) (backOf (W := 0) (own_cat l Z a0 hw [] hh117 n0 (Nat.le_trans Z0 Kp117.1) sr tr kr (1 : Int32) [(.int (d3.toInt8.toInt32))] fq117_0 fq117_1 fq117_2 fq117_3 (0 : Int32) d3 (own_narc r3) (own_l1c_10 l Z a0 hw [] hh117 n0 (Nat.le_trans Z0 Kp117.1) tr kr (d3.toInt8.toInt32) fq117_3 d3 (own_back r3) (own_narc r3) vF hvF cf123) zC cf119 P5) hZ (own_wi hw 133 rfl) (own_wi hw 11 rfl) (by decide) (by decide)) qa124 qc124 (g := (mkF m 206 #[iv p1, iv p2, iv p3, iv p4, iv p5, iv 4, rv b1, rv si, iv 2, rv sr, iv 1, iv 1] [(.int (0 : Int32)), (.ref sr)])) rfl (by rw [hml]; rfl) (Steps.refl _) (argsL := [(.int (0 : Int32))]) (rest := []) (lenOf own_pd__I_C rfl) rfl (by show 2 * 0 + _ ≤ _; exact Nat.le_of_eq rfl) (hb hby at_206) (fun _ _ => ⟨rfl, e121, (by decide : 6 + 0 ≤ _), (by decide : 24 + 0 ≤ _)⟩)
        dsimp only [Pt.U, Pt.locs, Pt.cells, Pt.slots] at X125 l125 y125 z125 st125 hQ125
        subst l125 y125 z125
        obtain ⟨rfl, Nq125, e125⟩ := hQ125
        have N125 := Fr.app N121 Nq125
        have ch126 : ∀ t, SP p e below T125 (mkF m 209 #[iv p1, iv p2, iv p3, iv p4, iv p5, iv 4, rv b1, rv si, iv 2, rv sr, iv 1, iv 1] [(.int d3)]) t → SP p e below s₁ (entryFrame m #[(.int p1), (.int p2), (.int p3), (.int p4), (.int p5)] maxLocals) t := fun t k => ch122 t (by
            show SP p e below T121 (mkF m 183 #[iv p1, iv p2, iv p3, iv p4, iv p5, iv 4, rv b1, rv si, iv 2, rv sr, iv 1, .unset] [(.int (1 : Int32))]) t
            refine XS.iload X121.here hx rfl (hb hby at_183) rfl ?_
            refine XS.icmpYes X121.here hx rfl (pc0 := 185) (pc' := 190) rfl (hb hby at_185) rfl (teq (by decide : (1 : Int32) = (1 : Int32))).1 (by decide) (by decide) ?_
            refine XS.iconst X121.here hx rfl (hb hby at_190) ?_
            refine XS.istore X121.here hx rfl (hb hby at_191) rfl (l' := #[iv p1, iv p2, iv p3, iv p4, iv p5, iv 4, rv b1, rv si, iv 2, rv sr, iv 1, iv 1]) rfl ?_
            refine XS.iload X121.here hx rfl (hb hby at_193) rfl ?_
            refine XS.ifNo X121.here hx rfl (hb hby at_195) rfl ((if0 _ _).trans (tlt (by decide : (0 : Int32) < (1 : Int32))).2.2.2) ?_
            show SP p e below T121 (mkF m 198 #[iv p1, iv p2, iv p3, iv p4, iv p5, iv 4, rv b1, rv si, iv 2, rv sr, iv 1, iv 1] []) t
            refine XS.iload X121.here hx rfl (hb hby at_198) rfl ?_
            refine XS.ifNo X121.here hx rfl (hb hby at_200) rfl ((if0 _ _).trans (feq (by decide : ¬ (1 : Int32) = (0 : Int32))).1) ?_
            refine XS.aload X121.here hx rfl (hb hby at_203) rfl rfl ?_
            refine XS.iconst X121.here hx rfl (hb hby at_205) ?_
            show SP p e below T121 (mkF m 206 #[iv p1, iv p2, iv p3, iv p4, iv p5, iv 4, rv b1, rv si, iv 2, rv sr, iv 1, iv 1] [(.int (0 : Int32)), (.ref sr)]) t
            exact st125.trans k)
        have cf127 := (cf111.keep Kq117 nin0)
        obtain ⟨cl128, Ar128, -, Sz128, Ng128, Ha128, -⟩ := id cf127
        have hin128 : ¬ ((3 : Int32) < 0 ∨ cl128.slots.size ≤ ((3 : Int32)).toNatClampNeg) := inb_of Sz128 (by decide)
        have hat128 : cl128.slots[((3 : Int32)).toNatClampNeg]? = some (.int d3) := Ha128.at hin128 rfl
        have ch129 : ∀ t, SP p e below T125 (mkF m 296 #[iv p1, iv p2, iv p3, iv p4, iv p5, iv 4, rv b1, rv si, iv 2, rv sr, iv 1, iv 1] [(.int (1 : Int32))]) t → SP p e below s₁ (entryFrame m #[(.int p1), (.int p2), (.int p3), (.int p4), (.int p5)] maxLocals) t := fun t k => ch126 t (by
            show SP p e below T125 (mkF m 209 #[iv p1, iv p2, iv p3, iv p4, iv p5, iv 4, rv b1, rv si, iv 2, rv sr, iv 1, iv 1] [(.int d3)]) t
            refine XS.aload X125.here hx rfl (hb hby at_209) rfl rfl ?_
            refine XS.iload X125.here hx rfl (hb hby at_211) rfl ?_
            refine XS.iconst X125.here hx rfl (hb hby at_213) ?_
            show SP p e below T125 (mkF m 214 #[iv p1, iv p2, iv p3, iv p4, iv p5, iv 4, rv b1, rv si, iv 2, rv sr, iv 1, iv 1] [(.int (1 : Int32)), (.int (2 : Int32)), (.ref b1), (.int d3)]) t
            refine XS.iadd X125.here hx rfl (hb hby at_214) rfl ?_
            rw [show ((2 : Int32) + (1 : Int32)) = (3 : Int32) from by decide]
            refine X125.caload hx (j := (3 : Int32)) (v := (.int d3)) (by rw [e125]; exact Ar128.1) (State.isArrayOf_alike hZ.alike Ar128.2.1) Ar128.2.2 hin128 hat128 (g := (mkF m 215 #[iv p1, iv p2, iv p3, iv p4, iv p5, iv 4, rv b1, rv si, iv 2, rv sr, iv 1, iv 1] [(.int (3 : Int32)), (.ref b1), (.int d3)])) rfl rfl (hb hby at_215) _ ?_
            refine XS.icmpNo X125.here hx rfl (hb hby at_216) rfl (teq (rfl : d3 = d3)).2 ?_
            refine XS.iconst X125.here hx rfl (hb hby at_219) ?_
            refine XS.goto X125.here hx rfl (pc0 := 220) (pc' := 224) rfl (hb hby at_220) (by decide) (by decide) ?_
            refine XS.istore X125.here hx rfl (hb hby at_224) rfl (l' := #[iv p1, iv p2, iv p3, iv p4, iv p5, iv 4, rv b1, rv si, iv 2, rv sr, iv 1, iv 1]) rfl ?_
            refine XS.iload X125.here hx rfl (hb hby at_226) rfl ?_
            show SP p e below T125 (mkF m 228 #[iv p1, iv p2, iv p3, iv p4, iv p5, iv 4, rv b1, rv si, iv 2, rv sr, iv 1, iv 1] [(.int (1 : Int32))]) t
            refine XS.iconst X125.here hx rfl (hb hby at_228) ?_
            refine XS.icmpYes X125.here hx rfl (pc0 := 229) (pc' := 260) rfl (hb hby at_229) rfl (flt (by decide : ¬ (1 : Int32) < (1 : Int32))).2.2.2 (by decide) (by decide) ?_
            refine XS.iload X125.here hx rfl (hb hby at_260) rfl ?_
            refine XS.iconst X125.here hx rfl (hb hby at_262) ?_
            refine XS.icmpYes X125.here hx rfl (pc0 := 263) (pc' := 294) rfl (hb hby at_263) rfl (flt (by decide : ¬ (2 : Int32) < (1 : Int32))).2.2.2 (by decide) (by decide) ?_
            refine XS.iload X125.here hx rfl (hb hby at_294) rfl ?_
            exact k)
        obtain ⟨fs, hr, hrun, hended, hend⟩ := X125.leaveW hS (by rw [e125]; exact hk) (v := some (.int (1 : Int32))) (fun h => by rw [Bd.returns] at h; cases h)
        refine ⟨_, _, ch129 _ ?_, hrun, hended, _, _, rfl, ?_, hend.1, hend.2.1, hend.2.2.1, hend.2.2.2.mono (by decide) (by decide)⟩
        · show Steps p.tables e below (T125.setTop (mkF m 296 #[iv p1, iv p2, iv p3, iv p4, iv p5, iv 4, rv b1, rv si, iv 2, rv sr, iv 1, iv 1] [(.int (1 : Int32))])) _
          exact retN X125 hx (t := .boolean) Bd.returns (by simp) (hb hby at_296) hr
        · show QN (some (.int (1 : Int32))) n0 _ T125.heap _
          rw [e125]
          exact ⟨rfl, N125⟩
      · skip
        by_cases hq130 : d3 = (35 : Int32)
        · skip
          have cf131 := (V21.keep Kq28 nin0)
          obtain ⟨cl132, Ar132, -, Sz132, Ng132, Ha132, -⟩ := id cf131
          have hin132 : ¬ ((3 : Int32) < 0 ∨ cl132.slots.size ≤ ((3 : Int32)).toNatClampNeg) := inb_of Sz132 (by decide)
          have hat132 : cl132.slots[((3 : Int32)).toNatClampNeg]? = some (.int d3) := Ha132.at hin132 rfl
          obtain ⟨cl133, Ar133, -, Sz133, Ng133, Ha133, -⟩ := id cf131
          have hin133 : ¬ ((2 : Int32) < 0 ∨ cl133.slots.size ≤ ((2 : Int32)).toNatClampNeg) := inb_of Sz133 (by decide)
          have hat133 : cl133.slots[((2 : Int32)).toNatClampNeg]? = some (.int d2) := Ha133.at hin133 rfl
          obtain ⟨cl134, Ar134, -, Sz134, Ng134, Ha134, -⟩ := id cf131
          have hin134 : ¬ ((1 : Int32) < 0 ∨ cl134.slots.size ≤ ((1 : Int32)).toNatClampNeg) := inb_of Sz134 (by decide)
          have hat134 : cl134.slots[((1 : Int32)).toNatClampNeg]? = some (.int d1) := Ha134.at hin134 rfl
          obtain ⟨cl135, Ar135, -, Sz135, Ng135, Ha135, -⟩ := id cf131
          have hin135 : ¬ ((0 : Int32) < 0 ∨ cl135.slots.size ≤ ((0 : Int32)).toNatClampNeg) := inb_of Sz135 (by decide)
          have hat135 : cl135.slots[((0 : Int32)).toNatClampNeg]? = some (.int d0) := Ha135.at hin135 rfl
          have cf136 := (own_sta_keep cf27 Kq28 all0)
          have cf137 := (own_sta_keep S_F Kp28 all0)
          have ch138 : ∀ t, SP p e below T28 (mkF m 141 #[iv p1, iv p2, iv p3, iv p4, iv p5, iv 4, rv b1, rv si, iv 3, .unset, .unset, .unset] [(.ref si)]) t → SP p e below s₁ (entryFrame m #[(.int p1), (.int p2), (.int p3), (.int p4), (.int p5)] maxLocals) t := fun t k => ch31 t (by
              show SP p e below T28 (mkF m 68 #[iv p1, iv p2, iv p3, iv p4, iv p5, iv 4, rv b1, rv si, iv (-1), .unset, .unset, .unset] []) t
              refine XS.iload X28.here hx rfl (hb hby at_68) rfl ?_
              refine XS.iconst X28.here hx rfl (hb hby at_70) ?_
              refine XS.icmpNo X28.here hx rfl (hb hby at_71) rfl (tlt (by decide : (3 : Int32) < (4 : Int32))).2.2.2 ?_
              refine XS.aload X28.here hx rfl (hb hby at_74) rfl rfl ?_
              refine XS.iconst X28.here hx rfl (hb hby at_76) ?_
              refine X28.caload hx (j := (3 : Int32)) (v := (.int d3)) (by rw [eh28]; exact Ar132.1) (State.isArrayOf_alike hZ.alike Ar132.2.1) Ar132.2.2 hin132 hat132 (g := (mkF m 77 #[iv p1, iv p2, iv p3, iv p4, iv p5, iv 4, rv b1, rv si, iv (-1), .unset, .unset, .unset] [(.int (3 : Int32)), (.ref b1)])) rfl rfl (hb hby at_77) _ ?_
              refine XS.bipush X28.here hx rfl (hb hby at_78) ?_
              refine XS.icmpNo X28.here hx rfl (hb hby at_80) rfl (teq hq130).2 ?_
              refine XS.iconst X28.here hx rfl (hb hby at_83) ?_
              refine XS.istore X28.here hx rfl (hb hby at_84) rfl (l' := #[iv p1, iv p2, iv p3, iv p4, iv p5, iv 4, rv b1, rv si, iv 3, .unset, .unset, .unset]) rfl ?_
              refine XS.iload X28.here hx rfl (hb hby at_86) rfl ?_
              refine XS.iconst X28.here hx rfl (hb hby at_88) ?_
              refine XS.icmpNo X28.here hx rfl (hb hby at_89) rfl (tlt (by decide : (2 : Int32) < (4 : Int32))).2.2.2 ?_
              refine XS.aload X28.here hx rfl (hb hby at_92) rfl rfl ?_
              show SP p e below T28 (mkF m 94 #[iv p1, iv p2, iv p3, iv p4, iv p5, iv 4, rv b1, rv si, iv 3, .unset, .unset, .unset] [(.ref b1)]) t
              refine XS.iconst X28.here hx rfl (hb hby at_94) ?_
              refine X28.caload hx (j := (2 : Int32)) (v := (.int d2)) (by rw [eh28]; exact Ar133.1) (State.isArrayOf_alike hZ.alike Ar133.2.1) Ar133.2.2 hin133 hat133 (g := (mkF m 95 #[iv p1, iv p2, iv p3, iv p4, iv p5, iv 4, rv b1, rv si, iv 3, .unset, .unset, .unset] [(.int (2 : Int32)), (.ref b1)])) rfl rfl (hb hby at_95) _ ?_
              refine XS.bipush X28.here hx rfl (hb hby at_96) ?_
              refine XS.icmpYes X28.here hx rfl (pc0 := 98) (pc' := 104) rfl (hb hby at_98) rfl (feq hq105).2 (by decide) (by decide) ?_
              refine XS.iload X28.here hx rfl (hb hby at_104) rfl ?_
              refine XS.iconst X28.here hx rfl (hb hby at_106) ?_
              refine XS.icmpNo X28.here hx rfl (hb hby at_107) rfl (tlt (by decide : (1 : Int32) < (4 : Int32))).2.2.2 ?_
              refine XS.aload X28.here hx rfl (hb hby at_110) rfl rfl ?_
              refine XS.iconst X28.here hx rfl (hb hby at_112) ?_
              refine X28.caload hx (j := (1 : Int32)) (v := (.int d1)) (by rw [eh28]; exact Ar134.1) (State.isArrayOf_alike hZ.alike Ar134.2.1) Ar134.2.2 hin134 hat134 (g := (mkF m 113 #[iv p1, iv p2, iv p3, iv p4, iv p5, iv 4, rv b1, rv si, iv 3, .unset, .unset, .unset] [(.int (1 : Int32)), (.ref b1)])) rfl rfl (hb hby at_113) _ ?_
              refine XS.bipush X28.here hx rfl (hb hby at_114) ?_
              refine XS.icmpYes X28.here hx rfl (pc0 := 116) (pc' := 122) rfl (hb hby at_116) rfl (feq hq72).2 (by decide) (by decide) ?_
              refine XS.iload X28.here hx rfl (hb hby at_122) rfl ?_
              refine XS.ifNo X28.here hx rfl (hb hby at_124) rfl ((if0 _ _).trans (tlt (by decide : (0 : Int32) < (4 : Int32))).2.2.2) ?_
              refine XS.aload X28.here hx rfl (hb hby at_127) rfl rfl ?_
              refine XS.iconst X28.here hx rfl (hb hby at_129) ?_
              show SP p e below T28 (mkF m 130 #[iv p1, iv p2, iv p3, iv p4, iv p5, iv 4, rv b1, rv si, iv 3, .unset, .unset, .unset] [(.int (0 : Int32)), (.ref b1)]) t
              refine X28.caload hx (j := (0 : Int32)) (v := (.int d0)) (by rw [eh28]; exact Ar135.1) (State.isArrayOf_alike hZ.alike Ar135.2.1) Ar135.2.2 hin135 hat135 (g := (mkF m 130 #[iv p1, iv p2, iv p3, iv p4, iv p5, iv 4, rv b1, rv si, iv 3, .unset, .unset, .unset] [(.int (0 : Int32)), (.ref b1)])) rfl rfl (hb hby at_130) _ ?_
              refine XS.bipush X28.here hx rfl (hb hby at_131) ?_
              refine XS.icmpYes X28.here hx rfl (pc0 := 133) (pc' := 139) rfl (hb hby at_133) rfl (feq hq30).2 (by decide) (by decide) ?_
              refine XS.aload X28.here hx rfl (hb hby at_139) rfl rfl ?_
              exact k)
          obtain ⟨vv139, _, ⟨T139, L139, kk139, nn139⟩, -, X139, hS2, hgr, ⟨Lc139, hQ139, l139, y139, z139⟩, st139⟩ := Jvm.RoadKit.callSS X28 hx (y := ym0) hown (mvT hZ (own_wi hw 30 rfl)) (mvT hZ (own_wi hw 31 rfl)) (mvT hZ (own_wi hw 32 rfl)) (mvT hZ (own_wi hw 33 rfl)) (by decide) (own_backC (W := 0) (own_fr_43 l Z a0 hw hh28 n0 (Nat.le_trans Z0 Kp28.1) si ti ki (d0.toInt8.toInt32) (d1.toInt8.toInt32) (d2.toInt8.toInt32) (d3.toInt8.toInt32) fq28_0 fq28_1 fq28_2 fq28_3 (own_n35 r0 hq30) (own_n35 r1 hq72) (own_n35 r2 hq105) (own_y35 hq130) zC cf136 P5 vF hvF cf137) hZ (own_wi hw 33 rfl) (own_wi hw 32 rfl) (by decide) (by decide) (own_EW hw) (CHv.keep Kp28 (fun x hx => by cases hx) hC)) (g := (mkF m 141 #[iv p1, iv p2, iv p3, iv p4, iv p5, iv 4, rv b1, rv si, iv 3, .unset, .unset, .unset] [(.ref si)])) rfl (by rw [hml]; rfl) (argsL := [(.ref si)]) (rest := []) (lenOf own_pd__Ljava_lang_String__Ljava_lang_String_ rfl) rfl (by show 2 * 0 + _ ≤ _; exact Nat.le_of_eq rfl) (hb hby at_141) (fun _ _ => ⟨rfl, eh28, (by decide : 4 + 2 ≤ _), (by decide : 16 + 4 ≤ _)⟩)
          dsimp only [Pt.U, Pt.locs, Pt.cells, Pt.slots] at X139 l139 y139 z139 st139 hQ139 hS2 hgr
          subst l139 y139 z139
          obtain ⟨X139, hS, hZ, hown⟩ := rebS hS (by rw [eh28]; exact hk) X139 hS2 hgr hZ hown
          obtain ⟨hh139, eh139⟩ : ∃ h, T139.heap = h := ⟨_, rfl⟩
          rw [eh139] at hQ139
          rw [eh139] at hS
          have hk : hh139.size ≤ hh139.size := Nat.le_refl _
          obtain ⟨sr, tr, kr, rfl, Nq139, Kq139, fq139_0, fq139_1, fq139_2, fq139_3⟩ := hQ139
          have N139 := Fr.app N28 Nq139
          have Kp139 := Keep.trans Kp28 Kq139 all0
          have ch140 : ∀ t, SP p e below T139 (mkF m 144 #[iv p1, iv p2, iv p3, iv p4, iv p5, iv 4, rv b1, rv si, iv 3, .unset, .unset, .unset] [(.ref sr)]) t → SP p e below s₁ (entryFrame m #[(.int p1), (.int p2), (.int p3), (.int p4), (.int p5)] maxLocals) t := fun t k => ch138 t (by
              show SP p e below T28 (mkF m 141 #[iv p1, iv p2, iv p3, iv p4, iv p5, iv 4, rv b1, rv si, iv 3, .unset, .unset, .unset] [(.ref si)]) t
              exact st139.trans k)
          have cf141 := (own_sta_keep cf136 Kq139 all0)
          obtain ⟨cq142, kq142, qa142, qb142, qc142⟩ := isOf hZ eh139 fq139_0
          obtain ⟨vv143, _, ⟨T143, L143, kk143, nn143⟩, -, X143, ⟨Lc143, hQ143, l143, y143, z143⟩, st143⟩ := X139.virtualBack hx (y := ym15) (z := ym15) hown (mvT hZ (own_wi hw 109 rfl)) (mvT hZ (own_wi hw 51 rfl)) (notFace_of_selects (args := #[]) (mvT hZ (own_wi hw 53 rfl))) (mvT hZ (own_wi hw 53 rfl)) (mvT hZ (own_wi hw 52 rfl)) (by decide) (backOf (W := 0) (own_ln l Z a0 hw [] hh139 n0 (Nat.le_trans Z0 Kp139.1) sr tr kr (0 : Int32) [] fq139_0 fq139_1 fq139_2 fq139_3 zC cf141 P5) hZ (own_wi hw 54 rfl) (own_wi hw 11 rfl) (by decide) (by decide)) qa142 qc142 (g := (mkF m 180 #[iv p1, iv p2, iv p3, iv p4, iv p5, iv 4, rv b1, rv si, iv 3, rv sr, iv 0, .unset] [(.ref sr)])) rfl (by rw [hml]; rfl) (Steps.refl _) (argsL := []) (rest := []) (lenOf own_pd___I rfl) rfl (by show 2 * 0 + _ ≤ _; exact Nat.le_of_eq rfl) (hb hby at_180) (fun _ _ => ⟨rfl, eh139, (by decide : 6 + 0 ≤ _), (by decide : 20 + 0 ≤ _)⟩)
          dsimp only [Pt.U, Pt.locs, Pt.cells, Pt.slots] at X143 l143 y143 z143 st143 hQ143
          subst l143 y143 z143
          obtain ⟨rfl, Nq143, e143⟩ := hQ143
          have N143 := Fr.app N139 Nq143
          have ch144 : ∀ t, SP p e below T143 (mkF m 183 #[iv p1, iv p2, iv p3, iv p4, iv p5, iv 4, rv b1, rv si, iv 3, rv sr, iv 0, .unset] [(.int (0 : Int32))]) t → SP p e below s₁ (entryFrame m #[(.int p1), (.int p2), (.int p3), (.int p4), (.int p5)] maxLocals) t := fun t k => ch140 t (by
              show SP p e below T139 (mkF m 144 #[iv p1, iv p2, iv p3, iv p4, iv p5, iv 4, rv b1, rv si, iv 3, .unset, .unset, .unset] [(.ref sr)]) t
              refine XS.astore X139.here hx rfl (hb hby at_144) rfl rfl (l' := #[iv p1, iv p2, iv p3, iv p4, iv p5, iv 4, rv b1, rv si, iv 3, rv sr, .unset, .unset]) rfl ?_
              refine XS.iload X139.here hx rfl (hb hby at_146) rfl ?_
              refine XS.ifYes X139.here hx rfl (pc0 := 148) (pc' := 162) rfl (hb hby at_148) rfl ((if0 _ _).trans (flt (by decide : ¬ (3 : Int32) < (0 : Int32))).2.1) (by decide) (by decide) ?_
              refine XS.aload X139.here hx rfl (hb hby at_162) rfl rfl ?_
              refine XS.ifnonnullYes X139.here hx rfl (pc0 := 164) (pc' := 169) rfl (hb hby at_164) rfl (by decide) (by decide) ?_
              refine XS.iload X139.here hx rfl (hb hby at_169) rfl ?_
              refine XS.iload X139.here hx rfl (hb hby at_171) rfl ?_
              show SP p e below T139 (mkF m 173 #[iv p1, iv p2, iv p3, iv p4, iv p5, iv 4, rv b1, rv si, iv 3, rv sr, .unset, .unset] [(.int (3 : Int32)), (.int (4 : Int32))]) t
              refine XS.isub X139.here hx rfl (hb hby at_173) rfl ?_
              rw [show ((4 : Int32) - (3 : Int32)) = (1 : Int32) from by decide]
              refine XS.iconst X139.here hx rfl (hb hby at_174) ?_
              show SP p e below T139 (mkF m 175 #[iv p1, iv p2, iv p3, iv p4, iv p5, iv 4, rv b1, rv si, iv 3, rv sr, .unset, .unset] [(.int (1 : Int32)), (.int (1 : Int32))]) t
              refine XS.isub X139.here hx rfl (hb hby at_175) rfl ?_
              rw [show ((1 : Int32) - (1 : Int32)) = (0 : Int32) from by decide]
              show SP p e below T139 (mkF m 176 #[iv p1, iv p2, iv p3, iv p4, iv p5, iv 4, rv b1, rv si, iv 3, rv sr, .unset, .unset] [(.int (0 : Int32))]) t
              refine XS.istore X139.here hx rfl (hb hby at_176) rfl (l' := #[iv p1, iv p2, iv p3, iv p4, iv p5, iv 4, rv b1, rv si, iv 3, rv sr, iv 0, .unset]) rfl ?_
              refine XS.aload X139.here hx rfl (hb hby at_178) rfl rfl ?_
              show SP p e below T139 (mkF m 180 #[iv p1, iv p2, iv p3, iv p4, iv p5, iv 4, rv b1, rv si, iv 3, rv sr, iv 0, .unset] [(.ref sr)]) t
              exact st143.trans k)
          have ch145 : ∀ t, SP p e below T143 (mkF m 296 #[iv p1, iv p2, iv p3, iv p4, iv p5, iv 4, rv b1, rv si, iv 3, rv sr, iv 0, iv 1] [(.int (1 : Int32))]) t → SP p e below s₁ (entryFrame m #[(.int p1), (.int p2), (.int p3), (.int p4), (.int p5)] maxLocals) t := fun t k => ch144 t (by
              show SP p e below T143 (mkF m 183 #[iv p1, iv p2, iv p3, iv p4, iv p5, iv 4, rv b1, rv si, iv 3, rv sr, iv 0, .unset] [(.int (0 : Int32))]) t
              refine XS.iload X143.here hx rfl (hb hby at_183) rfl ?_
              refine XS.icmpYes X143.here hx rfl (pc0 := 185) (pc' := 190) rfl (hb hby at_185) rfl (teq (by decide : (0 : Int32) = (0 : Int32))).1 (by decide) (by decide) ?_
              refine XS.iconst X143.here hx rfl (hb hby at_190) ?_
              refine XS.istore X143.here hx rfl (hb hby at_191) rfl (l' := #[iv p1, iv p2, iv p3, iv p4, iv p5, iv 4, rv b1, rv si, iv 3, rv sr, iv 0, iv 1]) rfl ?_
              refine XS.iload X143.here hx rfl (hb hby at_193) rfl ?_
              refine XS.ifYes X143.here hx rfl (pc0 := 195) (pc' := 226) rfl (hb hby at_195) rfl ((if0 _ _).trans (flt (by decide : ¬ (0 : Int32) < (0 : Int32))).2.2.2) (by decide) (by decide) ?_
              refine XS.iload X143.here hx rfl (hb hby at_226) rfl ?_
              refine XS.iconst X143.here hx rfl (hb hby at_228) ?_
              refine XS.icmpYes X143.here hx rfl (pc0 := 229) (pc' := 260) rfl (hb hby at_229) rfl (flt (by decide : ¬ (1 : Int32) < (0 : Int32))).2.2.2 (by decide) (by decide) ?_
              refine XS.iload X143.here hx rfl (hb hby at_260) rfl ?_
              refine XS.iconst X143.here hx rfl (hb hby at_262) ?_
              refine XS.icmpYes X143.here hx rfl (pc0 := 263) (pc' := 294) rfl (hb hby at_263) rfl (flt (by decide : ¬ (2 : Int32) < (0 : Int32))).2.2.2 (by decide) (by decide) ?_
              refine XS.iload X143.here hx rfl (hb hby at_294) rfl ?_
              exact k)
          obtain ⟨fs, hr, hrun, hended, hend⟩ := X143.leaveW hS (by rw [e143]; exact hk) (v := some (.int (1 : Int32))) (fun h => by rw [Bd.returns] at h; cases h)
          refine ⟨_, _, ch145 _ ?_, hrun, hended, _, _, rfl, ?_, hend.1, hend.2.1, hend.2.2.1, hend.2.2.2.mono (by decide) (by decide)⟩
          · show Steps p.tables e below (T143.setTop (mkF m 296 #[iv p1, iv p2, iv p3, iv p4, iv p5, iv 4, rv b1, rv si, iv 3, rv sr, iv 0, iv 1] [(.int (1 : Int32))])) _
            exact retN X143 hx (t := .boolean) Bd.returns (by simp) (hb hby at_296) hr
          · show QN (some (.int (1 : Int32))) n0 _ T143.heap _
            rw [e143]
            exact ⟨rfl, N143⟩
        · skip
          have cf146 := (V21.keep Kq28 nin0)
          obtain ⟨cl147, Ar147, -, Sz147, Ng147, Ha147, -⟩ := id cf146
          have hin147 : ¬ ((3 : Int32) < 0 ∨ cl147.slots.size ≤ ((3 : Int32)).toNatClampNeg) := inb_of Sz147 (by decide)
          have hat147 : cl147.slots[((3 : Int32)).toNatClampNeg]? = some (.int d3) := Ha147.at hin147 rfl
          obtain ⟨cl148, Ar148, -, Sz148, Ng148, Ha148, -⟩ := id cf146
          have hin148 : ¬ ((2 : Int32) < 0 ∨ cl148.slots.size ≤ ((2 : Int32)).toNatClampNeg) := inb_of Sz148 (by decide)
          have hat148 : cl148.slots[((2 : Int32)).toNatClampNeg]? = some (.int d2) := Ha148.at hin148 rfl
          obtain ⟨cl149, Ar149, -, Sz149, Ng149, Ha149, -⟩ := id cf146
          have hin149 : ¬ ((1 : Int32) < 0 ∨ cl149.slots.size ≤ ((1 : Int32)).toNatClampNeg) := inb_of Sz149 (by decide)
          have hat149 : cl149.slots[((1 : Int32)).toNatClampNeg]? = some (.int d1) := Ha149.at hin149 rfl
          obtain ⟨cl150, Ar150, -, Sz150, Ng150, Ha150, -⟩ := id cf146
          have hin150 : ¬ ((0 : Int32) < 0 ∨ cl150.slots.size ≤ ((0 : Int32)).toNatClampNeg) := inb_of Sz150 (by decide)
          have hat150 : cl150.slots[((0 : Int32)).toNatClampNeg]? = some (.int d0) := Ha150.at hin150 rfl
          have cf151 := (own_sta_keep cf27 Kq28 all0)
          have cf152 := (own_sta_keep S_F Kp28 all0)
          obtain ⟨vv153, _, ⟨T153, L153, kk153, nn153⟩, -, X153, ⟨Lc153, hQ153, l153, y153, z153⟩, st153⟩ := Jvm.LawKit.callS X28 hx (y := ym0) hown (mvT hZ (own_wi hw 30 rfl)) (mvT hZ (own_wi hw 31 rfl)) (mvT hZ (own_wi hw 32 rfl)) (mvT hZ (own_wi hw 33 rfl)) (by decide) (backOf (W := 0) (own_fr_4n l Z a0 hw hh28 n0 (Nat.le_trans Z0 Kp28.1) si ti ki (d0.toInt8.toInt32) (d1.toInt8.toInt32) (d2.toInt8.toInt32) (d3.toInt8.toInt32) fq28_0 fq28_1 fq28_2 fq28_3 (own_n35 r0 hq30) (own_n35 r1 hq72) (own_n35 r2 hq105) (own_n35 r3 hq130) zC cf151 P5 vF hvF cf152) hZ (own_wi hw 33 rfl) (own_wi hw 32 rfl) (by decide) (by decide)) (g := (mkF m 141 #[iv p1, iv p2, iv p3, iv p4, iv p5, iv 4, rv b1, rv si, iv (-1), .unset, .unset, .unset] [(.ref si)])) rfl (by rw [hml]; rfl) (argsL := [(.ref si)]) (rest := []) (lenOf own_pd__Ljava_lang_String__Ljava_lang_String_ rfl) rfl (by show 2 * 0 + _ ≤ _; exact Nat.le_of_eq rfl) (hb hby at_141) (fun _ _ => ⟨rfl, eh28, (by decide : 4 + 0 ≤ _), (by decide : 16 + 0 ≤ _)⟩)
          dsimp only [Pt.U, Pt.locs, Pt.cells, Pt.slots] at X153 l153 y153 z153 st153 hQ153
          subst l153 y153 z153
          obtain ⟨rfl, Nq153, e153⟩ := hQ153
          have N153 := Fr.app N28 Nq153
          have ch154 : ∀ t, SP p e below T153 (mkF m 144 #[iv p1, iv p2, iv p3, iv p4, iv p5, iv 4, rv b1, rv si, iv (-1), .unset, .unset, .unset] [.null]) t → SP p e below s₁ (entryFrame m #[(.int p1), (.int p2), (.int p3), (.int p4), (.int p5)] maxLocals) t := fun t k => ch31 t (by
              show SP p e below T28 (mkF m 68 #[iv p1, iv p2, iv p3, iv p4, iv p5, iv 4, rv b1, rv si, iv (-1), .unset, .unset, .unset] []) t
              refine XS.iload X28.here hx rfl (hb hby at_68) rfl ?_
              refine XS.iconst X28.here hx rfl (hb hby at_70) ?_
              refine XS.icmpNo X28.here hx rfl (hb hby at_71) rfl (tlt (by decide : (3 : Int32) < (4 : Int32))).2.2.2 ?_
              refine XS.aload X28.here hx rfl (hb hby at_74) rfl rfl ?_
              refine XS.iconst X28.here hx rfl (hb hby at_76) ?_
              refine X28.caload hx (j := (3 : Int32)) (v := (.int d3)) (by rw [eh28]; exact Ar147.1) (State.isArrayOf_alike hZ.alike Ar147.2.1) Ar147.2.2 hin147 hat147 (g := (mkF m 77 #[iv p1, iv p2, iv p3, iv p4, iv p5, iv 4, rv b1, rv si, iv (-1), .unset, .unset, .unset] [(.int (3 : Int32)), (.ref b1)])) rfl rfl (hb hby at_77) _ ?_
              refine XS.bipush X28.here hx rfl (hb hby at_78) ?_
              refine XS.icmpYes X28.here hx rfl (pc0 := 80) (pc' := 86) rfl (hb hby at_80) rfl (feq hq130).2 (by decide) (by decide) ?_
              refine XS.iload X28.here hx rfl (hb hby at_86) rfl ?_
              refine XS.iconst X28.here hx rfl (hb hby at_88) ?_
              refine XS.icmpNo X28.here hx rfl (hb hby at_89) rfl (tlt (by decide : (2 : Int32) < (4 : Int32))).2.2.2 ?_
              refine XS.aload X28.here hx rfl (hb hby at_92) rfl rfl ?_
              refine XS.iconst X28.here hx rfl (hb hby at_94) ?_
              refine X28.caload hx (j := (2 : Int32)) (v := (.int d2)) (by rw [eh28]; exact Ar148.1) (State.isArrayOf_alike hZ.alike Ar148.2.1) Ar148.2.2 hin148 hat148 (g := (mkF m 95 #[iv p1, iv p2, iv p3, iv p4, iv p5, iv 4, rv b1, rv si, iv (-1), .unset, .unset, .unset] [(.int (2 : Int32)), (.ref b1)])) rfl rfl (hb hby at_95) _ ?_
              show SP p e below T28 (mkF m 96 #[iv p1, iv p2, iv p3, iv p4, iv p5, iv 4, rv b1, rv si, iv (-1), .unset, .unset, .unset] [(.int d2)]) t
              refine XS.bipush X28.here hx rfl (hb hby at_96) ?_
              refine XS.icmpYes X28.here hx rfl (pc0 := 98) (pc' := 104) rfl (hb hby at_98) rfl (feq hq105).2 (by decide) (by decide) ?_
              refine XS.iload X28.here hx rfl (hb hby at_104) rfl ?_
              refine XS.iconst X28.here hx rfl (hb hby at_106) ?_
              refine XS.icmpNo X28.here hx rfl (hb hby at_107) rfl (tlt (by decide : (1 : Int32) < (4 : Int32))).2.2.2 ?_
              refine XS.aload X28.here hx rfl (hb hby at_110) rfl rfl ?_
              refine XS.iconst X28.here hx rfl (hb hby at_112) ?_
              refine X28.caload hx (j := (1 : Int32)) (v := (.int d1)) (by rw [eh28]; exact Ar149.1) (State.isArrayOf_alike hZ.alike Ar149.2.1) Ar149.2.2 hin149 hat149 (g := (mkF m 113 #[iv p1, iv p2, iv p3, iv p4, iv p5, iv 4, rv b1, rv si, iv (-1), .unset, .unset, .unset] [(.int (1 : Int32)), (.ref b1)])) rfl rfl (hb hby at_113) _ ?_
              refine XS.bipush X28.here hx rfl (hb hby at_114) ?_
              refine XS.icmpYes X28.here hx rfl (pc0 := 116) (pc' := 122) rfl (hb hby at_116) rfl (feq hq72).2 (by decide) (by decide) ?_
              refine XS.iload X28.here hx rfl (hb hby at_122) rfl ?_
              refine XS.ifNo X28.here hx rfl (hb hby at_124) rfl ((if0 _ _).trans (tlt (by decide : (0 : Int32) < (4 : Int32))).2.2.2) ?_
              refine XS.aload X28.here hx rfl (hb hby at_127) rfl rfl ?_
              refine XS.iconst X28.here hx rfl (hb hby at_129) ?_
              refine X28.caload hx (j := (0 : Int32)) (v := (.int d0)) (by rw [eh28]; exact Ar150.1) (State.isArrayOf_alike hZ.alike Ar150.2.1) Ar150.2.2 hin150 hat150 (g := (mkF m 130 #[iv p1, iv p2, iv p3, iv p4, iv p5, iv 4, rv b1, rv si, iv (-1), .unset, .unset, .unset] [(.int (0 : Int32)), (.ref b1)])) rfl rfl (hb hby at_130) _ ?_
              refine XS.bipush X28.here hx rfl (hb hby at_131) ?_
              refine XS.icmpYes X28.here hx rfl (pc0 := 133) (pc' := 139) rfl (hb hby at_133) rfl (feq hq30).2 (by decide) (by decide) ?_
              show SP p e below T28 (mkF m 139 #[iv p1, iv p2, iv p3, iv p4, iv p5, iv 4, rv b1, rv si, iv (-1), .unset, .unset, .unset] []) t
              refine XS.aload X28.here hx rfl (hb hby at_139) rfl rfl ?_
              show SP p e below T28 (mkF m 141 #[iv p1, iv p2, iv p3, iv p4, iv p5, iv 4, rv b1, rv si, iv (-1), .unset, .unset, .unset] [(.ref si)]) t
              exact st153 t k)
          have ch155 : ∀ t, SP p e below T153 (mkF m 161 #[iv p1, iv p2, iv p3, iv p4, iv p5, iv 4, rv b1, rv si, iv (-1), .val .null, .unset, .unset] [(.int (1 : Int32))]) t → SP p e below s₁ (entryFrame m #[(.int p1), (.int p2), (.int p3), (.int p4), (.int p5)] maxLocals) t := fun t k => ch154 t (by
              show SP p e below T153 (mkF m 144 #[iv p1, iv p2, iv p3, iv p4, iv p5, iv 4, rv b1, rv si, iv (-1), .unset, .unset, .unset] [.null]) t
              refine XS.astore X153.here hx rfl (hb hby at_144) rfl rfl (l' := #[iv p1, iv p2, iv p3, iv p4, iv p5, iv 4, rv b1, rv si, iv (-1), .val .null, .unset, .unset]) rfl ?_
              refine XS.iload X153.here hx rfl (hb hby at_146) rfl ?_
              refine XS.ifNo X153.here hx rfl (hb hby at_148) rfl ((if0 _ _).trans (tlt (by decide : (-1 : Int32) < (0 : Int32))).2.1) ?_
              refine XS.aload X153.here hx rfl (hb hby at_151) rfl rfl ?_
              refine XS.ifnonnullNo X153.here hx rfl (hb hby at_153) rfl ?_
              refine XS.iconst X153.here hx rfl (hb hby at_156) ?_
              refine XS.goto X153.here hx rfl (pc0 := 157) (pc' := 161) rfl (hb hby at_157) (by decide) (by decide) ?_
              exact k)
          obtain ⟨fs, hr, hrun, hended, hend⟩ := X153.leaveW hS (by rw [e153]; exact hk) (v := some (.int (1 : Int32))) (fun h => by rw [Bd.returns] at h; cases h)
          refine ⟨_, _, ch155 _ ?_, hrun, hended, _, _, rfl, ?_, hend.1, hend.2.1, hend.2.2.1, hend.2.2.2.mono (by decide) (by decide)⟩
          · show Steps p.tables e below (T153.setTop (mkF m 161 #[iv p1, iv p2, iv p3, iv p4, iv p5, iv 4, rv b1, rv si, iv (-1), .val .null, .unset, .unset] [(.int (1 : Int32))])) _
            exact retN X153 hx (t := .boolean) Bd.returns (by simp) (hb hby at_161) hr
          · show QN (some (.int (1 : Int32))) n0 _ T153.heap _
            rw [e153]
            exact ⟨rfl, N153⟩
set_option maxRecDepth 65536 in
set_option maxHeartbeats 40000000 in
theorem comes_1 {Post : Tables → Env → Array Value → State → Outcome → State → Prop} (hpost : ∀ tb e args s v u, (limb_1_1.after args s (.returned v) u = true ∧ limb_1_2.after args s (.returned v) u = true ∧ True) → ReturnedEndW s (.returned v) u (Jvm.fieldLocs frame_1_writes args s ++ Jvm.arrayLocs frame_1_arrays args s ++ Jvm.staticLocs frame_1_statics s) 24 2176 → Post tb e args s (.returned v) u) :
    ArmFor flags0 classFile x code maxLocals ret World_1 tables_1 room_1 Calls_1 rest_1 Pre_1 Post := by
  intro l hfl _ _ p e ha hc hk s m args below hf hA hF happ hP
  obtain ⟨hcalls, hrest, hpre⟩ := hP
  obtain ⟨-, -, -, hnamed, -, -, -, hat⟩ := (Spec.applies_iff hf).mp happ
  obtain ⟨hg, hn⟩ := and_e (Cond.before_iff.mp (show (Jvm.Cond.and given_1 narrow_1).before args s = true from hpre))
  obtain ⟨gc, hg⟩ := and_e hg
  obtain ⟨w0, w1, w2, w3, w4, rfl⟩ : ∃ w0 w1 w2 w3 w4 : Value, args = #[w0, w1, w2, w3, w4] := by
    have hs : args.size = 5 := by simpa [Cond.value, given_1] using gc
    obtain ⟨L⟩ := args
    match L, hs with
    | [w0, w1, w2, w3, w4], _ => exact ⟨w0, w1, w2, w3, w4, rfl⟩
  have hw := fun d (hd : d ∈ tables_1) => atoms_spec (ws := Jvm.Cond.code x code maxLocals ret :: tables_1) hat d (List.mem_cons_of_mem _ hd)
  have hfit : Fit s := fun {y c} hc i hi => by
    obtain ⟨ha, rfl⟩ := Array.getElem?_eq_some_iff.mp hc
    have q := List.all_eq_true.mp ((Array.all_eq_true_iff_forall_mem.mp hF) _ (Array.getElem_mem ha)) i (List.mem_range.mpr hi)
    simpa [Array.getElem?_eq_getElem hi] using q
  obtain ⟨ga0, hg⟩ := and_e hg
  obtain ⟨i0, ei0⟩ := is_v ga0
  obtain rfl : w0 = (.int i0) := Option.some.inj ei0
  obtain ⟨ga1, hg⟩ := and_e hg
  obtain ⟨i1, ei1⟩ := is_v ga1
  obtain rfl : w1 = (.int i1) := Option.some.inj ei1
  obtain ⟨ga2, hg⟩ := and_e hg
  obtain ⟨i2, ei2⟩ := is_v ga2
  obtain rfl : w2 = (.int i2) := Option.some.inj ei2
  obtain ⟨ga3, hg⟩ := and_e hg
  obtain ⟨i3, ei3⟩ := is_v ga3
  obtain rfl : w3 = (.int i3) := Option.some.inj ei3
  obtain ⟨i4, ei4⟩ := is_v hg
  obtain rfl : w4 = (.int i4) := Option.some.inj ei4
  obtain ⟨hsets, hown0⟩ := atoms_of _ (rest_1_c_eq ▸ (show rest_1_c.before _ s = true from hrest))
  have nz3 := not_v (Cond.before_iff.mp (hsets _ (List.mem_of_getElem? (i := 2) rfl)))
  obtain ⟨zC, eC⟩ := is_v (Cond.before_iff.mp (hsets _ (List.mem_of_getElem? (i := 1) rfl)))
  have S_CS : Sta s s.heap "java/lang/String" "COMPACT_STRINGS" "Z" (.int zC) := Sta.start eC (Or.inl (hsets _ (List.mem_of_getElem? (i := 0) rfl)))
  have P5 : ¬ (zC = (0 : Int32)) := gotF (Cond.eq_ints eC (Term.int_eval (0))) nz3
  obtain ⟨vF, eF, hvF⟩ := own_isR (Cond.before_iff.mp (hsets _ (List.mem_of_getElem? (i := 8) rfl)))
  have S_F : Sta s s.heap "jdk/internal/util/Preconditions" "SIOOBE_FORMATTER" "Ljava/util/function/BiFunction;" vF := Sta.start eF (Or.inl (hsets _ (List.mem_of_getElem? (i := 7) rfl)))
  have hCH : CHv s consts_1 s.vm s.heap := CHv.start (own_EW hw) (fun p hp => hcalls.1 p hp) (hsets _ (List.mem_of_getElem? (i := 2) rfl)) (own_wi hw 23 rfl) (own_wi hw 10 rfl)
  obtain ⟨d0, r0, HD0⟩ : ∃ d : Int32, (¬ d < 0 ∧ ¬ (255 : Int32) < d) ∧ ∀ (h : Heap) (n0 : Nat) (Z0 : n0 ≤ h.size), MetFree l ym1 (head1 (Jvm.Cond.code ym1 method_2_code 1 (some .char) :: []) rm0) (fun a U => a = #[(.int i1)] ∧ s.Warmed39 U.vm ∧ U.heap = h) (fun _ _ _ _ _ => True) (fun _ U o U' => ∃ v L, o = .returned v ∧ QV (some (.int d)) h n0 v U'.heap L ∧ FrameEnd U o U' L rm0.cells rm0.slots) := by
    by_cases q : (i1 &&& (1 : Int32)) = (0 : Int32)
    · exact ⟨_, own_i2c _, fun h n0 Z0 => own_draw_f l s _ hw [] h n0 Z0 i1 _ q rfl (own_narc (own_i2c _))⟩
    · exact ⟨(35 : Int32), by decide, fun h n0 Z0 => own_draw_t l s _ hw [] h n0 Z0 i1 q⟩
  obtain ⟨d1, r1, HD1⟩ : ∃ d : Int32, (¬ d < 0 ∧ ¬ (255 : Int32) < d) ∧ ∀ (h : Heap) (n0 : Nat) (Z0 : n0 ≤ h.size), MetFree l ym1 (head1 (Jvm.Cond.code ym1 method_2_code 1 (some .char) :: []) rm0) (fun a U => a = #[(.int i2)] ∧ s.Warmed39 U.vm ∧ U.heap = h) (fun _ _ _ _ _ => True) (fun _ U o U' => ∃ v L, o = .returned v ∧ QV (some (.int d)) h n0 v U'.heap L ∧ FrameEnd U o U' L rm0.cells rm0.slots) := by
    by_cases q : (i2 &&& (1 : Int32)) = (0 : Int32)
    · exact ⟨_, own_i2c _, fun h n0 Z0 => own_draw_f l s _ hw [] h n0 Z0 i2 _ q rfl (own_narc (own_i2c _))⟩
    · exact ⟨(35 : Int32), by decide, fun h n0 Z0 => own_draw_t l s _ hw [] h n0 Z0 i2 q⟩
  obtain ⟨d2, r2, HD2⟩ : ∃ d : Int32, (¬ d < 0 ∧ ¬ (255 : Int32) < d) ∧ ∀ (h : Heap) (n0 : Nat) (Z0 : n0 ≤ h.size), MetFree l ym1 (head1 (Jvm.Cond.code ym1 method_2_code 1 (some .char) :: []) rm0) (fun a U => a = #[(.int i3)] ∧ s.Warmed39 U.vm ∧ U.heap = h) (fun _ _ _ _ _ => True) (fun _ U o U' => ∃ v L, o = .returned v ∧ QV (some (.int d)) h n0 v U'.heap L ∧ FrameEnd U o U' L rm0.cells rm0.slots) := by
    by_cases q : (i3 &&& (1 : Int32)) = (0 : Int32)
    · exact ⟨_, own_i2c _, fun h n0 Z0 => own_draw_f l s _ hw [] h n0 Z0 i3 _ q rfl (own_narc (own_i2c _))⟩
    · exact ⟨(35 : Int32), by decide, fun h n0 Z0 => own_draw_t l s _ hw [] h n0 Z0 i3 q⟩
  obtain ⟨d3, r3, HD3⟩ : ∃ d : Int32, (¬ d < 0 ∧ ¬ (255 : Int32) < d) ∧ ∀ (h : Heap) (n0 : Nat) (Z0 : n0 ≤ h.size), MetFree l ym1 (head1 (Jvm.Cond.code ym1 method_2_code 1 (some .char) :: []) rm0) (fun a U => a = #[(.int i4)] ∧ s.Warmed39 U.vm ∧ U.heap = h) (fun _ _ _ _ _ => True) (fun _ U o U' => ∃ v L, o = .returned v ∧ QV (some (.int d)) h n0 v U'.heap L ∧ FrameEnd U o U' L rm0.cells rm0.slots) := by
    by_cases q : (i4 &&& (1 : Int32)) = (0 : Int32)
    · exact ⟨_, own_i2c _, fun h n0 Z0 => own_draw_f l s _ hw [] h n0 Z0 i4 _ q rfl (own_narc (own_i2c _))⟩
    · exact ⟨(35 : Int32), by decide, fun h n0 Z0 => own_draw_t l s _ hw [] h n0 Z0 i4 q⟩
  have hm_i0 := c_mask i0 (2147483647 : Int32) 31 (by decide) (by decide)
  have hr_i0 := (c_irem (i0 &&& (2147483647 : Int32)) (5 : Int32) 5 (by decide)).1 (by omega)
  have hc8 : ((i0 &&& (2147483647 : Int32)) % (5 : Int32)).toInt = 0 ∨ ((i0 &&& (2147483647 : Int32)) % (5 : Int32)).toInt = 1 ∨ ((i0 &&& (2147483647 : Int32)) % (5 : Int32)).toInt = 2 ∨ ((i0 &&& (2147483647 : Int32)) % (5 : Int32)).toInt = 3 ∨ ((i0 &&& (2147483647 : Int32)) % (5 : Int32)).toInt = 4 := by omega
  have H : MetFree l x (head1 (Jvm.Cond.code x code maxLocals ret :: tables_1) room_1) (fun a U => a = #[(.int i0), (.int i1), (.int i2), (.int i3), (.int i4)] ∧ s.Warmed39 U.vm ∧ U.heap = s.heap ∧ CHv s consts_1 U.vm s.heap) (fun _ _ _ _ _ => True) (fun _ U o U' => ∃ v L, o = .returned v ∧ QN (some (.int (1 : Int32))) s.heap.size v U'.heap L ∧ ReturnedEndW U o U' L room_1.cells room_1.slots) := by
    rcases hc8 with hk5 | hk5 | hk5 | hk5 | hk5
    · have hn5 := Int32.toInt_inj.mp (hk5.trans (by decide : (0 : Int) = ((0 : Int32)).toInt))
      exact own_law_0 l s _ hw tables_1 s.heap s.heap.size (Nat.le_refl _)  i0 i1 i2 i3 i4 d0 d1 d2 d3 hn5 HD0 HD1 HD2 HD3 r0 r1 r2 r3 zC S_CS P5 vF hvF S_F
    · have hn5 := Int32.toInt_inj.mp (hk5.trans (by decide : (1 : Int) = ((1 : Int32)).toInt))
      exact own_law_1 l s _ hw tables_1 s.heap s.heap.size (Nat.le_refl _)  i0 i1 i2 i3 i4 d0 d1 d2 d3 hn5 HD0 HD1 HD2 HD3 r0 r1 r2 r3 zC S_CS P5 vF hvF S_F
    · have hn5 := Int32.toInt_inj.mp (hk5.trans (by decide : (2 : Int) = ((2 : Int32)).toInt))
      exact own_law_2 l s _ hw tables_1 s.heap s.heap.size (Nat.le_refl _)  i0 i1 i2 i3 i4 d0 d1 d2 d3 hn5 HD0 HD1 HD2 HD3 r0 r1 r2 r3 zC S_CS P5 vF hvF S_F
    · have hn5 := Int32.toInt_inj.mp (hk5.trans (by decide : (3 : Int) = ((3 : Int32)).toInt))
      exact own_law_3 l s _ hw tables_1 s.heap s.heap.size (Nat.le_refl _)  i0 i1 i2 i3 i4 d0 d1 d2 d3 hn5 HD0 HD1 HD2 HD3 r0 r1 r2 r3 zC S_CS P5 vF hvF S_F
    · have hn5 := Int32.toInt_inj.mp (hk5.trans (by decide : (4 : Int) = ((4 : Int32)).toInt))
      exact own_law_4 l s _ hw tables_1 s.heap s.heap.size (Nat.le_refl _)  i0 i1 i2 i3 i4 d0 d1 d2 d3 hn5 HD0 HD1 HD2 HD3 r0 r1 r2 r3 zC S_CS P5 vF hvF S_F
  obtain ⟨n, o, h1, h2, h3, _, L, rfl, ⟨rfl, N⟩, hq⟩ := H p e ha hc hk s m _ below hf ((Spec.applies_iff_loose hf).mp happ).1 ⟨rfl, State.Warmed39.refl s, rfl, hCH⟩ trivial
  refine ⟨n, _, h1, h2, h3, hpost _ _ _ _ _ _ ⟨Cond.after_iff.mpr rfl, Cond.after_iff.mpr (eq_i res_at (Term.int_eval (1)) rfl), trivial⟩ ⟨hq.1, hq.2.1, hq.2.2.1, (hq.2.2.2.sift fun y hy => Or.inr (N y hy)).mono (by decide) (by decide)⟩⟩
theorem main_1_1 : Claimed_1_1 := comes_1 fun _ _ _ _ _ _ h hF => ⟨h.1, hF⟩
theorem main_1_2 : Claimed_1_2 := comes_1 fun _ _ _ _ _ _ h hF => ⟨h.2.1, hF⟩
end Jvm.Pilot.@@N@@
namespace Jvm.Pilot.@@N@@
open Jvm Jvm.ClassFile Sem Op Lib Jvm.Free Jvm.Stand Jvm.Pilot.@@N@@.Jvm.D
/-! MADE BY PROGRAM (witnessworld.py) out of the Statement's table words and the real class files: 23 classes; the members and pool entries that the words name. The judged class is class 1, her method 3. -/
namespace start1
open Jvm.ClassFile
def u (s : String) : CpInfo := .utf8 (stringToUtf16 s)
/-- a pool by its gaps: so many unusable entries, then the entry; so many at the end -/
def gap : Nat → List CpInfo → List CpInfo
  | 0, r => r
  | n + 1, r => .unusable :: gap n r
def poolList (es : List (Nat × CpInfo)) (last : Nat) : List CpInfo := es.foldr (fun e r => gap e.1 (e.2 :: r)) (gap last [])
def pool (es : List (Nat × CpInfo)) (last : Nat) : Array CpInfo := ⟨poolList es last⟩
def fileOf (pool : Array CpInfo) (this : Nat) (attrs : Array Attribute := #[]) (ms : Array MethodInfo := #[]) (fl : Nat := 33) (sup : Nat := 0) (ifs : Array Nat := #[]) (fds : Array FieldInfo := #[]) : ClassFile where
  minorVersion := 0
  majorVersion := 65
  constantPool := pool
  accessFlags := fl
  thisClass := this
  superClass := sup
  interfaces := ifs
  fields := fds
  methods := ms
  attributes := attrs
def plain (name : String) (sup : Option ClassId) : Class where
  name := name
  kind := .ordinary
  loader := none
  accessFlags := 33
  super := sup
  interfaces := #[]
  cf := none
  fields := #[]
  methods := #[]
  instanceTypes := #[]
  staticTypes := #[]
  resolved := #[]
  callSites := []
  init := .initialized
  statics := none
  mirror := none

def pool0 : Array CpInfo := pool [(5, u "<init>"), (0, u "()V"), (1, .class_ 10), (1, u "java/lang/Object")] 113

def k0c0 : Code := { maxStack := 0, maxLocals := 1, code := object_method_1_code, exceptionTable := #[], attributes := #[] }
def k0m0 : Method := { name := "<init>", desc := "()V", sig := { parameters := [], returnType := none }, accessFlags := 1, code := some k0c0 }
/-- java/lang/Object -/
def k0 : Class := { plain "java/lang/Object" none with
  accessFlags := 33
  interfaces := #[]
  cf := some (fileOf pool0 8 #[] #[{ accessFlags := 1, nameIndex := 5, descriptorIndex := 6, attributes := #[] }] 33 0 #[] #[])
  fields := #[]
  methods := #[k0m0]
  instanceTypes := #[]
  staticTypes := #[]
  resolved := Array.replicate 124 none
  statics := none }

def pool1 : Array CpInfo := pool [(2, .class_ 4), (1, u "java/lang/Object"), (0, u "<init>"), (0, u "()V"), (0, .class_ 8), (0, u "java/lang/String"), (0, .methodref 7 10), (0, .nameAndType 5 11), (0, u "([C)V"), (0, .integer 2147483647), (0, .methodref 14 15), (0, .class_ 16), (0, .nameAndType 17 18), (0, u "com/example/leafwright/leafwright/ReferencesFragmentPinLaw"), (0, u "draw"), (0, u "(I)C"), (0, .methodref 14 20), (0, .nameAndType 21 22), (0, u "make"), (0, u "(ICCCC)Ljava/lang/String;"), (0, .methodref 24 25), (0, .class_ 26), (0, .nameAndType 27 28), (0, u "com/example/leafwright/leafwright/References"), (0, u "fragment"), (0, u "(Ljava/lang/String;)Ljava/lang/String;"), (0, .methodref 7 30), (0, .nameAndType 31 32), (0, u "length"), (0, u "()I"), (0, .methodref 7 34), (0, .nameAndType 35 18), (0, u "charAt"), (3, u "law"), (0, u "(IIIII)Z")] 4

def k1m0 : Method := { name := "<init>", desc := "()V", sig := { parameters := [], returnType := none }, accessFlags := 2, code := none }
def k1c1 : Code := { maxStack := 2, maxLocals := 1, code := method_2_code, exceptionTable := #[], attributes := #[] }
def k1m1 : Method := { name := "draw", desc := "(I)C", sig := { parameters := [.int], returnType := some .char }, accessFlags := 10, code := some k1c1 }
def k1c2 : Code := { maxStack := 6, maxLocals := 5, code := method_3_code, exceptionTable := #[], attributes := #[] }
def k1m2 : Method := { name := "make", desc := "(ICCCC)Ljava/lang/String;", sig := { parameters := [.int, .char, .char, .char, .char], returnType := some (.object "java/lang/String") }, accessFlags := 10, code := some k1c2 }
def k1c3 : Code := { maxStack := 6, maxLocals := 12, code := code, exceptionTable := #[], attributes := #[] }
def k1m3 : Method := { name := "law", desc := "(IIIII)Z", sig := { parameters := [.int, .int, .int, .int, .int], returnType := some .boolean }, accessFlags := 9, code := some k1c3 }
/-- com/example/leafwright/leafwright/ReferencesFragmentPinLaw -/
def k1 : Class := { plain "com/example/leafwright/leafwright/ReferencesFragmentPinLaw" (some 0) with
  accessFlags := 49
  interfaces := #[]
  cf := some (fileOf pool1 14 #[] #[{ accessFlags := 2, nameIndex := 5, descriptorIndex := 6, attributes := #[] }, { accessFlags := 10, nameIndex := 17, descriptorIndex := 18, attributes := #[] }, { accessFlags := 10, nameIndex := 21, descriptorIndex := 22, attributes := #[] }, { accessFlags := 9, nameIndex := 39, descriptorIndex := 40, attributes := #[] }] 49 2 #[] #[])
  fields := #[]
  methods := #[k1m0, k1m1, k1m2, k1m3]
  instanceTypes := #[]
  staticTypes := #[]
  resolved := Array.replicate 45 none
  statics := none }

def pool2 : Array CpInfo := pool [(1, .class_ 2), (0, u "java/io/Serializable"), (0, .class_ 4), (0, u "java/lang/Object")] 2

/-- java/io/Serializable -/
def k2 : Class := { plain "java/io/Serializable" (some 0) with
  accessFlags := 1537
  interfaces := #[]
  cf := some (fileOf pool2 1 #[] #[] 1537 3 #[] #[])
  fields := #[]
  methods := #[]
  instanceTypes := #[]
  staticTypes := #[]
  resolved := Array.replicate 7 none
  statics := none }

def pool3 : Array CpInfo := pool [(1, .class_ 2), (0, u "java/lang/Comparable"), (0, .class_ 4), (0, u "java/lang/Object")] 7

/-- java/lang/Comparable -/
def k3 : Class := { plain "java/lang/Comparable" (some 0) with
  accessFlags := 1537
  interfaces := #[]
  cf := some (fileOf pool3 1 #[] #[] 1537 3 #[] #[])
  fields := #[]
  methods := #[]
  instanceTypes := #[]
  staticTypes := #[]
  resolved := Array.replicate 12 none
  statics := none }

def pool4 : Array CpInfo := pool [(2, .class_ 4), (1, u "java/lang/CharSequence"), (42, .class_ 48), (0, u "java/lang/CharSequence$1CodePointIterator"), (10, .class_ 60), (0, u "java/lang/CharSequence$1CharIterator"), (5, .class_ 67), (0, u "java/lang/Object")] 63

/-- java/lang/CharSequence -/
def k4 : Class := { plain "java/lang/CharSequence" (some 0) with
  accessFlags := 1537
  interfaces := #[]
  cf := some (fileOf pool4 2 #[.nestMembers #[47, 59]] #[] 1537 66 #[] #[])
  fields := #[]
  methods := #[]
  instanceTypes := #[]
  staticTypes := #[]
  resolved := Array.replicate 131 none
  statics := none }

def pool5 : Array CpInfo := pool [(1, .class_ 2), (0, u "java/lang/constant/Constable"), (0, .class_ 4), (0, u "java/lang/Object")] 6

/-- java/lang/constant/Constable -/
def k5 : Class := { plain "java/lang/constant/Constable" (some 0) with
  accessFlags := 1537
  interfaces := #[]
  cf := some (fileOf pool5 1 #[] #[] 1537 3 #[] #[])
  fields := #[]
  methods := #[]
  instanceTypes := #[]
  staticTypes := #[]
  resolved := Array.replicate 11 none
  statics := none }

def pool6 : Array CpInfo := pool [(1, .class_ 2), (0, u "java/lang/constant/ConstantDesc"), (0, .class_ 4), (0, u "java/lang/Object")] 32

/-- java/lang/constant/ConstantDesc -/
def k6 : Class := { plain "java/lang/constant/ConstantDesc" (some 0) with
  accessFlags := 1537
  interfaces := #[]
  cf := some (fileOf pool6 1 #[] #[] 1537 3 #[] #[])
  fields := #[]
  methods := #[]
  instanceTypes := #[]
  staticTypes := #[]
  resolved := Array.replicate 37 none
  statics := none }

def pool7 : Array CpInfo := pool [(1, .methodref 2 3), (0, .class_ 4), (0, .nameAndType 5 6), (0, u "java/lang/Object"), (0, u "<init>"), (0, u "()V"), (0, .string 8), (0, u ""), (0, .fieldref 10 11), (0, .class_ 12), (0, .nameAndType 13 14), (0, u "java/lang/String"), (0, u "value"), (0, u "[B"), (0, .fieldref 10 16), (0, .nameAndType 17 18), (0, u "coder"), (0, u "B"), (2, u "hash"), (0, u "I"), (2, u "hashIsZero"), (0, u "Z"), (0, .methodref 10 28), (0, .nameAndType 5 29), (0, u "([CIILjava/lang/Void;)V"), (8, .fieldref 10 39), (0, .nameAndType 40 26), (0, u "COMPACT_STRINGS"), (1, .class_ 44), (1, u "java/lang/StringUTF16"), (0, u "compress"), (1, .methodref 42 48), (0, .nameAndType 49 50), (0, u "coderFromArrayLen"), (0, u "([BI)B"), (56, .class_ 109), (1, u "java/lang/StringLatin1"), (32, u "()Z"), (34, .methodref 42 178), (0, .nameAndType 45 179), (0, u "([CII)[B"), (31, u "([BB)V"), (122, u "()I"), (0, .methodref 10 336), (0, .nameAndType 17 337), (0, u "()B"), (25, u "([BI)C"), (27, u "(II)V"), (35, u "(I)C"), (64, .methodref 10 493), (0, .nameAndType 494 142), (0, u "isLatin1"), (0, .methodref 107 496), (0, .nameAndType 497 363), (0, u "charAt"), (3, u "checkIndex"), (3, .methodref 10 506), (0, .nameAndType 507 334), (0, u "length"), (5, u "checkFromToIndex"), (7, .methodref 10 522), (0, .nameAndType 523 524), (0, u "checkBoundsBeginEnd"), (0, u "(III)V"), (50, .class_ 576), (0, u "java/lang/CharSequence"), (22, u "CASE_INSENSITIVE_ORDER"), (0, u "Ljava/util/Comparator;"), (32, .methodref 10 634), (0, .nameAndType 635 636), (0, u "indexOf"), (0, u "(II)I"), (0, .methodref 107 638), (0, .nameAndType 635 639), (0, u "([BIII)I"), (41, .methodref 10 682), (0, .nameAndType 683 684), (0, u "substring"), (0, u "(II)Ljava/lang/String;"), (0, .methodref 107 686), (0, .nameAndType 687 688), (0, u "newString"), (0, u "([BII)Ljava/lang/String;"), (76, u "(I)I"), (126, u "(I)Ljava/lang/String;"), (117, u "([C)V"), (42, .fieldref 1054 1055), (0, .class_ 1056), (0, .nameAndType 1057 1058), (0, u "jdk/internal/util/Preconditions"), (0, u "SIOOBE_FORMATTER"), (0, u "Ljava/util/function/BiFunction;"), (0, .methodref 1054 1060), (0, .nameAndType 501 1061), (0, u "(IILjava/util/function/BiFunction;)I"), (0, .methodref 1054 1063), (0, .nameAndType 513 1064), (0, u "(IIILjava/util/function/BiFunction;)I"), (36, u "serialPersistentFields"), (0, u "[Ljava/io/ObjectStreamField;"), (0, .class_ 1104), (0, u "java/lang/String$CaseInsensitiveComparator"), (1, .class_ 1107), (0, u "java/io/Serializable"), (0, .class_ 1109), (0, u "java/lang/Comparable"), (0, .class_ 1111), (0, u "java/lang/constant/Constable"), (0, .class_ 1113), (0, u "java/lang/constant/ConstantDesc"), (2, u "serialVersionUID"), (0, u "J"), (3, u "REPL"), (0, u "C"), (2, u "LATIN1"), (1, u "UTF16")] 323

def k7m0 : Method := { name := "<init>", desc := "()V", sig := { parameters := [], returnType := none }, accessFlags := 1, code := none }
def k7c1 : Code := { maxStack := 5, maxLocals := 2, code := jdk_42_method_3_code, exceptionTable := #[], attributes := #[] }
def k7m1 : Method := { name := "<init>", desc := "([C)V", sig := { parameters := [(.array .char)], returnType := none }, accessFlags := 1, code := some k7c1 }
def k7c2 : Code := { maxStack := 2, maxLocals := 1, code := jdk_42_method_54_code, exceptionTable := #[], attributes := #[] }
def k7m2 : Method := { name := "length", desc := "()I", sig := { parameters := [], returnType := some .int }, accessFlags := 1, code := some k7c2 }
def k7c3 : Code := { maxStack := 2, maxLocals := 2, code := jdk_42_method_56_code, exceptionTable := #[], attributes := #[] }
def k7m3 : Method := { name := "charAt", desc := "(I)C", sig := { parameters := [.int], returnType := some .char }, accessFlags := 1, code := some k7c3 }
def k7c4 : Code := { maxStack := 3, maxLocals := 2, code := jdk_42_method_79_code, exceptionTable := #[], attributes := #[] }
def k7m4 : Method := { name := "indexOf", desc := "(I)I", sig := { parameters := [.int], returnType := some .int }, accessFlags := 1, code := some k7c4 }
def k7c5 : Code := { maxStack := 4, maxLocals := 3, code := jdk_42_method_80_code, exceptionTable := #[], attributes := #[] }
def k7m5 : Method := { name := "indexOf", desc := "(II)I", sig := { parameters := [.int, .int], returnType := some .int }, accessFlags := 1, code := some k7c5 }
def k7c6 : Code := { maxStack := 3, maxLocals := 2, code := jdk_42_method_91_code, exceptionTable := #[], attributes := #[] }
def k7m6 : Method := { name := "substring", desc := "(I)Ljava/lang/String;", sig := { parameters := [.int], returnType := some (.object "java/lang/String") }, accessFlags := 1, code := some k7c6 }
def k7c7 : Code := { maxStack := 3, maxLocals := 5, code := jdk_42_method_92_code, exceptionTable := #[], attributes := #[] }
def k7m7 : Method := { name := "substring", desc := "(II)Ljava/lang/String;", sig := { parameters := [.int, .int], returnType := some (.object "java/lang/String") }, accessFlags := 1, code := some k7c7 }
def k7c8 : Code := { maxStack := 4, maxLocals := 6, code := jdk_42_method_149_code, exceptionTable := #[], attributes := #[] }
def k7m8 : Method := { name := "<init>", desc := "([CIILjava/lang/Void;)V", sig := { parameters := [(.array .char), .int, .int, (.object "java/lang/Void")], returnType := none }, accessFlags := 2, code := some k7c8 }
def k7c9 : Code := { maxStack := 2, maxLocals := 3, code := jdk_42_method_151_code, exceptionTable := #[], attributes := #[] }
def k7m9 : Method := { name := "<init>", desc := "([BB)V", sig := { parameters := [(.array .byte), .byte], returnType := none }, accessFlags := 0, code := some k7c9 }
def k7c10 : Code := { maxStack := 1, maxLocals := 1, code := jdk_42_method_152_code, exceptionTable := #[], attributes := #[] }
def k7m10 : Method := { name := "coder", desc := "()B", sig := { parameters := [], returnType := some .byte }, accessFlags := 0, code := some k7c10 }
def k7c11 : Code := { maxStack := 1, maxLocals := 1, code := jdk_42_method_154_code, exceptionTable := #[], attributes := #[] }
def k7m11 : Method := { name := "isLatin1", desc := "()Z", sig := { parameters := [], returnType := some .boolean }, accessFlags := 0, code := some k7c11 }
def k7c12 : Code := { maxStack := 3, maxLocals := 2, code := jdk_42_method_155_code, exceptionTable := #[], attributes := #[] }
def k7m12 : Method := { name := "checkIndex", desc := "(II)V", sig := { parameters := [.int, .int], returnType := none }, accessFlags := 8, code := some k7c12 }
def k7c13 : Code := { maxStack := 4, maxLocals := 3, code := jdk_42_method_158_code, exceptionTable := #[], attributes := #[] }
def k7m13 : Method := { name := "checkBoundsBeginEnd", desc := "(III)V", sig := { parameters := [.int, .int, .int], returnType := none }, accessFlags := 8, code := some k7c13 }
/-- java/lang/String -/
def k7 : Class := { plain "java/lang/String" (some 0) with
  accessFlags := 49
  interfaces := #[2, 3, 4, 5, 6]
  cf := some (fileOf pool7 10 #[.nestMembers #[1103]] #[{ accessFlags := 1, nameIndex := 5, descriptorIndex := 6, attributes := #[] }, { accessFlags := 1, nameIndex := 5, descriptorIndex := 1010, attributes := #[] }, { accessFlags := 1, nameIndex := 507, descriptorIndex := 334, attributes := #[] }, { accessFlags := 1, nameIndex := 497, descriptorIndex := 427, attributes := #[] }, { accessFlags := 1, nameIndex := 635, descriptorIndex := 765, attributes := #[] }, { accessFlags := 1, nameIndex := 635, descriptorIndex := 636, attributes := #[] }, { accessFlags := 1, nameIndex := 683, descriptorIndex := 892, attributes := #[] }, { accessFlags := 1, nameIndex := 683, descriptorIndex := 684, attributes := #[] }, { accessFlags := 2, nameIndex := 5, descriptorIndex := 29, attributes := #[] }, { accessFlags := 0, nameIndex := 5, descriptorIndex := 211, attributes := #[] }, { accessFlags := 0, nameIndex := 17, descriptorIndex := 337, attributes := #[] }, { accessFlags := 0, nameIndex := 494, descriptorIndex := 142, attributes := #[] }, { accessFlags := 8, nameIndex := 501, descriptorIndex := 391, attributes := #[] }, { accessFlags := 8, nameIndex := 523, descriptorIndex := 524, attributes := #[] }] 49 2 #[1106, 1108, 575, 1110, 1112] #[{ accessFlags := 18, nameIndex := 13, descriptorIndex := 14, attributes := #[] }, { accessFlags := 18, nameIndex := 17, descriptorIndex := 18, attributes := #[] }, { accessFlags := 2, nameIndex := 21, descriptorIndex := 22, attributes := #[] }, { accessFlags := 2, nameIndex := 25, descriptorIndex := 26, attributes := #[] }, { accessFlags := 26, nameIndex := 1116, descriptorIndex := 1117, attributes := #[] }, { accessFlags := 24, nameIndex := 40, descriptorIndex := 26, attributes := #[] }, { accessFlags := 26, nameIndex := 1101, descriptorIndex := 1102, attributes := #[] }, { accessFlags := 26, nameIndex := 1121, descriptorIndex := 1122, attributes := #[] }, { accessFlags := 25, nameIndex := 599, descriptorIndex := 600, attributes := #[] }, { accessFlags := 24, nameIndex := 1125, descriptorIndex := 18, attributes := #[] }, { accessFlags := 24, nameIndex := 1127, descriptorIndex := 18, attributes := #[] }])
  fields := #[{ name := "value", type := (.array .byte), accessFlags := 18, slot := 0, constantValue := 0 }, { name := "coder", type := .byte, accessFlags := 18, slot := 1, constantValue := 0 }, { name := "hash", type := .int, accessFlags := 2, slot := 2, constantValue := 0 }, { name := "hashIsZero", type := .boolean, accessFlags := 2, slot := 3, constantValue := 0 }, { name := "serialVersionUID", type := .long, accessFlags := 26, slot := 0, constantValue := 0 }, { name := "COMPACT_STRINGS", type := .boolean, accessFlags := 24, slot := 1, constantValue := 0 }, { name := "serialPersistentFields", type := (.array (.object "java/io/ObjectStreamField")), accessFlags := 26, slot := 2, constantValue := 0 }, { name := "REPL", type := .char, accessFlags := 26, slot := 3, constantValue := 0 }, { name := "CASE_INSENSITIVE_ORDER", type := (.object "java/util/Comparator"), accessFlags := 25, slot := 4, constantValue := 0 }, { name := "LATIN1", type := .byte, accessFlags := 24, slot := 5, constantValue := 0 }, { name := "UTF16", type := .byte, accessFlags := 24, slot := 6, constantValue := 0 }]
  methods := #[k7m0, k7m1, k7m2, k7m3, k7m4, k7m5, k7m6, k7m7, k7m8, k7m9, k7m10, k7m11, k7m12, k7m13]
  instanceTypes := #[(.array .byte), .byte, .int, .boolean]
  staticTypes := #[.long, .boolean, (.array (.object "java/io/ObjectStreamField")), .char, (.object "java/util/Comparator"), .byte, .byte]
  resolved := Array.replicate 1451 none
  statics := some 0 }

def pool8 : Array CpInfo := pool [(2, .class_ 4), (1, u "java/lang/Object"), (0, u "<init>"), (0, u "()V"), (17, u "(Ljava/lang/String;)Ljava/lang/String;"), (1, .class_ 28), (1, u "java/lang/String"), (10, .methodref 26 40), (0, .nameAndType 41 42), (0, u "indexOf"), (0, u "(I)I"), (2, u "substring"), (1, .methodref 26 48), (0, .nameAndType 45 49), (0, u "(I)Ljava/lang/String;"), (0, .class_ 51), (0, u "com/example/leafwright/leafwright/References"), (6, u "fragment")] 2

def k8m0 : Method := { name := "<init>", desc := "()V", sig := { parameters := [], returnType := none }, accessFlags := 2, code := none }
def k8c1 : Code := { maxStack := 3, maxLocals := 2, code := prog_28_method_4_code, exceptionTable := #[], attributes := #[] }
def k8m1 : Method := { name := "fragment", desc := "(Ljava/lang/String;)Ljava/lang/String;", sig := { parameters := [(.object "java/lang/String")], returnType := some (.object "java/lang/String") }, accessFlags := 8, code := some k8c1 }
/-- com/example/leafwright/leafwright/References -/
def k8 : Class := { plain "com/example/leafwright/leafwright/References" (some 0) with
  accessFlags := 48
  interfaces := #[]
  cf := some (fileOf pool8 50 #[] #[{ accessFlags := 2, nameIndex := 5, descriptorIndex := 6, attributes := #[] }, { accessFlags := 8, nameIndex := 58, descriptorIndex := 24, attributes := #[] }] 48 2 #[] #[])
  fields := #[]
  methods := #[k8m0, k8m1]
  instanceTypes := #[]
  staticTypes := #[]
  resolved := Array.replicate 61 none
  statics := none }

def pool9 : Array CpInfo := pool [(1, .class_ 2), (0, u "java/lang/String"), (1, .class_ 6), (1, u "java/lang/Object"), (0, u "<init>"), (0, u "()V"), (0, .methodref 1 10), (0, .nameAndType 11 12), (0, u "checkIndex"), (0, u "(II)V"), (1, .class_ 16), (1, u "java/lang/StringLatin1"), (21, .methodref 39 40), (0, .class_ 41), (0, .nameAndType 42 43), (0, u "java/lang/Math"), (0, u "min"), (0, u "(II)I"), (9, u "([BI)C"), (34, .methodref 14 89), (0, .nameAndType 90 91), (0, u "canEncode"), (0, u "(I)Z"), (0, .methodref 39 93), (0, .nameAndType 94 43), (0, u "max"), (0, .methodref 14 96), (0, .nameAndType 97 98), (0, u "indexOfChar"), (0, u "([BIII)I"), (2, u "indexOf"), (10, .methodref 1 113), (0, .nameAndType 7 114), (0, u "([BB)V"), (6, u "$assertionsDisabled"), (0, u "Z"), (8, .class_ 133), (1, u "java/util/Arrays"), (17, .string 152), (0, u ""), (43, u "newString"), (0, u "([BII)Ljava/lang/String;"), (23, .class_ 223), (1, u "java/lang/StringLatin1$LinesSpliterator"), (8, .methodref 131 233), (0, .nameAndType 234 235), (0, u "copyOfRange"), (0, u "([BII)[B"), (16, u "charAt"), (137, .class_ 391), (0, u "java/lang/StringLatin1$CharsSpliterator")] 3

def k9m0 : Method := { name := "<init>", desc := "()V", sig := { parameters := [], returnType := none }, accessFlags := 0, code := none }
def k9c1 : Code := { maxStack := 2, maxLocals := 2, code := jdk_43_method_2_code, exceptionTable := #[], attributes := #[] }
def k9m1 : Method := { name := "charAt", desc := "([BI)C", sig := { parameters := [(.array .byte), .int], returnType := some .char }, accessFlags := 9, code := some k9c1 }
def k9c2 : Code := { maxStack := 2, maxLocals := 1, code := jdk_43_method_4_code, exceptionTable := #[], attributes := #[] }
def k9m2 : Method := { name := "canEncode", desc := "(I)Z", sig := { parameters := [.int], returnType := some .boolean }, accessFlags := 9, code := some k9c2 }
def k9c3 : Code := { maxStack := 4, maxLocals := 4, code := jdk_43_method_22_code, exceptionTable := #[], attributes := #[] }
def k9m3 : Method := { name := "indexOf", desc := "([BIII)I", sig := { parameters := [(.array .byte), .int, .int, .int], returnType := some .int }, accessFlags := 9, code := some k9c3 }
def k9c4 : Code := { maxStack := 2, maxLocals := 6, code := jdk_43_method_23_code, exceptionTable := #[], attributes := #[] }
def k9m4 : Method := { name := "indexOfChar", desc := "([BIII)I", sig := { parameters := [(.array .byte), .int, .int, .int], returnType := some .int }, accessFlags := 10, code := some k9c4 }
def k9c5 : Code := { maxStack := 6, maxLocals := 3, code := jdk_43_method_47_code, exceptionTable := #[], attributes := #[] }
def k9m5 : Method := { name := "newString", desc := "([BII)Ljava/lang/String;", sig := { parameters := [(.array .byte), .int, .int], returnType := some (.object "java/lang/String") }, accessFlags := 9, code := some k9c5 }
/-- java/lang/StringLatin1 -/
def k9 : Class := { plain "java/lang/StringLatin1" (some 0) with
  accessFlags := 48
  interfaces := #[]
  cf := some (fileOf pool9 14 #[.nestMembers #[390, 221]] #[{ accessFlags := 0, nameIndex := 7, descriptorIndex := 8, attributes := #[] }, { accessFlags := 9, nameIndex := 252, descriptorIndex := 53, attributes := #[] }, { accessFlags := 9, nameIndex := 90, descriptorIndex := 91, attributes := #[] }, { accessFlags := 9, nameIndex := 101, descriptorIndex := 98, attributes := #[] }, { accessFlags := 10, nameIndex := 97, descriptorIndex := 98, attributes := #[] }, { accessFlags := 9, nameIndex := 196, descriptorIndex := 197, attributes := #[] }] 48 4 #[] #[{ accessFlags := 4120, nameIndex := 121, descriptorIndex := 122, attributes := #[] }])
  fields := #[{ name := "$assertionsDisabled", type := .boolean, accessFlags := 4120, slot := 0, constantValue := 0 }]
  methods := #[k9m0, k9m1, k9m2, k9m3, k9m4, k9m5]
  instanceTypes := #[]
  staticTypes := #[.boolean]
  resolved := Array.replicate 395 none
  statics := none }

def pool10 : Array CpInfo := pool [(1, .class_ 2), (0, u "java/lang/Math"), (1, .class_ 6), (1, u "java/lang/Object"), (0, u "<init>"), (0, u "()V"), (89, .class_ 100), (1, u "java/lang/Math$RandomNumberGeneratorHolder"), (71, u "negativeZeroFloatBits"), (0, u "J"), (2, u "negativeZeroDoubleBits"), (21, u "max"), (2, u "min"), (43, u "$assertionsDisabled"), (0, u "Z"), (88, u "(II)I"), (2, u "twoToTheDoubleScaleDown"), (0, u "D"), (4, u "twoToTheDoubleScaleUp"), (9, u "E"), (3, u "PI"), (2, u "TAU"), (2, u "DEGREES_TO_RADIANS"), (0, u "RADIANS_TO_DEGREES")] 94

def k10m0 : Method := { name := "<init>", desc := "()V", sig := { parameters := [], returnType := none }, accessFlags := 2, code := none }
def k10c1 : Code := { maxStack := 2, maxLocals := 2, code := jdk_29_method_65_code, exceptionTable := #[], attributes := #[] }
def k10m1 : Method := { name := "max", desc := "(II)I", sig := { parameters := [.int, .int], returnType := some .int }, accessFlags := 9, code := some k10c1 }
def k10c2 : Code := { maxStack := 2, maxLocals := 2, code := jdk_29_method_69_code, exceptionTable := #[], attributes := #[] }
def k10m2 : Method := { name := "min", desc := "(II)I", sig := { parameters := [.int, .int], returnType := some .int }, accessFlags := 9, code := some k10c2 }
/-- java/lang/Math -/
def k10 : Class := { plain "java/lang/Math" (some 0) with
  accessFlags := 49
  interfaces := #[]
  cf := some (fileOf pool10 1 #[.nestMembers #[98]] #[{ accessFlags := 2, nameIndex := 7, descriptorIndex := 8, attributes := #[] }, { accessFlags := 9, nameIndex := 198, descriptorIndex := 335, attributes := #[] }, { accessFlags := 9, nameIndex := 201, descriptorIndex := 335, attributes := #[] }] 49 4 #[] #[{ accessFlags := 25, nameIndex := 354, descriptorIndex := 339, attributes := #[] }, { accessFlags := 25, nameIndex := 358, descriptorIndex := 339, attributes := #[] }, { accessFlags := 25, nameIndex := 361, descriptorIndex := 339, attributes := #[] }, { accessFlags := 26, nameIndex := 364, descriptorIndex := 339, attributes := #[] }, { accessFlags := 26, nameIndex := 365, descriptorIndex := 339, attributes := #[] }, { accessFlags := 26, nameIndex := 172, descriptorIndex := 173, attributes := #[] }, { accessFlags := 26, nameIndex := 176, descriptorIndex := 173, attributes := #[] }, { accessFlags := 8, nameIndex := 344, descriptorIndex := 339, attributes := #[] }, { accessFlags := 8, nameIndex := 338, descriptorIndex := 339, attributes := #[] }, { accessFlags := 4120, nameIndex := 245, descriptorIndex := 246, attributes := #[] }])
  fields := #[{ name := "E", type := .double, accessFlags := 25, slot := 0, constantValue := 0 }, { name := "PI", type := .double, accessFlags := 25, slot := 1, constantValue := 0 }, { name := "TAU", type := .double, accessFlags := 25, slot := 2, constantValue := 0 }, { name := "DEGREES_TO_RADIANS", type := .double, accessFlags := 26, slot := 3, constantValue := 0 }, { name := "RADIANS_TO_DEGREES", type := .double, accessFlags := 26, slot := 4, constantValue := 0 }, { name := "negativeZeroFloatBits", type := .long, accessFlags := 26, slot := 5, constantValue := 0 }, { name := "negativeZeroDoubleBits", type := .long, accessFlags := 26, slot := 6, constantValue := 0 }, { name := "twoToTheDoubleScaleUp", type := .double, accessFlags := 8, slot := 7, constantValue := 0 }, { name := "twoToTheDoubleScaleDown", type := .double, accessFlags := 8, slot := 8, constantValue := 0 }, { name := "$assertionsDisabled", type := .boolean, accessFlags := 4120, slot := 9, constantValue := 0 }]
  methods := #[k10m0, k10m1, k10m2]
  instanceTypes := #[]
  staticTypes := #[.double, .double, .double, .double, .double, .long, .long, .double, .double, .boolean]
  resolved := Array.replicate 460 none
  statics := none }

def pool11 : Array CpInfo := pool [(6, .class_ 8), (1, u "java/lang/Object"), (0, u "<init>"), (0, u "()V"), (1, .class_ 14), (1, u "java/lang/StringUTF16"), (31, u "$assertionsDisabled"), (0, u "Z"), (13, u "HI_BYTE_SHIFT"), (0, u "I"), (2, u "LO_BYTE_SHIFT"), (49, .methodref 12 116), (0, .nameAndType 117 118), (0, u "compress"), (0, u "([CI[BII)I"), (3, u "([CII)[B"), (138, u "coderFromArrayLen"), (0, u "([BI)B"), (106, .class_ 371), (1, u "java/lang/StringUTF16$LinesSpliterator"), (58, u "MAX_LENGTH"), (196, .class_ 628), (0, u "java/lang/StringUTF16$CodePointsSpliterator"), (0, .class_ 630), (0, u "java/lang/StringUTF16$CharsSpliterator")] 4

def k11m0 : Method := { name := "<init>", desc := "()V", sig := { parameters := [], returnType := none }, accessFlags := 0, code := none }
def k11c1 : Code := { maxStack := 2, maxLocals := 2, code := jdk_52_method_15_code, exceptionTable := #[], attributes := #[] }
def k11m1 : Method := { name := "coderFromArrayLen", desc := "([BI)B", sig := { parameters := [(.array .byte), .int], returnType := some .byte }, accessFlags := 8, code := some k11c1 }
def k11c2 : Code := { maxStack := 5, maxLocals := 6, code := jdk_52_method_16_code, exceptionTable := #[], attributes := #[] }
def k11m2 : Method := { name := "compress", desc := "([CII)[B", sig := { parameters := [(.array .char), .int, .int], returnType := some (.array .byte) }, accessFlags := 9, code := some k11c2 }
def k11c3 : Code := { maxStack := 3, maxLocals := 7, code := jdk_52_method_21_code, exceptionTable := #[], attributes := #[] }
def k11m3 : Method := { name := "compress", desc := "([CI[BII)I", sig := { parameters := [(.array .char), .int, (.array .byte), .int, .int], returnType := some .int }, accessFlags := 9, code := some k11c3 }
/-- java/lang/StringUTF16 -/
def k11 : Class := { plain "java/lang/StringUTF16" (some 0) with
  accessFlags := 48
  interfaces := #[]
  cf := some (fileOf pool11 12 #[.nestMembers #[627, 629, 369]] #[{ accessFlags := 0, nameIndex := 9, descriptorIndex := 10, attributes := #[] }, { accessFlags := 8, nameIndex := 261, descriptorIndex := 262, attributes := #[] }, { accessFlags := 9, nameIndex := 117, descriptorIndex := 122, attributes := #[] }, { accessFlags := 9, nameIndex := 117, descriptorIndex := 118, attributes := #[] }] 48 6 #[] #[{ accessFlags := 26, nameIndex := 61, descriptorIndex := 62, attributes := #[] }, { accessFlags := 26, nameIndex := 65, descriptorIndex := 62, attributes := #[] }, { accessFlags := 24, nameIndex := 430, descriptorIndex := 62, attributes := #[] }, { accessFlags := 4120, nameIndex := 46, descriptorIndex := 47, attributes := #[] }])
  fields := #[{ name := "HI_BYTE_SHIFT", type := .int, accessFlags := 26, slot := 0, constantValue := 0 }, { name := "LO_BYTE_SHIFT", type := .int, accessFlags := 26, slot := 1, constantValue := 0 }, { name := "MAX_LENGTH", type := .int, accessFlags := 24, slot := 2, constantValue := 0 }, { name := "$assertionsDisabled", type := .boolean, accessFlags := 4120, slot := 3, constantValue := 0 }]
  methods := #[k11m0, k11m1, k11m2, k11m3]
  instanceTypes := #[]
  staticTypes := #[.int, .int, .int, .boolean]
  resolved := Array.replicate 635 none
  statics := none }

def pool12 : Array CpInfo := pool [(2, .class_ 4), (1, u "java/lang/Object"), (0, u "<init>"), (0, u "()V"), (17, .class_ 26), (1, u "jdk/internal/util/Preconditions"), (6, u "checkIndex"), (13, u "checkFromToIndex"), (7, .class_ 56), (0, u "jdk/internal/util/Preconditions$4"), (57, .class_ 115), (0, u "jdk/internal/util/Preconditions$1"), (7, u "SIOOBE_FORMATTER"), (0, u "Ljava/util/function/BiFunction;"), (0, .class_ 126), (0, u "jdk/internal/util/Preconditions$2"), (3, u "AIOOBE_FORMATTER"), (0, .class_ 132), (0, u "jdk/internal/util/Preconditions$3"), (3, u "IOOBE_FORMATTER"), (41, u "(IILjava/util/function/BiFunction;)I"), (4, u "(IIILjava/util/function/BiFunction;)I")] 10

def k12m0 : Method := { name := "<init>", desc := "()V", sig := { parameters := [], returnType := none }, accessFlags := 1, code := none }
def k12c1 : Code := { maxStack := 3, maxLocals := 3, code := jdk_41_method_11_code, exceptionTable := #[], attributes := #[] }
def k12m1 : Method := { name := "checkIndex", desc := "(IILjava/util/function/BiFunction;)I", sig := { parameters := [.int, .int, (.object "java/util/function/BiFunction")], returnType := some .int }, accessFlags := 9, code := some k12c1 }
def k12c2 : Code := { maxStack := 4, maxLocals := 4, code := jdk_41_method_12_code, exceptionTable := #[], attributes := #[] }
def k12m2 : Method := { name := "checkFromToIndex", desc := "(IIILjava/util/function/BiFunction;)I", sig := { parameters := [.int, .int, .int, (.object "java/util/function/BiFunction")], returnType := some .int }, accessFlags := 9, code := some k12c2 }
/-- jdk/internal/util/Preconditions -/
def k12 : Class := { plain "jdk/internal/util/Preconditions" (some 0) with
  accessFlags := 33
  interfaces := #[]
  cf := some (fileOf pool12 24 #[.nestMembers #[55, 131, 125, 114]] #[{ accessFlags := 1, nameIndex := 5, descriptorIndex := 6, attributes := #[] }, { accessFlags := 9, nameIndex := 33, descriptorIndex := 178, attributes := #[] }, { accessFlags := 9, nameIndex := 47, descriptorIndex := 183, attributes := #[] }] 33 2 #[] #[{ accessFlags := 25, nameIndex := 123, descriptorIndex := 124, attributes := #[] }, { accessFlags := 25, nameIndex := 130, descriptorIndex := 124, attributes := #[] }, { accessFlags := 25, nameIndex := 136, descriptorIndex := 124, attributes := #[] }])
  fields := #[{ name := "SIOOBE_FORMATTER", type := (.object "java/util/function/BiFunction"), accessFlags := 25, slot := 0, constantValue := 0 }, { name := "AIOOBE_FORMATTER", type := (.object "java/util/function/BiFunction"), accessFlags := 25, slot := 1, constantValue := 0 }, { name := "IOOBE_FORMATTER", type := (.object "java/util/function/BiFunction"), accessFlags := 25, slot := 2, constantValue := 0 }]
  methods := #[k12m0, k12m1, k12m2]
  instanceTypes := #[]
  staticTypes := #[(.object "java/util/function/BiFunction"), (.object "java/util/function/BiFunction"), (.object "java/util/function/BiFunction")]
  resolved := Array.replicate 194 none
  statics := some 1 }

def pool13 : Array CpInfo := pool [(2, .class_ 4), (1, u "java/lang/Object"), (0, u "<init>"), (0, u "()V"), (7, .class_ 16), (1, u "java/util/Arrays"), (57, .class_ 76), (1, u "java/util/Arrays$NaturalOrder"), (36, .class_ 115), (1, u "java/util/Arrays$LegacyMergeSort"), (1, u "Z"), (21, u "copyOfRange"), (10, .methodref 151 152), (0, .class_ 153), (0, .nameAndType 154 155), (0, u "java/lang/System"), (0, u "arraycopy"), (0, u "(Ljava/lang/Object;ILjava/lang/Object;II)V"), (148, .methodref 305 306), (0, .class_ 307), (0, .nameAndType 308 309), (0, u "java/lang/Math"), (0, u "min"), (0, u "(II)I"), (29, .methodref 14 340), (0, .nameAndType 341 342), (0, u "copyOfRangeByte"), (0, u "([BII)[B"), (0, .methodref 14 344), (0, .nameAndType 345 346), (0, u "checkLength"), (0, u "(II)V"), (28, .class_ 376), (0, u "java/util/Arrays$ArrayList"), (68, u "$assertionsDisabled"), (269, u "MIN_ARRAY_SORT_GRAN"), (0, u "I"), (2, u "INSERTIONSORT_THRESHOLD"), (255, .class_ 976), (0, u "java/util/Arrays$ArrayItr")] 52

def k13m0 : Method := { name := "<init>", desc := "()V", sig := { parameters := [], returnType := none }, accessFlags := 2, code := none }
def k13c1 : Code := { maxStack := 4, maxLocals := 2, code := jdk_65_method_131_code, exceptionTable := #[], attributes := #[] }
def k13m1 : Method := { name := "checkLength", desc := "(II)V", sig := { parameters := [.int, .int], returnType := none }, accessFlags := 10, code := some k13c1 }
def k13c2 : Code := { maxStack := 3, maxLocals := 3, code := jdk_65_method_132_code, exceptionTable := #[], attributes := #[] }
def k13m2 : Method := { name := "copyOfRange", desc := "([BII)[B", sig := { parameters := [(.array .byte), .int, .int], returnType := some (.array .byte) }, accessFlags := 9, code := some k13c2 }
def k13c3 : Code := { maxStack := 6, maxLocals := 5, code := jdk_65_method_133_code, exceptionTable := #[], attributes := #[] }
def k13m3 : Method := { name := "copyOfRangeByte", desc := "([BII)[B", sig := { parameters := [(.array .byte), .int, .int], returnType := some (.array .byte) }, accessFlags := 10, code := some k13c3 }
/-- java/util/Arrays -/
def k13 : Class := { plain "java/util/Arrays" (some 0) with
  accessFlags := 49
  interfaces := #[]
  cf := some (fileOf pool13 14 #[.nestMembers #[975, 375, 113, 74]] #[{ accessFlags := 2, nameIndex := 5, descriptorIndex := 6, attributes := #[] }, { accessFlags := 10, nameIndex := 345, descriptorIndex := 346, attributes := #[] }, { accessFlags := 9, nameIndex := 139, descriptorIndex := 342, attributes := #[] }, { accessFlags := 10, nameIndex := 341, descriptorIndex := 342, attributes := #[] }] 49 2 #[] #[{ accessFlags := 26, nameIndex := 715, descriptorIndex := 716, attributes := #[] }, { accessFlags := 26, nameIndex := 719, descriptorIndex := 716, attributes := #[] }, { accessFlags := 4120, nameIndex := 445, descriptorIndex := 117, attributes := #[] }])
  fields := #[{ name := "MIN_ARRAY_SORT_GRAN", type := .int, accessFlags := 26, slot := 0, constantValue := 0 }, { name := "INSERTIONSORT_THRESHOLD", type := .int, accessFlags := 26, slot := 1, constantValue := 0 }, { name := "$assertionsDisabled", type := .boolean, accessFlags := 4120, slot := 2, constantValue := 0 }]
  methods := #[k13m0, k13m1, k13m2, k13m3]
  instanceTypes := #[]
  staticTypes := #[.int, .int, .boolean]
  resolved := Array.replicate 1029 none
  statics := none }

def pool14 : Array CpInfo := pool [(2, .class_ 4), (1, u "java/lang/Object"), (0, u "<init>"), (0, u "()V"), (1, .class_ 10), (1, u "java/lang/System"), (0, u "allowSecurityManager"), (0, u "I"), (16, u "cons"), (0, u "Ljava/io/Console;"), (77, .class_ 110), (1, u "java/lang/System$CallersHolder"), (43, u "initialErrStream"), (0, u "Ljava/io/PrintStream;"), (19, u "security"), (0, u "Ljava/lang/SecurityManager;"), (31, .class_ 209), (0, u "java/lang/System$1"), (7, u "props"), (0, u "Ljava/util/Properties;"), (2, u "lineSeparator"), (0, u "Ljava/lang/String;"), (96, .class_ 321), (1, u "java/lang/System$LoggerFinder"), (5, .class_ 328), (0, u "java/lang/System$Logger"), (67, u "err"), (2, u "out"), (91, u "notSupportedJnuEncoding"), (15, u "in"), (17, u "initialIn"), (0, u "Ljava/io/InputStream;"), (35, u "bootLayer"), (0, u "Ljava/lang/ModuleLayer;"), (99, .class_ 664), (0, u "java/lang/System$2"), (9, u "NEVER"), (2, u "MAYBE"), (49, u "arraycopy"), (0, u "(Ljava/lang/Object;ILjava/lang/Object;II)V"), (72, .class_ 802), (0, u "java/lang/System$Logger$Level")] 31

def k14m0 : Method := { name := "<init>", desc := "()V", sig := { parameters := [], returnType := none }, accessFlags := 2, code := none }
def k14m1 : Method := { name := "arraycopy", desc := "(Ljava/lang/Object;ILjava/lang/Object;II)V", sig := { parameters := [(.object "java/lang/Object"), .int, (.object "java/lang/Object"), .int, .int], returnType := none }, accessFlags := 265, code := none }
/-- java/lang/System -/
def k14 : Class := { plain "java/lang/System" (some 0) with
  accessFlags := 49
  interfaces := #[]
  cf := some (fileOf pool14 8 #[.nestMembers #[319, 327, 801, 108, 663, 208]] #[{ accessFlags := 2, nameIndex := 5, descriptorIndex := 6, attributes := #[] }, { accessFlags := 265, nameIndex := 727, descriptorIndex := 728, attributes := #[] }] 49 2 #[] #[{ accessFlags := 25, nameIndex := 507, descriptorIndex := 526, attributes := #[] }, { accessFlags := 25, nameIndex := 399, descriptorIndex := 155, attributes := #[] }, { accessFlags := 25, nameIndex := 396, descriptorIndex := 155, attributes := #[] }, { accessFlags := 10, nameIndex := 525, descriptorIndex := 526, attributes := #[] }, { accessFlags := 26, nameIndex := 674, descriptorIndex := 12, attributes := #[] }, { accessFlags := 26, nameIndex := 677, descriptorIndex := 12, attributes := #[] }, { accessFlags := 10, nameIndex := 11, descriptorIndex := 12, attributes := #[] }, { accessFlags := 74, nameIndex := 175, descriptorIndex := 176, attributes := #[] }, { accessFlags := 10, nameIndex := 491, descriptorIndex := 222, attributes := #[] }, { accessFlags := 74, nameIndex := 29, descriptorIndex := 30, attributes := #[] }, { accessFlags := 74, nameIndex := 154, descriptorIndex := 155, attributes := #[] }, { accessFlags := 10, nameIndex := 217, descriptorIndex := 218, attributes := #[] }, { accessFlags := 10, nameIndex := 221, descriptorIndex := 222, attributes := #[] }, { accessFlags := 8, nameIndex := 562, descriptorIndex := 563, attributes := #[] }])
  fields := #[{ name := "in", type := (.object "java/io/InputStream"), accessFlags := 25, slot := 0, constantValue := 0 }, { name := "out", type := (.object "java/io/PrintStream"), accessFlags := 25, slot := 1, constantValue := 0 }, { name := "err", type := (.object "java/io/PrintStream"), accessFlags := 25, slot := 2, constantValue := 0 }, { name := "initialIn", type := (.object "java/io/InputStream"), accessFlags := 10, slot := 3, constantValue := 0 }, { name := "NEVER", type := .int, accessFlags := 26, slot := 4, constantValue := 0 }, { name := "MAYBE", type := .int, accessFlags := 26, slot := 5, constantValue := 0 }, { name := "allowSecurityManager", type := .int, accessFlags := 10, slot := 6, constantValue := 0 }, { name := "security", type := (.object "java/lang/SecurityManager"), accessFlags := 74, slot := 7, constantValue := 0 }, { name := "notSupportedJnuEncoding", type := (.object "java/lang/String"), accessFlags := 10, slot := 8, constantValue := 0 }, { name := "cons", type := (.object "java/io/Console"), accessFlags := 74, slot := 9, constantValue := 0 }, { name := "initialErrStream", type := (.object "java/io/PrintStream"), accessFlags := 74, slot := 10, constantValue := 0 }, { name := "props", type := (.object "java/util/Properties"), accessFlags := 10, slot := 11, constantValue := 0 }, { name := "lineSeparator", type := (.object "java/lang/String"), accessFlags := 10, slot := 12, constantValue := 0 }, { name := "bootLayer", type := (.object "java/lang/ModuleLayer"), accessFlags := 8, slot := 13, constantValue := 0 }]
  methods := #[k14m0, k14m1]
  instanceTypes := #[]
  staticTypes := #[(.object "java/io/InputStream"), (.object "java/io/PrintStream"), (.object "java/io/PrintStream"), (.object "java/io/InputStream"), .int, .int, .int, (.object "java/lang/SecurityManager"), (.object "java/lang/String"), (.object "java/io/Console"), (.object "java/io/PrintStream"), (.object "java/util/Properties"), (.object "java/lang/String"), (.object "java/lang/ModuleLayer")]
  resolved := Array.replicate 834 none
  statics := none }

def pool15 : Array CpInfo := pool [(9, u "<init>"), (6, .class_ 18), (1, u "java/lang/Object"), (0, u "()V"), (1, .class_ 23), (1, u "jdk/internal/util/ArraysSupport"), (0, u "LOG2_ARRAY_LONG_INDEX_SCALE"), (0, u "I"), (2, u "U"), (0, u "Ljdk/internal/misc/Unsafe;"), (8, u "BIG_ENDIAN"), (0, u "Z"), (8, u "LOG2_BYTE_BIT_SIZE"), (4, u "LOG2_ARRAY_INT_INDEX_SCALE"), (54, u "JLA"), (0, u "Ljdk/internal/access/JavaLangAccess;"), (11, u "LOG2_ARRAY_BOOLEAN_INDEX_SCALE"), (9, u "LOG2_ARRAY_BYTE_INDEX_SCALE"), (5, u "LOG2_ARRAY_CHAR_INDEX_SCALE"), (5, u "LOG2_ARRAY_SHORT_INDEX_SCALE"), (18, u "LOG2_ARRAY_FLOAT_INDEX_SCALE"), (24, u "LOG2_ARRAY_DOUBLE_INDEX_SCALE"), (89, u "T_BOOLEAN"), (2, u "T_CHAR"), (1, u "T_FLOAT"), (1, u "T_DOUBLE"), (1, u "T_BYTE"), (1, u "T_SHORT"), (1, u "T_INT"), (1, u "T_LONG"), (1, u "SOFT_MAX_ARRAY_LENGTH")] 83

def k15m0 : Method := { name := "<init>", desc := "()V", sig := { parameters := [], returnType := none }, accessFlags := 2, code := none }
/-- jdk/internal/util/ArraysSupport -/
def k15 : Class := { plain "jdk/internal/util/ArraysSupport" (some 0) with
  accessFlags := 33
  interfaces := #[]
  cf := some (fileOf pool15 21 #[] #[{ accessFlags := 2, nameIndex := 9, descriptorIndex := 19, attributes := #[] }] 33 16 #[] #[{ accessFlags := 24, nameIndex := 28, descriptorIndex := 29, attributes := #[] }, { accessFlags := 26, nameIndex := 38, descriptorIndex := 39, attributes := #[] }, { accessFlags := 25, nameIndex := 121, descriptorIndex := 25, attributes := #[] }, { accessFlags := 25, nameIndex := 131, descriptorIndex := 25, attributes := #[] }, { accessFlags := 25, nameIndex := 137, descriptorIndex := 25, attributes := #[] }, { accessFlags := 25, nameIndex := 143, descriptorIndex := 25, attributes := #[] }, { accessFlags := 25, nameIndex := 53, descriptorIndex := 25, attributes := #[] }, { accessFlags := 25, nameIndex := 24, descriptorIndex := 25, attributes := #[] }, { accessFlags := 25, nameIndex := 162, descriptorIndex := 25, attributes := #[] }, { accessFlags := 25, nameIndex := 187, descriptorIndex := 25, attributes := #[] }, { accessFlags := 26, nameIndex := 48, descriptorIndex := 25, attributes := #[] }, { accessFlags := 25, nameIndex := 277, descriptorIndex := 25, attributes := #[] }, { accessFlags := 25, nameIndex := 280, descriptorIndex := 25, attributes := #[] }, { accessFlags := 25, nameIndex := 282, descriptorIndex := 25, attributes := #[] }, { accessFlags := 25, nameIndex := 284, descriptorIndex := 25, attributes := #[] }, { accessFlags := 25, nameIndex := 286, descriptorIndex := 25, attributes := #[] }, { accessFlags := 25, nameIndex := 288, descriptorIndex := 25, attributes := #[] }, { accessFlags := 25, nameIndex := 290, descriptorIndex := 25, attributes := #[] }, { accessFlags := 25, nameIndex := 292, descriptorIndex := 25, attributes := #[] }, { accessFlags := 26, nameIndex := 108, descriptorIndex := 109, attributes := #[] }, { accessFlags := 25, nameIndex := 294, descriptorIndex := 25, attributes := #[] }])
  fields := #[{ name := "U", type := (.object "jdk/internal/misc/Unsafe"), accessFlags := 24, slot := 0, constantValue := 0 }, { name := "BIG_ENDIAN", type := .boolean, accessFlags := 26, slot := 1, constantValue := 0 }, { name := "LOG2_ARRAY_BOOLEAN_INDEX_SCALE", type := .int, accessFlags := 25, slot := 2, constantValue := 0 }, { name := "LOG2_ARRAY_BYTE_INDEX_SCALE", type := .int, accessFlags := 25, slot := 3, constantValue := 0 }, { name := "LOG2_ARRAY_CHAR_INDEX_SCALE", type := .int, accessFlags := 25, slot := 4, constantValue := 0 }, { name := "LOG2_ARRAY_SHORT_INDEX_SCALE", type := .int, accessFlags := 25, slot := 5, constantValue := 0 }, { name := "LOG2_ARRAY_INT_INDEX_SCALE", type := .int, accessFlags := 25, slot := 6, constantValue := 0 }, { name := "LOG2_ARRAY_LONG_INDEX_SCALE", type := .int, accessFlags := 25, slot := 7, constantValue := 0 }, { name := "LOG2_ARRAY_FLOAT_INDEX_SCALE", type := .int, accessFlags := 25, slot := 8, constantValue := 0 }, { name := "LOG2_ARRAY_DOUBLE_INDEX_SCALE", type := .int, accessFlags := 25, slot := 9, constantValue := 0 }, { name := "LOG2_BYTE_BIT_SIZE", type := .int, accessFlags := 26, slot := 10, constantValue := 0 }, { name := "T_BOOLEAN", type := .int, accessFlags := 25, slot := 11, constantValue := 0 }, { name := "T_CHAR", type := .int, accessFlags := 25, slot := 12, constantValue := 0 }, { name := "T_FLOAT", type := .int, accessFlags := 25, slot := 13, constantValue := 0 }, { name := "T_DOUBLE", type := .int, accessFlags := 25, slot := 14, constantValue := 0 }, { name := "T_BYTE", type := .int, accessFlags := 25, slot := 15, constantValue := 0 }, { name := "T_SHORT", type := .int, accessFlags := 25, slot := 16, constantValue := 0 }, { name := "T_INT", type := .int, accessFlags := 25, slot := 17, constantValue := 0 }, { name := "T_LONG", type := .int, accessFlags := 25, slot := 18, constantValue := 0 }, { name := "JLA", type := (.object "jdk/internal/access/JavaLangAccess"), accessFlags := 26, slot := 19, constantValue := 0 }, { name := "SOFT_MAX_ARRAY_LENGTH", type := .int, accessFlags := 25, slot := 20, constantValue := 0 }]
  methods := #[k15m0]
  instanceTypes := #[]
  staticTypes := #[(.object "jdk/internal/misc/Unsafe"), .boolean, .int, .int, .int, .int, .int, .int, .int, .int, .int, .int, .int, .int, .int, .int, .int, .int, .int, (.object "jdk/internal/access/JavaLangAccess"), .int]
  resolved := Array.replicate 378 none
  statics := none }

def pool16 : Array CpInfo := pool [(1, u "java/lang/Cloneable"), (0, .class_ 1), (0, u "java/lang/Object"), (0, .class_ 3)] 3

/-- java/lang/Cloneable -/
def k16 : Class := { plain "java/lang/Cloneable" (some 0) with
  accessFlags := 1537
  interfaces := #[]
  cf := some (fileOf pool16 2 #[] #[] 1537 4 #[] #[])
  fields := #[]
  methods := #[]
  instanceTypes := #[]
  staticTypes := #[]
  resolved := Array.replicate 8 none
  statics := none }

/-- the primitive byte -/
def k17 : Class := { plain "byte" none with kind := .primitive 'B', accessFlags := 0x411 }
/-- [B -/
def k18 : Class := { plain "[B" (some 0) with kind := .array 17 .byte, interfaces := #[16, 2], accessFlags := 1041 }

/-- the primitive char -/
def k19 : Class := { plain "char" none with kind := .primitive 'C', accessFlags := 0x411 }
/-- [C -/
def k20 : Class := { plain "[C" (some 0) with kind := .array 19 .char, interfaces := #[16, 2], accessFlags := 1041 }

/-- the primitive int -/
def k21 : Class := { plain "int" none with kind := .primitive 'I', accessFlags := 0x411 }
/-- [I -/
def k22 : Class := { plain "[I" (some 0) with kind := .array 21 .int, interfaces := #[16, 2], accessFlags := 1041 }

def heap : Heap := #[{ cls := 7, slots := #[.long 0, .int 1, .null, .int 0, .null, .int 0, .int 0], vm := .statics 7 },
  { cls := 12, slots := #[.null, .null, .null], vm := .statics 12 }]
def classes : Array Class := #[k0, k1, k2, k3, k4, k5, k6, k7, k8, k9, k10, k11, k12, k13, k14, k15, k16, k17, k18, k19, k20, k21, k22]
def interned : List (Array UInt16 × Addr) := []
def slotsUsed : Nat := 10
def theMethod : MethodId := ⟨1, 3⟩
def args0 : Array Value := #[.int 3, .int 1, .int 2, .int 3, .int 4]
def aboutOver (below : List Frame) : State where
  vm := { classes := classes, interned := interned.toArray }
  heap := heap
  slotsUsed := slotsUsed
  threads := #[{ frames := .invoking theMethod args0 :: below }]
def below0 : List Frame := [.native { method := ⟨0, 0⟩, args := #[] }]
def about1 : State := aboutOver below0
def p0 : Program := .bare "" "" ""
def e0 : Env := launch0.env 0 0 0
theorem w_frames : about1.frames = Frame.invoking theMethod args0 :: below0 := rfl
set_option maxRecDepth 65536 in
theorem w_args : argsFit about1.vm theMethod args0 = true := by decide +kernel
set_option maxRecDepth 65536 in
theorem w_heap : heapFits about1 = true := by decide +kernel
set_option maxRecDepth 65536 in
theorem w_runnable : about1.curStatus? = some .runnable := by decide +kernel
set_option maxRecDepth 65536 in
theorem w_alone : about1.alone = true := by decide +kernel
set_option maxRecDepth 65536 in
theorem w_named : about1.methodNamed? x = some theMethod := by decide +kernel
set_option maxRecDepth 65536 in
theorem w_hears : about1.hears theMethod below0 = true := by decide +kernel
set_option maxRecDepth 65536 in
theorem w_ripe : about1.ripe theMethod args0 below0 = true := by decide +kernel
theorem w_running : about1.status = .running := rfl
set_option maxRecDepth 65536 in
theorem w_room : about1.hasRoom e0.platform room_1 = true :=
  launch0.hasRoom_least _ room_1 (by decide +kernel) (by decide +kernel) (by decide +kernel) (by decide +kernel) (by decide +kernel) (by decide +kernel)
theorem allAtoms_all (ts : List Jvm.Cond) (a : Array Jvm.Value) (st : Jvm.State) : (allAtoms ts).before a st = ts.all (fun c => c.before a st) := by
  induction ts with
  | nil => rfl
  | cons c t ih =>
    show (Jvm.Cond.and c (allAtoms t)).before a st = _
    rw [Jvm.Cond.before_and, ih, List.all_cons]
def words1 : List Jvm.Cond := Jvm.Cond.code x code maxLocals ret :: tables_1
/-- a 'code' word, met by the world's own term for the bytes: nothing is compared byte by byte -/
theorem code_word {y : MethodName} {bytes : ByteArray} {mx : Nat} {rt : Option FieldType} {a : Array Value} {s : State} {m : MethodId} {meth : Method} {c : Code} (h1 : s.methodNamed? y = some m) (h2 : s.vm.method? m = some meth) (h3 : meth.code = some c) (h4 : c.code = bytes)
    (h5 : (c.maxLocals == mx && c.exceptionTable.isEmpty && decide (c.maxStack ≤ mostOperands) && decide (meth.sig.returnType = rt) && !meth.locks && decide (parseMethodDescriptor y.desc = some meth.sig)) = true) : (Jvm.Cond.code y bytes mx rt).before a s = true := by
  simp only [Bool.and_eq_true, beq_iff_eq, Bool.not_eq_true', decide_eq_true_eq] at h5
  obtain ⟨⟨⟨⟨⟨g1, g2⟩, g3⟩, g4⟩, g5⟩, g6⟩ := h5
  simp [Cond.before, Cond.holds, Cond.value, h1, h2, h3, h4, g1, g2, g3, g4, g5, g6]
def isCode : Jvm.Cond → Bool
  | .code _ _ _ _ => true
  | _ => false
theorem all_split {L : List Jvm.Cond} {P : Jvm.Cond → Bool} (h1 : L.all (fun c => isCode c || P c) = true) (h2 : ∀ c ∈ L.filter isCode, P c = true) : L.all P = true := by
  refine List.all_eq_true.mpr fun c hc => ?_
  have h := List.all_eq_true.mp h1 c hc
  rcases Bool.eq_false_or_eq_true (isCode c) with hi | hi
  · exact h2 c (List.mem_filter.mpr ⟨hc, hi⟩)
  · simpa [hi] using h
set_option maxRecDepth 65536 in
theorem w_c0 : (Jvm.Cond.code x code maxLocals ret).before args0 about1 = true := code_word (m := ⟨1, 3⟩) (meth := k1m3) (c := k1c3) (by decide +kernel) rfl rfl rfl (by decide +kernel)
set_option maxRecDepth 65536 in
theorem w_c1 : (Jvm.Cond.code ({ cls := "com/example/leafwright/leafwright/ReferencesFragmentPinLaw", name := "draw", desc := "(I)C" } : Jvm.MethodName) method_2_code (1 : Nat) (Option.some Jvm.ClassFile.FieldType.char)).before args0 about1 = true := code_word (m := ⟨1, 1⟩) (meth := k1m1) (c := k1c1) (by decide +kernel) rfl rfl rfl (by decide +kernel)
set_option maxRecDepth 65536 in
theorem w_c2 : (Jvm.Cond.code ({ cls := "com/example/leafwright/leafwright/ReferencesFragmentPinLaw", name := "make", desc := "(ICCCC)Ljava/lang/String;" } : Jvm.MethodName) method_3_code (5 : Nat) (Option.some (Jvm.ClassFile.FieldType.object "java/lang/String"))).before args0 about1 = true := code_word (m := ⟨1, 2⟩) (meth := k1m2) (c := k1c2) (by decide +kernel) rfl rfl rfl (by decide +kernel)
set_option maxRecDepth 65536 in
theorem w_c3 : (Jvm.Cond.code ({ cls := "java/lang/String", name := "<init>", desc := "([C)V" } : Jvm.MethodName) jdk_42_method_3_code (2 : Nat) (Option.none : Option Jvm.ClassFile.FieldType)).before args0 about1 = true := code_word (m := ⟨7, 1⟩) (meth := k7m1) (c := k7c1) (by decide +kernel) rfl rfl rfl (by decide +kernel)
set_option maxRecDepth 65536 in
theorem w_c4 : (Jvm.Cond.code ({ cls := "java/lang/String", name := "<init>", desc := "([CIILjava/lang/Void;)V" } : Jvm.MethodName) jdk_42_method_149_code (6 : Nat) (Option.none : Option Jvm.ClassFile.FieldType)).before args0 about1 = true := code_word (m := ⟨7, 8⟩) (meth := k7m8) (c := k7c8) (by decide +kernel) rfl rfl rfl (by decide +kernel)
set_option maxRecDepth 65536 in
theorem w_c5 : (Jvm.Cond.code ({ cls := "java/lang/Object", name := "<init>", desc := "()V" } : Jvm.MethodName) object_method_1_code (1 : Nat) (Option.none : Option Jvm.ClassFile.FieldType)).before args0 about1 = true := code_word (m := ⟨0, 0⟩) (meth := k0m0) (c := k0c0) (by decide +kernel) rfl rfl rfl (by decide +kernel)
set_option maxRecDepth 65536 in
theorem w_c6 : (Jvm.Cond.code ({ cls := "com/example/leafwright/leafwright/References", name := "fragment", desc := "(Ljava/lang/String;)Ljava/lang/String;" } : Jvm.MethodName) prog_28_method_4_code (2 : Nat) (Option.some (Jvm.ClassFile.FieldType.object "java/lang/String"))).before args0 about1 = true := code_word (m := ⟨8, 1⟩) (meth := k8m1) (c := k8c1) (by decide +kernel) rfl rfl rfl (by decide +kernel)
set_option maxRecDepth 65536 in
theorem w_c7 : (Jvm.Cond.code ({ cls := "java/lang/String", name := "indexOf", desc := "(I)I" } : Jvm.MethodName) jdk_42_method_79_code (2 : Nat) (Option.some Jvm.ClassFile.FieldType.int)).before args0 about1 = true := code_word (m := ⟨7, 4⟩) (meth := k7m4) (c := k7c4) (by decide +kernel) rfl rfl rfl (by decide +kernel)
set_option maxRecDepth 65536 in
theorem w_c8 : (Jvm.Cond.code ({ cls := "java/lang/String", name := "indexOf", desc := "(II)I" } : Jvm.MethodName) jdk_42_method_80_code (3 : Nat) (Option.some Jvm.ClassFile.FieldType.int)).before args0 about1 = true := code_word (m := ⟨7, 5⟩) (meth := k7m5) (c := k7c5) (by decide +kernel) rfl rfl rfl (by decide +kernel)
set_option maxRecDepth 65536 in
theorem w_c9 : (Jvm.Cond.code ({ cls := "java/lang/String", name := "isLatin1", desc := "()Z" } : Jvm.MethodName) jdk_42_method_154_code (1 : Nat) (Option.some Jvm.ClassFile.FieldType.boolean)).before args0 about1 = true := code_word (m := ⟨7, 11⟩) (meth := k7m11) (c := k7c11) (by decide +kernel) rfl rfl rfl (by decide +kernel)
set_option maxRecDepth 65536 in
theorem w_c10 : (Jvm.Cond.code ({ cls := "java/lang/String", name := "length", desc := "()I" } : Jvm.MethodName) jdk_42_method_54_code (1 : Nat) (Option.some Jvm.ClassFile.FieldType.int)).before args0 about1 = true := code_word (m := ⟨7, 2⟩) (meth := k7m2) (c := k7c2) (by decide +kernel) rfl rfl rfl (by decide +kernel)
set_option maxRecDepth 65536 in
theorem w_c11 : (Jvm.Cond.code ({ cls := "java/lang/String", name := "coder", desc := "()B" } : Jvm.MethodName) jdk_42_method_152_code (1 : Nat) (Option.some Jvm.ClassFile.FieldType.byte)).before args0 about1 = true := code_word (m := ⟨7, 10⟩) (meth := k7m10) (c := k7c10) (by decide +kernel) rfl rfl rfl (by decide +kernel)
set_option maxRecDepth 65536 in
theorem w_c12 : (Jvm.Cond.code ({ cls := "java/lang/StringLatin1", name := "indexOf", desc := "([BIII)I" } : Jvm.MethodName) jdk_43_method_22_code (4 : Nat) (Option.some Jvm.ClassFile.FieldType.int)).before args0 about1 = true := code_word (m := ⟨9, 3⟩) (meth := k9m3) (c := k9c3) (by decide +kernel) rfl rfl rfl (by decide +kernel)
set_option maxRecDepth 65536 in
theorem w_c13 : (Jvm.Cond.code ({ cls := "java/lang/StringLatin1", name := "canEncode", desc := "(I)Z" } : Jvm.MethodName) jdk_43_method_4_code (1 : Nat) (Option.some Jvm.ClassFile.FieldType.boolean)).before args0 about1 = true := code_word (m := ⟨9, 2⟩) (meth := k9m2) (c := k9c2) (by decide +kernel) rfl rfl rfl (by decide +kernel)
set_option maxRecDepth 65536 in
theorem w_c14 : (Jvm.Cond.code ({ cls := "java/lang/Math", name := "max", desc := "(II)I" } : Jvm.MethodName) jdk_29_method_65_code (2 : Nat) (Option.some Jvm.ClassFile.FieldType.int)).before args0 about1 = true := code_word (m := ⟨10, 1⟩) (meth := k10m1) (c := k10c1) (by decide +kernel) rfl rfl rfl (by decide +kernel)
set_option maxRecDepth 65536 in
theorem w_c15 : (Jvm.Cond.code ({ cls := "java/lang/Math", name := "min", desc := "(II)I" } : Jvm.MethodName) jdk_29_method_69_code (2 : Nat) (Option.some Jvm.ClassFile.FieldType.int)).before args0 about1 = true := code_word (m := ⟨10, 2⟩) (meth := k10m2) (c := k10c2) (by decide +kernel) rfl rfl rfl (by decide +kernel)
set_option maxRecDepth 65536 in
theorem w_c16 : (Jvm.Cond.code ({ cls := "java/lang/StringUTF16", name := "compress", desc := "([CII)[B" } : Jvm.MethodName) jdk_52_method_16_code (6 : Nat) (Option.some (Jvm.ClassFile.FieldType.array Jvm.ClassFile.FieldType.byte))).before args0 about1 = true := code_word (m := ⟨11, 2⟩) (meth := k11m2) (c := k11c2) (by decide +kernel) rfl rfl rfl (by decide +kernel)
set_option maxRecDepth 65536 in
theorem w_c17 : (Jvm.Cond.code ({ cls := "java/lang/StringUTF16", name := "compress", desc := "([CI[BII)I" } : Jvm.MethodName) jdk_52_method_21_code (7 : Nat) (Option.some Jvm.ClassFile.FieldType.int)).before args0 about1 = true := code_word (m := ⟨11, 3⟩) (meth := k11m3) (c := k11c3) (by decide +kernel) rfl rfl rfl (by decide +kernel)
set_option maxRecDepth 65536 in
theorem w_c18 : (Jvm.Cond.code ({ cls := "java/lang/StringUTF16", name := "coderFromArrayLen", desc := "([BI)B" } : Jvm.MethodName) jdk_52_method_15_code (2 : Nat) (Option.some Jvm.ClassFile.FieldType.byte)).before args0 about1 = true := code_word (m := ⟨11, 1⟩) (meth := k11m1) (c := k11c1) (by decide +kernel) rfl rfl rfl (by decide +kernel)
set_option maxRecDepth 65536 in
theorem w_c19 : (Jvm.Cond.code ({ cls := "java/lang/StringLatin1", name := "indexOfChar", desc := "([BIII)I" } : Jvm.MethodName) jdk_43_method_23_code (6 : Nat) (Option.some Jvm.ClassFile.FieldType.int)).before args0 about1 = true := code_word (m := ⟨9, 4⟩) (meth := k9m4) (c := k9c4) (by decide +kernel) rfl rfl rfl (by decide +kernel)
set_option maxRecDepth 65536 in
theorem w_c20 : (Jvm.Cond.code ({ cls := "java/lang/String", name := "substring", desc := "(I)Ljava/lang/String;" } : Jvm.MethodName) jdk_42_method_91_code (2 : Nat) (Option.some (Jvm.ClassFile.FieldType.object "java/lang/String"))).before args0 about1 = true := code_word (m := ⟨7, 6⟩) (meth := k7m6) (c := k7c6) (by decide +kernel) rfl rfl rfl (by decide +kernel)
set_option maxRecDepth 65536 in
theorem w_c21 : (Jvm.Cond.code ({ cls := "java/lang/String", name := "substring", desc := "(II)Ljava/lang/String;" } : Jvm.MethodName) jdk_42_method_92_code (5 : Nat) (Option.some (Jvm.ClassFile.FieldType.object "java/lang/String"))).before args0 about1 = true := code_word (m := ⟨7, 7⟩) (meth := k7m7) (c := k7c7) (by decide +kernel) rfl rfl rfl (by decide +kernel)
set_option maxRecDepth 65536 in
theorem w_c22 : (Jvm.Cond.code ({ cls := "java/lang/String", name := "checkBoundsBeginEnd", desc := "(III)V" } : Jvm.MethodName) jdk_42_method_158_code (3 : Nat) (Option.none : Option Jvm.ClassFile.FieldType)).before args0 about1 = true := code_word (m := ⟨7, 13⟩) (meth := k7m13) (c := k7c13) (by decide +kernel) rfl rfl rfl (by decide +kernel)
set_option maxRecDepth 65536 in
theorem w_c23 : (Jvm.Cond.code ({ cls := "jdk/internal/util/Preconditions", name := "checkFromToIndex", desc := "(IIILjava/util/function/BiFunction;)I" } : Jvm.MethodName) jdk_41_method_12_code (4 : Nat) (Option.some Jvm.ClassFile.FieldType.int)).before args0 about1 = true := code_word (m := ⟨12, 2⟩) (meth := k12m2) (c := k12c2) (by decide +kernel) rfl rfl rfl (by decide +kernel)
set_option maxRecDepth 65536 in
theorem w_c24 : (Jvm.Cond.code ({ cls := "java/lang/StringLatin1", name := "newString", desc := "([BII)Ljava/lang/String;" } : Jvm.MethodName) jdk_43_method_47_code (3 : Nat) (Option.some (Jvm.ClassFile.FieldType.object "java/lang/String"))).before args0 about1 = true := code_word (m := ⟨9, 5⟩) (meth := k9m5) (c := k9c5) (by decide +kernel) rfl rfl rfl (by decide +kernel)
set_option maxRecDepth 65536 in
theorem w_c25 : (Jvm.Cond.code ({ cls := "java/util/Arrays", name := "copyOfRange", desc := "([BII)[B" } : Jvm.MethodName) jdk_65_method_132_code (3 : Nat) (Option.some (Jvm.ClassFile.FieldType.array Jvm.ClassFile.FieldType.byte))).before args0 about1 = true := code_word (m := ⟨13, 2⟩) (meth := k13m2) (c := k13c2) (by decide +kernel) rfl rfl rfl (by decide +kernel)
set_option maxRecDepth 65536 in
theorem w_c26 : (Jvm.Cond.code ({ cls := "java/util/Arrays", name := "copyOfRangeByte", desc := "([BII)[B" } : Jvm.MethodName) jdk_65_method_133_code (5 : Nat) (Option.some (Jvm.ClassFile.FieldType.array Jvm.ClassFile.FieldType.byte))).before args0 about1 = true := code_word (m := ⟨13, 3⟩) (meth := k13m3) (c := k13c3) (by decide +kernel) rfl rfl rfl (by decide +kernel)
set_option maxRecDepth 65536 in
theorem w_c27 : (Jvm.Cond.code ({ cls := "java/util/Arrays", name := "checkLength", desc := "(II)V" } : Jvm.MethodName) jdk_65_method_131_code (2 : Nat) (Option.none : Option Jvm.ClassFile.FieldType)).before args0 about1 = true := code_word (m := ⟨13, 1⟩) (meth := k13m1) (c := k13c1) (by decide +kernel) rfl rfl rfl (by decide +kernel)
set_option maxRecDepth 65536 in
theorem w_c28 : (Jvm.Cond.code ({ cls := "java/lang/String", name := "<init>", desc := "([BB)V" } : Jvm.MethodName) jdk_42_method_151_code (3 : Nat) (Option.none : Option Jvm.ClassFile.FieldType)).before args0 about1 = true := code_word (m := ⟨7, 9⟩) (meth := k7m9) (c := k7c9) (by decide +kernel) rfl rfl rfl (by decide +kernel)
set_option maxRecDepth 65536 in
theorem w_c29 : (Jvm.Cond.code ({ cls := "java/lang/String", name := "charAt", desc := "(I)C" } : Jvm.MethodName) jdk_42_method_56_code (2 : Nat) (Option.some Jvm.ClassFile.FieldType.char)).before args0 about1 = true := code_word (m := ⟨7, 3⟩) (meth := k7m3) (c := k7c3) (by decide +kernel) rfl rfl rfl (by decide +kernel)
set_option maxRecDepth 65536 in
theorem w_c30 : (Jvm.Cond.code ({ cls := "java/lang/StringLatin1", name := "charAt", desc := "([BI)C" } : Jvm.MethodName) jdk_43_method_2_code (2 : Nat) (Option.some Jvm.ClassFile.FieldType.char)).before args0 about1 = true := code_word (m := ⟨9, 1⟩) (meth := k9m1) (c := k9c1) (by decide +kernel) rfl rfl rfl (by decide +kernel)
set_option maxRecDepth 65536 in
theorem w_c31 : (Jvm.Cond.code ({ cls := "java/lang/String", name := "checkIndex", desc := "(II)V" } : Jvm.MethodName) jdk_42_method_155_code (2 : Nat) (Option.none : Option Jvm.ClassFile.FieldType)).before args0 about1 = true := code_word (m := ⟨7, 12⟩) (meth := k7m12) (c := k7c12) (by decide +kernel) rfl rfl rfl (by decide +kernel)
set_option maxRecDepth 65536 in
theorem w_c32 : (Jvm.Cond.code ({ cls := "jdk/internal/util/Preconditions", name := "checkIndex", desc := "(IILjava/util/function/BiFunction;)I" } : Jvm.MethodName) jdk_41_method_11_code (3 : Nat) (Option.some Jvm.ClassFile.FieldType.int)).before args0 about1 = true := code_word (m := ⟨12, 1⟩) (meth := k12m1) (c := k12c1) (by decide +kernel) rfl rfl rfl (by decide +kernel)
def codes1 : List Jvm.Cond := [Jvm.Cond.code x code maxLocals ret, Jvm.Cond.code ({ cls := "com/example/leafwright/leafwright/ReferencesFragmentPinLaw", name := "draw", desc := "(I)C" } : Jvm.MethodName) method_2_code (1 : Nat) (Option.some Jvm.ClassFile.FieldType.char), Jvm.Cond.code ({ cls := "com/example/leafwright/leafwright/ReferencesFragmentPinLaw", name := "make", desc := "(ICCCC)Ljava/lang/String;" } : Jvm.MethodName) method_3_code (5 : Nat) (Option.some (Jvm.ClassFile.FieldType.object "java/lang/String")), Jvm.Cond.code ({ cls := "java/lang/String", name := "<init>", desc := "([C)V" } : Jvm.MethodName) jdk_42_method_3_code (2 : Nat) (Option.none : Option Jvm.ClassFile.FieldType), Jvm.Cond.code ({ cls := "java/lang/String", name := "<init>", desc := "([CIILjava/lang/Void;)V" } : Jvm.MethodName) jdk_42_method_149_code (6 : Nat) (Option.none : Option Jvm.ClassFile.FieldType), Jvm.Cond.code ({ cls := "java/lang/Object", name := "<init>", desc := "()V" } : Jvm.MethodName) object_method_1_code (1 : Nat) (Option.none : Option Jvm.ClassFile.FieldType), Jvm.Cond.code ({ cls := "com/example/leafwright/leafwright/References", name := "fragment", desc := "(Ljava/lang/String;)Ljava/lang/String;" } : Jvm.MethodName) prog_28_method_4_code (2 : Nat) (Option.some (Jvm.ClassFile.FieldType.object "java/lang/String")), Jvm.Cond.code ({ cls := "java/lang/String", name := "indexOf", desc := "(I)I" } : Jvm.MethodName) jdk_42_method_79_code (2 : Nat) (Option.some Jvm.ClassFile.FieldType.int), Jvm.Cond.code ({ cls := "java/lang/String", name := "indexOf", desc := "(II)I" } : Jvm.MethodName) jdk_42_method_80_code (3 : Nat) (Option.some Jvm.ClassFile.FieldType.int), Jvm.Cond.code ({ cls := "java/lang/String", name := "isLatin1", desc := "()Z" } : Jvm.MethodName) jdk_42_method_154_code (1 : Nat) (Option.some Jvm.ClassFile.FieldType.boolean), Jvm.Cond.code ({ cls := "java/lang/String", name := "length", desc := "()I" } : Jvm.MethodName) jdk_42_method_54_code (1 : Nat) (Option.some Jvm.ClassFile.FieldType.int), Jvm.Cond.code ({ cls := "java/lang/String", name := "coder", desc := "()B" } : Jvm.MethodName) jdk_42_method_152_code (1 : Nat) (Option.some Jvm.ClassFile.FieldType.byte), Jvm.Cond.code ({ cls := "java/lang/StringLatin1", name := "indexOf", desc := "([BIII)I" } : Jvm.MethodName) jdk_43_method_22_code (4 : Nat) (Option.some Jvm.ClassFile.FieldType.int), Jvm.Cond.code ({ cls := "java/lang/StringLatin1", name := "canEncode", desc := "(I)Z" } : Jvm.MethodName) jdk_43_method_4_code (1 : Nat) (Option.some Jvm.ClassFile.FieldType.boolean), Jvm.Cond.code ({ cls := "java/lang/Math", name := "max", desc := "(II)I" } : Jvm.MethodName) jdk_29_method_65_code (2 : Nat) (Option.some Jvm.ClassFile.FieldType.int), Jvm.Cond.code ({ cls := "java/lang/Math", name := "min", desc := "(II)I" } : Jvm.MethodName) jdk_29_method_69_code (2 : Nat) (Option.some Jvm.ClassFile.FieldType.int), Jvm.Cond.code ({ cls := "java/lang/StringUTF16", name := "compress", desc := "([CII)[B" } : Jvm.MethodName) jdk_52_method_16_code (6 : Nat) (Option.some (Jvm.ClassFile.FieldType.array Jvm.ClassFile.FieldType.byte)), Jvm.Cond.code ({ cls := "java/lang/StringUTF16", name := "compress", desc := "([CI[BII)I" } : Jvm.MethodName) jdk_52_method_21_code (7 : Nat) (Option.some Jvm.ClassFile.FieldType.int), Jvm.Cond.code ({ cls := "java/lang/StringUTF16", name := "coderFromArrayLen", desc := "([BI)B" } : Jvm.MethodName) jdk_52_method_15_code (2 : Nat) (Option.some Jvm.ClassFile.FieldType.byte), Jvm.Cond.code ({ cls := "java/lang/StringLatin1", name := "indexOfChar", desc := "([BIII)I" } : Jvm.MethodName) jdk_43_method_23_code (6 : Nat) (Option.some Jvm.ClassFile.FieldType.int), Jvm.Cond.code ({ cls := "java/lang/String", name := "substring", desc := "(I)Ljava/lang/String;" } : Jvm.MethodName) jdk_42_method_91_code (2 : Nat) (Option.some (Jvm.ClassFile.FieldType.object "java/lang/String")), Jvm.Cond.code ({ cls := "java/lang/String", name := "substring", desc := "(II)Ljava/lang/String;" } : Jvm.MethodName) jdk_42_method_92_code (5 : Nat) (Option.some (Jvm.ClassFile.FieldType.object "java/lang/String")), Jvm.Cond.code ({ cls := "java/lang/String", name := "checkBoundsBeginEnd", desc := "(III)V" } : Jvm.MethodName) jdk_42_method_158_code (3 : Nat) (Option.none : Option Jvm.ClassFile.FieldType), Jvm.Cond.code ({ cls := "jdk/internal/util/Preconditions", name := "checkFromToIndex", desc := "(IIILjava/util/function/BiFunction;)I" } : Jvm.MethodName) jdk_41_method_12_code (4 : Nat) (Option.some Jvm.ClassFile.FieldType.int), Jvm.Cond.code ({ cls := "java/lang/StringLatin1", name := "newString", desc := "([BII)Ljava/lang/String;" } : Jvm.MethodName) jdk_43_method_47_code (3 : Nat) (Option.some (Jvm.ClassFile.FieldType.object "java/lang/String")), Jvm.Cond.code ({ cls := "java/util/Arrays", name := "copyOfRange", desc := "([BII)[B" } : Jvm.MethodName) jdk_65_method_132_code (3 : Nat) (Option.some (Jvm.ClassFile.FieldType.array Jvm.ClassFile.FieldType.byte)), Jvm.Cond.code ({ cls := "java/util/Arrays", name := "copyOfRangeByte", desc := "([BII)[B" } : Jvm.MethodName) jdk_65_method_133_code (5 : Nat) (Option.some (Jvm.ClassFile.FieldType.array Jvm.ClassFile.FieldType.byte)), Jvm.Cond.code ({ cls := "java/util/Arrays", name := "checkLength", desc := "(II)V" } : Jvm.MethodName) jdk_65_method_131_code (2 : Nat) (Option.none : Option Jvm.ClassFile.FieldType), Jvm.Cond.code ({ cls := "java/lang/String", name := "<init>", desc := "([BB)V" } : Jvm.MethodName) jdk_42_method_151_code (3 : Nat) (Option.none : Option Jvm.ClassFile.FieldType), Jvm.Cond.code ({ cls := "java/lang/String", name := "charAt", desc := "(I)C" } : Jvm.MethodName) jdk_42_method_56_code (2 : Nat) (Option.some Jvm.ClassFile.FieldType.char), Jvm.Cond.code ({ cls := "java/lang/StringLatin1", name := "charAt", desc := "([BI)C" } : Jvm.MethodName) jdk_43_method_2_code (2 : Nat) (Option.some Jvm.ClassFile.FieldType.char), Jvm.Cond.code ({ cls := "java/lang/String", name := "checkIndex", desc := "(II)V" } : Jvm.MethodName) jdk_42_method_155_code (2 : Nat) (Option.none : Option Jvm.ClassFile.FieldType), Jvm.Cond.code ({ cls := "jdk/internal/util/Preconditions", name := "checkIndex", desc := "(IILjava/util/function/BiFunction;)I" } : Jvm.MethodName) jdk_41_method_11_code (3 : Nat) (Option.some Jvm.ClassFile.FieldType.int)]
set_option maxRecDepth 65536 in
theorem codes_eq : words1.filter isCode = codes1 := rfl
theorem w_codes : ∀ c ∈ words1.filter isCode, c.before args0 about1 = true := by
  rw [codes_eq]
  intro c hc
  simp only [codes1, List.mem_cons, List.not_mem_nil, or_false] at hc
  rcases hc with rfl | rfl | rfl | rfl | rfl | rfl | rfl | rfl | rfl | rfl | rfl | rfl | rfl | rfl | rfl | rfl | rfl | rfl | rfl | rfl | rfl | rfl | rfl | rfl | rfl | rfl | rfl | rfl | rfl | rfl | rfl | rfl | rfl
  · exact w_c0
  · exact w_c1
  · exact w_c2
  · exact w_c3
  · exact w_c4
  · exact w_c5
  · exact w_c6
  · exact w_c7
  · exact w_c8
  · exact w_c9
  · exact w_c10
  · exact w_c11
  · exact w_c12
  · exact w_c13
  · exact w_c14
  · exact w_c15
  · exact w_c16
  · exact w_c17
  · exact w_c18
  · exact w_c19
  · exact w_c20
  · exact w_c21
  · exact w_c22
  · exact w_c23
  · exact w_c24
  · exact w_c25
  · exact w_c26
  · exact w_c27
  · exact w_c28
  · exact w_c29
  · exact w_c30
  · exact w_c31
  · exact w_c32
set_option maxRecDepth 65536 in
theorem w_t1 : (words1.take 24).all (fun c => isCode c || c.before args0 about1) = true := by decide +kernel
set_option maxRecDepth 65536 in
theorem w_t2 : ((words1.drop 24).take 24).all (fun c => isCode c || c.before args0 about1) = true := by decide +kernel
set_option maxRecDepth 65536 in
theorem w_t3 : (((words1.drop 24).drop 24).take 24).all (fun c => isCode c || c.before args0 about1) = true := by decide +kernel
set_option maxRecDepth 65536 in
theorem w_t4 : ((((words1.drop 24).drop 24).drop 24).take 24).all (fun c => isCode c || c.before args0 about1) = true := by decide +kernel
set_option maxRecDepth 65536 in
theorem w_t5 : (((((words1.drop 24).drop 24).drop 24).drop 24).take 24).all (fun c => isCode c || c.before args0 about1) = true := by decide +kernel
set_option maxRecDepth 65536 in
theorem w_t6 : (((((words1.drop 24).drop 24).drop 24).drop 24).drop 24).all (fun c => isCode c || c.before args0 about1) = true := by decide +kernel
theorem w_tables : (allAtoms (Jvm.Cond.code x code maxLocals ret :: tables_1)).before args0 about1 = true := by
  rw [allAtoms_all]
  show words1.all (fun c => c.before args0 about1) = true
  refine all_split ?_ w_codes
  rw [← List.take_append_drop 24 words1, List.all_append, w_t1, ← List.take_append_drop 24 (words1.drop 24), List.all_append, w_t2, ← List.take_append_drop 24 ((words1.drop 24).drop 24), List.all_append, w_t3, ← List.take_append_drop 24 (((words1.drop 24).drop 24).drop 24), List.all_append, w_t4, ← List.take_append_drop 24 ((((words1.drop 24).drop 24).drop 24).drop 24), List.all_append, w_t5, w_t6]
  rfl
set_option maxRecDepth 65536 in
theorem w_rest : rest_1_c.before args0 about1 = true := by decide +kernel
set_option maxRecDepth 65536 in
theorem w_case : (Jvm.Cond.and given_1 narrow_1).before args0 about1 = true := by decide +kernel
set_option maxRecDepth 65536 in
theorem w_consts : constsHeld consts_1 about1 := Jvm.Lit.constsHeldB_iff.mp (by decide +kernel)
theorem w_applies : (headSpec (Jvm.Cond.code x code maxLocals ret :: tables_1) room_1).applies x e0.platform about1 = true :=
  (Spec.applies_iff w_frames).mpr ⟨w_running, w_runnable, w_alone, w_named, w_hears, w_ripe, w_room, w_tables⟩
theorem atStart : AtStart classFile x code maxLocals ret World_1 tables_1 room_1 Calls_1 rest_1 Pre_1 launch0 p0 e0 about1 theMethod args0 below0 :=
  ⟨lists_1, trivial, launch0.admits_env _ _ _, launch0.least_env, fairChoices_fair.cas, fairChoices_fair.clock, w_frames, w_args, w_heap, w_applies, ⟨w_consts, trivial⟩, w_rest, w_case⟩
end start1
theorem witness_1 : WitnessClaimed_1 := ⟨start1.p0, start1.e0, start1.about1, start1.theMethod, start1.args0, start1.below0, start1.atStart⟩
end Jvm.Pilot.@@N@@
